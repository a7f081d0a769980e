import JvmDerived
import JvmDerived.Pilot.@@N@@Statement
import JvmDerived.Pilot.@@N@@Code
set_option linter.unusedVariables false
set_option linter.unusedSimpArgs false
namespace Jvm.RoadKit
open Sem ClassFile Op Lib Jvm.Stand Jvm.Free Jvm.LawKit
section New
variable {p : Program} {l : Launch} {e : Env} {R : Room} {s : State} {m : MethodId} {args : Array Value} {below : List Frame} {meth : Method} {c : Code} {T : State} {locs : List Loc} {cells slots : Nat}
theorem retI (X : Stand p l e R s m args below meth c T locs cells slots) (hx : p.tables.exec = Jvm.exec) {pc : Nat} {Ls : Array Slot} {z : Int32} {rest : List Value} (hret : meth.sig.returnType = some .int) (hd : decode c.code pc = .ok (.ireturn, 1)) {fs : List Frame}
    (hl : ∀ (f : JFrame) (acts : List Action), f.method = m → f.locked = none → f.entered = [] → (doReturn e (T.setTop f) acts (some (.int z))).1 = T.setFrames fs) : Steps p.tables e below (T.setTop (mkF m pc Ls (.int z :: rest))) (T.setFrames fs) := by
  have hm' : T.vm.method? m = some meth := X.method'
  have hn : narrow .int (.int z) = .int z := rfl
  show Steps p.tables e below (T.setTop { method := m, pc := pc, locals := Ls, stack := _ :: rest, locked := none }) _
  jvm_step X.here [X.here.top, hx, hd, hm', hret, hn]
  first | (intro acts; rw [hl _ acts rfl rfl rfl]) | rw [hl _ _ rfl rfl rfl]
  exact Steps.refl _
/-- from the state T with the frame g on top the run ends, returned, with Q -/
def own_Go (tb : Tables) (e : Env) (below : List Frame) (Q : Option Value → Heap → List Loc → Prop) (s : State) (C S : Nat) (T : State) (g : JFrame) : Prop :=
  ∃ t o, Steps tb e below (T.setTop g) t ∧ t.status = .running ∧ Ended t below o ∧ ∃ v L, o = .returned v ∧ Q v t.heap L ∧ FrameEnd s o t L C S
theorem own_by {tb : Tables} {Q : Option Value → Heap → List Loc → Prop} {C S : Nat} {T T' : State} {g g' : JFrame} (st : ∀ target, Steps tb e below (T'.setTop g') target → Steps tb e below (T.setTop g) target) (k : own_Go tb e below Q s C S T' g') : own_Go tb e below Q s C S T g := by
  obtain ⟨t, o, h1, h2⟩ := k
  exact ⟨t, o, st t h1, h2⟩
theorem bN {tb : Tables} {Q : Option Value → Heap → List Loc → Prop} {C S : Nat} {T : State} {g : JFrame} (T' : State) (g' : JFrame) (st : ∀ target, Steps tb e below (T'.setTop g') target → Steps tb e below (T.setTop g) target) (k : own_Go tb e below Q s C S T' g') : own_Go tb e below Q s C S T g := own_by st k
/-- the contract of a body: from the heap h0, with the arguments A, it returns, with Q -/
abbrev own_M (l : Launch) (y : MethodName) (code : ByteArray) (ml : Nat) (rt : Option FieldType) (ws : List Cond) (R : Room) (Z : State) (A : Array Value) (h0 : Heap) (Q : Option Value → Heap → List Loc → Prop) : Prop :=
  MetFree l y (head1 (Cond.code y code ml rt :: ws) R) (fun a U => a = A ∧ Z.Warmed39 U.vm ∧ U.heap = h0) (fun _ _ _ _ _ => True) (fun _ U o U' => ∃ v L, o = .returned v ∧ Q v U'.heap L ∧ FrameEnd U o U' L R.cells R.slots)
theorem own_bd {y : MethodName} {code : ByteArray} {ml : Nat} {rt : Option FieldType} {ws : List Cond} {Z : State} {A : Array Value} {h0 : Heap} {Q : Option Value → Heap → List Loc → Prop} (hpl : plainFor y = true)
    (k : ∀ p e s m below meth c s₁, BodyLoose p l y (head1 (Cond.code y code ml rt :: ws) R) code ml rt e s m A below meth c s₁ → p.tables.exec = Jvm.exec → c.code = code → c.maxLocals = ml → s.vm.findClass y.cls = some m.cls → meth.name = y.name → meth.locks = false → Z.Warmed39 s.vm → Stand p l e R s m A below meth c s₁ [] 0 0 → s₁.heap = h0 → own_Go p.tables e below Q s R.cells R.slots s₁ (entryFrame m A ml)) : own_M l y code ml rt ws R Z A h0 Q := by
  refine MetFree.of_bodySF hpl hisR ?_
  intro p e s m args below meth c s₁ Bd hml hP hK
  obtain ⟨rfl, hZ, hh⟩ := hP
  exact k p e s m below meth c s₁ Bd Bd.exec Bd.bytes hml (findClass_of_methodNamed Bd.named) (name_of_methodNamed Bd.named Bd.method).1 Bd.notSynchronized hZ (Stand.of_body Bd) (by rw [← hh, Bd.state]; rfl)
theorem own_ret {Q : Option Value → Heap → List Loc → Prop} {C S : Nat} {g : JFrame} (X : Stand p l e R s m args below meth c T locs cells slots) (hlk : meth.locks = false) {v : Option Value} (hv : meth.sig.returnType = none → v = none)
    (st : ∀ fs, (∀ (f : JFrame) (acts : List Action), f.method = m → f.locked = none → f.entered = [] → (doReturn e (T.setTop f) acts v).1 = T.setFrames fs) → Steps p.tables e below (T.setTop g) (T.setFrames fs))
    (hq : Q v T.heap locs) (hc : cells ≤ C) (hs : slots ≤ S) : own_Go p.tables e below Q s C S T g := by
  obtain ⟨fs, hr, hrun, hended, hW, hsame⟩ := X.leave (v := v) hv hlk
  exact ⟨_, _, st fs hr, hrun, hended, v, locs, rfl, hq, ⟨v, rfl⟩, hW, hsame.mono hc hs⟩
end New
section Wide
variable {p : Program} {l : Launch} {e : Env} {R : Room} {s : State} {m : MethodId} {args : Array Value} {below : List Frame} {meth : Method} {c : Code} {T Z : State} {locs : List Loc} {cells slots : Nat} {a0 : Array Value} {h : Heap} {EL : List (String × Nat)} {vm0 : Vm}
/-- as own_Go, of a run that may intern -/
def own_GoW (tb : Tables) (e : Env) (below : List Frame) (Z : State) (EL : List (String × Nat)) (Q : Option Value → Heap → List Loc → Prop) (s : State) (C S : Nat) (T : State) (g : JFrame) : Prop :=
  ∃ t o, Steps tb e below (T.setTop g) t ∧ t.status = .running ∧ Ended t below o ∧ ∃ v L, o = .returned v ∧ Q v t.heap L ∧ CHr Z EL s.vm s.heap t.vm t.heap ∧ ReturnedEndW s o t L C S
theorem own_byW {tb : Tables} {Q : Option Value → Heap → List Loc → Prop} {C S : Nat} {T T' : State} {g g' : JFrame} (st : ∀ target, Steps tb e below (T'.setTop g') target → Steps tb e below (T.setTop g) target) (k : own_GoW tb e below Z EL Q s C S T' g') : own_GoW tb e below Z EL Q s C S T g := by
  obtain ⟨t, o, h1, h2⟩ := k
  exact ⟨t, o, st t h1, h2⟩
theorem bW {tb : Tables} {Q : Option Value → Heap → List Loc → Prop} {C S : Nat} {T : State} {g : JFrame} (T' : State) (g' : JFrame) (st : ∀ target, Steps tb e below (T'.setTop g') target → Steps tb e below (T.setTop g) target) (k : own_GoW tb e below Z EL Q s C S T' g') : own_GoW tb e below Z EL Q s C S T g := own_byW st k
theorem own_retW {Q : Option Value → Heap → List Loc → Prop} {C S : Nat} {g : JFrame} {vm1 : Vm} {n : Nat} (X : Stand p l e R (s.setVm vm1) m args below meth c T locs cells slots) (hlk : meth.locks = false) (hS : s.Since vm1 n) (hn : n ≤ T.heap.size) (hZ : Z.Warmed39 vm1) (hEL : EW Z a0 EL) (hC : CHr Z EL s.vm s.heap vm1 h) (eT : T.heap = h) {v : Option Value} (hv : meth.sig.returnType = none → v = none)
    (st : ∀ fs, (∀ (f : JFrame) (acts : List Action), f.method = m → f.locked = none → f.entered = [] → (doReturn e (T.setTop f) acts v).1 = T.setFrames fs) → Steps p.tables e below (T.setTop g) (T.setFrames fs))
    (hq : Q v T.heap locs) (hc : cells ≤ C) (hs : slots ≤ S) : own_GoW p.tables e below Z EL Q s C S T g := by
  obtain ⟨fs, hr, hrun, hended, q1, q2, q3, q4⟩ := X.leaveW hS hn (v := v) hv hlk
  subst eT
  have q5 : CHr Z EL s.vm s.heap T.vm T.heap := hC.trans (CHv.at X hZ hEL hC.1)
  exact ⟨_, _, st fs hr, hrun, hended, v, locs, rfl, hq, q5, q1, q2, q3, q4.mono hc hs⟩
theorem own_backSH {y : MethodName} {bytes : ByteArray} {maxL : Nat} {ret : Option FieldType} {rm : Room} {len W : Nat} {as' : Array Value} {VP : Vm → Prop} {Q : Option Value → Heap → List Loc → Prop}
    (hM : MetFree l y (head1 [Cond.code y bytes maxL ret] rm) (fun a U => a = as' ∧ Z.Warmed39 U.vm ∧ U.heap = h ∧ CHv Z EL U.vm h ∧ VP U.vm) (fun _ _ _ _ _ => True) (fun _ U o U' => ∃ v L, o = .returned v ∧ Q v U'.heap L ∧ CHr Z EL U.vm U.heap U'.vm U'.heap ∧ ReturnedEndW U o U' L rm.cells rm.slots))
    (hZ : Z.Warmed39 vm0) (wc : (Cond.code y bytes maxL ret).before a0 Z = true) (wz : (Cond.initialized y.cls).before a0 Z = true) (hf : rm.frames + 1 ≤ R.frames) (hl : W + (maxL + 11) + rm.locals ≤ R.locals) (hEL : EW Z a0 EL) (H : CHv Z EL vm0 h) (hVP : ∀ vm, CHr Z EL vm0 h vm h → VP vm) :
    BackS l R p e below (s.setVm vm0) args y len W (fun A a => a = as' ∧ A.U.heap = h ∧ A.cells + rm.cells ≤ R.cells ∧ A.slots + rm.slots ≤ R.slots)
      (fun A _ v B => ∃ L, Q v B.U.heap L ∧ B.locs = A.locs ++ L ∧ B.cells = A.cells + rm.cells ∧ B.slots = A.slots + rm.slots ∧ CHr Z EL vm0 h B.U.vm B.U.heap) :=
  BackS.of_freeW (bytes := bytes) (maxL := maxL) (ret := ret) (E := fun _ first o t L k n => k = rm.cells ∧ n = rm.slots ∧ (∃ v, o = .returned v ∧ Q v t.heap L) ∧ CHr Z EL first.vm first.heap t.vm t.heap) hM hf hl
    (fun m meth c A a Y hp => have hU : Z.Warmed39 A.U.vm := wtrans (s := s.setVm vm0) hZ Y.warmed
      ⟨by show (Cond.and _ .tt).before a A.U = true; rw [Cond.before_and, mv hU wc]; rfl, mv hU wc, mv hU wz, hp.2.2.1, hp.2.2.2⟩)
    (fun m meth c A a g mk Y hp => have q : CHr Z EL vm0 h A.U.vm h := CHv.at Y hZ hEL H
      ⟨hp.1, wtrans (s := s.setVm vm0) hZ Y.warmed, hp.2.1, q.1, hVP A.U.vm q⟩) (fun _ _ _ _ _ _ _ _ _ => trivial)
    (fun _ _ _ _ ⟨v, L, h1, h2, h3, h4⟩ => ⟨L, _, _, h4, rfl, rfl, ⟨v, h1, h2⟩, h3⟩)
    (fun m meth c A a g mk v t L k n Y hp _ _ ⟨e1, e2, ⟨v', e3, e4⟩, e5⟩ => by
      cases e3; subst e1 e2
      refine ⟨L, e4, rfl, rfl, rfl, (CHv.at Y hZ hEL H).trans ?_⟩
      rw [← hp.2.1]; exact e5)
end Wide
end Jvm.RoadKit
namespace Jvm.Pilot.@@N@@
open Jvm Jvm.ClassFile Sem Op Lib Jvm.Free Jvm.Stand Jvm.LawKit Jvm.RoadKit Bundle Jvm.Pilot.@@N@@.Jvm.D
theorem pd_0 : parseMethodDescriptor "([CI[BII)I" = some ⟨[(.array .char), .int, (.array .byte), .int, .int], some .int⟩ := by decide +kernel
theorem pd_1 : parseMethodDescriptor "([CII)[B" = some ⟨[(.array .char), .int, .int], some (.array .byte)⟩ := by decide +kernel
theorem pd_2 : parseMethodDescriptor "([BI)B" = some ⟨[(.array .byte), .int], some .byte⟩ := by decide +kernel
theorem pd_3 : parseMethodDescriptor "([CIILjava/lang/Void;)V" = some ⟨[(.array .char), .int, .int, (.object "java/lang/Void")], none⟩ := by decide +kernel
theorem pd_4 : parseMethodDescriptor "([C)V" = some ⟨[(.array .char)], none⟩ := by decide +kernel
theorem pd_5 : parseMethodDescriptor "(II)C" = some ⟨[.int, .int], some .char⟩ := by decide +kernel
theorem pd_6 : parseMethodDescriptor "()V" = some ⟨[], none⟩ := by decide +kernel
theorem pd_7 : parseMethodDescriptor "(Ljava/lang/Object;Ljava/lang/String;)Ljava/lang/Object;" = some ⟨[(.object "java/lang/Object"), (.object "java/lang/String")], some (.object "java/lang/Object")⟩ := by decide +kernel
theorem pd_8 : parseMethodDescriptor "([B[B)Z" = some ⟨[(.array .byte), (.array .byte)], some .boolean⟩ := by decide +kernel
theorem pd_9 : parseMethodDescriptor "(Ljava/lang/Object;)Z" = some ⟨[(.object "java/lang/Object")], some .boolean⟩ := by decide +kernel
theorem pd_10 : parseMethodDescriptor "(II)Ljava/lang/String;" = some ⟨[.int, .int], some (.object "java/lang/String")⟩ := by decide +kernel
theorem pd_11 : parseMethodDescriptor "(Ljava/lang/String;)V" = some ⟨[(.object "java/lang/String")], none⟩ := by decide +kernel
theorem own_fld {args : Array Value} {s : State} {t : Term} {C n d : String} {a : Addr} {k : Int32} (ht : t.eval args s none [] s = some (.ref a)) (h : (Jvm.Cond.eq (.field t C n d) (.int k)).value args s none s [] = some true) : Fld s s.heap a C n d (.int k) := by
  refine Fld.start ?_
  rw [← fld_at (args := args) (first := s) (o := none) (idx := []) (s := s) (C := C) (n := n) (dd := d) ht]
  obtain ⟨x, y, e1, e2, -, -⟩ := cmp_v (Or.inl h)
  rw [Term.int_eval k] at e2
  obtain rfl : Value.int k = y := Option.some.inj e2
  cases x <;> simp [Jvm.Cond.value, e1, Term.int_eval] at h
  rw [e1, h]
theorem own_eqi {args : Array Value} {s : State} {a : Term} {k : Int32} (h : (Jvm.Cond.eq a (.int k)).value args s none s [] = some true) : a.eval args s none [] s = some (.int k) := by
  obtain ⟨x, y, e1, e2, -, -⟩ := cmp_v (Or.inl h)
  rw [Term.int_eval k] at e2
  obtain rfl : Value.int k = y := Option.some.inj e2
  cases x <;> simp [Jvm.Cond.value, e1, Term.int_eval] at h
  rw [e1, h]
theorem own_len {args : Array Value} {s : State} {t : Term} {a : Addr} {cl : Cell} {n : Int32} (ht : t.eval args s none [] s = some (.ref a)) (ha : s.arrayAt? a = some cl) (h : (Jvm.Cond.eq (.length t) (.int n)).value args s none s [] = some true) : cl.slots.size < 2 ^ 31 ∧ cl.slots.size.toInt32 = n := by
  have e := own_eqi h
  simp [Term.eval, ht, ha] at e
  exact e
theorem own_ne0 {args : Array Value} {s : State} {a : Term} {x k : Int32} (e : a.eval args s none [] s = some (.int x)) (h : (Jvm.Cond.not (.eq a (.int k))).before args s = true) : ¬ x = k := by
  have h1 := not_v (Cond.before_iff.mp h)
  intro q
  subst q
  simp [Jvm.Cond.value, e, Term.int_eval] at h1
theorem own_eqr {args : Array Value} {s : State} {a b : Term} {x : Addr} (eb : b.eval args s none [] s = some (.ref x)) (h : (Jvm.Cond.eq a b).value args s none s [] = some true) : a.eval args s none [] s = some (.ref x) := by
  obtain ⟨u, y, e1, e2, -, -⟩ := cmp_v (Or.inl h)
  rw [eb] at e2
  obtain rfl : Value.ref x = y := Option.some.inj e2
  cases u <;> simp [Jvm.Cond.value, e1, eb] at h
  rw [e1, h]
theorem own_EL {Z : State} {a0 : Array Value} (hw : ∀ d ∈ tables_1, d.before a0 Z = true) : EW Z a0 consts_1 := (EW.cons (hw _ (List.mem_of_getElem? (i := 38) rfl)) (by decide) (EW.cons (hw _ (List.mem_of_getElem? (i := 79) rfl)) (by decide) (EW.cons (hw _ (List.mem_of_getElem? (i := 18) rfl)) (by decide) EW.nil)))
set_option maxRecDepth 65536 in
theorem own_SA : ∀ d ∈ Bundle.stringAtoms, d ∈ tables_1 := by decide +kernel
def own_c0 (u : Int32) : Int32 := (nar .char ((((u.toUInt32 >>> ((0 : Int32) &&& 31).toUInt32).toInt32) &&& (255 : Int32)).toUInt32.toUInt16.toUInt32.toInt32))
def own_c1 (u : Int32) : Int32 := (nar .char ((((u.toUInt32 >>> ((8 : Int32) &&& 31).toUInt32).toInt32) &&& (255 : Int32)).toUInt32.toUInt16.toUInt32.toInt32))
def own_c2 (u : Int32) : Int32 := (nar .char ((((u.toUInt32 >>> ((16 : Int32) &&& 31).toUInt32).toInt32) &&& (255 : Int32)).toUInt32.toUInt16.toUInt32.toInt32))
theorem own_chm (x : Int32) : nar .char ((x &&& (255 : Int32)).toUInt32.toUInt16.toUInt32.toInt32) = x &&& 255 := by
  have h : nar .char ((x &&& (255 : Int32)).toUInt32.toUInt16.toUInt32.toInt32) = ((x &&& (255 : Int32)).toUInt32.toUInt16.toUInt32.toInt32).toUInt32.toUInt16.toUInt32.toInt32 := rfl
  rw [h, i2c_mask, i2c_mask]
theorem own_nch (y : Int32) (h : 0 ≤ y.toInt ∧ y.toInt ≤ 255) : nar .char y = y := by
  have e : nar .char y = y.toUInt32.toUInt16.toUInt32.toInt32 := rfl
  have c := c_i2c y
  rw [← Int32.toInt_inj, e]
  omega
theorem own_n255 {y : Int32} (h : 0 ≤ y.toInt ∧ y.toInt ≤ 255) : ¬ (255 : Int32) < nar .char y := by
  rw [own_nch _ h, Int32.lt_iff_toInt_lt]
  have k : (255 : Int32).toInt = 255 := by decide
  omega
theorem own_Binj {x y : Int32} (hx : 0 ≤ x.toInt ∧ x.toInt ≤ 255) (hy : 0 ≤ y.toInt ∧ y.toInt ≤ 255) (q : Value.int (nar .byte ((nar .char x).toInt8.toInt32)) = .int (nar .byte ((nar .char y).toInt8.toInt32))) : x = y := by
  have q1 := Value.int.inj q
  rw [own_nch _ hx, own_nch _ hy] at q1
  have e : ∀ z : Int32, nar .byte (z.toInt8.toInt32) = z.toInt8.toInt32.toInt8.toInt32 := fun _ => rfl
  rw [e, e, ← Int32.toInt_inj] at q1
  have c1 := c_i2b x
  have c2 := c_i2b (x.toInt8.toInt32)
  have d1 := c_i2b y
  have d2 := c_i2b (y.toInt8.toInt32)
  rw [← Int32.toInt_inj]
  omega
theorem own_and3 (x : Int32) : x &&& 3 = 0 ∨ x &&& 3 = 1 ∨ x &&& 3 = 2 ∨ x &&& 3 = 3 := by
  have h := c_mask x 3 2 (by decide) (by decide)
  have h1 := Int.emod_nonneg x.toInt (b := ((2 ^ 2 : Nat) : Int)) (by decide)
  have h2 := Int.emod_lt_of_pos x.toInt (b := ((2 ^ 2 : Nat) : Int)) (by decide)
  rw [← h] at h1 h2
  have k0 : (0 : Int32).toInt = 0 := by decide
  have k1 : (1 : Int32).toInt = 1 := by decide
  have k2 : (2 : Int32).toInt = 2 := by decide
  have k3 : (3 : Int32).toInt = 3 := by decide
  simp only [← Int32.toInt_inj, k0, k1, k2, k3]
  omega
theorem own_r0 (u : Int32) : 0 ≤ (own_c0 u).toInt ∧ (own_c0 u).toInt ≤ 255 := by
  unfold own_c0
  rw [own_chm]
  exact c_and _ 255 (by decide)
theorem own_r1 (u : Int32) : 0 ≤ (own_c1 u).toInt ∧ (own_c1 u).toInt ≤ 255 := by
  unfold own_c1
  rw [own_chm]
  exact c_and _ 255 (by decide)
theorem own_r2 (u : Int32) : 0 ≤ (own_c2 u).toInt ∧ (own_c2 u).toInt ≤ 255 := by
  unfold own_c2
  rw [own_chm]
  exact c_and _ 255 (by decide)
def own_ln (n : Int32) : Int32 := if n = 0 then 0 else if n = 1 then 1 else if n = 2 then 2 else 3
def own_bs (n u : Int32) : List Value := if n = 0 then [] else if n = 1 then [(.int (nar .byte ((nar .char (own_c0 u)).toInt8.toInt32)))] else if n = 2 then [(.int (nar .byte ((nar .char (own_c0 u)).toInt8.toInt32))), (.int (nar .byte ((nar .char (own_c1 u)).toInt8.toInt32)))] else [(.int (nar .byte ((nar .char (own_c0 u)).toInt8.toInt32))), (.int (nar .byte ((nar .char (own_c1 u)).toInt8.toInt32))), (.int (nar .byte ((nar .char (own_c2 u)).toInt8.toInt32)))]
theorem own_l0 {n : Int32} (h : n = 0) : own_ln n = 0 := if_pos h
theorem own_l1 {n : Int32} (h0 : ¬ n = 0) (h : n = 1) : own_ln n = 1 := (if_neg h0).trans (if_pos h)
theorem own_l2 {n : Int32} (h0 : ¬ n = 0) (h1 : ¬ n = 1) (h : n = 2) : own_ln n = 2 := (if_neg h0).trans ((if_neg h1).trans (if_pos h))
theorem own_l3 {n : Int32} (h0 : ¬ n = 0) (h1 : ¬ n = 1) (h : ¬ n = 2) : own_ln n = 3 := (if_neg h0).trans ((if_neg h1).trans (if_neg h))
theorem own_b0 {n : Int32} (u : Int32) (h : n = 0) : own_bs n u = [] := if_pos h
theorem own_b1 {n : Int32} (u : Int32) (h0 : ¬ n = 0) (h : n = 1) : own_bs n u = [(.int (nar .byte ((nar .char (own_c0 u)).toInt8.toInt32)))] := (if_neg h0).trans (if_pos h)
theorem own_b2 {n : Int32} (u : Int32) (h0 : ¬ n = 0) (h1 : ¬ n = 1) (h : n = 2) : own_bs n u = [(.int (nar .byte ((nar .char (own_c0 u)).toInt8.toInt32))), (.int (nar .byte ((nar .char (own_c1 u)).toInt8.toInt32)))] := (if_neg h0).trans ((if_neg h1).trans (if_pos h))
theorem own_b3 {n : Int32} (u : Int32) (h0 : ¬ n = 0) (h1 : ¬ n = 1) (h : ¬ n = 2) : own_bs n u = [(.int (nar .byte ((nar .char (own_c0 u)).toInt8.toInt32))), (.int (nar .byte ((nar .char (own_c1 u)).toInt8.toInt32))), (.int (nar .byte ((nar .char (own_c2 u)).toInt8.toInt32)))] := (if_neg h0).trans ((if_neg h1).trans (if_neg h))
theorem own_pack {Z : State} {h : Heap} {t : Addr} {kb : ClassId} {n u k : Int32} {vs : List Value} (e1 : own_ln n = k) (e2 : own_bs n u = vs) (A : Arv Z h t kb .byte k vs (.int (0 : Int32))) : Arv Z h t kb .byte (own_ln n) (own_bs n u) (.int (0 : Int32)) := by
  rw [e1, e2]; exact A
theorem own_open {Z : State} {h : Heap} {t : Addr} {kb : ClassId} {n u k : Int32} {vs : List Value} (e1 : own_ln n = k) (e2 : own_bs n u = vs) (A : Arv Z h t kb .byte (own_ln n) (own_bs n u) (.int (0 : Int32))) : Arv Z h t kb .byte k vs (.int (0 : Int32)) := by
  rw [← e1, ← e2]; exact A
theorem own_all (n u : Int32) : (own_ln n = 0 ∧ own_bs n u = []) ∨ (own_ln n = 1 ∧ own_bs n u = [(.int (nar .byte ((nar .char (own_c0 u)).toInt8.toInt32)))]) ∨ (own_ln n = 2 ∧ own_bs n u = [(.int (nar .byte ((nar .char (own_c0 u)).toInt8.toInt32))), (.int (nar .byte ((nar .char (own_c1 u)).toInt8.toInt32)))]) ∨ (own_ln n = 3 ∧ own_bs n u = [(.int (nar .byte ((nar .char (own_c0 u)).toInt8.toInt32))), (.int (nar .byte ((nar .char (own_c1 u)).toInt8.toInt32))), (.int (nar .byte ((nar .char (own_c2 u)).toInt8.toInt32)))]) := by
  by_cases h0 : n = 0
  · exact Or.inl ⟨own_l0 h0, own_b0 u h0⟩
  by_cases h1 : n = 1
  · exact Or.inr (Or.inl ⟨own_l1 h0 h1, own_b1 u h0 h1⟩)
  by_cases h2 : n = 2
  · exact Or.inr (Or.inr (Or.inl ⟨own_l2 h0 h1 h2, own_b2 u h0 h1 h2⟩))
  exact Or.inr (Or.inr (Or.inr ⟨own_l3 h0 h1 h2, own_b3 u h0 h1 h2⟩))
def own_eq (n u n' u' : Int32) : Int32 := if own_ln n = own_ln n' ∧ own_bs n u = own_bs n' u' then 1 else 0
theorem own_eq1 {n u n' u' : Int32} (h : ¬ own_eq n u n' u' = 0) : own_eq n u n' u' = 1 := by
  unfold own_eq at h ⊢
  split
  · rfl
  · rename_i q; rw [if_neg q] at h; exact absurd rfl h
theorem own_k0 : ([] : List Value) = [] := rfl
theorem own_k1 {a a' : Int32} (h : a = a') : [Value.int a] = [.int a'] := by subst h; rfl
theorem own_k2 {a a' b b' : Int32} (h : a = a') (h2 : b = b') : [Value.int a, .int b] = [.int a', .int b'] := by subst h h2; rfl
theorem own_k3 {a a' b b' c c' : Int32} (h : a = a') (h2 : b = b') (h3 : c = c') : [Value.int a, .int b, .int c] = [.int a', .int b', .int c'] := by subst h h2 h3; rfl
theorem own_ll {n : Int32} (r : n = 0 ∨ n = 1 ∨ n = 2 ∨ n = 3) : own_ln n = n := by rcases r with rfl | rfl | rfl | rfl <;> decide
theorem own_eF {n u n' u' : Int32} (r : n = 0 ∨ n = 1 ∨ n = 2 ∨ n = 3) (r' : n' = 0 ∨ n' = 1 ∨ n' = 2 ∨ n' = 3) (h : ¬ n = n') : (0 : Int32) = own_eq n u n' u' := (if_neg fun q => h (by rw [← own_ll r, ← own_ll r']; exact q.1)).symm
theorem own_eT {n u n' u' : Int32} (r : n = 0 ∨ n = 1 ∨ n = 2 ∨ n = 3) (h : n = n') (a : n < 1 ∨ own_c0 u = own_c0 u') (b : n < 2 ∨ own_c1 u = own_c1 u') (c : n < 3 ∨ own_c2 u = own_c2 u') : (1 : Int32) = own_eq n u n' u' := by
  subst h
  refine (if_pos ⟨rfl, ?_⟩).symm
  rcases r with rfl | rfl | rfl | rfl
  · exact (own_b0 u rfl).trans (own_b0 u' rfl).symm
  · rw [own_b1 u (by decide) rfl, own_b1 u' (by decide) rfl, a.resolve_left (by decide)]
  · rw [own_b2 u (by decide) (by decide) rfl, own_b2 u' (by decide) (by decide) rfl, a.resolve_left (by decide), b.resolve_left (by decide)]
  · rw [own_b3 u (by decide) (by decide) (by decide), own_b3 u' (by decide) (by decide) (by decide), a.resolve_left (by decide), b.resolve_left (by decide), c.resolve_left (by decide)]
theorem own_eF0 {n u n' u' : Int32} (r : n = 0 ∨ n = 1 ∨ n = 2 ∨ n = 3) (h : n = n') (a : ¬ n < 1) (q : ¬ own_c0 u = own_c0 u') : (0 : Int32) = own_eq n u n' u' := by
  subst h
  refine (if_neg fun w => ?_).symm
  have w2 := w.2
  rcases r with rfl | rfl | rfl | rfl
  · exact a (by decide)
  · rw [own_b1 u (by decide) rfl, own_b1 u' (by decide) rfl] at w2
    exact q (own_Binj (own_r0 _) (own_r0 _) (List.cons.inj w2).1)
  · rw [own_b2 u (by decide) (by decide) rfl, own_b2 u' (by decide) (by decide) rfl] at w2
    exact q (own_Binj (own_r0 _) (own_r0 _) (List.cons.inj w2).1)
  · rw [own_b3 u (by decide) (by decide) (by decide), own_b3 u' (by decide) (by decide) (by decide)] at w2
    exact q (own_Binj (own_r0 _) (own_r0 _) (List.cons.inj w2).1)
theorem own_eF1 {n u n' u' : Int32} (r : n = 0 ∨ n = 1 ∨ n = 2 ∨ n = 3) (h : n = n') (a : ¬ n < 2) (q : ¬ own_c1 u = own_c1 u') : (0 : Int32) = own_eq n u n' u' := by
  subst h
  refine (if_neg fun w => ?_).symm
  have w2 := w.2
  rcases r with rfl | rfl | rfl | rfl
  · exact a (by decide)
  · exact a (by decide)
  · rw [own_b2 u (by decide) (by decide) rfl, own_b2 u' (by decide) (by decide) rfl] at w2
    exact q (own_Binj (own_r1 _) (own_r1 _) (List.cons.inj (List.cons.inj w2).2).1)
  · rw [own_b3 u (by decide) (by decide) (by decide), own_b3 u' (by decide) (by decide) (by decide)] at w2
    exact q (own_Binj (own_r1 _) (own_r1 _) (List.cons.inj (List.cons.inj w2).2).1)
theorem own_eF2 {n u n' u' : Int32} (r : n = 0 ∨ n = 1 ∨ n = 2 ∨ n = 3) (h : n = n') (a : ¬ n < 3) (q : ¬ own_c2 u = own_c2 u') : (0 : Int32) = own_eq n u n' u' := by
  subst h
  refine (if_neg fun w => ?_).symm
  have w2 := w.2
  rcases r with rfl | rfl | rfl | rfl
  · exact a (by decide)
  · exact a (by decide)
  · exact a (by decide)
  · rw [own_b3 u (by decide) (by decide) (by decide), own_b3 u' (by decide) (by decide) (by decide)] at w2
    exact q (own_Binj (own_r2 _) (own_r2 _) (List.cons.inj (List.cons.inj (List.cons.inj w2).2).2).1)
theorem own_lt {n a b : Int32} (h : n < a) (k : a < b) : n < b := by
  rw [Int32.lt_iff_toInt_lt] at *
  omega
theorem own_root {Z : State} {a0 : Array Value} {O K : String} {n : Nat} (w : (Cond.noSuperclass O).before a0 Z = true) (wk : (Cond.instantiable K n).before a0 Z = true) (hn : O ≠ K) : NS Z O K := by
  obtain ⟨c, k, h1, h2, h3, -, -⟩ := Cond.noSuperclass_spec w
  obtain ⟨t, k', g1, g2, -⟩ := Cond.instantiable_spec wk
  have ne := ids_ne h1 g1 hn
  refine ⟨c, t, h1, g1, fun fuel => ?_⟩
  cases fuel with
  | zero => rfl
  | succ f => simp [Vm.isSubclassAux, ne, h2, h3]
theorem own_no {Z : State} {a0 : Array Value} {C S K : String} {n : Nat} (w : (Cond.superclass C S).before a0 Z = true) (wk : (Cond.instantiable K n).before a0 Z = true) (ns : NS Z C K) (hn : C ≠ K) : ∃ c t, Z.vm.findClass C = some c ∧ Z.vm.findClass K = some t ∧ Z.vm.assignable c t = false := by
  obtain ⟨c, t, h0, g0, n3⟩ := ns
  obtain ⟨p, k, kp, h1, h2, h3, h4, h5, -, h7⟩ := Cond.superclass_spec h0 w
  obtain ⟨t', k', g1, g2, g5, g6, -⟩ := Cond.instantiable_spec wk
  cases g0.symm.trans g1
  have g7 : k'.isInterface = false := (Bool.or_eq_false_iff.mp g6).1
  have ne := ids_ne h0 g0 hn
  refine ⟨c, t, h0, g0, ?_⟩
  show Z.vm.assignableAux (255 + 1) c t = false
  simp [Vm.assignableAux, ne, h2, g2, h5, g5, g7, Vm.isSubclass, n3]
theorem d10_0 : decode method_2_code 0 = .ok (.iload_n 0, 1) := by decide +kernel
theorem d10_1 : decode method_2_code 1 = .ok (.bipush 8, 2) := by decide +kernel
theorem d10_3 : decode method_2_code 3 = .ok (.iload_n 1, 1) := by decide +kernel
theorem d10_4 : decode method_2_code 4 = .ok (.imul, 1) := by decide +kernel
theorem d10_5 : decode method_2_code 5 = .ok (.iushr, 1) := by decide +kernel
theorem d10_6 : decode method_2_code 6 = .ok (.sipush 255, 3) := by decide +kernel
theorem d10_9 : decode method_2_code 9 = .ok (.iand, 1) := by decide +kernel
theorem d10_10 : decode method_2_code 10 = .ok (.i2c, 1) := by decide +kernel
theorem d10_11 : decode method_2_code 11 = .ok (.ireturn, 1) := by decide +kernel
theorem pn_10 : plainName "com/example/postings/postings/search/PhraseEqualsPinLaw" = true := by first | (simp [plainName, overriddenIn]; done) | decide +kernel
theorem ef_ch_0 (m : MethodId) (u1 : Int32) : entryFrame m #[(.int u1), (.int (0 : Int32))] 2 = mkF m 0 #[.val (.int u1), .val (.int (0 : Int32))] [] := by first | (simp [entryFrame, mkF, argsToLocals, Value.category]; done) | rfl
def Q_ch_0 (Z : State) (u1 : Int32) (h0 : Heap) (n0 : Nat) (v : Option Value) (h : Heap) (L : List Loc) : Prop := v = some (.int (own_c0 u1)) ∧ Fr n0 L ∧ h = h0
set_option maxRecDepth 65536 in
set_option maxHeartbeats 40000000 in
theorem ch_0 (l : Launch) (Z : State) (a0 : Array Value) (hw : ∀ d ∈ tables_1, d.before a0 Z = true) (ws : List Jvm.Cond) (u1 : Int32) (h0 : Heap) (n0 : Nat) (Z0 : n0 ≤ h0.size) :
    MetFree l (⟨"com/example/postings/postings/search/PhraseEqualsPinLaw", "ch", "(II)C"⟩ : MethodName) (head1 (Jvm.Cond.code (⟨"com/example/postings/postings/search/PhraseEqualsPinLaw", "ch", "(II)C"⟩ : MethodName) method_2_code 2 (some .char) :: ws) ({ frames := 0, cells := 0, slots := 0, locals := 0 } : Room)) (fun zz UU => zz = #[(.int u1), (.int (0 : Int32))] ∧ Z.Warmed39 UU.vm ∧ UU.heap = h0) (fun _ _ _ _ _ => True) (fun _ U o U' => ∃ v L, o = .returned v ∧ Q_ch_0 Z u1 h0 n0 v U'.heap L ∧ FrameEnd U o U' L ({ frames := 0, cells := 0, slots := 0, locals := 0 } : Room).cells ({ frames := 0, cells := 0, slots := 0, locals := 0 } : Room).slots) := by
  refine MetFree.of_bodySF (plainFor_of_name pn_10) hisR ?_
  intro p e s m args below meth c s₁ Bd hml0 hP hK
  obtain ⟨rfl, hZ, hh⟩ := hP
  have hx := Bd.exec
  have hby := Bd.bytes
  have hml : c.maxLocals = 2 := hml0
  have hown : s.vm.findClass "com/example/postings/postings/search/PhraseEqualsPinLaw" = some m.cls := findClass_of_methodNamed Bd.named
  have hnm := (name_of_methodNamed Bd.named Bd.method).1
  have hlk : meth.locks = false := BodyLoose.notSynchronized Bd
  have X0 : Stand p l e ({ frames := 0, cells := 0, slots := 0, locals := 0 } : Room) s m #[(.int u1), (.int (0 : Int32))] below meth c s₁ [] 0 0 := Stand.of_body Bd
  have e0 : s₁.heap = h0 := by rw [← hh, Bd.state]; rfl
  have N0 := Fr.nil n0
  show own_Go p.tables e below (Q_ch_0 Z u1 h0 n0) s ({ frames := 0, cells := 0, slots := 0, locals := 0 } : Room).cells ({ frames := 0, cells := 0, slots := 0, locals := 0 } : Room).slots s₁ (entryFrame m #[(.int u1), (.int (0 : Int32))] 2)
  rw [ef_ch_0 m u1]
  refine own_by (T' := s₁) (g' := (mkF m 1 #[.val (.int u1), .val (.int (0 : Int32))] [(.int u1)])) (fun _ k => XS.iloadN X0.here hx rfl (hb hby d10_0) rfl k) ?_
  refine own_by (T' := s₁) (g' := (mkF m 3 #[.val (.int u1), .val (.int (0 : Int32))] [(.int (8 : Int32)), (.int u1)])) (fun _ k => XS.bipush X0.here hx rfl (hb hby d10_1) k) ?_
  refine own_by (T' := s₁) (g' := (mkF m 4 #[.val (.int u1), .val (.int (0 : Int32))] [(.int (0 : Int32)), (.int (8 : Int32)), (.int u1)])) (fun _ k => XS.iloadN X0.here hx rfl (hb hby d10_3) rfl k) ?_
  refine own_by (T' := s₁) (g' := (mkF m 5 #[.val (.int u1), .val (.int (0 : Int32))] [(.int (0 : Int32)), (.int u1)])) (fun _ k => XS.imul X0.here hx rfl (hb hby d10_4) rfl k) ?_
  refine own_by (T' := s₁) (g' := (mkF m 6 #[.val (.int u1), .val (.int (0 : Int32))] [(.int ((u1.toUInt32 >>> ((0 : Int32) &&& 31).toUInt32).toInt32))])) (fun _ k => XS.iushr X0.here hx rfl (hb hby d10_5) rfl k) ?_
  refine own_by (T' := s₁) (g' := (mkF m 9 #[.val (.int u1), .val (.int (0 : Int32))] [(.int (255 : Int32)), (.int ((u1.toUInt32 >>> ((0 : Int32) &&& 31).toUInt32).toInt32))])) (fun _ k => XS.sipush X0.here hx rfl (hb hby d10_6) k) ?_
  refine own_by (T' := s₁) (g' := (mkF m 10 #[.val (.int u1), .val (.int (0 : Int32))] [(.int (((u1.toUInt32 >>> ((0 : Int32) &&& 31).toUInt32).toInt32) &&& (255 : Int32)))])) (fun _ k => XS.iand X0.here hx rfl (hb hby d10_9) rfl k) ?_
  refine own_by (T' := s₁) (g' := (mkF m 11 #[.val (.int u1), .val (.int (0 : Int32))] [(.int ((((u1.toUInt32 >>> ((0 : Int32) &&& 31).toUInt32).toInt32) &&& (255 : Int32)).toUInt32.toUInt16.toUInt32.toInt32))])) (fun _ k => XS.i2c X0.here hx rfl (hb hby d10_10) rfl k) ?_
  refine own_ret X0 hlk (v := some (.int (nar .char ((((u1.toUInt32 >>> ((0 : Int32) &&& 31).toUInt32).toInt32) &&& (255 : Int32)).toUInt32.toUInt16.toUInt32.toInt32)))) (fun h => by rw [Bd.returns] at h; cases h) (fun fs hr => retN X0 hx (t := .char) Bd.returns (by simp) (hb hby d10_11) hr) ?_ (by decide) (by decide)
  rw [e0]
  exact ⟨rfl, N0, rfl⟩
theorem ef_ch_1 (m : MethodId) (u1 : Int32) : entryFrame m #[(.int u1), (.int (1 : Int32))] 2 = mkF m 0 #[.val (.int u1), .val (.int (1 : Int32))] [] := by first | (simp [entryFrame, mkF, argsToLocals, Value.category]; done) | rfl
def Q_ch_1 (Z : State) (u1 : Int32) (h0 : Heap) (n0 : Nat) (v : Option Value) (h : Heap) (L : List Loc) : Prop := v = some (.int (own_c1 u1)) ∧ Fr n0 L ∧ h = h0
set_option maxRecDepth 65536 in
set_option maxHeartbeats 40000000 in
theorem ch_1 (l : Launch) (Z : State) (a0 : Array Value) (hw : ∀ d ∈ tables_1, d.before a0 Z = true) (ws : List Jvm.Cond) (u1 : Int32) (h0 : Heap) (n0 : Nat) (Z0 : n0 ≤ h0.size) :
    MetFree l (⟨"com/example/postings/postings/search/PhraseEqualsPinLaw", "ch", "(II)C"⟩ : MethodName) (head1 (Jvm.Cond.code (⟨"com/example/postings/postings/search/PhraseEqualsPinLaw", "ch", "(II)C"⟩ : MethodName) method_2_code 2 (some .char) :: ws) ({ frames := 0, cells := 0, slots := 0, locals := 0 } : Room)) (fun zz UU => zz = #[(.int u1), (.int (1 : Int32))] ∧ Z.Warmed39 UU.vm ∧ UU.heap = h0) (fun _ _ _ _ _ => True) (fun _ U o U' => ∃ v L, o = .returned v ∧ Q_ch_1 Z u1 h0 n0 v U'.heap L ∧ FrameEnd U o U' L ({ frames := 0, cells := 0, slots := 0, locals := 0 } : Room).cells ({ frames := 0, cells := 0, slots := 0, locals := 0 } : Room).slots) := by
  refine MetFree.of_bodySF (plainFor_of_name pn_10) hisR ?_
  intro p e s m args below meth c s₁ Bd hml0 hP hK
  obtain ⟨rfl, hZ, hh⟩ := hP
  have hx := Bd.exec
  have hby := Bd.bytes
  have hml : c.maxLocals = 2 := hml0
  have hown : s.vm.findClass "com/example/postings/postings/search/PhraseEqualsPinLaw" = some m.cls := findClass_of_methodNamed Bd.named
  have hnm := (name_of_methodNamed Bd.named Bd.method).1
  have hlk : meth.locks = false := BodyLoose.notSynchronized Bd
  have X0 : Stand p l e ({ frames := 0, cells := 0, slots := 0, locals := 0 } : Room) s m #[(.int u1), (.int (1 : Int32))] below meth c s₁ [] 0 0 := Stand.of_body Bd
  have e0 : s₁.heap = h0 := by rw [← hh, Bd.state]; rfl
  have N0 := Fr.nil n0
  show own_Go p.tables e below (Q_ch_1 Z u1 h0 n0) s ({ frames := 0, cells := 0, slots := 0, locals := 0 } : Room).cells ({ frames := 0, cells := 0, slots := 0, locals := 0 } : Room).slots s₁ (entryFrame m #[(.int u1), (.int (1 : Int32))] 2)
  rw [ef_ch_1 m u1]
  refine own_by (T' := s₁) (g' := (mkF m 1 #[.val (.int u1), .val (.int (1 : Int32))] [(.int u1)])) (fun _ k => XS.iloadN X0.here hx rfl (hb hby d10_0) rfl k) ?_
  refine own_by (T' := s₁) (g' := (mkF m 3 #[.val (.int u1), .val (.int (1 : Int32))] [(.int (8 : Int32)), (.int u1)])) (fun _ k => XS.bipush X0.here hx rfl (hb hby d10_1) k) ?_
  refine own_by (T' := s₁) (g' := (mkF m 4 #[.val (.int u1), .val (.int (1 : Int32))] [(.int (1 : Int32)), (.int (8 : Int32)), (.int u1)])) (fun _ k => XS.iloadN X0.here hx rfl (hb hby d10_3) rfl k) ?_
  refine own_by (T' := s₁) (g' := (mkF m 5 #[.val (.int u1), .val (.int (1 : Int32))] [(.int (8 : Int32)), (.int u1)])) (fun _ k => XS.imul X0.here hx rfl (hb hby d10_4) rfl k) ?_
  refine own_by (T' := s₁) (g' := (mkF m 6 #[.val (.int u1), .val (.int (1 : Int32))] [(.int ((u1.toUInt32 >>> ((8 : Int32) &&& 31).toUInt32).toInt32))])) (fun _ k => XS.iushr X0.here hx rfl (hb hby d10_5) rfl k) ?_
  refine own_by (T' := s₁) (g' := (mkF m 9 #[.val (.int u1), .val (.int (1 : Int32))] [(.int (255 : Int32)), (.int ((u1.toUInt32 >>> ((8 : Int32) &&& 31).toUInt32).toInt32))])) (fun _ k => XS.sipush X0.here hx rfl (hb hby d10_6) k) ?_
  refine own_by (T' := s₁) (g' := (mkF m 10 #[.val (.int u1), .val (.int (1 : Int32))] [(.int (((u1.toUInt32 >>> ((8 : Int32) &&& 31).toUInt32).toInt32) &&& (255 : Int32)))])) (fun _ k => XS.iand X0.here hx rfl (hb hby d10_9) rfl k) ?_
  refine own_by (T' := s₁) (g' := (mkF m 11 #[.val (.int u1), .val (.int (1 : Int32))] [(.int ((((u1.toUInt32 >>> ((8 : Int32) &&& 31).toUInt32).toInt32) &&& (255 : Int32)).toUInt32.toUInt16.toUInt32.toInt32))])) (fun _ k => XS.i2c X0.here hx rfl (hb hby d10_10) rfl k) ?_
  refine own_ret X0 hlk (v := some (.int (nar .char ((((u1.toUInt32 >>> ((8 : Int32) &&& 31).toUInt32).toInt32) &&& (255 : Int32)).toUInt32.toUInt16.toUInt32.toInt32)))) (fun h => by rw [Bd.returns] at h; cases h) (fun fs hr => retN X0 hx (t := .char) Bd.returns (by simp) (hb hby d10_11) hr) ?_ (by decide) (by decide)
  rw [e0]
  exact ⟨rfl, N0, rfl⟩
theorem ef_ch_2 (m : MethodId) (u1 : Int32) : entryFrame m #[(.int u1), (.int (2 : Int32))] 2 = mkF m 0 #[.val (.int u1), .val (.int (2 : Int32))] [] := by first | (simp [entryFrame, mkF, argsToLocals, Value.category]; done) | rfl
def Q_ch_2 (Z : State) (u1 : Int32) (h0 : Heap) (n0 : Nat) (v : Option Value) (h : Heap) (L : List Loc) : Prop := v = some (.int (own_c2 u1)) ∧ Fr n0 L ∧ h = h0
set_option maxRecDepth 65536 in
set_option maxHeartbeats 40000000 in
theorem ch_2 (l : Launch) (Z : State) (a0 : Array Value) (hw : ∀ d ∈ tables_1, d.before a0 Z = true) (ws : List Jvm.Cond) (u1 : Int32) (h0 : Heap) (n0 : Nat) (Z0 : n0 ≤ h0.size) :
    MetFree l (⟨"com/example/postings/postings/search/PhraseEqualsPinLaw", "ch", "(II)C"⟩ : MethodName) (head1 (Jvm.Cond.code (⟨"com/example/postings/postings/search/PhraseEqualsPinLaw", "ch", "(II)C"⟩ : MethodName) method_2_code 2 (some .char) :: ws) ({ frames := 0, cells := 0, slots := 0, locals := 0 } : Room)) (fun zz UU => zz = #[(.int u1), (.int (2 : Int32))] ∧ Z.Warmed39 UU.vm ∧ UU.heap = h0) (fun _ _ _ _ _ => True) (fun _ U o U' => ∃ v L, o = .returned v ∧ Q_ch_2 Z u1 h0 n0 v U'.heap L ∧ FrameEnd U o U' L ({ frames := 0, cells := 0, slots := 0, locals := 0 } : Room).cells ({ frames := 0, cells := 0, slots := 0, locals := 0 } : Room).slots) := by
  refine MetFree.of_bodySF (plainFor_of_name pn_10) hisR ?_
  intro p e s m args below meth c s₁ Bd hml0 hP hK
  obtain ⟨rfl, hZ, hh⟩ := hP
  have hx := Bd.exec
  have hby := Bd.bytes
  have hml : c.maxLocals = 2 := hml0
  have hown : s.vm.findClass "com/example/postings/postings/search/PhraseEqualsPinLaw" = some m.cls := findClass_of_methodNamed Bd.named
  have hnm := (name_of_methodNamed Bd.named Bd.method).1
  have hlk : meth.locks = false := BodyLoose.notSynchronized Bd
  have X0 : Stand p l e ({ frames := 0, cells := 0, slots := 0, locals := 0 } : Room) s m #[(.int u1), (.int (2 : Int32))] below meth c s₁ [] 0 0 := Stand.of_body Bd
  have e0 : s₁.heap = h0 := by rw [← hh, Bd.state]; rfl
  have N0 := Fr.nil n0
  show own_Go p.tables e below (Q_ch_2 Z u1 h0 n0) s ({ frames := 0, cells := 0, slots := 0, locals := 0 } : Room).cells ({ frames := 0, cells := 0, slots := 0, locals := 0 } : Room).slots s₁ (entryFrame m #[(.int u1), (.int (2 : Int32))] 2)
  rw [ef_ch_2 m u1]
  refine own_by (T' := s₁) (g' := (mkF m 1 #[.val (.int u1), .val (.int (2 : Int32))] [(.int u1)])) (fun _ k => XS.iloadN X0.here hx rfl (hb hby d10_0) rfl k) ?_
  refine own_by (T' := s₁) (g' := (mkF m 3 #[.val (.int u1), .val (.int (2 : Int32))] [(.int (8 : Int32)), (.int u1)])) (fun _ k => XS.bipush X0.here hx rfl (hb hby d10_1) k) ?_
  refine own_by (T' := s₁) (g' := (mkF m 4 #[.val (.int u1), .val (.int (2 : Int32))] [(.int (2 : Int32)), (.int (8 : Int32)), (.int u1)])) (fun _ k => XS.iloadN X0.here hx rfl (hb hby d10_3) rfl k) ?_
  refine own_by (T' := s₁) (g' := (mkF m 5 #[.val (.int u1), .val (.int (2 : Int32))] [(.int (16 : Int32)), (.int u1)])) (fun _ k => XS.imul X0.here hx rfl (hb hby d10_4) rfl k) ?_
  refine own_by (T' := s₁) (g' := (mkF m 6 #[.val (.int u1), .val (.int (2 : Int32))] [(.int ((u1.toUInt32 >>> ((16 : Int32) &&& 31).toUInt32).toInt32))])) (fun _ k => XS.iushr X0.here hx rfl (hb hby d10_5) rfl k) ?_
  refine own_by (T' := s₁) (g' := (mkF m 9 #[.val (.int u1), .val (.int (2 : Int32))] [(.int (255 : Int32)), (.int ((u1.toUInt32 >>> ((16 : Int32) &&& 31).toUInt32).toInt32))])) (fun _ k => XS.sipush X0.here hx rfl (hb hby d10_6) k) ?_
  refine own_by (T' := s₁) (g' := (mkF m 10 #[.val (.int u1), .val (.int (2 : Int32))] [(.int (((u1.toUInt32 >>> ((16 : Int32) &&& 31).toUInt32).toInt32) &&& (255 : Int32)))])) (fun _ k => XS.iand X0.here hx rfl (hb hby d10_9) rfl k) ?_
  refine own_by (T' := s₁) (g' := (mkF m 11 #[.val (.int u1), .val (.int (2 : Int32))] [(.int ((((u1.toUInt32 >>> ((16 : Int32) &&& 31).toUInt32).toInt32) &&& (255 : Int32)).toUInt32.toUInt16.toUInt32.toInt32))])) (fun _ k => XS.i2c X0.here hx rfl (hb hby d10_10) rfl k) ?_
  refine own_ret X0 hlk (v := some (.int (nar .char ((((u1.toUInt32 >>> ((16 : Int32) &&& 31).toUInt32).toInt32) &&& (255 : Int32)).toUInt32.toUInt16.toUInt32.toInt32)))) (fun h => by rw [Bd.returns] at h; cases h) (fun fs hr => retN X0 hx (t := .char) Bd.returns (by simp) (hb hby d10_11) hr) ?_ (by decide) (by decide)
  rw [e0]
  exact ⟨rfl, N0, rfl⟩
theorem d12_0 : decode jdk_52_method_21_code 0 = .ok (.iconst 0, 1) := by decide +kernel
theorem d12_1 : decode jdk_52_method_21_code 1 = .ok (.istore 5, 2) := by decide +kernel
theorem d12_3 : decode jdk_52_method_21_code 3 = .ok (.iload 5, 2) := by decide +kernel
theorem d12_5 : decode jdk_52_method_21_code 5 = .ok (.iload 4, 2) := by decide +kernel
theorem d12_7 : decode jdk_52_method_21_code 7 = .ok (.if_icmp .ge 37, 3) := by decide +kernel
theorem d12_10 : decode jdk_52_method_21_code 10 = .ok (.aload_n 0, 1) := by decide +kernel
theorem d12_11 : decode jdk_52_method_21_code 11 = .ok (.iload_n 1, 1) := by decide +kernel
theorem d12_12 : decode jdk_52_method_21_code 12 = .ok (.caload, 1) := by decide +kernel
theorem d12_13 : decode jdk_52_method_21_code 13 = .ok (.istore 6, 2) := by decide +kernel
theorem d12_15 : decode jdk_52_method_21_code 15 = .ok (.iload 6, 2) := by decide +kernel
theorem d12_17 : decode jdk_52_method_21_code 17 = .ok (.sipush 255, 3) := by decide +kernel
theorem d12_20 : decode jdk_52_method_21_code 20 = .ok (.if_icmp .le 6, 3) := by decide +kernel
theorem d12_26 : decode jdk_52_method_21_code 26 = .ok (.aload_n 2, 1) := by decide +kernel
theorem d12_27 : decode jdk_52_method_21_code 27 = .ok (.iload_n 3, 1) := by decide +kernel
theorem d12_28 : decode jdk_52_method_21_code 28 = .ok (.iload 6, 2) := by decide +kernel
theorem d12_30 : decode jdk_52_method_21_code 30 = .ok (.i2b, 1) := by decide +kernel
theorem d12_31 : decode jdk_52_method_21_code 31 = .ok (.bastore, 1) := by decide +kernel
theorem d12_32 : decode jdk_52_method_21_code 32 = .ok (.iinc 1 1, 3) := by decide +kernel
theorem d12_35 : decode jdk_52_method_21_code 35 = .ok (.iinc 3 1, 3) := by decide +kernel
theorem d12_38 : decode jdk_52_method_21_code 38 = .ok (.iinc 5 1, 3) := by decide +kernel
theorem d12_41 : decode jdk_52_method_21_code 41 = .ok (.goto (-38), 3) := by decide +kernel
theorem d12_44 : decode jdk_52_method_21_code 44 = .ok (.iload 4, 2) := by decide +kernel
theorem d12_46 : decode jdk_52_method_21_code 46 = .ok (.ireturn, 1) := by decide +kernel
theorem pn_12 : plainName "java/lang/StringUTF16" = true := by first | (simp [plainName, overriddenIn]; done) | decide +kernel
theorem ef_cmp5_1 (m : MethodId) (ca : Addr) (ba : Addr) : entryFrame m #[(.ref ca), (.int (0 : Int32)), (.ref ba), (.int (0 : Int32)), (.int (1 : Int32))] 7 = mkF m 0 #[.val (.ref ca), .val (.int (0 : Int32)), .val (.ref ba), .val (.int (0 : Int32)), .val (.int (1 : Int32)), .unset, .unset] [] := by first | (simp [entryFrame, mkF, argsToLocals, Value.category]; done) | rfl
def Q_cmp5_1 (Z : State) (ca : Addr) (ba : Addr) (kc : ClassId) (kb : ClassId) (c0 : Int32) (h0 : Heap) (n0 : Nat) (v : Option Value) (h : Heap) (L : List Loc) : Prop := v = some (.int (1 : Int32)) ∧ Fr n0 L ∧ Keep h0 h [ba] ∧ Arv Z h ba kb .byte (1 : Int32) [(.int (nar .byte (c0.toInt8.toInt32)))] (.int (0 : Int32))
set_option maxRecDepth 65536 in
set_option maxHeartbeats 40000000 in
theorem cmp5_1 (l : Launch) (Z : State) (a0 : Array Value) (hw : ∀ d ∈ tables_1, d.before a0 Z = true) (ws : List Jvm.Cond) (ca : Addr) (ba : Addr) (kc : ClassId) (kb : ClassId) (c0 : Int32) (h0 : Heap) (n0 : Nat) (Z0 : n0 ≤ h0.size) (V_ca : Arv Z h0 ca kc .char (1 : Int32) [(.int c0)] (.int (0 : Int32))) (V_ba : Arv Z h0 ba kb .byte (1 : Int32) [(.int (0 : Int32))] (.int (0 : Int32))) (g_ba : n0 ≤ ba) (neab : ca ≠ ba) (hc0 : ¬ (255 : Int32) < c0) :
    MetFree l (⟨"java/lang/StringUTF16", "compress", "([CI[BII)I"⟩ : MethodName) (head1 (Jvm.Cond.code (⟨"java/lang/StringUTF16", "compress", "([CI[BII)I"⟩ : MethodName) jdk_52_method_21_code 7 (some .int) :: ws) ({ frames := 0, cells := 0, slots := 0, locals := 0 } : Room)) (fun zz UU => zz = #[(.ref ca), (.int (0 : Int32)), (.ref ba), (.int (0 : Int32)), (.int (1 : Int32))] ∧ Z.Warmed39 UU.vm ∧ UU.heap = h0) (fun _ _ _ _ _ => True) (fun _ U o U' => ∃ v L, o = .returned v ∧ Q_cmp5_1 Z ca ba kc kb c0 h0 n0 v U'.heap L ∧ FrameEnd U o U' L ({ frames := 0, cells := 0, slots := 0, locals := 0 } : Room).cells ({ frames := 0, cells := 0, slots := 0, locals := 0 } : Room).slots) := by
  refine MetFree.of_bodySF (plainFor_of_name pn_12) hisR ?_
  intro p e s m args below meth c s₁ Bd hml0 hP hK
  obtain ⟨rfl, hZ, hh⟩ := hP
  have hx := Bd.exec
  have hby := Bd.bytes
  have hml : c.maxLocals = 7 := hml0
  have hown : s.vm.findClass "java/lang/StringUTF16" = some m.cls := findClass_of_methodNamed Bd.named
  have hnm := (name_of_methodNamed Bd.named Bd.method).1
  have hlk : meth.locks = false := BodyLoose.notSynchronized Bd
  have X0 : Stand p l e ({ frames := 0, cells := 0, slots := 0, locals := 0 } : Room) s m #[(.ref ca), (.int (0 : Int32)), (.ref ba), (.int (0 : Int32)), (.int (1 : Int32))] below meth c s₁ [] 0 0 := Stand.of_body Bd
  have e0 : s₁.heap = h0 := by rw [← hh, Bd.state]; rfl
  have N0 := Fr.nil n0
  show own_Go p.tables e below (Q_cmp5_1 Z ca ba kc kb c0 h0 n0) s ({ frames := 0, cells := 0, slots := 0, locals := 0 } : Room).cells ({ frames := 0, cells := 0, slots := 0, locals := 0 } : Room).slots s₁ (entryFrame m #[(.ref ca), (.int (0 : Int32)), (.ref ba), (.int (0 : Int32)), (.int (1 : Int32))] 7)
  rw [ef_cmp5_1 m ca ba]
  refine own_by (T' := s₁) (g' := (mkF m 1 #[.val (.ref ca), .val (.int (0 : Int32)), .val (.ref ba), .val (.int (0 : Int32)), .val (.int (1 : Int32)), .unset, .unset] [(.int (0 : Int32))])) (fun _ k => XS.iconst X0.here hx rfl (hb hby d12_0) k) ?_
  refine own_by (T' := s₁) (g' := (mkF m 3 #[.val (.ref ca), .val (.int (0 : Int32)), .val (.ref ba), .val (.int (0 : Int32)), .val (.int (1 : Int32)), .val (.int (0 : Int32)), .unset] [])) (fun _ k => XS.istore X0.here hx rfl (hb hby d12_1) rfl (l' := #[.val (.ref ca), .val (.int (0 : Int32)), .val (.ref ba), .val (.int (0 : Int32)), .val (.int (1 : Int32)), .val (.int (0 : Int32)), .unset]) rfl k) ?_
  refine own_by (T' := s₁) (g' := (mkF m 5 #[.val (.ref ca), .val (.int (0 : Int32)), .val (.ref ba), .val (.int (0 : Int32)), .val (.int (1 : Int32)), .val (.int (0 : Int32)), .unset] [(.int (0 : Int32))])) (fun _ k => XS.iload X0.here hx rfl (hb hby d12_3) rfl k) ?_
  refine own_by (T' := s₁) (g' := (mkF m 7 #[.val (.ref ca), .val (.int (0 : Int32)), .val (.ref ba), .val (.int (0 : Int32)), .val (.int (1 : Int32)), .val (.int (0 : Int32)), .unset] [(.int (1 : Int32)), (.int (0 : Int32))])) (fun _ k => XS.iload X0.here hx rfl (hb hby d12_5) rfl k) ?_
  refine own_by (T' := s₁) (g' := (mkF m 10 #[.val (.ref ca), .val (.int (0 : Int32)), .val (.ref ba), .val (.int (0 : Int32)), .val (.int (1 : Int32)), .val (.int (0 : Int32)), .unset] [])) (fun _ k => XS.icmpNo X0.here hx rfl (hb hby d12_7) rfl (tlt (by decide)).2.1 k) ?_
  refine own_by (T' := s₁) (g' := (mkF m 11 #[.val (.ref ca), .val (.int (0 : Int32)), .val (.ref ba), .val (.int (0 : Int32)), .val (.int (1 : Int32)), .val (.int (0 : Int32)), .unset] [(.ref ca)])) (fun _ k => XS.aloadN X0.here hx rfl (hb hby d12_10) rfl rfl k) ?_
  refine own_by (T' := s₁) (g' := (mkF m 12 #[.val (.ref ca), .val (.int (0 : Int32)), .val (.ref ba), .val (.int (0 : Int32)), .val (.int (1 : Int32)), .val (.int (0 : Int32)), .unset] [(.int (0 : Int32)), (.ref ca)])) (fun _ k => XS.iloadN X0.here hx rfl (hb hby d12_11) rfl k) ?_
  obtain ⟨cl21, Ar21, q21, S21, N_21, H21, G21⟩ := id V_ca
  have hin21 : ¬ ((0 : Int32) < 0 ∨ cl21.slots.size ≤ ((0 : Int32)).toNatClampNeg) := inb_of S21 ⟨by decide, by decide⟩
  refine own_by (T' := s₁) (g' := (mkF m 13 #[.val (.ref ca), .val (.int (0 : Int32)), .val (.ref ba), .val (.int (0 : Int32)), .val (.int (1 : Int32)), .val (.int (0 : Int32)), .unset] [(.int c0)])) (fun _ k => X0.caload hx (j := (0 : Int32)) (v := (.int c0)) (by rw [e0]; exact Ar21.1) (State.isArrayOf_alike hZ.alike Ar21.2.1) Ar21.2.2 hin21 (Has.at H21 hin21 rfl) (g := (mkF m 12 #[.val (.ref ca), .val (.int (0 : Int32)), .val (.ref ba), .val (.int (0 : Int32)), .val (.int (1 : Int32)), .val (.int (0 : Int32)), .unset] [(.int (0 : Int32)), (.ref ca)])) rfl rfl (hb hby d12_12) _ k) ?_
  refine own_by (T' := s₁) (g' := (mkF m 15 #[.val (.ref ca), .val (.int (0 : Int32)), .val (.ref ba), .val (.int (0 : Int32)), .val (.int (1 : Int32)), .val (.int (0 : Int32)), .val (.int c0)] [])) (fun _ k => XS.istore X0.here hx rfl (hb hby d12_13) rfl (l' := #[.val (.ref ca), .val (.int (0 : Int32)), .val (.ref ba), .val (.int (0 : Int32)), .val (.int (1 : Int32)), .val (.int (0 : Int32)), .val (.int c0)]) rfl k) ?_
  refine own_by (T' := s₁) (g' := (mkF m 17 #[.val (.ref ca), .val (.int (0 : Int32)), .val (.ref ba), .val (.int (0 : Int32)), .val (.int (1 : Int32)), .val (.int (0 : Int32)), .val (.int c0)] [(.int c0)])) (fun _ k => XS.iload X0.here hx rfl (hb hby d12_15) rfl k) ?_
  refine own_by (T' := s₁) (g' := (mkF m 20 #[.val (.ref ca), .val (.int (0 : Int32)), .val (.ref ba), .val (.int (0 : Int32)), .val (.int (1 : Int32)), .val (.int (0 : Int32)), .val (.int c0)] [(.int (255 : Int32)), (.int c0)])) (fun _ k => XS.sipush X0.here hx rfl (hb hby d12_17) k) ?_
  refine own_by (T' := s₁) (g' := (mkF m 26 #[.val (.ref ca), .val (.int (0 : Int32)), .val (.ref ba), .val (.int (0 : Int32)), .val (.int (1 : Int32)), .val (.int (0 : Int32)), .val (.int c0)] [])) (fun _ k => XS.icmpYes X0.here hx rfl (pc0 := 20) (pc' := 26) rfl (hb hby d12_20) rfl (flt hc0).2.2.2 (by decide) (by decide) k) ?_
  refine own_by (T' := s₁) (g' := (mkF m 27 #[.val (.ref ca), .val (.int (0 : Int32)), .val (.ref ba), .val (.int (0 : Int32)), .val (.int (1 : Int32)), .val (.int (0 : Int32)), .val (.int c0)] [(.ref ba)])) (fun _ k => XS.aloadN X0.here hx rfl (hb hby d12_26) rfl rfl k) ?_
  refine own_by (T' := s₁) (g' := (mkF m 28 #[.val (.ref ca), .val (.int (0 : Int32)), .val (.ref ba), .val (.int (0 : Int32)), .val (.int (1 : Int32)), .val (.int (0 : Int32)), .val (.int c0)] [(.int (0 : Int32)), (.ref ba)])) (fun _ k => XS.iloadN X0.here hx rfl (hb hby d12_27) rfl k) ?_
  refine own_by (T' := s₁) (g' := (mkF m 30 #[.val (.ref ca), .val (.int (0 : Int32)), .val (.ref ba), .val (.int (0 : Int32)), .val (.int (1 : Int32)), .val (.int (0 : Int32)), .val (.int c0)] [(.int c0), (.int (0 : Int32)), (.ref ba)])) (fun _ k => XS.iload X0.here hx rfl (hb hby d12_28) rfl k) ?_
  refine own_by (T' := s₁) (g' := (mkF m 31 #[.val (.ref ca), .val (.int (0 : Int32)), .val (.ref ba), .val (.int (0 : Int32)), .val (.int (1 : Int32)), .val (.int (0 : Int32)), .val (.int c0)] [(.int (c0.toInt8.toInt32)), (.int (0 : Int32)), (.ref ba)])) (fun _ k => XS.i2b X0.here hx rfl (hb hby d12_30) rfl k) ?_
  obtain ⟨cl22, Ar22, q22, S22, N_22, H22, G22⟩ := id V_ba
  have hin22 : ¬ ((0 : Int32) < 0 ∨ cl22.slots.size ≤ ((0 : Int32)).toNatClampNeg) := inb_of S22 ⟨by decide, by decide⟩
  obtain ⟨T23, h23, X23, e23, W23, st23⟩ := stB X0 hx hZ e0 Ar22 (j := (0 : Int32)) hin22 (g := (mkF m 31 #[.val (.ref ca), .val (.int (0 : Int32)), .val (.ref ba), .val (.int (0 : Int32)), .val (.int (1 : Int32)), .val (.int (0 : Int32)), .val (.int c0)] [(.int (c0.toInt8.toInt32)), (.int (0 : Int32)), (.ref ba)])) rfl rfl (hb hby d12_31)
  have V23 : Arv Z h23 ba kb .byte (1 : Int32) [(.int (nar .byte (c0.toInt8.toInt32)))] (.int (0 : Int32)) := Arv.set Ar22 q22 S22 N_22 H22 G22 (fits_nar_byte _) W23 0 rfl (Nat.le_of_ble_eq_true rfl)
  have K23 : Keep h0 h23 [ba] := Keep.wr (Keep.refl h0 [ba]) W23 (Or.inl (List.mem_of_getElem? (i := 0) rfl))
  have N23 := Fr.snoc X23 N0 g_ba
  refine own_by (T' := T23) (g' := (mkF m 32 #[.val (.ref ca), .val (.int (0 : Int32)), .val (.ref ba), .val (.int (0 : Int32)), .val (.int (1 : Int32)), .val (.int (0 : Int32)), .val (.int c0)] [])) (fun _ k => st23 _ k) ?_
  refine own_by (T' := T23) (g' := (mkF m 35 #[.val (.ref ca), .val (.int (1 : Int32)), .val (.ref ba), .val (.int (0 : Int32)), .val (.int (1 : Int32)), .val (.int (0 : Int32)), .val (.int c0)] [])) (fun _ k => XS.iinc X23.here hx rfl (hb hby d12_32) rfl (l' := #[.val (.ref ca), .val (.int (1 : Int32)), .val (.ref ba), .val (.int (0 : Int32)), .val (.int (1 : Int32)), .val (.int (0 : Int32)), .val (.int c0)]) rfl k) ?_
  refine own_by (T' := T23) (g' := (mkF m 38 #[.val (.ref ca), .val (.int (1 : Int32)), .val (.ref ba), .val (.int (1 : Int32)), .val (.int (1 : Int32)), .val (.int (0 : Int32)), .val (.int c0)] [])) (fun _ k => XS.iinc X23.here hx rfl (hb hby d12_35) rfl (l' := #[.val (.ref ca), .val (.int (1 : Int32)), .val (.ref ba), .val (.int (1 : Int32)), .val (.int (1 : Int32)), .val (.int (0 : Int32)), .val (.int c0)]) rfl k) ?_
  refine own_by (T' := T23) (g' := (mkF m 41 #[.val (.ref ca), .val (.int (1 : Int32)), .val (.ref ba), .val (.int (1 : Int32)), .val (.int (1 : Int32)), .val (.int (1 : Int32)), .val (.int c0)] [])) (fun _ k => XS.iinc X23.here hx rfl (hb hby d12_38) rfl (l' := #[.val (.ref ca), .val (.int (1 : Int32)), .val (.ref ba), .val (.int (1 : Int32)), .val (.int (1 : Int32)), .val (.int (1 : Int32)), .val (.int c0)]) rfl k) ?_
  refine own_by (T' := T23) (g' := (mkF m 3 #[.val (.ref ca), .val (.int (1 : Int32)), .val (.ref ba), .val (.int (1 : Int32)), .val (.int (1 : Int32)), .val (.int (1 : Int32)), .val (.int c0)] [])) (fun _ k => XS.goto X23.here hx rfl (pc0 := 41) (pc' := 3) rfl (hb hby d12_41) (by decide) (by decide) k) ?_
  refine own_by (T' := T23) (g' := (mkF m 5 #[.val (.ref ca), .val (.int (1 : Int32)), .val (.ref ba), .val (.int (1 : Int32)), .val (.int (1 : Int32)), .val (.int (1 : Int32)), .val (.int c0)] [(.int (1 : Int32))])) (fun _ k => XS.iload X23.here hx rfl (hb hby d12_3) rfl k) ?_
  refine own_by (T' := T23) (g' := (mkF m 7 #[.val (.ref ca), .val (.int (1 : Int32)), .val (.ref ba), .val (.int (1 : Int32)), .val (.int (1 : Int32)), .val (.int (1 : Int32)), .val (.int c0)] [(.int (1 : Int32)), (.int (1 : Int32))])) (fun _ k => XS.iload X23.here hx rfl (hb hby d12_5) rfl k) ?_
  refine own_by (T' := T23) (g' := (mkF m 44 #[.val (.ref ca), .val (.int (1 : Int32)), .val (.ref ba), .val (.int (1 : Int32)), .val (.int (1 : Int32)), .val (.int (1 : Int32)), .val (.int c0)] [])) (fun _ k => XS.icmpYes X23.here hx rfl (pc0 := 7) (pc' := 44) rfl (hb hby d12_7) rfl (flt (by decide)).2.1 (by decide) (by decide) k) ?_
  refine own_by (T' := T23) (g' := (mkF m 46 #[.val (.ref ca), .val (.int (1 : Int32)), .val (.ref ba), .val (.int (1 : Int32)), .val (.int (1 : Int32)), .val (.int (1 : Int32)), .val (.int c0)] [(.int (1 : Int32))])) (fun _ k => XS.iload X23.here hx rfl (hb hby d12_44) rfl k) ?_
  refine own_ret X23 hlk (v := some (.int (1 : Int32))) (fun h => by rw [Bd.returns] at h; cases h) (fun fs hr => retI X23 hx Bd.returns (hb hby d12_46) hr) ?_ (by decide) (by decide)
  rw [e23]
  exact ⟨rfl, N23, K23, V23⟩
theorem d11_0 : decode jdk_52_method_16_code 0 = .ok (.iload_n 2, 1) := by decide +kernel
theorem d11_1 : decode jdk_52_method_16_code 1 = .ok (.newarray .byte, 2) := by decide +kernel
theorem d11_3 : decode jdk_52_method_16_code 3 = .ok (.astore_n 3, 1) := by decide +kernel
theorem d11_4 : decode jdk_52_method_16_code 4 = .ok (.aload_n 0, 1) := by decide +kernel
theorem d11_5 : decode jdk_52_method_16_code 5 = .ok (.iload_n 1, 1) := by decide +kernel
theorem d11_6 : decode jdk_52_method_16_code 6 = .ok (.aload_n 3, 1) := by decide +kernel
theorem d11_7 : decode jdk_52_method_16_code 7 = .ok (.iconst 0, 1) := by decide +kernel
theorem d11_8 : decode jdk_52_method_16_code 8 = .ok (.iload_n 2, 1) := by decide +kernel
theorem d11_9 : decode jdk_52_method_16_code 9 = .ok (.invokestatic 115, 3) := by decide +kernel
theorem d11_12 : decode jdk_52_method_16_code 12 = .ok (.istore 4, 2) := by decide +kernel
theorem d11_14 : decode jdk_52_method_16_code 14 = .ok (.iload 4, 2) := by decide +kernel
theorem d11_16 : decode jdk_52_method_16_code 16 = .ok (.iload_n 2, 1) := by decide +kernel
theorem d11_17 : decode jdk_52_method_16_code 17 = .ok (.if_icmp .eq 40, 3) := by decide +kernel
theorem d11_57 : decode jdk_52_method_16_code 57 = .ok (.aload_n 3, 1) := by decide +kernel
theorem d11_58 : decode jdk_52_method_16_code 58 = .ok (.areturn, 1) := by decide +kernel
theorem pn_11 : plainName "java/lang/StringUTF16" = true := by first | (simp [plainName, overriddenIn]; done) | decide +kernel
theorem ef_cmp3_1 (m : MethodId) (ca : Addr) : entryFrame m #[(.ref ca), (.int (0 : Int32)), (.int (1 : Int32))] 6 = mkF m 0 #[.val (.ref ca), .val (.int (0 : Int32)), .val (.int (1 : Int32)), .unset, .unset, .unset] [] := by first | (simp [entryFrame, mkF, argsToLocals, Value.category]; done) | rfl
def Q_cmp3_1 (Z : State) (ca : Addr) (kc : ClassId) (c0 : Int32) (h0 : Heap) (n0 : Nat) (v : Option Value) (h : Heap) (L : List Loc) : Prop := ∃ (t : Addr) (kb : ClassId), v = some (.ref t) ∧ Fr n0 L ∧ Keep h0 h [] ∧ h0.size ≤ t ∧ Arv Z h t kb .byte (1 : Int32) [(.int (nar .byte (c0.toInt8.toInt32)))] (.int (0 : Int32))
set_option maxRecDepth 65536 in
set_option maxHeartbeats 40000000 in
theorem cmp3_1 (l : Launch) (Z : State) (a0 : Array Value) (hw : ∀ d ∈ tables_1, d.before a0 Z = true) (ws : List Jvm.Cond) (ca : Addr) (kc : ClassId) (c0 : Int32) (h0 : Heap) (n0 : Nat) (Z0 : n0 ≤ h0.size) (V_ca : Arv Z h0 ca kc .char (1 : Int32) [(.int c0)] (.int (0 : Int32))) (hc0 : ¬ (255 : Int32) < c0) :
    MetFree l (⟨"java/lang/StringUTF16", "compress", "([CII)[B"⟩ : MethodName) (head1 (Jvm.Cond.code (⟨"java/lang/StringUTF16", "compress", "([CII)[B"⟩ : MethodName) jdk_52_method_16_code 6 (some (.array .byte)) :: ws) ({ frames := 1, cells := 1, slots := 1, locals := 18 } : Room)) (fun zz UU => zz = #[(.ref ca), (.int (0 : Int32)), (.int (1 : Int32))] ∧ Z.Warmed39 UU.vm ∧ UU.heap = h0) (fun _ _ _ _ _ => True) (fun _ U o U' => ∃ v L, o = .returned v ∧ Q_cmp3_1 Z ca kc c0 h0 n0 v U'.heap L ∧ FrameEnd U o U' L ({ frames := 1, cells := 1, slots := 1, locals := 18 } : Room).cells ({ frames := 1, cells := 1, slots := 1, locals := 18 } : Room).slots) := by
  refine MetFree.of_bodySF (plainFor_of_name pn_11) hisR ?_
  intro p e s m args below meth c s₁ Bd hml0 hP hK
  obtain ⟨rfl, hZ, hh⟩ := hP
  have hx := Bd.exec
  have hby := Bd.bytes
  have hml : c.maxLocals = 6 := hml0
  have hown : s.vm.findClass "java/lang/StringUTF16" = some m.cls := findClass_of_methodNamed Bd.named
  have hnm := (name_of_methodNamed Bd.named Bd.method).1
  have hlk : meth.locks = false := BodyLoose.notSynchronized Bd
  have X0 : Stand p l e ({ frames := 1, cells := 1, slots := 1, locals := 18 } : Room) s m #[(.ref ca), (.int (0 : Int32)), (.int (1 : Int32))] below meth c s₁ [] 0 0 := Stand.of_body Bd
  have e0 : s₁.heap = h0 := by rw [← hh, Bd.state]; rfl
  have N0 := Fr.nil n0
  show own_Go p.tables e below (Q_cmp3_1 Z ca kc c0 h0 n0) s ({ frames := 1, cells := 1, slots := 1, locals := 18 } : Room).cells ({ frames := 1, cells := 1, slots := 1, locals := 18 } : Room).slots s₁ (entryFrame m #[(.ref ca), (.int (0 : Int32)), (.int (1 : Int32))] 6)
  rw [ef_cmp3_1 m ca]
  refine own_by (T' := s₁) (g' := (mkF m 1 #[.val (.ref ca), .val (.int (0 : Int32)), .val (.int (1 : Int32)), .unset, .unset, .unset] [(.int (1 : Int32))])) (fun _ k => XS.iloadN X0.here hx rfl (hb hby d11_0) rfl k) ?_
  obtain ⟨T21, h21, k21, X21, e21, E21, A21, st21⟩ := newP X0 hx hZ (hw _ (List.mem_of_getElem? (i := 19) rfl)) e0 (g := (mkF m 1 #[.val (.ref ca), .val (.int (0 : Int32)), .val (.int (1 : Int32)), .unset, .unset, .unset] [(.int (1 : Int32))])) rfl (hb hby d11_1) rfl (by decide) (cap := 1) (by decide) (by decide) (by decide) (by decide)
  obtain ⟨b21, g21⟩ : ∃ z, z = h0.size := ⟨_, rfl⟩
  rw [← g21] at A21 st21
  have V_b21 : Arv Z h21 b21 k21 .byte (1 : Int32) [(.int (0 : Int32))] (.int (0 : Int32)) := (Arv.new A21 (by decide)).pad (pad_rep [] (.int (0 : Int32)) 1)
  have g_b21 : n0 ≤ b21 := Nat.le_trans Z0 (Nat.le_of_eq g21.symm)
  have sz_b21 : h0.size ≤ b21 := Nat.le_trans (Keep.refl h0 []).1 (Nat.le_of_eq g21.symm)
  have K21 : Keep h0 h21 [] := Keep.ext (Keep.refl h0 []) E21
  refine own_by (T' := T21) (g' := (mkF m 3 #[.val (.ref ca), .val (.int (0 : Int32)), .val (.int (1 : Int32)), .unset, .unset, .unset] [(.ref b21)])) (fun _ k => st21 _ k) ?_
  refine own_by (T' := T21) (g' := (mkF m 4 #[.val (.ref ca), .val (.int (0 : Int32)), .val (.int (1 : Int32)), .val (.ref b21), .unset, .unset] [])) (fun _ k => XS.astoreN X21.here hx rfl (hb hby d11_3) rfl rfl (l' := #[.val (.ref ca), .val (.int (0 : Int32)), .val (.int (1 : Int32)), .val (.ref b21), .unset, .unset]) rfl k) ?_
  refine own_by (T' := T21) (g' := (mkF m 5 #[.val (.ref ca), .val (.int (0 : Int32)), .val (.int (1 : Int32)), .val (.ref b21), .unset, .unset] [(.ref ca)])) (fun _ k => XS.aloadN X21.here hx rfl (hb hby d11_4) rfl rfl k) ?_
  refine own_by (T' := T21) (g' := (mkF m 6 #[.val (.ref ca), .val (.int (0 : Int32)), .val (.int (1 : Int32)), .val (.ref b21), .unset, .unset] [(.int (0 : Int32)), (.ref ca)])) (fun _ k => XS.iloadN X21.here hx rfl (hb hby d11_5) rfl k) ?_
  refine own_by (T' := T21) (g' := (mkF m 7 #[.val (.ref ca), .val (.int (0 : Int32)), .val (.int (1 : Int32)), .val (.ref b21), .unset, .unset] [(.ref b21), (.int (0 : Int32)), (.ref ca)])) (fun _ k => XS.aloadN X21.here hx rfl (hb hby d11_6) rfl rfl k) ?_
  refine own_by (T' := T21) (g' := (mkF m 8 #[.val (.ref ca), .val (.int (0 : Int32)), .val (.int (1 : Int32)), .val (.ref b21), .unset, .unset] [(.int (0 : Int32)), (.ref b21), (.int (0 : Int32)), (.ref ca)])) (fun _ k => XS.iconst X21.here hx rfl (hb hby d11_7) k) ?_
  refine own_by (T' := T21) (g' := (mkF m 9 #[.val (.ref ca), .val (.int (0 : Int32)), .val (.int (1 : Int32)), .val (.ref b21), .unset, .unset] [(.int (1 : Int32)), (.int (0 : Int32)), (.ref b21), (.int (0 : Int32)), (.ref ca)])) (fun _ k => XS.iloadN X21.here hx rfl (hb hby d11_8) rfl k) ?_
  obtain ⟨_, _, ⟨T22, L22, k22, n22⟩, -, X22, ⟨Lc22, hQ22, l22, y22, z22⟩, st22⟩ := Jvm.LawKit.callS X21 hx (y := (⟨"java/lang/StringUTF16", "compress", "([CI[BII)I"⟩ : MethodName)) hown (mvT hZ (hw _ (List.mem_of_getElem? (i := 66) rfl))) (mvT hZ (hw _ (List.mem_of_getElem? (i := 67) rfl))) (mvT hZ (hw _ (List.mem_of_getElem? (i := 64) rfl))) (mvT hZ (hw _ (List.mem_of_getElem? (i := 68) rfl))) (by decide) (backOf (W := 0) (cmp5_1 l Z a0 hw [] ca b21 kc k21 c0 h21 n0 (Nat.le_trans Z0 E21.1) (Arv.ext V_ca E21) V_b21 g_b21 (Nat.ne_of_lt (Nat.lt_of_lt_of_le V_ca.lt (Nat.le_of_eq g21.symm))) hc0) hZ (hw _ (List.mem_of_getElem? (i := 68) rfl)) (hw _ (List.mem_of_getElem? (i := 64) rfl)) (by decide) (by decide)) (g := (mkF m 9 #[.val (.ref ca), .val (.int (0 : Int32)), .val (.int (1 : Int32)), .val (.ref b21), .unset, .unset] [(.int (1 : Int32)), (.int (0 : Int32)), (.ref b21), (.int (0 : Int32)), (.ref ca)])) rfl (by rw [hml]; rfl) (argsL := [(.ref ca), (.int (0 : Int32)), (.ref b21), (.int (0 : Int32)), (.int (1 : Int32))]) (rest := []) (lenOf pd_0 rfl) rfl (by show 2 * 0 + _ ≤ _; exact Nat.le_of_eq rfl) (hb hby d11_9) (fun _ _ => ⟨rfl, e21, (by decide : (0 + 1) + 0 ≤ _), (by decide : (0 + 1) + 0 ≤ _)⟩)
  dsimp only [Pt.U, Pt.locs, Pt.cells, Pt.slots] at X22 l22 y22 z22 st22 hQ22
  subst l22 y22 z22
  obtain ⟨rfl, N22q, K22, V5_22⟩ := hQ22
  have N22 := Fr.app N0 N22q
  have KK22 : Keep h0 T22.heap [] := Keep.trans K21 K22 (allS (Or.inr sz_b21) all0)
  refine own_by (T' := T22) (g' := (mkF m 12 #[.val (.ref ca), .val (.int (0 : Int32)), .val (.int (1 : Int32)), .val (.ref b21), .unset, .unset] [(.int (1 : Int32))])) (fun _ k => st22 _ k) ?_
  refine own_by (T' := T22) (g' := (mkF m 14 #[.val (.ref ca), .val (.int (0 : Int32)), .val (.int (1 : Int32)), .val (.ref b21), .val (.int (1 : Int32)), .unset] [])) (fun _ k => XS.istore X22.here hx rfl (hb hby d11_12) rfl (l' := #[.val (.ref ca), .val (.int (0 : Int32)), .val (.int (1 : Int32)), .val (.ref b21), .val (.int (1 : Int32)), .unset]) rfl k) ?_
  refine own_by (T' := T22) (g' := (mkF m 16 #[.val (.ref ca), .val (.int (0 : Int32)), .val (.int (1 : Int32)), .val (.ref b21), .val (.int (1 : Int32)), .unset] [(.int (1 : Int32))])) (fun _ k => XS.iload X22.here hx rfl (hb hby d11_14) rfl k) ?_
  refine own_by (T' := T22) (g' := (mkF m 17 #[.val (.ref ca), .val (.int (0 : Int32)), .val (.int (1 : Int32)), .val (.ref b21), .val (.int (1 : Int32)), .unset] [(.int (1 : Int32)), (.int (1 : Int32))])) (fun _ k => XS.iloadN X22.here hx rfl (hb hby d11_16) rfl k) ?_
  refine own_by (T' := T22) (g' := (mkF m 57 #[.val (.ref ca), .val (.int (0 : Int32)), .val (.int (1 : Int32)), .val (.ref b21), .val (.int (1 : Int32)), .unset] [])) (fun _ k => XS.icmpYes X22.here hx rfl (pc0 := 17) (pc' := 57) rfl (hb hby d11_17) rfl (teq (by decide)).1 (by decide) (by decide) k) ?_
  refine own_by (T' := T22) (g' := (mkF m 58 #[.val (.ref ca), .val (.int (0 : Int32)), .val (.int (1 : Int32)), .val (.ref b21), .val (.int (1 : Int32)), .unset] [(.ref b21)])) (fun _ k => XS.aloadN X22.here hx rfl (hb hby d11_57) rfl rfl k) ?_
  refine own_ret X22 hlk (v := some (.ref b21)) (fun h => by rw [Bd.returns] at h; cases h) (fun fs hr => retOut X22 hx Bd.returns rfl (Or.inr (Or.inr (Or.inr (Or.inr ⟨rfl, rfl, rfl⟩)))) (hb hby d11_58) hr) ?_ (by decide) (by decide)
  exact ⟨_, _, rfl, N22, KK22, sz_b21, V5_22⟩
theorem d13_0 : decode jdk_52_method_15_code 0 = .ok (.iload_n 1, 1) := by decide +kernel
theorem d13_1 : decode jdk_52_method_15_code 1 = .ok (.aload_n 0, 1) := by decide +kernel
theorem d13_2 : decode jdk_52_method_15_code 2 = .ok (.arraylength, 1) := by decide +kernel
theorem d13_3 : decode jdk_52_method_15_code 3 = .ok (.isub, 1) := by decide +kernel
theorem d13_4 : decode jdk_52_method_15_code 4 = .ok (.bipush 31, 2) := by decide +kernel
theorem d13_6 : decode jdk_52_method_15_code 6 = .ok (.iushr, 1) := by decide +kernel
theorem d13_7 : decode jdk_52_method_15_code 7 = .ok (.i2b, 1) := by decide +kernel
theorem d13_8 : decode jdk_52_method_15_code 8 = .ok (.ireturn, 1) := by decide +kernel
theorem pn_13 : plainName "java/lang/StringUTF16" = true := by first | (simp [plainName, overriddenIn]; done) | decide +kernel
theorem ef_cod_1 (m : MethodId) (ba : Addr) : entryFrame m #[(.ref ba), (.int (1 : Int32))] 2 = mkF m 0 #[.val (.ref ba), .val (.int (1 : Int32))] [] := by first | (simp [entryFrame, mkF, argsToLocals, Value.category]; done) | rfl
def Q_cod_1 (Z : State) (ba : Addr) (kb : ClassId) (c0 : Int32) (h0 : Heap) (n0 : Nat) (v : Option Value) (h : Heap) (L : List Loc) : Prop := v = some (.int (0 : Int32)) ∧ Fr n0 L ∧ h = h0
set_option maxRecDepth 65536 in
set_option maxHeartbeats 40000000 in
theorem cod_1 (l : Launch) (Z : State) (a0 : Array Value) (hw : ∀ d ∈ tables_1, d.before a0 Z = true) (ws : List Jvm.Cond) (ba : Addr) (kb : ClassId) (c0 : Int32) (h0 : Heap) (n0 : Nat) (Z0 : n0 ≤ h0.size) (V_ba : Arv Z h0 ba kb .byte (1 : Int32) [(.int (nar .byte (c0.toInt8.toInt32)))] (.int (0 : Int32))) :
    MetFree l (⟨"java/lang/StringUTF16", "coderFromArrayLen", "([BI)B"⟩ : MethodName) (head1 (Jvm.Cond.code (⟨"java/lang/StringUTF16", "coderFromArrayLen", "([BI)B"⟩ : MethodName) jdk_52_method_15_code 2 (some .byte) :: ws) ({ frames := 0, cells := 0, slots := 0, locals := 0 } : Room)) (fun zz UU => zz = #[(.ref ba), (.int (1 : Int32))] ∧ Z.Warmed39 UU.vm ∧ UU.heap = h0) (fun _ _ _ _ _ => True) (fun _ U o U' => ∃ v L, o = .returned v ∧ Q_cod_1 Z ba kb c0 h0 n0 v U'.heap L ∧ FrameEnd U o U' L ({ frames := 0, cells := 0, slots := 0, locals := 0 } : Room).cells ({ frames := 0, cells := 0, slots := 0, locals := 0 } : Room).slots) := by
  refine MetFree.of_bodySF (plainFor_of_name pn_13) hisR ?_
  intro p e s m args below meth c s₁ Bd hml0 hP hK
  obtain ⟨rfl, hZ, hh⟩ := hP
  have hx := Bd.exec
  have hby := Bd.bytes
  have hml : c.maxLocals = 2 := hml0
  have hown : s.vm.findClass "java/lang/StringUTF16" = some m.cls := findClass_of_methodNamed Bd.named
  have hnm := (name_of_methodNamed Bd.named Bd.method).1
  have hlk : meth.locks = false := BodyLoose.notSynchronized Bd
  have X0 : Stand p l e ({ frames := 0, cells := 0, slots := 0, locals := 0 } : Room) s m #[(.ref ba), (.int (1 : Int32))] below meth c s₁ [] 0 0 := Stand.of_body Bd
  have e0 : s₁.heap = h0 := by rw [← hh, Bd.state]; rfl
  have N0 := Fr.nil n0
  show own_Go p.tables e below (Q_cod_1 Z ba kb c0 h0 n0) s ({ frames := 0, cells := 0, slots := 0, locals := 0 } : Room).cells ({ frames := 0, cells := 0, slots := 0, locals := 0 } : Room).slots s₁ (entryFrame m #[(.ref ba), (.int (1 : Int32))] 2)
  rw [ef_cod_1 m ba]
  refine own_by (T' := s₁) (g' := (mkF m 1 #[.val (.ref ba), .val (.int (1 : Int32))] [(.int (1 : Int32))])) (fun _ k => XS.iloadN X0.here hx rfl (hb hby d13_0) rfl k) ?_
  refine own_by (T' := s₁) (g' := (mkF m 2 #[.val (.ref ba), .val (.int (1 : Int32))] [(.ref ba), (.int (1 : Int32))])) (fun _ k => XS.aloadN X0.here hx rfl (hb hby d13_1) rfl rfl k) ?_
  obtain ⟨cl21, Ar21, q21, S21, N_21, H21, G21⟩ := id V_ba
  refine own_by (T' := s₁) (g' := (mkF m 3 #[.val (.ref ba), .val (.int (1 : Int32))] [(.int (1 : Int32)), (.int (1 : Int32))])) (fun _ k => X0.arraylength hx (by rw [e0]; exact Ar21.1) (State.isArrayOf_alike hZ.alike Ar21.2.1) (g := (mkF m 2 #[.val (.ref ba), .val (.int (1 : Int32))] [(.ref ba), (.int (1 : Int32))])) rfl rfl (hb hby d13_2) _ (by rw [len_of S21 N_21]; exact k)) ?_
  refine own_by (T' := s₁) (g' := (mkF m 4 #[.val (.ref ba), .val (.int (1 : Int32))] [(.int (0 : Int32))])) (fun _ k => XS.isub X0.here hx rfl (hb hby d13_3) rfl k) ?_
  refine own_by (T' := s₁) (g' := (mkF m 6 #[.val (.ref ba), .val (.int (1 : Int32))] [(.int (31 : Int32)), (.int (0 : Int32))])) (fun _ k => XS.bipush X0.here hx rfl (hb hby d13_4) k) ?_
  refine own_by (T' := s₁) (g' := (mkF m 7 #[.val (.ref ba), .val (.int (1 : Int32))] [(.int (0 : Int32))])) (fun _ k => XS.iushr X0.here hx rfl (hb hby d13_6) rfl k) ?_
  refine own_by (T' := s₁) (g' := (mkF m 8 #[.val (.ref ba), .val (.int (1 : Int32))] [(.int (0 : Int32))])) (fun _ k => XS.i2b X0.here hx rfl (hb hby d13_7) rfl k) ?_
  refine own_ret X0 hlk (v := some (.int (0 : Int32))) (fun h => by rw [Bd.returns] at h; cases h) (fun fs hr => retN X0 hx (t := .byte) Bd.returns (by simp) (hb hby d13_8) hr) ?_ (by decide) (by decide)
  rw [e0]
  exact ⟨rfl, N0, rfl⟩
theorem d3_0 : decode jdk_42_method_149_code 0 = .ok (.aload_n 0, 1) := by decide +kernel
theorem d3_1 : decode jdk_42_method_149_code 1 = .ok (.invokespecial 1, 3) := by decide +kernel
theorem d3_4 : decode jdk_42_method_149_code 4 = .ok (.iload_n 3, 1) := by decide +kernel
theorem d3_5 : decode jdk_42_method_149_code 5 = .ok (.ifCond .ne 22, 3) := by decide +kernel
theorem d3_27 : decode jdk_42_method_149_code 27 = .ok (.getstatic 38, 3) := by decide +kernel
theorem d3_30 : decode jdk_42_method_149_code 30 = .ok (.ifCond .eq 28, 3) := by decide +kernel
theorem d3_33 : decode jdk_42_method_149_code 33 = .ok (.aload_n 1, 1) := by decide +kernel
theorem d3_34 : decode jdk_42_method_149_code 34 = .ok (.iload_n 2, 1) := by decide +kernel
theorem d3_35 : decode jdk_42_method_149_code 35 = .ok (.iload_n 3, 1) := by decide +kernel
theorem d3_36 : decode jdk_42_method_149_code 36 = .ok (.invokestatic 177, 3) := by decide +kernel
theorem d3_39 : decode jdk_42_method_149_code 39 = .ok (.astore 5, 2) := by decide +kernel
theorem d3_41 : decode jdk_42_method_149_code 41 = .ok (.aload_n 0, 1) := by decide +kernel
theorem d3_42 : decode jdk_42_method_149_code 42 = .ok (.aload 5, 2) := by decide +kernel
theorem d3_44 : decode jdk_42_method_149_code 44 = .ok (.iload_n 3, 1) := by decide +kernel
theorem d3_45 : decode jdk_42_method_149_code 45 = .ok (.invokestatic 47, 3) := by decide +kernel
theorem d3_48 : decode jdk_42_method_149_code 48 = .ok (.putfield 15, 3) := by decide +kernel
theorem d3_51 : decode jdk_42_method_149_code 51 = .ok (.aload_n 0, 1) := by decide +kernel
theorem d3_52 : decode jdk_42_method_149_code 52 = .ok (.aload 5, 2) := by decide +kernel
theorem d3_54 : decode jdk_42_method_149_code 54 = .ok (.putfield 9, 3) := by decide +kernel
theorem d3_57 : decode jdk_42_method_149_code 57 = .ok (.return_, 1) := by decide +kernel
theorem pn_3 : plainName "java/lang/String" = true := by first | (simp [plainName, overriddenIn]; done) | decide +kernel
theorem ef_sin4_1 (m : MethodId) (a : Addr) (ca : Addr) : entryFrame m #[(.ref a), (.ref ca), (.int (0 : Int32)), (.int (1 : Int32)), .null] 6 = mkF m 0 #[.val (.ref a), .val (.ref ca), .val (.int (0 : Int32)), .val (.int (1 : Int32)), .val .null, .unset] [] := by first | (simp [entryFrame, mkF, argsToLocals, Value.category]; done) | rfl
def Q_sin4_1 (Z : State) (a : Addr) (ca : Addr) (kc : ClassId) (cs : Int32) (c0 : Int32) (h0 : Heap) (n0 : Nat) (v : Option Value) (h : Heap) (L : List Loc) : Prop := v = none ∧ Fr n0 L ∧ Keep h0 h [a] ∧ Fld Z h a "java/lang/String" "coder" "B" (.int (0 : Int32)) ∧ ∃ (t : Addr) (kb : ClassId), h0.size ≤ t ∧ Fld Z h a "java/lang/String" "value" "[B" (.ref t) ∧ Arv Z h t kb .byte (1 : Int32) [(.int (nar .byte (c0.toInt8.toInt32)))] (.int (0 : Int32))
set_option maxRecDepth 65536 in
set_option maxHeartbeats 40000000 in
theorem sin4_1 (l : Launch) (Z : State) (a0 : Array Value) (hw : ∀ d ∈ tables_1, d.before a0 Z = true) (ws : List Jvm.Cond) (a : Addr) (ca : Addr) (kc : ClassId) (cs : Int32) (c0 : Int32) (h0 : Heap) (n0 : Nat) (Z0 : n0 ≤ h0.size) (E_a : Exa Z h0 a "java/lang/String") (F_value_a : Fld Z h0 a "java/lang/String" "value" "[B" .null) (F_coder_a : Fld Z h0 a "java/lang/String" "coder" "B" (.int (0 : Int32))) (g_a : n0 ≤ a) (V_ca : Arv Z h0 ca kc .char (1 : Int32) [(.int c0)] (.int (0 : Int32))) (S_CS : Sta Z h0 "java/lang/String" "COMPACT_STRINGS" "Z" (.int cs)) (hcs : ¬ cs = (0 : Int32)) (hc0 : ¬ (255 : Int32) < c0) :
    MetFree l (⟨"java/lang/String", "<init>", "([CIILjava/lang/Void;)V"⟩ : MethodName) (head1 (Jvm.Cond.code (⟨"java/lang/String", "<init>", "([CIILjava/lang/Void;)V"⟩ : MethodName) jdk_42_method_149_code 6 none :: ws) ({ frames := 2, cells := 1, slots := 1, locals := 35 } : Room)) (fun zz UU => zz = #[(.ref a), (.ref ca), (.int (0 : Int32)), (.int (1 : Int32)), .null] ∧ Z.Warmed39 UU.vm ∧ UU.heap = h0) (fun _ _ _ _ _ => True) (fun _ U o U' => ∃ v L, o = .returned v ∧ Q_sin4_1 Z a ca kc cs c0 h0 n0 v U'.heap L ∧ FrameEnd U o U' L ({ frames := 2, cells := 1, slots := 1, locals := 35 } : Room).cells ({ frames := 2, cells := 1, slots := 1, locals := 35 } : Room).slots) := by
  refine MetFree.of_bodySF (plainFor_of_name pn_3) hisR ?_
  intro p e s m args below meth c s₁ Bd hml0 hP hK
  obtain ⟨rfl, hZ, hh⟩ := hP
  have hx := Bd.exec
  have hby := Bd.bytes
  have hml : c.maxLocals = 6 := hml0
  have hown : s.vm.findClass "java/lang/String" = some m.cls := findClass_of_methodNamed Bd.named
  have hnm := (name_of_methodNamed Bd.named Bd.method).1
  have hlk : meth.locks = false := BodyLoose.notSynchronized Bd
  have X0 : Stand p l e ({ frames := 2, cells := 1, slots := 1, locals := 35 } : Room) s m #[(.ref a), (.ref ca), (.int (0 : Int32)), (.int (1 : Int32)), .null] below meth c s₁ [] 0 0 := Stand.of_body Bd
  have e0 : s₁.heap = h0 := by rw [← hh, Bd.state]; rfl
  have N0 := Fr.nil n0
  show own_Go p.tables e below (Q_sin4_1 Z a ca kc cs c0 h0 n0) s ({ frames := 2, cells := 1, slots := 1, locals := 35 } : Room).cells ({ frames := 2, cells := 1, slots := 1, locals := 35 } : Room).slots s₁ (entryFrame m #[(.ref a), (.ref ca), (.int (0 : Int32)), (.int (1 : Int32)), .null] 6)
  rw [ef_sin4_1 m a ca]
  refine own_by (T' := s₁) (g' := (mkF m 1 #[.val (.ref a), .val (.ref ca), .val (.int (0 : Int32)), .val (.int (1 : Int32)), .val .null, .unset] [(.ref a)])) (fun _ k => XS.aloadN X0.here hx rfl (hb hby d3_0) rfl rfl k) ?_
  obtain ⟨T21, X21, e21, st21⟩ := initO X0 hx hZ hown (hw _ (List.mem_of_getElem? (i := 15) rfl)) (hw _ (List.mem_of_getElem? (i := 16) rfl)) (hw _ (List.mem_of_getElem? (i := 17) rfl)) e0 (g := (mkF m 1 #[.val (.ref a), .val (.ref ca), .val (.int (0 : Int32)), .val (.int (1 : Int32)), .val .null, .unset] [(.ref a)])) rfl (by rw [hml]; rfl) rfl (hb hby d3_1) (by decide) (W := 0) (by show 2 * 0 + _ ≤ _; exact Nat.le_of_eq rfl) (by decide)
  refine own_by (T' := T21) (g' := (mkF m 4 #[.val (.ref a), .val (.ref ca), .val (.int (0 : Int32)), .val (.int (1 : Int32)), .val .null, .unset] [])) (fun _ k => st21 _ k) ?_
  refine own_by (T' := T21) (g' := (mkF m 5 #[.val (.ref a), .val (.ref ca), .val (.int (0 : Int32)), .val (.int (1 : Int32)), .val .null, .unset] [(.int (1 : Int32))])) (fun _ k => XS.iloadN X21.here hx rfl (hb hby d3_4) rfl k) ?_
  refine own_by (T' := T21) (g' := (mkF m 27 #[.val (.ref a), .val (.ref ca), .val (.int (0 : Int32)), .val (.int (1 : Int32)), .val .null, .unset] [])) (fun _ k => XS.ifYes X21.here hx rfl (pc0 := 5) (pc' := 27) rfl (hb hby d3_5) rfl ((if0 _ _).trans (feq (by decide)).2) (by decide) (by decide) k) ?_
  obtain ⟨T22, X22, e22, st22⟩ := getS2 X21 hx hZ hown (host := "") (Or.inl (hw _ (List.mem_of_getElem? (i := 61) rfl))) Via.refl e21 S_CS (g := (mkF m 27 #[.val (.ref a), .val (.ref ca), .val (.int (0 : Int32)), .val (.int (1 : Int32)), .val .null, .unset] [])) rfl (hb hby d3_27)
  refine own_by (T' := T22) (g' := (mkF m 30 #[.val (.ref a), .val (.ref ca), .val (.int (0 : Int32)), .val (.int (1 : Int32)), .val .null, .unset] [(.int cs)])) (fun _ k => st22 _ k) ?_
  refine own_by (T' := T22) (g' := (mkF m 33 #[.val (.ref a), .val (.ref ca), .val (.int (0 : Int32)), .val (.int (1 : Int32)), .val .null, .unset] [])) (fun _ k => XS.ifNo X22.here hx rfl (hb hby d3_30) rfl ((if0 _ _).trans (feq hcs).1) k) ?_
  refine own_by (T' := T22) (g' := (mkF m 34 #[.val (.ref a), .val (.ref ca), .val (.int (0 : Int32)), .val (.int (1 : Int32)), .val .null, .unset] [(.ref ca)])) (fun _ k => XS.aloadN X22.here hx rfl (hb hby d3_33) rfl rfl k) ?_
  refine own_by (T' := T22) (g' := (mkF m 35 #[.val (.ref a), .val (.ref ca), .val (.int (0 : Int32)), .val (.int (1 : Int32)), .val .null, .unset] [(.int (0 : Int32)), (.ref ca)])) (fun _ k => XS.iloadN X22.here hx rfl (hb hby d3_34) rfl k) ?_
  refine own_by (T' := T22) (g' := (mkF m 36 #[.val (.ref a), .val (.ref ca), .val (.int (0 : Int32)), .val (.int (1 : Int32)), .val .null, .unset] [(.int (1 : Int32)), (.int (0 : Int32)), (.ref ca)])) (fun _ k => XS.iloadN X22.here hx rfl (hb hby d3_35) rfl k) ?_
  obtain ⟨_, _, ⟨T23, L23, k23, n23⟩, -, X23, ⟨Lc23, hQ23, l23, y23, z23⟩, st23⟩ := Jvm.LawKit.callS X22 hx (y := (⟨"java/lang/StringUTF16", "compress", "([CII)[B"⟩ : MethodName)) hown (mvT hZ (hw _ (List.mem_of_getElem? (i := 62) rfl))) (mvT hZ (hw _ (List.mem_of_getElem? (i := 63) rfl))) (mvT hZ (hw _ (List.mem_of_getElem? (i := 64) rfl))) (mvT hZ (hw _ (List.mem_of_getElem? (i := 65) rfl))) (by decide) (backOf (W := 0) (cmp3_1 l Z a0 hw [] ca kc c0 h0 n0 Z0 V_ca hc0) hZ (hw _ (List.mem_of_getElem? (i := 65) rfl)) (hw _ (List.mem_of_getElem? (i := 64) rfl)) (by decide) (by decide)) (g := (mkF m 36 #[.val (.ref a), .val (.ref ca), .val (.int (0 : Int32)), .val (.int (1 : Int32)), .val .null, .unset] [(.int (1 : Int32)), (.int (0 : Int32)), (.ref ca)])) rfl (by rw [hml]; rfl) (argsL := [(.ref ca), (.int (0 : Int32)), (.int (1 : Int32))]) (rest := []) (lenOf pd_1 rfl) rfl (by show 2 * 0 + _ ≤ _; exact Nat.le_of_eq rfl) (hb hby d3_36) (fun _ _ => ⟨rfl, e22, (by decide : 0 + 1 ≤ _), (by decide : 0 + 1 ≤ _)⟩)
  dsimp only [Pt.U, Pt.locs, Pt.cells, Pt.slots] at X23 l23 y23 z23 st23 hQ23
  subst l23 y23 z23
  obtain ⟨t23, kb23, rfl, N23q, K23, zt23, V23⟩ := hQ23
  have N23 := Fr.app N0 N23q
  have KK23 : Keep h0 T23.heap [a] := Keep.trans (Keep.refl h0 [a]) K23 all0
  have sz_t23 : h0.size ≤ t23 := Nat.le_trans (Keep.refl h0 [a]).1 zt23
  have g_t23 : n0 ≤ t23 := Nat.le_trans Z0 sz_t23
  refine own_by (T' := T23) (g' := (mkF m 39 #[.val (.ref a), .val (.ref ca), .val (.int (0 : Int32)), .val (.int (1 : Int32)), .val .null, .unset] [(.ref t23)])) (fun _ k => st23 _ k) ?_
  refine own_by (T' := T23) (g' := (mkF m 41 #[.val (.ref a), .val (.ref ca), .val (.int (0 : Int32)), .val (.int (1 : Int32)), .val .null, .val (.ref t23)] [])) (fun _ k => XS.astore X23.here hx rfl (hb hby d3_39) rfl rfl (l' := #[.val (.ref a), .val (.ref ca), .val (.int (0 : Int32)), .val (.int (1 : Int32)), .val .null, .val (.ref t23)]) rfl k) ?_
  refine own_by (T' := T23) (g' := (mkF m 42 #[.val (.ref a), .val (.ref ca), .val (.int (0 : Int32)), .val (.int (1 : Int32)), .val .null, .val (.ref t23)] [(.ref a)])) (fun _ k => XS.aloadN X23.here hx rfl (hb hby d3_41) rfl rfl k) ?_
  refine own_by (T' := T23) (g' := (mkF m 44 #[.val (.ref a), .val (.ref ca), .val (.int (0 : Int32)), .val (.int (1 : Int32)), .val .null, .val (.ref t23)] [(.ref t23), (.ref a)])) (fun _ k => XS.aload X23.here hx rfl (hb hby d3_42) rfl rfl k) ?_
  refine own_by (T' := T23) (g' := (mkF m 45 #[.val (.ref a), .val (.ref ca), .val (.int (0 : Int32)), .val (.int (1 : Int32)), .val .null, .val (.ref t23)] [(.int (1 : Int32)), (.ref t23), (.ref a)])) (fun _ k => XS.iloadN X23.here hx rfl (hb hby d3_44) rfl k) ?_
  obtain ⟨_, _, ⟨T24, L24, k24, n24⟩, -, X24, ⟨Lc24, hQ24, l24, y24, z24⟩, st24⟩ := Jvm.LawKit.callS X23 hx (y := (⟨"java/lang/StringUTF16", "coderFromArrayLen", "([BI)B"⟩ : MethodName)) hown (mvT hZ (hw _ (List.mem_of_getElem? (i := 69) rfl))) (mvT hZ (hw _ (List.mem_of_getElem? (i := 70) rfl))) (mvT hZ (hw _ (List.mem_of_getElem? (i := 64) rfl))) (mvT hZ (hw _ (List.mem_of_getElem? (i := 71) rfl))) (by decide) (backOf (W := 1) (cod_1 l Z a0 hw [] t23 kb23 c0 T23.heap n0 (Nat.le_trans Z0 K23.1) V23) hZ (hw _ (List.mem_of_getElem? (i := 71) rfl)) (hw _ (List.mem_of_getElem? (i := 64) rfl)) (by decide) (by decide)) (g := (mkF m 45 #[.val (.ref a), .val (.ref ca), .val (.int (0 : Int32)), .val (.int (1 : Int32)), .val .null, .val (.ref t23)] [(.int (1 : Int32)), (.ref t23), (.ref a)])) rfl (by rw [hml]; rfl) (argsL := [(.ref t23), (.int (1 : Int32))]) (rest := [(.ref a)]) (lenOf pd_2 rfl) rfl (by show 2 * 0 + _ ≤ _; exact Nat.le_of_eq rfl) (hb hby d3_45) (fun _ _ => ⟨rfl, rfl, (by decide : (0 + 1) + 0 ≤ _), (by decide : (0 + 1) + 0 ≤ _)⟩)
  dsimp only [Pt.U, Pt.locs, Pt.cells, Pt.slots] at X24 l24 y24 z24 st24 hQ24
  subst l24 y24 z24
  obtain ⟨rfl, N24q, e24⟩ := hQ24
  have N24 := Fr.app N23 N24q
  refine own_by (T' := T24) (g' := (mkF m 48 #[.val (.ref a), .val (.ref ca), .val (.int (0 : Int32)), .val (.int (1 : Int32)), .val .null, .val (.ref t23)] [(.int (0 : Int32)), (.ref a)])) (fun _ k => st24 _ k) ?_
  obtain ⟨T25, h25, X25, e25, W25, st25⟩ := putFN X24 hx hZ hown (hw _ (List.mem_of_getElem? (i := 25) rfl)) Via.refl e24 (Fld.keep F_coder_a K23 nin0) (Exa.keep E_a K23) (Or.inr ⟨(hw _ (List.mem_of_getElem? (i := 21) rfl)), rfl, hnm⟩) (hw _ (List.mem_of_getElem? (i := 5) rfl)) (ty := .byte) (v' := (.int (0 : Int32))) (by decide) rfl (by decide) (g := (mkF m 48 #[.val (.ref a), .val (.ref ca), .val (.int (0 : Int32)), .val (.int (1 : Int32)), .val .null, .val (.ref t23)] [(.int (0 : Int32)), (.ref a)])) rfl rfl (hb hby d3_48)
  have Fw25 : Fld Z h25 a "java/lang/String" "coder" "B" (.int (0 : Int32)) := Fld.same W25 (Fld.keep F_coder_a K23 nin0)
  have K25 : Keep h0 h25 [a] := Keep.wr KK23 W25 (Or.inl (List.mem_of_getElem? (i := 0) rfl))
  have N25 := Fr.snoc X25 N24 g_a
  refine own_by (T' := T25) (g' := (mkF m 51 #[.val (.ref a), .val (.ref ca), .val (.int (0 : Int32)), .val (.int (1 : Int32)), .val .null, .val (.ref t23)] [])) (fun _ k => st25 _ k) ?_
  refine own_by (T' := T25) (g' := (mkF m 52 #[.val (.ref a), .val (.ref ca), .val (.int (0 : Int32)), .val (.int (1 : Int32)), .val .null, .val (.ref t23)] [(.ref a)])) (fun _ k => XS.aloadN X25.here hx rfl (hb hby d3_51) rfl rfl k) ?_
  refine own_by (T' := T25) (g' := (mkF m 54 #[.val (.ref a), .val (.ref ca), .val (.int (0 : Int32)), .val (.int (1 : Int32)), .val .null, .val (.ref t23)] [(.ref t23), (.ref a)])) (fun _ k => XS.aload X25.here hx rfl (hb hby d3_52) rfl rfl k) ?_
  obtain ⟨T26, h26, X26, e26, W26, st26⟩ := putF X25 hx hZ hown (host := "") (Or.inl (hw _ (List.mem_of_getElem? (i := 24) rfl))) Via.refl e25 (Fld.other W25 (Fld.keep F_value_a K23 nin0) (Or.inr (slot_ne (a0 := a0) (Or.inr (hw _ (List.mem_of_getElem? (i := 20) rfl))) (Or.inr (hw _ (List.mem_of_getElem? (i := 21) rfl))) (by decide) (t := (.array .byte)) (t' := .byte) (by decide) (by decide)))) (Exa.wr W25 (Exa.keep E_a K23)) (Or.inr ⟨(hw _ (List.mem_of_getElem? (i := 20) rfl)), rfl, hnm⟩) (hw _ (List.mem_of_getElem? (i := 5) rfl)) (ty := (.array .byte)) (by decide) rfl rfl (g := (mkF m 54 #[.val (.ref a), .val (.ref ca), .val (.int (0 : Int32)), .val (.int (1 : Int32)), .val .null, .val (.ref t23)] [(.ref t23), (.ref a)])) rfl rfl (hb hby d3_54)
  have Fw26 : Fld Z h26 a "java/lang/String" "value" "[B" (.ref t23) := Fld.same W26 (Fld.other W25 (Fld.keep F_value_a K23 nin0) (Or.inr (slot_ne (a0 := a0) (Or.inr (hw _ (List.mem_of_getElem? (i := 20) rfl))) (Or.inr (hw _ (List.mem_of_getElem? (i := 21) rfl))) (by decide) (t := (.array .byte)) (t' := .byte) (by decide) (by decide))))
  have K26 : Keep h0 h26 [a] := Keep.wr K25 W26 (Or.inl (List.mem_of_getElem? (i := 0) rfl))
  have N26 := Fr.snoc X26 N25 g_a
  refine own_by (T' := T26) (g' := (mkF m 57 #[.val (.ref a), .val (.ref ca), .val (.int (0 : Int32)), .val (.int (1 : Int32)), .val .null, .val (.ref t23)] [])) (fun _ k => st26 _ k) ?_
  refine own_ret X26 hlk (v := none) (fun _ => rfl) (fun fs hr => X26.returnOut hx Bd.returns (hb hby d3_57) hr) ?_ (by decide) (by decide)
  rw [e26]
  exact ⟨rfl, N26, K26, (Fld.other W26 Fw25 (Or.inr (slot_ne (a0 := a0) (Or.inr (hw _ (List.mem_of_getElem? (i := 21) rfl))) (Or.inr (hw _ (List.mem_of_getElem? (i := 20) rfl))) (by decide) (t := .byte) (t' := (.array .byte)) (by decide) (by decide)))), _, _, sz_t23, Fw26, (Arv.other (Arv.other V23 W25 (Ne.symm (Nat.ne_of_lt (Nat.lt_of_lt_of_le (E_a).lt zt23)))) W26 (Ne.symm (Nat.ne_of_lt (Nat.lt_of_lt_of_le (E_a).lt zt23))))⟩
theorem d2_0 : decode jdk_42_method_3_code 0 = .ok (.aload_n 0, 1) := by decide +kernel
theorem d2_1 : decode jdk_42_method_3_code 1 = .ok (.aload_n 1, 1) := by decide +kernel
theorem d2_2 : decode jdk_42_method_3_code 2 = .ok (.iconst 0, 1) := by decide +kernel
theorem d2_3 : decode jdk_42_method_3_code 3 = .ok (.aload_n 1, 1) := by decide +kernel
theorem d2_4 : decode jdk_42_method_3_code 4 = .ok (.arraylength, 1) := by decide +kernel
theorem d2_5 : decode jdk_42_method_3_code 5 = .ok (.aconst_null, 1) := by decide +kernel
theorem d2_6 : decode jdk_42_method_3_code 6 = .ok (.invokespecial 27, 3) := by decide +kernel
theorem d2_9 : decode jdk_42_method_3_code 9 = .ok (.return_, 1) := by decide +kernel
theorem pn_2 : plainName "java/lang/String" = true := by first | (simp [plainName, overriddenIn]; done) | decide +kernel
theorem ef_sin1_1 (m : MethodId) (a : Addr) (ca : Addr) : entryFrame m #[(.ref a), (.ref ca)] 2 = mkF m 0 #[.val (.ref a), .val (.ref ca)] [] := by first | (simp [entryFrame, mkF, argsToLocals, Value.category]; done) | rfl
def Q_sin1_1 (Z : State) (a : Addr) (ca : Addr) (kc : ClassId) (cs : Int32) (c0 : Int32) (h0 : Heap) (n0 : Nat) (v : Option Value) (h : Heap) (L : List Loc) : Prop := v = none ∧ Fr n0 L ∧ Keep h0 h [a] ∧ Fld Z h a "java/lang/String" "coder" "B" (.int (0 : Int32)) ∧ ∃ (t : Addr) (kb : ClassId), h0.size ≤ t ∧ Fld Z h a "java/lang/String" "value" "[B" (.ref t) ∧ Arv Z h t kb .byte (1 : Int32) [(.int (nar .byte (c0.toInt8.toInt32)))] (.int (0 : Int32))
set_option maxRecDepth 65536 in
set_option maxHeartbeats 40000000 in
theorem sin1_1 (l : Launch) (Z : State) (a0 : Array Value) (hw : ∀ d ∈ tables_1, d.before a0 Z = true) (ws : List Jvm.Cond) (a : Addr) (ca : Addr) (kc : ClassId) (cs : Int32) (c0 : Int32) (h0 : Heap) (n0 : Nat) (Z0 : n0 ≤ h0.size) (E_a : Exa Z h0 a "java/lang/String") (F_value_a : Fld Z h0 a "java/lang/String" "value" "[B" .null) (F_coder_a : Fld Z h0 a "java/lang/String" "coder" "B" (.int (0 : Int32))) (g_a : n0 ≤ a) (V_ca : Arv Z h0 ca kc .char (1 : Int32) [(.int c0)] (.int (0 : Int32))) (S_CS : Sta Z h0 "java/lang/String" "COMPACT_STRINGS" "Z" (.int cs)) (hcs : ¬ cs = (0 : Int32)) (hc0 : ¬ (255 : Int32) < c0) :
    MetFree l (⟨"java/lang/String", "<init>", "([C)V"⟩ : MethodName) (head1 (Jvm.Cond.code (⟨"java/lang/String", "<init>", "([C)V"⟩ : MethodName) jdk_42_method_3_code 2 none :: ws) ({ frames := 3, cells := 1, slots := 1, locals := 52 } : Room)) (fun zz UU => zz = #[(.ref a), (.ref ca)] ∧ Z.Warmed39 UU.vm ∧ UU.heap = h0) (fun _ _ _ _ _ => True) (fun _ U o U' => ∃ v L, o = .returned v ∧ Q_sin1_1 Z a ca kc cs c0 h0 n0 v U'.heap L ∧ FrameEnd U o U' L ({ frames := 3, cells := 1, slots := 1, locals := 52 } : Room).cells ({ frames := 3, cells := 1, slots := 1, locals := 52 } : Room).slots) := by
  refine MetFree.of_bodySF (plainFor_of_name pn_2) hisR ?_
  intro p e s m args below meth c s₁ Bd hml0 hP hK
  obtain ⟨rfl, hZ, hh⟩ := hP
  have hx := Bd.exec
  have hby := Bd.bytes
  have hml : c.maxLocals = 2 := hml0
  have hown : s.vm.findClass "java/lang/String" = some m.cls := findClass_of_methodNamed Bd.named
  have hnm := (name_of_methodNamed Bd.named Bd.method).1
  have hlk : meth.locks = false := BodyLoose.notSynchronized Bd
  have X0 : Stand p l e ({ frames := 3, cells := 1, slots := 1, locals := 52 } : Room) s m #[(.ref a), (.ref ca)] below meth c s₁ [] 0 0 := Stand.of_body Bd
  have e0 : s₁.heap = h0 := by rw [← hh, Bd.state]; rfl
  have N0 := Fr.nil n0
  show own_Go p.tables e below (Q_sin1_1 Z a ca kc cs c0 h0 n0) s ({ frames := 3, cells := 1, slots := 1, locals := 52 } : Room).cells ({ frames := 3, cells := 1, slots := 1, locals := 52 } : Room).slots s₁ (entryFrame m #[(.ref a), (.ref ca)] 2)
  rw [ef_sin1_1 m a ca]
  refine own_by (T' := s₁) (g' := (mkF m 1 #[.val (.ref a), .val (.ref ca)] [(.ref a)])) (fun _ k => XS.aloadN X0.here hx rfl (hb hby d2_0) rfl rfl k) ?_
  refine own_by (T' := s₁) (g' := (mkF m 2 #[.val (.ref a), .val (.ref ca)] [(.ref ca), (.ref a)])) (fun _ k => XS.aloadN X0.here hx rfl (hb hby d2_1) rfl rfl k) ?_
  refine own_by (T' := s₁) (g' := (mkF m 3 #[.val (.ref a), .val (.ref ca)] [(.int (0 : Int32)), (.ref ca), (.ref a)])) (fun _ k => XS.iconst X0.here hx rfl (hb hby d2_2) k) ?_
  refine own_by (T' := s₁) (g' := (mkF m 4 #[.val (.ref a), .val (.ref ca)] [(.ref ca), (.int (0 : Int32)), (.ref ca), (.ref a)])) (fun _ k => XS.aloadN X0.here hx rfl (hb hby d2_3) rfl rfl k) ?_
  obtain ⟨cl21, Ar21, q21, S21, N_21, H21, G21⟩ := id V_ca
  refine own_by (T' := s₁) (g' := (mkF m 5 #[.val (.ref a), .val (.ref ca)] [(.int (1 : Int32)), (.int (0 : Int32)), (.ref ca), (.ref a)])) (fun _ k => X0.arraylength hx (by rw [e0]; exact Ar21.1) (State.isArrayOf_alike hZ.alike Ar21.2.1) (g := (mkF m 4 #[.val (.ref a), .val (.ref ca)] [(.ref ca), (.int (0 : Int32)), (.ref ca), (.ref a)])) rfl rfl (hb hby d2_4) _ (by rw [len_of S21 N_21]; exact k)) ?_
  refine own_by (T' := s₁) (g' := (mkF m 6 #[.val (.ref a), .val (.ref ca)] [.null, (.int (1 : Int32)), (.int (0 : Int32)), (.ref ca), (.ref a)])) (fun _ k => XS.aconstNull X0.here hx rfl (hb hby d2_5) k) ?_
  obtain ⟨_, _, ⟨T22, L22, k22, n22⟩, -, X22, ⟨Lc22, hQ22, l22, y22, z22⟩, st22⟩ := X0.specialBack hx (y := (⟨"java/lang/String", "<init>", "([CIILjava/lang/Void;)V"⟩ : MethodName)) rfl hown (mvT hZ (hw _ (List.mem_of_getElem? (i := 11) rfl))) (mvT hZ (hw _ (List.mem_of_getElem? (i := 12) rfl))) (mvT hZ (hw _ (List.mem_of_getElem? (i := 14) rfl))) (by decide) (backOf (W := 0) (sin4_1 l Z a0 hw [] a ca kc cs c0 h0 n0 Z0 E_a F_value_a F_coder_a g_a V_ca S_CS hcs hc0) hZ (hw _ (List.mem_of_getElem? (i := 14) rfl)) (hw _ (List.mem_of_getElem? (i := 6) rfl)) (by decide) (by decide)) (g := (mkF m 6 #[.val (.ref a), .val (.ref ca)] [.null, (.int (1 : Int32)), (.int (0 : Int32)), (.ref ca), (.ref a)])) rfl (by rw [hml]; rfl) (Steps.refl _) (a := a) (argsL := [(.ref ca), (.int (0 : Int32)), (.int (1 : Int32)), .null]) (rest := []) (lenOf pd_3 rfl) rfl (by show 2 * 0 + _ ≤ _; exact Nat.le_of_eq rfl) (hb hby d2_6) (fun _ _ => ⟨rfl, e0, (by decide : 0 + 1 ≤ _), (by decide : 0 + 1 ≤ _)⟩)
  dsimp only [Pt.U, Pt.locs, Pt.cells, Pt.slots] at X22 l22 y22 z22 st22 hQ22
  subst l22 y22 z22
  obtain ⟨rfl, N22q, K22, Fc22, t22, kb22, zt22, Fv22, V22⟩ := hQ22
  have N22 := Fr.app N0 N22q
  have KK22 : Keep h0 T22.heap [a] := Keep.trans (Keep.refl h0 [a]) K22 (allS (Or.inl (List.mem_of_getElem? (i := 0) rfl)) all0)
  have sz_t22 : h0.size ≤ t22 := zt22
  refine own_by (T' := T22) (g' := (mkF m 9 #[.val (.ref a), .val (.ref ca)] [])) (fun _ k => st22.trans k) ?_
  refine own_ret X22 hlk (v := none) (fun _ => rfl) (fun fs hr => X22.returnOut hx Bd.returns (hb hby d2_9) hr) ?_ (by decide) (by decide)
  exact ⟨rfl, N22, KK22, Fc22, _, _, sz_t22, Fv22, V22⟩
theorem ef_cmp5_2 (m : MethodId) (ca : Addr) (ba : Addr) : entryFrame m #[(.ref ca), (.int (0 : Int32)), (.ref ba), (.int (0 : Int32)), (.int (2 : Int32))] 7 = mkF m 0 #[.val (.ref ca), .val (.int (0 : Int32)), .val (.ref ba), .val (.int (0 : Int32)), .val (.int (2 : Int32)), .unset, .unset] [] := by first | (simp [entryFrame, mkF, argsToLocals, Value.category]; done) | rfl
def Q_cmp5_2 (Z : State) (ca : Addr) (ba : Addr) (kc : ClassId) (kb : ClassId) (c0 : Int32) (c1 : Int32) (h0 : Heap) (n0 : Nat) (v : Option Value) (h : Heap) (L : List Loc) : Prop := v = some (.int (2 : Int32)) ∧ Fr n0 L ∧ Keep h0 h [ba] ∧ Arv Z h ba kb .byte (2 : Int32) [(.int (nar .byte (c0.toInt8.toInt32))), (.int (nar .byte (c1.toInt8.toInt32)))] (.int (0 : Int32))
set_option maxRecDepth 65536 in
set_option maxHeartbeats 40000000 in
theorem cmp5_2 (l : Launch) (Z : State) (a0 : Array Value) (hw : ∀ d ∈ tables_1, d.before a0 Z = true) (ws : List Jvm.Cond) (ca : Addr) (ba : Addr) (kc : ClassId) (kb : ClassId) (c0 : Int32) (c1 : Int32) (h0 : Heap) (n0 : Nat) (Z0 : n0 ≤ h0.size) (V_ca : Arv Z h0 ca kc .char (2 : Int32) [(.int c0), (.int c1)] (.int (0 : Int32))) (V_ba : Arv Z h0 ba kb .byte (2 : Int32) [(.int (0 : Int32)), (.int (0 : Int32))] (.int (0 : Int32))) (g_ba : n0 ≤ ba) (neab : ca ≠ ba) (hc0 : ¬ (255 : Int32) < c0) (hc1 : ¬ (255 : Int32) < c1) :
    MetFree l (⟨"java/lang/StringUTF16", "compress", "([CI[BII)I"⟩ : MethodName) (head1 (Jvm.Cond.code (⟨"java/lang/StringUTF16", "compress", "([CI[BII)I"⟩ : MethodName) jdk_52_method_21_code 7 (some .int) :: ws) ({ frames := 0, cells := 0, slots := 0, locals := 0 } : Room)) (fun zz UU => zz = #[(.ref ca), (.int (0 : Int32)), (.ref ba), (.int (0 : Int32)), (.int (2 : Int32))] ∧ Z.Warmed39 UU.vm ∧ UU.heap = h0) (fun _ _ _ _ _ => True) (fun _ U o U' => ∃ v L, o = .returned v ∧ Q_cmp5_2 Z ca ba kc kb c0 c1 h0 n0 v U'.heap L ∧ FrameEnd U o U' L ({ frames := 0, cells := 0, slots := 0, locals := 0 } : Room).cells ({ frames := 0, cells := 0, slots := 0, locals := 0 } : Room).slots) := by
  refine MetFree.of_bodySF (plainFor_of_name pn_12) hisR ?_
  intro p e s m args below meth c s₁ Bd hml0 hP hK
  obtain ⟨rfl, hZ, hh⟩ := hP
  have hx := Bd.exec
  have hby := Bd.bytes
  have hml : c.maxLocals = 7 := hml0
  have hown : s.vm.findClass "java/lang/StringUTF16" = some m.cls := findClass_of_methodNamed Bd.named
  have hnm := (name_of_methodNamed Bd.named Bd.method).1
  have hlk : meth.locks = false := BodyLoose.notSynchronized Bd
  have X0 : Stand p l e ({ frames := 0, cells := 0, slots := 0, locals := 0 } : Room) s m #[(.ref ca), (.int (0 : Int32)), (.ref ba), (.int (0 : Int32)), (.int (2 : Int32))] below meth c s₁ [] 0 0 := Stand.of_body Bd
  have e0 : s₁.heap = h0 := by rw [← hh, Bd.state]; rfl
  have N0 := Fr.nil n0
  show own_Go p.tables e below (Q_cmp5_2 Z ca ba kc kb c0 c1 h0 n0) s ({ frames := 0, cells := 0, slots := 0, locals := 0 } : Room).cells ({ frames := 0, cells := 0, slots := 0, locals := 0 } : Room).slots s₁ (entryFrame m #[(.ref ca), (.int (0 : Int32)), (.ref ba), (.int (0 : Int32)), (.int (2 : Int32))] 7)
  rw [ef_cmp5_2 m ca ba]
  refine own_by (T' := s₁) (g' := (mkF m 1 #[.val (.ref ca), .val (.int (0 : Int32)), .val (.ref ba), .val (.int (0 : Int32)), .val (.int (2 : Int32)), .unset, .unset] [(.int (0 : Int32))])) (fun _ k => XS.iconst X0.here hx rfl (hb hby d12_0) k) ?_
  refine own_by (T' := s₁) (g' := (mkF m 3 #[.val (.ref ca), .val (.int (0 : Int32)), .val (.ref ba), .val (.int (0 : Int32)), .val (.int (2 : Int32)), .val (.int (0 : Int32)), .unset] [])) (fun _ k => XS.istore X0.here hx rfl (hb hby d12_1) rfl (l' := #[.val (.ref ca), .val (.int (0 : Int32)), .val (.ref ba), .val (.int (0 : Int32)), .val (.int (2 : Int32)), .val (.int (0 : Int32)), .unset]) rfl k) ?_
  refine own_by (T' := s₁) (g' := (mkF m 5 #[.val (.ref ca), .val (.int (0 : Int32)), .val (.ref ba), .val (.int (0 : Int32)), .val (.int (2 : Int32)), .val (.int (0 : Int32)), .unset] [(.int (0 : Int32))])) (fun _ k => XS.iload X0.here hx rfl (hb hby d12_3) rfl k) ?_
  refine own_by (T' := s₁) (g' := (mkF m 7 #[.val (.ref ca), .val (.int (0 : Int32)), .val (.ref ba), .val (.int (0 : Int32)), .val (.int (2 : Int32)), .val (.int (0 : Int32)), .unset] [(.int (2 : Int32)), (.int (0 : Int32))])) (fun _ k => XS.iload X0.here hx rfl (hb hby d12_5) rfl k) ?_
  refine own_by (T' := s₁) (g' := (mkF m 10 #[.val (.ref ca), .val (.int (0 : Int32)), .val (.ref ba), .val (.int (0 : Int32)), .val (.int (2 : Int32)), .val (.int (0 : Int32)), .unset] [])) (fun _ k => XS.icmpNo X0.here hx rfl (hb hby d12_7) rfl (tlt (by decide)).2.1 k) ?_
  refine own_by (T' := s₁) (g' := (mkF m 11 #[.val (.ref ca), .val (.int (0 : Int32)), .val (.ref ba), .val (.int (0 : Int32)), .val (.int (2 : Int32)), .val (.int (0 : Int32)), .unset] [(.ref ca)])) (fun _ k => XS.aloadN X0.here hx rfl (hb hby d12_10) rfl rfl k) ?_
  refine own_by (T' := s₁) (g' := (mkF m 12 #[.val (.ref ca), .val (.int (0 : Int32)), .val (.ref ba), .val (.int (0 : Int32)), .val (.int (2 : Int32)), .val (.int (0 : Int32)), .unset] [(.int (0 : Int32)), (.ref ca)])) (fun _ k => XS.iloadN X0.here hx rfl (hb hby d12_11) rfl k) ?_
  obtain ⟨cl21, Ar21, q21, S21, N_21, H21, G21⟩ := id V_ca
  have hin21 : ¬ ((0 : Int32) < 0 ∨ cl21.slots.size ≤ ((0 : Int32)).toNatClampNeg) := inb_of S21 ⟨by decide, by decide⟩
  refine own_by (T' := s₁) (g' := (mkF m 13 #[.val (.ref ca), .val (.int (0 : Int32)), .val (.ref ba), .val (.int (0 : Int32)), .val (.int (2 : Int32)), .val (.int (0 : Int32)), .unset] [(.int c0)])) (fun _ k => X0.caload hx (j := (0 : Int32)) (v := (.int c0)) (by rw [e0]; exact Ar21.1) (State.isArrayOf_alike hZ.alike Ar21.2.1) Ar21.2.2 hin21 (Has.at H21 hin21 rfl) (g := (mkF m 12 #[.val (.ref ca), .val (.int (0 : Int32)), .val (.ref ba), .val (.int (0 : Int32)), .val (.int (2 : Int32)), .val (.int (0 : Int32)), .unset] [(.int (0 : Int32)), (.ref ca)])) rfl rfl (hb hby d12_12) _ k) ?_
  refine own_by (T' := s₁) (g' := (mkF m 15 #[.val (.ref ca), .val (.int (0 : Int32)), .val (.ref ba), .val (.int (0 : Int32)), .val (.int (2 : Int32)), .val (.int (0 : Int32)), .val (.int c0)] [])) (fun _ k => XS.istore X0.here hx rfl (hb hby d12_13) rfl (l' := #[.val (.ref ca), .val (.int (0 : Int32)), .val (.ref ba), .val (.int (0 : Int32)), .val (.int (2 : Int32)), .val (.int (0 : Int32)), .val (.int c0)]) rfl k) ?_
  refine own_by (T' := s₁) (g' := (mkF m 17 #[.val (.ref ca), .val (.int (0 : Int32)), .val (.ref ba), .val (.int (0 : Int32)), .val (.int (2 : Int32)), .val (.int (0 : Int32)), .val (.int c0)] [(.int c0)])) (fun _ k => XS.iload X0.here hx rfl (hb hby d12_15) rfl k) ?_
  refine own_by (T' := s₁) (g' := (mkF m 20 #[.val (.ref ca), .val (.int (0 : Int32)), .val (.ref ba), .val (.int (0 : Int32)), .val (.int (2 : Int32)), .val (.int (0 : Int32)), .val (.int c0)] [(.int (255 : Int32)), (.int c0)])) (fun _ k => XS.sipush X0.here hx rfl (hb hby d12_17) k) ?_
  refine own_by (T' := s₁) (g' := (mkF m 26 #[.val (.ref ca), .val (.int (0 : Int32)), .val (.ref ba), .val (.int (0 : Int32)), .val (.int (2 : Int32)), .val (.int (0 : Int32)), .val (.int c0)] [])) (fun _ k => XS.icmpYes X0.here hx rfl (pc0 := 20) (pc' := 26) rfl (hb hby d12_20) rfl (flt hc0).2.2.2 (by decide) (by decide) k) ?_
  refine own_by (T' := s₁) (g' := (mkF m 27 #[.val (.ref ca), .val (.int (0 : Int32)), .val (.ref ba), .val (.int (0 : Int32)), .val (.int (2 : Int32)), .val (.int (0 : Int32)), .val (.int c0)] [(.ref ba)])) (fun _ k => XS.aloadN X0.here hx rfl (hb hby d12_26) rfl rfl k) ?_
  refine own_by (T' := s₁) (g' := (mkF m 28 #[.val (.ref ca), .val (.int (0 : Int32)), .val (.ref ba), .val (.int (0 : Int32)), .val (.int (2 : Int32)), .val (.int (0 : Int32)), .val (.int c0)] [(.int (0 : Int32)), (.ref ba)])) (fun _ k => XS.iloadN X0.here hx rfl (hb hby d12_27) rfl k) ?_
  refine own_by (T' := s₁) (g' := (mkF m 30 #[.val (.ref ca), .val (.int (0 : Int32)), .val (.ref ba), .val (.int (0 : Int32)), .val (.int (2 : Int32)), .val (.int (0 : Int32)), .val (.int c0)] [(.int c0), (.int (0 : Int32)), (.ref ba)])) (fun _ k => XS.iload X0.here hx rfl (hb hby d12_28) rfl k) ?_
  refine own_by (T' := s₁) (g' := (mkF m 31 #[.val (.ref ca), .val (.int (0 : Int32)), .val (.ref ba), .val (.int (0 : Int32)), .val (.int (2 : Int32)), .val (.int (0 : Int32)), .val (.int c0)] [(.int (c0.toInt8.toInt32)), (.int (0 : Int32)), (.ref ba)])) (fun _ k => XS.i2b X0.here hx rfl (hb hby d12_30) rfl k) ?_
  obtain ⟨cl22, Ar22, q22, S22, N_22, H22, G22⟩ := id V_ba
  have hin22 : ¬ ((0 : Int32) < 0 ∨ cl22.slots.size ≤ ((0 : Int32)).toNatClampNeg) := inb_of S22 ⟨by decide, by decide⟩
  obtain ⟨T23, h23, X23, e23, W23, st23⟩ := stB X0 hx hZ e0 Ar22 (j := (0 : Int32)) hin22 (g := (mkF m 31 #[.val (.ref ca), .val (.int (0 : Int32)), .val (.ref ba), .val (.int (0 : Int32)), .val (.int (2 : Int32)), .val (.int (0 : Int32)), .val (.int c0)] [(.int (c0.toInt8.toInt32)), (.int (0 : Int32)), (.ref ba)])) rfl rfl (hb hby d12_31)
  have V23 : Arv Z h23 ba kb .byte (2 : Int32) [(.int (nar .byte (c0.toInt8.toInt32))), (.int (0 : Int32))] (.int (0 : Int32)) := Arv.set Ar22 q22 S22 N_22 H22 G22 (fits_nar_byte _) W23 0 rfl (Nat.le_of_ble_eq_true rfl)
  have K23 : Keep h0 h23 [ba] := Keep.wr (Keep.refl h0 [ba]) W23 (Or.inl (List.mem_of_getElem? (i := 0) rfl))
  have N23 := Fr.snoc X23 N0 g_ba
  refine own_by (T' := T23) (g' := (mkF m 32 #[.val (.ref ca), .val (.int (0 : Int32)), .val (.ref ba), .val (.int (0 : Int32)), .val (.int (2 : Int32)), .val (.int (0 : Int32)), .val (.int c0)] [])) (fun _ k => st23 _ k) ?_
  refine own_by (T' := T23) (g' := (mkF m 35 #[.val (.ref ca), .val (.int (1 : Int32)), .val (.ref ba), .val (.int (0 : Int32)), .val (.int (2 : Int32)), .val (.int (0 : Int32)), .val (.int c0)] [])) (fun _ k => XS.iinc X23.here hx rfl (hb hby d12_32) rfl (l' := #[.val (.ref ca), .val (.int (1 : Int32)), .val (.ref ba), .val (.int (0 : Int32)), .val (.int (2 : Int32)), .val (.int (0 : Int32)), .val (.int c0)]) rfl k) ?_
  refine own_by (T' := T23) (g' := (mkF m 38 #[.val (.ref ca), .val (.int (1 : Int32)), .val (.ref ba), .val (.int (1 : Int32)), .val (.int (2 : Int32)), .val (.int (0 : Int32)), .val (.int c0)] [])) (fun _ k => XS.iinc X23.here hx rfl (hb hby d12_35) rfl (l' := #[.val (.ref ca), .val (.int (1 : Int32)), .val (.ref ba), .val (.int (1 : Int32)), .val (.int (2 : Int32)), .val (.int (0 : Int32)), .val (.int c0)]) rfl k) ?_
  refine own_by (T' := T23) (g' := (mkF m 41 #[.val (.ref ca), .val (.int (1 : Int32)), .val (.ref ba), .val (.int (1 : Int32)), .val (.int (2 : Int32)), .val (.int (1 : Int32)), .val (.int c0)] [])) (fun _ k => XS.iinc X23.here hx rfl (hb hby d12_38) rfl (l' := #[.val (.ref ca), .val (.int (1 : Int32)), .val (.ref ba), .val (.int (1 : Int32)), .val (.int (2 : Int32)), .val (.int (1 : Int32)), .val (.int c0)]) rfl k) ?_
  refine own_by (T' := T23) (g' := (mkF m 3 #[.val (.ref ca), .val (.int (1 : Int32)), .val (.ref ba), .val (.int (1 : Int32)), .val (.int (2 : Int32)), .val (.int (1 : Int32)), .val (.int c0)] [])) (fun _ k => XS.goto X23.here hx rfl (pc0 := 41) (pc' := 3) rfl (hb hby d12_41) (by decide) (by decide) k) ?_
  refine own_by (T' := T23) (g' := (mkF m 5 #[.val (.ref ca), .val (.int (1 : Int32)), .val (.ref ba), .val (.int (1 : Int32)), .val (.int (2 : Int32)), .val (.int (1 : Int32)), .val (.int c0)] [(.int (1 : Int32))])) (fun _ k => XS.iload X23.here hx rfl (hb hby d12_3) rfl k) ?_
  refine own_by (T' := T23) (g' := (mkF m 7 #[.val (.ref ca), .val (.int (1 : Int32)), .val (.ref ba), .val (.int (1 : Int32)), .val (.int (2 : Int32)), .val (.int (1 : Int32)), .val (.int c0)] [(.int (2 : Int32)), (.int (1 : Int32))])) (fun _ k => XS.iload X23.here hx rfl (hb hby d12_5) rfl k) ?_
  refine own_by (T' := T23) (g' := (mkF m 10 #[.val (.ref ca), .val (.int (1 : Int32)), .val (.ref ba), .val (.int (1 : Int32)), .val (.int (2 : Int32)), .val (.int (1 : Int32)), .val (.int c0)] [])) (fun _ k => XS.icmpNo X23.here hx rfl (hb hby d12_7) rfl (tlt (by decide)).2.1 k) ?_
  refine own_by (T' := T23) (g' := (mkF m 11 #[.val (.ref ca), .val (.int (1 : Int32)), .val (.ref ba), .val (.int (1 : Int32)), .val (.int (2 : Int32)), .val (.int (1 : Int32)), .val (.int c0)] [(.ref ca)])) (fun _ k => XS.aloadN X23.here hx rfl (hb hby d12_10) rfl rfl k) ?_
  refine own_by (T' := T23) (g' := (mkF m 12 #[.val (.ref ca), .val (.int (1 : Int32)), .val (.ref ba), .val (.int (1 : Int32)), .val (.int (2 : Int32)), .val (.int (1 : Int32)), .val (.int c0)] [(.int (1 : Int32)), (.ref ca)])) (fun _ k => XS.iloadN X23.here hx rfl (hb hby d12_11) rfl k) ?_
  obtain ⟨cl24, Ar24, q24, S24, N_24, H24, G24⟩ := id (Arv.other V_ca W23 neab)
  have hin24 : ¬ ((1 : Int32) < 0 ∨ cl24.slots.size ≤ ((1 : Int32)).toNatClampNeg) := inb_of S24 ⟨by decide, by decide⟩
  refine own_by (T' := T23) (g' := (mkF m 13 #[.val (.ref ca), .val (.int (1 : Int32)), .val (.ref ba), .val (.int (1 : Int32)), .val (.int (2 : Int32)), .val (.int (1 : Int32)), .val (.int c0)] [(.int c1)])) (fun _ k => X23.caload hx (j := (1 : Int32)) (v := (.int c1)) (by rw [e23]; exact Ar24.1) (State.isArrayOf_alike hZ.alike Ar24.2.1) Ar24.2.2 hin24 (Has.at H24 hin24 rfl) (g := (mkF m 12 #[.val (.ref ca), .val (.int (1 : Int32)), .val (.ref ba), .val (.int (1 : Int32)), .val (.int (2 : Int32)), .val (.int (1 : Int32)), .val (.int c0)] [(.int (1 : Int32)), (.ref ca)])) rfl rfl (hb hby d12_12) _ k) ?_
  refine own_by (T' := T23) (g' := (mkF m 15 #[.val (.ref ca), .val (.int (1 : Int32)), .val (.ref ba), .val (.int (1 : Int32)), .val (.int (2 : Int32)), .val (.int (1 : Int32)), .val (.int c1)] [])) (fun _ k => XS.istore X23.here hx rfl (hb hby d12_13) rfl (l' := #[.val (.ref ca), .val (.int (1 : Int32)), .val (.ref ba), .val (.int (1 : Int32)), .val (.int (2 : Int32)), .val (.int (1 : Int32)), .val (.int c1)]) rfl k) ?_
  refine own_by (T' := T23) (g' := (mkF m 17 #[.val (.ref ca), .val (.int (1 : Int32)), .val (.ref ba), .val (.int (1 : Int32)), .val (.int (2 : Int32)), .val (.int (1 : Int32)), .val (.int c1)] [(.int c1)])) (fun _ k => XS.iload X23.here hx rfl (hb hby d12_15) rfl k) ?_
  refine own_by (T' := T23) (g' := (mkF m 20 #[.val (.ref ca), .val (.int (1 : Int32)), .val (.ref ba), .val (.int (1 : Int32)), .val (.int (2 : Int32)), .val (.int (1 : Int32)), .val (.int c1)] [(.int (255 : Int32)), (.int c1)])) (fun _ k => XS.sipush X23.here hx rfl (hb hby d12_17) k) ?_
  refine own_by (T' := T23) (g' := (mkF m 26 #[.val (.ref ca), .val (.int (1 : Int32)), .val (.ref ba), .val (.int (1 : Int32)), .val (.int (2 : Int32)), .val (.int (1 : Int32)), .val (.int c1)] [])) (fun _ k => XS.icmpYes X23.here hx rfl (pc0 := 20) (pc' := 26) rfl (hb hby d12_20) rfl (flt hc1).2.2.2 (by decide) (by decide) k) ?_
  refine own_by (T' := T23) (g' := (mkF m 27 #[.val (.ref ca), .val (.int (1 : Int32)), .val (.ref ba), .val (.int (1 : Int32)), .val (.int (2 : Int32)), .val (.int (1 : Int32)), .val (.int c1)] [(.ref ba)])) (fun _ k => XS.aloadN X23.here hx rfl (hb hby d12_26) rfl rfl k) ?_
  refine own_by (T' := T23) (g' := (mkF m 28 #[.val (.ref ca), .val (.int (1 : Int32)), .val (.ref ba), .val (.int (1 : Int32)), .val (.int (2 : Int32)), .val (.int (1 : Int32)), .val (.int c1)] [(.int (1 : Int32)), (.ref ba)])) (fun _ k => XS.iloadN X23.here hx rfl (hb hby d12_27) rfl k) ?_
  refine own_by (T' := T23) (g' := (mkF m 30 #[.val (.ref ca), .val (.int (1 : Int32)), .val (.ref ba), .val (.int (1 : Int32)), .val (.int (2 : Int32)), .val (.int (1 : Int32)), .val (.int c1)] [(.int c1), (.int (1 : Int32)), (.ref ba)])) (fun _ k => XS.iload X23.here hx rfl (hb hby d12_28) rfl k) ?_
  refine own_by (T' := T23) (g' := (mkF m 31 #[.val (.ref ca), .val (.int (1 : Int32)), .val (.ref ba), .val (.int (1 : Int32)), .val (.int (2 : Int32)), .val (.int (1 : Int32)), .val (.int c1)] [(.int (c1.toInt8.toInt32)), (.int (1 : Int32)), (.ref ba)])) (fun _ k => XS.i2b X23.here hx rfl (hb hby d12_30) rfl k) ?_
  obtain ⟨cl25, Ar25, q25, S25, N_25, H25, G25⟩ := id V23
  have hin25 : ¬ ((1 : Int32) < 0 ∨ cl25.slots.size ≤ ((1 : Int32)).toNatClampNeg) := inb_of S25 ⟨by decide, by decide⟩
  obtain ⟨T26, h26, X26, e26, W26, st26⟩ := stB X23 hx hZ e23 Ar25 (j := (1 : Int32)) hin25 (g := (mkF m 31 #[.val (.ref ca), .val (.int (1 : Int32)), .val (.ref ba), .val (.int (1 : Int32)), .val (.int (2 : Int32)), .val (.int (1 : Int32)), .val (.int c1)] [(.int (c1.toInt8.toInt32)), (.int (1 : Int32)), (.ref ba)])) rfl rfl (hb hby d12_31)
  have V26 : Arv Z h26 ba kb .byte (2 : Int32) [(.int (nar .byte (c0.toInt8.toInt32))), (.int (nar .byte (c1.toInt8.toInt32)))] (.int (0 : Int32)) := Arv.set Ar25 q25 S25 N_25 H25 G25 (fits_nar_byte _) W26 1 rfl (Nat.le_of_ble_eq_true rfl)
  have K26 : Keep h0 h26 [ba] := Keep.wr K23 W26 (Or.inl (List.mem_of_getElem? (i := 0) rfl))
  have N26 := Fr.snoc X26 N23 g_ba
  refine own_by (T' := T26) (g' := (mkF m 32 #[.val (.ref ca), .val (.int (1 : Int32)), .val (.ref ba), .val (.int (1 : Int32)), .val (.int (2 : Int32)), .val (.int (1 : Int32)), .val (.int c1)] [])) (fun _ k => st26 _ k) ?_
  refine own_by (T' := T26) (g' := (mkF m 35 #[.val (.ref ca), .val (.int (2 : Int32)), .val (.ref ba), .val (.int (1 : Int32)), .val (.int (2 : Int32)), .val (.int (1 : Int32)), .val (.int c1)] [])) (fun _ k => XS.iinc X26.here hx rfl (hb hby d12_32) rfl (l' := #[.val (.ref ca), .val (.int (2 : Int32)), .val (.ref ba), .val (.int (1 : Int32)), .val (.int (2 : Int32)), .val (.int (1 : Int32)), .val (.int c1)]) rfl k) ?_
  refine own_by (T' := T26) (g' := (mkF m 38 #[.val (.ref ca), .val (.int (2 : Int32)), .val (.ref ba), .val (.int (2 : Int32)), .val (.int (2 : Int32)), .val (.int (1 : Int32)), .val (.int c1)] [])) (fun _ k => XS.iinc X26.here hx rfl (hb hby d12_35) rfl (l' := #[.val (.ref ca), .val (.int (2 : Int32)), .val (.ref ba), .val (.int (2 : Int32)), .val (.int (2 : Int32)), .val (.int (1 : Int32)), .val (.int c1)]) rfl k) ?_
  refine own_by (T' := T26) (g' := (mkF m 41 #[.val (.ref ca), .val (.int (2 : Int32)), .val (.ref ba), .val (.int (2 : Int32)), .val (.int (2 : Int32)), .val (.int (2 : Int32)), .val (.int c1)] [])) (fun _ k => XS.iinc X26.here hx rfl (hb hby d12_38) rfl (l' := #[.val (.ref ca), .val (.int (2 : Int32)), .val (.ref ba), .val (.int (2 : Int32)), .val (.int (2 : Int32)), .val (.int (2 : Int32)), .val (.int c1)]) rfl k) ?_
  refine own_by (T' := T26) (g' := (mkF m 3 #[.val (.ref ca), .val (.int (2 : Int32)), .val (.ref ba), .val (.int (2 : Int32)), .val (.int (2 : Int32)), .val (.int (2 : Int32)), .val (.int c1)] [])) (fun _ k => XS.goto X26.here hx rfl (pc0 := 41) (pc' := 3) rfl (hb hby d12_41) (by decide) (by decide) k) ?_
  refine own_by (T' := T26) (g' := (mkF m 5 #[.val (.ref ca), .val (.int (2 : Int32)), .val (.ref ba), .val (.int (2 : Int32)), .val (.int (2 : Int32)), .val (.int (2 : Int32)), .val (.int c1)] [(.int (2 : Int32))])) (fun _ k => XS.iload X26.here hx rfl (hb hby d12_3) rfl k) ?_
  refine own_by (T' := T26) (g' := (mkF m 7 #[.val (.ref ca), .val (.int (2 : Int32)), .val (.ref ba), .val (.int (2 : Int32)), .val (.int (2 : Int32)), .val (.int (2 : Int32)), .val (.int c1)] [(.int (2 : Int32)), (.int (2 : Int32))])) (fun _ k => XS.iload X26.here hx rfl (hb hby d12_5) rfl k) ?_
  refine own_by (T' := T26) (g' := (mkF m 44 #[.val (.ref ca), .val (.int (2 : Int32)), .val (.ref ba), .val (.int (2 : Int32)), .val (.int (2 : Int32)), .val (.int (2 : Int32)), .val (.int c1)] [])) (fun _ k => XS.icmpYes X26.here hx rfl (pc0 := 7) (pc' := 44) rfl (hb hby d12_7) rfl (flt (by decide)).2.1 (by decide) (by decide) k) ?_
  refine own_by (T' := T26) (g' := (mkF m 46 #[.val (.ref ca), .val (.int (2 : Int32)), .val (.ref ba), .val (.int (2 : Int32)), .val (.int (2 : Int32)), .val (.int (2 : Int32)), .val (.int c1)] [(.int (2 : Int32))])) (fun _ k => XS.iload X26.here hx rfl (hb hby d12_44) rfl k) ?_
  refine own_ret X26 hlk (v := some (.int (2 : Int32))) (fun h => by rw [Bd.returns] at h; cases h) (fun fs hr => retI X26 hx Bd.returns (hb hby d12_46) hr) ?_ (by decide) (by decide)
  rw [e26]
  exact ⟨rfl, N26, K26, V26⟩
theorem ef_cmp3_2 (m : MethodId) (ca : Addr) : entryFrame m #[(.ref ca), (.int (0 : Int32)), (.int (2 : Int32))] 6 = mkF m 0 #[.val (.ref ca), .val (.int (0 : Int32)), .val (.int (2 : Int32)), .unset, .unset, .unset] [] := by first | (simp [entryFrame, mkF, argsToLocals, Value.category]; done) | rfl
def Q_cmp3_2 (Z : State) (ca : Addr) (kc : ClassId) (c0 : Int32) (c1 : Int32) (h0 : Heap) (n0 : Nat) (v : Option Value) (h : Heap) (L : List Loc) : Prop := ∃ (t : Addr) (kb : ClassId), v = some (.ref t) ∧ Fr n0 L ∧ Keep h0 h [] ∧ h0.size ≤ t ∧ Arv Z h t kb .byte (2 : Int32) [(.int (nar .byte (c0.toInt8.toInt32))), (.int (nar .byte (c1.toInt8.toInt32)))] (.int (0 : Int32))
set_option maxRecDepth 65536 in
set_option maxHeartbeats 40000000 in
theorem cmp3_2 (l : Launch) (Z : State) (a0 : Array Value) (hw : ∀ d ∈ tables_1, d.before a0 Z = true) (ws : List Jvm.Cond) (ca : Addr) (kc : ClassId) (c0 : Int32) (c1 : Int32) (h0 : Heap) (n0 : Nat) (Z0 : n0 ≤ h0.size) (V_ca : Arv Z h0 ca kc .char (2 : Int32) [(.int c0), (.int c1)] (.int (0 : Int32))) (hc0 : ¬ (255 : Int32) < c0) (hc1 : ¬ (255 : Int32) < c1) :
    MetFree l (⟨"java/lang/StringUTF16", "compress", "([CII)[B"⟩ : MethodName) (head1 (Jvm.Cond.code (⟨"java/lang/StringUTF16", "compress", "([CII)[B"⟩ : MethodName) jdk_52_method_16_code 6 (some (.array .byte)) :: ws) ({ frames := 1, cells := 1, slots := 2, locals := 18 } : Room)) (fun zz UU => zz = #[(.ref ca), (.int (0 : Int32)), (.int (2 : Int32))] ∧ Z.Warmed39 UU.vm ∧ UU.heap = h0) (fun _ _ _ _ _ => True) (fun _ U o U' => ∃ v L, o = .returned v ∧ Q_cmp3_2 Z ca kc c0 c1 h0 n0 v U'.heap L ∧ FrameEnd U o U' L ({ frames := 1, cells := 1, slots := 2, locals := 18 } : Room).cells ({ frames := 1, cells := 1, slots := 2, locals := 18 } : Room).slots) := by
  refine MetFree.of_bodySF (plainFor_of_name pn_11) hisR ?_
  intro p e s m args below meth c s₁ Bd hml0 hP hK
  obtain ⟨rfl, hZ, hh⟩ := hP
  have hx := Bd.exec
  have hby := Bd.bytes
  have hml : c.maxLocals = 6 := hml0
  have hown : s.vm.findClass "java/lang/StringUTF16" = some m.cls := findClass_of_methodNamed Bd.named
  have hnm := (name_of_methodNamed Bd.named Bd.method).1
  have hlk : meth.locks = false := BodyLoose.notSynchronized Bd
  have X0 : Stand p l e ({ frames := 1, cells := 1, slots := 2, locals := 18 } : Room) s m #[(.ref ca), (.int (0 : Int32)), (.int (2 : Int32))] below meth c s₁ [] 0 0 := Stand.of_body Bd
  have e0 : s₁.heap = h0 := by rw [← hh, Bd.state]; rfl
  have N0 := Fr.nil n0
  show own_Go p.tables e below (Q_cmp3_2 Z ca kc c0 c1 h0 n0) s ({ frames := 1, cells := 1, slots := 2, locals := 18 } : Room).cells ({ frames := 1, cells := 1, slots := 2, locals := 18 } : Room).slots s₁ (entryFrame m #[(.ref ca), (.int (0 : Int32)), (.int (2 : Int32))] 6)
  rw [ef_cmp3_2 m ca]
  refine own_by (T' := s₁) (g' := (mkF m 1 #[.val (.ref ca), .val (.int (0 : Int32)), .val (.int (2 : Int32)), .unset, .unset, .unset] [(.int (2 : Int32))])) (fun _ k => XS.iloadN X0.here hx rfl (hb hby d11_0) rfl k) ?_
  obtain ⟨T21, h21, k21, X21, e21, E21, A21, st21⟩ := newP X0 hx hZ (hw _ (List.mem_of_getElem? (i := 19) rfl)) e0 (g := (mkF m 1 #[.val (.ref ca), .val (.int (0 : Int32)), .val (.int (2 : Int32)), .unset, .unset, .unset] [(.int (2 : Int32))])) rfl (hb hby d11_1) rfl (by decide) (cap := 2) (by decide) (by decide) (by decide) (by decide)
  obtain ⟨b21, g21⟩ : ∃ z, z = h0.size := ⟨_, rfl⟩
  rw [← g21] at A21 st21
  have V_b21 : Arv Z h21 b21 k21 .byte (2 : Int32) [(.int (0 : Int32)), (.int (0 : Int32))] (.int (0 : Int32)) := (Arv.new A21 (by decide)).pad (pad_rep [] (.int (0 : Int32)) 2)
  have g_b21 : n0 ≤ b21 := Nat.le_trans Z0 (Nat.le_of_eq g21.symm)
  have sz_b21 : h0.size ≤ b21 := Nat.le_trans (Keep.refl h0 []).1 (Nat.le_of_eq g21.symm)
  have K21 : Keep h0 h21 [] := Keep.ext (Keep.refl h0 []) E21
  refine own_by (T' := T21) (g' := (mkF m 3 #[.val (.ref ca), .val (.int (0 : Int32)), .val (.int (2 : Int32)), .unset, .unset, .unset] [(.ref b21)])) (fun _ k => st21 _ k) ?_
  refine own_by (T' := T21) (g' := (mkF m 4 #[.val (.ref ca), .val (.int (0 : Int32)), .val (.int (2 : Int32)), .val (.ref b21), .unset, .unset] [])) (fun _ k => XS.astoreN X21.here hx rfl (hb hby d11_3) rfl rfl (l' := #[.val (.ref ca), .val (.int (0 : Int32)), .val (.int (2 : Int32)), .val (.ref b21), .unset, .unset]) rfl k) ?_
  refine own_by (T' := T21) (g' := (mkF m 5 #[.val (.ref ca), .val (.int (0 : Int32)), .val (.int (2 : Int32)), .val (.ref b21), .unset, .unset] [(.ref ca)])) (fun _ k => XS.aloadN X21.here hx rfl (hb hby d11_4) rfl rfl k) ?_
  refine own_by (T' := T21) (g' := (mkF m 6 #[.val (.ref ca), .val (.int (0 : Int32)), .val (.int (2 : Int32)), .val (.ref b21), .unset, .unset] [(.int (0 : Int32)), (.ref ca)])) (fun _ k => XS.iloadN X21.here hx rfl (hb hby d11_5) rfl k) ?_
  refine own_by (T' := T21) (g' := (mkF m 7 #[.val (.ref ca), .val (.int (0 : Int32)), .val (.int (2 : Int32)), .val (.ref b21), .unset, .unset] [(.ref b21), (.int (0 : Int32)), (.ref ca)])) (fun _ k => XS.aloadN X21.here hx rfl (hb hby d11_6) rfl rfl k) ?_
  refine own_by (T' := T21) (g' := (mkF m 8 #[.val (.ref ca), .val (.int (0 : Int32)), .val (.int (2 : Int32)), .val (.ref b21), .unset, .unset] [(.int (0 : Int32)), (.ref b21), (.int (0 : Int32)), (.ref ca)])) (fun _ k => XS.iconst X21.here hx rfl (hb hby d11_7) k) ?_
  refine own_by (T' := T21) (g' := (mkF m 9 #[.val (.ref ca), .val (.int (0 : Int32)), .val (.int (2 : Int32)), .val (.ref b21), .unset, .unset] [(.int (2 : Int32)), (.int (0 : Int32)), (.ref b21), (.int (0 : Int32)), (.ref ca)])) (fun _ k => XS.iloadN X21.here hx rfl (hb hby d11_8) rfl k) ?_
  obtain ⟨_, _, ⟨T22, L22, k22, n22⟩, -, X22, ⟨Lc22, hQ22, l22, y22, z22⟩, st22⟩ := Jvm.LawKit.callS X21 hx (y := (⟨"java/lang/StringUTF16", "compress", "([CI[BII)I"⟩ : MethodName)) hown (mvT hZ (hw _ (List.mem_of_getElem? (i := 66) rfl))) (mvT hZ (hw _ (List.mem_of_getElem? (i := 67) rfl))) (mvT hZ (hw _ (List.mem_of_getElem? (i := 64) rfl))) (mvT hZ (hw _ (List.mem_of_getElem? (i := 68) rfl))) (by decide) (backOf (W := 0) (cmp5_2 l Z a0 hw [] ca b21 kc k21 c0 c1 h21 n0 (Nat.le_trans Z0 E21.1) (Arv.ext V_ca E21) V_b21 g_b21 (Nat.ne_of_lt (Nat.lt_of_lt_of_le V_ca.lt (Nat.le_of_eq g21.symm))) hc0 hc1) hZ (hw _ (List.mem_of_getElem? (i := 68) rfl)) (hw _ (List.mem_of_getElem? (i := 64) rfl)) (by decide) (by decide)) (g := (mkF m 9 #[.val (.ref ca), .val (.int (0 : Int32)), .val (.int (2 : Int32)), .val (.ref b21), .unset, .unset] [(.int (2 : Int32)), (.int (0 : Int32)), (.ref b21), (.int (0 : Int32)), (.ref ca)])) rfl (by rw [hml]; rfl) (argsL := [(.ref ca), (.int (0 : Int32)), (.ref b21), (.int (0 : Int32)), (.int (2 : Int32))]) (rest := []) (lenOf pd_0 rfl) rfl (by show 2 * 0 + _ ≤ _; exact Nat.le_of_eq rfl) (hb hby d11_9) (fun _ _ => ⟨rfl, e21, (by decide : (0 + 1) + 0 ≤ _), (by decide : (0 + 2) + 0 ≤ _)⟩)
  dsimp only [Pt.U, Pt.locs, Pt.cells, Pt.slots] at X22 l22 y22 z22 st22 hQ22
  subst l22 y22 z22
  obtain ⟨rfl, N22q, K22, V5_22⟩ := hQ22
  have N22 := Fr.app N0 N22q
  have KK22 : Keep h0 T22.heap [] := Keep.trans K21 K22 (allS (Or.inr sz_b21) all0)
  refine own_by (T' := T22) (g' := (mkF m 12 #[.val (.ref ca), .val (.int (0 : Int32)), .val (.int (2 : Int32)), .val (.ref b21), .unset, .unset] [(.int (2 : Int32))])) (fun _ k => st22 _ k) ?_
  refine own_by (T' := T22) (g' := (mkF m 14 #[.val (.ref ca), .val (.int (0 : Int32)), .val (.int (2 : Int32)), .val (.ref b21), .val (.int (2 : Int32)), .unset] [])) (fun _ k => XS.istore X22.here hx rfl (hb hby d11_12) rfl (l' := #[.val (.ref ca), .val (.int (0 : Int32)), .val (.int (2 : Int32)), .val (.ref b21), .val (.int (2 : Int32)), .unset]) rfl k) ?_
  refine own_by (T' := T22) (g' := (mkF m 16 #[.val (.ref ca), .val (.int (0 : Int32)), .val (.int (2 : Int32)), .val (.ref b21), .val (.int (2 : Int32)), .unset] [(.int (2 : Int32))])) (fun _ k => XS.iload X22.here hx rfl (hb hby d11_14) rfl k) ?_
  refine own_by (T' := T22) (g' := (mkF m 17 #[.val (.ref ca), .val (.int (0 : Int32)), .val (.int (2 : Int32)), .val (.ref b21), .val (.int (2 : Int32)), .unset] [(.int (2 : Int32)), (.int (2 : Int32))])) (fun _ k => XS.iloadN X22.here hx rfl (hb hby d11_16) rfl k) ?_
  refine own_by (T' := T22) (g' := (mkF m 57 #[.val (.ref ca), .val (.int (0 : Int32)), .val (.int (2 : Int32)), .val (.ref b21), .val (.int (2 : Int32)), .unset] [])) (fun _ k => XS.icmpYes X22.here hx rfl (pc0 := 17) (pc' := 57) rfl (hb hby d11_17) rfl (teq (by decide)).1 (by decide) (by decide) k) ?_
  refine own_by (T' := T22) (g' := (mkF m 58 #[.val (.ref ca), .val (.int (0 : Int32)), .val (.int (2 : Int32)), .val (.ref b21), .val (.int (2 : Int32)), .unset] [(.ref b21)])) (fun _ k => XS.aloadN X22.here hx rfl (hb hby d11_57) rfl rfl k) ?_
  refine own_ret X22 hlk (v := some (.ref b21)) (fun h => by rw [Bd.returns] at h; cases h) (fun fs hr => retOut X22 hx Bd.returns rfl (Or.inr (Or.inr (Or.inr (Or.inr ⟨rfl, rfl, rfl⟩)))) (hb hby d11_58) hr) ?_ (by decide) (by decide)
  exact ⟨_, _, rfl, N22, KK22, sz_b21, V5_22⟩
theorem ef_cod_2 (m : MethodId) (ba : Addr) : entryFrame m #[(.ref ba), (.int (2 : Int32))] 2 = mkF m 0 #[.val (.ref ba), .val (.int (2 : Int32))] [] := by first | (simp [entryFrame, mkF, argsToLocals, Value.category]; done) | rfl
def Q_cod_2 (Z : State) (ba : Addr) (kb : ClassId) (c0 : Int32) (c1 : Int32) (h0 : Heap) (n0 : Nat) (v : Option Value) (h : Heap) (L : List Loc) : Prop := v = some (.int (0 : Int32)) ∧ Fr n0 L ∧ h = h0
set_option maxRecDepth 65536 in
set_option maxHeartbeats 40000000 in
theorem cod_2 (l : Launch) (Z : State) (a0 : Array Value) (hw : ∀ d ∈ tables_1, d.before a0 Z = true) (ws : List Jvm.Cond) (ba : Addr) (kb : ClassId) (c0 : Int32) (c1 : Int32) (h0 : Heap) (n0 : Nat) (Z0 : n0 ≤ h0.size) (V_ba : Arv Z h0 ba kb .byte (2 : Int32) [(.int (nar .byte (c0.toInt8.toInt32))), (.int (nar .byte (c1.toInt8.toInt32)))] (.int (0 : Int32))) :
    MetFree l (⟨"java/lang/StringUTF16", "coderFromArrayLen", "([BI)B"⟩ : MethodName) (head1 (Jvm.Cond.code (⟨"java/lang/StringUTF16", "coderFromArrayLen", "([BI)B"⟩ : MethodName) jdk_52_method_15_code 2 (some .byte) :: ws) ({ frames := 0, cells := 0, slots := 0, locals := 0 } : Room)) (fun zz UU => zz = #[(.ref ba), (.int (2 : Int32))] ∧ Z.Warmed39 UU.vm ∧ UU.heap = h0) (fun _ _ _ _ _ => True) (fun _ U o U' => ∃ v L, o = .returned v ∧ Q_cod_2 Z ba kb c0 c1 h0 n0 v U'.heap L ∧ FrameEnd U o U' L ({ frames := 0, cells := 0, slots := 0, locals := 0 } : Room).cells ({ frames := 0, cells := 0, slots := 0, locals := 0 } : Room).slots) := by
  refine MetFree.of_bodySF (plainFor_of_name pn_13) hisR ?_
  intro p e s m args below meth c s₁ Bd hml0 hP hK
  obtain ⟨rfl, hZ, hh⟩ := hP
  have hx := Bd.exec
  have hby := Bd.bytes
  have hml : c.maxLocals = 2 := hml0
  have hown : s.vm.findClass "java/lang/StringUTF16" = some m.cls := findClass_of_methodNamed Bd.named
  have hnm := (name_of_methodNamed Bd.named Bd.method).1
  have hlk : meth.locks = false := BodyLoose.notSynchronized Bd
  have X0 : Stand p l e ({ frames := 0, cells := 0, slots := 0, locals := 0 } : Room) s m #[(.ref ba), (.int (2 : Int32))] below meth c s₁ [] 0 0 := Stand.of_body Bd
  have e0 : s₁.heap = h0 := by rw [← hh, Bd.state]; rfl
  have N0 := Fr.nil n0
  show own_Go p.tables e below (Q_cod_2 Z ba kb c0 c1 h0 n0) s ({ frames := 0, cells := 0, slots := 0, locals := 0 } : Room).cells ({ frames := 0, cells := 0, slots := 0, locals := 0 } : Room).slots s₁ (entryFrame m #[(.ref ba), (.int (2 : Int32))] 2)
  rw [ef_cod_2 m ba]
  refine own_by (T' := s₁) (g' := (mkF m 1 #[.val (.ref ba), .val (.int (2 : Int32))] [(.int (2 : Int32))])) (fun _ k => XS.iloadN X0.here hx rfl (hb hby d13_0) rfl k) ?_
  refine own_by (T' := s₁) (g' := (mkF m 2 #[.val (.ref ba), .val (.int (2 : Int32))] [(.ref ba), (.int (2 : Int32))])) (fun _ k => XS.aloadN X0.here hx rfl (hb hby d13_1) rfl rfl k) ?_
  obtain ⟨cl21, Ar21, q21, S21, N_21, H21, G21⟩ := id V_ba
  refine own_by (T' := s₁) (g' := (mkF m 3 #[.val (.ref ba), .val (.int (2 : Int32))] [(.int (2 : Int32)), (.int (2 : Int32))])) (fun _ k => X0.arraylength hx (by rw [e0]; exact Ar21.1) (State.isArrayOf_alike hZ.alike Ar21.2.1) (g := (mkF m 2 #[.val (.ref ba), .val (.int (2 : Int32))] [(.ref ba), (.int (2 : Int32))])) rfl rfl (hb hby d13_2) _ (by rw [len_of S21 N_21]; exact k)) ?_
  refine own_by (T' := s₁) (g' := (mkF m 4 #[.val (.ref ba), .val (.int (2 : Int32))] [(.int (0 : Int32))])) (fun _ k => XS.isub X0.here hx rfl (hb hby d13_3) rfl k) ?_
  refine own_by (T' := s₁) (g' := (mkF m 6 #[.val (.ref ba), .val (.int (2 : Int32))] [(.int (31 : Int32)), (.int (0 : Int32))])) (fun _ k => XS.bipush X0.here hx rfl (hb hby d13_4) k) ?_
  refine own_by (T' := s₁) (g' := (mkF m 7 #[.val (.ref ba), .val (.int (2 : Int32))] [(.int (0 : Int32))])) (fun _ k => XS.iushr X0.here hx rfl (hb hby d13_6) rfl k) ?_
  refine own_by (T' := s₁) (g' := (mkF m 8 #[.val (.ref ba), .val (.int (2 : Int32))] [(.int (0 : Int32))])) (fun _ k => XS.i2b X0.here hx rfl (hb hby d13_7) rfl k) ?_
  refine own_ret X0 hlk (v := some (.int (0 : Int32))) (fun h => by rw [Bd.returns] at h; cases h) (fun fs hr => retN X0 hx (t := .byte) Bd.returns (by simp) (hb hby d13_8) hr) ?_ (by decide) (by decide)
  rw [e0]
  exact ⟨rfl, N0, rfl⟩
theorem ef_sin4_2 (m : MethodId) (a : Addr) (ca : Addr) : entryFrame m #[(.ref a), (.ref ca), (.int (0 : Int32)), (.int (2 : Int32)), .null] 6 = mkF m 0 #[.val (.ref a), .val (.ref ca), .val (.int (0 : Int32)), .val (.int (2 : Int32)), .val .null, .unset] [] := by first | (simp [entryFrame, mkF, argsToLocals, Value.category]; done) | rfl
def Q_sin4_2 (Z : State) (a : Addr) (ca : Addr) (kc : ClassId) (cs : Int32) (c0 : Int32) (c1 : Int32) (h0 : Heap) (n0 : Nat) (v : Option Value) (h : Heap) (L : List Loc) : Prop := v = none ∧ Fr n0 L ∧ Keep h0 h [a] ∧ Fld Z h a "java/lang/String" "coder" "B" (.int (0 : Int32)) ∧ ∃ (t : Addr) (kb : ClassId), h0.size ≤ t ∧ Fld Z h a "java/lang/String" "value" "[B" (.ref t) ∧ Arv Z h t kb .byte (2 : Int32) [(.int (nar .byte (c0.toInt8.toInt32))), (.int (nar .byte (c1.toInt8.toInt32)))] (.int (0 : Int32))
set_option maxRecDepth 65536 in
set_option maxHeartbeats 40000000 in
theorem sin4_2 (l : Launch) (Z : State) (a0 : Array Value) (hw : ∀ d ∈ tables_1, d.before a0 Z = true) (ws : List Jvm.Cond) (a : Addr) (ca : Addr) (kc : ClassId) (cs : Int32) (c0 : Int32) (c1 : Int32) (h0 : Heap) (n0 : Nat) (Z0 : n0 ≤ h0.size) (E_a : Exa Z h0 a "java/lang/String") (F_value_a : Fld Z h0 a "java/lang/String" "value" "[B" .null) (F_coder_a : Fld Z h0 a "java/lang/String" "coder" "B" (.int (0 : Int32))) (g_a : n0 ≤ a) (V_ca : Arv Z h0 ca kc .char (2 : Int32) [(.int c0), (.int c1)] (.int (0 : Int32))) (S_CS : Sta Z h0 "java/lang/String" "COMPACT_STRINGS" "Z" (.int cs)) (hcs : ¬ cs = (0 : Int32)) (hc0 : ¬ (255 : Int32) < c0) (hc1 : ¬ (255 : Int32) < c1) :
    MetFree l (⟨"java/lang/String", "<init>", "([CIILjava/lang/Void;)V"⟩ : MethodName) (head1 (Jvm.Cond.code (⟨"java/lang/String", "<init>", "([CIILjava/lang/Void;)V"⟩ : MethodName) jdk_42_method_149_code 6 none :: ws) ({ frames := 2, cells := 1, slots := 2, locals := 35 } : Room)) (fun zz UU => zz = #[(.ref a), (.ref ca), (.int (0 : Int32)), (.int (2 : Int32)), .null] ∧ Z.Warmed39 UU.vm ∧ UU.heap = h0) (fun _ _ _ _ _ => True) (fun _ U o U' => ∃ v L, o = .returned v ∧ Q_sin4_2 Z a ca kc cs c0 c1 h0 n0 v U'.heap L ∧ FrameEnd U o U' L ({ frames := 2, cells := 1, slots := 2, locals := 35 } : Room).cells ({ frames := 2, cells := 1, slots := 2, locals := 35 } : Room).slots) := by
  refine MetFree.of_bodySF (plainFor_of_name pn_3) hisR ?_
  intro p e s m args below meth c s₁ Bd hml0 hP hK
  obtain ⟨rfl, hZ, hh⟩ := hP
  have hx := Bd.exec
  have hby := Bd.bytes
  have hml : c.maxLocals = 6 := hml0
  have hown : s.vm.findClass "java/lang/String" = some m.cls := findClass_of_methodNamed Bd.named
  have hnm := (name_of_methodNamed Bd.named Bd.method).1
  have hlk : meth.locks = false := BodyLoose.notSynchronized Bd
  have X0 : Stand p l e ({ frames := 2, cells := 1, slots := 2, locals := 35 } : Room) s m #[(.ref a), (.ref ca), (.int (0 : Int32)), (.int (2 : Int32)), .null] below meth c s₁ [] 0 0 := Stand.of_body Bd
  have e0 : s₁.heap = h0 := by rw [← hh, Bd.state]; rfl
  have N0 := Fr.nil n0
  show own_Go p.tables e below (Q_sin4_2 Z a ca kc cs c0 c1 h0 n0) s ({ frames := 2, cells := 1, slots := 2, locals := 35 } : Room).cells ({ frames := 2, cells := 1, slots := 2, locals := 35 } : Room).slots s₁ (entryFrame m #[(.ref a), (.ref ca), (.int (0 : Int32)), (.int (2 : Int32)), .null] 6)
  rw [ef_sin4_2 m a ca]
  refine own_by (T' := s₁) (g' := (mkF m 1 #[.val (.ref a), .val (.ref ca), .val (.int (0 : Int32)), .val (.int (2 : Int32)), .val .null, .unset] [(.ref a)])) (fun _ k => XS.aloadN X0.here hx rfl (hb hby d3_0) rfl rfl k) ?_
  obtain ⟨T21, X21, e21, st21⟩ := initO X0 hx hZ hown (hw _ (List.mem_of_getElem? (i := 15) rfl)) (hw _ (List.mem_of_getElem? (i := 16) rfl)) (hw _ (List.mem_of_getElem? (i := 17) rfl)) e0 (g := (mkF m 1 #[.val (.ref a), .val (.ref ca), .val (.int (0 : Int32)), .val (.int (2 : Int32)), .val .null, .unset] [(.ref a)])) rfl (by rw [hml]; rfl) rfl (hb hby d3_1) (by decide) (W := 0) (by show 2 * 0 + _ ≤ _; exact Nat.le_of_eq rfl) (by decide)
  refine own_by (T' := T21) (g' := (mkF m 4 #[.val (.ref a), .val (.ref ca), .val (.int (0 : Int32)), .val (.int (2 : Int32)), .val .null, .unset] [])) (fun _ k => st21 _ k) ?_
  refine own_by (T' := T21) (g' := (mkF m 5 #[.val (.ref a), .val (.ref ca), .val (.int (0 : Int32)), .val (.int (2 : Int32)), .val .null, .unset] [(.int (2 : Int32))])) (fun _ k => XS.iloadN X21.here hx rfl (hb hby d3_4) rfl k) ?_
  refine own_by (T' := T21) (g' := (mkF m 27 #[.val (.ref a), .val (.ref ca), .val (.int (0 : Int32)), .val (.int (2 : Int32)), .val .null, .unset] [])) (fun _ k => XS.ifYes X21.here hx rfl (pc0 := 5) (pc' := 27) rfl (hb hby d3_5) rfl ((if0 _ _).trans (feq (by decide)).2) (by decide) (by decide) k) ?_
  obtain ⟨T22, X22, e22, st22⟩ := getS2 X21 hx hZ hown (host := "") (Or.inl (hw _ (List.mem_of_getElem? (i := 61) rfl))) Via.refl e21 S_CS (g := (mkF m 27 #[.val (.ref a), .val (.ref ca), .val (.int (0 : Int32)), .val (.int (2 : Int32)), .val .null, .unset] [])) rfl (hb hby d3_27)
  refine own_by (T' := T22) (g' := (mkF m 30 #[.val (.ref a), .val (.ref ca), .val (.int (0 : Int32)), .val (.int (2 : Int32)), .val .null, .unset] [(.int cs)])) (fun _ k => st22 _ k) ?_
  refine own_by (T' := T22) (g' := (mkF m 33 #[.val (.ref a), .val (.ref ca), .val (.int (0 : Int32)), .val (.int (2 : Int32)), .val .null, .unset] [])) (fun _ k => XS.ifNo X22.here hx rfl (hb hby d3_30) rfl ((if0 _ _).trans (feq hcs).1) k) ?_
  refine own_by (T' := T22) (g' := (mkF m 34 #[.val (.ref a), .val (.ref ca), .val (.int (0 : Int32)), .val (.int (2 : Int32)), .val .null, .unset] [(.ref ca)])) (fun _ k => XS.aloadN X22.here hx rfl (hb hby d3_33) rfl rfl k) ?_
  refine own_by (T' := T22) (g' := (mkF m 35 #[.val (.ref a), .val (.ref ca), .val (.int (0 : Int32)), .val (.int (2 : Int32)), .val .null, .unset] [(.int (0 : Int32)), (.ref ca)])) (fun _ k => XS.iloadN X22.here hx rfl (hb hby d3_34) rfl k) ?_
  refine own_by (T' := T22) (g' := (mkF m 36 #[.val (.ref a), .val (.ref ca), .val (.int (0 : Int32)), .val (.int (2 : Int32)), .val .null, .unset] [(.int (2 : Int32)), (.int (0 : Int32)), (.ref ca)])) (fun _ k => XS.iloadN X22.here hx rfl (hb hby d3_35) rfl k) ?_
  obtain ⟨_, _, ⟨T23, L23, k23, n23⟩, -, X23, ⟨Lc23, hQ23, l23, y23, z23⟩, st23⟩ := Jvm.LawKit.callS X22 hx (y := (⟨"java/lang/StringUTF16", "compress", "([CII)[B"⟩ : MethodName)) hown (mvT hZ (hw _ (List.mem_of_getElem? (i := 62) rfl))) (mvT hZ (hw _ (List.mem_of_getElem? (i := 63) rfl))) (mvT hZ (hw _ (List.mem_of_getElem? (i := 64) rfl))) (mvT hZ (hw _ (List.mem_of_getElem? (i := 65) rfl))) (by decide) (backOf (W := 0) (cmp3_2 l Z a0 hw [] ca kc c0 c1 h0 n0 Z0 V_ca hc0 hc1) hZ (hw _ (List.mem_of_getElem? (i := 65) rfl)) (hw _ (List.mem_of_getElem? (i := 64) rfl)) (by decide) (by decide)) (g := (mkF m 36 #[.val (.ref a), .val (.ref ca), .val (.int (0 : Int32)), .val (.int (2 : Int32)), .val .null, .unset] [(.int (2 : Int32)), (.int (0 : Int32)), (.ref ca)])) rfl (by rw [hml]; rfl) (argsL := [(.ref ca), (.int (0 : Int32)), (.int (2 : Int32))]) (rest := []) (lenOf pd_1 rfl) rfl (by show 2 * 0 + _ ≤ _; exact Nat.le_of_eq rfl) (hb hby d3_36) (fun _ _ => ⟨rfl, e22, (by decide : 0 + 1 ≤ _), (by decide : 0 + 2 ≤ _)⟩)
  dsimp only [Pt.U, Pt.locs, Pt.cells, Pt.slots] at X23 l23 y23 z23 st23 hQ23
  subst l23 y23 z23
  obtain ⟨t23, kb23, rfl, N23q, K23, zt23, V23⟩ := hQ23
  have N23 := Fr.app N0 N23q
  have KK23 : Keep h0 T23.heap [a] := Keep.trans (Keep.refl h0 [a]) K23 all0
  have sz_t23 : h0.size ≤ t23 := Nat.le_trans (Keep.refl h0 [a]).1 zt23
  have g_t23 : n0 ≤ t23 := Nat.le_trans Z0 sz_t23
  refine own_by (T' := T23) (g' := (mkF m 39 #[.val (.ref a), .val (.ref ca), .val (.int (0 : Int32)), .val (.int (2 : Int32)), .val .null, .unset] [(.ref t23)])) (fun _ k => st23 _ k) ?_
  refine own_by (T' := T23) (g' := (mkF m 41 #[.val (.ref a), .val (.ref ca), .val (.int (0 : Int32)), .val (.int (2 : Int32)), .val .null, .val (.ref t23)] [])) (fun _ k => XS.astore X23.here hx rfl (hb hby d3_39) rfl rfl (l' := #[.val (.ref a), .val (.ref ca), .val (.int (0 : Int32)), .val (.int (2 : Int32)), .val .null, .val (.ref t23)]) rfl k) ?_
  refine own_by (T' := T23) (g' := (mkF m 42 #[.val (.ref a), .val (.ref ca), .val (.int (0 : Int32)), .val (.int (2 : Int32)), .val .null, .val (.ref t23)] [(.ref a)])) (fun _ k => XS.aloadN X23.here hx rfl (hb hby d3_41) rfl rfl k) ?_
  refine own_by (T' := T23) (g' := (mkF m 44 #[.val (.ref a), .val (.ref ca), .val (.int (0 : Int32)), .val (.int (2 : Int32)), .val .null, .val (.ref t23)] [(.ref t23), (.ref a)])) (fun _ k => XS.aload X23.here hx rfl (hb hby d3_42) rfl rfl k) ?_
  refine own_by (T' := T23) (g' := (mkF m 45 #[.val (.ref a), .val (.ref ca), .val (.int (0 : Int32)), .val (.int (2 : Int32)), .val .null, .val (.ref t23)] [(.int (2 : Int32)), (.ref t23), (.ref a)])) (fun _ k => XS.iloadN X23.here hx rfl (hb hby d3_44) rfl k) ?_
  obtain ⟨_, _, ⟨T24, L24, k24, n24⟩, -, X24, ⟨Lc24, hQ24, l24, y24, z24⟩, st24⟩ := Jvm.LawKit.callS X23 hx (y := (⟨"java/lang/StringUTF16", "coderFromArrayLen", "([BI)B"⟩ : MethodName)) hown (mvT hZ (hw _ (List.mem_of_getElem? (i := 69) rfl))) (mvT hZ (hw _ (List.mem_of_getElem? (i := 70) rfl))) (mvT hZ (hw _ (List.mem_of_getElem? (i := 64) rfl))) (mvT hZ (hw _ (List.mem_of_getElem? (i := 71) rfl))) (by decide) (backOf (W := 1) (cod_2 l Z a0 hw [] t23 kb23 c0 c1 T23.heap n0 (Nat.le_trans Z0 K23.1) V23) hZ (hw _ (List.mem_of_getElem? (i := 71) rfl)) (hw _ (List.mem_of_getElem? (i := 64) rfl)) (by decide) (by decide)) (g := (mkF m 45 #[.val (.ref a), .val (.ref ca), .val (.int (0 : Int32)), .val (.int (2 : Int32)), .val .null, .val (.ref t23)] [(.int (2 : Int32)), (.ref t23), (.ref a)])) rfl (by rw [hml]; rfl) (argsL := [(.ref t23), (.int (2 : Int32))]) (rest := [(.ref a)]) (lenOf pd_2 rfl) rfl (by show 2 * 0 + _ ≤ _; exact Nat.le_of_eq rfl) (hb hby d3_45) (fun _ _ => ⟨rfl, rfl, (by decide : (0 + 1) + 0 ≤ _), (by decide : (0 + 2) + 0 ≤ _)⟩)
  dsimp only [Pt.U, Pt.locs, Pt.cells, Pt.slots] at X24 l24 y24 z24 st24 hQ24
  subst l24 y24 z24
  obtain ⟨rfl, N24q, e24⟩ := hQ24
  have N24 := Fr.app N23 N24q
  refine own_by (T' := T24) (g' := (mkF m 48 #[.val (.ref a), .val (.ref ca), .val (.int (0 : Int32)), .val (.int (2 : Int32)), .val .null, .val (.ref t23)] [(.int (0 : Int32)), (.ref a)])) (fun _ k => st24 _ k) ?_
  obtain ⟨T25, h25, X25, e25, W25, st25⟩ := putFN X24 hx hZ hown (hw _ (List.mem_of_getElem? (i := 25) rfl)) Via.refl e24 (Fld.keep F_coder_a K23 nin0) (Exa.keep E_a K23) (Or.inr ⟨(hw _ (List.mem_of_getElem? (i := 21) rfl)), rfl, hnm⟩) (hw _ (List.mem_of_getElem? (i := 5) rfl)) (ty := .byte) (v' := (.int (0 : Int32))) (by decide) rfl (by decide) (g := (mkF m 48 #[.val (.ref a), .val (.ref ca), .val (.int (0 : Int32)), .val (.int (2 : Int32)), .val .null, .val (.ref t23)] [(.int (0 : Int32)), (.ref a)])) rfl rfl (hb hby d3_48)
  have Fw25 : Fld Z h25 a "java/lang/String" "coder" "B" (.int (0 : Int32)) := Fld.same W25 (Fld.keep F_coder_a K23 nin0)
  have K25 : Keep h0 h25 [a] := Keep.wr KK23 W25 (Or.inl (List.mem_of_getElem? (i := 0) rfl))
  have N25 := Fr.snoc X25 N24 g_a
  refine own_by (T' := T25) (g' := (mkF m 51 #[.val (.ref a), .val (.ref ca), .val (.int (0 : Int32)), .val (.int (2 : Int32)), .val .null, .val (.ref t23)] [])) (fun _ k => st25 _ k) ?_
  refine own_by (T' := T25) (g' := (mkF m 52 #[.val (.ref a), .val (.ref ca), .val (.int (0 : Int32)), .val (.int (2 : Int32)), .val .null, .val (.ref t23)] [(.ref a)])) (fun _ k => XS.aloadN X25.here hx rfl (hb hby d3_51) rfl rfl k) ?_
  refine own_by (T' := T25) (g' := (mkF m 54 #[.val (.ref a), .val (.ref ca), .val (.int (0 : Int32)), .val (.int (2 : Int32)), .val .null, .val (.ref t23)] [(.ref t23), (.ref a)])) (fun _ k => XS.aload X25.here hx rfl (hb hby d3_52) rfl rfl k) ?_
  obtain ⟨T26, h26, X26, e26, W26, st26⟩ := putF X25 hx hZ hown (host := "") (Or.inl (hw _ (List.mem_of_getElem? (i := 24) rfl))) Via.refl e25 (Fld.other W25 (Fld.keep F_value_a K23 nin0) (Or.inr (slot_ne (a0 := a0) (Or.inr (hw _ (List.mem_of_getElem? (i := 20) rfl))) (Or.inr (hw _ (List.mem_of_getElem? (i := 21) rfl))) (by decide) (t := (.array .byte)) (t' := .byte) (by decide) (by decide)))) (Exa.wr W25 (Exa.keep E_a K23)) (Or.inr ⟨(hw _ (List.mem_of_getElem? (i := 20) rfl)), rfl, hnm⟩) (hw _ (List.mem_of_getElem? (i := 5) rfl)) (ty := (.array .byte)) (by decide) rfl rfl (g := (mkF m 54 #[.val (.ref a), .val (.ref ca), .val (.int (0 : Int32)), .val (.int (2 : Int32)), .val .null, .val (.ref t23)] [(.ref t23), (.ref a)])) rfl rfl (hb hby d3_54)
  have Fw26 : Fld Z h26 a "java/lang/String" "value" "[B" (.ref t23) := Fld.same W26 (Fld.other W25 (Fld.keep F_value_a K23 nin0) (Or.inr (slot_ne (a0 := a0) (Or.inr (hw _ (List.mem_of_getElem? (i := 20) rfl))) (Or.inr (hw _ (List.mem_of_getElem? (i := 21) rfl))) (by decide) (t := (.array .byte)) (t' := .byte) (by decide) (by decide))))
  have K26 : Keep h0 h26 [a] := Keep.wr K25 W26 (Or.inl (List.mem_of_getElem? (i := 0) rfl))
  have N26 := Fr.snoc X26 N25 g_a
  refine own_by (T' := T26) (g' := (mkF m 57 #[.val (.ref a), .val (.ref ca), .val (.int (0 : Int32)), .val (.int (2 : Int32)), .val .null, .val (.ref t23)] [])) (fun _ k => st26 _ k) ?_
  refine own_ret X26 hlk (v := none) (fun _ => rfl) (fun fs hr => X26.returnOut hx Bd.returns (hb hby d3_57) hr) ?_ (by decide) (by decide)
  rw [e26]
  exact ⟨rfl, N26, K26, (Fld.other W26 Fw25 (Or.inr (slot_ne (a0 := a0) (Or.inr (hw _ (List.mem_of_getElem? (i := 21) rfl))) (Or.inr (hw _ (List.mem_of_getElem? (i := 20) rfl))) (by decide) (t := .byte) (t' := (.array .byte)) (by decide) (by decide)))), _, _, sz_t23, Fw26, (Arv.other (Arv.other V23 W25 (Ne.symm (Nat.ne_of_lt (Nat.lt_of_lt_of_le (E_a).lt zt23)))) W26 (Ne.symm (Nat.ne_of_lt (Nat.lt_of_lt_of_le (E_a).lt zt23))))⟩
theorem ef_sin1_2 (m : MethodId) (a : Addr) (ca : Addr) : entryFrame m #[(.ref a), (.ref ca)] 2 = mkF m 0 #[.val (.ref a), .val (.ref ca)] [] := by first | (simp [entryFrame, mkF, argsToLocals, Value.category]; done) | rfl
def Q_sin1_2 (Z : State) (a : Addr) (ca : Addr) (kc : ClassId) (cs : Int32) (c0 : Int32) (c1 : Int32) (h0 : Heap) (n0 : Nat) (v : Option Value) (h : Heap) (L : List Loc) : Prop := v = none ∧ Fr n0 L ∧ Keep h0 h [a] ∧ Fld Z h a "java/lang/String" "coder" "B" (.int (0 : Int32)) ∧ ∃ (t : Addr) (kb : ClassId), h0.size ≤ t ∧ Fld Z h a "java/lang/String" "value" "[B" (.ref t) ∧ Arv Z h t kb .byte (2 : Int32) [(.int (nar .byte (c0.toInt8.toInt32))), (.int (nar .byte (c1.toInt8.toInt32)))] (.int (0 : Int32))
set_option maxRecDepth 65536 in
set_option maxHeartbeats 40000000 in
theorem sin1_2 (l : Launch) (Z : State) (a0 : Array Value) (hw : ∀ d ∈ tables_1, d.before a0 Z = true) (ws : List Jvm.Cond) (a : Addr) (ca : Addr) (kc : ClassId) (cs : Int32) (c0 : Int32) (c1 : Int32) (h0 : Heap) (n0 : Nat) (Z0 : n0 ≤ h0.size) (E_a : Exa Z h0 a "java/lang/String") (F_value_a : Fld Z h0 a "java/lang/String" "value" "[B" .null) (F_coder_a : Fld Z h0 a "java/lang/String" "coder" "B" (.int (0 : Int32))) (g_a : n0 ≤ a) (V_ca : Arv Z h0 ca kc .char (2 : Int32) [(.int c0), (.int c1)] (.int (0 : Int32))) (S_CS : Sta Z h0 "java/lang/String" "COMPACT_STRINGS" "Z" (.int cs)) (hcs : ¬ cs = (0 : Int32)) (hc0 : ¬ (255 : Int32) < c0) (hc1 : ¬ (255 : Int32) < c1) :
    MetFree l (⟨"java/lang/String", "<init>", "([C)V"⟩ : MethodName) (head1 (Jvm.Cond.code (⟨"java/lang/String", "<init>", "([C)V"⟩ : MethodName) jdk_42_method_3_code 2 none :: ws) ({ frames := 3, cells := 1, slots := 2, locals := 52 } : Room)) (fun zz UU => zz = #[(.ref a), (.ref ca)] ∧ Z.Warmed39 UU.vm ∧ UU.heap = h0) (fun _ _ _ _ _ => True) (fun _ U o U' => ∃ v L, o = .returned v ∧ Q_sin1_2 Z a ca kc cs c0 c1 h0 n0 v U'.heap L ∧ FrameEnd U o U' L ({ frames := 3, cells := 1, slots := 2, locals := 52 } : Room).cells ({ frames := 3, cells := 1, slots := 2, locals := 52 } : Room).slots) := by
  refine MetFree.of_bodySF (plainFor_of_name pn_2) hisR ?_
  intro p e s m args below meth c s₁ Bd hml0 hP hK
  obtain ⟨rfl, hZ, hh⟩ := hP
  have hx := Bd.exec
  have hby := Bd.bytes
  have hml : c.maxLocals = 2 := hml0
  have hown : s.vm.findClass "java/lang/String" = some m.cls := findClass_of_methodNamed Bd.named
  have hnm := (name_of_methodNamed Bd.named Bd.method).1
  have hlk : meth.locks = false := BodyLoose.notSynchronized Bd
  have X0 : Stand p l e ({ frames := 3, cells := 1, slots := 2, locals := 52 } : Room) s m #[(.ref a), (.ref ca)] below meth c s₁ [] 0 0 := Stand.of_body Bd
  have e0 : s₁.heap = h0 := by rw [← hh, Bd.state]; rfl
  have N0 := Fr.nil n0
  show own_Go p.tables e below (Q_sin1_2 Z a ca kc cs c0 c1 h0 n0) s ({ frames := 3, cells := 1, slots := 2, locals := 52 } : Room).cells ({ frames := 3, cells := 1, slots := 2, locals := 52 } : Room).slots s₁ (entryFrame m #[(.ref a), (.ref ca)] 2)
  rw [ef_sin1_2 m a ca]
  refine own_by (T' := s₁) (g' := (mkF m 1 #[.val (.ref a), .val (.ref ca)] [(.ref a)])) (fun _ k => XS.aloadN X0.here hx rfl (hb hby d2_0) rfl rfl k) ?_
  refine own_by (T' := s₁) (g' := (mkF m 2 #[.val (.ref a), .val (.ref ca)] [(.ref ca), (.ref a)])) (fun _ k => XS.aloadN X0.here hx rfl (hb hby d2_1) rfl rfl k) ?_
  refine own_by (T' := s₁) (g' := (mkF m 3 #[.val (.ref a), .val (.ref ca)] [(.int (0 : Int32)), (.ref ca), (.ref a)])) (fun _ k => XS.iconst X0.here hx rfl (hb hby d2_2) k) ?_
  refine own_by (T' := s₁) (g' := (mkF m 4 #[.val (.ref a), .val (.ref ca)] [(.ref ca), (.int (0 : Int32)), (.ref ca), (.ref a)])) (fun _ k => XS.aloadN X0.here hx rfl (hb hby d2_3) rfl rfl k) ?_
  obtain ⟨cl21, Ar21, q21, S21, N_21, H21, G21⟩ := id V_ca
  refine own_by (T' := s₁) (g' := (mkF m 5 #[.val (.ref a), .val (.ref ca)] [(.int (2 : Int32)), (.int (0 : Int32)), (.ref ca), (.ref a)])) (fun _ k => X0.arraylength hx (by rw [e0]; exact Ar21.1) (State.isArrayOf_alike hZ.alike Ar21.2.1) (g := (mkF m 4 #[.val (.ref a), .val (.ref ca)] [(.ref ca), (.int (0 : Int32)), (.ref ca), (.ref a)])) rfl rfl (hb hby d2_4) _ (by rw [len_of S21 N_21]; exact k)) ?_
  refine own_by (T' := s₁) (g' := (mkF m 6 #[.val (.ref a), .val (.ref ca)] [.null, (.int (2 : Int32)), (.int (0 : Int32)), (.ref ca), (.ref a)])) (fun _ k => XS.aconstNull X0.here hx rfl (hb hby d2_5) k) ?_
  obtain ⟨_, _, ⟨T22, L22, k22, n22⟩, -, X22, ⟨Lc22, hQ22, l22, y22, z22⟩, st22⟩ := X0.specialBack hx (y := (⟨"java/lang/String", "<init>", "([CIILjava/lang/Void;)V"⟩ : MethodName)) rfl hown (mvT hZ (hw _ (List.mem_of_getElem? (i := 11) rfl))) (mvT hZ (hw _ (List.mem_of_getElem? (i := 12) rfl))) (mvT hZ (hw _ (List.mem_of_getElem? (i := 14) rfl))) (by decide) (backOf (W := 0) (sin4_2 l Z a0 hw [] a ca kc cs c0 c1 h0 n0 Z0 E_a F_value_a F_coder_a g_a V_ca S_CS hcs hc0 hc1) hZ (hw _ (List.mem_of_getElem? (i := 14) rfl)) (hw _ (List.mem_of_getElem? (i := 6) rfl)) (by decide) (by decide)) (g := (mkF m 6 #[.val (.ref a), .val (.ref ca)] [.null, (.int (2 : Int32)), (.int (0 : Int32)), (.ref ca), (.ref a)])) rfl (by rw [hml]; rfl) (Steps.refl _) (a := a) (argsL := [(.ref ca), (.int (0 : Int32)), (.int (2 : Int32)), .null]) (rest := []) (lenOf pd_3 rfl) rfl (by show 2 * 0 + _ ≤ _; exact Nat.le_of_eq rfl) (hb hby d2_6) (fun _ _ => ⟨rfl, e0, (by decide : 0 + 1 ≤ _), (by decide : 0 + 2 ≤ _)⟩)
  dsimp only [Pt.U, Pt.locs, Pt.cells, Pt.slots] at X22 l22 y22 z22 st22 hQ22
  subst l22 y22 z22
  obtain ⟨rfl, N22q, K22, Fc22, t22, kb22, zt22, Fv22, V22⟩ := hQ22
  have N22 := Fr.app N0 N22q
  have KK22 : Keep h0 T22.heap [a] := Keep.trans (Keep.refl h0 [a]) K22 (allS (Or.inl (List.mem_of_getElem? (i := 0) rfl)) all0)
  have sz_t22 : h0.size ≤ t22 := zt22
  refine own_by (T' := T22) (g' := (mkF m 9 #[.val (.ref a), .val (.ref ca)] [])) (fun _ k => st22.trans k) ?_
  refine own_ret X22 hlk (v := none) (fun _ => rfl) (fun fs hr => X22.returnOut hx Bd.returns (hb hby d2_9) hr) ?_ (by decide) (by decide)
  exact ⟨rfl, N22, KK22, Fc22, _, _, sz_t22, Fv22, V22⟩
theorem ef_cmp5_3 (m : MethodId) (ca : Addr) (ba : Addr) : entryFrame m #[(.ref ca), (.int (0 : Int32)), (.ref ba), (.int (0 : Int32)), (.int (3 : Int32))] 7 = mkF m 0 #[.val (.ref ca), .val (.int (0 : Int32)), .val (.ref ba), .val (.int (0 : Int32)), .val (.int (3 : Int32)), .unset, .unset] [] := by first | (simp [entryFrame, mkF, argsToLocals, Value.category]; done) | rfl
def Q_cmp5_3 (Z : State) (ca : Addr) (ba : Addr) (kc : ClassId) (kb : ClassId) (c0 : Int32) (c1 : Int32) (c2 : Int32) (h0 : Heap) (n0 : Nat) (v : Option Value) (h : Heap) (L : List Loc) : Prop := v = some (.int (3 : Int32)) ∧ Fr n0 L ∧ Keep h0 h [ba] ∧ Arv Z h ba kb .byte (3 : Int32) [(.int (nar .byte (c0.toInt8.toInt32))), (.int (nar .byte (c1.toInt8.toInt32))), (.int (nar .byte (c2.toInt8.toInt32)))] (.int (0 : Int32))
set_option maxRecDepth 65536 in
set_option maxHeartbeats 40000000 in
theorem cmp5_3 (l : Launch) (Z : State) (a0 : Array Value) (hw : ∀ d ∈ tables_1, d.before a0 Z = true) (ws : List Jvm.Cond) (ca : Addr) (ba : Addr) (kc : ClassId) (kb : ClassId) (c0 : Int32) (c1 : Int32) (c2 : Int32) (h0 : Heap) (n0 : Nat) (Z0 : n0 ≤ h0.size) (V_ca : Arv Z h0 ca kc .char (3 : Int32) [(.int c0), (.int c1), (.int c2)] (.int (0 : Int32))) (V_ba : Arv Z h0 ba kb .byte (3 : Int32) [(.int (0 : Int32)), (.int (0 : Int32)), (.int (0 : Int32))] (.int (0 : Int32))) (g_ba : n0 ≤ ba) (neab : ca ≠ ba) (hc0 : ¬ (255 : Int32) < c0) (hc1 : ¬ (255 : Int32) < c1) (hc2 : ¬ (255 : Int32) < c2) :
    MetFree l (⟨"java/lang/StringUTF16", "compress", "([CI[BII)I"⟩ : MethodName) (head1 (Jvm.Cond.code (⟨"java/lang/StringUTF16", "compress", "([CI[BII)I"⟩ : MethodName) jdk_52_method_21_code 7 (some .int) :: ws) ({ frames := 0, cells := 0, slots := 0, locals := 0 } : Room)) (fun zz UU => zz = #[(.ref ca), (.int (0 : Int32)), (.ref ba), (.int (0 : Int32)), (.int (3 : Int32))] ∧ Z.Warmed39 UU.vm ∧ UU.heap = h0) (fun _ _ _ _ _ => True) (fun _ U o U' => ∃ v L, o = .returned v ∧ Q_cmp5_3 Z ca ba kc kb c0 c1 c2 h0 n0 v U'.heap L ∧ FrameEnd U o U' L ({ frames := 0, cells := 0, slots := 0, locals := 0 } : Room).cells ({ frames := 0, cells := 0, slots := 0, locals := 0 } : Room).slots) := by
  refine MetFree.of_bodySF (plainFor_of_name pn_12) hisR ?_
  intro p e s m args below meth c s₁ Bd hml0 hP hK
  obtain ⟨rfl, hZ, hh⟩ := hP
  have hx := Bd.exec
  have hby := Bd.bytes
  have hml : c.maxLocals = 7 := hml0
  have hown : s.vm.findClass "java/lang/StringUTF16" = some m.cls := findClass_of_methodNamed Bd.named
  have hnm := (name_of_methodNamed Bd.named Bd.method).1
  have hlk : meth.locks = false := BodyLoose.notSynchronized Bd
  have X0 : Stand p l e ({ frames := 0, cells := 0, slots := 0, locals := 0 } : Room) s m #[(.ref ca), (.int (0 : Int32)), (.ref ba), (.int (0 : Int32)), (.int (3 : Int32))] below meth c s₁ [] 0 0 := Stand.of_body Bd
  have e0 : s₁.heap = h0 := by rw [← hh, Bd.state]; rfl
  have N0 := Fr.nil n0
  show own_Go p.tables e below (Q_cmp5_3 Z ca ba kc kb c0 c1 c2 h0 n0) s ({ frames := 0, cells := 0, slots := 0, locals := 0 } : Room).cells ({ frames := 0, cells := 0, slots := 0, locals := 0 } : Room).slots s₁ (entryFrame m #[(.ref ca), (.int (0 : Int32)), (.ref ba), (.int (0 : Int32)), (.int (3 : Int32))] 7)
  rw [ef_cmp5_3 m ca ba]
  refine own_by (T' := s₁) (g' := (mkF m 1 #[.val (.ref ca), .val (.int (0 : Int32)), .val (.ref ba), .val (.int (0 : Int32)), .val (.int (3 : Int32)), .unset, .unset] [(.int (0 : Int32))])) (fun _ k => XS.iconst X0.here hx rfl (hb hby d12_0) k) ?_
  refine own_by (T' := s₁) (g' := (mkF m 3 #[.val (.ref ca), .val (.int (0 : Int32)), .val (.ref ba), .val (.int (0 : Int32)), .val (.int (3 : Int32)), .val (.int (0 : Int32)), .unset] [])) (fun _ k => XS.istore X0.here hx rfl (hb hby d12_1) rfl (l' := #[.val (.ref ca), .val (.int (0 : Int32)), .val (.ref ba), .val (.int (0 : Int32)), .val (.int (3 : Int32)), .val (.int (0 : Int32)), .unset]) rfl k) ?_
  refine own_by (T' := s₁) (g' := (mkF m 5 #[.val (.ref ca), .val (.int (0 : Int32)), .val (.ref ba), .val (.int (0 : Int32)), .val (.int (3 : Int32)), .val (.int (0 : Int32)), .unset] [(.int (0 : Int32))])) (fun _ k => XS.iload X0.here hx rfl (hb hby d12_3) rfl k) ?_
  refine own_by (T' := s₁) (g' := (mkF m 7 #[.val (.ref ca), .val (.int (0 : Int32)), .val (.ref ba), .val (.int (0 : Int32)), .val (.int (3 : Int32)), .val (.int (0 : Int32)), .unset] [(.int (3 : Int32)), (.int (0 : Int32))])) (fun _ k => XS.iload X0.here hx rfl (hb hby d12_5) rfl k) ?_
  refine own_by (T' := s₁) (g' := (mkF m 10 #[.val (.ref ca), .val (.int (0 : Int32)), .val (.ref ba), .val (.int (0 : Int32)), .val (.int (3 : Int32)), .val (.int (0 : Int32)), .unset] [])) (fun _ k => XS.icmpNo X0.here hx rfl (hb hby d12_7) rfl (tlt (by decide)).2.1 k) ?_
  refine own_by (T' := s₁) (g' := (mkF m 11 #[.val (.ref ca), .val (.int (0 : Int32)), .val (.ref ba), .val (.int (0 : Int32)), .val (.int (3 : Int32)), .val (.int (0 : Int32)), .unset] [(.ref ca)])) (fun _ k => XS.aloadN X0.here hx rfl (hb hby d12_10) rfl rfl k) ?_
  refine own_by (T' := s₁) (g' := (mkF m 12 #[.val (.ref ca), .val (.int (0 : Int32)), .val (.ref ba), .val (.int (0 : Int32)), .val (.int (3 : Int32)), .val (.int (0 : Int32)), .unset] [(.int (0 : Int32)), (.ref ca)])) (fun _ k => XS.iloadN X0.here hx rfl (hb hby d12_11) rfl k) ?_
  obtain ⟨cl21, Ar21, q21, S21, N_21, H21, G21⟩ := id V_ca
  have hin21 : ¬ ((0 : Int32) < 0 ∨ cl21.slots.size ≤ ((0 : Int32)).toNatClampNeg) := inb_of S21 ⟨by decide, by decide⟩
  refine own_by (T' := s₁) (g' := (mkF m 13 #[.val (.ref ca), .val (.int (0 : Int32)), .val (.ref ba), .val (.int (0 : Int32)), .val (.int (3 : Int32)), .val (.int (0 : Int32)), .unset] [(.int c0)])) (fun _ k => X0.caload hx (j := (0 : Int32)) (v := (.int c0)) (by rw [e0]; exact Ar21.1) (State.isArrayOf_alike hZ.alike Ar21.2.1) Ar21.2.2 hin21 (Has.at H21 hin21 rfl) (g := (mkF m 12 #[.val (.ref ca), .val (.int (0 : Int32)), .val (.ref ba), .val (.int (0 : Int32)), .val (.int (3 : Int32)), .val (.int (0 : Int32)), .unset] [(.int (0 : Int32)), (.ref ca)])) rfl rfl (hb hby d12_12) _ k) ?_
  refine own_by (T' := s₁) (g' := (mkF m 15 #[.val (.ref ca), .val (.int (0 : Int32)), .val (.ref ba), .val (.int (0 : Int32)), .val (.int (3 : Int32)), .val (.int (0 : Int32)), .val (.int c0)] [])) (fun _ k => XS.istore X0.here hx rfl (hb hby d12_13) rfl (l' := #[.val (.ref ca), .val (.int (0 : Int32)), .val (.ref ba), .val (.int (0 : Int32)), .val (.int (3 : Int32)), .val (.int (0 : Int32)), .val (.int c0)]) rfl k) ?_
  refine own_by (T' := s₁) (g' := (mkF m 17 #[.val (.ref ca), .val (.int (0 : Int32)), .val (.ref ba), .val (.int (0 : Int32)), .val (.int (3 : Int32)), .val (.int (0 : Int32)), .val (.int c0)] [(.int c0)])) (fun _ k => XS.iload X0.here hx rfl (hb hby d12_15) rfl k) ?_
  refine own_by (T' := s₁) (g' := (mkF m 20 #[.val (.ref ca), .val (.int (0 : Int32)), .val (.ref ba), .val (.int (0 : Int32)), .val (.int (3 : Int32)), .val (.int (0 : Int32)), .val (.int c0)] [(.int (255 : Int32)), (.int c0)])) (fun _ k => XS.sipush X0.here hx rfl (hb hby d12_17) k) ?_
  refine own_by (T' := s₁) (g' := (mkF m 26 #[.val (.ref ca), .val (.int (0 : Int32)), .val (.ref ba), .val (.int (0 : Int32)), .val (.int (3 : Int32)), .val (.int (0 : Int32)), .val (.int c0)] [])) (fun _ k => XS.icmpYes X0.here hx rfl (pc0 := 20) (pc' := 26) rfl (hb hby d12_20) rfl (flt hc0).2.2.2 (by decide) (by decide) k) ?_
  refine own_by (T' := s₁) (g' := (mkF m 27 #[.val (.ref ca), .val (.int (0 : Int32)), .val (.ref ba), .val (.int (0 : Int32)), .val (.int (3 : Int32)), .val (.int (0 : Int32)), .val (.int c0)] [(.ref ba)])) (fun _ k => XS.aloadN X0.here hx rfl (hb hby d12_26) rfl rfl k) ?_
  refine own_by (T' := s₁) (g' := (mkF m 28 #[.val (.ref ca), .val (.int (0 : Int32)), .val (.ref ba), .val (.int (0 : Int32)), .val (.int (3 : Int32)), .val (.int (0 : Int32)), .val (.int c0)] [(.int (0 : Int32)), (.ref ba)])) (fun _ k => XS.iloadN X0.here hx rfl (hb hby d12_27) rfl k) ?_
  refine own_by (T' := s₁) (g' := (mkF m 30 #[.val (.ref ca), .val (.int (0 : Int32)), .val (.ref ba), .val (.int (0 : Int32)), .val (.int (3 : Int32)), .val (.int (0 : Int32)), .val (.int c0)] [(.int c0), (.int (0 : Int32)), (.ref ba)])) (fun _ k => XS.iload X0.here hx rfl (hb hby d12_28) rfl k) ?_
  refine own_by (T' := s₁) (g' := (mkF m 31 #[.val (.ref ca), .val (.int (0 : Int32)), .val (.ref ba), .val (.int (0 : Int32)), .val (.int (3 : Int32)), .val (.int (0 : Int32)), .val (.int c0)] [(.int (c0.toInt8.toInt32)), (.int (0 : Int32)), (.ref ba)])) (fun _ k => XS.i2b X0.here hx rfl (hb hby d12_30) rfl k) ?_
  obtain ⟨cl22, Ar22, q22, S22, N_22, H22, G22⟩ := id V_ba
  have hin22 : ¬ ((0 : Int32) < 0 ∨ cl22.slots.size ≤ ((0 : Int32)).toNatClampNeg) := inb_of S22 ⟨by decide, by decide⟩
  obtain ⟨T23, h23, X23, e23, W23, st23⟩ := stB X0 hx hZ e0 Ar22 (j := (0 : Int32)) hin22 (g := (mkF m 31 #[.val (.ref ca), .val (.int (0 : Int32)), .val (.ref ba), .val (.int (0 : Int32)), .val (.int (3 : Int32)), .val (.int (0 : Int32)), .val (.int c0)] [(.int (c0.toInt8.toInt32)), (.int (0 : Int32)), (.ref ba)])) rfl rfl (hb hby d12_31)
  have V23 : Arv Z h23 ba kb .byte (3 : Int32) [(.int (nar .byte (c0.toInt8.toInt32))), (.int (0 : Int32)), (.int (0 : Int32))] (.int (0 : Int32)) := Arv.set Ar22 q22 S22 N_22 H22 G22 (fits_nar_byte _) W23 0 rfl (Nat.le_of_ble_eq_true rfl)
  have K23 : Keep h0 h23 [ba] := Keep.wr (Keep.refl h0 [ba]) W23 (Or.inl (List.mem_of_getElem? (i := 0) rfl))
  have N23 := Fr.snoc X23 N0 g_ba
  refine own_by (T' := T23) (g' := (mkF m 32 #[.val (.ref ca), .val (.int (0 : Int32)), .val (.ref ba), .val (.int (0 : Int32)), .val (.int (3 : Int32)), .val (.int (0 : Int32)), .val (.int c0)] [])) (fun _ k => st23 _ k) ?_
  refine own_by (T' := T23) (g' := (mkF m 35 #[.val (.ref ca), .val (.int (1 : Int32)), .val (.ref ba), .val (.int (0 : Int32)), .val (.int (3 : Int32)), .val (.int (0 : Int32)), .val (.int c0)] [])) (fun _ k => XS.iinc X23.here hx rfl (hb hby d12_32) rfl (l' := #[.val (.ref ca), .val (.int (1 : Int32)), .val (.ref ba), .val (.int (0 : Int32)), .val (.int (3 : Int32)), .val (.int (0 : Int32)), .val (.int c0)]) rfl k) ?_
  refine own_by (T' := T23) (g' := (mkF m 38 #[.val (.ref ca), .val (.int (1 : Int32)), .val (.ref ba), .val (.int (1 : Int32)), .val (.int (3 : Int32)), .val (.int (0 : Int32)), .val (.int c0)] [])) (fun _ k => XS.iinc X23.here hx rfl (hb hby d12_35) rfl (l' := #[.val (.ref ca), .val (.int (1 : Int32)), .val (.ref ba), .val (.int (1 : Int32)), .val (.int (3 : Int32)), .val (.int (0 : Int32)), .val (.int c0)]) rfl k) ?_
  refine own_by (T' := T23) (g' := (mkF m 41 #[.val (.ref ca), .val (.int (1 : Int32)), .val (.ref ba), .val (.int (1 : Int32)), .val (.int (3 : Int32)), .val (.int (1 : Int32)), .val (.int c0)] [])) (fun _ k => XS.iinc X23.here hx rfl (hb hby d12_38) rfl (l' := #[.val (.ref ca), .val (.int (1 : Int32)), .val (.ref ba), .val (.int (1 : Int32)), .val (.int (3 : Int32)), .val (.int (1 : Int32)), .val (.int c0)]) rfl k) ?_
  refine own_by (T' := T23) (g' := (mkF m 3 #[.val (.ref ca), .val (.int (1 : Int32)), .val (.ref ba), .val (.int (1 : Int32)), .val (.int (3 : Int32)), .val (.int (1 : Int32)), .val (.int c0)] [])) (fun _ k => XS.goto X23.here hx rfl (pc0 := 41) (pc' := 3) rfl (hb hby d12_41) (by decide) (by decide) k) ?_
  refine own_by (T' := T23) (g' := (mkF m 5 #[.val (.ref ca), .val (.int (1 : Int32)), .val (.ref ba), .val (.int (1 : Int32)), .val (.int (3 : Int32)), .val (.int (1 : Int32)), .val (.int c0)] [(.int (1 : Int32))])) (fun _ k => XS.iload X23.here hx rfl (hb hby d12_3) rfl k) ?_
  refine own_by (T' := T23) (g' := (mkF m 7 #[.val (.ref ca), .val (.int (1 : Int32)), .val (.ref ba), .val (.int (1 : Int32)), .val (.int (3 : Int32)), .val (.int (1 : Int32)), .val (.int c0)] [(.int (3 : Int32)), (.int (1 : Int32))])) (fun _ k => XS.iload X23.here hx rfl (hb hby d12_5) rfl k) ?_
  refine own_by (T' := T23) (g' := (mkF m 10 #[.val (.ref ca), .val (.int (1 : Int32)), .val (.ref ba), .val (.int (1 : Int32)), .val (.int (3 : Int32)), .val (.int (1 : Int32)), .val (.int c0)] [])) (fun _ k => XS.icmpNo X23.here hx rfl (hb hby d12_7) rfl (tlt (by decide)).2.1 k) ?_
  refine own_by (T' := T23) (g' := (mkF m 11 #[.val (.ref ca), .val (.int (1 : Int32)), .val (.ref ba), .val (.int (1 : Int32)), .val (.int (3 : Int32)), .val (.int (1 : Int32)), .val (.int c0)] [(.ref ca)])) (fun _ k => XS.aloadN X23.here hx rfl (hb hby d12_10) rfl rfl k) ?_
  refine own_by (T' := T23) (g' := (mkF m 12 #[.val (.ref ca), .val (.int (1 : Int32)), .val (.ref ba), .val (.int (1 : Int32)), .val (.int (3 : Int32)), .val (.int (1 : Int32)), .val (.int c0)] [(.int (1 : Int32)), (.ref ca)])) (fun _ k => XS.iloadN X23.here hx rfl (hb hby d12_11) rfl k) ?_
  obtain ⟨cl24, Ar24, q24, S24, N_24, H24, G24⟩ := id (Arv.other V_ca W23 neab)
  have hin24 : ¬ ((1 : Int32) < 0 ∨ cl24.slots.size ≤ ((1 : Int32)).toNatClampNeg) := inb_of S24 ⟨by decide, by decide⟩
  refine own_by (T' := T23) (g' := (mkF m 13 #[.val (.ref ca), .val (.int (1 : Int32)), .val (.ref ba), .val (.int (1 : Int32)), .val (.int (3 : Int32)), .val (.int (1 : Int32)), .val (.int c0)] [(.int c1)])) (fun _ k => X23.caload hx (j := (1 : Int32)) (v := (.int c1)) (by rw [e23]; exact Ar24.1) (State.isArrayOf_alike hZ.alike Ar24.2.1) Ar24.2.2 hin24 (Has.at H24 hin24 rfl) (g := (mkF m 12 #[.val (.ref ca), .val (.int (1 : Int32)), .val (.ref ba), .val (.int (1 : Int32)), .val (.int (3 : Int32)), .val (.int (1 : Int32)), .val (.int c0)] [(.int (1 : Int32)), (.ref ca)])) rfl rfl (hb hby d12_12) _ k) ?_
  refine own_by (T' := T23) (g' := (mkF m 15 #[.val (.ref ca), .val (.int (1 : Int32)), .val (.ref ba), .val (.int (1 : Int32)), .val (.int (3 : Int32)), .val (.int (1 : Int32)), .val (.int c1)] [])) (fun _ k => XS.istore X23.here hx rfl (hb hby d12_13) rfl (l' := #[.val (.ref ca), .val (.int (1 : Int32)), .val (.ref ba), .val (.int (1 : Int32)), .val (.int (3 : Int32)), .val (.int (1 : Int32)), .val (.int c1)]) rfl k) ?_
  refine own_by (T' := T23) (g' := (mkF m 17 #[.val (.ref ca), .val (.int (1 : Int32)), .val (.ref ba), .val (.int (1 : Int32)), .val (.int (3 : Int32)), .val (.int (1 : Int32)), .val (.int c1)] [(.int c1)])) (fun _ k => XS.iload X23.here hx rfl (hb hby d12_15) rfl k) ?_
  refine own_by (T' := T23) (g' := (mkF m 20 #[.val (.ref ca), .val (.int (1 : Int32)), .val (.ref ba), .val (.int (1 : Int32)), .val (.int (3 : Int32)), .val (.int (1 : Int32)), .val (.int c1)] [(.int (255 : Int32)), (.int c1)])) (fun _ k => XS.sipush X23.here hx rfl (hb hby d12_17) k) ?_
  refine own_by (T' := T23) (g' := (mkF m 26 #[.val (.ref ca), .val (.int (1 : Int32)), .val (.ref ba), .val (.int (1 : Int32)), .val (.int (3 : Int32)), .val (.int (1 : Int32)), .val (.int c1)] [])) (fun _ k => XS.icmpYes X23.here hx rfl (pc0 := 20) (pc' := 26) rfl (hb hby d12_20) rfl (flt hc1).2.2.2 (by decide) (by decide) k) ?_
  refine own_by (T' := T23) (g' := (mkF m 27 #[.val (.ref ca), .val (.int (1 : Int32)), .val (.ref ba), .val (.int (1 : Int32)), .val (.int (3 : Int32)), .val (.int (1 : Int32)), .val (.int c1)] [(.ref ba)])) (fun _ k => XS.aloadN X23.here hx rfl (hb hby d12_26) rfl rfl k) ?_
  refine own_by (T' := T23) (g' := (mkF m 28 #[.val (.ref ca), .val (.int (1 : Int32)), .val (.ref ba), .val (.int (1 : Int32)), .val (.int (3 : Int32)), .val (.int (1 : Int32)), .val (.int c1)] [(.int (1 : Int32)), (.ref ba)])) (fun _ k => XS.iloadN X23.here hx rfl (hb hby d12_27) rfl k) ?_
  refine own_by (T' := T23) (g' := (mkF m 30 #[.val (.ref ca), .val (.int (1 : Int32)), .val (.ref ba), .val (.int (1 : Int32)), .val (.int (3 : Int32)), .val (.int (1 : Int32)), .val (.int c1)] [(.int c1), (.int (1 : Int32)), (.ref ba)])) (fun _ k => XS.iload X23.here hx rfl (hb hby d12_28) rfl k) ?_
  refine own_by (T' := T23) (g' := (mkF m 31 #[.val (.ref ca), .val (.int (1 : Int32)), .val (.ref ba), .val (.int (1 : Int32)), .val (.int (3 : Int32)), .val (.int (1 : Int32)), .val (.int c1)] [(.int (c1.toInt8.toInt32)), (.int (1 : Int32)), (.ref ba)])) (fun _ k => XS.i2b X23.here hx rfl (hb hby d12_30) rfl k) ?_
  obtain ⟨cl25, Ar25, q25, S25, N_25, H25, G25⟩ := id V23
  have hin25 : ¬ ((1 : Int32) < 0 ∨ cl25.slots.size ≤ ((1 : Int32)).toNatClampNeg) := inb_of S25 ⟨by decide, by decide⟩
  obtain ⟨T26, h26, X26, e26, W26, st26⟩ := stB X23 hx hZ e23 Ar25 (j := (1 : Int32)) hin25 (g := (mkF m 31 #[.val (.ref ca), .val (.int (1 : Int32)), .val (.ref ba), .val (.int (1 : Int32)), .val (.int (3 : Int32)), .val (.int (1 : Int32)), .val (.int c1)] [(.int (c1.toInt8.toInt32)), (.int (1 : Int32)), (.ref ba)])) rfl rfl (hb hby d12_31)
  have V26 : Arv Z h26 ba kb .byte (3 : Int32) [(.int (nar .byte (c0.toInt8.toInt32))), (.int (nar .byte (c1.toInt8.toInt32))), (.int (0 : Int32))] (.int (0 : Int32)) := Arv.set Ar25 q25 S25 N_25 H25 G25 (fits_nar_byte _) W26 1 rfl (Nat.le_of_ble_eq_true rfl)
  have K26 : Keep h0 h26 [ba] := Keep.wr K23 W26 (Or.inl (List.mem_of_getElem? (i := 0) rfl))
  have N26 := Fr.snoc X26 N23 g_ba
  refine own_by (T' := T26) (g' := (mkF m 32 #[.val (.ref ca), .val (.int (1 : Int32)), .val (.ref ba), .val (.int (1 : Int32)), .val (.int (3 : Int32)), .val (.int (1 : Int32)), .val (.int c1)] [])) (fun _ k => st26 _ k) ?_
  refine own_by (T' := T26) (g' := (mkF m 35 #[.val (.ref ca), .val (.int (2 : Int32)), .val (.ref ba), .val (.int (1 : Int32)), .val (.int (3 : Int32)), .val (.int (1 : Int32)), .val (.int c1)] [])) (fun _ k => XS.iinc X26.here hx rfl (hb hby d12_32) rfl (l' := #[.val (.ref ca), .val (.int (2 : Int32)), .val (.ref ba), .val (.int (1 : Int32)), .val (.int (3 : Int32)), .val (.int (1 : Int32)), .val (.int c1)]) rfl k) ?_
  refine own_by (T' := T26) (g' := (mkF m 38 #[.val (.ref ca), .val (.int (2 : Int32)), .val (.ref ba), .val (.int (2 : Int32)), .val (.int (3 : Int32)), .val (.int (1 : Int32)), .val (.int c1)] [])) (fun _ k => XS.iinc X26.here hx rfl (hb hby d12_35) rfl (l' := #[.val (.ref ca), .val (.int (2 : Int32)), .val (.ref ba), .val (.int (2 : Int32)), .val (.int (3 : Int32)), .val (.int (1 : Int32)), .val (.int c1)]) rfl k) ?_
  refine own_by (T' := T26) (g' := (mkF m 41 #[.val (.ref ca), .val (.int (2 : Int32)), .val (.ref ba), .val (.int (2 : Int32)), .val (.int (3 : Int32)), .val (.int (2 : Int32)), .val (.int c1)] [])) (fun _ k => XS.iinc X26.here hx rfl (hb hby d12_38) rfl (l' := #[.val (.ref ca), .val (.int (2 : Int32)), .val (.ref ba), .val (.int (2 : Int32)), .val (.int (3 : Int32)), .val (.int (2 : Int32)), .val (.int c1)]) rfl k) ?_
  refine own_by (T' := T26) (g' := (mkF m 3 #[.val (.ref ca), .val (.int (2 : Int32)), .val (.ref ba), .val (.int (2 : Int32)), .val (.int (3 : Int32)), .val (.int (2 : Int32)), .val (.int c1)] [])) (fun _ k => XS.goto X26.here hx rfl (pc0 := 41) (pc' := 3) rfl (hb hby d12_41) (by decide) (by decide) k) ?_
  refine own_by (T' := T26) (g' := (mkF m 5 #[.val (.ref ca), .val (.int (2 : Int32)), .val (.ref ba), .val (.int (2 : Int32)), .val (.int (3 : Int32)), .val (.int (2 : Int32)), .val (.int c1)] [(.int (2 : Int32))])) (fun _ k => XS.iload X26.here hx rfl (hb hby d12_3) rfl k) ?_
  refine own_by (T' := T26) (g' := (mkF m 7 #[.val (.ref ca), .val (.int (2 : Int32)), .val (.ref ba), .val (.int (2 : Int32)), .val (.int (3 : Int32)), .val (.int (2 : Int32)), .val (.int c1)] [(.int (3 : Int32)), (.int (2 : Int32))])) (fun _ k => XS.iload X26.here hx rfl (hb hby d12_5) rfl k) ?_
  refine own_by (T' := T26) (g' := (mkF m 10 #[.val (.ref ca), .val (.int (2 : Int32)), .val (.ref ba), .val (.int (2 : Int32)), .val (.int (3 : Int32)), .val (.int (2 : Int32)), .val (.int c1)] [])) (fun _ k => XS.icmpNo X26.here hx rfl (hb hby d12_7) rfl (tlt (by decide)).2.1 k) ?_
  refine own_by (T' := T26) (g' := (mkF m 11 #[.val (.ref ca), .val (.int (2 : Int32)), .val (.ref ba), .val (.int (2 : Int32)), .val (.int (3 : Int32)), .val (.int (2 : Int32)), .val (.int c1)] [(.ref ca)])) (fun _ k => XS.aloadN X26.here hx rfl (hb hby d12_10) rfl rfl k) ?_
  refine own_by (T' := T26) (g' := (mkF m 12 #[.val (.ref ca), .val (.int (2 : Int32)), .val (.ref ba), .val (.int (2 : Int32)), .val (.int (3 : Int32)), .val (.int (2 : Int32)), .val (.int c1)] [(.int (2 : Int32)), (.ref ca)])) (fun _ k => XS.iloadN X26.here hx rfl (hb hby d12_11) rfl k) ?_
  obtain ⟨cl27, Ar27, q27, S27, N_27, H27, G27⟩ := id (Arv.other (Arv.other V_ca W23 neab) W26 neab)
  have hin27 : ¬ ((2 : Int32) < 0 ∨ cl27.slots.size ≤ ((2 : Int32)).toNatClampNeg) := inb_of S27 ⟨by decide, by decide⟩
  refine own_by (T' := T26) (g' := (mkF m 13 #[.val (.ref ca), .val (.int (2 : Int32)), .val (.ref ba), .val (.int (2 : Int32)), .val (.int (3 : Int32)), .val (.int (2 : Int32)), .val (.int c1)] [(.int c2)])) (fun _ k => X26.caload hx (j := (2 : Int32)) (v := (.int c2)) (by rw [e26]; exact Ar27.1) (State.isArrayOf_alike hZ.alike Ar27.2.1) Ar27.2.2 hin27 (Has.at H27 hin27 rfl) (g := (mkF m 12 #[.val (.ref ca), .val (.int (2 : Int32)), .val (.ref ba), .val (.int (2 : Int32)), .val (.int (3 : Int32)), .val (.int (2 : Int32)), .val (.int c1)] [(.int (2 : Int32)), (.ref ca)])) rfl rfl (hb hby d12_12) _ k) ?_
  refine own_by (T' := T26) (g' := (mkF m 15 #[.val (.ref ca), .val (.int (2 : Int32)), .val (.ref ba), .val (.int (2 : Int32)), .val (.int (3 : Int32)), .val (.int (2 : Int32)), .val (.int c2)] [])) (fun _ k => XS.istore X26.here hx rfl (hb hby d12_13) rfl (l' := #[.val (.ref ca), .val (.int (2 : Int32)), .val (.ref ba), .val (.int (2 : Int32)), .val (.int (3 : Int32)), .val (.int (2 : Int32)), .val (.int c2)]) rfl k) ?_
  refine own_by (T' := T26) (g' := (mkF m 17 #[.val (.ref ca), .val (.int (2 : Int32)), .val (.ref ba), .val (.int (2 : Int32)), .val (.int (3 : Int32)), .val (.int (2 : Int32)), .val (.int c2)] [(.int c2)])) (fun _ k => XS.iload X26.here hx rfl (hb hby d12_15) rfl k) ?_
  refine own_by (T' := T26) (g' := (mkF m 20 #[.val (.ref ca), .val (.int (2 : Int32)), .val (.ref ba), .val (.int (2 : Int32)), .val (.int (3 : Int32)), .val (.int (2 : Int32)), .val (.int c2)] [(.int (255 : Int32)), (.int c2)])) (fun _ k => XS.sipush X26.here hx rfl (hb hby d12_17) k) ?_
  refine own_by (T' := T26) (g' := (mkF m 26 #[.val (.ref ca), .val (.int (2 : Int32)), .val (.ref ba), .val (.int (2 : Int32)), .val (.int (3 : Int32)), .val (.int (2 : Int32)), .val (.int c2)] [])) (fun _ k => XS.icmpYes X26.here hx rfl (pc0 := 20) (pc' := 26) rfl (hb hby d12_20) rfl (flt hc2).2.2.2 (by decide) (by decide) k) ?_
  refine own_by (T' := T26) (g' := (mkF m 27 #[.val (.ref ca), .val (.int (2 : Int32)), .val (.ref ba), .val (.int (2 : Int32)), .val (.int (3 : Int32)), .val (.int (2 : Int32)), .val (.int c2)] [(.ref ba)])) (fun _ k => XS.aloadN X26.here hx rfl (hb hby d12_26) rfl rfl k) ?_
  refine own_by (T' := T26) (g' := (mkF m 28 #[.val (.ref ca), .val (.int (2 : Int32)), .val (.ref ba), .val (.int (2 : Int32)), .val (.int (3 : Int32)), .val (.int (2 : Int32)), .val (.int c2)] [(.int (2 : Int32)), (.ref ba)])) (fun _ k => XS.iloadN X26.here hx rfl (hb hby d12_27) rfl k) ?_
  refine own_by (T' := T26) (g' := (mkF m 30 #[.val (.ref ca), .val (.int (2 : Int32)), .val (.ref ba), .val (.int (2 : Int32)), .val (.int (3 : Int32)), .val (.int (2 : Int32)), .val (.int c2)] [(.int c2), (.int (2 : Int32)), (.ref ba)])) (fun _ k => XS.iload X26.here hx rfl (hb hby d12_28) rfl k) ?_
  refine own_by (T' := T26) (g' := (mkF m 31 #[.val (.ref ca), .val (.int (2 : Int32)), .val (.ref ba), .val (.int (2 : Int32)), .val (.int (3 : Int32)), .val (.int (2 : Int32)), .val (.int c2)] [(.int (c2.toInt8.toInt32)), (.int (2 : Int32)), (.ref ba)])) (fun _ k => XS.i2b X26.here hx rfl (hb hby d12_30) rfl k) ?_
  obtain ⟨cl28, Ar28, q28, S28, N_28, H28, G28⟩ := id V26
  have hin28 : ¬ ((2 : Int32) < 0 ∨ cl28.slots.size ≤ ((2 : Int32)).toNatClampNeg) := inb_of S28 ⟨by decide, by decide⟩
  obtain ⟨T29, h29, X29, e29, W29, st29⟩ := stB X26 hx hZ e26 Ar28 (j := (2 : Int32)) hin28 (g := (mkF m 31 #[.val (.ref ca), .val (.int (2 : Int32)), .val (.ref ba), .val (.int (2 : Int32)), .val (.int (3 : Int32)), .val (.int (2 : Int32)), .val (.int c2)] [(.int (c2.toInt8.toInt32)), (.int (2 : Int32)), (.ref ba)])) rfl rfl (hb hby d12_31)
  have V29 : Arv Z h29 ba kb .byte (3 : Int32) [(.int (nar .byte (c0.toInt8.toInt32))), (.int (nar .byte (c1.toInt8.toInt32))), (.int (nar .byte (c2.toInt8.toInt32)))] (.int (0 : Int32)) := Arv.set Ar28 q28 S28 N_28 H28 G28 (fits_nar_byte _) W29 2 rfl (Nat.le_of_ble_eq_true rfl)
  have K29 : Keep h0 h29 [ba] := Keep.wr K26 W29 (Or.inl (List.mem_of_getElem? (i := 0) rfl))
  have N29 := Fr.snoc X29 N26 g_ba
  refine own_by (T' := T29) (g' := (mkF m 32 #[.val (.ref ca), .val (.int (2 : Int32)), .val (.ref ba), .val (.int (2 : Int32)), .val (.int (3 : Int32)), .val (.int (2 : Int32)), .val (.int c2)] [])) (fun _ k => st29 _ k) ?_
  refine own_by (T' := T29) (g' := (mkF m 35 #[.val (.ref ca), .val (.int (3 : Int32)), .val (.ref ba), .val (.int (2 : Int32)), .val (.int (3 : Int32)), .val (.int (2 : Int32)), .val (.int c2)] [])) (fun _ k => XS.iinc X29.here hx rfl (hb hby d12_32) rfl (l' := #[.val (.ref ca), .val (.int (3 : Int32)), .val (.ref ba), .val (.int (2 : Int32)), .val (.int (3 : Int32)), .val (.int (2 : Int32)), .val (.int c2)]) rfl k) ?_
  refine own_by (T' := T29) (g' := (mkF m 38 #[.val (.ref ca), .val (.int (3 : Int32)), .val (.ref ba), .val (.int (3 : Int32)), .val (.int (3 : Int32)), .val (.int (2 : Int32)), .val (.int c2)] [])) (fun _ k => XS.iinc X29.here hx rfl (hb hby d12_35) rfl (l' := #[.val (.ref ca), .val (.int (3 : Int32)), .val (.ref ba), .val (.int (3 : Int32)), .val (.int (3 : Int32)), .val (.int (2 : Int32)), .val (.int c2)]) rfl k) ?_
  refine own_by (T' := T29) (g' := (mkF m 41 #[.val (.ref ca), .val (.int (3 : Int32)), .val (.ref ba), .val (.int (3 : Int32)), .val (.int (3 : Int32)), .val (.int (3 : Int32)), .val (.int c2)] [])) (fun _ k => XS.iinc X29.here hx rfl (hb hby d12_38) rfl (l' := #[.val (.ref ca), .val (.int (3 : Int32)), .val (.ref ba), .val (.int (3 : Int32)), .val (.int (3 : Int32)), .val (.int (3 : Int32)), .val (.int c2)]) rfl k) ?_
  refine own_by (T' := T29) (g' := (mkF m 3 #[.val (.ref ca), .val (.int (3 : Int32)), .val (.ref ba), .val (.int (3 : Int32)), .val (.int (3 : Int32)), .val (.int (3 : Int32)), .val (.int c2)] [])) (fun _ k => XS.goto X29.here hx rfl (pc0 := 41) (pc' := 3) rfl (hb hby d12_41) (by decide) (by decide) k) ?_
  refine own_by (T' := T29) (g' := (mkF m 5 #[.val (.ref ca), .val (.int (3 : Int32)), .val (.ref ba), .val (.int (3 : Int32)), .val (.int (3 : Int32)), .val (.int (3 : Int32)), .val (.int c2)] [(.int (3 : Int32))])) (fun _ k => XS.iload X29.here hx rfl (hb hby d12_3) rfl k) ?_
  refine own_by (T' := T29) (g' := (mkF m 7 #[.val (.ref ca), .val (.int (3 : Int32)), .val (.ref ba), .val (.int (3 : Int32)), .val (.int (3 : Int32)), .val (.int (3 : Int32)), .val (.int c2)] [(.int (3 : Int32)), (.int (3 : Int32))])) (fun _ k => XS.iload X29.here hx rfl (hb hby d12_5) rfl k) ?_
  refine own_by (T' := T29) (g' := (mkF m 44 #[.val (.ref ca), .val (.int (3 : Int32)), .val (.ref ba), .val (.int (3 : Int32)), .val (.int (3 : Int32)), .val (.int (3 : Int32)), .val (.int c2)] [])) (fun _ k => XS.icmpYes X29.here hx rfl (pc0 := 7) (pc' := 44) rfl (hb hby d12_7) rfl (flt (by decide)).2.1 (by decide) (by decide) k) ?_
  refine own_by (T' := T29) (g' := (mkF m 46 #[.val (.ref ca), .val (.int (3 : Int32)), .val (.ref ba), .val (.int (3 : Int32)), .val (.int (3 : Int32)), .val (.int (3 : Int32)), .val (.int c2)] [(.int (3 : Int32))])) (fun _ k => XS.iload X29.here hx rfl (hb hby d12_44) rfl k) ?_
  refine own_ret X29 hlk (v := some (.int (3 : Int32))) (fun h => by rw [Bd.returns] at h; cases h) (fun fs hr => retI X29 hx Bd.returns (hb hby d12_46) hr) ?_ (by decide) (by decide)
  rw [e29]
  exact ⟨rfl, N29, K29, V29⟩
theorem ef_cmp3_3 (m : MethodId) (ca : Addr) : entryFrame m #[(.ref ca), (.int (0 : Int32)), (.int (3 : Int32))] 6 = mkF m 0 #[.val (.ref ca), .val (.int (0 : Int32)), .val (.int (3 : Int32)), .unset, .unset, .unset] [] := by first | (simp [entryFrame, mkF, argsToLocals, Value.category]; done) | rfl
def Q_cmp3_3 (Z : State) (ca : Addr) (kc : ClassId) (c0 : Int32) (c1 : Int32) (c2 : Int32) (h0 : Heap) (n0 : Nat) (v : Option Value) (h : Heap) (L : List Loc) : Prop := ∃ (t : Addr) (kb : ClassId), v = some (.ref t) ∧ Fr n0 L ∧ Keep h0 h [] ∧ h0.size ≤ t ∧ Arv Z h t kb .byte (3 : Int32) [(.int (nar .byte (c0.toInt8.toInt32))), (.int (nar .byte (c1.toInt8.toInt32))), (.int (nar .byte (c2.toInt8.toInt32)))] (.int (0 : Int32))
set_option maxRecDepth 65536 in
set_option maxHeartbeats 40000000 in
theorem cmp3_3 (l : Launch) (Z : State) (a0 : Array Value) (hw : ∀ d ∈ tables_1, d.before a0 Z = true) (ws : List Jvm.Cond) (ca : Addr) (kc : ClassId) (c0 : Int32) (c1 : Int32) (c2 : Int32) (h0 : Heap) (n0 : Nat) (Z0 : n0 ≤ h0.size) (V_ca : Arv Z h0 ca kc .char (3 : Int32) [(.int c0), (.int c1), (.int c2)] (.int (0 : Int32))) (hc0 : ¬ (255 : Int32) < c0) (hc1 : ¬ (255 : Int32) < c1) (hc2 : ¬ (255 : Int32) < c2) :
    MetFree l (⟨"java/lang/StringUTF16", "compress", "([CII)[B"⟩ : MethodName) (head1 (Jvm.Cond.code (⟨"java/lang/StringUTF16", "compress", "([CII)[B"⟩ : MethodName) jdk_52_method_16_code 6 (some (.array .byte)) :: ws) ({ frames := 1, cells := 1, slots := 3, locals := 18 } : Room)) (fun zz UU => zz = #[(.ref ca), (.int (0 : Int32)), (.int (3 : Int32))] ∧ Z.Warmed39 UU.vm ∧ UU.heap = h0) (fun _ _ _ _ _ => True) (fun _ U o U' => ∃ v L, o = .returned v ∧ Q_cmp3_3 Z ca kc c0 c1 c2 h0 n0 v U'.heap L ∧ FrameEnd U o U' L ({ frames := 1, cells := 1, slots := 3, locals := 18 } : Room).cells ({ frames := 1, cells := 1, slots := 3, locals := 18 } : Room).slots) := by
  refine MetFree.of_bodySF (plainFor_of_name pn_11) hisR ?_
  intro p e s m args below meth c s₁ Bd hml0 hP hK
  obtain ⟨rfl, hZ, hh⟩ := hP
  have hx := Bd.exec
  have hby := Bd.bytes
  have hml : c.maxLocals = 6 := hml0
  have hown : s.vm.findClass "java/lang/StringUTF16" = some m.cls := findClass_of_methodNamed Bd.named
  have hnm := (name_of_methodNamed Bd.named Bd.method).1
  have hlk : meth.locks = false := BodyLoose.notSynchronized Bd
  have X0 : Stand p l e ({ frames := 1, cells := 1, slots := 3, locals := 18 } : Room) s m #[(.ref ca), (.int (0 : Int32)), (.int (3 : Int32))] below meth c s₁ [] 0 0 := Stand.of_body Bd
  have e0 : s₁.heap = h0 := by rw [← hh, Bd.state]; rfl
  have N0 := Fr.nil n0
  show own_Go p.tables e below (Q_cmp3_3 Z ca kc c0 c1 c2 h0 n0) s ({ frames := 1, cells := 1, slots := 3, locals := 18 } : Room).cells ({ frames := 1, cells := 1, slots := 3, locals := 18 } : Room).slots s₁ (entryFrame m #[(.ref ca), (.int (0 : Int32)), (.int (3 : Int32))] 6)
  rw [ef_cmp3_3 m ca]
  refine own_by (T' := s₁) (g' := (mkF m 1 #[.val (.ref ca), .val (.int (0 : Int32)), .val (.int (3 : Int32)), .unset, .unset, .unset] [(.int (3 : Int32))])) (fun _ k => XS.iloadN X0.here hx rfl (hb hby d11_0) rfl k) ?_
  obtain ⟨T21, h21, k21, X21, e21, E21, A21, st21⟩ := newP X0 hx hZ (hw _ (List.mem_of_getElem? (i := 19) rfl)) e0 (g := (mkF m 1 #[.val (.ref ca), .val (.int (0 : Int32)), .val (.int (3 : Int32)), .unset, .unset, .unset] [(.int (3 : Int32))])) rfl (hb hby d11_1) rfl (by decide) (cap := 3) (by decide) (by decide) (by decide) (by decide)
  obtain ⟨b21, g21⟩ : ∃ z, z = h0.size := ⟨_, rfl⟩
  rw [← g21] at A21 st21
  have V_b21 : Arv Z h21 b21 k21 .byte (3 : Int32) [(.int (0 : Int32)), (.int (0 : Int32)), (.int (0 : Int32))] (.int (0 : Int32)) := (Arv.new A21 (by decide)).pad (pad_rep [] (.int (0 : Int32)) 3)
  have g_b21 : n0 ≤ b21 := Nat.le_trans Z0 (Nat.le_of_eq g21.symm)
  have sz_b21 : h0.size ≤ b21 := Nat.le_trans (Keep.refl h0 []).1 (Nat.le_of_eq g21.symm)
  have K21 : Keep h0 h21 [] := Keep.ext (Keep.refl h0 []) E21
  refine own_by (T' := T21) (g' := (mkF m 3 #[.val (.ref ca), .val (.int (0 : Int32)), .val (.int (3 : Int32)), .unset, .unset, .unset] [(.ref b21)])) (fun _ k => st21 _ k) ?_
  refine own_by (T' := T21) (g' := (mkF m 4 #[.val (.ref ca), .val (.int (0 : Int32)), .val (.int (3 : Int32)), .val (.ref b21), .unset, .unset] [])) (fun _ k => XS.astoreN X21.here hx rfl (hb hby d11_3) rfl rfl (l' := #[.val (.ref ca), .val (.int (0 : Int32)), .val (.int (3 : Int32)), .val (.ref b21), .unset, .unset]) rfl k) ?_
  refine own_by (T' := T21) (g' := (mkF m 5 #[.val (.ref ca), .val (.int (0 : Int32)), .val (.int (3 : Int32)), .val (.ref b21), .unset, .unset] [(.ref ca)])) (fun _ k => XS.aloadN X21.here hx rfl (hb hby d11_4) rfl rfl k) ?_
  refine own_by (T' := T21) (g' := (mkF m 6 #[.val (.ref ca), .val (.int (0 : Int32)), .val (.int (3 : Int32)), .val (.ref b21), .unset, .unset] [(.int (0 : Int32)), (.ref ca)])) (fun _ k => XS.iloadN X21.here hx rfl (hb hby d11_5) rfl k) ?_
  refine own_by (T' := T21) (g' := (mkF m 7 #[.val (.ref ca), .val (.int (0 : Int32)), .val (.int (3 : Int32)), .val (.ref b21), .unset, .unset] [(.ref b21), (.int (0 : Int32)), (.ref ca)])) (fun _ k => XS.aloadN X21.here hx rfl (hb hby d11_6) rfl rfl k) ?_
  refine own_by (T' := T21) (g' := (mkF m 8 #[.val (.ref ca), .val (.int (0 : Int32)), .val (.int (3 : Int32)), .val (.ref b21), .unset, .unset] [(.int (0 : Int32)), (.ref b21), (.int (0 : Int32)), (.ref ca)])) (fun _ k => XS.iconst X21.here hx rfl (hb hby d11_7) k) ?_
  refine own_by (T' := T21) (g' := (mkF m 9 #[.val (.ref ca), .val (.int (0 : Int32)), .val (.int (3 : Int32)), .val (.ref b21), .unset, .unset] [(.int (3 : Int32)), (.int (0 : Int32)), (.ref b21), (.int (0 : Int32)), (.ref ca)])) (fun _ k => XS.iloadN X21.here hx rfl (hb hby d11_8) rfl k) ?_
  obtain ⟨_, _, ⟨T22, L22, k22, n22⟩, -, X22, ⟨Lc22, hQ22, l22, y22, z22⟩, st22⟩ := Jvm.LawKit.callS X21 hx (y := (⟨"java/lang/StringUTF16", "compress", "([CI[BII)I"⟩ : MethodName)) hown (mvT hZ (hw _ (List.mem_of_getElem? (i := 66) rfl))) (mvT hZ (hw _ (List.mem_of_getElem? (i := 67) rfl))) (mvT hZ (hw _ (List.mem_of_getElem? (i := 64) rfl))) (mvT hZ (hw _ (List.mem_of_getElem? (i := 68) rfl))) (by decide) (backOf (W := 0) (cmp5_3 l Z a0 hw [] ca b21 kc k21 c0 c1 c2 h21 n0 (Nat.le_trans Z0 E21.1) (Arv.ext V_ca E21) V_b21 g_b21 (Nat.ne_of_lt (Nat.lt_of_lt_of_le V_ca.lt (Nat.le_of_eq g21.symm))) hc0 hc1 hc2) hZ (hw _ (List.mem_of_getElem? (i := 68) rfl)) (hw _ (List.mem_of_getElem? (i := 64) rfl)) (by decide) (by decide)) (g := (mkF m 9 #[.val (.ref ca), .val (.int (0 : Int32)), .val (.int (3 : Int32)), .val (.ref b21), .unset, .unset] [(.int (3 : Int32)), (.int (0 : Int32)), (.ref b21), (.int (0 : Int32)), (.ref ca)])) rfl (by rw [hml]; rfl) (argsL := [(.ref ca), (.int (0 : Int32)), (.ref b21), (.int (0 : Int32)), (.int (3 : Int32))]) (rest := []) (lenOf pd_0 rfl) rfl (by show 2 * 0 + _ ≤ _; exact Nat.le_of_eq rfl) (hb hby d11_9) (fun _ _ => ⟨rfl, e21, (by decide : (0 + 1) + 0 ≤ _), (by decide : (0 + 3) + 0 ≤ _)⟩)
  dsimp only [Pt.U, Pt.locs, Pt.cells, Pt.slots] at X22 l22 y22 z22 st22 hQ22
  subst l22 y22 z22
  obtain ⟨rfl, N22q, K22, V5_22⟩ := hQ22
  have N22 := Fr.app N0 N22q
  have KK22 : Keep h0 T22.heap [] := Keep.trans K21 K22 (allS (Or.inr sz_b21) all0)
  refine own_by (T' := T22) (g' := (mkF m 12 #[.val (.ref ca), .val (.int (0 : Int32)), .val (.int (3 : Int32)), .val (.ref b21), .unset, .unset] [(.int (3 : Int32))])) (fun _ k => st22 _ k) ?_
  refine own_by (T' := T22) (g' := (mkF m 14 #[.val (.ref ca), .val (.int (0 : Int32)), .val (.int (3 : Int32)), .val (.ref b21), .val (.int (3 : Int32)), .unset] [])) (fun _ k => XS.istore X22.here hx rfl (hb hby d11_12) rfl (l' := #[.val (.ref ca), .val (.int (0 : Int32)), .val (.int (3 : Int32)), .val (.ref b21), .val (.int (3 : Int32)), .unset]) rfl k) ?_
  refine own_by (T' := T22) (g' := (mkF m 16 #[.val (.ref ca), .val (.int (0 : Int32)), .val (.int (3 : Int32)), .val (.ref b21), .val (.int (3 : Int32)), .unset] [(.int (3 : Int32))])) (fun _ k => XS.iload X22.here hx rfl (hb hby d11_14) rfl k) ?_
  refine own_by (T' := T22) (g' := (mkF m 17 #[.val (.ref ca), .val (.int (0 : Int32)), .val (.int (3 : Int32)), .val (.ref b21), .val (.int (3 : Int32)), .unset] [(.int (3 : Int32)), (.int (3 : Int32))])) (fun _ k => XS.iloadN X22.here hx rfl (hb hby d11_16) rfl k) ?_
  refine own_by (T' := T22) (g' := (mkF m 57 #[.val (.ref ca), .val (.int (0 : Int32)), .val (.int (3 : Int32)), .val (.ref b21), .val (.int (3 : Int32)), .unset] [])) (fun _ k => XS.icmpYes X22.here hx rfl (pc0 := 17) (pc' := 57) rfl (hb hby d11_17) rfl (teq (by decide)).1 (by decide) (by decide) k) ?_
  refine own_by (T' := T22) (g' := (mkF m 58 #[.val (.ref ca), .val (.int (0 : Int32)), .val (.int (3 : Int32)), .val (.ref b21), .val (.int (3 : Int32)), .unset] [(.ref b21)])) (fun _ k => XS.aloadN X22.here hx rfl (hb hby d11_57) rfl rfl k) ?_
  refine own_ret X22 hlk (v := some (.ref b21)) (fun h => by rw [Bd.returns] at h; cases h) (fun fs hr => retOut X22 hx Bd.returns rfl (Or.inr (Or.inr (Or.inr (Or.inr ⟨rfl, rfl, rfl⟩)))) (hb hby d11_58) hr) ?_ (by decide) (by decide)
  exact ⟨_, _, rfl, N22, KK22, sz_b21, V5_22⟩
theorem ef_cod_3 (m : MethodId) (ba : Addr) : entryFrame m #[(.ref ba), (.int (3 : Int32))] 2 = mkF m 0 #[.val (.ref ba), .val (.int (3 : Int32))] [] := by first | (simp [entryFrame, mkF, argsToLocals, Value.category]; done) | rfl
def Q_cod_3 (Z : State) (ba : Addr) (kb : ClassId) (c0 : Int32) (c1 : Int32) (c2 : Int32) (h0 : Heap) (n0 : Nat) (v : Option Value) (h : Heap) (L : List Loc) : Prop := v = some (.int (0 : Int32)) ∧ Fr n0 L ∧ h = h0
set_option maxRecDepth 65536 in
set_option maxHeartbeats 40000000 in
theorem cod_3 (l : Launch) (Z : State) (a0 : Array Value) (hw : ∀ d ∈ tables_1, d.before a0 Z = true) (ws : List Jvm.Cond) (ba : Addr) (kb : ClassId) (c0 : Int32) (c1 : Int32) (c2 : Int32) (h0 : Heap) (n0 : Nat) (Z0 : n0 ≤ h0.size) (V_ba : Arv Z h0 ba kb .byte (3 : Int32) [(.int (nar .byte (c0.toInt8.toInt32))), (.int (nar .byte (c1.toInt8.toInt32))), (.int (nar .byte (c2.toInt8.toInt32)))] (.int (0 : Int32))) :
    MetFree l (⟨"java/lang/StringUTF16", "coderFromArrayLen", "([BI)B"⟩ : MethodName) (head1 (Jvm.Cond.code (⟨"java/lang/StringUTF16", "coderFromArrayLen", "([BI)B"⟩ : MethodName) jdk_52_method_15_code 2 (some .byte) :: ws) ({ frames := 0, cells := 0, slots := 0, locals := 0 } : Room)) (fun zz UU => zz = #[(.ref ba), (.int (3 : Int32))] ∧ Z.Warmed39 UU.vm ∧ UU.heap = h0) (fun _ _ _ _ _ => True) (fun _ U o U' => ∃ v L, o = .returned v ∧ Q_cod_3 Z ba kb c0 c1 c2 h0 n0 v U'.heap L ∧ FrameEnd U o U' L ({ frames := 0, cells := 0, slots := 0, locals := 0 } : Room).cells ({ frames := 0, cells := 0, slots := 0, locals := 0 } : Room).slots) := by
  refine MetFree.of_bodySF (plainFor_of_name pn_13) hisR ?_
  intro p e s m args below meth c s₁ Bd hml0 hP hK
  obtain ⟨rfl, hZ, hh⟩ := hP
  have hx := Bd.exec
  have hby := Bd.bytes
  have hml : c.maxLocals = 2 := hml0
  have hown : s.vm.findClass "java/lang/StringUTF16" = some m.cls := findClass_of_methodNamed Bd.named
  have hnm := (name_of_methodNamed Bd.named Bd.method).1
  have hlk : meth.locks = false := BodyLoose.notSynchronized Bd
  have X0 : Stand p l e ({ frames := 0, cells := 0, slots := 0, locals := 0 } : Room) s m #[(.ref ba), (.int (3 : Int32))] below meth c s₁ [] 0 0 := Stand.of_body Bd
  have e0 : s₁.heap = h0 := by rw [← hh, Bd.state]; rfl
  have N0 := Fr.nil n0
  show own_Go p.tables e below (Q_cod_3 Z ba kb c0 c1 c2 h0 n0) s ({ frames := 0, cells := 0, slots := 0, locals := 0 } : Room).cells ({ frames := 0, cells := 0, slots := 0, locals := 0 } : Room).slots s₁ (entryFrame m #[(.ref ba), (.int (3 : Int32))] 2)
  rw [ef_cod_3 m ba]
  refine own_by (T' := s₁) (g' := (mkF m 1 #[.val (.ref ba), .val (.int (3 : Int32))] [(.int (3 : Int32))])) (fun _ k => XS.iloadN X0.here hx rfl (hb hby d13_0) rfl k) ?_
  refine own_by (T' := s₁) (g' := (mkF m 2 #[.val (.ref ba), .val (.int (3 : Int32))] [(.ref ba), (.int (3 : Int32))])) (fun _ k => XS.aloadN X0.here hx rfl (hb hby d13_1) rfl rfl k) ?_
  obtain ⟨cl21, Ar21, q21, S21, N_21, H21, G21⟩ := id V_ba
  refine own_by (T' := s₁) (g' := (mkF m 3 #[.val (.ref ba), .val (.int (3 : Int32))] [(.int (3 : Int32)), (.int (3 : Int32))])) (fun _ k => X0.arraylength hx (by rw [e0]; exact Ar21.1) (State.isArrayOf_alike hZ.alike Ar21.2.1) (g := (mkF m 2 #[.val (.ref ba), .val (.int (3 : Int32))] [(.ref ba), (.int (3 : Int32))])) rfl rfl (hb hby d13_2) _ (by rw [len_of S21 N_21]; exact k)) ?_
  refine own_by (T' := s₁) (g' := (mkF m 4 #[.val (.ref ba), .val (.int (3 : Int32))] [(.int (0 : Int32))])) (fun _ k => XS.isub X0.here hx rfl (hb hby d13_3) rfl k) ?_
  refine own_by (T' := s₁) (g' := (mkF m 6 #[.val (.ref ba), .val (.int (3 : Int32))] [(.int (31 : Int32)), (.int (0 : Int32))])) (fun _ k => XS.bipush X0.here hx rfl (hb hby d13_4) k) ?_
  refine own_by (T' := s₁) (g' := (mkF m 7 #[.val (.ref ba), .val (.int (3 : Int32))] [(.int (0 : Int32))])) (fun _ k => XS.iushr X0.here hx rfl (hb hby d13_6) rfl k) ?_
  refine own_by (T' := s₁) (g' := (mkF m 8 #[.val (.ref ba), .val (.int (3 : Int32))] [(.int (0 : Int32))])) (fun _ k => XS.i2b X0.here hx rfl (hb hby d13_7) rfl k) ?_
  refine own_ret X0 hlk (v := some (.int (0 : Int32))) (fun h => by rw [Bd.returns] at h; cases h) (fun fs hr => retN X0 hx (t := .byte) Bd.returns (by simp) (hb hby d13_8) hr) ?_ (by decide) (by decide)
  rw [e0]
  exact ⟨rfl, N0, rfl⟩
theorem ef_sin4_3 (m : MethodId) (a : Addr) (ca : Addr) : entryFrame m #[(.ref a), (.ref ca), (.int (0 : Int32)), (.int (3 : Int32)), .null] 6 = mkF m 0 #[.val (.ref a), .val (.ref ca), .val (.int (0 : Int32)), .val (.int (3 : Int32)), .val .null, .unset] [] := by first | (simp [entryFrame, mkF, argsToLocals, Value.category]; done) | rfl
def Q_sin4_3 (Z : State) (a : Addr) (ca : Addr) (kc : ClassId) (cs : Int32) (c0 : Int32) (c1 : Int32) (c2 : Int32) (h0 : Heap) (n0 : Nat) (v : Option Value) (h : Heap) (L : List Loc) : Prop := v = none ∧ Fr n0 L ∧ Keep h0 h [a] ∧ Fld Z h a "java/lang/String" "coder" "B" (.int (0 : Int32)) ∧ ∃ (t : Addr) (kb : ClassId), h0.size ≤ t ∧ Fld Z h a "java/lang/String" "value" "[B" (.ref t) ∧ Arv Z h t kb .byte (3 : Int32) [(.int (nar .byte (c0.toInt8.toInt32))), (.int (nar .byte (c1.toInt8.toInt32))), (.int (nar .byte (c2.toInt8.toInt32)))] (.int (0 : Int32))
set_option maxRecDepth 65536 in
set_option maxHeartbeats 40000000 in
theorem sin4_3 (l : Launch) (Z : State) (a0 : Array Value) (hw : ∀ d ∈ tables_1, d.before a0 Z = true) (ws : List Jvm.Cond) (a : Addr) (ca : Addr) (kc : ClassId) (cs : Int32) (c0 : Int32) (c1 : Int32) (c2 : Int32) (h0 : Heap) (n0 : Nat) (Z0 : n0 ≤ h0.size) (E_a : Exa Z h0 a "java/lang/String") (F_value_a : Fld Z h0 a "java/lang/String" "value" "[B" .null) (F_coder_a : Fld Z h0 a "java/lang/String" "coder" "B" (.int (0 : Int32))) (g_a : n0 ≤ a) (V_ca : Arv Z h0 ca kc .char (3 : Int32) [(.int c0), (.int c1), (.int c2)] (.int (0 : Int32))) (S_CS : Sta Z h0 "java/lang/String" "COMPACT_STRINGS" "Z" (.int cs)) (hcs : ¬ cs = (0 : Int32)) (hc0 : ¬ (255 : Int32) < c0) (hc1 : ¬ (255 : Int32) < c1) (hc2 : ¬ (255 : Int32) < c2) :
    MetFree l (⟨"java/lang/String", "<init>", "([CIILjava/lang/Void;)V"⟩ : MethodName) (head1 (Jvm.Cond.code (⟨"java/lang/String", "<init>", "([CIILjava/lang/Void;)V"⟩ : MethodName) jdk_42_method_149_code 6 none :: ws) ({ frames := 2, cells := 1, slots := 3, locals := 35 } : Room)) (fun zz UU => zz = #[(.ref a), (.ref ca), (.int (0 : Int32)), (.int (3 : Int32)), .null] ∧ Z.Warmed39 UU.vm ∧ UU.heap = h0) (fun _ _ _ _ _ => True) (fun _ U o U' => ∃ v L, o = .returned v ∧ Q_sin4_3 Z a ca kc cs c0 c1 c2 h0 n0 v U'.heap L ∧ FrameEnd U o U' L ({ frames := 2, cells := 1, slots := 3, locals := 35 } : Room).cells ({ frames := 2, cells := 1, slots := 3, locals := 35 } : Room).slots) := by
  refine MetFree.of_bodySF (plainFor_of_name pn_3) hisR ?_
  intro p e s m args below meth c s₁ Bd hml0 hP hK
  obtain ⟨rfl, hZ, hh⟩ := hP
  have hx := Bd.exec
  have hby := Bd.bytes
  have hml : c.maxLocals = 6 := hml0
  have hown : s.vm.findClass "java/lang/String" = some m.cls := findClass_of_methodNamed Bd.named
  have hnm := (name_of_methodNamed Bd.named Bd.method).1
  have hlk : meth.locks = false := BodyLoose.notSynchronized Bd
  have X0 : Stand p l e ({ frames := 2, cells := 1, slots := 3, locals := 35 } : Room) s m #[(.ref a), (.ref ca), (.int (0 : Int32)), (.int (3 : Int32)), .null] below meth c s₁ [] 0 0 := Stand.of_body Bd
  have e0 : s₁.heap = h0 := by rw [← hh, Bd.state]; rfl
  have N0 := Fr.nil n0
  show own_Go p.tables e below (Q_sin4_3 Z a ca kc cs c0 c1 c2 h0 n0) s ({ frames := 2, cells := 1, slots := 3, locals := 35 } : Room).cells ({ frames := 2, cells := 1, slots := 3, locals := 35 } : Room).slots s₁ (entryFrame m #[(.ref a), (.ref ca), (.int (0 : Int32)), (.int (3 : Int32)), .null] 6)
  rw [ef_sin4_3 m a ca]
  refine own_by (T' := s₁) (g' := (mkF m 1 #[.val (.ref a), .val (.ref ca), .val (.int (0 : Int32)), .val (.int (3 : Int32)), .val .null, .unset] [(.ref a)])) (fun _ k => XS.aloadN X0.here hx rfl (hb hby d3_0) rfl rfl k) ?_
  obtain ⟨T21, X21, e21, st21⟩ := initO X0 hx hZ hown (hw _ (List.mem_of_getElem? (i := 15) rfl)) (hw _ (List.mem_of_getElem? (i := 16) rfl)) (hw _ (List.mem_of_getElem? (i := 17) rfl)) e0 (g := (mkF m 1 #[.val (.ref a), .val (.ref ca), .val (.int (0 : Int32)), .val (.int (3 : Int32)), .val .null, .unset] [(.ref a)])) rfl (by rw [hml]; rfl) rfl (hb hby d3_1) (by decide) (W := 0) (by show 2 * 0 + _ ≤ _; exact Nat.le_of_eq rfl) (by decide)
  refine own_by (T' := T21) (g' := (mkF m 4 #[.val (.ref a), .val (.ref ca), .val (.int (0 : Int32)), .val (.int (3 : Int32)), .val .null, .unset] [])) (fun _ k => st21 _ k) ?_
  refine own_by (T' := T21) (g' := (mkF m 5 #[.val (.ref a), .val (.ref ca), .val (.int (0 : Int32)), .val (.int (3 : Int32)), .val .null, .unset] [(.int (3 : Int32))])) (fun _ k => XS.iloadN X21.here hx rfl (hb hby d3_4) rfl k) ?_
  refine own_by (T' := T21) (g' := (mkF m 27 #[.val (.ref a), .val (.ref ca), .val (.int (0 : Int32)), .val (.int (3 : Int32)), .val .null, .unset] [])) (fun _ k => XS.ifYes X21.here hx rfl (pc0 := 5) (pc' := 27) rfl (hb hby d3_5) rfl ((if0 _ _).trans (feq (by decide)).2) (by decide) (by decide) k) ?_
  obtain ⟨T22, X22, e22, st22⟩ := getS2 X21 hx hZ hown (host := "") (Or.inl (hw _ (List.mem_of_getElem? (i := 61) rfl))) Via.refl e21 S_CS (g := (mkF m 27 #[.val (.ref a), .val (.ref ca), .val (.int (0 : Int32)), .val (.int (3 : Int32)), .val .null, .unset] [])) rfl (hb hby d3_27)
  refine own_by (T' := T22) (g' := (mkF m 30 #[.val (.ref a), .val (.ref ca), .val (.int (0 : Int32)), .val (.int (3 : Int32)), .val .null, .unset] [(.int cs)])) (fun _ k => st22 _ k) ?_
  refine own_by (T' := T22) (g' := (mkF m 33 #[.val (.ref a), .val (.ref ca), .val (.int (0 : Int32)), .val (.int (3 : Int32)), .val .null, .unset] [])) (fun _ k => XS.ifNo X22.here hx rfl (hb hby d3_30) rfl ((if0 _ _).trans (feq hcs).1) k) ?_
  refine own_by (T' := T22) (g' := (mkF m 34 #[.val (.ref a), .val (.ref ca), .val (.int (0 : Int32)), .val (.int (3 : Int32)), .val .null, .unset] [(.ref ca)])) (fun _ k => XS.aloadN X22.here hx rfl (hb hby d3_33) rfl rfl k) ?_
  refine own_by (T' := T22) (g' := (mkF m 35 #[.val (.ref a), .val (.ref ca), .val (.int (0 : Int32)), .val (.int (3 : Int32)), .val .null, .unset] [(.int (0 : Int32)), (.ref ca)])) (fun _ k => XS.iloadN X22.here hx rfl (hb hby d3_34) rfl k) ?_
  refine own_by (T' := T22) (g' := (mkF m 36 #[.val (.ref a), .val (.ref ca), .val (.int (0 : Int32)), .val (.int (3 : Int32)), .val .null, .unset] [(.int (3 : Int32)), (.int (0 : Int32)), (.ref ca)])) (fun _ k => XS.iloadN X22.here hx rfl (hb hby d3_35) rfl k) ?_
  obtain ⟨_, _, ⟨T23, L23, k23, n23⟩, -, X23, ⟨Lc23, hQ23, l23, y23, z23⟩, st23⟩ := Jvm.LawKit.callS X22 hx (y := (⟨"java/lang/StringUTF16", "compress", "([CII)[B"⟩ : MethodName)) hown (mvT hZ (hw _ (List.mem_of_getElem? (i := 62) rfl))) (mvT hZ (hw _ (List.mem_of_getElem? (i := 63) rfl))) (mvT hZ (hw _ (List.mem_of_getElem? (i := 64) rfl))) (mvT hZ (hw _ (List.mem_of_getElem? (i := 65) rfl))) (by decide) (backOf (W := 0) (cmp3_3 l Z a0 hw [] ca kc c0 c1 c2 h0 n0 Z0 V_ca hc0 hc1 hc2) hZ (hw _ (List.mem_of_getElem? (i := 65) rfl)) (hw _ (List.mem_of_getElem? (i := 64) rfl)) (by decide) (by decide)) (g := (mkF m 36 #[.val (.ref a), .val (.ref ca), .val (.int (0 : Int32)), .val (.int (3 : Int32)), .val .null, .unset] [(.int (3 : Int32)), (.int (0 : Int32)), (.ref ca)])) rfl (by rw [hml]; rfl) (argsL := [(.ref ca), (.int (0 : Int32)), (.int (3 : Int32))]) (rest := []) (lenOf pd_1 rfl) rfl (by show 2 * 0 + _ ≤ _; exact Nat.le_of_eq rfl) (hb hby d3_36) (fun _ _ => ⟨rfl, e22, (by decide : 0 + 1 ≤ _), (by decide : 0 + 3 ≤ _)⟩)
  dsimp only [Pt.U, Pt.locs, Pt.cells, Pt.slots] at X23 l23 y23 z23 st23 hQ23
  subst l23 y23 z23
  obtain ⟨t23, kb23, rfl, N23q, K23, zt23, V23⟩ := hQ23
  have N23 := Fr.app N0 N23q
  have KK23 : Keep h0 T23.heap [a] := Keep.trans (Keep.refl h0 [a]) K23 all0
  have sz_t23 : h0.size ≤ t23 := Nat.le_trans (Keep.refl h0 [a]).1 zt23
  have g_t23 : n0 ≤ t23 := Nat.le_trans Z0 sz_t23
  refine own_by (T' := T23) (g' := (mkF m 39 #[.val (.ref a), .val (.ref ca), .val (.int (0 : Int32)), .val (.int (3 : Int32)), .val .null, .unset] [(.ref t23)])) (fun _ k => st23 _ k) ?_
  refine own_by (T' := T23) (g' := (mkF m 41 #[.val (.ref a), .val (.ref ca), .val (.int (0 : Int32)), .val (.int (3 : Int32)), .val .null, .val (.ref t23)] [])) (fun _ k => XS.astore X23.here hx rfl (hb hby d3_39) rfl rfl (l' := #[.val (.ref a), .val (.ref ca), .val (.int (0 : Int32)), .val (.int (3 : Int32)), .val .null, .val (.ref t23)]) rfl k) ?_
  refine own_by (T' := T23) (g' := (mkF m 42 #[.val (.ref a), .val (.ref ca), .val (.int (0 : Int32)), .val (.int (3 : Int32)), .val .null, .val (.ref t23)] [(.ref a)])) (fun _ k => XS.aloadN X23.here hx rfl (hb hby d3_41) rfl rfl k) ?_
  refine own_by (T' := T23) (g' := (mkF m 44 #[.val (.ref a), .val (.ref ca), .val (.int (0 : Int32)), .val (.int (3 : Int32)), .val .null, .val (.ref t23)] [(.ref t23), (.ref a)])) (fun _ k => XS.aload X23.here hx rfl (hb hby d3_42) rfl rfl k) ?_
  refine own_by (T' := T23) (g' := (mkF m 45 #[.val (.ref a), .val (.ref ca), .val (.int (0 : Int32)), .val (.int (3 : Int32)), .val .null, .val (.ref t23)] [(.int (3 : Int32)), (.ref t23), (.ref a)])) (fun _ k => XS.iloadN X23.here hx rfl (hb hby d3_44) rfl k) ?_
  obtain ⟨_, _, ⟨T24, L24, k24, n24⟩, -, X24, ⟨Lc24, hQ24, l24, y24, z24⟩, st24⟩ := Jvm.LawKit.callS X23 hx (y := (⟨"java/lang/StringUTF16", "coderFromArrayLen", "([BI)B"⟩ : MethodName)) hown (mvT hZ (hw _ (List.mem_of_getElem? (i := 69) rfl))) (mvT hZ (hw _ (List.mem_of_getElem? (i := 70) rfl))) (mvT hZ (hw _ (List.mem_of_getElem? (i := 64) rfl))) (mvT hZ (hw _ (List.mem_of_getElem? (i := 71) rfl))) (by decide) (backOf (W := 1) (cod_3 l Z a0 hw [] t23 kb23 c0 c1 c2 T23.heap n0 (Nat.le_trans Z0 K23.1) V23) hZ (hw _ (List.mem_of_getElem? (i := 71) rfl)) (hw _ (List.mem_of_getElem? (i := 64) rfl)) (by decide) (by decide)) (g := (mkF m 45 #[.val (.ref a), .val (.ref ca), .val (.int (0 : Int32)), .val (.int (3 : Int32)), .val .null, .val (.ref t23)] [(.int (3 : Int32)), (.ref t23), (.ref a)])) rfl (by rw [hml]; rfl) (argsL := [(.ref t23), (.int (3 : Int32))]) (rest := [(.ref a)]) (lenOf pd_2 rfl) rfl (by show 2 * 0 + _ ≤ _; exact Nat.le_of_eq rfl) (hb hby d3_45) (fun _ _ => ⟨rfl, rfl, (by decide : (0 + 1) + 0 ≤ _), (by decide : (0 + 3) + 0 ≤ _)⟩)
  dsimp only [Pt.U, Pt.locs, Pt.cells, Pt.slots] at X24 l24 y24 z24 st24 hQ24
  subst l24 y24 z24
  obtain ⟨rfl, N24q, e24⟩ := hQ24
  have N24 := Fr.app N23 N24q
  refine own_by (T' := T24) (g' := (mkF m 48 #[.val (.ref a), .val (.ref ca), .val (.int (0 : Int32)), .val (.int (3 : Int32)), .val .null, .val (.ref t23)] [(.int (0 : Int32)), (.ref a)])) (fun _ k => st24 _ k) ?_
  obtain ⟨T25, h25, X25, e25, W25, st25⟩ := putFN X24 hx hZ hown (hw _ (List.mem_of_getElem? (i := 25) rfl)) Via.refl e24 (Fld.keep F_coder_a K23 nin0) (Exa.keep E_a K23) (Or.inr ⟨(hw _ (List.mem_of_getElem? (i := 21) rfl)), rfl, hnm⟩) (hw _ (List.mem_of_getElem? (i := 5) rfl)) (ty := .byte) (v' := (.int (0 : Int32))) (by decide) rfl (by decide) (g := (mkF m 48 #[.val (.ref a), .val (.ref ca), .val (.int (0 : Int32)), .val (.int (3 : Int32)), .val .null, .val (.ref t23)] [(.int (0 : Int32)), (.ref a)])) rfl rfl (hb hby d3_48)
  have Fw25 : Fld Z h25 a "java/lang/String" "coder" "B" (.int (0 : Int32)) := Fld.same W25 (Fld.keep F_coder_a K23 nin0)
  have K25 : Keep h0 h25 [a] := Keep.wr KK23 W25 (Or.inl (List.mem_of_getElem? (i := 0) rfl))
  have N25 := Fr.snoc X25 N24 g_a
  refine own_by (T' := T25) (g' := (mkF m 51 #[.val (.ref a), .val (.ref ca), .val (.int (0 : Int32)), .val (.int (3 : Int32)), .val .null, .val (.ref t23)] [])) (fun _ k => st25 _ k) ?_
  refine own_by (T' := T25) (g' := (mkF m 52 #[.val (.ref a), .val (.ref ca), .val (.int (0 : Int32)), .val (.int (3 : Int32)), .val .null, .val (.ref t23)] [(.ref a)])) (fun _ k => XS.aloadN X25.here hx rfl (hb hby d3_51) rfl rfl k) ?_
  refine own_by (T' := T25) (g' := (mkF m 54 #[.val (.ref a), .val (.ref ca), .val (.int (0 : Int32)), .val (.int (3 : Int32)), .val .null, .val (.ref t23)] [(.ref t23), (.ref a)])) (fun _ k => XS.aload X25.here hx rfl (hb hby d3_52) rfl rfl k) ?_
  obtain ⟨T26, h26, X26, e26, W26, st26⟩ := putF X25 hx hZ hown (host := "") (Or.inl (hw _ (List.mem_of_getElem? (i := 24) rfl))) Via.refl e25 (Fld.other W25 (Fld.keep F_value_a K23 nin0) (Or.inr (slot_ne (a0 := a0) (Or.inr (hw _ (List.mem_of_getElem? (i := 20) rfl))) (Or.inr (hw _ (List.mem_of_getElem? (i := 21) rfl))) (by decide) (t := (.array .byte)) (t' := .byte) (by decide) (by decide)))) (Exa.wr W25 (Exa.keep E_a K23)) (Or.inr ⟨(hw _ (List.mem_of_getElem? (i := 20) rfl)), rfl, hnm⟩) (hw _ (List.mem_of_getElem? (i := 5) rfl)) (ty := (.array .byte)) (by decide) rfl rfl (g := (mkF m 54 #[.val (.ref a), .val (.ref ca), .val (.int (0 : Int32)), .val (.int (3 : Int32)), .val .null, .val (.ref t23)] [(.ref t23), (.ref a)])) rfl rfl (hb hby d3_54)
  have Fw26 : Fld Z h26 a "java/lang/String" "value" "[B" (.ref t23) := Fld.same W26 (Fld.other W25 (Fld.keep F_value_a K23 nin0) (Or.inr (slot_ne (a0 := a0) (Or.inr (hw _ (List.mem_of_getElem? (i := 20) rfl))) (Or.inr (hw _ (List.mem_of_getElem? (i := 21) rfl))) (by decide) (t := (.array .byte)) (t' := .byte) (by decide) (by decide))))
  have K26 : Keep h0 h26 [a] := Keep.wr K25 W26 (Or.inl (List.mem_of_getElem? (i := 0) rfl))
  have N26 := Fr.snoc X26 N25 g_a
  refine own_by (T' := T26) (g' := (mkF m 57 #[.val (.ref a), .val (.ref ca), .val (.int (0 : Int32)), .val (.int (3 : Int32)), .val .null, .val (.ref t23)] [])) (fun _ k => st26 _ k) ?_
  refine own_ret X26 hlk (v := none) (fun _ => rfl) (fun fs hr => X26.returnOut hx Bd.returns (hb hby d3_57) hr) ?_ (by decide) (by decide)
  rw [e26]
  exact ⟨rfl, N26, K26, (Fld.other W26 Fw25 (Or.inr (slot_ne (a0 := a0) (Or.inr (hw _ (List.mem_of_getElem? (i := 21) rfl))) (Or.inr (hw _ (List.mem_of_getElem? (i := 20) rfl))) (by decide) (t := .byte) (t' := (.array .byte)) (by decide) (by decide)))), _, _, sz_t23, Fw26, (Arv.other (Arv.other V23 W25 (Ne.symm (Nat.ne_of_lt (Nat.lt_of_lt_of_le (E_a).lt zt23)))) W26 (Ne.symm (Nat.ne_of_lt (Nat.lt_of_lt_of_le (E_a).lt zt23))))⟩
theorem ef_sin1_3 (m : MethodId) (a : Addr) (ca : Addr) : entryFrame m #[(.ref a), (.ref ca)] 2 = mkF m 0 #[.val (.ref a), .val (.ref ca)] [] := by first | (simp [entryFrame, mkF, argsToLocals, Value.category]; done) | rfl
def Q_sin1_3 (Z : State) (a : Addr) (ca : Addr) (kc : ClassId) (cs : Int32) (c0 : Int32) (c1 : Int32) (c2 : Int32) (h0 : Heap) (n0 : Nat) (v : Option Value) (h : Heap) (L : List Loc) : Prop := v = none ∧ Fr n0 L ∧ Keep h0 h [a] ∧ Fld Z h a "java/lang/String" "coder" "B" (.int (0 : Int32)) ∧ ∃ (t : Addr) (kb : ClassId), h0.size ≤ t ∧ Fld Z h a "java/lang/String" "value" "[B" (.ref t) ∧ Arv Z h t kb .byte (3 : Int32) [(.int (nar .byte (c0.toInt8.toInt32))), (.int (nar .byte (c1.toInt8.toInt32))), (.int (nar .byte (c2.toInt8.toInt32)))] (.int (0 : Int32))
set_option maxRecDepth 65536 in
set_option maxHeartbeats 40000000 in
theorem sin1_3 (l : Launch) (Z : State) (a0 : Array Value) (hw : ∀ d ∈ tables_1, d.before a0 Z = true) (ws : List Jvm.Cond) (a : Addr) (ca : Addr) (kc : ClassId) (cs : Int32) (c0 : Int32) (c1 : Int32) (c2 : Int32) (h0 : Heap) (n0 : Nat) (Z0 : n0 ≤ h0.size) (E_a : Exa Z h0 a "java/lang/String") (F_value_a : Fld Z h0 a "java/lang/String" "value" "[B" .null) (F_coder_a : Fld Z h0 a "java/lang/String" "coder" "B" (.int (0 : Int32))) (g_a : n0 ≤ a) (V_ca : Arv Z h0 ca kc .char (3 : Int32) [(.int c0), (.int c1), (.int c2)] (.int (0 : Int32))) (S_CS : Sta Z h0 "java/lang/String" "COMPACT_STRINGS" "Z" (.int cs)) (hcs : ¬ cs = (0 : Int32)) (hc0 : ¬ (255 : Int32) < c0) (hc1 : ¬ (255 : Int32) < c1) (hc2 : ¬ (255 : Int32) < c2) :
    MetFree l (⟨"java/lang/String", "<init>", "([C)V"⟩ : MethodName) (head1 (Jvm.Cond.code (⟨"java/lang/String", "<init>", "([C)V"⟩ : MethodName) jdk_42_method_3_code 2 none :: ws) ({ frames := 3, cells := 1, slots := 3, locals := 52 } : Room)) (fun zz UU => zz = #[(.ref a), (.ref ca)] ∧ Z.Warmed39 UU.vm ∧ UU.heap = h0) (fun _ _ _ _ _ => True) (fun _ U o U' => ∃ v L, o = .returned v ∧ Q_sin1_3 Z a ca kc cs c0 c1 c2 h0 n0 v U'.heap L ∧ FrameEnd U o U' L ({ frames := 3, cells := 1, slots := 3, locals := 52 } : Room).cells ({ frames := 3, cells := 1, slots := 3, locals := 52 } : Room).slots) := by
  refine MetFree.of_bodySF (plainFor_of_name pn_2) hisR ?_
  intro p e s m args below meth c s₁ Bd hml0 hP hK
  obtain ⟨rfl, hZ, hh⟩ := hP
  have hx := Bd.exec
  have hby := Bd.bytes
  have hml : c.maxLocals = 2 := hml0
  have hown : s.vm.findClass "java/lang/String" = some m.cls := findClass_of_methodNamed Bd.named
  have hnm := (name_of_methodNamed Bd.named Bd.method).1
  have hlk : meth.locks = false := BodyLoose.notSynchronized Bd
  have X0 : Stand p l e ({ frames := 3, cells := 1, slots := 3, locals := 52 } : Room) s m #[(.ref a), (.ref ca)] below meth c s₁ [] 0 0 := Stand.of_body Bd
  have e0 : s₁.heap = h0 := by rw [← hh, Bd.state]; rfl
  have N0 := Fr.nil n0
  show own_Go p.tables e below (Q_sin1_3 Z a ca kc cs c0 c1 c2 h0 n0) s ({ frames := 3, cells := 1, slots := 3, locals := 52 } : Room).cells ({ frames := 3, cells := 1, slots := 3, locals := 52 } : Room).slots s₁ (entryFrame m #[(.ref a), (.ref ca)] 2)
  rw [ef_sin1_3 m a ca]
  refine own_by (T' := s₁) (g' := (mkF m 1 #[.val (.ref a), .val (.ref ca)] [(.ref a)])) (fun _ k => XS.aloadN X0.here hx rfl (hb hby d2_0) rfl rfl k) ?_
  refine own_by (T' := s₁) (g' := (mkF m 2 #[.val (.ref a), .val (.ref ca)] [(.ref ca), (.ref a)])) (fun _ k => XS.aloadN X0.here hx rfl (hb hby d2_1) rfl rfl k) ?_
  refine own_by (T' := s₁) (g' := (mkF m 3 #[.val (.ref a), .val (.ref ca)] [(.int (0 : Int32)), (.ref ca), (.ref a)])) (fun _ k => XS.iconst X0.here hx rfl (hb hby d2_2) k) ?_
  refine own_by (T' := s₁) (g' := (mkF m 4 #[.val (.ref a), .val (.ref ca)] [(.ref ca), (.int (0 : Int32)), (.ref ca), (.ref a)])) (fun _ k => XS.aloadN X0.here hx rfl (hb hby d2_3) rfl rfl k) ?_
  obtain ⟨cl21, Ar21, q21, S21, N_21, H21, G21⟩ := id V_ca
  refine own_by (T' := s₁) (g' := (mkF m 5 #[.val (.ref a), .val (.ref ca)] [(.int (3 : Int32)), (.int (0 : Int32)), (.ref ca), (.ref a)])) (fun _ k => X0.arraylength hx (by rw [e0]; exact Ar21.1) (State.isArrayOf_alike hZ.alike Ar21.2.1) (g := (mkF m 4 #[.val (.ref a), .val (.ref ca)] [(.ref ca), (.int (0 : Int32)), (.ref ca), (.ref a)])) rfl rfl (hb hby d2_4) _ (by rw [len_of S21 N_21]; exact k)) ?_
  refine own_by (T' := s₁) (g' := (mkF m 6 #[.val (.ref a), .val (.ref ca)] [.null, (.int (3 : Int32)), (.int (0 : Int32)), (.ref ca), (.ref a)])) (fun _ k => XS.aconstNull X0.here hx rfl (hb hby d2_5) k) ?_
  obtain ⟨_, _, ⟨T22, L22, k22, n22⟩, -, X22, ⟨Lc22, hQ22, l22, y22, z22⟩, st22⟩ := X0.specialBack hx (y := (⟨"java/lang/String", "<init>", "([CIILjava/lang/Void;)V"⟩ : MethodName)) rfl hown (mvT hZ (hw _ (List.mem_of_getElem? (i := 11) rfl))) (mvT hZ (hw _ (List.mem_of_getElem? (i := 12) rfl))) (mvT hZ (hw _ (List.mem_of_getElem? (i := 14) rfl))) (by decide) (backOf (W := 0) (sin4_3 l Z a0 hw [] a ca kc cs c0 c1 c2 h0 n0 Z0 E_a F_value_a F_coder_a g_a V_ca S_CS hcs hc0 hc1 hc2) hZ (hw _ (List.mem_of_getElem? (i := 14) rfl)) (hw _ (List.mem_of_getElem? (i := 6) rfl)) (by decide) (by decide)) (g := (mkF m 6 #[.val (.ref a), .val (.ref ca)] [.null, (.int (3 : Int32)), (.int (0 : Int32)), (.ref ca), (.ref a)])) rfl (by rw [hml]; rfl) (Steps.refl _) (a := a) (argsL := [(.ref ca), (.int (0 : Int32)), (.int (3 : Int32)), .null]) (rest := []) (lenOf pd_3 rfl) rfl (by show 2 * 0 + _ ≤ _; exact Nat.le_of_eq rfl) (hb hby d2_6) (fun _ _ => ⟨rfl, e0, (by decide : 0 + 1 ≤ _), (by decide : 0 + 3 ≤ _)⟩)
  dsimp only [Pt.U, Pt.locs, Pt.cells, Pt.slots] at X22 l22 y22 z22 st22 hQ22
  subst l22 y22 z22
  obtain ⟨rfl, N22q, K22, Fc22, t22, kb22, zt22, Fv22, V22⟩ := hQ22
  have N22 := Fr.app N0 N22q
  have KK22 : Keep h0 T22.heap [a] := Keep.trans (Keep.refl h0 [a]) K22 (allS (Or.inl (List.mem_of_getElem? (i := 0) rfl)) all0)
  have sz_t22 : h0.size ≤ t22 := zt22
  refine own_by (T' := T22) (g' := (mkF m 9 #[.val (.ref a), .val (.ref ca)] [])) (fun _ k => st22.trans k) ?_
  refine own_ret X22 hlk (v := none) (fun _ => rfl) (fun fs hr => X22.returnOut hx Bd.returns (hb hby d2_9) hr) ?_ (by decide) (by decide)
  exact ⟨rfl, N22, KK22, Fc22, _, _, sz_t22, Fv22, V22⟩
theorem d3_8 : decode jdk_42_method_149_code 8 = .ok (.aload_n 0, 1) := by decide +kernel
theorem d3_9 : decode jdk_42_method_149_code 9 = .ok (.ldc 7, 2) := by decide +kernel
theorem d3_11 : decode jdk_42_method_149_code 11 = .ok (.getfield 9, 3) := by decide +kernel
theorem d3_14 : decode jdk_42_method_149_code 14 = .ok (.putfield 9, 3) := by decide +kernel
theorem d3_17 : decode jdk_42_method_149_code 17 = .ok (.aload_n 0, 1) := by decide +kernel
theorem d3_18 : decode jdk_42_method_149_code 18 = .ok (.ldc 7, 2) := by decide +kernel
theorem d3_20 : decode jdk_42_method_149_code 20 = .ok (.getfield 15, 3) := by decide +kernel
theorem d3_23 : decode jdk_42_method_149_code 23 = .ok (.putfield 15, 3) := by decide +kernel
theorem d3_26 : decode jdk_42_method_149_code 26 = .ok (.return_, 1) := by decide +kernel
theorem ef_sin4_0 (m : MethodId) (a : Addr) (ca : Addr) : entryFrame m #[(.ref a), (.ref ca), (.int (0 : Int32)), (.int (0 : Int32)), .null] 6 = mkF m 0 #[.val (.ref a), .val (.ref ca), .val (.int (0 : Int32)), .val (.int (0 : Int32)), .val .null, .unset] [] := by first | (simp [entryFrame, mkF, argsToLocals, Value.category]; done) | rfl
def V_sin4_0 (Z : State) (a : Addr) (ca : Addr) (h0 : Heap) (vm : Vm) : Prop := Safe Z consts_1 vm h0 a
def Q_sin4_0 (Z : State) (a : Addr) (ca : Addr) (h0 : Heap) (n0 : Nat) (v : Option Value) (h : Heap) (L : List Loc) : Prop := v = none ∧ Fr n0 L ∧ Keep h0 h [a] ∧ Fld Z h a "java/lang/String" "coder" "B" (.int (0 : Int32)) ∧ ∃ (t : Addr) (kb : ClassId), Fld Z h a "java/lang/String" "value" "[B" (.ref t) ∧ Arv Z h t kb .byte (0 : Int32) [] (.int (0 : Int32))
set_option maxRecDepth 65536 in
set_option maxHeartbeats 40000000 in
theorem sin4_0 (l : Launch) (Z : State) (a0 : Array Value) (hw : ∀ d ∈ tables_1, d.before a0 Z = true) (ws : List Jvm.Cond) (a : Addr) (ca : Addr) (h0 : Heap) (n0 : Nat) (Z0 : n0 ≤ h0.size) (E_a : Exa Z h0 a "java/lang/String") (F_value_a : Fld Z h0 a "java/lang/String" "value" "[B" .null) (F_coder_a : Fld Z h0 a "java/lang/String" "coder" "B" (.int (0 : Int32))) (g_a : n0 ≤ a) :
    MetFree l (⟨"java/lang/String", "<init>", "([CIILjava/lang/Void;)V"⟩ : MethodName) (head1 (Jvm.Cond.code (⟨"java/lang/String", "<init>", "([CIILjava/lang/Void;)V"⟩ : MethodName) jdk_42_method_149_code 6 none :: ws) ({ frames := 1, cells := 4, slots := 8, locals := 12 } : Room)) (fun zz UU => zz = #[(.ref a), (.ref ca), (.int (0 : Int32)), (.int (0 : Int32)), .null] ∧ Z.Warmed39 UU.vm ∧ UU.heap = h0 ∧ CHv Z consts_1 UU.vm h0 ∧ V_sin4_0 Z a ca h0 UU.vm) (fun _ _ _ _ _ => True) (fun _ U o U' => ∃ v L, o = .returned v ∧ Q_sin4_0 Z a ca h0 n0 v U'.heap L ∧ CHr Z consts_1 U.vm U.heap U'.vm U'.heap ∧ ReturnedEndW U o U' L ({ frames := 1, cells := 4, slots := 8, locals := 12 } : Room).cells ({ frames := 1, cells := 4, slots := 8, locals := 12 } : Room).slots) := by
  refine MetFree.of_bodySF (plainFor_of_name pn_3) hisR ?_
  intro p e s m args below meth c s₁ Bd hml0 hP hK
  obtain ⟨rfl, hZ, hh, hH, hV⟩ := hP
  have hx := Bd.exec
  have hby := Bd.bytes
  have hml : c.maxLocals = 6 := hml0
  have hown : s.vm.findClass "java/lang/String" = some m.cls := findClass_of_methodNamed Bd.named
  have hnm := (name_of_methodNamed Bd.named Bd.method).1
  have hlk : meth.locks = false := BodyLoose.notSynchronized Bd
  have X0 : Stand p l e ({ frames := 1, cells := 4, slots := 8, locals := 12 } : Room) (s.setVm s.vm) m #[(.ref a), (.ref ca), (.int (0 : Int32)), (.int (0 : Int32)), .null] below meth c s₁ [] 0 0 := Stand.of_body Bd
  have e0 : s₁.heap = h0 := by rw [← hh, Bd.state]; rfl
  have N0 := Fr.nil n0
  show own_GoW p.tables e below Z consts_1 (Q_sin4_0 Z a ca h0 n0) s ({ frames := 1, cells := 4, slots := 8, locals := 12 } : Room).cells ({ frames := 1, cells := 4, slots := 8, locals := 12 } : Room).slots s₁ (entryFrame m #[(.ref a), (.ref ca), (.int (0 : Int32)), (.int (0 : Int32)), .null] 6)
  rw [ef_sin4_0 m a ca]
  have hS0 : s.Since s.vm s.heap.size := (State.WarmedH.refl s).since _
  have hk0 : s.heap.size ≤ h0.size := Nat.le_of_eq (congrArg Array.size hh)
  have C0 : CHr Z consts_1 s.vm s.heap s.vm h0 := by rw [hh]; exact CHr.refl hH
  have hEL : EW Z a0 consts_1 := own_EL hw
  have hwS : ∀ d ∈ Bundle.stringAtoms, d.before a0 Z = true := fun d hd => hw d (own_SA d hd)
  refine own_byW (T' := s₁) (g' := (mkF m 1 #[.val (.ref a), .val (.ref ca), .val (.int (0 : Int32)), .val (.int (0 : Int32)), .val .null, .unset] [(.ref a)])) (fun _ k => XS.aloadN X0.here hx rfl (hb hby d3_0) rfl rfl k) ?_
  obtain ⟨T21, X21, e21, st21⟩ := initO X0 hx hZ hown (hw _ (List.mem_of_getElem? (i := 15) rfl)) (hw _ (List.mem_of_getElem? (i := 16) rfl)) (hw _ (List.mem_of_getElem? (i := 17) rfl)) e0 (g := (mkF m 1 #[.val (.ref a), .val (.ref ca), .val (.int (0 : Int32)), .val (.int (0 : Int32)), .val .null, .unset] [(.ref a)])) rfl (by rw [hml]; rfl) rfl (hb hby d3_1) (by decide) (W := 0) (by show 2 * 0 + _ ≤ _; exact Nat.le_of_eq rfl) (by decide)
  refine own_byW (T' := T21) (g' := (mkF m 4 #[.val (.ref a), .val (.ref ca), .val (.int (0 : Int32)), .val (.int (0 : Int32)), .val .null, .unset] [])) (fun _ k => st21 _ k) ?_
  refine own_byW (T' := T21) (g' := (mkF m 5 #[.val (.ref a), .val (.ref ca), .val (.int (0 : Int32)), .val (.int (0 : Int32)), .val .null, .unset] [(.int (0 : Int32))])) (fun _ k => XS.iloadN X21.here hx rfl (hb hby d3_4) rfl k) ?_
  refine own_byW (T' := T21) (g' := (mkF m 8 #[.val (.ref a), .val (.ref ca), .val (.int (0 : Int32)), .val (.int (0 : Int32)), .val .null, .unset] [])) (fun _ k => XS.ifNo X21.here hx rfl (hb hby d3_5) rfl ((if0 _ _).trans (teq (by decide)).2) k) ?_
  refine own_byW (T' := T21) (g' := (mkF m 9 #[.val (.ref a), .val (.ref ca), .val (.int (0 : Int32)), .val (.int (0 : Int32)), .val .null, .unset] [(.ref a)])) (fun _ k => XS.aloadN X21.here hx rfl (hb hby d3_8) rfl rfl k) ?_
  obtain ⟨a22, T22, h22, k22, b22, kb22, X22, e22, E22, hS22, hk22, hZ22, hown22, Ex22, Fc22, Fv22, V22, la22, lb22, Cq22, Lt22, D22, st22⟩ := ldcCH (s := s) (EL := consts_1) X21 hx hZ hown (hw _ (List.mem_of_getElem? (i := 18) rfl)) hwS e21 hS0 hk0 hEL (List.mem_of_getElem? (i := 2) rfl) C0.1 (vs := []) (z := (0 : Int32)) ⟨by decide, by decide⟩ (by decide) (by decide) (g := (mkF m 9 #[.val (.ref a), .val (.ref ca), .val (.int (0 : Int32)), .val (.int (0 : Int32)), .val .null, .unset] [(.ref a)])) rfl (hb hby d3_9) (n := 0) (by decide) (by decide) (by decide) (by decide)
  have Sf22_a : Safe Z consts_1 T22.vm h22 a := CHr.safe Cq22 (E_a).lt hV
  have C22 : CHr Z consts_1 s.vm s.heap T22.vm h22 := CHr.trans C0 Cq22
  have K22 : Keep h0 h22 [a] := Keep.ext (Keep.refl h0 [a]) E22
  refine own_byW (T' := T22) (g' := (mkF m 11 #[.val (.ref a), .val (.ref ca), .val (.int (0 : Int32)), .val (.int (0 : Int32)), .val .null, .unset] [(.ref a22), (.ref a)])) (fun _ k => st22 _ k) ?_
  obtain ⟨T23, X23, e23, st23⟩ := getF X22 hx hZ22 hown22 (host := "") (Or.inl (hw _ (List.mem_of_getElem? (i := 24) rfl))) Via.refl e22 Fv22 (g := (mkF m 11 #[.val (.ref a), .val (.ref ca), .val (.int (0 : Int32)), .val (.int (0 : Int32)), .val .null, .unset] [(.ref a22), (.ref a)])) rfl rfl (hb hby d3_11)
  refine own_byW (T' := T23) (g' := (mkF m 14 #[.val (.ref a), .val (.ref ca), .val (.int (0 : Int32)), .val (.int (0 : Int32)), .val .null, .unset] [(.ref b22), (.ref a)])) (fun _ k => st23 _ k) ?_
  obtain ⟨T24, h24, X24, e24, W24, st24⟩ := putF X23 hx hZ22 hown22 (host := "") (Or.inl (hw _ (List.mem_of_getElem? (i := 24) rfl))) Via.refl e23 (Fld.ext E22 F_value_a) (Exa.ext E22 E_a) (Or.inr ⟨(hw _ (List.mem_of_getElem? (i := 20) rfl)), rfl, hnm⟩) (hw _ (List.mem_of_getElem? (i := 5) rfl)) (ty := (.array .byte)) (by decide) rfl rfl (g := (mkF m 14 #[.val (.ref a), .val (.ref ca), .val (.int (0 : Int32)), .val (.int (0 : Int32)), .val .null, .unset] [(.ref b22), (.ref a)])) rfl rfl (hb hby d3_14)
  have Fw24 : Fld Z h24 a "java/lang/String" "value" "[B" (.ref b22) := Fld.same W24 (Fld.ext E22 F_value_a)
  have K24 : Keep h0 h24 [a] := Keep.wr K22 W24 (Or.inl (List.mem_of_getElem? (i := 0) rfl))
  have Sf24_a : Safe Z consts_1 T22.vm h24 a := Safe.wr W24 Sf22_a C22.1 Sf22_a
  have C24 : CHr Z consts_1 s.vm s.heap T22.vm h24 := CHr.trans C22 (CHr.wr W24 Sf22_a C22.1)
  have N24 := Fr.snoc X24 N0 g_a
  refine own_byW (T' := T24) (g' := (mkF m 17 #[.val (.ref a), .val (.ref ca), .val (.int (0 : Int32)), .val (.int (0 : Int32)), .val .null, .unset] [])) (fun _ k => st24 _ k) ?_
  refine own_byW (T' := T24) (g' := (mkF m 18 #[.val (.ref a), .val (.ref ca), .val (.int (0 : Int32)), .val (.int (0 : Int32)), .val .null, .unset] [(.ref a)])) (fun _ k => XS.aloadN X24.here hx rfl (hb hby d3_17) rfl rfl k) ?_
  obtain ⟨a25, T25, h25, k25, b25, kb25, X25, e25, E25, hS25, hk25, hZ25, hown25, Ex25, Fc25, Fv25, V25, la25, lb25, Cq25, Lt25, D25, st25⟩ := ldcCH (s := s) (EL := consts_1) X24 hx hZ22 hown22 (hw _ (List.mem_of_getElem? (i := 18) rfl)) hwS e24 hS22 (Nat.le_trans hk22 (Keep.of_wr W24).1) hEL (List.mem_of_getElem? (i := 2) rfl) C24.1 (vs := []) (z := (0 : Int32)) ⟨by decide, by decide⟩ (by decide) (by decide) (g := (mkF m 18 #[.val (.ref a), .val (.ref ca), .val (.int (0 : Int32)), .val (.int (0 : Int32)), .val .null, .unset] [(.ref a)])) rfl (hb hby d3_18) (n := 0) (by decide) (by decide) (by decide) (by decide)
  have Sf25_a : Safe Z consts_1 T25.vm h25 a := CHr.safe Cq25 ((Exa.wr W24 (Exa.ext E22 E_a))).lt Sf24_a
  have C25 : CHr Z consts_1 s.vm s.heap T25.vm h25 := CHr.trans C24 Cq25
  have K25 : Keep h0 h25 [a] := Keep.ext K24 E25
  refine own_byW (T' := T25) (g' := (mkF m 20 #[.val (.ref a), .val (.ref ca), .val (.int (0 : Int32)), .val (.int (0 : Int32)), .val .null, .unset] [(.ref a25), (.ref a)])) (fun _ k => st25 _ k) ?_
  obtain ⟨T26, X26, e26, st26⟩ := getF X25 hx hZ25 hown25 (host := "") (Or.inl (hw _ (List.mem_of_getElem? (i := 25) rfl))) Via.refl e25 Fc25 (g := (mkF m 20 #[.val (.ref a), .val (.ref ca), .val (.int (0 : Int32)), .val (.int (0 : Int32)), .val .null, .unset] [(.ref a25), (.ref a)])) rfl rfl (hb hby d3_20)
  refine own_byW (T' := T26) (g' := (mkF m 23 #[.val (.ref a), .val (.ref ca), .val (.int (0 : Int32)), .val (.int (0 : Int32)), .val .null, .unset] [(.int (0 : Int32)), (.ref a)])) (fun _ k => st26 _ k) ?_
  obtain ⟨T27, h27, X27, e27, W27, st27⟩ := putFN X26 hx hZ25 hown25 (hw _ (List.mem_of_getElem? (i := 25) rfl)) Via.refl e26 (Fld.ext E25 (Fld.other W24 (Fld.ext E22 F_coder_a) (Or.inr (slot_ne (a0 := a0) (Or.inr (hw _ (List.mem_of_getElem? (i := 21) rfl))) (Or.inr (hw _ (List.mem_of_getElem? (i := 20) rfl))) (by decide) (t := .byte) (t' := (.array .byte)) (by decide) (by decide))))) (Exa.ext E25 (Exa.wr W24 (Exa.ext E22 E_a))) (Or.inr ⟨(hw _ (List.mem_of_getElem? (i := 21) rfl)), rfl, hnm⟩) (hw _ (List.mem_of_getElem? (i := 5) rfl)) (ty := .byte) (v' := (.int (0 : Int32))) (by decide) rfl (by decide) (g := (mkF m 23 #[.val (.ref a), .val (.ref ca), .val (.int (0 : Int32)), .val (.int (0 : Int32)), .val .null, .unset] [(.int (0 : Int32)), (.ref a)])) rfl rfl (hb hby d3_23)
  have Fw27 : Fld Z h27 a "java/lang/String" "coder" "B" (.int (0 : Int32)) := Fld.same W27 (Fld.ext E25 (Fld.other W24 (Fld.ext E22 F_coder_a) (Or.inr (slot_ne (a0 := a0) (Or.inr (hw _ (List.mem_of_getElem? (i := 21) rfl))) (Or.inr (hw _ (List.mem_of_getElem? (i := 20) rfl))) (by decide) (t := .byte) (t' := (.array .byte)) (by decide) (by decide)))))
  have K27 : Keep h0 h27 [a] := Keep.wr K25 W27 (Or.inl (List.mem_of_getElem? (i := 0) rfl))
  have Sf27_a : Safe Z consts_1 T25.vm h27 a := Safe.wr W27 Sf25_a C25.1 Sf25_a
  have C27 : CHr Z consts_1 s.vm s.heap T25.vm h27 := CHr.trans C25 (CHr.wr W27 Sf25_a C25.1)
  have N27 := Fr.snoc X27 N24 g_a
  refine own_byW (T' := T27) (g' := (mkF m 26 #[.val (.ref a), .val (.ref ca), .val (.int (0 : Int32)), .val (.int (0 : Int32)), .val .null, .unset] [])) (fun _ k => st27 _ k) ?_
  refine own_retW (s := s) X27 hlk hS25 (by rw [e27]; exact (Nat.le_trans hk25 (Keep.of_wr W27).1)) hZ25 hEL C27 e27 (v := none) (fun _ => rfl) (fun fs hr => X27.returnOut hx Bd.returns (hb hby d3_26) hr) ?_ (by decide) (by decide)
  rw [e27]
  exact ⟨rfl, N27, K27, Fw27, _, _, (Fld.other W27 (Fld.ext E25 Fw24) (Or.inr (slot_ne (a0 := a0) (Or.inr (hw _ (List.mem_of_getElem? (i := 20) rfl))) (Or.inr (hw _ (List.mem_of_getElem? (i := 21) rfl))) (by decide) (t := (.array .byte)) (t' := .byte) (by decide) (by decide)))), (Arv.other (Arv.ext (Arv.other V22 W24 (Ne.symm (D22 a Sf22_a).2)) E25) W27 (Ne.symm (D22 a Sf22_a).2))⟩
theorem ef_sin1_0 (m : MethodId) (a : Addr) (ca : Addr) : entryFrame m #[(.ref a), (.ref ca)] 2 = mkF m 0 #[.val (.ref a), .val (.ref ca)] [] := by first | (simp [entryFrame, mkF, argsToLocals, Value.category]; done) | rfl
def V_sin1_0 (Z : State) (a : Addr) (ca : Addr) (kc : ClassId) (h0 : Heap) (vm : Vm) : Prop := Safe Z consts_1 vm h0 a
def Q_sin1_0 (Z : State) (a : Addr) (ca : Addr) (kc : ClassId) (h0 : Heap) (n0 : Nat) (v : Option Value) (h : Heap) (L : List Loc) : Prop := v = none ∧ Fr n0 L ∧ Keep h0 h [a] ∧ Fld Z h a "java/lang/String" "coder" "B" (.int (0 : Int32)) ∧ ∃ (t : Addr) (kb : ClassId), Fld Z h a "java/lang/String" "value" "[B" (.ref t) ∧ Arv Z h t kb .byte (0 : Int32) [] (.int (0 : Int32))
set_option maxRecDepth 65536 in
set_option maxHeartbeats 40000000 in
theorem sin1_0 (l : Launch) (Z : State) (a0 : Array Value) (hw : ∀ d ∈ tables_1, d.before a0 Z = true) (ws : List Jvm.Cond) (a : Addr) (ca : Addr) (kc : ClassId) (h0 : Heap) (n0 : Nat) (Z0 : n0 ≤ h0.size) (E_a : Exa Z h0 a "java/lang/String") (F_value_a : Fld Z h0 a "java/lang/String" "value" "[B" .null) (F_coder_a : Fld Z h0 a "java/lang/String" "coder" "B" (.int (0 : Int32))) (g_a : n0 ≤ a) (V_ca : Arv Z h0 ca kc .char (0 : Int32) [] (.int (0 : Int32))) :
    MetFree l (⟨"java/lang/String", "<init>", "([C)V"⟩ : MethodName) (head1 (Jvm.Cond.code (⟨"java/lang/String", "<init>", "([C)V"⟩ : MethodName) jdk_42_method_3_code 2 none :: ws) ({ frames := 2, cells := 4, slots := 8, locals := 29 } : Room)) (fun zz UU => zz = #[(.ref a), (.ref ca)] ∧ Z.Warmed39 UU.vm ∧ UU.heap = h0 ∧ CHv Z consts_1 UU.vm h0 ∧ V_sin1_0 Z a ca kc h0 UU.vm) (fun _ _ _ _ _ => True) (fun _ U o U' => ∃ v L, o = .returned v ∧ Q_sin1_0 Z a ca kc h0 n0 v U'.heap L ∧ CHr Z consts_1 U.vm U.heap U'.vm U'.heap ∧ ReturnedEndW U o U' L ({ frames := 2, cells := 4, slots := 8, locals := 29 } : Room).cells ({ frames := 2, cells := 4, slots := 8, locals := 29 } : Room).slots) := by
  refine MetFree.of_bodySF (plainFor_of_name pn_2) hisR ?_
  intro p e s m args below meth c s₁ Bd hml0 hP hK
  obtain ⟨rfl, hZ, hh, hH, hV⟩ := hP
  have hx := Bd.exec
  have hby := Bd.bytes
  have hml : c.maxLocals = 2 := hml0
  have hown : s.vm.findClass "java/lang/String" = some m.cls := findClass_of_methodNamed Bd.named
  have hnm := (name_of_methodNamed Bd.named Bd.method).1
  have hlk : meth.locks = false := BodyLoose.notSynchronized Bd
  have X0 : Stand p l e ({ frames := 2, cells := 4, slots := 8, locals := 29 } : Room) (s.setVm s.vm) m #[(.ref a), (.ref ca)] below meth c s₁ [] 0 0 := Stand.of_body Bd
  have e0 : s₁.heap = h0 := by rw [← hh, Bd.state]; rfl
  have N0 := Fr.nil n0
  show own_GoW p.tables e below Z consts_1 (Q_sin1_0 Z a ca kc h0 n0) s ({ frames := 2, cells := 4, slots := 8, locals := 29 } : Room).cells ({ frames := 2, cells := 4, slots := 8, locals := 29 } : Room).slots s₁ (entryFrame m #[(.ref a), (.ref ca)] 2)
  rw [ef_sin1_0 m a ca]
  have hS0 : s.Since s.vm s.heap.size := (State.WarmedH.refl s).since _
  have hk0 : s.heap.size ≤ h0.size := Nat.le_of_eq (congrArg Array.size hh)
  have C0 : CHr Z consts_1 s.vm s.heap s.vm h0 := by rw [hh]; exact CHr.refl hH
  have hEL : EW Z a0 consts_1 := own_EL hw
  have hwS : ∀ d ∈ Bundle.stringAtoms, d.before a0 Z = true := fun d hd => hw d (own_SA d hd)
  refine own_byW (T' := s₁) (g' := (mkF m 1 #[.val (.ref a), .val (.ref ca)] [(.ref a)])) (fun _ k => XS.aloadN X0.here hx rfl (hb hby d2_0) rfl rfl k) ?_
  refine own_byW (T' := s₁) (g' := (mkF m 2 #[.val (.ref a), .val (.ref ca)] [(.ref ca), (.ref a)])) (fun _ k => XS.aloadN X0.here hx rfl (hb hby d2_1) rfl rfl k) ?_
  refine own_byW (T' := s₁) (g' := (mkF m 3 #[.val (.ref a), .val (.ref ca)] [(.int (0 : Int32)), (.ref ca), (.ref a)])) (fun _ k => XS.iconst X0.here hx rfl (hb hby d2_2) k) ?_
  refine own_byW (T' := s₁) (g' := (mkF m 4 #[.val (.ref a), .val (.ref ca)] [(.ref ca), (.int (0 : Int32)), (.ref ca), (.ref a)])) (fun _ k => XS.aloadN X0.here hx rfl (hb hby d2_3) rfl rfl k) ?_
  obtain ⟨cl21, Ar21, q21, S21, N_21, H21, G21⟩ := id V_ca
  refine own_byW (T' := s₁) (g' := (mkF m 5 #[.val (.ref a), .val (.ref ca)] [(.int (0 : Int32)), (.int (0 : Int32)), (.ref ca), (.ref a)])) (fun _ k => X0.arraylength hx (by rw [e0]; exact Ar21.1) (State.isArrayOf_alike hZ.alike Ar21.2.1) (g := (mkF m 4 #[.val (.ref a), .val (.ref ca)] [(.ref ca), (.int (0 : Int32)), (.ref ca), (.ref a)])) rfl rfl (hb hby d2_4) _ (by rw [len_of S21 N_21]; exact k)) ?_
  refine own_byW (T' := s₁) (g' := (mkF m 6 #[.val (.ref a), .val (.ref ca)] [.null, (.int (0 : Int32)), (.int (0 : Int32)), (.ref ca), (.ref a)])) (fun _ k => XS.aconstNull X0.here hx rfl (hb hby d2_5) k) ?_
  obtain ⟨_, _, ⟨T22, L22, k22, n22⟩, -, X22, hSq22, hgq22, ⟨Lc22, hQ22, l22, y22, z22, Cq22⟩, st22⟩ := X0.specialBackS hx (y := (⟨"java/lang/String", "<init>", "([CIILjava/lang/Void;)V"⟩ : MethodName)) rfl hown (mvT hZ (hw _ (List.mem_of_getElem? (i := 11) rfl))) (mvT hZ (hw _ (List.mem_of_getElem? (i := 12) rfl))) (mvT hZ (hw _ (List.mem_of_getElem? (i := 14) rfl))) (by decide) (own_backSH (s := s) (EL := consts_1) (W := 0) (sin4_0 l Z a0 hw [] a ca  h0 n0 Z0 E_a F_value_a F_coder_a g_a) hZ (hw _ (List.mem_of_getElem? (i := 14) rfl)) (hw _ (List.mem_of_getElem? (i := 6) rfl)) (by decide) (by decide) hEL C0.1 (fun vm hC => CHr.safe hC E_a.lt hV)) (g := (mkF m 6 #[.val (.ref a), .val (.ref ca)] [.null, (.int (0 : Int32)), (.int (0 : Int32)), (.ref ca), (.ref a)])) rfl (by rw [hml]; rfl) (Steps.refl _) (a := a) (argsL := [(.ref ca), (.int (0 : Int32)), (.int (0 : Int32)), .null]) (rest := []) (lenOf pd_3 rfl) rfl (by show 2 * 0 + _ ≤ _; exact Nat.le_of_eq rfl) (hb hby d2_6) (fun _ _ => ⟨rfl, e0, (by decide : 0 + 4 ≤ _), (by decide : 0 + 8 ≤ _)⟩)
  dsimp only [Pt.U, Pt.locs, Pt.cells, Pt.slots] at X22 l22 y22 z22 st22 hQ22 hSq22 hgq22 Cq22
  subst l22 y22 z22
  obtain ⟨rfl, N22q, K22, Fc22, t22, kb22, Fv22, V22⟩ := hQ22
  have N22 := Fr.app N0 N22q
  have KK22 : Keep h0 T22.heap [a] := Keep.trans (Keep.refl h0 [a]) K22 (allS (Or.inl (List.mem_of_getElem? (i := 0) rfl)) all0)
  have hS22 := foldS hS0 (T := s₁) (by rw [e0]; exact hk0) hSq22 hgq22
  have hZ22 : Z.Warmed39 (s.setVm T22.vm).vm := State.Warmed39.trans hZ hSq22.1
  have hown22 : (s.setVm T22.vm).vm.findClass "java/lang/String" = some m.cls := by show T22.vm.findClass "java/lang/String" = some m.cls; rw [hSq22.1.alike.findClass]; exact hown
  have X22 : Stand p l e ({ frames := 2, cells := 4, slots := 8, locals := 29 } : Room) (s.setVm T22.vm) m #[(.ref a), (.ref ca)] below meth c T22 L22 (0 + 4) (0 + 8) := X22
  have Sf22_a : Safe Z consts_1 T22.vm T22.heap a := CHr.safe Cq22 (E_a).lt hV
  have C22 : CHr Z consts_1 s.vm s.heap T22.vm T22.heap := CHr.trans C0 Cq22
  refine own_byW (T' := T22) (g' := (mkF m 9 #[.val (.ref a), .val (.ref ca)] [])) (fun _ k => st22.trans k) ?_
  refine own_retW (s := s) X22 hlk hS22 (Nat.le_refl _) hZ22 hEL C22 rfl (v := none) (fun _ => rfl) (fun fs hr => X22.returnOut hx Bd.returns (hb hby d2_9) hr) ?_ (by decide) (by decide)
  exact ⟨rfl, N22, KK22, Fc22, _, _, Fv22, V22⟩
theorem d7_0 : decode jdk_31_method_11_code 0 = .ok (.aload_n 0, 1) := by decide +kernel
theorem d7_1 : decode jdk_31_method_11_code 1 = .ok (.ifnonnull 12, 3) := by decide +kernel
theorem d7_13 : decode jdk_31_method_11_code 13 = .ok (.aload_n 0, 1) := by decide +kernel
theorem d7_14 : decode jdk_31_method_11_code 14 = .ok (.areturn, 1) := by decide +kernel
theorem pn_7 : plainName "java/util/Objects" = true := by first | (simp [plainName, overriddenIn]; done) | decide +kernel
theorem ef_reqnn (m : MethodId) (a : Addr) (b : Addr) : entryFrame m #[(.ref a), (.ref b)] 2 = mkF m 0 #[.val (.ref a), .val (.ref b)] [] := by first | (simp [entryFrame, mkF, argsToLocals, Value.category]; done) | rfl
def Q_reqnn (Z : State) (a : Addr) (b : Addr) (h0 : Heap) (n0 : Nat) (v : Option Value) (h : Heap) (L : List Loc) : Prop := v = some (.ref a) ∧ Fr n0 L ∧ h = h0
set_option maxRecDepth 65536 in
set_option maxHeartbeats 40000000 in
theorem reqnn (l : Launch) (Z : State) (a0 : Array Value) (hw : ∀ d ∈ tables_1, d.before a0 Z = true) (ws : List Jvm.Cond) (a : Addr) (b : Addr) (h0 : Heap) (n0 : Nat) (Z0 : n0 ≤ h0.size) :
    MetFree l (⟨"java/util/Objects", "requireNonNull", "(Ljava/lang/Object;Ljava/lang/String;)Ljava/lang/Object;"⟩ : MethodName) (head1 (Jvm.Cond.code (⟨"java/util/Objects", "requireNonNull", "(Ljava/lang/Object;Ljava/lang/String;)Ljava/lang/Object;"⟩ : MethodName) jdk_31_method_11_code 2 (some (.object "java/lang/Object")) :: ws) ({ frames := 0, cells := 0, slots := 0, locals := 0 } : Room)) (fun zz UU => zz = #[(.ref a), (.ref b)] ∧ Z.Warmed39 UU.vm ∧ UU.heap = h0) (fun _ _ _ _ _ => True) (fun _ U o U' => ∃ v L, o = .returned v ∧ Q_reqnn Z a b h0 n0 v U'.heap L ∧ FrameEnd U o U' L ({ frames := 0, cells := 0, slots := 0, locals := 0 } : Room).cells ({ frames := 0, cells := 0, slots := 0, locals := 0 } : Room).slots) := by
  refine MetFree.of_bodySF (plainFor_of_name pn_7) hisR ?_
  intro p e s m args below meth c s₁ Bd hml0 hP hK
  obtain ⟨rfl, hZ, hh⟩ := hP
  have hx := Bd.exec
  have hby := Bd.bytes
  have hml : c.maxLocals = 2 := hml0
  have hown : s.vm.findClass "java/util/Objects" = some m.cls := findClass_of_methodNamed Bd.named
  have hnm := (name_of_methodNamed Bd.named Bd.method).1
  have hlk : meth.locks = false := BodyLoose.notSynchronized Bd
  have X0 : Stand p l e ({ frames := 0, cells := 0, slots := 0, locals := 0 } : Room) s m #[(.ref a), (.ref b)] below meth c s₁ [] 0 0 := Stand.of_body Bd
  have e0 : s₁.heap = h0 := by rw [← hh, Bd.state]; rfl
  have N0 := Fr.nil n0
  show own_Go p.tables e below (Q_reqnn Z a b h0 n0) s ({ frames := 0, cells := 0, slots := 0, locals := 0 } : Room).cells ({ frames := 0, cells := 0, slots := 0, locals := 0 } : Room).slots s₁ (entryFrame m #[(.ref a), (.ref b)] 2)
  rw [ef_reqnn m a b]
  refine own_by (T' := s₁) (g' := (mkF m 1 #[.val (.ref a), .val (.ref b)] [(.ref a)])) (fun _ k => XS.aloadN X0.here hx rfl (hb hby d7_0) rfl rfl k) ?_
  refine own_by (T' := s₁) (g' := (mkF m 13 #[.val (.ref a), .val (.ref b)] [])) (fun _ k => XS.ifnonnullYes X0.here hx rfl (pc0 := 1) (pc' := 13) rfl (hb hby d7_1) rfl (by decide) (by decide) k) ?_
  refine own_by (T' := s₁) (g' := (mkF m 14 #[.val (.ref a), .val (.ref b)] [(.ref a)])) (fun _ k => XS.aloadN X0.here hx rfl (hb hby d7_13) rfl rfl k) ?_
  refine own_ret X0 hlk (v := some (.ref a)) (fun h => by rw [Bd.returns] at h; cases h) (fun fs hr => retOut X0 hx Bd.returns rfl (Or.inr (Or.inr (Or.inr (Or.inr ⟨rfl, rfl, rfl⟩)))) (hb hby d7_14) hr) ?_ (by decide) (by decide)
  rw [e0]
  exact ⟨rfl, N0, rfl⟩
theorem d1_0 : decode method_3_code 0 = .ok (.iload_n 0, 1) := by decide +kernel
theorem d1_1 : decode method_3_code 1 = .ok (.ifCond .ne 14, 3) := by decide +kernel
theorem d1_4 : decode method_3_code 4 = .ok (.new 7, 3) := by decide +kernel
theorem d1_7 : decode method_3_code 7 = .ok (.dup, 1) := by decide +kernel
theorem d1_8 : decode method_3_code 8 = .ok (.iconst 0, 1) := by decide +kernel
theorem d1_9 : decode method_3_code 9 = .ok (.newarray .char, 2) := by decide +kernel
theorem d1_11 : decode method_3_code 11 = .ok (.invokespecial 9, 3) := by decide +kernel
theorem d1_14 : decode method_3_code 14 = .ok (.areturn, 1) := by decide +kernel
theorem d1_15 : decode method_3_code 15 = .ok (.iload_n 0, 1) := by decide +kernel
theorem d1_16 : decode method_3_code 16 = .ok (.iconst 1, 1) := by decide +kernel
theorem d1_17 : decode method_3_code 17 = .ok (.if_icmp .ne 22, 3) := by decide +kernel
theorem d1_20 : decode method_3_code 20 = .ok (.new 7, 3) := by decide +kernel
theorem d1_23 : decode method_3_code 23 = .ok (.dup, 1) := by decide +kernel
theorem d1_24 : decode method_3_code 24 = .ok (.iconst 1, 1) := by decide +kernel
theorem d1_25 : decode method_3_code 25 = .ok (.newarray .char, 2) := by decide +kernel
theorem d1_27 : decode method_3_code 27 = .ok (.dup, 1) := by decide +kernel
theorem d1_28 : decode method_3_code 28 = .ok (.iconst 0, 1) := by decide +kernel
theorem d1_29 : decode method_3_code 29 = .ok (.iload_n 1, 1) := by decide +kernel
theorem d1_30 : decode method_3_code 30 = .ok (.iconst 0, 1) := by decide +kernel
theorem d1_31 : decode method_3_code 31 = .ok (.invokestatic 12, 3) := by decide +kernel
theorem d1_34 : decode method_3_code 34 = .ok (.castore, 1) := by decide +kernel
theorem d1_35 : decode method_3_code 35 = .ok (.invokespecial 9, 3) := by decide +kernel
theorem d1_38 : decode method_3_code 38 = .ok (.areturn, 1) := by decide +kernel
theorem d1_39 : decode method_3_code 39 = .ok (.iload_n 0, 1) := by decide +kernel
theorem d1_40 : decode method_3_code 40 = .ok (.iconst 2, 1) := by decide +kernel
theorem d1_41 : decode method_3_code 41 = .ok (.if_icmp .ne 30, 3) := by decide +kernel
theorem d1_44 : decode method_3_code 44 = .ok (.new 7, 3) := by decide +kernel
theorem d1_47 : decode method_3_code 47 = .ok (.dup, 1) := by decide +kernel
theorem d1_48 : decode method_3_code 48 = .ok (.iconst 2, 1) := by decide +kernel
theorem d1_49 : decode method_3_code 49 = .ok (.newarray .char, 2) := by decide +kernel
theorem d1_51 : decode method_3_code 51 = .ok (.dup, 1) := by decide +kernel
theorem d1_52 : decode method_3_code 52 = .ok (.iconst 0, 1) := by decide +kernel
theorem d1_53 : decode method_3_code 53 = .ok (.iload_n 1, 1) := by decide +kernel
theorem d1_54 : decode method_3_code 54 = .ok (.iconst 0, 1) := by decide +kernel
theorem d1_55 : decode method_3_code 55 = .ok (.invokestatic 12, 3) := by decide +kernel
theorem d1_58 : decode method_3_code 58 = .ok (.castore, 1) := by decide +kernel
theorem d1_59 : decode method_3_code 59 = .ok (.dup, 1) := by decide +kernel
theorem d1_60 : decode method_3_code 60 = .ok (.iconst 1, 1) := by decide +kernel
theorem d1_61 : decode method_3_code 61 = .ok (.iload_n 1, 1) := by decide +kernel
theorem d1_62 : decode method_3_code 62 = .ok (.iconst 1, 1) := by decide +kernel
theorem d1_63 : decode method_3_code 63 = .ok (.invokestatic 12, 3) := by decide +kernel
theorem d1_66 : decode method_3_code 66 = .ok (.castore, 1) := by decide +kernel
theorem d1_67 : decode method_3_code 67 = .ok (.invokespecial 9, 3) := by decide +kernel
theorem d1_70 : decode method_3_code 70 = .ok (.areturn, 1) := by decide +kernel
theorem d1_71 : decode method_3_code 71 = .ok (.new 7, 3) := by decide +kernel
theorem d1_74 : decode method_3_code 74 = .ok (.dup, 1) := by decide +kernel
theorem d1_75 : decode method_3_code 75 = .ok (.iconst 3, 1) := by decide +kernel
theorem d1_76 : decode method_3_code 76 = .ok (.newarray .char, 2) := by decide +kernel
theorem d1_78 : decode method_3_code 78 = .ok (.dup, 1) := by decide +kernel
theorem d1_79 : decode method_3_code 79 = .ok (.iconst 0, 1) := by decide +kernel
theorem d1_80 : decode method_3_code 80 = .ok (.iload_n 1, 1) := by decide +kernel
theorem d1_81 : decode method_3_code 81 = .ok (.iconst 0, 1) := by decide +kernel
theorem d1_82 : decode method_3_code 82 = .ok (.invokestatic 12, 3) := by decide +kernel
theorem d1_85 : decode method_3_code 85 = .ok (.castore, 1) := by decide +kernel
theorem d1_86 : decode method_3_code 86 = .ok (.dup, 1) := by decide +kernel
theorem d1_87 : decode method_3_code 87 = .ok (.iconst 1, 1) := by decide +kernel
theorem d1_88 : decode method_3_code 88 = .ok (.iload_n 1, 1) := by decide +kernel
theorem d1_89 : decode method_3_code 89 = .ok (.iconst 1, 1) := by decide +kernel
theorem d1_90 : decode method_3_code 90 = .ok (.invokestatic 12, 3) := by decide +kernel
theorem d1_93 : decode method_3_code 93 = .ok (.castore, 1) := by decide +kernel
theorem d1_94 : decode method_3_code 94 = .ok (.dup, 1) := by decide +kernel
theorem d1_95 : decode method_3_code 95 = .ok (.iconst 2, 1) := by decide +kernel
theorem d1_96 : decode method_3_code 96 = .ok (.iload_n 1, 1) := by decide +kernel
theorem d1_97 : decode method_3_code 97 = .ok (.iconst 2, 1) := by decide +kernel
theorem d1_98 : decode method_3_code 98 = .ok (.invokestatic 12, 3) := by decide +kernel
theorem d1_101 : decode method_3_code 101 = .ok (.castore, 1) := by decide +kernel
theorem d1_102 : decode method_3_code 102 = .ok (.invokespecial 9, 3) := by decide +kernel
theorem d1_105 : decode method_3_code 105 = .ok (.areturn, 1) := by decide +kernel
theorem pn_1 : plainName "com/example/postings/postings/search/PhraseEqualsPinLaw" = true := by first | (simp [plainName, overriddenIn]; done) | decide +kernel
theorem ef_mk (m : MethodId) (n1 : Int32) (u1 : Int32) : entryFrame m #[(.int n1), (.int u1)] 2 = mkF m 0 #[.val (.int n1), .val (.int u1)] [] := by first | (simp [entryFrame, mkF, argsToLocals, Value.category]; done) | rfl
def V_mk (Z : State) (n1 : Int32) (u1 : Int32) (cs : Int32) (h0 : Heap) (vm : Vm) : Prop := True
def Q_mk (Z : State) (n1 : Int32) (u1 : Int32) (cs : Int32) (h0 : Heap) (n0 : Nat) (v : Option Value) (h : Heap) (L : List Loc) : Prop := ∃ (x t : Addr) (kb : ClassId), v = some (.ref x) ∧ Fr n0 L ∧ Keep h0 h [] ∧ h0.size ≤ x ∧ Exa Z h x "java/lang/String" ∧ Fld Z h x "java/lang/String" "coder" "B" (.int (0 : Int32)) ∧ Fld Z h x "java/lang/String" "value" "[B" (.ref t) ∧ Arv Z h t kb .byte (own_ln n1) (own_bs n1 u1) (.int (0 : Int32))
set_option maxRecDepth 65536 in
set_option maxHeartbeats 40000000 in
theorem mk (l : Launch) (Z : State) (a0 : Array Value) (hw : ∀ d ∈ tables_1, d.before a0 Z = true) (ws : List Jvm.Cond) (n1 : Int32) (u1 : Int32) (cs : Int32) (h0 : Heap) (n0 : Nat) (Z0 : n0 ≤ h0.size) (S_CS : Sta Z h0 "java/lang/String" "COMPACT_STRINGS" "Z" (.int cs)) (hcs : ¬ cs = (0 : Int32)) :
    MetFree l (⟨"com/example/postings/postings/search/PhraseEqualsPinLaw", "mk", "(II)Ljava/lang/String;"⟩ : MethodName) (head1 (Jvm.Cond.code (⟨"com/example/postings/postings/search/PhraseEqualsPinLaw", "mk", "(II)Ljava/lang/String;"⟩ : MethodName) method_3_code 2 (some (.object "java/lang/String")) :: ws) ({ frames := 4, cells := 6, slots := 12, locals := 66 } : Room)) (fun zz UU => zz = #[(.int n1), (.int u1)] ∧ Z.Warmed39 UU.vm ∧ UU.heap = h0 ∧ CHv Z consts_1 UU.vm h0 ∧ V_mk Z n1 u1 cs h0 UU.vm) (fun _ _ _ _ _ => True) (fun _ U o U' => ∃ v L, o = .returned v ∧ Q_mk Z n1 u1 cs h0 n0 v U'.heap L ∧ CHr Z consts_1 U.vm U.heap U'.vm U'.heap ∧ ReturnedEndW U o U' L ({ frames := 4, cells := 6, slots := 12, locals := 66 } : Room).cells ({ frames := 4, cells := 6, slots := 12, locals := 66 } : Room).slots) := by
  refine MetFree.of_bodySF (plainFor_of_name pn_1) hisR ?_
  intro p e s m args below meth c s₁ Bd hml0 hP hK
  obtain ⟨rfl, hZ, hh, hH, hV⟩ := hP
  have hx := Bd.exec
  have hby := Bd.bytes
  have hml : c.maxLocals = 2 := hml0
  have hown : s.vm.findClass "com/example/postings/postings/search/PhraseEqualsPinLaw" = some m.cls := findClass_of_methodNamed Bd.named
  have hnm := (name_of_methodNamed Bd.named Bd.method).1
  have hlk : meth.locks = false := BodyLoose.notSynchronized Bd
  have X0 : Stand p l e ({ frames := 4, cells := 6, slots := 12, locals := 66 } : Room) (s.setVm s.vm) m #[(.int n1), (.int u1)] below meth c s₁ [] 0 0 := Stand.of_body Bd
  have e0 : s₁.heap = h0 := by rw [← hh, Bd.state]; rfl
  have N0 := Fr.nil n0
  show own_GoW p.tables e below Z consts_1 (Q_mk Z n1 u1 cs h0 n0) s ({ frames := 4, cells := 6, slots := 12, locals := 66 } : Room).cells ({ frames := 4, cells := 6, slots := 12, locals := 66 } : Room).slots s₁ (entryFrame m #[(.int n1), (.int u1)] 2)
  rw [ef_mk m n1 u1]
  have hS0 : s.Since s.vm s.heap.size := (State.WarmedH.refl s).since _
  have hk0 : s.heap.size ≤ h0.size := Nat.le_of_eq (congrArg Array.size hh)
  have C0 : CHr Z consts_1 s.vm s.heap s.vm h0 := by rw [hh]; exact CHr.refl hH
  have hEL : EW Z a0 consts_1 := own_EL hw
  have hwS : ∀ d ∈ Bundle.stringAtoms, d.before a0 Z = true := fun d hd => hw d (own_SA d hd)
  refine own_byW (T' := s₁) (g' := (mkF m 1 #[.val (.int n1), .val (.int u1)] [(.int n1)])) (fun _ k => XS.iloadN X0.here hx rfl (hb hby d1_0) rfl k) ?_
  by_cases hc1_21 : n1 = (0 : Int32)
  · skip
    refine own_byW (T' := s₁) (g' := (mkF m 4 #[.val (.int n1), .val (.int u1)] [])) (fun _ k => XS.ifNo X0.here hx rfl (hb hby d1_1) rfl ((if0 _ _).trans (teq hc1_21).2) k) ?_
    obtain ⟨T22, h22, X22, e22, E22, A22, D22, -, st22⟩ := newO X0 hx hZ hown (hw _ (List.mem_of_getElem? (i := 4) rfl)) (hw _ (List.mem_of_getElem? (i := 5) rfl)) (hw _ (List.mem_of_getElem? (i := 6) rfl)) e0 (g := (mkF m 4 #[.val (.int n1), .val (.int u1)] [])) rfl (hb hby d1_4) (by decide) (by decide)
    obtain ⟨b22, g22⟩ : ∃ z, z = h0.size := ⟨_, rfl⟩
    rw [← g22] at A22 D22 st22
    have E_b22 : Exa Z h22 b22 "java/lang/String" := A22
    have F_value_b22 : Fld Z h22 b22 "java/lang/String" "value" "[B" .null := D22 (Or.inr (hw _ (List.mem_of_getElem? (i := 20) rfl))) (ty := (.array .byte)) (by decide)
    have F_coder_b22 : Fld Z h22 b22 "java/lang/String" "coder" "B" (.int (0 : Int32)) := D22 (Or.inr (hw _ (List.mem_of_getElem? (i := 21) rfl))) (ty := .byte) (by decide)
    have g_b22 : n0 ≤ b22 := Nat.le_trans Z0 (Nat.le_of_eq g22.symm)
    have sz_b22 : h0.size ≤ b22 := Nat.le_trans (Keep.refl h0 []).1 (Nat.le_of_eq g22.symm)
    have K22 : Keep h0 h22 [] := Keep.ext (Keep.refl h0 []) E22
    have Sf22_b22 : Safe Z consts_1 s.vm h22 b22 := Safe.ext E22 C0.1 (Safe.new (Nat.le_of_eq g22.symm))
    have C22 : CHr Z consts_1 s.vm s.heap s.vm h22 := CHr.trans C0 (CHr.ext E22 C0.1)
    refine own_byW (T' := T22) (g' := (mkF m 7 #[.val (.int n1), .val (.int u1)] [(.ref b22)])) (fun _ k => st22 _ k) ?_
    refine own_byW (T' := T22) (g' := (mkF m 8 #[.val (.int n1), .val (.int u1)] [(.ref b22), (.ref b22)])) (fun _ k => XS.dup X22.here hx rfl (hb hby d1_7) rfl rfl k) ?_
    refine own_byW (T' := T22) (g' := (mkF m 9 #[.val (.int n1), .val (.int u1)] [(.int (0 : Int32)), (.ref b22), (.ref b22)])) (fun _ k => XS.iconst X22.here hx rfl (hb hby d1_8) k) ?_
    obtain ⟨T23, h23, k23, X23, e23, E23, A23, st23⟩ := newP X22 hx hZ (hw _ (List.mem_of_getElem? (i := 7) rfl)) e22 (g := (mkF m 9 #[.val (.int n1), .val (.int u1)] [(.int (0 : Int32)), (.ref b22), (.ref b22)])) rfl (hb hby d1_9) rfl (by decide) (cap := 0) (by decide) (by decide) (by decide) (by decide)
    obtain ⟨b23, g23⟩ : ∃ z, z = h22.size := ⟨_, rfl⟩
    rw [← g23] at A23 st23
    have V_b23 : Arv Z h23 b23 k23 .char (0 : Int32) [] (.int (0 : Int32)) := Arv.new A23 (by decide)
    have g_b23 : n0 ≤ b23 := Nat.le_trans (Nat.le_trans Z0 E22.1) (Nat.le_of_eq g23.symm)
    have sz_b23 : h0.size ≤ b23 := Nat.le_trans K22.1 (Nat.le_of_eq g23.symm)
    have K23 : Keep h0 h23 [] := Keep.ext K22 E23
    have Sf23_b22 : Safe Z consts_1 s.vm h23 b22 := Safe.ext E23 C22.1 Sf22_b22
    have C23 : CHr Z consts_1 s.vm s.heap s.vm h23 := CHr.trans C22 (CHr.ext E23 C22.1)
    refine own_byW (T' := T23) (g' := (mkF m 11 #[.val (.int n1), .val (.int u1)] [(.ref b23), (.ref b22), (.ref b22)])) (fun _ k => st23 _ k) ?_
    obtain ⟨_, _, ⟨T24, L24, k24, n24⟩, -, X24, hSq24, hgq24, ⟨Lc24, hQ24, l24, y24, z24, Cq24⟩, st24⟩ := X23.specialBackS hx (y := (⟨"java/lang/String", "<init>", "([C)V"⟩ : MethodName)) rfl hown (mvT hZ (hw _ (List.mem_of_getElem? (i := 8) rfl))) (mvT hZ (hw _ (List.mem_of_getElem? (i := 9) rfl))) (mvT hZ (hw _ (List.mem_of_getElem? (i := 10) rfl))) (by decide) (own_backSH (s := s) (EL := consts_1) (W := 1) (sin1_0 l Z a0 hw [] b22 b23 k23 h23 n0 (Nat.le_trans (Nat.le_trans Z0 E22.1) E23.1) (Exa.ext E23 E_b22) (Fld.ext E23 F_value_b22) (Fld.ext E23 F_coder_b22) g_b22 V_b23) hZ (hw _ (List.mem_of_getElem? (i := 10) rfl)) (hw _ (List.mem_of_getElem? (i := 6) rfl)) (by decide) (by decide) hEL C23.1 (fun vm hC => CHr.safe hC ((Exa.ext E23 E_b22)).lt Sf23_b22)) (g := (mkF m 11 #[.val (.int n1), .val (.int u1)] [(.ref b23), (.ref b22), (.ref b22)])) rfl (by rw [hml]; rfl) (Steps.refl _) (a := b22) (argsL := [(.ref b23)]) (rest := [(.ref b22)]) (lenOf pd_4 rfl) rfl (by show 2 * 0 + _ ≤ _; exact Nat.le_of_eq rfl) (hb hby d1_11) (fun _ _ => ⟨rfl, e23, (by decide : ((0 + 1) + 1) + 4 ≤ _), (by decide : ((0 + 4) + 0) + 8 ≤ _)⟩)
    dsimp only [Pt.U, Pt.locs, Pt.cells, Pt.slots] at X24 l24 y24 z24 st24 hQ24 hSq24 hgq24 Cq24
    subst l24 y24 z24
    obtain ⟨rfl, N24q, K24, Fc24, t24, kb24, Fv24, V24⟩ := hQ24
    have N24 := Fr.app N0 N24q
    have KK24 : Keep h0 T24.heap [] := Keep.trans K23 K24 (allS (Or.inr sz_b22) all0)
    have hS24 := foldS hS0 (T := T23) (by rw [e23]; exact (Nat.le_trans (Nat.le_trans hk0 E22.1) E23.1)) hSq24 hgq24
    have hZ24 : Z.Warmed39 (s.setVm T24.vm).vm := State.Warmed39.trans hZ hSq24.1
    have hown24 : (s.setVm T24.vm).vm.findClass "com/example/postings/postings/search/PhraseEqualsPinLaw" = some m.cls := by show T24.vm.findClass "com/example/postings/postings/search/PhraseEqualsPinLaw" = some m.cls; rw [hSq24.1.alike.findClass]; exact hown
    have X24 : Stand p l e ({ frames := 4, cells := 6, slots := 12, locals := 66 } : Room) (s.setVm T24.vm) m #[(.int n1), (.int u1)] below meth c T24 L24 (((0 + 1) + 1) + 4) (((0 + 4) + 0) + 8) := X24
    have Sf24_b22 : Safe Z consts_1 T24.vm T24.heap b22 := CHr.safe Cq24 ((Exa.ext E23 E_b22)).lt Sf23_b22
    have C24 : CHr Z consts_1 s.vm s.heap T24.vm T24.heap := CHr.trans C23 Cq24
    refine own_byW (T' := T24) (g' := (mkF m 14 #[.val (.int n1), .val (.int u1)] [(.ref b22)])) (fun _ k => st24.trans k) ?_
    refine own_retW (s := s) X24 hlk hS24 (Nat.le_refl _) hZ24 hEL C24 rfl (v := some (.ref b22)) (fun h => by rw [Bd.returns] at h; cases h) (fun fs hr => retOut X24 hx Bd.returns rfl (Or.inr (Or.inr (Or.inr (Or.inr ⟨rfl, rfl, rfl⟩)))) (hb hby d1_14) hr) ?_ (by decide) (by decide)
    exact ⟨_, _, _, rfl, N24, KK24, sz_b22, (Exa.keep (Exa.ext E23 E_b22) K24), Fc24, Fv24, own_pack (own_l0 hc1_21) (own_b0 u1 hc1_21) V24⟩
  · skip
    refine own_byW (T' := s₁) (g' := (mkF m 15 #[.val (.int n1), .val (.int u1)] [])) (fun _ k => XS.ifYes X0.here hx rfl (pc0 := 1) (pc' := 15) rfl (hb hby d1_1) rfl ((if0 _ _).trans (feq hc1_21).2) (by decide) (by decide) k) ?_
    refine own_byW (T' := s₁) (g' := (mkF m 16 #[.val (.int n1), .val (.int u1)] [(.int n1)])) (fun _ k => XS.iloadN X0.here hx rfl (hb hby d1_15) rfl k) ?_
    refine own_byW (T' := s₁) (g' := (mkF m 17 #[.val (.int n1), .val (.int u1)] [(.int (1 : Int32)), (.int n1)])) (fun _ k => XS.iconst X0.here hx rfl (hb hby d1_16) k) ?_
    by_cases hc17_25 : n1 = (1 : Int32)
    · skip
      refine own_byW (T' := s₁) (g' := (mkF m 20 #[.val (.int n1), .val (.int u1)] [])) (fun _ k => XS.icmpNo X0.here hx rfl (hb hby d1_17) rfl (teq hc17_25).2 k) ?_
      obtain ⟨T26, h26, X26, e26, E26, A26, D26, -, st26⟩ := newO X0 hx hZ hown (hw _ (List.mem_of_getElem? (i := 4) rfl)) (hw _ (List.mem_of_getElem? (i := 5) rfl)) (hw _ (List.mem_of_getElem? (i := 6) rfl)) e0 (g := (mkF m 20 #[.val (.int n1), .val (.int u1)] [])) rfl (hb hby d1_20) (by decide) (by decide)
      obtain ⟨b26, g26⟩ : ∃ z, z = h0.size := ⟨_, rfl⟩
      rw [← g26] at A26 D26 st26
      have E_b26 : Exa Z h26 b26 "java/lang/String" := A26
      have F_value_b26 : Fld Z h26 b26 "java/lang/String" "value" "[B" .null := D26 (Or.inr (hw _ (List.mem_of_getElem? (i := 20) rfl))) (ty := (.array .byte)) (by decide)
      have F_coder_b26 : Fld Z h26 b26 "java/lang/String" "coder" "B" (.int (0 : Int32)) := D26 (Or.inr (hw _ (List.mem_of_getElem? (i := 21) rfl))) (ty := .byte) (by decide)
      have g_b26 : n0 ≤ b26 := Nat.le_trans Z0 (Nat.le_of_eq g26.symm)
      have sz_b26 : h0.size ≤ b26 := Nat.le_trans (Keep.refl h0 []).1 (Nat.le_of_eq g26.symm)
      have K26 : Keep h0 h26 [] := Keep.ext (Keep.refl h0 []) E26
      have Sf26_b26 : Safe Z consts_1 s.vm h26 b26 := Safe.ext E26 C0.1 (Safe.new (Nat.le_of_eq g26.symm))
      have C26 : CHr Z consts_1 s.vm s.heap s.vm h26 := CHr.trans C0 (CHr.ext E26 C0.1)
      refine own_byW (T' := T26) (g' := (mkF m 23 #[.val (.int n1), .val (.int u1)] [(.ref b26)])) (fun _ k => st26 _ k) ?_
      refine own_byW (T' := T26) (g' := (mkF m 24 #[.val (.int n1), .val (.int u1)] [(.ref b26), (.ref b26)])) (fun _ k => XS.dup X26.here hx rfl (hb hby d1_23) rfl rfl k) ?_
      refine own_byW (T' := T26) (g' := (mkF m 25 #[.val (.int n1), .val (.int u1)] [(.int (1 : Int32)), (.ref b26), (.ref b26)])) (fun _ k => XS.iconst X26.here hx rfl (hb hby d1_24) k) ?_
      obtain ⟨T27, h27, k27, X27, e27, E27, A27, st27⟩ := newP X26 hx hZ (hw _ (List.mem_of_getElem? (i := 7) rfl)) e26 (g := (mkF m 25 #[.val (.int n1), .val (.int u1)] [(.int (1 : Int32)), (.ref b26), (.ref b26)])) rfl (hb hby d1_25) rfl (by decide) (cap := 1) (by decide) (by decide) (by decide) (by decide)
      obtain ⟨b27, g27⟩ : ∃ z, z = h26.size := ⟨_, rfl⟩
      rw [← g27] at A27 st27
      have V_b27 : Arv Z h27 b27 k27 .char (1 : Int32) [(.int (0 : Int32))] (.int (0 : Int32)) := (Arv.new A27 (by decide)).pad (pad_rep [] (.int (0 : Int32)) 1)
      have g_b27 : n0 ≤ b27 := Nat.le_trans (Nat.le_trans Z0 E26.1) (Nat.le_of_eq g27.symm)
      have sz_b27 : h0.size ≤ b27 := Nat.le_trans K26.1 (Nat.le_of_eq g27.symm)
      have K27 : Keep h0 h27 [] := Keep.ext K26 E27
      have Sf27_b26 : Safe Z consts_1 s.vm h27 b26 := Safe.ext E27 C26.1 Sf26_b26
      have C27 : CHr Z consts_1 s.vm s.heap s.vm h27 := CHr.trans C26 (CHr.ext E27 C26.1)
      refine own_byW (T' := T27) (g' := (mkF m 27 #[.val (.int n1), .val (.int u1)] [(.ref b27), (.ref b26), (.ref b26)])) (fun _ k => st27 _ k) ?_
      refine own_byW (T' := T27) (g' := (mkF m 28 #[.val (.int n1), .val (.int u1)] [(.ref b27), (.ref b27), (.ref b26), (.ref b26)])) (fun _ k => XS.dup X27.here hx rfl (hb hby d1_27) rfl rfl k) ?_
      refine own_byW (T' := T27) (g' := (mkF m 29 #[.val (.int n1), .val (.int u1)] [(.int (0 : Int32)), (.ref b27), (.ref b27), (.ref b26), (.ref b26)])) (fun _ k => XS.iconst X27.here hx rfl (hb hby d1_28) k) ?_
      refine own_byW (T' := T27) (g' := (mkF m 30 #[.val (.int n1), .val (.int u1)] [(.int u1), (.int (0 : Int32)), (.ref b27), (.ref b27), (.ref b26), (.ref b26)])) (fun _ k => XS.iloadN X27.here hx rfl (hb hby d1_29) rfl k) ?_
      refine own_byW (T' := T27) (g' := (mkF m 31 #[.val (.int n1), .val (.int u1)] [(.int (0 : Int32)), (.int u1), (.int (0 : Int32)), (.ref b27), (.ref b27), (.ref b26), (.ref b26)])) (fun _ k => XS.iconst X27.here hx rfl (hb hby d1_30) k) ?_
      obtain ⟨_, _, ⟨T28, L28, k28, n28⟩, -, X28, ⟨Lc28, hQ28, l28, y28, z28⟩, st28⟩ := Jvm.LawKit.callS X27 hx (y := (⟨"com/example/postings/postings/search/PhraseEqualsPinLaw", "ch", "(II)C"⟩ : MethodName)) hown (mvT hZ (hw _ (List.mem_of_getElem? (i := 58) rfl))) (mvT hZ (hw _ (List.mem_of_getElem? (i := 59) rfl))) (mvT hZ (hw _ (List.mem_of_getElem? (i := 2) rfl))) (mvT hZ (hw _ (List.mem_of_getElem? (i := 60) rfl))) (by decide) (backOf (W := 5) (ch_0 l Z a0 hw [] u1  h27 n0 (Nat.le_trans (Nat.le_trans Z0 E26.1) E27.1) ) hZ (hw _ (List.mem_of_getElem? (i := 60) rfl)) (hw _ (List.mem_of_getElem? (i := 2) rfl)) (by decide) (by decide)) (g := (mkF m 31 #[.val (.int n1), .val (.int u1)] [(.int (0 : Int32)), (.int u1), (.int (0 : Int32)), (.ref b27), (.ref b27), (.ref b26), (.ref b26)])) rfl (by rw [hml]; rfl) (argsL := [(.int u1), (.int (0 : Int32))]) (rest := [(.int (0 : Int32)), (.ref b27), (.ref b27), (.ref b26), (.ref b26)]) (lenOf pd_5 rfl) rfl (by show 2 * 0 + _ ≤ _; exact Nat.le_of_eq rfl) (hb hby d1_31) (fun _ _ => ⟨rfl, e27, (by decide : ((0 + 1) + 1) + 0 ≤ _), (by decide : ((0 + 4) + 1) + 0 ≤ _)⟩)
      dsimp only [Pt.U, Pt.locs, Pt.cells, Pt.slots] at X28 l28 y28 z28 st28 hQ28
      subst l28 y28 z28
      obtain ⟨rfl, N28q, e28⟩ := hQ28
      have N28 := Fr.app N0 N28q
      refine own_byW (T' := T28) (g' := (mkF m 34 #[.val (.int n1), .val (.int u1)] [(.int (own_c0 u1)), (.int (0 : Int32)), (.ref b27), (.ref b27), (.ref b26), (.ref b26)])) (fun _ k => st28 _ k) ?_
      obtain ⟨cl29, Ar29, q29, S29, N_29, H29, G29⟩ := id V_b27
      have hin29 : ¬ ((0 : Int32) < 0 ∨ cl29.slots.size ≤ ((0 : Int32)).toNatClampNeg) := inb_of S29 ⟨by decide, by decide⟩
      obtain ⟨T30, h30, X30, e30, W30, st30⟩ := stC X28 hx hZ e28 Ar29 (j := (0 : Int32)) hin29 (g := (mkF m 34 #[.val (.int n1), .val (.int u1)] [(.int (own_c0 u1)), (.int (0 : Int32)), (.ref b27), (.ref b27), (.ref b26), (.ref b26)])) rfl rfl (hb hby d1_34)
      have V30 : Arv Z h30 b27 k27 .char (1 : Int32) [(.int (nar .char (own_c0 u1)))] (.int (0 : Int32)) := Arv.set Ar29 q29 S29 N_29 H29 G29 (fits_nar_char _) W30 0 rfl (Nat.le_of_ble_eq_true rfl)
      have K30 : Keep h0 h30 [] := Keep.wr K27 W30 (Or.inr sz_b27)
      have Sf30_b26 : Safe Z consts_1 s.vm h30 b26 := Safe.wr W30 (Safe.arv (EL := consts_1) (vm := s.vm) hZ.alike V_b27 (by decide)) C27.1 Sf27_b26
      have C30 : CHr Z consts_1 s.vm s.heap s.vm h30 := CHr.trans C27 (CHr.wr W30 (Safe.arv (EL := consts_1) (vm := s.vm) hZ.alike V_b27 (by decide)) C27.1)
      have N30 := Fr.snoc X30 N28 g_b27
      refine own_byW (T' := T30) (g' := (mkF m 35 #[.val (.int n1), .val (.int u1)] [(.ref b27), (.ref b26), (.ref b26)])) (fun _ k => st30 _ k) ?_
      obtain ⟨_, _, ⟨T31, L31, k31, n31⟩, -, X31, ⟨Lc31, hQ31, l31, y31, z31⟩, st31⟩ := X30.specialBack hx (y := (⟨"java/lang/String", "<init>", "([C)V"⟩ : MethodName)) rfl hown (mvT hZ (hw _ (List.mem_of_getElem? (i := 8) rfl))) (mvT hZ (hw _ (List.mem_of_getElem? (i := 9) rfl))) (mvT hZ (hw _ (List.mem_of_getElem? (i := 10) rfl))) (by decide) (backOf (W := 1) (sin1_1 l Z a0 hw [] b26 b27 k27 cs (nar .char (own_c0 u1)) h30 n0 (Nat.le_trans (Nat.le_trans (Nat.le_trans Z0 E26.1) E27.1) (Keep.of_wr W30).1) (Exa.wr W30 (Exa.ext E27 E_b26)) (Fld.other W30 (Fld.ext E27 F_value_b26) (Or.inl (Nat.ne_of_lt (Nat.lt_of_lt_of_le E_b26.lt (Nat.le_of_eq g27.symm))))) (Fld.other W30 (Fld.ext E27 F_coder_b26) (Or.inl (Nat.ne_of_lt (Nat.lt_of_lt_of_le E_b26.lt (Nat.le_of_eq g27.symm))))) g_b26 V30 (Sta.wr W30 (Sta.ext E27 (Sta.ext E26 S_CS))) hcs (own_n255 (own_r0 u1))) hZ (hw _ (List.mem_of_getElem? (i := 10) rfl)) (hw _ (List.mem_of_getElem? (i := 6) rfl)) (by decide) (by decide)) (g := (mkF m 35 #[.val (.int n1), .val (.int u1)] [(.ref b27), (.ref b26), (.ref b26)])) rfl (by rw [hml]; rfl) (Steps.refl _) (a := b26) (argsL := [(.ref b27)]) (rest := [(.ref b26)]) (lenOf pd_4 rfl) rfl (by show 2 * 0 + _ ≤ _; exact Nat.le_of_eq rfl) (hb hby d1_35) (fun _ _ => ⟨rfl, e30, (by decide : (((0 + 1) + 1) + 0) + 1 ≤ _), (by decide : (((0 + 4) + 1) + 0) + 1 ≤ _)⟩)
      dsimp only [Pt.U, Pt.locs, Pt.cells, Pt.slots] at X31 l31 y31 z31 st31 hQ31
      subst l31 y31 z31
      obtain ⟨rfl, N31q, K31, Fc31, t31, kb31, zt31, Fv31, V31⟩ := hQ31
      have N31 := Fr.app N30 N31q
      have KK31 : Keep h0 T31.heap [] := Keep.trans K30 K31 (allS (Or.inr sz_b26) all0)
      have Sf31_b26 : Safe Z consts_1 s.vm T31.heap b26 := Safe.keep K31 (sfS Sf30_b26 sf0) C30.1 Sf30_b26
      have C31 : CHr Z consts_1 s.vm s.heap s.vm T31.heap := CHr.trans C30 (CHr.keep K31 (sfS Sf30_b26 sf0) C30.1)
      have sz_t31 : h0.size ≤ t31 := Nat.le_trans K30.1 zt31
      have g_t31 : n0 ≤ t31 := Nat.le_trans Z0 sz_t31
      refine own_byW (T' := T31) (g' := (mkF m 38 #[.val (.int n1), .val (.int u1)] [(.ref b26)])) (fun _ k => st31.trans k) ?_
      refine own_retW (s := s) X31 hlk hS0 (Nat.le_trans (Nat.le_trans (Nat.le_trans (Nat.le_trans hk0 E26.1) E27.1) (Keep.of_wr W30).1) K31.1) hZ hEL C31 rfl (v := some (.ref b26)) (fun h => by rw [Bd.returns] at h; cases h) (fun fs hr => retOut X31 hx Bd.returns rfl (Or.inr (Or.inr (Or.inr (Or.inr ⟨rfl, rfl, rfl⟩)))) (hb hby d1_38) hr) ?_ (by decide) (by decide)
      exact ⟨_, _, _, rfl, N31, KK31, sz_b26, (Exa.keep (Exa.wr W30 (Exa.ext E27 E_b26)) K31), Fc31, Fv31, own_pack (own_l1 hc1_21 hc17_25) (own_b1 u1 hc1_21 hc17_25) V31⟩
    · skip
      refine own_byW (T' := s₁) (g' := (mkF m 39 #[.val (.int n1), .val (.int u1)] [])) (fun _ k => XS.icmpYes X0.here hx rfl (pc0 := 17) (pc' := 39) rfl (hb hby d1_17) rfl (feq hc17_25).2 (by decide) (by decide) k) ?_
      refine own_byW (T' := s₁) (g' := (mkF m 40 #[.val (.int n1), .val (.int u1)] [(.int n1)])) (fun _ k => XS.iloadN X0.here hx rfl (hb hby d1_39) rfl k) ?_
      refine own_byW (T' := s₁) (g' := (mkF m 41 #[.val (.int n1), .val (.int u1)] [(.int (2 : Int32)), (.int n1)])) (fun _ k => XS.iconst X0.here hx rfl (hb hby d1_40) k) ?_
      by_cases hc41_32 : n1 = (2 : Int32)
      · skip
        refine own_byW (T' := s₁) (g' := (mkF m 44 #[.val (.int n1), .val (.int u1)] [])) (fun _ k => XS.icmpNo X0.here hx rfl (hb hby d1_41) rfl (teq hc41_32).2 k) ?_
        obtain ⟨T33, h33, X33, e33, E33, A33, D33, -, st33⟩ := newO X0 hx hZ hown (hw _ (List.mem_of_getElem? (i := 4) rfl)) (hw _ (List.mem_of_getElem? (i := 5) rfl)) (hw _ (List.mem_of_getElem? (i := 6) rfl)) e0 (g := (mkF m 44 #[.val (.int n1), .val (.int u1)] [])) rfl (hb hby d1_44) (by decide) (by decide)
        obtain ⟨b33, g33⟩ : ∃ z, z = h0.size := ⟨_, rfl⟩
        rw [← g33] at A33 D33 st33
        have E_b33 : Exa Z h33 b33 "java/lang/String" := A33
        have F_value_b33 : Fld Z h33 b33 "java/lang/String" "value" "[B" .null := D33 (Or.inr (hw _ (List.mem_of_getElem? (i := 20) rfl))) (ty := (.array .byte)) (by decide)
        have F_coder_b33 : Fld Z h33 b33 "java/lang/String" "coder" "B" (.int (0 : Int32)) := D33 (Or.inr (hw _ (List.mem_of_getElem? (i := 21) rfl))) (ty := .byte) (by decide)
        have g_b33 : n0 ≤ b33 := Nat.le_trans Z0 (Nat.le_of_eq g33.symm)
        have sz_b33 : h0.size ≤ b33 := Nat.le_trans (Keep.refl h0 []).1 (Nat.le_of_eq g33.symm)
        have K33 : Keep h0 h33 [] := Keep.ext (Keep.refl h0 []) E33
        have Sf33_b33 : Safe Z consts_1 s.vm h33 b33 := Safe.ext E33 C0.1 (Safe.new (Nat.le_of_eq g33.symm))
        have C33 : CHr Z consts_1 s.vm s.heap s.vm h33 := CHr.trans C0 (CHr.ext E33 C0.1)
        refine own_byW (T' := T33) (g' := (mkF m 47 #[.val (.int n1), .val (.int u1)] [(.ref b33)])) (fun _ k => st33 _ k) ?_
        refine own_byW (T' := T33) (g' := (mkF m 48 #[.val (.int n1), .val (.int u1)] [(.ref b33), (.ref b33)])) (fun _ k => XS.dup X33.here hx rfl (hb hby d1_47) rfl rfl k) ?_
        refine own_byW (T' := T33) (g' := (mkF m 49 #[.val (.int n1), .val (.int u1)] [(.int (2 : Int32)), (.ref b33), (.ref b33)])) (fun _ k => XS.iconst X33.here hx rfl (hb hby d1_48) k) ?_
        obtain ⟨T34, h34, k34, X34, e34, E34, A34, st34⟩ := newP X33 hx hZ (hw _ (List.mem_of_getElem? (i := 7) rfl)) e33 (g := (mkF m 49 #[.val (.int n1), .val (.int u1)] [(.int (2 : Int32)), (.ref b33), (.ref b33)])) rfl (hb hby d1_49) rfl (by decide) (cap := 2) (by decide) (by decide) (by decide) (by decide)
        obtain ⟨b34, g34⟩ : ∃ z, z = h33.size := ⟨_, rfl⟩
        rw [← g34] at A34 st34
        have V_b34 : Arv Z h34 b34 k34 .char (2 : Int32) [(.int (0 : Int32)), (.int (0 : Int32))] (.int (0 : Int32)) := (Arv.new A34 (by decide)).pad (pad_rep [] (.int (0 : Int32)) 2)
        have g_b34 : n0 ≤ b34 := Nat.le_trans (Nat.le_trans Z0 E33.1) (Nat.le_of_eq g34.symm)
        have sz_b34 : h0.size ≤ b34 := Nat.le_trans K33.1 (Nat.le_of_eq g34.symm)
        have K34 : Keep h0 h34 [] := Keep.ext K33 E34
        have Sf34_b33 : Safe Z consts_1 s.vm h34 b33 := Safe.ext E34 C33.1 Sf33_b33
        have C34 : CHr Z consts_1 s.vm s.heap s.vm h34 := CHr.trans C33 (CHr.ext E34 C33.1)
        refine own_byW (T' := T34) (g' := (mkF m 51 #[.val (.int n1), .val (.int u1)] [(.ref b34), (.ref b33), (.ref b33)])) (fun _ k => st34 _ k) ?_
        refine own_byW (T' := T34) (g' := (mkF m 52 #[.val (.int n1), .val (.int u1)] [(.ref b34), (.ref b34), (.ref b33), (.ref b33)])) (fun _ k => XS.dup X34.here hx rfl (hb hby d1_51) rfl rfl k) ?_
        refine own_byW (T' := T34) (g' := (mkF m 53 #[.val (.int n1), .val (.int u1)] [(.int (0 : Int32)), (.ref b34), (.ref b34), (.ref b33), (.ref b33)])) (fun _ k => XS.iconst X34.here hx rfl (hb hby d1_52) k) ?_
        refine own_byW (T' := T34) (g' := (mkF m 54 #[.val (.int n1), .val (.int u1)] [(.int u1), (.int (0 : Int32)), (.ref b34), (.ref b34), (.ref b33), (.ref b33)])) (fun _ k => XS.iloadN X34.here hx rfl (hb hby d1_53) rfl k) ?_
        refine own_byW (T' := T34) (g' := (mkF m 55 #[.val (.int n1), .val (.int u1)] [(.int (0 : Int32)), (.int u1), (.int (0 : Int32)), (.ref b34), (.ref b34), (.ref b33), (.ref b33)])) (fun _ k => XS.iconst X34.here hx rfl (hb hby d1_54) k) ?_
        obtain ⟨_, _, ⟨T35, L35, k35, n35⟩, -, X35, ⟨Lc35, hQ35, l35, y35, z35⟩, st35⟩ := Jvm.LawKit.callS X34 hx (y := (⟨"com/example/postings/postings/search/PhraseEqualsPinLaw", "ch", "(II)C"⟩ : MethodName)) hown (mvT hZ (hw _ (List.mem_of_getElem? (i := 58) rfl))) (mvT hZ (hw _ (List.mem_of_getElem? (i := 59) rfl))) (mvT hZ (hw _ (List.mem_of_getElem? (i := 2) rfl))) (mvT hZ (hw _ (List.mem_of_getElem? (i := 60) rfl))) (by decide) (backOf (W := 5) (ch_0 l Z a0 hw [] u1  h34 n0 (Nat.le_trans (Nat.le_trans Z0 E33.1) E34.1) ) hZ (hw _ (List.mem_of_getElem? (i := 60) rfl)) (hw _ (List.mem_of_getElem? (i := 2) rfl)) (by decide) (by decide)) (g := (mkF m 55 #[.val (.int n1), .val (.int u1)] [(.int (0 : Int32)), (.int u1), (.int (0 : Int32)), (.ref b34), (.ref b34), (.ref b33), (.ref b33)])) rfl (by rw [hml]; rfl) (argsL := [(.int u1), (.int (0 : Int32))]) (rest := [(.int (0 : Int32)), (.ref b34), (.ref b34), (.ref b33), (.ref b33)]) (lenOf pd_5 rfl) rfl (by show 2 * 0 + _ ≤ _; exact Nat.le_of_eq rfl) (hb hby d1_55) (fun _ _ => ⟨rfl, e34, (by decide : ((0 + 1) + 1) + 0 ≤ _), (by decide : ((0 + 4) + 2) + 0 ≤ _)⟩)
        dsimp only [Pt.U, Pt.locs, Pt.cells, Pt.slots] at X35 l35 y35 z35 st35 hQ35
        subst l35 y35 z35
        obtain ⟨rfl, N35q, e35⟩ := hQ35
        have N35 := Fr.app N0 N35q
        refine own_byW (T' := T35) (g' := (mkF m 58 #[.val (.int n1), .val (.int u1)] [(.int (own_c0 u1)), (.int (0 : Int32)), (.ref b34), (.ref b34), (.ref b33), (.ref b33)])) (fun _ k => st35 _ k) ?_
        obtain ⟨cl36, Ar36, q36, S36, N_36, H36, G36⟩ := id V_b34
        have hin36 : ¬ ((0 : Int32) < 0 ∨ cl36.slots.size ≤ ((0 : Int32)).toNatClampNeg) := inb_of S36 ⟨by decide, by decide⟩
        obtain ⟨T37, h37, X37, e37, W37, st37⟩ := stC X35 hx hZ e35 Ar36 (j := (0 : Int32)) hin36 (g := (mkF m 58 #[.val (.int n1), .val (.int u1)] [(.int (own_c0 u1)), (.int (0 : Int32)), (.ref b34), (.ref b34), (.ref b33), (.ref b33)])) rfl rfl (hb hby d1_58)
        have V37 : Arv Z h37 b34 k34 .char (2 : Int32) [(.int (nar .char (own_c0 u1))), (.int (0 : Int32))] (.int (0 : Int32)) := Arv.set Ar36 q36 S36 N_36 H36 G36 (fits_nar_char _) W37 0 rfl (Nat.le_of_ble_eq_true rfl)
        have K37 : Keep h0 h37 [] := Keep.wr K34 W37 (Or.inr sz_b34)
        have Sf37_b33 : Safe Z consts_1 s.vm h37 b33 := Safe.wr W37 (Safe.arv (EL := consts_1) (vm := s.vm) hZ.alike V_b34 (by decide)) C34.1 Sf34_b33
        have C37 : CHr Z consts_1 s.vm s.heap s.vm h37 := CHr.trans C34 (CHr.wr W37 (Safe.arv (EL := consts_1) (vm := s.vm) hZ.alike V_b34 (by decide)) C34.1)
        have N37 := Fr.snoc X37 N35 g_b34
        refine own_byW (T' := T37) (g' := (mkF m 59 #[.val (.int n1), .val (.int u1)] [(.ref b34), (.ref b33), (.ref b33)])) (fun _ k => st37 _ k) ?_
        refine own_byW (T' := T37) (g' := (mkF m 60 #[.val (.int n1), .val (.int u1)] [(.ref b34), (.ref b34), (.ref b33), (.ref b33)])) (fun _ k => XS.dup X37.here hx rfl (hb hby d1_59) rfl rfl k) ?_
        refine own_byW (T' := T37) (g' := (mkF m 61 #[.val (.int n1), .val (.int u1)] [(.int (1 : Int32)), (.ref b34), (.ref b34), (.ref b33), (.ref b33)])) (fun _ k => XS.iconst X37.here hx rfl (hb hby d1_60) k) ?_
        refine own_byW (T' := T37) (g' := (mkF m 62 #[.val (.int n1), .val (.int u1)] [(.int u1), (.int (1 : Int32)), (.ref b34), (.ref b34), (.ref b33), (.ref b33)])) (fun _ k => XS.iloadN X37.here hx rfl (hb hby d1_61) rfl k) ?_
        refine own_byW (T' := T37) (g' := (mkF m 63 #[.val (.int n1), .val (.int u1)] [(.int (1 : Int32)), (.int u1), (.int (1 : Int32)), (.ref b34), (.ref b34), (.ref b33), (.ref b33)])) (fun _ k => XS.iconst X37.here hx rfl (hb hby d1_62) k) ?_
        obtain ⟨_, _, ⟨T38, L38, k38, n38⟩, -, X38, ⟨Lc38, hQ38, l38, y38, z38⟩, st38⟩ := Jvm.LawKit.callS X37 hx (y := (⟨"com/example/postings/postings/search/PhraseEqualsPinLaw", "ch", "(II)C"⟩ : MethodName)) hown (mvT hZ (hw _ (List.mem_of_getElem? (i := 58) rfl))) (mvT hZ (hw _ (List.mem_of_getElem? (i := 59) rfl))) (mvT hZ (hw _ (List.mem_of_getElem? (i := 2) rfl))) (mvT hZ (hw _ (List.mem_of_getElem? (i := 60) rfl))) (by decide) (backOf (W := 5) (ch_1 l Z a0 hw [] u1  h37 n0 (Nat.le_trans (Nat.le_trans (Nat.le_trans Z0 E33.1) E34.1) (Keep.of_wr W37).1) ) hZ (hw _ (List.mem_of_getElem? (i := 60) rfl)) (hw _ (List.mem_of_getElem? (i := 2) rfl)) (by decide) (by decide)) (g := (mkF m 63 #[.val (.int n1), .val (.int u1)] [(.int (1 : Int32)), (.int u1), (.int (1 : Int32)), (.ref b34), (.ref b34), (.ref b33), (.ref b33)])) rfl (by rw [hml]; rfl) (argsL := [(.int u1), (.int (1 : Int32))]) (rest := [(.int (1 : Int32)), (.ref b34), (.ref b34), (.ref b33), (.ref b33)]) (lenOf pd_5 rfl) rfl (by show 2 * 0 + _ ≤ _; exact Nat.le_of_eq rfl) (hb hby d1_63) (fun _ _ => ⟨rfl, e37, (by decide : (((0 + 1) + 1) + 0) + 0 ≤ _), (by decide : (((0 + 4) + 2) + 0) + 0 ≤ _)⟩)
        dsimp only [Pt.U, Pt.locs, Pt.cells, Pt.slots] at X38 l38 y38 z38 st38 hQ38
        subst l38 y38 z38
        obtain ⟨rfl, N38q, e38⟩ := hQ38
        have N38 := Fr.app N37 N38q
        refine own_byW (T' := T38) (g' := (mkF m 66 #[.val (.int n1), .val (.int u1)] [(.int (own_c1 u1)), (.int (1 : Int32)), (.ref b34), (.ref b34), (.ref b33), (.ref b33)])) (fun _ k => st38 _ k) ?_
        obtain ⟨cl39, Ar39, q39, S39, N_39, H39, G39⟩ := id V37
        have hin39 : ¬ ((1 : Int32) < 0 ∨ cl39.slots.size ≤ ((1 : Int32)).toNatClampNeg) := inb_of S39 ⟨by decide, by decide⟩
        obtain ⟨T40, h40, X40, e40, W40, st40⟩ := stC X38 hx hZ e38 Ar39 (j := (1 : Int32)) hin39 (g := (mkF m 66 #[.val (.int n1), .val (.int u1)] [(.int (own_c1 u1)), (.int (1 : Int32)), (.ref b34), (.ref b34), (.ref b33), (.ref b33)])) rfl rfl (hb hby d1_66)
        have V40 : Arv Z h40 b34 k34 .char (2 : Int32) [(.int (nar .char (own_c0 u1))), (.int (nar .char (own_c1 u1)))] (.int (0 : Int32)) := Arv.set Ar39 q39 S39 N_39 H39 G39 (fits_nar_char _) W40 1 rfl (Nat.le_of_ble_eq_true rfl)
        have K40 : Keep h0 h40 [] := Keep.wr K37 W40 (Or.inr sz_b34)
        have Sf40_b33 : Safe Z consts_1 s.vm h40 b33 := Safe.wr W40 (Safe.arv (EL := consts_1) (vm := s.vm) hZ.alike V37 (by decide)) C37.1 Sf37_b33
        have C40 : CHr Z consts_1 s.vm s.heap s.vm h40 := CHr.trans C37 (CHr.wr W40 (Safe.arv (EL := consts_1) (vm := s.vm) hZ.alike V37 (by decide)) C37.1)
        have N40 := Fr.snoc X40 N38 g_b34
        refine own_byW (T' := T40) (g' := (mkF m 67 #[.val (.int n1), .val (.int u1)] [(.ref b34), (.ref b33), (.ref b33)])) (fun _ k => st40 _ k) ?_
        obtain ⟨_, _, ⟨T41, L41, k41, n41⟩, -, X41, ⟨Lc41, hQ41, l41, y41, z41⟩, st41⟩ := X40.specialBack hx (y := (⟨"java/lang/String", "<init>", "([C)V"⟩ : MethodName)) rfl hown (mvT hZ (hw _ (List.mem_of_getElem? (i := 8) rfl))) (mvT hZ (hw _ (List.mem_of_getElem? (i := 9) rfl))) (mvT hZ (hw _ (List.mem_of_getElem? (i := 10) rfl))) (by decide) (backOf (W := 1) (sin1_2 l Z a0 hw [] b33 b34 k34 cs (nar .char (own_c0 u1)) (nar .char (own_c1 u1)) h40 n0 (Nat.le_trans (Nat.le_trans (Nat.le_trans (Nat.le_trans Z0 E33.1) E34.1) (Keep.of_wr W37).1) (Keep.of_wr W40).1) (Exa.wr W40 (Exa.wr W37 (Exa.ext E34 E_b33))) (Fld.other W40 (Fld.other W37 (Fld.ext E34 F_value_b33) (Or.inl (Nat.ne_of_lt (Nat.lt_of_lt_of_le E_b33.lt (Nat.le_of_eq g34.symm))))) (Or.inl (Nat.ne_of_lt (Nat.lt_of_lt_of_le E_b33.lt (Nat.le_of_eq g34.symm))))) (Fld.other W40 (Fld.other W37 (Fld.ext E34 F_coder_b33) (Or.inl (Nat.ne_of_lt (Nat.lt_of_lt_of_le E_b33.lt (Nat.le_of_eq g34.symm))))) (Or.inl (Nat.ne_of_lt (Nat.lt_of_lt_of_le E_b33.lt (Nat.le_of_eq g34.symm))))) g_b33 V40 (Sta.wr W40 (Sta.wr W37 (Sta.ext E34 (Sta.ext E33 S_CS)))) hcs (own_n255 (own_r0 u1)) (own_n255 (own_r1 u1))) hZ (hw _ (List.mem_of_getElem? (i := 10) rfl)) (hw _ (List.mem_of_getElem? (i := 6) rfl)) (by decide) (by decide)) (g := (mkF m 67 #[.val (.int n1), .val (.int u1)] [(.ref b34), (.ref b33), (.ref b33)])) rfl (by rw [hml]; rfl) (Steps.refl _) (a := b33) (argsL := [(.ref b34)]) (rest := [(.ref b33)]) (lenOf pd_4 rfl) rfl (by show 2 * 0 + _ ≤ _; exact Nat.le_of_eq rfl) (hb hby d1_67) (fun _ _ => ⟨rfl, e40, (by decide : ((((0 + 1) + 1) + 0) + 0) + 1 ≤ _), (by decide : ((((0 + 4) + 2) + 0) + 0) + 2 ≤ _)⟩)
        dsimp only [Pt.U, Pt.locs, Pt.cells, Pt.slots] at X41 l41 y41 z41 st41 hQ41
        subst l41 y41 z41
        obtain ⟨rfl, N41q, K41, Fc41, t41, kb41, zt41, Fv41, V41⟩ := hQ41
        have N41 := Fr.app N40 N41q
        have KK41 : Keep h0 T41.heap [] := Keep.trans K40 K41 (allS (Or.inr sz_b33) all0)
        have Sf41_b33 : Safe Z consts_1 s.vm T41.heap b33 := Safe.keep K41 (sfS Sf40_b33 sf0) C40.1 Sf40_b33
        have C41 : CHr Z consts_1 s.vm s.heap s.vm T41.heap := CHr.trans C40 (CHr.keep K41 (sfS Sf40_b33 sf0) C40.1)
        have sz_t41 : h0.size ≤ t41 := Nat.le_trans K40.1 zt41
        have g_t41 : n0 ≤ t41 := Nat.le_trans Z0 sz_t41
        refine own_byW (T' := T41) (g' := (mkF m 70 #[.val (.int n1), .val (.int u1)] [(.ref b33)])) (fun _ k => st41.trans k) ?_
        refine own_retW (s := s) X41 hlk hS0 (Nat.le_trans (Nat.le_trans (Nat.le_trans (Nat.le_trans (Nat.le_trans hk0 E33.1) E34.1) (Keep.of_wr W37).1) (Keep.of_wr W40).1) K41.1) hZ hEL C41 rfl (v := some (.ref b33)) (fun h => by rw [Bd.returns] at h; cases h) (fun fs hr => retOut X41 hx Bd.returns rfl (Or.inr (Or.inr (Or.inr (Or.inr ⟨rfl, rfl, rfl⟩)))) (hb hby d1_70) hr) ?_ (by decide) (by decide)
        exact ⟨_, _, _, rfl, N41, KK41, sz_b33, (Exa.keep (Exa.wr W40 (Exa.wr W37 (Exa.ext E34 E_b33))) K41), Fc41, Fv41, own_pack (own_l2 hc1_21 hc17_25 hc41_32) (own_b2 u1 hc1_21 hc17_25 hc41_32) V41⟩
      · skip
        refine own_byW (T' := s₁) (g' := (mkF m 71 #[.val (.int n1), .val (.int u1)] [])) (fun _ k => XS.icmpYes X0.here hx rfl (pc0 := 41) (pc' := 71) rfl (hb hby d1_41) rfl (feq hc41_32).2 (by decide) (by decide) k) ?_
        obtain ⟨T42, h42, X42, e42, E42, A42, D42, -, st42⟩ := newO X0 hx hZ hown (hw _ (List.mem_of_getElem? (i := 4) rfl)) (hw _ (List.mem_of_getElem? (i := 5) rfl)) (hw _ (List.mem_of_getElem? (i := 6) rfl)) e0 (g := (mkF m 71 #[.val (.int n1), .val (.int u1)] [])) rfl (hb hby d1_71) (by decide) (by decide)
        obtain ⟨b42, g42⟩ : ∃ z, z = h0.size := ⟨_, rfl⟩
        rw [← g42] at A42 D42 st42
        have E_b42 : Exa Z h42 b42 "java/lang/String" := A42
        have F_value_b42 : Fld Z h42 b42 "java/lang/String" "value" "[B" .null := D42 (Or.inr (hw _ (List.mem_of_getElem? (i := 20) rfl))) (ty := (.array .byte)) (by decide)
        have F_coder_b42 : Fld Z h42 b42 "java/lang/String" "coder" "B" (.int (0 : Int32)) := D42 (Or.inr (hw _ (List.mem_of_getElem? (i := 21) rfl))) (ty := .byte) (by decide)
        have g_b42 : n0 ≤ b42 := Nat.le_trans Z0 (Nat.le_of_eq g42.symm)
        have sz_b42 : h0.size ≤ b42 := Nat.le_trans (Keep.refl h0 []).1 (Nat.le_of_eq g42.symm)
        have K42 : Keep h0 h42 [] := Keep.ext (Keep.refl h0 []) E42
        have Sf42_b42 : Safe Z consts_1 s.vm h42 b42 := Safe.ext E42 C0.1 (Safe.new (Nat.le_of_eq g42.symm))
        have C42 : CHr Z consts_1 s.vm s.heap s.vm h42 := CHr.trans C0 (CHr.ext E42 C0.1)
        refine own_byW (T' := T42) (g' := (mkF m 74 #[.val (.int n1), .val (.int u1)] [(.ref b42)])) (fun _ k => st42 _ k) ?_
        refine own_byW (T' := T42) (g' := (mkF m 75 #[.val (.int n1), .val (.int u1)] [(.ref b42), (.ref b42)])) (fun _ k => XS.dup X42.here hx rfl (hb hby d1_74) rfl rfl k) ?_
        refine own_byW (T' := T42) (g' := (mkF m 76 #[.val (.int n1), .val (.int u1)] [(.int (3 : Int32)), (.ref b42), (.ref b42)])) (fun _ k => XS.iconst X42.here hx rfl (hb hby d1_75) k) ?_
        obtain ⟨T43, h43, k43, X43, e43, E43, A43, st43⟩ := newP X42 hx hZ (hw _ (List.mem_of_getElem? (i := 7) rfl)) e42 (g := (mkF m 76 #[.val (.int n1), .val (.int u1)] [(.int (3 : Int32)), (.ref b42), (.ref b42)])) rfl (hb hby d1_76) rfl (by decide) (cap := 3) (by decide) (by decide) (by decide) (by decide)
        obtain ⟨b43, g43⟩ : ∃ z, z = h42.size := ⟨_, rfl⟩
        rw [← g43] at A43 st43
        have V_b43 : Arv Z h43 b43 k43 .char (3 : Int32) [(.int (0 : Int32)), (.int (0 : Int32)), (.int (0 : Int32))] (.int (0 : Int32)) := (Arv.new A43 (by decide)).pad (pad_rep [] (.int (0 : Int32)) 3)
        have g_b43 : n0 ≤ b43 := Nat.le_trans (Nat.le_trans Z0 E42.1) (Nat.le_of_eq g43.symm)
        have sz_b43 : h0.size ≤ b43 := Nat.le_trans K42.1 (Nat.le_of_eq g43.symm)
        have K43 : Keep h0 h43 [] := Keep.ext K42 E43
        have Sf43_b42 : Safe Z consts_1 s.vm h43 b42 := Safe.ext E43 C42.1 Sf42_b42
        have C43 : CHr Z consts_1 s.vm s.heap s.vm h43 := CHr.trans C42 (CHr.ext E43 C42.1)
        refine own_byW (T' := T43) (g' := (mkF m 78 #[.val (.int n1), .val (.int u1)] [(.ref b43), (.ref b42), (.ref b42)])) (fun _ k => st43 _ k) ?_
        refine own_byW (T' := T43) (g' := (mkF m 79 #[.val (.int n1), .val (.int u1)] [(.ref b43), (.ref b43), (.ref b42), (.ref b42)])) (fun _ k => XS.dup X43.here hx rfl (hb hby d1_78) rfl rfl k) ?_
        refine own_byW (T' := T43) (g' := (mkF m 80 #[.val (.int n1), .val (.int u1)] [(.int (0 : Int32)), (.ref b43), (.ref b43), (.ref b42), (.ref b42)])) (fun _ k => XS.iconst X43.here hx rfl (hb hby d1_79) k) ?_
        refine own_byW (T' := T43) (g' := (mkF m 81 #[.val (.int n1), .val (.int u1)] [(.int u1), (.int (0 : Int32)), (.ref b43), (.ref b43), (.ref b42), (.ref b42)])) (fun _ k => XS.iloadN X43.here hx rfl (hb hby d1_80) rfl k) ?_
        refine own_byW (T' := T43) (g' := (mkF m 82 #[.val (.int n1), .val (.int u1)] [(.int (0 : Int32)), (.int u1), (.int (0 : Int32)), (.ref b43), (.ref b43), (.ref b42), (.ref b42)])) (fun _ k => XS.iconst X43.here hx rfl (hb hby d1_81) k) ?_
        obtain ⟨_, _, ⟨T44, L44, k44, n44⟩, -, X44, ⟨Lc44, hQ44, l44, y44, z44⟩, st44⟩ := Jvm.LawKit.callS X43 hx (y := (⟨"com/example/postings/postings/search/PhraseEqualsPinLaw", "ch", "(II)C"⟩ : MethodName)) hown (mvT hZ (hw _ (List.mem_of_getElem? (i := 58) rfl))) (mvT hZ (hw _ (List.mem_of_getElem? (i := 59) rfl))) (mvT hZ (hw _ (List.mem_of_getElem? (i := 2) rfl))) (mvT hZ (hw _ (List.mem_of_getElem? (i := 60) rfl))) (by decide) (backOf (W := 5) (ch_0 l Z a0 hw [] u1  h43 n0 (Nat.le_trans (Nat.le_trans Z0 E42.1) E43.1) ) hZ (hw _ (List.mem_of_getElem? (i := 60) rfl)) (hw _ (List.mem_of_getElem? (i := 2) rfl)) (by decide) (by decide)) (g := (mkF m 82 #[.val (.int n1), .val (.int u1)] [(.int (0 : Int32)), (.int u1), (.int (0 : Int32)), (.ref b43), (.ref b43), (.ref b42), (.ref b42)])) rfl (by rw [hml]; rfl) (argsL := [(.int u1), (.int (0 : Int32))]) (rest := [(.int (0 : Int32)), (.ref b43), (.ref b43), (.ref b42), (.ref b42)]) (lenOf pd_5 rfl) rfl (by show 2 * 0 + _ ≤ _; exact Nat.le_of_eq rfl) (hb hby d1_82) (fun _ _ => ⟨rfl, e43, (by decide : ((0 + 1) + 1) + 0 ≤ _), (by decide : ((0 + 4) + 3) + 0 ≤ _)⟩)
        dsimp only [Pt.U, Pt.locs, Pt.cells, Pt.slots] at X44 l44 y44 z44 st44 hQ44
        subst l44 y44 z44
        obtain ⟨rfl, N44q, e44⟩ := hQ44
        have N44 := Fr.app N0 N44q
        refine own_byW (T' := T44) (g' := (mkF m 85 #[.val (.int n1), .val (.int u1)] [(.int (own_c0 u1)), (.int (0 : Int32)), (.ref b43), (.ref b43), (.ref b42), (.ref b42)])) (fun _ k => st44 _ k) ?_
        obtain ⟨cl45, Ar45, q45, S45, N_45, H45, G45⟩ := id V_b43
        have hin45 : ¬ ((0 : Int32) < 0 ∨ cl45.slots.size ≤ ((0 : Int32)).toNatClampNeg) := inb_of S45 ⟨by decide, by decide⟩
        obtain ⟨T46, h46, X46, e46, W46, st46⟩ := stC X44 hx hZ e44 Ar45 (j := (0 : Int32)) hin45 (g := (mkF m 85 #[.val (.int n1), .val (.int u1)] [(.int (own_c0 u1)), (.int (0 : Int32)), (.ref b43), (.ref b43), (.ref b42), (.ref b42)])) rfl rfl (hb hby d1_85)
        have V46 : Arv Z h46 b43 k43 .char (3 : Int32) [(.int (nar .char (own_c0 u1))), (.int (0 : Int32)), (.int (0 : Int32))] (.int (0 : Int32)) := Arv.set Ar45 q45 S45 N_45 H45 G45 (fits_nar_char _) W46 0 rfl (Nat.le_of_ble_eq_true rfl)
        have K46 : Keep h0 h46 [] := Keep.wr K43 W46 (Or.inr sz_b43)
        have Sf46_b42 : Safe Z consts_1 s.vm h46 b42 := Safe.wr W46 (Safe.arv (EL := consts_1) (vm := s.vm) hZ.alike V_b43 (by decide)) C43.1 Sf43_b42
        have C46 : CHr Z consts_1 s.vm s.heap s.vm h46 := CHr.trans C43 (CHr.wr W46 (Safe.arv (EL := consts_1) (vm := s.vm) hZ.alike V_b43 (by decide)) C43.1)
        have N46 := Fr.snoc X46 N44 g_b43
        refine own_byW (T' := T46) (g' := (mkF m 86 #[.val (.int n1), .val (.int u1)] [(.ref b43), (.ref b42), (.ref b42)])) (fun _ k => st46 _ k) ?_
        refine own_byW (T' := T46) (g' := (mkF m 87 #[.val (.int n1), .val (.int u1)] [(.ref b43), (.ref b43), (.ref b42), (.ref b42)])) (fun _ k => XS.dup X46.here hx rfl (hb hby d1_86) rfl rfl k) ?_
        refine own_byW (T' := T46) (g' := (mkF m 88 #[.val (.int n1), .val (.int u1)] [(.int (1 : Int32)), (.ref b43), (.ref b43), (.ref b42), (.ref b42)])) (fun _ k => XS.iconst X46.here hx rfl (hb hby d1_87) k) ?_
        refine own_byW (T' := T46) (g' := (mkF m 89 #[.val (.int n1), .val (.int u1)] [(.int u1), (.int (1 : Int32)), (.ref b43), (.ref b43), (.ref b42), (.ref b42)])) (fun _ k => XS.iloadN X46.here hx rfl (hb hby d1_88) rfl k) ?_
        refine own_byW (T' := T46) (g' := (mkF m 90 #[.val (.int n1), .val (.int u1)] [(.int (1 : Int32)), (.int u1), (.int (1 : Int32)), (.ref b43), (.ref b43), (.ref b42), (.ref b42)])) (fun _ k => XS.iconst X46.here hx rfl (hb hby d1_89) k) ?_
        obtain ⟨_, _, ⟨T47, L47, k47, n47⟩, -, X47, ⟨Lc47, hQ47, l47, y47, z47⟩, st47⟩ := Jvm.LawKit.callS X46 hx (y := (⟨"com/example/postings/postings/search/PhraseEqualsPinLaw", "ch", "(II)C"⟩ : MethodName)) hown (mvT hZ (hw _ (List.mem_of_getElem? (i := 58) rfl))) (mvT hZ (hw _ (List.mem_of_getElem? (i := 59) rfl))) (mvT hZ (hw _ (List.mem_of_getElem? (i := 2) rfl))) (mvT hZ (hw _ (List.mem_of_getElem? (i := 60) rfl))) (by decide) (backOf (W := 5) (ch_1 l Z a0 hw [] u1  h46 n0 (Nat.le_trans (Nat.le_trans (Nat.le_trans Z0 E42.1) E43.1) (Keep.of_wr W46).1) ) hZ (hw _ (List.mem_of_getElem? (i := 60) rfl)) (hw _ (List.mem_of_getElem? (i := 2) rfl)) (by decide) (by decide)) (g := (mkF m 90 #[.val (.int n1), .val (.int u1)] [(.int (1 : Int32)), (.int u1), (.int (1 : Int32)), (.ref b43), (.ref b43), (.ref b42), (.ref b42)])) rfl (by rw [hml]; rfl) (argsL := [(.int u1), (.int (1 : Int32))]) (rest := [(.int (1 : Int32)), (.ref b43), (.ref b43), (.ref b42), (.ref b42)]) (lenOf pd_5 rfl) rfl (by show 2 * 0 + _ ≤ _; exact Nat.le_of_eq rfl) (hb hby d1_90) (fun _ _ => ⟨rfl, e46, (by decide : (((0 + 1) + 1) + 0) + 0 ≤ _), (by decide : (((0 + 4) + 3) + 0) + 0 ≤ _)⟩)
        dsimp only [Pt.U, Pt.locs, Pt.cells, Pt.slots] at X47 l47 y47 z47 st47 hQ47
        subst l47 y47 z47
        obtain ⟨rfl, N47q, e47⟩ := hQ47
        have N47 := Fr.app N46 N47q
        refine own_byW (T' := T47) (g' := (mkF m 93 #[.val (.int n1), .val (.int u1)] [(.int (own_c1 u1)), (.int (1 : Int32)), (.ref b43), (.ref b43), (.ref b42), (.ref b42)])) (fun _ k => st47 _ k) ?_
        obtain ⟨cl48, Ar48, q48, S48, N_48, H48, G48⟩ := id V46
        have hin48 : ¬ ((1 : Int32) < 0 ∨ cl48.slots.size ≤ ((1 : Int32)).toNatClampNeg) := inb_of S48 ⟨by decide, by decide⟩
        obtain ⟨T49, h49, X49, e49, W49, st49⟩ := stC X47 hx hZ e47 Ar48 (j := (1 : Int32)) hin48 (g := (mkF m 93 #[.val (.int n1), .val (.int u1)] [(.int (own_c1 u1)), (.int (1 : Int32)), (.ref b43), (.ref b43), (.ref b42), (.ref b42)])) rfl rfl (hb hby d1_93)
        have V49 : Arv Z h49 b43 k43 .char (3 : Int32) [(.int (nar .char (own_c0 u1))), (.int (nar .char (own_c1 u1))), (.int (0 : Int32))] (.int (0 : Int32)) := Arv.set Ar48 q48 S48 N_48 H48 G48 (fits_nar_char _) W49 1 rfl (Nat.le_of_ble_eq_true rfl)
        have K49 : Keep h0 h49 [] := Keep.wr K46 W49 (Or.inr sz_b43)
        have Sf49_b42 : Safe Z consts_1 s.vm h49 b42 := Safe.wr W49 (Safe.arv (EL := consts_1) (vm := s.vm) hZ.alike V46 (by decide)) C46.1 Sf46_b42
        have C49 : CHr Z consts_1 s.vm s.heap s.vm h49 := CHr.trans C46 (CHr.wr W49 (Safe.arv (EL := consts_1) (vm := s.vm) hZ.alike V46 (by decide)) C46.1)
        have N49 := Fr.snoc X49 N47 g_b43
        refine own_byW (T' := T49) (g' := (mkF m 94 #[.val (.int n1), .val (.int u1)] [(.ref b43), (.ref b42), (.ref b42)])) (fun _ k => st49 _ k) ?_
        refine own_byW (T' := T49) (g' := (mkF m 95 #[.val (.int n1), .val (.int u1)] [(.ref b43), (.ref b43), (.ref b42), (.ref b42)])) (fun _ k => XS.dup X49.here hx rfl (hb hby d1_94) rfl rfl k) ?_
        refine own_byW (T' := T49) (g' := (mkF m 96 #[.val (.int n1), .val (.int u1)] [(.int (2 : Int32)), (.ref b43), (.ref b43), (.ref b42), (.ref b42)])) (fun _ k => XS.iconst X49.here hx rfl (hb hby d1_95) k) ?_
        refine own_byW (T' := T49) (g' := (mkF m 97 #[.val (.int n1), .val (.int u1)] [(.int u1), (.int (2 : Int32)), (.ref b43), (.ref b43), (.ref b42), (.ref b42)])) (fun _ k => XS.iloadN X49.here hx rfl (hb hby d1_96) rfl k) ?_
        refine own_byW (T' := T49) (g' := (mkF m 98 #[.val (.int n1), .val (.int u1)] [(.int (2 : Int32)), (.int u1), (.int (2 : Int32)), (.ref b43), (.ref b43), (.ref b42), (.ref b42)])) (fun _ k => XS.iconst X49.here hx rfl (hb hby d1_97) k) ?_
        obtain ⟨_, _, ⟨T50, L50, k50, n50⟩, -, X50, ⟨Lc50, hQ50, l50, y50, z50⟩, st50⟩ := Jvm.LawKit.callS X49 hx (y := (⟨"com/example/postings/postings/search/PhraseEqualsPinLaw", "ch", "(II)C"⟩ : MethodName)) hown (mvT hZ (hw _ (List.mem_of_getElem? (i := 58) rfl))) (mvT hZ (hw _ (List.mem_of_getElem? (i := 59) rfl))) (mvT hZ (hw _ (List.mem_of_getElem? (i := 2) rfl))) (mvT hZ (hw _ (List.mem_of_getElem? (i := 60) rfl))) (by decide) (backOf (W := 5) (ch_2 l Z a0 hw [] u1  h49 n0 (Nat.le_trans (Nat.le_trans (Nat.le_trans (Nat.le_trans Z0 E42.1) E43.1) (Keep.of_wr W46).1) (Keep.of_wr W49).1) ) hZ (hw _ (List.mem_of_getElem? (i := 60) rfl)) (hw _ (List.mem_of_getElem? (i := 2) rfl)) (by decide) (by decide)) (g := (mkF m 98 #[.val (.int n1), .val (.int u1)] [(.int (2 : Int32)), (.int u1), (.int (2 : Int32)), (.ref b43), (.ref b43), (.ref b42), (.ref b42)])) rfl (by rw [hml]; rfl) (argsL := [(.int u1), (.int (2 : Int32))]) (rest := [(.int (2 : Int32)), (.ref b43), (.ref b43), (.ref b42), (.ref b42)]) (lenOf pd_5 rfl) rfl (by show 2 * 0 + _ ≤ _; exact Nat.le_of_eq rfl) (hb hby d1_98) (fun _ _ => ⟨rfl, e49, (by decide : ((((0 + 1) + 1) + 0) + 0) + 0 ≤ _), (by decide : ((((0 + 4) + 3) + 0) + 0) + 0 ≤ _)⟩)
        dsimp only [Pt.U, Pt.locs, Pt.cells, Pt.slots] at X50 l50 y50 z50 st50 hQ50
        subst l50 y50 z50
        obtain ⟨rfl, N50q, e50⟩ := hQ50
        have N50 := Fr.app N49 N50q
        refine own_byW (T' := T50) (g' := (mkF m 101 #[.val (.int n1), .val (.int u1)] [(.int (own_c2 u1)), (.int (2 : Int32)), (.ref b43), (.ref b43), (.ref b42), (.ref b42)])) (fun _ k => st50 _ k) ?_
        obtain ⟨cl51, Ar51, q51, S51, N_51, H51, G51⟩ := id V49
        have hin51 : ¬ ((2 : Int32) < 0 ∨ cl51.slots.size ≤ ((2 : Int32)).toNatClampNeg) := inb_of S51 ⟨by decide, by decide⟩
        obtain ⟨T52, h52, X52, e52, W52, st52⟩ := stC X50 hx hZ e50 Ar51 (j := (2 : Int32)) hin51 (g := (mkF m 101 #[.val (.int n1), .val (.int u1)] [(.int (own_c2 u1)), (.int (2 : Int32)), (.ref b43), (.ref b43), (.ref b42), (.ref b42)])) rfl rfl (hb hby d1_101)
        have V52 : Arv Z h52 b43 k43 .char (3 : Int32) [(.int (nar .char (own_c0 u1))), (.int (nar .char (own_c1 u1))), (.int (nar .char (own_c2 u1)))] (.int (0 : Int32)) := Arv.set Ar51 q51 S51 N_51 H51 G51 (fits_nar_char _) W52 2 rfl (Nat.le_of_ble_eq_true rfl)
        have K52 : Keep h0 h52 [] := Keep.wr K49 W52 (Or.inr sz_b43)
        have Sf52_b42 : Safe Z consts_1 s.vm h52 b42 := Safe.wr W52 (Safe.arv (EL := consts_1) (vm := s.vm) hZ.alike V49 (by decide)) C49.1 Sf49_b42
        have C52 : CHr Z consts_1 s.vm s.heap s.vm h52 := CHr.trans C49 (CHr.wr W52 (Safe.arv (EL := consts_1) (vm := s.vm) hZ.alike V49 (by decide)) C49.1)
        have N52 := Fr.snoc X52 N50 g_b43
        refine own_byW (T' := T52) (g' := (mkF m 102 #[.val (.int n1), .val (.int u1)] [(.ref b43), (.ref b42), (.ref b42)])) (fun _ k => st52 _ k) ?_
        obtain ⟨_, _, ⟨T53, L53, k53, n53⟩, -, X53, ⟨Lc53, hQ53, l53, y53, z53⟩, st53⟩ := X52.specialBack hx (y := (⟨"java/lang/String", "<init>", "([C)V"⟩ : MethodName)) rfl hown (mvT hZ (hw _ (List.mem_of_getElem? (i := 8) rfl))) (mvT hZ (hw _ (List.mem_of_getElem? (i := 9) rfl))) (mvT hZ (hw _ (List.mem_of_getElem? (i := 10) rfl))) (by decide) (backOf (W := 1) (sin1_3 l Z a0 hw [] b42 b43 k43 cs (nar .char (own_c0 u1)) (nar .char (own_c1 u1)) (nar .char (own_c2 u1)) h52 n0 (Nat.le_trans (Nat.le_trans (Nat.le_trans (Nat.le_trans (Nat.le_trans Z0 E42.1) E43.1) (Keep.of_wr W46).1) (Keep.of_wr W49).1) (Keep.of_wr W52).1) (Exa.wr W52 (Exa.wr W49 (Exa.wr W46 (Exa.ext E43 E_b42)))) (Fld.other W52 (Fld.other W49 (Fld.other W46 (Fld.ext E43 F_value_b42) (Or.inl (Nat.ne_of_lt (Nat.lt_of_lt_of_le E_b42.lt (Nat.le_of_eq g43.symm))))) (Or.inl (Nat.ne_of_lt (Nat.lt_of_lt_of_le E_b42.lt (Nat.le_of_eq g43.symm))))) (Or.inl (Nat.ne_of_lt (Nat.lt_of_lt_of_le E_b42.lt (Nat.le_of_eq g43.symm))))) (Fld.other W52 (Fld.other W49 (Fld.other W46 (Fld.ext E43 F_coder_b42) (Or.inl (Nat.ne_of_lt (Nat.lt_of_lt_of_le E_b42.lt (Nat.le_of_eq g43.symm))))) (Or.inl (Nat.ne_of_lt (Nat.lt_of_lt_of_le E_b42.lt (Nat.le_of_eq g43.symm))))) (Or.inl (Nat.ne_of_lt (Nat.lt_of_lt_of_le E_b42.lt (Nat.le_of_eq g43.symm))))) g_b42 V52 (Sta.wr W52 (Sta.wr W49 (Sta.wr W46 (Sta.ext E43 (Sta.ext E42 S_CS))))) hcs (own_n255 (own_r0 u1)) (own_n255 (own_r1 u1)) (own_n255 (own_r2 u1))) hZ (hw _ (List.mem_of_getElem? (i := 10) rfl)) (hw _ (List.mem_of_getElem? (i := 6) rfl)) (by decide) (by decide)) (g := (mkF m 102 #[.val (.int n1), .val (.int u1)] [(.ref b43), (.ref b42), (.ref b42)])) rfl (by rw [hml]; rfl) (Steps.refl _) (a := b42) (argsL := [(.ref b43)]) (rest := [(.ref b42)]) (lenOf pd_4 rfl) rfl (by show 2 * 0 + _ ≤ _; exact Nat.le_of_eq rfl) (hb hby d1_102) (fun _ _ => ⟨rfl, e52, (by decide : (((((0 + 1) + 1) + 0) + 0) + 0) + 1 ≤ _), (by decide : (((((0 + 4) + 3) + 0) + 0) + 0) + 3 ≤ _)⟩)
        dsimp only [Pt.U, Pt.locs, Pt.cells, Pt.slots] at X53 l53 y53 z53 st53 hQ53
        subst l53 y53 z53
        obtain ⟨rfl, N53q, K53, Fc53, t53, kb53, zt53, Fv53, V53⟩ := hQ53
        have N53 := Fr.app N52 N53q
        have KK53 : Keep h0 T53.heap [] := Keep.trans K52 K53 (allS (Or.inr sz_b42) all0)
        have Sf53_b42 : Safe Z consts_1 s.vm T53.heap b42 := Safe.keep K53 (sfS Sf52_b42 sf0) C52.1 Sf52_b42
        have C53 : CHr Z consts_1 s.vm s.heap s.vm T53.heap := CHr.trans C52 (CHr.keep K53 (sfS Sf52_b42 sf0) C52.1)
        have sz_t53 : h0.size ≤ t53 := Nat.le_trans K52.1 zt53
        have g_t53 : n0 ≤ t53 := Nat.le_trans Z0 sz_t53
        refine own_byW (T' := T53) (g' := (mkF m 105 #[.val (.int n1), .val (.int u1)] [(.ref b42)])) (fun _ k => st53.trans k) ?_
        refine own_retW (s := s) X53 hlk hS0 (Nat.le_trans (Nat.le_trans (Nat.le_trans (Nat.le_trans (Nat.le_trans (Nat.le_trans hk0 E42.1) E43.1) (Keep.of_wr W46).1) (Keep.of_wr W49).1) (Keep.of_wr W52).1) K53.1) hZ hEL C53 rfl (v := some (.ref b42)) (fun h => by rw [Bd.returns] at h; cases h) (fun fs hr => retOut X53 hx Bd.returns rfl (Or.inr (Or.inr (Or.inr (Or.inr ⟨rfl, rfl, rfl⟩)))) (hb hby d1_105) hr) ?_ (by decide) (by decide)
        exact ⟨_, _, _, rfl, N53, KK53, sz_b42, (Exa.keep (Exa.wr W52 (Exa.wr W49 (Exa.wr W46 (Exa.ext E43 E_b42)))) K53), Fc53, Fv53, own_pack (own_l3 hc1_21 hc17_25 hc41_32) (own_b3 u1 hc1_21 hc17_25 hc41_32) V53⟩
theorem d6_0 : decode prog_37_method_1_code 0 = .ok (.aload_n 0, 1) := by decide +kernel
theorem d6_1 : decode prog_37_method_1_code 1 = .ok (.invokespecial 1, 3) := by decide +kernel
theorem d6_4 : decode prog_37_method_1_code 4 = .ok (.return_, 1) := by decide +kernel
theorem pn_6 : plainName "com/example/postings/postings/search/Query" = true := by first | (simp [plainName, overriddenIn]; done) | decide +kernel
theorem ef_qinit (m : MethodId) (a : Addr) : entryFrame m #[(.ref a)] 1 = mkF m 0 #[.val (.ref a)] [] := by first | (simp [entryFrame, mkF, argsToLocals, Value.category]; done) | rfl
def Q_qinit (Z : State) (a : Addr) (h0 : Heap) (n0 : Nat) (v : Option Value) (h : Heap) (L : List Loc) : Prop := v = none ∧ Fr n0 L ∧ h = h0
set_option maxRecDepth 65536 in
set_option maxHeartbeats 40000000 in
theorem qinit (l : Launch) (Z : State) (a0 : Array Value) (hw : ∀ d ∈ tables_1, d.before a0 Z = true) (ws : List Jvm.Cond) (a : Addr) (h0 : Heap) (n0 : Nat) (Z0 : n0 ≤ h0.size) :
    MetFree l (⟨"com/example/postings/postings/search/Query", "<init>", "()V"⟩ : MethodName) (head1 (Jvm.Cond.code (⟨"com/example/postings/postings/search/Query", "<init>", "()V"⟩ : MethodName) prog_37_method_1_code 1 none :: ws) ({ frames := 1, cells := 0, slots := 0, locals := 12 } : Room)) (fun zz UU => zz = #[(.ref a)] ∧ Z.Warmed39 UU.vm ∧ UU.heap = h0) (fun _ _ _ _ _ => True) (fun _ U o U' => ∃ v L, o = .returned v ∧ Q_qinit Z a h0 n0 v U'.heap L ∧ FrameEnd U o U' L ({ frames := 1, cells := 0, slots := 0, locals := 12 } : Room).cells ({ frames := 1, cells := 0, slots := 0, locals := 12 } : Room).slots) := by
  refine MetFree.of_bodySF (plainFor_of_name pn_6) hisR ?_
  intro p e s m args below meth c s₁ Bd hml0 hP hK
  obtain ⟨rfl, hZ, hh⟩ := hP
  have hx := Bd.exec
  have hby := Bd.bytes
  have hml : c.maxLocals = 1 := hml0
  have hown : s.vm.findClass "com/example/postings/postings/search/Query" = some m.cls := findClass_of_methodNamed Bd.named
  have hnm := (name_of_methodNamed Bd.named Bd.method).1
  have hlk : meth.locks = false := BodyLoose.notSynchronized Bd
  have X0 : Stand p l e ({ frames := 1, cells := 0, slots := 0, locals := 12 } : Room) s m #[(.ref a)] below meth c s₁ [] 0 0 := Stand.of_body Bd
  have e0 : s₁.heap = h0 := by rw [← hh, Bd.state]; rfl
  have N0 := Fr.nil n0
  show own_Go p.tables e below (Q_qinit Z a h0 n0) s ({ frames := 1, cells := 0, slots := 0, locals := 12 } : Room).cells ({ frames := 1, cells := 0, slots := 0, locals := 12 } : Room).slots s₁ (entryFrame m #[(.ref a)] 1)
  rw [ef_qinit m a]
  refine own_by (T' := s₁) (g' := (mkF m 1 #[.val (.ref a)] [(.ref a)])) (fun _ k => XS.aloadN X0.here hx rfl (hb hby d6_0) rfl rfl k) ?_
  obtain ⟨T21, X21, e21, st21⟩ := initO X0 hx hZ hown (hw _ (List.mem_of_getElem? (i := 37) rfl)) (hw _ (List.mem_of_getElem? (i := 16) rfl)) (hw _ (List.mem_of_getElem? (i := 17) rfl)) e0 (g := (mkF m 1 #[.val (.ref a)] [(.ref a)])) rfl (by rw [hml]; rfl) rfl (hb hby d6_1) (by decide) (W := 0) (by show 2 * 0 + _ ≤ _; exact Nat.le_of_eq rfl) (by decide)
  refine own_by (T' := T21) (g' := (mkF m 4 #[.val (.ref a)] [])) (fun _ k => st21 _ k) ?_
  refine own_ret X21 hlk (v := none) (fun _ => rfl) (fun fs hr => X21.returnOut hx Bd.returns (hb hby d6_4) hr) ?_ (by decide) (by decide)
  rw [e21]
  exact ⟨rfl, N0, rfl⟩
theorem d5_0 : decode prog_33_method_1_code 0 = .ok (.aload_n 0, 1) := by decide +kernel
theorem d5_1 : decode prog_33_method_1_code 1 = .ok (.invokespecial 1, 3) := by decide +kernel
theorem d5_4 : decode prog_33_method_1_code 4 = .ok (.aload_n 0, 1) := by decide +kernel
theorem d5_5 : decode prog_33_method_1_code 5 = .ok (.aload_n 1, 1) := by decide +kernel
theorem d5_6 : decode prog_33_method_1_code 6 = .ok (.ldc 7, 2) := by decide +kernel
theorem d5_8 : decode prog_33_method_1_code 8 = .ok (.invokestatic 9, 3) := by decide +kernel
theorem d5_11 : decode prog_33_method_1_code 11 = .ok (.checkcast 15, 3) := by decide +kernel
theorem d5_14 : decode prog_33_method_1_code 14 = .ok (.putfield 17, 3) := by decide +kernel
theorem d5_17 : decode prog_33_method_1_code 17 = .ok (.return_, 1) := by decide +kernel
theorem pn_5 : plainName "com/example/postings/postings/search/Phrase" = true := by first | (simp [plainName, overriddenIn]; done) | decide +kernel
theorem ef_rm5 (m : MethodId) (a : Addr) (s1 : Addr) : entryFrame m #[(.ref a), (.ref s1)] 2 = mkF m 0 #[.val (.ref a), .val (.ref s1)] [] := by first | (simp [entryFrame, mkF, argsToLocals, Value.category]; done) | rfl
def V_rm5 (Z : State) (a : Addr) (s1 : Addr) (h0 : Heap) (vm : Vm) : Prop := True
def Q_rm5 (Z : State) (a : Addr) (s1 : Addr) (h0 : Heap) (n0 : Nat) (v : Option Value) (h : Heap) (L : List Loc) : Prop := v = none ∧ Fr n0 L ∧ Keep h0 h [a] ∧ Fld Z h a "com/example/postings/postings/search/Phrase" "text" "Ljava/lang/String;" (.ref s1)
set_option maxRecDepth 65536 in
set_option maxHeartbeats 40000000 in
theorem rm5 (l : Launch) (Z : State) (a0 : Array Value) (hw : ∀ d ∈ tables_1, d.before a0 Z = true) (ws : List Jvm.Cond) (a : Addr) (s1 : Addr) (h0 : Heap) (n0 : Nat) (Z0 : n0 ≤ h0.size) (E_a : Exa Z h0 a "com/example/postings/postings/search/Phrase") (F_text_a : Fld Z h0 a "com/example/postings/postings/search/Phrase" "text" "Ljava/lang/String;" .null) (g_a : n0 ≤ a) (E_s1 : Exa Z h0 s1 "java/lang/String") :
    MetFree l (⟨"com/example/postings/postings/search/Phrase", "<init>", "(Ljava/lang/String;)V"⟩ : MethodName) (head1 (Jvm.Cond.code (⟨"com/example/postings/postings/search/Phrase", "<init>", "(Ljava/lang/String;)V"⟩ : MethodName) prog_33_method_1_code 2 none :: ws) ({ frames := 2, cells := 2, slots := 20, locals := 24 } : Room)) (fun zz UU => zz = #[(.ref a), (.ref s1)] ∧ Z.Warmed39 UU.vm ∧ UU.heap = h0 ∧ CHv Z consts_1 UU.vm h0 ∧ V_rm5 Z a s1 h0 UU.vm) (fun _ _ _ _ _ => True) (fun _ U o U' => ∃ v L, o = .returned v ∧ Q_rm5 Z a s1 h0 n0 v U'.heap L ∧ CHr Z consts_1 U.vm U.heap U'.vm U'.heap ∧ ReturnedEndW U o U' L ({ frames := 2, cells := 2, slots := 20, locals := 24 } : Room).cells ({ frames := 2, cells := 2, slots := 20, locals := 24 } : Room).slots) := by
  refine MetFree.of_bodySF (plainFor_of_name pn_5) hisR ?_
  intro p e s m args below meth c s₁ Bd hml0 hP hK
  obtain ⟨rfl, hZ, hh, hH, hV⟩ := hP
  have hx := Bd.exec
  have hby := Bd.bytes
  have hml : c.maxLocals = 2 := hml0
  have hown : s.vm.findClass "com/example/postings/postings/search/Phrase" = some m.cls := findClass_of_methodNamed Bd.named
  have hnm := (name_of_methodNamed Bd.named Bd.method).1
  have hlk : meth.locks = false := BodyLoose.notSynchronized Bd
  have X0 : Stand p l e ({ frames := 2, cells := 2, slots := 20, locals := 24 } : Room) (s.setVm s.vm) m #[(.ref a), (.ref s1)] below meth c s₁ [] 0 0 := Stand.of_body Bd
  have e0 : s₁.heap = h0 := by rw [← hh, Bd.state]; rfl
  have N0 := Fr.nil n0
  show own_GoW p.tables e below Z consts_1 (Q_rm5 Z a s1 h0 n0) s ({ frames := 2, cells := 2, slots := 20, locals := 24 } : Room).cells ({ frames := 2, cells := 2, slots := 20, locals := 24 } : Room).slots s₁ (entryFrame m #[(.ref a), (.ref s1)] 2)
  rw [ef_rm5 m a s1]
  have hS0 : s.Since s.vm s.heap.size := (State.WarmedH.refl s).since _
  have hk0 : s.heap.size ≤ h0.size := Nat.le_of_eq (congrArg Array.size hh)
  have C0 : CHr Z consts_1 s.vm s.heap s.vm h0 := by rw [hh]; exact CHr.refl hH
  have hEL : EW Z a0 consts_1 := own_EL hw
  have hwS : ∀ d ∈ Bundle.stringAtoms, d.before a0 Z = true := fun d hd => hw d (own_SA d hd)
  refine own_byW (T' := s₁) (g' := (mkF m 1 #[.val (.ref a), .val (.ref s1)] [(.ref a)])) (fun _ k => XS.aloadN X0.here hx rfl (hb hby d5_0) rfl rfl k) ?_
  obtain ⟨_, _, ⟨T21, L21, k21, n21⟩, -, X21, ⟨Lc21, hQ21, l21, y21, z21⟩, st21⟩ := X0.specialBack hx (y := (⟨"com/example/postings/postings/search/Query", "<init>", "()V"⟩ : MethodName)) rfl hown (mvT hZ (hw _ (List.mem_of_getElem? (i := 32) rfl))) (mvT hZ (hw _ (List.mem_of_getElem? (i := 33) rfl))) (mvT hZ (hw _ (List.mem_of_getElem? (i := 36) rfl))) (by decide) (backOf (W := 0) (qinit l Z a0 hw [] a  h0 n0 Z0 ) hZ (hw _ (List.mem_of_getElem? (i := 36) rfl)) (hw _ (List.mem_of_getElem? (i := 35) rfl)) (by decide) (by decide)) (g := (mkF m 1 #[.val (.ref a), .val (.ref s1)] [(.ref a)])) rfl (by rw [hml]; rfl) (Steps.refl _) (a := a) (argsL := []) (rest := []) (lenOf pd_6 rfl) rfl (by show 2 * 0 + _ ≤ _; exact Nat.le_of_eq rfl) (hb hby d5_1) (fun _ _ => ⟨rfl, e0, (by decide : 0 + 0 ≤ _), (by decide : 0 + 0 ≤ _)⟩)
  dsimp only [Pt.U, Pt.locs, Pt.cells, Pt.slots] at X21 l21 y21 z21 st21 hQ21
  subst l21 y21 z21
  obtain ⟨rfl, N21q, e21⟩ := hQ21
  have N21 := Fr.app N0 N21q
  refine own_byW (T' := T21) (g' := (mkF m 4 #[.val (.ref a), .val (.ref s1)] [])) (fun _ k => st21.trans k) ?_
  refine own_byW (T' := T21) (g' := (mkF m 5 #[.val (.ref a), .val (.ref s1)] [(.ref a)])) (fun _ k => XS.aloadN X21.here hx rfl (hb hby d5_4) rfl rfl k) ?_
  refine own_byW (T' := T21) (g' := (mkF m 6 #[.val (.ref a), .val (.ref s1)] [(.ref s1), (.ref a)])) (fun _ k => XS.aloadN X21.here hx rfl (hb hby d5_5) rfl rfl k) ?_
  obtain ⟨a22, T22, h22, k22, b22, kb22, X22, e22, E22, hS22, hk22, hZ22, hown22, Ex22, Fc22, Fv22, V22, la22, lb22, Cq22, Lt22, D22, st22⟩ := ldcCH (s := s) (EL := consts_1) X21 hx hZ hown (hw _ (List.mem_of_getElem? (i := 38) rfl)) hwS e21 hS0 hk0 hEL (List.mem_of_getElem? (i := 0) rfl) C0.1 (vs := [(.int (116 : Int32)), (.int (101 : Int32)), (.int (120 : Int32)), (.int (116 : Int32))]) (z := (4 : Int32)) ⟨by decide, by decide⟩ (by decide) (by decide) (g := (mkF m 6 #[.val (.ref a), .val (.ref s1)] [(.ref s1), (.ref a)])) rfl (hb hby d5_6) (n := 16) (by decide) (by decide) (by decide) (by decide)
  have C22 : CHr Z consts_1 s.vm s.heap T22.vm h22 := CHr.trans C0 Cq22
  have K22 : Keep h0 h22 [a] := Keep.ext (Keep.refl h0 [a]) E22
  refine own_byW (T' := T22) (g' := (mkF m 8 #[.val (.ref a), .val (.ref s1)] [(.ref a22), (.ref s1), (.ref a)])) (fun _ k => st22 _ k) ?_
  obtain ⟨_, _, ⟨T23, L23, k23, n23⟩, -, X23, ⟨Lc23, hQ23, l23, y23, z23⟩, st23⟩ := Jvm.LawKit.callS X22 hx (y := (⟨"java/util/Objects", "requireNonNull", "(Ljava/lang/Object;Ljava/lang/String;)Ljava/lang/Object;"⟩ : MethodName)) hown22 (mvT hZ22 (hw _ (List.mem_of_getElem? (i := 39) rfl))) (mvT hZ22 (hw _ (List.mem_of_getElem? (i := 40) rfl))) (mvT hZ22 (hw _ (List.mem_of_getElem? (i := 41) rfl))) (mvT hZ22 (hw _ (List.mem_of_getElem? (i := 42) rfl))) (by decide) (backOf (W := 1) (reqnn l Z a0 hw [] s1 a22  h22 n0 (Nat.le_trans Z0 E22.1) ) hZ22 (hw _ (List.mem_of_getElem? (i := 42) rfl)) (hw _ (List.mem_of_getElem? (i := 41) rfl)) (by decide) (by decide)) (g := (mkF m 8 #[.val (.ref a), .val (.ref s1)] [(.ref a22), (.ref s1), (.ref a)])) rfl (by rw [hml]; rfl) (argsL := [(.ref s1), (.ref a22)]) (rest := [(.ref a)]) (lenOf pd_7 rfl) rfl (by show 2 * 0 + _ ≤ _; exact Nat.le_of_eq rfl) (hb hby d5_8) (fun _ _ => ⟨rfl, e22, (by decide : ((0 + 0) + 2) + 0 ≤ _), (by decide : ((0 + 0) + (16 + 4)) + 0 ≤ _)⟩)
  dsimp only [Pt.U, Pt.locs, Pt.cells, Pt.slots] at X23 l23 y23 z23 st23 hQ23
  subst l23 y23 z23
  obtain ⟨rfl, N23q, e23⟩ := hQ23
  have N23 := Fr.app N21 N23q
  refine own_byW (T' := T23) (g' := (mkF m 11 #[.val (.ref a), .val (.ref s1)] [(.ref s1), (.ref a)])) (fun _ k => st23 _ k) ?_
  obtain ⟨T24, X24, e24, st24⟩ := castY X23 hx hZ22 hown22 (hw _ (List.mem_of_getElem? (i := 43) rfl)) e23 (Ins.self (Exa.ext E22 E_s1)) (g := (mkF m 11 #[.val (.ref a), .val (.ref s1)] [(.ref s1), (.ref a)])) rfl rfl (hb hby d5_11)
  refine own_byW (T' := T24) (g' := (mkF m 14 #[.val (.ref a), .val (.ref s1)] [(.ref s1), (.ref a)])) (fun _ k => st24 _ k) ?_
  obtain ⟨T25, h25, X25, e25, W25, st25⟩ := putF X24 hx hZ22 hown22 (host := "") (Or.inl (hw _ (List.mem_of_getElem? (i := 44) rfl))) Via.refl e24 (Fld.ext E22 F_text_a) (Exa.ext E22 E_a) (Or.inr ⟨(hw _ (List.mem_of_getElem? (i := 45) rfl)), rfl, hnm⟩) (hw _ (List.mem_of_getElem? (i := 27) rfl)) (ty := (.object "java/lang/String")) (by decide) rfl rfl (g := (mkF m 14 #[.val (.ref a), .val (.ref s1)] [(.ref s1), (.ref a)])) rfl rfl (hb hby d5_14)
  have Fw25 : Fld Z h25 a "com/example/postings/postings/search/Phrase" "text" "Ljava/lang/String;" (.ref s1) := Fld.same W25 (Fld.ext E22 F_text_a)
  have K25 : Keep h0 h25 [a] := Keep.wr K22 W25 (Or.inl (List.mem_of_getElem? (i := 0) rfl))
  have C25 : CHr Z consts_1 s.vm s.heap T22.vm h25 := CHr.trans C22 (CHr.wr W25 (Safe.exa (EL := consts_1) (vm := T22.vm) hZ22.alike (Exa.ext E22 E_a) (by decide) (by decide)) C22.1)
  have N25 := Fr.snoc X25 N23 g_a
  refine own_byW (T' := T25) (g' := (mkF m 17 #[.val (.ref a), .val (.ref s1)] [])) (fun _ k => st25 _ k) ?_
  refine own_retW (s := s) X25 hlk hS22 (by rw [e25]; exact (Nat.le_trans hk22 (Keep.of_wr W25).1)) hZ22 hEL C25 e25 (v := none) (fun _ => rfl) (fun fs hr => X25.returnOut hx Bd.returns (hb hby d5_17) hr) ?_ (by decide) (by decide)
  rw [e25]
  exact ⟨rfl, N25, K25, Fw25⟩
theorem d14_0 : decode prog_44_method_1_code 0 = .ok (.aload_n 0, 1) := by decide +kernel
theorem d14_1 : decode prog_44_method_1_code 1 = .ok (.invokespecial 1, 3) := by decide +kernel
theorem d14_4 : decode prog_44_method_1_code 4 = .ok (.aload_n 0, 1) := by decide +kernel
theorem d14_5 : decode prog_44_method_1_code 5 = .ok (.aload_n 1, 1) := by decide +kernel
theorem d14_6 : decode prog_44_method_1_code 6 = .ok (.ldc 7, 2) := by decide +kernel
theorem d14_8 : decode prog_44_method_1_code 8 = .ok (.invokestatic 9, 3) := by decide +kernel
theorem d14_11 : decode prog_44_method_1_code 11 = .ok (.checkcast 15, 3) := by decide +kernel
theorem d14_14 : decode prog_44_method_1_code 14 = .ok (.putfield 17, 3) := by decide +kernel
theorem d14_17 : decode prog_44_method_1_code 17 = .ok (.return_, 1) := by decide +kernel
theorem pn_14 : plainName "com/example/postings/postings/search/Words" = true := by first | (simp [plainName, overriddenIn]; done) | decide +kernel
theorem ef_rm14 (m : MethodId) (a : Addr) (s1 : Addr) : entryFrame m #[(.ref a), (.ref s1)] 2 = mkF m 0 #[.val (.ref a), .val (.ref s1)] [] := by first | (simp [entryFrame, mkF, argsToLocals, Value.category]; done) | rfl
def V_rm14 (Z : State) (a : Addr) (s1 : Addr) (h0 : Heap) (vm : Vm) : Prop := True
def Q_rm14 (Z : State) (a : Addr) (s1 : Addr) (h0 : Heap) (n0 : Nat) (v : Option Value) (h : Heap) (L : List Loc) : Prop := v = none ∧ Fr n0 L ∧ Keep h0 h [a] ∧ Fld Z h a "com/example/postings/postings/search/Words" "text" "Ljava/lang/String;" (.ref s1)
set_option maxRecDepth 65536 in
set_option maxHeartbeats 40000000 in
theorem rm14 (l : Launch) (Z : State) (a0 : Array Value) (hw : ∀ d ∈ tables_1, d.before a0 Z = true) (ws : List Jvm.Cond) (a : Addr) (s1 : Addr) (h0 : Heap) (n0 : Nat) (Z0 : n0 ≤ h0.size) (E_a : Exa Z h0 a "com/example/postings/postings/search/Words") (F_text_a : Fld Z h0 a "com/example/postings/postings/search/Words" "text" "Ljava/lang/String;" .null) (g_a : n0 ≤ a) (E_s1 : Exa Z h0 s1 "java/lang/String") :
    MetFree l (⟨"com/example/postings/postings/search/Words", "<init>", "(Ljava/lang/String;)V"⟩ : MethodName) (head1 (Jvm.Cond.code (⟨"com/example/postings/postings/search/Words", "<init>", "(Ljava/lang/String;)V"⟩ : MethodName) prog_44_method_1_code 2 none :: ws) ({ frames := 2, cells := 2, slots := 20, locals := 24 } : Room)) (fun zz UU => zz = #[(.ref a), (.ref s1)] ∧ Z.Warmed39 UU.vm ∧ UU.heap = h0 ∧ CHv Z consts_1 UU.vm h0 ∧ V_rm14 Z a s1 h0 UU.vm) (fun _ _ _ _ _ => True) (fun _ U o U' => ∃ v L, o = .returned v ∧ Q_rm14 Z a s1 h0 n0 v U'.heap L ∧ CHr Z consts_1 U.vm U.heap U'.vm U'.heap ∧ ReturnedEndW U o U' L ({ frames := 2, cells := 2, slots := 20, locals := 24 } : Room).cells ({ frames := 2, cells := 2, slots := 20, locals := 24 } : Room).slots) := by
  refine MetFree.of_bodySF (plainFor_of_name pn_14) hisR ?_
  intro p e s m args below meth c s₁ Bd hml0 hP hK
  obtain ⟨rfl, hZ, hh, hH, hV⟩ := hP
  have hx := Bd.exec
  have hby := Bd.bytes
  have hml : c.maxLocals = 2 := hml0
  have hown : s.vm.findClass "com/example/postings/postings/search/Words" = some m.cls := findClass_of_methodNamed Bd.named
  have hnm := (name_of_methodNamed Bd.named Bd.method).1
  have hlk : meth.locks = false := BodyLoose.notSynchronized Bd
  have X0 : Stand p l e ({ frames := 2, cells := 2, slots := 20, locals := 24 } : Room) (s.setVm s.vm) m #[(.ref a), (.ref s1)] below meth c s₁ [] 0 0 := Stand.of_body Bd
  have e0 : s₁.heap = h0 := by rw [← hh, Bd.state]; rfl
  have N0 := Fr.nil n0
  show own_GoW p.tables e below Z consts_1 (Q_rm14 Z a s1 h0 n0) s ({ frames := 2, cells := 2, slots := 20, locals := 24 } : Room).cells ({ frames := 2, cells := 2, slots := 20, locals := 24 } : Room).slots s₁ (entryFrame m #[(.ref a), (.ref s1)] 2)
  rw [ef_rm14 m a s1]
  have hS0 : s.Since s.vm s.heap.size := (State.WarmedH.refl s).since _
  have hk0 : s.heap.size ≤ h0.size := Nat.le_of_eq (congrArg Array.size hh)
  have C0 : CHr Z consts_1 s.vm s.heap s.vm h0 := by rw [hh]; exact CHr.refl hH
  have hEL : EW Z a0 consts_1 := own_EL hw
  have hwS : ∀ d ∈ Bundle.stringAtoms, d.before a0 Z = true := fun d hd => hw d (own_SA d hd)
  refine own_byW (T' := s₁) (g' := (mkF m 1 #[.val (.ref a), .val (.ref s1)] [(.ref a)])) (fun _ k => XS.aloadN X0.here hx rfl (hb hby d14_0) rfl rfl k) ?_
  obtain ⟨_, _, ⟨T21, L21, k21, n21⟩, -, X21, ⟨Lc21, hQ21, l21, y21, z21⟩, st21⟩ := X0.specialBack hx (y := (⟨"com/example/postings/postings/search/Query", "<init>", "()V"⟩ : MethodName)) rfl hown (mvT hZ (hw _ (List.mem_of_getElem? (i := 78) rfl))) (mvT hZ (hw _ (List.mem_of_getElem? (i := 33) rfl))) (mvT hZ (hw _ (List.mem_of_getElem? (i := 36) rfl))) (by decide) (backOf (W := 0) (qinit l Z a0 hw [] a  h0 n0 Z0 ) hZ (hw _ (List.mem_of_getElem? (i := 36) rfl)) (hw _ (List.mem_of_getElem? (i := 35) rfl)) (by decide) (by decide)) (g := (mkF m 1 #[.val (.ref a), .val (.ref s1)] [(.ref a)])) rfl (by rw [hml]; rfl) (Steps.refl _) (a := a) (argsL := []) (rest := []) (lenOf pd_6 rfl) rfl (by show 2 * 0 + _ ≤ _; exact Nat.le_of_eq rfl) (hb hby d14_1) (fun _ _ => ⟨rfl, e0, (by decide : 0 + 0 ≤ _), (by decide : 0 + 0 ≤ _)⟩)
  dsimp only [Pt.U, Pt.locs, Pt.cells, Pt.slots] at X21 l21 y21 z21 st21 hQ21
  subst l21 y21 z21
  obtain ⟨rfl, N21q, e21⟩ := hQ21
  have N21 := Fr.app N0 N21q
  refine own_byW (T' := T21) (g' := (mkF m 4 #[.val (.ref a), .val (.ref s1)] [])) (fun _ k => st21.trans k) ?_
  refine own_byW (T' := T21) (g' := (mkF m 5 #[.val (.ref a), .val (.ref s1)] [(.ref a)])) (fun _ k => XS.aloadN X21.here hx rfl (hb hby d14_4) rfl rfl k) ?_
  refine own_byW (T' := T21) (g' := (mkF m 6 #[.val (.ref a), .val (.ref s1)] [(.ref s1), (.ref a)])) (fun _ k => XS.aloadN X21.here hx rfl (hb hby d14_5) rfl rfl k) ?_
  obtain ⟨a22, T22, h22, k22, b22, kb22, X22, e22, E22, hS22, hk22, hZ22, hown22, Ex22, Fc22, Fv22, V22, la22, lb22, Cq22, Lt22, D22, st22⟩ := ldcCH (s := s) (EL := consts_1) X21 hx hZ hown (hw _ (List.mem_of_getElem? (i := 79) rfl)) hwS e21 hS0 hk0 hEL (List.mem_of_getElem? (i := 1) rfl) C0.1 (vs := [(.int (116 : Int32)), (.int (101 : Int32)), (.int (120 : Int32)), (.int (116 : Int32))]) (z := (4 : Int32)) ⟨by decide, by decide⟩ (by decide) (by decide) (g := (mkF m 6 #[.val (.ref a), .val (.ref s1)] [(.ref s1), (.ref a)])) rfl (hb hby d14_6) (n := 16) (by decide) (by decide) (by decide) (by decide)
  have C22 : CHr Z consts_1 s.vm s.heap T22.vm h22 := CHr.trans C0 Cq22
  have K22 : Keep h0 h22 [a] := Keep.ext (Keep.refl h0 [a]) E22
  refine own_byW (T' := T22) (g' := (mkF m 8 #[.val (.ref a), .val (.ref s1)] [(.ref a22), (.ref s1), (.ref a)])) (fun _ k => st22 _ k) ?_
  obtain ⟨_, _, ⟨T23, L23, k23, n23⟩, -, X23, ⟨Lc23, hQ23, l23, y23, z23⟩, st23⟩ := Jvm.LawKit.callS X22 hx (y := (⟨"java/util/Objects", "requireNonNull", "(Ljava/lang/Object;Ljava/lang/String;)Ljava/lang/Object;"⟩ : MethodName)) hown22 (mvT hZ22 (hw _ (List.mem_of_getElem? (i := 80) rfl))) (mvT hZ22 (hw _ (List.mem_of_getElem? (i := 40) rfl))) (mvT hZ22 (hw _ (List.mem_of_getElem? (i := 41) rfl))) (mvT hZ22 (hw _ (List.mem_of_getElem? (i := 42) rfl))) (by decide) (backOf (W := 1) (reqnn l Z a0 hw [] s1 a22  h22 n0 (Nat.le_trans Z0 E22.1) ) hZ22 (hw _ (List.mem_of_getElem? (i := 42) rfl)) (hw _ (List.mem_of_getElem? (i := 41) rfl)) (by decide) (by decide)) (g := (mkF m 8 #[.val (.ref a), .val (.ref s1)] [(.ref a22), (.ref s1), (.ref a)])) rfl (by rw [hml]; rfl) (argsL := [(.ref s1), (.ref a22)]) (rest := [(.ref a)]) (lenOf pd_7 rfl) rfl (by show 2 * 0 + _ ≤ _; exact Nat.le_of_eq rfl) (hb hby d14_8) (fun _ _ => ⟨rfl, e22, (by decide : ((0 + 0) + 2) + 0 ≤ _), (by decide : ((0 + 0) + (16 + 4)) + 0 ≤ _)⟩)
  dsimp only [Pt.U, Pt.locs, Pt.cells, Pt.slots] at X23 l23 y23 z23 st23 hQ23
  subst l23 y23 z23
  obtain ⟨rfl, N23q, e23⟩ := hQ23
  have N23 := Fr.app N21 N23q
  refine own_byW (T' := T23) (g' := (mkF m 11 #[.val (.ref a), .val (.ref s1)] [(.ref s1), (.ref a)])) (fun _ k => st23 _ k) ?_
  obtain ⟨T24, X24, e24, st24⟩ := castY X23 hx hZ22 hown22 (hw _ (List.mem_of_getElem? (i := 81) rfl)) e23 (Ins.self (Exa.ext E22 E_s1)) (g := (mkF m 11 #[.val (.ref a), .val (.ref s1)] [(.ref s1), (.ref a)])) rfl rfl (hb hby d14_11)
  refine own_byW (T' := T24) (g' := (mkF m 14 #[.val (.ref a), .val (.ref s1)] [(.ref s1), (.ref a)])) (fun _ k => st24 _ k) ?_
  obtain ⟨T25, h25, X25, e25, W25, st25⟩ := putF X24 hx hZ22 hown22 (host := "") (Or.inl (hw _ (List.mem_of_getElem? (i := 82) rfl))) Via.refl e24 (Fld.ext E22 F_text_a) (Exa.ext E22 E_a) (Or.inr ⟨(hw _ (List.mem_of_getElem? (i := 83) rfl)), rfl, hnm⟩) (hw _ (List.mem_of_getElem? (i := 73) rfl)) (ty := (.object "java/lang/String")) (by decide) rfl rfl (g := (mkF m 14 #[.val (.ref a), .val (.ref s1)] [(.ref s1), (.ref a)])) rfl rfl (hb hby d14_14)
  have Fw25 : Fld Z h25 a "com/example/postings/postings/search/Words" "text" "Ljava/lang/String;" (.ref s1) := Fld.same W25 (Fld.ext E22 F_text_a)
  have K25 : Keep h0 h25 [a] := Keep.wr K22 W25 (Or.inl (List.mem_of_getElem? (i := 0) rfl))
  have C25 : CHr Z consts_1 s.vm s.heap T22.vm h25 := CHr.trans C22 (CHr.wr W25 (Safe.exa (EL := consts_1) (vm := T22.vm) hZ22.alike (Exa.ext E22 E_a) (by decide) (by decide)) C22.1)
  have N25 := Fr.snoc X25 N23 g_a
  refine own_byW (T' := T25) (g' := (mkF m 17 #[.val (.ref a), .val (.ref s1)] [])) (fun _ k => st25 _ k) ?_
  refine own_retW (s := s) X25 hlk hS22 (by rw [e25]; exact (Nat.le_trans hk22 (Keep.of_wr W25).1)) hZ22 hEL C25 e25 (v := none) (fun _ => rfl) (fun fs hr => X25.returnOut hx Bd.returns (hb hby d14_17) hr) ?_ (by decide) (by decide)
  rw [e25]
  exact ⟨rfl, N25, K25, Fw25⟩
theorem d15_0 : decode jdk_43_method_13_code 0 = .ok (.aload_n 0, 1) := by decide +kernel
theorem d15_1 : decode jdk_43_method_13_code 1 = .ok (.arraylength, 1) := by decide +kernel
theorem d15_2 : decode jdk_43_method_13_code 2 = .ok (.aload_n 1, 1) := by decide +kernel
theorem d15_3 : decode jdk_43_method_13_code 3 = .ok (.arraylength, 1) := by decide +kernel
theorem d15_4 : decode jdk_43_method_13_code 4 = .ok (.if_icmp .ne 30, 3) := by decide +kernel
theorem d15_7 : decode jdk_43_method_13_code 7 = .ok (.iconst 0, 1) := by decide +kernel
theorem d15_8 : decode jdk_43_method_13_code 8 = .ok (.istore_n 2, 1) := by decide +kernel
theorem d15_9 : decode jdk_43_method_13_code 9 = .ok (.iload_n 2, 1) := by decide +kernel
theorem d15_10 : decode jdk_43_method_13_code 10 = .ok (.aload_n 0, 1) := by decide +kernel
theorem d15_11 : decode jdk_43_method_13_code 11 = .ok (.arraylength, 1) := by decide +kernel
theorem d15_12 : decode jdk_43_method_13_code 12 = .ok (.if_icmp .ge 20, 3) := by decide +kernel
theorem d15_15 : decode jdk_43_method_13_code 15 = .ok (.aload_n 0, 1) := by decide +kernel
theorem d15_16 : decode jdk_43_method_13_code 16 = .ok (.iload_n 2, 1) := by decide +kernel
theorem d15_17 : decode jdk_43_method_13_code 17 = .ok (.baload, 1) := by decide +kernel
theorem d15_18 : decode jdk_43_method_13_code 18 = .ok (.aload_n 1, 1) := by decide +kernel
theorem d15_19 : decode jdk_43_method_13_code 19 = .ok (.iload_n 2, 1) := by decide +kernel
theorem d15_20 : decode jdk_43_method_13_code 20 = .ok (.baload, 1) := by decide +kernel
theorem d15_21 : decode jdk_43_method_13_code 21 = .ok (.if_icmp .eq 5, 3) := by decide +kernel
theorem d15_24 : decode jdk_43_method_13_code 24 = .ok (.iconst 0, 1) := by decide +kernel
theorem d15_25 : decode jdk_43_method_13_code 25 = .ok (.ireturn, 1) := by decide +kernel
theorem d15_26 : decode jdk_43_method_13_code 26 = .ok (.iinc 2 1, 3) := by decide +kernel
theorem d15_29 : decode jdk_43_method_13_code 29 = .ok (.goto (-20), 3) := by decide +kernel
theorem d15_32 : decode jdk_43_method_13_code 32 = .ok (.iconst 1, 1) := by decide +kernel
theorem d15_33 : decode jdk_43_method_13_code 33 = .ok (.ireturn, 1) := by decide +kernel
theorem d15_34 : decode jdk_43_method_13_code 34 = .ok (.iconst 0, 1) := by decide +kernel
theorem d15_35 : decode jdk_43_method_13_code 35 = .ok (.ireturn, 1) := by decide +kernel
theorem pn_15 : plainName "java/lang/StringLatin1" = true := by first | (simp [plainName, overriddenIn]; done) | decide +kernel
theorem ef_leq (m : MethodId) (t1 : Addr) (t2 : Addr) : entryFrame m #[(.ref t1), (.ref t2)] 3 = mkF m 0 #[.val (.ref t1), .val (.ref t2), .unset] [] := by first | (simp [entryFrame, mkF, argsToLocals, Value.category]; done) | rfl
def Q_leq (Z : State) (t1 : Addr) (t2 : Addr) (k1 : ClassId) (k2 : ClassId) (n1 : Int32) (u1 : Int32) (n2 : Int32) (u2 : Int32) (h0 : Heap) (n0 : Nat) (v : Option Value) (h : Heap) (L : List Loc) : Prop := v = some (.int (own_eq n1 u1 n2 u2)) ∧ Fr n0 L ∧ h = h0
set_option maxRecDepth 65536 in
set_option maxHeartbeats 40000000 in
theorem leq (l : Launch) (Z : State) (a0 : Array Value) (hw : ∀ d ∈ tables_1, d.before a0 Z = true) (ws : List Jvm.Cond) (t1 : Addr) (t2 : Addr) (k1 : ClassId) (k2 : ClassId) (n1 : Int32) (u1 : Int32) (n2 : Int32) (u2 : Int32) (h0 : Heap) (n0 : Nat) (Z0 : n0 ≤ h0.size) (V_t1 : Arv Z h0 t1 k1 .byte (own_ln n1) (own_bs n1 u1) (.int (0 : Int32))) (V_t2 : Arv Z h0 t2 k2 .byte (own_ln n2) (own_bs n2 u2) (.int (0 : Int32))) :
    MetFree l (⟨"java/lang/StringLatin1", "equals", "([B[B)Z"⟩ : MethodName) (head1 (Jvm.Cond.code (⟨"java/lang/StringLatin1", "equals", "([B[B)Z"⟩ : MethodName) jdk_43_method_13_code 3 (some .boolean) :: ws) ({ frames := 0, cells := 0, slots := 0, locals := 0 } : Room)) (fun zz UU => zz = #[(.ref t1), (.ref t2)] ∧ Z.Warmed39 UU.vm ∧ UU.heap = h0) (fun _ _ _ _ _ => True) (fun _ U o U' => ∃ v L, o = .returned v ∧ Q_leq Z t1 t2 k1 k2 n1 u1 n2 u2 h0 n0 v U'.heap L ∧ FrameEnd U o U' L ({ frames := 0, cells := 0, slots := 0, locals := 0 } : Room).cells ({ frames := 0, cells := 0, slots := 0, locals := 0 } : Room).slots) := by
  refine MetFree.of_bodySF (plainFor_of_name pn_15) hisR ?_
  intro p e s m args below meth c s₁ Bd hml0 hP hK
  obtain ⟨rfl, hZ, hh⟩ := hP
  have hx := Bd.exec
  have hby := Bd.bytes
  have hml : c.maxLocals = 3 := hml0
  have hown : s.vm.findClass "java/lang/StringLatin1" = some m.cls := findClass_of_methodNamed Bd.named
  have hnm := (name_of_methodNamed Bd.named Bd.method).1
  have hlk : meth.locks = false := BodyLoose.notSynchronized Bd
  have X0 : Stand p l e ({ frames := 0, cells := 0, slots := 0, locals := 0 } : Room) s m #[(.ref t1), (.ref t2)] below meth c s₁ [] 0 0 := Stand.of_body Bd
  have e0 : s₁.heap = h0 := by rw [← hh, Bd.state]; rfl
  have N0 := Fr.nil n0
  show own_Go p.tables e below (Q_leq Z t1 t2 k1 k2 n1 u1 n2 u2 h0 n0) s ({ frames := 0, cells := 0, slots := 0, locals := 0 } : Room).cells ({ frames := 0, cells := 0, slots := 0, locals := 0 } : Room).slots s₁ (entryFrame m #[(.ref t1), (.ref t2)] 3)
  rw [ef_leq m t1 t2]
  rcases own_all n1 u1 with ⟨e1, e2⟩ | ⟨e1, e2⟩ | ⟨e1, e2⟩ | ⟨e1, e2⟩
  · skip
    have W1 := own_open e1 e2 V_t1
    rcases own_all n2 u2 with ⟨f1, f2⟩ | ⟨f1, f2⟩ | ⟨f1, f2⟩ | ⟨f1, f2⟩
    · skip
      have W2 := own_open f1 f2 V_t2
      refine own_by (T' := s₁) (g' := (mkF m 1 #[.val (.ref t1), .val (.ref t2), .unset] [(.ref t1)])) (fun _ k => XS.aloadN X0.here hx rfl (hb hby d15_0) rfl rfl k) ?_
      obtain ⟨cl21, Ar21, q21, S21, N_21, H21, G21⟩ := id W1
      refine own_by (T' := s₁) (g' := (mkF m 2 #[.val (.ref t1), .val (.ref t2), .unset] [(.int (0 : Int32))])) (fun _ k => X0.arraylength hx (by rw [e0]; exact Ar21.1) (State.isArrayOf_alike hZ.alike Ar21.2.1) (g := (mkF m 1 #[.val (.ref t1), .val (.ref t2), .unset] [(.ref t1)])) rfl rfl (hb hby d15_1) _ (by rw [len_of S21 N_21]; exact k)) ?_
      refine own_by (T' := s₁) (g' := (mkF m 3 #[.val (.ref t1), .val (.ref t2), .unset] [(.ref t2), (.int (0 : Int32))])) (fun _ k => XS.aloadN X0.here hx rfl (hb hby d15_2) rfl rfl k) ?_
      obtain ⟨cl22, Ar22, q22, S22, N_22, H22, G22⟩ := id W2
      refine own_by (T' := s₁) (g' := (mkF m 4 #[.val (.ref t1), .val (.ref t2), .unset] [(.int (0 : Int32)), (.int (0 : Int32))])) (fun _ k => X0.arraylength hx (by rw [e0]; exact Ar22.1) (State.isArrayOf_alike hZ.alike Ar22.2.1) (g := (mkF m 3 #[.val (.ref t1), .val (.ref t2), .unset] [(.ref t2), (.int (0 : Int32))])) rfl rfl (hb hby d15_3) _ (by rw [len_of S22 N_22]; exact k)) ?_
      refine own_by (T' := s₁) (g' := (mkF m 7 #[.val (.ref t1), .val (.ref t2), .unset] [])) (fun _ k => XS.icmpNo X0.here hx rfl (hb hby d15_4) rfl (teq (by decide)).2 k) ?_
      refine own_by (T' := s₁) (g' := (mkF m 8 #[.val (.ref t1), .val (.ref t2), .unset] [(.int (0 : Int32))])) (fun _ k => XS.iconst X0.here hx rfl (hb hby d15_7) k) ?_
      refine own_by (T' := s₁) (g' := (mkF m 9 #[.val (.ref t1), .val (.ref t2), .val (.int (0 : Int32))] [])) (fun _ k => XS.istoreN X0.here hx rfl (hb hby d15_8) rfl (l' := #[.val (.ref t1), .val (.ref t2), .val (.int (0 : Int32))]) rfl k) ?_
      refine own_by (T' := s₁) (g' := (mkF m 10 #[.val (.ref t1), .val (.ref t2), .val (.int (0 : Int32))] [(.int (0 : Int32))])) (fun _ k => XS.iloadN X0.here hx rfl (hb hby d15_9) rfl k) ?_
      refine own_by (T' := s₁) (g' := (mkF m 11 #[.val (.ref t1), .val (.ref t2), .val (.int (0 : Int32))] [(.ref t1), (.int (0 : Int32))])) (fun _ k => XS.aloadN X0.here hx rfl (hb hby d15_10) rfl rfl k) ?_
      obtain ⟨cl23, Ar23, q23, S23, N_23, H23, G23⟩ := id W1
      refine own_by (T' := s₁) (g' := (mkF m 12 #[.val (.ref t1), .val (.ref t2), .val (.int (0 : Int32))] [(.int (0 : Int32)), (.int (0 : Int32))])) (fun _ k => X0.arraylength hx (by rw [e0]; exact Ar23.1) (State.isArrayOf_alike hZ.alike Ar23.2.1) (g := (mkF m 11 #[.val (.ref t1), .val (.ref t2), .val (.int (0 : Int32))] [(.ref t1), (.int (0 : Int32))])) rfl rfl (hb hby d15_11) _ (by rw [len_of S23 N_23]; exact k)) ?_
      refine own_by (T' := s₁) (g' := (mkF m 32 #[.val (.ref t1), .val (.ref t2), .val (.int (0 : Int32))] [])) (fun _ k => XS.icmpYes X0.here hx rfl (pc0 := 12) (pc' := 32) rfl (hb hby d15_12) rfl (flt (by decide)).2.1 (by decide) (by decide) k) ?_
      refine own_by (T' := s₁) (g' := (mkF m 33 #[.val (.ref t1), .val (.ref t2), .val (.int (0 : Int32))] [(.int (1 : Int32))])) (fun _ k => XS.iconst X0.here hx rfl (hb hby d15_32) k) ?_
      refine own_ret X0 hlk (v := some (.int (1 : Int32))) (fun h => by rw [Bd.returns] at h; cases h) (fun fs hr => retN X0 hx (t := .boolean) Bd.returns (by simp) (hb hby d15_33) hr) ?_ (by decide) (by decide)
      rw [e0]
      exact ⟨congrArg (fun z => some (Value.int z)) ((if_pos ⟨e1.trans f1.symm, e2.trans (own_k0.trans f2.symm)⟩).symm), N0, rfl⟩
    · skip
      have W2 := own_open f1 f2 V_t2
      refine own_by (T' := s₁) (g' := (mkF m 1 #[.val (.ref t1), .val (.ref t2), .unset] [(.ref t1)])) (fun _ k => XS.aloadN X0.here hx rfl (hb hby d15_0) rfl rfl k) ?_
      obtain ⟨cl24, Ar24, q24, S24, N_24, H24, G24⟩ := id W1
      refine own_by (T' := s₁) (g' := (mkF m 2 #[.val (.ref t1), .val (.ref t2), .unset] [(.int (0 : Int32))])) (fun _ k => X0.arraylength hx (by rw [e0]; exact Ar24.1) (State.isArrayOf_alike hZ.alike Ar24.2.1) (g := (mkF m 1 #[.val (.ref t1), .val (.ref t2), .unset] [(.ref t1)])) rfl rfl (hb hby d15_1) _ (by rw [len_of S24 N_24]; exact k)) ?_
      refine own_by (T' := s₁) (g' := (mkF m 3 #[.val (.ref t1), .val (.ref t2), .unset] [(.ref t2), (.int (0 : Int32))])) (fun _ k => XS.aloadN X0.here hx rfl (hb hby d15_2) rfl rfl k) ?_
      obtain ⟨cl25, Ar25, q25, S25, N_25, H25, G25⟩ := id W2
      refine own_by (T' := s₁) (g' := (mkF m 4 #[.val (.ref t1), .val (.ref t2), .unset] [(.int (1 : Int32)), (.int (0 : Int32))])) (fun _ k => X0.arraylength hx (by rw [e0]; exact Ar25.1) (State.isArrayOf_alike hZ.alike Ar25.2.1) (g := (mkF m 3 #[.val (.ref t1), .val (.ref t2), .unset] [(.ref t2), (.int (0 : Int32))])) rfl rfl (hb hby d15_3) _ (by rw [len_of S25 N_25]; exact k)) ?_
      refine own_by (T' := s₁) (g' := (mkF m 34 #[.val (.ref t1), .val (.ref t2), .unset] [])) (fun _ k => XS.icmpYes X0.here hx rfl (pc0 := 4) (pc' := 34) rfl (hb hby d15_4) rfl (feq (by decide)).2 (by decide) (by decide) k) ?_
      refine own_by (T' := s₁) (g' := (mkF m 35 #[.val (.ref t1), .val (.ref t2), .unset] [(.int (0 : Int32))])) (fun _ k => XS.iconst X0.here hx rfl (hb hby d15_34) k) ?_
      refine own_ret X0 hlk (v := some (.int (0 : Int32))) (fun h => by rw [Bd.returns] at h; cases h) (fun fs hr => retN X0 hx (t := .boolean) Bd.returns (by simp) (hb hby d15_35) hr) ?_ (by decide) (by decide)
      rw [e0]
      exact ⟨congrArg (fun z => some (Value.int z)) ((if_neg fun q => absurd (e1.symm.trans (q.1.trans f1)) (by decide)).symm), N0, rfl⟩
    · skip
      have W2 := own_open f1 f2 V_t2
      refine own_by (T' := s₁) (g' := (mkF m 1 #[.val (.ref t1), .val (.ref t2), .unset] [(.ref t1)])) (fun _ k => XS.aloadN X0.here hx rfl (hb hby d15_0) rfl rfl k) ?_
      obtain ⟨cl26, Ar26, q26, S26, N_26, H26, G26⟩ := id W1
      refine own_by (T' := s₁) (g' := (mkF m 2 #[.val (.ref t1), .val (.ref t2), .unset] [(.int (0 : Int32))])) (fun _ k => X0.arraylength hx (by rw [e0]; exact Ar26.1) (State.isArrayOf_alike hZ.alike Ar26.2.1) (g := (mkF m 1 #[.val (.ref t1), .val (.ref t2), .unset] [(.ref t1)])) rfl rfl (hb hby d15_1) _ (by rw [len_of S26 N_26]; exact k)) ?_
      refine own_by (T' := s₁) (g' := (mkF m 3 #[.val (.ref t1), .val (.ref t2), .unset] [(.ref t2), (.int (0 : Int32))])) (fun _ k => XS.aloadN X0.here hx rfl (hb hby d15_2) rfl rfl k) ?_
      obtain ⟨cl27, Ar27, q27, S27, N_27, H27, G27⟩ := id W2
      refine own_by (T' := s₁) (g' := (mkF m 4 #[.val (.ref t1), .val (.ref t2), .unset] [(.int (2 : Int32)), (.int (0 : Int32))])) (fun _ k => X0.arraylength hx (by rw [e0]; exact Ar27.1) (State.isArrayOf_alike hZ.alike Ar27.2.1) (g := (mkF m 3 #[.val (.ref t1), .val (.ref t2), .unset] [(.ref t2), (.int (0 : Int32))])) rfl rfl (hb hby d15_3) _ (by rw [len_of S27 N_27]; exact k)) ?_
      refine own_by (T' := s₁) (g' := (mkF m 34 #[.val (.ref t1), .val (.ref t2), .unset] [])) (fun _ k => XS.icmpYes X0.here hx rfl (pc0 := 4) (pc' := 34) rfl (hb hby d15_4) rfl (feq (by decide)).2 (by decide) (by decide) k) ?_
      refine own_by (T' := s₁) (g' := (mkF m 35 #[.val (.ref t1), .val (.ref t2), .unset] [(.int (0 : Int32))])) (fun _ k => XS.iconst X0.here hx rfl (hb hby d15_34) k) ?_
      refine own_ret X0 hlk (v := some (.int (0 : Int32))) (fun h => by rw [Bd.returns] at h; cases h) (fun fs hr => retN X0 hx (t := .boolean) Bd.returns (by simp) (hb hby d15_35) hr) ?_ (by decide) (by decide)
      rw [e0]
      exact ⟨congrArg (fun z => some (Value.int z)) ((if_neg fun q => absurd (e1.symm.trans (q.1.trans f1)) (by decide)).symm), N0, rfl⟩
    · skip
      have W2 := own_open f1 f2 V_t2
      refine own_by (T' := s₁) (g' := (mkF m 1 #[.val (.ref t1), .val (.ref t2), .unset] [(.ref t1)])) (fun _ k => XS.aloadN X0.here hx rfl (hb hby d15_0) rfl rfl k) ?_
      obtain ⟨cl28, Ar28, q28, S28, N_28, H28, G28⟩ := id W1
      refine own_by (T' := s₁) (g' := (mkF m 2 #[.val (.ref t1), .val (.ref t2), .unset] [(.int (0 : Int32))])) (fun _ k => X0.arraylength hx (by rw [e0]; exact Ar28.1) (State.isArrayOf_alike hZ.alike Ar28.2.1) (g := (mkF m 1 #[.val (.ref t1), .val (.ref t2), .unset] [(.ref t1)])) rfl rfl (hb hby d15_1) _ (by rw [len_of S28 N_28]; exact k)) ?_
      refine own_by (T' := s₁) (g' := (mkF m 3 #[.val (.ref t1), .val (.ref t2), .unset] [(.ref t2), (.int (0 : Int32))])) (fun _ k => XS.aloadN X0.here hx rfl (hb hby d15_2) rfl rfl k) ?_
      obtain ⟨cl29, Ar29, q29, S29, N_29, H29, G29⟩ := id W2
      refine own_by (T' := s₁) (g' := (mkF m 4 #[.val (.ref t1), .val (.ref t2), .unset] [(.int (3 : Int32)), (.int (0 : Int32))])) (fun _ k => X0.arraylength hx (by rw [e0]; exact Ar29.1) (State.isArrayOf_alike hZ.alike Ar29.2.1) (g := (mkF m 3 #[.val (.ref t1), .val (.ref t2), .unset] [(.ref t2), (.int (0 : Int32))])) rfl rfl (hb hby d15_3) _ (by rw [len_of S29 N_29]; exact k)) ?_
      refine own_by (T' := s₁) (g' := (mkF m 34 #[.val (.ref t1), .val (.ref t2), .unset] [])) (fun _ k => XS.icmpYes X0.here hx rfl (pc0 := 4) (pc' := 34) rfl (hb hby d15_4) rfl (feq (by decide)).2 (by decide) (by decide) k) ?_
      refine own_by (T' := s₁) (g' := (mkF m 35 #[.val (.ref t1), .val (.ref t2), .unset] [(.int (0 : Int32))])) (fun _ k => XS.iconst X0.here hx rfl (hb hby d15_34) k) ?_
      refine own_ret X0 hlk (v := some (.int (0 : Int32))) (fun h => by rw [Bd.returns] at h; cases h) (fun fs hr => retN X0 hx (t := .boolean) Bd.returns (by simp) (hb hby d15_35) hr) ?_ (by decide) (by decide)
      rw [e0]
      exact ⟨congrArg (fun z => some (Value.int z)) ((if_neg fun q => absurd (e1.symm.trans (q.1.trans f1)) (by decide)).symm), N0, rfl⟩
  · skip
    have W1 := own_open e1 e2 V_t1
    rcases own_all n2 u2 with ⟨f1, f2⟩ | ⟨f1, f2⟩ | ⟨f1, f2⟩ | ⟨f1, f2⟩
    · skip
      have W2 := own_open f1 f2 V_t2
      refine own_by (T' := s₁) (g' := (mkF m 1 #[.val (.ref t1), .val (.ref t2), .unset] [(.ref t1)])) (fun _ k => XS.aloadN X0.here hx rfl (hb hby d15_0) rfl rfl k) ?_
      obtain ⟨cl30, Ar30, q30, S30, N_30, H30, G30⟩ := id W1
      refine own_by (T' := s₁) (g' := (mkF m 2 #[.val (.ref t1), .val (.ref t2), .unset] [(.int (1 : Int32))])) (fun _ k => X0.arraylength hx (by rw [e0]; exact Ar30.1) (State.isArrayOf_alike hZ.alike Ar30.2.1) (g := (mkF m 1 #[.val (.ref t1), .val (.ref t2), .unset] [(.ref t1)])) rfl rfl (hb hby d15_1) _ (by rw [len_of S30 N_30]; exact k)) ?_
      refine own_by (T' := s₁) (g' := (mkF m 3 #[.val (.ref t1), .val (.ref t2), .unset] [(.ref t2), (.int (1 : Int32))])) (fun _ k => XS.aloadN X0.here hx rfl (hb hby d15_2) rfl rfl k) ?_
      obtain ⟨cl31, Ar31, q31, S31, N_31, H31, G31⟩ := id W2
      refine own_by (T' := s₁) (g' := (mkF m 4 #[.val (.ref t1), .val (.ref t2), .unset] [(.int (0 : Int32)), (.int (1 : Int32))])) (fun _ k => X0.arraylength hx (by rw [e0]; exact Ar31.1) (State.isArrayOf_alike hZ.alike Ar31.2.1) (g := (mkF m 3 #[.val (.ref t1), .val (.ref t2), .unset] [(.ref t2), (.int (1 : Int32))])) rfl rfl (hb hby d15_3) _ (by rw [len_of S31 N_31]; exact k)) ?_
      refine own_by (T' := s₁) (g' := (mkF m 34 #[.val (.ref t1), .val (.ref t2), .unset] [])) (fun _ k => XS.icmpYes X0.here hx rfl (pc0 := 4) (pc' := 34) rfl (hb hby d15_4) rfl (feq (by decide)).2 (by decide) (by decide) k) ?_
      refine own_by (T' := s₁) (g' := (mkF m 35 #[.val (.ref t1), .val (.ref t2), .unset] [(.int (0 : Int32))])) (fun _ k => XS.iconst X0.here hx rfl (hb hby d15_34) k) ?_
      refine own_ret X0 hlk (v := some (.int (0 : Int32))) (fun h => by rw [Bd.returns] at h; cases h) (fun fs hr => retN X0 hx (t := .boolean) Bd.returns (by simp) (hb hby d15_35) hr) ?_ (by decide) (by decide)
      rw [e0]
      exact ⟨congrArg (fun z => some (Value.int z)) ((if_neg fun q => absurd (e1.symm.trans (q.1.trans f1)) (by decide)).symm), N0, rfl⟩
    · skip
      have W2 := own_open f1 f2 V_t2
      refine own_by (T' := s₁) (g' := (mkF m 1 #[.val (.ref t1), .val (.ref t2), .unset] [(.ref t1)])) (fun _ k => XS.aloadN X0.here hx rfl (hb hby d15_0) rfl rfl k) ?_
      obtain ⟨cl32, Ar32, q32, S32, N_32, H32, G32⟩ := id W1
      refine own_by (T' := s₁) (g' := (mkF m 2 #[.val (.ref t1), .val (.ref t2), .unset] [(.int (1 : Int32))])) (fun _ k => X0.arraylength hx (by rw [e0]; exact Ar32.1) (State.isArrayOf_alike hZ.alike Ar32.2.1) (g := (mkF m 1 #[.val (.ref t1), .val (.ref t2), .unset] [(.ref t1)])) rfl rfl (hb hby d15_1) _ (by rw [len_of S32 N_32]; exact k)) ?_
      refine own_by (T' := s₁) (g' := (mkF m 3 #[.val (.ref t1), .val (.ref t2), .unset] [(.ref t2), (.int (1 : Int32))])) (fun _ k => XS.aloadN X0.here hx rfl (hb hby d15_2) rfl rfl k) ?_
      obtain ⟨cl33, Ar33, q33, S33, N_33, H33, G33⟩ := id W2
      refine own_by (T' := s₁) (g' := (mkF m 4 #[.val (.ref t1), .val (.ref t2), .unset] [(.int (1 : Int32)), (.int (1 : Int32))])) (fun _ k => X0.arraylength hx (by rw [e0]; exact Ar33.1) (State.isArrayOf_alike hZ.alike Ar33.2.1) (g := (mkF m 3 #[.val (.ref t1), .val (.ref t2), .unset] [(.ref t2), (.int (1 : Int32))])) rfl rfl (hb hby d15_3) _ (by rw [len_of S33 N_33]; exact k)) ?_
      refine own_by (T' := s₁) (g' := (mkF m 7 #[.val (.ref t1), .val (.ref t2), .unset] [])) (fun _ k => XS.icmpNo X0.here hx rfl (hb hby d15_4) rfl (teq (by decide)).2 k) ?_
      refine own_by (T' := s₁) (g' := (mkF m 8 #[.val (.ref t1), .val (.ref t2), .unset] [(.int (0 : Int32))])) (fun _ k => XS.iconst X0.here hx rfl (hb hby d15_7) k) ?_
      refine own_by (T' := s₁) (g' := (mkF m 9 #[.val (.ref t1), .val (.ref t2), .val (.int (0 : Int32))] [])) (fun _ k => XS.istoreN X0.here hx rfl (hb hby d15_8) rfl (l' := #[.val (.ref t1), .val (.ref t2), .val (.int (0 : Int32))]) rfl k) ?_
      refine own_by (T' := s₁) (g' := (mkF m 10 #[.val (.ref t1), .val (.ref t2), .val (.int (0 : Int32))] [(.int (0 : Int32))])) (fun _ k => XS.iloadN X0.here hx rfl (hb hby d15_9) rfl k) ?_
      refine own_by (T' := s₁) (g' := (mkF m 11 #[.val (.ref t1), .val (.ref t2), .val (.int (0 : Int32))] [(.ref t1), (.int (0 : Int32))])) (fun _ k => XS.aloadN X0.here hx rfl (hb hby d15_10) rfl rfl k) ?_
      obtain ⟨cl34, Ar34, q34, S34, N_34, H34, G34⟩ := id W1
      refine own_by (T' := s₁) (g' := (mkF m 12 #[.val (.ref t1), .val (.ref t2), .val (.int (0 : Int32))] [(.int (1 : Int32)), (.int (0 : Int32))])) (fun _ k => X0.arraylength hx (by rw [e0]; exact Ar34.1) (State.isArrayOf_alike hZ.alike Ar34.2.1) (g := (mkF m 11 #[.val (.ref t1), .val (.ref t2), .val (.int (0 : Int32))] [(.ref t1), (.int (0 : Int32))])) rfl rfl (hb hby d15_11) _ (by rw [len_of S34 N_34]; exact k)) ?_
      refine own_by (T' := s₁) (g' := (mkF m 15 #[.val (.ref t1), .val (.ref t2), .val (.int (0 : Int32))] [])) (fun _ k => XS.icmpNo X0.here hx rfl (hb hby d15_12) rfl (tlt (by decide)).2.1 k) ?_
      refine own_by (T' := s₁) (g' := (mkF m 16 #[.val (.ref t1), .val (.ref t2), .val (.int (0 : Int32))] [(.ref t1)])) (fun _ k => XS.aloadN X0.here hx rfl (hb hby d15_15) rfl rfl k) ?_
      refine own_by (T' := s₁) (g' := (mkF m 17 #[.val (.ref t1), .val (.ref t2), .val (.int (0 : Int32))] [(.int (0 : Int32)), (.ref t1)])) (fun _ k => XS.iloadN X0.here hx rfl (hb hby d15_16) rfl k) ?_
      obtain ⟨cl35, Ar35, q35, S35, N_35, H35, G35⟩ := id W1
      have hin35 : ¬ ((0 : Int32) < 0 ∨ cl35.slots.size ≤ ((0 : Int32)).toNatClampNeg) := inb_of S35 ⟨by decide, by decide⟩
      refine own_by (T' := s₁) (g' := (mkF m 18 #[.val (.ref t1), .val (.ref t2), .val (.int (0 : Int32))] [(.int (nar .byte ((nar .char (own_c0 u1)).toInt8.toInt32)))])) (fun _ k => X0.baloadBytes hx (j := (0 : Int32)) (v := (.int (nar .byte ((nar .char (own_c0 u1)).toInt8.toInt32)))) (by rw [e0]; exact Ar35.1) (State.isArrayOf_alike hZ.alike Ar35.2.1) Ar35.2.2 hin35 (Has.at H35 hin35 rfl) (g := (mkF m 17 #[.val (.ref t1), .val (.ref t2), .val (.int (0 : Int32))] [(.int (0 : Int32)), (.ref t1)])) rfl rfl (hb hby d15_17) _ k) ?_
      refine own_by (T' := s₁) (g' := (mkF m 19 #[.val (.ref t1), .val (.ref t2), .val (.int (0 : Int32))] [(.ref t2), (.int (nar .byte ((nar .char (own_c0 u1)).toInt8.toInt32)))])) (fun _ k => XS.aloadN X0.here hx rfl (hb hby d15_18) rfl rfl k) ?_
      refine own_by (T' := s₁) (g' := (mkF m 20 #[.val (.ref t1), .val (.ref t2), .val (.int (0 : Int32))] [(.int (0 : Int32)), (.ref t2), (.int (nar .byte ((nar .char (own_c0 u1)).toInt8.toInt32)))])) (fun _ k => XS.iloadN X0.here hx rfl (hb hby d15_19) rfl k) ?_
      obtain ⟨cl36, Ar36, q36, S36, N_36, H36, G36⟩ := id W2
      have hin36 : ¬ ((0 : Int32) < 0 ∨ cl36.slots.size ≤ ((0 : Int32)).toNatClampNeg) := inb_of S36 ⟨by decide, by decide⟩
      refine own_by (T' := s₁) (g' := (mkF m 21 #[.val (.ref t1), .val (.ref t2), .val (.int (0 : Int32))] [(.int (nar .byte ((nar .char (own_c0 u2)).toInt8.toInt32))), (.int (nar .byte ((nar .char (own_c0 u1)).toInt8.toInt32)))])) (fun _ k => X0.baloadBytes hx (j := (0 : Int32)) (v := (.int (nar .byte ((nar .char (own_c0 u2)).toInt8.toInt32)))) (by rw [e0]; exact Ar36.1) (State.isArrayOf_alike hZ.alike Ar36.2.1) Ar36.2.2 hin36 (Has.at H36 hin36 rfl) (g := (mkF m 20 #[.val (.ref t1), .val (.ref t2), .val (.int (0 : Int32))] [(.int (0 : Int32)), (.ref t2), (.int (nar .byte ((nar .char (own_c0 u1)).toInt8.toInt32)))])) rfl rfl (hb hby d15_20) _ k) ?_
      by_cases hc21_37 : (nar .byte ((nar .char (own_c0 u1)).toInt8.toInt32)) = (nar .byte ((nar .char (own_c0 u2)).toInt8.toInt32))
      · skip
        refine own_by (T' := s₁) (g' := (mkF m 26 #[.val (.ref t1), .val (.ref t2), .val (.int (0 : Int32))] [])) (fun _ k => XS.icmpYes X0.here hx rfl (pc0 := 21) (pc' := 26) rfl (hb hby d15_21) rfl (teq hc21_37).1 (by decide) (by decide) k) ?_
        refine own_by (T' := s₁) (g' := (mkF m 29 #[.val (.ref t1), .val (.ref t2), .val (.int (1 : Int32))] [])) (fun _ k => XS.iinc X0.here hx rfl (hb hby d15_26) rfl (l' := #[.val (.ref t1), .val (.ref t2), .val (.int (1 : Int32))]) rfl k) ?_
        refine own_by (T' := s₁) (g' := (mkF m 9 #[.val (.ref t1), .val (.ref t2), .val (.int (1 : Int32))] [])) (fun _ k => XS.goto X0.here hx rfl (pc0 := 29) (pc' := 9) rfl (hb hby d15_29) (by decide) (by decide) k) ?_
        refine own_by (T' := s₁) (g' := (mkF m 10 #[.val (.ref t1), .val (.ref t2), .val (.int (1 : Int32))] [(.int (1 : Int32))])) (fun _ k => XS.iloadN X0.here hx rfl (hb hby d15_9) rfl k) ?_
        refine own_by (T' := s₁) (g' := (mkF m 11 #[.val (.ref t1), .val (.ref t2), .val (.int (1 : Int32))] [(.ref t1), (.int (1 : Int32))])) (fun _ k => XS.aloadN X0.here hx rfl (hb hby d15_10) rfl rfl k) ?_
        obtain ⟨cl38, Ar38, q38, S38, N_38, H38, G38⟩ := id W1
        refine own_by (T' := s₁) (g' := (mkF m 12 #[.val (.ref t1), .val (.ref t2), .val (.int (1 : Int32))] [(.int (1 : Int32)), (.int (1 : Int32))])) (fun _ k => X0.arraylength hx (by rw [e0]; exact Ar38.1) (State.isArrayOf_alike hZ.alike Ar38.2.1) (g := (mkF m 11 #[.val (.ref t1), .val (.ref t2), .val (.int (1 : Int32))] [(.ref t1), (.int (1 : Int32))])) rfl rfl (hb hby d15_11) _ (by rw [len_of S38 N_38]; exact k)) ?_
        refine own_by (T' := s₁) (g' := (mkF m 32 #[.val (.ref t1), .val (.ref t2), .val (.int (1 : Int32))] [])) (fun _ k => XS.icmpYes X0.here hx rfl (pc0 := 12) (pc' := 32) rfl (hb hby d15_12) rfl (flt (by decide)).2.1 (by decide) (by decide) k) ?_
        refine own_by (T' := s₁) (g' := (mkF m 33 #[.val (.ref t1), .val (.ref t2), .val (.int (1 : Int32))] [(.int (1 : Int32))])) (fun _ k => XS.iconst X0.here hx rfl (hb hby d15_32) k) ?_
        refine own_ret X0 hlk (v := some (.int (1 : Int32))) (fun h => by rw [Bd.returns] at h; cases h) (fun fs hr => retN X0 hx (t := .boolean) Bd.returns (by simp) (hb hby d15_33) hr) ?_ (by decide) (by decide)
        rw [e0]
        exact ⟨congrArg (fun z => some (Value.int z)) ((if_pos ⟨e1.trans f1.symm, e2.trans ((own_k1 hc21_37).trans f2.symm)⟩).symm), N0, rfl⟩
      · skip
        refine own_by (T' := s₁) (g' := (mkF m 24 #[.val (.ref t1), .val (.ref t2), .val (.int (0 : Int32))] [])) (fun _ k => XS.icmpNo X0.here hx rfl (hb hby d15_21) rfl (feq hc21_37).1 k) ?_
        refine own_by (T' := s₁) (g' := (mkF m 25 #[.val (.ref t1), .val (.ref t2), .val (.int (0 : Int32))] [(.int (0 : Int32))])) (fun _ k => XS.iconst X0.here hx rfl (hb hby d15_24) k) ?_
        refine own_ret X0 hlk (v := some (.int (0 : Int32))) (fun h => by rw [Bd.returns] at h; cases h) (fun fs hr => retN X0 hx (t := .boolean) Bd.returns (by simp) (hb hby d15_25) hr) ?_ (by decide) (by decide)
        rw [e0]
        exact ⟨congrArg (fun z => some (Value.int z)) ((if_neg fun q => hc21_37 (Value.int.inj (List.cons.inj (e2.symm.trans (q.2.trans f2))).1)).symm), N0, rfl⟩
    · skip
      have W2 := own_open f1 f2 V_t2
      refine own_by (T' := s₁) (g' := (mkF m 1 #[.val (.ref t1), .val (.ref t2), .unset] [(.ref t1)])) (fun _ k => XS.aloadN X0.here hx rfl (hb hby d15_0) rfl rfl k) ?_
      obtain ⟨cl39, Ar39, q39, S39, N_39, H39, G39⟩ := id W1
      refine own_by (T' := s₁) (g' := (mkF m 2 #[.val (.ref t1), .val (.ref t2), .unset] [(.int (1 : Int32))])) (fun _ k => X0.arraylength hx (by rw [e0]; exact Ar39.1) (State.isArrayOf_alike hZ.alike Ar39.2.1) (g := (mkF m 1 #[.val (.ref t1), .val (.ref t2), .unset] [(.ref t1)])) rfl rfl (hb hby d15_1) _ (by rw [len_of S39 N_39]; exact k)) ?_
      refine own_by (T' := s₁) (g' := (mkF m 3 #[.val (.ref t1), .val (.ref t2), .unset] [(.ref t2), (.int (1 : Int32))])) (fun _ k => XS.aloadN X0.here hx rfl (hb hby d15_2) rfl rfl k) ?_
      obtain ⟨cl40, Ar40, q40, S40, N_40, H40, G40⟩ := id W2
      refine own_by (T' := s₁) (g' := (mkF m 4 #[.val (.ref t1), .val (.ref t2), .unset] [(.int (2 : Int32)), (.int (1 : Int32))])) (fun _ k => X0.arraylength hx (by rw [e0]; exact Ar40.1) (State.isArrayOf_alike hZ.alike Ar40.2.1) (g := (mkF m 3 #[.val (.ref t1), .val (.ref t2), .unset] [(.ref t2), (.int (1 : Int32))])) rfl rfl (hb hby d15_3) _ (by rw [len_of S40 N_40]; exact k)) ?_
      refine own_by (T' := s₁) (g' := (mkF m 34 #[.val (.ref t1), .val (.ref t2), .unset] [])) (fun _ k => XS.icmpYes X0.here hx rfl (pc0 := 4) (pc' := 34) rfl (hb hby d15_4) rfl (feq (by decide)).2 (by decide) (by decide) k) ?_
      refine own_by (T' := s₁) (g' := (mkF m 35 #[.val (.ref t1), .val (.ref t2), .unset] [(.int (0 : Int32))])) (fun _ k => XS.iconst X0.here hx rfl (hb hby d15_34) k) ?_
      refine own_ret X0 hlk (v := some (.int (0 : Int32))) (fun h => by rw [Bd.returns] at h; cases h) (fun fs hr => retN X0 hx (t := .boolean) Bd.returns (by simp) (hb hby d15_35) hr) ?_ (by decide) (by decide)
      rw [e0]
      exact ⟨congrArg (fun z => some (Value.int z)) ((if_neg fun q => absurd (e1.symm.trans (q.1.trans f1)) (by decide)).symm), N0, rfl⟩
    · skip
      have W2 := own_open f1 f2 V_t2
      refine own_by (T' := s₁) (g' := (mkF m 1 #[.val (.ref t1), .val (.ref t2), .unset] [(.ref t1)])) (fun _ k => XS.aloadN X0.here hx rfl (hb hby d15_0) rfl rfl k) ?_
      obtain ⟨cl41, Ar41, q41, S41, N_41, H41, G41⟩ := id W1
      refine own_by (T' := s₁) (g' := (mkF m 2 #[.val (.ref t1), .val (.ref t2), .unset] [(.int (1 : Int32))])) (fun _ k => X0.arraylength hx (by rw [e0]; exact Ar41.1) (State.isArrayOf_alike hZ.alike Ar41.2.1) (g := (mkF m 1 #[.val (.ref t1), .val (.ref t2), .unset] [(.ref t1)])) rfl rfl (hb hby d15_1) _ (by rw [len_of S41 N_41]; exact k)) ?_
      refine own_by (T' := s₁) (g' := (mkF m 3 #[.val (.ref t1), .val (.ref t2), .unset] [(.ref t2), (.int (1 : Int32))])) (fun _ k => XS.aloadN X0.here hx rfl (hb hby d15_2) rfl rfl k) ?_
      obtain ⟨cl42, Ar42, q42, S42, N_42, H42, G42⟩ := id W2
      refine own_by (T' := s₁) (g' := (mkF m 4 #[.val (.ref t1), .val (.ref t2), .unset] [(.int (3 : Int32)), (.int (1 : Int32))])) (fun _ k => X0.arraylength hx (by rw [e0]; exact Ar42.1) (State.isArrayOf_alike hZ.alike Ar42.2.1) (g := (mkF m 3 #[.val (.ref t1), .val (.ref t2), .unset] [(.ref t2), (.int (1 : Int32))])) rfl rfl (hb hby d15_3) _ (by rw [len_of S42 N_42]; exact k)) ?_
      refine own_by (T' := s₁) (g' := (mkF m 34 #[.val (.ref t1), .val (.ref t2), .unset] [])) (fun _ k => XS.icmpYes X0.here hx rfl (pc0 := 4) (pc' := 34) rfl (hb hby d15_4) rfl (feq (by decide)).2 (by decide) (by decide) k) ?_
      refine own_by (T' := s₁) (g' := (mkF m 35 #[.val (.ref t1), .val (.ref t2), .unset] [(.int (0 : Int32))])) (fun _ k => XS.iconst X0.here hx rfl (hb hby d15_34) k) ?_
      refine own_ret X0 hlk (v := some (.int (0 : Int32))) (fun h => by rw [Bd.returns] at h; cases h) (fun fs hr => retN X0 hx (t := .boolean) Bd.returns (by simp) (hb hby d15_35) hr) ?_ (by decide) (by decide)
      rw [e0]
      exact ⟨congrArg (fun z => some (Value.int z)) ((if_neg fun q => absurd (e1.symm.trans (q.1.trans f1)) (by decide)).symm), N0, rfl⟩
  · skip
    have W1 := own_open e1 e2 V_t1
    rcases own_all n2 u2 with ⟨f1, f2⟩ | ⟨f1, f2⟩ | ⟨f1, f2⟩ | ⟨f1, f2⟩
    · skip
      have W2 := own_open f1 f2 V_t2
      refine own_by (T' := s₁) (g' := (mkF m 1 #[.val (.ref t1), .val (.ref t2), .unset] [(.ref t1)])) (fun _ k => XS.aloadN X0.here hx rfl (hb hby d15_0) rfl rfl k) ?_
      obtain ⟨cl43, Ar43, q43, S43, N_43, H43, G43⟩ := id W1
      refine own_by (T' := s₁) (g' := (mkF m 2 #[.val (.ref t1), .val (.ref t2), .unset] [(.int (2 : Int32))])) (fun _ k => X0.arraylength hx (by rw [e0]; exact Ar43.1) (State.isArrayOf_alike hZ.alike Ar43.2.1) (g := (mkF m 1 #[.val (.ref t1), .val (.ref t2), .unset] [(.ref t1)])) rfl rfl (hb hby d15_1) _ (by rw [len_of S43 N_43]; exact k)) ?_
      refine own_by (T' := s₁) (g' := (mkF m 3 #[.val (.ref t1), .val (.ref t2), .unset] [(.ref t2), (.int (2 : Int32))])) (fun _ k => XS.aloadN X0.here hx rfl (hb hby d15_2) rfl rfl k) ?_
      obtain ⟨cl44, Ar44, q44, S44, N_44, H44, G44⟩ := id W2
      refine own_by (T' := s₁) (g' := (mkF m 4 #[.val (.ref t1), .val (.ref t2), .unset] [(.int (0 : Int32)), (.int (2 : Int32))])) (fun _ k => X0.arraylength hx (by rw [e0]; exact Ar44.1) (State.isArrayOf_alike hZ.alike Ar44.2.1) (g := (mkF m 3 #[.val (.ref t1), .val (.ref t2), .unset] [(.ref t2), (.int (2 : Int32))])) rfl rfl (hb hby d15_3) _ (by rw [len_of S44 N_44]; exact k)) ?_
      refine own_by (T' := s₁) (g' := (mkF m 34 #[.val (.ref t1), .val (.ref t2), .unset] [])) (fun _ k => XS.icmpYes X0.here hx rfl (pc0 := 4) (pc' := 34) rfl (hb hby d15_4) rfl (feq (by decide)).2 (by decide) (by decide) k) ?_
      refine own_by (T' := s₁) (g' := (mkF m 35 #[.val (.ref t1), .val (.ref t2), .unset] [(.int (0 : Int32))])) (fun _ k => XS.iconst X0.here hx rfl (hb hby d15_34) k) ?_
      refine own_ret X0 hlk (v := some (.int (0 : Int32))) (fun h => by rw [Bd.returns] at h; cases h) (fun fs hr => retN X0 hx (t := .boolean) Bd.returns (by simp) (hb hby d15_35) hr) ?_ (by decide) (by decide)
      rw [e0]
      exact ⟨congrArg (fun z => some (Value.int z)) ((if_neg fun q => absurd (e1.symm.trans (q.1.trans f1)) (by decide)).symm), N0, rfl⟩
    · skip
      have W2 := own_open f1 f2 V_t2
      refine own_by (T' := s₁) (g' := (mkF m 1 #[.val (.ref t1), .val (.ref t2), .unset] [(.ref t1)])) (fun _ k => XS.aloadN X0.here hx rfl (hb hby d15_0) rfl rfl k) ?_
      obtain ⟨cl45, Ar45, q45, S45, N_45, H45, G45⟩ := id W1
      refine own_by (T' := s₁) (g' := (mkF m 2 #[.val (.ref t1), .val (.ref t2), .unset] [(.int (2 : Int32))])) (fun _ k => X0.arraylength hx (by rw [e0]; exact Ar45.1) (State.isArrayOf_alike hZ.alike Ar45.2.1) (g := (mkF m 1 #[.val (.ref t1), .val (.ref t2), .unset] [(.ref t1)])) rfl rfl (hb hby d15_1) _ (by rw [len_of S45 N_45]; exact k)) ?_
      refine own_by (T' := s₁) (g' := (mkF m 3 #[.val (.ref t1), .val (.ref t2), .unset] [(.ref t2), (.int (2 : Int32))])) (fun _ k => XS.aloadN X0.here hx rfl (hb hby d15_2) rfl rfl k) ?_
      obtain ⟨cl46, Ar46, q46, S46, N_46, H46, G46⟩ := id W2
      refine own_by (T' := s₁) (g' := (mkF m 4 #[.val (.ref t1), .val (.ref t2), .unset] [(.int (1 : Int32)), (.int (2 : Int32))])) (fun _ k => X0.arraylength hx (by rw [e0]; exact Ar46.1) (State.isArrayOf_alike hZ.alike Ar46.2.1) (g := (mkF m 3 #[.val (.ref t1), .val (.ref t2), .unset] [(.ref t2), (.int (2 : Int32))])) rfl rfl (hb hby d15_3) _ (by rw [len_of S46 N_46]; exact k)) ?_
      refine own_by (T' := s₁) (g' := (mkF m 34 #[.val (.ref t1), .val (.ref t2), .unset] [])) (fun _ k => XS.icmpYes X0.here hx rfl (pc0 := 4) (pc' := 34) rfl (hb hby d15_4) rfl (feq (by decide)).2 (by decide) (by decide) k) ?_
      refine own_by (T' := s₁) (g' := (mkF m 35 #[.val (.ref t1), .val (.ref t2), .unset] [(.int (0 : Int32))])) (fun _ k => XS.iconst X0.here hx rfl (hb hby d15_34) k) ?_
      refine own_ret X0 hlk (v := some (.int (0 : Int32))) (fun h => by rw [Bd.returns] at h; cases h) (fun fs hr => retN X0 hx (t := .boolean) Bd.returns (by simp) (hb hby d15_35) hr) ?_ (by decide) (by decide)
      rw [e0]
      exact ⟨congrArg (fun z => some (Value.int z)) ((if_neg fun q => absurd (e1.symm.trans (q.1.trans f1)) (by decide)).symm), N0, rfl⟩
    · skip
      have W2 := own_open f1 f2 V_t2
      refine own_by (T' := s₁) (g' := (mkF m 1 #[.val (.ref t1), .val (.ref t2), .unset] [(.ref t1)])) (fun _ k => XS.aloadN X0.here hx rfl (hb hby d15_0) rfl rfl k) ?_
      obtain ⟨cl47, Ar47, q47, S47, N_47, H47, G47⟩ := id W1
      refine own_by (T' := s₁) (g' := (mkF m 2 #[.val (.ref t1), .val (.ref t2), .unset] [(.int (2 : Int32))])) (fun _ k => X0.arraylength hx (by rw [e0]; exact Ar47.1) (State.isArrayOf_alike hZ.alike Ar47.2.1) (g := (mkF m 1 #[.val (.ref t1), .val (.ref t2), .unset] [(.ref t1)])) rfl rfl (hb hby d15_1) _ (by rw [len_of S47 N_47]; exact k)) ?_
      refine own_by (T' := s₁) (g' := (mkF m 3 #[.val (.ref t1), .val (.ref t2), .unset] [(.ref t2), (.int (2 : Int32))])) (fun _ k => XS.aloadN X0.here hx rfl (hb hby d15_2) rfl rfl k) ?_
      obtain ⟨cl48, Ar48, q48, S48, N_48, H48, G48⟩ := id W2
      refine own_by (T' := s₁) (g' := (mkF m 4 #[.val (.ref t1), .val (.ref t2), .unset] [(.int (2 : Int32)), (.int (2 : Int32))])) (fun _ k => X0.arraylength hx (by rw [e0]; exact Ar48.1) (State.isArrayOf_alike hZ.alike Ar48.2.1) (g := (mkF m 3 #[.val (.ref t1), .val (.ref t2), .unset] [(.ref t2), (.int (2 : Int32))])) rfl rfl (hb hby d15_3) _ (by rw [len_of S48 N_48]; exact k)) ?_
      refine own_by (T' := s₁) (g' := (mkF m 7 #[.val (.ref t1), .val (.ref t2), .unset] [])) (fun _ k => XS.icmpNo X0.here hx rfl (hb hby d15_4) rfl (teq (by decide)).2 k) ?_
      refine own_by (T' := s₁) (g' := (mkF m 8 #[.val (.ref t1), .val (.ref t2), .unset] [(.int (0 : Int32))])) (fun _ k => XS.iconst X0.here hx rfl (hb hby d15_7) k) ?_
      refine own_by (T' := s₁) (g' := (mkF m 9 #[.val (.ref t1), .val (.ref t2), .val (.int (0 : Int32))] [])) (fun _ k => XS.istoreN X0.here hx rfl (hb hby d15_8) rfl (l' := #[.val (.ref t1), .val (.ref t2), .val (.int (0 : Int32))]) rfl k) ?_
      refine own_by (T' := s₁) (g' := (mkF m 10 #[.val (.ref t1), .val (.ref t2), .val (.int (0 : Int32))] [(.int (0 : Int32))])) (fun _ k => XS.iloadN X0.here hx rfl (hb hby d15_9) rfl k) ?_
      refine own_by (T' := s₁) (g' := (mkF m 11 #[.val (.ref t1), .val (.ref t2), .val (.int (0 : Int32))] [(.ref t1), (.int (0 : Int32))])) (fun _ k => XS.aloadN X0.here hx rfl (hb hby d15_10) rfl rfl k) ?_
      obtain ⟨cl49, Ar49, q49, S49, N_49, H49, G49⟩ := id W1
      refine own_by (T' := s₁) (g' := (mkF m 12 #[.val (.ref t1), .val (.ref t2), .val (.int (0 : Int32))] [(.int (2 : Int32)), (.int (0 : Int32))])) (fun _ k => X0.arraylength hx (by rw [e0]; exact Ar49.1) (State.isArrayOf_alike hZ.alike Ar49.2.1) (g := (mkF m 11 #[.val (.ref t1), .val (.ref t2), .val (.int (0 : Int32))] [(.ref t1), (.int (0 : Int32))])) rfl rfl (hb hby d15_11) _ (by rw [len_of S49 N_49]; exact k)) ?_
      refine own_by (T' := s₁) (g' := (mkF m 15 #[.val (.ref t1), .val (.ref t2), .val (.int (0 : Int32))] [])) (fun _ k => XS.icmpNo X0.here hx rfl (hb hby d15_12) rfl (tlt (by decide)).2.1 k) ?_
      refine own_by (T' := s₁) (g' := (mkF m 16 #[.val (.ref t1), .val (.ref t2), .val (.int (0 : Int32))] [(.ref t1)])) (fun _ k => XS.aloadN X0.here hx rfl (hb hby d15_15) rfl rfl k) ?_
      refine own_by (T' := s₁) (g' := (mkF m 17 #[.val (.ref t1), .val (.ref t2), .val (.int (0 : Int32))] [(.int (0 : Int32)), (.ref t1)])) (fun _ k => XS.iloadN X0.here hx rfl (hb hby d15_16) rfl k) ?_
      obtain ⟨cl50, Ar50, q50, S50, N_50, H50, G50⟩ := id W1
      have hin50 : ¬ ((0 : Int32) < 0 ∨ cl50.slots.size ≤ ((0 : Int32)).toNatClampNeg) := inb_of S50 ⟨by decide, by decide⟩
      refine own_by (T' := s₁) (g' := (mkF m 18 #[.val (.ref t1), .val (.ref t2), .val (.int (0 : Int32))] [(.int (nar .byte ((nar .char (own_c0 u1)).toInt8.toInt32)))])) (fun _ k => X0.baloadBytes hx (j := (0 : Int32)) (v := (.int (nar .byte ((nar .char (own_c0 u1)).toInt8.toInt32)))) (by rw [e0]; exact Ar50.1) (State.isArrayOf_alike hZ.alike Ar50.2.1) Ar50.2.2 hin50 (Has.at H50 hin50 rfl) (g := (mkF m 17 #[.val (.ref t1), .val (.ref t2), .val (.int (0 : Int32))] [(.int (0 : Int32)), (.ref t1)])) rfl rfl (hb hby d15_17) _ k) ?_
      refine own_by (T' := s₁) (g' := (mkF m 19 #[.val (.ref t1), .val (.ref t2), .val (.int (0 : Int32))] [(.ref t2), (.int (nar .byte ((nar .char (own_c0 u1)).toInt8.toInt32)))])) (fun _ k => XS.aloadN X0.here hx rfl (hb hby d15_18) rfl rfl k) ?_
      refine own_by (T' := s₁) (g' := (mkF m 20 #[.val (.ref t1), .val (.ref t2), .val (.int (0 : Int32))] [(.int (0 : Int32)), (.ref t2), (.int (nar .byte ((nar .char (own_c0 u1)).toInt8.toInt32)))])) (fun _ k => XS.iloadN X0.here hx rfl (hb hby d15_19) rfl k) ?_
      obtain ⟨cl51, Ar51, q51, S51, N_51, H51, G51⟩ := id W2
      have hin51 : ¬ ((0 : Int32) < 0 ∨ cl51.slots.size ≤ ((0 : Int32)).toNatClampNeg) := inb_of S51 ⟨by decide, by decide⟩
      refine own_by (T' := s₁) (g' := (mkF m 21 #[.val (.ref t1), .val (.ref t2), .val (.int (0 : Int32))] [(.int (nar .byte ((nar .char (own_c0 u2)).toInt8.toInt32))), (.int (nar .byte ((nar .char (own_c0 u1)).toInt8.toInt32)))])) (fun _ k => X0.baloadBytes hx (j := (0 : Int32)) (v := (.int (nar .byte ((nar .char (own_c0 u2)).toInt8.toInt32)))) (by rw [e0]; exact Ar51.1) (State.isArrayOf_alike hZ.alike Ar51.2.1) Ar51.2.2 hin51 (Has.at H51 hin51 rfl) (g := (mkF m 20 #[.val (.ref t1), .val (.ref t2), .val (.int (0 : Int32))] [(.int (0 : Int32)), (.ref t2), (.int (nar .byte ((nar .char (own_c0 u1)).toInt8.toInt32)))])) rfl rfl (hb hby d15_20) _ k) ?_
      by_cases hc21_52 : (nar .byte ((nar .char (own_c0 u1)).toInt8.toInt32)) = (nar .byte ((nar .char (own_c0 u2)).toInt8.toInt32))
      · skip
        refine own_by (T' := s₁) (g' := (mkF m 26 #[.val (.ref t1), .val (.ref t2), .val (.int (0 : Int32))] [])) (fun _ k => XS.icmpYes X0.here hx rfl (pc0 := 21) (pc' := 26) rfl (hb hby d15_21) rfl (teq hc21_52).1 (by decide) (by decide) k) ?_
        refine own_by (T' := s₁) (g' := (mkF m 29 #[.val (.ref t1), .val (.ref t2), .val (.int (1 : Int32))] [])) (fun _ k => XS.iinc X0.here hx rfl (hb hby d15_26) rfl (l' := #[.val (.ref t1), .val (.ref t2), .val (.int (1 : Int32))]) rfl k) ?_
        refine own_by (T' := s₁) (g' := (mkF m 9 #[.val (.ref t1), .val (.ref t2), .val (.int (1 : Int32))] [])) (fun _ k => XS.goto X0.here hx rfl (pc0 := 29) (pc' := 9) rfl (hb hby d15_29) (by decide) (by decide) k) ?_
        refine own_by (T' := s₁) (g' := (mkF m 10 #[.val (.ref t1), .val (.ref t2), .val (.int (1 : Int32))] [(.int (1 : Int32))])) (fun _ k => XS.iloadN X0.here hx rfl (hb hby d15_9) rfl k) ?_
        refine own_by (T' := s₁) (g' := (mkF m 11 #[.val (.ref t1), .val (.ref t2), .val (.int (1 : Int32))] [(.ref t1), (.int (1 : Int32))])) (fun _ k => XS.aloadN X0.here hx rfl (hb hby d15_10) rfl rfl k) ?_
        obtain ⟨cl53, Ar53, q53, S53, N_53, H53, G53⟩ := id W1
        refine own_by (T' := s₁) (g' := (mkF m 12 #[.val (.ref t1), .val (.ref t2), .val (.int (1 : Int32))] [(.int (2 : Int32)), (.int (1 : Int32))])) (fun _ k => X0.arraylength hx (by rw [e0]; exact Ar53.1) (State.isArrayOf_alike hZ.alike Ar53.2.1) (g := (mkF m 11 #[.val (.ref t1), .val (.ref t2), .val (.int (1 : Int32))] [(.ref t1), (.int (1 : Int32))])) rfl rfl (hb hby d15_11) _ (by rw [len_of S53 N_53]; exact k)) ?_
        refine own_by (T' := s₁) (g' := (mkF m 15 #[.val (.ref t1), .val (.ref t2), .val (.int (1 : Int32))] [])) (fun _ k => XS.icmpNo X0.here hx rfl (hb hby d15_12) rfl (tlt (by decide)).2.1 k) ?_
        refine own_by (T' := s₁) (g' := (mkF m 16 #[.val (.ref t1), .val (.ref t2), .val (.int (1 : Int32))] [(.ref t1)])) (fun _ k => XS.aloadN X0.here hx rfl (hb hby d15_15) rfl rfl k) ?_
        refine own_by (T' := s₁) (g' := (mkF m 17 #[.val (.ref t1), .val (.ref t2), .val (.int (1 : Int32))] [(.int (1 : Int32)), (.ref t1)])) (fun _ k => XS.iloadN X0.here hx rfl (hb hby d15_16) rfl k) ?_
        obtain ⟨cl54, Ar54, q54, S54, N_54, H54, G54⟩ := id W1
        have hin54 : ¬ ((1 : Int32) < 0 ∨ cl54.slots.size ≤ ((1 : Int32)).toNatClampNeg) := inb_of S54 ⟨by decide, by decide⟩
        refine own_by (T' := s₁) (g' := (mkF m 18 #[.val (.ref t1), .val (.ref t2), .val (.int (1 : Int32))] [(.int (nar .byte ((nar .char (own_c1 u1)).toInt8.toInt32)))])) (fun _ k => X0.baloadBytes hx (j := (1 : Int32)) (v := (.int (nar .byte ((nar .char (own_c1 u1)).toInt8.toInt32)))) (by rw [e0]; exact Ar54.1) (State.isArrayOf_alike hZ.alike Ar54.2.1) Ar54.2.2 hin54 (Has.at H54 hin54 rfl) (g := (mkF m 17 #[.val (.ref t1), .val (.ref t2), .val (.int (1 : Int32))] [(.int (1 : Int32)), (.ref t1)])) rfl rfl (hb hby d15_17) _ k) ?_
        refine own_by (T' := s₁) (g' := (mkF m 19 #[.val (.ref t1), .val (.ref t2), .val (.int (1 : Int32))] [(.ref t2), (.int (nar .byte ((nar .char (own_c1 u1)).toInt8.toInt32)))])) (fun _ k => XS.aloadN X0.here hx rfl (hb hby d15_18) rfl rfl k) ?_
        refine own_by (T' := s₁) (g' := (mkF m 20 #[.val (.ref t1), .val (.ref t2), .val (.int (1 : Int32))] [(.int (1 : Int32)), (.ref t2), (.int (nar .byte ((nar .char (own_c1 u1)).toInt8.toInt32)))])) (fun _ k => XS.iloadN X0.here hx rfl (hb hby d15_19) rfl k) ?_
        obtain ⟨cl55, Ar55, q55, S55, N_55, H55, G55⟩ := id W2
        have hin55 : ¬ ((1 : Int32) < 0 ∨ cl55.slots.size ≤ ((1 : Int32)).toNatClampNeg) := inb_of S55 ⟨by decide, by decide⟩
        refine own_by (T' := s₁) (g' := (mkF m 21 #[.val (.ref t1), .val (.ref t2), .val (.int (1 : Int32))] [(.int (nar .byte ((nar .char (own_c1 u2)).toInt8.toInt32))), (.int (nar .byte ((nar .char (own_c1 u1)).toInt8.toInt32)))])) (fun _ k => X0.baloadBytes hx (j := (1 : Int32)) (v := (.int (nar .byte ((nar .char (own_c1 u2)).toInt8.toInt32)))) (by rw [e0]; exact Ar55.1) (State.isArrayOf_alike hZ.alike Ar55.2.1) Ar55.2.2 hin55 (Has.at H55 hin55 rfl) (g := (mkF m 20 #[.val (.ref t1), .val (.ref t2), .val (.int (1 : Int32))] [(.int (1 : Int32)), (.ref t2), (.int (nar .byte ((nar .char (own_c1 u1)).toInt8.toInt32)))])) rfl rfl (hb hby d15_20) _ k) ?_
        by_cases hc21_56 : (nar .byte ((nar .char (own_c1 u1)).toInt8.toInt32)) = (nar .byte ((nar .char (own_c1 u2)).toInt8.toInt32))
        · skip
          refine own_by (T' := s₁) (g' := (mkF m 26 #[.val (.ref t1), .val (.ref t2), .val (.int (1 : Int32))] [])) (fun _ k => XS.icmpYes X0.here hx rfl (pc0 := 21) (pc' := 26) rfl (hb hby d15_21) rfl (teq hc21_56).1 (by decide) (by decide) k) ?_
          refine own_by (T' := s₁) (g' := (mkF m 29 #[.val (.ref t1), .val (.ref t2), .val (.int (2 : Int32))] [])) (fun _ k => XS.iinc X0.here hx rfl (hb hby d15_26) rfl (l' := #[.val (.ref t1), .val (.ref t2), .val (.int (2 : Int32))]) rfl k) ?_
          refine own_by (T' := s₁) (g' := (mkF m 9 #[.val (.ref t1), .val (.ref t2), .val (.int (2 : Int32))] [])) (fun _ k => XS.goto X0.here hx rfl (pc0 := 29) (pc' := 9) rfl (hb hby d15_29) (by decide) (by decide) k) ?_
          refine own_by (T' := s₁) (g' := (mkF m 10 #[.val (.ref t1), .val (.ref t2), .val (.int (2 : Int32))] [(.int (2 : Int32))])) (fun _ k => XS.iloadN X0.here hx rfl (hb hby d15_9) rfl k) ?_
          refine own_by (T' := s₁) (g' := (mkF m 11 #[.val (.ref t1), .val (.ref t2), .val (.int (2 : Int32))] [(.ref t1), (.int (2 : Int32))])) (fun _ k => XS.aloadN X0.here hx rfl (hb hby d15_10) rfl rfl k) ?_
          obtain ⟨cl57, Ar57, q57, S57, N_57, H57, G57⟩ := id W1
          refine own_by (T' := s₁) (g' := (mkF m 12 #[.val (.ref t1), .val (.ref t2), .val (.int (2 : Int32))] [(.int (2 : Int32)), (.int (2 : Int32))])) (fun _ k => X0.arraylength hx (by rw [e0]; exact Ar57.1) (State.isArrayOf_alike hZ.alike Ar57.2.1) (g := (mkF m 11 #[.val (.ref t1), .val (.ref t2), .val (.int (2 : Int32))] [(.ref t1), (.int (2 : Int32))])) rfl rfl (hb hby d15_11) _ (by rw [len_of S57 N_57]; exact k)) ?_
          refine own_by (T' := s₁) (g' := (mkF m 32 #[.val (.ref t1), .val (.ref t2), .val (.int (2 : Int32))] [])) (fun _ k => XS.icmpYes X0.here hx rfl (pc0 := 12) (pc' := 32) rfl (hb hby d15_12) rfl (flt (by decide)).2.1 (by decide) (by decide) k) ?_
          refine own_by (T' := s₁) (g' := (mkF m 33 #[.val (.ref t1), .val (.ref t2), .val (.int (2 : Int32))] [(.int (1 : Int32))])) (fun _ k => XS.iconst X0.here hx rfl (hb hby d15_32) k) ?_
          refine own_ret X0 hlk (v := some (.int (1 : Int32))) (fun h => by rw [Bd.returns] at h; cases h) (fun fs hr => retN X0 hx (t := .boolean) Bd.returns (by simp) (hb hby d15_33) hr) ?_ (by decide) (by decide)
          rw [e0]
          exact ⟨congrArg (fun z => some (Value.int z)) ((if_pos ⟨e1.trans f1.symm, e2.trans ((own_k2 hc21_52 hc21_56).trans f2.symm)⟩).symm), N0, rfl⟩
        · skip
          refine own_by (T' := s₁) (g' := (mkF m 24 #[.val (.ref t1), .val (.ref t2), .val (.int (1 : Int32))] [])) (fun _ k => XS.icmpNo X0.here hx rfl (hb hby d15_21) rfl (feq hc21_56).1 k) ?_
          refine own_by (T' := s₁) (g' := (mkF m 25 #[.val (.ref t1), .val (.ref t2), .val (.int (1 : Int32))] [(.int (0 : Int32))])) (fun _ k => XS.iconst X0.here hx rfl (hb hby d15_24) k) ?_
          refine own_ret X0 hlk (v := some (.int (0 : Int32))) (fun h => by rw [Bd.returns] at h; cases h) (fun fs hr => retN X0 hx (t := .boolean) Bd.returns (by simp) (hb hby d15_25) hr) ?_ (by decide) (by decide)
          rw [e0]
          exact ⟨congrArg (fun z => some (Value.int z)) ((if_neg fun q => hc21_56 (Value.int.inj (List.cons.inj (List.cons.inj (e2.symm.trans (q.2.trans f2))).2).1)).symm), N0, rfl⟩
      · skip
        refine own_by (T' := s₁) (g' := (mkF m 24 #[.val (.ref t1), .val (.ref t2), .val (.int (0 : Int32))] [])) (fun _ k => XS.icmpNo X0.here hx rfl (hb hby d15_21) rfl (feq hc21_52).1 k) ?_
        refine own_by (T' := s₁) (g' := (mkF m 25 #[.val (.ref t1), .val (.ref t2), .val (.int (0 : Int32))] [(.int (0 : Int32))])) (fun _ k => XS.iconst X0.here hx rfl (hb hby d15_24) k) ?_
        refine own_ret X0 hlk (v := some (.int (0 : Int32))) (fun h => by rw [Bd.returns] at h; cases h) (fun fs hr => retN X0 hx (t := .boolean) Bd.returns (by simp) (hb hby d15_25) hr) ?_ (by decide) (by decide)
        rw [e0]
        exact ⟨congrArg (fun z => some (Value.int z)) ((if_neg fun q => hc21_52 (Value.int.inj (List.cons.inj (e2.symm.trans (q.2.trans f2))).1)).symm), N0, rfl⟩
    · skip
      have W2 := own_open f1 f2 V_t2
      refine own_by (T' := s₁) (g' := (mkF m 1 #[.val (.ref t1), .val (.ref t2), .unset] [(.ref t1)])) (fun _ k => XS.aloadN X0.here hx rfl (hb hby d15_0) rfl rfl k) ?_
      obtain ⟨cl58, Ar58, q58, S58, N_58, H58, G58⟩ := id W1
      refine own_by (T' := s₁) (g' := (mkF m 2 #[.val (.ref t1), .val (.ref t2), .unset] [(.int (2 : Int32))])) (fun _ k => X0.arraylength hx (by rw [e0]; exact Ar58.1) (State.isArrayOf_alike hZ.alike Ar58.2.1) (g := (mkF m 1 #[.val (.ref t1), .val (.ref t2), .unset] [(.ref t1)])) rfl rfl (hb hby d15_1) _ (by rw [len_of S58 N_58]; exact k)) ?_
      refine own_by (T' := s₁) (g' := (mkF m 3 #[.val (.ref t1), .val (.ref t2), .unset] [(.ref t2), (.int (2 : Int32))])) (fun _ k => XS.aloadN X0.here hx rfl (hb hby d15_2) rfl rfl k) ?_
      obtain ⟨cl59, Ar59, q59, S59, N_59, H59, G59⟩ := id W2
      refine own_by (T' := s₁) (g' := (mkF m 4 #[.val (.ref t1), .val (.ref t2), .unset] [(.int (3 : Int32)), (.int (2 : Int32))])) (fun _ k => X0.arraylength hx (by rw [e0]; exact Ar59.1) (State.isArrayOf_alike hZ.alike Ar59.2.1) (g := (mkF m 3 #[.val (.ref t1), .val (.ref t2), .unset] [(.ref t2), (.int (2 : Int32))])) rfl rfl (hb hby d15_3) _ (by rw [len_of S59 N_59]; exact k)) ?_
      refine own_by (T' := s₁) (g' := (mkF m 34 #[.val (.ref t1), .val (.ref t2), .unset] [])) (fun _ k => XS.icmpYes X0.here hx rfl (pc0 := 4) (pc' := 34) rfl (hb hby d15_4) rfl (feq (by decide)).2 (by decide) (by decide) k) ?_
      refine own_by (T' := s₁) (g' := (mkF m 35 #[.val (.ref t1), .val (.ref t2), .unset] [(.int (0 : Int32))])) (fun _ k => XS.iconst X0.here hx rfl (hb hby d15_34) k) ?_
      refine own_ret X0 hlk (v := some (.int (0 : Int32))) (fun h => by rw [Bd.returns] at h; cases h) (fun fs hr => retN X0 hx (t := .boolean) Bd.returns (by simp) (hb hby d15_35) hr) ?_ (by decide) (by decide)
      rw [e0]
      exact ⟨congrArg (fun z => some (Value.int z)) ((if_neg fun q => absurd (e1.symm.trans (q.1.trans f1)) (by decide)).symm), N0, rfl⟩
  · skip
    have W1 := own_open e1 e2 V_t1
    rcases own_all n2 u2 with ⟨f1, f2⟩ | ⟨f1, f2⟩ | ⟨f1, f2⟩ | ⟨f1, f2⟩
    · skip
      have W2 := own_open f1 f2 V_t2
      refine own_by (T' := s₁) (g' := (mkF m 1 #[.val (.ref t1), .val (.ref t2), .unset] [(.ref t1)])) (fun _ k => XS.aloadN X0.here hx rfl (hb hby d15_0) rfl rfl k) ?_
      obtain ⟨cl60, Ar60, q60, S60, N_60, H60, G60⟩ := id W1
      refine own_by (T' := s₁) (g' := (mkF m 2 #[.val (.ref t1), .val (.ref t2), .unset] [(.int (3 : Int32))])) (fun _ k => X0.arraylength hx (by rw [e0]; exact Ar60.1) (State.isArrayOf_alike hZ.alike Ar60.2.1) (g := (mkF m 1 #[.val (.ref t1), .val (.ref t2), .unset] [(.ref t1)])) rfl rfl (hb hby d15_1) _ (by rw [len_of S60 N_60]; exact k)) ?_
      refine own_by (T' := s₁) (g' := (mkF m 3 #[.val (.ref t1), .val (.ref t2), .unset] [(.ref t2), (.int (3 : Int32))])) (fun _ k => XS.aloadN X0.here hx rfl (hb hby d15_2) rfl rfl k) ?_
      obtain ⟨cl61, Ar61, q61, S61, N_61, H61, G61⟩ := id W2
      refine own_by (T' := s₁) (g' := (mkF m 4 #[.val (.ref t1), .val (.ref t2), .unset] [(.int (0 : Int32)), (.int (3 : Int32))])) (fun _ k => X0.arraylength hx (by rw [e0]; exact Ar61.1) (State.isArrayOf_alike hZ.alike Ar61.2.1) (g := (mkF m 3 #[.val (.ref t1), .val (.ref t2), .unset] [(.ref t2), (.int (3 : Int32))])) rfl rfl (hb hby d15_3) _ (by rw [len_of S61 N_61]; exact k)) ?_
      refine own_by (T' := s₁) (g' := (mkF m 34 #[.val (.ref t1), .val (.ref t2), .unset] [])) (fun _ k => XS.icmpYes X0.here hx rfl (pc0 := 4) (pc' := 34) rfl (hb hby d15_4) rfl (feq (by decide)).2 (by decide) (by decide) k) ?_
      refine own_by (T' := s₁) (g' := (mkF m 35 #[.val (.ref t1), .val (.ref t2), .unset] [(.int (0 : Int32))])) (fun _ k => XS.iconst X0.here hx rfl (hb hby d15_34) k) ?_
      refine own_ret X0 hlk (v := some (.int (0 : Int32))) (fun h => by rw [Bd.returns] at h; cases h) (fun fs hr => retN X0 hx (t := .boolean) Bd.returns (by simp) (hb hby d15_35) hr) ?_ (by decide) (by decide)
      rw [e0]
      exact ⟨congrArg (fun z => some (Value.int z)) ((if_neg fun q => absurd (e1.symm.trans (q.1.trans f1)) (by decide)).symm), N0, rfl⟩
    · skip
      have W2 := own_open f1 f2 V_t2
      refine own_by (T' := s₁) (g' := (mkF m 1 #[.val (.ref t1), .val (.ref t2), .unset] [(.ref t1)])) (fun _ k => XS.aloadN X0.here hx rfl (hb hby d15_0) rfl rfl k) ?_
      obtain ⟨cl62, Ar62, q62, S62, N_62, H62, G62⟩ := id W1
      refine own_by (T' := s₁) (g' := (mkF m 2 #[.val (.ref t1), .val (.ref t2), .unset] [(.int (3 : Int32))])) (fun _ k => X0.arraylength hx (by rw [e0]; exact Ar62.1) (State.isArrayOf_alike hZ.alike Ar62.2.1) (g := (mkF m 1 #[.val (.ref t1), .val (.ref t2), .unset] [(.ref t1)])) rfl rfl (hb hby d15_1) _ (by rw [len_of S62 N_62]; exact k)) ?_
      refine own_by (T' := s₁) (g' := (mkF m 3 #[.val (.ref t1), .val (.ref t2), .unset] [(.ref t2), (.int (3 : Int32))])) (fun _ k => XS.aloadN X0.here hx rfl (hb hby d15_2) rfl rfl k) ?_
      obtain ⟨cl63, Ar63, q63, S63, N_63, H63, G63⟩ := id W2
      refine own_by (T' := s₁) (g' := (mkF m 4 #[.val (.ref t1), .val (.ref t2), .unset] [(.int (1 : Int32)), (.int (3 : Int32))])) (fun _ k => X0.arraylength hx (by rw [e0]; exact Ar63.1) (State.isArrayOf_alike hZ.alike Ar63.2.1) (g := (mkF m 3 #[.val (.ref t1), .val (.ref t2), .unset] [(.ref t2), (.int (3 : Int32))])) rfl rfl (hb hby d15_3) _ (by rw [len_of S63 N_63]; exact k)) ?_
      refine own_by (T' := s₁) (g' := (mkF m 34 #[.val (.ref t1), .val (.ref t2), .unset] [])) (fun _ k => XS.icmpYes X0.here hx rfl (pc0 := 4) (pc' := 34) rfl (hb hby d15_4) rfl (feq (by decide)).2 (by decide) (by decide) k) ?_
      refine own_by (T' := s₁) (g' := (mkF m 35 #[.val (.ref t1), .val (.ref t2), .unset] [(.int (0 : Int32))])) (fun _ k => XS.iconst X0.here hx rfl (hb hby d15_34) k) ?_
      refine own_ret X0 hlk (v := some (.int (0 : Int32))) (fun h => by rw [Bd.returns] at h; cases h) (fun fs hr => retN X0 hx (t := .boolean) Bd.returns (by simp) (hb hby d15_35) hr) ?_ (by decide) (by decide)
      rw [e0]
      exact ⟨congrArg (fun z => some (Value.int z)) ((if_neg fun q => absurd (e1.symm.trans (q.1.trans f1)) (by decide)).symm), N0, rfl⟩
    · skip
      have W2 := own_open f1 f2 V_t2
      refine own_by (T' := s₁) (g' := (mkF m 1 #[.val (.ref t1), .val (.ref t2), .unset] [(.ref t1)])) (fun _ k => XS.aloadN X0.here hx rfl (hb hby d15_0) rfl rfl k) ?_
      obtain ⟨cl64, Ar64, q64, S64, N_64, H64, G64⟩ := id W1
      refine own_by (T' := s₁) (g' := (mkF m 2 #[.val (.ref t1), .val (.ref t2), .unset] [(.int (3 : Int32))])) (fun _ k => X0.arraylength hx (by rw [e0]; exact Ar64.1) (State.isArrayOf_alike hZ.alike Ar64.2.1) (g := (mkF m 1 #[.val (.ref t1), .val (.ref t2), .unset] [(.ref t1)])) rfl rfl (hb hby d15_1) _ (by rw [len_of S64 N_64]; exact k)) ?_
      refine own_by (T' := s₁) (g' := (mkF m 3 #[.val (.ref t1), .val (.ref t2), .unset] [(.ref t2), (.int (3 : Int32))])) (fun _ k => XS.aloadN X0.here hx rfl (hb hby d15_2) rfl rfl k) ?_
      obtain ⟨cl65, Ar65, q65, S65, N_65, H65, G65⟩ := id W2
      refine own_by (T' := s₁) (g' := (mkF m 4 #[.val (.ref t1), .val (.ref t2), .unset] [(.int (2 : Int32)), (.int (3 : Int32))])) (fun _ k => X0.arraylength hx (by rw [e0]; exact Ar65.1) (State.isArrayOf_alike hZ.alike Ar65.2.1) (g := (mkF m 3 #[.val (.ref t1), .val (.ref t2), .unset] [(.ref t2), (.int (3 : Int32))])) rfl rfl (hb hby d15_3) _ (by rw [len_of S65 N_65]; exact k)) ?_
      refine own_by (T' := s₁) (g' := (mkF m 34 #[.val (.ref t1), .val (.ref t2), .unset] [])) (fun _ k => XS.icmpYes X0.here hx rfl (pc0 := 4) (pc' := 34) rfl (hb hby d15_4) rfl (feq (by decide)).2 (by decide) (by decide) k) ?_
      refine own_by (T' := s₁) (g' := (mkF m 35 #[.val (.ref t1), .val (.ref t2), .unset] [(.int (0 : Int32))])) (fun _ k => XS.iconst X0.here hx rfl (hb hby d15_34) k) ?_
      refine own_ret X0 hlk (v := some (.int (0 : Int32))) (fun h => by rw [Bd.returns] at h; cases h) (fun fs hr => retN X0 hx (t := .boolean) Bd.returns (by simp) (hb hby d15_35) hr) ?_ (by decide) (by decide)
      rw [e0]
      exact ⟨congrArg (fun z => some (Value.int z)) ((if_neg fun q => absurd (e1.symm.trans (q.1.trans f1)) (by decide)).symm), N0, rfl⟩
    · skip
      have W2 := own_open f1 f2 V_t2
      refine own_by (T' := s₁) (g' := (mkF m 1 #[.val (.ref t1), .val (.ref t2), .unset] [(.ref t1)])) (fun _ k => XS.aloadN X0.here hx rfl (hb hby d15_0) rfl rfl k) ?_
      obtain ⟨cl66, Ar66, q66, S66, N_66, H66, G66⟩ := id W1
      refine own_by (T' := s₁) (g' := (mkF m 2 #[.val (.ref t1), .val (.ref t2), .unset] [(.int (3 : Int32))])) (fun _ k => X0.arraylength hx (by rw [e0]; exact Ar66.1) (State.isArrayOf_alike hZ.alike Ar66.2.1) (g := (mkF m 1 #[.val (.ref t1), .val (.ref t2), .unset] [(.ref t1)])) rfl rfl (hb hby d15_1) _ (by rw [len_of S66 N_66]; exact k)) ?_
      refine own_by (T' := s₁) (g' := (mkF m 3 #[.val (.ref t1), .val (.ref t2), .unset] [(.ref t2), (.int (3 : Int32))])) (fun _ k => XS.aloadN X0.here hx rfl (hb hby d15_2) rfl rfl k) ?_
      obtain ⟨cl67, Ar67, q67, S67, N_67, H67, G67⟩ := id W2
      refine own_by (T' := s₁) (g' := (mkF m 4 #[.val (.ref t1), .val (.ref t2), .unset] [(.int (3 : Int32)), (.int (3 : Int32))])) (fun _ k => X0.arraylength hx (by rw [e0]; exact Ar67.1) (State.isArrayOf_alike hZ.alike Ar67.2.1) (g := (mkF m 3 #[.val (.ref t1), .val (.ref t2), .unset] [(.ref t2), (.int (3 : Int32))])) rfl rfl (hb hby d15_3) _ (by rw [len_of S67 N_67]; exact k)) ?_
      refine own_by (T' := s₁) (g' := (mkF m 7 #[.val (.ref t1), .val (.ref t2), .unset] [])) (fun _ k => XS.icmpNo X0.here hx rfl (hb hby d15_4) rfl (teq (by decide)).2 k) ?_
      refine own_by (T' := s₁) (g' := (mkF m 8 #[.val (.ref t1), .val (.ref t2), .unset] [(.int (0 : Int32))])) (fun _ k => XS.iconst X0.here hx rfl (hb hby d15_7) k) ?_
      refine own_by (T' := s₁) (g' := (mkF m 9 #[.val (.ref t1), .val (.ref t2), .val (.int (0 : Int32))] [])) (fun _ k => XS.istoreN X0.here hx rfl (hb hby d15_8) rfl (l' := #[.val (.ref t1), .val (.ref t2), .val (.int (0 : Int32))]) rfl k) ?_
      refine own_by (T' := s₁) (g' := (mkF m 10 #[.val (.ref t1), .val (.ref t2), .val (.int (0 : Int32))] [(.int (0 : Int32))])) (fun _ k => XS.iloadN X0.here hx rfl (hb hby d15_9) rfl k) ?_
      refine own_by (T' := s₁) (g' := (mkF m 11 #[.val (.ref t1), .val (.ref t2), .val (.int (0 : Int32))] [(.ref t1), (.int (0 : Int32))])) (fun _ k => XS.aloadN X0.here hx rfl (hb hby d15_10) rfl rfl k) ?_
      obtain ⟨cl68, Ar68, q68, S68, N_68, H68, G68⟩ := id W1
      refine own_by (T' := s₁) (g' := (mkF m 12 #[.val (.ref t1), .val (.ref t2), .val (.int (0 : Int32))] [(.int (3 : Int32)), (.int (0 : Int32))])) (fun _ k => X0.arraylength hx (by rw [e0]; exact Ar68.1) (State.isArrayOf_alike hZ.alike Ar68.2.1) (g := (mkF m 11 #[.val (.ref t1), .val (.ref t2), .val (.int (0 : Int32))] [(.ref t1), (.int (0 : Int32))])) rfl rfl (hb hby d15_11) _ (by rw [len_of S68 N_68]; exact k)) ?_
      refine own_by (T' := s₁) (g' := (mkF m 15 #[.val (.ref t1), .val (.ref t2), .val (.int (0 : Int32))] [])) (fun _ k => XS.icmpNo X0.here hx rfl (hb hby d15_12) rfl (tlt (by decide)).2.1 k) ?_
      refine own_by (T' := s₁) (g' := (mkF m 16 #[.val (.ref t1), .val (.ref t2), .val (.int (0 : Int32))] [(.ref t1)])) (fun _ k => XS.aloadN X0.here hx rfl (hb hby d15_15) rfl rfl k) ?_
      refine own_by (T' := s₁) (g' := (mkF m 17 #[.val (.ref t1), .val (.ref t2), .val (.int (0 : Int32))] [(.int (0 : Int32)), (.ref t1)])) (fun _ k => XS.iloadN X0.here hx rfl (hb hby d15_16) rfl k) ?_
      obtain ⟨cl69, Ar69, q69, S69, N_69, H69, G69⟩ := id W1
      have hin69 : ¬ ((0 : Int32) < 0 ∨ cl69.slots.size ≤ ((0 : Int32)).toNatClampNeg) := inb_of S69 ⟨by decide, by decide⟩
      refine own_by (T' := s₁) (g' := (mkF m 18 #[.val (.ref t1), .val (.ref t2), .val (.int (0 : Int32))] [(.int (nar .byte ((nar .char (own_c0 u1)).toInt8.toInt32)))])) (fun _ k => X0.baloadBytes hx (j := (0 : Int32)) (v := (.int (nar .byte ((nar .char (own_c0 u1)).toInt8.toInt32)))) (by rw [e0]; exact Ar69.1) (State.isArrayOf_alike hZ.alike Ar69.2.1) Ar69.2.2 hin69 (Has.at H69 hin69 rfl) (g := (mkF m 17 #[.val (.ref t1), .val (.ref t2), .val (.int (0 : Int32))] [(.int (0 : Int32)), (.ref t1)])) rfl rfl (hb hby d15_17) _ k) ?_
      refine own_by (T' := s₁) (g' := (mkF m 19 #[.val (.ref t1), .val (.ref t2), .val (.int (0 : Int32))] [(.ref t2), (.int (nar .byte ((nar .char (own_c0 u1)).toInt8.toInt32)))])) (fun _ k => XS.aloadN X0.here hx rfl (hb hby d15_18) rfl rfl k) ?_
      refine own_by (T' := s₁) (g' := (mkF m 20 #[.val (.ref t1), .val (.ref t2), .val (.int (0 : Int32))] [(.int (0 : Int32)), (.ref t2), (.int (nar .byte ((nar .char (own_c0 u1)).toInt8.toInt32)))])) (fun _ k => XS.iloadN X0.here hx rfl (hb hby d15_19) rfl k) ?_
      obtain ⟨cl70, Ar70, q70, S70, N_70, H70, G70⟩ := id W2
      have hin70 : ¬ ((0 : Int32) < 0 ∨ cl70.slots.size ≤ ((0 : Int32)).toNatClampNeg) := inb_of S70 ⟨by decide, by decide⟩
      refine own_by (T' := s₁) (g' := (mkF m 21 #[.val (.ref t1), .val (.ref t2), .val (.int (0 : Int32))] [(.int (nar .byte ((nar .char (own_c0 u2)).toInt8.toInt32))), (.int (nar .byte ((nar .char (own_c0 u1)).toInt8.toInt32)))])) (fun _ k => X0.baloadBytes hx (j := (0 : Int32)) (v := (.int (nar .byte ((nar .char (own_c0 u2)).toInt8.toInt32)))) (by rw [e0]; exact Ar70.1) (State.isArrayOf_alike hZ.alike Ar70.2.1) Ar70.2.2 hin70 (Has.at H70 hin70 rfl) (g := (mkF m 20 #[.val (.ref t1), .val (.ref t2), .val (.int (0 : Int32))] [(.int (0 : Int32)), (.ref t2), (.int (nar .byte ((nar .char (own_c0 u1)).toInt8.toInt32)))])) rfl rfl (hb hby d15_20) _ k) ?_
      by_cases hc21_71 : (nar .byte ((nar .char (own_c0 u1)).toInt8.toInt32)) = (nar .byte ((nar .char (own_c0 u2)).toInt8.toInt32))
      · skip
        refine own_by (T' := s₁) (g' := (mkF m 26 #[.val (.ref t1), .val (.ref t2), .val (.int (0 : Int32))] [])) (fun _ k => XS.icmpYes X0.here hx rfl (pc0 := 21) (pc' := 26) rfl (hb hby d15_21) rfl (teq hc21_71).1 (by decide) (by decide) k) ?_
        refine own_by (T' := s₁) (g' := (mkF m 29 #[.val (.ref t1), .val (.ref t2), .val (.int (1 : Int32))] [])) (fun _ k => XS.iinc X0.here hx rfl (hb hby d15_26) rfl (l' := #[.val (.ref t1), .val (.ref t2), .val (.int (1 : Int32))]) rfl k) ?_
        refine own_by (T' := s₁) (g' := (mkF m 9 #[.val (.ref t1), .val (.ref t2), .val (.int (1 : Int32))] [])) (fun _ k => XS.goto X0.here hx rfl (pc0 := 29) (pc' := 9) rfl (hb hby d15_29) (by decide) (by decide) k) ?_
        refine own_by (T' := s₁) (g' := (mkF m 10 #[.val (.ref t1), .val (.ref t2), .val (.int (1 : Int32))] [(.int (1 : Int32))])) (fun _ k => XS.iloadN X0.here hx rfl (hb hby d15_9) rfl k) ?_
        refine own_by (T' := s₁) (g' := (mkF m 11 #[.val (.ref t1), .val (.ref t2), .val (.int (1 : Int32))] [(.ref t1), (.int (1 : Int32))])) (fun _ k => XS.aloadN X0.here hx rfl (hb hby d15_10) rfl rfl k) ?_
        obtain ⟨cl72, Ar72, q72, S72, N_72, H72, G72⟩ := id W1
        refine own_by (T' := s₁) (g' := (mkF m 12 #[.val (.ref t1), .val (.ref t2), .val (.int (1 : Int32))] [(.int (3 : Int32)), (.int (1 : Int32))])) (fun _ k => X0.arraylength hx (by rw [e0]; exact Ar72.1) (State.isArrayOf_alike hZ.alike Ar72.2.1) (g := (mkF m 11 #[.val (.ref t1), .val (.ref t2), .val (.int (1 : Int32))] [(.ref t1), (.int (1 : Int32))])) rfl rfl (hb hby d15_11) _ (by rw [len_of S72 N_72]; exact k)) ?_
        refine own_by (T' := s₁) (g' := (mkF m 15 #[.val (.ref t1), .val (.ref t2), .val (.int (1 : Int32))] [])) (fun _ k => XS.icmpNo X0.here hx rfl (hb hby d15_12) rfl (tlt (by decide)).2.1 k) ?_
        refine own_by (T' := s₁) (g' := (mkF m 16 #[.val (.ref t1), .val (.ref t2), .val (.int (1 : Int32))] [(.ref t1)])) (fun _ k => XS.aloadN X0.here hx rfl (hb hby d15_15) rfl rfl k) ?_
        refine own_by (T' := s₁) (g' := (mkF m 17 #[.val (.ref t1), .val (.ref t2), .val (.int (1 : Int32))] [(.int (1 : Int32)), (.ref t1)])) (fun _ k => XS.iloadN X0.here hx rfl (hb hby d15_16) rfl k) ?_
        obtain ⟨cl73, Ar73, q73, S73, N_73, H73, G73⟩ := id W1
        have hin73 : ¬ ((1 : Int32) < 0 ∨ cl73.slots.size ≤ ((1 : Int32)).toNatClampNeg) := inb_of S73 ⟨by decide, by decide⟩
        refine own_by (T' := s₁) (g' := (mkF m 18 #[.val (.ref t1), .val (.ref t2), .val (.int (1 : Int32))] [(.int (nar .byte ((nar .char (own_c1 u1)).toInt8.toInt32)))])) (fun _ k => X0.baloadBytes hx (j := (1 : Int32)) (v := (.int (nar .byte ((nar .char (own_c1 u1)).toInt8.toInt32)))) (by rw [e0]; exact Ar73.1) (State.isArrayOf_alike hZ.alike Ar73.2.1) Ar73.2.2 hin73 (Has.at H73 hin73 rfl) (g := (mkF m 17 #[.val (.ref t1), .val (.ref t2), .val (.int (1 : Int32))] [(.int (1 : Int32)), (.ref t1)])) rfl rfl (hb hby d15_17) _ k) ?_
        refine own_by (T' := s₁) (g' := (mkF m 19 #[.val (.ref t1), .val (.ref t2), .val (.int (1 : Int32))] [(.ref t2), (.int (nar .byte ((nar .char (own_c1 u1)).toInt8.toInt32)))])) (fun _ k => XS.aloadN X0.here hx rfl (hb hby d15_18) rfl rfl k) ?_
        refine own_by (T' := s₁) (g' := (mkF m 20 #[.val (.ref t1), .val (.ref t2), .val (.int (1 : Int32))] [(.int (1 : Int32)), (.ref t2), (.int (nar .byte ((nar .char (own_c1 u1)).toInt8.toInt32)))])) (fun _ k => XS.iloadN X0.here hx rfl (hb hby d15_19) rfl k) ?_
        obtain ⟨cl74, Ar74, q74, S74, N_74, H74, G74⟩ := id W2
        have hin74 : ¬ ((1 : Int32) < 0 ∨ cl74.slots.size ≤ ((1 : Int32)).toNatClampNeg) := inb_of S74 ⟨by decide, by decide⟩
        refine own_by (T' := s₁) (g' := (mkF m 21 #[.val (.ref t1), .val (.ref t2), .val (.int (1 : Int32))] [(.int (nar .byte ((nar .char (own_c1 u2)).toInt8.toInt32))), (.int (nar .byte ((nar .char (own_c1 u1)).toInt8.toInt32)))])) (fun _ k => X0.baloadBytes hx (j := (1 : Int32)) (v := (.int (nar .byte ((nar .char (own_c1 u2)).toInt8.toInt32)))) (by rw [e0]; exact Ar74.1) (State.isArrayOf_alike hZ.alike Ar74.2.1) Ar74.2.2 hin74 (Has.at H74 hin74 rfl) (g := (mkF m 20 #[.val (.ref t1), .val (.ref t2), .val (.int (1 : Int32))] [(.int (1 : Int32)), (.ref t2), (.int (nar .byte ((nar .char (own_c1 u1)).toInt8.toInt32)))])) rfl rfl (hb hby d15_20) _ k) ?_
        by_cases hc21_75 : (nar .byte ((nar .char (own_c1 u1)).toInt8.toInt32)) = (nar .byte ((nar .char (own_c1 u2)).toInt8.toInt32))
        · skip
          refine own_by (T' := s₁) (g' := (mkF m 26 #[.val (.ref t1), .val (.ref t2), .val (.int (1 : Int32))] [])) (fun _ k => XS.icmpYes X0.here hx rfl (pc0 := 21) (pc' := 26) rfl (hb hby d15_21) rfl (teq hc21_75).1 (by decide) (by decide) k) ?_
          refine own_by (T' := s₁) (g' := (mkF m 29 #[.val (.ref t1), .val (.ref t2), .val (.int (2 : Int32))] [])) (fun _ k => XS.iinc X0.here hx rfl (hb hby d15_26) rfl (l' := #[.val (.ref t1), .val (.ref t2), .val (.int (2 : Int32))]) rfl k) ?_
          refine own_by (T' := s₁) (g' := (mkF m 9 #[.val (.ref t1), .val (.ref t2), .val (.int (2 : Int32))] [])) (fun _ k => XS.goto X0.here hx rfl (pc0 := 29) (pc' := 9) rfl (hb hby d15_29) (by decide) (by decide) k) ?_
          refine own_by (T' := s₁) (g' := (mkF m 10 #[.val (.ref t1), .val (.ref t2), .val (.int (2 : Int32))] [(.int (2 : Int32))])) (fun _ k => XS.iloadN X0.here hx rfl (hb hby d15_9) rfl k) ?_
          refine own_by (T' := s₁) (g' := (mkF m 11 #[.val (.ref t1), .val (.ref t2), .val (.int (2 : Int32))] [(.ref t1), (.int (2 : Int32))])) (fun _ k => XS.aloadN X0.here hx rfl (hb hby d15_10) rfl rfl k) ?_
          obtain ⟨cl76, Ar76, q76, S76, N_76, H76, G76⟩ := id W1
          refine own_by (T' := s₁) (g' := (mkF m 12 #[.val (.ref t1), .val (.ref t2), .val (.int (2 : Int32))] [(.int (3 : Int32)), (.int (2 : Int32))])) (fun _ k => X0.arraylength hx (by rw [e0]; exact Ar76.1) (State.isArrayOf_alike hZ.alike Ar76.2.1) (g := (mkF m 11 #[.val (.ref t1), .val (.ref t2), .val (.int (2 : Int32))] [(.ref t1), (.int (2 : Int32))])) rfl rfl (hb hby d15_11) _ (by rw [len_of S76 N_76]; exact k)) ?_
          refine own_by (T' := s₁) (g' := (mkF m 15 #[.val (.ref t1), .val (.ref t2), .val (.int (2 : Int32))] [])) (fun _ k => XS.icmpNo X0.here hx rfl (hb hby d15_12) rfl (tlt (by decide)).2.1 k) ?_
          refine own_by (T' := s₁) (g' := (mkF m 16 #[.val (.ref t1), .val (.ref t2), .val (.int (2 : Int32))] [(.ref t1)])) (fun _ k => XS.aloadN X0.here hx rfl (hb hby d15_15) rfl rfl k) ?_
          refine own_by (T' := s₁) (g' := (mkF m 17 #[.val (.ref t1), .val (.ref t2), .val (.int (2 : Int32))] [(.int (2 : Int32)), (.ref t1)])) (fun _ k => XS.iloadN X0.here hx rfl (hb hby d15_16) rfl k) ?_
          obtain ⟨cl77, Ar77, q77, S77, N_77, H77, G77⟩ := id W1
          have hin77 : ¬ ((2 : Int32) < 0 ∨ cl77.slots.size ≤ ((2 : Int32)).toNatClampNeg) := inb_of S77 ⟨by decide, by decide⟩
          refine own_by (T' := s₁) (g' := (mkF m 18 #[.val (.ref t1), .val (.ref t2), .val (.int (2 : Int32))] [(.int (nar .byte ((nar .char (own_c2 u1)).toInt8.toInt32)))])) (fun _ k => X0.baloadBytes hx (j := (2 : Int32)) (v := (.int (nar .byte ((nar .char (own_c2 u1)).toInt8.toInt32)))) (by rw [e0]; exact Ar77.1) (State.isArrayOf_alike hZ.alike Ar77.2.1) Ar77.2.2 hin77 (Has.at H77 hin77 rfl) (g := (mkF m 17 #[.val (.ref t1), .val (.ref t2), .val (.int (2 : Int32))] [(.int (2 : Int32)), (.ref t1)])) rfl rfl (hb hby d15_17) _ k) ?_
          refine own_by (T' := s₁) (g' := (mkF m 19 #[.val (.ref t1), .val (.ref t2), .val (.int (2 : Int32))] [(.ref t2), (.int (nar .byte ((nar .char (own_c2 u1)).toInt8.toInt32)))])) (fun _ k => XS.aloadN X0.here hx rfl (hb hby d15_18) rfl rfl k) ?_
          refine own_by (T' := s₁) (g' := (mkF m 20 #[.val (.ref t1), .val (.ref t2), .val (.int (2 : Int32))] [(.int (2 : Int32)), (.ref t2), (.int (nar .byte ((nar .char (own_c2 u1)).toInt8.toInt32)))])) (fun _ k => XS.iloadN X0.here hx rfl (hb hby d15_19) rfl k) ?_
          obtain ⟨cl78, Ar78, q78, S78, N_78, H78, G78⟩ := id W2
          have hin78 : ¬ ((2 : Int32) < 0 ∨ cl78.slots.size ≤ ((2 : Int32)).toNatClampNeg) := inb_of S78 ⟨by decide, by decide⟩
          refine own_by (T' := s₁) (g' := (mkF m 21 #[.val (.ref t1), .val (.ref t2), .val (.int (2 : Int32))] [(.int (nar .byte ((nar .char (own_c2 u2)).toInt8.toInt32))), (.int (nar .byte ((nar .char (own_c2 u1)).toInt8.toInt32)))])) (fun _ k => X0.baloadBytes hx (j := (2 : Int32)) (v := (.int (nar .byte ((nar .char (own_c2 u2)).toInt8.toInt32)))) (by rw [e0]; exact Ar78.1) (State.isArrayOf_alike hZ.alike Ar78.2.1) Ar78.2.2 hin78 (Has.at H78 hin78 rfl) (g := (mkF m 20 #[.val (.ref t1), .val (.ref t2), .val (.int (2 : Int32))] [(.int (2 : Int32)), (.ref t2), (.int (nar .byte ((nar .char (own_c2 u1)).toInt8.toInt32)))])) rfl rfl (hb hby d15_20) _ k) ?_
          by_cases hc21_79 : (nar .byte ((nar .char (own_c2 u1)).toInt8.toInt32)) = (nar .byte ((nar .char (own_c2 u2)).toInt8.toInt32))
          · skip
            refine own_by (T' := s₁) (g' := (mkF m 26 #[.val (.ref t1), .val (.ref t2), .val (.int (2 : Int32))] [])) (fun _ k => XS.icmpYes X0.here hx rfl (pc0 := 21) (pc' := 26) rfl (hb hby d15_21) rfl (teq hc21_79).1 (by decide) (by decide) k) ?_
            refine own_by (T' := s₁) (g' := (mkF m 29 #[.val (.ref t1), .val (.ref t2), .val (.int (3 : Int32))] [])) (fun _ k => XS.iinc X0.here hx rfl (hb hby d15_26) rfl (l' := #[.val (.ref t1), .val (.ref t2), .val (.int (3 : Int32))]) rfl k) ?_
            refine own_by (T' := s₁) (g' := (mkF m 9 #[.val (.ref t1), .val (.ref t2), .val (.int (3 : Int32))] [])) (fun _ k => XS.goto X0.here hx rfl (pc0 := 29) (pc' := 9) rfl (hb hby d15_29) (by decide) (by decide) k) ?_
            refine own_by (T' := s₁) (g' := (mkF m 10 #[.val (.ref t1), .val (.ref t2), .val (.int (3 : Int32))] [(.int (3 : Int32))])) (fun _ k => XS.iloadN X0.here hx rfl (hb hby d15_9) rfl k) ?_
            refine own_by (T' := s₁) (g' := (mkF m 11 #[.val (.ref t1), .val (.ref t2), .val (.int (3 : Int32))] [(.ref t1), (.int (3 : Int32))])) (fun _ k => XS.aloadN X0.here hx rfl (hb hby d15_10) rfl rfl k) ?_
            obtain ⟨cl80, Ar80, q80, S80, N_80, H80, G80⟩ := id W1
            refine own_by (T' := s₁) (g' := (mkF m 12 #[.val (.ref t1), .val (.ref t2), .val (.int (3 : Int32))] [(.int (3 : Int32)), (.int (3 : Int32))])) (fun _ k => X0.arraylength hx (by rw [e0]; exact Ar80.1) (State.isArrayOf_alike hZ.alike Ar80.2.1) (g := (mkF m 11 #[.val (.ref t1), .val (.ref t2), .val (.int (3 : Int32))] [(.ref t1), (.int (3 : Int32))])) rfl rfl (hb hby d15_11) _ (by rw [len_of S80 N_80]; exact k)) ?_
            refine own_by (T' := s₁) (g' := (mkF m 32 #[.val (.ref t1), .val (.ref t2), .val (.int (3 : Int32))] [])) (fun _ k => XS.icmpYes X0.here hx rfl (pc0 := 12) (pc' := 32) rfl (hb hby d15_12) rfl (flt (by decide)).2.1 (by decide) (by decide) k) ?_
            refine own_by (T' := s₁) (g' := (mkF m 33 #[.val (.ref t1), .val (.ref t2), .val (.int (3 : Int32))] [(.int (1 : Int32))])) (fun _ k => XS.iconst X0.here hx rfl (hb hby d15_32) k) ?_
            refine own_ret X0 hlk (v := some (.int (1 : Int32))) (fun h => by rw [Bd.returns] at h; cases h) (fun fs hr => retN X0 hx (t := .boolean) Bd.returns (by simp) (hb hby d15_33) hr) ?_ (by decide) (by decide)
            rw [e0]
            exact ⟨congrArg (fun z => some (Value.int z)) ((if_pos ⟨e1.trans f1.symm, e2.trans ((own_k3 hc21_71 hc21_75 hc21_79).trans f2.symm)⟩).symm), N0, rfl⟩
          · skip
            refine own_by (T' := s₁) (g' := (mkF m 24 #[.val (.ref t1), .val (.ref t2), .val (.int (2 : Int32))] [])) (fun _ k => XS.icmpNo X0.here hx rfl (hb hby d15_21) rfl (feq hc21_79).1 k) ?_
            refine own_by (T' := s₁) (g' := (mkF m 25 #[.val (.ref t1), .val (.ref t2), .val (.int (2 : Int32))] [(.int (0 : Int32))])) (fun _ k => XS.iconst X0.here hx rfl (hb hby d15_24) k) ?_
            refine own_ret X0 hlk (v := some (.int (0 : Int32))) (fun h => by rw [Bd.returns] at h; cases h) (fun fs hr => retN X0 hx (t := .boolean) Bd.returns (by simp) (hb hby d15_25) hr) ?_ (by decide) (by decide)
            rw [e0]
            exact ⟨congrArg (fun z => some (Value.int z)) ((if_neg fun q => hc21_79 (Value.int.inj (List.cons.inj (List.cons.inj (List.cons.inj (e2.symm.trans (q.2.trans f2))).2).2).1)).symm), N0, rfl⟩
        · skip
          refine own_by (T' := s₁) (g' := (mkF m 24 #[.val (.ref t1), .val (.ref t2), .val (.int (1 : Int32))] [])) (fun _ k => XS.icmpNo X0.here hx rfl (hb hby d15_21) rfl (feq hc21_75).1 k) ?_
          refine own_by (T' := s₁) (g' := (mkF m 25 #[.val (.ref t1), .val (.ref t2), .val (.int (1 : Int32))] [(.int (0 : Int32))])) (fun _ k => XS.iconst X0.here hx rfl (hb hby d15_24) k) ?_
          refine own_ret X0 hlk (v := some (.int (0 : Int32))) (fun h => by rw [Bd.returns] at h; cases h) (fun fs hr => retN X0 hx (t := .boolean) Bd.returns (by simp) (hb hby d15_25) hr) ?_ (by decide) (by decide)
          rw [e0]
          exact ⟨congrArg (fun z => some (Value.int z)) ((if_neg fun q => hc21_75 (Value.int.inj (List.cons.inj (List.cons.inj (e2.symm.trans (q.2.trans f2))).2).1)).symm), N0, rfl⟩
      · skip
        refine own_by (T' := s₁) (g' := (mkF m 24 #[.val (.ref t1), .val (.ref t2), .val (.int (0 : Int32))] [])) (fun _ k => XS.icmpNo X0.here hx rfl (hb hby d15_21) rfl (feq hc21_71).1 k) ?_
        refine own_by (T' := s₁) (g' := (mkF m 25 #[.val (.ref t1), .val (.ref t2), .val (.int (0 : Int32))] [(.int (0 : Int32))])) (fun _ k => XS.iconst X0.here hx rfl (hb hby d15_24) k) ?_
        refine own_ret X0 hlk (v := some (.int (0 : Int32))) (fun h => by rw [Bd.returns] at h; cases h) (fun fs hr => retN X0 hx (t := .boolean) Bd.returns (by simp) (hb hby d15_25) hr) ?_ (by decide) (by decide)
        rw [e0]
        exact ⟨congrArg (fun z => some (Value.int z)) ((if_neg fun q => hc21_71 (Value.int.inj (List.cons.inj (e2.symm.trans (q.2.trans f2))).1)).symm), N0, rfl⟩
theorem d9_0 : decode jdk_42_method_66_code 0 = .ok (.aload_n 0, 1) := by decide +kernel
theorem d9_1 : decode jdk_42_method_66_code 1 = .ok (.aload_n 1, 1) := by decide +kernel
theorem d9_2 : decode jdk_42_method_66_code 2 = .ok (.if_acmp .ne 5, 3) := by decide +kernel
theorem d9_7 : decode jdk_42_method_66_code 7 = .ok (.aload_n 1, 1) := by decide +kernel
theorem d9_8 : decode jdk_42_method_66_code 8 = .ok (.instanceof 10, 3) := by decide +kernel
theorem d9_11 : decode jdk_42_method_66_code 11 = .ok (.ifCond .eq 43, 3) := by decide +kernel
theorem d9_14 : decode jdk_42_method_66_code 14 = .ok (.aload_n 1, 1) := by decide +kernel
theorem d9_15 : decode jdk_42_method_66_code 15 = .ok (.checkcast 10, 3) := by decide +kernel
theorem d9_18 : decode jdk_42_method_66_code 18 = .ok (.astore_n 2, 1) := by decide +kernel
theorem d9_19 : decode jdk_42_method_66_code 19 = .ok (.getstatic 38, 3) := by decide +kernel
theorem d9_22 : decode jdk_42_method_66_code 22 = .ok (.ifCond .eq 14, 3) := by decide +kernel
theorem d9_25 : decode jdk_42_method_66_code 25 = .ok (.aload_n 0, 1) := by decide +kernel
theorem d9_26 : decode jdk_42_method_66_code 26 = .ok (.getfield 15, 3) := by decide +kernel
theorem d9_29 : decode jdk_42_method_66_code 29 = .ok (.aload_n 2, 1) := by decide +kernel
theorem d9_30 : decode jdk_42_method_66_code 30 = .ok (.getfield 15, 3) := by decide +kernel
theorem d9_33 : decode jdk_42_method_66_code 33 = .ok (.if_icmp .ne 21, 3) := by decide +kernel
theorem d9_36 : decode jdk_42_method_66_code 36 = .ok (.aload_n 0, 1) := by decide +kernel
theorem d9_37 : decode jdk_42_method_66_code 37 = .ok (.getfield 9, 3) := by decide +kernel
theorem d9_40 : decode jdk_42_method_66_code 40 = .ok (.aload_n 2, 1) := by decide +kernel
theorem d9_41 : decode jdk_42_method_66_code 41 = .ok (.getfield 9, 3) := by decide +kernel
theorem d9_44 : decode jdk_42_method_66_code 44 = .ok (.invokestatic 541, 3) := by decide +kernel
theorem d9_47 : decode jdk_42_method_66_code 47 = .ok (.ifCond .eq 7, 3) := by decide +kernel
theorem d9_50 : decode jdk_42_method_66_code 50 = .ok (.iconst 1, 1) := by decide +kernel
theorem d9_51 : decode jdk_42_method_66_code 51 = .ok (.goto 4, 3) := by decide +kernel
theorem d9_54 : decode jdk_42_method_66_code 54 = .ok (.iconst 0, 1) := by decide +kernel
theorem d9_55 : decode jdk_42_method_66_code 55 = .ok (.ireturn, 1) := by decide +kernel
theorem pn_9 : plainName "java/lang/String" = true := by first | (simp [plainName, overriddenIn]; done) | decide +kernel
theorem ef_seq (m : MethodId) (a : Addr) (b : Addr) : entryFrame m #[(.ref a), (.ref b)] 3 = mkF m 0 #[.val (.ref a), .val (.ref b), .unset] [] := by first | (simp [entryFrame, mkF, argsToLocals, Value.category]; done) | rfl
def Q_seq (Z : State) (a : Addr) (b : Addr) (t1 : Addr) (t2 : Addr) (k1 : ClassId) (k2 : ClassId) (cs : Int32) (n1 : Int32) (u1 : Int32) (n2 : Int32) (u2 : Int32) (h0 : Heap) (n0 : Nat) (v : Option Value) (h : Heap) (L : List Loc) : Prop := v = some (.int (own_eq n1 u1 n2 u2)) ∧ Fr n0 L ∧ h = h0
set_option maxRecDepth 65536 in
set_option maxHeartbeats 40000000 in
theorem seq (l : Launch) (Z : State) (a0 : Array Value) (hw : ∀ d ∈ tables_1, d.before a0 Z = true) (ws : List Jvm.Cond) (a : Addr) (b : Addr) (t1 : Addr) (t2 : Addr) (k1 : ClassId) (k2 : ClassId) (cs : Int32) (n1 : Int32) (u1 : Int32) (n2 : Int32) (u2 : Int32) (h0 : Heap) (n0 : Nat) (Z0 : n0 ≤ h0.size) (E_a : Exa Z h0 a "java/lang/String") (E_b : Exa Z h0 b "java/lang/String") (F_coder_a : Fld Z h0 a "java/lang/String" "coder" "B" (.int (0 : Int32))) (F_coder_b : Fld Z h0 b "java/lang/String" "coder" "B" (.int (0 : Int32))) (F_value_a : Fld Z h0 a "java/lang/String" "value" "[B" (.ref t1)) (F_value_b : Fld Z h0 b "java/lang/String" "value" "[B" (.ref t2)) (V_t1 : Arv Z h0 t1 k1 .byte (own_ln n1) (own_bs n1 u1) (.int (0 : Int32))) (V_t2 : Arv Z h0 t2 k2 .byte (own_ln n2) (own_bs n2 u2) (.int (0 : Int32))) (S_CS : Sta Z h0 "java/lang/String" "COMPACT_STRINGS" "Z" (.int cs)) (hcs : ¬ cs = (0 : Int32)) (nab : a ≠ b) :
    MetFree l (⟨"java/lang/String", "equals", "(Ljava/lang/Object;)Z"⟩ : MethodName) (head1 (Jvm.Cond.code (⟨"java/lang/String", "equals", "(Ljava/lang/Object;)Z"⟩ : MethodName) jdk_42_method_66_code 3 (some .boolean) :: ws) ({ frames := 1, cells := 0, slots := 0, locals := 14 } : Room)) (fun zz UU => zz = #[(.ref a), (.ref b)] ∧ Z.Warmed39 UU.vm ∧ UU.heap = h0) (fun _ _ _ _ _ => True) (fun _ U o U' => ∃ v L, o = .returned v ∧ Q_seq Z a b t1 t2 k1 k2 cs n1 u1 n2 u2 h0 n0 v U'.heap L ∧ FrameEnd U o U' L ({ frames := 1, cells := 0, slots := 0, locals := 14 } : Room).cells ({ frames := 1, cells := 0, slots := 0, locals := 14 } : Room).slots) := by
  refine MetFree.of_bodySF (plainFor_of_name pn_9) hisR ?_
  intro p e s m args below meth c s₁ Bd hml0 hP hK
  obtain ⟨rfl, hZ, hh⟩ := hP
  have hx := Bd.exec
  have hby := Bd.bytes
  have hml : c.maxLocals = 3 := hml0
  have hown : s.vm.findClass "java/lang/String" = some m.cls := findClass_of_methodNamed Bd.named
  have hnm := (name_of_methodNamed Bd.named Bd.method).1
  have hlk : meth.locks = false := BodyLoose.notSynchronized Bd
  have X0 : Stand p l e ({ frames := 1, cells := 0, slots := 0, locals := 14 } : Room) s m #[(.ref a), (.ref b)] below meth c s₁ [] 0 0 := Stand.of_body Bd
  have e0 : s₁.heap = h0 := by rw [← hh, Bd.state]; rfl
  have N0 := Fr.nil n0
  show own_Go p.tables e below (Q_seq Z a b t1 t2 k1 k2 cs n1 u1 n2 u2 h0 n0) s ({ frames := 1, cells := 0, slots := 0, locals := 14 } : Room).cells ({ frames := 1, cells := 0, slots := 0, locals := 14 } : Room).slots s₁ (entryFrame m #[(.ref a), (.ref b)] 3)
  rw [ef_seq m a b]
  refine own_by (T' := s₁) (g' := (mkF m 1 #[.val (.ref a), .val (.ref b), .unset] [(.ref a)])) (fun _ k => XS.aloadN X0.here hx rfl (hb hby d9_0) rfl rfl k) ?_
  refine own_by (T' := s₁) (g' := (mkF m 2 #[.val (.ref a), .val (.ref b), .unset] [(.ref b), (.ref a)])) (fun _ k => XS.aloadN X0.here hx rfl (hb hby d9_1) rfl rfl k) ?_
  refine own_by (T' := s₁) (g' := (mkF m 7 #[.val (.ref a), .val (.ref b), .unset] [])) (fun _ k => Jvm.RoadKit.acmp (g := (mkF m 2 #[.val (.ref a), .val (.ref b), .unset] [(.ref b), (.ref a)])) X0 hx rfl rfl rfl (pc0 := 2) (pc' := 7) (same := false) rfl (hb hby d9_2) rfl (decide_eq_false fun q => nab (Value.ref.inj q)) (by decide) (by decide) k) ?_
  refine own_by (T' := s₁) (g' := (mkF m 8 #[.val (.ref a), .val (.ref b), .unset] [(.ref b)])) (fun _ k => XS.aloadN X0.here hx rfl (hb hby d9_7) rfl rfl k) ?_
  obtain ⟨T21, X21, e21, st21⟩ := instY X0 hx hZ hown (hw _ (List.mem_of_getElem? (i := 87) rfl)) e0 (Ins.self E_b) (g := (mkF m 8 #[.val (.ref a), .val (.ref b), .unset] [(.ref b)])) rfl rfl (hb hby d9_8)
  refine own_by (T' := T21) (g' := (mkF m 11 #[.val (.ref a), .val (.ref b), .unset] [(.int (1 : Int32))])) (fun _ k => st21 _ k) ?_
  refine own_by (T' := T21) (g' := (mkF m 14 #[.val (.ref a), .val (.ref b), .unset] [])) (fun _ k => XS.ifNo X21.here hx rfl (hb hby d9_11) rfl ((if0 _ _).trans (feq (by decide)).1) k) ?_
  refine own_by (T' := T21) (g' := (mkF m 15 #[.val (.ref a), .val (.ref b), .unset] [(.ref b)])) (fun _ k => XS.aloadN X21.here hx rfl (hb hby d9_14) rfl rfl k) ?_
  obtain ⟨T22, X22, e22, st22⟩ := castY X21 hx hZ hown (hw _ (List.mem_of_getElem? (i := 87) rfl)) e21 (Ins.self E_b) (g := (mkF m 15 #[.val (.ref a), .val (.ref b), .unset] [(.ref b)])) rfl rfl (hb hby d9_15)
  refine own_by (T' := T22) (g' := (mkF m 18 #[.val (.ref a), .val (.ref b), .unset] [(.ref b)])) (fun _ k => st22 _ k) ?_
  refine own_by (T' := T22) (g' := (mkF m 19 #[.val (.ref a), .val (.ref b), .val (.ref b)] [])) (fun _ k => XS.astoreN X22.here hx rfl (hb hby d9_18) rfl rfl (l' := #[.val (.ref a), .val (.ref b), .val (.ref b)]) rfl k) ?_
  obtain ⟨T23, X23, e23, st23⟩ := getS2 X22 hx hZ hown (host := "") (Or.inl (hw _ (List.mem_of_getElem? (i := 61) rfl))) Via.refl e22 S_CS (g := (mkF m 19 #[.val (.ref a), .val (.ref b), .val (.ref b)] [])) rfl (hb hby d9_19)
  refine own_by (T' := T23) (g' := (mkF m 22 #[.val (.ref a), .val (.ref b), .val (.ref b)] [(.int cs)])) (fun _ k => st23 _ k) ?_
  refine own_by (T' := T23) (g' := (mkF m 25 #[.val (.ref a), .val (.ref b), .val (.ref b)] [])) (fun _ k => XS.ifNo X23.here hx rfl (hb hby d9_22) rfl ((if0 _ _).trans (feq hcs).1) k) ?_
  refine own_by (T' := T23) (g' := (mkF m 26 #[.val (.ref a), .val (.ref b), .val (.ref b)] [(.ref a)])) (fun _ k => XS.aloadN X23.here hx rfl (hb hby d9_25) rfl rfl k) ?_
  obtain ⟨T24, X24, e24, st24⟩ := getF X23 hx hZ hown (host := "") (Or.inl (hw _ (List.mem_of_getElem? (i := 25) rfl))) Via.refl e23 F_coder_a (g := (mkF m 26 #[.val (.ref a), .val (.ref b), .val (.ref b)] [(.ref a)])) rfl rfl (hb hby d9_26)
  refine own_by (T' := T24) (g' := (mkF m 29 #[.val (.ref a), .val (.ref b), .val (.ref b)] [(.int (0 : Int32))])) (fun _ k => st24 _ k) ?_
  refine own_by (T' := T24) (g' := (mkF m 30 #[.val (.ref a), .val (.ref b), .val (.ref b)] [(.ref b), (.int (0 : Int32))])) (fun _ k => XS.aloadN X24.here hx rfl (hb hby d9_29) rfl rfl k) ?_
  obtain ⟨T25, X25, e25, st25⟩ := getF X24 hx hZ hown (host := "") (Or.inl (hw _ (List.mem_of_getElem? (i := 25) rfl))) Via.refl e24 F_coder_b (g := (mkF m 30 #[.val (.ref a), .val (.ref b), .val (.ref b)] [(.ref b), (.int (0 : Int32))])) rfl rfl (hb hby d9_30)
  refine own_by (T' := T25) (g' := (mkF m 33 #[.val (.ref a), .val (.ref b), .val (.ref b)] [(.int (0 : Int32)), (.int (0 : Int32))])) (fun _ k => st25 _ k) ?_
  refine own_by (T' := T25) (g' := (mkF m 36 #[.val (.ref a), .val (.ref b), .val (.ref b)] [])) (fun _ k => XS.icmpNo X25.here hx rfl (hb hby d9_33) rfl (teq (by decide)).2 k) ?_
  refine own_by (T' := T25) (g' := (mkF m 37 #[.val (.ref a), .val (.ref b), .val (.ref b)] [(.ref a)])) (fun _ k => XS.aloadN X25.here hx rfl (hb hby d9_36) rfl rfl k) ?_
  obtain ⟨T26, X26, e26, st26⟩ := getF X25 hx hZ hown (host := "") (Or.inl (hw _ (List.mem_of_getElem? (i := 24) rfl))) Via.refl e25 F_value_a (g := (mkF m 37 #[.val (.ref a), .val (.ref b), .val (.ref b)] [(.ref a)])) rfl rfl (hb hby d9_37)
  refine own_by (T' := T26) (g' := (mkF m 40 #[.val (.ref a), .val (.ref b), .val (.ref b)] [(.ref t1)])) (fun _ k => st26 _ k) ?_
  refine own_by (T' := T26) (g' := (mkF m 41 #[.val (.ref a), .val (.ref b), .val (.ref b)] [(.ref b), (.ref t1)])) (fun _ k => XS.aloadN X26.here hx rfl (hb hby d9_40) rfl rfl k) ?_
  obtain ⟨T27, X27, e27, st27⟩ := getF X26 hx hZ hown (host := "") (Or.inl (hw _ (List.mem_of_getElem? (i := 24) rfl))) Via.refl e26 F_value_b (g := (mkF m 41 #[.val (.ref a), .val (.ref b), .val (.ref b)] [(.ref b), (.ref t1)])) rfl rfl (hb hby d9_41)
  refine own_by (T' := T27) (g' := (mkF m 44 #[.val (.ref a), .val (.ref b), .val (.ref b)] [(.ref t2), (.ref t1)])) (fun _ k => st27 _ k) ?_
  obtain ⟨_, _, ⟨T28, L28, k28, n28⟩, -, X28, ⟨Lc28, hQ28, l28, y28, z28⟩, st28⟩ := Jvm.LawKit.callS X27 hx (y := (⟨"java/lang/StringLatin1", "equals", "([B[B)Z"⟩ : MethodName)) hown (mvT hZ (hw _ (List.mem_of_getElem? (i := 88) rfl))) (mvT hZ (hw _ (List.mem_of_getElem? (i := 89) rfl))) (mvT hZ (hw _ (List.mem_of_getElem? (i := 90) rfl))) (mvT hZ (hw _ (List.mem_of_getElem? (i := 91) rfl))) (by decide) (backOf (W := 0) (leq l Z a0 hw [] t1 t2 k1 k2 n1 u1 n2 u2 h0 n0 Z0 V_t1 V_t2) hZ (hw _ (List.mem_of_getElem? (i := 91) rfl)) (hw _ (List.mem_of_getElem? (i := 90) rfl)) (by decide) (by decide)) (g := (mkF m 44 #[.val (.ref a), .val (.ref b), .val (.ref b)] [(.ref t2), (.ref t1)])) rfl (by rw [hml]; rfl) (argsL := [(.ref t1), (.ref t2)]) (rest := []) (lenOf pd_8 rfl) rfl (by show 2 * 0 + _ ≤ _; exact Nat.le_of_eq rfl) (hb hby d9_44) (fun _ _ => ⟨rfl, e27, (by decide : 0 + 0 ≤ _), (by decide : 0 + 0 ≤ _)⟩)
  dsimp only [Pt.U, Pt.locs, Pt.cells, Pt.slots] at X28 l28 y28 z28 st28 hQ28
  subst l28 y28 z28
  obtain ⟨rfl, N28q, e28⟩ := hQ28
  have N28 := Fr.app N0 N28q
  refine own_by (T' := T28) (g' := (mkF m 47 #[.val (.ref a), .val (.ref b), .val (.ref b)] [(.int (own_eq n1 u1 n2 u2))])) (fun _ k => st28 _ k) ?_
  by_cases hc47_29 : (own_eq n1 u1 n2 u2) = (0 : Int32)
  · skip
    refine own_by (T' := T28) (g' := (mkF m 54 #[.val (.ref a), .val (.ref b), .val (.ref b)] [])) (fun _ k => XS.ifYes X28.here hx rfl (pc0 := 47) (pc' := 54) rfl (hb hby d9_47) rfl ((if0 _ _).trans (teq hc47_29).1) (by decide) (by decide) k) ?_
    refine own_by (T' := T28) (g' := (mkF m 55 #[.val (.ref a), .val (.ref b), .val (.ref b)] [(.int (0 : Int32))])) (fun _ k => XS.iconst X28.here hx rfl (hb hby d9_54) k) ?_
    refine own_ret X28 hlk (v := some (.int (0 : Int32))) (fun h => by rw [Bd.returns] at h; cases h) (fun fs hr => retN X28 hx (t := .boolean) Bd.returns (by simp) (hb hby d9_55) hr) ?_ (by decide) (by decide)
    rw [e28]
    exact ⟨congrArg (fun z => some (Value.int z)) hc47_29.symm, N28, rfl⟩
  · skip
    refine own_by (T' := T28) (g' := (mkF m 50 #[.val (.ref a), .val (.ref b), .val (.ref b)] [])) (fun _ k => XS.ifNo X28.here hx rfl (hb hby d9_47) rfl ((if0 _ _).trans (feq hc47_29).1) k) ?_
    refine own_by (T' := T28) (g' := (mkF m 51 #[.val (.ref a), .val (.ref b), .val (.ref b)] [(.int (1 : Int32))])) (fun _ k => XS.iconst X28.here hx rfl (hb hby d9_50) k) ?_
    refine own_by (T' := T28) (g' := (mkF m 55 #[.val (.ref a), .val (.ref b), .val (.ref b)] [(.int (1 : Int32))])) (fun _ k => XS.goto X28.here hx rfl (pc0 := 51) (pc' := 55) rfl (hb hby d9_51) (by decide) (by decide) k) ?_
    refine own_ret X28 hlk (v := some (.int (1 : Int32))) (fun h => by rw [Bd.returns] at h; cases h) (fun fs hr => retN X28 hx (t := .boolean) Bd.returns (by simp) (hb hby d9_55) hr) ?_ (by decide) (by decide)
    rw [e28]
    exact ⟨congrArg (fun z => some (Value.int z)) (own_eq1 hc47_29).symm, N28, rfl⟩
theorem d9_5 : decode jdk_42_method_66_code 5 = .ok (.iconst 1, 1) := by decide +kernel
theorem d9_6 : decode jdk_42_method_66_code 6 = .ok (.ireturn, 1) := by decide +kernel
theorem ef_seq_same (m : MethodId) (a : Addr) : entryFrame m #[(.ref a), (.ref a)] 3 = mkF m 0 #[.val (.ref a), .val (.ref a), .unset] [] := by first | (simp [entryFrame, mkF, argsToLocals, Value.category]; done) | rfl
def Q_seq_same (Z : State) (a : Addr) (h0 : Heap) (n0 : Nat) (v : Option Value) (h : Heap) (L : List Loc) : Prop := v = some (.int (1 : Int32)) ∧ Fr n0 L ∧ h = h0
set_option maxRecDepth 65536 in
set_option maxHeartbeats 40000000 in
theorem seq_same (l : Launch) (Z : State) (a0 : Array Value) (hw : ∀ d ∈ tables_1, d.before a0 Z = true) (ws : List Jvm.Cond) (a : Addr) (h0 : Heap) (n0 : Nat) (Z0 : n0 ≤ h0.size) :
    MetFree l (⟨"java/lang/String", "equals", "(Ljava/lang/Object;)Z"⟩ : MethodName) (head1 (Jvm.Cond.code (⟨"java/lang/String", "equals", "(Ljava/lang/Object;)Z"⟩ : MethodName) jdk_42_method_66_code 3 (some .boolean) :: ws) ({ frames := 0, cells := 0, slots := 0, locals := 0 } : Room)) (fun zz UU => zz = #[(.ref a), (.ref a)] ∧ Z.Warmed39 UU.vm ∧ UU.heap = h0) (fun _ _ _ _ _ => True) (fun _ U o U' => ∃ v L, o = .returned v ∧ Q_seq_same Z a h0 n0 v U'.heap L ∧ FrameEnd U o U' L ({ frames := 0, cells := 0, slots := 0, locals := 0 } : Room).cells ({ frames := 0, cells := 0, slots := 0, locals := 0 } : Room).slots) := by
  refine MetFree.of_bodySF (plainFor_of_name pn_9) hisR ?_
  intro p e s m args below meth c s₁ Bd hml0 hP hK
  obtain ⟨rfl, hZ, hh⟩ := hP
  have hx := Bd.exec
  have hby := Bd.bytes
  have hml : c.maxLocals = 3 := hml0
  have hown : s.vm.findClass "java/lang/String" = some m.cls := findClass_of_methodNamed Bd.named
  have hnm := (name_of_methodNamed Bd.named Bd.method).1
  have hlk : meth.locks = false := BodyLoose.notSynchronized Bd
  have X0 : Stand p l e ({ frames := 0, cells := 0, slots := 0, locals := 0 } : Room) s m #[(.ref a), (.ref a)] below meth c s₁ [] 0 0 := Stand.of_body Bd
  have e0 : s₁.heap = h0 := by rw [← hh, Bd.state]; rfl
  have N0 := Fr.nil n0
  show own_Go p.tables e below (Q_seq_same Z a h0 n0) s ({ frames := 0, cells := 0, slots := 0, locals := 0 } : Room).cells ({ frames := 0, cells := 0, slots := 0, locals := 0 } : Room).slots s₁ (entryFrame m #[(.ref a), (.ref a)] 3)
  rw [ef_seq_same m a]
  refine own_by (T' := s₁) (g' := (mkF m 1 #[.val (.ref a), .val (.ref a), .unset] [(.ref a)])) (fun _ k => XS.aloadN X0.here hx rfl (hb hby d9_0) rfl rfl k) ?_
  refine own_by (T' := s₁) (g' := (mkF m 2 #[.val (.ref a), .val (.ref a), .unset] [(.ref a), (.ref a)])) (fun _ k => XS.aloadN X0.here hx rfl (hb hby d9_1) rfl rfl k) ?_
  refine own_by (T' := s₁) (g' := (mkF m 5 #[.val (.ref a), .val (.ref a), .unset] [])) (fun _ k => Jvm.RoadKit.acmp (g := (mkF m 2 #[.val (.ref a), .val (.ref a), .unset] [(.ref a), (.ref a)])) X0 hx rfl rfl rfl (pc0 := 2) (pc' := 5) (same := true) rfl (hb hby d9_2) rfl (decide_eq_true rfl) (by decide) (by decide) k) ?_
  refine own_by (T' := s₁) (g' := (mkF m 6 #[.val (.ref a), .val (.ref a), .unset] [(.int (1 : Int32))])) (fun _ k => XS.iconst X0.here hx rfl (hb hby d9_5) k) ?_
  refine own_ret X0 hlk (v := some (.int (1 : Int32))) (fun h => by rw [Bd.returns] at h; cases h) (fun fs hr => retN X0 hx (t := .boolean) Bd.returns (by simp) (hb hby d9_6) hr) ?_ (by decide) (by decide)
  rw [e0]
  exact ⟨rfl, N0, rfl⟩
theorem d8_0 : decode prog_33_method_4_code 0 = .ok (.aload_n 1, 1) := by decide +kernel
theorem d8_1 : decode prog_33_method_4_code 1 = .ok (.instanceof 18, 3) := by decide +kernel
theorem d8_4 : decode prog_33_method_4_code 4 = .ok (.ifCond .eq 26, 3) := by decide +kernel
theorem d8_7 : decode prog_33_method_4_code 7 = .ok (.aload_n 1, 1) := by decide +kernel
theorem d8_8 : decode prog_33_method_4_code 8 = .ok (.checkcast 18, 3) := by decide +kernel
theorem d8_11 : decode prog_33_method_4_code 11 = .ok (.astore_n 2, 1) := by decide +kernel
theorem d8_12 : decode prog_33_method_4_code 12 = .ok (.aload_n 0, 1) := by decide +kernel
theorem d8_13 : decode prog_33_method_4_code 13 = .ok (.getfield 17, 3) := by decide +kernel
theorem d8_16 : decode prog_33_method_4_code 16 = .ok (.aload_n 2, 1) := by decide +kernel
theorem d8_17 : decode prog_33_method_4_code 17 = .ok (.getfield 17, 3) := by decide +kernel
theorem d8_20 : decode prog_33_method_4_code 20 = .ok (.invokevirtual 73, 3) := by decide +kernel
theorem d8_23 : decode prog_33_method_4_code 23 = .ok (.ifCond .eq 7, 3) := by decide +kernel
theorem d8_26 : decode prog_33_method_4_code 26 = .ok (.iconst 1, 1) := by decide +kernel
theorem d8_27 : decode prog_33_method_4_code 27 = .ok (.goto 4, 3) := by decide +kernel
theorem d8_30 : decode prog_33_method_4_code 30 = .ok (.iconst 0, 1) := by decide +kernel
theorem d8_31 : decode prog_33_method_4_code 31 = .ok (.ireturn, 1) := by decide +kernel
theorem pn_8 : plainName "com/example/postings/postings/search/Phrase" = true := by first | (simp [plainName, overriddenIn]; done) | decide +kernel
theorem ef_peq_P (m : MethodId) (a : Addr) (b : Addr) : entryFrame m #[(.ref a), (.ref b)] 3 = mkF m 0 #[.val (.ref a), .val (.ref b), .unset] [] := by first | (simp [entryFrame, mkF, argsToLocals, Value.category]; done) | rfl
def Q_peq_P (Z : State) (a : Addr) (b : Addr) (s1 : Addr) (s2 : Addr) (t1 : Addr) (t2 : Addr) (k1 : ClassId) (k2 : ClassId) (cs : Int32) (n1 : Int32) (u1 : Int32) (n2 : Int32) (u2 : Int32) (h0 : Heap) (n0 : Nat) (v : Option Value) (h : Heap) (L : List Loc) : Prop := v = some (.int (own_eq n1 u1 n2 u2)) ∧ Fr n0 L ∧ h = h0
set_option maxRecDepth 65536 in
set_option maxHeartbeats 40000000 in
theorem peq_P (l : Launch) (Z : State) (a0 : Array Value) (hw : ∀ d ∈ tables_1, d.before a0 Z = true) (ws : List Jvm.Cond) (a : Addr) (b : Addr) (s1 : Addr) (s2 : Addr) (t1 : Addr) (t2 : Addr) (k1 : ClassId) (k2 : ClassId) (cs : Int32) (n1 : Int32) (u1 : Int32) (n2 : Int32) (u2 : Int32) (h0 : Heap) (n0 : Nat) (Z0 : n0 ≤ h0.size) (E_b : Exa Z h0 b "com/example/postings/postings/search/Phrase") (F_text_a : Fld Z h0 a "com/example/postings/postings/search/Phrase" "text" "Ljava/lang/String;" (.ref s1)) (F_text_b : Fld Z h0 b "com/example/postings/postings/search/Phrase" "text" "Ljava/lang/String;" (.ref s2)) (E_s1 : Exa Z h0 s1 "java/lang/String") (E_s2 : Exa Z h0 s2 "java/lang/String") (F_coder_s1 : Fld Z h0 s1 "java/lang/String" "coder" "B" (.int (0 : Int32))) (F_coder_s2 : Fld Z h0 s2 "java/lang/String" "coder" "B" (.int (0 : Int32))) (F_value_s1 : Fld Z h0 s1 "java/lang/String" "value" "[B" (.ref t1)) (F_value_s2 : Fld Z h0 s2 "java/lang/String" "value" "[B" (.ref t2)) (V_t1 : Arv Z h0 t1 k1 .byte (own_ln n1) (own_bs n1 u1) (.int (0 : Int32))) (V_t2 : Arv Z h0 t2 k2 .byte (own_ln n2) (own_bs n2 u2) (.int (0 : Int32))) (S_CS : Sta Z h0 "java/lang/String" "COMPACT_STRINGS" "Z" (.int cs)) (hcs : ¬ cs = (0 : Int32)) (nab : s1 ≠ s2) :
    MetFree l (⟨"com/example/postings/postings/search/Phrase", "equals", "(Ljava/lang/Object;)Z"⟩ : MethodName) (head1 (Jvm.Cond.code (⟨"com/example/postings/postings/search/Phrase", "equals", "(Ljava/lang/Object;)Z"⟩ : MethodName) prog_33_method_4_code 3 (some .boolean) :: ws) ({ frames := 2, cells := 0, slots := 0, locals := 28 } : Room)) (fun zz UU => zz = #[(.ref a), (.ref b)] ∧ Z.Warmed39 UU.vm ∧ UU.heap = h0) (fun _ _ _ _ _ => True) (fun _ U o U' => ∃ v L, o = .returned v ∧ Q_peq_P Z a b s1 s2 t1 t2 k1 k2 cs n1 u1 n2 u2 h0 n0 v U'.heap L ∧ FrameEnd U o U' L ({ frames := 2, cells := 0, slots := 0, locals := 28 } : Room).cells ({ frames := 2, cells := 0, slots := 0, locals := 28 } : Room).slots) := by
  refine MetFree.of_bodySF (plainFor_of_name pn_8) hisR ?_
  intro p e s m args below meth c s₁ Bd hml0 hP hK
  obtain ⟨rfl, hZ, hh⟩ := hP
  have hx := Bd.exec
  have hby := Bd.bytes
  have hml : c.maxLocals = 3 := hml0
  have hown : s.vm.findClass "com/example/postings/postings/search/Phrase" = some m.cls := findClass_of_methodNamed Bd.named
  have hnm := (name_of_methodNamed Bd.named Bd.method).1
  have hlk : meth.locks = false := BodyLoose.notSynchronized Bd
  have X0 : Stand p l e ({ frames := 2, cells := 0, slots := 0, locals := 28 } : Room) s m #[(.ref a), (.ref b)] below meth c s₁ [] 0 0 := Stand.of_body Bd
  have e0 : s₁.heap = h0 := by rw [← hh, Bd.state]; rfl
  have N0 := Fr.nil n0
  show own_Go p.tables e below (Q_peq_P Z a b s1 s2 t1 t2 k1 k2 cs n1 u1 n2 u2 h0 n0) s ({ frames := 2, cells := 0, slots := 0, locals := 28 } : Room).cells ({ frames := 2, cells := 0, slots := 0, locals := 28 } : Room).slots s₁ (entryFrame m #[(.ref a), (.ref b)] 3)
  rw [ef_peq_P m a b]
  refine own_by (T' := s₁) (g' := (mkF m 1 #[.val (.ref a), .val (.ref b), .unset] [(.ref b)])) (fun _ k => XS.aloadN X0.here hx rfl (hb hby d8_0) rfl rfl k) ?_
  obtain ⟨T21, X21, e21, st21⟩ := instY X0 hx hZ hown (hw _ (List.mem_of_getElem? (i := 51) rfl)) e0 (Ins.self E_b) (g := (mkF m 1 #[.val (.ref a), .val (.ref b), .unset] [(.ref b)])) rfl rfl (hb hby d8_1)
  refine own_by (T' := T21) (g' := (mkF m 4 #[.val (.ref a), .val (.ref b), .unset] [(.int (1 : Int32))])) (fun _ k => st21 _ k) ?_
  refine own_by (T' := T21) (g' := (mkF m 7 #[.val (.ref a), .val (.ref b), .unset] [])) (fun _ k => XS.ifNo X21.here hx rfl (hb hby d8_4) rfl ((if0 _ _).trans (feq (by decide)).1) k) ?_
  refine own_by (T' := T21) (g' := (mkF m 8 #[.val (.ref a), .val (.ref b), .unset] [(.ref b)])) (fun _ k => XS.aloadN X21.here hx rfl (hb hby d8_7) rfl rfl k) ?_
  obtain ⟨T22, X22, e22, st22⟩ := castY X21 hx hZ hown (hw _ (List.mem_of_getElem? (i := 51) rfl)) e21 (Ins.self E_b) (g := (mkF m 8 #[.val (.ref a), .val (.ref b), .unset] [(.ref b)])) rfl rfl (hb hby d8_8)
  refine own_by (T' := T22) (g' := (mkF m 11 #[.val (.ref a), .val (.ref b), .unset] [(.ref b)])) (fun _ k => st22 _ k) ?_
  refine own_by (T' := T22) (g' := (mkF m 12 #[.val (.ref a), .val (.ref b), .val (.ref b)] [])) (fun _ k => XS.astoreN X22.here hx rfl (hb hby d8_11) rfl rfl (l' := #[.val (.ref a), .val (.ref b), .val (.ref b)]) rfl k) ?_
  refine own_by (T' := T22) (g' := (mkF m 13 #[.val (.ref a), .val (.ref b), .val (.ref b)] [(.ref a)])) (fun _ k => XS.aloadN X22.here hx rfl (hb hby d8_12) rfl rfl k) ?_
  obtain ⟨T23, X23, e23, st23⟩ := getF X22 hx hZ hown (host := "") (Or.inl (hw _ (List.mem_of_getElem? (i := 44) rfl))) Via.refl e22 F_text_a (g := (mkF m 13 #[.val (.ref a), .val (.ref b), .val (.ref b)] [(.ref a)])) rfl rfl (hb hby d8_13)
  refine own_by (T' := T23) (g' := (mkF m 16 #[.val (.ref a), .val (.ref b), .val (.ref b)] [(.ref s1)])) (fun _ k => st23 _ k) ?_
  refine own_by (T' := T23) (g' := (mkF m 17 #[.val (.ref a), .val (.ref b), .val (.ref b)] [(.ref b), (.ref s1)])) (fun _ k => XS.aloadN X23.here hx rfl (hb hby d8_16) rfl rfl k) ?_
  obtain ⟨T24, X24, e24, st24⟩ := getF X23 hx hZ hown (host := "") (Or.inl (hw _ (List.mem_of_getElem? (i := 44) rfl))) Via.refl e23 F_text_b (g := (mkF m 17 #[.val (.ref a), .val (.ref b), .val (.ref b)] [(.ref b), (.ref s1)])) rfl rfl (hb hby d8_17)
  refine own_by (T' := T24) (g' := (mkF m 20 #[.val (.ref a), .val (.ref b), .val (.ref b)] [(.ref s2), (.ref s1)])) (fun _ k => st24 _ k) ?_
  obtain ⟨cq25, kq25, q25a, q25b, q25c⟩ := isOf hZ e24 E_s1
  obtain ⟨_, _, ⟨T25, L25, k25, n25⟩, -, X25, ⟨Lc25, hQ25, l25, y25, z25⟩, st25⟩ := X24.virtualBack hx (y := (⟨"java/lang/String", "equals", "(Ljava/lang/Object;)Z"⟩ : MethodName)) (z := (⟨"java/lang/String", "equals", "(Ljava/lang/Object;)Z"⟩ : MethodName)) hown (mvT hZ (hw _ (List.mem_of_getElem? (i := 53) rfl))) (mvT hZ (hw _ (List.mem_of_getElem? (i := 54) rfl))) (notFace_of_selects (args := #[]) (mvT hZ (hw _ (List.mem_of_getElem? (i := 56) rfl)))) (mvT hZ (hw _ (List.mem_of_getElem? (i := 56) rfl))) (mvT hZ (hw _ (List.mem_of_getElem? (i := 55) rfl))) (by decide) (backOf (W := 0) (seq l Z a0 hw [] s1 s2 t1 t2 k1 k2 cs n1 u1 n2 u2 h0 n0 Z0 E_s1 E_s2 F_coder_s1 F_coder_s2 F_value_s1 F_value_s2 V_t1 V_t2 S_CS hcs nab) hZ (hw _ (List.mem_of_getElem? (i := 57) rfl)) (hw _ (List.mem_of_getElem? (i := 6) rfl)) (by decide) (by decide)) q25a q25c (g := (mkF m 20 #[.val (.ref a), .val (.ref b), .val (.ref b)] [(.ref s2), (.ref s1)])) rfl (by rw [hml]; rfl) (Steps.refl _) (argsL := [(.ref s2)]) (rest := []) (lenOf pd_9 rfl) rfl (by show 2 * 0 + _ ≤ _; exact Nat.le_of_eq rfl) (hb hby d8_20) (fun _ _ => ⟨rfl, e24, (by decide : 0 + 0 ≤ _), (by decide : 0 + 0 ≤ _)⟩)
  dsimp only [Pt.U, Pt.locs, Pt.cells, Pt.slots] at X25 l25 y25 z25 st25 hQ25
  subst l25 y25 z25
  obtain ⟨rfl, N25q, e25⟩ := hQ25
  have N25 := Fr.app N0 N25q
  refine own_by (T' := T25) (g' := (mkF m 23 #[.val (.ref a), .val (.ref b), .val (.ref b)] [(.int (own_eq n1 u1 n2 u2))])) (fun _ k => st25.trans k) ?_
  by_cases hc23_26 : (own_eq n1 u1 n2 u2) = (0 : Int32)
  · skip
    refine own_by (T' := T25) (g' := (mkF m 30 #[.val (.ref a), .val (.ref b), .val (.ref b)] [])) (fun _ k => XS.ifYes X25.here hx rfl (pc0 := 23) (pc' := 30) rfl (hb hby d8_23) rfl ((if0 _ _).trans (teq hc23_26).1) (by decide) (by decide) k) ?_
    refine own_by (T' := T25) (g' := (mkF m 31 #[.val (.ref a), .val (.ref b), .val (.ref b)] [(.int (0 : Int32))])) (fun _ k => XS.iconst X25.here hx rfl (hb hby d8_30) k) ?_
    refine own_ret X25 hlk (v := some (.int (0 : Int32))) (fun h => by rw [Bd.returns] at h; cases h) (fun fs hr => retN X25 hx (t := .boolean) Bd.returns (by simp) (hb hby d8_31) hr) ?_ (by decide) (by decide)
    rw [e25]
    exact ⟨congrArg (fun z => some (Value.int z)) hc23_26.symm, N25, rfl⟩
  · skip
    refine own_by (T' := T25) (g' := (mkF m 26 #[.val (.ref a), .val (.ref b), .val (.ref b)] [])) (fun _ k => XS.ifNo X25.here hx rfl (hb hby d8_23) rfl ((if0 _ _).trans (feq hc23_26).1) k) ?_
    refine own_by (T' := T25) (g' := (mkF m 27 #[.val (.ref a), .val (.ref b), .val (.ref b)] [(.int (1 : Int32))])) (fun _ k => XS.iconst X25.here hx rfl (hb hby d8_26) k) ?_
    refine own_by (T' := T25) (g' := (mkF m 31 #[.val (.ref a), .val (.ref b), .val (.ref b)] [(.int (1 : Int32))])) (fun _ k => XS.goto X25.here hx rfl (pc0 := 27) (pc' := 31) rfl (hb hby d8_27) (by decide) (by decide) k) ?_
    refine own_ret X25 hlk (v := some (.int (1 : Int32))) (fun h => by rw [Bd.returns] at h; cases h) (fun fs hr => retN X25 hx (t := .boolean) Bd.returns (by simp) (hb hby d8_31) hr) ?_ (by decide) (by decide)
    rw [e25]
    exact ⟨congrArg (fun z => some (Value.int z)) (own_eq1 hc23_26).symm, N25, rfl⟩
theorem ef_peq_W (m : MethodId) (a : Addr) (b : Addr) : entryFrame m #[(.ref a), (.ref b)] 3 = mkF m 0 #[.val (.ref a), .val (.ref b), .unset] [] := by first | (simp [entryFrame, mkF, argsToLocals, Value.category]; done) | rfl
def Q_peq_W (Z : State) (a : Addr) (b : Addr) (h0 : Heap) (n0 : Nat) (v : Option Value) (h : Heap) (L : List Loc) : Prop := v = some (.int (0 : Int32)) ∧ Fr n0 L ∧ h = h0
set_option maxRecDepth 65536 in
set_option maxHeartbeats 40000000 in
theorem peq_W (l : Launch) (Z : State) (a0 : Array Value) (hw : ∀ d ∈ tables_1, d.before a0 Z = true) (ws : List Jvm.Cond) (a : Addr) (b : Addr) (h0 : Heap) (n0 : Nat) (Z0 : n0 ≤ h0.size) (E_b : Exa Z h0 b "com/example/postings/postings/search/Words") :
    MetFree l (⟨"com/example/postings/postings/search/Phrase", "equals", "(Ljava/lang/Object;)Z"⟩ : MethodName) (head1 (Jvm.Cond.code (⟨"com/example/postings/postings/search/Phrase", "equals", "(Ljava/lang/Object;)Z"⟩ : MethodName) prog_33_method_4_code 3 (some .boolean) :: ws) ({ frames := 0, cells := 0, slots := 0, locals := 0 } : Room)) (fun zz UU => zz = #[(.ref a), (.ref b)] ∧ Z.Warmed39 UU.vm ∧ UU.heap = h0) (fun _ _ _ _ _ => True) (fun _ U o U' => ∃ v L, o = .returned v ∧ Q_peq_W Z a b h0 n0 v U'.heap L ∧ FrameEnd U o U' L ({ frames := 0, cells := 0, slots := 0, locals := 0 } : Room).cells ({ frames := 0, cells := 0, slots := 0, locals := 0 } : Room).slots) := by
  refine MetFree.of_bodySF (plainFor_of_name pn_8) hisR ?_
  intro p e s m args below meth c s₁ Bd hml0 hP hK
  obtain ⟨rfl, hZ, hh⟩ := hP
  have hx := Bd.exec
  have hby := Bd.bytes
  have hml : c.maxLocals = 3 := hml0
  have hown : s.vm.findClass "com/example/postings/postings/search/Phrase" = some m.cls := findClass_of_methodNamed Bd.named
  have hnm := (name_of_methodNamed Bd.named Bd.method).1
  have hlk : meth.locks = false := BodyLoose.notSynchronized Bd
  have X0 : Stand p l e ({ frames := 0, cells := 0, slots := 0, locals := 0 } : Room) s m #[(.ref a), (.ref b)] below meth c s₁ [] 0 0 := Stand.of_body Bd
  have e0 : s₁.heap = h0 := by rw [← hh, Bd.state]; rfl
  have N0 := Fr.nil n0
  show own_Go p.tables e below (Q_peq_W Z a b h0 n0) s ({ frames := 0, cells := 0, slots := 0, locals := 0 } : Room).cells ({ frames := 0, cells := 0, slots := 0, locals := 0 } : Room).slots s₁ (entryFrame m #[(.ref a), (.ref b)] 3)
  rw [ef_peq_W m a b]
  refine own_by (T' := s₁) (g' := (mkF m 1 #[.val (.ref a), .val (.ref b), .unset] [(.ref b)])) (fun _ k => XS.aloadN X0.here hx rfl (hb hby d8_0) rfl rfl k) ?_
  obtain ⟨T21, X21, e21, st21⟩ := instNo X0 hx hZ hown (hw _ (List.mem_of_getElem? (i := 51) rfl)) e0 E_b (own_no (hw _ (List.mem_of_getElem? (i := 84) rfl)) (hw _ (List.mem_of_getElem? (i := 27) rfl)) (NS.step (hw _ (List.mem_of_getElem? (i := 84) rfl)) (NS.step (hw _ (List.mem_of_getElem? (i := 85) rfl)) (own_root (hw _ (List.mem_of_getElem? (i := 86) rfl)) (hw _ (List.mem_of_getElem? (i := 27) rfl)) (by decide)) (by decide)) (by decide)) (by decide)) (g := (mkF m 1 #[.val (.ref a), .val (.ref b), .unset] [(.ref b)])) rfl rfl (hb hby d8_1)
  refine own_by (T' := T21) (g' := (mkF m 4 #[.val (.ref a), .val (.ref b), .unset] [(.int (0 : Int32))])) (fun _ k => st21 _ k) ?_
  refine own_by (T' := T21) (g' := (mkF m 30 #[.val (.ref a), .val (.ref b), .unset] [])) (fun _ k => XS.ifYes X21.here hx rfl (pc0 := 4) (pc' := 30) rfl (hb hby d8_4) rfl ((if0 _ _).trans (teq (by decide)).1) (by decide) (by decide) k) ?_
  refine own_by (T' := T21) (g' := (mkF m 31 #[.val (.ref a), .val (.ref b), .unset] [(.int (0 : Int32))])) (fun _ k => XS.iconst X21.here hx rfl (hb hby d8_30) k) ?_
  refine own_ret X21 hlk (v := some (.int (0 : Int32))) (fun h => by rw [Bd.returns] at h; cases h) (fun fs hr => retN X21 hx (t := .boolean) Bd.returns (by simp) (hb hby d8_31) hr) ?_ (by decide) (by decide)
  rw [e21]
  exact ⟨rfl, N0, rfl⟩
theorem ef_peq_N (m : MethodId) (a : Addr) : entryFrame m #[(.ref a), .null] 3 = mkF m 0 #[.val (.ref a), .val .null, .unset] [] := by first | (simp [entryFrame, mkF, argsToLocals, Value.category]; done) | rfl
def Q_peq_N (Z : State) (a : Addr) (h0 : Heap) (n0 : Nat) (v : Option Value) (h : Heap) (L : List Loc) : Prop := v = some (.int (0 : Int32)) ∧ Fr n0 L ∧ h = h0
set_option maxRecDepth 65536 in
set_option maxHeartbeats 40000000 in
theorem peq_N (l : Launch) (Z : State) (a0 : Array Value) (hw : ∀ d ∈ tables_1, d.before a0 Z = true) (ws : List Jvm.Cond) (a : Addr) (h0 : Heap) (n0 : Nat) (Z0 : n0 ≤ h0.size) :
    MetFree l (⟨"com/example/postings/postings/search/Phrase", "equals", "(Ljava/lang/Object;)Z"⟩ : MethodName) (head1 (Jvm.Cond.code (⟨"com/example/postings/postings/search/Phrase", "equals", "(Ljava/lang/Object;)Z"⟩ : MethodName) prog_33_method_4_code 3 (some .boolean) :: ws) ({ frames := 0, cells := 0, slots := 0, locals := 0 } : Room)) (fun zz UU => zz = #[(.ref a), .null] ∧ Z.Warmed39 UU.vm ∧ UU.heap = h0) (fun _ _ _ _ _ => True) (fun _ U o U' => ∃ v L, o = .returned v ∧ Q_peq_N Z a h0 n0 v U'.heap L ∧ FrameEnd U o U' L ({ frames := 0, cells := 0, slots := 0, locals := 0 } : Room).cells ({ frames := 0, cells := 0, slots := 0, locals := 0 } : Room).slots) := by
  refine MetFree.of_bodySF (plainFor_of_name pn_8) hisR ?_
  intro p e s m args below meth c s₁ Bd hml0 hP hK
  obtain ⟨rfl, hZ, hh⟩ := hP
  have hx := Bd.exec
  have hby := Bd.bytes
  have hml : c.maxLocals = 3 := hml0
  have hown : s.vm.findClass "com/example/postings/postings/search/Phrase" = some m.cls := findClass_of_methodNamed Bd.named
  have hnm := (name_of_methodNamed Bd.named Bd.method).1
  have hlk : meth.locks = false := BodyLoose.notSynchronized Bd
  have X0 : Stand p l e ({ frames := 0, cells := 0, slots := 0, locals := 0 } : Room) s m #[(.ref a), .null] below meth c s₁ [] 0 0 := Stand.of_body Bd
  have e0 : s₁.heap = h0 := by rw [← hh, Bd.state]; rfl
  have N0 := Fr.nil n0
  show own_Go p.tables e below (Q_peq_N Z a h0 n0) s ({ frames := 0, cells := 0, slots := 0, locals := 0 } : Room).cells ({ frames := 0, cells := 0, slots := 0, locals := 0 } : Room).slots s₁ (entryFrame m #[(.ref a), .null] 3)
  rw [ef_peq_N m a]
  refine own_by (T' := s₁) (g' := (mkF m 1 #[.val (.ref a), .val .null, .unset] [.null])) (fun _ k => XS.aloadN X0.here hx rfl (hb hby d8_0) rfl rfl k) ?_
  refine own_by (T' := s₁) (g' := (mkF m 4 #[.val (.ref a), .val .null, .unset] [(.int (0 : Int32))])) (fun _ k => X0.instanceofNull hx (g := (mkF m 1 #[.val (.ref a), .val .null, .unset] [.null])) rfl rfl (hb hby d8_1) _ k) ?_
  refine own_by (T' := s₁) (g' := (mkF m 30 #[.val (.ref a), .val .null, .unset] [])) (fun _ k => XS.ifYes X0.here hx rfl (pc0 := 4) (pc' := 30) rfl (hb hby d8_4) rfl ((if0 _ _).trans (teq (by decide)).1) (by decide) (by decide) k) ?_
  refine own_by (T' := s₁) (g' := (mkF m 31 #[.val (.ref a), .val .null, .unset] [(.int (0 : Int32))])) (fun _ k => XS.iconst X0.here hx rfl (hb hby d8_30) k) ?_
  refine own_ret X0 hlk (v := some (.int (0 : Int32))) (fun h => by rw [Bd.returns] at h; cases h) (fun fs hr => retN X0 hx (t := .boolean) Bd.returns (by simp) (hb hby d8_31) hr) ?_ (by decide) (by decide)
  rw [e0]
  exact ⟨rfl, N0, rfl⟩
theorem ef_peq_S (m : MethodId) (a : Addr) : entryFrame m #[(.ref a), (.ref a)] 3 = mkF m 0 #[.val (.ref a), .val (.ref a), .unset] [] := by first | (simp [entryFrame, mkF, argsToLocals, Value.category]; done) | rfl
def Q_peq_S (Z : State) (a : Addr) (s1 : Addr) (h0 : Heap) (n0 : Nat) (v : Option Value) (h : Heap) (L : List Loc) : Prop := v = some (.int (1 : Int32)) ∧ Fr n0 L ∧ h = h0
set_option maxRecDepth 65536 in
set_option maxHeartbeats 40000000 in
theorem peq_S (l : Launch) (Z : State) (a0 : Array Value) (hw : ∀ d ∈ tables_1, d.before a0 Z = true) (ws : List Jvm.Cond) (a : Addr) (s1 : Addr) (h0 : Heap) (n0 : Nat) (Z0 : n0 ≤ h0.size) (E_a : Exa Z h0 a "com/example/postings/postings/search/Phrase") (F_text_a : Fld Z h0 a "com/example/postings/postings/search/Phrase" "text" "Ljava/lang/String;" (.ref s1)) (E_s1 : Exa Z h0 s1 "java/lang/String") :
    MetFree l (⟨"com/example/postings/postings/search/Phrase", "equals", "(Ljava/lang/Object;)Z"⟩ : MethodName) (head1 (Jvm.Cond.code (⟨"com/example/postings/postings/search/Phrase", "equals", "(Ljava/lang/Object;)Z"⟩ : MethodName) prog_33_method_4_code 3 (some .boolean) :: ws) ({ frames := 1, cells := 0, slots := 0, locals := 14 } : Room)) (fun zz UU => zz = #[(.ref a), (.ref a)] ∧ Z.Warmed39 UU.vm ∧ UU.heap = h0) (fun _ _ _ _ _ => True) (fun _ U o U' => ∃ v L, o = .returned v ∧ Q_peq_S Z a s1 h0 n0 v U'.heap L ∧ FrameEnd U o U' L ({ frames := 1, cells := 0, slots := 0, locals := 14 } : Room).cells ({ frames := 1, cells := 0, slots := 0, locals := 14 } : Room).slots) := by
  refine MetFree.of_bodySF (plainFor_of_name pn_8) hisR ?_
  intro p e s m args below meth c s₁ Bd hml0 hP hK
  obtain ⟨rfl, hZ, hh⟩ := hP
  have hx := Bd.exec
  have hby := Bd.bytes
  have hml : c.maxLocals = 3 := hml0
  have hown : s.vm.findClass "com/example/postings/postings/search/Phrase" = some m.cls := findClass_of_methodNamed Bd.named
  have hnm := (name_of_methodNamed Bd.named Bd.method).1
  have hlk : meth.locks = false := BodyLoose.notSynchronized Bd
  have X0 : Stand p l e ({ frames := 1, cells := 0, slots := 0, locals := 14 } : Room) s m #[(.ref a), (.ref a)] below meth c s₁ [] 0 0 := Stand.of_body Bd
  have e0 : s₁.heap = h0 := by rw [← hh, Bd.state]; rfl
  have N0 := Fr.nil n0
  show own_Go p.tables e below (Q_peq_S Z a s1 h0 n0) s ({ frames := 1, cells := 0, slots := 0, locals := 14 } : Room).cells ({ frames := 1, cells := 0, slots := 0, locals := 14 } : Room).slots s₁ (entryFrame m #[(.ref a), (.ref a)] 3)
  rw [ef_peq_S m a]
  refine own_by (T' := s₁) (g' := (mkF m 1 #[.val (.ref a), .val (.ref a), .unset] [(.ref a)])) (fun _ k => XS.aloadN X0.here hx rfl (hb hby d8_0) rfl rfl k) ?_
  obtain ⟨T21, X21, e21, st21⟩ := instY X0 hx hZ hown (hw _ (List.mem_of_getElem? (i := 51) rfl)) e0 (Ins.self E_a) (g := (mkF m 1 #[.val (.ref a), .val (.ref a), .unset] [(.ref a)])) rfl rfl (hb hby d8_1)
  refine own_by (T' := T21) (g' := (mkF m 4 #[.val (.ref a), .val (.ref a), .unset] [(.int (1 : Int32))])) (fun _ k => st21 _ k) ?_
  refine own_by (T' := T21) (g' := (mkF m 7 #[.val (.ref a), .val (.ref a), .unset] [])) (fun _ k => XS.ifNo X21.here hx rfl (hb hby d8_4) rfl ((if0 _ _).trans (feq (by decide)).1) k) ?_
  refine own_by (T' := T21) (g' := (mkF m 8 #[.val (.ref a), .val (.ref a), .unset] [(.ref a)])) (fun _ k => XS.aloadN X21.here hx rfl (hb hby d8_7) rfl rfl k) ?_
  obtain ⟨T22, X22, e22, st22⟩ := castY X21 hx hZ hown (hw _ (List.mem_of_getElem? (i := 51) rfl)) e21 (Ins.self E_a) (g := (mkF m 8 #[.val (.ref a), .val (.ref a), .unset] [(.ref a)])) rfl rfl (hb hby d8_8)
  refine own_by (T' := T22) (g' := (mkF m 11 #[.val (.ref a), .val (.ref a), .unset] [(.ref a)])) (fun _ k => st22 _ k) ?_
  refine own_by (T' := T22) (g' := (mkF m 12 #[.val (.ref a), .val (.ref a), .val (.ref a)] [])) (fun _ k => XS.astoreN X22.here hx rfl (hb hby d8_11) rfl rfl (l' := #[.val (.ref a), .val (.ref a), .val (.ref a)]) rfl k) ?_
  refine own_by (T' := T22) (g' := (mkF m 13 #[.val (.ref a), .val (.ref a), .val (.ref a)] [(.ref a)])) (fun _ k => XS.aloadN X22.here hx rfl (hb hby d8_12) rfl rfl k) ?_
  obtain ⟨T23, X23, e23, st23⟩ := getF X22 hx hZ hown (host := "") (Or.inl (hw _ (List.mem_of_getElem? (i := 44) rfl))) Via.refl e22 F_text_a (g := (mkF m 13 #[.val (.ref a), .val (.ref a), .val (.ref a)] [(.ref a)])) rfl rfl (hb hby d8_13)
  refine own_by (T' := T23) (g' := (mkF m 16 #[.val (.ref a), .val (.ref a), .val (.ref a)] [(.ref s1)])) (fun _ k => st23 _ k) ?_
  refine own_by (T' := T23) (g' := (mkF m 17 #[.val (.ref a), .val (.ref a), .val (.ref a)] [(.ref a), (.ref s1)])) (fun _ k => XS.aloadN X23.here hx rfl (hb hby d8_16) rfl rfl k) ?_
  obtain ⟨T24, X24, e24, st24⟩ := getF X23 hx hZ hown (host := "") (Or.inl (hw _ (List.mem_of_getElem? (i := 44) rfl))) Via.refl e23 F_text_a (g := (mkF m 17 #[.val (.ref a), .val (.ref a), .val (.ref a)] [(.ref a), (.ref s1)])) rfl rfl (hb hby d8_17)
  refine own_by (T' := T24) (g' := (mkF m 20 #[.val (.ref a), .val (.ref a), .val (.ref a)] [(.ref s1), (.ref s1)])) (fun _ k => st24 _ k) ?_
  obtain ⟨cq25, kq25, q25a, q25b, q25c⟩ := isOf hZ e24 E_s1
  obtain ⟨_, _, ⟨T25, L25, k25, n25⟩, -, X25, ⟨Lc25, hQ25, l25, y25, z25⟩, st25⟩ := X24.virtualBack hx (y := (⟨"java/lang/String", "equals", "(Ljava/lang/Object;)Z"⟩ : MethodName)) (z := (⟨"java/lang/String", "equals", "(Ljava/lang/Object;)Z"⟩ : MethodName)) hown (mvT hZ (hw _ (List.mem_of_getElem? (i := 53) rfl))) (mvT hZ (hw _ (List.mem_of_getElem? (i := 54) rfl))) (notFace_of_selects (args := #[]) (mvT hZ (hw _ (List.mem_of_getElem? (i := 56) rfl)))) (mvT hZ (hw _ (List.mem_of_getElem? (i := 56) rfl))) (mvT hZ (hw _ (List.mem_of_getElem? (i := 55) rfl))) (by decide) (backOf (W := 0) (seq_same l Z a0 hw [] s1  h0 n0 Z0 ) hZ (hw _ (List.mem_of_getElem? (i := 57) rfl)) (hw _ (List.mem_of_getElem? (i := 6) rfl)) (by decide) (by decide)) q25a q25c (g := (mkF m 20 #[.val (.ref a), .val (.ref a), .val (.ref a)] [(.ref s1), (.ref s1)])) rfl (by rw [hml]; rfl) (Steps.refl _) (argsL := [(.ref s1)]) (rest := []) (lenOf pd_9 rfl) rfl (by show 2 * 0 + _ ≤ _; exact Nat.le_of_eq rfl) (hb hby d8_20) (fun _ _ => ⟨rfl, e24, (by decide : 0 + 0 ≤ _), (by decide : 0 + 0 ≤ _)⟩)
  dsimp only [Pt.U, Pt.locs, Pt.cells, Pt.slots] at X25 l25 y25 z25 st25 hQ25
  subst l25 y25 z25
  obtain ⟨rfl, N25q, e25⟩ := hQ25
  have N25 := Fr.app N0 N25q
  refine own_by (T' := T25) (g' := (mkF m 23 #[.val (.ref a), .val (.ref a), .val (.ref a)] [(.int (1 : Int32))])) (fun _ k => st25.trans k) ?_
  refine own_by (T' := T25) (g' := (mkF m 26 #[.val (.ref a), .val (.ref a), .val (.ref a)] [])) (fun _ k => XS.ifNo X25.here hx rfl (hb hby d8_23) rfl ((if0 _ _).trans (feq (by decide)).1) k) ?_
  refine own_by (T' := T25) (g' := (mkF m 27 #[.val (.ref a), .val (.ref a), .val (.ref a)] [(.int (1 : Int32))])) (fun _ k => XS.iconst X25.here hx rfl (hb hby d8_26) k) ?_
  refine own_by (T' := T25) (g' := (mkF m 31 #[.val (.ref a), .val (.ref a), .val (.ref a)] [(.int (1 : Int32))])) (fun _ k => XS.goto X25.here hx rfl (pc0 := 27) (pc' := 31) rfl (hb hby d8_27) (by decide) (by decide) k) ?_
  refine own_ret X25 hlk (v := some (.int (1 : Int32))) (fun h => by rw [Bd.returns] at h; cases h) (fun fs hr => retN X25 hx (t := .boolean) Bd.returns (by simp) (hb hby d8_31) hr) ?_ (by decide) (by decide)
  rw [e25]
  exact ⟨rfl, N25, rfl⟩
theorem pn_0 : plainName "com/example/postings/postings/search/PhraseEqualsPinLaw" = true := by first | (simp [plainName, overriddenIn]; done) | decide +kernel
theorem ef_rm0 (m : MethodId) (u1 : Int32) (u2 : Int32) (kk : Int32) : entryFrame m #[(.int u1), (.int u2), (.int kk)] maxLocals = mkF m 0 #[.val (.int u1), .val (.int u2), .val (.int kk), .unset, .unset, .unset, .unset, .unset, .unset, .unset, .unset, .unset, .unset] [] := by first | (simp [entryFrame, mkF, argsToLocals, Value.category, maxLocals]; done) | rfl
def V_rm0 (Z : State) (u1 : Int32) (u2 : Int32) (kk : Int32) (cs : Int32) (h0 : Heap) (vm : Vm) : Prop := True
def Q_rm0 (Z : State) (u1 : Int32) (u2 : Int32) (kk : Int32) (cs : Int32) (h0 : Heap) (n0 : Nat) (v : Option Value) (h : Heap) (L : List Loc) : Prop := v = some (.int 1) ∧ Fr n0 L
set_option maxRecDepth 65536 in
set_option maxHeartbeats 40000000 in
theorem rm0 (l : Launch) (Z : State) (a0 : Array Value) (hw : ∀ d ∈ tables_1, d.before a0 Z = true) (ws : List Jvm.Cond) (u1 : Int32) (u2 : Int32) (kk : Int32) (cs : Int32) (h0 : Heap) (n0 : Nat) (Z0 : n0 ≤ h0.size) (O0 : Old Z n0 h0) (S_CS : Sta Z Z.heap "java/lang/String" "COMPACT_STRINGS" "Z" (.int cs)) (hcs : ¬ cs = (0 : Int32)) :
    MetFree l x (head1 (Jvm.Cond.code x code maxLocals ret :: ws) room_1) (fun zz UU => zz = #[(.int u1), (.int u2), (.int kk)] ∧ Z.Warmed39 UU.vm ∧ UU.heap = h0 ∧ CHv Z consts_1 UU.vm h0 ∧ V_rm0 Z u1 u2 kk cs h0 UU.vm) (fun _ _ _ _ _ => True) (fun _ U o U' => ∃ v L, o = .returned v ∧ Q_rm0 Z u1 u2 kk cs h0 n0 v U'.heap L ∧ CHr Z consts_1 U.vm U.heap U'.vm U'.heap ∧ ReturnedEndW U o U' L 32 3200) := by
  refine MetFree.of_bodySF (plainFor_of_name pn_0) hisR ?_
  intro p e s m args below meth c s₁ Bd hml0 hP hK
  obtain ⟨rfl, hZ, hh, hH, hV⟩ := hP
  have hx := Bd.exec
  have hby := Bd.bytes
  have hml : c.maxLocals = 13 := hml0
  have hown : s.vm.findClass "com/example/postings/postings/search/PhraseEqualsPinLaw" = some m.cls := findClass_of_methodNamed Bd.named
  have hnm := (name_of_methodNamed Bd.named Bd.method).1
  have hlk : meth.locks = false := BodyLoose.notSynchronized Bd
  have X0 : Stand p l e room_1 (s.setVm s.vm) m #[(.int u1), (.int u2), (.int kk)] below meth c s₁ [] 0 0 := Stand.of_body Bd
  have e0 : s₁.heap = h0 := by rw [← hh, Bd.state]; rfl
  have N0 := Fr.nil n0
  show own_GoW p.tables e below Z consts_1 (Q_rm0 Z u1 u2 kk cs h0 n0) s 32 3200 s₁ (entryFrame m #[(.int u1), (.int u2), (.int kk)] maxLocals)
  rw [ef_rm0 m u1 u2 kk]
  have hS0 : s.Since s.vm s.heap.size := (State.WarmedH.refl s).since _
  have hk0 : s.heap.size ≤ h0.size := Nat.le_of_eq (congrArg Array.size hh)
  have C0 : CHr Z consts_1 s.vm s.heap s.vm h0 := by rw [hh]; exact CHr.refl hH
  have hEL : EW Z a0 consts_1 := own_EL hw
  have hwS : ∀ d ∈ Bundle.stringAtoms, d.before a0 Z = true := fun d hd => hw d (own_SA d hd)
  refine own_byW (T' := s₁) (g' := (mkF m 1 #[.val (.int u1), .val (.int u2), .val (.int kk), .unset, .unset, .unset, .unset, .unset, .unset, .unset, .unset, .unset, .unset] [(.int kk)])) (fun _ k => XS.iloadN X0.here hx rfl (hb hby at_0) rfl k) ?_
  refine own_byW (T' := s₁) (g' := (mkF m 2 #[.val (.int u1), .val (.int u2), .val (.int kk), .unset, .unset, .unset, .unset, .unset, .unset, .unset, .unset, .unset, .unset] [(.int (3 : Int32)), (.int kk)])) (fun _ k => XS.iconst X0.here hx rfl (hb hby at_1) k) ?_
  refine own_byW (T' := s₁) (g' := (mkF m 3 #[.val (.int u1), .val (.int u2), .val (.int kk), .unset, .unset, .unset, .unset, .unset, .unset, .unset, .unset, .unset, .unset] [(.int (kk &&& (3 : Int32)))])) (fun _ k => XS.iand X0.here hx rfl (hb hby at_2) rfl k) ?_
  refine own_byW (T' := s₁) (g' := (mkF m 4 #[.val (.int u1), .val (.int u2), .val (.int kk), .val (.int (kk &&& (3 : Int32))), .unset, .unset, .unset, .unset, .unset, .unset, .unset, .unset, .unset] [])) (fun _ k => XS.istoreN X0.here hx rfl (hb hby at_3) rfl (l' := #[.val (.int u1), .val (.int u2), .val (.int kk), .val (.int (kk &&& (3 : Int32))), .unset, .unset, .unset, .unset, .unset, .unset, .unset, .unset, .unset]) rfl k) ?_
  refine own_byW (T' := s₁) (g' := (mkF m 5 #[.val (.int u1), .val (.int u2), .val (.int kk), .val (.int (kk &&& (3 : Int32))), .unset, .unset, .unset, .unset, .unset, .unset, .unset, .unset, .unset] [(.int kk)])) (fun _ k => XS.iloadN X0.here hx rfl (hb hby at_4) rfl k) ?_
  refine own_byW (T' := s₁) (g' := (mkF m 6 #[.val (.int u1), .val (.int u2), .val (.int kk), .val (.int (kk &&& (3 : Int32))), .unset, .unset, .unset, .unset, .unset, .unset, .unset, .unset, .unset] [(.int (2 : Int32)), (.int kk)])) (fun _ k => XS.iconst X0.here hx rfl (hb hby at_5) k) ?_
  refine own_byW (T' := s₁) (g' := (mkF m 7 #[.val (.int u1), .val (.int u2), .val (.int kk), .val (.int (kk &&& (3 : Int32))), .unset, .unset, .unset, .unset, .unset, .unset, .unset, .unset, .unset] [(.int ((kk.toUInt32 >>> ((2 : Int32) &&& 31).toUInt32).toInt32))])) (fun _ k => XS.iushr X0.here hx rfl (hb hby at_6) rfl k) ?_
  refine own_byW (T' := s₁) (g' := (mkF m 8 #[.val (.int u1), .val (.int u2), .val (.int kk), .val (.int (kk &&& (3 : Int32))), .unset, .unset, .unset, .unset, .unset, .unset, .unset, .unset, .unset] [(.int (1 : Int32)), (.int ((kk.toUInt32 >>> ((2 : Int32) &&& 31).toUInt32).toInt32))])) (fun _ k => XS.iconst X0.here hx rfl (hb hby at_7) k) ?_
  refine own_byW (T' := s₁) (g' := (mkF m 9 #[.val (.int u1), .val (.int u2), .val (.int kk), .val (.int (kk &&& (3 : Int32))), .unset, .unset, .unset, .unset, .unset, .unset, .unset, .unset, .unset] [(.int (((kk.toUInt32 >>> ((2 : Int32) &&& 31).toUInt32).toInt32) &&& (1 : Int32)))])) (fun _ k => XS.iand X0.here hx rfl (hb hby at_8) rfl k) ?_
  have J22 : ∀ (j21 : Int32) (hv_j21 : j21 = (if (((kk.toUInt32 >>> ((2 : Int32) &&& 31).toUInt32).toInt32) &&& (1 : Int32)) = (0 : Int32) then (0 : Int32) else (1 : Int32))) (T23 : State) (_ : Stand p l e room_1 (s.setVm s.vm) m #[(.int u1), (.int u2), (.int kk)] below meth c T23 [] 0 0) (_ : T23.heap = h0), own_GoW p.tables e below Z consts_1 (Q_rm0 Z u1 u2 kk cs h0 n0) s 32 3200 T23 (mkF m 17 #[.val (.int u1), .val (.int u2), .val (.int kk), .val (.int (kk &&& (3 : Int32))), .unset, .unset, .unset, .unset, .unset, .unset, .unset, .unset, .unset] [(.int j21)]) := by
    intro j21 hv_j21 T23 X23 e23
    refine own_byW (T' := T23) (g' := (mkF m 19 #[.val (.int u1), .val (.int u2), .val (.int kk), .val (.int (kk &&& (3 : Int32))), .val (.int j21), .unset, .unset, .unset, .unset, .unset, .unset, .unset, .unset] [])) (fun _ k => XS.istore X23.here hx rfl (hb hby at_17) rfl (l' := #[.val (.int u1), .val (.int u2), .val (.int kk), .val (.int (kk &&& (3 : Int32))), .val (.int j21), .unset, .unset, .unset, .unset, .unset, .unset, .unset, .unset]) rfl k) ?_
    refine own_byW (T' := T23) (g' := (mkF m 20 #[.val (.int u1), .val (.int u2), .val (.int kk), .val (.int (kk &&& (3 : Int32))), .val (.int j21), .unset, .unset, .unset, .unset, .unset, .unset, .unset, .unset] [(.int kk)])) (fun _ k => XS.iloadN X23.here hx rfl (hb hby at_19) rfl k) ?_
    refine own_byW (T' := T23) (g' := (mkF m 21 #[.val (.int u1), .val (.int u2), .val (.int kk), .val (.int (kk &&& (3 : Int32))), .val (.int j21), .unset, .unset, .unset, .unset, .unset, .unset, .unset, .unset] [(.int (3 : Int32)), (.int kk)])) (fun _ k => XS.iconst X23.here hx rfl (hb hby at_20) k) ?_
    refine own_byW (T' := T23) (g' := (mkF m 22 #[.val (.int u1), .val (.int u2), .val (.int kk), .val (.int (kk &&& (3 : Int32))), .val (.int j21), .unset, .unset, .unset, .unset, .unset, .unset, .unset, .unset] [(.int ((kk.toUInt32 >>> ((3 : Int32) &&& 31).toUInt32).toInt32))])) (fun _ k => XS.iushr X23.here hx rfl (hb hby at_21) rfl k) ?_
    refine own_byW (T' := T23) (g' := (mkF m 23 #[.val (.int u1), .val (.int u2), .val (.int kk), .val (.int (kk &&& (3 : Int32))), .val (.int j21), .unset, .unset, .unset, .unset, .unset, .unset, .unset, .unset] [(.int (3 : Int32)), (.int ((kk.toUInt32 >>> ((3 : Int32) &&& 31).toUInt32).toInt32))])) (fun _ k => XS.iconst X23.here hx rfl (hb hby at_22) k) ?_
    refine own_byW (T' := T23) (g' := (mkF m 24 #[.val (.int u1), .val (.int u2), .val (.int kk), .val (.int (kk &&& (3 : Int32))), .val (.int j21), .unset, .unset, .unset, .unset, .unset, .unset, .unset, .unset] [(.int (((kk.toUInt32 >>> ((3 : Int32) &&& 31).toUInt32).toInt32) &&& (3 : Int32)))])) (fun _ k => XS.iand X23.here hx rfl (hb hby at_23) rfl k) ?_
    refine own_byW (T' := T23) (g' := (mkF m 26 #[.val (.int u1), .val (.int u2), .val (.int kk), .val (.int (kk &&& (3 : Int32))), .val (.int j21), .val (.int (((kk.toUInt32 >>> ((3 : Int32) &&& 31).toUInt32).toInt32) &&& (3 : Int32))), .unset, .unset, .unset, .unset, .unset, .unset, .unset] [])) (fun _ k => XS.istore X23.here hx rfl (hb hby at_24) rfl (l' := #[.val (.int u1), .val (.int u2), .val (.int kk), .val (.int (kk &&& (3 : Int32))), .val (.int j21), .val (.int (((kk.toUInt32 >>> ((3 : Int32) &&& 31).toUInt32).toInt32) &&& (3 : Int32))), .unset, .unset, .unset, .unset, .unset, .unset, .unset]) rfl k) ?_
    refine own_byW (T' := T23) (g' := (mkF m 27 #[.val (.int u1), .val (.int u2), .val (.int kk), .val (.int (kk &&& (3 : Int32))), .val (.int j21), .val (.int (((kk.toUInt32 >>> ((3 : Int32) &&& 31).toUInt32).toInt32) &&& (3 : Int32))), .unset, .unset, .unset, .unset, .unset, .unset, .unset] [(.int kk)])) (fun _ k => XS.iloadN X23.here hx rfl (hb hby at_26) rfl k) ?_
    refine own_byW (T' := T23) (g' := (mkF m 28 #[.val (.int u1), .val (.int u2), .val (.int kk), .val (.int (kk &&& (3 : Int32))), .val (.int j21), .val (.int (((kk.toUInt32 >>> ((3 : Int32) &&& 31).toUInt32).toInt32) &&& (3 : Int32))), .unset, .unset, .unset, .unset, .unset, .unset, .unset] [(.int (5 : Int32)), (.int kk)])) (fun _ k => XS.iconst X23.here hx rfl (hb hby at_27) k) ?_
    refine own_byW (T' := T23) (g' := (mkF m 29 #[.val (.int u1), .val (.int u2), .val (.int kk), .val (.int (kk &&& (3 : Int32))), .val (.int j21), .val (.int (((kk.toUInt32 >>> ((3 : Int32) &&& 31).toUInt32).toInt32) &&& (3 : Int32))), .unset, .unset, .unset, .unset, .unset, .unset, .unset] [(.int ((kk.toUInt32 >>> ((5 : Int32) &&& 31).toUInt32).toInt32))])) (fun _ k => XS.iushr X23.here hx rfl (hb hby at_28) rfl k) ?_
    refine own_byW (T' := T23) (g' := (mkF m 30 #[.val (.int u1), .val (.int u2), .val (.int kk), .val (.int (kk &&& (3 : Int32))), .val (.int j21), .val (.int (((kk.toUInt32 >>> ((3 : Int32) &&& 31).toUInt32).toInt32) &&& (3 : Int32))), .unset, .unset, .unset, .unset, .unset, .unset, .unset] [(.int (3 : Int32)), (.int ((kk.toUInt32 >>> ((5 : Int32) &&& 31).toUInt32).toInt32))])) (fun _ k => XS.iconst X23.here hx rfl (hb hby at_29) k) ?_
    refine own_byW (T' := T23) (g' := (mkF m 31 #[.val (.int u1), .val (.int u2), .val (.int kk), .val (.int (kk &&& (3 : Int32))), .val (.int j21), .val (.int (((kk.toUInt32 >>> ((3 : Int32) &&& 31).toUInt32).toInt32) &&& (3 : Int32))), .unset, .unset, .unset, .unset, .unset, .unset, .unset] [(.int (((kk.toUInt32 >>> ((5 : Int32) &&& 31).toUInt32).toInt32) &&& (3 : Int32)))])) (fun _ k => XS.iand X23.here hx rfl (hb hby at_30) rfl k) ?_
    refine own_byW (T' := T23) (g' := (mkF m 33 #[.val (.int u1), .val (.int u2), .val (.int kk), .val (.int (kk &&& (3 : Int32))), .val (.int j21), .val (.int (((kk.toUInt32 >>> ((3 : Int32) &&& 31).toUInt32).toInt32) &&& (3 : Int32))), .val (.int (((kk.toUInt32 >>> ((5 : Int32) &&& 31).toUInt32).toInt32) &&& (3 : Int32))), .unset, .unset, .unset, .unset, .unset, .unset] [])) (fun _ k => XS.istore X23.here hx rfl (hb hby at_31) rfl (l' := #[.val (.int u1), .val (.int u2), .val (.int kk), .val (.int (kk &&& (3 : Int32))), .val (.int j21), .val (.int (((kk.toUInt32 >>> ((3 : Int32) &&& 31).toUInt32).toInt32) &&& (3 : Int32))), .val (.int (((kk.toUInt32 >>> ((5 : Int32) &&& 31).toUInt32).toInt32) &&& (3 : Int32))), .unset, .unset, .unset, .unset, .unset, .unset]) rfl k) ?_
    refine own_byW (T' := T23) (g' := (mkF m 35 #[.val (.int u1), .val (.int u2), .val (.int kk), .val (.int (kk &&& (3 : Int32))), .val (.int j21), .val (.int (((kk.toUInt32 >>> ((3 : Int32) &&& 31).toUInt32).toInt32) &&& (3 : Int32))), .val (.int (((kk.toUInt32 >>> ((5 : Int32) &&& 31).toUInt32).toInt32) &&& (3 : Int32))), .unset, .unset, .unset, .unset, .unset, .unset] [(.int j21)])) (fun _ k => XS.iload X23.here hx rfl (hb hby at_33) rfl k) ?_
    have J26 : ∀ (j24 : Int32) (hv_j24 : j24 = (if j21 = (0 : Int32) then u2 else u1)) (j25 : Int32) (hv_j25 : j25 = (if j21 = (0 : Int32) then (((kk.toUInt32 >>> ((5 : Int32) &&& 31).toUInt32).toInt32) &&& (3 : Int32)) else (((kk.toUInt32 >>> ((3 : Int32) &&& 31).toUInt32).toInt32) &&& (3 : Int32)))) (T27 : State) (_ : Stand p l e room_1 (s.setVm s.vm) m #[(.int u1), (.int u2), (.int kk)] below meth c T27 [] 0 0) (_ : T27.heap = h0), own_GoW p.tables e below Z consts_1 (Q_rm0 Z u1 u2 kk cs h0 n0) s 32 3200 T27 (mkF m 44 #[.val (.int u1), .val (.int j24), .val (.int kk), .val (.int (kk &&& (3 : Int32))), .val (.int j21), .val (.int (((kk.toUInt32 >>> ((3 : Int32) &&& 31).toUInt32).toInt32) &&& (3 : Int32))), .val (.int j25), .unset, .unset, .unset, .unset, .unset, .unset] []) := by
      intro j24 hv_j24 j25 hv_j25 T27 X27 e27
      refine own_byW (T' := T27) (g' := (mkF m 46 #[.val (.int u1), .val (.int j24), .val (.int kk), .val (.int (kk &&& (3 : Int32))), .val (.int j21), .val (.int (((kk.toUInt32 >>> ((3 : Int32) &&& 31).toUInt32).toInt32) &&& (3 : Int32))), .val (.int j25), .unset, .unset, .unset, .unset, .unset, .unset] [(.int (((kk.toUInt32 >>> ((3 : Int32) &&& 31).toUInt32).toInt32) &&& (3 : Int32)))])) (fun _ k => XS.iload X27.here hx rfl (hb hby at_44) rfl k) ?_
      refine own_byW (T' := T27) (g' := (mkF m 47 #[.val (.int u1), .val (.int j24), .val (.int kk), .val (.int (kk &&& (3 : Int32))), .val (.int j21), .val (.int (((kk.toUInt32 >>> ((3 : Int32) &&& 31).toUInt32).toInt32) &&& (3 : Int32))), .val (.int j25), .unset, .unset, .unset, .unset, .unset, .unset] [(.int u1), (.int (((kk.toUInt32 >>> ((3 : Int32) &&& 31).toUInt32).toInt32) &&& (3 : Int32)))])) (fun _ k => XS.iloadN X27.here hx rfl (hb hby at_46) rfl k) ?_
      obtain ⟨_, _, ⟨T28, L28, k28, n28⟩, -, X28, hSq28, hgq28, ⟨Lc28, hQ28, l28, y28, z28, Cq28⟩, st28⟩ := callSS X27 hx (y := (⟨"com/example/postings/postings/search/PhraseEqualsPinLaw", "mk", "(II)Ljava/lang/String;"⟩ : MethodName)) hown (mvT hZ (hw _ (List.mem_of_getElem? (i := 0) rfl))) (mvT hZ (hw _ (List.mem_of_getElem? (i := 1) rfl))) (mvT hZ (hw _ (List.mem_of_getElem? (i := 2) rfl))) (mvT hZ (hw _ (List.mem_of_getElem? (i := 3) rfl))) (by decide) (own_backSH (s := s) (EL := consts_1) (W := 0) (mk l Z a0 hw [] (((kk.toUInt32 >>> ((3 : Int32) &&& 31).toUInt32).toInt32) &&& (3 : Int32)) u1 cs h0 n0 Z0 (Sta.ext (O0).2 S_CS) hcs) hZ (hw _ (List.mem_of_getElem? (i := 3) rfl)) (hw _ (List.mem_of_getElem? (i := 2) rfl)) (by decide) (by decide) hEL C0.1 (fun _ _ => trivial)) (g := (mkF m 47 #[.val (.int u1), .val (.int j24), .val (.int kk), .val (.int (kk &&& (3 : Int32))), .val (.int j21), .val (.int (((kk.toUInt32 >>> ((3 : Int32) &&& 31).toUInt32).toInt32) &&& (3 : Int32))), .val (.int j25), .unset, .unset, .unset, .unset, .unset, .unset] [(.int u1), (.int (((kk.toUInt32 >>> ((3 : Int32) &&& 31).toUInt32).toInt32) &&& (3 : Int32)))])) rfl (by rw [hml]; rfl) (argsL := [(.int (((kk.toUInt32 >>> ((3 : Int32) &&& 31).toUInt32).toInt32) &&& (3 : Int32))), (.int u1)]) (rest := []) (lenOf pd_10 rfl) rfl (by show 2 * 0 + _ ≤ _; exact Nat.le_of_eq rfl) (hb hby at_47) (fun _ _ => ⟨rfl, e27, (by decide : 0 + 6 ≤ _), (by decide : 0 + 12 ≤ _)⟩)
      dsimp only [Pt.U, Pt.locs, Pt.cells, Pt.slots] at X28 l28 y28 z28 st28 hQ28 hSq28 hgq28 Cq28
      subst l28 y28 z28
      obtain ⟨x28, t28, kb28, rfl, N28q, K28, zx28, E28, Fc28, Fv28, V28⟩ := hQ28
      have N28 := Fr.app N0 N28q
      have KK28 : Keep h0 T28.heap [] := Keep.trans (Keep.refl h0 []) K28 all0
      have hS28 := foldS hS0 (T := T27) (by rw [e27]; exact hk0) hSq28 hgq28
      have hZ28 : Z.Warmed39 (s.setVm T28.vm).vm := State.Warmed39.trans hZ hSq28.1
      have hown28 : (s.setVm T28.vm).vm.findClass "com/example/postings/postings/search/PhraseEqualsPinLaw" = some m.cls := by show T28.vm.findClass "com/example/postings/postings/search/PhraseEqualsPinLaw" = some m.cls; rw [hSq28.1.alike.findClass]; exact hown
      have X28 : Stand p l e room_1 (s.setVm T28.vm) m #[(.int u1), (.int u2), (.int kk)] below meth c T28 L28 (0 + 6) (0 + 12) := X28
      have C28 : CHr Z consts_1 s.vm s.heap T28.vm T28.heap := CHr.trans C0 Cq28
      refine own_byW (T' := T28) (g' := (mkF m 50 #[.val (.int u1), .val (.int j24), .val (.int kk), .val (.int (kk &&& (3 : Int32))), .val (.int j21), .val (.int (((kk.toUInt32 >>> ((3 : Int32) &&& 31).toUInt32).toInt32) &&& (3 : Int32))), .val (.int j25), .unset, .unset, .unset, .unset, .unset, .unset] [(.ref x28)])) (fun _ k => st28.trans k) ?_
      refine own_byW (T' := T28) (g' := (mkF m 52 #[.val (.int u1), .val (.int j24), .val (.int kk), .val (.int (kk &&& (3 : Int32))), .val (.int j21), .val (.int (((kk.toUInt32 >>> ((3 : Int32) &&& 31).toUInt32).toInt32) &&& (3 : Int32))), .val (.int j25), .val (.ref x28), .unset, .unset, .unset, .unset, .unset] [])) (fun _ k => XS.astore X28.here hx rfl (hb hby at_50) rfl rfl (l' := #[.val (.int u1), .val (.int j24), .val (.int kk), .val (.int (kk &&& (3 : Int32))), .val (.int j21), .val (.int (((kk.toUInt32 >>> ((3 : Int32) &&& 31).toUInt32).toInt32) &&& (3 : Int32))), .val (.int j25), .val (.ref x28), .unset, .unset, .unset, .unset, .unset]) rfl k) ?_
      refine own_byW (T' := T28) (g' := (mkF m 54 #[.val (.int u1), .val (.int j24), .val (.int kk), .val (.int (kk &&& (3 : Int32))), .val (.int j21), .val (.int (((kk.toUInt32 >>> ((3 : Int32) &&& 31).toUInt32).toInt32) &&& (3 : Int32))), .val (.int j25), .val (.ref x28), .unset, .unset, .unset, .unset, .unset] [(.int j25)])) (fun _ k => XS.iload X28.here hx rfl (hb hby at_52) rfl k) ?_
      refine own_byW (T' := T28) (g' := (mkF m 55 #[.val (.int u1), .val (.int j24), .val (.int kk), .val (.int (kk &&& (3 : Int32))), .val (.int j21), .val (.int (((kk.toUInt32 >>> ((3 : Int32) &&& 31).toUInt32).toInt32) &&& (3 : Int32))), .val (.int j25), .val (.ref x28), .unset, .unset, .unset, .unset, .unset] [(.int j24), (.int j25)])) (fun _ k => XS.iloadN X28.here hx rfl (hb hby at_54) rfl k) ?_
      obtain ⟨_, _, ⟨T29, L29, k29, n29⟩, -, X29, hSq29, hgq29, ⟨Lc29, hQ29, l29, y29, z29, Cq29⟩, st29⟩ := callSS X28 hx (y := (⟨"com/example/postings/postings/search/PhraseEqualsPinLaw", "mk", "(II)Ljava/lang/String;"⟩ : MethodName)) hown28 (mvT hZ28 (hw _ (List.mem_of_getElem? (i := 0) rfl))) (mvT hZ28 (hw _ (List.mem_of_getElem? (i := 1) rfl))) (mvT hZ28 (hw _ (List.mem_of_getElem? (i := 2) rfl))) (mvT hZ28 (hw _ (List.mem_of_getElem? (i := 3) rfl))) (by decide) (own_backSH (s := s) (EL := consts_1) (W := 0) (mk l Z a0 hw [] j25 j24 cs T28.heap n0 (Nat.le_trans Z0 K28.1) (Sta.ext ((Old.keep O0 K28 all0)).2 S_CS) hcs) hZ28 (hw _ (List.mem_of_getElem? (i := 3) rfl)) (hw _ (List.mem_of_getElem? (i := 2) rfl)) (by decide) (by decide) hEL C28.1 (fun _ _ => trivial)) (g := (mkF m 55 #[.val (.int u1), .val (.int j24), .val (.int kk), .val (.int (kk &&& (3 : Int32))), .val (.int j21), .val (.int (((kk.toUInt32 >>> ((3 : Int32) &&& 31).toUInt32).toInt32) &&& (3 : Int32))), .val (.int j25), .val (.ref x28), .unset, .unset, .unset, .unset, .unset] [(.int j24), (.int j25)])) rfl (by rw [hml]; rfl) (argsL := [(.int j25), (.int j24)]) (rest := []) (lenOf pd_10 rfl) rfl (by show 2 * 0 + _ ≤ _; exact Nat.le_of_eq rfl) (hb hby at_55) (fun _ _ => ⟨rfl, rfl, (by decide : (0 + 6) + 6 ≤ _), (by decide : (0 + 12) + 12 ≤ _)⟩)
      dsimp only [Pt.U, Pt.locs, Pt.cells, Pt.slots] at X29 l29 y29 z29 st29 hQ29 hSq29 hgq29 Cq29
      subst l29 y29 z29
      obtain ⟨x29, t29, kb29, rfl, N29q, K29, zx29, E29, Fc29, Fv29, V29⟩ := hQ29
      have N29 := Fr.app N28 N29q
      have KK29 : Keep h0 T29.heap [] := Keep.trans KK28 K29 all0
      have hS29 := foldS hS28 (T := T28) (Nat.le_refl _) hSq29 hgq29
      have hZ29 : Z.Warmed39 (s.setVm T29.vm).vm := State.Warmed39.trans hZ28 hSq29.1
      have hown29 : (s.setVm T29.vm).vm.findClass "com/example/postings/postings/search/PhraseEqualsPinLaw" = some m.cls := by show T29.vm.findClass "com/example/postings/postings/search/PhraseEqualsPinLaw" = some m.cls; rw [hSq29.1.alike.findClass]; exact hown28
      have X29 : Stand p l e room_1 (s.setVm T29.vm) m #[(.int u1), (.int u2), (.int kk)] below meth c T29 (L28 ++ Lc29) ((0 + 6) + 6) ((0 + 12) + 12) := X29
      have C29 : CHr Z consts_1 s.vm s.heap T29.vm T29.heap := CHr.trans C28 Cq29
      refine own_byW (T' := T29) (g' := (mkF m 58 #[.val (.int u1), .val (.int j24), .val (.int kk), .val (.int (kk &&& (3 : Int32))), .val (.int j21), .val (.int (((kk.toUInt32 >>> ((3 : Int32) &&& 31).toUInt32).toInt32) &&& (3 : Int32))), .val (.int j25), .val (.ref x28), .unset, .unset, .unset, .unset, .unset] [(.ref x29)])) (fun _ k => st29.trans k) ?_
      refine own_byW (T' := T29) (g' := (mkF m 60 #[.val (.int u1), .val (.int j24), .val (.int kk), .val (.int (kk &&& (3 : Int32))), .val (.int j21), .val (.int (((kk.toUInt32 >>> ((3 : Int32) &&& 31).toUInt32).toInt32) &&& (3 : Int32))), .val (.int j25), .val (.ref x28), .val (.ref x29), .unset, .unset, .unset, .unset] [])) (fun _ k => XS.astore X29.here hx rfl (hb hby at_58) rfl rfl (l' := #[.val (.int u1), .val (.int j24), .val (.int kk), .val (.int (kk &&& (3 : Int32))), .val (.int j21), .val (.int (((kk.toUInt32 >>> ((3 : Int32) &&& 31).toUInt32).toInt32) &&& (3 : Int32))), .val (.int j25), .val (.ref x28), .val (.ref x29), .unset, .unset, .unset, .unset]) rfl k) ?_
      have hr1 : (((kk.toUInt32 >>> ((3 : Int32) &&& 31).toUInt32).toInt32) &&& (3 : Int32)) = 0 ∨ (((kk.toUInt32 >>> ((3 : Int32) &&& 31).toUInt32).toInt32) &&& (3 : Int32)) = 1 ∨ (((kk.toUInt32 >>> ((3 : Int32) &&& 31).toUInt32).toInt32) &&& (3 : Int32)) = 2 ∨ (((kk.toUInt32 >>> ((3 : Int32) &&& 31).toUInt32).toInt32) &&& (3 : Int32)) = 3 := own_and3 _
      have hr2 : j25 = 0 ∨ j25 = 1 ∨ j25 = 2 ∨ j25 = 3 := by rw [hv_j25]; split <;> exact own_and3 _
      have tail : ∀ (j9 : Int32) (hj : j9 = own_eq (((kk.toUInt32 >>> ((3 : Int32) &&& 31).toUInt32).toInt32) &&& (3 : Int32)) u1 j25 j24) (Lx30 : List Loc) (Nx30 : Fr n0 Lx30) (T30 : State) (_ : Stand p l e room_1 (s.setVm T29.vm) m #[(.int u1), (.int u2), (.int kk)] below meth c T30 Lx30 ((0 + 6) + 6) ((0 + 12) + 12)) (_ : T30.heap = T29.heap), own_GoW p.tables e below Z consts_1 (Q_rm0 Z u1 u2 kk cs h0 n0) s 32 3200 T30 (mkF m 131 #[.val (.int u1), .val (.int j24), .val (.int kk), .val (.int (kk &&& (3 : Int32))), .val (.int j21), .val (.int (((kk.toUInt32 >>> ((3 : Int32) &&& 31).toUInt32).toInt32) &&& (3 : Int32))), .val (.int j25), .val (.ref x28), .val (.ref x29), .val (.int j9), .unset, .unset, .unset] []) := by
        intro j9 hj Lx30 Nx30 T30 X30 e30
        obtain ⟨T31, h31, X31, e31, E31, A31, D31, -, st31⟩ := newO X30 hx hZ29 hown29 (hw _ (List.mem_of_getElem? (i := 26) rfl)) (hw _ (List.mem_of_getElem? (i := 27) rfl)) (hw _ (List.mem_of_getElem? (i := 28) rfl)) e30 (g := (mkF m 131 #[.val (.int u1), .val (.int j24), .val (.int kk), .val (.int (kk &&& (3 : Int32))), .val (.int j21), .val (.int (((kk.toUInt32 >>> ((3 : Int32) &&& 31).toUInt32).toInt32) &&& (3 : Int32))), .val (.int j25), .val (.ref x28), .val (.ref x29), .val (.int j9), .unset, .unset, .unset] [])) rfl (hb hby at_131) (by decide) (by decide)
        obtain ⟨b31, g31⟩ : ∃ z, z = T29.heap.size := ⟨_, rfl⟩
        rw [← g31] at A31 D31 st31
        have E_b31 : Exa Z h31 b31 "com/example/postings/postings/search/Phrase" := A31
        have F_text_b31 : Fld Z h31 b31 "com/example/postings/postings/search/Phrase" "text" "Ljava/lang/String;" .null := D31 (Or.inr (hw _ (List.mem_of_getElem? (i := 45) rfl))) (ty := (.object "java/lang/String")) (by decide)
        have g_b31 : n0 ≤ b31 := Nat.le_trans (Nat.le_trans (Nat.le_trans Z0 K28.1) K29.1) (Nat.le_of_eq g31.symm)
        have sz_b31 : h0.size ≤ b31 := Nat.le_trans KK29.1 (Nat.le_of_eq g31.symm)
        have K31 : Keep h0 h31 [] := Keep.ext KK29 E31
        have C31 : CHr Z consts_1 s.vm s.heap T29.vm h31 := CHr.trans C29 (CHr.ext E31 C29.1)
        refine own_byW (T' := T31) (g' := (mkF m 134 #[.val (.int u1), .val (.int j24), .val (.int kk), .val (.int (kk &&& (3 : Int32))), .val (.int j21), .val (.int (((kk.toUInt32 >>> ((3 : Int32) &&& 31).toUInt32).toInt32) &&& (3 : Int32))), .val (.int j25), .val (.ref x28), .val (.ref x29), .val (.int j9), .unset, .unset, .unset] [(.ref b31)])) (fun _ k => st31 _ k) ?_
        refine own_byW (T' := T31) (g' := (mkF m 135 #[.val (.int u1), .val (.int j24), .val (.int kk), .val (.int (kk &&& (3 : Int32))), .val (.int j21), .val (.int (((kk.toUInt32 >>> ((3 : Int32) &&& 31).toUInt32).toInt32) &&& (3 : Int32))), .val (.int j25), .val (.ref x28), .val (.ref x29), .val (.int j9), .unset, .unset, .unset] [(.ref b31), (.ref b31)])) (fun _ k => XS.dup X31.here hx rfl (hb hby at_134) rfl rfl k) ?_
        refine own_byW (T' := T31) (g' := (mkF m 137 #[.val (.int u1), .val (.int j24), .val (.int kk), .val (.int (kk &&& (3 : Int32))), .val (.int j21), .val (.int (((kk.toUInt32 >>> ((3 : Int32) &&& 31).toUInt32).toInt32) &&& (3 : Int32))), .val (.int j25), .val (.ref x28), .val (.ref x29), .val (.int j9), .unset, .unset, .unset] [(.ref x28), (.ref b31), (.ref b31)])) (fun _ k => XS.aload X31.here hx rfl (hb hby at_135) rfl rfl k) ?_
        obtain ⟨_, _, ⟨T32, L32, k32, n32⟩, -, X32, hSq32, hgq32, ⟨Lc32, hQ32, l32, y32, z32, Cq32⟩, st32⟩ := X31.specialBackS hx (y := (⟨"com/example/postings/postings/search/Phrase", "<init>", "(Ljava/lang/String;)V"⟩ : MethodName)) rfl hown29 (mvT hZ29 (hw _ (List.mem_of_getElem? (i := 29) rfl))) (mvT hZ29 (hw _ (List.mem_of_getElem? (i := 30) rfl))) (mvT hZ29 (hw _ (List.mem_of_getElem? (i := 31) rfl))) (by decide) (own_backSH (s := s) (EL := consts_1) (W := 1) (rm5 l Z a0 hw [] b31 x28  h31 n0 (Nat.le_trans (Nat.le_trans (Nat.le_trans Z0 K28.1) K29.1) E31.1) E_b31 F_text_b31 g_b31 (Exa.ext E31 (Exa.keep E28 K29))) hZ29 (hw _ (List.mem_of_getElem? (i := 31) rfl)) (hw _ (List.mem_of_getElem? (i := 28) rfl)) (by decide) (by decide) hEL C31.1 (fun _ _ => trivial)) (g := (mkF m 137 #[.val (.int u1), .val (.int j24), .val (.int kk), .val (.int (kk &&& (3 : Int32))), .val (.int j21), .val (.int (((kk.toUInt32 >>> ((3 : Int32) &&& 31).toUInt32).toInt32) &&& (3 : Int32))), .val (.int j25), .val (.ref x28), .val (.ref x29), .val (.int j9), .unset, .unset, .unset] [(.ref x28), (.ref b31), (.ref b31)])) rfl (by rw [hml]; rfl) (Steps.refl _) (a := b31) (argsL := [(.ref x28)]) (rest := [(.ref b31)]) (lenOf pd_11 rfl) rfl (by show 2 * 0 + _ ≤ _; exact Nat.le_of_eq rfl) (hb hby at_137) (fun _ _ => ⟨rfl, e31, (by decide : (((0 + 6) + 6) + 1) + 2 ≤ _), (by decide : (((0 + 12) + 12) + 1) + 20 ≤ _)⟩)
        dsimp only [Pt.U, Pt.locs, Pt.cells, Pt.slots] at X32 l32 y32 z32 st32 hQ32 hSq32 hgq32 Cq32
        subst l32 y32 z32
        obtain ⟨rfl, N32q, K32, Ft32⟩ := hQ32
        have N32 := Fr.app Nx30 N32q
        have KK32 : Keep h0 T32.heap [] := Keep.trans K31 K32 (allS (Or.inr sz_b31) all0)
        have hS32 := foldS hS29 (T := T31) (by rw [e31]; exact (Nat.le_trans (Nat.le_refl _) E31.1)) hSq32 hgq32
        have hZ32 : Z.Warmed39 (s.setVm T32.vm).vm := State.Warmed39.trans hZ29 hSq32.1
        have hown32 : (s.setVm T32.vm).vm.findClass "com/example/postings/postings/search/PhraseEqualsPinLaw" = some m.cls := by show T32.vm.findClass "com/example/postings/postings/search/PhraseEqualsPinLaw" = some m.cls; rw [hSq32.1.alike.findClass]; exact hown29
        have X32 : Stand p l e room_1 (s.setVm T32.vm) m #[(.int u1), (.int u2), (.int kk)] below meth c T32 (Lx30 ++ Lc32) ((((0 + 6) + 6) + 1) + 2) ((((0 + 12) + 12) + 1) + 20) := X32
        have C32 : CHr Z consts_1 s.vm s.heap T32.vm T32.heap := CHr.trans C31 Cq32
        refine own_byW (T' := T32) (g' := (mkF m 140 #[.val (.int u1), .val (.int j24), .val (.int kk), .val (.int (kk &&& (3 : Int32))), .val (.int j21), .val (.int (((kk.toUInt32 >>> ((3 : Int32) &&& 31).toUInt32).toInt32) &&& (3 : Int32))), .val (.int j25), .val (.ref x28), .val (.ref x29), .val (.int j9), .unset, .unset, .unset] [(.ref b31)])) (fun _ k => st32.trans k) ?_
        refine own_byW (T' := T32) (g' := (mkF m 142 #[.val (.int u1), .val (.int j24), .val (.int kk), .val (.int (kk &&& (3 : Int32))), .val (.int j21), .val (.int (((kk.toUInt32 >>> ((3 : Int32) &&& 31).toUInt32).toInt32) &&& (3 : Int32))), .val (.int j25), .val (.ref x28), .val (.ref x29), .val (.int j9), .val (.ref b31), .unset, .unset] [])) (fun _ k => XS.astore X32.here hx rfl (hb hby at_140) rfl rfl (l' := #[.val (.int u1), .val (.int j24), .val (.int kk), .val (.int (kk &&& (3 : Int32))), .val (.int j21), .val (.int (((kk.toUInt32 >>> ((3 : Int32) &&& 31).toUInt32).toInt32) &&& (3 : Int32))), .val (.int j25), .val (.ref x28), .val (.ref x29), .val (.int j9), .val (.ref b31), .unset, .unset]) rfl k) ?_
        refine own_byW (T' := T32) (g' := (mkF m 143 #[.val (.int u1), .val (.int j24), .val (.int kk), .val (.int (kk &&& (3 : Int32))), .val (.int j21), .val (.int (((kk.toUInt32 >>> ((3 : Int32) &&& 31).toUInt32).toInt32) &&& (3 : Int32))), .val (.int j25), .val (.ref x28), .val (.ref x29), .val (.int j9), .val (.ref b31), .unset, .unset] [(.int (kk &&& (3 : Int32)))])) (fun _ k => XS.iloadN X32.here hx rfl (hb hby at_142) rfl k) ?_
        by_cases hc143_33 : (kk &&& (3 : Int32)) = (0 : Int32)
        · skip
          refine own_byW (T' := T32) (g' := (mkF m 146 #[.val (.int u1), .val (.int j24), .val (.int kk), .val (.int (kk &&& (3 : Int32))), .val (.int j21), .val (.int (((kk.toUInt32 >>> ((3 : Int32) &&& 31).toUInt32).toInt32) &&& (3 : Int32))), .val (.int j25), .val (.ref x28), .val (.ref x29), .val (.int j9), .val (.ref b31), .unset, .unset] [])) (fun _ k => XS.ifNo X32.here hx rfl (hb hby at_143) rfl ((if0 _ _).trans (teq hc143_33).2) k) ?_
          obtain ⟨T34, h34, X34, e34, E34, A34, D34, -, st34⟩ := newO X32 hx hZ32 hown32 (hw _ (List.mem_of_getElem? (i := 26) rfl)) (hw _ (List.mem_of_getElem? (i := 27) rfl)) (hw _ (List.mem_of_getElem? (i := 28) rfl)) rfl (g := (mkF m 146 #[.val (.int u1), .val (.int j24), .val (.int kk), .val (.int (kk &&& (3 : Int32))), .val (.int j21), .val (.int (((kk.toUInt32 >>> ((3 : Int32) &&& 31).toUInt32).toInt32) &&& (3 : Int32))), .val (.int j25), .val (.ref x28), .val (.ref x29), .val (.int j9), .val (.ref b31), .unset, .unset] [])) rfl (hb hby at_146) (by decide) (by decide)
          obtain ⟨b34, g34⟩ : ∃ z, z = T32.heap.size := ⟨_, rfl⟩
          rw [← g34] at A34 D34 st34
          have E_b34 : Exa Z h34 b34 "com/example/postings/postings/search/Phrase" := A34
          have F_text_b34 : Fld Z h34 b34 "com/example/postings/postings/search/Phrase" "text" "Ljava/lang/String;" .null := D34 (Or.inr (hw _ (List.mem_of_getElem? (i := 45) rfl))) (ty := (.object "java/lang/String")) (by decide)
          have g_b34 : n0 ≤ b34 := Nat.le_trans (Nat.le_trans (Nat.le_trans (Nat.le_trans (Nat.le_trans Z0 K28.1) K29.1) E31.1) K32.1) (Nat.le_of_eq g34.symm)
          have sz_b34 : h0.size ≤ b34 := Nat.le_trans KK32.1 (Nat.le_of_eq g34.symm)
          have K34 : Keep h0 h34 [] := Keep.ext KK32 E34
          have C34 : CHr Z consts_1 s.vm s.heap T32.vm h34 := CHr.trans C32 (CHr.ext E34 C32.1)
          refine own_byW (T' := T34) (g' := (mkF m 149 #[.val (.int u1), .val (.int j24), .val (.int kk), .val (.int (kk &&& (3 : Int32))), .val (.int j21), .val (.int (((kk.toUInt32 >>> ((3 : Int32) &&& 31).toUInt32).toInt32) &&& (3 : Int32))), .val (.int j25), .val (.ref x28), .val (.ref x29), .val (.int j9), .val (.ref b31), .unset, .unset] [(.ref b34)])) (fun _ k => st34 _ k) ?_
          refine own_byW (T' := T34) (g' := (mkF m 150 #[.val (.int u1), .val (.int j24), .val (.int kk), .val (.int (kk &&& (3 : Int32))), .val (.int j21), .val (.int (((kk.toUInt32 >>> ((3 : Int32) &&& 31).toUInt32).toInt32) &&& (3 : Int32))), .val (.int j25), .val (.ref x28), .val (.ref x29), .val (.int j9), .val (.ref b31), .unset, .unset] [(.ref b34), (.ref b34)])) (fun _ k => XS.dup X34.here hx rfl (hb hby at_149) rfl rfl k) ?_
          refine own_byW (T' := T34) (g' := (mkF m 152 #[.val (.int u1), .val (.int j24), .val (.int kk), .val (.int (kk &&& (3 : Int32))), .val (.int j21), .val (.int (((kk.toUInt32 >>> ((3 : Int32) &&& 31).toUInt32).toInt32) &&& (3 : Int32))), .val (.int j25), .val (.ref x28), .val (.ref x29), .val (.int j9), .val (.ref b31), .unset, .unset] [(.ref x29), (.ref b34), (.ref b34)])) (fun _ k => XS.aload X34.here hx rfl (hb hby at_150) rfl rfl k) ?_
          obtain ⟨_, _, ⟨T35, L35, k35, n35⟩, -, X35, hSq35, hgq35, ⟨Lc35, hQ35, l35, y35, z35, Cq35⟩, st35⟩ := X34.specialBackS hx (y := (⟨"com/example/postings/postings/search/Phrase", "<init>", "(Ljava/lang/String;)V"⟩ : MethodName)) rfl hown32 (mvT hZ32 (hw _ (List.mem_of_getElem? (i := 29) rfl))) (mvT hZ32 (hw _ (List.mem_of_getElem? (i := 30) rfl))) (mvT hZ32 (hw _ (List.mem_of_getElem? (i := 31) rfl))) (by decide) (own_backSH (s := s) (EL := consts_1) (W := 1) (rm5 l Z a0 hw [] b34 x29  h34 n0 (Nat.le_trans (Nat.le_trans (Nat.le_trans (Nat.le_trans (Nat.le_trans Z0 K28.1) K29.1) E31.1) K32.1) E34.1) E_b34 F_text_b34 g_b34 (Exa.ext E34 (Exa.keep (Exa.ext E31 E29) K32))) hZ32 (hw _ (List.mem_of_getElem? (i := 31) rfl)) (hw _ (List.mem_of_getElem? (i := 28) rfl)) (by decide) (by decide) hEL C34.1 (fun _ _ => trivial)) (g := (mkF m 152 #[.val (.int u1), .val (.int j24), .val (.int kk), .val (.int (kk &&& (3 : Int32))), .val (.int j21), .val (.int (((kk.toUInt32 >>> ((3 : Int32) &&& 31).toUInt32).toInt32) &&& (3 : Int32))), .val (.int j25), .val (.ref x28), .val (.ref x29), .val (.int j9), .val (.ref b31), .unset, .unset] [(.ref x29), (.ref b34), (.ref b34)])) rfl (by rw [hml]; rfl) (Steps.refl _) (a := b34) (argsL := [(.ref x29)]) (rest := [(.ref b34)]) (lenOf pd_11 rfl) rfl (by show 2 * 0 + _ ≤ _; exact Nat.le_of_eq rfl) (hb hby at_152) (fun _ _ => ⟨rfl, e34, (by decide : (((((0 + 6) + 6) + 1) + 2) + 1) + 2 ≤ _), (by decide : (((((0 + 12) + 12) + 1) + 20) + 1) + 20 ≤ _)⟩)
          dsimp only [Pt.U, Pt.locs, Pt.cells, Pt.slots] at X35 l35 y35 z35 st35 hQ35 hSq35 hgq35 Cq35
          subst l35 y35 z35
          obtain ⟨rfl, N35q, K35, Ft35⟩ := hQ35
          have N35 := Fr.app N32 N35q
          have KK35 : Keep h0 T35.heap [] := Keep.trans K34 K35 (allS (Or.inr sz_b34) all0)
          have hS35 := foldS hS32 (T := T34) (by rw [e34]; exact (Nat.le_trans (Nat.le_refl _) E34.1)) hSq35 hgq35
          have hZ35 : Z.Warmed39 (s.setVm T35.vm).vm := State.Warmed39.trans hZ32 hSq35.1
          have hown35 : (s.setVm T35.vm).vm.findClass "com/example/postings/postings/search/PhraseEqualsPinLaw" = some m.cls := by show T35.vm.findClass "com/example/postings/postings/search/PhraseEqualsPinLaw" = some m.cls; rw [hSq35.1.alike.findClass]; exact hown32
          have X35 : Stand p l e room_1 (s.setVm T35.vm) m #[(.int u1), (.int u2), (.int kk)] below meth c T35 ((Lx30 ++ Lc32) ++ Lc35) ((((((0 + 6) + 6) + 1) + 2) + 1) + 2) ((((((0 + 12) + 12) + 1) + 20) + 1) + 20) := X35
          have C35 : CHr Z consts_1 s.vm s.heap T35.vm T35.heap := CHr.trans C34 Cq35
          refine own_byW (T' := T35) (g' := (mkF m 155 #[.val (.int u1), .val (.int j24), .val (.int kk), .val (.int (kk &&& (3 : Int32))), .val (.int j21), .val (.int (((kk.toUInt32 >>> ((3 : Int32) &&& 31).toUInt32).toInt32) &&& (3 : Int32))), .val (.int j25), .val (.ref x28), .val (.ref x29), .val (.int j9), .val (.ref b31), .unset, .unset] [(.ref b34)])) (fun _ k => st35.trans k) ?_
          refine own_byW (T' := T35) (g' := (mkF m 157 #[.val (.int u1), .val (.int j24), .val (.int kk), .val (.int (kk &&& (3 : Int32))), .val (.int j21), .val (.int (((kk.toUInt32 >>> ((3 : Int32) &&& 31).toUInt32).toInt32) &&& (3 : Int32))), .val (.int j25), .val (.ref x28), .val (.ref x29), .val (.int j9), .val (.ref b31), .val (.ref b34), .unset] [])) (fun _ k => XS.astore X35.here hx rfl (hb hby at_155) rfl rfl (l' := #[.val (.int u1), .val (.int j24), .val (.int kk), .val (.int (kk &&& (3 : Int32))), .val (.int j21), .val (.int (((kk.toUInt32 >>> ((3 : Int32) &&& 31).toUInt32).toInt32) &&& (3 : Int32))), .val (.int j25), .val (.ref x28), .val (.ref x29), .val (.int j9), .val (.ref b31), .val (.ref b34), .unset]) rfl k) ?_
          refine own_byW (T' := T35) (g' := (mkF m 159 #[.val (.int u1), .val (.int j24), .val (.int kk), .val (.int (kk &&& (3 : Int32))), .val (.int j21), .val (.int (((kk.toUInt32 >>> ((3 : Int32) &&& 31).toUInt32).toInt32) &&& (3 : Int32))), .val (.int j25), .val (.ref x28), .val (.ref x29), .val (.int j9), .val (.ref b31), .val (.ref b34), .unset] [(.int j9)])) (fun _ k => XS.iload X35.here hx rfl (hb hby at_157) rfl k) ?_
          refine own_byW (T' := T35) (g' := (mkF m 161 #[.val (.int u1), .val (.int j24), .val (.int kk), .val (.int (kk &&& (3 : Int32))), .val (.int j21), .val (.int (((kk.toUInt32 >>> ((3 : Int32) &&& 31).toUInt32).toInt32) &&& (3 : Int32))), .val (.int j25), .val (.ref x28), .val (.ref x29), .val (.int j9), .val (.ref b31), .val (.ref b34), .val (.int j9)] [])) (fun _ k => XS.istore X35.here hx rfl (hb hby at_159) rfl (l' := #[.val (.int u1), .val (.int j24), .val (.int kk), .val (.int (kk &&& (3 : Int32))), .val (.int j21), .val (.int (((kk.toUInt32 >>> ((3 : Int32) &&& 31).toUInt32).toInt32) &&& (3 : Int32))), .val (.int j25), .val (.ref x28), .val (.ref x29), .val (.int j9), .val (.ref b31), .val (.ref b34), .val (.int j9)]) rfl k) ?_
          refine own_byW (T' := T35) (g' := (mkF m 207 #[.val (.int u1), .val (.int j24), .val (.int kk), .val (.int (kk &&& (3 : Int32))), .val (.int j21), .val (.int (((kk.toUInt32 >>> ((3 : Int32) &&& 31).toUInt32).toInt32) &&& (3 : Int32))), .val (.int j25), .val (.ref x28), .val (.ref x29), .val (.int j9), .val (.ref b31), .val (.ref b34), .val (.int j9)] [])) (fun _ k => XS.goto X35.here hx rfl (pc0 := 161) (pc' := 207) rfl (hb hby at_161) (by decide) (by decide) k) ?_
          refine own_byW (T' := T35) (g' := (mkF m 209 #[.val (.int u1), .val (.int j24), .val (.int kk), .val (.int (kk &&& (3 : Int32))), .val (.int j21), .val (.int (((kk.toUInt32 >>> ((3 : Int32) &&& 31).toUInt32).toInt32) &&& (3 : Int32))), .val (.int j25), .val (.ref x28), .val (.ref x29), .val (.int j9), .val (.ref b31), .val (.ref b34), .val (.int j9)] [(.ref b31)])) (fun _ k => XS.aload X35.here hx rfl (hb hby at_207) rfl rfl k) ?_
          refine own_byW (T' := T35) (g' := (mkF m 211 #[.val (.int u1), .val (.int j24), .val (.int kk), .val (.int (kk &&& (3 : Int32))), .val (.int j21), .val (.int (((kk.toUInt32 >>> ((3 : Int32) &&& 31).toUInt32).toInt32) &&& (3 : Int32))), .val (.int j25), .val (.ref x28), .val (.ref x29), .val (.int j9), .val (.ref b31), .val (.ref b34), .val (.int j9)] [(.ref b34), (.ref b31)])) (fun _ k => XS.aload X35.here hx rfl (hb hby at_209) rfl rfl k) ?_
          obtain ⟨cq36, kq36, q36a, q36b, q36c⟩ := isOf hZ35 rfl (Exa.keep (Exa.ext E34 (Exa.keep E_b31 K32)) K35)
          obtain ⟨_, _, ⟨T36, L36, k36, n36⟩, -, X36, ⟨Lc36, hQ36, l36, y36, z36⟩, st36⟩ := X35.virtualBack hx (y := (⟨"com/example/postings/postings/search/Phrase", "equals", "(Ljava/lang/Object;)Z"⟩ : MethodName)) (z := (⟨"com/example/postings/postings/search/Phrase", "equals", "(Ljava/lang/Object;)Z"⟩ : MethodName)) hown35 (mvT hZ35 (hw _ (List.mem_of_getElem? (i := 46) rfl))) (mvT hZ35 (hw _ (List.mem_of_getElem? (i := 47) rfl))) (notFace_of_selects (args := #[]) (mvT hZ35 (hw _ (List.mem_of_getElem? (i := 49) rfl)))) (mvT hZ35 (hw _ (List.mem_of_getElem? (i := 49) rfl))) (mvT hZ35 (hw _ (List.mem_of_getElem? (i := 48) rfl))) (by decide) (backOf (W := 0) (peq_P l Z a0 hw [] b31 b34 x28 x29 t28 t29 kb28 kb29 cs (((kk.toUInt32 >>> ((3 : Int32) &&& 31).toUInt32).toInt32) &&& (3 : Int32)) u1 j25 j24 T35.heap n0 (Nat.le_trans (Nat.le_trans (Nat.le_trans (Nat.le_trans (Nat.le_trans (Nat.le_trans Z0 K28.1) K29.1) E31.1) K32.1) E34.1) K35.1) (Exa.keep E_b34 K35) (Fld.keep (Fld.ext E34 Ft32) K35 (ninS (Nat.ne_of_lt (Nat.lt_of_lt_of_le (Exa.keep E_b31 K32).lt (Nat.le_of_eq g34.symm))) nin0)) Ft35 (Exa.keep (Exa.ext E34 (Exa.keep (Exa.ext E31 (Exa.keep E28 K29)) K32)) K35) (Exa.keep (Exa.ext E34 (Exa.keep (Exa.ext E31 E29) K32)) K35) (Fld.keep (Fld.ext E34 (Fld.keep (Fld.ext E31 (Fld.keep Fc28 K29 nin0)) K32 (ninS (Nat.ne_of_lt (Nat.lt_of_lt_of_le (Exa.keep E28 K29).lt (Nat.le_of_eq g31.symm))) nin0))) K35 (ninS (Nat.ne_of_lt (Nat.lt_of_lt_of_le (Exa.keep (Exa.ext E31 (Exa.keep E28 K29)) K32).lt (Nat.le_of_eq g34.symm))) nin0)) (Fld.keep (Fld.ext E34 (Fld.keep (Fld.ext E31 Fc29) K32 (ninS (Nat.ne_of_lt (Nat.lt_of_lt_of_le E29.lt (Nat.le_of_eq g31.symm))) nin0))) K35 (ninS (Nat.ne_of_lt (Nat.lt_of_lt_of_le (Exa.keep (Exa.ext E31 E29) K32).lt (Nat.le_of_eq g34.symm))) nin0)) (Fld.keep (Fld.ext E34 (Fld.keep (Fld.ext E31 (Fld.keep Fv28 K29 nin0)) K32 (ninS (Nat.ne_of_lt (Nat.lt_of_lt_of_le (Exa.keep E28 K29).lt (Nat.le_of_eq g31.symm))) nin0))) K35 (ninS (Nat.ne_of_lt (Nat.lt_of_lt_of_le (Exa.keep (Exa.ext E31 (Exa.keep E28 K29)) K32).lt (Nat.le_of_eq g34.symm))) nin0)) (Fld.keep (Fld.ext E34 (Fld.keep (Fld.ext E31 Fv29) K32 (ninS (Nat.ne_of_lt (Nat.lt_of_lt_of_le E29.lt (Nat.le_of_eq g31.symm))) nin0))) K35 (ninS (Nat.ne_of_lt (Nat.lt_of_lt_of_le (Exa.keep (Exa.ext E31 E29) K32).lt (Nat.le_of_eq g34.symm))) nin0)) (Arv.keep (Arv.ext (Arv.keep (Arv.ext (Arv.keep V28 K29 nin0) E31) K32 (ninS (Nat.ne_of_lt (Nat.lt_of_lt_of_le (Arv.keep V28 K29 nin0).lt (Nat.le_of_eq g31.symm))) nin0)) E34) K35 (ninS (Nat.ne_of_lt (Nat.lt_of_lt_of_le (Arv.keep (Arv.ext (Arv.keep V28 K29 nin0) E31) K32 (ninS (Nat.ne_of_lt (Nat.lt_of_lt_of_le (Arv.keep V28 K29 nin0).lt (Nat.le_of_eq g31.symm))) nin0)).lt (Nat.le_of_eq g34.symm))) nin0)) (Arv.keep (Arv.ext (Arv.keep (Arv.ext V29 E31) K32 (ninS (Nat.ne_of_lt (Nat.lt_of_lt_of_le V29.lt (Nat.le_of_eq g31.symm))) nin0)) E34) K35 (ninS (Nat.ne_of_lt (Nat.lt_of_lt_of_le (Arv.keep (Arv.ext V29 E31) K32 (ninS (Nat.ne_of_lt (Nat.lt_of_lt_of_le V29.lt (Nat.le_of_eq g31.symm))) nin0)).lt (Nat.le_of_eq g34.symm))) nin0)) (Sta.ext ((Old.keep (Old.ext (Old.keep (Old.ext (Old.keep (Old.keep O0 K28 all0) K29 all0) E31) K32 (allS g_b31 all0)) E34) K35 (allS g_b34 all0))).2 S_CS) hcs (Nat.ne_of_lt (Nat.lt_of_lt_of_le (E28).lt zx29))) hZ35 (hw _ (List.mem_of_getElem? (i := 50) rfl)) (hw _ (List.mem_of_getElem? (i := 28) rfl)) (by decide) (by decide)) q36a q36c (g := (mkF m 211 #[.val (.int u1), .val (.int j24), .val (.int kk), .val (.int (kk &&& (3 : Int32))), .val (.int j21), .val (.int (((kk.toUInt32 >>> ((3 : Int32) &&& 31).toUInt32).toInt32) &&& (3 : Int32))), .val (.int j25), .val (.ref x28), .val (.ref x29), .val (.int j9), .val (.ref b31), .val (.ref b34), .val (.int j9)] [(.ref b34), (.ref b31)])) rfl (by rw [hml]; rfl) (Steps.refl _) (argsL := [(.ref b34)]) (rest := []) (lenOf pd_9 rfl) rfl (by show 2 * 0 + _ ≤ _; exact Nat.le_of_eq rfl) (hb hby at_211) (fun _ _ => ⟨rfl, rfl, (by decide : ((((((0 + 6) + 6) + 1) + 2) + 1) + 2) + 0 ≤ _), (by decide : ((((((0 + 12) + 12) + 1) + 20) + 1) + 20) + 0 ≤ _)⟩)
          dsimp only [Pt.U, Pt.locs, Pt.cells, Pt.slots] at X36 l36 y36 z36 st36 hQ36
          subst l36 y36 z36
          obtain ⟨rfl, N36q, e36⟩ := hQ36
          have N36 := Fr.app N35 N36q
          refine own_byW (T' := T36) (g' := (mkF m 214 #[.val (.int u1), .val (.int j24), .val (.int kk), .val (.int (kk &&& (3 : Int32))), .val (.int j21), .val (.int (((kk.toUInt32 >>> ((3 : Int32) &&& 31).toUInt32).toInt32) &&& (3 : Int32))), .val (.int j25), .val (.ref x28), .val (.ref x29), .val (.int j9), .val (.ref b31), .val (.ref b34), .val (.int j9)] [(.int (own_eq (((kk.toUInt32 >>> ((3 : Int32) &&& 31).toUInt32).toInt32) &&& (3 : Int32)) u1 j25 j24))])) (fun _ k => st36.trans k) ?_
          refine own_byW (T' := T36) (g' := (mkF m 216 #[.val (.int u1), .val (.int j24), .val (.int kk), .val (.int (kk &&& (3 : Int32))), .val (.int j21), .val (.int (((kk.toUInt32 >>> ((3 : Int32) &&& 31).toUInt32).toInt32) &&& (3 : Int32))), .val (.int j25), .val (.ref x28), .val (.ref x29), .val (.int j9), .val (.ref b31), .val (.ref b34), .val (.int j9)] [(.int j9), (.int (own_eq (((kk.toUInt32 >>> ((3 : Int32) &&& 31).toUInt32).toInt32) &&& (3 : Int32)) u1 j25 j24))])) (fun _ k => XS.iload X36.here hx rfl (hb hby at_214) rfl k) ?_
          refine own_byW (T' := T36) (g' := (mkF m 219 #[.val (.int u1), .val (.int j24), .val (.int kk), .val (.int (kk &&& (3 : Int32))), .val (.int j21), .val (.int (((kk.toUInt32 >>> ((3 : Int32) &&& 31).toUInt32).toInt32) &&& (3 : Int32))), .val (.int j25), .val (.ref x28), .val (.ref x29), .val (.int j9), .val (.ref b31), .val (.ref b34), .val (.int j9)] [])) (fun _ k => XS.icmpNo X36.here hx rfl (hb hby at_216) rfl (teq hj.symm).2 k) ?_
          refine own_byW (T' := T36) (g' := (mkF m 220 #[.val (.int u1), .val (.int j24), .val (.int kk), .val (.int (kk &&& (3 : Int32))), .val (.int j21), .val (.int (((kk.toUInt32 >>> ((3 : Int32) &&& 31).toUInt32).toInt32) &&& (3 : Int32))), .val (.int j25), .val (.ref x28), .val (.ref x29), .val (.int j9), .val (.ref b31), .val (.ref b34), .val (.int j9)] [(.int (1 : Int32))])) (fun _ k => XS.iconst X36.here hx rfl (hb hby at_219) k) ?_
          refine own_byW (T' := T36) (g' := (mkF m 224 #[.val (.int u1), .val (.int j24), .val (.int kk), .val (.int (kk &&& (3 : Int32))), .val (.int j21), .val (.int (((kk.toUInt32 >>> ((3 : Int32) &&& 31).toUInt32).toInt32) &&& (3 : Int32))), .val (.int j25), .val (.ref x28), .val (.ref x29), .val (.int j9), .val (.ref b31), .val (.ref b34), .val (.int j9)] [(.int (1 : Int32))])) (fun _ k => XS.goto X36.here hx rfl (pc0 := 220) (pc' := 224) rfl (hb hby at_220) (by decide) (by decide) k) ?_
          refine own_retW (s := s) X36 hlk hS35 (by rw [e36]; exact (Nat.le_refl _)) hZ35 hEL C35 e36 (v := some (.int (1 : Int32))) (fun h => by rw [Bd.returns] at h; cases h) (fun fs hr => retN X36 hx (t := .boolean) Bd.returns (by simp) (hb hby at_224) hr) ?_ (by decide) (by decide)
          rw [e36]
          exact ⟨rfl, N36⟩
        · skip
          refine own_byW (T' := T32) (g' := (mkF m 164 #[.val (.int u1), .val (.int j24), .val (.int kk), .val (.int (kk &&& (3 : Int32))), .val (.int j21), .val (.int (((kk.toUInt32 >>> ((3 : Int32) &&& 31).toUInt32).toInt32) &&& (3 : Int32))), .val (.int j25), .val (.ref x28), .val (.ref x29), .val (.int j9), .val (.ref b31), .unset, .unset] [])) (fun _ k => XS.ifYes X32.here hx rfl (pc0 := 143) (pc' := 164) rfl (hb hby at_143) rfl ((if0 _ _).trans (feq hc143_33).2) (by decide) (by decide) k) ?_
          refine own_byW (T' := T32) (g' := (mkF m 165 #[.val (.int u1), .val (.int j24), .val (.int kk), .val (.int (kk &&& (3 : Int32))), .val (.int j21), .val (.int (((kk.toUInt32 >>> ((3 : Int32) &&& 31).toUInt32).toInt32) &&& (3 : Int32))), .val (.int j25), .val (.ref x28), .val (.ref x29), .val (.int j9), .val (.ref b31), .unset, .unset] [(.int (kk &&& (3 : Int32)))])) (fun _ k => XS.iloadN X32.here hx rfl (hb hby at_164) rfl k) ?_
          refine own_byW (T' := T32) (g' := (mkF m 166 #[.val (.int u1), .val (.int j24), .val (.int kk), .val (.int (kk &&& (3 : Int32))), .val (.int j21), .val (.int (((kk.toUInt32 >>> ((3 : Int32) &&& 31).toUInt32).toInt32) &&& (3 : Int32))), .val (.int j25), .val (.ref x28), .val (.ref x29), .val (.int j9), .val (.ref b31), .unset, .unset] [(.int (1 : Int32)), (.int (kk &&& (3 : Int32)))])) (fun _ k => XS.iconst X32.here hx rfl (hb hby at_165) k) ?_
          by_cases hc166_37 : (kk &&& (3 : Int32)) = (1 : Int32)
          · skip
            refine own_byW (T' := T32) (g' := (mkF m 169 #[.val (.int u1), .val (.int j24), .val (.int kk), .val (.int (kk &&& (3 : Int32))), .val (.int j21), .val (.int (((kk.toUInt32 >>> ((3 : Int32) &&& 31).toUInt32).toInt32) &&& (3 : Int32))), .val (.int j25), .val (.ref x28), .val (.ref x29), .val (.int j9), .val (.ref b31), .unset, .unset] [])) (fun _ k => XS.icmpNo X32.here hx rfl (hb hby at_166) rfl (teq hc166_37).2 k) ?_
            obtain ⟨T38, h38, X38, e38, E38, A38, D38, -, st38⟩ := newO X32 hx hZ32 hown32 (hw _ (List.mem_of_getElem? (i := 72) rfl)) (hw _ (List.mem_of_getElem? (i := 73) rfl)) (hw _ (List.mem_of_getElem? (i := 74) rfl)) rfl (g := (mkF m 169 #[.val (.int u1), .val (.int j24), .val (.int kk), .val (.int (kk &&& (3 : Int32))), .val (.int j21), .val (.int (((kk.toUInt32 >>> ((3 : Int32) &&& 31).toUInt32).toInt32) &&& (3 : Int32))), .val (.int j25), .val (.ref x28), .val (.ref x29), .val (.int j9), .val (.ref b31), .unset, .unset] [])) rfl (hb hby at_169) (by decide) (by decide)
            obtain ⟨b38, g38⟩ : ∃ z, z = T32.heap.size := ⟨_, rfl⟩
            rw [← g38] at A38 D38 st38
            have E_b38 : Exa Z h38 b38 "com/example/postings/postings/search/Words" := A38
            have F_text_b38 : Fld Z h38 b38 "com/example/postings/postings/search/Words" "text" "Ljava/lang/String;" .null := D38 (Or.inr (hw _ (List.mem_of_getElem? (i := 83) rfl))) (ty := (.object "java/lang/String")) (by decide)
            have g_b38 : n0 ≤ b38 := Nat.le_trans (Nat.le_trans (Nat.le_trans (Nat.le_trans (Nat.le_trans Z0 K28.1) K29.1) E31.1) K32.1) (Nat.le_of_eq g38.symm)
            have sz_b38 : h0.size ≤ b38 := Nat.le_trans KK32.1 (Nat.le_of_eq g38.symm)
            have K38 : Keep h0 h38 [] := Keep.ext KK32 E38
            have C38 : CHr Z consts_1 s.vm s.heap T32.vm h38 := CHr.trans C32 (CHr.ext E38 C32.1)
            refine own_byW (T' := T38) (g' := (mkF m 172 #[.val (.int u1), .val (.int j24), .val (.int kk), .val (.int (kk &&& (3 : Int32))), .val (.int j21), .val (.int (((kk.toUInt32 >>> ((3 : Int32) &&& 31).toUInt32).toInt32) &&& (3 : Int32))), .val (.int j25), .val (.ref x28), .val (.ref x29), .val (.int j9), .val (.ref b31), .unset, .unset] [(.ref b38)])) (fun _ k => st38 _ k) ?_
            refine own_byW (T' := T38) (g' := (mkF m 173 #[.val (.int u1), .val (.int j24), .val (.int kk), .val (.int (kk &&& (3 : Int32))), .val (.int j21), .val (.int (((kk.toUInt32 >>> ((3 : Int32) &&& 31).toUInt32).toInt32) &&& (3 : Int32))), .val (.int j25), .val (.ref x28), .val (.ref x29), .val (.int j9), .val (.ref b31), .unset, .unset] [(.ref b38), (.ref b38)])) (fun _ k => XS.dup X38.here hx rfl (hb hby at_172) rfl rfl k) ?_
            refine own_byW (T' := T38) (g' := (mkF m 175 #[.val (.int u1), .val (.int j24), .val (.int kk), .val (.int (kk &&& (3 : Int32))), .val (.int j21), .val (.int (((kk.toUInt32 >>> ((3 : Int32) &&& 31).toUInt32).toInt32) &&& (3 : Int32))), .val (.int j25), .val (.ref x28), .val (.ref x29), .val (.int j9), .val (.ref b31), .unset, .unset] [(.ref x29), (.ref b38), (.ref b38)])) (fun _ k => XS.aload X38.here hx rfl (hb hby at_173) rfl rfl k) ?_
            obtain ⟨_, _, ⟨T39, L39, k39, n39⟩, -, X39, hSq39, hgq39, ⟨Lc39, hQ39, l39, y39, z39, Cq39⟩, st39⟩ := X38.specialBackS hx (y := (⟨"com/example/postings/postings/search/Words", "<init>", "(Ljava/lang/String;)V"⟩ : MethodName)) rfl hown32 (mvT hZ32 (hw _ (List.mem_of_getElem? (i := 75) rfl))) (mvT hZ32 (hw _ (List.mem_of_getElem? (i := 76) rfl))) (mvT hZ32 (hw _ (List.mem_of_getElem? (i := 77) rfl))) (by decide) (own_backSH (s := s) (EL := consts_1) (W := 1) (rm14 l Z a0 hw [] b38 x29  h38 n0 (Nat.le_trans (Nat.le_trans (Nat.le_trans (Nat.le_trans (Nat.le_trans Z0 K28.1) K29.1) E31.1) K32.1) E38.1) E_b38 F_text_b38 g_b38 (Exa.ext E38 (Exa.keep (Exa.ext E31 E29) K32))) hZ32 (hw _ (List.mem_of_getElem? (i := 77) rfl)) (hw _ (List.mem_of_getElem? (i := 74) rfl)) (by decide) (by decide) hEL C38.1 (fun _ _ => trivial)) (g := (mkF m 175 #[.val (.int u1), .val (.int j24), .val (.int kk), .val (.int (kk &&& (3 : Int32))), .val (.int j21), .val (.int (((kk.toUInt32 >>> ((3 : Int32) &&& 31).toUInt32).toInt32) &&& (3 : Int32))), .val (.int j25), .val (.ref x28), .val (.ref x29), .val (.int j9), .val (.ref b31), .unset, .unset] [(.ref x29), (.ref b38), (.ref b38)])) rfl (by rw [hml]; rfl) (Steps.refl _) (a := b38) (argsL := [(.ref x29)]) (rest := [(.ref b38)]) (lenOf pd_11 rfl) rfl (by show 2 * 0 + _ ≤ _; exact Nat.le_of_eq rfl) (hb hby at_175) (fun _ _ => ⟨rfl, e38, (by decide : (((((0 + 6) + 6) + 1) + 2) + 1) + 2 ≤ _), (by decide : (((((0 + 12) + 12) + 1) + 20) + 1) + 20 ≤ _)⟩)
            dsimp only [Pt.U, Pt.locs, Pt.cells, Pt.slots] at X39 l39 y39 z39 st39 hQ39 hSq39 hgq39 Cq39
            subst l39 y39 z39
            obtain ⟨rfl, N39q, K39, Ft39⟩ := hQ39
            have N39 := Fr.app N32 N39q
            have KK39 : Keep h0 T39.heap [] := Keep.trans K38 K39 (allS (Or.inr sz_b38) all0)
            have hS39 := foldS hS32 (T := T38) (by rw [e38]; exact (Nat.le_trans (Nat.le_refl _) E38.1)) hSq39 hgq39
            have hZ39 : Z.Warmed39 (s.setVm T39.vm).vm := State.Warmed39.trans hZ32 hSq39.1
            have hown39 : (s.setVm T39.vm).vm.findClass "com/example/postings/postings/search/PhraseEqualsPinLaw" = some m.cls := by show T39.vm.findClass "com/example/postings/postings/search/PhraseEqualsPinLaw" = some m.cls; rw [hSq39.1.alike.findClass]; exact hown32
            have X39 : Stand p l e room_1 (s.setVm T39.vm) m #[(.int u1), (.int u2), (.int kk)] below meth c T39 ((Lx30 ++ Lc32) ++ Lc39) ((((((0 + 6) + 6) + 1) + 2) + 1) + 2) ((((((0 + 12) + 12) + 1) + 20) + 1) + 20) := X39
            have C39 : CHr Z consts_1 s.vm s.heap T39.vm T39.heap := CHr.trans C38 Cq39
            refine own_byW (T' := T39) (g' := (mkF m 178 #[.val (.int u1), .val (.int j24), .val (.int kk), .val (.int (kk &&& (3 : Int32))), .val (.int j21), .val (.int (((kk.toUInt32 >>> ((3 : Int32) &&& 31).toUInt32).toInt32) &&& (3 : Int32))), .val (.int j25), .val (.ref x28), .val (.ref x29), .val (.int j9), .val (.ref b31), .unset, .unset] [(.ref b38)])) (fun _ k => st39.trans k) ?_
            refine own_byW (T' := T39) (g' := (mkF m 180 #[.val (.int u1), .val (.int j24), .val (.int kk), .val (.int (kk &&& (3 : Int32))), .val (.int j21), .val (.int (((kk.toUInt32 >>> ((3 : Int32) &&& 31).toUInt32).toInt32) &&& (3 : Int32))), .val (.int j25), .val (.ref x28), .val (.ref x29), .val (.int j9), .val (.ref b31), .val (.ref b38), .unset] [])) (fun _ k => XS.astore X39.here hx rfl (hb hby at_178) rfl rfl (l' := #[.val (.int u1), .val (.int j24), .val (.int kk), .val (.int (kk &&& (3 : Int32))), .val (.int j21), .val (.int (((kk.toUInt32 >>> ((3 : Int32) &&& 31).toUInt32).toInt32) &&& (3 : Int32))), .val (.int j25), .val (.ref x28), .val (.ref x29), .val (.int j9), .val (.ref b31), .val (.ref b38), .unset]) rfl k) ?_
            refine own_byW (T' := T39) (g' := (mkF m 181 #[.val (.int u1), .val (.int j24), .val (.int kk), .val (.int (kk &&& (3 : Int32))), .val (.int j21), .val (.int (((kk.toUInt32 >>> ((3 : Int32) &&& 31).toUInt32).toInt32) &&& (3 : Int32))), .val (.int j25), .val (.ref x28), .val (.ref x29), .val (.int j9), .val (.ref b31), .val (.ref b38), .unset] [(.int (0 : Int32))])) (fun _ k => XS.iconst X39.here hx rfl (hb hby at_180) k) ?_
            refine own_byW (T' := T39) (g' := (mkF m 183 #[.val (.int u1), .val (.int j24), .val (.int kk), .val (.int (kk &&& (3 : Int32))), .val (.int j21), .val (.int (((kk.toUInt32 >>> ((3 : Int32) &&& 31).toUInt32).toInt32) &&& (3 : Int32))), .val (.int j25), .val (.ref x28), .val (.ref x29), .val (.int j9), .val (.ref b31), .val (.ref b38), .val (.int (0 : Int32))] [])) (fun _ k => XS.istore X39.here hx rfl (hb hby at_181) rfl (l' := #[.val (.int u1), .val (.int j24), .val (.int kk), .val (.int (kk &&& (3 : Int32))), .val (.int j21), .val (.int (((kk.toUInt32 >>> ((3 : Int32) &&& 31).toUInt32).toInt32) &&& (3 : Int32))), .val (.int j25), .val (.ref x28), .val (.ref x29), .val (.int j9), .val (.ref b31), .val (.ref b38), .val (.int (0 : Int32))]) rfl k) ?_
            refine own_byW (T' := T39) (g' := (mkF m 207 #[.val (.int u1), .val (.int j24), .val (.int kk), .val (.int (kk &&& (3 : Int32))), .val (.int j21), .val (.int (((kk.toUInt32 >>> ((3 : Int32) &&& 31).toUInt32).toInt32) &&& (3 : Int32))), .val (.int j25), .val (.ref x28), .val (.ref x29), .val (.int j9), .val (.ref b31), .val (.ref b38), .val (.int (0 : Int32))] [])) (fun _ k => XS.goto X39.here hx rfl (pc0 := 183) (pc' := 207) rfl (hb hby at_183) (by decide) (by decide) k) ?_
            refine own_byW (T' := T39) (g' := (mkF m 209 #[.val (.int u1), .val (.int j24), .val (.int kk), .val (.int (kk &&& (3 : Int32))), .val (.int j21), .val (.int (((kk.toUInt32 >>> ((3 : Int32) &&& 31).toUInt32).toInt32) &&& (3 : Int32))), .val (.int j25), .val (.ref x28), .val (.ref x29), .val (.int j9), .val (.ref b31), .val (.ref b38), .val (.int (0 : Int32))] [(.ref b31)])) (fun _ k => XS.aload X39.here hx rfl (hb hby at_207) rfl rfl k) ?_
            refine own_byW (T' := T39) (g' := (mkF m 211 #[.val (.int u1), .val (.int j24), .val (.int kk), .val (.int (kk &&& (3 : Int32))), .val (.int j21), .val (.int (((kk.toUInt32 >>> ((3 : Int32) &&& 31).toUInt32).toInt32) &&& (3 : Int32))), .val (.int j25), .val (.ref x28), .val (.ref x29), .val (.int j9), .val (.ref b31), .val (.ref b38), .val (.int (0 : Int32))] [(.ref b38), (.ref b31)])) (fun _ k => XS.aload X39.here hx rfl (hb hby at_209) rfl rfl k) ?_
            obtain ⟨cq40, kq40, q40a, q40b, q40c⟩ := isOf hZ39 rfl (Exa.keep (Exa.ext E38 (Exa.keep E_b31 K32)) K39)
            obtain ⟨_, _, ⟨T40, L40, k40, n40⟩, -, X40, ⟨Lc40, hQ40, l40, y40, z40⟩, st40⟩ := X39.virtualBack hx (y := (⟨"com/example/postings/postings/search/Phrase", "equals", "(Ljava/lang/Object;)Z"⟩ : MethodName)) (z := (⟨"com/example/postings/postings/search/Phrase", "equals", "(Ljava/lang/Object;)Z"⟩ : MethodName)) hown39 (mvT hZ39 (hw _ (List.mem_of_getElem? (i := 46) rfl))) (mvT hZ39 (hw _ (List.mem_of_getElem? (i := 47) rfl))) (notFace_of_selects (args := #[]) (mvT hZ39 (hw _ (List.mem_of_getElem? (i := 49) rfl)))) (mvT hZ39 (hw _ (List.mem_of_getElem? (i := 49) rfl))) (mvT hZ39 (hw _ (List.mem_of_getElem? (i := 48) rfl))) (by decide) (backOf (W := 0) (peq_W l Z a0 hw [] b31 b38  T39.heap n0 (Nat.le_trans (Nat.le_trans (Nat.le_trans (Nat.le_trans (Nat.le_trans (Nat.le_trans Z0 K28.1) K29.1) E31.1) K32.1) E38.1) K39.1) (Exa.keep E_b38 K39)) hZ39 (hw _ (List.mem_of_getElem? (i := 50) rfl)) (hw _ (List.mem_of_getElem? (i := 28) rfl)) (by decide) (by decide)) q40a q40c (g := (mkF m 211 #[.val (.int u1), .val (.int j24), .val (.int kk), .val (.int (kk &&& (3 : Int32))), .val (.int j21), .val (.int (((kk.toUInt32 >>> ((3 : Int32) &&& 31).toUInt32).toInt32) &&& (3 : Int32))), .val (.int j25), .val (.ref x28), .val (.ref x29), .val (.int j9), .val (.ref b31), .val (.ref b38), .val (.int (0 : Int32))] [(.ref b38), (.ref b31)])) rfl (by rw [hml]; rfl) (Steps.refl _) (argsL := [(.ref b38)]) (rest := []) (lenOf pd_9 rfl) rfl (by show 2 * 0 + _ ≤ _; exact Nat.le_of_eq rfl) (hb hby at_211) (fun _ _ => ⟨rfl, rfl, (by decide : ((((((0 + 6) + 6) + 1) + 2) + 1) + 2) + 0 ≤ _), (by decide : ((((((0 + 12) + 12) + 1) + 20) + 1) + 20) + 0 ≤ _)⟩)
            dsimp only [Pt.U, Pt.locs, Pt.cells, Pt.slots] at X40 l40 y40 z40 st40 hQ40
            subst l40 y40 z40
            obtain ⟨rfl, N40q, e40⟩ := hQ40
            have N40 := Fr.app N39 N40q
            refine own_byW (T' := T40) (g' := (mkF m 214 #[.val (.int u1), .val (.int j24), .val (.int kk), .val (.int (kk &&& (3 : Int32))), .val (.int j21), .val (.int (((kk.toUInt32 >>> ((3 : Int32) &&& 31).toUInt32).toInt32) &&& (3 : Int32))), .val (.int j25), .val (.ref x28), .val (.ref x29), .val (.int j9), .val (.ref b31), .val (.ref b38), .val (.int (0 : Int32))] [(.int (0 : Int32))])) (fun _ k => st40.trans k) ?_
            refine own_byW (T' := T40) (g' := (mkF m 216 #[.val (.int u1), .val (.int j24), .val (.int kk), .val (.int (kk &&& (3 : Int32))), .val (.int j21), .val (.int (((kk.toUInt32 >>> ((3 : Int32) &&& 31).toUInt32).toInt32) &&& (3 : Int32))), .val (.int j25), .val (.ref x28), .val (.ref x29), .val (.int j9), .val (.ref b31), .val (.ref b38), .val (.int (0 : Int32))] [(.int (0 : Int32)), (.int (0 : Int32))])) (fun _ k => XS.iload X40.here hx rfl (hb hby at_214) rfl k) ?_
            refine own_byW (T' := T40) (g' := (mkF m 219 #[.val (.int u1), .val (.int j24), .val (.int kk), .val (.int (kk &&& (3 : Int32))), .val (.int j21), .val (.int (((kk.toUInt32 >>> ((3 : Int32) &&& 31).toUInt32).toInt32) &&& (3 : Int32))), .val (.int j25), .val (.ref x28), .val (.ref x29), .val (.int j9), .val (.ref b31), .val (.ref b38), .val (.int (0 : Int32))] [])) (fun _ k => XS.icmpNo X40.here hx rfl (hb hby at_216) rfl (teq (by decide)).2 k) ?_
            refine own_byW (T' := T40) (g' := (mkF m 220 #[.val (.int u1), .val (.int j24), .val (.int kk), .val (.int (kk &&& (3 : Int32))), .val (.int j21), .val (.int (((kk.toUInt32 >>> ((3 : Int32) &&& 31).toUInt32).toInt32) &&& (3 : Int32))), .val (.int j25), .val (.ref x28), .val (.ref x29), .val (.int j9), .val (.ref b31), .val (.ref b38), .val (.int (0 : Int32))] [(.int (1 : Int32))])) (fun _ k => XS.iconst X40.here hx rfl (hb hby at_219) k) ?_
            refine own_byW (T' := T40) (g' := (mkF m 224 #[.val (.int u1), .val (.int j24), .val (.int kk), .val (.int (kk &&& (3 : Int32))), .val (.int j21), .val (.int (((kk.toUInt32 >>> ((3 : Int32) &&& 31).toUInt32).toInt32) &&& (3 : Int32))), .val (.int j25), .val (.ref x28), .val (.ref x29), .val (.int j9), .val (.ref b31), .val (.ref b38), .val (.int (0 : Int32))] [(.int (1 : Int32))])) (fun _ k => XS.goto X40.here hx rfl (pc0 := 220) (pc' := 224) rfl (hb hby at_220) (by decide) (by decide) k) ?_
            refine own_retW (s := s) X40 hlk hS39 (by rw [e40]; exact (Nat.le_refl _)) hZ39 hEL C39 e40 (v := some (.int (1 : Int32))) (fun h => by rw [Bd.returns] at h; cases h) (fun fs hr => retN X40 hx (t := .boolean) Bd.returns (by simp) (hb hby at_224) hr) ?_ (by decide) (by decide)
            rw [e40]
            exact ⟨rfl, N40⟩
          · skip
            refine own_byW (T' := T32) (g' := (mkF m 186 #[.val (.int u1), .val (.int j24), .val (.int kk), .val (.int (kk &&& (3 : Int32))), .val (.int j21), .val (.int (((kk.toUInt32 >>> ((3 : Int32) &&& 31).toUInt32).toInt32) &&& (3 : Int32))), .val (.int j25), .val (.ref x28), .val (.ref x29), .val (.int j9), .val (.ref b31), .unset, .unset] [])) (fun _ k => XS.icmpYes X32.here hx rfl (pc0 := 166) (pc' := 186) rfl (hb hby at_166) rfl (feq hc166_37).2 (by decide) (by decide) k) ?_
            refine own_byW (T' := T32) (g' := (mkF m 187 #[.val (.int u1), .val (.int j24), .val (.int kk), .val (.int (kk &&& (3 : Int32))), .val (.int j21), .val (.int (((kk.toUInt32 >>> ((3 : Int32) &&& 31).toUInt32).toInt32) &&& (3 : Int32))), .val (.int j25), .val (.ref x28), .val (.ref x29), .val (.int j9), .val (.ref b31), .unset, .unset] [(.int (kk &&& (3 : Int32)))])) (fun _ k => XS.iloadN X32.here hx rfl (hb hby at_186) rfl k) ?_
            refine own_byW (T' := T32) (g' := (mkF m 188 #[.val (.int u1), .val (.int j24), .val (.int kk), .val (.int (kk &&& (3 : Int32))), .val (.int j21), .val (.int (((kk.toUInt32 >>> ((3 : Int32) &&& 31).toUInt32).toInt32) &&& (3 : Int32))), .val (.int j25), .val (.ref x28), .val (.ref x29), .val (.int j9), .val (.ref b31), .unset, .unset] [(.int (2 : Int32)), (.int (kk &&& (3 : Int32)))])) (fun _ k => XS.iconst X32.here hx rfl (hb hby at_187) k) ?_
            by_cases hc188_41 : (kk &&& (3 : Int32)) = (2 : Int32)
            · skip
              refine own_byW (T' := T32) (g' := (mkF m 191 #[.val (.int u1), .val (.int j24), .val (.int kk), .val (.int (kk &&& (3 : Int32))), .val (.int j21), .val (.int (((kk.toUInt32 >>> ((3 : Int32) &&& 31).toUInt32).toInt32) &&& (3 : Int32))), .val (.int j25), .val (.ref x28), .val (.ref x29), .val (.int j9), .val (.ref b31), .unset, .unset] [])) (fun _ k => XS.icmpNo X32.here hx rfl (hb hby at_188) rfl (teq hc188_41).2 k) ?_
              refine own_byW (T' := T32) (g' := (mkF m 192 #[.val (.int u1), .val (.int j24), .val (.int kk), .val (.int (kk &&& (3 : Int32))), .val (.int j21), .val (.int (((kk.toUInt32 >>> ((3 : Int32) &&& 31).toUInt32).toInt32) &&& (3 : Int32))), .val (.int j25), .val (.ref x28), .val (.ref x29), .val (.int j9), .val (.ref b31), .unset, .unset] [.null])) (fun _ k => XS.aconstNull X32.here hx rfl (hb hby at_191) k) ?_
              refine own_byW (T' := T32) (g' := (mkF m 194 #[.val (.int u1), .val (.int j24), .val (.int kk), .val (.int (kk &&& (3 : Int32))), .val (.int j21), .val (.int (((kk.toUInt32 >>> ((3 : Int32) &&& 31).toUInt32).toInt32) &&& (3 : Int32))), .val (.int j25), .val (.ref x28), .val (.ref x29), .val (.int j9), .val (.ref b31), .val .null, .unset] [])) (fun _ k => XS.astore X32.here hx rfl (hb hby at_192) rfl rfl (l' := #[.val (.int u1), .val (.int j24), .val (.int kk), .val (.int (kk &&& (3 : Int32))), .val (.int j21), .val (.int (((kk.toUInt32 >>> ((3 : Int32) &&& 31).toUInt32).toInt32) &&& (3 : Int32))), .val (.int j25), .val (.ref x28), .val (.ref x29), .val (.int j9), .val (.ref b31), .val .null, .unset]) rfl k) ?_
              refine own_byW (T' := T32) (g' := (mkF m 195 #[.val (.int u1), .val (.int j24), .val (.int kk), .val (.int (kk &&& (3 : Int32))), .val (.int j21), .val (.int (((kk.toUInt32 >>> ((3 : Int32) &&& 31).toUInt32).toInt32) &&& (3 : Int32))), .val (.int j25), .val (.ref x28), .val (.ref x29), .val (.int j9), .val (.ref b31), .val .null, .unset] [(.int (0 : Int32))])) (fun _ k => XS.iconst X32.here hx rfl (hb hby at_194) k) ?_
              refine own_byW (T' := T32) (g' := (mkF m 197 #[.val (.int u1), .val (.int j24), .val (.int kk), .val (.int (kk &&& (3 : Int32))), .val (.int j21), .val (.int (((kk.toUInt32 >>> ((3 : Int32) &&& 31).toUInt32).toInt32) &&& (3 : Int32))), .val (.int j25), .val (.ref x28), .val (.ref x29), .val (.int j9), .val (.ref b31), .val .null, .val (.int (0 : Int32))] [])) (fun _ k => XS.istore X32.here hx rfl (hb hby at_195) rfl (l' := #[.val (.int u1), .val (.int j24), .val (.int kk), .val (.int (kk &&& (3 : Int32))), .val (.int j21), .val (.int (((kk.toUInt32 >>> ((3 : Int32) &&& 31).toUInt32).toInt32) &&& (3 : Int32))), .val (.int j25), .val (.ref x28), .val (.ref x29), .val (.int j9), .val (.ref b31), .val .null, .val (.int (0 : Int32))]) rfl k) ?_
              refine own_byW (T' := T32) (g' := (mkF m 207 #[.val (.int u1), .val (.int j24), .val (.int kk), .val (.int (kk &&& (3 : Int32))), .val (.int j21), .val (.int (((kk.toUInt32 >>> ((3 : Int32) &&& 31).toUInt32).toInt32) &&& (3 : Int32))), .val (.int j25), .val (.ref x28), .val (.ref x29), .val (.int j9), .val (.ref b31), .val .null, .val (.int (0 : Int32))] [])) (fun _ k => XS.goto X32.here hx rfl (pc0 := 197) (pc' := 207) rfl (hb hby at_197) (by decide) (by decide) k) ?_
              refine own_byW (T' := T32) (g' := (mkF m 209 #[.val (.int u1), .val (.int j24), .val (.int kk), .val (.int (kk &&& (3 : Int32))), .val (.int j21), .val (.int (((kk.toUInt32 >>> ((3 : Int32) &&& 31).toUInt32).toInt32) &&& (3 : Int32))), .val (.int j25), .val (.ref x28), .val (.ref x29), .val (.int j9), .val (.ref b31), .val .null, .val (.int (0 : Int32))] [(.ref b31)])) (fun _ k => XS.aload X32.here hx rfl (hb hby at_207) rfl rfl k) ?_
              refine own_byW (T' := T32) (g' := (mkF m 211 #[.val (.int u1), .val (.int j24), .val (.int kk), .val (.int (kk &&& (3 : Int32))), .val (.int j21), .val (.int (((kk.toUInt32 >>> ((3 : Int32) &&& 31).toUInt32).toInt32) &&& (3 : Int32))), .val (.int j25), .val (.ref x28), .val (.ref x29), .val (.int j9), .val (.ref b31), .val .null, .val (.int (0 : Int32))] [.null, (.ref b31)])) (fun _ k => XS.aload X32.here hx rfl (hb hby at_209) rfl rfl k) ?_
              obtain ⟨cq42, kq42, q42a, q42b, q42c⟩ := isOf hZ32 rfl (Exa.keep E_b31 K32)
              obtain ⟨_, _, ⟨T42, L42, k42, n42⟩, -, X42, ⟨Lc42, hQ42, l42, y42, z42⟩, st42⟩ := X32.virtualBack hx (y := (⟨"com/example/postings/postings/search/Phrase", "equals", "(Ljava/lang/Object;)Z"⟩ : MethodName)) (z := (⟨"com/example/postings/postings/search/Phrase", "equals", "(Ljava/lang/Object;)Z"⟩ : MethodName)) hown32 (mvT hZ32 (hw _ (List.mem_of_getElem? (i := 46) rfl))) (mvT hZ32 (hw _ (List.mem_of_getElem? (i := 47) rfl))) (notFace_of_selects (args := #[]) (mvT hZ32 (hw _ (List.mem_of_getElem? (i := 49) rfl)))) (mvT hZ32 (hw _ (List.mem_of_getElem? (i := 49) rfl))) (mvT hZ32 (hw _ (List.mem_of_getElem? (i := 48) rfl))) (by decide) (backOf (W := 0) (peq_N l Z a0 hw [] b31  T32.heap n0 (Nat.le_trans (Nat.le_trans (Nat.le_trans (Nat.le_trans Z0 K28.1) K29.1) E31.1) K32.1) ) hZ32 (hw _ (List.mem_of_getElem? (i := 50) rfl)) (hw _ (List.mem_of_getElem? (i := 28) rfl)) (by decide) (by decide)) q42a q42c (g := (mkF m 211 #[.val (.int u1), .val (.int j24), .val (.int kk), .val (.int (kk &&& (3 : Int32))), .val (.int j21), .val (.int (((kk.toUInt32 >>> ((3 : Int32) &&& 31).toUInt32).toInt32) &&& (3 : Int32))), .val (.int j25), .val (.ref x28), .val (.ref x29), .val (.int j9), .val (.ref b31), .val .null, .val (.int (0 : Int32))] [.null, (.ref b31)])) rfl (by rw [hml]; rfl) (Steps.refl _) (argsL := [.null]) (rest := []) (lenOf pd_9 rfl) rfl (by show 2 * 0 + _ ≤ _; exact Nat.le_of_eq rfl) (hb hby at_211) (fun _ _ => ⟨rfl, rfl, (by decide : ((((0 + 6) + 6) + 1) + 2) + 0 ≤ _), (by decide : ((((0 + 12) + 12) + 1) + 20) + 0 ≤ _)⟩)
              dsimp only [Pt.U, Pt.locs, Pt.cells, Pt.slots] at X42 l42 y42 z42 st42 hQ42
              subst l42 y42 z42
              obtain ⟨rfl, N42q, e42⟩ := hQ42
              have N42 := Fr.app N32 N42q
              refine own_byW (T' := T42) (g' := (mkF m 214 #[.val (.int u1), .val (.int j24), .val (.int kk), .val (.int (kk &&& (3 : Int32))), .val (.int j21), .val (.int (((kk.toUInt32 >>> ((3 : Int32) &&& 31).toUInt32).toInt32) &&& (3 : Int32))), .val (.int j25), .val (.ref x28), .val (.ref x29), .val (.int j9), .val (.ref b31), .val .null, .val (.int (0 : Int32))] [(.int (0 : Int32))])) (fun _ k => st42.trans k) ?_
              refine own_byW (T' := T42) (g' := (mkF m 216 #[.val (.int u1), .val (.int j24), .val (.int kk), .val (.int (kk &&& (3 : Int32))), .val (.int j21), .val (.int (((kk.toUInt32 >>> ((3 : Int32) &&& 31).toUInt32).toInt32) &&& (3 : Int32))), .val (.int j25), .val (.ref x28), .val (.ref x29), .val (.int j9), .val (.ref b31), .val .null, .val (.int (0 : Int32))] [(.int (0 : Int32)), (.int (0 : Int32))])) (fun _ k => XS.iload X42.here hx rfl (hb hby at_214) rfl k) ?_
              refine own_byW (T' := T42) (g' := (mkF m 219 #[.val (.int u1), .val (.int j24), .val (.int kk), .val (.int (kk &&& (3 : Int32))), .val (.int j21), .val (.int (((kk.toUInt32 >>> ((3 : Int32) &&& 31).toUInt32).toInt32) &&& (3 : Int32))), .val (.int j25), .val (.ref x28), .val (.ref x29), .val (.int j9), .val (.ref b31), .val .null, .val (.int (0 : Int32))] [])) (fun _ k => XS.icmpNo X42.here hx rfl (hb hby at_216) rfl (teq (by decide)).2 k) ?_
              refine own_byW (T' := T42) (g' := (mkF m 220 #[.val (.int u1), .val (.int j24), .val (.int kk), .val (.int (kk &&& (3 : Int32))), .val (.int j21), .val (.int (((kk.toUInt32 >>> ((3 : Int32) &&& 31).toUInt32).toInt32) &&& (3 : Int32))), .val (.int j25), .val (.ref x28), .val (.ref x29), .val (.int j9), .val (.ref b31), .val .null, .val (.int (0 : Int32))] [(.int (1 : Int32))])) (fun _ k => XS.iconst X42.here hx rfl (hb hby at_219) k) ?_
              refine own_byW (T' := T42) (g' := (mkF m 224 #[.val (.int u1), .val (.int j24), .val (.int kk), .val (.int (kk &&& (3 : Int32))), .val (.int j21), .val (.int (((kk.toUInt32 >>> ((3 : Int32) &&& 31).toUInt32).toInt32) &&& (3 : Int32))), .val (.int j25), .val (.ref x28), .val (.ref x29), .val (.int j9), .val (.ref b31), .val .null, .val (.int (0 : Int32))] [(.int (1 : Int32))])) (fun _ k => XS.goto X42.here hx rfl (pc0 := 220) (pc' := 224) rfl (hb hby at_220) (by decide) (by decide) k) ?_
              refine own_retW (s := s) X42 hlk hS32 (by rw [e42]; exact (Nat.le_refl _)) hZ32 hEL C32 e42 (v := some (.int (1 : Int32))) (fun h => by rw [Bd.returns] at h; cases h) (fun fs hr => retN X42 hx (t := .boolean) Bd.returns (by simp) (hb hby at_224) hr) ?_ (by decide) (by decide)
              rw [e42]
              exact ⟨rfl, N42⟩
            · skip
              refine own_byW (T' := T32) (g' := (mkF m 200 #[.val (.int u1), .val (.int j24), .val (.int kk), .val (.int (kk &&& (3 : Int32))), .val (.int j21), .val (.int (((kk.toUInt32 >>> ((3 : Int32) &&& 31).toUInt32).toInt32) &&& (3 : Int32))), .val (.int j25), .val (.ref x28), .val (.ref x29), .val (.int j9), .val (.ref b31), .unset, .unset] [])) (fun _ k => XS.icmpYes X32.here hx rfl (pc0 := 188) (pc' := 200) rfl (hb hby at_188) rfl (feq hc188_41).2 (by decide) (by decide) k) ?_
              refine own_byW (T' := T32) (g' := (mkF m 202 #[.val (.int u1), .val (.int j24), .val (.int kk), .val (.int (kk &&& (3 : Int32))), .val (.int j21), .val (.int (((kk.toUInt32 >>> ((3 : Int32) &&& 31).toUInt32).toInt32) &&& (3 : Int32))), .val (.int j25), .val (.ref x28), .val (.ref x29), .val (.int j9), .val (.ref b31), .unset, .unset] [(.ref b31)])) (fun _ k => XS.aload X32.here hx rfl (hb hby at_200) rfl rfl k) ?_
              refine own_byW (T' := T32) (g' := (mkF m 204 #[.val (.int u1), .val (.int j24), .val (.int kk), .val (.int (kk &&& (3 : Int32))), .val (.int j21), .val (.int (((kk.toUInt32 >>> ((3 : Int32) &&& 31).toUInt32).toInt32) &&& (3 : Int32))), .val (.int j25), .val (.ref x28), .val (.ref x29), .val (.int j9), .val (.ref b31), .val (.ref b31), .unset] [])) (fun _ k => XS.astore X32.here hx rfl (hb hby at_202) rfl rfl (l' := #[.val (.int u1), .val (.int j24), .val (.int kk), .val (.int (kk &&& (3 : Int32))), .val (.int j21), .val (.int (((kk.toUInt32 >>> ((3 : Int32) &&& 31).toUInt32).toInt32) &&& (3 : Int32))), .val (.int j25), .val (.ref x28), .val (.ref x29), .val (.int j9), .val (.ref b31), .val (.ref b31), .unset]) rfl k) ?_
              refine own_byW (T' := T32) (g' := (mkF m 205 #[.val (.int u1), .val (.int j24), .val (.int kk), .val (.int (kk &&& (3 : Int32))), .val (.int j21), .val (.int (((kk.toUInt32 >>> ((3 : Int32) &&& 31).toUInt32).toInt32) &&& (3 : Int32))), .val (.int j25), .val (.ref x28), .val (.ref x29), .val (.int j9), .val (.ref b31), .val (.ref b31), .unset] [(.int (1 : Int32))])) (fun _ k => XS.iconst X32.here hx rfl (hb hby at_204) k) ?_
              refine own_byW (T' := T32) (g' := (mkF m 207 #[.val (.int u1), .val (.int j24), .val (.int kk), .val (.int (kk &&& (3 : Int32))), .val (.int j21), .val (.int (((kk.toUInt32 >>> ((3 : Int32) &&& 31).toUInt32).toInt32) &&& (3 : Int32))), .val (.int j25), .val (.ref x28), .val (.ref x29), .val (.int j9), .val (.ref b31), .val (.ref b31), .val (.int (1 : Int32))] [])) (fun _ k => XS.istore X32.here hx rfl (hb hby at_205) rfl (l' := #[.val (.int u1), .val (.int j24), .val (.int kk), .val (.int (kk &&& (3 : Int32))), .val (.int j21), .val (.int (((kk.toUInt32 >>> ((3 : Int32) &&& 31).toUInt32).toInt32) &&& (3 : Int32))), .val (.int j25), .val (.ref x28), .val (.ref x29), .val (.int j9), .val (.ref b31), .val (.ref b31), .val (.int (1 : Int32))]) rfl k) ?_
              refine own_byW (T' := T32) (g' := (mkF m 209 #[.val (.int u1), .val (.int j24), .val (.int kk), .val (.int (kk &&& (3 : Int32))), .val (.int j21), .val (.int (((kk.toUInt32 >>> ((3 : Int32) &&& 31).toUInt32).toInt32) &&& (3 : Int32))), .val (.int j25), .val (.ref x28), .val (.ref x29), .val (.int j9), .val (.ref b31), .val (.ref b31), .val (.int (1 : Int32))] [(.ref b31)])) (fun _ k => XS.aload X32.here hx rfl (hb hby at_207) rfl rfl k) ?_
              refine own_byW (T' := T32) (g' := (mkF m 211 #[.val (.int u1), .val (.int j24), .val (.int kk), .val (.int (kk &&& (3 : Int32))), .val (.int j21), .val (.int (((kk.toUInt32 >>> ((3 : Int32) &&& 31).toUInt32).toInt32) &&& (3 : Int32))), .val (.int j25), .val (.ref x28), .val (.ref x29), .val (.int j9), .val (.ref b31), .val (.ref b31), .val (.int (1 : Int32))] [(.ref b31), (.ref b31)])) (fun _ k => XS.aload X32.here hx rfl (hb hby at_209) rfl rfl k) ?_
              obtain ⟨cq43, kq43, q43a, q43b, q43c⟩ := isOf hZ32 rfl (Exa.keep E_b31 K32)
              obtain ⟨_, _, ⟨T43, L43, k43, n43⟩, -, X43, ⟨Lc43, hQ43, l43, y43, z43⟩, st43⟩ := X32.virtualBack hx (y := (⟨"com/example/postings/postings/search/Phrase", "equals", "(Ljava/lang/Object;)Z"⟩ : MethodName)) (z := (⟨"com/example/postings/postings/search/Phrase", "equals", "(Ljava/lang/Object;)Z"⟩ : MethodName)) hown32 (mvT hZ32 (hw _ (List.mem_of_getElem? (i := 46) rfl))) (mvT hZ32 (hw _ (List.mem_of_getElem? (i := 47) rfl))) (notFace_of_selects (args := #[]) (mvT hZ32 (hw _ (List.mem_of_getElem? (i := 49) rfl)))) (mvT hZ32 (hw _ (List.mem_of_getElem? (i := 49) rfl))) (mvT hZ32 (hw _ (List.mem_of_getElem? (i := 48) rfl))) (by decide) (backOf (W := 0) (peq_S l Z a0 hw [] b31 x28 T32.heap n0 (Nat.le_trans (Nat.le_trans (Nat.le_trans (Nat.le_trans Z0 K28.1) K29.1) E31.1) K32.1) (Exa.keep E_b31 K32) Ft32 (Exa.keep (Exa.ext E31 (Exa.keep E28 K29)) K32)) hZ32 (hw _ (List.mem_of_getElem? (i := 50) rfl)) (hw _ (List.mem_of_getElem? (i := 28) rfl)) (by decide) (by decide)) q43a q43c (g := (mkF m 211 #[.val (.int u1), .val (.int j24), .val (.int kk), .val (.int (kk &&& (3 : Int32))), .val (.int j21), .val (.int (((kk.toUInt32 >>> ((3 : Int32) &&& 31).toUInt32).toInt32) &&& (3 : Int32))), .val (.int j25), .val (.ref x28), .val (.ref x29), .val (.int j9), .val (.ref b31), .val (.ref b31), .val (.int (1 : Int32))] [(.ref b31), (.ref b31)])) rfl (by rw [hml]; rfl) (Steps.refl _) (argsL := [(.ref b31)]) (rest := []) (lenOf pd_9 rfl) rfl (by show 2 * 0 + _ ≤ _; exact Nat.le_of_eq rfl) (hb hby at_211) (fun _ _ => ⟨rfl, rfl, (by decide : ((((0 + 6) + 6) + 1) + 2) + 0 ≤ _), (by decide : ((((0 + 12) + 12) + 1) + 20) + 0 ≤ _)⟩)
              dsimp only [Pt.U, Pt.locs, Pt.cells, Pt.slots] at X43 l43 y43 z43 st43 hQ43
              subst l43 y43 z43
              obtain ⟨rfl, N43q, e43⟩ := hQ43
              have N43 := Fr.app N32 N43q
              refine own_byW (T' := T43) (g' := (mkF m 214 #[.val (.int u1), .val (.int j24), .val (.int kk), .val (.int (kk &&& (3 : Int32))), .val (.int j21), .val (.int (((kk.toUInt32 >>> ((3 : Int32) &&& 31).toUInt32).toInt32) &&& (3 : Int32))), .val (.int j25), .val (.ref x28), .val (.ref x29), .val (.int j9), .val (.ref b31), .val (.ref b31), .val (.int (1 : Int32))] [(.int (1 : Int32))])) (fun _ k => st43.trans k) ?_
              refine own_byW (T' := T43) (g' := (mkF m 216 #[.val (.int u1), .val (.int j24), .val (.int kk), .val (.int (kk &&& (3 : Int32))), .val (.int j21), .val (.int (((kk.toUInt32 >>> ((3 : Int32) &&& 31).toUInt32).toInt32) &&& (3 : Int32))), .val (.int j25), .val (.ref x28), .val (.ref x29), .val (.int j9), .val (.ref b31), .val (.ref b31), .val (.int (1 : Int32))] [(.int (1 : Int32)), (.int (1 : Int32))])) (fun _ k => XS.iload X43.here hx rfl (hb hby at_214) rfl k) ?_
              refine own_byW (T' := T43) (g' := (mkF m 219 #[.val (.int u1), .val (.int j24), .val (.int kk), .val (.int (kk &&& (3 : Int32))), .val (.int j21), .val (.int (((kk.toUInt32 >>> ((3 : Int32) &&& 31).toUInt32).toInt32) &&& (3 : Int32))), .val (.int j25), .val (.ref x28), .val (.ref x29), .val (.int j9), .val (.ref b31), .val (.ref b31), .val (.int (1 : Int32))] [])) (fun _ k => XS.icmpNo X43.here hx rfl (hb hby at_216) rfl (teq (by decide)).2 k) ?_
              refine own_byW (T' := T43) (g' := (mkF m 220 #[.val (.int u1), .val (.int j24), .val (.int kk), .val (.int (kk &&& (3 : Int32))), .val (.int j21), .val (.int (((kk.toUInt32 >>> ((3 : Int32) &&& 31).toUInt32).toInt32) &&& (3 : Int32))), .val (.int j25), .val (.ref x28), .val (.ref x29), .val (.int j9), .val (.ref b31), .val (.ref b31), .val (.int (1 : Int32))] [(.int (1 : Int32))])) (fun _ k => XS.iconst X43.here hx rfl (hb hby at_219) k) ?_
              refine own_byW (T' := T43) (g' := (mkF m 224 #[.val (.int u1), .val (.int j24), .val (.int kk), .val (.int (kk &&& (3 : Int32))), .val (.int j21), .val (.int (((kk.toUInt32 >>> ((3 : Int32) &&& 31).toUInt32).toInt32) &&& (3 : Int32))), .val (.int j25), .val (.ref x28), .val (.ref x29), .val (.int j9), .val (.ref b31), .val (.ref b31), .val (.int (1 : Int32))] [(.int (1 : Int32))])) (fun _ k => XS.goto X43.here hx rfl (pc0 := 220) (pc' := 224) rfl (hb hby at_220) (by decide) (by decide) k) ?_
              refine own_retW (s := s) X43 hlk hS32 (by rw [e43]; exact (Nat.le_refl _)) hZ32 hEL C32 e43 (v := some (.int (1 : Int32))) (fun h => by rw [Bd.returns] at h; cases h) (fun fs hr => retN X43 hx (t := .boolean) Bd.returns (by simp) (hb hby at_224) hr) ?_ (by decide) (by decide)
              rw [e43]
              exact ⟨rfl, N43⟩
      refine own_byW (T' := T29) (g' := (mkF m 62 #[.val (.int u1), .val (.int j24), .val (.int kk), .val (.int (kk &&& (3 : Int32))), .val (.int j21), .val (.int (((kk.toUInt32 >>> ((3 : Int32) &&& 31).toUInt32).toInt32) &&& (3 : Int32))), .val (.int j25), .val (.ref x28), .val (.ref x29), .unset, .unset, .unset, .unset] [(.int (((kk.toUInt32 >>> ((3 : Int32) &&& 31).toUInt32).toInt32) &&& (3 : Int32)))])) (fun _ k => XS.iload X29.here hx rfl (hb hby at_60) rfl k) ?_
      refine own_byW (T' := T29) (g' := (mkF m 64 #[.val (.int u1), .val (.int j24), .val (.int kk), .val (.int (kk &&& (3 : Int32))), .val (.int j21), .val (.int (((kk.toUInt32 >>> ((3 : Int32) &&& 31).toUInt32).toInt32) &&& (3 : Int32))), .val (.int j25), .val (.ref x28), .val (.ref x29), .unset, .unset, .unset, .unset] [(.int j25), (.int (((kk.toUInt32 >>> ((3 : Int32) &&& 31).toUInt32).toInt32) &&& (3 : Int32)))])) (fun _ k => XS.iload X29.here hx rfl (hb hby at_62) rfl k) ?_
      by_cases hc64_44 : (((kk.toUInt32 >>> ((3 : Int32) &&& 31).toUInt32).toInt32) &&& (3 : Int32)) = j25
      · skip
        refine own_byW (T' := T29) (g' := (mkF m 67 #[.val (.int u1), .val (.int j24), .val (.int kk), .val (.int (kk &&& (3 : Int32))), .val (.int j21), .val (.int (((kk.toUInt32 >>> ((3 : Int32) &&& 31).toUInt32).toInt32) &&& (3 : Int32))), .val (.int j25), .val (.ref x28), .val (.ref x29), .unset, .unset, .unset, .unset] [])) (fun _ k => XS.icmpNo X29.here hx rfl (hb hby at_64) rfl (teq hc64_44).2 k) ?_
        refine own_byW (T' := T29) (g' := (mkF m 69 #[.val (.int u1), .val (.int j24), .val (.int kk), .val (.int (kk &&& (3 : Int32))), .val (.int j21), .val (.int (((kk.toUInt32 >>> ((3 : Int32) &&& 31).toUInt32).toInt32) &&& (3 : Int32))), .val (.int j25), .val (.ref x28), .val (.ref x29), .unset, .unset, .unset, .unset] [(.int (((kk.toUInt32 >>> ((3 : Int32) &&& 31).toUInt32).toInt32) &&& (3 : Int32)))])) (fun _ k => XS.iload X29.here hx rfl (hb hby at_67) rfl k) ?_
        refine own_byW (T' := T29) (g' := (mkF m 70 #[.val (.int u1), .val (.int j24), .val (.int kk), .val (.int (kk &&& (3 : Int32))), .val (.int j21), .val (.int (((kk.toUInt32 >>> ((3 : Int32) &&& 31).toUInt32).toInt32) &&& (3 : Int32))), .val (.int j25), .val (.ref x28), .val (.ref x29), .unset, .unset, .unset, .unset] [(.int (1 : Int32)), (.int (((kk.toUInt32 >>> ((3 : Int32) &&& 31).toUInt32).toInt32) &&& (3 : Int32)))])) (fun _ k => XS.iconst X29.here hx rfl (hb hby at_69) k) ?_
        by_cases hc70_45 : (((kk.toUInt32 >>> ((3 : Int32) &&& 31).toUInt32).toInt32) &&& (3 : Int32)) < (1 : Int32)
        · skip
          refine own_byW (T' := T29) (g' := (mkF m 86 #[.val (.int u1), .val (.int j24), .val (.int kk), .val (.int (kk &&& (3 : Int32))), .val (.int j21), .val (.int (((kk.toUInt32 >>> ((3 : Int32) &&& 31).toUInt32).toInt32) &&& (3 : Int32))), .val (.int j25), .val (.ref x28), .val (.ref x29), .unset, .unset, .unset, .unset] [])) (fun _ k => XS.icmpYes X29.here hx rfl (pc0 := 70) (pc' := 86) rfl (hb hby at_70) rfl (tlt hc70_45).1 (by decide) (by decide) k) ?_
          refine own_byW (T' := T29) (g' := (mkF m 88 #[.val (.int u1), .val (.int j24), .val (.int kk), .val (.int (kk &&& (3 : Int32))), .val (.int j21), .val (.int (((kk.toUInt32 >>> ((3 : Int32) &&& 31).toUInt32).toInt32) &&& (3 : Int32))), .val (.int j25), .val (.ref x28), .val (.ref x29), .unset, .unset, .unset, .unset] [(.int (((kk.toUInt32 >>> ((3 : Int32) &&& 31).toUInt32).toInt32) &&& (3 : Int32)))])) (fun _ k => XS.iload X29.here hx rfl (hb hby at_86) rfl k) ?_
          refine own_byW (T' := T29) (g' := (mkF m 89 #[.val (.int u1), .val (.int j24), .val (.int kk), .val (.int (kk &&& (3 : Int32))), .val (.int j21), .val (.int (((kk.toUInt32 >>> ((3 : Int32) &&& 31).toUInt32).toInt32) &&& (3 : Int32))), .val (.int j25), .val (.ref x28), .val (.ref x29), .unset, .unset, .unset, .unset] [(.int (2 : Int32)), (.int (((kk.toUInt32 >>> ((3 : Int32) &&& 31).toUInt32).toInt32) &&& (3 : Int32)))])) (fun _ k => XS.iconst X29.here hx rfl (hb hby at_88) k) ?_
          refine own_byW (T' := T29) (g' := (mkF m 105 #[.val (.int u1), .val (.int j24), .val (.int kk), .val (.int (kk &&& (3 : Int32))), .val (.int j21), .val (.int (((kk.toUInt32 >>> ((3 : Int32) &&& 31).toUInt32).toInt32) &&& (3 : Int32))), .val (.int j25), .val (.ref x28), .val (.ref x29), .unset, .unset, .unset, .unset] [])) (fun _ k => XS.icmpYes X29.here hx rfl (pc0 := 89) (pc' := 105) rfl (hb hby at_89) rfl (tlt (own_lt hc70_45 (by decide))).1 (by decide) (by decide) k) ?_
          refine own_byW (T' := T29) (g' := (mkF m 107 #[.val (.int u1), .val (.int j24), .val (.int kk), .val (.int (kk &&& (3 : Int32))), .val (.int j21), .val (.int (((kk.toUInt32 >>> ((3 : Int32) &&& 31).toUInt32).toInt32) &&& (3 : Int32))), .val (.int j25), .val (.ref x28), .val (.ref x29), .unset, .unset, .unset, .unset] [(.int (((kk.toUInt32 >>> ((3 : Int32) &&& 31).toUInt32).toInt32) &&& (3 : Int32)))])) (fun _ k => XS.iload X29.here hx rfl (hb hby at_105) rfl k) ?_
          refine own_byW (T' := T29) (g' := (mkF m 108 #[.val (.int u1), .val (.int j24), .val (.int kk), .val (.int (kk &&& (3 : Int32))), .val (.int j21), .val (.int (((kk.toUInt32 >>> ((3 : Int32) &&& 31).toUInt32).toInt32) &&& (3 : Int32))), .val (.int j25), .val (.ref x28), .val (.ref x29), .unset, .unset, .unset, .unset] [(.int (3 : Int32)), (.int (((kk.toUInt32 >>> ((3 : Int32) &&& 31).toUInt32).toInt32) &&& (3 : Int32)))])) (fun _ k => XS.iconst X29.here hx rfl (hb hby at_107) k) ?_
          refine own_byW (T' := T29) (g' := (mkF m 124 #[.val (.int u1), .val (.int j24), .val (.int kk), .val (.int (kk &&& (3 : Int32))), .val (.int j21), .val (.int (((kk.toUInt32 >>> ((3 : Int32) &&& 31).toUInt32).toInt32) &&& (3 : Int32))), .val (.int j25), .val (.ref x28), .val (.ref x29), .unset, .unset, .unset, .unset] [])) (fun _ k => XS.icmpYes X29.here hx rfl (pc0 := 108) (pc' := 124) rfl (hb hby at_108) rfl (tlt (own_lt hc70_45 (by decide))).1 (by decide) (by decide) k) ?_
          refine own_byW (T' := T29) (g' := (mkF m 125 #[.val (.int u1), .val (.int j24), .val (.int kk), .val (.int (kk &&& (3 : Int32))), .val (.int j21), .val (.int (((kk.toUInt32 >>> ((3 : Int32) &&& 31).toUInt32).toInt32) &&& (3 : Int32))), .val (.int j25), .val (.ref x28), .val (.ref x29), .unset, .unset, .unset, .unset] [(.int (1 : Int32))])) (fun _ k => XS.iconst X29.here hx rfl (hb hby at_124) k) ?_
          refine own_byW (T' := T29) (g' := (mkF m 129 #[.val (.int u1), .val (.int j24), .val (.int kk), .val (.int (kk &&& (3 : Int32))), .val (.int j21), .val (.int (((kk.toUInt32 >>> ((3 : Int32) &&& 31).toUInt32).toInt32) &&& (3 : Int32))), .val (.int j25), .val (.ref x28), .val (.ref x29), .unset, .unset, .unset, .unset] [(.int (1 : Int32))])) (fun _ k => XS.goto X29.here hx rfl (pc0 := 125) (pc' := 129) rfl (hb hby at_125) (by decide) (by decide) k) ?_
          refine own_byW (T' := T29) (g' := (mkF m 131 #[.val (.int u1), .val (.int j24), .val (.int kk), .val (.int (kk &&& (3 : Int32))), .val (.int j21), .val (.int (((kk.toUInt32 >>> ((3 : Int32) &&& 31).toUInt32).toInt32) &&& (3 : Int32))), .val (.int j25), .val (.ref x28), .val (.ref x29), .val (.int (1 : Int32)), .unset, .unset, .unset] [])) (fun _ k => XS.istore X29.here hx rfl (hb hby at_129) rfl (l' := #[.val (.int u1), .val (.int j24), .val (.int kk), .val (.int (kk &&& (3 : Int32))), .val (.int j21), .val (.int (((kk.toUInt32 >>> ((3 : Int32) &&& 31).toUInt32).toInt32) &&& (3 : Int32))), .val (.int j25), .val (.ref x28), .val (.ref x29), .val (.int (1 : Int32)), .unset, .unset, .unset]) rfl k) ?_
          exact tail _ (own_eT hr1 hc64_44 (Or.inl hc70_45) (Or.inl (own_lt hc70_45 (by decide))) (Or.inl (own_lt hc70_45 (by decide)))) _ N29 _ X29 rfl
        · skip
          refine own_byW (T' := T29) (g' := (mkF m 73 #[.val (.int u1), .val (.int j24), .val (.int kk), .val (.int (kk &&& (3 : Int32))), .val (.int j21), .val (.int (((kk.toUInt32 >>> ((3 : Int32) &&& 31).toUInt32).toInt32) &&& (3 : Int32))), .val (.int j25), .val (.ref x28), .val (.ref x29), .unset, .unset, .unset, .unset] [])) (fun _ k => XS.icmpNo X29.here hx rfl (hb hby at_70) rfl (flt hc70_45).1 k) ?_
          refine own_byW (T' := T29) (g' := (mkF m 74 #[.val (.int u1), .val (.int j24), .val (.int kk), .val (.int (kk &&& (3 : Int32))), .val (.int j21), .val (.int (((kk.toUInt32 >>> ((3 : Int32) &&& 31).toUInt32).toInt32) &&& (3 : Int32))), .val (.int j25), .val (.ref x28), .val (.ref x29), .unset, .unset, .unset, .unset] [(.int u1)])) (fun _ k => XS.iloadN X29.here hx rfl (hb hby at_73) rfl k) ?_
          refine own_byW (T' := T29) (g' := (mkF m 75 #[.val (.int u1), .val (.int j24), .val (.int kk), .val (.int (kk &&& (3 : Int32))), .val (.int j21), .val (.int (((kk.toUInt32 >>> ((3 : Int32) &&& 31).toUInt32).toInt32) &&& (3 : Int32))), .val (.int j25), .val (.ref x28), .val (.ref x29), .unset, .unset, .unset, .unset] [(.int (0 : Int32)), (.int u1)])) (fun _ k => XS.iconst X29.here hx rfl (hb hby at_74) k) ?_
          obtain ⟨_, _, ⟨T46, L46, k46, n46⟩, -, X46, ⟨Lc46, hQ46, l46, y46, z46⟩, st46⟩ := Jvm.LawKit.callS X29 hx (y := (⟨"com/example/postings/postings/search/PhraseEqualsPinLaw", "ch", "(II)C"⟩ : MethodName)) hown29 (mvT hZ29 (hw _ (List.mem_of_getElem? (i := 58) rfl))) (mvT hZ29 (hw _ (List.mem_of_getElem? (i := 59) rfl))) (mvT hZ29 (hw _ (List.mem_of_getElem? (i := 2) rfl))) (mvT hZ29 (hw _ (List.mem_of_getElem? (i := 60) rfl))) (by decide) (backOf (W := 0) (ch_0 l Z a0 hw [] u1  T29.heap n0 (Nat.le_trans (Nat.le_trans Z0 K28.1) K29.1) ) hZ29 (hw _ (List.mem_of_getElem? (i := 60) rfl)) (hw _ (List.mem_of_getElem? (i := 2) rfl)) (by decide) (by decide)) (g := (mkF m 75 #[.val (.int u1), .val (.int j24), .val (.int kk), .val (.int (kk &&& (3 : Int32))), .val (.int j21), .val (.int (((kk.toUInt32 >>> ((3 : Int32) &&& 31).toUInt32).toInt32) &&& (3 : Int32))), .val (.int j25), .val (.ref x28), .val (.ref x29), .unset, .unset, .unset, .unset] [(.int (0 : Int32)), (.int u1)])) rfl (by rw [hml]; rfl) (argsL := [(.int u1), (.int (0 : Int32))]) (rest := []) (lenOf pd_5 rfl) rfl (by show 2 * 0 + _ ≤ _; exact Nat.le_of_eq rfl) (hb hby at_75) (fun _ _ => ⟨rfl, rfl, (by decide : ((0 + 6) + 6) + 0 ≤ _), (by decide : ((0 + 12) + 12) + 0 ≤ _)⟩)
          dsimp only [Pt.U, Pt.locs, Pt.cells, Pt.slots] at X46 l46 y46 z46 st46 hQ46
          subst l46 y46 z46
          obtain ⟨rfl, N46q, e46⟩ := hQ46
          have N46 := Fr.app N29 N46q
          refine own_byW (T' := T46) (g' := (mkF m 78 #[.val (.int u1), .val (.int j24), .val (.int kk), .val (.int (kk &&& (3 : Int32))), .val (.int j21), .val (.int (((kk.toUInt32 >>> ((3 : Int32) &&& 31).toUInt32).toInt32) &&& (3 : Int32))), .val (.int j25), .val (.ref x28), .val (.ref x29), .unset, .unset, .unset, .unset] [(.int (own_c0 u1))])) (fun _ k => st46 _ k) ?_
          refine own_byW (T' := T46) (g' := (mkF m 79 #[.val (.int u1), .val (.int j24), .val (.int kk), .val (.int (kk &&& (3 : Int32))), .val (.int j21), .val (.int (((kk.toUInt32 >>> ((3 : Int32) &&& 31).toUInt32).toInt32) &&& (3 : Int32))), .val (.int j25), .val (.ref x28), .val (.ref x29), .unset, .unset, .unset, .unset] [(.int j24), (.int (own_c0 u1))])) (fun _ k => XS.iloadN X46.here hx rfl (hb hby at_78) rfl k) ?_
          refine own_byW (T' := T46) (g' := (mkF m 80 #[.val (.int u1), .val (.int j24), .val (.int kk), .val (.int (kk &&& (3 : Int32))), .val (.int j21), .val (.int (((kk.toUInt32 >>> ((3 : Int32) &&& 31).toUInt32).toInt32) &&& (3 : Int32))), .val (.int j25), .val (.ref x28), .val (.ref x29), .unset, .unset, .unset, .unset] [(.int (0 : Int32)), (.int j24), (.int (own_c0 u1))])) (fun _ k => XS.iconst X46.here hx rfl (hb hby at_79) k) ?_
          obtain ⟨_, _, ⟨T47, L47, k47, n47⟩, -, X47, ⟨Lc47, hQ47, l47, y47, z47⟩, st47⟩ := Jvm.LawKit.callS X46 hx (y := (⟨"com/example/postings/postings/search/PhraseEqualsPinLaw", "ch", "(II)C"⟩ : MethodName)) hown29 (mvT hZ29 (hw _ (List.mem_of_getElem? (i := 58) rfl))) (mvT hZ29 (hw _ (List.mem_of_getElem? (i := 59) rfl))) (mvT hZ29 (hw _ (List.mem_of_getElem? (i := 2) rfl))) (mvT hZ29 (hw _ (List.mem_of_getElem? (i := 60) rfl))) (by decide) (backOf (W := 1) (ch_0 l Z a0 hw [] j24  T29.heap n0 (Nat.le_trans (Nat.le_trans Z0 K28.1) K29.1) ) hZ29 (hw _ (List.mem_of_getElem? (i := 60) rfl)) (hw _ (List.mem_of_getElem? (i := 2) rfl)) (by decide) (by decide)) (g := (mkF m 80 #[.val (.int u1), .val (.int j24), .val (.int kk), .val (.int (kk &&& (3 : Int32))), .val (.int j21), .val (.int (((kk.toUInt32 >>> ((3 : Int32) &&& 31).toUInt32).toInt32) &&& (3 : Int32))), .val (.int j25), .val (.ref x28), .val (.ref x29), .unset, .unset, .unset, .unset] [(.int (0 : Int32)), (.int j24), (.int (own_c0 u1))])) rfl (by rw [hml]; rfl) (argsL := [(.int j24), (.int (0 : Int32))]) (rest := [(.int (own_c0 u1))]) (lenOf pd_5 rfl) rfl (by show 2 * 0 + _ ≤ _; exact Nat.le_of_eq rfl) (hb hby at_80) (fun _ _ => ⟨rfl, e46, (by decide : (((0 + 6) + 6) + 0) + 0 ≤ _), (by decide : (((0 + 12) + 12) + 0) + 0 ≤ _)⟩)
          dsimp only [Pt.U, Pt.locs, Pt.cells, Pt.slots] at X47 l47 y47 z47 st47 hQ47
          subst l47 y47 z47
          obtain ⟨rfl, N47q, e47⟩ := hQ47
          have N47 := Fr.app N46 N47q
          refine own_byW (T' := T47) (g' := (mkF m 83 #[.val (.int u1), .val (.int j24), .val (.int kk), .val (.int (kk &&& (3 : Int32))), .val (.int j21), .val (.int (((kk.toUInt32 >>> ((3 : Int32) &&& 31).toUInt32).toInt32) &&& (3 : Int32))), .val (.int j25), .val (.ref x28), .val (.ref x29), .unset, .unset, .unset, .unset] [(.int (own_c0 j24)), (.int (own_c0 u1))])) (fun _ k => st47 _ k) ?_
          by_cases hc83_48 : (own_c0 u1) = (own_c0 j24)
          · skip
            refine own_byW (T' := T47) (g' := (mkF m 86 #[.val (.int u1), .val (.int j24), .val (.int kk), .val (.int (kk &&& (3 : Int32))), .val (.int j21), .val (.int (((kk.toUInt32 >>> ((3 : Int32) &&& 31).toUInt32).toInt32) &&& (3 : Int32))), .val (.int j25), .val (.ref x28), .val (.ref x29), .unset, .unset, .unset, .unset] [])) (fun _ k => XS.icmpNo X47.here hx rfl (hb hby at_83) rfl (teq hc83_48).2 k) ?_
            refine own_byW (T' := T47) (g' := (mkF m 88 #[.val (.int u1), .val (.int j24), .val (.int kk), .val (.int (kk &&& (3 : Int32))), .val (.int j21), .val (.int (((kk.toUInt32 >>> ((3 : Int32) &&& 31).toUInt32).toInt32) &&& (3 : Int32))), .val (.int j25), .val (.ref x28), .val (.ref x29), .unset, .unset, .unset, .unset] [(.int (((kk.toUInt32 >>> ((3 : Int32) &&& 31).toUInt32).toInt32) &&& (3 : Int32)))])) (fun _ k => XS.iload X47.here hx rfl (hb hby at_86) rfl k) ?_
            refine own_byW (T' := T47) (g' := (mkF m 89 #[.val (.int u1), .val (.int j24), .val (.int kk), .val (.int (kk &&& (3 : Int32))), .val (.int j21), .val (.int (((kk.toUInt32 >>> ((3 : Int32) &&& 31).toUInt32).toInt32) &&& (3 : Int32))), .val (.int j25), .val (.ref x28), .val (.ref x29), .unset, .unset, .unset, .unset] [(.int (2 : Int32)), (.int (((kk.toUInt32 >>> ((3 : Int32) &&& 31).toUInt32).toInt32) &&& (3 : Int32)))])) (fun _ k => XS.iconst X47.here hx rfl (hb hby at_88) k) ?_
            by_cases hc89_49 : (((kk.toUInt32 >>> ((3 : Int32) &&& 31).toUInt32).toInt32) &&& (3 : Int32)) < (2 : Int32)
            · skip
              refine own_byW (T' := T47) (g' := (mkF m 105 #[.val (.int u1), .val (.int j24), .val (.int kk), .val (.int (kk &&& (3 : Int32))), .val (.int j21), .val (.int (((kk.toUInt32 >>> ((3 : Int32) &&& 31).toUInt32).toInt32) &&& (3 : Int32))), .val (.int j25), .val (.ref x28), .val (.ref x29), .unset, .unset, .unset, .unset] [])) (fun _ k => XS.icmpYes X47.here hx rfl (pc0 := 89) (pc' := 105) rfl (hb hby at_89) rfl (tlt hc89_49).1 (by decide) (by decide) k) ?_
              refine own_byW (T' := T47) (g' := (mkF m 107 #[.val (.int u1), .val (.int j24), .val (.int kk), .val (.int (kk &&& (3 : Int32))), .val (.int j21), .val (.int (((kk.toUInt32 >>> ((3 : Int32) &&& 31).toUInt32).toInt32) &&& (3 : Int32))), .val (.int j25), .val (.ref x28), .val (.ref x29), .unset, .unset, .unset, .unset] [(.int (((kk.toUInt32 >>> ((3 : Int32) &&& 31).toUInt32).toInt32) &&& (3 : Int32)))])) (fun _ k => XS.iload X47.here hx rfl (hb hby at_105) rfl k) ?_
              refine own_byW (T' := T47) (g' := (mkF m 108 #[.val (.int u1), .val (.int j24), .val (.int kk), .val (.int (kk &&& (3 : Int32))), .val (.int j21), .val (.int (((kk.toUInt32 >>> ((3 : Int32) &&& 31).toUInt32).toInt32) &&& (3 : Int32))), .val (.int j25), .val (.ref x28), .val (.ref x29), .unset, .unset, .unset, .unset] [(.int (3 : Int32)), (.int (((kk.toUInt32 >>> ((3 : Int32) &&& 31).toUInt32).toInt32) &&& (3 : Int32)))])) (fun _ k => XS.iconst X47.here hx rfl (hb hby at_107) k) ?_
              refine own_byW (T' := T47) (g' := (mkF m 124 #[.val (.int u1), .val (.int j24), .val (.int kk), .val (.int (kk &&& (3 : Int32))), .val (.int j21), .val (.int (((kk.toUInt32 >>> ((3 : Int32) &&& 31).toUInt32).toInt32) &&& (3 : Int32))), .val (.int j25), .val (.ref x28), .val (.ref x29), .unset, .unset, .unset, .unset] [])) (fun _ k => XS.icmpYes X47.here hx rfl (pc0 := 108) (pc' := 124) rfl (hb hby at_108) rfl (tlt (own_lt hc89_49 (by decide))).1 (by decide) (by decide) k) ?_
              refine own_byW (T' := T47) (g' := (mkF m 125 #[.val (.int u1), .val (.int j24), .val (.int kk), .val (.int (kk &&& (3 : Int32))), .val (.int j21), .val (.int (((kk.toUInt32 >>> ((3 : Int32) &&& 31).toUInt32).toInt32) &&& (3 : Int32))), .val (.int j25), .val (.ref x28), .val (.ref x29), .unset, .unset, .unset, .unset] [(.int (1 : Int32))])) (fun _ k => XS.iconst X47.here hx rfl (hb hby at_124) k) ?_
              refine own_byW (T' := T47) (g' := (mkF m 129 #[.val (.int u1), .val (.int j24), .val (.int kk), .val (.int (kk &&& (3 : Int32))), .val (.int j21), .val (.int (((kk.toUInt32 >>> ((3 : Int32) &&& 31).toUInt32).toInt32) &&& (3 : Int32))), .val (.int j25), .val (.ref x28), .val (.ref x29), .unset, .unset, .unset, .unset] [(.int (1 : Int32))])) (fun _ k => XS.goto X47.here hx rfl (pc0 := 125) (pc' := 129) rfl (hb hby at_125) (by decide) (by decide) k) ?_
              refine own_byW (T' := T47) (g' := (mkF m 131 #[.val (.int u1), .val (.int j24), .val (.int kk), .val (.int (kk &&& (3 : Int32))), .val (.int j21), .val (.int (((kk.toUInt32 >>> ((3 : Int32) &&& 31).toUInt32).toInt32) &&& (3 : Int32))), .val (.int j25), .val (.ref x28), .val (.ref x29), .val (.int (1 : Int32)), .unset, .unset, .unset] [])) (fun _ k => XS.istore X47.here hx rfl (hb hby at_129) rfl (l' := #[.val (.int u1), .val (.int j24), .val (.int kk), .val (.int (kk &&& (3 : Int32))), .val (.int j21), .val (.int (((kk.toUInt32 >>> ((3 : Int32) &&& 31).toUInt32).toInt32) &&& (3 : Int32))), .val (.int j25), .val (.ref x28), .val (.ref x29), .val (.int (1 : Int32)), .unset, .unset, .unset]) rfl k) ?_
              exact tail _ (own_eT hr1 hc64_44 (Or.inr hc83_48) (Or.inl hc89_49) (Or.inl (own_lt hc89_49 (by decide)))) _ N47 _ X47 e47
            · skip
              refine own_byW (T' := T47) (g' := (mkF m 92 #[.val (.int u1), .val (.int j24), .val (.int kk), .val (.int (kk &&& (3 : Int32))), .val (.int j21), .val (.int (((kk.toUInt32 >>> ((3 : Int32) &&& 31).toUInt32).toInt32) &&& (3 : Int32))), .val (.int j25), .val (.ref x28), .val (.ref x29), .unset, .unset, .unset, .unset] [])) (fun _ k => XS.icmpNo X47.here hx rfl (hb hby at_89) rfl (flt hc89_49).1 k) ?_
              refine own_byW (T' := T47) (g' := (mkF m 93 #[.val (.int u1), .val (.int j24), .val (.int kk), .val (.int (kk &&& (3 : Int32))), .val (.int j21), .val (.int (((kk.toUInt32 >>> ((3 : Int32) &&& 31).toUInt32).toInt32) &&& (3 : Int32))), .val (.int j25), .val (.ref x28), .val (.ref x29), .unset, .unset, .unset, .unset] [(.int u1)])) (fun _ k => XS.iloadN X47.here hx rfl (hb hby at_92) rfl k) ?_
              refine own_byW (T' := T47) (g' := (mkF m 94 #[.val (.int u1), .val (.int j24), .val (.int kk), .val (.int (kk &&& (3 : Int32))), .val (.int j21), .val (.int (((kk.toUInt32 >>> ((3 : Int32) &&& 31).toUInt32).toInt32) &&& (3 : Int32))), .val (.int j25), .val (.ref x28), .val (.ref x29), .unset, .unset, .unset, .unset] [(.int (1 : Int32)), (.int u1)])) (fun _ k => XS.iconst X47.here hx rfl (hb hby at_93) k) ?_
              obtain ⟨_, _, ⟨T50, L50, k50, n50⟩, -, X50, ⟨Lc50, hQ50, l50, y50, z50⟩, st50⟩ := Jvm.LawKit.callS X47 hx (y := (⟨"com/example/postings/postings/search/PhraseEqualsPinLaw", "ch", "(II)C"⟩ : MethodName)) hown29 (mvT hZ29 (hw _ (List.mem_of_getElem? (i := 58) rfl))) (mvT hZ29 (hw _ (List.mem_of_getElem? (i := 59) rfl))) (mvT hZ29 (hw _ (List.mem_of_getElem? (i := 2) rfl))) (mvT hZ29 (hw _ (List.mem_of_getElem? (i := 60) rfl))) (by decide) (backOf (W := 0) (ch_1 l Z a0 hw [] u1  T29.heap n0 (Nat.le_trans (Nat.le_trans Z0 K28.1) K29.1) ) hZ29 (hw _ (List.mem_of_getElem? (i := 60) rfl)) (hw _ (List.mem_of_getElem? (i := 2) rfl)) (by decide) (by decide)) (g := (mkF m 94 #[.val (.int u1), .val (.int j24), .val (.int kk), .val (.int (kk &&& (3 : Int32))), .val (.int j21), .val (.int (((kk.toUInt32 >>> ((3 : Int32) &&& 31).toUInt32).toInt32) &&& (3 : Int32))), .val (.int j25), .val (.ref x28), .val (.ref x29), .unset, .unset, .unset, .unset] [(.int (1 : Int32)), (.int u1)])) rfl (by rw [hml]; rfl) (argsL := [(.int u1), (.int (1 : Int32))]) (rest := []) (lenOf pd_5 rfl) rfl (by show 2 * 0 + _ ≤ _; exact Nat.le_of_eq rfl) (hb hby at_94) (fun _ _ => ⟨rfl, e47, (by decide : ((((0 + 6) + 6) + 0) + 0) + 0 ≤ _), (by decide : ((((0 + 12) + 12) + 0) + 0) + 0 ≤ _)⟩)
              dsimp only [Pt.U, Pt.locs, Pt.cells, Pt.slots] at X50 l50 y50 z50 st50 hQ50
              subst l50 y50 z50
              obtain ⟨rfl, N50q, e50⟩ := hQ50
              have N50 := Fr.app N47 N50q
              refine own_byW (T' := T50) (g' := (mkF m 97 #[.val (.int u1), .val (.int j24), .val (.int kk), .val (.int (kk &&& (3 : Int32))), .val (.int j21), .val (.int (((kk.toUInt32 >>> ((3 : Int32) &&& 31).toUInt32).toInt32) &&& (3 : Int32))), .val (.int j25), .val (.ref x28), .val (.ref x29), .unset, .unset, .unset, .unset] [(.int (own_c1 u1))])) (fun _ k => st50 _ k) ?_
              refine own_byW (T' := T50) (g' := (mkF m 98 #[.val (.int u1), .val (.int j24), .val (.int kk), .val (.int (kk &&& (3 : Int32))), .val (.int j21), .val (.int (((kk.toUInt32 >>> ((3 : Int32) &&& 31).toUInt32).toInt32) &&& (3 : Int32))), .val (.int j25), .val (.ref x28), .val (.ref x29), .unset, .unset, .unset, .unset] [(.int j24), (.int (own_c1 u1))])) (fun _ k => XS.iloadN X50.here hx rfl (hb hby at_97) rfl k) ?_
              refine own_byW (T' := T50) (g' := (mkF m 99 #[.val (.int u1), .val (.int j24), .val (.int kk), .val (.int (kk &&& (3 : Int32))), .val (.int j21), .val (.int (((kk.toUInt32 >>> ((3 : Int32) &&& 31).toUInt32).toInt32) &&& (3 : Int32))), .val (.int j25), .val (.ref x28), .val (.ref x29), .unset, .unset, .unset, .unset] [(.int (1 : Int32)), (.int j24), (.int (own_c1 u1))])) (fun _ k => XS.iconst X50.here hx rfl (hb hby at_98) k) ?_
              obtain ⟨_, _, ⟨T51, L51, k51, n51⟩, -, X51, ⟨Lc51, hQ51, l51, y51, z51⟩, st51⟩ := Jvm.LawKit.callS X50 hx (y := (⟨"com/example/postings/postings/search/PhraseEqualsPinLaw", "ch", "(II)C"⟩ : MethodName)) hown29 (mvT hZ29 (hw _ (List.mem_of_getElem? (i := 58) rfl))) (mvT hZ29 (hw _ (List.mem_of_getElem? (i := 59) rfl))) (mvT hZ29 (hw _ (List.mem_of_getElem? (i := 2) rfl))) (mvT hZ29 (hw _ (List.mem_of_getElem? (i := 60) rfl))) (by decide) (backOf (W := 1) (ch_1 l Z a0 hw [] j24  T29.heap n0 (Nat.le_trans (Nat.le_trans Z0 K28.1) K29.1) ) hZ29 (hw _ (List.mem_of_getElem? (i := 60) rfl)) (hw _ (List.mem_of_getElem? (i := 2) rfl)) (by decide) (by decide)) (g := (mkF m 99 #[.val (.int u1), .val (.int j24), .val (.int kk), .val (.int (kk &&& (3 : Int32))), .val (.int j21), .val (.int (((kk.toUInt32 >>> ((3 : Int32) &&& 31).toUInt32).toInt32) &&& (3 : Int32))), .val (.int j25), .val (.ref x28), .val (.ref x29), .unset, .unset, .unset, .unset] [(.int (1 : Int32)), (.int j24), (.int (own_c1 u1))])) rfl (by rw [hml]; rfl) (argsL := [(.int j24), (.int (1 : Int32))]) (rest := [(.int (own_c1 u1))]) (lenOf pd_5 rfl) rfl (by show 2 * 0 + _ ≤ _; exact Nat.le_of_eq rfl) (hb hby at_99) (fun _ _ => ⟨rfl, e50, (by decide : (((((0 + 6) + 6) + 0) + 0) + 0) + 0 ≤ _), (by decide : (((((0 + 12) + 12) + 0) + 0) + 0) + 0 ≤ _)⟩)
              dsimp only [Pt.U, Pt.locs, Pt.cells, Pt.slots] at X51 l51 y51 z51 st51 hQ51
              subst l51 y51 z51
              obtain ⟨rfl, N51q, e51⟩ := hQ51
              have N51 := Fr.app N50 N51q
              refine own_byW (T' := T51) (g' := (mkF m 102 #[.val (.int u1), .val (.int j24), .val (.int kk), .val (.int (kk &&& (3 : Int32))), .val (.int j21), .val (.int (((kk.toUInt32 >>> ((3 : Int32) &&& 31).toUInt32).toInt32) &&& (3 : Int32))), .val (.int j25), .val (.ref x28), .val (.ref x29), .unset, .unset, .unset, .unset] [(.int (own_c1 j24)), (.int (own_c1 u1))])) (fun _ k => st51 _ k) ?_
              by_cases hc102_52 : (own_c1 u1) = (own_c1 j24)
              · skip
                refine own_byW (T' := T51) (g' := (mkF m 105 #[.val (.int u1), .val (.int j24), .val (.int kk), .val (.int (kk &&& (3 : Int32))), .val (.int j21), .val (.int (((kk.toUInt32 >>> ((3 : Int32) &&& 31).toUInt32).toInt32) &&& (3 : Int32))), .val (.int j25), .val (.ref x28), .val (.ref x29), .unset, .unset, .unset, .unset] [])) (fun _ k => XS.icmpNo X51.here hx rfl (hb hby at_102) rfl (teq hc102_52).2 k) ?_
                refine own_byW (T' := T51) (g' := (mkF m 107 #[.val (.int u1), .val (.int j24), .val (.int kk), .val (.int (kk &&& (3 : Int32))), .val (.int j21), .val (.int (((kk.toUInt32 >>> ((3 : Int32) &&& 31).toUInt32).toInt32) &&& (3 : Int32))), .val (.int j25), .val (.ref x28), .val (.ref x29), .unset, .unset, .unset, .unset] [(.int (((kk.toUInt32 >>> ((3 : Int32) &&& 31).toUInt32).toInt32) &&& (3 : Int32)))])) (fun _ k => XS.iload X51.here hx rfl (hb hby at_105) rfl k) ?_
                refine own_byW (T' := T51) (g' := (mkF m 108 #[.val (.int u1), .val (.int j24), .val (.int kk), .val (.int (kk &&& (3 : Int32))), .val (.int j21), .val (.int (((kk.toUInt32 >>> ((3 : Int32) &&& 31).toUInt32).toInt32) &&& (3 : Int32))), .val (.int j25), .val (.ref x28), .val (.ref x29), .unset, .unset, .unset, .unset] [(.int (3 : Int32)), (.int (((kk.toUInt32 >>> ((3 : Int32) &&& 31).toUInt32).toInt32) &&& (3 : Int32)))])) (fun _ k => XS.iconst X51.here hx rfl (hb hby at_107) k) ?_
                by_cases hc108_53 : (((kk.toUInt32 >>> ((3 : Int32) &&& 31).toUInt32).toInt32) &&& (3 : Int32)) < (3 : Int32)
                · skip
                  refine own_byW (T' := T51) (g' := (mkF m 124 #[.val (.int u1), .val (.int j24), .val (.int kk), .val (.int (kk &&& (3 : Int32))), .val (.int j21), .val (.int (((kk.toUInt32 >>> ((3 : Int32) &&& 31).toUInt32).toInt32) &&& (3 : Int32))), .val (.int j25), .val (.ref x28), .val (.ref x29), .unset, .unset, .unset, .unset] [])) (fun _ k => XS.icmpYes X51.here hx rfl (pc0 := 108) (pc' := 124) rfl (hb hby at_108) rfl (tlt hc108_53).1 (by decide) (by decide) k) ?_
                  refine own_byW (T' := T51) (g' := (mkF m 125 #[.val (.int u1), .val (.int j24), .val (.int kk), .val (.int (kk &&& (3 : Int32))), .val (.int j21), .val (.int (((kk.toUInt32 >>> ((3 : Int32) &&& 31).toUInt32).toInt32) &&& (3 : Int32))), .val (.int j25), .val (.ref x28), .val (.ref x29), .unset, .unset, .unset, .unset] [(.int (1 : Int32))])) (fun _ k => XS.iconst X51.here hx rfl (hb hby at_124) k) ?_
                  refine own_byW (T' := T51) (g' := (mkF m 129 #[.val (.int u1), .val (.int j24), .val (.int kk), .val (.int (kk &&& (3 : Int32))), .val (.int j21), .val (.int (((kk.toUInt32 >>> ((3 : Int32) &&& 31).toUInt32).toInt32) &&& (3 : Int32))), .val (.int j25), .val (.ref x28), .val (.ref x29), .unset, .unset, .unset, .unset] [(.int (1 : Int32))])) (fun _ k => XS.goto X51.here hx rfl (pc0 := 125) (pc' := 129) rfl (hb hby at_125) (by decide) (by decide) k) ?_
                  refine own_byW (T' := T51) (g' := (mkF m 131 #[.val (.int u1), .val (.int j24), .val (.int kk), .val (.int (kk &&& (3 : Int32))), .val (.int j21), .val (.int (((kk.toUInt32 >>> ((3 : Int32) &&& 31).toUInt32).toInt32) &&& (3 : Int32))), .val (.int j25), .val (.ref x28), .val (.ref x29), .val (.int (1 : Int32)), .unset, .unset, .unset] [])) (fun _ k => XS.istore X51.here hx rfl (hb hby at_129) rfl (l' := #[.val (.int u1), .val (.int j24), .val (.int kk), .val (.int (kk &&& (3 : Int32))), .val (.int j21), .val (.int (((kk.toUInt32 >>> ((3 : Int32) &&& 31).toUInt32).toInt32) &&& (3 : Int32))), .val (.int j25), .val (.ref x28), .val (.ref x29), .val (.int (1 : Int32)), .unset, .unset, .unset]) rfl k) ?_
                  exact tail _ (own_eT hr1 hc64_44 (Or.inr hc83_48) (Or.inr hc102_52) (Or.inl hc108_53)) _ N51 _ X51 e51
                · skip
                  refine own_byW (T' := T51) (g' := (mkF m 111 #[.val (.int u1), .val (.int j24), .val (.int kk), .val (.int (kk &&& (3 : Int32))), .val (.int j21), .val (.int (((kk.toUInt32 >>> ((3 : Int32) &&& 31).toUInt32).toInt32) &&& (3 : Int32))), .val (.int j25), .val (.ref x28), .val (.ref x29), .unset, .unset, .unset, .unset] [])) (fun _ k => XS.icmpNo X51.here hx rfl (hb hby at_108) rfl (flt hc108_53).1 k) ?_
                  refine own_byW (T' := T51) (g' := (mkF m 112 #[.val (.int u1), .val (.int j24), .val (.int kk), .val (.int (kk &&& (3 : Int32))), .val (.int j21), .val (.int (((kk.toUInt32 >>> ((3 : Int32) &&& 31).toUInt32).toInt32) &&& (3 : Int32))), .val (.int j25), .val (.ref x28), .val (.ref x29), .unset, .unset, .unset, .unset] [(.int u1)])) (fun _ k => XS.iloadN X51.here hx rfl (hb hby at_111) rfl k) ?_
                  refine own_byW (T' := T51) (g' := (mkF m 113 #[.val (.int u1), .val (.int j24), .val (.int kk), .val (.int (kk &&& (3 : Int32))), .val (.int j21), .val (.int (((kk.toUInt32 >>> ((3 : Int32) &&& 31).toUInt32).toInt32) &&& (3 : Int32))), .val (.int j25), .val (.ref x28), .val (.ref x29), .unset, .unset, .unset, .unset] [(.int (2 : Int32)), (.int u1)])) (fun _ k => XS.iconst X51.here hx rfl (hb hby at_112) k) ?_
                  obtain ⟨_, _, ⟨T54, L54, k54, n54⟩, -, X54, ⟨Lc54, hQ54, l54, y54, z54⟩, st54⟩ := Jvm.LawKit.callS X51 hx (y := (⟨"com/example/postings/postings/search/PhraseEqualsPinLaw", "ch", "(II)C"⟩ : MethodName)) hown29 (mvT hZ29 (hw _ (List.mem_of_getElem? (i := 58) rfl))) (mvT hZ29 (hw _ (List.mem_of_getElem? (i := 59) rfl))) (mvT hZ29 (hw _ (List.mem_of_getElem? (i := 2) rfl))) (mvT hZ29 (hw _ (List.mem_of_getElem? (i := 60) rfl))) (by decide) (backOf (W := 0) (ch_2 l Z a0 hw [] u1  T29.heap n0 (Nat.le_trans (Nat.le_trans Z0 K28.1) K29.1) ) hZ29 (hw _ (List.mem_of_getElem? (i := 60) rfl)) (hw _ (List.mem_of_getElem? (i := 2) rfl)) (by decide) (by decide)) (g := (mkF m 113 #[.val (.int u1), .val (.int j24), .val (.int kk), .val (.int (kk &&& (3 : Int32))), .val (.int j21), .val (.int (((kk.toUInt32 >>> ((3 : Int32) &&& 31).toUInt32).toInt32) &&& (3 : Int32))), .val (.int j25), .val (.ref x28), .val (.ref x29), .unset, .unset, .unset, .unset] [(.int (2 : Int32)), (.int u1)])) rfl (by rw [hml]; rfl) (argsL := [(.int u1), (.int (2 : Int32))]) (rest := []) (lenOf pd_5 rfl) rfl (by show 2 * 0 + _ ≤ _; exact Nat.le_of_eq rfl) (hb hby at_113) (fun _ _ => ⟨rfl, e51, (by decide : ((((((0 + 6) + 6) + 0) + 0) + 0) + 0) + 0 ≤ _), (by decide : ((((((0 + 12) + 12) + 0) + 0) + 0) + 0) + 0 ≤ _)⟩)
                  dsimp only [Pt.U, Pt.locs, Pt.cells, Pt.slots] at X54 l54 y54 z54 st54 hQ54
                  subst l54 y54 z54
                  obtain ⟨rfl, N54q, e54⟩ := hQ54
                  have N54 := Fr.app N51 N54q
                  refine own_byW (T' := T54) (g' := (mkF m 116 #[.val (.int u1), .val (.int j24), .val (.int kk), .val (.int (kk &&& (3 : Int32))), .val (.int j21), .val (.int (((kk.toUInt32 >>> ((3 : Int32) &&& 31).toUInt32).toInt32) &&& (3 : Int32))), .val (.int j25), .val (.ref x28), .val (.ref x29), .unset, .unset, .unset, .unset] [(.int (own_c2 u1))])) (fun _ k => st54 _ k) ?_
                  refine own_byW (T' := T54) (g' := (mkF m 117 #[.val (.int u1), .val (.int j24), .val (.int kk), .val (.int (kk &&& (3 : Int32))), .val (.int j21), .val (.int (((kk.toUInt32 >>> ((3 : Int32) &&& 31).toUInt32).toInt32) &&& (3 : Int32))), .val (.int j25), .val (.ref x28), .val (.ref x29), .unset, .unset, .unset, .unset] [(.int j24), (.int (own_c2 u1))])) (fun _ k => XS.iloadN X54.here hx rfl (hb hby at_116) rfl k) ?_
                  refine own_byW (T' := T54) (g' := (mkF m 118 #[.val (.int u1), .val (.int j24), .val (.int kk), .val (.int (kk &&& (3 : Int32))), .val (.int j21), .val (.int (((kk.toUInt32 >>> ((3 : Int32) &&& 31).toUInt32).toInt32) &&& (3 : Int32))), .val (.int j25), .val (.ref x28), .val (.ref x29), .unset, .unset, .unset, .unset] [(.int (2 : Int32)), (.int j24), (.int (own_c2 u1))])) (fun _ k => XS.iconst X54.here hx rfl (hb hby at_117) k) ?_
                  obtain ⟨_, _, ⟨T55, L55, k55, n55⟩, -, X55, ⟨Lc55, hQ55, l55, y55, z55⟩, st55⟩ := Jvm.LawKit.callS X54 hx (y := (⟨"com/example/postings/postings/search/PhraseEqualsPinLaw", "ch", "(II)C"⟩ : MethodName)) hown29 (mvT hZ29 (hw _ (List.mem_of_getElem? (i := 58) rfl))) (mvT hZ29 (hw _ (List.mem_of_getElem? (i := 59) rfl))) (mvT hZ29 (hw _ (List.mem_of_getElem? (i := 2) rfl))) (mvT hZ29 (hw _ (List.mem_of_getElem? (i := 60) rfl))) (by decide) (backOf (W := 1) (ch_2 l Z a0 hw [] j24  T29.heap n0 (Nat.le_trans (Nat.le_trans Z0 K28.1) K29.1) ) hZ29 (hw _ (List.mem_of_getElem? (i := 60) rfl)) (hw _ (List.mem_of_getElem? (i := 2) rfl)) (by decide) (by decide)) (g := (mkF m 118 #[.val (.int u1), .val (.int j24), .val (.int kk), .val (.int (kk &&& (3 : Int32))), .val (.int j21), .val (.int (((kk.toUInt32 >>> ((3 : Int32) &&& 31).toUInt32).toInt32) &&& (3 : Int32))), .val (.int j25), .val (.ref x28), .val (.ref x29), .unset, .unset, .unset, .unset] [(.int (2 : Int32)), (.int j24), (.int (own_c2 u1))])) rfl (by rw [hml]; rfl) (argsL := [(.int j24), (.int (2 : Int32))]) (rest := [(.int (own_c2 u1))]) (lenOf pd_5 rfl) rfl (by show 2 * 0 + _ ≤ _; exact Nat.le_of_eq rfl) (hb hby at_118) (fun _ _ => ⟨rfl, e54, (by decide : (((((((0 + 6) + 6) + 0) + 0) + 0) + 0) + 0) + 0 ≤ _), (by decide : (((((((0 + 12) + 12) + 0) + 0) + 0) + 0) + 0) + 0 ≤ _)⟩)
                  dsimp only [Pt.U, Pt.locs, Pt.cells, Pt.slots] at X55 l55 y55 z55 st55 hQ55
                  subst l55 y55 z55
                  obtain ⟨rfl, N55q, e55⟩ := hQ55
                  have N55 := Fr.app N54 N55q
                  refine own_byW (T' := T55) (g' := (mkF m 121 #[.val (.int u1), .val (.int j24), .val (.int kk), .val (.int (kk &&& (3 : Int32))), .val (.int j21), .val (.int (((kk.toUInt32 >>> ((3 : Int32) &&& 31).toUInt32).toInt32) &&& (3 : Int32))), .val (.int j25), .val (.ref x28), .val (.ref x29), .unset, .unset, .unset, .unset] [(.int (own_c2 j24)), (.int (own_c2 u1))])) (fun _ k => st55 _ k) ?_
                  by_cases hc121_56 : (own_c2 u1) = (own_c2 j24)
                  · skip
                    refine own_byW (T' := T55) (g' := (mkF m 124 #[.val (.int u1), .val (.int j24), .val (.int kk), .val (.int (kk &&& (3 : Int32))), .val (.int j21), .val (.int (((kk.toUInt32 >>> ((3 : Int32) &&& 31).toUInt32).toInt32) &&& (3 : Int32))), .val (.int j25), .val (.ref x28), .val (.ref x29), .unset, .unset, .unset, .unset] [])) (fun _ k => XS.icmpNo X55.here hx rfl (hb hby at_121) rfl (teq hc121_56).2 k) ?_
                    refine own_byW (T' := T55) (g' := (mkF m 125 #[.val (.int u1), .val (.int j24), .val (.int kk), .val (.int (kk &&& (3 : Int32))), .val (.int j21), .val (.int (((kk.toUInt32 >>> ((3 : Int32) &&& 31).toUInt32).toInt32) &&& (3 : Int32))), .val (.int j25), .val (.ref x28), .val (.ref x29), .unset, .unset, .unset, .unset] [(.int (1 : Int32))])) (fun _ k => XS.iconst X55.here hx rfl (hb hby at_124) k) ?_
                    refine own_byW (T' := T55) (g' := (mkF m 129 #[.val (.int u1), .val (.int j24), .val (.int kk), .val (.int (kk &&& (3 : Int32))), .val (.int j21), .val (.int (((kk.toUInt32 >>> ((3 : Int32) &&& 31).toUInt32).toInt32) &&& (3 : Int32))), .val (.int j25), .val (.ref x28), .val (.ref x29), .unset, .unset, .unset, .unset] [(.int (1 : Int32))])) (fun _ k => XS.goto X55.here hx rfl (pc0 := 125) (pc' := 129) rfl (hb hby at_125) (by decide) (by decide) k) ?_
                    refine own_byW (T' := T55) (g' := (mkF m 131 #[.val (.int u1), .val (.int j24), .val (.int kk), .val (.int (kk &&& (3 : Int32))), .val (.int j21), .val (.int (((kk.toUInt32 >>> ((3 : Int32) &&& 31).toUInt32).toInt32) &&& (3 : Int32))), .val (.int j25), .val (.ref x28), .val (.ref x29), .val (.int (1 : Int32)), .unset, .unset, .unset] [])) (fun _ k => XS.istore X55.here hx rfl (hb hby at_129) rfl (l' := #[.val (.int u1), .val (.int j24), .val (.int kk), .val (.int (kk &&& (3 : Int32))), .val (.int j21), .val (.int (((kk.toUInt32 >>> ((3 : Int32) &&& 31).toUInt32).toInt32) &&& (3 : Int32))), .val (.int j25), .val (.ref x28), .val (.ref x29), .val (.int (1 : Int32)), .unset, .unset, .unset]) rfl k) ?_
                    exact tail _ (own_eT hr1 hc64_44 (Or.inr hc83_48) (Or.inr hc102_52) (Or.inr hc121_56)) _ N55 _ X55 e55
                  · skip
                    refine own_byW (T' := T55) (g' := (mkF m 128 #[.val (.int u1), .val (.int j24), .val (.int kk), .val (.int (kk &&& (3 : Int32))), .val (.int j21), .val (.int (((kk.toUInt32 >>> ((3 : Int32) &&& 31).toUInt32).toInt32) &&& (3 : Int32))), .val (.int j25), .val (.ref x28), .val (.ref x29), .unset, .unset, .unset, .unset] [])) (fun _ k => XS.icmpYes X55.here hx rfl (pc0 := 121) (pc' := 128) rfl (hb hby at_121) rfl (feq hc121_56).2 (by decide) (by decide) k) ?_
                    refine own_byW (T' := T55) (g' := (mkF m 129 #[.val (.int u1), .val (.int j24), .val (.int kk), .val (.int (kk &&& (3 : Int32))), .val (.int j21), .val (.int (((kk.toUInt32 >>> ((3 : Int32) &&& 31).toUInt32).toInt32) &&& (3 : Int32))), .val (.int j25), .val (.ref x28), .val (.ref x29), .unset, .unset, .unset, .unset] [(.int (0 : Int32))])) (fun _ k => XS.iconst X55.here hx rfl (hb hby at_128) k) ?_
                    refine own_byW (T' := T55) (g' := (mkF m 131 #[.val (.int u1), .val (.int j24), .val (.int kk), .val (.int (kk &&& (3 : Int32))), .val (.int j21), .val (.int (((kk.toUInt32 >>> ((3 : Int32) &&& 31).toUInt32).toInt32) &&& (3 : Int32))), .val (.int j25), .val (.ref x28), .val (.ref x29), .val (.int (0 : Int32)), .unset, .unset, .unset] [])) (fun _ k => XS.istore X55.here hx rfl (hb hby at_129) rfl (l' := #[.val (.int u1), .val (.int j24), .val (.int kk), .val (.int (kk &&& (3 : Int32))), .val (.int j21), .val (.int (((kk.toUInt32 >>> ((3 : Int32) &&& 31).toUInt32).toInt32) &&& (3 : Int32))), .val (.int j25), .val (.ref x28), .val (.ref x29), .val (.int (0 : Int32)), .unset, .unset, .unset]) rfl k) ?_
                    exact tail _ (own_eF2 hr1 hc64_44 hc108_53 hc121_56) _ N55 _ X55 e55
              · skip
                refine own_byW (T' := T51) (g' := (mkF m 128 #[.val (.int u1), .val (.int j24), .val (.int kk), .val (.int (kk &&& (3 : Int32))), .val (.int j21), .val (.int (((kk.toUInt32 >>> ((3 : Int32) &&& 31).toUInt32).toInt32) &&& (3 : Int32))), .val (.int j25), .val (.ref x28), .val (.ref x29), .unset, .unset, .unset, .unset] [])) (fun _ k => XS.icmpYes X51.here hx rfl (pc0 := 102) (pc' := 128) rfl (hb hby at_102) rfl (feq hc102_52).2 (by decide) (by decide) k) ?_
                refine own_byW (T' := T51) (g' := (mkF m 129 #[.val (.int u1), .val (.int j24), .val (.int kk), .val (.int (kk &&& (3 : Int32))), .val (.int j21), .val (.int (((kk.toUInt32 >>> ((3 : Int32) &&& 31).toUInt32).toInt32) &&& (3 : Int32))), .val (.int j25), .val (.ref x28), .val (.ref x29), .unset, .unset, .unset, .unset] [(.int (0 : Int32))])) (fun _ k => XS.iconst X51.here hx rfl (hb hby at_128) k) ?_
                refine own_byW (T' := T51) (g' := (mkF m 131 #[.val (.int u1), .val (.int j24), .val (.int kk), .val (.int (kk &&& (3 : Int32))), .val (.int j21), .val (.int (((kk.toUInt32 >>> ((3 : Int32) &&& 31).toUInt32).toInt32) &&& (3 : Int32))), .val (.int j25), .val (.ref x28), .val (.ref x29), .val (.int (0 : Int32)), .unset, .unset, .unset] [])) (fun _ k => XS.istore X51.here hx rfl (hb hby at_129) rfl (l' := #[.val (.int u1), .val (.int j24), .val (.int kk), .val (.int (kk &&& (3 : Int32))), .val (.int j21), .val (.int (((kk.toUInt32 >>> ((3 : Int32) &&& 31).toUInt32).toInt32) &&& (3 : Int32))), .val (.int j25), .val (.ref x28), .val (.ref x29), .val (.int (0 : Int32)), .unset, .unset, .unset]) rfl k) ?_
                exact tail _ (own_eF1 hr1 hc64_44 hc89_49 hc102_52) _ N51 _ X51 e51
          · skip
            refine own_byW (T' := T47) (g' := (mkF m 128 #[.val (.int u1), .val (.int j24), .val (.int kk), .val (.int (kk &&& (3 : Int32))), .val (.int j21), .val (.int (((kk.toUInt32 >>> ((3 : Int32) &&& 31).toUInt32).toInt32) &&& (3 : Int32))), .val (.int j25), .val (.ref x28), .val (.ref x29), .unset, .unset, .unset, .unset] [])) (fun _ k => XS.icmpYes X47.here hx rfl (pc0 := 83) (pc' := 128) rfl (hb hby at_83) rfl (feq hc83_48).2 (by decide) (by decide) k) ?_
            refine own_byW (T' := T47) (g' := (mkF m 129 #[.val (.int u1), .val (.int j24), .val (.int kk), .val (.int (kk &&& (3 : Int32))), .val (.int j21), .val (.int (((kk.toUInt32 >>> ((3 : Int32) &&& 31).toUInt32).toInt32) &&& (3 : Int32))), .val (.int j25), .val (.ref x28), .val (.ref x29), .unset, .unset, .unset, .unset] [(.int (0 : Int32))])) (fun _ k => XS.iconst X47.here hx rfl (hb hby at_128) k) ?_
            refine own_byW (T' := T47) (g' := (mkF m 131 #[.val (.int u1), .val (.int j24), .val (.int kk), .val (.int (kk &&& (3 : Int32))), .val (.int j21), .val (.int (((kk.toUInt32 >>> ((3 : Int32) &&& 31).toUInt32).toInt32) &&& (3 : Int32))), .val (.int j25), .val (.ref x28), .val (.ref x29), .val (.int (0 : Int32)), .unset, .unset, .unset] [])) (fun _ k => XS.istore X47.here hx rfl (hb hby at_129) rfl (l' := #[.val (.int u1), .val (.int j24), .val (.int kk), .val (.int (kk &&& (3 : Int32))), .val (.int j21), .val (.int (((kk.toUInt32 >>> ((3 : Int32) &&& 31).toUInt32).toInt32) &&& (3 : Int32))), .val (.int j25), .val (.ref x28), .val (.ref x29), .val (.int (0 : Int32)), .unset, .unset, .unset]) rfl k) ?_
            exact tail _ (own_eF0 hr1 hc64_44 hc70_45 hc83_48) _ N47 _ X47 e47
      · skip
        refine own_byW (T' := T29) (g' := (mkF m 128 #[.val (.int u1), .val (.int j24), .val (.int kk), .val (.int (kk &&& (3 : Int32))), .val (.int j21), .val (.int (((kk.toUInt32 >>> ((3 : Int32) &&& 31).toUInt32).toInt32) &&& (3 : Int32))), .val (.int j25), .val (.ref x28), .val (.ref x29), .unset, .unset, .unset, .unset] [])) (fun _ k => XS.icmpYes X29.here hx rfl (pc0 := 64) (pc' := 128) rfl (hb hby at_64) rfl (feq hc64_44).2 (by decide) (by decide) k) ?_
        refine own_byW (T' := T29) (g' := (mkF m 129 #[.val (.int u1), .val (.int j24), .val (.int kk), .val (.int (kk &&& (3 : Int32))), .val (.int j21), .val (.int (((kk.toUInt32 >>> ((3 : Int32) &&& 31).toUInt32).toInt32) &&& (3 : Int32))), .val (.int j25), .val (.ref x28), .val (.ref x29), .unset, .unset, .unset, .unset] [(.int (0 : Int32))])) (fun _ k => XS.iconst X29.here hx rfl (hb hby at_128) k) ?_
        refine own_byW (T' := T29) (g' := (mkF m 131 #[.val (.int u1), .val (.int j24), .val (.int kk), .val (.int (kk &&& (3 : Int32))), .val (.int j21), .val (.int (((kk.toUInt32 >>> ((3 : Int32) &&& 31).toUInt32).toInt32) &&& (3 : Int32))), .val (.int j25), .val (.ref x28), .val (.ref x29), .val (.int (0 : Int32)), .unset, .unset, .unset] [])) (fun _ k => XS.istore X29.here hx rfl (hb hby at_129) rfl (l' := #[.val (.int u1), .val (.int j24), .val (.int kk), .val (.int (kk &&& (3 : Int32))), .val (.int j21), .val (.int (((kk.toUInt32 >>> ((3 : Int32) &&& 31).toUInt32).toInt32) &&& (3 : Int32))), .val (.int j25), .val (.ref x28), .val (.ref x29), .val (.int (0 : Int32)), .unset, .unset, .unset]) rfl k) ?_
        exact tail _ (own_eF hr1 hr2 hc64_44) _ N29 _ X29 rfl
    by_cases hc35_57 : j21 = (0 : Int32)
    · skip
      refine own_byW (T' := T23) (g' := (mkF m 44 #[.val (.int u1), .val (.int u2), .val (.int kk), .val (.int (kk &&& (3 : Int32))), .val (.int j21), .val (.int (((kk.toUInt32 >>> ((3 : Int32) &&& 31).toUInt32).toInt32) &&& (3 : Int32))), .val (.int (((kk.toUInt32 >>> ((5 : Int32) &&& 31).toUInt32).toInt32) &&& (3 : Int32))), .unset, .unset, .unset, .unset, .unset, .unset] [])) (fun _ k => XS.ifYes X23.here hx rfl (pc0 := 35) (pc' := 44) rfl (hb hby at_35) rfl ((if0 _ _).trans (teq hc35_57).1) (by decide) (by decide) k) ?_
      exact J26 _ (if_pos hc35_57).symm _ (if_pos hc35_57).symm T23 X23 e23
    · skip
      refine own_byW (T' := T23) (g' := (mkF m 38 #[.val (.int u1), .val (.int u2), .val (.int kk), .val (.int (kk &&& (3 : Int32))), .val (.int j21), .val (.int (((kk.toUInt32 >>> ((3 : Int32) &&& 31).toUInt32).toInt32) &&& (3 : Int32))), .val (.int (((kk.toUInt32 >>> ((5 : Int32) &&& 31).toUInt32).toInt32) &&& (3 : Int32))), .unset, .unset, .unset, .unset, .unset, .unset] [])) (fun _ k => XS.ifNo X23.here hx rfl (hb hby at_35) rfl ((if0 _ _).trans (feq hc35_57).1) k) ?_
      refine own_byW (T' := T23) (g' := (mkF m 39 #[.val (.int u1), .val (.int u2), .val (.int kk), .val (.int (kk &&& (3 : Int32))), .val (.int j21), .val (.int (((kk.toUInt32 >>> ((3 : Int32) &&& 31).toUInt32).toInt32) &&& (3 : Int32))), .val (.int (((kk.toUInt32 >>> ((5 : Int32) &&& 31).toUInt32).toInt32) &&& (3 : Int32))), .unset, .unset, .unset, .unset, .unset, .unset] [(.int u1)])) (fun _ k => XS.iloadN X23.here hx rfl (hb hby at_38) rfl k) ?_
      refine own_byW (T' := T23) (g' := (mkF m 40 #[.val (.int u1), .val (.int u1), .val (.int kk), .val (.int (kk &&& (3 : Int32))), .val (.int j21), .val (.int (((kk.toUInt32 >>> ((3 : Int32) &&& 31).toUInt32).toInt32) &&& (3 : Int32))), .val (.int (((kk.toUInt32 >>> ((5 : Int32) &&& 31).toUInt32).toInt32) &&& (3 : Int32))), .unset, .unset, .unset, .unset, .unset, .unset] [])) (fun _ k => XS.istoreN X23.here hx rfl (hb hby at_39) rfl (l' := #[.val (.int u1), .val (.int u1), .val (.int kk), .val (.int (kk &&& (3 : Int32))), .val (.int j21), .val (.int (((kk.toUInt32 >>> ((3 : Int32) &&& 31).toUInt32).toInt32) &&& (3 : Int32))), .val (.int (((kk.toUInt32 >>> ((5 : Int32) &&& 31).toUInt32).toInt32) &&& (3 : Int32))), .unset, .unset, .unset, .unset, .unset, .unset]) rfl k) ?_
      refine own_byW (T' := T23) (g' := (mkF m 42 #[.val (.int u1), .val (.int u1), .val (.int kk), .val (.int (kk &&& (3 : Int32))), .val (.int j21), .val (.int (((kk.toUInt32 >>> ((3 : Int32) &&& 31).toUInt32).toInt32) &&& (3 : Int32))), .val (.int (((kk.toUInt32 >>> ((5 : Int32) &&& 31).toUInt32).toInt32) &&& (3 : Int32))), .unset, .unset, .unset, .unset, .unset, .unset] [(.int (((kk.toUInt32 >>> ((3 : Int32) &&& 31).toUInt32).toInt32) &&& (3 : Int32)))])) (fun _ k => XS.iload X23.here hx rfl (hb hby at_40) rfl k) ?_
      refine own_byW (T' := T23) (g' := (mkF m 44 #[.val (.int u1), .val (.int u1), .val (.int kk), .val (.int (kk &&& (3 : Int32))), .val (.int j21), .val (.int (((kk.toUInt32 >>> ((3 : Int32) &&& 31).toUInt32).toInt32) &&& (3 : Int32))), .val (.int (((kk.toUInt32 >>> ((3 : Int32) &&& 31).toUInt32).toInt32) &&& (3 : Int32))), .unset, .unset, .unset, .unset, .unset, .unset] [])) (fun _ k => XS.istore X23.here hx rfl (hb hby at_42) rfl (l' := #[.val (.int u1), .val (.int u1), .val (.int kk), .val (.int (kk &&& (3 : Int32))), .val (.int j21), .val (.int (((kk.toUInt32 >>> ((3 : Int32) &&& 31).toUInt32).toInt32) &&& (3 : Int32))), .val (.int (((kk.toUInt32 >>> ((3 : Int32) &&& 31).toUInt32).toInt32) &&& (3 : Int32))), .unset, .unset, .unset, .unset, .unset, .unset]) rfl k) ?_
      exact J26 _ (if_neg hc35_57).symm _ (if_neg hc35_57).symm T23 X23 e23
  by_cases hc9_58 : (((kk.toUInt32 >>> ((2 : Int32) &&& 31).toUInt32).toInt32) &&& (1 : Int32)) = (0 : Int32)
  · skip
    refine own_byW (T' := s₁) (g' := (mkF m 16 #[.val (.int u1), .val (.int u2), .val (.int kk), .val (.int (kk &&& (3 : Int32))), .unset, .unset, .unset, .unset, .unset, .unset, .unset, .unset, .unset] [])) (fun _ k => XS.ifYes X0.here hx rfl (pc0 := 9) (pc' := 16) rfl (hb hby at_9) rfl ((if0 _ _).trans (teq hc9_58).1) (by decide) (by decide) k) ?_
    refine own_byW (T' := s₁) (g' := (mkF m 17 #[.val (.int u1), .val (.int u2), .val (.int kk), .val (.int (kk &&& (3 : Int32))), .unset, .unset, .unset, .unset, .unset, .unset, .unset, .unset, .unset] [(.int (0 : Int32))])) (fun _ k => XS.iconst X0.here hx rfl (hb hby at_16) k) ?_
    exact J22 _ (if_pos hc9_58).symm s₁ X0 e0
  · skip
    refine own_byW (T' := s₁) (g' := (mkF m 12 #[.val (.int u1), .val (.int u2), .val (.int kk), .val (.int (kk &&& (3 : Int32))), .unset, .unset, .unset, .unset, .unset, .unset, .unset, .unset, .unset] [])) (fun _ k => XS.ifNo X0.here hx rfl (hb hby at_9) rfl ((if0 _ _).trans (feq hc9_58).1) k) ?_
    refine own_byW (T' := s₁) (g' := (mkF m 13 #[.val (.int u1), .val (.int u2), .val (.int kk), .val (.int (kk &&& (3 : Int32))), .unset, .unset, .unset, .unset, .unset, .unset, .unset, .unset, .unset] [(.int (1 : Int32))])) (fun _ k => XS.iconst X0.here hx rfl (hb hby at_12) k) ?_
    refine own_byW (T' := s₁) (g' := (mkF m 17 #[.val (.int u1), .val (.int u2), .val (.int kk), .val (.int (kk &&& (3 : Int32))), .unset, .unset, .unset, .unset, .unset, .unset, .unset, .unset, .unset] [(.int (1 : Int32))])) (fun _ k => XS.goto X0.here hx rfl (pc0 := 13) (pc' := 17) rfl (hb hby at_13) (by decide) (by decide) k) ?_
    exact J22 _ (if_neg hc9_58).symm s₁ X0 e0
set_option maxRecDepth 65536 in
set_option maxHeartbeats 40000000 in
theorem comes_1 {Post : Tables → Env → Array Value → State → Outcome → State → Prop} (hpost : ∀ tb e args s v u, (limb_1_1.after args s (.returned v) u = true ∧ limb_1_2.after args s (.returned v) u = true ∧ True) → ReturnedEndW s (.returned v) u (Jvm.fieldLocs frame_1_writes args s ++ Jvm.arrayLocs frame_1_arrays args s ++ Jvm.staticLocs frame_1_statics s) 32 3200 → Post tb e args s (.returned v) u) :
    ArmFor flags0 classFile x code maxLocals ret World_1 tables_1 room_1 Calls_1 rest_1 Pre_1 Post := by
  intro l hfl _ _ p e ha hc hk s m args below hf hA hF happ hP
  obtain ⟨hcalls, hrest, hpre⟩ := hP
  obtain ⟨-, -, -, hnamed, -, -, -, hat⟩ := (Spec.applies_iff hf).mp happ
  obtain ⟨hg, hn⟩ := and_e (Cond.before_iff.mp (show (Jvm.Cond.and given_1 narrow_1).before args s = true from hpre))
  obtain ⟨g1, g2⟩ := and_e hg
  obtain ⟨g3, g4⟩ := and_e g2
  obtain ⟨g5, g6⟩ := and_e g4
  obtain ⟨w0, w1, w2, rfl⟩ : ∃ w0 w1 w2 : Value, args = #[w0, w1, w2] := by
    have hs : args.size = 3 := by simpa [Cond.value, given_1] using g1
    obtain ⟨L⟩ := args
    match L, hs with
    | [w0, w1, w2], _ => exact ⟨w0, w1, w2, rfl⟩
  have hw := fun d (hd : d ∈ tables_1) => atoms_spec (ws := Jvm.Cond.code x code maxLocals ret :: tables_1) hat d (List.mem_cons_of_mem _ hd)
  have hfit : Fit s := fun {y c} hc i hi => by
    obtain ⟨ha, rfl⟩ := Array.getElem?_eq_some_iff.mp hc
    have q := List.all_eq_true.mp ((Array.all_eq_true_iff_forall_mem.mp hF) _ (Array.getElem_mem ha)) i (List.mem_range.mpr hi)
    simpa [Array.getElem?_eq_getElem hi] using q
  obtain ⟨hsets, hown0⟩ := atoms_of _ (rest_1_c_eq ▸ (show rest_1_c.before _ s = true from hrest))
  have hr0 := Cond.before_iff.mp hown0
  obtain ⟨i0, ei0⟩ := is_v g3
  obtain rfl : w0 = (.int i0) := Option.some.inj ei0
  obtain ⟨i1, ei1⟩ := is_v g5
  obtain rfl : w1 = (.int i1) := Option.some.inj ei1
  obtain ⟨i2, ei2⟩ := is_v g6
  obtain rfl : w2 = (.int i2) := Option.some.inj ei2
  obtain ⟨cs, ecs⟩ := is_v (Cond.before_iff.mp (hsets _ (List.mem_of_getElem? (i := 1) rfl)))
  have S_CS : Sta s s.heap "java/lang/String" "COMPACT_STRINGS" "Z" (.int cs) := Sta.start ecs (Or.inl (hsets _ (List.mem_of_getElem? (i := 0) rfl)))
  have hcs : ¬ cs = (0 : Int32) := own_ne0 ecs (hsets _ (List.mem_of_getElem? (i := 2) rfl))
  have hCH : CHv s consts_1 s.vm s.heap := CHv.start (own_EL hw) (fun p hp => hcalls.1 p hp) (hsets _ (List.mem_of_getElem? (i := 2) rfl)) (hw _ (List.mem_of_getElem? (i := 19) rfl)) (hw _ (List.mem_of_getElem? (i := 5) rfl))
  obtain ⟨n, o, h1, h2, h3, _, L, rfl, ⟨rfl, N⟩, hCr, hq⟩ := rm0 l s _ hw tables_1 i0 i1 i2 cs s.heap s.heap.size (Nat.le_refl _) (Old.start s) S_CS hcs p e ha hc hk s m _ below hf ((Spec.applies_iff_loose hf).mp happ).1 ⟨rfl, State.Warmed39.refl s, rfl, hCH, trivial⟩ trivial
  refine ⟨n, _, h1, h2, h3, hpost _ _ _ _ _ _ ⟨Cond.after_iff.mpr rfl, Cond.after_iff.mpr (eq_i res_at (Term.int_eval (1)) rfl), trivial⟩ ⟨hq.1, hq.2.1, hq.2.2.1, (hq.2.2.2.sift fun y hy => Or.inr (N y hy)).mono (by decide) (by decide)⟩⟩
theorem main_1_1 : Claimed_1_1 := comes_1 fun _ _ _ _ _ _ h hF => ⟨h.1, hF⟩
theorem main_1_2 : Claimed_1_2 := comes_1 fun _ _ _ _ _ _ h hF => ⟨h.2.1, hF⟩
end Jvm.Pilot.@@N@@
namespace Jvm.Pilot.@@N@@
open Jvm Jvm.ClassFile Sem Op Lib Jvm.Free Jvm.Stand Jvm.Pilot.@@N@@.Jvm.D
/-! MADE BY PROGRAM (witnessworld.py) out of the Statement's table words and the real class files: 23 classes; the members and pool entries that the words name. The judged class is class 1, her method 3. -/
namespace start1
open Jvm.ClassFile
def u (s : String) : CpInfo := .utf8 (stringToUtf16 s)
/-- a pool by its gaps: so many unusable entries, then the entry; so many at the end -/
def gap : Nat → List CpInfo → List CpInfo
  | 0, r => r
  | n + 1, r => .unusable :: gap n r
def poolList (es : List (Nat × CpInfo)) (last : Nat) : List CpInfo := es.foldr (fun e r => gap e.1 (e.2 :: r)) (gap last [])
def pool (es : List (Nat × CpInfo)) (last : Nat) : Array CpInfo := ⟨poolList es last⟩
def fileOf (pool : Array CpInfo) (this : Nat) (attrs : Array Attribute := #[]) (ms : Array MethodInfo := #[]) (fl : Nat := 33) (sup : Nat := 0) (ifs : Array Nat := #[]) (fds : Array FieldInfo := #[]) : ClassFile where
  minorVersion := 0
  majorVersion := 65
  constantPool := pool
  accessFlags := fl
  thisClass := this
  superClass := sup
  interfaces := ifs
  fields := fds
  methods := ms
  attributes := attrs
def plain (name : String) (sup : Option ClassId) : Class where
  name := name
  kind := .ordinary
  loader := none
  accessFlags := 33
  super := sup
  interfaces := #[]
  cf := none
  fields := #[]
  methods := #[]
  instanceTypes := #[]
  staticTypes := #[]
  resolved := #[]
  callSites := []
  init := .initialized
  statics := none
  mirror := none

def pool0 : Array CpInfo := pool [(5, u "<init>"), (0, u "()V"), (1, .class_ 10), (1, u "java/lang/Object")] 113

def k0c0 : Code := { maxStack := 0, maxLocals := 1, code := object_method_1_code, exceptionTable := #[], attributes := #[] }
def k0m0 : Method := { name := "<init>", desc := "()V", sig := { parameters := [], returnType := none }, accessFlags := 1, code := some k0c0 }
/-- java/lang/Object -/
def k0 : Class := { plain "java/lang/Object" none with
  accessFlags := 33
  interfaces := #[]
  cf := some (fileOf pool0 8 #[] #[{ accessFlags := 1, nameIndex := 5, descriptorIndex := 6, attributes := #[] }] 33 0 #[] #[])
  fields := #[]
  methods := #[k0m0]
  instanceTypes := #[]
  staticTypes := #[]
  resolved := Array.replicate 124 none
  statics := none }

def pool1 : Array CpInfo := pool [(2, .class_ 4), (1, u "java/lang/Object"), (0, u "<init>"), (0, u "()V"), (0, .class_ 8), (0, u "java/lang/String"), (0, .methodref 7 10), (0, .nameAndType 5 11), (0, u "([C)V"), (0, .methodref 13 14), (0, .class_ 15), (0, .nameAndType 16 17), (0, u "com/example/postings/postings/search/PhraseEqualsPinLaw"), (0, u "ch"), (0, u "(II)C"), (0, .methodref 13 19), (0, .nameAndType 20 21), (0, u "mk"), (0, u "(II)Ljava/lang/String;"), (0, .class_ 23), (0, u "com/example/postings/postings/search/Phrase"), (0, .methodref 22 25), (0, .nameAndType 5 26), (0, u "(Ljava/lang/String;)V"), (0, .class_ 28), (0, u "com/example/postings/postings/search/Words"), (0, .methodref 27 25), (0, .methodref 22 31), (0, .nameAndType 32 33), (0, u "equals"), (0, u "(Ljava/lang/Object;)Z"), (3, u "law"), (0, u "(III)Z")] 2

def k1m0 : Method := { name := "<init>", desc := "()V", sig := { parameters := [], returnType := none }, accessFlags := 1, code := none }
def k1c1 : Code := { maxStack := 3, maxLocals := 2, code := method_2_code, exceptionTable := #[], attributes := #[] }
def k1m1 : Method := { name := "ch", desc := "(II)C", sig := { parameters := [.int, .int], returnType := some .char }, accessFlags := 10, code := some k1c1 }
def k1c2 : Code := { maxStack := 7, maxLocals := 2, code := method_3_code, exceptionTable := #[], attributes := #[] }
def k1m2 : Method := { name := "mk", desc := "(II)Ljava/lang/String;", sig := { parameters := [.int, .int], returnType := some (.object "java/lang/String") }, accessFlags := 10, code := some k1c2 }
def k1c3 : Code := { maxStack := 3, maxLocals := 13, code := code, exceptionTable := #[], attributes := #[] }
def k1m3 : Method := { name := "law", desc := "(III)Z", sig := { parameters := [.int, .int, .int], returnType := some .boolean }, accessFlags := 9, code := some k1c3 }
/-- com/example/postings/postings/search/PhraseEqualsPinLaw -/
def k1 : Class := { plain "com/example/postings/postings/search/PhraseEqualsPinLaw" (some 0) with
  accessFlags := 49
  interfaces := #[]
  cf := some (fileOf pool1 13 #[] #[{ accessFlags := 1, nameIndex := 5, descriptorIndex := 6, attributes := #[] }, { accessFlags := 10, nameIndex := 16, descriptorIndex := 17, attributes := #[] }, { accessFlags := 10, nameIndex := 20, descriptorIndex := 21, attributes := #[] }, { accessFlags := 9, nameIndex := 37, descriptorIndex := 38, attributes := #[] }] 49 2 #[] #[])
  fields := #[]
  methods := #[k1m0, k1m1, k1m2, k1m3]
  instanceTypes := #[]
  staticTypes := #[]
  resolved := Array.replicate 41 none
  statics := none }

def pool2 : Array CpInfo := pool [(1, .class_ 2), (0, u "java/io/Serializable"), (0, .class_ 4), (0, u "java/lang/Object")] 2

/-- java/io/Serializable -/
def k2 : Class := { plain "java/io/Serializable" (some 0) with
  accessFlags := 1537
  interfaces := #[]
  cf := some (fileOf pool2 1 #[] #[] 1537 3 #[] #[])
  fields := #[]
  methods := #[]
  instanceTypes := #[]
  staticTypes := #[]
  resolved := Array.replicate 7 none
  statics := none }

def pool3 : Array CpInfo := pool [(1, .class_ 2), (0, u "java/lang/Comparable"), (0, .class_ 4), (0, u "java/lang/Object")] 7

/-- java/lang/Comparable -/
def k3 : Class := { plain "java/lang/Comparable" (some 0) with
  accessFlags := 1537
  interfaces := #[]
  cf := some (fileOf pool3 1 #[] #[] 1537 3 #[] #[])
  fields := #[]
  methods := #[]
  instanceTypes := #[]
  staticTypes := #[]
  resolved := Array.replicate 12 none
  statics := none }

def pool4 : Array CpInfo := pool [(2, .class_ 4), (1, u "java/lang/CharSequence"), (42, .class_ 48), (0, u "java/lang/CharSequence$1CodePointIterator"), (10, .class_ 60), (0, u "java/lang/CharSequence$1CharIterator"), (5, .class_ 67), (0, u "java/lang/Object")] 63

/-- java/lang/CharSequence -/
def k4 : Class := { plain "java/lang/CharSequence" (some 0) with
  accessFlags := 1537
  interfaces := #[]
  cf := some (fileOf pool4 2 #[.nestMembers #[47, 59]] #[] 1537 66 #[] #[])
  fields := #[]
  methods := #[]
  instanceTypes := #[]
  staticTypes := #[]
  resolved := Array.replicate 131 none
  statics := none }

def pool5 : Array CpInfo := pool [(1, .class_ 2), (0, u "java/lang/constant/Constable"), (0, .class_ 4), (0, u "java/lang/Object")] 6

/-- java/lang/constant/Constable -/
def k5 : Class := { plain "java/lang/constant/Constable" (some 0) with
  accessFlags := 1537
  interfaces := #[]
  cf := some (fileOf pool5 1 #[] #[] 1537 3 #[] #[])
  fields := #[]
  methods := #[]
  instanceTypes := #[]
  staticTypes := #[]
  resolved := Array.replicate 11 none
  statics := none }

def pool6 : Array CpInfo := pool [(1, .class_ 2), (0, u "java/lang/constant/ConstantDesc"), (0, .class_ 4), (0, u "java/lang/Object")] 32

/-- java/lang/constant/ConstantDesc -/
def k6 : Class := { plain "java/lang/constant/ConstantDesc" (some 0) with
  accessFlags := 1537
  interfaces := #[]
  cf := some (fileOf pool6 1 #[] #[] 1537 3 #[] #[])
  fields := #[]
  methods := #[]
  instanceTypes := #[]
  staticTypes := #[]
  resolved := Array.replicate 37 none
  statics := none }

def pool7 : Array CpInfo := pool [(1, .methodref 2 3), (0, .class_ 4), (0, .nameAndType 5 6), (0, u "java/lang/Object"), (0, u "<init>"), (0, u "()V"), (0, .string 8), (0, u ""), (0, .fieldref 10 11), (0, .class_ 12), (0, .nameAndType 13 14), (0, u "java/lang/String"), (0, u "value"), (0, u "[B"), (0, .fieldref 10 16), (0, .nameAndType 17 18), (0, u "coder"), (0, u "B"), (2, u "hash"), (0, u "I"), (2, u "hashIsZero"), (0, u "Z"), (0, .methodref 10 28), (0, .nameAndType 5 29), (0, u "([CIILjava/lang/Void;)V"), (8, .fieldref 10 39), (0, .nameAndType 40 26), (0, u "COMPACT_STRINGS"), (1, .class_ 44), (1, u "java/lang/StringUTF16"), (0, u "compress"), (1, .methodref 42 48), (0, .nameAndType 49 50), (0, u "coderFromArrayLen"), (0, u "([BI)B"), (56, .class_ 109), (1, u "java/lang/StringLatin1"), (67, .methodref 42 178), (0, .nameAndType 45 179), (0, u "([CII)[B"), (361, .methodref 107 542), (0, .nameAndType 543 544), (0, u "equals"), (0, u "([B[B)Z"), (28, u "(Ljava/lang/Object;)Z"), (1, .class_ 576), (0, u "java/lang/CharSequence"), (22, u "CASE_INSENSITIVE_ORDER"), (0, u "Ljava/util/Comparator;"), (409, u "([C)V"), (90, u "serialPersistentFields"), (0, u "[Ljava/io/ObjectStreamField;"), (0, .class_ 1104), (0, u "java/lang/String$CaseInsensitiveComparator"), (1, .class_ 1107), (0, u "java/io/Serializable"), (0, .class_ 1109), (0, u "java/lang/Comparable"), (0, .class_ 1111), (0, u "java/lang/constant/Constable"), (0, .class_ 1113), (0, u "java/lang/constant/ConstantDesc"), (2, u "serialVersionUID"), (0, u "J"), (3, u "REPL"), (0, u "C"), (2, u "LATIN1"), (1, u "UTF16")] 323

def k7m0 : Method := { name := "<init>", desc := "()V", sig := { parameters := [], returnType := none }, accessFlags := 1, code := none }
def k7c1 : Code := { maxStack := 5, maxLocals := 2, code := jdk_42_method_3_code, exceptionTable := #[], attributes := #[] }
def k7m1 : Method := { name := "<init>", desc := "([C)V", sig := { parameters := [(.array .char)], returnType := none }, accessFlags := 1, code := some k7c1 }
def k7c2 : Code := { maxStack := 2, maxLocals := 3, code := jdk_42_method_66_code, exceptionTable := #[], attributes := #[] }
def k7m2 : Method := { name := "equals", desc := "(Ljava/lang/Object;)Z", sig := { parameters := [(.object "java/lang/Object")], returnType := some .boolean }, accessFlags := 1, code := some k7c2 }
def k7c3 : Code := { maxStack := 4, maxLocals := 6, code := jdk_42_method_149_code, exceptionTable := #[], attributes := #[] }
def k7m3 : Method := { name := "<init>", desc := "([CIILjava/lang/Void;)V", sig := { parameters := [(.array .char), .int, .int, (.object "java/lang/Void")], returnType := none }, accessFlags := 2, code := some k7c3 }
/-- java/lang/String -/
def k7 : Class := { plain "java/lang/String" (some 0) with
  accessFlags := 49
  interfaces := #[2, 3, 4, 5, 6]
  cf := some (fileOf pool7 10 #[.nestMembers #[1103]] #[{ accessFlags := 1, nameIndex := 5, descriptorIndex := 6, attributes := #[] }, { accessFlags := 1, nameIndex := 5, descriptorIndex := 1010, attributes := #[] }, { accessFlags := 1, nameIndex := 543, descriptorIndex := 573, attributes := #[] }, { accessFlags := 2, nameIndex := 5, descriptorIndex := 29, attributes := #[] }] 49 2 #[1106, 1108, 575, 1110, 1112] #[{ accessFlags := 18, nameIndex := 13, descriptorIndex := 14, attributes := #[] }, { accessFlags := 18, nameIndex := 17, descriptorIndex := 18, attributes := #[] }, { accessFlags := 2, nameIndex := 21, descriptorIndex := 22, attributes := #[] }, { accessFlags := 2, nameIndex := 25, descriptorIndex := 26, attributes := #[] }, { accessFlags := 26, nameIndex := 1116, descriptorIndex := 1117, attributes := #[] }, { accessFlags := 24, nameIndex := 40, descriptorIndex := 26, attributes := #[] }, { accessFlags := 26, nameIndex := 1101, descriptorIndex := 1102, attributes := #[] }, { accessFlags := 26, nameIndex := 1121, descriptorIndex := 1122, attributes := #[] }, { accessFlags := 25, nameIndex := 599, descriptorIndex := 600, attributes := #[] }, { accessFlags := 24, nameIndex := 1125, descriptorIndex := 18, attributes := #[] }, { accessFlags := 24, nameIndex := 1127, descriptorIndex := 18, attributes := #[] }])
  fields := #[{ name := "value", type := (.array .byte), accessFlags := 18, slot := 0, constantValue := 0 }, { name := "coder", type := .byte, accessFlags := 18, slot := 1, constantValue := 0 }, { name := "hash", type := .int, accessFlags := 2, slot := 2, constantValue := 0 }, { name := "hashIsZero", type := .boolean, accessFlags := 2, slot := 3, constantValue := 0 }, { name := "serialVersionUID", type := .long, accessFlags := 26, slot := 0, constantValue := 0 }, { name := "COMPACT_STRINGS", type := .boolean, accessFlags := 24, slot := 1, constantValue := 0 }, { name := "serialPersistentFields", type := (.array (.object "java/io/ObjectStreamField")), accessFlags := 26, slot := 2, constantValue := 0 }, { name := "REPL", type := .char, accessFlags := 26, slot := 3, constantValue := 0 }, { name := "CASE_INSENSITIVE_ORDER", type := (.object "java/util/Comparator"), accessFlags := 25, slot := 4, constantValue := 0 }, { name := "LATIN1", type := .byte, accessFlags := 24, slot := 5, constantValue := 0 }, { name := "UTF16", type := .byte, accessFlags := 24, slot := 6, constantValue := 0 }]
  methods := #[k7m0, k7m1, k7m2, k7m3]
  instanceTypes := #[(.array .byte), .byte, .int, .boolean]
  staticTypes := #[.long, .boolean, (.array (.object "java/io/ObjectStreamField")), .char, (.object "java/util/Comparator"), .byte, .byte]
  resolved := Array.replicate 1451 none
  statics := some 0 }

def pool8 : Array CpInfo := pool [(1, .methodref 2 3), (0, .class_ 4), (0, .nameAndType 5 6), (0, u "java/lang/Object"), (0, u "<init>"), (0, u "()V"), (0, .class_ 8), (0, u "com/example/postings/postings/search/Query")] 13

def k8c0 : Code := { maxStack := 1, maxLocals := 1, code := prog_37_method_1_code, exceptionTable := #[], attributes := #[] }
def k8m0 : Method := { name := "<init>", desc := "()V", sig := { parameters := [], returnType := none }, accessFlags := 1, code := some k8c0 }
/-- com/example/postings/postings/search/Query -/
def k8 : Class := { plain "com/example/postings/postings/search/Query" (some 0) with
  accessFlags := 1057
  interfaces := #[]
  cf := some (fileOf pool8 7 #[] #[{ accessFlags := 1, nameIndex := 5, descriptorIndex := 6, attributes := #[] }] 1057 2 #[] #[])
  fields := #[]
  methods := #[k8m0]
  instanceTypes := #[]
  staticTypes := #[]
  resolved := Array.replicate 22 none
  statics := none }

def pool9 : Array CpInfo := pool [(1, .methodref 2 3), (0, .class_ 4), (0, .nameAndType 5 6), (0, u "com/example/postings/postings/search/Query"), (0, u "<init>"), (0, u "()V"), (0, .string 8), (0, u "text"), (0, .methodref 10 11), (0, .class_ 12), (0, .nameAndType 13 14), (0, u "java/util/Objects"), (0, u "requireNonNull"), (0, u "(Ljava/lang/Object;Ljava/lang/String;)Ljava/lang/Object;"), (0, .class_ 16), (0, u "java/lang/String"), (0, .fieldref 18 19), (0, .class_ 20), (0, .nameAndType 8 21), (0, u "com/example/postings/postings/search/Phrase"), (0, u "Ljava/lang/String;"), (39, .class_ 62), (0, u "com/example/postings/postings/search/Phrase$Unmatched"), (4, u "(Ljava/lang/Object;)Z"), (0, .class_ 69), (0, u "com/example/postings/postings/search/Phrase$PhraseMatcher"), (3, .methodref 15 74), (0, .nameAndType 75 67), (0, u "equals"), (7, u "(Ljava/lang/String;)V")] 29

def k9c0 : Code := { maxStack := 3, maxLocals := 2, code := prog_33_method_1_code, exceptionTable := #[], attributes := #[] }
def k9m0 : Method := { name := "<init>", desc := "(Ljava/lang/String;)V", sig := { parameters := [(.object "java/lang/String")], returnType := none }, accessFlags := 1, code := some k9c0 }
def k9c1 : Code := { maxStack := 2, maxLocals := 3, code := prog_33_method_4_code, exceptionTable := #[], attributes := #[] }
def k9m1 : Method := { name := "equals", desc := "(Ljava/lang/Object;)Z", sig := { parameters := [(.object "java/lang/Object")], returnType := some .boolean }, accessFlags := 1, code := some k9c1 }
/-- com/example/postings/postings/search/Phrase -/
def k9 : Class := { plain "com/example/postings/postings/search/Phrase" (some 8) with
  accessFlags := 49
  interfaces := #[]
  cf := some (fileOf pool9 18 #[.nestMembers #[68, 61]] #[{ accessFlags := 1, nameIndex := 5, descriptorIndex := 83, attributes := #[] }, { accessFlags := 1, nameIndex := 75, descriptorIndex := 67, attributes := #[] }] 49 2 #[] #[{ accessFlags := 18, nameIndex := 8, descriptorIndex := 21, attributes := #[] }])
  fields := #[{ name := "text", type := (.object "java/lang/String"), accessFlags := 18, slot := 0, constantValue := 0 }]
  methods := #[k9m0, k9m1]
  instanceTypes := #[(.object "java/lang/String")]
  staticTypes := #[]
  resolved := Array.replicate 113 none
  statics := none }

def pool10 : Array CpInfo := pool [(2, .class_ 4), (1, u "java/lang/Object"), (0, u "<init>"), (0, u "()V"), (35, .class_ 44), (1, u "java/util/Objects"), (0, u "requireNonNull"), (48, u "(Ljava/lang/Object;Ljava/lang/String;)Ljava/lang/Object;")] 89

def k10m0 : Method := { name := "<init>", desc := "()V", sig := { parameters := [], returnType := none }, accessFlags := 2, code := none }
def k10c1 : Code := { maxStack := 3, maxLocals := 2, code := jdk_31_method_11_code, exceptionTable := #[], attributes := #[] }
def k10m1 : Method := { name := "requireNonNull", desc := "(Ljava/lang/Object;Ljava/lang/String;)Ljava/lang/Object;", sig := { parameters := [(.object "java/lang/Object"), (.object "java/lang/String")], returnType := some (.object "java/lang/Object") }, accessFlags := 9, code := some k10c1 }
/-- java/util/Objects -/
def k10 : Class := { plain "java/util/Objects" (some 0) with
  accessFlags := 49
  interfaces := #[]
  cf := some (fileOf pool10 42 #[] #[{ accessFlags := 2, nameIndex := 5, descriptorIndex := 6, attributes := #[] }, { accessFlags := 9, nameIndex := 45, descriptorIndex := 94, attributes := #[] }] 49 2 #[] #[])
  fields := #[]
  methods := #[k10m0, k10m1]
  instanceTypes := #[]
  staticTypes := #[]
  resolved := Array.replicate 184 none
  statics := none }

def pool11 : Array CpInfo := pool [(6, .class_ 8), (1, u "java/lang/Object"), (0, u "<init>"), (0, u "()V"), (1, .class_ 14), (1, u "java/lang/StringUTF16"), (31, u "$assertionsDisabled"), (0, u "Z"), (13, u "HI_BYTE_SHIFT"), (0, u "I"), (2, u "LO_BYTE_SHIFT"), (49, .methodref 12 116), (0, .nameAndType 117 118), (0, u "compress"), (0, u "([CI[BII)I"), (3, u "([CII)[B"), (138, u "coderFromArrayLen"), (0, u "([BI)B"), (106, .class_ 371), (1, u "java/lang/StringUTF16$LinesSpliterator"), (58, u "MAX_LENGTH"), (196, .class_ 628), (0, u "java/lang/StringUTF16$CodePointsSpliterator"), (0, .class_ 630), (0, u "java/lang/StringUTF16$CharsSpliterator")] 4

def k11m0 : Method := { name := "<init>", desc := "()V", sig := { parameters := [], returnType := none }, accessFlags := 0, code := none }
def k11c1 : Code := { maxStack := 2, maxLocals := 2, code := jdk_52_method_15_code, exceptionTable := #[], attributes := #[] }
def k11m1 : Method := { name := "coderFromArrayLen", desc := "([BI)B", sig := { parameters := [(.array .byte), .int], returnType := some .byte }, accessFlags := 8, code := some k11c1 }
def k11c2 : Code := { maxStack := 5, maxLocals := 6, code := jdk_52_method_16_code, exceptionTable := #[], attributes := #[] }
def k11m2 : Method := { name := "compress", desc := "([CII)[B", sig := { parameters := [(.array .char), .int, .int], returnType := some (.array .byte) }, accessFlags := 9, code := some k11c2 }
def k11c3 : Code := { maxStack := 3, maxLocals := 7, code := jdk_52_method_21_code, exceptionTable := #[], attributes := #[] }
def k11m3 : Method := { name := "compress", desc := "([CI[BII)I", sig := { parameters := [(.array .char), .int, (.array .byte), .int, .int], returnType := some .int }, accessFlags := 9, code := some k11c3 }
/-- java/lang/StringUTF16 -/
def k11 : Class := { plain "java/lang/StringUTF16" (some 0) with
  accessFlags := 48
  interfaces := #[]
  cf := some (fileOf pool11 12 #[.nestMembers #[627, 629, 369]] #[{ accessFlags := 0, nameIndex := 9, descriptorIndex := 10, attributes := #[] }, { accessFlags := 8, nameIndex := 261, descriptorIndex := 262, attributes := #[] }, { accessFlags := 9, nameIndex := 117, descriptorIndex := 122, attributes := #[] }, { accessFlags := 9, nameIndex := 117, descriptorIndex := 118, attributes := #[] }] 48 6 #[] #[{ accessFlags := 26, nameIndex := 61, descriptorIndex := 62, attributes := #[] }, { accessFlags := 26, nameIndex := 65, descriptorIndex := 62, attributes := #[] }, { accessFlags := 24, nameIndex := 430, descriptorIndex := 62, attributes := #[] }, { accessFlags := 4120, nameIndex := 46, descriptorIndex := 47, attributes := #[] }])
  fields := #[{ name := "HI_BYTE_SHIFT", type := .int, accessFlags := 26, slot := 0, constantValue := 0 }, { name := "LO_BYTE_SHIFT", type := .int, accessFlags := 26, slot := 1, constantValue := 0 }, { name := "MAX_LENGTH", type := .int, accessFlags := 24, slot := 2, constantValue := 0 }, { name := "$assertionsDisabled", type := .boolean, accessFlags := 4120, slot := 3, constantValue := 0 }]
  methods := #[k11m0, k11m1, k11m2, k11m3]
  instanceTypes := #[]
  staticTypes := #[.int, .int, .int, .boolean]
  resolved := Array.replicate 635 none
  statics := none }

def pool12 : Array CpInfo := pool [(1, .methodref 2 3), (0, .class_ 4), (0, .nameAndType 5 6), (0, u "com/example/postings/postings/search/Query"), (0, u "<init>"), (0, u "()V"), (0, .string 8), (0, u "text"), (0, .methodref 10 11), (0, .class_ 12), (0, .nameAndType 13 14), (0, u "java/util/Objects"), (0, u "requireNonNull"), (0, u "(Ljava/lang/Object;Ljava/lang/String;)Ljava/lang/Object;"), (0, .class_ 16), (0, u "java/lang/String"), (0, .fieldref 18 19), (0, .class_ 20), (0, .nameAndType 8 21), (0, u "com/example/postings/postings/search/Words"), (0, u "Ljava/lang/String;"), (40, .class_ 63), (0, u "com/example/postings/postings/search/Words$WordsMatcher"), (10, u "(Ljava/lang/String;)V")] 14

def k12c0 : Code := { maxStack := 3, maxLocals := 2, code := prog_44_method_1_code, exceptionTable := #[], attributes := #[] }
def k12m0 : Method := { name := "<init>", desc := "(Ljava/lang/String;)V", sig := { parameters := [(.object "java/lang/String")], returnType := none }, accessFlags := 1, code := some k12c0 }
/-- com/example/postings/postings/search/Words -/
def k12 : Class := { plain "com/example/postings/postings/search/Words" (some 8) with
  accessFlags := 49
  interfaces := #[]
  cf := some (fileOf pool12 18 #[.nestMembers #[62]] #[{ accessFlags := 1, nameIndex := 5, descriptorIndex := 74, attributes := #[] }] 49 2 #[] #[{ accessFlags := 18, nameIndex := 8, descriptorIndex := 21, attributes := #[] }])
  fields := #[{ name := "text", type := (.object "java/lang/String"), accessFlags := 18, slot := 0, constantValue := 0 }]
  methods := #[k12m0]
  instanceTypes := #[(.object "java/lang/String")]
  staticTypes := #[]
  resolved := Array.replicate 89 none
  statics := none }

def pool13 : Array CpInfo := pool [(4, .class_ 6), (1, u "java/lang/Object"), (0, u "<init>"), (0, u "()V"), (5, .class_ 16), (1, u "java/lang/StringLatin1"), (104, u "$assertionsDisabled"), (0, u "Z"), (98, .class_ 223), (1, u "java/lang/StringLatin1$LinesSpliterator"), (57, u "equals"), (0, u "([B[B)Z"), (107, .class_ 391), (0, u "java/lang/StringLatin1$CharsSpliterator")] 3

def k13m0 : Method := { name := "<init>", desc := "()V", sig := { parameters := [], returnType := none }, accessFlags := 0, code := none }
def k13c1 : Code := { maxStack := 3, maxLocals := 3, code := jdk_43_method_13_code, exceptionTable := #[], attributes := #[] }
def k13m1 : Method := { name := "equals", desc := "([B[B)Z", sig := { parameters := [(.array .byte), (.array .byte)], returnType := some .boolean }, accessFlags := 9, code := some k13c1 }
/-- java/lang/StringLatin1 -/
def k13 : Class := { plain "java/lang/StringLatin1" (some 0) with
  accessFlags := 48
  interfaces := #[]
  cf := some (fileOf pool13 14 #[.nestMembers #[390, 221]] #[{ accessFlags := 0, nameIndex := 7, descriptorIndex := 8, attributes := #[] }, { accessFlags := 9, nameIndex := 281, descriptorIndex := 282, attributes := #[] }] 48 4 #[] #[{ accessFlags := 4120, nameIndex := 121, descriptorIndex := 122, attributes := #[] }])
  fields := #[{ name := "$assertionsDisabled", type := .boolean, accessFlags := 4120, slot := 0, constantValue := 0 }]
  methods := #[k13m0, k13m1]
  instanceTypes := #[]
  staticTypes := #[.boolean]
  resolved := Array.replicate 395 none
  statics := none }

def pool14 : Array CpInfo := pool [(2, .class_ 4), (1, u "java/lang/Object"), (0, u "<init>"), (0, u "()V"), (17, .class_ 26), (1, u "jdk/internal/util/Preconditions"), (28, .class_ 56), (0, u "jdk/internal/util/Preconditions$4"), (57, .class_ 115), (0, u "jdk/internal/util/Preconditions$1"), (7, u "SIOOBE_FORMATTER"), (0, u "Ljava/util/function/BiFunction;"), (0, .class_ 126), (0, u "jdk/internal/util/Preconditions$2"), (3, u "AIOOBE_FORMATTER"), (0, .class_ 132), (0, u "jdk/internal/util/Preconditions$3"), (3, u "IOOBE_FORMATTER")] 57

def k14m0 : Method := { name := "<init>", desc := "()V", sig := { parameters := [], returnType := none }, accessFlags := 1, code := none }
/-- jdk/internal/util/Preconditions -/
def k14 : Class := { plain "jdk/internal/util/Preconditions" (some 0) with
  accessFlags := 33
  interfaces := #[]
  cf := some (fileOf pool14 24 #[.nestMembers #[55, 131, 125, 114]] #[{ accessFlags := 1, nameIndex := 5, descriptorIndex := 6, attributes := #[] }] 33 2 #[] #[{ accessFlags := 25, nameIndex := 123, descriptorIndex := 124, attributes := #[] }, { accessFlags := 25, nameIndex := 130, descriptorIndex := 124, attributes := #[] }, { accessFlags := 25, nameIndex := 136, descriptorIndex := 124, attributes := #[] }])
  fields := #[{ name := "SIOOBE_FORMATTER", type := (.object "java/util/function/BiFunction"), accessFlags := 25, slot := 0, constantValue := 0 }, { name := "AIOOBE_FORMATTER", type := (.object "java/util/function/BiFunction"), accessFlags := 25, slot := 1, constantValue := 0 }, { name := "IOOBE_FORMATTER", type := (.object "java/util/function/BiFunction"), accessFlags := 25, slot := 2, constantValue := 0 }]
  methods := #[k14m0]
  instanceTypes := #[]
  staticTypes := #[(.object "java/util/function/BiFunction"), (.object "java/util/function/BiFunction"), (.object "java/util/function/BiFunction")]
  resolved := Array.replicate 194 none
  statics := some 1 }

def pool15 : Array CpInfo := pool [(9, u "<init>"), (6, .class_ 18), (1, u "java/lang/Object"), (0, u "()V"), (1, .class_ 23), (1, u "jdk/internal/util/ArraysSupport"), (0, u "LOG2_ARRAY_LONG_INDEX_SCALE"), (0, u "I"), (2, u "U"), (0, u "Ljdk/internal/misc/Unsafe;"), (8, u "BIG_ENDIAN"), (0, u "Z"), (8, u "LOG2_BYTE_BIT_SIZE"), (4, u "LOG2_ARRAY_INT_INDEX_SCALE"), (54, u "JLA"), (0, u "Ljdk/internal/access/JavaLangAccess;"), (11, u "LOG2_ARRAY_BOOLEAN_INDEX_SCALE"), (9, u "LOG2_ARRAY_BYTE_INDEX_SCALE"), (5, u "LOG2_ARRAY_CHAR_INDEX_SCALE"), (5, u "LOG2_ARRAY_SHORT_INDEX_SCALE"), (18, u "LOG2_ARRAY_FLOAT_INDEX_SCALE"), (24, u "LOG2_ARRAY_DOUBLE_INDEX_SCALE"), (89, u "T_BOOLEAN"), (2, u "T_CHAR"), (1, u "T_FLOAT"), (1, u "T_DOUBLE"), (1, u "T_BYTE"), (1, u "T_SHORT"), (1, u "T_INT"), (1, u "T_LONG"), (1, u "SOFT_MAX_ARRAY_LENGTH")] 83

def k15m0 : Method := { name := "<init>", desc := "()V", sig := { parameters := [], returnType := none }, accessFlags := 2, code := none }
/-- jdk/internal/util/ArraysSupport -/
def k15 : Class := { plain "jdk/internal/util/ArraysSupport" (some 0) with
  accessFlags := 33
  interfaces := #[]
  cf := some (fileOf pool15 21 #[] #[{ accessFlags := 2, nameIndex := 9, descriptorIndex := 19, attributes := #[] }] 33 16 #[] #[{ accessFlags := 24, nameIndex := 28, descriptorIndex := 29, attributes := #[] }, { accessFlags := 26, nameIndex := 38, descriptorIndex := 39, attributes := #[] }, { accessFlags := 25, nameIndex := 121, descriptorIndex := 25, attributes := #[] }, { accessFlags := 25, nameIndex := 131, descriptorIndex := 25, attributes := #[] }, { accessFlags := 25, nameIndex := 137, descriptorIndex := 25, attributes := #[] }, { accessFlags := 25, nameIndex := 143, descriptorIndex := 25, attributes := #[] }, { accessFlags := 25, nameIndex := 53, descriptorIndex := 25, attributes := #[] }, { accessFlags := 25, nameIndex := 24, descriptorIndex := 25, attributes := #[] }, { accessFlags := 25, nameIndex := 162, descriptorIndex := 25, attributes := #[] }, { accessFlags := 25, nameIndex := 187, descriptorIndex := 25, attributes := #[] }, { accessFlags := 26, nameIndex := 48, descriptorIndex := 25, attributes := #[] }, { accessFlags := 25, nameIndex := 277, descriptorIndex := 25, attributes := #[] }, { accessFlags := 25, nameIndex := 280, descriptorIndex := 25, attributes := #[] }, { accessFlags := 25, nameIndex := 282, descriptorIndex := 25, attributes := #[] }, { accessFlags := 25, nameIndex := 284, descriptorIndex := 25, attributes := #[] }, { accessFlags := 25, nameIndex := 286, descriptorIndex := 25, attributes := #[] }, { accessFlags := 25, nameIndex := 288, descriptorIndex := 25, attributes := #[] }, { accessFlags := 25, nameIndex := 290, descriptorIndex := 25, attributes := #[] }, { accessFlags := 25, nameIndex := 292, descriptorIndex := 25, attributes := #[] }, { accessFlags := 26, nameIndex := 108, descriptorIndex := 109, attributes := #[] }, { accessFlags := 25, nameIndex := 294, descriptorIndex := 25, attributes := #[] }])
  fields := #[{ name := "U", type := (.object "jdk/internal/misc/Unsafe"), accessFlags := 24, slot := 0, constantValue := 0 }, { name := "BIG_ENDIAN", type := .boolean, accessFlags := 26, slot := 1, constantValue := 0 }, { name := "LOG2_ARRAY_BOOLEAN_INDEX_SCALE", type := .int, accessFlags := 25, slot := 2, constantValue := 0 }, { name := "LOG2_ARRAY_BYTE_INDEX_SCALE", type := .int, accessFlags := 25, slot := 3, constantValue := 0 }, { name := "LOG2_ARRAY_CHAR_INDEX_SCALE", type := .int, accessFlags := 25, slot := 4, constantValue := 0 }, { name := "LOG2_ARRAY_SHORT_INDEX_SCALE", type := .int, accessFlags := 25, slot := 5, constantValue := 0 }, { name := "LOG2_ARRAY_INT_INDEX_SCALE", type := .int, accessFlags := 25, slot := 6, constantValue := 0 }, { name := "LOG2_ARRAY_LONG_INDEX_SCALE", type := .int, accessFlags := 25, slot := 7, constantValue := 0 }, { name := "LOG2_ARRAY_FLOAT_INDEX_SCALE", type := .int, accessFlags := 25, slot := 8, constantValue := 0 }, { name := "LOG2_ARRAY_DOUBLE_INDEX_SCALE", type := .int, accessFlags := 25, slot := 9, constantValue := 0 }, { name := "LOG2_BYTE_BIT_SIZE", type := .int, accessFlags := 26, slot := 10, constantValue := 0 }, { name := "T_BOOLEAN", type := .int, accessFlags := 25, slot := 11, constantValue := 0 }, { name := "T_CHAR", type := .int, accessFlags := 25, slot := 12, constantValue := 0 }, { name := "T_FLOAT", type := .int, accessFlags := 25, slot := 13, constantValue := 0 }, { name := "T_DOUBLE", type := .int, accessFlags := 25, slot := 14, constantValue := 0 }, { name := "T_BYTE", type := .int, accessFlags := 25, slot := 15, constantValue := 0 }, { name := "T_SHORT", type := .int, accessFlags := 25, slot := 16, constantValue := 0 }, { name := "T_INT", type := .int, accessFlags := 25, slot := 17, constantValue := 0 }, { name := "T_LONG", type := .int, accessFlags := 25, slot := 18, constantValue := 0 }, { name := "JLA", type := (.object "jdk/internal/access/JavaLangAccess"), accessFlags := 26, slot := 19, constantValue := 0 }, { name := "SOFT_MAX_ARRAY_LENGTH", type := .int, accessFlags := 25, slot := 20, constantValue := 0 }]
  methods := #[k15m0]
  instanceTypes := #[]
  staticTypes := #[(.object "jdk/internal/misc/Unsafe"), .boolean, .int, .int, .int, .int, .int, .int, .int, .int, .int, .int, .int, .int, .int, .int, .int, .int, .int, (.object "jdk/internal/access/JavaLangAccess"), .int]
  resolved := Array.replicate 378 none
  statics := none }

def pool16 : Array CpInfo := pool [(1, u "java/lang/Cloneable"), (0, .class_ 1), (0, u "java/lang/Object"), (0, .class_ 3)] 3

/-- java/lang/Cloneable -/
def k16 : Class := { plain "java/lang/Cloneable" (some 0) with
  accessFlags := 1537
  interfaces := #[]
  cf := some (fileOf pool16 2 #[] #[] 1537 4 #[] #[])
  fields := #[]
  methods := #[]
  instanceTypes := #[]
  staticTypes := #[]
  resolved := Array.replicate 8 none
  statics := none }

/-- the primitive byte -/
def k17 : Class := { plain "byte" none with kind := .primitive 'B', accessFlags := 0x411 }
/-- [B -/
def k18 : Class := { plain "[B" (some 0) with kind := .array 17 .byte, interfaces := #[16, 2], accessFlags := 1041 }

/-- the primitive char -/
def k19 : Class := { plain "char" none with kind := .primitive 'C', accessFlags := 0x411 }
/-- [C -/
def k20 : Class := { plain "[C" (some 0) with kind := .array 19 .char, interfaces := #[16, 2], accessFlags := 1041 }

/-- the primitive int -/
def k21 : Class := { plain "int" none with kind := .primitive 'I', accessFlags := 0x411 }
/-- [I -/
def k22 : Class := { plain "[I" (some 0) with kind := .array 21 .int, interfaces := #[16, 2], accessFlags := 1041 }

def heap : Heap := #[{ cls := 7, slots := #[.long 0, .int 1, .null, .int 0, .null, .int 0, .int 0], vm := .statics 7 },
  { cls := 14, slots := #[.null, .null, .null], vm := .statics 14 }]
def classes : Array Class := #[k0, k1, k2, k3, k4, k5, k6, k7, k8, k9, k10, k11, k12, k13, k14, k15, k16, k17, k18, k19, k20, k21, k22]
def interned : List (Array UInt16 × Addr) := []
def slotsUsed : Nat := 10
def theMethod : MethodId := ⟨1, 3⟩
def args0 : Array Value := #[.int 5, .int 6, .int 8]
def aboutOver (below : List Frame) : State where
  vm := { classes := classes, interned := interned.toArray }
  heap := heap
  slotsUsed := slotsUsed
  threads := #[{ frames := .invoking theMethod args0 :: below }]
def below0 : List Frame := [.native { method := ⟨0, 0⟩, args := #[] }]
def about1 : State := aboutOver below0
def p0 : Program := .bare "" "" ""
def e0 : Env := launch0.env 0 0 0
theorem w_frames : about1.frames = Frame.invoking theMethod args0 :: below0 := rfl
set_option maxRecDepth 65536 in
theorem w_args : argsFit about1.vm theMethod args0 = true := by decide +kernel
set_option maxRecDepth 65536 in
theorem w_heap : heapFits about1 = true := by decide +kernel
set_option maxRecDepth 65536 in
theorem w_runnable : about1.curStatus? = some .runnable := by decide +kernel
set_option maxRecDepth 65536 in
theorem w_alone : about1.alone = true := by decide +kernel
set_option maxRecDepth 65536 in
theorem w_named : about1.methodNamed? x = some theMethod := by decide +kernel
set_option maxRecDepth 65536 in
theorem w_hears : about1.hears theMethod below0 = true := by decide +kernel
set_option maxRecDepth 65536 in
theorem w_ripe : about1.ripe theMethod args0 below0 = true := by decide +kernel
theorem w_running : about1.status = .running := rfl
set_option maxRecDepth 65536 in
theorem w_room : about1.hasRoom e0.platform room_1 = true :=
  launch0.hasRoom_least _ room_1 (by decide +kernel) (by decide +kernel) (by decide +kernel) (by decide +kernel) (by decide +kernel) (by decide +kernel)
theorem allAtoms_all (ts : List Jvm.Cond) (a : Array Jvm.Value) (st : Jvm.State) : (allAtoms ts).before a st = ts.all (fun c => c.before a st) := by
  induction ts with
  | nil => rfl
  | cons c t ih =>
    show (Jvm.Cond.and c (allAtoms t)).before a st = _
    rw [Jvm.Cond.before_and, ih, List.all_cons]
def words1 : List Jvm.Cond := Jvm.Cond.code x code maxLocals ret :: tables_1
/-- a 'code' word, met by the world's own term for the bytes: nothing is compared byte by byte -/
theorem code_word {y : MethodName} {bytes : ByteArray} {mx : Nat} {rt : Option FieldType} {a : Array Value} {s : State} {m : MethodId} {meth : Method} {c : Code} (h1 : s.methodNamed? y = some m) (h2 : s.vm.method? m = some meth) (h3 : meth.code = some c) (h4 : c.code = bytes)
    (h5 : (c.maxLocals == mx && c.exceptionTable.isEmpty && decide (c.maxStack ≤ mostOperands) && decide (meth.sig.returnType = rt) && !meth.locks && decide (parseMethodDescriptor y.desc = some meth.sig)) = true) : (Jvm.Cond.code y bytes mx rt).before a s = true := by
  simp only [Bool.and_eq_true, beq_iff_eq, Bool.not_eq_true', decide_eq_true_eq] at h5
  obtain ⟨⟨⟨⟨⟨g1, g2⟩, g3⟩, g4⟩, g5⟩, g6⟩ := h5
  simp [Cond.before, Cond.holds, Cond.value, h1, h2, h3, h4, g1, g2, g3, g4, g5, g6]
def isCode : Jvm.Cond → Bool
  | .code _ _ _ _ => true
  | _ => false
theorem all_split {L : List Jvm.Cond} {P : Jvm.Cond → Bool} (h1 : L.all (fun c => isCode c || P c) = true) (h2 : ∀ c ∈ L.filter isCode, P c = true) : L.all P = true := by
  refine List.all_eq_true.mpr fun c hc => ?_
  have h := List.all_eq_true.mp h1 c hc
  rcases Bool.eq_false_or_eq_true (isCode c) with hi | hi
  · exact h2 c (List.mem_filter.mpr ⟨hc, hi⟩)
  · simpa [hi] using h
set_option maxRecDepth 65536 in
theorem w_c0 : (Jvm.Cond.code x code maxLocals ret).before args0 about1 = true := code_word (m := ⟨1, 3⟩) (meth := k1m3) (c := k1c3) (by decide +kernel) rfl rfl rfl (by decide +kernel)
set_option maxRecDepth 65536 in
theorem w_c1 : (Jvm.Cond.code ({ cls := "com/example/postings/postings/search/PhraseEqualsPinLaw", name := "mk", desc := "(II)Ljava/lang/String;" } : Jvm.MethodName) method_3_code (2 : Nat) (Option.some (Jvm.ClassFile.FieldType.object "java/lang/String"))).before args0 about1 = true := code_word (m := ⟨1, 2⟩) (meth := k1m2) (c := k1c2) (by decide +kernel) rfl rfl rfl (by decide +kernel)
set_option maxRecDepth 65536 in
theorem w_c2 : (Jvm.Cond.code ({ cls := "java/lang/String", name := "<init>", desc := "([C)V" } : Jvm.MethodName) jdk_42_method_3_code (2 : Nat) (Option.none : Option Jvm.ClassFile.FieldType)).before args0 about1 = true := code_word (m := ⟨7, 1⟩) (meth := k7m1) (c := k7c1) (by decide +kernel) rfl rfl rfl (by decide +kernel)
set_option maxRecDepth 65536 in
theorem w_c3 : (Jvm.Cond.code ({ cls := "java/lang/String", name := "<init>", desc := "([CIILjava/lang/Void;)V" } : Jvm.MethodName) jdk_42_method_149_code (6 : Nat) (Option.none : Option Jvm.ClassFile.FieldType)).before args0 about1 = true := code_word (m := ⟨7, 3⟩) (meth := k7m3) (c := k7c3) (by decide +kernel) rfl rfl rfl (by decide +kernel)
set_option maxRecDepth 65536 in
theorem w_c4 : (Jvm.Cond.code ({ cls := "java/lang/Object", name := "<init>", desc := "()V" } : Jvm.MethodName) object_method_1_code (1 : Nat) (Option.none : Option Jvm.ClassFile.FieldType)).before args0 about1 = true := code_word (m := ⟨0, 0⟩) (meth := k0m0) (c := k0c0) (by decide +kernel) rfl rfl rfl (by decide +kernel)
set_option maxRecDepth 65536 in
theorem w_c5 : (Jvm.Cond.code ({ cls := "com/example/postings/postings/search/Phrase", name := "<init>", desc := "(Ljava/lang/String;)V" } : Jvm.MethodName) prog_33_method_1_code (2 : Nat) (Option.none : Option Jvm.ClassFile.FieldType)).before args0 about1 = true := code_word (m := ⟨9, 0⟩) (meth := k9m0) (c := k9c0) (by decide +kernel) rfl rfl rfl (by decide +kernel)
set_option maxRecDepth 65536 in
theorem w_c6 : (Jvm.Cond.code ({ cls := "com/example/postings/postings/search/Query", name := "<init>", desc := "()V" } : Jvm.MethodName) prog_37_method_1_code (1 : Nat) (Option.none : Option Jvm.ClassFile.FieldType)).before args0 about1 = true := code_word (m := ⟨8, 0⟩) (meth := k8m0) (c := k8c0) (by decide +kernel) rfl rfl rfl (by decide +kernel)
set_option maxRecDepth 65536 in
theorem w_c7 : (Jvm.Cond.code ({ cls := "java/util/Objects", name := "requireNonNull", desc := "(Ljava/lang/Object;Ljava/lang/String;)Ljava/lang/Object;" } : Jvm.MethodName) jdk_31_method_11_code (2 : Nat) (Option.some (Jvm.ClassFile.FieldType.object "java/lang/Object"))).before args0 about1 = true := code_word (m := ⟨10, 1⟩) (meth := k10m1) (c := k10c1) (by decide +kernel) rfl rfl rfl (by decide +kernel)
set_option maxRecDepth 65536 in
theorem w_c8 : (Jvm.Cond.code ({ cls := "com/example/postings/postings/search/Phrase", name := "equals", desc := "(Ljava/lang/Object;)Z" } : Jvm.MethodName) prog_33_method_4_code (3 : Nat) (Option.some Jvm.ClassFile.FieldType.boolean)).before args0 about1 = true := code_word (m := ⟨9, 1⟩) (meth := k9m1) (c := k9c1) (by decide +kernel) rfl rfl rfl (by decide +kernel)
set_option maxRecDepth 65536 in
theorem w_c9 : (Jvm.Cond.code ({ cls := "java/lang/String", name := "equals", desc := "(Ljava/lang/Object;)Z" } : Jvm.MethodName) jdk_42_method_66_code (3 : Nat) (Option.some Jvm.ClassFile.FieldType.boolean)).before args0 about1 = true := code_word (m := ⟨7, 2⟩) (meth := k7m2) (c := k7c2) (by decide +kernel) rfl rfl rfl (by decide +kernel)
set_option maxRecDepth 65536 in
theorem w_c10 : (Jvm.Cond.code ({ cls := "com/example/postings/postings/search/PhraseEqualsPinLaw", name := "ch", desc := "(II)C" } : Jvm.MethodName) method_2_code (2 : Nat) (Option.some Jvm.ClassFile.FieldType.char)).before args0 about1 = true := code_word (m := ⟨1, 1⟩) (meth := k1m1) (c := k1c1) (by decide +kernel) rfl rfl rfl (by decide +kernel)
set_option maxRecDepth 65536 in
theorem w_c11 : (Jvm.Cond.code ({ cls := "java/lang/StringUTF16", name := "compress", desc := "([CII)[B" } : Jvm.MethodName) jdk_52_method_16_code (6 : Nat) (Option.some (Jvm.ClassFile.FieldType.array Jvm.ClassFile.FieldType.byte))).before args0 about1 = true := code_word (m := ⟨11, 2⟩) (meth := k11m2) (c := k11c2) (by decide +kernel) rfl rfl rfl (by decide +kernel)
set_option maxRecDepth 65536 in
theorem w_c12 : (Jvm.Cond.code ({ cls := "java/lang/StringUTF16", name := "compress", desc := "([CI[BII)I" } : Jvm.MethodName) jdk_52_method_21_code (7 : Nat) (Option.some Jvm.ClassFile.FieldType.int)).before args0 about1 = true := code_word (m := ⟨11, 3⟩) (meth := k11m3) (c := k11c3) (by decide +kernel) rfl rfl rfl (by decide +kernel)
set_option maxRecDepth 65536 in
theorem w_c13 : (Jvm.Cond.code ({ cls := "java/lang/StringUTF16", name := "coderFromArrayLen", desc := "([BI)B" } : Jvm.MethodName) jdk_52_method_15_code (2 : Nat) (Option.some Jvm.ClassFile.FieldType.byte)).before args0 about1 = true := code_word (m := ⟨11, 1⟩) (meth := k11m1) (c := k11c1) (by decide +kernel) rfl rfl rfl (by decide +kernel)
set_option maxRecDepth 65536 in
theorem w_c14 : (Jvm.Cond.code ({ cls := "com/example/postings/postings/search/Words", name := "<init>", desc := "(Ljava/lang/String;)V" } : Jvm.MethodName) prog_44_method_1_code (2 : Nat) (Option.none : Option Jvm.ClassFile.FieldType)).before args0 about1 = true := code_word (m := ⟨12, 0⟩) (meth := k12m0) (c := k12c0) (by decide +kernel) rfl rfl rfl (by decide +kernel)
set_option maxRecDepth 65536 in
theorem w_c15 : (Jvm.Cond.code ({ cls := "java/lang/StringLatin1", name := "equals", desc := "([B[B)Z" } : Jvm.MethodName) jdk_43_method_13_code (3 : Nat) (Option.some Jvm.ClassFile.FieldType.boolean)).before args0 about1 = true := code_word (m := ⟨13, 1⟩) (meth := k13m1) (c := k13c1) (by decide +kernel) rfl rfl rfl (by decide +kernel)
def codes1 : List Jvm.Cond := [Jvm.Cond.code x code maxLocals ret, Jvm.Cond.code ({ cls := "com/example/postings/postings/search/PhraseEqualsPinLaw", name := "mk", desc := "(II)Ljava/lang/String;" } : Jvm.MethodName) method_3_code (2 : Nat) (Option.some (Jvm.ClassFile.FieldType.object "java/lang/String")), Jvm.Cond.code ({ cls := "java/lang/String", name := "<init>", desc := "([C)V" } : Jvm.MethodName) jdk_42_method_3_code (2 : Nat) (Option.none : Option Jvm.ClassFile.FieldType), Jvm.Cond.code ({ cls := "java/lang/String", name := "<init>", desc := "([CIILjava/lang/Void;)V" } : Jvm.MethodName) jdk_42_method_149_code (6 : Nat) (Option.none : Option Jvm.ClassFile.FieldType), Jvm.Cond.code ({ cls := "java/lang/Object", name := "<init>", desc := "()V" } : Jvm.MethodName) object_method_1_code (1 : Nat) (Option.none : Option Jvm.ClassFile.FieldType), Jvm.Cond.code ({ cls := "com/example/postings/postings/search/Phrase", name := "<init>", desc := "(Ljava/lang/String;)V" } : Jvm.MethodName) prog_33_method_1_code (2 : Nat) (Option.none : Option Jvm.ClassFile.FieldType), Jvm.Cond.code ({ cls := "com/example/postings/postings/search/Query", name := "<init>", desc := "()V" } : Jvm.MethodName) prog_37_method_1_code (1 : Nat) (Option.none : Option Jvm.ClassFile.FieldType), Jvm.Cond.code ({ cls := "java/util/Objects", name := "requireNonNull", desc := "(Ljava/lang/Object;Ljava/lang/String;)Ljava/lang/Object;" } : Jvm.MethodName) jdk_31_method_11_code (2 : Nat) (Option.some (Jvm.ClassFile.FieldType.object "java/lang/Object")), Jvm.Cond.code ({ cls := "com/example/postings/postings/search/Phrase", name := "equals", desc := "(Ljava/lang/Object;)Z" } : Jvm.MethodName) prog_33_method_4_code (3 : Nat) (Option.some Jvm.ClassFile.FieldType.boolean), Jvm.Cond.code ({ cls := "java/lang/String", name := "equals", desc := "(Ljava/lang/Object;)Z" } : Jvm.MethodName) jdk_42_method_66_code (3 : Nat) (Option.some Jvm.ClassFile.FieldType.boolean), Jvm.Cond.code ({ cls := "com/example/postings/postings/search/PhraseEqualsPinLaw", name := "ch", desc := "(II)C" } : Jvm.MethodName) method_2_code (2 : Nat) (Option.some Jvm.ClassFile.FieldType.char), Jvm.Cond.code ({ cls := "java/lang/StringUTF16", name := "compress", desc := "([CII)[B" } : Jvm.MethodName) jdk_52_method_16_code (6 : Nat) (Option.some (Jvm.ClassFile.FieldType.array Jvm.ClassFile.FieldType.byte)), Jvm.Cond.code ({ cls := "java/lang/StringUTF16", name := "compress", desc := "([CI[BII)I" } : Jvm.MethodName) jdk_52_method_21_code (7 : Nat) (Option.some Jvm.ClassFile.FieldType.int), Jvm.Cond.code ({ cls := "java/lang/StringUTF16", name := "coderFromArrayLen", desc := "([BI)B" } : Jvm.MethodName) jdk_52_method_15_code (2 : Nat) (Option.some Jvm.ClassFile.FieldType.byte), Jvm.Cond.code ({ cls := "com/example/postings/postings/search/Words", name := "<init>", desc := "(Ljava/lang/String;)V" } : Jvm.MethodName) prog_44_method_1_code (2 : Nat) (Option.none : Option Jvm.ClassFile.FieldType), Jvm.Cond.code ({ cls := "java/lang/StringLatin1", name := "equals", desc := "([B[B)Z" } : Jvm.MethodName) jdk_43_method_13_code (3 : Nat) (Option.some Jvm.ClassFile.FieldType.boolean)]
set_option maxRecDepth 65536 in
theorem codes_eq : words1.filter isCode = codes1 := rfl
theorem w_codes : ∀ c ∈ words1.filter isCode, c.before args0 about1 = true := by
  rw [codes_eq]
  intro c hc
  simp only [codes1, List.mem_cons, List.not_mem_nil, or_false] at hc
  rcases hc with rfl | rfl | rfl | rfl | rfl | rfl | rfl | rfl | rfl | rfl | rfl | rfl | rfl | rfl | rfl | rfl
  · exact w_c0
  · exact w_c1
  · exact w_c2
  · exact w_c3
  · exact w_c4
  · exact w_c5
  · exact w_c6
  · exact w_c7
  · exact w_c8
  · exact w_c9
  · exact w_c10
  · exact w_c11
  · exact w_c12
  · exact w_c13
  · exact w_c14
  · exact w_c15
set_option maxRecDepth 65536 in
theorem w_t1 : (words1.take 24).all (fun c => isCode c || c.before args0 about1) = true := by decide +kernel
set_option maxRecDepth 65536 in
theorem w_t2 : ((words1.drop 24).take 24).all (fun c => isCode c || c.before args0 about1) = true := by decide +kernel
set_option maxRecDepth 65536 in
theorem w_t3 : (((words1.drop 24).drop 24).take 24).all (fun c => isCode c || c.before args0 about1) = true := by decide +kernel
set_option maxRecDepth 65536 in
theorem w_t4 : (((words1.drop 24).drop 24).drop 24).all (fun c => isCode c || c.before args0 about1) = true := by decide +kernel
theorem w_tables : (allAtoms (Jvm.Cond.code x code maxLocals ret :: tables_1)).before args0 about1 = true := by
  rw [allAtoms_all]
  show words1.all (fun c => c.before args0 about1) = true
  refine all_split ?_ w_codes
  rw [← List.take_append_drop 24 words1, List.all_append, w_t1, ← List.take_append_drop 24 (words1.drop 24), List.all_append, w_t2, ← List.take_append_drop 24 ((words1.drop 24).drop 24), List.all_append, w_t3, w_t4]
  rfl
set_option maxRecDepth 65536 in
theorem w_rest : rest_1_c.before args0 about1 = true := by decide +kernel
set_option maxRecDepth 65536 in
theorem w_case : (Jvm.Cond.and given_1 narrow_1).before args0 about1 = true := by decide +kernel
set_option maxRecDepth 65536 in
theorem w_consts : constsHeld consts_1 about1 := Jvm.Lit.constsHeldB_iff.mp (by decide +kernel)
theorem w_applies : (headSpec (Jvm.Cond.code x code maxLocals ret :: tables_1) room_1).applies x e0.platform about1 = true :=
  (Spec.applies_iff w_frames).mpr ⟨w_running, w_runnable, w_alone, w_named, w_hears, w_ripe, w_room, w_tables⟩
theorem atStart : AtStart classFile x code maxLocals ret World_1 tables_1 room_1 Calls_1 rest_1 Pre_1 launch0 p0 e0 about1 theMethod args0 below0 :=
  ⟨lists_1, trivial, launch0.admits_env _ _ _, launch0.least_env, fairChoices_fair.cas, fairChoices_fair.clock, w_frames, w_args, w_heap, w_applies, ⟨w_consts, trivial⟩, w_rest, w_case⟩
end start1
theorem witness_1 : WitnessClaimed_1 := ⟨start1.p0, start1.e0, start1.about1, start1.theMethod, start1.args0, start1.below0, start1.atStart⟩
end Jvm.Pilot.@@N@@
