import JvmDerived
import JvmDerived.Pilot.@@N@@Statement
import JvmDerived.Pilot.@@N@@Code
set_option linter.unusedVariables false
set_option linter.unusedSimpArgs false
namespace Jvm.RoadKit
open Sem ClassFile Op Lib Jvm.Stand Jvm.Free Jvm.LawKit
section New
variable {p : Program} {l : Launch} {e : Env} {R : Room} {s : State} {m : MethodId} {args : Array Value} {below : List Frame} {meth : Method} {c : Code} {T : State} {locs : List Loc} {cells slots : Nat}
theorem retI (X : Stand p l e R s m args below meth c T locs cells slots) (hx : p.tables.exec = Jvm.exec) {pc : Nat} {Ls : Array Slot} {z : Int32} {rest : List Value} (hret : meth.sig.returnType = some .int) (hd : decode c.code pc = .ok (.ireturn, 1)) {fs : List Frame}
    (hl : ∀ (f : JFrame) (acts : List Action), f.method = m → f.locked = none → f.entered = [] → (doReturn e (T.setTop f) acts (some (.int z))).1 = T.setFrames fs) : Steps p.tables e below (T.setTop (mkF m pc Ls (.int z :: rest))) (T.setFrames fs) := by
  have hm' : T.vm.method? m = some meth := X.method'
  have hn : narrow .int (.int z) = .int z := rfl
  show Steps p.tables e below (T.setTop { method := m, pc := pc, locals := Ls, stack := _ :: rest, locked := none }) _
  jvm_step X.here [X.here.top, hx, hd, hm', hret, hn]
  first | (intro acts; rw [hl _ acts rfl rfl rfl]) | rw [hl _ _ rfl rfl rfl]
  exact Steps.refl _
/-- from the state T with the frame g on top the run ends, returned, with Q -/
def own_Go (tb : Tables) (e : Env) (below : List Frame) (Q : Option Value → Heap → List Loc → Prop) (s : State) (C S : Nat) (T : State) (g : JFrame) : Prop :=
  ∃ t o, Steps tb e below (T.setTop g) t ∧ t.status = .running ∧ Ended t below o ∧ ∃ v L, o = .returned v ∧ Q v t.heap L ∧ FrameEnd s o t L C S
theorem own_by {tb : Tables} {Q : Option Value → Heap → List Loc → Prop} {C S : Nat} {T T' : State} {g g' : JFrame} (st : ∀ target, Steps tb e below (T'.setTop g') target → Steps tb e below (T.setTop g) target) (k : own_Go tb e below Q s C S T' g') : own_Go tb e below Q s C S T g := by
  obtain ⟨t, o, h1, h2⟩ := k
  exact ⟨t, o, st t h1, h2⟩
theorem bN {tb : Tables} {Q : Option Value → Heap → List Loc → Prop} {C S : Nat} {T : State} {g : JFrame} (T' : State) (g' : JFrame) (st : ∀ target, Steps tb e below (T'.setTop g') target → Steps tb e below (T.setTop g) target) (k : own_Go tb e below Q s C S T' g') : own_Go tb e below Q s C S T g := own_by st k
/-- the contract of a body: from the heap h0, with the arguments A, it returns, with Q -/
abbrev own_M (l : Launch) (y : MethodName) (code : ByteArray) (ml : Nat) (rt : Option FieldType) (ws : List Cond) (R : Room) (Z : State) (A : Array Value) (h0 : Heap) (Q : Option Value → Heap → List Loc → Prop) : Prop :=
  MetFree l y (head1 (Cond.code y code ml rt :: ws) R) (fun a U => a = A ∧ Z.Warmed39 U.vm ∧ U.heap = h0) (fun _ _ _ _ _ => True) (fun _ U o U' => ∃ v L, o = .returned v ∧ Q v U'.heap L ∧ FrameEnd U o U' L R.cells R.slots)
theorem own_bd {y : MethodName} {code : ByteArray} {ml : Nat} {rt : Option FieldType} {ws : List Cond} {Z : State} {A : Array Value} {h0 : Heap} {Q : Option Value → Heap → List Loc → Prop} (hpl : plainFor y = true)
    (k : ∀ p e s m below meth c s₁, BodyLoose p l y (head1 (Cond.code y code ml rt :: ws) R) code ml rt e s m A below meth c s₁ → p.tables.exec = Jvm.exec → c.code = code → c.maxLocals = ml → s.vm.findClass y.cls = some m.cls → meth.name = y.name → meth.locks = false → Z.Warmed39 s.vm → Stand p l e R s m A below meth c s₁ [] 0 0 → s₁.heap = h0 → own_Go p.tables e below Q s R.cells R.slots s₁ (entryFrame m A ml)) : own_M l y code ml rt ws R Z A h0 Q := by
  refine MetFree.of_bodySF hpl hisR ?_
  intro p e s m args below meth c s₁ Bd hml hP hK
  obtain ⟨rfl, hZ, hh⟩ := hP
  exact k p e s m below meth c s₁ Bd Bd.exec Bd.bytes hml (findClass_of_methodNamed Bd.named) (name_of_methodNamed Bd.named Bd.method).1 Bd.notSynchronized hZ (Stand.of_body Bd) (by rw [← hh, Bd.state]; rfl)
theorem own_ret {Q : Option Value → Heap → List Loc → Prop} {C S : Nat} {g : JFrame} (X : Stand p l e R s m args below meth c T locs cells slots) (hlk : meth.locks = false) {v : Option Value} (hv : meth.sig.returnType = none → v = none)
    (st : ∀ fs, (∀ (f : JFrame) (acts : List Action), f.method = m → f.locked = none → f.entered = [] → (doReturn e (T.setTop f) acts v).1 = T.setFrames fs) → Steps p.tables e below (T.setTop g) (T.setFrames fs))
    (hq : Q v T.heap locs) (hc : cells ≤ C) (hs : slots ≤ S) : own_Go p.tables e below Q s C S T g := by
  obtain ⟨fs, hr, hrun, hended, hW, hsame⟩ := X.leave (v := v) hv hlk
  exact ⟨_, _, st fs hr, hrun, hended, v, locs, rfl, hq, ⟨v, rfl⟩, hW, hsame.mono hc hs⟩
end New
section Wide
variable {p : Program} {l : Launch} {e : Env} {R : Room} {s : State} {m : MethodId} {args : Array Value} {below : List Frame} {meth : Method} {c : Code} {T Z : State} {locs : List Loc} {cells slots : Nat} {a0 : Array Value} {h : Heap} {EL : List (String × Nat)} {vm0 : Vm}
/-- as own_Go, of a run that may intern -/
def own_GoW (tb : Tables) (e : Env) (below : List Frame) (Z : State) (EL : List (String × Nat)) (Q : Option Value → Heap → List Loc → Prop) (s : State) (C S : Nat) (T : State) (g : JFrame) : Prop :=
  ∃ t o, Steps tb e below (T.setTop g) t ∧ t.status = .running ∧ Ended t below o ∧ ∃ v L, o = .returned v ∧ Q v t.heap L ∧ CHr Z EL s.vm s.heap t.vm t.heap ∧ ReturnedEndW s o t L C S
theorem own_byW {tb : Tables} {Q : Option Value → Heap → List Loc → Prop} {C S : Nat} {T T' : State} {g g' : JFrame} (st : ∀ target, Steps tb e below (T'.setTop g') target → Steps tb e below (T.setTop g) target) (k : own_GoW tb e below Z EL Q s C S T' g') : own_GoW tb e below Z EL Q s C S T g := by
  obtain ⟨t, o, h1, h2⟩ := k
  exact ⟨t, o, st t h1, h2⟩
theorem bW {tb : Tables} {Q : Option Value → Heap → List Loc → Prop} {C S : Nat} {T : State} {g : JFrame} (T' : State) (g' : JFrame) (st : ∀ target, Steps tb e below (T'.setTop g') target → Steps tb e below (T.setTop g) target) (k : own_GoW tb e below Z EL Q s C S T' g') : own_GoW tb e below Z EL Q s C S T g := own_byW st k
theorem own_retW {Q : Option Value → Heap → List Loc → Prop} {C S : Nat} {g : JFrame} {vm1 : Vm} {n : Nat} (X : Stand p l e R (s.setVm vm1) m args below meth c T locs cells slots) (hlk : meth.locks = false) (hS : s.Since vm1 n) (hn : n ≤ T.heap.size) (hZ : Z.Warmed39 vm1) (hEL : EW Z a0 EL) (hC : CHr Z EL s.vm s.heap vm1 h) (eT : T.heap = h) {v : Option Value} (hv : meth.sig.returnType = none → v = none)
    (st : ∀ fs, (∀ (f : JFrame) (acts : List Action), f.method = m → f.locked = none → f.entered = [] → (doReturn e (T.setTop f) acts v).1 = T.setFrames fs) → Steps p.tables e below (T.setTop g) (T.setFrames fs))
    (hq : Q v T.heap locs) (hc : cells ≤ C) (hs : slots ≤ S) : own_GoW p.tables e below Z EL Q s C S T g := by
  obtain ⟨fs, hr, hrun, hended, q1, q2, q3, q4⟩ := X.leaveW hS hn (v := v) hv hlk
  subst eT
  have q5 : CHr Z EL s.vm s.heap T.vm T.heap := hC.trans (CHv.at X hZ hEL hC.1)
  exact ⟨_, _, st fs hr, hrun, hended, v, locs, rfl, hq, q5, q1, q2, q3, q4.mono hc hs⟩
theorem own_backSH {y : MethodName} {bytes : ByteArray} {maxL : Nat} {ret : Option FieldType} {rm : Room} {len W : Nat} {as' : Array Value} {VP : Vm → Prop} {Q : Option Value → Heap → List Loc → Prop}
    (hM : MetFree l y (head1 [Cond.code y bytes maxL ret] rm) (fun a U => a = as' ∧ Z.Warmed39 U.vm ∧ U.heap = h ∧ CHv Z EL U.vm h ∧ VP U.vm) (fun _ _ _ _ _ => True) (fun _ U o U' => ∃ v L, o = .returned v ∧ Q v U'.heap L ∧ CHr Z EL U.vm U.heap U'.vm U'.heap ∧ ReturnedEndW U o U' L rm.cells rm.slots))
    (hZ : Z.Warmed39 vm0) (wc : (Cond.code y bytes maxL ret).before a0 Z = true) (wz : (Cond.initialized y.cls).before a0 Z = true) (hf : rm.frames + 1 ≤ R.frames) (hl : W + (maxL + 11) + rm.locals ≤ R.locals) (hEL : EW Z a0 EL) (H : CHv Z EL vm0 h) (hVP : ∀ vm, CHr Z EL vm0 h vm h → VP vm) :
    BackS l R p e below (s.setVm vm0) args y len W (fun A a => a = as' ∧ A.U.heap = h ∧ A.cells + rm.cells ≤ R.cells ∧ A.slots + rm.slots ≤ R.slots)
      (fun A _ v B => ∃ L, Q v B.U.heap L ∧ B.locs = A.locs ++ L ∧ B.cells = A.cells + rm.cells ∧ B.slots = A.slots + rm.slots ∧ CHr Z EL vm0 h B.U.vm B.U.heap) :=
  BackS.of_freeW (bytes := bytes) (maxL := maxL) (ret := ret) (E := fun _ first o t L k n => k = rm.cells ∧ n = rm.slots ∧ (∃ v, o = .returned v ∧ Q v t.heap L) ∧ CHr Z EL first.vm first.heap t.vm t.heap) hM hf hl
    (fun m meth c A a Y hp => have hU : Z.Warmed39 A.U.vm := wtrans (s := s.setVm vm0) hZ Y.warmed
      ⟨by show (Cond.and _ .tt).before a A.U = true; rw [Cond.before_and, mv hU wc]; rfl, mv hU wc, mv hU wz, hp.2.2.1, hp.2.2.2⟩)
    (fun m meth c A a g mk Y hp => have q : CHr Z EL vm0 h A.U.vm h := CHv.at Y hZ hEL H
      ⟨hp.1, wtrans (s := s.setVm vm0) hZ Y.warmed, hp.2.1, q.1, hVP A.U.vm q⟩) (fun _ _ _ _ _ _ _ _ _ => trivial)
    (fun _ _ _ _ ⟨v, L, h1, h2, h3, h4⟩ => ⟨L, _, _, h4, rfl, rfl, ⟨v, h1, h2⟩, h3⟩)
    (fun m meth c A a g mk v t L k n Y hp _ _ ⟨e1, e2, ⟨v', e3, e4⟩, e5⟩ => by
      cases e3; subst e1 e2
      refine ⟨L, e4, rfl, rfl, rfl, (CHv.at Y hZ hEL H).trans ?_⟩
      rw [← hp.2.1]; exact e5)
end Wide
end Jvm.RoadKit
namespace Jvm.Pilot.@@N@@
open Jvm Jvm.ClassFile Sem Op Lib Jvm.Free Jvm.Stand Jvm.LawKit Jvm.RoadKit Bundle Jvm.Pilot.@@N@@.Jvm.D
theorem pd_0 : parseMethodDescriptor "([CI[BII)I" = some ⟨[(.array .char), .int, (.array .byte), .int, .int], some .int⟩ := by decide +kernel
theorem pd_1 : parseMethodDescriptor "([CII)[B" = some ⟨[(.array .char), .int, .int], some (.array .byte)⟩ := by decide +kernel
theorem pd_2 : parseMethodDescriptor "([BI)B" = some ⟨[(.array .byte), .int], some .byte⟩ := by decide +kernel
theorem pd_3 : parseMethodDescriptor "([CIILjava/lang/Void;)V" = some ⟨[(.array .char), .int, .int, (.object "java/lang/Void")], none⟩ := by decide +kernel
theorem pd_4 : parseMethodDescriptor "([C)V" = some ⟨[(.array .char)], none⟩ := by decide +kernel
theorem pd_5 : parseMethodDescriptor "()V" = some ⟨[], none⟩ := by decide +kernel
theorem pd_6 : parseMethodDescriptor "(Ljava/lang/Object;Ljava/lang/String;)Ljava/lang/Object;" = some ⟨[(.object "java/lang/Object"), (.object "java/lang/String")], some (.object "java/lang/Object")⟩ := by decide +kernel
theorem pd_7 : parseMethodDescriptor "([B[B)Z" = some ⟨[(.array .byte), (.array .byte)], some .boolean⟩ := by decide +kernel
theorem pd_8 : parseMethodDescriptor "(Ljava/lang/Object;)Z" = some ⟨[(.object "java/lang/Object")], some .boolean⟩ := by decide +kernel
theorem pd_9 : parseMethodDescriptor "(I)C" = some ⟨[.int], some .char⟩ := by decide +kernel
theorem pd_10 : parseMethodDescriptor "(ICCC)Ljava/lang/String;" = some ⟨[.int, .char, .char, .char], some (.object "java/lang/String")⟩ := by decide +kernel
theorem pd_11 : parseMethodDescriptor "(JJ)J" = some ⟨[.long, .long], some .long⟩ := by decide +kernel
theorem pd_12 : parseMethodDescriptor "(Ljava/lang/String;JJ)V" = some ⟨[(.object "java/lang/String"), .long, .long], none⟩ := by decide +kernel
theorem pd_13 : parseMethodDescriptor "()Ljava/lang/String;" = some ⟨[], some (.object "java/lang/String")⟩ := by decide +kernel
theorem own_fld {args : Array Value} {s : State} {t : Term} {C n d : String} {a : Addr} {k : Int32} (ht : t.eval args s none [] s = some (.ref a)) (h : (Jvm.Cond.eq (.field t C n d) (.int k)).value args s none s [] = some true) : Fld s s.heap a C n d (.int k) := by
  refine Fld.start ?_
  rw [← fld_at (args := args) (first := s) (o := none) (idx := []) (s := s) (C := C) (n := n) (dd := d) ht]
  obtain ⟨x, y, e1, e2, -, -⟩ := cmp_v (Or.inl h)
  rw [Term.int_eval k] at e2
  obtain rfl : Value.int k = y := Option.some.inj e2
  cases x <;> simp [Jvm.Cond.value, e1, Term.int_eval] at h
  rw [e1, h]
theorem own_eqi {args : Array Value} {s : State} {a : Term} {k : Int32} (h : (Jvm.Cond.eq a (.int k)).value args s none s [] = some true) : a.eval args s none [] s = some (.int k) := by
  obtain ⟨x, y, e1, e2, -, -⟩ := cmp_v (Or.inl h)
  rw [Term.int_eval k] at e2
  obtain rfl : Value.int k = y := Option.some.inj e2
  cases x <;> simp [Jvm.Cond.value, e1, Term.int_eval] at h
  rw [e1, h]
theorem own_len {args : Array Value} {s : State} {t : Term} {a : Addr} {cl : Cell} {n : Int32} (ht : t.eval args s none [] s = some (.ref a)) (ha : s.arrayAt? a = some cl) (h : (Jvm.Cond.eq (.length t) (.int n)).value args s none s [] = some true) : cl.slots.size < 2 ^ 31 ∧ cl.slots.size.toInt32 = n := by
  have e := own_eqi h
  simp [Term.eval, ht, ha] at e
  exact e
theorem own_ne0 {args : Array Value} {s : State} {a : Term} {x k : Int32} (e : a.eval args s none [] s = some (.int x)) (h : (Jvm.Cond.not (.eq a (.int k))).before args s = true) : ¬ x = k := by
  have h1 := not_v (Cond.before_iff.mp h)
  intro q
  subst q
  simp [Jvm.Cond.value, e, Term.int_eval] at h1
theorem own_eqr {args : Array Value} {s : State} {a b : Term} {x : Addr} (eb : b.eval args s none [] s = some (.ref x)) (h : (Jvm.Cond.eq a b).value args s none s [] = some true) : a.eval args s none [] s = some (.ref x) := by
  obtain ⟨u, y, e1, e2, -, -⟩ := cmp_v (Or.inl h)
  rw [eb] at e2
  obtain rfl : Value.ref x = y := Option.some.inj e2
  cases u <;> simp [Jvm.Cond.value, e1, eb] at h
  rw [e1, h]
theorem own_EL {Z : State} {a0 : Array Value} (hw : ∀ d ∈ tables_1, d.before a0 Z = true) : EW Z a0 consts_1 := (EW.cons (hw _ (List.mem_of_getElem? (i := 46) rfl)) (by decide) (EW.cons (hw _ (List.mem_of_getElem? (i := 62) rfl)) (by decide) (EW.cons (hw _ (List.mem_of_getElem? (i := 85) rfl)) (by decide) (EW.cons (hw _ (List.mem_of_getElem? (i := 86) rfl)) (by decide) (EW.cons (hw _ (List.mem_of_getElem? (i := 21) rfl)) (by decide) EW.nil)))))
set_option maxRecDepth 65536 in
theorem own_SA : ∀ d ∈ Bundle.stringAtoms, d ∈ tables_1 := by decide +kernel
def own_pk (x : Int32) : Int32 := if x &&& (1 : Int32) = (0 : Int32) then nar .char ((((x.toUInt32 >>> ((1 : Int32) &&& 31).toUInt32).toInt32) &&& (255 : Int32)).toUInt32.toUInt16.toUInt32.toInt32) else 45
theorem own_chm (x : Int32) : nar .char ((x &&& (255 : Int32)).toUInt32.toUInt16.toUInt32.toInt32) = x &&& 255 := by
  have h : nar .char ((x &&& (255 : Int32)).toUInt32.toUInt16.toUInt32.toInt32) = ((x &&& (255 : Int32)).toUInt32.toUInt16.toUInt32.toInt32).toUInt32.toUInt16.toUInt32.toInt32 := rfl
  rw [h, i2c_mask, i2c_mask]
theorem own_pkr (x : Int32) : 0 ≤ (own_pk x).toInt ∧ (own_pk x).toInt ≤ 255 := by
  unfold own_pk
  split
  · rw [own_chm]
    exact c_and _ 255 (by decide)
  · decide
theorem own_nch (y : Int32) (h : 0 ≤ y.toInt ∧ y.toInt ≤ 255) : nar .char y = y := by
  have e : nar .char y = y.toUInt32.toUInt16.toUInt32.toInt32 := rfl
  have c := c_i2c y
  rw [← Int32.toInt_inj, e]
  omega
theorem own_pk255 (x : Int32) : ¬ (255 : Int32) < nar .char (own_pk x) := by
  rw [own_nch _ (own_pkr x), Int32.lt_iff_toInt_lt]
  have k : (255 : Int32).toInt = 255 := by decide
  have := own_pkr x
  omega
theorem own_b45 (x : Int32) : nar .byte ((nar .char (own_pk x)).toInt8.toInt32) = 45 ↔ own_pk x = 45 := by
  rw [own_nch _ (own_pkr x)]
  have r := own_pkr x
  have e : nar .byte ((own_pk x).toInt8.toInt32) = (own_pk x).toInt8.toInt32.toInt8.toInt32 := rfl
  have c1 := c_i2b (own_pk x)
  have c2 := c_i2b ((own_pk x).toInt8.toInt32)
  have k : (45 : Int32).toInt = 45 := by decide
  have i1 : ((own_pk x).toInt8.toInt32.toInt8.toInt32 = 45) ↔ ((own_pk x).toInt8.toInt32.toInt8.toInt32).toInt = 45 := by rw [← Int32.toInt_inj, k]
  have i2 : (own_pk x = 45) ↔ (own_pk x).toInt = 45 := by rw [← Int32.toInt_inj, k]
  rw [e, i1, i2]
  omega
def own_max (q : Int64) : Int64 := if (1 : Int64) < q then q else 1
theorem own_max1 (q : Int64) : ¬ own_max q < (1 : Int64) := by
  unfold own_max
  have k : (1 : Int64).toInt = 1 := by decide
  split
  · rename_i h
    rw [Int64.lt_iff_toInt_lt] at h ⊢
    omega
  · decide
theorem own_pos (x : Int64) : ¬ (x &&& (9223372036854775807 : Int64)) < (0 : Int64) := by
  have h := c_maskL x 9223372036854775807 63 (by decide) (by decide)
  have h0 : (0 : Int64).toInt = 0 := by decide
  rw [Int64.lt_iff_toInt_lt, h, h0]
  have := Int.emod_nonneg x.toInt (b := ((2 ^ 63 : Nat) : Int)) (by decide)
  omega
theorem own_and3 (x : Int32) : x &&& 3 = 0 ∨ x &&& 3 = 1 ∨ x &&& 3 = 2 ∨ x &&& 3 = 3 := by
  have h := c_mask x 3 2 (by decide) (by decide)
  have h1 := Int.emod_nonneg x.toInt (b := ((2 ^ 2 : Nat) : Int)) (by decide)
  have h2 := Int.emod_lt_of_pos x.toInt (b := ((2 ^ 2 : Nat) : Int)) (by decide)
  rw [← h] at h1 h2
  have k0 : (0 : Int32).toInt = 0 := by decide
  have k1 : (1 : Int32).toInt = 1 := by decide
  have k2 : (2 : Int32).toInt = 2 := by decide
  have k3 : (3 : Int32).toInt = 3 := by decide
  simp only [← Int32.toInt_inj, k0, k1, k2, k3]
  omega
theorem d1_0 : decode method_3_code 0 = .ok (.iload_n 0, 1) := by decide +kernel
theorem d1_1 : decode method_3_code 1 = .ok (.iconst 1, 1) := by decide +kernel
theorem d1_2 : decode method_3_code 2 = .ok (.iand, 1) := by decide +kernel
theorem d1_3 : decode method_3_code 3 = .ok (.ifCond .eq 6, 3) := by decide +kernel
theorem d1_6 : decode method_3_code 6 = .ok (.bipush 45, 2) := by decide +kernel
theorem d1_8 : decode method_3_code 8 = .ok (.ireturn, 1) := by decide +kernel
theorem d1_9 : decode method_3_code 9 = .ok (.iload_n 0, 1) := by decide +kernel
theorem d1_10 : decode method_3_code 10 = .ok (.iconst 1, 1) := by decide +kernel
theorem d1_11 : decode method_3_code 11 = .ok (.iushr, 1) := by decide +kernel
theorem d1_12 : decode method_3_code 12 = .ok (.sipush 255, 3) := by decide +kernel
theorem d1_15 : decode method_3_code 15 = .ok (.iand, 1) := by decide +kernel
theorem d1_16 : decode method_3_code 16 = .ok (.i2c, 1) := by decide +kernel
theorem d1_17 : decode method_3_code 17 = .ok (.ireturn, 1) := by decide +kernel
theorem pn_1 : plainName "com/example/shelfgraph/shelfgraph/ingest/RecordPositionInputNamePinLaw" = true := by first | (simp [plainName, overriddenIn]; done) | decide +kernel
theorem ef_rm1 (m : MethodId) (x1 : Int32) : entryFrame m #[(.int x1)] 1 = mkF m 0 #[.val (.int x1)] [] := by first | (simp [entryFrame, mkF, argsToLocals, Value.category]; done) | rfl
def Q_rm1 (Z : State) (x1 : Int32) (h0 : Heap) (n0 : Nat) (v : Option Value) (h : Heap) (L : List Loc) : Prop := v = some (.int (own_pk x1)) ∧ Fr n0 L ∧ h = h0
set_option maxRecDepth 65536 in
set_option maxHeartbeats 40000000 in
theorem rm1 (l : Launch) (Z : State) (a0 : Array Value) (hw : ∀ d ∈ tables_1, d.before a0 Z = true) (ws : List Jvm.Cond) (x1 : Int32) (h0 : Heap) (n0 : Nat) (Z0 : n0 ≤ h0.size) :
    MetFree l (⟨"com/example/shelfgraph/shelfgraph/ingest/RecordPositionInputNamePinLaw", "pick", "(I)C"⟩ : MethodName) (head1 (Jvm.Cond.code (⟨"com/example/shelfgraph/shelfgraph/ingest/RecordPositionInputNamePinLaw", "pick", "(I)C"⟩ : MethodName) method_3_code 1 (some .char) :: ws) ({ frames := 0, cells := 0, slots := 0, locals := 0 } : Room)) (fun zz UU => zz = #[(.int x1)] ∧ Z.Warmed39 UU.vm ∧ UU.heap = h0) (fun _ _ _ _ _ => True) (fun _ U o U' => ∃ v L, o = .returned v ∧ Q_rm1 Z x1 h0 n0 v U'.heap L ∧ FrameEnd U o U' L ({ frames := 0, cells := 0, slots := 0, locals := 0 } : Room).cells ({ frames := 0, cells := 0, slots := 0, locals := 0 } : Room).slots) := by
  refine MetFree.of_bodySF (plainFor_of_name pn_1) hisR ?_
  intro p e s m args below meth c s₁ Bd hml0 hP hK
  obtain ⟨rfl, hZ, hh⟩ := hP
  have hx := Bd.exec
  have hby := Bd.bytes
  have hml : c.maxLocals = 1 := hml0
  have hown : s.vm.findClass "com/example/shelfgraph/shelfgraph/ingest/RecordPositionInputNamePinLaw" = some m.cls := findClass_of_methodNamed Bd.named
  have hnm := (name_of_methodNamed Bd.named Bd.method).1
  have hlk : meth.locks = false := BodyLoose.notSynchronized Bd
  have X0 : Stand p l e ({ frames := 0, cells := 0, slots := 0, locals := 0 } : Room) s m #[(.int x1)] below meth c s₁ [] 0 0 := Stand.of_body Bd
  have e0 : s₁.heap = h0 := by rw [← hh, Bd.state]; rfl
  have N0 := Fr.nil n0
  show own_Go p.tables e below (Q_rm1 Z x1 h0 n0) s ({ frames := 0, cells := 0, slots := 0, locals := 0 } : Room).cells ({ frames := 0, cells := 0, slots := 0, locals := 0 } : Room).slots s₁ (entryFrame m #[(.int x1)] 1)
  rw [ef_rm1 m x1]
  refine own_by (T' := s₁) (g' := (mkF m 1 #[.val (.int x1)] [(.int x1)])) (fun _ k => XS.iloadN X0.here hx rfl (hb hby d1_0) rfl k) ?_
  refine own_by (T' := s₁) (g' := (mkF m 2 #[.val (.int x1)] [(.int (1 : Int32)), (.int x1)])) (fun _ k => XS.iconst X0.here hx rfl (hb hby d1_1) k) ?_
  refine own_by (T' := s₁) (g' := (mkF m 3 #[.val (.int x1)] [(.int (x1 &&& (1 : Int32)))])) (fun _ k => XS.iand X0.here hx rfl (hb hby d1_2) rfl k) ?_
  by_cases hc3_21 : (x1 &&& (1 : Int32)) = (0 : Int32)
  · skip
    refine own_by (T' := s₁) (g' := (mkF m 9 #[.val (.int x1)] [])) (fun _ k => XS.ifYes X0.here hx rfl (pc0 := 3) (pc' := 9) rfl (hb hby d1_3) rfl ((if0 _ _).trans (teq hc3_21).1) (by decide) (by decide) k) ?_
    refine own_by (T' := s₁) (g' := (mkF m 10 #[.val (.int x1)] [(.int x1)])) (fun _ k => XS.iloadN X0.here hx rfl (hb hby d1_9) rfl k) ?_
    refine own_by (T' := s₁) (g' := (mkF m 11 #[.val (.int x1)] [(.int (1 : Int32)), (.int x1)])) (fun _ k => XS.iconst X0.here hx rfl (hb hby d1_10) k) ?_
    refine own_by (T' := s₁) (g' := (mkF m 12 #[.val (.int x1)] [(.int ((x1.toUInt32 >>> ((1 : Int32) &&& 31).toUInt32).toInt32))])) (fun _ k => XS.iushr X0.here hx rfl (hb hby d1_11) rfl k) ?_
    refine own_by (T' := s₁) (g' := (mkF m 15 #[.val (.int x1)] [(.int (255 : Int32)), (.int ((x1.toUInt32 >>> ((1 : Int32) &&& 31).toUInt32).toInt32))])) (fun _ k => XS.sipush X0.here hx rfl (hb hby d1_12) k) ?_
    refine own_by (T' := s₁) (g' := (mkF m 16 #[.val (.int x1)] [(.int (((x1.toUInt32 >>> ((1 : Int32) &&& 31).toUInt32).toInt32) &&& (255 : Int32)))])) (fun _ k => XS.iand X0.here hx rfl (hb hby d1_15) rfl k) ?_
    refine own_by (T' := s₁) (g' := (mkF m 17 #[.val (.int x1)] [(.int ((((x1.toUInt32 >>> ((1 : Int32) &&& 31).toUInt32).toInt32) &&& (255 : Int32)).toUInt32.toUInt16.toUInt32.toInt32))])) (fun _ k => XS.i2c X0.here hx rfl (hb hby d1_16) rfl k) ?_
    refine own_ret X0 hlk (v := some (.int (nar .char ((((x1.toUInt32 >>> ((1 : Int32) &&& 31).toUInt32).toInt32) &&& (255 : Int32)).toUInt32.toUInt16.toUInt32.toInt32)))) (fun h => by rw [Bd.returns] at h; cases h) (fun fs hr => retN X0 hx (t := .char) Bd.returns (by simp) (hb hby d1_17) hr) ?_ (by decide) (by decide)
    rw [e0]
    exact ⟨congrArg (fun z => some (Value.int z)) (if_pos hc3_21).symm, N0, rfl⟩
  · skip
    refine own_by (T' := s₁) (g' := (mkF m 6 #[.val (.int x1)] [])) (fun _ k => XS.ifNo X0.here hx rfl (hb hby d1_3) rfl ((if0 _ _).trans (feq hc3_21).1) k) ?_
    refine own_by (T' := s₁) (g' := (mkF m 8 #[.val (.int x1)] [(.int (45 : Int32))])) (fun _ k => XS.bipush X0.here hx rfl (hb hby d1_6) k) ?_
    refine own_ret X0 hlk (v := some (.int (45 : Int32))) (fun h => by rw [Bd.returns] at h; cases h) (fun fs hr => retN X0 hx (t := .char) Bd.returns (by simp) (hb hby d1_8) hr) ?_ (by decide) (by decide)
    rw [e0]
    exact ⟨congrArg (fun z => some (Value.int z)) (if_neg hc3_21).symm, N0, rfl⟩
theorem d6_0 : decode jdk_29_method_66_code 0 = .ok (.lload_n 0, 1) := by decide +kernel
theorem d6_1 : decode jdk_29_method_66_code 1 = .ok (.lload_n 2, 1) := by decide +kernel
theorem d6_2 : decode jdk_29_method_66_code 2 = .ok (.lcmp, 1) := by decide +kernel
theorem d6_3 : decode jdk_29_method_66_code 3 = .ok (.ifCond .lt 7, 3) := by decide +kernel
theorem d6_6 : decode jdk_29_method_66_code 6 = .ok (.lload_n 0, 1) := by decide +kernel
theorem d6_7 : decode jdk_29_method_66_code 7 = .ok (.goto 4, 3) := by decide +kernel
theorem d6_10 : decode jdk_29_method_66_code 10 = .ok (.lload_n 2, 1) := by decide +kernel
theorem d6_11 : decode jdk_29_method_66_code 11 = .ok (.lreturn, 1) := by decide +kernel
theorem ef_rm6 (m : MethodId) (q1 : Int64) : entryFrame m #[(.long (1 : Int64)), (.long q1)] 4 = mkF m 0 #[.val (.long (1 : Int64)), .second, .val (.long q1), .second] [] := by first | (simp [entryFrame, mkF, argsToLocals, Value.category]; done) | rfl
def Q_rm6 (Z : State) (q1 : Int64) (h0 : Heap) (n0 : Nat) (v : Option Value) (h : Heap) (L : List Loc) : Prop := v = some (.long (own_max q1)) ∧ Fr n0 L ∧ h = h0
set_option maxRecDepth 65536 in
set_option maxHeartbeats 40000000 in
theorem rm6 (l : Launch) (Z : State) (a0 : Array Value) (hw : ∀ d ∈ tables_1, d.before a0 Z = true) (ws : List Jvm.Cond) (q1 : Int64) (h0 : Heap) (n0 : Nat) (Z0 : n0 ≤ h0.size) :
    MetFree l (⟨"java/lang/Math", "max", "(JJ)J"⟩ : MethodName) (head1 (Jvm.Cond.code (⟨"java/lang/Math", "max", "(JJ)J"⟩ : MethodName) jdk_29_method_66_code 4 (some .long) :: ws) ({ frames := 0, cells := 0, slots := 0, locals := 0 } : Room)) (fun zz UU => zz = #[(.long (1 : Int64)), (.long q1)] ∧ Z.Warmed39 UU.vm ∧ UU.heap = h0) (fun _ _ _ _ _ => True) (fun _ U o U' => ∃ v L, o = .returned v ∧ Q_rm6 Z q1 h0 n0 v U'.heap L ∧ FrameEnd U o U' L ({ frames := 0, cells := 0, slots := 0, locals := 0 } : Room).cells ({ frames := 0, cells := 0, slots := 0, locals := 0 } : Room).slots) := by
  refine MetFree.of_bodySF (Jvm.Free.JP.mathPlain rfl (by decide +kernel)) hisR ?_
  intro p e s m args below meth c s₁ Bd hml0 hP hK
  obtain ⟨rfl, hZ, hh⟩ := hP
  have hx := Bd.exec
  have hby := Bd.bytes
  have hml : c.maxLocals = 4 := hml0
  have hown : s.vm.findClass "java/lang/Math" = some m.cls := findClass_of_methodNamed Bd.named
  have hnm := (name_of_methodNamed Bd.named Bd.method).1
  have hlk : meth.locks = false := BodyLoose.notSynchronized Bd
  have X0 : Stand p l e ({ frames := 0, cells := 0, slots := 0, locals := 0 } : Room) s m #[(.long (1 : Int64)), (.long q1)] below meth c s₁ [] 0 0 := Stand.of_body Bd
  have e0 : s₁.heap = h0 := by rw [← hh, Bd.state]; rfl
  have N0 := Fr.nil n0
  show own_Go p.tables e below (Q_rm6 Z q1 h0 n0) s ({ frames := 0, cells := 0, slots := 0, locals := 0 } : Room).cells ({ frames := 0, cells := 0, slots := 0, locals := 0 } : Room).slots s₁ (entryFrame m #[(.long (1 : Int64)), (.long q1)] 4)
  rw [ef_rm6 m q1]
  refine own_by (T' := s₁) (g' := (mkF m 1 #[.val (.long (1 : Int64)), .second, .val (.long q1), .second] [(.long (1 : Int64))])) (fun _ k => XS.lloadN X0.here hx rfl (hb hby d6_0) rfl k) ?_
  refine own_by (T' := s₁) (g' := (mkF m 2 #[.val (.long (1 : Int64)), .second, .val (.long q1), .second] [(.long q1), (.long (1 : Int64))])) (fun _ k => XS.lloadN X0.here hx rfl (hb hby d6_1) rfl k) ?_
  refine own_by (T' := s₁) (g' := (mkF m 3 #[.val (.long (1 : Int64)), .second, .val (.long q1), .second] [(.int (lcmpW (1 : Int64) q1))])) (fun _ k => XS.lcmp X0.here hx rfl (hb hby d6_2) rfl k) ?_
  by_cases hc3_21 : (1 : Int64) < q1
  · skip
    refine own_by (T' := s₁) (g' := (mkF m 10 #[.val (.long (1 : Int64)), .second, .val (.long q1), .second] [])) (fun _ k => XS.ifYes X0.here hx rfl (pc0 := 3) (pc' := 10) rfl (hb hby d6_3) rfl ((if0 _ _).trans (tlt ((lw_lt _ _).mpr hc3_21)).1) (by decide) (by decide) k) ?_
    refine own_by (T' := s₁) (g' := (mkF m 11 #[.val (.long (1 : Int64)), .second, .val (.long q1), .second] [(.long q1)])) (fun _ k => XS.lloadN X0.here hx rfl (hb hby d6_10) rfl k) ?_
    refine own_ret X0 hlk (v := some (.long q1)) (fun h => by rw [Bd.returns] at h; cases h) (fun fs hr => retOut X0 hx Bd.returns rfl (Or.inr (Or.inl ⟨rfl, rfl, _, rfl⟩)) (hb hby d6_11) hr) ?_ (by decide) (by decide)
    rw [e0]
    exact ⟨congrArg (fun z => some (Value.long z)) (if_pos hc3_21).symm, N0, rfl⟩
  · skip
    refine own_by (T' := s₁) (g' := (mkF m 6 #[.val (.long (1 : Int64)), .second, .val (.long q1), .second] [])) (fun _ k => XS.ifNo X0.here hx rfl (hb hby d6_3) rfl ((if0 _ _).trans (flt (fun q => absurd ((lw_lt _ _).mp q) hc3_21)).1) k) ?_
    refine own_by (T' := s₁) (g' := (mkF m 7 #[.val (.long (1 : Int64)), .second, .val (.long q1), .second] [(.long (1 : Int64))])) (fun _ k => XS.lloadN X0.here hx rfl (hb hby d6_6) rfl k) ?_
    refine own_by (T' := s₁) (g' := (mkF m 11 #[.val (.long (1 : Int64)), .second, .val (.long q1), .second] [(.long (1 : Int64))])) (fun _ k => XS.goto X0.here hx rfl (pc0 := 7) (pc' := 11) rfl (hb hby d6_7) (by decide) (by decide) k) ?_
    refine own_ret X0 hlk (v := some (.long (1 : Int64))) (fun h => by rw [Bd.returns] at h; cases h) (fun fs hr => retOut X0 hx Bd.returns rfl (Or.inr (Or.inl ⟨rfl, rfl, _, rfl⟩)) (hb hby d6_11) hr) ?_ (by decide) (by decide)
    rw [e0]
    exact ⟨congrArg (fun z => some (Value.long z)) (if_neg hc3_21).symm, N0, rfl⟩
theorem d8_0 : decode jdk_30_method_1_code 0 = .ok (.aload_n 0, 1) := by decide +kernel
theorem d8_1 : decode jdk_30_method_1_code 1 = .ok (.invokespecial 1, 3) := by decide +kernel
theorem d8_4 : decode jdk_30_method_1_code 4 = .ok (.return_, 1) := by decide +kernel
theorem pn_8 : plainName "java/lang/Record" = true := by first | (simp [plainName, overriddenIn]; done) | decide +kernel
theorem ef_rm8 (m : MethodId) (a : Addr) : entryFrame m #[(.ref a)] 1 = mkF m 0 #[.val (.ref a)] [] := by first | (simp [entryFrame, mkF, argsToLocals, Value.category]; done) | rfl
def Q_rm8 (Z : State) (a : Addr) (h0 : Heap) (n0 : Nat) (v : Option Value) (h : Heap) (L : List Loc) : Prop := v = none ∧ Fr n0 L ∧ h = h0
set_option maxRecDepth 65536 in
set_option maxHeartbeats 40000000 in
theorem rm8 (l : Launch) (Z : State) (a0 : Array Value) (hw : ∀ d ∈ tables_1, d.before a0 Z = true) (ws : List Jvm.Cond) (a : Addr) (h0 : Heap) (n0 : Nat) (Z0 : n0 ≤ h0.size) :
    MetFree l (⟨"java/lang/Record", "<init>", "()V"⟩ : MethodName) (head1 (Jvm.Cond.code (⟨"java/lang/Record", "<init>", "()V"⟩ : MethodName) jdk_30_method_1_code 1 none :: ws) ({ frames := 1, cells := 0, slots := 0, locals := 12 } : Room)) (fun zz UU => zz = #[(.ref a)] ∧ Z.Warmed39 UU.vm ∧ UU.heap = h0) (fun _ _ _ _ _ => True) (fun _ U o U' => ∃ v L, o = .returned v ∧ Q_rm8 Z a h0 n0 v U'.heap L ∧ FrameEnd U o U' L ({ frames := 1, cells := 0, slots := 0, locals := 12 } : Room).cells ({ frames := 1, cells := 0, slots := 0, locals := 12 } : Room).slots) := by
  refine MetFree.of_bodySF (plainFor_of_name pn_8) hisR ?_
  intro p e s m args below meth c s₁ Bd hml0 hP hK
  obtain ⟨rfl, hZ, hh⟩ := hP
  have hx := Bd.exec
  have hby := Bd.bytes
  have hml : c.maxLocals = 1 := hml0
  have hown : s.vm.findClass "java/lang/Record" = some m.cls := findClass_of_methodNamed Bd.named
  have hnm := (name_of_methodNamed Bd.named Bd.method).1
  have hlk : meth.locks = false := BodyLoose.notSynchronized Bd
  have X0 : Stand p l e ({ frames := 1, cells := 0, slots := 0, locals := 12 } : Room) s m #[(.ref a)] below meth c s₁ [] 0 0 := Stand.of_body Bd
  have e0 : s₁.heap = h0 := by rw [← hh, Bd.state]; rfl
  have N0 := Fr.nil n0
  show own_Go p.tables e below (Q_rm8 Z a h0 n0) s ({ frames := 1, cells := 0, slots := 0, locals := 12 } : Room).cells ({ frames := 1, cells := 0, slots := 0, locals := 12 } : Room).slots s₁ (entryFrame m #[(.ref a)] 1)
  rw [ef_rm8 m a]
  refine own_by (T' := s₁) (g' := (mkF m 1 #[.val (.ref a)] [(.ref a)])) (fun _ k => XS.aloadN X0.here hx rfl (hb hby d8_0) rfl rfl k) ?_
  obtain ⟨T21, X21, e21, st21⟩ := initO X0 hx hZ hown (hw _ (List.mem_of_getElem? (i := 45) rfl)) (hw _ (List.mem_of_getElem? (i := 19) rfl)) (hw _ (List.mem_of_getElem? (i := 20) rfl)) e0 (g := (mkF m 1 #[.val (.ref a)] [(.ref a)])) rfl (by rw [hml]; rfl) rfl (hb hby d8_1) (by decide) (W := 0) (by show 2 * 0 + _ ≤ _; exact Nat.le_of_eq rfl) (by decide)
  refine own_by (T' := T21) (g' := (mkF m 4 #[.val (.ref a)] [])) (fun _ k => st21 _ k) ?_
  refine own_ret X21 hlk (v := none) (fun _ => rfl) (fun fs hr => X21.returnOut hx Bd.returns (hb hby d8_4) hr) ?_ (by decide) (by decide)
  rw [e21]
  exact ⟨rfl, N0, rfl⟩
theorem d9_0 : decode jdk_31_method_11_code 0 = .ok (.aload_n 0, 1) := by decide +kernel
theorem d9_1 : decode jdk_31_method_11_code 1 = .ok (.ifnonnull 12, 3) := by decide +kernel
theorem d9_13 : decode jdk_31_method_11_code 13 = .ok (.aload_n 0, 1) := by decide +kernel
theorem d9_14 : decode jdk_31_method_11_code 14 = .ok (.areturn, 1) := by decide +kernel
theorem pn_9 : plainName "java/util/Objects" = true := by first | (simp [plainName, overriddenIn]; done) | decide +kernel
theorem ef_reqnn (m : MethodId) (a : Addr) (b : Addr) : entryFrame m #[(.ref a), (.ref b)] 2 = mkF m 0 #[.val (.ref a), .val (.ref b)] [] := by first | (simp [entryFrame, mkF, argsToLocals, Value.category]; done) | rfl
def Q_reqnn (Z : State) (a : Addr) (b : Addr) (h0 : Heap) (n0 : Nat) (v : Option Value) (h : Heap) (L : List Loc) : Prop := v = some (.ref a) ∧ Fr n0 L ∧ h = h0
set_option maxRecDepth 65536 in
set_option maxHeartbeats 40000000 in
theorem reqnn (l : Launch) (Z : State) (a0 : Array Value) (hw : ∀ d ∈ tables_1, d.before a0 Z = true) (ws : List Jvm.Cond) (a : Addr) (b : Addr) (h0 : Heap) (n0 : Nat) (Z0 : n0 ≤ h0.size) :
    MetFree l (⟨"java/util/Objects", "requireNonNull", "(Ljava/lang/Object;Ljava/lang/String;)Ljava/lang/Object;"⟩ : MethodName) (head1 (Jvm.Cond.code (⟨"java/util/Objects", "requireNonNull", "(Ljava/lang/Object;Ljava/lang/String;)Ljava/lang/Object;"⟩ : MethodName) jdk_31_method_11_code 2 (some (.object "java/lang/Object")) :: ws) ({ frames := 0, cells := 0, slots := 0, locals := 0 } : Room)) (fun zz UU => zz = #[(.ref a), (.ref b)] ∧ Z.Warmed39 UU.vm ∧ UU.heap = h0) (fun _ _ _ _ _ => True) (fun _ U o U' => ∃ v L, o = .returned v ∧ Q_reqnn Z a b h0 n0 v U'.heap L ∧ FrameEnd U o U' L ({ frames := 0, cells := 0, slots := 0, locals := 0 } : Room).cells ({ frames := 0, cells := 0, slots := 0, locals := 0 } : Room).slots) := by
  refine MetFree.of_bodySF (plainFor_of_name pn_9) hisR ?_
  intro p e s m args below meth c s₁ Bd hml0 hP hK
  obtain ⟨rfl, hZ, hh⟩ := hP
  have hx := Bd.exec
  have hby := Bd.bytes
  have hml : c.maxLocals = 2 := hml0
  have hown : s.vm.findClass "java/util/Objects" = some m.cls := findClass_of_methodNamed Bd.named
  have hnm := (name_of_methodNamed Bd.named Bd.method).1
  have hlk : meth.locks = false := BodyLoose.notSynchronized Bd
  have X0 : Stand p l e ({ frames := 0, cells := 0, slots := 0, locals := 0 } : Room) s m #[(.ref a), (.ref b)] below meth c s₁ [] 0 0 := Stand.of_body Bd
  have e0 : s₁.heap = h0 := by rw [← hh, Bd.state]; rfl
  have N0 := Fr.nil n0
  show own_Go p.tables e below (Q_reqnn Z a b h0 n0) s ({ frames := 0, cells := 0, slots := 0, locals := 0 } : Room).cells ({ frames := 0, cells := 0, slots := 0, locals := 0 } : Room).slots s₁ (entryFrame m #[(.ref a), (.ref b)] 2)
  rw [ef_reqnn m a b]
  refine own_by (T' := s₁) (g' := (mkF m 1 #[.val (.ref a), .val (.ref b)] [(.ref a)])) (fun _ k => XS.aloadN X0.here hx rfl (hb hby d9_0) rfl rfl k) ?_
  refine own_by (T' := s₁) (g' := (mkF m 13 #[.val (.ref a), .val (.ref b)] [])) (fun _ k => XS.ifnonnullYes X0.here hx rfl (pc0 := 1) (pc' := 13) rfl (hb hby d9_1) rfl (by decide) (by decide) k) ?_
  refine own_by (T' := s₁) (g' := (mkF m 14 #[.val (.ref a), .val (.ref b)] [(.ref a)])) (fun _ k => XS.aloadN X0.here hx rfl (hb hby d9_13) rfl rfl k) ?_
  refine own_ret X0 hlk (v := some (.ref a)) (fun h => by rw [Bd.returns] at h; cases h) (fun fs hr => retOut X0 hx Bd.returns rfl (Or.inr (Or.inr (Or.inr (Or.inr ⟨rfl, rfl, rfl⟩)))) (hb hby d9_14) hr) ?_ (by decide) (by decide)
  rw [e0]
  exact ⟨rfl, N0, rfl⟩
theorem d14_0 : decode jdk_52_method_21_code 0 = .ok (.iconst 0, 1) := by decide +kernel
theorem d14_1 : decode jdk_52_method_21_code 1 = .ok (.istore 5, 2) := by decide +kernel
theorem d14_3 : decode jdk_52_method_21_code 3 = .ok (.iload 5, 2) := by decide +kernel
theorem d14_5 : decode jdk_52_method_21_code 5 = .ok (.iload 4, 2) := by decide +kernel
theorem d14_7 : decode jdk_52_method_21_code 7 = .ok (.if_icmp .ge 37, 3) := by decide +kernel
theorem d14_10 : decode jdk_52_method_21_code 10 = .ok (.aload_n 0, 1) := by decide +kernel
theorem d14_11 : decode jdk_52_method_21_code 11 = .ok (.iload_n 1, 1) := by decide +kernel
theorem d14_12 : decode jdk_52_method_21_code 12 = .ok (.caload, 1) := by decide +kernel
theorem d14_13 : decode jdk_52_method_21_code 13 = .ok (.istore 6, 2) := by decide +kernel
theorem d14_15 : decode jdk_52_method_21_code 15 = .ok (.iload 6, 2) := by decide +kernel
theorem d14_17 : decode jdk_52_method_21_code 17 = .ok (.sipush 255, 3) := by decide +kernel
theorem d14_20 : decode jdk_52_method_21_code 20 = .ok (.if_icmp .le 6, 3) := by decide +kernel
theorem d14_26 : decode jdk_52_method_21_code 26 = .ok (.aload_n 2, 1) := by decide +kernel
theorem d14_27 : decode jdk_52_method_21_code 27 = .ok (.iload_n 3, 1) := by decide +kernel
theorem d14_28 : decode jdk_52_method_21_code 28 = .ok (.iload 6, 2) := by decide +kernel
theorem d14_30 : decode jdk_52_method_21_code 30 = .ok (.i2b, 1) := by decide +kernel
theorem d14_31 : decode jdk_52_method_21_code 31 = .ok (.bastore, 1) := by decide +kernel
theorem d14_32 : decode jdk_52_method_21_code 32 = .ok (.iinc 1 1, 3) := by decide +kernel
theorem d14_35 : decode jdk_52_method_21_code 35 = .ok (.iinc 3 1, 3) := by decide +kernel
theorem d14_38 : decode jdk_52_method_21_code 38 = .ok (.iinc 5 1, 3) := by decide +kernel
theorem d14_41 : decode jdk_52_method_21_code 41 = .ok (.goto (-38), 3) := by decide +kernel
theorem d14_44 : decode jdk_52_method_21_code 44 = .ok (.iload 4, 2) := by decide +kernel
theorem d14_46 : decode jdk_52_method_21_code 46 = .ok (.ireturn, 1) := by decide +kernel
theorem pn_14 : plainName "java/lang/StringUTF16" = true := by first | (simp [plainName, overriddenIn]; done) | decide +kernel
theorem ef_cmp5_1 (m : MethodId) (ca : Addr) (ba : Addr) : entryFrame m #[(.ref ca), (.int (0 : Int32)), (.ref ba), (.int (0 : Int32)), (.int (1 : Int32))] 7 = mkF m 0 #[.val (.ref ca), .val (.int (0 : Int32)), .val (.ref ba), .val (.int (0 : Int32)), .val (.int (1 : Int32)), .unset, .unset] [] := by first | (simp [entryFrame, mkF, argsToLocals, Value.category]; done) | rfl
def Q_cmp5_1 (Z : State) (ca : Addr) (ba : Addr) (kc : ClassId) (kb : ClassId) (c0 : Int32) (h0 : Heap) (n0 : Nat) (v : Option Value) (h : Heap) (L : List Loc) : Prop := v = some (.int (1 : Int32)) ∧ Fr n0 L ∧ Keep h0 h [ba] ∧ Arv Z h ba kb .byte (1 : Int32) [(.int (nar .byte (c0.toInt8.toInt32)))] (.int (0 : Int32))
set_option maxRecDepth 65536 in
set_option maxHeartbeats 40000000 in
theorem cmp5_1 (l : Launch) (Z : State) (a0 : Array Value) (hw : ∀ d ∈ tables_1, d.before a0 Z = true) (ws : List Jvm.Cond) (ca : Addr) (ba : Addr) (kc : ClassId) (kb : ClassId) (c0 : Int32) (h0 : Heap) (n0 : Nat) (Z0 : n0 ≤ h0.size) (V_ca : Arv Z h0 ca kc .char (1 : Int32) [(.int c0)] (.int (0 : Int32))) (V_ba : Arv Z h0 ba kb .byte (1 : Int32) [(.int (0 : Int32))] (.int (0 : Int32))) (g_ba : n0 ≤ ba) (neab : ca ≠ ba) (hc0 : ¬ (255 : Int32) < c0) :
    MetFree l (⟨"java/lang/StringUTF16", "compress", "([CI[BII)I"⟩ : MethodName) (head1 (Jvm.Cond.code (⟨"java/lang/StringUTF16", "compress", "([CI[BII)I"⟩ : MethodName) jdk_52_method_21_code 7 (some .int) :: ws) ({ frames := 0, cells := 0, slots := 0, locals := 0 } : Room)) (fun zz UU => zz = #[(.ref ca), (.int (0 : Int32)), (.ref ba), (.int (0 : Int32)), (.int (1 : Int32))] ∧ Z.Warmed39 UU.vm ∧ UU.heap = h0) (fun _ _ _ _ _ => True) (fun _ U o U' => ∃ v L, o = .returned v ∧ Q_cmp5_1 Z ca ba kc kb c0 h0 n0 v U'.heap L ∧ FrameEnd U o U' L ({ frames := 0, cells := 0, slots := 0, locals := 0 } : Room).cells ({ frames := 0, cells := 0, slots := 0, locals := 0 } : Room).slots) := by
  refine MetFree.of_bodySF (plainFor_of_name pn_14) hisR ?_
  intro p e s m args below meth c s₁ Bd hml0 hP hK
  obtain ⟨rfl, hZ, hh⟩ := hP
  have hx := Bd.exec
  have hby := Bd.bytes
  have hml : c.maxLocals = 7 := hml0
  have hown : s.vm.findClass "java/lang/StringUTF16" = some m.cls := findClass_of_methodNamed Bd.named
  have hnm := (name_of_methodNamed Bd.named Bd.method).1
  have hlk : meth.locks = false := BodyLoose.notSynchronized Bd
  have X0 : Stand p l e ({ frames := 0, cells := 0, slots := 0, locals := 0 } : Room) s m #[(.ref ca), (.int (0 : Int32)), (.ref ba), (.int (0 : Int32)), (.int (1 : Int32))] below meth c s₁ [] 0 0 := Stand.of_body Bd
  have e0 : s₁.heap = h0 := by rw [← hh, Bd.state]; rfl
  have N0 := Fr.nil n0
  show own_Go p.tables e below (Q_cmp5_1 Z ca ba kc kb c0 h0 n0) s ({ frames := 0, cells := 0, slots := 0, locals := 0 } : Room).cells ({ frames := 0, cells := 0, slots := 0, locals := 0 } : Room).slots s₁ (entryFrame m #[(.ref ca), (.int (0 : Int32)), (.ref ba), (.int (0 : Int32)), (.int (1 : Int32))] 7)
  rw [ef_cmp5_1 m ca ba]
  refine own_by (T' := s₁) (g' := (mkF m 1 #[.val (.ref ca), .val (.int (0 : Int32)), .val (.ref ba), .val (.int (0 : Int32)), .val (.int (1 : Int32)), .unset, .unset] [(.int (0 : Int32))])) (fun _ k => XS.iconst X0.here hx rfl (hb hby d14_0) k) ?_
  refine own_by (T' := s₁) (g' := (mkF m 3 #[.val (.ref ca), .val (.int (0 : Int32)), .val (.ref ba), .val (.int (0 : Int32)), .val (.int (1 : Int32)), .val (.int (0 : Int32)), .unset] [])) (fun _ k => XS.istore X0.here hx rfl (hb hby d14_1) rfl (l' := #[.val (.ref ca), .val (.int (0 : Int32)), .val (.ref ba), .val (.int (0 : Int32)), .val (.int (1 : Int32)), .val (.int (0 : Int32)), .unset]) rfl k) ?_
  refine own_by (T' := s₁) (g' := (mkF m 5 #[.val (.ref ca), .val (.int (0 : Int32)), .val (.ref ba), .val (.int (0 : Int32)), .val (.int (1 : Int32)), .val (.int (0 : Int32)), .unset] [(.int (0 : Int32))])) (fun _ k => XS.iload X0.here hx rfl (hb hby d14_3) rfl k) ?_
  refine own_by (T' := s₁) (g' := (mkF m 7 #[.val (.ref ca), .val (.int (0 : Int32)), .val (.ref ba), .val (.int (0 : Int32)), .val (.int (1 : Int32)), .val (.int (0 : Int32)), .unset] [(.int (1 : Int32)), (.int (0 : Int32))])) (fun _ k => XS.iload X0.here hx rfl (hb hby d14_5) rfl k) ?_
  refine own_by (T' := s₁) (g' := (mkF m 10 #[.val (.ref ca), .val (.int (0 : Int32)), .val (.ref ba), .val (.int (0 : Int32)), .val (.int (1 : Int32)), .val (.int (0 : Int32)), .unset] [])) (fun _ k => XS.icmpNo X0.here hx rfl (hb hby d14_7) rfl (tlt (by decide)).2.1 k) ?_
  refine own_by (T' := s₁) (g' := (mkF m 11 #[.val (.ref ca), .val (.int (0 : Int32)), .val (.ref ba), .val (.int (0 : Int32)), .val (.int (1 : Int32)), .val (.int (0 : Int32)), .unset] [(.ref ca)])) (fun _ k => XS.aloadN X0.here hx rfl (hb hby d14_10) rfl rfl k) ?_
  refine own_by (T' := s₁) (g' := (mkF m 12 #[.val (.ref ca), .val (.int (0 : Int32)), .val (.ref ba), .val (.int (0 : Int32)), .val (.int (1 : Int32)), .val (.int (0 : Int32)), .unset] [(.int (0 : Int32)), (.ref ca)])) (fun _ k => XS.iloadN X0.here hx rfl (hb hby d14_11) rfl k) ?_
  obtain ⟨cl21, Ar21, q21, S21, N_21, H21, G21⟩ := id V_ca
  have hin21 : ¬ ((0 : Int32) < 0 ∨ cl21.slots.size ≤ ((0 : Int32)).toNatClampNeg) := inb_of S21 ⟨by decide, by decide⟩
  refine own_by (T' := s₁) (g' := (mkF m 13 #[.val (.ref ca), .val (.int (0 : Int32)), .val (.ref ba), .val (.int (0 : Int32)), .val (.int (1 : Int32)), .val (.int (0 : Int32)), .unset] [(.int c0)])) (fun _ k => X0.caload hx (j := (0 : Int32)) (v := (.int c0)) (by rw [e0]; exact Ar21.1) (State.isArrayOf_alike hZ.alike Ar21.2.1) Ar21.2.2 hin21 (Has.at H21 hin21 rfl) (g := (mkF m 12 #[.val (.ref ca), .val (.int (0 : Int32)), .val (.ref ba), .val (.int (0 : Int32)), .val (.int (1 : Int32)), .val (.int (0 : Int32)), .unset] [(.int (0 : Int32)), (.ref ca)])) rfl rfl (hb hby d14_12) _ k) ?_
  refine own_by (T' := s₁) (g' := (mkF m 15 #[.val (.ref ca), .val (.int (0 : Int32)), .val (.ref ba), .val (.int (0 : Int32)), .val (.int (1 : Int32)), .val (.int (0 : Int32)), .val (.int c0)] [])) (fun _ k => XS.istore X0.here hx rfl (hb hby d14_13) rfl (l' := #[.val (.ref ca), .val (.int (0 : Int32)), .val (.ref ba), .val (.int (0 : Int32)), .val (.int (1 : Int32)), .val (.int (0 : Int32)), .val (.int c0)]) rfl k) ?_
  refine own_by (T' := s₁) (g' := (mkF m 17 #[.val (.ref ca), .val (.int (0 : Int32)), .val (.ref ba), .val (.int (0 : Int32)), .val (.int (1 : Int32)), .val (.int (0 : Int32)), .val (.int c0)] [(.int c0)])) (fun _ k => XS.iload X0.here hx rfl (hb hby d14_15) rfl k) ?_
  refine own_by (T' := s₁) (g' := (mkF m 20 #[.val (.ref ca), .val (.int (0 : Int32)), .val (.ref ba), .val (.int (0 : Int32)), .val (.int (1 : Int32)), .val (.int (0 : Int32)), .val (.int c0)] [(.int (255 : Int32)), (.int c0)])) (fun _ k => XS.sipush X0.here hx rfl (hb hby d14_17) k) ?_
  refine own_by (T' := s₁) (g' := (mkF m 26 #[.val (.ref ca), .val (.int (0 : Int32)), .val (.ref ba), .val (.int (0 : Int32)), .val (.int (1 : Int32)), .val (.int (0 : Int32)), .val (.int c0)] [])) (fun _ k => XS.icmpYes X0.here hx rfl (pc0 := 20) (pc' := 26) rfl (hb hby d14_20) rfl (flt hc0).2.2.2 (by decide) (by decide) k) ?_
  refine own_by (T' := s₁) (g' := (mkF m 27 #[.val (.ref ca), .val (.int (0 : Int32)), .val (.ref ba), .val (.int (0 : Int32)), .val (.int (1 : Int32)), .val (.int (0 : Int32)), .val (.int c0)] [(.ref ba)])) (fun _ k => XS.aloadN X0.here hx rfl (hb hby d14_26) rfl rfl k) ?_
  refine own_by (T' := s₁) (g' := (mkF m 28 #[.val (.ref ca), .val (.int (0 : Int32)), .val (.ref ba), .val (.int (0 : Int32)), .val (.int (1 : Int32)), .val (.int (0 : Int32)), .val (.int c0)] [(.int (0 : Int32)), (.ref ba)])) (fun _ k => XS.iloadN X0.here hx rfl (hb hby d14_27) rfl k) ?_
  refine own_by (T' := s₁) (g' := (mkF m 30 #[.val (.ref ca), .val (.int (0 : Int32)), .val (.ref ba), .val (.int (0 : Int32)), .val (.int (1 : Int32)), .val (.int (0 : Int32)), .val (.int c0)] [(.int c0), (.int (0 : Int32)), (.ref ba)])) (fun _ k => XS.iload X0.here hx rfl (hb hby d14_28) rfl k) ?_
  refine own_by (T' := s₁) (g' := (mkF m 31 #[.val (.ref ca), .val (.int (0 : Int32)), .val (.ref ba), .val (.int (0 : Int32)), .val (.int (1 : Int32)), .val (.int (0 : Int32)), .val (.int c0)] [(.int (c0.toInt8.toInt32)), (.int (0 : Int32)), (.ref ba)])) (fun _ k => XS.i2b X0.here hx rfl (hb hby d14_30) rfl k) ?_
  obtain ⟨cl22, Ar22, q22, S22, N_22, H22, G22⟩ := id V_ba
  have hin22 : ¬ ((0 : Int32) < 0 ∨ cl22.slots.size ≤ ((0 : Int32)).toNatClampNeg) := inb_of S22 ⟨by decide, by decide⟩
  obtain ⟨T23, h23, X23, e23, W23, st23⟩ := stB X0 hx hZ e0 Ar22 (j := (0 : Int32)) hin22 (g := (mkF m 31 #[.val (.ref ca), .val (.int (0 : Int32)), .val (.ref ba), .val (.int (0 : Int32)), .val (.int (1 : Int32)), .val (.int (0 : Int32)), .val (.int c0)] [(.int (c0.toInt8.toInt32)), (.int (0 : Int32)), (.ref ba)])) rfl rfl (hb hby d14_31)
  have V23 : Arv Z h23 ba kb .byte (1 : Int32) [(.int (nar .byte (c0.toInt8.toInt32)))] (.int (0 : Int32)) := Arv.set Ar22 q22 S22 N_22 H22 G22 (fits_nar_byte _) W23 0 rfl (Nat.le_of_ble_eq_true rfl)
  have K23 : Keep h0 h23 [ba] := Keep.wr (Keep.refl h0 [ba]) W23 (Or.inl (List.mem_of_getElem? (i := 0) rfl))
  have N23 := Fr.snoc X23 N0 g_ba
  refine own_by (T' := T23) (g' := (mkF m 32 #[.val (.ref ca), .val (.int (0 : Int32)), .val (.ref ba), .val (.int (0 : Int32)), .val (.int (1 : Int32)), .val (.int (0 : Int32)), .val (.int c0)] [])) (fun _ k => st23 _ k) ?_
  refine own_by (T' := T23) (g' := (mkF m 35 #[.val (.ref ca), .val (.int (1 : Int32)), .val (.ref ba), .val (.int (0 : Int32)), .val (.int (1 : Int32)), .val (.int (0 : Int32)), .val (.int c0)] [])) (fun _ k => XS.iinc X23.here hx rfl (hb hby d14_32) rfl (l' := #[.val (.ref ca), .val (.int (1 : Int32)), .val (.ref ba), .val (.int (0 : Int32)), .val (.int (1 : Int32)), .val (.int (0 : Int32)), .val (.int c0)]) rfl k) ?_
  refine own_by (T' := T23) (g' := (mkF m 38 #[.val (.ref ca), .val (.int (1 : Int32)), .val (.ref ba), .val (.int (1 : Int32)), .val (.int (1 : Int32)), .val (.int (0 : Int32)), .val (.int c0)] [])) (fun _ k => XS.iinc X23.here hx rfl (hb hby d14_35) rfl (l' := #[.val (.ref ca), .val (.int (1 : Int32)), .val (.ref ba), .val (.int (1 : Int32)), .val (.int (1 : Int32)), .val (.int (0 : Int32)), .val (.int c0)]) rfl k) ?_
  refine own_by (T' := T23) (g' := (mkF m 41 #[.val (.ref ca), .val (.int (1 : Int32)), .val (.ref ba), .val (.int (1 : Int32)), .val (.int (1 : Int32)), .val (.int (1 : Int32)), .val (.int c0)] [])) (fun _ k => XS.iinc X23.here hx rfl (hb hby d14_38) rfl (l' := #[.val (.ref ca), .val (.int (1 : Int32)), .val (.ref ba), .val (.int (1 : Int32)), .val (.int (1 : Int32)), .val (.int (1 : Int32)), .val (.int c0)]) rfl k) ?_
  refine own_by (T' := T23) (g' := (mkF m 3 #[.val (.ref ca), .val (.int (1 : Int32)), .val (.ref ba), .val (.int (1 : Int32)), .val (.int (1 : Int32)), .val (.int (1 : Int32)), .val (.int c0)] [])) (fun _ k => XS.goto X23.here hx rfl (pc0 := 41) (pc' := 3) rfl (hb hby d14_41) (by decide) (by decide) k) ?_
  refine own_by (T' := T23) (g' := (mkF m 5 #[.val (.ref ca), .val (.int (1 : Int32)), .val (.ref ba), .val (.int (1 : Int32)), .val (.int (1 : Int32)), .val (.int (1 : Int32)), .val (.int c0)] [(.int (1 : Int32))])) (fun _ k => XS.iload X23.here hx rfl (hb hby d14_3) rfl k) ?_
  refine own_by (T' := T23) (g' := (mkF m 7 #[.val (.ref ca), .val (.int (1 : Int32)), .val (.ref ba), .val (.int (1 : Int32)), .val (.int (1 : Int32)), .val (.int (1 : Int32)), .val (.int c0)] [(.int (1 : Int32)), (.int (1 : Int32))])) (fun _ k => XS.iload X23.here hx rfl (hb hby d14_5) rfl k) ?_
  refine own_by (T' := T23) (g' := (mkF m 44 #[.val (.ref ca), .val (.int (1 : Int32)), .val (.ref ba), .val (.int (1 : Int32)), .val (.int (1 : Int32)), .val (.int (1 : Int32)), .val (.int c0)] [])) (fun _ k => XS.icmpYes X23.here hx rfl (pc0 := 7) (pc' := 44) rfl (hb hby d14_7) rfl (flt (by decide)).2.1 (by decide) (by decide) k) ?_
  refine own_by (T' := T23) (g' := (mkF m 46 #[.val (.ref ca), .val (.int (1 : Int32)), .val (.ref ba), .val (.int (1 : Int32)), .val (.int (1 : Int32)), .val (.int (1 : Int32)), .val (.int c0)] [(.int (1 : Int32))])) (fun _ k => XS.iload X23.here hx rfl (hb hby d14_44) rfl k) ?_
  refine own_ret X23 hlk (v := some (.int (1 : Int32))) (fun h => by rw [Bd.returns] at h; cases h) (fun fs hr => retI X23 hx Bd.returns (hb hby d14_46) hr) ?_ (by decide) (by decide)
  rw [e23]
  exact ⟨rfl, N23, K23, V23⟩
theorem d13_0 : decode jdk_52_method_16_code 0 = .ok (.iload_n 2, 1) := by decide +kernel
theorem d13_1 : decode jdk_52_method_16_code 1 = .ok (.newarray .byte, 2) := by decide +kernel
theorem d13_3 : decode jdk_52_method_16_code 3 = .ok (.astore_n 3, 1) := by decide +kernel
theorem d13_4 : decode jdk_52_method_16_code 4 = .ok (.aload_n 0, 1) := by decide +kernel
theorem d13_5 : decode jdk_52_method_16_code 5 = .ok (.iload_n 1, 1) := by decide +kernel
theorem d13_6 : decode jdk_52_method_16_code 6 = .ok (.aload_n 3, 1) := by decide +kernel
theorem d13_7 : decode jdk_52_method_16_code 7 = .ok (.iconst 0, 1) := by decide +kernel
theorem d13_8 : decode jdk_52_method_16_code 8 = .ok (.iload_n 2, 1) := by decide +kernel
theorem d13_9 : decode jdk_52_method_16_code 9 = .ok (.invokestatic 115, 3) := by decide +kernel
theorem d13_12 : decode jdk_52_method_16_code 12 = .ok (.istore 4, 2) := by decide +kernel
theorem d13_14 : decode jdk_52_method_16_code 14 = .ok (.iload 4, 2) := by decide +kernel
theorem d13_16 : decode jdk_52_method_16_code 16 = .ok (.iload_n 2, 1) := by decide +kernel
theorem d13_17 : decode jdk_52_method_16_code 17 = .ok (.if_icmp .eq 40, 3) := by decide +kernel
theorem d13_57 : decode jdk_52_method_16_code 57 = .ok (.aload_n 3, 1) := by decide +kernel
theorem d13_58 : decode jdk_52_method_16_code 58 = .ok (.areturn, 1) := by decide +kernel
theorem pn_13 : plainName "java/lang/StringUTF16" = true := by first | (simp [plainName, overriddenIn]; done) | decide +kernel
theorem ef_cmp3_1 (m : MethodId) (ca : Addr) : entryFrame m #[(.ref ca), (.int (0 : Int32)), (.int (1 : Int32))] 6 = mkF m 0 #[.val (.ref ca), .val (.int (0 : Int32)), .val (.int (1 : Int32)), .unset, .unset, .unset] [] := by first | (simp [entryFrame, mkF, argsToLocals, Value.category]; done) | rfl
def Q_cmp3_1 (Z : State) (ca : Addr) (kc : ClassId) (c0 : Int32) (h0 : Heap) (n0 : Nat) (v : Option Value) (h : Heap) (L : List Loc) : Prop := ∃ (t : Addr) (kb : ClassId), v = some (.ref t) ∧ Fr n0 L ∧ Keep h0 h [] ∧ h0.size ≤ t ∧ Arv Z h t kb .byte (1 : Int32) [(.int (nar .byte (c0.toInt8.toInt32)))] (.int (0 : Int32))
set_option maxRecDepth 65536 in
set_option maxHeartbeats 40000000 in
theorem cmp3_1 (l : Launch) (Z : State) (a0 : Array Value) (hw : ∀ d ∈ tables_1, d.before a0 Z = true) (ws : List Jvm.Cond) (ca : Addr) (kc : ClassId) (c0 : Int32) (h0 : Heap) (n0 : Nat) (Z0 : n0 ≤ h0.size) (V_ca : Arv Z h0 ca kc .char (1 : Int32) [(.int c0)] (.int (0 : Int32))) (hc0 : ¬ (255 : Int32) < c0) :
    MetFree l (⟨"java/lang/StringUTF16", "compress", "([CII)[B"⟩ : MethodName) (head1 (Jvm.Cond.code (⟨"java/lang/StringUTF16", "compress", "([CII)[B"⟩ : MethodName) jdk_52_method_16_code 6 (some (.array .byte)) :: ws) ({ frames := 1, cells := 1, slots := 1, locals := 18 } : Room)) (fun zz UU => zz = #[(.ref ca), (.int (0 : Int32)), (.int (1 : Int32))] ∧ Z.Warmed39 UU.vm ∧ UU.heap = h0) (fun _ _ _ _ _ => True) (fun _ U o U' => ∃ v L, o = .returned v ∧ Q_cmp3_1 Z ca kc c0 h0 n0 v U'.heap L ∧ FrameEnd U o U' L ({ frames := 1, cells := 1, slots := 1, locals := 18 } : Room).cells ({ frames := 1, cells := 1, slots := 1, locals := 18 } : Room).slots) := by
  refine MetFree.of_bodySF (plainFor_of_name pn_13) hisR ?_
  intro p e s m args below meth c s₁ Bd hml0 hP hK
  obtain ⟨rfl, hZ, hh⟩ := hP
  have hx := Bd.exec
  have hby := Bd.bytes
  have hml : c.maxLocals = 6 := hml0
  have hown : s.vm.findClass "java/lang/StringUTF16" = some m.cls := findClass_of_methodNamed Bd.named
  have hnm := (name_of_methodNamed Bd.named Bd.method).1
  have hlk : meth.locks = false := BodyLoose.notSynchronized Bd
  have X0 : Stand p l e ({ frames := 1, cells := 1, slots := 1, locals := 18 } : Room) s m #[(.ref ca), (.int (0 : Int32)), (.int (1 : Int32))] below meth c s₁ [] 0 0 := Stand.of_body Bd
  have e0 : s₁.heap = h0 := by rw [← hh, Bd.state]; rfl
  have N0 := Fr.nil n0
  show own_Go p.tables e below (Q_cmp3_1 Z ca kc c0 h0 n0) s ({ frames := 1, cells := 1, slots := 1, locals := 18 } : Room).cells ({ frames := 1, cells := 1, slots := 1, locals := 18 } : Room).slots s₁ (entryFrame m #[(.ref ca), (.int (0 : Int32)), (.int (1 : Int32))] 6)
  rw [ef_cmp3_1 m ca]
  refine own_by (T' := s₁) (g' := (mkF m 1 #[.val (.ref ca), .val (.int (0 : Int32)), .val (.int (1 : Int32)), .unset, .unset, .unset] [(.int (1 : Int32))])) (fun _ k => XS.iloadN X0.here hx rfl (hb hby d13_0) rfl k) ?_
  obtain ⟨T21, h21, k21, X21, e21, E21, A21, st21⟩ := newP X0 hx hZ (hw _ (List.mem_of_getElem? (i := 22) rfl)) e0 (g := (mkF m 1 #[.val (.ref ca), .val (.int (0 : Int32)), .val (.int (1 : Int32)), .unset, .unset, .unset] [(.int (1 : Int32))])) rfl (hb hby d13_1) rfl (by decide) (cap := 1) (by decide) (by decide) (by decide) (by decide)
  obtain ⟨b21, g21⟩ : ∃ z, z = h0.size := ⟨_, rfl⟩
  rw [← g21] at A21 st21
  have V_b21 : Arv Z h21 b21 k21 .byte (1 : Int32) [(.int (0 : Int32))] (.int (0 : Int32)) := (Arv.new A21 (by decide)).pad (pad_rep [] (.int (0 : Int32)) 1)
  have g_b21 : n0 ≤ b21 := Nat.le_trans Z0 (Nat.le_of_eq g21.symm)
  have sz_b21 : h0.size ≤ b21 := Nat.le_trans (Keep.refl h0 []).1 (Nat.le_of_eq g21.symm)
  have K21 : Keep h0 h21 [] := Keep.ext (Keep.refl h0 []) E21
  refine own_by (T' := T21) (g' := (mkF m 3 #[.val (.ref ca), .val (.int (0 : Int32)), .val (.int (1 : Int32)), .unset, .unset, .unset] [(.ref b21)])) (fun _ k => st21 _ k) ?_
  refine own_by (T' := T21) (g' := (mkF m 4 #[.val (.ref ca), .val (.int (0 : Int32)), .val (.int (1 : Int32)), .val (.ref b21), .unset, .unset] [])) (fun _ k => XS.astoreN X21.here hx rfl (hb hby d13_3) rfl rfl (l' := #[.val (.ref ca), .val (.int (0 : Int32)), .val (.int (1 : Int32)), .val (.ref b21), .unset, .unset]) rfl k) ?_
  refine own_by (T' := T21) (g' := (mkF m 5 #[.val (.ref ca), .val (.int (0 : Int32)), .val (.int (1 : Int32)), .val (.ref b21), .unset, .unset] [(.ref ca)])) (fun _ k => XS.aloadN X21.here hx rfl (hb hby d13_4) rfl rfl k) ?_
  refine own_by (T' := T21) (g' := (mkF m 6 #[.val (.ref ca), .val (.int (0 : Int32)), .val (.int (1 : Int32)), .val (.ref b21), .unset, .unset] [(.int (0 : Int32)), (.ref ca)])) (fun _ k => XS.iloadN X21.here hx rfl (hb hby d13_5) rfl k) ?_
  refine own_by (T' := T21) (g' := (mkF m 7 #[.val (.ref ca), .val (.int (0 : Int32)), .val (.int (1 : Int32)), .val (.ref b21), .unset, .unset] [(.ref b21), (.int (0 : Int32)), (.ref ca)])) (fun _ k => XS.aloadN X21.here hx rfl (hb hby d13_6) rfl rfl k) ?_
  refine own_by (T' := T21) (g' := (mkF m 8 #[.val (.ref ca), .val (.int (0 : Int32)), .val (.int (1 : Int32)), .val (.ref b21), .unset, .unset] [(.int (0 : Int32)), (.ref b21), (.int (0 : Int32)), (.ref ca)])) (fun _ k => XS.iconst X21.here hx rfl (hb hby d13_7) k) ?_
  refine own_by (T' := T21) (g' := (mkF m 9 #[.val (.ref ca), .val (.int (0 : Int32)), .val (.int (1 : Int32)), .val (.ref b21), .unset, .unset] [(.int (1 : Int32)), (.int (0 : Int32)), (.ref b21), (.int (0 : Int32)), (.ref ca)])) (fun _ k => XS.iloadN X21.here hx rfl (hb hby d13_8) rfl k) ?_
  obtain ⟨_, _, ⟨T22, L22, k22, n22⟩, -, X22, ⟨Lc22, hQ22, l22, y22, z22⟩, st22⟩ := Jvm.LawKit.callS X21 hx (y := (⟨"java/lang/StringUTF16", "compress", "([CI[BII)I"⟩ : MethodName)) hown (mvT hZ (hw _ (List.mem_of_getElem? (i := 79) rfl))) (mvT hZ (hw _ (List.mem_of_getElem? (i := 80) rfl))) (mvT hZ (hw _ (List.mem_of_getElem? (i := 77) rfl))) (mvT hZ (hw _ (List.mem_of_getElem? (i := 81) rfl))) (by decide) (backOf (W := 0) (cmp5_1 l Z a0 hw [] ca b21 kc k21 c0 h21 n0 (Nat.le_trans Z0 E21.1) (Arv.ext V_ca E21) V_b21 g_b21 (Nat.ne_of_lt (Nat.lt_of_lt_of_le V_ca.lt (Nat.le_of_eq g21.symm))) hc0) hZ (hw _ (List.mem_of_getElem? (i := 81) rfl)) (hw _ (List.mem_of_getElem? (i := 77) rfl)) (by decide) (by decide)) (g := (mkF m 9 #[.val (.ref ca), .val (.int (0 : Int32)), .val (.int (1 : Int32)), .val (.ref b21), .unset, .unset] [(.int (1 : Int32)), (.int (0 : Int32)), (.ref b21), (.int (0 : Int32)), (.ref ca)])) rfl (by rw [hml]; rfl) (argsL := [(.ref ca), (.int (0 : Int32)), (.ref b21), (.int (0 : Int32)), (.int (1 : Int32))]) (rest := []) (lenOf pd_0 rfl) rfl (by show 2 * 0 + _ ≤ _; exact Nat.le_of_eq rfl) (hb hby d13_9) (fun _ _ => ⟨rfl, e21, (by decide : (0 + 1) + 0 ≤ _), (by decide : (0 + 1) + 0 ≤ _)⟩)
  dsimp only [Pt.U, Pt.locs, Pt.cells, Pt.slots] at X22 l22 y22 z22 st22 hQ22
  subst l22 y22 z22
  obtain ⟨rfl, N22q, K22, V5_22⟩ := hQ22
  have N22 := Fr.app N0 N22q
  have KK22 : Keep h0 T22.heap [] := Keep.trans K21 K22 (allS (Or.inr sz_b21) all0)
  refine own_by (T' := T22) (g' := (mkF m 12 #[.val (.ref ca), .val (.int (0 : Int32)), .val (.int (1 : Int32)), .val (.ref b21), .unset, .unset] [(.int (1 : Int32))])) (fun _ k => st22 _ k) ?_
  refine own_by (T' := T22) (g' := (mkF m 14 #[.val (.ref ca), .val (.int (0 : Int32)), .val (.int (1 : Int32)), .val (.ref b21), .val (.int (1 : Int32)), .unset] [])) (fun _ k => XS.istore X22.here hx rfl (hb hby d13_12) rfl (l' := #[.val (.ref ca), .val (.int (0 : Int32)), .val (.int (1 : Int32)), .val (.ref b21), .val (.int (1 : Int32)), .unset]) rfl k) ?_
  refine own_by (T' := T22) (g' := (mkF m 16 #[.val (.ref ca), .val (.int (0 : Int32)), .val (.int (1 : Int32)), .val (.ref b21), .val (.int (1 : Int32)), .unset] [(.int (1 : Int32))])) (fun _ k => XS.iload X22.here hx rfl (hb hby d13_14) rfl k) ?_
  refine own_by (T' := T22) (g' := (mkF m 17 #[.val (.ref ca), .val (.int (0 : Int32)), .val (.int (1 : Int32)), .val (.ref b21), .val (.int (1 : Int32)), .unset] [(.int (1 : Int32)), (.int (1 : Int32))])) (fun _ k => XS.iloadN X22.here hx rfl (hb hby d13_16) rfl k) ?_
  refine own_by (T' := T22) (g' := (mkF m 57 #[.val (.ref ca), .val (.int (0 : Int32)), .val (.int (1 : Int32)), .val (.ref b21), .val (.int (1 : Int32)), .unset] [])) (fun _ k => XS.icmpYes X22.here hx rfl (pc0 := 17) (pc' := 57) rfl (hb hby d13_17) rfl (teq (by decide)).1 (by decide) (by decide) k) ?_
  refine own_by (T' := T22) (g' := (mkF m 58 #[.val (.ref ca), .val (.int (0 : Int32)), .val (.int (1 : Int32)), .val (.ref b21), .val (.int (1 : Int32)), .unset] [(.ref b21)])) (fun _ k => XS.aloadN X22.here hx rfl (hb hby d13_57) rfl rfl k) ?_
  refine own_ret X22 hlk (v := some (.ref b21)) (fun h => by rw [Bd.returns] at h; cases h) (fun fs hr => retOut X22 hx Bd.returns rfl (Or.inr (Or.inr (Or.inr (Or.inr ⟨rfl, rfl, rfl⟩)))) (hb hby d13_58) hr) ?_ (by decide) (by decide)
  exact ⟨_, _, rfl, N22, KK22, sz_b21, V5_22⟩
theorem d15_0 : decode jdk_52_method_15_code 0 = .ok (.iload_n 1, 1) := by decide +kernel
theorem d15_1 : decode jdk_52_method_15_code 1 = .ok (.aload_n 0, 1) := by decide +kernel
theorem d15_2 : decode jdk_52_method_15_code 2 = .ok (.arraylength, 1) := by decide +kernel
theorem d15_3 : decode jdk_52_method_15_code 3 = .ok (.isub, 1) := by decide +kernel
theorem d15_4 : decode jdk_52_method_15_code 4 = .ok (.bipush 31, 2) := by decide +kernel
theorem d15_6 : decode jdk_52_method_15_code 6 = .ok (.iushr, 1) := by decide +kernel
theorem d15_7 : decode jdk_52_method_15_code 7 = .ok (.i2b, 1) := by decide +kernel
theorem d15_8 : decode jdk_52_method_15_code 8 = .ok (.ireturn, 1) := by decide +kernel
theorem pn_15 : plainName "java/lang/StringUTF16" = true := by first | (simp [plainName, overriddenIn]; done) | decide +kernel
theorem ef_cod_1 (m : MethodId) (ba : Addr) : entryFrame m #[(.ref ba), (.int (1 : Int32))] 2 = mkF m 0 #[.val (.ref ba), .val (.int (1 : Int32))] [] := by first | (simp [entryFrame, mkF, argsToLocals, Value.category]; done) | rfl
def Q_cod_1 (Z : State) (ba : Addr) (kb : ClassId) (c0 : Int32) (h0 : Heap) (n0 : Nat) (v : Option Value) (h : Heap) (L : List Loc) : Prop := v = some (.int (0 : Int32)) ∧ Fr n0 L ∧ h = h0
set_option maxRecDepth 65536 in
set_option maxHeartbeats 40000000 in
theorem cod_1 (l : Launch) (Z : State) (a0 : Array Value) (hw : ∀ d ∈ tables_1, d.before a0 Z = true) (ws : List Jvm.Cond) (ba : Addr) (kb : ClassId) (c0 : Int32) (h0 : Heap) (n0 : Nat) (Z0 : n0 ≤ h0.size) (V_ba : Arv Z h0 ba kb .byte (1 : Int32) [(.int (nar .byte (c0.toInt8.toInt32)))] (.int (0 : Int32))) :
    MetFree l (⟨"java/lang/StringUTF16", "coderFromArrayLen", "([BI)B"⟩ : MethodName) (head1 (Jvm.Cond.code (⟨"java/lang/StringUTF16", "coderFromArrayLen", "([BI)B"⟩ : MethodName) jdk_52_method_15_code 2 (some .byte) :: ws) ({ frames := 0, cells := 0, slots := 0, locals := 0 } : Room)) (fun zz UU => zz = #[(.ref ba), (.int (1 : Int32))] ∧ Z.Warmed39 UU.vm ∧ UU.heap = h0) (fun _ _ _ _ _ => True) (fun _ U o U' => ∃ v L, o = .returned v ∧ Q_cod_1 Z ba kb c0 h0 n0 v U'.heap L ∧ FrameEnd U o U' L ({ frames := 0, cells := 0, slots := 0, locals := 0 } : Room).cells ({ frames := 0, cells := 0, slots := 0, locals := 0 } : Room).slots) := by
  refine MetFree.of_bodySF (plainFor_of_name pn_15) hisR ?_
  intro p e s m args below meth c s₁ Bd hml0 hP hK
  obtain ⟨rfl, hZ, hh⟩ := hP
  have hx := Bd.exec
  have hby := Bd.bytes
  have hml : c.maxLocals = 2 := hml0
  have hown : s.vm.findClass "java/lang/StringUTF16" = some m.cls := findClass_of_methodNamed Bd.named
  have hnm := (name_of_methodNamed Bd.named Bd.method).1
  have hlk : meth.locks = false := BodyLoose.notSynchronized Bd
  have X0 : Stand p l e ({ frames := 0, cells := 0, slots := 0, locals := 0 } : Room) s m #[(.ref ba), (.int (1 : Int32))] below meth c s₁ [] 0 0 := Stand.of_body Bd
  have e0 : s₁.heap = h0 := by rw [← hh, Bd.state]; rfl
  have N0 := Fr.nil n0
  show own_Go p.tables e below (Q_cod_1 Z ba kb c0 h0 n0) s ({ frames := 0, cells := 0, slots := 0, locals := 0 } : Room).cells ({ frames := 0, cells := 0, slots := 0, locals := 0 } : Room).slots s₁ (entryFrame m #[(.ref ba), (.int (1 : Int32))] 2)
  rw [ef_cod_1 m ba]
  refine own_by (T' := s₁) (g' := (mkF m 1 #[.val (.ref ba), .val (.int (1 : Int32))] [(.int (1 : Int32))])) (fun _ k => XS.iloadN X0.here hx rfl (hb hby d15_0) rfl k) ?_
  refine own_by (T' := s₁) (g' := (mkF m 2 #[.val (.ref ba), .val (.int (1 : Int32))] [(.ref ba), (.int (1 : Int32))])) (fun _ k => XS.aloadN X0.here hx rfl (hb hby d15_1) rfl rfl k) ?_
  obtain ⟨cl21, Ar21, q21, S21, N_21, H21, G21⟩ := id V_ba
  refine own_by (T' := s₁) (g' := (mkF m 3 #[.val (.ref ba), .val (.int (1 : Int32))] [(.int (1 : Int32)), (.int (1 : Int32))])) (fun _ k => X0.arraylength hx (by rw [e0]; exact Ar21.1) (State.isArrayOf_alike hZ.alike Ar21.2.1) (g := (mkF m 2 #[.val (.ref ba), .val (.int (1 : Int32))] [(.ref ba), (.int (1 : Int32))])) rfl rfl (hb hby d15_2) _ (by rw [len_of S21 N_21]; exact k)) ?_
  refine own_by (T' := s₁) (g' := (mkF m 4 #[.val (.ref ba), .val (.int (1 : Int32))] [(.int (0 : Int32))])) (fun _ k => XS.isub X0.here hx rfl (hb hby d15_3) rfl k) ?_
  refine own_by (T' := s₁) (g' := (mkF m 6 #[.val (.ref ba), .val (.int (1 : Int32))] [(.int (31 : Int32)), (.int (0 : Int32))])) (fun _ k => XS.bipush X0.here hx rfl (hb hby d15_4) k) ?_
  refine own_by (T' := s₁) (g' := (mkF m 7 #[.val (.ref ba), .val (.int (1 : Int32))] [(.int (0 : Int32))])) (fun _ k => XS.iushr X0.here hx rfl (hb hby d15_6) rfl k) ?_
  refine own_by (T' := s₁) (g' := (mkF m 8 #[.val (.ref ba), .val (.int (1 : Int32))] [(.int (0 : Int32))])) (fun _ k => XS.i2b X0.here hx rfl (hb hby d15_7) rfl k) ?_
  refine own_ret X0 hlk (v := some (.int (0 : Int32))) (fun h => by rw [Bd.returns] at h; cases h) (fun fs hr => retN X0 hx (t := .byte) Bd.returns (by simp) (hb hby d15_8) hr) ?_ (by decide) (by decide)
  rw [e0]
  exact ⟨rfl, N0, rfl⟩
theorem d4_0 : decode jdk_42_method_149_code 0 = .ok (.aload_n 0, 1) := by decide +kernel
theorem d4_1 : decode jdk_42_method_149_code 1 = .ok (.invokespecial 1, 3) := by decide +kernel
theorem d4_4 : decode jdk_42_method_149_code 4 = .ok (.iload_n 3, 1) := by decide +kernel
theorem d4_5 : decode jdk_42_method_149_code 5 = .ok (.ifCond .ne 22, 3) := by decide +kernel
theorem d4_27 : decode jdk_42_method_149_code 27 = .ok (.getstatic 38, 3) := by decide +kernel
theorem d4_30 : decode jdk_42_method_149_code 30 = .ok (.ifCond .eq 28, 3) := by decide +kernel
theorem d4_33 : decode jdk_42_method_149_code 33 = .ok (.aload_n 1, 1) := by decide +kernel
theorem d4_34 : decode jdk_42_method_149_code 34 = .ok (.iload_n 2, 1) := by decide +kernel
theorem d4_35 : decode jdk_42_method_149_code 35 = .ok (.iload_n 3, 1) := by decide +kernel
theorem d4_36 : decode jdk_42_method_149_code 36 = .ok (.invokestatic 177, 3) := by decide +kernel
theorem d4_39 : decode jdk_42_method_149_code 39 = .ok (.astore 5, 2) := by decide +kernel
theorem d4_41 : decode jdk_42_method_149_code 41 = .ok (.aload_n 0, 1) := by decide +kernel
theorem d4_42 : decode jdk_42_method_149_code 42 = .ok (.aload 5, 2) := by decide +kernel
theorem d4_44 : decode jdk_42_method_149_code 44 = .ok (.iload_n 3, 1) := by decide +kernel
theorem d4_45 : decode jdk_42_method_149_code 45 = .ok (.invokestatic 47, 3) := by decide +kernel
theorem d4_48 : decode jdk_42_method_149_code 48 = .ok (.putfield 15, 3) := by decide +kernel
theorem d4_51 : decode jdk_42_method_149_code 51 = .ok (.aload_n 0, 1) := by decide +kernel
theorem d4_52 : decode jdk_42_method_149_code 52 = .ok (.aload 5, 2) := by decide +kernel
theorem d4_54 : decode jdk_42_method_149_code 54 = .ok (.putfield 9, 3) := by decide +kernel
theorem d4_57 : decode jdk_42_method_149_code 57 = .ok (.return_, 1) := by decide +kernel
theorem pn_4 : plainName "java/lang/String" = true := by first | (simp [plainName, overriddenIn]; done) | decide +kernel
theorem ef_sin4_1 (m : MethodId) (a : Addr) (ca : Addr) : entryFrame m #[(.ref a), (.ref ca), (.int (0 : Int32)), (.int (1 : Int32)), .null] 6 = mkF m 0 #[.val (.ref a), .val (.ref ca), .val (.int (0 : Int32)), .val (.int (1 : Int32)), .val .null, .unset] [] := by first | (simp [entryFrame, mkF, argsToLocals, Value.category]; done) | rfl
def Q_sin4_1 (Z : State) (a : Addr) (ca : Addr) (kc : ClassId) (cs : Int32) (c0 : Int32) (h0 : Heap) (n0 : Nat) (v : Option Value) (h : Heap) (L : List Loc) : Prop := v = none ∧ Fr n0 L ∧ Keep h0 h [a] ∧ Fld Z h a "java/lang/String" "coder" "B" (.int (0 : Int32)) ∧ ∃ (t : Addr) (kb : ClassId), h0.size ≤ t ∧ Fld Z h a "java/lang/String" "value" "[B" (.ref t) ∧ Arv Z h t kb .byte (1 : Int32) [(.int (nar .byte (c0.toInt8.toInt32)))] (.int (0 : Int32))
set_option maxRecDepth 65536 in
set_option maxHeartbeats 40000000 in
theorem sin4_1 (l : Launch) (Z : State) (a0 : Array Value) (hw : ∀ d ∈ tables_1, d.before a0 Z = true) (ws : List Jvm.Cond) (a : Addr) (ca : Addr) (kc : ClassId) (cs : Int32) (c0 : Int32) (h0 : Heap) (n0 : Nat) (Z0 : n0 ≤ h0.size) (E_a : Exa Z h0 a "java/lang/String") (F_value_a : Fld Z h0 a "java/lang/String" "value" "[B" .null) (F_coder_a : Fld Z h0 a "java/lang/String" "coder" "B" (.int (0 : Int32))) (g_a : n0 ≤ a) (V_ca : Arv Z h0 ca kc .char (1 : Int32) [(.int c0)] (.int (0 : Int32))) (S_CS : Sta Z h0 "java/lang/String" "COMPACT_STRINGS" "Z" (.int cs)) (hcs : ¬ cs = (0 : Int32)) (hc0 : ¬ (255 : Int32) < c0) :
    MetFree l (⟨"java/lang/String", "<init>", "([CIILjava/lang/Void;)V"⟩ : MethodName) (head1 (Jvm.Cond.code (⟨"java/lang/String", "<init>", "([CIILjava/lang/Void;)V"⟩ : MethodName) jdk_42_method_149_code 6 none :: ws) ({ frames := 2, cells := 1, slots := 1, locals := 35 } : Room)) (fun zz UU => zz = #[(.ref a), (.ref ca), (.int (0 : Int32)), (.int (1 : Int32)), .null] ∧ Z.Warmed39 UU.vm ∧ UU.heap = h0) (fun _ _ _ _ _ => True) (fun _ U o U' => ∃ v L, o = .returned v ∧ Q_sin4_1 Z a ca kc cs c0 h0 n0 v U'.heap L ∧ FrameEnd U o U' L ({ frames := 2, cells := 1, slots := 1, locals := 35 } : Room).cells ({ frames := 2, cells := 1, slots := 1, locals := 35 } : Room).slots) := by
  refine MetFree.of_bodySF (plainFor_of_name pn_4) hisR ?_
  intro p e s m args below meth c s₁ Bd hml0 hP hK
  obtain ⟨rfl, hZ, hh⟩ := hP
  have hx := Bd.exec
  have hby := Bd.bytes
  have hml : c.maxLocals = 6 := hml0
  have hown : s.vm.findClass "java/lang/String" = some m.cls := findClass_of_methodNamed Bd.named
  have hnm := (name_of_methodNamed Bd.named Bd.method).1
  have hlk : meth.locks = false := BodyLoose.notSynchronized Bd
  have X0 : Stand p l e ({ frames := 2, cells := 1, slots := 1, locals := 35 } : Room) s m #[(.ref a), (.ref ca), (.int (0 : Int32)), (.int (1 : Int32)), .null] below meth c s₁ [] 0 0 := Stand.of_body Bd
  have e0 : s₁.heap = h0 := by rw [← hh, Bd.state]; rfl
  have N0 := Fr.nil n0
  show own_Go p.tables e below (Q_sin4_1 Z a ca kc cs c0 h0 n0) s ({ frames := 2, cells := 1, slots := 1, locals := 35 } : Room).cells ({ frames := 2, cells := 1, slots := 1, locals := 35 } : Room).slots s₁ (entryFrame m #[(.ref a), (.ref ca), (.int (0 : Int32)), (.int (1 : Int32)), .null] 6)
  rw [ef_sin4_1 m a ca]
  refine own_by (T' := s₁) (g' := (mkF m 1 #[.val (.ref a), .val (.ref ca), .val (.int (0 : Int32)), .val (.int (1 : Int32)), .val .null, .unset] [(.ref a)])) (fun _ k => XS.aloadN X0.here hx rfl (hb hby d4_0) rfl rfl k) ?_
  obtain ⟨T21, X21, e21, st21⟩ := initO X0 hx hZ hown (hw _ (List.mem_of_getElem? (i := 18) rfl)) (hw _ (List.mem_of_getElem? (i := 19) rfl)) (hw _ (List.mem_of_getElem? (i := 20) rfl)) e0 (g := (mkF m 1 #[.val (.ref a), .val (.ref ca), .val (.int (0 : Int32)), .val (.int (1 : Int32)), .val .null, .unset] [(.ref a)])) rfl (by rw [hml]; rfl) rfl (hb hby d4_1) (by decide) (W := 0) (by show 2 * 0 + _ ≤ _; exact Nat.le_of_eq rfl) (by decide)
  refine own_by (T' := T21) (g' := (mkF m 4 #[.val (.ref a), .val (.ref ca), .val (.int (0 : Int32)), .val (.int (1 : Int32)), .val .null, .unset] [])) (fun _ k => st21 _ k) ?_
  refine own_by (T' := T21) (g' := (mkF m 5 #[.val (.ref a), .val (.ref ca), .val (.int (0 : Int32)), .val (.int (1 : Int32)), .val .null, .unset] [(.int (1 : Int32))])) (fun _ k => XS.iloadN X21.here hx rfl (hb hby d4_4) rfl k) ?_
  refine own_by (T' := T21) (g' := (mkF m 27 #[.val (.ref a), .val (.ref ca), .val (.int (0 : Int32)), .val (.int (1 : Int32)), .val .null, .unset] [])) (fun _ k => XS.ifYes X21.here hx rfl (pc0 := 5) (pc' := 27) rfl (hb hby d4_5) rfl ((if0 _ _).trans (feq (by decide)).2) (by decide) (by decide) k) ?_
  obtain ⟨T22, X22, e22, st22⟩ := getS2 X21 hx hZ hown (host := "") (Or.inl (hw _ (List.mem_of_getElem? (i := 69) rfl))) Via.refl e21 S_CS (g := (mkF m 27 #[.val (.ref a), .val (.ref ca), .val (.int (0 : Int32)), .val (.int (1 : Int32)), .val .null, .unset] [])) rfl (hb hby d4_27)
  refine own_by (T' := T22) (g' := (mkF m 30 #[.val (.ref a), .val (.ref ca), .val (.int (0 : Int32)), .val (.int (1 : Int32)), .val .null, .unset] [(.int cs)])) (fun _ k => st22 _ k) ?_
  refine own_by (T' := T22) (g' := (mkF m 33 #[.val (.ref a), .val (.ref ca), .val (.int (0 : Int32)), .val (.int (1 : Int32)), .val .null, .unset] [])) (fun _ k => XS.ifNo X22.here hx rfl (hb hby d4_30) rfl ((if0 _ _).trans (feq hcs).1) k) ?_
  refine own_by (T' := T22) (g' := (mkF m 34 #[.val (.ref a), .val (.ref ca), .val (.int (0 : Int32)), .val (.int (1 : Int32)), .val .null, .unset] [(.ref ca)])) (fun _ k => XS.aloadN X22.here hx rfl (hb hby d4_33) rfl rfl k) ?_
  refine own_by (T' := T22) (g' := (mkF m 35 #[.val (.ref a), .val (.ref ca), .val (.int (0 : Int32)), .val (.int (1 : Int32)), .val .null, .unset] [(.int (0 : Int32)), (.ref ca)])) (fun _ k => XS.iloadN X22.here hx rfl (hb hby d4_34) rfl k) ?_
  refine own_by (T' := T22) (g' := (mkF m 36 #[.val (.ref a), .val (.ref ca), .val (.int (0 : Int32)), .val (.int (1 : Int32)), .val .null, .unset] [(.int (1 : Int32)), (.int (0 : Int32)), (.ref ca)])) (fun _ k => XS.iloadN X22.here hx rfl (hb hby d4_35) rfl k) ?_
  obtain ⟨_, _, ⟨T23, L23, k23, n23⟩, -, X23, ⟨Lc23, hQ23, l23, y23, z23⟩, st23⟩ := Jvm.LawKit.callS X22 hx (y := (⟨"java/lang/StringUTF16", "compress", "([CII)[B"⟩ : MethodName)) hown (mvT hZ (hw _ (List.mem_of_getElem? (i := 75) rfl))) (mvT hZ (hw _ (List.mem_of_getElem? (i := 76) rfl))) (mvT hZ (hw _ (List.mem_of_getElem? (i := 77) rfl))) (mvT hZ (hw _ (List.mem_of_getElem? (i := 78) rfl))) (by decide) (backOf (W := 0) (cmp3_1 l Z a0 hw [] ca kc c0 h0 n0 Z0 V_ca hc0) hZ (hw _ (List.mem_of_getElem? (i := 78) rfl)) (hw _ (List.mem_of_getElem? (i := 77) rfl)) (by decide) (by decide)) (g := (mkF m 36 #[.val (.ref a), .val (.ref ca), .val (.int (0 : Int32)), .val (.int (1 : Int32)), .val .null, .unset] [(.int (1 : Int32)), (.int (0 : Int32)), (.ref ca)])) rfl (by rw [hml]; rfl) (argsL := [(.ref ca), (.int (0 : Int32)), (.int (1 : Int32))]) (rest := []) (lenOf pd_1 rfl) rfl (by show 2 * 0 + _ ≤ _; exact Nat.le_of_eq rfl) (hb hby d4_36) (fun _ _ => ⟨rfl, e22, (by decide : 0 + 1 ≤ _), (by decide : 0 + 1 ≤ _)⟩)
  dsimp only [Pt.U, Pt.locs, Pt.cells, Pt.slots] at X23 l23 y23 z23 st23 hQ23
  subst l23 y23 z23
  obtain ⟨t23, kb23, rfl, N23q, K23, zt23, V23⟩ := hQ23
  have N23 := Fr.app N0 N23q
  have KK23 : Keep h0 T23.heap [a] := Keep.trans (Keep.refl h0 [a]) K23 all0
  have sz_t23 : h0.size ≤ t23 := Nat.le_trans (Keep.refl h0 [a]).1 zt23
  have g_t23 : n0 ≤ t23 := Nat.le_trans Z0 sz_t23
  refine own_by (T' := T23) (g' := (mkF m 39 #[.val (.ref a), .val (.ref ca), .val (.int (0 : Int32)), .val (.int (1 : Int32)), .val .null, .unset] [(.ref t23)])) (fun _ k => st23 _ k) ?_
  refine own_by (T' := T23) (g' := (mkF m 41 #[.val (.ref a), .val (.ref ca), .val (.int (0 : Int32)), .val (.int (1 : Int32)), .val .null, .val (.ref t23)] [])) (fun _ k => XS.astore X23.here hx rfl (hb hby d4_39) rfl rfl (l' := #[.val (.ref a), .val (.ref ca), .val (.int (0 : Int32)), .val (.int (1 : Int32)), .val .null, .val (.ref t23)]) rfl k) ?_
  refine own_by (T' := T23) (g' := (mkF m 42 #[.val (.ref a), .val (.ref ca), .val (.int (0 : Int32)), .val (.int (1 : Int32)), .val .null, .val (.ref t23)] [(.ref a)])) (fun _ k => XS.aloadN X23.here hx rfl (hb hby d4_41) rfl rfl k) ?_
  refine own_by (T' := T23) (g' := (mkF m 44 #[.val (.ref a), .val (.ref ca), .val (.int (0 : Int32)), .val (.int (1 : Int32)), .val .null, .val (.ref t23)] [(.ref t23), (.ref a)])) (fun _ k => XS.aload X23.here hx rfl (hb hby d4_42) rfl rfl k) ?_
  refine own_by (T' := T23) (g' := (mkF m 45 #[.val (.ref a), .val (.ref ca), .val (.int (0 : Int32)), .val (.int (1 : Int32)), .val .null, .val (.ref t23)] [(.int (1 : Int32)), (.ref t23), (.ref a)])) (fun _ k => XS.iloadN X23.here hx rfl (hb hby d4_44) rfl k) ?_
  obtain ⟨_, _, ⟨T24, L24, k24, n24⟩, -, X24, ⟨Lc24, hQ24, l24, y24, z24⟩, st24⟩ := Jvm.LawKit.callS X23 hx (y := (⟨"java/lang/StringUTF16", "coderFromArrayLen", "([BI)B"⟩ : MethodName)) hown (mvT hZ (hw _ (List.mem_of_getElem? (i := 82) rfl))) (mvT hZ (hw _ (List.mem_of_getElem? (i := 83) rfl))) (mvT hZ (hw _ (List.mem_of_getElem? (i := 77) rfl))) (mvT hZ (hw _ (List.mem_of_getElem? (i := 84) rfl))) (by decide) (backOf (W := 1) (cod_1 l Z a0 hw [] t23 kb23 c0 T23.heap n0 (Nat.le_trans Z0 K23.1) V23) hZ (hw _ (List.mem_of_getElem? (i := 84) rfl)) (hw _ (List.mem_of_getElem? (i := 77) rfl)) (by decide) (by decide)) (g := (mkF m 45 #[.val (.ref a), .val (.ref ca), .val (.int (0 : Int32)), .val (.int (1 : Int32)), .val .null, .val (.ref t23)] [(.int (1 : Int32)), (.ref t23), (.ref a)])) rfl (by rw [hml]; rfl) (argsL := [(.ref t23), (.int (1 : Int32))]) (rest := [(.ref a)]) (lenOf pd_2 rfl) rfl (by show 2 * 0 + _ ≤ _; exact Nat.le_of_eq rfl) (hb hby d4_45) (fun _ _ => ⟨rfl, rfl, (by decide : (0 + 1) + 0 ≤ _), (by decide : (0 + 1) + 0 ≤ _)⟩)
  dsimp only [Pt.U, Pt.locs, Pt.cells, Pt.slots] at X24 l24 y24 z24 st24 hQ24
  subst l24 y24 z24
  obtain ⟨rfl, N24q, e24⟩ := hQ24
  have N24 := Fr.app N23 N24q
  refine own_by (T' := T24) (g' := (mkF m 48 #[.val (.ref a), .val (.ref ca), .val (.int (0 : Int32)), .val (.int (1 : Int32)), .val .null, .val (.ref t23)] [(.int (0 : Int32)), (.ref a)])) (fun _ k => st24 _ k) ?_
  obtain ⟨T25, h25, X25, e25, W25, st25⟩ := putFN X24 hx hZ hown (hw _ (List.mem_of_getElem? (i := 28) rfl)) Via.refl e24 (Fld.keep F_coder_a K23 nin0) (Exa.keep E_a K23) (Or.inr ⟨(hw _ (List.mem_of_getElem? (i := 24) rfl)), rfl, hnm⟩) (hw _ (List.mem_of_getElem? (i := 8) rfl)) (ty := .byte) (v' := (.int (0 : Int32))) (by decide) rfl (by decide) (g := (mkF m 48 #[.val (.ref a), .val (.ref ca), .val (.int (0 : Int32)), .val (.int (1 : Int32)), .val .null, .val (.ref t23)] [(.int (0 : Int32)), (.ref a)])) rfl rfl (hb hby d4_48)
  have Fw25 : Fld Z h25 a "java/lang/String" "coder" "B" (.int (0 : Int32)) := Fld.same W25 (Fld.keep F_coder_a K23 nin0)
  have K25 : Keep h0 h25 [a] := Keep.wr KK23 W25 (Or.inl (List.mem_of_getElem? (i := 0) rfl))
  have N25 := Fr.snoc X25 N24 g_a
  refine own_by (T' := T25) (g' := (mkF m 51 #[.val (.ref a), .val (.ref ca), .val (.int (0 : Int32)), .val (.int (1 : Int32)), .val .null, .val (.ref t23)] [])) (fun _ k => st25 _ k) ?_
  refine own_by (T' := T25) (g' := (mkF m 52 #[.val (.ref a), .val (.ref ca), .val (.int (0 : Int32)), .val (.int (1 : Int32)), .val .null, .val (.ref t23)] [(.ref a)])) (fun _ k => XS.aloadN X25.here hx rfl (hb hby d4_51) rfl rfl k) ?_
  refine own_by (T' := T25) (g' := (mkF m 54 #[.val (.ref a), .val (.ref ca), .val (.int (0 : Int32)), .val (.int (1 : Int32)), .val .null, .val (.ref t23)] [(.ref t23), (.ref a)])) (fun _ k => XS.aload X25.here hx rfl (hb hby d4_52) rfl rfl k) ?_
  obtain ⟨T26, h26, X26, e26, W26, st26⟩ := putF X25 hx hZ hown (host := "") (Or.inl (hw _ (List.mem_of_getElem? (i := 27) rfl))) Via.refl e25 (Fld.other W25 (Fld.keep F_value_a K23 nin0) (Or.inr (slot_ne (a0 := a0) (Or.inr (hw _ (List.mem_of_getElem? (i := 23) rfl))) (Or.inr (hw _ (List.mem_of_getElem? (i := 24) rfl))) (by decide) (t := (.array .byte)) (t' := .byte) (by decide) (by decide)))) (Exa.wr W25 (Exa.keep E_a K23)) (Or.inr ⟨(hw _ (List.mem_of_getElem? (i := 23) rfl)), rfl, hnm⟩) (hw _ (List.mem_of_getElem? (i := 8) rfl)) (ty := (.array .byte)) (by decide) rfl rfl (g := (mkF m 54 #[.val (.ref a), .val (.ref ca), .val (.int (0 : Int32)), .val (.int (1 : Int32)), .val .null, .val (.ref t23)] [(.ref t23), (.ref a)])) rfl rfl (hb hby d4_54)
  have Fw26 : Fld Z h26 a "java/lang/String" "value" "[B" (.ref t23) := Fld.same W26 (Fld.other W25 (Fld.keep F_value_a K23 nin0) (Or.inr (slot_ne (a0 := a0) (Or.inr (hw _ (List.mem_of_getElem? (i := 23) rfl))) (Or.inr (hw _ (List.mem_of_getElem? (i := 24) rfl))) (by decide) (t := (.array .byte)) (t' := .byte) (by decide) (by decide))))
  have K26 : Keep h0 h26 [a] := Keep.wr K25 W26 (Or.inl (List.mem_of_getElem? (i := 0) rfl))
  have N26 := Fr.snoc X26 N25 g_a
  refine own_by (T' := T26) (g' := (mkF m 57 #[.val (.ref a), .val (.ref ca), .val (.int (0 : Int32)), .val (.int (1 : Int32)), .val .null, .val (.ref t23)] [])) (fun _ k => st26 _ k) ?_
  refine own_ret X26 hlk (v := none) (fun _ => rfl) (fun fs hr => X26.returnOut hx Bd.returns (hb hby d4_57) hr) ?_ (by decide) (by decide)
  rw [e26]
  exact ⟨rfl, N26, K26, (Fld.other W26 Fw25 (Or.inr (slot_ne (a0 := a0) (Or.inr (hw _ (List.mem_of_getElem? (i := 24) rfl))) (Or.inr (hw _ (List.mem_of_getElem? (i := 23) rfl))) (by decide) (t := .byte) (t' := (.array .byte)) (by decide) (by decide)))), _, _, sz_t23, Fw26, (Arv.other (Arv.other V23 W25 (Ne.symm (Nat.ne_of_lt (Nat.lt_of_lt_of_le (E_a).lt zt23)))) W26 (Ne.symm (Nat.ne_of_lt (Nat.lt_of_lt_of_le (E_a).lt zt23))))⟩
theorem d3_0 : decode jdk_42_method_3_code 0 = .ok (.aload_n 0, 1) := by decide +kernel
theorem d3_1 : decode jdk_42_method_3_code 1 = .ok (.aload_n 1, 1) := by decide +kernel
theorem d3_2 : decode jdk_42_method_3_code 2 = .ok (.iconst 0, 1) := by decide +kernel
theorem d3_3 : decode jdk_42_method_3_code 3 = .ok (.aload_n 1, 1) := by decide +kernel
theorem d3_4 : decode jdk_42_method_3_code 4 = .ok (.arraylength, 1) := by decide +kernel
theorem d3_5 : decode jdk_42_method_3_code 5 = .ok (.aconst_null, 1) := by decide +kernel
theorem d3_6 : decode jdk_42_method_3_code 6 = .ok (.invokespecial 27, 3) := by decide +kernel
theorem d3_9 : decode jdk_42_method_3_code 9 = .ok (.return_, 1) := by decide +kernel
theorem pn_3 : plainName "java/lang/String" = true := by first | (simp [plainName, overriddenIn]; done) | decide +kernel
theorem ef_sin1_1 (m : MethodId) (a : Addr) (ca : Addr) : entryFrame m #[(.ref a), (.ref ca)] 2 = mkF m 0 #[.val (.ref a), .val (.ref ca)] [] := by first | (simp [entryFrame, mkF, argsToLocals, Value.category]; done) | rfl
def Q_sin1_1 (Z : State) (a : Addr) (ca : Addr) (kc : ClassId) (cs : Int32) (c0 : Int32) (h0 : Heap) (n0 : Nat) (v : Option Value) (h : Heap) (L : List Loc) : Prop := v = none ∧ Fr n0 L ∧ Keep h0 h [a] ∧ Fld Z h a "java/lang/String" "coder" "B" (.int (0 : Int32)) ∧ ∃ (t : Addr) (kb : ClassId), h0.size ≤ t ∧ Fld Z h a "java/lang/String" "value" "[B" (.ref t) ∧ Arv Z h t kb .byte (1 : Int32) [(.int (nar .byte (c0.toInt8.toInt32)))] (.int (0 : Int32))
set_option maxRecDepth 65536 in
set_option maxHeartbeats 40000000 in
theorem sin1_1 (l : Launch) (Z : State) (a0 : Array Value) (hw : ∀ d ∈ tables_1, d.before a0 Z = true) (ws : List Jvm.Cond) (a : Addr) (ca : Addr) (kc : ClassId) (cs : Int32) (c0 : Int32) (h0 : Heap) (n0 : Nat) (Z0 : n0 ≤ h0.size) (E_a : Exa Z h0 a "java/lang/String") (F_value_a : Fld Z h0 a "java/lang/String" "value" "[B" .null) (F_coder_a : Fld Z h0 a "java/lang/String" "coder" "B" (.int (0 : Int32))) (g_a : n0 ≤ a) (V_ca : Arv Z h0 ca kc .char (1 : Int32) [(.int c0)] (.int (0 : Int32))) (S_CS : Sta Z h0 "java/lang/String" "COMPACT_STRINGS" "Z" (.int cs)) (hcs : ¬ cs = (0 : Int32)) (hc0 : ¬ (255 : Int32) < c0) :
    MetFree l (⟨"java/lang/String", "<init>", "([C)V"⟩ : MethodName) (head1 (Jvm.Cond.code (⟨"java/lang/String", "<init>", "([C)V"⟩ : MethodName) jdk_42_method_3_code 2 none :: ws) ({ frames := 3, cells := 1, slots := 1, locals := 52 } : Room)) (fun zz UU => zz = #[(.ref a), (.ref ca)] ∧ Z.Warmed39 UU.vm ∧ UU.heap = h0) (fun _ _ _ _ _ => True) (fun _ U o U' => ∃ v L, o = .returned v ∧ Q_sin1_1 Z a ca kc cs c0 h0 n0 v U'.heap L ∧ FrameEnd U o U' L ({ frames := 3, cells := 1, slots := 1, locals := 52 } : Room).cells ({ frames := 3, cells := 1, slots := 1, locals := 52 } : Room).slots) := by
  refine MetFree.of_bodySF (plainFor_of_name pn_3) hisR ?_
  intro p e s m args below meth c s₁ Bd hml0 hP hK
  obtain ⟨rfl, hZ, hh⟩ := hP
  have hx := Bd.exec
  have hby := Bd.bytes
  have hml : c.maxLocals = 2 := hml0
  have hown : s.vm.findClass "java/lang/String" = some m.cls := findClass_of_methodNamed Bd.named
  have hnm := (name_of_methodNamed Bd.named Bd.method).1
  have hlk : meth.locks = false := BodyLoose.notSynchronized Bd
  have X0 : Stand p l e ({ frames := 3, cells := 1, slots := 1, locals := 52 } : Room) s m #[(.ref a), (.ref ca)] below meth c s₁ [] 0 0 := Stand.of_body Bd
  have e0 : s₁.heap = h0 := by rw [← hh, Bd.state]; rfl
  have N0 := Fr.nil n0
  show own_Go p.tables e below (Q_sin1_1 Z a ca kc cs c0 h0 n0) s ({ frames := 3, cells := 1, slots := 1, locals := 52 } : Room).cells ({ frames := 3, cells := 1, slots := 1, locals := 52 } : Room).slots s₁ (entryFrame m #[(.ref a), (.ref ca)] 2)
  rw [ef_sin1_1 m a ca]
  refine own_by (T' := s₁) (g' := (mkF m 1 #[.val (.ref a), .val (.ref ca)] [(.ref a)])) (fun _ k => XS.aloadN X0.here hx rfl (hb hby d3_0) rfl rfl k) ?_
  refine own_by (T' := s₁) (g' := (mkF m 2 #[.val (.ref a), .val (.ref ca)] [(.ref ca), (.ref a)])) (fun _ k => XS.aloadN X0.here hx rfl (hb hby d3_1) rfl rfl k) ?_
  refine own_by (T' := s₁) (g' := (mkF m 3 #[.val (.ref a), .val (.ref ca)] [(.int (0 : Int32)), (.ref ca), (.ref a)])) (fun _ k => XS.iconst X0.here hx rfl (hb hby d3_2) k) ?_
  refine own_by (T' := s₁) (g' := (mkF m 4 #[.val (.ref a), .val (.ref ca)] [(.ref ca), (.int (0 : Int32)), (.ref ca), (.ref a)])) (fun _ k => XS.aloadN X0.here hx rfl (hb hby d3_3) rfl rfl k) ?_
  obtain ⟨cl21, Ar21, q21, S21, N_21, H21, G21⟩ := id V_ca
  refine own_by (T' := s₁) (g' := (mkF m 5 #[.val (.ref a), .val (.ref ca)] [(.int (1 : Int32)), (.int (0 : Int32)), (.ref ca), (.ref a)])) (fun _ k => X0.arraylength hx (by rw [e0]; exact Ar21.1) (State.isArrayOf_alike hZ.alike Ar21.2.1) (g := (mkF m 4 #[.val (.ref a), .val (.ref ca)] [(.ref ca), (.int (0 : Int32)), (.ref ca), (.ref a)])) rfl rfl (hb hby d3_4) _ (by rw [len_of S21 N_21]; exact k)) ?_
  refine own_by (T' := s₁) (g' := (mkF m 6 #[.val (.ref a), .val (.ref ca)] [.null, (.int (1 : Int32)), (.int (0 : Int32)), (.ref ca), (.ref a)])) (fun _ k => XS.aconstNull X0.here hx rfl (hb hby d3_5) k) ?_
  obtain ⟨_, _, ⟨T22, L22, k22, n22⟩, -, X22, ⟨Lc22, hQ22, l22, y22, z22⟩, st22⟩ := X0.specialBack hx (y := (⟨"java/lang/String", "<init>", "([CIILjava/lang/Void;)V"⟩ : MethodName)) rfl hown (mvT hZ (hw _ (List.mem_of_getElem? (i := 14) rfl))) (mvT hZ (hw _ (List.mem_of_getElem? (i := 15) rfl))) (mvT hZ (hw _ (List.mem_of_getElem? (i := 17) rfl))) (by decide) (backOf (W := 0) (sin4_1 l Z a0 hw [] a ca kc cs c0 h0 n0 Z0 E_a F_value_a F_coder_a g_a V_ca S_CS hcs hc0) hZ (hw _ (List.mem_of_getElem? (i := 17) rfl)) (hw _ (List.mem_of_getElem? (i := 9) rfl)) (by decide) (by decide)) (g := (mkF m 6 #[.val (.ref a), .val (.ref ca)] [.null, (.int (1 : Int32)), (.int (0 : Int32)), (.ref ca), (.ref a)])) rfl (by rw [hml]; rfl) (Steps.refl _) (a := a) (argsL := [(.ref ca), (.int (0 : Int32)), (.int (1 : Int32)), .null]) (rest := []) (lenOf pd_3 rfl) rfl (by show 2 * 0 + _ ≤ _; exact Nat.le_of_eq rfl) (hb hby d3_6) (fun _ _ => ⟨rfl, e0, (by decide : 0 + 1 ≤ _), (by decide : 0 + 1 ≤ _)⟩)
  dsimp only [Pt.U, Pt.locs, Pt.cells, Pt.slots] at X22 l22 y22 z22 st22 hQ22
  subst l22 y22 z22
  obtain ⟨rfl, N22q, K22, Fc22, t22, kb22, zt22, Fv22, V22⟩ := hQ22
  have N22 := Fr.app N0 N22q
  have KK22 : Keep h0 T22.heap [a] := Keep.trans (Keep.refl h0 [a]) K22 (allS (Or.inl (List.mem_of_getElem? (i := 0) rfl)) all0)
  have sz_t22 : h0.size ≤ t22 := zt22
  refine own_by (T' := T22) (g' := (mkF m 9 #[.val (.ref a), .val (.ref ca)] [])) (fun _ k => st22.trans k) ?_
  refine own_ret X22 hlk (v := none) (fun _ => rfl) (fun fs hr => X22.returnOut hx Bd.returns (hb hby d3_9) hr) ?_ (by decide) (by decide)
  exact ⟨rfl, N22, KK22, Fc22, _, _, sz_t22, Fv22, V22⟩
theorem ef_cmp5_2 (m : MethodId) (ca : Addr) (ba : Addr) : entryFrame m #[(.ref ca), (.int (0 : Int32)), (.ref ba), (.int (0 : Int32)), (.int (2 : Int32))] 7 = mkF m 0 #[.val (.ref ca), .val (.int (0 : Int32)), .val (.ref ba), .val (.int (0 : Int32)), .val (.int (2 : Int32)), .unset, .unset] [] := by first | (simp [entryFrame, mkF, argsToLocals, Value.category]; done) | rfl
def Q_cmp5_2 (Z : State) (ca : Addr) (ba : Addr) (kc : ClassId) (kb : ClassId) (c0 : Int32) (c1 : Int32) (h0 : Heap) (n0 : Nat) (v : Option Value) (h : Heap) (L : List Loc) : Prop := v = some (.int (2 : Int32)) ∧ Fr n0 L ∧ Keep h0 h [ba] ∧ Arv Z h ba kb .byte (2 : Int32) [(.int (nar .byte (c0.toInt8.toInt32))), (.int (nar .byte (c1.toInt8.toInt32)))] (.int (0 : Int32))
set_option maxRecDepth 65536 in
set_option maxHeartbeats 40000000 in
theorem cmp5_2 (l : Launch) (Z : State) (a0 : Array Value) (hw : ∀ d ∈ tables_1, d.before a0 Z = true) (ws : List Jvm.Cond) (ca : Addr) (ba : Addr) (kc : ClassId) (kb : ClassId) (c0 : Int32) (c1 : Int32) (h0 : Heap) (n0 : Nat) (Z0 : n0 ≤ h0.size) (V_ca : Arv Z h0 ca kc .char (2 : Int32) [(.int c0), (.int c1)] (.int (0 : Int32))) (V_ba : Arv Z h0 ba kb .byte (2 : Int32) [(.int (0 : Int32)), (.int (0 : Int32))] (.int (0 : Int32))) (g_ba : n0 ≤ ba) (neab : ca ≠ ba) (hc0 : ¬ (255 : Int32) < c0) (hc1 : ¬ (255 : Int32) < c1) :
    MetFree l (⟨"java/lang/StringUTF16", "compress", "([CI[BII)I"⟩ : MethodName) (head1 (Jvm.Cond.code (⟨"java/lang/StringUTF16", "compress", "([CI[BII)I"⟩ : MethodName) jdk_52_method_21_code 7 (some .int) :: ws) ({ frames := 0, cells := 0, slots := 0, locals := 0 } : Room)) (fun zz UU => zz = #[(.ref ca), (.int (0 : Int32)), (.ref ba), (.int (0 : Int32)), (.int (2 : Int32))] ∧ Z.Warmed39 UU.vm ∧ UU.heap = h0) (fun _ _ _ _ _ => True) (fun _ U o U' => ∃ v L, o = .returned v ∧ Q_cmp5_2 Z ca ba kc kb c0 c1 h0 n0 v U'.heap L ∧ FrameEnd U o U' L ({ frames := 0, cells := 0, slots := 0, locals := 0 } : Room).cells ({ frames := 0, cells := 0, slots := 0, locals := 0 } : Room).slots) := by
  refine MetFree.of_bodySF (plainFor_of_name pn_14) hisR ?_
  intro p e s m args below meth c s₁ Bd hml0 hP hK
  obtain ⟨rfl, hZ, hh⟩ := hP
  have hx := Bd.exec
  have hby := Bd.bytes
  have hml : c.maxLocals = 7 := hml0
  have hown : s.vm.findClass "java/lang/StringUTF16" = some m.cls := findClass_of_methodNamed Bd.named
  have hnm := (name_of_methodNamed Bd.named Bd.method).1
  have hlk : meth.locks = false := BodyLoose.notSynchronized Bd
  have X0 : Stand p l e ({ frames := 0, cells := 0, slots := 0, locals := 0 } : Room) s m #[(.ref ca), (.int (0 : Int32)), (.ref ba), (.int (0 : Int32)), (.int (2 : Int32))] below meth c s₁ [] 0 0 := Stand.of_body Bd
  have e0 : s₁.heap = h0 := by rw [← hh, Bd.state]; rfl
  have N0 := Fr.nil n0
  show own_Go p.tables e below (Q_cmp5_2 Z ca ba kc kb c0 c1 h0 n0) s ({ frames := 0, cells := 0, slots := 0, locals := 0 } : Room).cells ({ frames := 0, cells := 0, slots := 0, locals := 0 } : Room).slots s₁ (entryFrame m #[(.ref ca), (.int (0 : Int32)), (.ref ba), (.int (0 : Int32)), (.int (2 : Int32))] 7)
  rw [ef_cmp5_2 m ca ba]
  refine own_by (T' := s₁) (g' := (mkF m 1 #[.val (.ref ca), .val (.int (0 : Int32)), .val (.ref ba), .val (.int (0 : Int32)), .val (.int (2 : Int32)), .unset, .unset] [(.int (0 : Int32))])) (fun _ k => XS.iconst X0.here hx rfl (hb hby d14_0) k) ?_
  refine own_by (T' := s₁) (g' := (mkF m 3 #[.val (.ref ca), .val (.int (0 : Int32)), .val (.ref ba), .val (.int (0 : Int32)), .val (.int (2 : Int32)), .val (.int (0 : Int32)), .unset] [])) (fun _ k => XS.istore X0.here hx rfl (hb hby d14_1) rfl (l' := #[.val (.ref ca), .val (.int (0 : Int32)), .val (.ref ba), .val (.int (0 : Int32)), .val (.int (2 : Int32)), .val (.int (0 : Int32)), .unset]) rfl k) ?_
  refine own_by (T' := s₁) (g' := (mkF m 5 #[.val (.ref ca), .val (.int (0 : Int32)), .val (.ref ba), .val (.int (0 : Int32)), .val (.int (2 : Int32)), .val (.int (0 : Int32)), .unset] [(.int (0 : Int32))])) (fun _ k => XS.iload X0.here hx rfl (hb hby d14_3) rfl k) ?_
  refine own_by (T' := s₁) (g' := (mkF m 7 #[.val (.ref ca), .val (.int (0 : Int32)), .val (.ref ba), .val (.int (0 : Int32)), .val (.int (2 : Int32)), .val (.int (0 : Int32)), .unset] [(.int (2 : Int32)), (.int (0 : Int32))])) (fun _ k => XS.iload X0.here hx rfl (hb hby d14_5) rfl k) ?_
  refine own_by (T' := s₁) (g' := (mkF m 10 #[.val (.ref ca), .val (.int (0 : Int32)), .val (.ref ba), .val (.int (0 : Int32)), .val (.int (2 : Int32)), .val (.int (0 : Int32)), .unset] [])) (fun _ k => XS.icmpNo X0.here hx rfl (hb hby d14_7) rfl (tlt (by decide)).2.1 k) ?_
  refine own_by (T' := s₁) (g' := (mkF m 11 #[.val (.ref ca), .val (.int (0 : Int32)), .val (.ref ba), .val (.int (0 : Int32)), .val (.int (2 : Int32)), .val (.int (0 : Int32)), .unset] [(.ref ca)])) (fun _ k => XS.aloadN X0.here hx rfl (hb hby d14_10) rfl rfl k) ?_
  refine own_by (T' := s₁) (g' := (mkF m 12 #[.val (.ref ca), .val (.int (0 : Int32)), .val (.ref ba), .val (.int (0 : Int32)), .val (.int (2 : Int32)), .val (.int (0 : Int32)), .unset] [(.int (0 : Int32)), (.ref ca)])) (fun _ k => XS.iloadN X0.here hx rfl (hb hby d14_11) rfl k) ?_
  obtain ⟨cl21, Ar21, q21, S21, N_21, H21, G21⟩ := id V_ca
  have hin21 : ¬ ((0 : Int32) < 0 ∨ cl21.slots.size ≤ ((0 : Int32)).toNatClampNeg) := inb_of S21 ⟨by decide, by decide⟩
  refine own_by (T' := s₁) (g' := (mkF m 13 #[.val (.ref ca), .val (.int (0 : Int32)), .val (.ref ba), .val (.int (0 : Int32)), .val (.int (2 : Int32)), .val (.int (0 : Int32)), .unset] [(.int c0)])) (fun _ k => X0.caload hx (j := (0 : Int32)) (v := (.int c0)) (by rw [e0]; exact Ar21.1) (State.isArrayOf_alike hZ.alike Ar21.2.1) Ar21.2.2 hin21 (Has.at H21 hin21 rfl) (g := (mkF m 12 #[.val (.ref ca), .val (.int (0 : Int32)), .val (.ref ba), .val (.int (0 : Int32)), .val (.int (2 : Int32)), .val (.int (0 : Int32)), .unset] [(.int (0 : Int32)), (.ref ca)])) rfl rfl (hb hby d14_12) _ k) ?_
  refine own_by (T' := s₁) (g' := (mkF m 15 #[.val (.ref ca), .val (.int (0 : Int32)), .val (.ref ba), .val (.int (0 : Int32)), .val (.int (2 : Int32)), .val (.int (0 : Int32)), .val (.int c0)] [])) (fun _ k => XS.istore X0.here hx rfl (hb hby d14_13) rfl (l' := #[.val (.ref ca), .val (.int (0 : Int32)), .val (.ref ba), .val (.int (0 : Int32)), .val (.int (2 : Int32)), .val (.int (0 : Int32)), .val (.int c0)]) rfl k) ?_
  refine own_by (T' := s₁) (g' := (mkF m 17 #[.val (.ref ca), .val (.int (0 : Int32)), .val (.ref ba), .val (.int (0 : Int32)), .val (.int (2 : Int32)), .val (.int (0 : Int32)), .val (.int c0)] [(.int c0)])) (fun _ k => XS.iload X0.here hx rfl (hb hby d14_15) rfl k) ?_
  refine own_by (T' := s₁) (g' := (mkF m 20 #[.val (.ref ca), .val (.int (0 : Int32)), .val (.ref ba), .val (.int (0 : Int32)), .val (.int (2 : Int32)), .val (.int (0 : Int32)), .val (.int c0)] [(.int (255 : Int32)), (.int c0)])) (fun _ k => XS.sipush X0.here hx rfl (hb hby d14_17) k) ?_
  refine own_by (T' := s₁) (g' := (mkF m 26 #[.val (.ref ca), .val (.int (0 : Int32)), .val (.ref ba), .val (.int (0 : Int32)), .val (.int (2 : Int32)), .val (.int (0 : Int32)), .val (.int c0)] [])) (fun _ k => XS.icmpYes X0.here hx rfl (pc0 := 20) (pc' := 26) rfl (hb hby d14_20) rfl (flt hc0).2.2.2 (by decide) (by decide) k) ?_
  refine own_by (T' := s₁) (g' := (mkF m 27 #[.val (.ref ca), .val (.int (0 : Int32)), .val (.ref ba), .val (.int (0 : Int32)), .val (.int (2 : Int32)), .val (.int (0 : Int32)), .val (.int c0)] [(.ref ba)])) (fun _ k => XS.aloadN X0.here hx rfl (hb hby d14_26) rfl rfl k) ?_
  refine own_by (T' := s₁) (g' := (mkF m 28 #[.val (.ref ca), .val (.int (0 : Int32)), .val (.ref ba), .val (.int (0 : Int32)), .val (.int (2 : Int32)), .val (.int (0 : Int32)), .val (.int c0)] [(.int (0 : Int32)), (.ref ba)])) (fun _ k => XS.iloadN X0.here hx rfl (hb hby d14_27) rfl k) ?_
  refine own_by (T' := s₁) (g' := (mkF m 30 #[.val (.ref ca), .val (.int (0 : Int32)), .val (.ref ba), .val (.int (0 : Int32)), .val (.int (2 : Int32)), .val (.int (0 : Int32)), .val (.int c0)] [(.int c0), (.int (0 : Int32)), (.ref ba)])) (fun _ k => XS.iload X0.here hx rfl (hb hby d14_28) rfl k) ?_
  refine own_by (T' := s₁) (g' := (mkF m 31 #[.val (.ref ca), .val (.int (0 : Int32)), .val (.ref ba), .val (.int (0 : Int32)), .val (.int (2 : Int32)), .val (.int (0 : Int32)), .val (.int c0)] [(.int (c0.toInt8.toInt32)), (.int (0 : Int32)), (.ref ba)])) (fun _ k => XS.i2b X0.here hx rfl (hb hby d14_30) rfl k) ?_
  obtain ⟨cl22, Ar22, q22, S22, N_22, H22, G22⟩ := id V_ba
  have hin22 : ¬ ((0 : Int32) < 0 ∨ cl22.slots.size ≤ ((0 : Int32)).toNatClampNeg) := inb_of S22 ⟨by decide, by decide⟩
  obtain ⟨T23, h23, X23, e23, W23, st23⟩ := stB X0 hx hZ e0 Ar22 (j := (0 : Int32)) hin22 (g := (mkF m 31 #[.val (.ref ca), .val (.int (0 : Int32)), .val (.ref ba), .val (.int (0 : Int32)), .val (.int (2 : Int32)), .val (.int (0 : Int32)), .val (.int c0)] [(.int (c0.toInt8.toInt32)), (.int (0 : Int32)), (.ref ba)])) rfl rfl (hb hby d14_31)
  have V23 : Arv Z h23 ba kb .byte (2 : Int32) [(.int (nar .byte (c0.toInt8.toInt32))), (.int (0 : Int32))] (.int (0 : Int32)) := Arv.set Ar22 q22 S22 N_22 H22 G22 (fits_nar_byte _) W23 0 rfl (Nat.le_of_ble_eq_true rfl)
  have K23 : Keep h0 h23 [ba] := Keep.wr (Keep.refl h0 [ba]) W23 (Or.inl (List.mem_of_getElem? (i := 0) rfl))
  have N23 := Fr.snoc X23 N0 g_ba
  refine own_by (T' := T23) (g' := (mkF m 32 #[.val (.ref ca), .val (.int (0 : Int32)), .val (.ref ba), .val (.int (0 : Int32)), .val (.int (2 : Int32)), .val (.int (0 : Int32)), .val (.int c0)] [])) (fun _ k => st23 _ k) ?_
  refine own_by (T' := T23) (g' := (mkF m 35 #[.val (.ref ca), .val (.int (1 : Int32)), .val (.ref ba), .val (.int (0 : Int32)), .val (.int (2 : Int32)), .val (.int (0 : Int32)), .val (.int c0)] [])) (fun _ k => XS.iinc X23.here hx rfl (hb hby d14_32) rfl (l' := #[.val (.ref ca), .val (.int (1 : Int32)), .val (.ref ba), .val (.int (0 : Int32)), .val (.int (2 : Int32)), .val (.int (0 : Int32)), .val (.int c0)]) rfl k) ?_
  refine own_by (T' := T23) (g' := (mkF m 38 #[.val (.ref ca), .val (.int (1 : Int32)), .val (.ref ba), .val (.int (1 : Int32)), .val (.int (2 : Int32)), .val (.int (0 : Int32)), .val (.int c0)] [])) (fun _ k => XS.iinc X23.here hx rfl (hb hby d14_35) rfl (l' := #[.val (.ref ca), .val (.int (1 : Int32)), .val (.ref ba), .val (.int (1 : Int32)), .val (.int (2 : Int32)), .val (.int (0 : Int32)), .val (.int c0)]) rfl k) ?_
  refine own_by (T' := T23) (g' := (mkF m 41 #[.val (.ref ca), .val (.int (1 : Int32)), .val (.ref ba), .val (.int (1 : Int32)), .val (.int (2 : Int32)), .val (.int (1 : Int32)), .val (.int c0)] [])) (fun _ k => XS.iinc X23.here hx rfl (hb hby d14_38) rfl (l' := #[.val (.ref ca), .val (.int (1 : Int32)), .val (.ref ba), .val (.int (1 : Int32)), .val (.int (2 : Int32)), .val (.int (1 : Int32)), .val (.int c0)]) rfl k) ?_
  refine own_by (T' := T23) (g' := (mkF m 3 #[.val (.ref ca), .val (.int (1 : Int32)), .val (.ref ba), .val (.int (1 : Int32)), .val (.int (2 : Int32)), .val (.int (1 : Int32)), .val (.int c0)] [])) (fun _ k => XS.goto X23.here hx rfl (pc0 := 41) (pc' := 3) rfl (hb hby d14_41) (by decide) (by decide) k) ?_
  refine own_by (T' := T23) (g' := (mkF m 5 #[.val (.ref ca), .val (.int (1 : Int32)), .val (.ref ba), .val (.int (1 : Int32)), .val (.int (2 : Int32)), .val (.int (1 : Int32)), .val (.int c0)] [(.int (1 : Int32))])) (fun _ k => XS.iload X23.here hx rfl (hb hby d14_3) rfl k) ?_
  refine own_by (T' := T23) (g' := (mkF m 7 #[.val (.ref ca), .val (.int (1 : Int32)), .val (.ref ba), .val (.int (1 : Int32)), .val (.int (2 : Int32)), .val (.int (1 : Int32)), .val (.int c0)] [(.int (2 : Int32)), (.int (1 : Int32))])) (fun _ k => XS.iload X23.here hx rfl (hb hby d14_5) rfl k) ?_
  refine own_by (T' := T23) (g' := (mkF m 10 #[.val (.ref ca), .val (.int (1 : Int32)), .val (.ref ba), .val (.int (1 : Int32)), .val (.int (2 : Int32)), .val (.int (1 : Int32)), .val (.int c0)] [])) (fun _ k => XS.icmpNo X23.here hx rfl (hb hby d14_7) rfl (tlt (by decide)).2.1 k) ?_
  refine own_by (T' := T23) (g' := (mkF m 11 #[.val (.ref ca), .val (.int (1 : Int32)), .val (.ref ba), .val (.int (1 : Int32)), .val (.int (2 : Int32)), .val (.int (1 : Int32)), .val (.int c0)] [(.ref ca)])) (fun _ k => XS.aloadN X23.here hx rfl (hb hby d14_10) rfl rfl k) ?_
  refine own_by (T' := T23) (g' := (mkF m 12 #[.val (.ref ca), .val (.int (1 : Int32)), .val (.ref ba), .val (.int (1 : Int32)), .val (.int (2 : Int32)), .val (.int (1 : Int32)), .val (.int c0)] [(.int (1 : Int32)), (.ref ca)])) (fun _ k => XS.iloadN X23.here hx rfl (hb hby d14_11) rfl k) ?_
  obtain ⟨cl24, Ar24, q24, S24, N_24, H24, G24⟩ := id (Arv.other V_ca W23 neab)
  have hin24 : ¬ ((1 : Int32) < 0 ∨ cl24.slots.size ≤ ((1 : Int32)).toNatClampNeg) := inb_of S24 ⟨by decide, by decide⟩
  refine own_by (T' := T23) (g' := (mkF m 13 #[.val (.ref ca), .val (.int (1 : Int32)), .val (.ref ba), .val (.int (1 : Int32)), .val (.int (2 : Int32)), .val (.int (1 : Int32)), .val (.int c0)] [(.int c1)])) (fun _ k => X23.caload hx (j := (1 : Int32)) (v := (.int c1)) (by rw [e23]; exact Ar24.1) (State.isArrayOf_alike hZ.alike Ar24.2.1) Ar24.2.2 hin24 (Has.at H24 hin24 rfl) (g := (mkF m 12 #[.val (.ref ca), .val (.int (1 : Int32)), .val (.ref ba), .val (.int (1 : Int32)), .val (.int (2 : Int32)), .val (.int (1 : Int32)), .val (.int c0)] [(.int (1 : Int32)), (.ref ca)])) rfl rfl (hb hby d14_12) _ k) ?_
  refine own_by (T' := T23) (g' := (mkF m 15 #[.val (.ref ca), .val (.int (1 : Int32)), .val (.ref ba), .val (.int (1 : Int32)), .val (.int (2 : Int32)), .val (.int (1 : Int32)), .val (.int c1)] [])) (fun _ k => XS.istore X23.here hx rfl (hb hby d14_13) rfl (l' := #[.val (.ref ca), .val (.int (1 : Int32)), .val (.ref ba), .val (.int (1 : Int32)), .val (.int (2 : Int32)), .val (.int (1 : Int32)), .val (.int c1)]) rfl k) ?_
  refine own_by (T' := T23) (g' := (mkF m 17 #[.val (.ref ca), .val (.int (1 : Int32)), .val (.ref ba), .val (.int (1 : Int32)), .val (.int (2 : Int32)), .val (.int (1 : Int32)), .val (.int c1)] [(.int c1)])) (fun _ k => XS.iload X23.here hx rfl (hb hby d14_15) rfl k) ?_
  refine own_by (T' := T23) (g' := (mkF m 20 #[.val (.ref ca), .val (.int (1 : Int32)), .val (.ref ba), .val (.int (1 : Int32)), .val (.int (2 : Int32)), .val (.int (1 : Int32)), .val (.int c1)] [(.int (255 : Int32)), (.int c1)])) (fun _ k => XS.sipush X23.here hx rfl (hb hby d14_17) k) ?_
  refine own_by (T' := T23) (g' := (mkF m 26 #[.val (.ref ca), .val (.int (1 : Int32)), .val (.ref ba), .val (.int (1 : Int32)), .val (.int (2 : Int32)), .val (.int (1 : Int32)), .val (.int c1)] [])) (fun _ k => XS.icmpYes X23.here hx rfl (pc0 := 20) (pc' := 26) rfl (hb hby d14_20) rfl (flt hc1).2.2.2 (by decide) (by decide) k) ?_
  refine own_by (T' := T23) (g' := (mkF m 27 #[.val (.ref ca), .val (.int (1 : Int32)), .val (.ref ba), .val (.int (1 : Int32)), .val (.int (2 : Int32)), .val (.int (1 : Int32)), .val (.int c1)] [(.ref ba)])) (fun _ k => XS.aloadN X23.here hx rfl (hb hby d14_26) rfl rfl k) ?_
  refine own_by (T' := T23) (g' := (mkF m 28 #[.val (.ref ca), .val (.int (1 : Int32)), .val (.ref ba), .val (.int (1 : Int32)), .val (.int (2 : Int32)), .val (.int (1 : Int32)), .val (.int c1)] [(.int (1 : Int32)), (.ref ba)])) (fun _ k => XS.iloadN X23.here hx rfl (hb hby d14_27) rfl k) ?_
  refine own_by (T' := T23) (g' := (mkF m 30 #[.val (.ref ca), .val (.int (1 : Int32)), .val (.ref ba), .val (.int (1 : Int32)), .val (.int (2 : Int32)), .val (.int (1 : Int32)), .val (.int c1)] [(.int c1), (.int (1 : Int32)), (.ref ba)])) (fun _ k => XS.iload X23.here hx rfl (hb hby d14_28) rfl k) ?_
  refine own_by (T' := T23) (g' := (mkF m 31 #[.val (.ref ca), .val (.int (1 : Int32)), .val (.ref ba), .val (.int (1 : Int32)), .val (.int (2 : Int32)), .val (.int (1 : Int32)), .val (.int c1)] [(.int (c1.toInt8.toInt32)), (.int (1 : Int32)), (.ref ba)])) (fun _ k => XS.i2b X23.here hx rfl (hb hby d14_30) rfl k) ?_
  obtain ⟨cl25, Ar25, q25, S25, N_25, H25, G25⟩ := id V23
  have hin25 : ¬ ((1 : Int32) < 0 ∨ cl25.slots.size ≤ ((1 : Int32)).toNatClampNeg) := inb_of S25 ⟨by decide, by decide⟩
  obtain ⟨T26, h26, X26, e26, W26, st26⟩ := stB X23 hx hZ e23 Ar25 (j := (1 : Int32)) hin25 (g := (mkF m 31 #[.val (.ref ca), .val (.int (1 : Int32)), .val (.ref ba), .val (.int (1 : Int32)), .val (.int (2 : Int32)), .val (.int (1 : Int32)), .val (.int c1)] [(.int (c1.toInt8.toInt32)), (.int (1 : Int32)), (.ref ba)])) rfl rfl (hb hby d14_31)
  have V26 : Arv Z h26 ba kb .byte (2 : Int32) [(.int (nar .byte (c0.toInt8.toInt32))), (.int (nar .byte (c1.toInt8.toInt32)))] (.int (0 : Int32)) := Arv.set Ar25 q25 S25 N_25 H25 G25 (fits_nar_byte _) W26 1 rfl (Nat.le_of_ble_eq_true rfl)
  have K26 : Keep h0 h26 [ba] := Keep.wr K23 W26 (Or.inl (List.mem_of_getElem? (i := 0) rfl))
  have N26 := Fr.snoc X26 N23 g_ba
  refine own_by (T' := T26) (g' := (mkF m 32 #[.val (.ref ca), .val (.int (1 : Int32)), .val (.ref ba), .val (.int (1 : Int32)), .val (.int (2 : Int32)), .val (.int (1 : Int32)), .val (.int c1)] [])) (fun _ k => st26 _ k) ?_
  refine own_by (T' := T26) (g' := (mkF m 35 #[.val (.ref ca), .val (.int (2 : Int32)), .val (.ref ba), .val (.int (1 : Int32)), .val (.int (2 : Int32)), .val (.int (1 : Int32)), .val (.int c1)] [])) (fun _ k => XS.iinc X26.here hx rfl (hb hby d14_32) rfl (l' := #[.val (.ref ca), .val (.int (2 : Int32)), .val (.ref ba), .val (.int (1 : Int32)), .val (.int (2 : Int32)), .val (.int (1 : Int32)), .val (.int c1)]) rfl k) ?_
  refine own_by (T' := T26) (g' := (mkF m 38 #[.val (.ref ca), .val (.int (2 : Int32)), .val (.ref ba), .val (.int (2 : Int32)), .val (.int (2 : Int32)), .val (.int (1 : Int32)), .val (.int c1)] [])) (fun _ k => XS.iinc X26.here hx rfl (hb hby d14_35) rfl (l' := #[.val (.ref ca), .val (.int (2 : Int32)), .val (.ref ba), .val (.int (2 : Int32)), .val (.int (2 : Int32)), .val (.int (1 : Int32)), .val (.int c1)]) rfl k) ?_
  refine own_by (T' := T26) (g' := (mkF m 41 #[.val (.ref ca), .val (.int (2 : Int32)), .val (.ref ba), .val (.int (2 : Int32)), .val (.int (2 : Int32)), .val (.int (2 : Int32)), .val (.int c1)] [])) (fun _ k => XS.iinc X26.here hx rfl (hb hby d14_38) rfl (l' := #[.val (.ref ca), .val (.int (2 : Int32)), .val (.ref ba), .val (.int (2 : Int32)), .val (.int (2 : Int32)), .val (.int (2 : Int32)), .val (.int c1)]) rfl k) ?_
  refine own_by (T' := T26) (g' := (mkF m 3 #[.val (.ref ca), .val (.int (2 : Int32)), .val (.ref ba), .val (.int (2 : Int32)), .val (.int (2 : Int32)), .val (.int (2 : Int32)), .val (.int c1)] [])) (fun _ k => XS.goto X26.here hx rfl (pc0 := 41) (pc' := 3) rfl (hb hby d14_41) (by decide) (by decide) k) ?_
  refine own_by (T' := T26) (g' := (mkF m 5 #[.val (.ref ca), .val (.int (2 : Int32)), .val (.ref ba), .val (.int (2 : Int32)), .val (.int (2 : Int32)), .val (.int (2 : Int32)), .val (.int c1)] [(.int (2 : Int32))])) (fun _ k => XS.iload X26.here hx rfl (hb hby d14_3) rfl k) ?_
  refine own_by (T' := T26) (g' := (mkF m 7 #[.val (.ref ca), .val (.int (2 : Int32)), .val (.ref ba), .val (.int (2 : Int32)), .val (.int (2 : Int32)), .val (.int (2 : Int32)), .val (.int c1)] [(.int (2 : Int32)), (.int (2 : Int32))])) (fun _ k => XS.iload X26.here hx rfl (hb hby d14_5) rfl k) ?_
  refine own_by (T' := T26) (g' := (mkF m 44 #[.val (.ref ca), .val (.int (2 : Int32)), .val (.ref ba), .val (.int (2 : Int32)), .val (.int (2 : Int32)), .val (.int (2 : Int32)), .val (.int c1)] [])) (fun _ k => XS.icmpYes X26.here hx rfl (pc0 := 7) (pc' := 44) rfl (hb hby d14_7) rfl (flt (by decide)).2.1 (by decide) (by decide) k) ?_
  refine own_by (T' := T26) (g' := (mkF m 46 #[.val (.ref ca), .val (.int (2 : Int32)), .val (.ref ba), .val (.int (2 : Int32)), .val (.int (2 : Int32)), .val (.int (2 : Int32)), .val (.int c1)] [(.int (2 : Int32))])) (fun _ k => XS.iload X26.here hx rfl (hb hby d14_44) rfl k) ?_
  refine own_ret X26 hlk (v := some (.int (2 : Int32))) (fun h => by rw [Bd.returns] at h; cases h) (fun fs hr => retI X26 hx Bd.returns (hb hby d14_46) hr) ?_ (by decide) (by decide)
  rw [e26]
  exact ⟨rfl, N26, K26, V26⟩
theorem ef_cmp3_2 (m : MethodId) (ca : Addr) : entryFrame m #[(.ref ca), (.int (0 : Int32)), (.int (2 : Int32))] 6 = mkF m 0 #[.val (.ref ca), .val (.int (0 : Int32)), .val (.int (2 : Int32)), .unset, .unset, .unset] [] := by first | (simp [entryFrame, mkF, argsToLocals, Value.category]; done) | rfl
def Q_cmp3_2 (Z : State) (ca : Addr) (kc : ClassId) (c0 : Int32) (c1 : Int32) (h0 : Heap) (n0 : Nat) (v : Option Value) (h : Heap) (L : List Loc) : Prop := ∃ (t : Addr) (kb : ClassId), v = some (.ref t) ∧ Fr n0 L ∧ Keep h0 h [] ∧ h0.size ≤ t ∧ Arv Z h t kb .byte (2 : Int32) [(.int (nar .byte (c0.toInt8.toInt32))), (.int (nar .byte (c1.toInt8.toInt32)))] (.int (0 : Int32))
set_option maxRecDepth 65536 in
set_option maxHeartbeats 40000000 in
theorem cmp3_2 (l : Launch) (Z : State) (a0 : Array Value) (hw : ∀ d ∈ tables_1, d.before a0 Z = true) (ws : List Jvm.Cond) (ca : Addr) (kc : ClassId) (c0 : Int32) (c1 : Int32) (h0 : Heap) (n0 : Nat) (Z0 : n0 ≤ h0.size) (V_ca : Arv Z h0 ca kc .char (2 : Int32) [(.int c0), (.int c1)] (.int (0 : Int32))) (hc0 : ¬ (255 : Int32) < c0) (hc1 : ¬ (255 : Int32) < c1) :
    MetFree l (⟨"java/lang/StringUTF16", "compress", "([CII)[B"⟩ : MethodName) (head1 (Jvm.Cond.code (⟨"java/lang/StringUTF16", "compress", "([CII)[B"⟩ : MethodName) jdk_52_method_16_code 6 (some (.array .byte)) :: ws) ({ frames := 1, cells := 1, slots := 2, locals := 18 } : Room)) (fun zz UU => zz = #[(.ref ca), (.int (0 : Int32)), (.int (2 : Int32))] ∧ Z.Warmed39 UU.vm ∧ UU.heap = h0) (fun _ _ _ _ _ => True) (fun _ U o U' => ∃ v L, o = .returned v ∧ Q_cmp3_2 Z ca kc c0 c1 h0 n0 v U'.heap L ∧ FrameEnd U o U' L ({ frames := 1, cells := 1, slots := 2, locals := 18 } : Room).cells ({ frames := 1, cells := 1, slots := 2, locals := 18 } : Room).slots) := by
  refine MetFree.of_bodySF (plainFor_of_name pn_13) hisR ?_
  intro p e s m args below meth c s₁ Bd hml0 hP hK
  obtain ⟨rfl, hZ, hh⟩ := hP
  have hx := Bd.exec
  have hby := Bd.bytes
  have hml : c.maxLocals = 6 := hml0
  have hown : s.vm.findClass "java/lang/StringUTF16" = some m.cls := findClass_of_methodNamed Bd.named
  have hnm := (name_of_methodNamed Bd.named Bd.method).1
  have hlk : meth.locks = false := BodyLoose.notSynchronized Bd
  have X0 : Stand p l e ({ frames := 1, cells := 1, slots := 2, locals := 18 } : Room) s m #[(.ref ca), (.int (0 : Int32)), (.int (2 : Int32))] below meth c s₁ [] 0 0 := Stand.of_body Bd
  have e0 : s₁.heap = h0 := by rw [← hh, Bd.state]; rfl
  have N0 := Fr.nil n0
  show own_Go p.tables e below (Q_cmp3_2 Z ca kc c0 c1 h0 n0) s ({ frames := 1, cells := 1, slots := 2, locals := 18 } : Room).cells ({ frames := 1, cells := 1, slots := 2, locals := 18 } : Room).slots s₁ (entryFrame m #[(.ref ca), (.int (0 : Int32)), (.int (2 : Int32))] 6)
  rw [ef_cmp3_2 m ca]
  refine own_by (T' := s₁) (g' := (mkF m 1 #[.val (.ref ca), .val (.int (0 : Int32)), .val (.int (2 : Int32)), .unset, .unset, .unset] [(.int (2 : Int32))])) (fun _ k => XS.iloadN X0.here hx rfl (hb hby d13_0) rfl k) ?_
  obtain ⟨T21, h21, k21, X21, e21, E21, A21, st21⟩ := newP X0 hx hZ (hw _ (List.mem_of_getElem? (i := 22) rfl)) e0 (g := (mkF m 1 #[.val (.ref ca), .val (.int (0 : Int32)), .val (.int (2 : Int32)), .unset, .unset, .unset] [(.int (2 : Int32))])) rfl (hb hby d13_1) rfl (by decide) (cap := 2) (by decide) (by decide) (by decide) (by decide)
  obtain ⟨b21, g21⟩ : ∃ z, z = h0.size := ⟨_, rfl⟩
  rw [← g21] at A21 st21
  have V_b21 : Arv Z h21 b21 k21 .byte (2 : Int32) [(.int (0 : Int32)), (.int (0 : Int32))] (.int (0 : Int32)) := (Arv.new A21 (by decide)).pad (pad_rep [] (.int (0 : Int32)) 2)
  have g_b21 : n0 ≤ b21 := Nat.le_trans Z0 (Nat.le_of_eq g21.symm)
  have sz_b21 : h0.size ≤ b21 := Nat.le_trans (Keep.refl h0 []).1 (Nat.le_of_eq g21.symm)
  have K21 : Keep h0 h21 [] := Keep.ext (Keep.refl h0 []) E21
  refine own_by (T' := T21) (g' := (mkF m 3 #[.val (.ref ca), .val (.int (0 : Int32)), .val (.int (2 : Int32)), .unset, .unset, .unset] [(.ref b21)])) (fun _ k => st21 _ k) ?_
  refine own_by (T' := T21) (g' := (mkF m 4 #[.val (.ref ca), .val (.int (0 : Int32)), .val (.int (2 : Int32)), .val (.ref b21), .unset, .unset] [])) (fun _ k => XS.astoreN X21.here hx rfl (hb hby d13_3) rfl rfl (l' := #[.val (.ref ca), .val (.int (0 : Int32)), .val (.int (2 : Int32)), .val (.ref b21), .unset, .unset]) rfl k) ?_
  refine own_by (T' := T21) (g' := (mkF m 5 #[.val (.ref ca), .val (.int (0 : Int32)), .val (.int (2 : Int32)), .val (.ref b21), .unset, .unset] [(.ref ca)])) (fun _ k => XS.aloadN X21.here hx rfl (hb hby d13_4) rfl rfl k) ?_
  refine own_by (T' := T21) (g' := (mkF m 6 #[.val (.ref ca), .val (.int (0 : Int32)), .val (.int (2 : Int32)), .val (.ref b21), .unset, .unset] [(.int (0 : Int32)), (.ref ca)])) (fun _ k => XS.iloadN X21.here hx rfl (hb hby d13_5) rfl k) ?_
  refine own_by (T' := T21) (g' := (mkF m 7 #[.val (.ref ca), .val (.int (0 : Int32)), .val (.int (2 : Int32)), .val (.ref b21), .unset, .unset] [(.ref b21), (.int (0 : Int32)), (.ref ca)])) (fun _ k => XS.aloadN X21.here hx rfl (hb hby d13_6) rfl rfl k) ?_
  refine own_by (T' := T21) (g' := (mkF m 8 #[.val (.ref ca), .val (.int (0 : Int32)), .val (.int (2 : Int32)), .val (.ref b21), .unset, .unset] [(.int (0 : Int32)), (.ref b21), (.int (0 : Int32)), (.ref ca)])) (fun _ k => XS.iconst X21.here hx rfl (hb hby d13_7) k) ?_
  refine own_by (T' := T21) (g' := (mkF m 9 #[.val (.ref ca), .val (.int (0 : Int32)), .val (.int (2 : Int32)), .val (.ref b21), .unset, .unset] [(.int (2 : Int32)), (.int (0 : Int32)), (.ref b21), (.int (0 : Int32)), (.ref ca)])) (fun _ k => XS.iloadN X21.here hx rfl (hb hby d13_8) rfl k) ?_
  obtain ⟨_, _, ⟨T22, L22, k22, n22⟩, -, X22, ⟨Lc22, hQ22, l22, y22, z22⟩, st22⟩ := Jvm.LawKit.callS X21 hx (y := (⟨"java/lang/StringUTF16", "compress", "([CI[BII)I"⟩ : MethodName)) hown (mvT hZ (hw _ (List.mem_of_getElem? (i := 79) rfl))) (mvT hZ (hw _ (List.mem_of_getElem? (i := 80) rfl))) (mvT hZ (hw _ (List.mem_of_getElem? (i := 77) rfl))) (mvT hZ (hw _ (List.mem_of_getElem? (i := 81) rfl))) (by decide) (backOf (W := 0) (cmp5_2 l Z a0 hw [] ca b21 kc k21 c0 c1 h21 n0 (Nat.le_trans Z0 E21.1) (Arv.ext V_ca E21) V_b21 g_b21 (Nat.ne_of_lt (Nat.lt_of_lt_of_le V_ca.lt (Nat.le_of_eq g21.symm))) hc0 hc1) hZ (hw _ (List.mem_of_getElem? (i := 81) rfl)) (hw _ (List.mem_of_getElem? (i := 77) rfl)) (by decide) (by decide)) (g := (mkF m 9 #[.val (.ref ca), .val (.int (0 : Int32)), .val (.int (2 : Int32)), .val (.ref b21), .unset, .unset] [(.int (2 : Int32)), (.int (0 : Int32)), (.ref b21), (.int (0 : Int32)), (.ref ca)])) rfl (by rw [hml]; rfl) (argsL := [(.ref ca), (.int (0 : Int32)), (.ref b21), (.int (0 : Int32)), (.int (2 : Int32))]) (rest := []) (lenOf pd_0 rfl) rfl (by show 2 * 0 + _ ≤ _; exact Nat.le_of_eq rfl) (hb hby d13_9) (fun _ _ => ⟨rfl, e21, (by decide : (0 + 1) + 0 ≤ _), (by decide : (0 + 2) + 0 ≤ _)⟩)
  dsimp only [Pt.U, Pt.locs, Pt.cells, Pt.slots] at X22 l22 y22 z22 st22 hQ22
  subst l22 y22 z22
  obtain ⟨rfl, N22q, K22, V5_22⟩ := hQ22
  have N22 := Fr.app N0 N22q
  have KK22 : Keep h0 T22.heap [] := Keep.trans K21 K22 (allS (Or.inr sz_b21) all0)
  refine own_by (T' := T22) (g' := (mkF m 12 #[.val (.ref ca), .val (.int (0 : Int32)), .val (.int (2 : Int32)), .val (.ref b21), .unset, .unset] [(.int (2 : Int32))])) (fun _ k => st22 _ k) ?_
  refine own_by (T' := T22) (g' := (mkF m 14 #[.val (.ref ca), .val (.int (0 : Int32)), .val (.int (2 : Int32)), .val (.ref b21), .val (.int (2 : Int32)), .unset] [])) (fun _ k => XS.istore X22.here hx rfl (hb hby d13_12) rfl (l' := #[.val (.ref ca), .val (.int (0 : Int32)), .val (.int (2 : Int32)), .val (.ref b21), .val (.int (2 : Int32)), .unset]) rfl k) ?_
  refine own_by (T' := T22) (g' := (mkF m 16 #[.val (.ref ca), .val (.int (0 : Int32)), .val (.int (2 : Int32)), .val (.ref b21), .val (.int (2 : Int32)), .unset] [(.int (2 : Int32))])) (fun _ k => XS.iload X22.here hx rfl (hb hby d13_14) rfl k) ?_
  refine own_by (T' := T22) (g' := (mkF m 17 #[.val (.ref ca), .val (.int (0 : Int32)), .val (.int (2 : Int32)), .val (.ref b21), .val (.int (2 : Int32)), .unset] [(.int (2 : Int32)), (.int (2 : Int32))])) (fun _ k => XS.iloadN X22.here hx rfl (hb hby d13_16) rfl k) ?_
  refine own_by (T' := T22) (g' := (mkF m 57 #[.val (.ref ca), .val (.int (0 : Int32)), .val (.int (2 : Int32)), .val (.ref b21), .val (.int (2 : Int32)), .unset] [])) (fun _ k => XS.icmpYes X22.here hx rfl (pc0 := 17) (pc' := 57) rfl (hb hby d13_17) rfl (teq (by decide)).1 (by decide) (by decide) k) ?_
  refine own_by (T' := T22) (g' := (mkF m 58 #[.val (.ref ca), .val (.int (0 : Int32)), .val (.int (2 : Int32)), .val (.ref b21), .val (.int (2 : Int32)), .unset] [(.ref b21)])) (fun _ k => XS.aloadN X22.here hx rfl (hb hby d13_57) rfl rfl k) ?_
  refine own_ret X22 hlk (v := some (.ref b21)) (fun h => by rw [Bd.returns] at h; cases h) (fun fs hr => retOut X22 hx Bd.returns rfl (Or.inr (Or.inr (Or.inr (Or.inr ⟨rfl, rfl, rfl⟩)))) (hb hby d13_58) hr) ?_ (by decide) (by decide)
  exact ⟨_, _, rfl, N22, KK22, sz_b21, V5_22⟩
theorem ef_cod_2 (m : MethodId) (ba : Addr) : entryFrame m #[(.ref ba), (.int (2 : Int32))] 2 = mkF m 0 #[.val (.ref ba), .val (.int (2 : Int32))] [] := by first | (simp [entryFrame, mkF, argsToLocals, Value.category]; done) | rfl
def Q_cod_2 (Z : State) (ba : Addr) (kb : ClassId) (c0 : Int32) (c1 : Int32) (h0 : Heap) (n0 : Nat) (v : Option Value) (h : Heap) (L : List Loc) : Prop := v = some (.int (0 : Int32)) ∧ Fr n0 L ∧ h = h0
set_option maxRecDepth 65536 in
set_option maxHeartbeats 40000000 in
theorem cod_2 (l : Launch) (Z : State) (a0 : Array Value) (hw : ∀ d ∈ tables_1, d.before a0 Z = true) (ws : List Jvm.Cond) (ba : Addr) (kb : ClassId) (c0 : Int32) (c1 : Int32) (h0 : Heap) (n0 : Nat) (Z0 : n0 ≤ h0.size) (V_ba : Arv Z h0 ba kb .byte (2 : Int32) [(.int (nar .byte (c0.toInt8.toInt32))), (.int (nar .byte (c1.toInt8.toInt32)))] (.int (0 : Int32))) :
    MetFree l (⟨"java/lang/StringUTF16", "coderFromArrayLen", "([BI)B"⟩ : MethodName) (head1 (Jvm.Cond.code (⟨"java/lang/StringUTF16", "coderFromArrayLen", "([BI)B"⟩ : MethodName) jdk_52_method_15_code 2 (some .byte) :: ws) ({ frames := 0, cells := 0, slots := 0, locals := 0 } : Room)) (fun zz UU => zz = #[(.ref ba), (.int (2 : Int32))] ∧ Z.Warmed39 UU.vm ∧ UU.heap = h0) (fun _ _ _ _ _ => True) (fun _ U o U' => ∃ v L, o = .returned v ∧ Q_cod_2 Z ba kb c0 c1 h0 n0 v U'.heap L ∧ FrameEnd U o U' L ({ frames := 0, cells := 0, slots := 0, locals := 0 } : Room).cells ({ frames := 0, cells := 0, slots := 0, locals := 0 } : Room).slots) := by
  refine MetFree.of_bodySF (plainFor_of_name pn_15) hisR ?_
  intro p e s m args below meth c s₁ Bd hml0 hP hK
  obtain ⟨rfl, hZ, hh⟩ := hP
  have hx := Bd.exec
  have hby := Bd.bytes
  have hml : c.maxLocals = 2 := hml0
  have hown : s.vm.findClass "java/lang/StringUTF16" = some m.cls := findClass_of_methodNamed Bd.named
  have hnm := (name_of_methodNamed Bd.named Bd.method).1
  have hlk : meth.locks = false := BodyLoose.notSynchronized Bd
  have X0 : Stand p l e ({ frames := 0, cells := 0, slots := 0, locals := 0 } : Room) s m #[(.ref ba), (.int (2 : Int32))] below meth c s₁ [] 0 0 := Stand.of_body Bd
  have e0 : s₁.heap = h0 := by rw [← hh, Bd.state]; rfl
  have N0 := Fr.nil n0
  show own_Go p.tables e below (Q_cod_2 Z ba kb c0 c1 h0 n0) s ({ frames := 0, cells := 0, slots := 0, locals := 0 } : Room).cells ({ frames := 0, cells := 0, slots := 0, locals := 0 } : Room).slots s₁ (entryFrame m #[(.ref ba), (.int (2 : Int32))] 2)
  rw [ef_cod_2 m ba]
  refine own_by (T' := s₁) (g' := (mkF m 1 #[.val (.ref ba), .val (.int (2 : Int32))] [(.int (2 : Int32))])) (fun _ k => XS.iloadN X0.here hx rfl (hb hby d15_0) rfl k) ?_
  refine own_by (T' := s₁) (g' := (mkF m 2 #[.val (.ref ba), .val (.int (2 : Int32))] [(.ref ba), (.int (2 : Int32))])) (fun _ k => XS.aloadN X0.here hx rfl (hb hby d15_1) rfl rfl k) ?_
  obtain ⟨cl21, Ar21, q21, S21, N_21, H21, G21⟩ := id V_ba
  refine own_by (T' := s₁) (g' := (mkF m 3 #[.val (.ref ba), .val (.int (2 : Int32))] [(.int (2 : Int32)), (.int (2 : Int32))])) (fun _ k => X0.arraylength hx (by rw [e0]; exact Ar21.1) (State.isArrayOf_alike hZ.alike Ar21.2.1) (g := (mkF m 2 #[.val (.ref ba), .val (.int (2 : Int32))] [(.ref ba), (.int (2 : Int32))])) rfl rfl (hb hby d15_2) _ (by rw [len_of S21 N_21]; exact k)) ?_
  refine own_by (T' := s₁) (g' := (mkF m 4 #[.val (.ref ba), .val (.int (2 : Int32))] [(.int (0 : Int32))])) (fun _ k => XS.isub X0.here hx rfl (hb hby d15_3) rfl k) ?_
  refine own_by (T' := s₁) (g' := (mkF m 6 #[.val (.ref ba), .val (.int (2 : Int32))] [(.int (31 : Int32)), (.int (0 : Int32))])) (fun _ k => XS.bipush X0.here hx rfl (hb hby d15_4) k) ?_
  refine own_by (T' := s₁) (g' := (mkF m 7 #[.val (.ref ba), .val (.int (2 : Int32))] [(.int (0 : Int32))])) (fun _ k => XS.iushr X0.here hx rfl (hb hby d15_6) rfl k) ?_
  refine own_by (T' := s₁) (g' := (mkF m 8 #[.val (.ref ba), .val (.int (2 : Int32))] [(.int (0 : Int32))])) (fun _ k => XS.i2b X0.here hx rfl (hb hby d15_7) rfl k) ?_
  refine own_ret X0 hlk (v := some (.int (0 : Int32))) (fun h => by rw [Bd.returns] at h; cases h) (fun fs hr => retN X0 hx (t := .byte) Bd.returns (by simp) (hb hby d15_8) hr) ?_ (by decide) (by decide)
  rw [e0]
  exact ⟨rfl, N0, rfl⟩
theorem ef_sin4_2 (m : MethodId) (a : Addr) (ca : Addr) : entryFrame m #[(.ref a), (.ref ca), (.int (0 : Int32)), (.int (2 : Int32)), .null] 6 = mkF m 0 #[.val (.ref a), .val (.ref ca), .val (.int (0 : Int32)), .val (.int (2 : Int32)), .val .null, .unset] [] := by first | (simp [entryFrame, mkF, argsToLocals, Value.category]; done) | rfl
def Q_sin4_2 (Z : State) (a : Addr) (ca : Addr) (kc : ClassId) (cs : Int32) (c0 : Int32) (c1 : Int32) (h0 : Heap) (n0 : Nat) (v : Option Value) (h : Heap) (L : List Loc) : Prop := v = none ∧ Fr n0 L ∧ Keep h0 h [a] ∧ Fld Z h a "java/lang/String" "coder" "B" (.int (0 : Int32)) ∧ ∃ (t : Addr) (kb : ClassId), h0.size ≤ t ∧ Fld Z h a "java/lang/String" "value" "[B" (.ref t) ∧ Arv Z h t kb .byte (2 : Int32) [(.int (nar .byte (c0.toInt8.toInt32))), (.int (nar .byte (c1.toInt8.toInt32)))] (.int (0 : Int32))
set_option maxRecDepth 65536 in
set_option maxHeartbeats 40000000 in
theorem sin4_2 (l : Launch) (Z : State) (a0 : Array Value) (hw : ∀ d ∈ tables_1, d.before a0 Z = true) (ws : List Jvm.Cond) (a : Addr) (ca : Addr) (kc : ClassId) (cs : Int32) (c0 : Int32) (c1 : Int32) (h0 : Heap) (n0 : Nat) (Z0 : n0 ≤ h0.size) (E_a : Exa Z h0 a "java/lang/String") (F_value_a : Fld Z h0 a "java/lang/String" "value" "[B" .null) (F_coder_a : Fld Z h0 a "java/lang/String" "coder" "B" (.int (0 : Int32))) (g_a : n0 ≤ a) (V_ca : Arv Z h0 ca kc .char (2 : Int32) [(.int c0), (.int c1)] (.int (0 : Int32))) (S_CS : Sta Z h0 "java/lang/String" "COMPACT_STRINGS" "Z" (.int cs)) (hcs : ¬ cs = (0 : Int32)) (hc0 : ¬ (255 : Int32) < c0) (hc1 : ¬ (255 : Int32) < c1) :
    MetFree l (⟨"java/lang/String", "<init>", "([CIILjava/lang/Void;)V"⟩ : MethodName) (head1 (Jvm.Cond.code (⟨"java/lang/String", "<init>", "([CIILjava/lang/Void;)V"⟩ : MethodName) jdk_42_method_149_code 6 none :: ws) ({ frames := 2, cells := 1, slots := 2, locals := 35 } : Room)) (fun zz UU => zz = #[(.ref a), (.ref ca), (.int (0 : Int32)), (.int (2 : Int32)), .null] ∧ Z.Warmed39 UU.vm ∧ UU.heap = h0) (fun _ _ _ _ _ => True) (fun _ U o U' => ∃ v L, o = .returned v ∧ Q_sin4_2 Z a ca kc cs c0 c1 h0 n0 v U'.heap L ∧ FrameEnd U o U' L ({ frames := 2, cells := 1, slots := 2, locals := 35 } : Room).cells ({ frames := 2, cells := 1, slots := 2, locals := 35 } : Room).slots) := by
  refine MetFree.of_bodySF (plainFor_of_name pn_4) hisR ?_
  intro p e s m args below meth c s₁ Bd hml0 hP hK
  obtain ⟨rfl, hZ, hh⟩ := hP
  have hx := Bd.exec
  have hby := Bd.bytes
  have hml : c.maxLocals = 6 := hml0
  have hown : s.vm.findClass "java/lang/String" = some m.cls := findClass_of_methodNamed Bd.named
  have hnm := (name_of_methodNamed Bd.named Bd.method).1
  have hlk : meth.locks = false := BodyLoose.notSynchronized Bd
  have X0 : Stand p l e ({ frames := 2, cells := 1, slots := 2, locals := 35 } : Room) s m #[(.ref a), (.ref ca), (.int (0 : Int32)), (.int (2 : Int32)), .null] below meth c s₁ [] 0 0 := Stand.of_body Bd
  have e0 : s₁.heap = h0 := by rw [← hh, Bd.state]; rfl
  have N0 := Fr.nil n0
  show own_Go p.tables e below (Q_sin4_2 Z a ca kc cs c0 c1 h0 n0) s ({ frames := 2, cells := 1, slots := 2, locals := 35 } : Room).cells ({ frames := 2, cells := 1, slots := 2, locals := 35 } : Room).slots s₁ (entryFrame m #[(.ref a), (.ref ca), (.int (0 : Int32)), (.int (2 : Int32)), .null] 6)
  rw [ef_sin4_2 m a ca]
  refine own_by (T' := s₁) (g' := (mkF m 1 #[.val (.ref a), .val (.ref ca), .val (.int (0 : Int32)), .val (.int (2 : Int32)), .val .null, .unset] [(.ref a)])) (fun _ k => XS.aloadN X0.here hx rfl (hb hby d4_0) rfl rfl k) ?_
  obtain ⟨T21, X21, e21, st21⟩ := initO X0 hx hZ hown (hw _ (List.mem_of_getElem? (i := 18) rfl)) (hw _ (List.mem_of_getElem? (i := 19) rfl)) (hw _ (List.mem_of_getElem? (i := 20) rfl)) e0 (g := (mkF m 1 #[.val (.ref a), .val (.ref ca), .val (.int (0 : Int32)), .val (.int (2 : Int32)), .val .null, .unset] [(.ref a)])) rfl (by rw [hml]; rfl) rfl (hb hby d4_1) (by decide) (W := 0) (by show 2 * 0 + _ ≤ _; exact Nat.le_of_eq rfl) (by decide)
  refine own_by (T' := T21) (g' := (mkF m 4 #[.val (.ref a), .val (.ref ca), .val (.int (0 : Int32)), .val (.int (2 : Int32)), .val .null, .unset] [])) (fun _ k => st21 _ k) ?_
  refine own_by (T' := T21) (g' := (mkF m 5 #[.val (.ref a), .val (.ref ca), .val (.int (0 : Int32)), .val (.int (2 : Int32)), .val .null, .unset] [(.int (2 : Int32))])) (fun _ k => XS.iloadN X21.here hx rfl (hb hby d4_4) rfl k) ?_
  refine own_by (T' := T21) (g' := (mkF m 27 #[.val (.ref a), .val (.ref ca), .val (.int (0 : Int32)), .val (.int (2 : Int32)), .val .null, .unset] [])) (fun _ k => XS.ifYes X21.here hx rfl (pc0 := 5) (pc' := 27) rfl (hb hby d4_5) rfl ((if0 _ _).trans (feq (by decide)).2) (by decide) (by decide) k) ?_
  obtain ⟨T22, X22, e22, st22⟩ := getS2 X21 hx hZ hown (host := "") (Or.inl (hw _ (List.mem_of_getElem? (i := 69) rfl))) Via.refl e21 S_CS (g := (mkF m 27 #[.val (.ref a), .val (.ref ca), .val (.int (0 : Int32)), .val (.int (2 : Int32)), .val .null, .unset] [])) rfl (hb hby d4_27)
  refine own_by (T' := T22) (g' := (mkF m 30 #[.val (.ref a), .val (.ref ca), .val (.int (0 : Int32)), .val (.int (2 : Int32)), .val .null, .unset] [(.int cs)])) (fun _ k => st22 _ k) ?_
  refine own_by (T' := T22) (g' := (mkF m 33 #[.val (.ref a), .val (.ref ca), .val (.int (0 : Int32)), .val (.int (2 : Int32)), .val .null, .unset] [])) (fun _ k => XS.ifNo X22.here hx rfl (hb hby d4_30) rfl ((if0 _ _).trans (feq hcs).1) k) ?_
  refine own_by (T' := T22) (g' := (mkF m 34 #[.val (.ref a), .val (.ref ca), .val (.int (0 : Int32)), .val (.int (2 : Int32)), .val .null, .unset] [(.ref ca)])) (fun _ k => XS.aloadN X22.here hx rfl (hb hby d4_33) rfl rfl k) ?_
  refine own_by (T' := T22) (g' := (mkF m 35 #[.val (.ref a), .val (.ref ca), .val (.int (0 : Int32)), .val (.int (2 : Int32)), .val .null, .unset] [(.int (0 : Int32)), (.ref ca)])) (fun _ k => XS.iloadN X22.here hx rfl (hb hby d4_34) rfl k) ?_
  refine own_by (T' := T22) (g' := (mkF m 36 #[.val (.ref a), .val (.ref ca), .val (.int (0 : Int32)), .val (.int (2 : Int32)), .val .null, .unset] [(.int (2 : Int32)), (.int (0 : Int32)), (.ref ca)])) (fun _ k => XS.iloadN X22.here hx rfl (hb hby d4_35) rfl k) ?_
  obtain ⟨_, _, ⟨T23, L23, k23, n23⟩, -, X23, ⟨Lc23, hQ23, l23, y23, z23⟩, st23⟩ := Jvm.LawKit.callS X22 hx (y := (⟨"java/lang/StringUTF16", "compress", "([CII)[B"⟩ : MethodName)) hown (mvT hZ (hw _ (List.mem_of_getElem? (i := 75) rfl))) (mvT hZ (hw _ (List.mem_of_getElem? (i := 76) rfl))) (mvT hZ (hw _ (List.mem_of_getElem? (i := 77) rfl))) (mvT hZ (hw _ (List.mem_of_getElem? (i := 78) rfl))) (by decide) (backOf (W := 0) (cmp3_2 l Z a0 hw [] ca kc c0 c1 h0 n0 Z0 V_ca hc0 hc1) hZ (hw _ (List.mem_of_getElem? (i := 78) rfl)) (hw _ (List.mem_of_getElem? (i := 77) rfl)) (by decide) (by decide)) (g := (mkF m 36 #[.val (.ref a), .val (.ref ca), .val (.int (0 : Int32)), .val (.int (2 : Int32)), .val .null, .unset] [(.int (2 : Int32)), (.int (0 : Int32)), (.ref ca)])) rfl (by rw [hml]; rfl) (argsL := [(.ref ca), (.int (0 : Int32)), (.int (2 : Int32))]) (rest := []) (lenOf pd_1 rfl) rfl (by show 2 * 0 + _ ≤ _; exact Nat.le_of_eq rfl) (hb hby d4_36) (fun _ _ => ⟨rfl, e22, (by decide : 0 + 1 ≤ _), (by decide : 0 + 2 ≤ _)⟩)
  dsimp only [Pt.U, Pt.locs, Pt.cells, Pt.slots] at X23 l23 y23 z23 st23 hQ23
  subst l23 y23 z23
  obtain ⟨t23, kb23, rfl, N23q, K23, zt23, V23⟩ := hQ23
  have N23 := Fr.app N0 N23q
  have KK23 : Keep h0 T23.heap [a] := Keep.trans (Keep.refl h0 [a]) K23 all0
  have sz_t23 : h0.size ≤ t23 := Nat.le_trans (Keep.refl h0 [a]).1 zt23
  have g_t23 : n0 ≤ t23 := Nat.le_trans Z0 sz_t23
  refine own_by (T' := T23) (g' := (mkF m 39 #[.val (.ref a), .val (.ref ca), .val (.int (0 : Int32)), .val (.int (2 : Int32)), .val .null, .unset] [(.ref t23)])) (fun _ k => st23 _ k) ?_
  refine own_by (T' := T23) (g' := (mkF m 41 #[.val (.ref a), .val (.ref ca), .val (.int (0 : Int32)), .val (.int (2 : Int32)), .val .null, .val (.ref t23)] [])) (fun _ k => XS.astore X23.here hx rfl (hb hby d4_39) rfl rfl (l' := #[.val (.ref a), .val (.ref ca), .val (.int (0 : Int32)), .val (.int (2 : Int32)), .val .null, .val (.ref t23)]) rfl k) ?_
  refine own_by (T' := T23) (g' := (mkF m 42 #[.val (.ref a), .val (.ref ca), .val (.int (0 : Int32)), .val (.int (2 : Int32)), .val .null, .val (.ref t23)] [(.ref a)])) (fun _ k => XS.aloadN X23.here hx rfl (hb hby d4_41) rfl rfl k) ?_
  refine own_by (T' := T23) (g' := (mkF m 44 #[.val (.ref a), .val (.ref ca), .val (.int (0 : Int32)), .val (.int (2 : Int32)), .val .null, .val (.ref t23)] [(.ref t23), (.ref a)])) (fun _ k => XS.aload X23.here hx rfl (hb hby d4_42) rfl rfl k) ?_
  refine own_by (T' := T23) (g' := (mkF m 45 #[.val (.ref a), .val (.ref ca), .val (.int (0 : Int32)), .val (.int (2 : Int32)), .val .null, .val (.ref t23)] [(.int (2 : Int32)), (.ref t23), (.ref a)])) (fun _ k => XS.iloadN X23.here hx rfl (hb hby d4_44) rfl k) ?_
  obtain ⟨_, _, ⟨T24, L24, k24, n24⟩, -, X24, ⟨Lc24, hQ24, l24, y24, z24⟩, st24⟩ := Jvm.LawKit.callS X23 hx (y := (⟨"java/lang/StringUTF16", "coderFromArrayLen", "([BI)B"⟩ : MethodName)) hown (mvT hZ (hw _ (List.mem_of_getElem? (i := 82) rfl))) (mvT hZ (hw _ (List.mem_of_getElem? (i := 83) rfl))) (mvT hZ (hw _ (List.mem_of_getElem? (i := 77) rfl))) (mvT hZ (hw _ (List.mem_of_getElem? (i := 84) rfl))) (by decide) (backOf (W := 1) (cod_2 l Z a0 hw [] t23 kb23 c0 c1 T23.heap n0 (Nat.le_trans Z0 K23.1) V23) hZ (hw _ (List.mem_of_getElem? (i := 84) rfl)) (hw _ (List.mem_of_getElem? (i := 77) rfl)) (by decide) (by decide)) (g := (mkF m 45 #[.val (.ref a), .val (.ref ca), .val (.int (0 : Int32)), .val (.int (2 : Int32)), .val .null, .val (.ref t23)] [(.int (2 : Int32)), (.ref t23), (.ref a)])) rfl (by rw [hml]; rfl) (argsL := [(.ref t23), (.int (2 : Int32))]) (rest := [(.ref a)]) (lenOf pd_2 rfl) rfl (by show 2 * 0 + _ ≤ _; exact Nat.le_of_eq rfl) (hb hby d4_45) (fun _ _ => ⟨rfl, rfl, (by decide : (0 + 1) + 0 ≤ _), (by decide : (0 + 2) + 0 ≤ _)⟩)
  dsimp only [Pt.U, Pt.locs, Pt.cells, Pt.slots] at X24 l24 y24 z24 st24 hQ24
  subst l24 y24 z24
  obtain ⟨rfl, N24q, e24⟩ := hQ24
  have N24 := Fr.app N23 N24q
  refine own_by (T' := T24) (g' := (mkF m 48 #[.val (.ref a), .val (.ref ca), .val (.int (0 : Int32)), .val (.int (2 : Int32)), .val .null, .val (.ref t23)] [(.int (0 : Int32)), (.ref a)])) (fun _ k => st24 _ k) ?_
  obtain ⟨T25, h25, X25, e25, W25, st25⟩ := putFN X24 hx hZ hown (hw _ (List.mem_of_getElem? (i := 28) rfl)) Via.refl e24 (Fld.keep F_coder_a K23 nin0) (Exa.keep E_a K23) (Or.inr ⟨(hw _ (List.mem_of_getElem? (i := 24) rfl)), rfl, hnm⟩) (hw _ (List.mem_of_getElem? (i := 8) rfl)) (ty := .byte) (v' := (.int (0 : Int32))) (by decide) rfl (by decide) (g := (mkF m 48 #[.val (.ref a), .val (.ref ca), .val (.int (0 : Int32)), .val (.int (2 : Int32)), .val .null, .val (.ref t23)] [(.int (0 : Int32)), (.ref a)])) rfl rfl (hb hby d4_48)
  have Fw25 : Fld Z h25 a "java/lang/String" "coder" "B" (.int (0 : Int32)) := Fld.same W25 (Fld.keep F_coder_a K23 nin0)
  have K25 : Keep h0 h25 [a] := Keep.wr KK23 W25 (Or.inl (List.mem_of_getElem? (i := 0) rfl))
  have N25 := Fr.snoc X25 N24 g_a
  refine own_by (T' := T25) (g' := (mkF m 51 #[.val (.ref a), .val (.ref ca), .val (.int (0 : Int32)), .val (.int (2 : Int32)), .val .null, .val (.ref t23)] [])) (fun _ k => st25 _ k) ?_
  refine own_by (T' := T25) (g' := (mkF m 52 #[.val (.ref a), .val (.ref ca), .val (.int (0 : Int32)), .val (.int (2 : Int32)), .val .null, .val (.ref t23)] [(.ref a)])) (fun _ k => XS.aloadN X25.here hx rfl (hb hby d4_51) rfl rfl k) ?_
  refine own_by (T' := T25) (g' := (mkF m 54 #[.val (.ref a), .val (.ref ca), .val (.int (0 : Int32)), .val (.int (2 : Int32)), .val .null, .val (.ref t23)] [(.ref t23), (.ref a)])) (fun _ k => XS.aload X25.here hx rfl (hb hby d4_52) rfl rfl k) ?_
  obtain ⟨T26, h26, X26, e26, W26, st26⟩ := putF X25 hx hZ hown (host := "") (Or.inl (hw _ (List.mem_of_getElem? (i := 27) rfl))) Via.refl e25 (Fld.other W25 (Fld.keep F_value_a K23 nin0) (Or.inr (slot_ne (a0 := a0) (Or.inr (hw _ (List.mem_of_getElem? (i := 23) rfl))) (Or.inr (hw _ (List.mem_of_getElem? (i := 24) rfl))) (by decide) (t := (.array .byte)) (t' := .byte) (by decide) (by decide)))) (Exa.wr W25 (Exa.keep E_a K23)) (Or.inr ⟨(hw _ (List.mem_of_getElem? (i := 23) rfl)), rfl, hnm⟩) (hw _ (List.mem_of_getElem? (i := 8) rfl)) (ty := (.array .byte)) (by decide) rfl rfl (g := (mkF m 54 #[.val (.ref a), .val (.ref ca), .val (.int (0 : Int32)), .val (.int (2 : Int32)), .val .null, .val (.ref t23)] [(.ref t23), (.ref a)])) rfl rfl (hb hby d4_54)
  have Fw26 : Fld Z h26 a "java/lang/String" "value" "[B" (.ref t23) := Fld.same W26 (Fld.other W25 (Fld.keep F_value_a K23 nin0) (Or.inr (slot_ne (a0 := a0) (Or.inr (hw _ (List.mem_of_getElem? (i := 23) rfl))) (Or.inr (hw _ (List.mem_of_getElem? (i := 24) rfl))) (by decide) (t := (.array .byte)) (t' := .byte) (by decide) (by decide))))
  have K26 : Keep h0 h26 [a] := Keep.wr K25 W26 (Or.inl (List.mem_of_getElem? (i := 0) rfl))
  have N26 := Fr.snoc X26 N25 g_a
  refine own_by (T' := T26) (g' := (mkF m 57 #[.val (.ref a), .val (.ref ca), .val (.int (0 : Int32)), .val (.int (2 : Int32)), .val .null, .val (.ref t23)] [])) (fun _ k => st26 _ k) ?_
  refine own_ret X26 hlk (v := none) (fun _ => rfl) (fun fs hr => X26.returnOut hx Bd.returns (hb hby d4_57) hr) ?_ (by decide) (by decide)
  rw [e26]
  exact ⟨rfl, N26, K26, (Fld.other W26 Fw25 (Or.inr (slot_ne (a0 := a0) (Or.inr (hw _ (List.mem_of_getElem? (i := 24) rfl))) (Or.inr (hw _ (List.mem_of_getElem? (i := 23) rfl))) (by decide) (t := .byte) (t' := (.array .byte)) (by decide) (by decide)))), _, _, sz_t23, Fw26, (Arv.other (Arv.other V23 W25 (Ne.symm (Nat.ne_of_lt (Nat.lt_of_lt_of_le (E_a).lt zt23)))) W26 (Ne.symm (Nat.ne_of_lt (Nat.lt_of_lt_of_le (E_a).lt zt23))))⟩
theorem ef_sin1_2 (m : MethodId) (a : Addr) (ca : Addr) : entryFrame m #[(.ref a), (.ref ca)] 2 = mkF m 0 #[.val (.ref a), .val (.ref ca)] [] := by first | (simp [entryFrame, mkF, argsToLocals, Value.category]; done) | rfl
def Q_sin1_2 (Z : State) (a : Addr) (ca : Addr) (kc : ClassId) (cs : Int32) (c0 : Int32) (c1 : Int32) (h0 : Heap) (n0 : Nat) (v : Option Value) (h : Heap) (L : List Loc) : Prop := v = none ∧ Fr n0 L ∧ Keep h0 h [a] ∧ Fld Z h a "java/lang/String" "coder" "B" (.int (0 : Int32)) ∧ ∃ (t : Addr) (kb : ClassId), h0.size ≤ t ∧ Fld Z h a "java/lang/String" "value" "[B" (.ref t) ∧ Arv Z h t kb .byte (2 : Int32) [(.int (nar .byte (c0.toInt8.toInt32))), (.int (nar .byte (c1.toInt8.toInt32)))] (.int (0 : Int32))
set_option maxRecDepth 65536 in
set_option maxHeartbeats 40000000 in
theorem sin1_2 (l : Launch) (Z : State) (a0 : Array Value) (hw : ∀ d ∈ tables_1, d.before a0 Z = true) (ws : List Jvm.Cond) (a : Addr) (ca : Addr) (kc : ClassId) (cs : Int32) (c0 : Int32) (c1 : Int32) (h0 : Heap) (n0 : Nat) (Z0 : n0 ≤ h0.size) (E_a : Exa Z h0 a "java/lang/String") (F_value_a : Fld Z h0 a "java/lang/String" "value" "[B" .null) (F_coder_a : Fld Z h0 a "java/lang/String" "coder" "B" (.int (0 : Int32))) (g_a : n0 ≤ a) (V_ca : Arv Z h0 ca kc .char (2 : Int32) [(.int c0), (.int c1)] (.int (0 : Int32))) (S_CS : Sta Z h0 "java/lang/String" "COMPACT_STRINGS" "Z" (.int cs)) (hcs : ¬ cs = (0 : Int32)) (hc0 : ¬ (255 : Int32) < c0) (hc1 : ¬ (255 : Int32) < c1) :
    MetFree l (⟨"java/lang/String", "<init>", "([C)V"⟩ : MethodName) (head1 (Jvm.Cond.code (⟨"java/lang/String", "<init>", "([C)V"⟩ : MethodName) jdk_42_method_3_code 2 none :: ws) ({ frames := 3, cells := 1, slots := 2, locals := 52 } : Room)) (fun zz UU => zz = #[(.ref a), (.ref ca)] ∧ Z.Warmed39 UU.vm ∧ UU.heap = h0) (fun _ _ _ _ _ => True) (fun _ U o U' => ∃ v L, o = .returned v ∧ Q_sin1_2 Z a ca kc cs c0 c1 h0 n0 v U'.heap L ∧ FrameEnd U o U' L ({ frames := 3, cells := 1, slots := 2, locals := 52 } : Room).cells ({ frames := 3, cells := 1, slots := 2, locals := 52 } : Room).slots) := by
  refine MetFree.of_bodySF (plainFor_of_name pn_3) hisR ?_
  intro p e s m args below meth c s₁ Bd hml0 hP hK
  obtain ⟨rfl, hZ, hh⟩ := hP
  have hx := Bd.exec
  have hby := Bd.bytes
  have hml : c.maxLocals = 2 := hml0
  have hown : s.vm.findClass "java/lang/String" = some m.cls := findClass_of_methodNamed Bd.named
  have hnm := (name_of_methodNamed Bd.named Bd.method).1
  have hlk : meth.locks = false := BodyLoose.notSynchronized Bd
  have X0 : Stand p l e ({ frames := 3, cells := 1, slots := 2, locals := 52 } : Room) s m #[(.ref a), (.ref ca)] below meth c s₁ [] 0 0 := Stand.of_body Bd
  have e0 : s₁.heap = h0 := by rw [← hh, Bd.state]; rfl
  have N0 := Fr.nil n0
  show own_Go p.tables e below (Q_sin1_2 Z a ca kc cs c0 c1 h0 n0) s ({ frames := 3, cells := 1, slots := 2, locals := 52 } : Room).cells ({ frames := 3, cells := 1, slots := 2, locals := 52 } : Room).slots s₁ (entryFrame m #[(.ref a), (.ref ca)] 2)
  rw [ef_sin1_2 m a ca]
  refine own_by (T' := s₁) (g' := (mkF m 1 #[.val (.ref a), .val (.ref ca)] [(.ref a)])) (fun _ k => XS.aloadN X0.here hx rfl (hb hby d3_0) rfl rfl k) ?_
  refine own_by (T' := s₁) (g' := (mkF m 2 #[.val (.ref a), .val (.ref ca)] [(.ref ca), (.ref a)])) (fun _ k => XS.aloadN X0.here hx rfl (hb hby d3_1) rfl rfl k) ?_
  refine own_by (T' := s₁) (g' := (mkF m 3 #[.val (.ref a), .val (.ref ca)] [(.int (0 : Int32)), (.ref ca), (.ref a)])) (fun _ k => XS.iconst X0.here hx rfl (hb hby d3_2) k) ?_
  refine own_by (T' := s₁) (g' := (mkF m 4 #[.val (.ref a), .val (.ref ca)] [(.ref ca), (.int (0 : Int32)), (.ref ca), (.ref a)])) (fun _ k => XS.aloadN X0.here hx rfl (hb hby d3_3) rfl rfl k) ?_
  obtain ⟨cl21, Ar21, q21, S21, N_21, H21, G21⟩ := id V_ca
  refine own_by (T' := s₁) (g' := (mkF m 5 #[.val (.ref a), .val (.ref ca)] [(.int (2 : Int32)), (.int (0 : Int32)), (.ref ca), (.ref a)])) (fun _ k => X0.arraylength hx (by rw [e0]; exact Ar21.1) (State.isArrayOf_alike hZ.alike Ar21.2.1) (g := (mkF m 4 #[.val (.ref a), .val (.ref ca)] [(.ref ca), (.int (0 : Int32)), (.ref ca), (.ref a)])) rfl rfl (hb hby d3_4) _ (by rw [len_of S21 N_21]; exact k)) ?_
  refine own_by (T' := s₁) (g' := (mkF m 6 #[.val (.ref a), .val (.ref ca)] [.null, (.int (2 : Int32)), (.int (0 : Int32)), (.ref ca), (.ref a)])) (fun _ k => XS.aconstNull X0.here hx rfl (hb hby d3_5) k) ?_
  obtain ⟨_, _, ⟨T22, L22, k22, n22⟩, -, X22, ⟨Lc22, hQ22, l22, y22, z22⟩, st22⟩ := X0.specialBack hx (y := (⟨"java/lang/String", "<init>", "([CIILjava/lang/Void;)V"⟩ : MethodName)) rfl hown (mvT hZ (hw _ (List.mem_of_getElem? (i := 14) rfl))) (mvT hZ (hw _ (List.mem_of_getElem? (i := 15) rfl))) (mvT hZ (hw _ (List.mem_of_getElem? (i := 17) rfl))) (by decide) (backOf (W := 0) (sin4_2 l Z a0 hw [] a ca kc cs c0 c1 h0 n0 Z0 E_a F_value_a F_coder_a g_a V_ca S_CS hcs hc0 hc1) hZ (hw _ (List.mem_of_getElem? (i := 17) rfl)) (hw _ (List.mem_of_getElem? (i := 9) rfl)) (by decide) (by decide)) (g := (mkF m 6 #[.val (.ref a), .val (.ref ca)] [.null, (.int (2 : Int32)), (.int (0 : Int32)), (.ref ca), (.ref a)])) rfl (by rw [hml]; rfl) (Steps.refl _) (a := a) (argsL := [(.ref ca), (.int (0 : Int32)), (.int (2 : Int32)), .null]) (rest := []) (lenOf pd_3 rfl) rfl (by show 2 * 0 + _ ≤ _; exact Nat.le_of_eq rfl) (hb hby d3_6) (fun _ _ => ⟨rfl, e0, (by decide : 0 + 1 ≤ _), (by decide : 0 + 2 ≤ _)⟩)
  dsimp only [Pt.U, Pt.locs, Pt.cells, Pt.slots] at X22 l22 y22 z22 st22 hQ22
  subst l22 y22 z22
  obtain ⟨rfl, N22q, K22, Fc22, t22, kb22, zt22, Fv22, V22⟩ := hQ22
  have N22 := Fr.app N0 N22q
  have KK22 : Keep h0 T22.heap [a] := Keep.trans (Keep.refl h0 [a]) K22 (allS (Or.inl (List.mem_of_getElem? (i := 0) rfl)) all0)
  have sz_t22 : h0.size ≤ t22 := zt22
  refine own_by (T' := T22) (g' := (mkF m 9 #[.val (.ref a), .val (.ref ca)] [])) (fun _ k => st22.trans k) ?_
  refine own_ret X22 hlk (v := none) (fun _ => rfl) (fun fs hr => X22.returnOut hx Bd.returns (hb hby d3_9) hr) ?_ (by decide) (by decide)
  exact ⟨rfl, N22, KK22, Fc22, _, _, sz_t22, Fv22, V22⟩
theorem ef_cmp5_3 (m : MethodId) (ca : Addr) (ba : Addr) : entryFrame m #[(.ref ca), (.int (0 : Int32)), (.ref ba), (.int (0 : Int32)), (.int (3 : Int32))] 7 = mkF m 0 #[.val (.ref ca), .val (.int (0 : Int32)), .val (.ref ba), .val (.int (0 : Int32)), .val (.int (3 : Int32)), .unset, .unset] [] := by first | (simp [entryFrame, mkF, argsToLocals, Value.category]; done) | rfl
def Q_cmp5_3 (Z : State) (ca : Addr) (ba : Addr) (kc : ClassId) (kb : ClassId) (c0 : Int32) (c1 : Int32) (c2 : Int32) (h0 : Heap) (n0 : Nat) (v : Option Value) (h : Heap) (L : List Loc) : Prop := v = some (.int (3 : Int32)) ∧ Fr n0 L ∧ Keep h0 h [ba] ∧ Arv Z h ba kb .byte (3 : Int32) [(.int (nar .byte (c0.toInt8.toInt32))), (.int (nar .byte (c1.toInt8.toInt32))), (.int (nar .byte (c2.toInt8.toInt32)))] (.int (0 : Int32))
set_option maxRecDepth 65536 in
set_option maxHeartbeats 40000000 in
theorem cmp5_3 (l : Launch) (Z : State) (a0 : Array Value) (hw : ∀ d ∈ tables_1, d.before a0 Z = true) (ws : List Jvm.Cond) (ca : Addr) (ba : Addr) (kc : ClassId) (kb : ClassId) (c0 : Int32) (c1 : Int32) (c2 : Int32) (h0 : Heap) (n0 : Nat) (Z0 : n0 ≤ h0.size) (V_ca : Arv Z h0 ca kc .char (3 : Int32) [(.int c0), (.int c1), (.int c2)] (.int (0 : Int32))) (V_ba : Arv Z h0 ba kb .byte (3 : Int32) [(.int (0 : Int32)), (.int (0 : Int32)), (.int (0 : Int32))] (.int (0 : Int32))) (g_ba : n0 ≤ ba) (neab : ca ≠ ba) (hc0 : ¬ (255 : Int32) < c0) (hc1 : ¬ (255 : Int32) < c1) (hc2 : ¬ (255 : Int32) < c2) :
    MetFree l (⟨"java/lang/StringUTF16", "compress", "([CI[BII)I"⟩ : MethodName) (head1 (Jvm.Cond.code (⟨"java/lang/StringUTF16", "compress", "([CI[BII)I"⟩ : MethodName) jdk_52_method_21_code 7 (some .int) :: ws) ({ frames := 0, cells := 0, slots := 0, locals := 0 } : Room)) (fun zz UU => zz = #[(.ref ca), (.int (0 : Int32)), (.ref ba), (.int (0 : Int32)), (.int (3 : Int32))] ∧ Z.Warmed39 UU.vm ∧ UU.heap = h0) (fun _ _ _ _ _ => True) (fun _ U o U' => ∃ v L, o = .returned v ∧ Q_cmp5_3 Z ca ba kc kb c0 c1 c2 h0 n0 v U'.heap L ∧ FrameEnd U o U' L ({ frames := 0, cells := 0, slots := 0, locals := 0 } : Room).cells ({ frames := 0, cells := 0, slots := 0, locals := 0 } : Room).slots) := by
  refine MetFree.of_bodySF (plainFor_of_name pn_14) hisR ?_
  intro p e s m args below meth c s₁ Bd hml0 hP hK
  obtain ⟨rfl, hZ, hh⟩ := hP
  have hx := Bd.exec
  have hby := Bd.bytes
  have hml : c.maxLocals = 7 := hml0
  have hown : s.vm.findClass "java/lang/StringUTF16" = some m.cls := findClass_of_methodNamed Bd.named
  have hnm := (name_of_methodNamed Bd.named Bd.method).1
  have hlk : meth.locks = false := BodyLoose.notSynchronized Bd
  have X0 : Stand p l e ({ frames := 0, cells := 0, slots := 0, locals := 0 } : Room) s m #[(.ref ca), (.int (0 : Int32)), (.ref ba), (.int (0 : Int32)), (.int (3 : Int32))] below meth c s₁ [] 0 0 := Stand.of_body Bd
  have e0 : s₁.heap = h0 := by rw [← hh, Bd.state]; rfl
  have N0 := Fr.nil n0
  show own_Go p.tables e below (Q_cmp5_3 Z ca ba kc kb c0 c1 c2 h0 n0) s ({ frames := 0, cells := 0, slots := 0, locals := 0 } : Room).cells ({ frames := 0, cells := 0, slots := 0, locals := 0 } : Room).slots s₁ (entryFrame m #[(.ref ca), (.int (0 : Int32)), (.ref ba), (.int (0 : Int32)), (.int (3 : Int32))] 7)
  rw [ef_cmp5_3 m ca ba]
  refine own_by (T' := s₁) (g' := (mkF m 1 #[.val (.ref ca), .val (.int (0 : Int32)), .val (.ref ba), .val (.int (0 : Int32)), .val (.int (3 : Int32)), .unset, .unset] [(.int (0 : Int32))])) (fun _ k => XS.iconst X0.here hx rfl (hb hby d14_0) k) ?_
  refine own_by (T' := s₁) (g' := (mkF m 3 #[.val (.ref ca), .val (.int (0 : Int32)), .val (.ref ba), .val (.int (0 : Int32)), .val (.int (3 : Int32)), .val (.int (0 : Int32)), .unset] [])) (fun _ k => XS.istore X0.here hx rfl (hb hby d14_1) rfl (l' := #[.val (.ref ca), .val (.int (0 : Int32)), .val (.ref ba), .val (.int (0 : Int32)), .val (.int (3 : Int32)), .val (.int (0 : Int32)), .unset]) rfl k) ?_
  refine own_by (T' := s₁) (g' := (mkF m 5 #[.val (.ref ca), .val (.int (0 : Int32)), .val (.ref ba), .val (.int (0 : Int32)), .val (.int (3 : Int32)), .val (.int (0 : Int32)), .unset] [(.int (0 : Int32))])) (fun _ k => XS.iload X0.here hx rfl (hb hby d14_3) rfl k) ?_
  refine own_by (T' := s₁) (g' := (mkF m 7 #[.val (.ref ca), .val (.int (0 : Int32)), .val (.ref ba), .val (.int (0 : Int32)), .val (.int (3 : Int32)), .val (.int (0 : Int32)), .unset] [(.int (3 : Int32)), (.int (0 : Int32))])) (fun _ k => XS.iload X0.here hx rfl (hb hby d14_5) rfl k) ?_
  refine own_by (T' := s₁) (g' := (mkF m 10 #[.val (.ref ca), .val (.int (0 : Int32)), .val (.ref ba), .val (.int (0 : Int32)), .val (.int (3 : Int32)), .val (.int (0 : Int32)), .unset] [])) (fun _ k => XS.icmpNo X0.here hx rfl (hb hby d14_7) rfl (tlt (by decide)).2.1 k) ?_
  refine own_by (T' := s₁) (g' := (mkF m 11 #[.val (.ref ca), .val (.int (0 : Int32)), .val (.ref ba), .val (.int (0 : Int32)), .val (.int (3 : Int32)), .val (.int (0 : Int32)), .unset] [(.ref ca)])) (fun _ k => XS.aloadN X0.here hx rfl (hb hby d14_10) rfl rfl k) ?_
  refine own_by (T' := s₁) (g' := (mkF m 12 #[.val (.ref ca), .val (.int (0 : Int32)), .val (.ref ba), .val (.int (0 : Int32)), .val (.int (3 : Int32)), .val (.int (0 : Int32)), .unset] [(.int (0 : Int32)), (.ref ca)])) (fun _ k => XS.iloadN X0.here hx rfl (hb hby d14_11) rfl k) ?_
  obtain ⟨cl21, Ar21, q21, S21, N_21, H21, G21⟩ := id V_ca
  have hin21 : ¬ ((0 : Int32) < 0 ∨ cl21.slots.size ≤ ((0 : Int32)).toNatClampNeg) := inb_of S21 ⟨by decide, by decide⟩
  refine own_by (T' := s₁) (g' := (mkF m 13 #[.val (.ref ca), .val (.int (0 : Int32)), .val (.ref ba), .val (.int (0 : Int32)), .val (.int (3 : Int32)), .val (.int (0 : Int32)), .unset] [(.int c0)])) (fun _ k => X0.caload hx (j := (0 : Int32)) (v := (.int c0)) (by rw [e0]; exact Ar21.1) (State.isArrayOf_alike hZ.alike Ar21.2.1) Ar21.2.2 hin21 (Has.at H21 hin21 rfl) (g := (mkF m 12 #[.val (.ref ca), .val (.int (0 : Int32)), .val (.ref ba), .val (.int (0 : Int32)), .val (.int (3 : Int32)), .val (.int (0 : Int32)), .unset] [(.int (0 : Int32)), (.ref ca)])) rfl rfl (hb hby d14_12) _ k) ?_
  refine own_by (T' := s₁) (g' := (mkF m 15 #[.val (.ref ca), .val (.int (0 : Int32)), .val (.ref ba), .val (.int (0 : Int32)), .val (.int (3 : Int32)), .val (.int (0 : Int32)), .val (.int c0)] [])) (fun _ k => XS.istore X0.here hx rfl (hb hby d14_13) rfl (l' := #[.val (.ref ca), .val (.int (0 : Int32)), .val (.ref ba), .val (.int (0 : Int32)), .val (.int (3 : Int32)), .val (.int (0 : Int32)), .val (.int c0)]) rfl k) ?_
  refine own_by (T' := s₁) (g' := (mkF m 17 #[.val (.ref ca), .val (.int (0 : Int32)), .val (.ref ba), .val (.int (0 : Int32)), .val (.int (3 : Int32)), .val (.int (0 : Int32)), .val (.int c0)] [(.int c0)])) (fun _ k => XS.iload X0.here hx rfl (hb hby d14_15) rfl k) ?_
  refine own_by (T' := s₁) (g' := (mkF m 20 #[.val (.ref ca), .val (.int (0 : Int32)), .val (.ref ba), .val (.int (0 : Int32)), .val (.int (3 : Int32)), .val (.int (0 : Int32)), .val (.int c0)] [(.int (255 : Int32)), (.int c0)])) (fun _ k => XS.sipush X0.here hx rfl (hb hby d14_17) k) ?_
  refine own_by (T' := s₁) (g' := (mkF m 26 #[.val (.ref ca), .val (.int (0 : Int32)), .val (.ref ba), .val (.int (0 : Int32)), .val (.int (3 : Int32)), .val (.int (0 : Int32)), .val (.int c0)] [])) (fun _ k => XS.icmpYes X0.here hx rfl (pc0 := 20) (pc' := 26) rfl (hb hby d14_20) rfl (flt hc0).2.2.2 (by decide) (by decide) k) ?_
  refine own_by (T' := s₁) (g' := (mkF m 27 #[.val (.ref ca), .val (.int (0 : Int32)), .val (.ref ba), .val (.int (0 : Int32)), .val (.int (3 : Int32)), .val (.int (0 : Int32)), .val (.int c0)] [(.ref ba)])) (fun _ k => XS.aloadN X0.here hx rfl (hb hby d14_26) rfl rfl k) ?_
  refine own_by (T' := s₁) (g' := (mkF m 28 #[.val (.ref ca), .val (.int (0 : Int32)), .val (.ref ba), .val (.int (0 : Int32)), .val (.int (3 : Int32)), .val (.int (0 : Int32)), .val (.int c0)] [(.int (0 : Int32)), (.ref ba)])) (fun _ k => XS.iloadN X0.here hx rfl (hb hby d14_27) rfl k) ?_
  refine own_by (T' := s₁) (g' := (mkF m 30 #[.val (.ref ca), .val (.int (0 : Int32)), .val (.ref ba), .val (.int (0 : Int32)), .val (.int (3 : Int32)), .val (.int (0 : Int32)), .val (.int c0)] [(.int c0), (.int (0 : Int32)), (.ref ba)])) (fun _ k => XS.iload X0.here hx rfl (hb hby d14_28) rfl k) ?_
  refine own_by (T' := s₁) (g' := (mkF m 31 #[.val (.ref ca), .val (.int (0 : Int32)), .val (.ref ba), .val (.int (0 : Int32)), .val (.int (3 : Int32)), .val (.int (0 : Int32)), .val (.int c0)] [(.int (c0.toInt8.toInt32)), (.int (0 : Int32)), (.ref ba)])) (fun _ k => XS.i2b X0.here hx rfl (hb hby d14_30) rfl k) ?_
  obtain ⟨cl22, Ar22, q22, S22, N_22, H22, G22⟩ := id V_ba
  have hin22 : ¬ ((0 : Int32) < 0 ∨ cl22.slots.size ≤ ((0 : Int32)).toNatClampNeg) := inb_of S22 ⟨by decide, by decide⟩
  obtain ⟨T23, h23, X23, e23, W23, st23⟩ := stB X0 hx hZ e0 Ar22 (j := (0 : Int32)) hin22 (g := (mkF m 31 #[.val (.ref ca), .val (.int (0 : Int32)), .val (.ref ba), .val (.int (0 : Int32)), .val (.int (3 : Int32)), .val (.int (0 : Int32)), .val (.int c0)] [(.int (c0.toInt8.toInt32)), (.int (0 : Int32)), (.ref ba)])) rfl rfl (hb hby d14_31)
  have V23 : Arv Z h23 ba kb .byte (3 : Int32) [(.int (nar .byte (c0.toInt8.toInt32))), (.int (0 : Int32)), (.int (0 : Int32))] (.int (0 : Int32)) := Arv.set Ar22 q22 S22 N_22 H22 G22 (fits_nar_byte _) W23 0 rfl (Nat.le_of_ble_eq_true rfl)
  have K23 : Keep h0 h23 [ba] := Keep.wr (Keep.refl h0 [ba]) W23 (Or.inl (List.mem_of_getElem? (i := 0) rfl))
  have N23 := Fr.snoc X23 N0 g_ba
  refine own_by (T' := T23) (g' := (mkF m 32 #[.val (.ref ca), .val (.int (0 : Int32)), .val (.ref ba), .val (.int (0 : Int32)), .val (.int (3 : Int32)), .val (.int (0 : Int32)), .val (.int c0)] [])) (fun _ k => st23 _ k) ?_
  refine own_by (T' := T23) (g' := (mkF m 35 #[.val (.ref ca), .val (.int (1 : Int32)), .val (.ref ba), .val (.int (0 : Int32)), .val (.int (3 : Int32)), .val (.int (0 : Int32)), .val (.int c0)] [])) (fun _ k => XS.iinc X23.here hx rfl (hb hby d14_32) rfl (l' := #[.val (.ref ca), .val (.int (1 : Int32)), .val (.ref ba), .val (.int (0 : Int32)), .val (.int (3 : Int32)), .val (.int (0 : Int32)), .val (.int c0)]) rfl k) ?_
  refine own_by (T' := T23) (g' := (mkF m 38 #[.val (.ref ca), .val (.int (1 : Int32)), .val (.ref ba), .val (.int (1 : Int32)), .val (.int (3 : Int32)), .val (.int (0 : Int32)), .val (.int c0)] [])) (fun _ k => XS.iinc X23.here hx rfl (hb hby d14_35) rfl (l' := #[.val (.ref ca), .val (.int (1 : Int32)), .val (.ref ba), .val (.int (1 : Int32)), .val (.int (3 : Int32)), .val (.int (0 : Int32)), .val (.int c0)]) rfl k) ?_
  refine own_by (T' := T23) (g' := (mkF m 41 #[.val (.ref ca), .val (.int (1 : Int32)), .val (.ref ba), .val (.int (1 : Int32)), .val (.int (3 : Int32)), .val (.int (1 : Int32)), .val (.int c0)] [])) (fun _ k => XS.iinc X23.here hx rfl (hb hby d14_38) rfl (l' := #[.val (.ref ca), .val (.int (1 : Int32)), .val (.ref ba), .val (.int (1 : Int32)), .val (.int (3 : Int32)), .val (.int (1 : Int32)), .val (.int c0)]) rfl k) ?_
  refine own_by (T' := T23) (g' := (mkF m 3 #[.val (.ref ca), .val (.int (1 : Int32)), .val (.ref ba), .val (.int (1 : Int32)), .val (.int (3 : Int32)), .val (.int (1 : Int32)), .val (.int c0)] [])) (fun _ k => XS.goto X23.here hx rfl (pc0 := 41) (pc' := 3) rfl (hb hby d14_41) (by decide) (by decide) k) ?_
  refine own_by (T' := T23) (g' := (mkF m 5 #[.val (.ref ca), .val (.int (1 : Int32)), .val (.ref ba), .val (.int (1 : Int32)), .val (.int (3 : Int32)), .val (.int (1 : Int32)), .val (.int c0)] [(.int (1 : Int32))])) (fun _ k => XS.iload X23.here hx rfl (hb hby d14_3) rfl k) ?_
  refine own_by (T' := T23) (g' := (mkF m 7 #[.val (.ref ca), .val (.int (1 : Int32)), .val (.ref ba), .val (.int (1 : Int32)), .val (.int (3 : Int32)), .val (.int (1 : Int32)), .val (.int c0)] [(.int (3 : Int32)), (.int (1 : Int32))])) (fun _ k => XS.iload X23.here hx rfl (hb hby d14_5) rfl k) ?_
  refine own_by (T' := T23) (g' := (mkF m 10 #[.val (.ref ca), .val (.int (1 : Int32)), .val (.ref ba), .val (.int (1 : Int32)), .val (.int (3 : Int32)), .val (.int (1 : Int32)), .val (.int c0)] [])) (fun _ k => XS.icmpNo X23.here hx rfl (hb hby d14_7) rfl (tlt (by decide)).2.1 k) ?_
  refine own_by (T' := T23) (g' := (mkF m 11 #[.val (.ref ca), .val (.int (1 : Int32)), .val (.ref ba), .val (.int (1 : Int32)), .val (.int (3 : Int32)), .val (.int (1 : Int32)), .val (.int c0)] [(.ref ca)])) (fun _ k => XS.aloadN X23.here hx rfl (hb hby d14_10) rfl rfl k) ?_
  refine own_by (T' := T23) (g' := (mkF m 12 #[.val (.ref ca), .val (.int (1 : Int32)), .val (.ref ba), .val (.int (1 : Int32)), .val (.int (3 : Int32)), .val (.int (1 : Int32)), .val (.int c0)] [(.int (1 : Int32)), (.ref ca)])) (fun _ k => XS.iloadN X23.here hx rfl (hb hby d14_11) rfl k) ?_
  obtain ⟨cl24, Ar24, q24, S24, N_24, H24, G24⟩ := id (Arv.other V_ca W23 neab)
  have hin24 : ¬ ((1 : Int32) < 0 ∨ cl24.slots.size ≤ ((1 : Int32)).toNatClampNeg) := inb_of S24 ⟨by decide, by decide⟩
  refine own_by (T' := T23) (g' := (mkF m 13 #[.val (.ref ca), .val (.int (1 : Int32)), .val (.ref ba), .val (.int (1 : Int32)), .val (.int (3 : Int32)), .val (.int (1 : Int32)), .val (.int c0)] [(.int c1)])) (fun _ k => X23.caload hx (j := (1 : Int32)) (v := (.int c1)) (by rw [e23]; exact Ar24.1) (State.isArrayOf_alike hZ.alike Ar24.2.1) Ar24.2.2 hin24 (Has.at H24 hin24 rfl) (g := (mkF m 12 #[.val (.ref ca), .val (.int (1 : Int32)), .val (.ref ba), .val (.int (1 : Int32)), .val (.int (3 : Int32)), .val (.int (1 : Int32)), .val (.int c0)] [(.int (1 : Int32)), (.ref ca)])) rfl rfl (hb hby d14_12) _ k) ?_
  refine own_by (T' := T23) (g' := (mkF m 15 #[.val (.ref ca), .val (.int (1 : Int32)), .val (.ref ba), .val (.int (1 : Int32)), .val (.int (3 : Int32)), .val (.int (1 : Int32)), .val (.int c1)] [])) (fun _ k => XS.istore X23.here hx rfl (hb hby d14_13) rfl (l' := #[.val (.ref ca), .val (.int (1 : Int32)), .val (.ref ba), .val (.int (1 : Int32)), .val (.int (3 : Int32)), .val (.int (1 : Int32)), .val (.int c1)]) rfl k) ?_
  refine own_by (T' := T23) (g' := (mkF m 17 #[.val (.ref ca), .val (.int (1 : Int32)), .val (.ref ba), .val (.int (1 : Int32)), .val (.int (3 : Int32)), .val (.int (1 : Int32)), .val (.int c1)] [(.int c1)])) (fun _ k => XS.iload X23.here hx rfl (hb hby d14_15) rfl k) ?_
  refine own_by (T' := T23) (g' := (mkF m 20 #[.val (.ref ca), .val (.int (1 : Int32)), .val (.ref ba), .val (.int (1 : Int32)), .val (.int (3 : Int32)), .val (.int (1 : Int32)), .val (.int c1)] [(.int (255 : Int32)), (.int c1)])) (fun _ k => XS.sipush X23.here hx rfl (hb hby d14_17) k) ?_
  refine own_by (T' := T23) (g' := (mkF m 26 #[.val (.ref ca), .val (.int (1 : Int32)), .val (.ref ba), .val (.int (1 : Int32)), .val (.int (3 : Int32)), .val (.int (1 : Int32)), .val (.int c1)] [])) (fun _ k => XS.icmpYes X23.here hx rfl (pc0 := 20) (pc' := 26) rfl (hb hby d14_20) rfl (flt hc1).2.2.2 (by decide) (by decide) k) ?_
  refine own_by (T' := T23) (g' := (mkF m 27 #[.val (.ref ca), .val (.int (1 : Int32)), .val (.ref ba), .val (.int (1 : Int32)), .val (.int (3 : Int32)), .val (.int (1 : Int32)), .val (.int c1)] [(.ref ba)])) (fun _ k => XS.aloadN X23.here hx rfl (hb hby d14_26) rfl rfl k) ?_
  refine own_by (T' := T23) (g' := (mkF m 28 #[.val (.ref ca), .val (.int (1 : Int32)), .val (.ref ba), .val (.int (1 : Int32)), .val (.int (3 : Int32)), .val (.int (1 : Int32)), .val (.int c1)] [(.int (1 : Int32)), (.ref ba)])) (fun _ k => XS.iloadN X23.here hx rfl (hb hby d14_27) rfl k) ?_
  refine own_by (T' := T23) (g' := (mkF m 30 #[.val (.ref ca), .val (.int (1 : Int32)), .val (.ref ba), .val (.int (1 : Int32)), .val (.int (3 : Int32)), .val (.int (1 : Int32)), .val (.int c1)] [(.int c1), (.int (1 : Int32)), (.ref ba)])) (fun _ k => XS.iload X23.here hx rfl (hb hby d14_28) rfl k) ?_
  refine own_by (T' := T23) (g' := (mkF m 31 #[.val (.ref ca), .val (.int (1 : Int32)), .val (.ref ba), .val (.int (1 : Int32)), .val (.int (3 : Int32)), .val (.int (1 : Int32)), .val (.int c1)] [(.int (c1.toInt8.toInt32)), (.int (1 : Int32)), (.ref ba)])) (fun _ k => XS.i2b X23.here hx rfl (hb hby d14_30) rfl k) ?_
  obtain ⟨cl25, Ar25, q25, S25, N_25, H25, G25⟩ := id V23
  have hin25 : ¬ ((1 : Int32) < 0 ∨ cl25.slots.size ≤ ((1 : Int32)).toNatClampNeg) := inb_of S25 ⟨by decide, by decide⟩
  obtain ⟨T26, h26, X26, e26, W26, st26⟩ := stB X23 hx hZ e23 Ar25 (j := (1 : Int32)) hin25 (g := (mkF m 31 #[.val (.ref ca), .val (.int (1 : Int32)), .val (.ref ba), .val (.int (1 : Int32)), .val (.int (3 : Int32)), .val (.int (1 : Int32)), .val (.int c1)] [(.int (c1.toInt8.toInt32)), (.int (1 : Int32)), (.ref ba)])) rfl rfl (hb hby d14_31)
  have V26 : Arv Z h26 ba kb .byte (3 : Int32) [(.int (nar .byte (c0.toInt8.toInt32))), (.int (nar .byte (c1.toInt8.toInt32))), (.int (0 : Int32))] (.int (0 : Int32)) := Arv.set Ar25 q25 S25 N_25 H25 G25 (fits_nar_byte _) W26 1 rfl (Nat.le_of_ble_eq_true rfl)
  have K26 : Keep h0 h26 [ba] := Keep.wr K23 W26 (Or.inl (List.mem_of_getElem? (i := 0) rfl))
  have N26 := Fr.snoc X26 N23 g_ba
  refine own_by (T' := T26) (g' := (mkF m 32 #[.val (.ref ca), .val (.int (1 : Int32)), .val (.ref ba), .val (.int (1 : Int32)), .val (.int (3 : Int32)), .val (.int (1 : Int32)), .val (.int c1)] [])) (fun _ k => st26 _ k) ?_
  refine own_by (T' := T26) (g' := (mkF m 35 #[.val (.ref ca), .val (.int (2 : Int32)), .val (.ref ba), .val (.int (1 : Int32)), .val (.int (3 : Int32)), .val (.int (1 : Int32)), .val (.int c1)] [])) (fun _ k => XS.iinc X26.here hx rfl (hb hby d14_32) rfl (l' := #[.val (.ref ca), .val (.int (2 : Int32)), .val (.ref ba), .val (.int (1 : Int32)), .val (.int (3 : Int32)), .val (.int (1 : Int32)), .val (.int c1)]) rfl k) ?_
  refine own_by (T' := T26) (g' := (mkF m 38 #[.val (.ref ca), .val (.int (2 : Int32)), .val (.ref ba), .val (.int (2 : Int32)), .val (.int (3 : Int32)), .val (.int (1 : Int32)), .val (.int c1)] [])) (fun _ k => XS.iinc X26.here hx rfl (hb hby d14_35) rfl (l' := #[.val (.ref ca), .val (.int (2 : Int32)), .val (.ref ba), .val (.int (2 : Int32)), .val (.int (3 : Int32)), .val (.int (1 : Int32)), .val (.int c1)]) rfl k) ?_
  refine own_by (T' := T26) (g' := (mkF m 41 #[.val (.ref ca), .val (.int (2 : Int32)), .val (.ref ba), .val (.int (2 : Int32)), .val (.int (3 : Int32)), .val (.int (2 : Int32)), .val (.int c1)] [])) (fun _ k => XS.iinc X26.here hx rfl (hb hby d14_38) rfl (l' := #[.val (.ref ca), .val (.int (2 : Int32)), .val (.ref ba), .val (.int (2 : Int32)), .val (.int (3 : Int32)), .val (.int (2 : Int32)), .val (.int c1)]) rfl k) ?_
  refine own_by (T' := T26) (g' := (mkF m 3 #[.val (.ref ca), .val (.int (2 : Int32)), .val (.ref ba), .val (.int (2 : Int32)), .val (.int (3 : Int32)), .val (.int (2 : Int32)), .val (.int c1)] [])) (fun _ k => XS.goto X26.here hx rfl (pc0 := 41) (pc' := 3) rfl (hb hby d14_41) (by decide) (by decide) k) ?_
  refine own_by (T' := T26) (g' := (mkF m 5 #[.val (.ref ca), .val (.int (2 : Int32)), .val (.ref ba), .val (.int (2 : Int32)), .val (.int (3 : Int32)), .val (.int (2 : Int32)), .val (.int c1)] [(.int (2 : Int32))])) (fun _ k => XS.iload X26.here hx rfl (hb hby d14_3) rfl k) ?_
  refine own_by (T' := T26) (g' := (mkF m 7 #[.val (.ref ca), .val (.int (2 : Int32)), .val (.ref ba), .val (.int (2 : Int32)), .val (.int (3 : Int32)), .val (.int (2 : Int32)), .val (.int c1)] [(.int (3 : Int32)), (.int (2 : Int32))])) (fun _ k => XS.iload X26.here hx rfl (hb hby d14_5) rfl k) ?_
  refine own_by (T' := T26) (g' := (mkF m 10 #[.val (.ref ca), .val (.int (2 : Int32)), .val (.ref ba), .val (.int (2 : Int32)), .val (.int (3 : Int32)), .val (.int (2 : Int32)), .val (.int c1)] [])) (fun _ k => XS.icmpNo X26.here hx rfl (hb hby d14_7) rfl (tlt (by decide)).2.1 k) ?_
  refine own_by (T' := T26) (g' := (mkF m 11 #[.val (.ref ca), .val (.int (2 : Int32)), .val (.ref ba), .val (.int (2 : Int32)), .val (.int (3 : Int32)), .val (.int (2 : Int32)), .val (.int c1)] [(.ref ca)])) (fun _ k => XS.aloadN X26.here hx rfl (hb hby d14_10) rfl rfl k) ?_
  refine own_by (T' := T26) (g' := (mkF m 12 #[.val (.ref ca), .val (.int (2 : Int32)), .val (.ref ba), .val (.int (2 : Int32)), .val (.int (3 : Int32)), .val (.int (2 : Int32)), .val (.int c1)] [(.int (2 : Int32)), (.ref ca)])) (fun _ k => XS.iloadN X26.here hx rfl (hb hby d14_11) rfl k) ?_
  obtain ⟨cl27, Ar27, q27, S27, N_27, H27, G27⟩ := id (Arv.other (Arv.other V_ca W23 neab) W26 neab)
  have hin27 : ¬ ((2 : Int32) < 0 ∨ cl27.slots.size ≤ ((2 : Int32)).toNatClampNeg) := inb_of S27 ⟨by decide, by decide⟩
  refine own_by (T' := T26) (g' := (mkF m 13 #[.val (.ref ca), .val (.int (2 : Int32)), .val (.ref ba), .val (.int (2 : Int32)), .val (.int (3 : Int32)), .val (.int (2 : Int32)), .val (.int c1)] [(.int c2)])) (fun _ k => X26.caload hx (j := (2 : Int32)) (v := (.int c2)) (by rw [e26]; exact Ar27.1) (State.isArrayOf_alike hZ.alike Ar27.2.1) Ar27.2.2 hin27 (Has.at H27 hin27 rfl) (g := (mkF m 12 #[.val (.ref ca), .val (.int (2 : Int32)), .val (.ref ba), .val (.int (2 : Int32)), .val (.int (3 : Int32)), .val (.int (2 : Int32)), .val (.int c1)] [(.int (2 : Int32)), (.ref ca)])) rfl rfl (hb hby d14_12) _ k) ?_
  refine own_by (T' := T26) (g' := (mkF m 15 #[.val (.ref ca), .val (.int (2 : Int32)), .val (.ref ba), .val (.int (2 : Int32)), .val (.int (3 : Int32)), .val (.int (2 : Int32)), .val (.int c2)] [])) (fun _ k => XS.istore X26.here hx rfl (hb hby d14_13) rfl (l' := #[.val (.ref ca), .val (.int (2 : Int32)), .val (.ref ba), .val (.int (2 : Int32)), .val (.int (3 : Int32)), .val (.int (2 : Int32)), .val (.int c2)]) rfl k) ?_
  refine own_by (T' := T26) (g' := (mkF m 17 #[.val (.ref ca), .val (.int (2 : Int32)), .val (.ref ba), .val (.int (2 : Int32)), .val (.int (3 : Int32)), .val (.int (2 : Int32)), .val (.int c2)] [(.int c2)])) (fun _ k => XS.iload X26.here hx rfl (hb hby d14_15) rfl k) ?_
  refine own_by (T' := T26) (g' := (mkF m 20 #[.val (.ref ca), .val (.int (2 : Int32)), .val (.ref ba), .val (.int (2 : Int32)), .val (.int (3 : Int32)), .val (.int (2 : Int32)), .val (.int c2)] [(.int (255 : Int32)), (.int c2)])) (fun _ k => XS.sipush X26.here hx rfl (hb hby d14_17) k) ?_
  refine own_by (T' := T26) (g' := (mkF m 26 #[.val (.ref ca), .val (.int (2 : Int32)), .val (.ref ba), .val (.int (2 : Int32)), .val (.int (3 : Int32)), .val (.int (2 : Int32)), .val (.int c2)] [])) (fun _ k => XS.icmpYes X26.here hx rfl (pc0 := 20) (pc' := 26) rfl (hb hby d14_20) rfl (flt hc2).2.2.2 (by decide) (by decide) k) ?_
  refine own_by (T' := T26) (g' := (mkF m 27 #[.val (.ref ca), .val (.int (2 : Int32)), .val (.ref ba), .val (.int (2 : Int32)), .val (.int (3 : Int32)), .val (.int (2 : Int32)), .val (.int c2)] [(.ref ba)])) (fun _ k => XS.aloadN X26.here hx rfl (hb hby d14_26) rfl rfl k) ?_
  refine own_by (T' := T26) (g' := (mkF m 28 #[.val (.ref ca), .val (.int (2 : Int32)), .val (.ref ba), .val (.int (2 : Int32)), .val (.int (3 : Int32)), .val (.int (2 : Int32)), .val (.int c2)] [(.int (2 : Int32)), (.ref ba)])) (fun _ k => XS.iloadN X26.here hx rfl (hb hby d14_27) rfl k) ?_
  refine own_by (T' := T26) (g' := (mkF m 30 #[.val (.ref ca), .val (.int (2 : Int32)), .val (.ref ba), .val (.int (2 : Int32)), .val (.int (3 : Int32)), .val (.int (2 : Int32)), .val (.int c2)] [(.int c2), (.int (2 : Int32)), (.ref ba)])) (fun _ k => XS.iload X26.here hx rfl (hb hby d14_28) rfl k) ?_
  refine own_by (T' := T26) (g' := (mkF m 31 #[.val (.ref ca), .val (.int (2 : Int32)), .val (.ref ba), .val (.int (2 : Int32)), .val (.int (3 : Int32)), .val (.int (2 : Int32)), .val (.int c2)] [(.int (c2.toInt8.toInt32)), (.int (2 : Int32)), (.ref ba)])) (fun _ k => XS.i2b X26.here hx rfl (hb hby d14_30) rfl k) ?_
  obtain ⟨cl28, Ar28, q28, S28, N_28, H28, G28⟩ := id V26
  have hin28 : ¬ ((2 : Int32) < 0 ∨ cl28.slots.size ≤ ((2 : Int32)).toNatClampNeg) := inb_of S28 ⟨by decide, by decide⟩
  obtain ⟨T29, h29, X29, e29, W29, st29⟩ := stB X26 hx hZ e26 Ar28 (j := (2 : Int32)) hin28 (g := (mkF m 31 #[.val (.ref ca), .val (.int (2 : Int32)), .val (.ref ba), .val (.int (2 : Int32)), .val (.int (3 : Int32)), .val (.int (2 : Int32)), .val (.int c2)] [(.int (c2.toInt8.toInt32)), (.int (2 : Int32)), (.ref ba)])) rfl rfl (hb hby d14_31)
  have V29 : Arv Z h29 ba kb .byte (3 : Int32) [(.int (nar .byte (c0.toInt8.toInt32))), (.int (nar .byte (c1.toInt8.toInt32))), (.int (nar .byte (c2.toInt8.toInt32)))] (.int (0 : Int32)) := Arv.set Ar28 q28 S28 N_28 H28 G28 (fits_nar_byte _) W29 2 rfl (Nat.le_of_ble_eq_true rfl)
  have K29 : Keep h0 h29 [ba] := Keep.wr K26 W29 (Or.inl (List.mem_of_getElem? (i := 0) rfl))
  have N29 := Fr.snoc X29 N26 g_ba
  refine own_by (T' := T29) (g' := (mkF m 32 #[.val (.ref ca), .val (.int (2 : Int32)), .val (.ref ba), .val (.int (2 : Int32)), .val (.int (3 : Int32)), .val (.int (2 : Int32)), .val (.int c2)] [])) (fun _ k => st29 _ k) ?_
  refine own_by (T' := T29) (g' := (mkF m 35 #[.val (.ref ca), .val (.int (3 : Int32)), .val (.ref ba), .val (.int (2 : Int32)), .val (.int (3 : Int32)), .val (.int (2 : Int32)), .val (.int c2)] [])) (fun _ k => XS.iinc X29.here hx rfl (hb hby d14_32) rfl (l' := #[.val (.ref ca), .val (.int (3 : Int32)), .val (.ref ba), .val (.int (2 : Int32)), .val (.int (3 : Int32)), .val (.int (2 : Int32)), .val (.int c2)]) rfl k) ?_
  refine own_by (T' := T29) (g' := (mkF m 38 #[.val (.ref ca), .val (.int (3 : Int32)), .val (.ref ba), .val (.int (3 : Int32)), .val (.int (3 : Int32)), .val (.int (2 : Int32)), .val (.int c2)] [])) (fun _ k => XS.iinc X29.here hx rfl (hb hby d14_35) rfl (l' := #[.val (.ref ca), .val (.int (3 : Int32)), .val (.ref ba), .val (.int (3 : Int32)), .val (.int (3 : Int32)), .val (.int (2 : Int32)), .val (.int c2)]) rfl k) ?_
  refine own_by (T' := T29) (g' := (mkF m 41 #[.val (.ref ca), .val (.int (3 : Int32)), .val (.ref ba), .val (.int (3 : Int32)), .val (.int (3 : Int32)), .val (.int (3 : Int32)), .val (.int c2)] [])) (fun _ k => XS.iinc X29.here hx rfl (hb hby d14_38) rfl (l' := #[.val (.ref ca), .val (.int (3 : Int32)), .val (.ref ba), .val (.int (3 : Int32)), .val (.int (3 : Int32)), .val (.int (3 : Int32)), .val (.int c2)]) rfl k) ?_
  refine own_by (T' := T29) (g' := (mkF m 3 #[.val (.ref ca), .val (.int (3 : Int32)), .val (.ref ba), .val (.int (3 : Int32)), .val (.int (3 : Int32)), .val (.int (3 : Int32)), .val (.int c2)] [])) (fun _ k => XS.goto X29.here hx rfl (pc0 := 41) (pc' := 3) rfl (hb hby d14_41) (by decide) (by decide) k) ?_
  refine own_by (T' := T29) (g' := (mkF m 5 #[.val (.ref ca), .val (.int (3 : Int32)), .val (.ref ba), .val (.int (3 : Int32)), .val (.int (3 : Int32)), .val (.int (3 : Int32)), .val (.int c2)] [(.int (3 : Int32))])) (fun _ k => XS.iload X29.here hx rfl (hb hby d14_3) rfl k) ?_
  refine own_by (T' := T29) (g' := (mkF m 7 #[.val (.ref ca), .val (.int (3 : Int32)), .val (.ref ba), .val (.int (3 : Int32)), .val (.int (3 : Int32)), .val (.int (3 : Int32)), .val (.int c2)] [(.int (3 : Int32)), (.int (3 : Int32))])) (fun _ k => XS.iload X29.here hx rfl (hb hby d14_5) rfl k) ?_
  refine own_by (T' := T29) (g' := (mkF m 44 #[.val (.ref ca), .val (.int (3 : Int32)), .val (.ref ba), .val (.int (3 : Int32)), .val (.int (3 : Int32)), .val (.int (3 : Int32)), .val (.int c2)] [])) (fun _ k => XS.icmpYes X29.here hx rfl (pc0 := 7) (pc' := 44) rfl (hb hby d14_7) rfl (flt (by decide)).2.1 (by decide) (by decide) k) ?_
  refine own_by (T' := T29) (g' := (mkF m 46 #[.val (.ref ca), .val (.int (3 : Int32)), .val (.ref ba), .val (.int (3 : Int32)), .val (.int (3 : Int32)), .val (.int (3 : Int32)), .val (.int c2)] [(.int (3 : Int32))])) (fun _ k => XS.iload X29.here hx rfl (hb hby d14_44) rfl k) ?_
  refine own_ret X29 hlk (v := some (.int (3 : Int32))) (fun h => by rw [Bd.returns] at h; cases h) (fun fs hr => retI X29 hx Bd.returns (hb hby d14_46) hr) ?_ (by decide) (by decide)
  rw [e29]
  exact ⟨rfl, N29, K29, V29⟩
theorem ef_cmp3_3 (m : MethodId) (ca : Addr) : entryFrame m #[(.ref ca), (.int (0 : Int32)), (.int (3 : Int32))] 6 = mkF m 0 #[.val (.ref ca), .val (.int (0 : Int32)), .val (.int (3 : Int32)), .unset, .unset, .unset] [] := by first | (simp [entryFrame, mkF, argsToLocals, Value.category]; done) | rfl
def Q_cmp3_3 (Z : State) (ca : Addr) (kc : ClassId) (c0 : Int32) (c1 : Int32) (c2 : Int32) (h0 : Heap) (n0 : Nat) (v : Option Value) (h : Heap) (L : List Loc) : Prop := ∃ (t : Addr) (kb : ClassId), v = some (.ref t) ∧ Fr n0 L ∧ Keep h0 h [] ∧ h0.size ≤ t ∧ Arv Z h t kb .byte (3 : Int32) [(.int (nar .byte (c0.toInt8.toInt32))), (.int (nar .byte (c1.toInt8.toInt32))), (.int (nar .byte (c2.toInt8.toInt32)))] (.int (0 : Int32))
set_option maxRecDepth 65536 in
set_option maxHeartbeats 40000000 in
theorem cmp3_3 (l : Launch) (Z : State) (a0 : Array Value) (hw : ∀ d ∈ tables_1, d.before a0 Z = true) (ws : List Jvm.Cond) (ca : Addr) (kc : ClassId) (c0 : Int32) (c1 : Int32) (c2 : Int32) (h0 : Heap) (n0 : Nat) (Z0 : n0 ≤ h0.size) (V_ca : Arv Z h0 ca kc .char (3 : Int32) [(.int c0), (.int c1), (.int c2)] (.int (0 : Int32))) (hc0 : ¬ (255 : Int32) < c0) (hc1 : ¬ (255 : Int32) < c1) (hc2 : ¬ (255 : Int32) < c2) :
    MetFree l (⟨"java/lang/StringUTF16", "compress", "([CII)[B"⟩ : MethodName) (head1 (Jvm.Cond.code (⟨"java/lang/StringUTF16", "compress", "([CII)[B"⟩ : MethodName) jdk_52_method_16_code 6 (some (.array .byte)) :: ws) ({ frames := 1, cells := 1, slots := 3, locals := 18 } : Room)) (fun zz UU => zz = #[(.ref ca), (.int (0 : Int32)), (.int (3 : Int32))] ∧ Z.Warmed39 UU.vm ∧ UU.heap = h0) (fun _ _ _ _ _ => True) (fun _ U o U' => ∃ v L, o = .returned v ∧ Q_cmp3_3 Z ca kc c0 c1 c2 h0 n0 v U'.heap L ∧ FrameEnd U o U' L ({ frames := 1, cells := 1, slots := 3, locals := 18 } : Room).cells ({ frames := 1, cells := 1, slots := 3, locals := 18 } : Room).slots) := by
  refine MetFree.of_bodySF (plainFor_of_name pn_13) hisR ?_
  intro p e s m args below meth c s₁ Bd hml0 hP hK
  obtain ⟨rfl, hZ, hh⟩ := hP
  have hx := Bd.exec
  have hby := Bd.bytes
  have hml : c.maxLocals = 6 := hml0
  have hown : s.vm.findClass "java/lang/StringUTF16" = some m.cls := findClass_of_methodNamed Bd.named
  have hnm := (name_of_methodNamed Bd.named Bd.method).1
  have hlk : meth.locks = false := BodyLoose.notSynchronized Bd
  have X0 : Stand p l e ({ frames := 1, cells := 1, slots := 3, locals := 18 } : Room) s m #[(.ref ca), (.int (0 : Int32)), (.int (3 : Int32))] below meth c s₁ [] 0 0 := Stand.of_body Bd
  have e0 : s₁.heap = h0 := by rw [← hh, Bd.state]; rfl
  have N0 := Fr.nil n0
  show own_Go p.tables e below (Q_cmp3_3 Z ca kc c0 c1 c2 h0 n0) s ({ frames := 1, cells := 1, slots := 3, locals := 18 } : Room).cells ({ frames := 1, cells := 1, slots := 3, locals := 18 } : Room).slots s₁ (entryFrame m #[(.ref ca), (.int (0 : Int32)), (.int (3 : Int32))] 6)
  rw [ef_cmp3_3 m ca]
  refine own_by (T' := s₁) (g' := (mkF m 1 #[.val (.ref ca), .val (.int (0 : Int32)), .val (.int (3 : Int32)), .unset, .unset, .unset] [(.int (3 : Int32))])) (fun _ k => XS.iloadN X0.here hx rfl (hb hby d13_0) rfl k) ?_
  obtain ⟨T21, h21, k21, X21, e21, E21, A21, st21⟩ := newP X0 hx hZ (hw _ (List.mem_of_getElem? (i := 22) rfl)) e0 (g := (mkF m 1 #[.val (.ref ca), .val (.int (0 : Int32)), .val (.int (3 : Int32)), .unset, .unset, .unset] [(.int (3 : Int32))])) rfl (hb hby d13_1) rfl (by decide) (cap := 3) (by decide) (by decide) (by decide) (by decide)
  obtain ⟨b21, g21⟩ : ∃ z, z = h0.size := ⟨_, rfl⟩
  rw [← g21] at A21 st21
  have V_b21 : Arv Z h21 b21 k21 .byte (3 : Int32) [(.int (0 : Int32)), (.int (0 : Int32)), (.int (0 : Int32))] (.int (0 : Int32)) := (Arv.new A21 (by decide)).pad (pad_rep [] (.int (0 : Int32)) 3)
  have g_b21 : n0 ≤ b21 := Nat.le_trans Z0 (Nat.le_of_eq g21.symm)
  have sz_b21 : h0.size ≤ b21 := Nat.le_trans (Keep.refl h0 []).1 (Nat.le_of_eq g21.symm)
  have K21 : Keep h0 h21 [] := Keep.ext (Keep.refl h0 []) E21
  refine own_by (T' := T21) (g' := (mkF m 3 #[.val (.ref ca), .val (.int (0 : Int32)), .val (.int (3 : Int32)), .unset, .unset, .unset] [(.ref b21)])) (fun _ k => st21 _ k) ?_
  refine own_by (T' := T21) (g' := (mkF m 4 #[.val (.ref ca), .val (.int (0 : Int32)), .val (.int (3 : Int32)), .val (.ref b21), .unset, .unset] [])) (fun _ k => XS.astoreN X21.here hx rfl (hb hby d13_3) rfl rfl (l' := #[.val (.ref ca), .val (.int (0 : Int32)), .val (.int (3 : Int32)), .val (.ref b21), .unset, .unset]) rfl k) ?_
  refine own_by (T' := T21) (g' := (mkF m 5 #[.val (.ref ca), .val (.int (0 : Int32)), .val (.int (3 : Int32)), .val (.ref b21), .unset, .unset] [(.ref ca)])) (fun _ k => XS.aloadN X21.here hx rfl (hb hby d13_4) rfl rfl k) ?_
  refine own_by (T' := T21) (g' := (mkF m 6 #[.val (.ref ca), .val (.int (0 : Int32)), .val (.int (3 : Int32)), .val (.ref b21), .unset, .unset] [(.int (0 : Int32)), (.ref ca)])) (fun _ k => XS.iloadN X21.here hx rfl (hb hby d13_5) rfl k) ?_
  refine own_by (T' := T21) (g' := (mkF m 7 #[.val (.ref ca), .val (.int (0 : Int32)), .val (.int (3 : Int32)), .val (.ref b21), .unset, .unset] [(.ref b21), (.int (0 : Int32)), (.ref ca)])) (fun _ k => XS.aloadN X21.here hx rfl (hb hby d13_6) rfl rfl k) ?_
  refine own_by (T' := T21) (g' := (mkF m 8 #[.val (.ref ca), .val (.int (0 : Int32)), .val (.int (3 : Int32)), .val (.ref b21), .unset, .unset] [(.int (0 : Int32)), (.ref b21), (.int (0 : Int32)), (.ref ca)])) (fun _ k => XS.iconst X21.here hx rfl (hb hby d13_7) k) ?_
  refine own_by (T' := T21) (g' := (mkF m 9 #[.val (.ref ca), .val (.int (0 : Int32)), .val (.int (3 : Int32)), .val (.ref b21), .unset, .unset] [(.int (3 : Int32)), (.int (0 : Int32)), (.ref b21), (.int (0 : Int32)), (.ref ca)])) (fun _ k => XS.iloadN X21.here hx rfl (hb hby d13_8) rfl k) ?_
  obtain ⟨_, _, ⟨T22, L22, k22, n22⟩, -, X22, ⟨Lc22, hQ22, l22, y22, z22⟩, st22⟩ := Jvm.LawKit.callS X21 hx (y := (⟨"java/lang/StringUTF16", "compress", "([CI[BII)I"⟩ : MethodName)) hown (mvT hZ (hw _ (List.mem_of_getElem? (i := 79) rfl))) (mvT hZ (hw _ (List.mem_of_getElem? (i := 80) rfl))) (mvT hZ (hw _ (List.mem_of_getElem? (i := 77) rfl))) (mvT hZ (hw _ (List.mem_of_getElem? (i := 81) rfl))) (by decide) (backOf (W := 0) (cmp5_3 l Z a0 hw [] ca b21 kc k21 c0 c1 c2 h21 n0 (Nat.le_trans Z0 E21.1) (Arv.ext V_ca E21) V_b21 g_b21 (Nat.ne_of_lt (Nat.lt_of_lt_of_le V_ca.lt (Nat.le_of_eq g21.symm))) hc0 hc1 hc2) hZ (hw _ (List.mem_of_getElem? (i := 81) rfl)) (hw _ (List.mem_of_getElem? (i := 77) rfl)) (by decide) (by decide)) (g := (mkF m 9 #[.val (.ref ca), .val (.int (0 : Int32)), .val (.int (3 : Int32)), .val (.ref b21), .unset, .unset] [(.int (3 : Int32)), (.int (0 : Int32)), (.ref b21), (.int (0 : Int32)), (.ref ca)])) rfl (by rw [hml]; rfl) (argsL := [(.ref ca), (.int (0 : Int32)), (.ref b21), (.int (0 : Int32)), (.int (3 : Int32))]) (rest := []) (lenOf pd_0 rfl) rfl (by show 2 * 0 + _ ≤ _; exact Nat.le_of_eq rfl) (hb hby d13_9) (fun _ _ => ⟨rfl, e21, (by decide : (0 + 1) + 0 ≤ _), (by decide : (0 + 3) + 0 ≤ _)⟩)
  dsimp only [Pt.U, Pt.locs, Pt.cells, Pt.slots] at X22 l22 y22 z22 st22 hQ22
  subst l22 y22 z22
  obtain ⟨rfl, N22q, K22, V5_22⟩ := hQ22
  have N22 := Fr.app N0 N22q
  have KK22 : Keep h0 T22.heap [] := Keep.trans K21 K22 (allS (Or.inr sz_b21) all0)
  refine own_by (T' := T22) (g' := (mkF m 12 #[.val (.ref ca), .val (.int (0 : Int32)), .val (.int (3 : Int32)), .val (.ref b21), .unset, .unset] [(.int (3 : Int32))])) (fun _ k => st22 _ k) ?_
  refine own_by (T' := T22) (g' := (mkF m 14 #[.val (.ref ca), .val (.int (0 : Int32)), .val (.int (3 : Int32)), .val (.ref b21), .val (.int (3 : Int32)), .unset] [])) (fun _ k => XS.istore X22.here hx rfl (hb hby d13_12) rfl (l' := #[.val (.ref ca), .val (.int (0 : Int32)), .val (.int (3 : Int32)), .val (.ref b21), .val (.int (3 : Int32)), .unset]) rfl k) ?_
  refine own_by (T' := T22) (g' := (mkF m 16 #[.val (.ref ca), .val (.int (0 : Int32)), .val (.int (3 : Int32)), .val (.ref b21), .val (.int (3 : Int32)), .unset] [(.int (3 : Int32))])) (fun _ k => XS.iload X22.here hx rfl (hb hby d13_14) rfl k) ?_
  refine own_by (T' := T22) (g' := (mkF m 17 #[.val (.ref ca), .val (.int (0 : Int32)), .val (.int (3 : Int32)), .val (.ref b21), .val (.int (3 : Int32)), .unset] [(.int (3 : Int32)), (.int (3 : Int32))])) (fun _ k => XS.iloadN X22.here hx rfl (hb hby d13_16) rfl k) ?_
  refine own_by (T' := T22) (g' := (mkF m 57 #[.val (.ref ca), .val (.int (0 : Int32)), .val (.int (3 : Int32)), .val (.ref b21), .val (.int (3 : Int32)), .unset] [])) (fun _ k => XS.icmpYes X22.here hx rfl (pc0 := 17) (pc' := 57) rfl (hb hby d13_17) rfl (teq (by decide)).1 (by decide) (by decide) k) ?_
  refine own_by (T' := T22) (g' := (mkF m 58 #[.val (.ref ca), .val (.int (0 : Int32)), .val (.int (3 : Int32)), .val (.ref b21), .val (.int (3 : Int32)), .unset] [(.ref b21)])) (fun _ k => XS.aloadN X22.here hx rfl (hb hby d13_57) rfl rfl k) ?_
  refine own_ret X22 hlk (v := some (.ref b21)) (fun h => by rw [Bd.returns] at h; cases h) (fun fs hr => retOut X22 hx Bd.returns rfl (Or.inr (Or.inr (Or.inr (Or.inr ⟨rfl, rfl, rfl⟩)))) (hb hby d13_58) hr) ?_ (by decide) (by decide)
  exact ⟨_, _, rfl, N22, KK22, sz_b21, V5_22⟩
theorem ef_cod_3 (m : MethodId) (ba : Addr) : entryFrame m #[(.ref ba), (.int (3 : Int32))] 2 = mkF m 0 #[.val (.ref ba), .val (.int (3 : Int32))] [] := by first | (simp [entryFrame, mkF, argsToLocals, Value.category]; done) | rfl
def Q_cod_3 (Z : State) (ba : Addr) (kb : ClassId) (c0 : Int32) (c1 : Int32) (c2 : Int32) (h0 : Heap) (n0 : Nat) (v : Option Value) (h : Heap) (L : List Loc) : Prop := v = some (.int (0 : Int32)) ∧ Fr n0 L ∧ h = h0
set_option maxRecDepth 65536 in
set_option maxHeartbeats 40000000 in
theorem cod_3 (l : Launch) (Z : State) (a0 : Array Value) (hw : ∀ d ∈ tables_1, d.before a0 Z = true) (ws : List Jvm.Cond) (ba : Addr) (kb : ClassId) (c0 : Int32) (c1 : Int32) (c2 : Int32) (h0 : Heap) (n0 : Nat) (Z0 : n0 ≤ h0.size) (V_ba : Arv Z h0 ba kb .byte (3 : Int32) [(.int (nar .byte (c0.toInt8.toInt32))), (.int (nar .byte (c1.toInt8.toInt32))), (.int (nar .byte (c2.toInt8.toInt32)))] (.int (0 : Int32))) :
    MetFree l (⟨"java/lang/StringUTF16", "coderFromArrayLen", "([BI)B"⟩ : MethodName) (head1 (Jvm.Cond.code (⟨"java/lang/StringUTF16", "coderFromArrayLen", "([BI)B"⟩ : MethodName) jdk_52_method_15_code 2 (some .byte) :: ws) ({ frames := 0, cells := 0, slots := 0, locals := 0 } : Room)) (fun zz UU => zz = #[(.ref ba), (.int (3 : Int32))] ∧ Z.Warmed39 UU.vm ∧ UU.heap = h0) (fun _ _ _ _ _ => True) (fun _ U o U' => ∃ v L, o = .returned v ∧ Q_cod_3 Z ba kb c0 c1 c2 h0 n0 v U'.heap L ∧ FrameEnd U o U' L ({ frames := 0, cells := 0, slots := 0, locals := 0 } : Room).cells ({ frames := 0, cells := 0, slots := 0, locals := 0 } : Room).slots) := by
  refine MetFree.of_bodySF (plainFor_of_name pn_15) hisR ?_
  intro p e s m args below meth c s₁ Bd hml0 hP hK
  obtain ⟨rfl, hZ, hh⟩ := hP
  have hx := Bd.exec
  have hby := Bd.bytes
  have hml : c.maxLocals = 2 := hml0
  have hown : s.vm.findClass "java/lang/StringUTF16" = some m.cls := findClass_of_methodNamed Bd.named
  have hnm := (name_of_methodNamed Bd.named Bd.method).1
  have hlk : meth.locks = false := BodyLoose.notSynchronized Bd
  have X0 : Stand p l e ({ frames := 0, cells := 0, slots := 0, locals := 0 } : Room) s m #[(.ref ba), (.int (3 : Int32))] below meth c s₁ [] 0 0 := Stand.of_body Bd
  have e0 : s₁.heap = h0 := by rw [← hh, Bd.state]; rfl
  have N0 := Fr.nil n0
  show own_Go p.tables e below (Q_cod_3 Z ba kb c0 c1 c2 h0 n0) s ({ frames := 0, cells := 0, slots := 0, locals := 0 } : Room).cells ({ frames := 0, cells := 0, slots := 0, locals := 0 } : Room).slots s₁ (entryFrame m #[(.ref ba), (.int (3 : Int32))] 2)
  rw [ef_cod_3 m ba]
  refine own_by (T' := s₁) (g' := (mkF m 1 #[.val (.ref ba), .val (.int (3 : Int32))] [(.int (3 : Int32))])) (fun _ k => XS.iloadN X0.here hx rfl (hb hby d15_0) rfl k) ?_
  refine own_by (T' := s₁) (g' := (mkF m 2 #[.val (.ref ba), .val (.int (3 : Int32))] [(.ref ba), (.int (3 : Int32))])) (fun _ k => XS.aloadN X0.here hx rfl (hb hby d15_1) rfl rfl k) ?_
  obtain ⟨cl21, Ar21, q21, S21, N_21, H21, G21⟩ := id V_ba
  refine own_by (T' := s₁) (g' := (mkF m 3 #[.val (.ref ba), .val (.int (3 : Int32))] [(.int (3 : Int32)), (.int (3 : Int32))])) (fun _ k => X0.arraylength hx (by rw [e0]; exact Ar21.1) (State.isArrayOf_alike hZ.alike Ar21.2.1) (g := (mkF m 2 #[.val (.ref ba), .val (.int (3 : Int32))] [(.ref ba), (.int (3 : Int32))])) rfl rfl (hb hby d15_2) _ (by rw [len_of S21 N_21]; exact k)) ?_
  refine own_by (T' := s₁) (g' := (mkF m 4 #[.val (.ref ba), .val (.int (3 : Int32))] [(.int (0 : Int32))])) (fun _ k => XS.isub X0.here hx rfl (hb hby d15_3) rfl k) ?_
  refine own_by (T' := s₁) (g' := (mkF m 6 #[.val (.ref ba), .val (.int (3 : Int32))] [(.int (31 : Int32)), (.int (0 : Int32))])) (fun _ k => XS.bipush X0.here hx rfl (hb hby d15_4) k) ?_
  refine own_by (T' := s₁) (g' := (mkF m 7 #[.val (.ref ba), .val (.int (3 : Int32))] [(.int (0 : Int32))])) (fun _ k => XS.iushr X0.here hx rfl (hb hby d15_6) rfl k) ?_
  refine own_by (T' := s₁) (g' := (mkF m 8 #[.val (.ref ba), .val (.int (3 : Int32))] [(.int (0 : Int32))])) (fun _ k => XS.i2b X0.here hx rfl (hb hby d15_7) rfl k) ?_
  refine own_ret X0 hlk (v := some (.int (0 : Int32))) (fun h => by rw [Bd.returns] at h; cases h) (fun fs hr => retN X0 hx (t := .byte) Bd.returns (by simp) (hb hby d15_8) hr) ?_ (by decide) (by decide)
  rw [e0]
  exact ⟨rfl, N0, rfl⟩
theorem ef_sin4_3 (m : MethodId) (a : Addr) (ca : Addr) : entryFrame m #[(.ref a), (.ref ca), (.int (0 : Int32)), (.int (3 : Int32)), .null] 6 = mkF m 0 #[.val (.ref a), .val (.ref ca), .val (.int (0 : Int32)), .val (.int (3 : Int32)), .val .null, .unset] [] := by first | (simp [entryFrame, mkF, argsToLocals, Value.category]; done) | rfl
def Q_sin4_3 (Z : State) (a : Addr) (ca : Addr) (kc : ClassId) (cs : Int32) (c0 : Int32) (c1 : Int32) (c2 : Int32) (h0 : Heap) (n0 : Nat) (v : Option Value) (h : Heap) (L : List Loc) : Prop := v = none ∧ Fr n0 L ∧ Keep h0 h [a] ∧ Fld Z h a "java/lang/String" "coder" "B" (.int (0 : Int32)) ∧ ∃ (t : Addr) (kb : ClassId), h0.size ≤ t ∧ Fld Z h a "java/lang/String" "value" "[B" (.ref t) ∧ Arv Z h t kb .byte (3 : Int32) [(.int (nar .byte (c0.toInt8.toInt32))), (.int (nar .byte (c1.toInt8.toInt32))), (.int (nar .byte (c2.toInt8.toInt32)))] (.int (0 : Int32))
set_option maxRecDepth 65536 in
set_option maxHeartbeats 40000000 in
theorem sin4_3 (l : Launch) (Z : State) (a0 : Array Value) (hw : ∀ d ∈ tables_1, d.before a0 Z = true) (ws : List Jvm.Cond) (a : Addr) (ca : Addr) (kc : ClassId) (cs : Int32) (c0 : Int32) (c1 : Int32) (c2 : Int32) (h0 : Heap) (n0 : Nat) (Z0 : n0 ≤ h0.size) (E_a : Exa Z h0 a "java/lang/String") (F_value_a : Fld Z h0 a "java/lang/String" "value" "[B" .null) (F_coder_a : Fld Z h0 a "java/lang/String" "coder" "B" (.int (0 : Int32))) (g_a : n0 ≤ a) (V_ca : Arv Z h0 ca kc .char (3 : Int32) [(.int c0), (.int c1), (.int c2)] (.int (0 : Int32))) (S_CS : Sta Z h0 "java/lang/String" "COMPACT_STRINGS" "Z" (.int cs)) (hcs : ¬ cs = (0 : Int32)) (hc0 : ¬ (255 : Int32) < c0) (hc1 : ¬ (255 : Int32) < c1) (hc2 : ¬ (255 : Int32) < c2) :
    MetFree l (⟨"java/lang/String", "<init>", "([CIILjava/lang/Void;)V"⟩ : MethodName) (head1 (Jvm.Cond.code (⟨"java/lang/String", "<init>", "([CIILjava/lang/Void;)V"⟩ : MethodName) jdk_42_method_149_code 6 none :: ws) ({ frames := 2, cells := 1, slots := 3, locals := 35 } : Room)) (fun zz UU => zz = #[(.ref a), (.ref ca), (.int (0 : Int32)), (.int (3 : Int32)), .null] ∧ Z.Warmed39 UU.vm ∧ UU.heap = h0) (fun _ _ _ _ _ => True) (fun _ U o U' => ∃ v L, o = .returned v ∧ Q_sin4_3 Z a ca kc cs c0 c1 c2 h0 n0 v U'.heap L ∧ FrameEnd U o U' L ({ frames := 2, cells := 1, slots := 3, locals := 35 } : Room).cells ({ frames := 2, cells := 1, slots := 3, locals := 35 } : Room).slots) := by
  refine MetFree.of_bodySF (plainFor_of_name pn_4) hisR ?_
  intro p e s m args below meth c s₁ Bd hml0 hP hK
  obtain ⟨rfl, hZ, hh⟩ := hP
  have hx := Bd.exec
  have hby := Bd.bytes
  have hml : c.maxLocals = 6 := hml0
  have hown : s.vm.findClass "java/lang/String" = some m.cls := findClass_of_methodNamed Bd.named
  have hnm := (name_of_methodNamed Bd.named Bd.method).1
  have hlk : meth.locks = false := BodyLoose.notSynchronized Bd
  have X0 : Stand p l e ({ frames := 2, cells := 1, slots := 3, locals := 35 } : Room) s m #[(.ref a), (.ref ca), (.int (0 : Int32)), (.int (3 : Int32)), .null] below meth c s₁ [] 0 0 := Stand.of_body Bd
  have e0 : s₁.heap = h0 := by rw [← hh, Bd.state]; rfl
  have N0 := Fr.nil n0
  show own_Go p.tables e below (Q_sin4_3 Z a ca kc cs c0 c1 c2 h0 n0) s ({ frames := 2, cells := 1, slots := 3, locals := 35 } : Room).cells ({ frames := 2, cells := 1, slots := 3, locals := 35 } : Room).slots s₁ (entryFrame m #[(.ref a), (.ref ca), (.int (0 : Int32)), (.int (3 : Int32)), .null] 6)
  rw [ef_sin4_3 m a ca]
  refine own_by (T' := s₁) (g' := (mkF m 1 #[.val (.ref a), .val (.ref ca), .val (.int (0 : Int32)), .val (.int (3 : Int32)), .val .null, .unset] [(.ref a)])) (fun _ k => XS.aloadN X0.here hx rfl (hb hby d4_0) rfl rfl k) ?_
  obtain ⟨T21, X21, e21, st21⟩ := initO X0 hx hZ hown (hw _ (List.mem_of_getElem? (i := 18) rfl)) (hw _ (List.mem_of_getElem? (i := 19) rfl)) (hw _ (List.mem_of_getElem? (i := 20) rfl)) e0 (g := (mkF m 1 #[.val (.ref a), .val (.ref ca), .val (.int (0 : Int32)), .val (.int (3 : Int32)), .val .null, .unset] [(.ref a)])) rfl (by rw [hml]; rfl) rfl (hb hby d4_1) (by decide) (W := 0) (by show 2 * 0 + _ ≤ _; exact Nat.le_of_eq rfl) (by decide)
  refine own_by (T' := T21) (g' := (mkF m 4 #[.val (.ref a), .val (.ref ca), .val (.int (0 : Int32)), .val (.int (3 : Int32)), .val .null, .unset] [])) (fun _ k => st21 _ k) ?_
  refine own_by (T' := T21) (g' := (mkF m 5 #[.val (.ref a), .val (.ref ca), .val (.int (0 : Int32)), .val (.int (3 : Int32)), .val .null, .unset] [(.int (3 : Int32))])) (fun _ k => XS.iloadN X21.here hx rfl (hb hby d4_4) rfl k) ?_
  refine own_by (T' := T21) (g' := (mkF m 27 #[.val (.ref a), .val (.ref ca), .val (.int (0 : Int32)), .val (.int (3 : Int32)), .val .null, .unset] [])) (fun _ k => XS.ifYes X21.here hx rfl (pc0 := 5) (pc' := 27) rfl (hb hby d4_5) rfl ((if0 _ _).trans (feq (by decide)).2) (by decide) (by decide) k) ?_
  obtain ⟨T22, X22, e22, st22⟩ := getS2 X21 hx hZ hown (host := "") (Or.inl (hw _ (List.mem_of_getElem? (i := 69) rfl))) Via.refl e21 S_CS (g := (mkF m 27 #[.val (.ref a), .val (.ref ca), .val (.int (0 : Int32)), .val (.int (3 : Int32)), .val .null, .unset] [])) rfl (hb hby d4_27)
  refine own_by (T' := T22) (g' := (mkF m 30 #[.val (.ref a), .val (.ref ca), .val (.int (0 : Int32)), .val (.int (3 : Int32)), .val .null, .unset] [(.int cs)])) (fun _ k => st22 _ k) ?_
  refine own_by (T' := T22) (g' := (mkF m 33 #[.val (.ref a), .val (.ref ca), .val (.int (0 : Int32)), .val (.int (3 : Int32)), .val .null, .unset] [])) (fun _ k => XS.ifNo X22.here hx rfl (hb hby d4_30) rfl ((if0 _ _).trans (feq hcs).1) k) ?_
  refine own_by (T' := T22) (g' := (mkF m 34 #[.val (.ref a), .val (.ref ca), .val (.int (0 : Int32)), .val (.int (3 : Int32)), .val .null, .unset] [(.ref ca)])) (fun _ k => XS.aloadN X22.here hx rfl (hb hby d4_33) rfl rfl k) ?_
  refine own_by (T' := T22) (g' := (mkF m 35 #[.val (.ref a), .val (.ref ca), .val (.int (0 : Int32)), .val (.int (3 : Int32)), .val .null, .unset] [(.int (0 : Int32)), (.ref ca)])) (fun _ k => XS.iloadN X22.here hx rfl (hb hby d4_34) rfl k) ?_
  refine own_by (T' := T22) (g' := (mkF m 36 #[.val (.ref a), .val (.ref ca), .val (.int (0 : Int32)), .val (.int (3 : Int32)), .val .null, .unset] [(.int (3 : Int32)), (.int (0 : Int32)), (.ref ca)])) (fun _ k => XS.iloadN X22.here hx rfl (hb hby d4_35) rfl k) ?_
  obtain ⟨_, _, ⟨T23, L23, k23, n23⟩, -, X23, ⟨Lc23, hQ23, l23, y23, z23⟩, st23⟩ := Jvm.LawKit.callS X22 hx (y := (⟨"java/lang/StringUTF16", "compress", "([CII)[B"⟩ : MethodName)) hown (mvT hZ (hw _ (List.mem_of_getElem? (i := 75) rfl))) (mvT hZ (hw _ (List.mem_of_getElem? (i := 76) rfl))) (mvT hZ (hw _ (List.mem_of_getElem? (i := 77) rfl))) (mvT hZ (hw _ (List.mem_of_getElem? (i := 78) rfl))) (by decide) (backOf (W := 0) (cmp3_3 l Z a0 hw [] ca kc c0 c1 c2 h0 n0 Z0 V_ca hc0 hc1 hc2) hZ (hw _ (List.mem_of_getElem? (i := 78) rfl)) (hw _ (List.mem_of_getElem? (i := 77) rfl)) (by decide) (by decide)) (g := (mkF m 36 #[.val (.ref a), .val (.ref ca), .val (.int (0 : Int32)), .val (.int (3 : Int32)), .val .null, .unset] [(.int (3 : Int32)), (.int (0 : Int32)), (.ref ca)])) rfl (by rw [hml]; rfl) (argsL := [(.ref ca), (.int (0 : Int32)), (.int (3 : Int32))]) (rest := []) (lenOf pd_1 rfl) rfl (by show 2 * 0 + _ ≤ _; exact Nat.le_of_eq rfl) (hb hby d4_36) (fun _ _ => ⟨rfl, e22, (by decide : 0 + 1 ≤ _), (by decide : 0 + 3 ≤ _)⟩)
  dsimp only [Pt.U, Pt.locs, Pt.cells, Pt.slots] at X23 l23 y23 z23 st23 hQ23
  subst l23 y23 z23
  obtain ⟨t23, kb23, rfl, N23q, K23, zt23, V23⟩ := hQ23
  have N23 := Fr.app N0 N23q
  have KK23 : Keep h0 T23.heap [a] := Keep.trans (Keep.refl h0 [a]) K23 all0
  have sz_t23 : h0.size ≤ t23 := Nat.le_trans (Keep.refl h0 [a]).1 zt23
  have g_t23 : n0 ≤ t23 := Nat.le_trans Z0 sz_t23
  refine own_by (T' := T23) (g' := (mkF m 39 #[.val (.ref a), .val (.ref ca), .val (.int (0 : Int32)), .val (.int (3 : Int32)), .val .null, .unset] [(.ref t23)])) (fun _ k => st23 _ k) ?_
  refine own_by (T' := T23) (g' := (mkF m 41 #[.val (.ref a), .val (.ref ca), .val (.int (0 : Int32)), .val (.int (3 : Int32)), .val .null, .val (.ref t23)] [])) (fun _ k => XS.astore X23.here hx rfl (hb hby d4_39) rfl rfl (l' := #[.val (.ref a), .val (.ref ca), .val (.int (0 : Int32)), .val (.int (3 : Int32)), .val .null, .val (.ref t23)]) rfl k) ?_
  refine own_by (T' := T23) (g' := (mkF m 42 #[.val (.ref a), .val (.ref ca), .val (.int (0 : Int32)), .val (.int (3 : Int32)), .val .null, .val (.ref t23)] [(.ref a)])) (fun _ k => XS.aloadN X23.here hx rfl (hb hby d4_41) rfl rfl k) ?_
  refine own_by (T' := T23) (g' := (mkF m 44 #[.val (.ref a), .val (.ref ca), .val (.int (0 : Int32)), .val (.int (3 : Int32)), .val .null, .val (.ref t23)] [(.ref t23), (.ref a)])) (fun _ k => XS.aload X23.here hx rfl (hb hby d4_42) rfl rfl k) ?_
  refine own_by (T' := T23) (g' := (mkF m 45 #[.val (.ref a), .val (.ref ca), .val (.int (0 : Int32)), .val (.int (3 : Int32)), .val .null, .val (.ref t23)] [(.int (3 : Int32)), (.ref t23), (.ref a)])) (fun _ k => XS.iloadN X23.here hx rfl (hb hby d4_44) rfl k) ?_
  obtain ⟨_, _, ⟨T24, L24, k24, n24⟩, -, X24, ⟨Lc24, hQ24, l24, y24, z24⟩, st24⟩ := Jvm.LawKit.callS X23 hx (y := (⟨"java/lang/StringUTF16", "coderFromArrayLen", "([BI)B"⟩ : MethodName)) hown (mvT hZ (hw _ (List.mem_of_getElem? (i := 82) rfl))) (mvT hZ (hw _ (List.mem_of_getElem? (i := 83) rfl))) (mvT hZ (hw _ (List.mem_of_getElem? (i := 77) rfl))) (mvT hZ (hw _ (List.mem_of_getElem? (i := 84) rfl))) (by decide) (backOf (W := 1) (cod_3 l Z a0 hw [] t23 kb23 c0 c1 c2 T23.heap n0 (Nat.le_trans Z0 K23.1) V23) hZ (hw _ (List.mem_of_getElem? (i := 84) rfl)) (hw _ (List.mem_of_getElem? (i := 77) rfl)) (by decide) (by decide)) (g := (mkF m 45 #[.val (.ref a), .val (.ref ca), .val (.int (0 : Int32)), .val (.int (3 : Int32)), .val .null, .val (.ref t23)] [(.int (3 : Int32)), (.ref t23), (.ref a)])) rfl (by rw [hml]; rfl) (argsL := [(.ref t23), (.int (3 : Int32))]) (rest := [(.ref a)]) (lenOf pd_2 rfl) rfl (by show 2 * 0 + _ ≤ _; exact Nat.le_of_eq rfl) (hb hby d4_45) (fun _ _ => ⟨rfl, rfl, (by decide : (0 + 1) + 0 ≤ _), (by decide : (0 + 3) + 0 ≤ _)⟩)
  dsimp only [Pt.U, Pt.locs, Pt.cells, Pt.slots] at X24 l24 y24 z24 st24 hQ24
  subst l24 y24 z24
  obtain ⟨rfl, N24q, e24⟩ := hQ24
  have N24 := Fr.app N23 N24q
  refine own_by (T' := T24) (g' := (mkF m 48 #[.val (.ref a), .val (.ref ca), .val (.int (0 : Int32)), .val (.int (3 : Int32)), .val .null, .val (.ref t23)] [(.int (0 : Int32)), (.ref a)])) (fun _ k => st24 _ k) ?_
  obtain ⟨T25, h25, X25, e25, W25, st25⟩ := putFN X24 hx hZ hown (hw _ (List.mem_of_getElem? (i := 28) rfl)) Via.refl e24 (Fld.keep F_coder_a K23 nin0) (Exa.keep E_a K23) (Or.inr ⟨(hw _ (List.mem_of_getElem? (i := 24) rfl)), rfl, hnm⟩) (hw _ (List.mem_of_getElem? (i := 8) rfl)) (ty := .byte) (v' := (.int (0 : Int32))) (by decide) rfl (by decide) (g := (mkF m 48 #[.val (.ref a), .val (.ref ca), .val (.int (0 : Int32)), .val (.int (3 : Int32)), .val .null, .val (.ref t23)] [(.int (0 : Int32)), (.ref a)])) rfl rfl (hb hby d4_48)
  have Fw25 : Fld Z h25 a "java/lang/String" "coder" "B" (.int (0 : Int32)) := Fld.same W25 (Fld.keep F_coder_a K23 nin0)
  have K25 : Keep h0 h25 [a] := Keep.wr KK23 W25 (Or.inl (List.mem_of_getElem? (i := 0) rfl))
  have N25 := Fr.snoc X25 N24 g_a
  refine own_by (T' := T25) (g' := (mkF m 51 #[.val (.ref a), .val (.ref ca), .val (.int (0 : Int32)), .val (.int (3 : Int32)), .val .null, .val (.ref t23)] [])) (fun _ k => st25 _ k) ?_
  refine own_by (T' := T25) (g' := (mkF m 52 #[.val (.ref a), .val (.ref ca), .val (.int (0 : Int32)), .val (.int (3 : Int32)), .val .null, .val (.ref t23)] [(.ref a)])) (fun _ k => XS.aloadN X25.here hx rfl (hb hby d4_51) rfl rfl k) ?_
  refine own_by (T' := T25) (g' := (mkF m 54 #[.val (.ref a), .val (.ref ca), .val (.int (0 : Int32)), .val (.int (3 : Int32)), .val .null, .val (.ref t23)] [(.ref t23), (.ref a)])) (fun _ k => XS.aload X25.here hx rfl (hb hby d4_52) rfl rfl k) ?_
  obtain ⟨T26, h26, X26, e26, W26, st26⟩ := putF X25 hx hZ hown (host := "") (Or.inl (hw _ (List.mem_of_getElem? (i := 27) rfl))) Via.refl e25 (Fld.other W25 (Fld.keep F_value_a K23 nin0) (Or.inr (slot_ne (a0 := a0) (Or.inr (hw _ (List.mem_of_getElem? (i := 23) rfl))) (Or.inr (hw _ (List.mem_of_getElem? (i := 24) rfl))) (by decide) (t := (.array .byte)) (t' := .byte) (by decide) (by decide)))) (Exa.wr W25 (Exa.keep E_a K23)) (Or.inr ⟨(hw _ (List.mem_of_getElem? (i := 23) rfl)), rfl, hnm⟩) (hw _ (List.mem_of_getElem? (i := 8) rfl)) (ty := (.array .byte)) (by decide) rfl rfl (g := (mkF m 54 #[.val (.ref a), .val (.ref ca), .val (.int (0 : Int32)), .val (.int (3 : Int32)), .val .null, .val (.ref t23)] [(.ref t23), (.ref a)])) rfl rfl (hb hby d4_54)
  have Fw26 : Fld Z h26 a "java/lang/String" "value" "[B" (.ref t23) := Fld.same W26 (Fld.other W25 (Fld.keep F_value_a K23 nin0) (Or.inr (slot_ne (a0 := a0) (Or.inr (hw _ (List.mem_of_getElem? (i := 23) rfl))) (Or.inr (hw _ (List.mem_of_getElem? (i := 24) rfl))) (by decide) (t := (.array .byte)) (t' := .byte) (by decide) (by decide))))
  have K26 : Keep h0 h26 [a] := Keep.wr K25 W26 (Or.inl (List.mem_of_getElem? (i := 0) rfl))
  have N26 := Fr.snoc X26 N25 g_a
  refine own_by (T' := T26) (g' := (mkF m 57 #[.val (.ref a), .val (.ref ca), .val (.int (0 : Int32)), .val (.int (3 : Int32)), .val .null, .val (.ref t23)] [])) (fun _ k => st26 _ k) ?_
  refine own_ret X26 hlk (v := none) (fun _ => rfl) (fun fs hr => X26.returnOut hx Bd.returns (hb hby d4_57) hr) ?_ (by decide) (by decide)
  rw [e26]
  exact ⟨rfl, N26, K26, (Fld.other W26 Fw25 (Or.inr (slot_ne (a0 := a0) (Or.inr (hw _ (List.mem_of_getElem? (i := 24) rfl))) (Or.inr (hw _ (List.mem_of_getElem? (i := 23) rfl))) (by decide) (t := .byte) (t' := (.array .byte)) (by decide) (by decide)))), _, _, sz_t23, Fw26, (Arv.other (Arv.other V23 W25 (Ne.symm (Nat.ne_of_lt (Nat.lt_of_lt_of_le (E_a).lt zt23)))) W26 (Ne.symm (Nat.ne_of_lt (Nat.lt_of_lt_of_le (E_a).lt zt23))))⟩
theorem ef_sin1_3 (m : MethodId) (a : Addr) (ca : Addr) : entryFrame m #[(.ref a), (.ref ca)] 2 = mkF m 0 #[.val (.ref a), .val (.ref ca)] [] := by first | (simp [entryFrame, mkF, argsToLocals, Value.category]; done) | rfl
def Q_sin1_3 (Z : State) (a : Addr) (ca : Addr) (kc : ClassId) (cs : Int32) (c0 : Int32) (c1 : Int32) (c2 : Int32) (h0 : Heap) (n0 : Nat) (v : Option Value) (h : Heap) (L : List Loc) : Prop := v = none ∧ Fr n0 L ∧ Keep h0 h [a] ∧ Fld Z h a "java/lang/String" "coder" "B" (.int (0 : Int32)) ∧ ∃ (t : Addr) (kb : ClassId), h0.size ≤ t ∧ Fld Z h a "java/lang/String" "value" "[B" (.ref t) ∧ Arv Z h t kb .byte (3 : Int32) [(.int (nar .byte (c0.toInt8.toInt32))), (.int (nar .byte (c1.toInt8.toInt32))), (.int (nar .byte (c2.toInt8.toInt32)))] (.int (0 : Int32))
set_option maxRecDepth 65536 in
set_option maxHeartbeats 40000000 in
theorem sin1_3 (l : Launch) (Z : State) (a0 : Array Value) (hw : ∀ d ∈ tables_1, d.before a0 Z = true) (ws : List Jvm.Cond) (a : Addr) (ca : Addr) (kc : ClassId) (cs : Int32) (c0 : Int32) (c1 : Int32) (c2 : Int32) (h0 : Heap) (n0 : Nat) (Z0 : n0 ≤ h0.size) (E_a : Exa Z h0 a "java/lang/String") (F_value_a : Fld Z h0 a "java/lang/String" "value" "[B" .null) (F_coder_a : Fld Z h0 a "java/lang/String" "coder" "B" (.int (0 : Int32))) (g_a : n0 ≤ a) (V_ca : Arv Z h0 ca kc .char (3 : Int32) [(.int c0), (.int c1), (.int c2)] (.int (0 : Int32))) (S_CS : Sta Z h0 "java/lang/String" "COMPACT_STRINGS" "Z" (.int cs)) (hcs : ¬ cs = (0 : Int32)) (hc0 : ¬ (255 : Int32) < c0) (hc1 : ¬ (255 : Int32) < c1) (hc2 : ¬ (255 : Int32) < c2) :
    MetFree l (⟨"java/lang/String", "<init>", "([C)V"⟩ : MethodName) (head1 (Jvm.Cond.code (⟨"java/lang/String", "<init>", "([C)V"⟩ : MethodName) jdk_42_method_3_code 2 none :: ws) ({ frames := 3, cells := 1, slots := 3, locals := 52 } : Room)) (fun zz UU => zz = #[(.ref a), (.ref ca)] ∧ Z.Warmed39 UU.vm ∧ UU.heap = h0) (fun _ _ _ _ _ => True) (fun _ U o U' => ∃ v L, o = .returned v ∧ Q_sin1_3 Z a ca kc cs c0 c1 c2 h0 n0 v U'.heap L ∧ FrameEnd U o U' L ({ frames := 3, cells := 1, slots := 3, locals := 52 } : Room).cells ({ frames := 3, cells := 1, slots := 3, locals := 52 } : Room).slots) := by
  refine MetFree.of_bodySF (plainFor_of_name pn_3) hisR ?_
  intro p e s m args below meth c s₁ Bd hml0 hP hK
  obtain ⟨rfl, hZ, hh⟩ := hP
  have hx := Bd.exec
  have hby := Bd.bytes
  have hml : c.maxLocals = 2 := hml0
  have hown : s.vm.findClass "java/lang/String" = some m.cls := findClass_of_methodNamed Bd.named
  have hnm := (name_of_methodNamed Bd.named Bd.method).1
  have hlk : meth.locks = false := BodyLoose.notSynchronized Bd
  have X0 : Stand p l e ({ frames := 3, cells := 1, slots := 3, locals := 52 } : Room) s m #[(.ref a), (.ref ca)] below meth c s₁ [] 0 0 := Stand.of_body Bd
  have e0 : s₁.heap = h0 := by rw [← hh, Bd.state]; rfl
  have N0 := Fr.nil n0
  show own_Go p.tables e below (Q_sin1_3 Z a ca kc cs c0 c1 c2 h0 n0) s ({ frames := 3, cells := 1, slots := 3, locals := 52 } : Room).cells ({ frames := 3, cells := 1, slots := 3, locals := 52 } : Room).slots s₁ (entryFrame m #[(.ref a), (.ref ca)] 2)
  rw [ef_sin1_3 m a ca]
  refine own_by (T' := s₁) (g' := (mkF m 1 #[.val (.ref a), .val (.ref ca)] [(.ref a)])) (fun _ k => XS.aloadN X0.here hx rfl (hb hby d3_0) rfl rfl k) ?_
  refine own_by (T' := s₁) (g' := (mkF m 2 #[.val (.ref a), .val (.ref ca)] [(.ref ca), (.ref a)])) (fun _ k => XS.aloadN X0.here hx rfl (hb hby d3_1) rfl rfl k) ?_
  refine own_by (T' := s₁) (g' := (mkF m 3 #[.val (.ref a), .val (.ref ca)] [(.int (0 : Int32)), (.ref ca), (.ref a)])) (fun _ k => XS.iconst X0.here hx rfl (hb hby d3_2) k) ?_
  refine own_by (T' := s₁) (g' := (mkF m 4 #[.val (.ref a), .val (.ref ca)] [(.ref ca), (.int (0 : Int32)), (.ref ca), (.ref a)])) (fun _ k => XS.aloadN X0.here hx rfl (hb hby d3_3) rfl rfl k) ?_
  obtain ⟨cl21, Ar21, q21, S21, N_21, H21, G21⟩ := id V_ca
  refine own_by (T' := s₁) (g' := (mkF m 5 #[.val (.ref a), .val (.ref ca)] [(.int (3 : Int32)), (.int (0 : Int32)), (.ref ca), (.ref a)])) (fun _ k => X0.arraylength hx (by rw [e0]; exact Ar21.1) (State.isArrayOf_alike hZ.alike Ar21.2.1) (g := (mkF m 4 #[.val (.ref a), .val (.ref ca)] [(.ref ca), (.int (0 : Int32)), (.ref ca), (.ref a)])) rfl rfl (hb hby d3_4) _ (by rw [len_of S21 N_21]; exact k)) ?_
  refine own_by (T' := s₁) (g' := (mkF m 6 #[.val (.ref a), .val (.ref ca)] [.null, (.int (3 : Int32)), (.int (0 : Int32)), (.ref ca), (.ref a)])) (fun _ k => XS.aconstNull X0.here hx rfl (hb hby d3_5) k) ?_
  obtain ⟨_, _, ⟨T22, L22, k22, n22⟩, -, X22, ⟨Lc22, hQ22, l22, y22, z22⟩, st22⟩ := X0.specialBack hx (y := (⟨"java/lang/String", "<init>", "([CIILjava/lang/Void;)V"⟩ : MethodName)) rfl hown (mvT hZ (hw _ (List.mem_of_getElem? (i := 14) rfl))) (mvT hZ (hw _ (List.mem_of_getElem? (i := 15) rfl))) (mvT hZ (hw _ (List.mem_of_getElem? (i := 17) rfl))) (by decide) (backOf (W := 0) (sin4_3 l Z a0 hw [] a ca kc cs c0 c1 c2 h0 n0 Z0 E_a F_value_a F_coder_a g_a V_ca S_CS hcs hc0 hc1 hc2) hZ (hw _ (List.mem_of_getElem? (i := 17) rfl)) (hw _ (List.mem_of_getElem? (i := 9) rfl)) (by decide) (by decide)) (g := (mkF m 6 #[.val (.ref a), .val (.ref ca)] [.null, (.int (3 : Int32)), (.int (0 : Int32)), (.ref ca), (.ref a)])) rfl (by rw [hml]; rfl) (Steps.refl _) (a := a) (argsL := [(.ref ca), (.int (0 : Int32)), (.int (3 : Int32)), .null]) (rest := []) (lenOf pd_3 rfl) rfl (by show 2 * 0 + _ ≤ _; exact Nat.le_of_eq rfl) (hb hby d3_6) (fun _ _ => ⟨rfl, e0, (by decide : 0 + 1 ≤ _), (by decide : 0 + 3 ≤ _)⟩)
  dsimp only [Pt.U, Pt.locs, Pt.cells, Pt.slots] at X22 l22 y22 z22 st22 hQ22
  subst l22 y22 z22
  obtain ⟨rfl, N22q, K22, Fc22, t22, kb22, zt22, Fv22, V22⟩ := hQ22
  have N22 := Fr.app N0 N22q
  have KK22 : Keep h0 T22.heap [a] := Keep.trans (Keep.refl h0 [a]) K22 (allS (Or.inl (List.mem_of_getElem? (i := 0) rfl)) all0)
  have sz_t22 : h0.size ≤ t22 := zt22
  refine own_by (T' := T22) (g' := (mkF m 9 #[.val (.ref a), .val (.ref ca)] [])) (fun _ k => st22.trans k) ?_
  refine own_ret X22 hlk (v := none) (fun _ => rfl) (fun fs hr => X22.returnOut hx Bd.returns (hb hby d3_9) hr) ?_ (by decide) (by decide)
  exact ⟨rfl, N22, KK22, Fc22, _, _, sz_t22, Fv22, V22⟩
theorem d4_8 : decode jdk_42_method_149_code 8 = .ok (.aload_n 0, 1) := by decide +kernel
theorem d4_9 : decode jdk_42_method_149_code 9 = .ok (.ldc 7, 2) := by decide +kernel
theorem d4_11 : decode jdk_42_method_149_code 11 = .ok (.getfield 9, 3) := by decide +kernel
theorem d4_14 : decode jdk_42_method_149_code 14 = .ok (.putfield 9, 3) := by decide +kernel
theorem d4_17 : decode jdk_42_method_149_code 17 = .ok (.aload_n 0, 1) := by decide +kernel
theorem d4_18 : decode jdk_42_method_149_code 18 = .ok (.ldc 7, 2) := by decide +kernel
theorem d4_20 : decode jdk_42_method_149_code 20 = .ok (.getfield 15, 3) := by decide +kernel
theorem d4_23 : decode jdk_42_method_149_code 23 = .ok (.putfield 15, 3) := by decide +kernel
theorem d4_26 : decode jdk_42_method_149_code 26 = .ok (.return_, 1) := by decide +kernel
theorem ef_sin4_0 (m : MethodId) (a : Addr) (ca : Addr) : entryFrame m #[(.ref a), (.ref ca), (.int (0 : Int32)), (.int (0 : Int32)), .null] 6 = mkF m 0 #[.val (.ref a), .val (.ref ca), .val (.int (0 : Int32)), .val (.int (0 : Int32)), .val .null, .unset] [] := by first | (simp [entryFrame, mkF, argsToLocals, Value.category]; done) | rfl
def V_sin4_0 (Z : State) (a : Addr) (ca : Addr) (h0 : Heap) (vm : Vm) : Prop := Safe Z consts_1 vm h0 a
def Q_sin4_0 (Z : State) (a : Addr) (ca : Addr) (h0 : Heap) (n0 : Nat) (v : Option Value) (h : Heap) (L : List Loc) : Prop := v = none ∧ Fr n0 L ∧ Keep h0 h [a] ∧ Fld Z h a "java/lang/String" "coder" "B" (.int (0 : Int32)) ∧ ∃ (t : Addr) (kb : ClassId), Fld Z h a "java/lang/String" "value" "[B" (.ref t) ∧ Arv Z h t kb .byte (0 : Int32) [] (.int (0 : Int32))
set_option maxRecDepth 65536 in
set_option maxHeartbeats 40000000 in
theorem sin4_0 (l : Launch) (Z : State) (a0 : Array Value) (hw : ∀ d ∈ tables_1, d.before a0 Z = true) (ws : List Jvm.Cond) (a : Addr) (ca : Addr) (h0 : Heap) (n0 : Nat) (Z0 : n0 ≤ h0.size) (E_a : Exa Z h0 a "java/lang/String") (F_value_a : Fld Z h0 a "java/lang/String" "value" "[B" .null) (F_coder_a : Fld Z h0 a "java/lang/String" "coder" "B" (.int (0 : Int32))) (g_a : n0 ≤ a) :
    MetFree l (⟨"java/lang/String", "<init>", "([CIILjava/lang/Void;)V"⟩ : MethodName) (head1 (Jvm.Cond.code (⟨"java/lang/String", "<init>", "([CIILjava/lang/Void;)V"⟩ : MethodName) jdk_42_method_149_code 6 none :: ws) ({ frames := 1, cells := 4, slots := 8, locals := 12 } : Room)) (fun zz UU => zz = #[(.ref a), (.ref ca), (.int (0 : Int32)), (.int (0 : Int32)), .null] ∧ Z.Warmed39 UU.vm ∧ UU.heap = h0 ∧ CHv Z consts_1 UU.vm h0 ∧ V_sin4_0 Z a ca h0 UU.vm) (fun _ _ _ _ _ => True) (fun _ U o U' => ∃ v L, o = .returned v ∧ Q_sin4_0 Z a ca h0 n0 v U'.heap L ∧ CHr Z consts_1 U.vm U.heap U'.vm U'.heap ∧ ReturnedEndW U o U' L ({ frames := 1, cells := 4, slots := 8, locals := 12 } : Room).cells ({ frames := 1, cells := 4, slots := 8, locals := 12 } : Room).slots) := by
  refine MetFree.of_bodySF (plainFor_of_name pn_4) hisR ?_
  intro p e s m args below meth c s₁ Bd hml0 hP hK
  obtain ⟨rfl, hZ, hh, hH, hV⟩ := hP
  have hx := Bd.exec
  have hby := Bd.bytes
  have hml : c.maxLocals = 6 := hml0
  have hown : s.vm.findClass "java/lang/String" = some m.cls := findClass_of_methodNamed Bd.named
  have hnm := (name_of_methodNamed Bd.named Bd.method).1
  have hlk : meth.locks = false := BodyLoose.notSynchronized Bd
  have X0 : Stand p l e ({ frames := 1, cells := 4, slots := 8, locals := 12 } : Room) (s.setVm s.vm) m #[(.ref a), (.ref ca), (.int (0 : Int32)), (.int (0 : Int32)), .null] below meth c s₁ [] 0 0 := Stand.of_body Bd
  have e0 : s₁.heap = h0 := by rw [← hh, Bd.state]; rfl
  have N0 := Fr.nil n0
  show own_GoW p.tables e below Z consts_1 (Q_sin4_0 Z a ca h0 n0) s ({ frames := 1, cells := 4, slots := 8, locals := 12 } : Room).cells ({ frames := 1, cells := 4, slots := 8, locals := 12 } : Room).slots s₁ (entryFrame m #[(.ref a), (.ref ca), (.int (0 : Int32)), (.int (0 : Int32)), .null] 6)
  rw [ef_sin4_0 m a ca]
  have hS0 : s.Since s.vm s.heap.size := (State.WarmedH.refl s).since _
  have hk0 : s.heap.size ≤ h0.size := Nat.le_of_eq (congrArg Array.size hh)
  have C0 : CHr Z consts_1 s.vm s.heap s.vm h0 := by rw [hh]; exact CHr.refl hH
  have hEL : EW Z a0 consts_1 := own_EL hw
  have hwS : ∀ d ∈ Bundle.stringAtoms, d.before a0 Z = true := fun d hd => hw d (own_SA d hd)
  refine own_byW (T' := s₁) (g' := (mkF m 1 #[.val (.ref a), .val (.ref ca), .val (.int (0 : Int32)), .val (.int (0 : Int32)), .val .null, .unset] [(.ref a)])) (fun _ k => XS.aloadN X0.here hx rfl (hb hby d4_0) rfl rfl k) ?_
  obtain ⟨T21, X21, e21, st21⟩ := initO X0 hx hZ hown (hw _ (List.mem_of_getElem? (i := 18) rfl)) (hw _ (List.mem_of_getElem? (i := 19) rfl)) (hw _ (List.mem_of_getElem? (i := 20) rfl)) e0 (g := (mkF m 1 #[.val (.ref a), .val (.ref ca), .val (.int (0 : Int32)), .val (.int (0 : Int32)), .val .null, .unset] [(.ref a)])) rfl (by rw [hml]; rfl) rfl (hb hby d4_1) (by decide) (W := 0) (by show 2 * 0 + _ ≤ _; exact Nat.le_of_eq rfl) (by decide)
  refine own_byW (T' := T21) (g' := (mkF m 4 #[.val (.ref a), .val (.ref ca), .val (.int (0 : Int32)), .val (.int (0 : Int32)), .val .null, .unset] [])) (fun _ k => st21 _ k) ?_
  refine own_byW (T' := T21) (g' := (mkF m 5 #[.val (.ref a), .val (.ref ca), .val (.int (0 : Int32)), .val (.int (0 : Int32)), .val .null, .unset] [(.int (0 : Int32))])) (fun _ k => XS.iloadN X21.here hx rfl (hb hby d4_4) rfl k) ?_
  refine own_byW (T' := T21) (g' := (mkF m 8 #[.val (.ref a), .val (.ref ca), .val (.int (0 : Int32)), .val (.int (0 : Int32)), .val .null, .unset] [])) (fun _ k => XS.ifNo X21.here hx rfl (hb hby d4_5) rfl ((if0 _ _).trans (teq (by decide)).2) k) ?_
  refine own_byW (T' := T21) (g' := (mkF m 9 #[.val (.ref a), .val (.ref ca), .val (.int (0 : Int32)), .val (.int (0 : Int32)), .val .null, .unset] [(.ref a)])) (fun _ k => XS.aloadN X21.here hx rfl (hb hby d4_8) rfl rfl k) ?_
  obtain ⟨a22, T22, h22, k22, b22, kb22, X22, e22, E22, hS22, hk22, hZ22, hown22, Ex22, Fc22, Fv22, V22, la22, lb22, Cq22, Lt22, D22, st22⟩ := ldcCH (s := s) (EL := consts_1) X21 hx hZ hown (hw _ (List.mem_of_getElem? (i := 21) rfl)) hwS e21 hS0 hk0 hEL (List.mem_of_getElem? (i := 4) rfl) C0.1 (vs := []) (z := (0 : Int32)) ⟨by decide, by decide⟩ (by decide) (by decide) (g := (mkF m 9 #[.val (.ref a), .val (.ref ca), .val (.int (0 : Int32)), .val (.int (0 : Int32)), .val .null, .unset] [(.ref a)])) rfl (hb hby d4_9) (n := 0) (by decide) (by decide) (by decide) (by decide)
  have Sf22_a : Safe Z consts_1 T22.vm h22 a := CHr.safe Cq22 (E_a).lt hV
  have C22 : CHr Z consts_1 s.vm s.heap T22.vm h22 := CHr.trans C0 Cq22
  have K22 : Keep h0 h22 [a] := Keep.ext (Keep.refl h0 [a]) E22
  refine own_byW (T' := T22) (g' := (mkF m 11 #[.val (.ref a), .val (.ref ca), .val (.int (0 : Int32)), .val (.int (0 : Int32)), .val .null, .unset] [(.ref a22), (.ref a)])) (fun _ k => st22 _ k) ?_
  obtain ⟨T23, X23, e23, st23⟩ := getF X22 hx hZ22 hown22 (host := "") (Or.inl (hw _ (List.mem_of_getElem? (i := 27) rfl))) Via.refl e22 Fv22 (g := (mkF m 11 #[.val (.ref a), .val (.ref ca), .val (.int (0 : Int32)), .val (.int (0 : Int32)), .val .null, .unset] [(.ref a22), (.ref a)])) rfl rfl (hb hby d4_11)
  refine own_byW (T' := T23) (g' := (mkF m 14 #[.val (.ref a), .val (.ref ca), .val (.int (0 : Int32)), .val (.int (0 : Int32)), .val .null, .unset] [(.ref b22), (.ref a)])) (fun _ k => st23 _ k) ?_
  obtain ⟨T24, h24, X24, e24, W24, st24⟩ := putF X23 hx hZ22 hown22 (host := "") (Or.inl (hw _ (List.mem_of_getElem? (i := 27) rfl))) Via.refl e23 (Fld.ext E22 F_value_a) (Exa.ext E22 E_a) (Or.inr ⟨(hw _ (List.mem_of_getElem? (i := 23) rfl)), rfl, hnm⟩) (hw _ (List.mem_of_getElem? (i := 8) rfl)) (ty := (.array .byte)) (by decide) rfl rfl (g := (mkF m 14 #[.val (.ref a), .val (.ref ca), .val (.int (0 : Int32)), .val (.int (0 : Int32)), .val .null, .unset] [(.ref b22), (.ref a)])) rfl rfl (hb hby d4_14)
  have Fw24 : Fld Z h24 a "java/lang/String" "value" "[B" (.ref b22) := Fld.same W24 (Fld.ext E22 F_value_a)
  have K24 : Keep h0 h24 [a] := Keep.wr K22 W24 (Or.inl (List.mem_of_getElem? (i := 0) rfl))
  have Sf24_a : Safe Z consts_1 T22.vm h24 a := Safe.wr W24 Sf22_a C22.1 Sf22_a
  have C24 : CHr Z consts_1 s.vm s.heap T22.vm h24 := CHr.trans C22 (CHr.wr W24 Sf22_a C22.1)
  have N24 := Fr.snoc X24 N0 g_a
  refine own_byW (T' := T24) (g' := (mkF m 17 #[.val (.ref a), .val (.ref ca), .val (.int (0 : Int32)), .val (.int (0 : Int32)), .val .null, .unset] [])) (fun _ k => st24 _ k) ?_
  refine own_byW (T' := T24) (g' := (mkF m 18 #[.val (.ref a), .val (.ref ca), .val (.int (0 : Int32)), .val (.int (0 : Int32)), .val .null, .unset] [(.ref a)])) (fun _ k => XS.aloadN X24.here hx rfl (hb hby d4_17) rfl rfl k) ?_
  obtain ⟨a25, T25, h25, k25, b25, kb25, X25, e25, E25, hS25, hk25, hZ25, hown25, Ex25, Fc25, Fv25, V25, la25, lb25, Cq25, Lt25, D25, st25⟩ := ldcCH (s := s) (EL := consts_1) X24 hx hZ22 hown22 (hw _ (List.mem_of_getElem? (i := 21) rfl)) hwS e24 hS22 (Nat.le_trans hk22 (Keep.of_wr W24).1) hEL (List.mem_of_getElem? (i := 4) rfl) C24.1 (vs := []) (z := (0 : Int32)) ⟨by decide, by decide⟩ (by decide) (by decide) (g := (mkF m 18 #[.val (.ref a), .val (.ref ca), .val (.int (0 : Int32)), .val (.int (0 : Int32)), .val .null, .unset] [(.ref a)])) rfl (hb hby d4_18) (n := 0) (by decide) (by decide) (by decide) (by decide)
  have Sf25_a : Safe Z consts_1 T25.vm h25 a := CHr.safe Cq25 ((Exa.wr W24 (Exa.ext E22 E_a))).lt Sf24_a
  have C25 : CHr Z consts_1 s.vm s.heap T25.vm h25 := CHr.trans C24 Cq25
  have K25 : Keep h0 h25 [a] := Keep.ext K24 E25
  refine own_byW (T' := T25) (g' := (mkF m 20 #[.val (.ref a), .val (.ref ca), .val (.int (0 : Int32)), .val (.int (0 : Int32)), .val .null, .unset] [(.ref a25), (.ref a)])) (fun _ k => st25 _ k) ?_
  obtain ⟨T26, X26, e26, st26⟩ := getF X25 hx hZ25 hown25 (host := "") (Or.inl (hw _ (List.mem_of_getElem? (i := 28) rfl))) Via.refl e25 Fc25 (g := (mkF m 20 #[.val (.ref a), .val (.ref ca), .val (.int (0 : Int32)), .val (.int (0 : Int32)), .val .null, .unset] [(.ref a25), (.ref a)])) rfl rfl (hb hby d4_20)
  refine own_byW (T' := T26) (g' := (mkF m 23 #[.val (.ref a), .val (.ref ca), .val (.int (0 : Int32)), .val (.int (0 : Int32)), .val .null, .unset] [(.int (0 : Int32)), (.ref a)])) (fun _ k => st26 _ k) ?_
  obtain ⟨T27, h27, X27, e27, W27, st27⟩ := putFN X26 hx hZ25 hown25 (hw _ (List.mem_of_getElem? (i := 28) rfl)) Via.refl e26 (Fld.ext E25 (Fld.other W24 (Fld.ext E22 F_coder_a) (Or.inr (slot_ne (a0 := a0) (Or.inr (hw _ (List.mem_of_getElem? (i := 24) rfl))) (Or.inr (hw _ (List.mem_of_getElem? (i := 23) rfl))) (by decide) (t := .byte) (t' := (.array .byte)) (by decide) (by decide))))) (Exa.ext E25 (Exa.wr W24 (Exa.ext E22 E_a))) (Or.inr ⟨(hw _ (List.mem_of_getElem? (i := 24) rfl)), rfl, hnm⟩) (hw _ (List.mem_of_getElem? (i := 8) rfl)) (ty := .byte) (v' := (.int (0 : Int32))) (by decide) rfl (by decide) (g := (mkF m 23 #[.val (.ref a), .val (.ref ca), .val (.int (0 : Int32)), .val (.int (0 : Int32)), .val .null, .unset] [(.int (0 : Int32)), (.ref a)])) rfl rfl (hb hby d4_23)
  have Fw27 : Fld Z h27 a "java/lang/String" "coder" "B" (.int (0 : Int32)) := Fld.same W27 (Fld.ext E25 (Fld.other W24 (Fld.ext E22 F_coder_a) (Or.inr (slot_ne (a0 := a0) (Or.inr (hw _ (List.mem_of_getElem? (i := 24) rfl))) (Or.inr (hw _ (List.mem_of_getElem? (i := 23) rfl))) (by decide) (t := .byte) (t' := (.array .byte)) (by decide) (by decide)))))
  have K27 : Keep h0 h27 [a] := Keep.wr K25 W27 (Or.inl (List.mem_of_getElem? (i := 0) rfl))
  have Sf27_a : Safe Z consts_1 T25.vm h27 a := Safe.wr W27 Sf25_a C25.1 Sf25_a
  have C27 : CHr Z consts_1 s.vm s.heap T25.vm h27 := CHr.trans C25 (CHr.wr W27 Sf25_a C25.1)
  have N27 := Fr.snoc X27 N24 g_a
  refine own_byW (T' := T27) (g' := (mkF m 26 #[.val (.ref a), .val (.ref ca), .val (.int (0 : Int32)), .val (.int (0 : Int32)), .val .null, .unset] [])) (fun _ k => st27 _ k) ?_
  refine own_retW (s := s) X27 hlk hS25 (by rw [e27]; exact (Nat.le_trans hk25 (Keep.of_wr W27).1)) hZ25 hEL C27 e27 (v := none) (fun _ => rfl) (fun fs hr => X27.returnOut hx Bd.returns (hb hby d4_26) hr) ?_ (by decide) (by decide)
  rw [e27]
  exact ⟨rfl, N27, K27, Fw27, _, _, (Fld.other W27 (Fld.ext E25 Fw24) (Or.inr (slot_ne (a0 := a0) (Or.inr (hw _ (List.mem_of_getElem? (i := 23) rfl))) (Or.inr (hw _ (List.mem_of_getElem? (i := 24) rfl))) (by decide) (t := (.array .byte)) (t' := .byte) (by decide) (by decide)))), (Arv.other (Arv.ext (Arv.other V22 W24 (Ne.symm (D22 a Sf22_a).2)) E25) W27 (Ne.symm (D22 a Sf22_a).2))⟩
theorem ef_sin1_0 (m : MethodId) (a : Addr) (ca : Addr) : entryFrame m #[(.ref a), (.ref ca)] 2 = mkF m 0 #[.val (.ref a), .val (.ref ca)] [] := by first | (simp [entryFrame, mkF, argsToLocals, Value.category]; done) | rfl
def V_sin1_0 (Z : State) (a : Addr) (ca : Addr) (kc : ClassId) (h0 : Heap) (vm : Vm) : Prop := Safe Z consts_1 vm h0 a
def Q_sin1_0 (Z : State) (a : Addr) (ca : Addr) (kc : ClassId) (h0 : Heap) (n0 : Nat) (v : Option Value) (h : Heap) (L : List Loc) : Prop := v = none ∧ Fr n0 L ∧ Keep h0 h [a] ∧ Fld Z h a "java/lang/String" "coder" "B" (.int (0 : Int32)) ∧ ∃ (t : Addr) (kb : ClassId), Fld Z h a "java/lang/String" "value" "[B" (.ref t) ∧ Arv Z h t kb .byte (0 : Int32) [] (.int (0 : Int32))
set_option maxRecDepth 65536 in
set_option maxHeartbeats 40000000 in
theorem sin1_0 (l : Launch) (Z : State) (a0 : Array Value) (hw : ∀ d ∈ tables_1, d.before a0 Z = true) (ws : List Jvm.Cond) (a : Addr) (ca : Addr) (kc : ClassId) (h0 : Heap) (n0 : Nat) (Z0 : n0 ≤ h0.size) (E_a : Exa Z h0 a "java/lang/String") (F_value_a : Fld Z h0 a "java/lang/String" "value" "[B" .null) (F_coder_a : Fld Z h0 a "java/lang/String" "coder" "B" (.int (0 : Int32))) (g_a : n0 ≤ a) (V_ca : Arv Z h0 ca kc .char (0 : Int32) [] (.int (0 : Int32))) :
    MetFree l (⟨"java/lang/String", "<init>", "([C)V"⟩ : MethodName) (head1 (Jvm.Cond.code (⟨"java/lang/String", "<init>", "([C)V"⟩ : MethodName) jdk_42_method_3_code 2 none :: ws) ({ frames := 2, cells := 4, slots := 8, locals := 29 } : Room)) (fun zz UU => zz = #[(.ref a), (.ref ca)] ∧ Z.Warmed39 UU.vm ∧ UU.heap = h0 ∧ CHv Z consts_1 UU.vm h0 ∧ V_sin1_0 Z a ca kc h0 UU.vm) (fun _ _ _ _ _ => True) (fun _ U o U' => ∃ v L, o = .returned v ∧ Q_sin1_0 Z a ca kc h0 n0 v U'.heap L ∧ CHr Z consts_1 U.vm U.heap U'.vm U'.heap ∧ ReturnedEndW U o U' L ({ frames := 2, cells := 4, slots := 8, locals := 29 } : Room).cells ({ frames := 2, cells := 4, slots := 8, locals := 29 } : Room).slots) := by
  refine MetFree.of_bodySF (plainFor_of_name pn_3) hisR ?_
  intro p e s m args below meth c s₁ Bd hml0 hP hK
  obtain ⟨rfl, hZ, hh, hH, hV⟩ := hP
  have hx := Bd.exec
  have hby := Bd.bytes
  have hml : c.maxLocals = 2 := hml0
  have hown : s.vm.findClass "java/lang/String" = some m.cls := findClass_of_methodNamed Bd.named
  have hnm := (name_of_methodNamed Bd.named Bd.method).1
  have hlk : meth.locks = false := BodyLoose.notSynchronized Bd
  have X0 : Stand p l e ({ frames := 2, cells := 4, slots := 8, locals := 29 } : Room) (s.setVm s.vm) m #[(.ref a), (.ref ca)] below meth c s₁ [] 0 0 := Stand.of_body Bd
  have e0 : s₁.heap = h0 := by rw [← hh, Bd.state]; rfl
  have N0 := Fr.nil n0
  show own_GoW p.tables e below Z consts_1 (Q_sin1_0 Z a ca kc h0 n0) s ({ frames := 2, cells := 4, slots := 8, locals := 29 } : Room).cells ({ frames := 2, cells := 4, slots := 8, locals := 29 } : Room).slots s₁ (entryFrame m #[(.ref a), (.ref ca)] 2)
  rw [ef_sin1_0 m a ca]
  have hS0 : s.Since s.vm s.heap.size := (State.WarmedH.refl s).since _
  have hk0 : s.heap.size ≤ h0.size := Nat.le_of_eq (congrArg Array.size hh)
  have C0 : CHr Z consts_1 s.vm s.heap s.vm h0 := by rw [hh]; exact CHr.refl hH
  have hEL : EW Z a0 consts_1 := own_EL hw
  have hwS : ∀ d ∈ Bundle.stringAtoms, d.before a0 Z = true := fun d hd => hw d (own_SA d hd)
  refine own_byW (T' := s₁) (g' := (mkF m 1 #[.val (.ref a), .val (.ref ca)] [(.ref a)])) (fun _ k => XS.aloadN X0.here hx rfl (hb hby d3_0) rfl rfl k) ?_
  refine own_byW (T' := s₁) (g' := (mkF m 2 #[.val (.ref a), .val (.ref ca)] [(.ref ca), (.ref a)])) (fun _ k => XS.aloadN X0.here hx rfl (hb hby d3_1) rfl rfl k) ?_
  refine own_byW (T' := s₁) (g' := (mkF m 3 #[.val (.ref a), .val (.ref ca)] [(.int (0 : Int32)), (.ref ca), (.ref a)])) (fun _ k => XS.iconst X0.here hx rfl (hb hby d3_2) k) ?_
  refine own_byW (T' := s₁) (g' := (mkF m 4 #[.val (.ref a), .val (.ref ca)] [(.ref ca), (.int (0 : Int32)), (.ref ca), (.ref a)])) (fun _ k => XS.aloadN X0.here hx rfl (hb hby d3_3) rfl rfl k) ?_
  obtain ⟨cl21, Ar21, q21, S21, N_21, H21, G21⟩ := id V_ca
  refine own_byW (T' := s₁) (g' := (mkF m 5 #[.val (.ref a), .val (.ref ca)] [(.int (0 : Int32)), (.int (0 : Int32)), (.ref ca), (.ref a)])) (fun _ k => X0.arraylength hx (by rw [e0]; exact Ar21.1) (State.isArrayOf_alike hZ.alike Ar21.2.1) (g := (mkF m 4 #[.val (.ref a), .val (.ref ca)] [(.ref ca), (.int (0 : Int32)), (.ref ca), (.ref a)])) rfl rfl (hb hby d3_4) _ (by rw [len_of S21 N_21]; exact k)) ?_
  refine own_byW (T' := s₁) (g' := (mkF m 6 #[.val (.ref a), .val (.ref ca)] [.null, (.int (0 : Int32)), (.int (0 : Int32)), (.ref ca), (.ref a)])) (fun _ k => XS.aconstNull X0.here hx rfl (hb hby d3_5) k) ?_
  obtain ⟨_, _, ⟨T22, L22, k22, n22⟩, -, X22, hSq22, hgq22, ⟨Lc22, hQ22, l22, y22, z22, Cq22⟩, st22⟩ := X0.specialBackS hx (y := (⟨"java/lang/String", "<init>", "([CIILjava/lang/Void;)V"⟩ : MethodName)) rfl hown (mvT hZ (hw _ (List.mem_of_getElem? (i := 14) rfl))) (mvT hZ (hw _ (List.mem_of_getElem? (i := 15) rfl))) (mvT hZ (hw _ (List.mem_of_getElem? (i := 17) rfl))) (by decide) (own_backSH (s := s) (EL := consts_1) (W := 0) (sin4_0 l Z a0 hw [] a ca  h0 n0 Z0 E_a F_value_a F_coder_a g_a) hZ (hw _ (List.mem_of_getElem? (i := 17) rfl)) (hw _ (List.mem_of_getElem? (i := 9) rfl)) (by decide) (by decide) hEL C0.1 (fun vm hC => CHr.safe hC E_a.lt hV)) (g := (mkF m 6 #[.val (.ref a), .val (.ref ca)] [.null, (.int (0 : Int32)), (.int (0 : Int32)), (.ref ca), (.ref a)])) rfl (by rw [hml]; rfl) (Steps.refl _) (a := a) (argsL := [(.ref ca), (.int (0 : Int32)), (.int (0 : Int32)), .null]) (rest := []) (lenOf pd_3 rfl) rfl (by show 2 * 0 + _ ≤ _; exact Nat.le_of_eq rfl) (hb hby d3_6) (fun _ _ => ⟨rfl, e0, (by decide : 0 + 4 ≤ _), (by decide : 0 + 8 ≤ _)⟩)
  dsimp only [Pt.U, Pt.locs, Pt.cells, Pt.slots] at X22 l22 y22 z22 st22 hQ22 hSq22 hgq22 Cq22
  subst l22 y22 z22
  obtain ⟨rfl, N22q, K22, Fc22, t22, kb22, Fv22, V22⟩ := hQ22
  have N22 := Fr.app N0 N22q
  have KK22 : Keep h0 T22.heap [a] := Keep.trans (Keep.refl h0 [a]) K22 (allS (Or.inl (List.mem_of_getElem? (i := 0) rfl)) all0)
  have hS22 := foldS hS0 (T := s₁) (by rw [e0]; exact hk0) hSq22 hgq22
  have hZ22 : Z.Warmed39 (s.setVm T22.vm).vm := State.Warmed39.trans hZ hSq22.1
  have hown22 : (s.setVm T22.vm).vm.findClass "java/lang/String" = some m.cls := by show T22.vm.findClass "java/lang/String" = some m.cls; rw [hSq22.1.alike.findClass]; exact hown
  have X22 : Stand p l e ({ frames := 2, cells := 4, slots := 8, locals := 29 } : Room) (s.setVm T22.vm) m #[(.ref a), (.ref ca)] below meth c T22 L22 (0 + 4) (0 + 8) := X22
  have Sf22_a : Safe Z consts_1 T22.vm T22.heap a := CHr.safe Cq22 (E_a).lt hV
  have C22 : CHr Z consts_1 s.vm s.heap T22.vm T22.heap := CHr.trans C0 Cq22
  refine own_byW (T' := T22) (g' := (mkF m 9 #[.val (.ref a), .val (.ref ca)] [])) (fun _ k => st22.trans k) ?_
  refine own_retW (s := s) X22 hlk hS22 (Nat.le_refl _) hZ22 hEL C22 rfl (v := none) (fun _ => rfl) (fun fs hr => X22.returnOut hx Bd.returns (hb hby d3_9) hr) ?_ (by decide) (by decide)
  exact ⟨rfl, N22, KK22, Fc22, _, _, Fv22, V22⟩
theorem d2_0 : decode method_4_code 0 = .ok (.iload_n 0, 1) := by decide +kernel
theorem d2_1 : decode method_4_code 1 = .ok (.ifCond .ne 14, 3) := by decide +kernel
theorem d2_15 : decode method_4_code 15 = .ok (.iload_n 0, 1) := by decide +kernel
theorem d2_16 : decode method_4_code 16 = .ok (.iconst 1, 1) := by decide +kernel
theorem d2_17 : decode method_4_code 17 = .ok (.if_icmp .ne 23, 3) := by decide +kernel
theorem d2_20 : decode method_4_code 20 = .ok (.iconst 1, 1) := by decide +kernel
theorem d2_21 : decode method_4_code 21 = .ok (.newarray .char, 2) := by decide +kernel
theorem d2_23 : decode method_4_code 23 = .ok (.astore 4, 2) := by decide +kernel
theorem d2_25 : decode method_4_code 25 = .ok (.aload 4, 2) := by decide +kernel
theorem d2_27 : decode method_4_code 27 = .ok (.iconst 0, 1) := by decide +kernel
theorem d2_28 : decode method_4_code 28 = .ok (.iload_n 1, 1) := by decide +kernel
theorem d2_29 : decode method_4_code 29 = .ok (.castore, 1) := by decide +kernel
theorem d2_30 : decode method_4_code 30 = .ok (.new 39, 3) := by decide +kernel
theorem d2_33 : decode method_4_code 33 = .ok (.dup, 1) := by decide +kernel
theorem d2_34 : decode method_4_code 34 = .ok (.aload 4, 2) := by decide +kernel
theorem d2_36 : decode method_4_code 36 = .ok (.invokespecial 44, 3) := by decide +kernel
theorem d2_39 : decode method_4_code 39 = .ok (.areturn, 1) := by decide +kernel
theorem pn_2 : plainName "com/example/shelfgraph/shelfgraph/ingest/RecordPositionInputNamePinLaw" = true := by first | (simp [plainName, overriddenIn]; done) | decide +kernel
theorem ef_make_1 (m : MethodId) (c0 : Int32) (c1 : Int32) (c2 : Int32) : entryFrame m #[(.int (1 : Int32)), (.int c0), (.int c1), (.int c2)] 5 = mkF m 0 #[.val (.int (1 : Int32)), .val (.int c0), .val (.int c1), .val (.int c2), .unset] [] := by first | (simp [entryFrame, mkF, argsToLocals, Value.category]; done) | rfl
def Q_make_1 (Z : State) (c0 : Int32) (c1 : Int32) (c2 : Int32) (cs : Int32) (h0 : Heap) (n0 : Nat) (v : Option Value) (h : Heap) (L : List Loc) : Prop := ∃ (x t : Addr) (kb : ClassId), v = some (.ref x) ∧ Fr n0 L ∧ Keep h0 h [] ∧ h0.size ≤ x ∧ Exa Z h x "java/lang/String" ∧ Fld Z h x "java/lang/String" "coder" "B" (.int (0 : Int32)) ∧ Fld Z h x "java/lang/String" "value" "[B" (.ref t) ∧ Arv Z h t kb .byte (1 : Int32) [(.int (nar .byte ((nar .char c0).toInt8.toInt32)))] (.int (0 : Int32))
set_option maxRecDepth 65536 in
set_option maxHeartbeats 40000000 in
theorem make_1 (l : Launch) (Z : State) (a0 : Array Value) (hw : ∀ d ∈ tables_1, d.before a0 Z = true) (ws : List Jvm.Cond) (c0 : Int32) (c1 : Int32) (c2 : Int32) (cs : Int32) (h0 : Heap) (n0 : Nat) (Z0 : n0 ≤ h0.size) (S_CS : Sta Z h0 "java/lang/String" "COMPACT_STRINGS" "Z" (.int cs)) (hcs : ¬ cs = (0 : Int32)) (hc0 : ¬ (255 : Int32) < nar .char c0) :
    MetFree l (⟨"com/example/shelfgraph/shelfgraph/ingest/RecordPositionInputNamePinLaw", "make", "(ICCC)Ljava/lang/String;"⟩ : MethodName) (head1 (Jvm.Cond.code (⟨"com/example/shelfgraph/shelfgraph/ingest/RecordPositionInputNamePinLaw", "make", "(ICCC)Ljava/lang/String;"⟩ : MethodName) method_4_code 5 (some (.object "java/lang/String")) :: ws) ({ frames := 4, cells := 3, slots := 6, locals := 66 } : Room)) (fun zz UU => zz = #[(.int (1 : Int32)), (.int c0), (.int c1), (.int c2)] ∧ Z.Warmed39 UU.vm ∧ UU.heap = h0) (fun _ _ _ _ _ => True) (fun _ U o U' => ∃ v L, o = .returned v ∧ Q_make_1 Z c0 c1 c2 cs h0 n0 v U'.heap L ∧ FrameEnd U o U' L ({ frames := 4, cells := 3, slots := 6, locals := 66 } : Room).cells ({ frames := 4, cells := 3, slots := 6, locals := 66 } : Room).slots) := by
  refine MetFree.of_bodySF (plainFor_of_name pn_2) hisR ?_
  intro p e s m args below meth c s₁ Bd hml0 hP hK
  obtain ⟨rfl, hZ, hh⟩ := hP
  have hx := Bd.exec
  have hby := Bd.bytes
  have hml : c.maxLocals = 5 := hml0
  have hown : s.vm.findClass "com/example/shelfgraph/shelfgraph/ingest/RecordPositionInputNamePinLaw" = some m.cls := findClass_of_methodNamed Bd.named
  have hnm := (name_of_methodNamed Bd.named Bd.method).1
  have hlk : meth.locks = false := BodyLoose.notSynchronized Bd
  have X0 : Stand p l e ({ frames := 4, cells := 3, slots := 6, locals := 66 } : Room) s m #[(.int (1 : Int32)), (.int c0), (.int c1), (.int c2)] below meth c s₁ [] 0 0 := Stand.of_body Bd
  have e0 : s₁.heap = h0 := by rw [← hh, Bd.state]; rfl
  have N0 := Fr.nil n0
  show own_Go p.tables e below (Q_make_1 Z c0 c1 c2 cs h0 n0) s ({ frames := 4, cells := 3, slots := 6, locals := 66 } : Room).cells ({ frames := 4, cells := 3, slots := 6, locals := 66 } : Room).slots s₁ (entryFrame m #[(.int (1 : Int32)), (.int c0), (.int c1), (.int c2)] 5)
  rw [ef_make_1 m c0 c1 c2]
  refine own_by (T' := s₁) (g' := (mkF m 1 #[.val (.int (1 : Int32)), .val (.int c0), .val (.int c1), .val (.int c2), .unset] [(.int (1 : Int32))])) (fun _ k => XS.iloadN X0.here hx rfl (hb hby d2_0) rfl k) ?_
  refine own_by (T' := s₁) (g' := (mkF m 15 #[.val (.int (1 : Int32)), .val (.int c0), .val (.int c1), .val (.int c2), .unset] [])) (fun _ k => XS.ifYes X0.here hx rfl (pc0 := 1) (pc' := 15) rfl (hb hby d2_1) rfl ((if0 _ _).trans (feq (by decide)).2) (by decide) (by decide) k) ?_
  refine own_by (T' := s₁) (g' := (mkF m 16 #[.val (.int (1 : Int32)), .val (.int c0), .val (.int c1), .val (.int c2), .unset] [(.int (1 : Int32))])) (fun _ k => XS.iloadN X0.here hx rfl (hb hby d2_15) rfl k) ?_
  refine own_by (T' := s₁) (g' := (mkF m 17 #[.val (.int (1 : Int32)), .val (.int c0), .val (.int c1), .val (.int c2), .unset] [(.int (1 : Int32)), (.int (1 : Int32))])) (fun _ k => XS.iconst X0.here hx rfl (hb hby d2_16) k) ?_
  refine own_by (T' := s₁) (g' := (mkF m 20 #[.val (.int (1 : Int32)), .val (.int c0), .val (.int c1), .val (.int c2), .unset] [])) (fun _ k => XS.icmpNo X0.here hx rfl (hb hby d2_17) rfl (teq (by decide)).2 k) ?_
  refine own_by (T' := s₁) (g' := (mkF m 21 #[.val (.int (1 : Int32)), .val (.int c0), .val (.int c1), .val (.int c2), .unset] [(.int (1 : Int32))])) (fun _ k => XS.iconst X0.here hx rfl (hb hby d2_20) k) ?_
  obtain ⟨T21, h21, k21, X21, e21, E21, A21, st21⟩ := newP X0 hx hZ (hw _ (List.mem_of_getElem? (i := 10) rfl)) e0 (g := (mkF m 21 #[.val (.int (1 : Int32)), .val (.int c0), .val (.int c1), .val (.int c2), .unset] [(.int (1 : Int32))])) rfl (hb hby d2_21) rfl (by decide) (cap := 1) (by decide) (by decide) (by decide) (by decide)
  obtain ⟨b21, g21⟩ : ∃ z, z = h0.size := ⟨_, rfl⟩
  rw [← g21] at A21 st21
  have V_b21 : Arv Z h21 b21 k21 .char (1 : Int32) [(.int (0 : Int32))] (.int (0 : Int32)) := (Arv.new A21 (by decide)).pad (pad_rep [] (.int (0 : Int32)) 1)
  have g_b21 : n0 ≤ b21 := Nat.le_trans Z0 (Nat.le_of_eq g21.symm)
  have sz_b21 : h0.size ≤ b21 := Nat.le_trans (Keep.refl h0 []).1 (Nat.le_of_eq g21.symm)
  have K21 : Keep h0 h21 [] := Keep.ext (Keep.refl h0 []) E21
  refine own_by (T' := T21) (g' := (mkF m 23 #[.val (.int (1 : Int32)), .val (.int c0), .val (.int c1), .val (.int c2), .unset] [(.ref b21)])) (fun _ k => st21 _ k) ?_
  refine own_by (T' := T21) (g' := (mkF m 25 #[.val (.int (1 : Int32)), .val (.int c0), .val (.int c1), .val (.int c2), .val (.ref b21)] [])) (fun _ k => XS.astore X21.here hx rfl (hb hby d2_23) rfl rfl (l' := #[.val (.int (1 : Int32)), .val (.int c0), .val (.int c1), .val (.int c2), .val (.ref b21)]) rfl k) ?_
  refine own_by (T' := T21) (g' := (mkF m 27 #[.val (.int (1 : Int32)), .val (.int c0), .val (.int c1), .val (.int c2), .val (.ref b21)] [(.ref b21)])) (fun _ k => XS.aload X21.here hx rfl (hb hby d2_25) rfl rfl k) ?_
  refine own_by (T' := T21) (g' := (mkF m 28 #[.val (.int (1 : Int32)), .val (.int c0), .val (.int c1), .val (.int c2), .val (.ref b21)] [(.int (0 : Int32)), (.ref b21)])) (fun _ k => XS.iconst X21.here hx rfl (hb hby d2_27) k) ?_
  refine own_by (T' := T21) (g' := (mkF m 29 #[.val (.int (1 : Int32)), .val (.int c0), .val (.int c1), .val (.int c2), .val (.ref b21)] [(.int c0), (.int (0 : Int32)), (.ref b21)])) (fun _ k => XS.iloadN X21.here hx rfl (hb hby d2_28) rfl k) ?_
  obtain ⟨cl22, Ar22, q22, S22, N_22, H22, G22⟩ := id V_b21
  have hin22 : ¬ ((0 : Int32) < 0 ∨ cl22.slots.size ≤ ((0 : Int32)).toNatClampNeg) := inb_of S22 ⟨by decide, by decide⟩
  obtain ⟨T23, h23, X23, e23, W23, st23⟩ := stC X21 hx hZ e21 Ar22 (j := (0 : Int32)) hin22 (g := (mkF m 29 #[.val (.int (1 : Int32)), .val (.int c0), .val (.int c1), .val (.int c2), .val (.ref b21)] [(.int c0), (.int (0 : Int32)), (.ref b21)])) rfl rfl (hb hby d2_29)
  have V23 : Arv Z h23 b21 k21 .char (1 : Int32) [(.int (nar .char c0))] (.int (0 : Int32)) := Arv.set Ar22 q22 S22 N_22 H22 G22 (fits_nar_char _) W23 0 rfl (Nat.le_of_ble_eq_true rfl)
  have K23 : Keep h0 h23 [] := Keep.wr K21 W23 (Or.inr sz_b21)
  have N23 := Fr.snoc X23 N0 g_b21
  refine own_by (T' := T23) (g' := (mkF m 30 #[.val (.int (1 : Int32)), .val (.int c0), .val (.int c1), .val (.int c2), .val (.ref b21)] [])) (fun _ k => st23 _ k) ?_
  obtain ⟨T24, h24, X24, e24, E24, A24, D24, -, st24⟩ := newO X23 hx hZ hown (hw _ (List.mem_of_getElem? (i := 7) rfl)) (hw _ (List.mem_of_getElem? (i := 8) rfl)) (hw _ (List.mem_of_getElem? (i := 9) rfl)) e23 (g := (mkF m 30 #[.val (.int (1 : Int32)), .val (.int c0), .val (.int c1), .val (.int c2), .val (.ref b21)] [])) rfl (hb hby d2_30) (by decide) (by decide)
  obtain ⟨b24, g24⟩ : ∃ z, z = h23.size := ⟨_, rfl⟩
  rw [← g24] at A24 D24 st24
  have E_b24 : Exa Z h24 b24 "java/lang/String" := A24
  have F_value_b24 : Fld Z h24 b24 "java/lang/String" "value" "[B" .null := D24 (Or.inr (hw _ (List.mem_of_getElem? (i := 23) rfl))) (ty := (.array .byte)) (by decide)
  have F_coder_b24 : Fld Z h24 b24 "java/lang/String" "coder" "B" (.int (0 : Int32)) := D24 (Or.inr (hw _ (List.mem_of_getElem? (i := 24) rfl))) (ty := .byte) (by decide)
  have g_b24 : n0 ≤ b24 := Nat.le_trans (Nat.le_trans (Nat.le_trans Z0 E21.1) (Keep.of_wr W23).1) (Nat.le_of_eq g24.symm)
  have sz_b24 : h0.size ≤ b24 := Nat.le_trans K23.1 (Nat.le_of_eq g24.symm)
  have K24 : Keep h0 h24 [] := Keep.ext K23 E24
  refine own_by (T' := T24) (g' := (mkF m 33 #[.val (.int (1 : Int32)), .val (.int c0), .val (.int c1), .val (.int c2), .val (.ref b21)] [(.ref b24)])) (fun _ k => st24 _ k) ?_
  refine own_by (T' := T24) (g' := (mkF m 34 #[.val (.int (1 : Int32)), .val (.int c0), .val (.int c1), .val (.int c2), .val (.ref b21)] [(.ref b24), (.ref b24)])) (fun _ k => XS.dup X24.here hx rfl (hb hby d2_33) rfl rfl k) ?_
  refine own_by (T' := T24) (g' := (mkF m 36 #[.val (.int (1 : Int32)), .val (.int c0), .val (.int c1), .val (.int c2), .val (.ref b21)] [(.ref b21), (.ref b24), (.ref b24)])) (fun _ k => XS.aload X24.here hx rfl (hb hby d2_34) rfl rfl k) ?_
  obtain ⟨_, _, ⟨T25, L25, k25, n25⟩, -, X25, ⟨Lc25, hQ25, l25, y25, z25⟩, st25⟩ := X24.specialBack hx (y := (⟨"java/lang/String", "<init>", "([C)V"⟩ : MethodName)) rfl hown (mvT hZ (hw _ (List.mem_of_getElem? (i := 11) rfl))) (mvT hZ (hw _ (List.mem_of_getElem? (i := 12) rfl))) (mvT hZ (hw _ (List.mem_of_getElem? (i := 13) rfl))) (by decide) (backOf (W := 1) (sin1_1 l Z a0 hw [] b24 b21 k21 cs (nar .char c0) h24 n0 (Nat.le_trans (Nat.le_trans (Nat.le_trans Z0 E21.1) (Keep.of_wr W23).1) E24.1) E_b24 F_value_b24 F_coder_b24 g_b24 (Arv.ext V23 E24) (Sta.ext E24 (Sta.wr W23 (Sta.ext E21 S_CS))) hcs hc0) hZ (hw _ (List.mem_of_getElem? (i := 13) rfl)) (hw _ (List.mem_of_getElem? (i := 9) rfl)) (by decide) (by decide)) (g := (mkF m 36 #[.val (.int (1 : Int32)), .val (.int c0), .val (.int c1), .val (.int c2), .val (.ref b21)] [(.ref b21), (.ref b24), (.ref b24)])) rfl (by rw [hml]; rfl) (Steps.refl _) (a := b24) (argsL := [(.ref b21)]) (rest := [(.ref b24)]) (lenOf pd_4 rfl) rfl (by show 2 * 0 + _ ≤ _; exact Nat.le_of_eq rfl) (hb hby d2_36) (fun _ _ => ⟨rfl, e24, (by decide : ((0 + 1) + 1) + 1 ≤ _), (by decide : ((0 + 1) + 4) + 1 ≤ _)⟩)
  dsimp only [Pt.U, Pt.locs, Pt.cells, Pt.slots] at X25 l25 y25 z25 st25 hQ25
  subst l25 y25 z25
  obtain ⟨rfl, N25q, K25, Fc25, t25, kb25, zt25, Fv25, V25⟩ := hQ25
  have N25 := Fr.app N23 N25q
  have KK25 : Keep h0 T25.heap [] := Keep.trans K24 K25 (allS (Or.inr sz_b24) all0)
  have sz_t25 : h0.size ≤ t25 := Nat.le_trans K24.1 zt25
  have g_t25 : n0 ≤ t25 := Nat.le_trans Z0 sz_t25
  refine own_by (T' := T25) (g' := (mkF m 39 #[.val (.int (1 : Int32)), .val (.int c0), .val (.int c1), .val (.int c2), .val (.ref b21)] [(.ref b24)])) (fun _ k => st25.trans k) ?_
  refine own_ret X25 hlk (v := some (.ref b24)) (fun h => by rw [Bd.returns] at h; cases h) (fun fs hr => retOut X25 hx Bd.returns rfl (Or.inr (Or.inr (Or.inr (Or.inr ⟨rfl, rfl, rfl⟩)))) (hb hby d2_39) hr) ?_ (by decide) (by decide)
  exact ⟨_, _, _, rfl, N25, KK25, sz_b24, (Exa.keep E_b24 K25), Fc25, Fv25, V25⟩
theorem d2_40 : decode method_4_code 40 = .ok (.iload_n 0, 1) := by decide +kernel
theorem d2_41 : decode method_4_code 41 = .ok (.iconst 2, 1) := by decide +kernel
theorem d2_42 : decode method_4_code 42 = .ok (.if_icmp .ne 28, 3) := by decide +kernel
theorem d2_45 : decode method_4_code 45 = .ok (.iconst 2, 1) := by decide +kernel
theorem d2_46 : decode method_4_code 46 = .ok (.newarray .char, 2) := by decide +kernel
theorem d2_48 : decode method_4_code 48 = .ok (.astore 4, 2) := by decide +kernel
theorem d2_50 : decode method_4_code 50 = .ok (.aload 4, 2) := by decide +kernel
theorem d2_52 : decode method_4_code 52 = .ok (.iconst 0, 1) := by decide +kernel
theorem d2_53 : decode method_4_code 53 = .ok (.iload_n 1, 1) := by decide +kernel
theorem d2_54 : decode method_4_code 54 = .ok (.castore, 1) := by decide +kernel
theorem d2_55 : decode method_4_code 55 = .ok (.aload 4, 2) := by decide +kernel
theorem d2_57 : decode method_4_code 57 = .ok (.iconst 1, 1) := by decide +kernel
theorem d2_58 : decode method_4_code 58 = .ok (.iload_n 2, 1) := by decide +kernel
theorem d2_59 : decode method_4_code 59 = .ok (.castore, 1) := by decide +kernel
theorem d2_60 : decode method_4_code 60 = .ok (.new 39, 3) := by decide +kernel
theorem d2_63 : decode method_4_code 63 = .ok (.dup, 1) := by decide +kernel
theorem d2_64 : decode method_4_code 64 = .ok (.aload 4, 2) := by decide +kernel
theorem d2_66 : decode method_4_code 66 = .ok (.invokespecial 44, 3) := by decide +kernel
theorem d2_69 : decode method_4_code 69 = .ok (.areturn, 1) := by decide +kernel
theorem ef_make_2 (m : MethodId) (c0 : Int32) (c1 : Int32) (c2 : Int32) : entryFrame m #[(.int (2 : Int32)), (.int c0), (.int c1), (.int c2)] 5 = mkF m 0 #[.val (.int (2 : Int32)), .val (.int c0), .val (.int c1), .val (.int c2), .unset] [] := by first | (simp [entryFrame, mkF, argsToLocals, Value.category]; done) | rfl
def Q_make_2 (Z : State) (c0 : Int32) (c1 : Int32) (c2 : Int32) (cs : Int32) (h0 : Heap) (n0 : Nat) (v : Option Value) (h : Heap) (L : List Loc) : Prop := ∃ (x t : Addr) (kb : ClassId), v = some (.ref x) ∧ Fr n0 L ∧ Keep h0 h [] ∧ h0.size ≤ x ∧ Exa Z h x "java/lang/String" ∧ Fld Z h x "java/lang/String" "coder" "B" (.int (0 : Int32)) ∧ Fld Z h x "java/lang/String" "value" "[B" (.ref t) ∧ Arv Z h t kb .byte (2 : Int32) [(.int (nar .byte ((nar .char c0).toInt8.toInt32))), (.int (nar .byte ((nar .char c1).toInt8.toInt32)))] (.int (0 : Int32))
set_option maxRecDepth 65536 in
set_option maxHeartbeats 40000000 in
theorem make_2 (l : Launch) (Z : State) (a0 : Array Value) (hw : ∀ d ∈ tables_1, d.before a0 Z = true) (ws : List Jvm.Cond) (c0 : Int32) (c1 : Int32) (c2 : Int32) (cs : Int32) (h0 : Heap) (n0 : Nat) (Z0 : n0 ≤ h0.size) (S_CS : Sta Z h0 "java/lang/String" "COMPACT_STRINGS" "Z" (.int cs)) (hcs : ¬ cs = (0 : Int32)) (hc0 : ¬ (255 : Int32) < nar .char c0) (hc1 : ¬ (255 : Int32) < nar .char c1) :
    MetFree l (⟨"com/example/shelfgraph/shelfgraph/ingest/RecordPositionInputNamePinLaw", "make", "(ICCC)Ljava/lang/String;"⟩ : MethodName) (head1 (Jvm.Cond.code (⟨"com/example/shelfgraph/shelfgraph/ingest/RecordPositionInputNamePinLaw", "make", "(ICCC)Ljava/lang/String;"⟩ : MethodName) method_4_code 5 (some (.object "java/lang/String")) :: ws) ({ frames := 4, cells := 3, slots := 8, locals := 66 } : Room)) (fun zz UU => zz = #[(.int (2 : Int32)), (.int c0), (.int c1), (.int c2)] ∧ Z.Warmed39 UU.vm ∧ UU.heap = h0) (fun _ _ _ _ _ => True) (fun _ U o U' => ∃ v L, o = .returned v ∧ Q_make_2 Z c0 c1 c2 cs h0 n0 v U'.heap L ∧ FrameEnd U o U' L ({ frames := 4, cells := 3, slots := 8, locals := 66 } : Room).cells ({ frames := 4, cells := 3, slots := 8, locals := 66 } : Room).slots) := by
  refine MetFree.of_bodySF (plainFor_of_name pn_2) hisR ?_
  intro p e s m args below meth c s₁ Bd hml0 hP hK
  obtain ⟨rfl, hZ, hh⟩ := hP
  have hx := Bd.exec
  have hby := Bd.bytes
  have hml : c.maxLocals = 5 := hml0
  have hown : s.vm.findClass "com/example/shelfgraph/shelfgraph/ingest/RecordPositionInputNamePinLaw" = some m.cls := findClass_of_methodNamed Bd.named
  have hnm := (name_of_methodNamed Bd.named Bd.method).1
  have hlk : meth.locks = false := BodyLoose.notSynchronized Bd
  have X0 : Stand p l e ({ frames := 4, cells := 3, slots := 8, locals := 66 } : Room) s m #[(.int (2 : Int32)), (.int c0), (.int c1), (.int c2)] below meth c s₁ [] 0 0 := Stand.of_body Bd
  have e0 : s₁.heap = h0 := by rw [← hh, Bd.state]; rfl
  have N0 := Fr.nil n0
  show own_Go p.tables e below (Q_make_2 Z c0 c1 c2 cs h0 n0) s ({ frames := 4, cells := 3, slots := 8, locals := 66 } : Room).cells ({ frames := 4, cells := 3, slots := 8, locals := 66 } : Room).slots s₁ (entryFrame m #[(.int (2 : Int32)), (.int c0), (.int c1), (.int c2)] 5)
  rw [ef_make_2 m c0 c1 c2]
  refine own_by (T' := s₁) (g' := (mkF m 1 #[.val (.int (2 : Int32)), .val (.int c0), .val (.int c1), .val (.int c2), .unset] [(.int (2 : Int32))])) (fun _ k => XS.iloadN X0.here hx rfl (hb hby d2_0) rfl k) ?_
  refine own_by (T' := s₁) (g' := (mkF m 15 #[.val (.int (2 : Int32)), .val (.int c0), .val (.int c1), .val (.int c2), .unset] [])) (fun _ k => XS.ifYes X0.here hx rfl (pc0 := 1) (pc' := 15) rfl (hb hby d2_1) rfl ((if0 _ _).trans (feq (by decide)).2) (by decide) (by decide) k) ?_
  refine own_by (T' := s₁) (g' := (mkF m 16 #[.val (.int (2 : Int32)), .val (.int c0), .val (.int c1), .val (.int c2), .unset] [(.int (2 : Int32))])) (fun _ k => XS.iloadN X0.here hx rfl (hb hby d2_15) rfl k) ?_
  refine own_by (T' := s₁) (g' := (mkF m 17 #[.val (.int (2 : Int32)), .val (.int c0), .val (.int c1), .val (.int c2), .unset] [(.int (1 : Int32)), (.int (2 : Int32))])) (fun _ k => XS.iconst X0.here hx rfl (hb hby d2_16) k) ?_
  refine own_by (T' := s₁) (g' := (mkF m 40 #[.val (.int (2 : Int32)), .val (.int c0), .val (.int c1), .val (.int c2), .unset] [])) (fun _ k => XS.icmpYes X0.here hx rfl (pc0 := 17) (pc' := 40) rfl (hb hby d2_17) rfl (feq (by decide)).2 (by decide) (by decide) k) ?_
  refine own_by (T' := s₁) (g' := (mkF m 41 #[.val (.int (2 : Int32)), .val (.int c0), .val (.int c1), .val (.int c2), .unset] [(.int (2 : Int32))])) (fun _ k => XS.iloadN X0.here hx rfl (hb hby d2_40) rfl k) ?_
  refine own_by (T' := s₁) (g' := (mkF m 42 #[.val (.int (2 : Int32)), .val (.int c0), .val (.int c1), .val (.int c2), .unset] [(.int (2 : Int32)), (.int (2 : Int32))])) (fun _ k => XS.iconst X0.here hx rfl (hb hby d2_41) k) ?_
  refine own_by (T' := s₁) (g' := (mkF m 45 #[.val (.int (2 : Int32)), .val (.int c0), .val (.int c1), .val (.int c2), .unset] [])) (fun _ k => XS.icmpNo X0.here hx rfl (hb hby d2_42) rfl (teq (by decide)).2 k) ?_
  refine own_by (T' := s₁) (g' := (mkF m 46 #[.val (.int (2 : Int32)), .val (.int c0), .val (.int c1), .val (.int c2), .unset] [(.int (2 : Int32))])) (fun _ k => XS.iconst X0.here hx rfl (hb hby d2_45) k) ?_
  obtain ⟨T21, h21, k21, X21, e21, E21, A21, st21⟩ := newP X0 hx hZ (hw _ (List.mem_of_getElem? (i := 10) rfl)) e0 (g := (mkF m 46 #[.val (.int (2 : Int32)), .val (.int c0), .val (.int c1), .val (.int c2), .unset] [(.int (2 : Int32))])) rfl (hb hby d2_46) rfl (by decide) (cap := 2) (by decide) (by decide) (by decide) (by decide)
  obtain ⟨b21, g21⟩ : ∃ z, z = h0.size := ⟨_, rfl⟩
  rw [← g21] at A21 st21
  have V_b21 : Arv Z h21 b21 k21 .char (2 : Int32) [(.int (0 : Int32)), (.int (0 : Int32))] (.int (0 : Int32)) := (Arv.new A21 (by decide)).pad (pad_rep [] (.int (0 : Int32)) 2)
  have g_b21 : n0 ≤ b21 := Nat.le_trans Z0 (Nat.le_of_eq g21.symm)
  have sz_b21 : h0.size ≤ b21 := Nat.le_trans (Keep.refl h0 []).1 (Nat.le_of_eq g21.symm)
  have K21 : Keep h0 h21 [] := Keep.ext (Keep.refl h0 []) E21
  refine own_by (T' := T21) (g' := (mkF m 48 #[.val (.int (2 : Int32)), .val (.int c0), .val (.int c1), .val (.int c2), .unset] [(.ref b21)])) (fun _ k => st21 _ k) ?_
  refine own_by (T' := T21) (g' := (mkF m 50 #[.val (.int (2 : Int32)), .val (.int c0), .val (.int c1), .val (.int c2), .val (.ref b21)] [])) (fun _ k => XS.astore X21.here hx rfl (hb hby d2_48) rfl rfl (l' := #[.val (.int (2 : Int32)), .val (.int c0), .val (.int c1), .val (.int c2), .val (.ref b21)]) rfl k) ?_
  refine own_by (T' := T21) (g' := (mkF m 52 #[.val (.int (2 : Int32)), .val (.int c0), .val (.int c1), .val (.int c2), .val (.ref b21)] [(.ref b21)])) (fun _ k => XS.aload X21.here hx rfl (hb hby d2_50) rfl rfl k) ?_
  refine own_by (T' := T21) (g' := (mkF m 53 #[.val (.int (2 : Int32)), .val (.int c0), .val (.int c1), .val (.int c2), .val (.ref b21)] [(.int (0 : Int32)), (.ref b21)])) (fun _ k => XS.iconst X21.here hx rfl (hb hby d2_52) k) ?_
  refine own_by (T' := T21) (g' := (mkF m 54 #[.val (.int (2 : Int32)), .val (.int c0), .val (.int c1), .val (.int c2), .val (.ref b21)] [(.int c0), (.int (0 : Int32)), (.ref b21)])) (fun _ k => XS.iloadN X21.here hx rfl (hb hby d2_53) rfl k) ?_
  obtain ⟨cl22, Ar22, q22, S22, N_22, H22, G22⟩ := id V_b21
  have hin22 : ¬ ((0 : Int32) < 0 ∨ cl22.slots.size ≤ ((0 : Int32)).toNatClampNeg) := inb_of S22 ⟨by decide, by decide⟩
  obtain ⟨T23, h23, X23, e23, W23, st23⟩ := stC X21 hx hZ e21 Ar22 (j := (0 : Int32)) hin22 (g := (mkF m 54 #[.val (.int (2 : Int32)), .val (.int c0), .val (.int c1), .val (.int c2), .val (.ref b21)] [(.int c0), (.int (0 : Int32)), (.ref b21)])) rfl rfl (hb hby d2_54)
  have V23 : Arv Z h23 b21 k21 .char (2 : Int32) [(.int (nar .char c0)), (.int (0 : Int32))] (.int (0 : Int32)) := Arv.set Ar22 q22 S22 N_22 H22 G22 (fits_nar_char _) W23 0 rfl (Nat.le_of_ble_eq_true rfl)
  have K23 : Keep h0 h23 [] := Keep.wr K21 W23 (Or.inr sz_b21)
  have N23 := Fr.snoc X23 N0 g_b21
  refine own_by (T' := T23) (g' := (mkF m 55 #[.val (.int (2 : Int32)), .val (.int c0), .val (.int c1), .val (.int c2), .val (.ref b21)] [])) (fun _ k => st23 _ k) ?_
  refine own_by (T' := T23) (g' := (mkF m 57 #[.val (.int (2 : Int32)), .val (.int c0), .val (.int c1), .val (.int c2), .val (.ref b21)] [(.ref b21)])) (fun _ k => XS.aload X23.here hx rfl (hb hby d2_55) rfl rfl k) ?_
  refine own_by (T' := T23) (g' := (mkF m 58 #[.val (.int (2 : Int32)), .val (.int c0), .val (.int c1), .val (.int c2), .val (.ref b21)] [(.int (1 : Int32)), (.ref b21)])) (fun _ k => XS.iconst X23.here hx rfl (hb hby d2_57) k) ?_
  refine own_by (T' := T23) (g' := (mkF m 59 #[.val (.int (2 : Int32)), .val (.int c0), .val (.int c1), .val (.int c2), .val (.ref b21)] [(.int c1), (.int (1 : Int32)), (.ref b21)])) (fun _ k => XS.iloadN X23.here hx rfl (hb hby d2_58) rfl k) ?_
  obtain ⟨cl24, Ar24, q24, S24, N_24, H24, G24⟩ := id V23
  have hin24 : ¬ ((1 : Int32) < 0 ∨ cl24.slots.size ≤ ((1 : Int32)).toNatClampNeg) := inb_of S24 ⟨by decide, by decide⟩
  obtain ⟨T25, h25, X25, e25, W25, st25⟩ := stC X23 hx hZ e23 Ar24 (j := (1 : Int32)) hin24 (g := (mkF m 59 #[.val (.int (2 : Int32)), .val (.int c0), .val (.int c1), .val (.int c2), .val (.ref b21)] [(.int c1), (.int (1 : Int32)), (.ref b21)])) rfl rfl (hb hby d2_59)
  have V25 : Arv Z h25 b21 k21 .char (2 : Int32) [(.int (nar .char c0)), (.int (nar .char c1))] (.int (0 : Int32)) := Arv.set Ar24 q24 S24 N_24 H24 G24 (fits_nar_char _) W25 1 rfl (Nat.le_of_ble_eq_true rfl)
  have K25 : Keep h0 h25 [] := Keep.wr K23 W25 (Or.inr sz_b21)
  have N25 := Fr.snoc X25 N23 g_b21
  refine own_by (T' := T25) (g' := (mkF m 60 #[.val (.int (2 : Int32)), .val (.int c0), .val (.int c1), .val (.int c2), .val (.ref b21)] [])) (fun _ k => st25 _ k) ?_
  obtain ⟨T26, h26, X26, e26, E26, A26, D26, -, st26⟩ := newO X25 hx hZ hown (hw _ (List.mem_of_getElem? (i := 7) rfl)) (hw _ (List.mem_of_getElem? (i := 8) rfl)) (hw _ (List.mem_of_getElem? (i := 9) rfl)) e25 (g := (mkF m 60 #[.val (.int (2 : Int32)), .val (.int c0), .val (.int c1), .val (.int c2), .val (.ref b21)] [])) rfl (hb hby d2_60) (by decide) (by decide)
  obtain ⟨b26, g26⟩ : ∃ z, z = h25.size := ⟨_, rfl⟩
  rw [← g26] at A26 D26 st26
  have E_b26 : Exa Z h26 b26 "java/lang/String" := A26
  have F_value_b26 : Fld Z h26 b26 "java/lang/String" "value" "[B" .null := D26 (Or.inr (hw _ (List.mem_of_getElem? (i := 23) rfl))) (ty := (.array .byte)) (by decide)
  have F_coder_b26 : Fld Z h26 b26 "java/lang/String" "coder" "B" (.int (0 : Int32)) := D26 (Or.inr (hw _ (List.mem_of_getElem? (i := 24) rfl))) (ty := .byte) (by decide)
  have g_b26 : n0 ≤ b26 := Nat.le_trans (Nat.le_trans (Nat.le_trans (Nat.le_trans Z0 E21.1) (Keep.of_wr W23).1) (Keep.of_wr W25).1) (Nat.le_of_eq g26.symm)
  have sz_b26 : h0.size ≤ b26 := Nat.le_trans K25.1 (Nat.le_of_eq g26.symm)
  have K26 : Keep h0 h26 [] := Keep.ext K25 E26
  refine own_by (T' := T26) (g' := (mkF m 63 #[.val (.int (2 : Int32)), .val (.int c0), .val (.int c1), .val (.int c2), .val (.ref b21)] [(.ref b26)])) (fun _ k => st26 _ k) ?_
  refine own_by (T' := T26) (g' := (mkF m 64 #[.val (.int (2 : Int32)), .val (.int c0), .val (.int c1), .val (.int c2), .val (.ref b21)] [(.ref b26), (.ref b26)])) (fun _ k => XS.dup X26.here hx rfl (hb hby d2_63) rfl rfl k) ?_
  refine own_by (T' := T26) (g' := (mkF m 66 #[.val (.int (2 : Int32)), .val (.int c0), .val (.int c1), .val (.int c2), .val (.ref b21)] [(.ref b21), (.ref b26), (.ref b26)])) (fun _ k => XS.aload X26.here hx rfl (hb hby d2_64) rfl rfl k) ?_
  obtain ⟨_, _, ⟨T27, L27, k27, n27⟩, -, X27, ⟨Lc27, hQ27, l27, y27, z27⟩, st27⟩ := X26.specialBack hx (y := (⟨"java/lang/String", "<init>", "([C)V"⟩ : MethodName)) rfl hown (mvT hZ (hw _ (List.mem_of_getElem? (i := 11) rfl))) (mvT hZ (hw _ (List.mem_of_getElem? (i := 12) rfl))) (mvT hZ (hw _ (List.mem_of_getElem? (i := 13) rfl))) (by decide) (backOf (W := 1) (sin1_2 l Z a0 hw [] b26 b21 k21 cs (nar .char c0) (nar .char c1) h26 n0 (Nat.le_trans (Nat.le_trans (Nat.le_trans (Nat.le_trans Z0 E21.1) (Keep.of_wr W23).1) (Keep.of_wr W25).1) E26.1) E_b26 F_value_b26 F_coder_b26 g_b26 (Arv.ext V25 E26) (Sta.ext E26 (Sta.wr W25 (Sta.wr W23 (Sta.ext E21 S_CS)))) hcs hc0 hc1) hZ (hw _ (List.mem_of_getElem? (i := 13) rfl)) (hw _ (List.mem_of_getElem? (i := 9) rfl)) (by decide) (by decide)) (g := (mkF m 66 #[.val (.int (2 : Int32)), .val (.int c0), .val (.int c1), .val (.int c2), .val (.ref b21)] [(.ref b21), (.ref b26), (.ref b26)])) rfl (by rw [hml]; rfl) (Steps.refl _) (a := b26) (argsL := [(.ref b21)]) (rest := [(.ref b26)]) (lenOf pd_4 rfl) rfl (by show 2 * 0 + _ ≤ _; exact Nat.le_of_eq rfl) (hb hby d2_66) (fun _ _ => ⟨rfl, e26, (by decide : ((0 + 1) + 1) + 1 ≤ _), (by decide : ((0 + 2) + 4) + 2 ≤ _)⟩)
  dsimp only [Pt.U, Pt.locs, Pt.cells, Pt.slots] at X27 l27 y27 z27 st27 hQ27
  subst l27 y27 z27
  obtain ⟨rfl, N27q, K27, Fc27, t27, kb27, zt27, Fv27, V27⟩ := hQ27
  have N27 := Fr.app N25 N27q
  have KK27 : Keep h0 T27.heap [] := Keep.trans K26 K27 (allS (Or.inr sz_b26) all0)
  have sz_t27 : h0.size ≤ t27 := Nat.le_trans K26.1 zt27
  have g_t27 : n0 ≤ t27 := Nat.le_trans Z0 sz_t27
  refine own_by (T' := T27) (g' := (mkF m 69 #[.val (.int (2 : Int32)), .val (.int c0), .val (.int c1), .val (.int c2), .val (.ref b21)] [(.ref b26)])) (fun _ k => st27.trans k) ?_
  refine own_ret X27 hlk (v := some (.ref b26)) (fun h => by rw [Bd.returns] at h; cases h) (fun fs hr => retOut X27 hx Bd.returns rfl (Or.inr (Or.inr (Or.inr (Or.inr ⟨rfl, rfl, rfl⟩)))) (hb hby d2_69) hr) ?_ (by decide) (by decide)
  exact ⟨_, _, _, rfl, N27, KK27, sz_b26, (Exa.keep E_b26 K27), Fc27, Fv27, V27⟩
theorem d2_70 : decode method_4_code 70 = .ok (.iconst 3, 1) := by decide +kernel
theorem d2_71 : decode method_4_code 71 = .ok (.newarray .char, 2) := by decide +kernel
theorem d2_73 : decode method_4_code 73 = .ok (.astore 4, 2) := by decide +kernel
theorem d2_75 : decode method_4_code 75 = .ok (.aload 4, 2) := by decide +kernel
theorem d2_77 : decode method_4_code 77 = .ok (.iconst 0, 1) := by decide +kernel
theorem d2_78 : decode method_4_code 78 = .ok (.iload_n 1, 1) := by decide +kernel
theorem d2_79 : decode method_4_code 79 = .ok (.castore, 1) := by decide +kernel
theorem d2_80 : decode method_4_code 80 = .ok (.aload 4, 2) := by decide +kernel
theorem d2_82 : decode method_4_code 82 = .ok (.iconst 1, 1) := by decide +kernel
theorem d2_83 : decode method_4_code 83 = .ok (.iload_n 2, 1) := by decide +kernel
theorem d2_84 : decode method_4_code 84 = .ok (.castore, 1) := by decide +kernel
theorem d2_85 : decode method_4_code 85 = .ok (.aload 4, 2) := by decide +kernel
theorem d2_87 : decode method_4_code 87 = .ok (.iconst 2, 1) := by decide +kernel
theorem d2_88 : decode method_4_code 88 = .ok (.iload_n 3, 1) := by decide +kernel
theorem d2_89 : decode method_4_code 89 = .ok (.castore, 1) := by decide +kernel
theorem d2_90 : decode method_4_code 90 = .ok (.new 39, 3) := by decide +kernel
theorem d2_93 : decode method_4_code 93 = .ok (.dup, 1) := by decide +kernel
theorem d2_94 : decode method_4_code 94 = .ok (.aload 4, 2) := by decide +kernel
theorem d2_96 : decode method_4_code 96 = .ok (.invokespecial 44, 3) := by decide +kernel
theorem d2_99 : decode method_4_code 99 = .ok (.areturn, 1) := by decide +kernel
theorem ef_make_3 (m : MethodId) (c0 : Int32) (c1 : Int32) (c2 : Int32) : entryFrame m #[(.int (3 : Int32)), (.int c0), (.int c1), (.int c2)] 5 = mkF m 0 #[.val (.int (3 : Int32)), .val (.int c0), .val (.int c1), .val (.int c2), .unset] [] := by first | (simp [entryFrame, mkF, argsToLocals, Value.category]; done) | rfl
def Q_make_3 (Z : State) (c0 : Int32) (c1 : Int32) (c2 : Int32) (cs : Int32) (h0 : Heap) (n0 : Nat) (v : Option Value) (h : Heap) (L : List Loc) : Prop := ∃ (x t : Addr) (kb : ClassId), v = some (.ref x) ∧ Fr n0 L ∧ Keep h0 h [] ∧ h0.size ≤ x ∧ Exa Z h x "java/lang/String" ∧ Fld Z h x "java/lang/String" "coder" "B" (.int (0 : Int32)) ∧ Fld Z h x "java/lang/String" "value" "[B" (.ref t) ∧ Arv Z h t kb .byte (3 : Int32) [(.int (nar .byte ((nar .char c0).toInt8.toInt32))), (.int (nar .byte ((nar .char c1).toInt8.toInt32))), (.int (nar .byte ((nar .char c2).toInt8.toInt32)))] (.int (0 : Int32))
set_option maxRecDepth 65536 in
set_option maxHeartbeats 40000000 in
theorem make_3 (l : Launch) (Z : State) (a0 : Array Value) (hw : ∀ d ∈ tables_1, d.before a0 Z = true) (ws : List Jvm.Cond) (c0 : Int32) (c1 : Int32) (c2 : Int32) (cs : Int32) (h0 : Heap) (n0 : Nat) (Z0 : n0 ≤ h0.size) (S_CS : Sta Z h0 "java/lang/String" "COMPACT_STRINGS" "Z" (.int cs)) (hcs : ¬ cs = (0 : Int32)) (hc0 : ¬ (255 : Int32) < nar .char c0) (hc1 : ¬ (255 : Int32) < nar .char c1) (hc2 : ¬ (255 : Int32) < nar .char c2) :
    MetFree l (⟨"com/example/shelfgraph/shelfgraph/ingest/RecordPositionInputNamePinLaw", "make", "(ICCC)Ljava/lang/String;"⟩ : MethodName) (head1 (Jvm.Cond.code (⟨"com/example/shelfgraph/shelfgraph/ingest/RecordPositionInputNamePinLaw", "make", "(ICCC)Ljava/lang/String;"⟩ : MethodName) method_4_code 5 (some (.object "java/lang/String")) :: ws) ({ frames := 4, cells := 3, slots := 10, locals := 66 } : Room)) (fun zz UU => zz = #[(.int (3 : Int32)), (.int c0), (.int c1), (.int c2)] ∧ Z.Warmed39 UU.vm ∧ UU.heap = h0) (fun _ _ _ _ _ => True) (fun _ U o U' => ∃ v L, o = .returned v ∧ Q_make_3 Z c0 c1 c2 cs h0 n0 v U'.heap L ∧ FrameEnd U o U' L ({ frames := 4, cells := 3, slots := 10, locals := 66 } : Room).cells ({ frames := 4, cells := 3, slots := 10, locals := 66 } : Room).slots) := by
  refine MetFree.of_bodySF (plainFor_of_name pn_2) hisR ?_
  intro p e s m args below meth c s₁ Bd hml0 hP hK
  obtain ⟨rfl, hZ, hh⟩ := hP
  have hx := Bd.exec
  have hby := Bd.bytes
  have hml : c.maxLocals = 5 := hml0
  have hown : s.vm.findClass "com/example/shelfgraph/shelfgraph/ingest/RecordPositionInputNamePinLaw" = some m.cls := findClass_of_methodNamed Bd.named
  have hnm := (name_of_methodNamed Bd.named Bd.method).1
  have hlk : meth.locks = false := BodyLoose.notSynchronized Bd
  have X0 : Stand p l e ({ frames := 4, cells := 3, slots := 10, locals := 66 } : Room) s m #[(.int (3 : Int32)), (.int c0), (.int c1), (.int c2)] below meth c s₁ [] 0 0 := Stand.of_body Bd
  have e0 : s₁.heap = h0 := by rw [← hh, Bd.state]; rfl
  have N0 := Fr.nil n0
  show own_Go p.tables e below (Q_make_3 Z c0 c1 c2 cs h0 n0) s ({ frames := 4, cells := 3, slots := 10, locals := 66 } : Room).cells ({ frames := 4, cells := 3, slots := 10, locals := 66 } : Room).slots s₁ (entryFrame m #[(.int (3 : Int32)), (.int c0), (.int c1), (.int c2)] 5)
  rw [ef_make_3 m c0 c1 c2]
  refine own_by (T' := s₁) (g' := (mkF m 1 #[.val (.int (3 : Int32)), .val (.int c0), .val (.int c1), .val (.int c2), .unset] [(.int (3 : Int32))])) (fun _ k => XS.iloadN X0.here hx rfl (hb hby d2_0) rfl k) ?_
  refine own_by (T' := s₁) (g' := (mkF m 15 #[.val (.int (3 : Int32)), .val (.int c0), .val (.int c1), .val (.int c2), .unset] [])) (fun _ k => XS.ifYes X0.here hx rfl (pc0 := 1) (pc' := 15) rfl (hb hby d2_1) rfl ((if0 _ _).trans (feq (by decide)).2) (by decide) (by decide) k) ?_
  refine own_by (T' := s₁) (g' := (mkF m 16 #[.val (.int (3 : Int32)), .val (.int c0), .val (.int c1), .val (.int c2), .unset] [(.int (3 : Int32))])) (fun _ k => XS.iloadN X0.here hx rfl (hb hby d2_15) rfl k) ?_
  refine own_by (T' := s₁) (g' := (mkF m 17 #[.val (.int (3 : Int32)), .val (.int c0), .val (.int c1), .val (.int c2), .unset] [(.int (1 : Int32)), (.int (3 : Int32))])) (fun _ k => XS.iconst X0.here hx rfl (hb hby d2_16) k) ?_
  refine own_by (T' := s₁) (g' := (mkF m 40 #[.val (.int (3 : Int32)), .val (.int c0), .val (.int c1), .val (.int c2), .unset] [])) (fun _ k => XS.icmpYes X0.here hx rfl (pc0 := 17) (pc' := 40) rfl (hb hby d2_17) rfl (feq (by decide)).2 (by decide) (by decide) k) ?_
  refine own_by (T' := s₁) (g' := (mkF m 41 #[.val (.int (3 : Int32)), .val (.int c0), .val (.int c1), .val (.int c2), .unset] [(.int (3 : Int32))])) (fun _ k => XS.iloadN X0.here hx rfl (hb hby d2_40) rfl k) ?_
  refine own_by (T' := s₁) (g' := (mkF m 42 #[.val (.int (3 : Int32)), .val (.int c0), .val (.int c1), .val (.int c2), .unset] [(.int (2 : Int32)), (.int (3 : Int32))])) (fun _ k => XS.iconst X0.here hx rfl (hb hby d2_41) k) ?_
  refine own_by (T' := s₁) (g' := (mkF m 70 #[.val (.int (3 : Int32)), .val (.int c0), .val (.int c1), .val (.int c2), .unset] [])) (fun _ k => XS.icmpYes X0.here hx rfl (pc0 := 42) (pc' := 70) rfl (hb hby d2_42) rfl (feq (by decide)).2 (by decide) (by decide) k) ?_
  refine own_by (T' := s₁) (g' := (mkF m 71 #[.val (.int (3 : Int32)), .val (.int c0), .val (.int c1), .val (.int c2), .unset] [(.int (3 : Int32))])) (fun _ k => XS.iconst X0.here hx rfl (hb hby d2_70) k) ?_
  obtain ⟨T21, h21, k21, X21, e21, E21, A21, st21⟩ := newP X0 hx hZ (hw _ (List.mem_of_getElem? (i := 10) rfl)) e0 (g := (mkF m 71 #[.val (.int (3 : Int32)), .val (.int c0), .val (.int c1), .val (.int c2), .unset] [(.int (3 : Int32))])) rfl (hb hby d2_71) rfl (by decide) (cap := 3) (by decide) (by decide) (by decide) (by decide)
  obtain ⟨b21, g21⟩ : ∃ z, z = h0.size := ⟨_, rfl⟩
  rw [← g21] at A21 st21
  have V_b21 : Arv Z h21 b21 k21 .char (3 : Int32) [(.int (0 : Int32)), (.int (0 : Int32)), (.int (0 : Int32))] (.int (0 : Int32)) := (Arv.new A21 (by decide)).pad (pad_rep [] (.int (0 : Int32)) 3)
  have g_b21 : n0 ≤ b21 := Nat.le_trans Z0 (Nat.le_of_eq g21.symm)
  have sz_b21 : h0.size ≤ b21 := Nat.le_trans (Keep.refl h0 []).1 (Nat.le_of_eq g21.symm)
  have K21 : Keep h0 h21 [] := Keep.ext (Keep.refl h0 []) E21
  refine own_by (T' := T21) (g' := (mkF m 73 #[.val (.int (3 : Int32)), .val (.int c0), .val (.int c1), .val (.int c2), .unset] [(.ref b21)])) (fun _ k => st21 _ k) ?_
  refine own_by (T' := T21) (g' := (mkF m 75 #[.val (.int (3 : Int32)), .val (.int c0), .val (.int c1), .val (.int c2), .val (.ref b21)] [])) (fun _ k => XS.astore X21.here hx rfl (hb hby d2_73) rfl rfl (l' := #[.val (.int (3 : Int32)), .val (.int c0), .val (.int c1), .val (.int c2), .val (.ref b21)]) rfl k) ?_
  refine own_by (T' := T21) (g' := (mkF m 77 #[.val (.int (3 : Int32)), .val (.int c0), .val (.int c1), .val (.int c2), .val (.ref b21)] [(.ref b21)])) (fun _ k => XS.aload X21.here hx rfl (hb hby d2_75) rfl rfl k) ?_
  refine own_by (T' := T21) (g' := (mkF m 78 #[.val (.int (3 : Int32)), .val (.int c0), .val (.int c1), .val (.int c2), .val (.ref b21)] [(.int (0 : Int32)), (.ref b21)])) (fun _ k => XS.iconst X21.here hx rfl (hb hby d2_77) k) ?_
  refine own_by (T' := T21) (g' := (mkF m 79 #[.val (.int (3 : Int32)), .val (.int c0), .val (.int c1), .val (.int c2), .val (.ref b21)] [(.int c0), (.int (0 : Int32)), (.ref b21)])) (fun _ k => XS.iloadN X21.here hx rfl (hb hby d2_78) rfl k) ?_
  obtain ⟨cl22, Ar22, q22, S22, N_22, H22, G22⟩ := id V_b21
  have hin22 : ¬ ((0 : Int32) < 0 ∨ cl22.slots.size ≤ ((0 : Int32)).toNatClampNeg) := inb_of S22 ⟨by decide, by decide⟩
  obtain ⟨T23, h23, X23, e23, W23, st23⟩ := stC X21 hx hZ e21 Ar22 (j := (0 : Int32)) hin22 (g := (mkF m 79 #[.val (.int (3 : Int32)), .val (.int c0), .val (.int c1), .val (.int c2), .val (.ref b21)] [(.int c0), (.int (0 : Int32)), (.ref b21)])) rfl rfl (hb hby d2_79)
  have V23 : Arv Z h23 b21 k21 .char (3 : Int32) [(.int (nar .char c0)), (.int (0 : Int32)), (.int (0 : Int32))] (.int (0 : Int32)) := Arv.set Ar22 q22 S22 N_22 H22 G22 (fits_nar_char _) W23 0 rfl (Nat.le_of_ble_eq_true rfl)
  have K23 : Keep h0 h23 [] := Keep.wr K21 W23 (Or.inr sz_b21)
  have N23 := Fr.snoc X23 N0 g_b21
  refine own_by (T' := T23) (g' := (mkF m 80 #[.val (.int (3 : Int32)), .val (.int c0), .val (.int c1), .val (.int c2), .val (.ref b21)] [])) (fun _ k => st23 _ k) ?_
  refine own_by (T' := T23) (g' := (mkF m 82 #[.val (.int (3 : Int32)), .val (.int c0), .val (.int c1), .val (.int c2), .val (.ref b21)] [(.ref b21)])) (fun _ k => XS.aload X23.here hx rfl (hb hby d2_80) rfl rfl k) ?_
  refine own_by (T' := T23) (g' := (mkF m 83 #[.val (.int (3 : Int32)), .val (.int c0), .val (.int c1), .val (.int c2), .val (.ref b21)] [(.int (1 : Int32)), (.ref b21)])) (fun _ k => XS.iconst X23.here hx rfl (hb hby d2_82) k) ?_
  refine own_by (T' := T23) (g' := (mkF m 84 #[.val (.int (3 : Int32)), .val (.int c0), .val (.int c1), .val (.int c2), .val (.ref b21)] [(.int c1), (.int (1 : Int32)), (.ref b21)])) (fun _ k => XS.iloadN X23.here hx rfl (hb hby d2_83) rfl k) ?_
  obtain ⟨cl24, Ar24, q24, S24, N_24, H24, G24⟩ := id V23
  have hin24 : ¬ ((1 : Int32) < 0 ∨ cl24.slots.size ≤ ((1 : Int32)).toNatClampNeg) := inb_of S24 ⟨by decide, by decide⟩
  obtain ⟨T25, h25, X25, e25, W25, st25⟩ := stC X23 hx hZ e23 Ar24 (j := (1 : Int32)) hin24 (g := (mkF m 84 #[.val (.int (3 : Int32)), .val (.int c0), .val (.int c1), .val (.int c2), .val (.ref b21)] [(.int c1), (.int (1 : Int32)), (.ref b21)])) rfl rfl (hb hby d2_84)
  have V25 : Arv Z h25 b21 k21 .char (3 : Int32) [(.int (nar .char c0)), (.int (nar .char c1)), (.int (0 : Int32))] (.int (0 : Int32)) := Arv.set Ar24 q24 S24 N_24 H24 G24 (fits_nar_char _) W25 1 rfl (Nat.le_of_ble_eq_true rfl)
  have K25 : Keep h0 h25 [] := Keep.wr K23 W25 (Or.inr sz_b21)
  have N25 := Fr.snoc X25 N23 g_b21
  refine own_by (T' := T25) (g' := (mkF m 85 #[.val (.int (3 : Int32)), .val (.int c0), .val (.int c1), .val (.int c2), .val (.ref b21)] [])) (fun _ k => st25 _ k) ?_
  refine own_by (T' := T25) (g' := (mkF m 87 #[.val (.int (3 : Int32)), .val (.int c0), .val (.int c1), .val (.int c2), .val (.ref b21)] [(.ref b21)])) (fun _ k => XS.aload X25.here hx rfl (hb hby d2_85) rfl rfl k) ?_
  refine own_by (T' := T25) (g' := (mkF m 88 #[.val (.int (3 : Int32)), .val (.int c0), .val (.int c1), .val (.int c2), .val (.ref b21)] [(.int (2 : Int32)), (.ref b21)])) (fun _ k => XS.iconst X25.here hx rfl (hb hby d2_87) k) ?_
  refine own_by (T' := T25) (g' := (mkF m 89 #[.val (.int (3 : Int32)), .val (.int c0), .val (.int c1), .val (.int c2), .val (.ref b21)] [(.int c2), (.int (2 : Int32)), (.ref b21)])) (fun _ k => XS.iloadN X25.here hx rfl (hb hby d2_88) rfl k) ?_
  obtain ⟨cl26, Ar26, q26, S26, N_26, H26, G26⟩ := id V25
  have hin26 : ¬ ((2 : Int32) < 0 ∨ cl26.slots.size ≤ ((2 : Int32)).toNatClampNeg) := inb_of S26 ⟨by decide, by decide⟩
  obtain ⟨T27, h27, X27, e27, W27, st27⟩ := stC X25 hx hZ e25 Ar26 (j := (2 : Int32)) hin26 (g := (mkF m 89 #[.val (.int (3 : Int32)), .val (.int c0), .val (.int c1), .val (.int c2), .val (.ref b21)] [(.int c2), (.int (2 : Int32)), (.ref b21)])) rfl rfl (hb hby d2_89)
  have V27 : Arv Z h27 b21 k21 .char (3 : Int32) [(.int (nar .char c0)), (.int (nar .char c1)), (.int (nar .char c2))] (.int (0 : Int32)) := Arv.set Ar26 q26 S26 N_26 H26 G26 (fits_nar_char _) W27 2 rfl (Nat.le_of_ble_eq_true rfl)
  have K27 : Keep h0 h27 [] := Keep.wr K25 W27 (Or.inr sz_b21)
  have N27 := Fr.snoc X27 N25 g_b21
  refine own_by (T' := T27) (g' := (mkF m 90 #[.val (.int (3 : Int32)), .val (.int c0), .val (.int c1), .val (.int c2), .val (.ref b21)] [])) (fun _ k => st27 _ k) ?_
  obtain ⟨T28, h28, X28, e28, E28, A28, D28, -, st28⟩ := newO X27 hx hZ hown (hw _ (List.mem_of_getElem? (i := 7) rfl)) (hw _ (List.mem_of_getElem? (i := 8) rfl)) (hw _ (List.mem_of_getElem? (i := 9) rfl)) e27 (g := (mkF m 90 #[.val (.int (3 : Int32)), .val (.int c0), .val (.int c1), .val (.int c2), .val (.ref b21)] [])) rfl (hb hby d2_90) (by decide) (by decide)
  obtain ⟨b28, g28⟩ : ∃ z, z = h27.size := ⟨_, rfl⟩
  rw [← g28] at A28 D28 st28
  have E_b28 : Exa Z h28 b28 "java/lang/String" := A28
  have F_value_b28 : Fld Z h28 b28 "java/lang/String" "value" "[B" .null := D28 (Or.inr (hw _ (List.mem_of_getElem? (i := 23) rfl))) (ty := (.array .byte)) (by decide)
  have F_coder_b28 : Fld Z h28 b28 "java/lang/String" "coder" "B" (.int (0 : Int32)) := D28 (Or.inr (hw _ (List.mem_of_getElem? (i := 24) rfl))) (ty := .byte) (by decide)
  have g_b28 : n0 ≤ b28 := Nat.le_trans (Nat.le_trans (Nat.le_trans (Nat.le_trans (Nat.le_trans Z0 E21.1) (Keep.of_wr W23).1) (Keep.of_wr W25).1) (Keep.of_wr W27).1) (Nat.le_of_eq g28.symm)
  have sz_b28 : h0.size ≤ b28 := Nat.le_trans K27.1 (Nat.le_of_eq g28.symm)
  have K28 : Keep h0 h28 [] := Keep.ext K27 E28
  refine own_by (T' := T28) (g' := (mkF m 93 #[.val (.int (3 : Int32)), .val (.int c0), .val (.int c1), .val (.int c2), .val (.ref b21)] [(.ref b28)])) (fun _ k => st28 _ k) ?_
  refine own_by (T' := T28) (g' := (mkF m 94 #[.val (.int (3 : Int32)), .val (.int c0), .val (.int c1), .val (.int c2), .val (.ref b21)] [(.ref b28), (.ref b28)])) (fun _ k => XS.dup X28.here hx rfl (hb hby d2_93) rfl rfl k) ?_
  refine own_by (T' := T28) (g' := (mkF m 96 #[.val (.int (3 : Int32)), .val (.int c0), .val (.int c1), .val (.int c2), .val (.ref b21)] [(.ref b21), (.ref b28), (.ref b28)])) (fun _ k => XS.aload X28.here hx rfl (hb hby d2_94) rfl rfl k) ?_
  obtain ⟨_, _, ⟨T29, L29, k29, n29⟩, -, X29, ⟨Lc29, hQ29, l29, y29, z29⟩, st29⟩ := X28.specialBack hx (y := (⟨"java/lang/String", "<init>", "([C)V"⟩ : MethodName)) rfl hown (mvT hZ (hw _ (List.mem_of_getElem? (i := 11) rfl))) (mvT hZ (hw _ (List.mem_of_getElem? (i := 12) rfl))) (mvT hZ (hw _ (List.mem_of_getElem? (i := 13) rfl))) (by decide) (backOf (W := 1) (sin1_3 l Z a0 hw [] b28 b21 k21 cs (nar .char c0) (nar .char c1) (nar .char c2) h28 n0 (Nat.le_trans (Nat.le_trans (Nat.le_trans (Nat.le_trans (Nat.le_trans Z0 E21.1) (Keep.of_wr W23).1) (Keep.of_wr W25).1) (Keep.of_wr W27).1) E28.1) E_b28 F_value_b28 F_coder_b28 g_b28 (Arv.ext V27 E28) (Sta.ext E28 (Sta.wr W27 (Sta.wr W25 (Sta.wr W23 (Sta.ext E21 S_CS))))) hcs hc0 hc1 hc2) hZ (hw _ (List.mem_of_getElem? (i := 13) rfl)) (hw _ (List.mem_of_getElem? (i := 9) rfl)) (by decide) (by decide)) (g := (mkF m 96 #[.val (.int (3 : Int32)), .val (.int c0), .val (.int c1), .val (.int c2), .val (.ref b21)] [(.ref b21), (.ref b28), (.ref b28)])) rfl (by rw [hml]; rfl) (Steps.refl _) (a := b28) (argsL := [(.ref b21)]) (rest := [(.ref b28)]) (lenOf pd_4 rfl) rfl (by show 2 * 0 + _ ≤ _; exact Nat.le_of_eq rfl) (hb hby d2_96) (fun _ _ => ⟨rfl, e28, (by decide : ((0 + 1) + 1) + 1 ≤ _), (by decide : ((0 + 3) + 4) + 3 ≤ _)⟩)
  dsimp only [Pt.U, Pt.locs, Pt.cells, Pt.slots] at X29 l29 y29 z29 st29 hQ29
  subst l29 y29 z29
  obtain ⟨rfl, N29q, K29, Fc29, t29, kb29, zt29, Fv29, V29⟩ := hQ29
  have N29 := Fr.app N27 N29q
  have KK29 : Keep h0 T29.heap [] := Keep.trans K28 K29 (allS (Or.inr sz_b28) all0)
  have sz_t29 : h0.size ≤ t29 := Nat.le_trans K28.1 zt29
  have g_t29 : n0 ≤ t29 := Nat.le_trans Z0 sz_t29
  refine own_by (T' := T29) (g' := (mkF m 99 #[.val (.int (3 : Int32)), .val (.int c0), .val (.int c1), .val (.int c2), .val (.ref b21)] [(.ref b28)])) (fun _ k => st29.trans k) ?_
  refine own_ret X29 hlk (v := some (.ref b28)) (fun h => by rw [Bd.returns] at h; cases h) (fun fs hr => retOut X29 hx Bd.returns rfl (Or.inr (Or.inr (Or.inr (Or.inr ⟨rfl, rfl, rfl⟩)))) (hb hby d2_99) hr) ?_ (by decide) (by decide)
  exact ⟨_, _, _, rfl, N29, KK29, sz_b28, (Exa.keep E_b28 K29), Fc29, Fv29, V29⟩
theorem d2_4 : decode method_4_code 4 = .ok (.new 39, 3) := by decide +kernel
theorem d2_7 : decode method_4_code 7 = .ok (.dup, 1) := by decide +kernel
theorem d2_8 : decode method_4_code 8 = .ok (.iconst 0, 1) := by decide +kernel
theorem d2_9 : decode method_4_code 9 = .ok (.newarray .char, 2) := by decide +kernel
theorem d2_11 : decode method_4_code 11 = .ok (.invokespecial 44, 3) := by decide +kernel
theorem d2_14 : decode method_4_code 14 = .ok (.areturn, 1) := by decide +kernel
theorem ef_make_0 (m : MethodId) (c0 : Int32) (c1 : Int32) (c2 : Int32) : entryFrame m #[(.int (0 : Int32)), (.int c0), (.int c1), (.int c2)] 5 = mkF m 0 #[.val (.int (0 : Int32)), .val (.int c0), .val (.int c1), .val (.int c2), .unset] [] := by first | (simp [entryFrame, mkF, argsToLocals, Value.category]; done) | rfl
def V_make_0 (Z : State) (c0 : Int32) (c1 : Int32) (c2 : Int32) (h0 : Heap) (vm : Vm) : Prop := True
def Q_make_0 (Z : State) (c0 : Int32) (c1 : Int32) (c2 : Int32) (h0 : Heap) (n0 : Nat) (v : Option Value) (h : Heap) (L : List Loc) : Prop := ∃ (x t : Addr) (kb : ClassId), v = some (.ref x) ∧ Fr n0 L ∧ Keep h0 h [] ∧ h0.size ≤ x ∧ Exa Z h x "java/lang/String" ∧ Fld Z h x "java/lang/String" "coder" "B" (.int (0 : Int32)) ∧ Fld Z h x "java/lang/String" "value" "[B" (.ref t) ∧ Arv Z h t kb .byte (0 : Int32) [] (.int (0 : Int32))
set_option maxRecDepth 65536 in
set_option maxHeartbeats 40000000 in
theorem make_0 (l : Launch) (Z : State) (a0 : Array Value) (hw : ∀ d ∈ tables_1, d.before a0 Z = true) (ws : List Jvm.Cond) (c0 : Int32) (c1 : Int32) (c2 : Int32) (h0 : Heap) (n0 : Nat) (Z0 : n0 ≤ h0.size) :
    MetFree l (⟨"com/example/shelfgraph/shelfgraph/ingest/RecordPositionInputNamePinLaw", "make", "(ICCC)Ljava/lang/String;"⟩ : MethodName) (head1 (Jvm.Cond.code (⟨"com/example/shelfgraph/shelfgraph/ingest/RecordPositionInputNamePinLaw", "make", "(ICCC)Ljava/lang/String;"⟩ : MethodName) method_4_code 5 (some (.object "java/lang/String")) :: ws) ({ frames := 3, cells := 6, slots := 12, locals := 43 } : Room)) (fun zz UU => zz = #[(.int (0 : Int32)), (.int c0), (.int c1), (.int c2)] ∧ Z.Warmed39 UU.vm ∧ UU.heap = h0 ∧ CHv Z consts_1 UU.vm h0 ∧ V_make_0 Z c0 c1 c2 h0 UU.vm) (fun _ _ _ _ _ => True) (fun _ U o U' => ∃ v L, o = .returned v ∧ Q_make_0 Z c0 c1 c2 h0 n0 v U'.heap L ∧ CHr Z consts_1 U.vm U.heap U'.vm U'.heap ∧ ReturnedEndW U o U' L ({ frames := 3, cells := 6, slots := 12, locals := 43 } : Room).cells ({ frames := 3, cells := 6, slots := 12, locals := 43 } : Room).slots) := by
  refine MetFree.of_bodySF (plainFor_of_name pn_2) hisR ?_
  intro p e s m args below meth c s₁ Bd hml0 hP hK
  obtain ⟨rfl, hZ, hh, hH, hV⟩ := hP
  have hx := Bd.exec
  have hby := Bd.bytes
  have hml : c.maxLocals = 5 := hml0
  have hown : s.vm.findClass "com/example/shelfgraph/shelfgraph/ingest/RecordPositionInputNamePinLaw" = some m.cls := findClass_of_methodNamed Bd.named
  have hnm := (name_of_methodNamed Bd.named Bd.method).1
  have hlk : meth.locks = false := BodyLoose.notSynchronized Bd
  have X0 : Stand p l e ({ frames := 3, cells := 6, slots := 12, locals := 43 } : Room) (s.setVm s.vm) m #[(.int (0 : Int32)), (.int c0), (.int c1), (.int c2)] below meth c s₁ [] 0 0 := Stand.of_body Bd
  have e0 : s₁.heap = h0 := by rw [← hh, Bd.state]; rfl
  have N0 := Fr.nil n0
  show own_GoW p.tables e below Z consts_1 (Q_make_0 Z c0 c1 c2 h0 n0) s ({ frames := 3, cells := 6, slots := 12, locals := 43 } : Room).cells ({ frames := 3, cells := 6, slots := 12, locals := 43 } : Room).slots s₁ (entryFrame m #[(.int (0 : Int32)), (.int c0), (.int c1), (.int c2)] 5)
  rw [ef_make_0 m c0 c1 c2]
  have hS0 : s.Since s.vm s.heap.size := (State.WarmedH.refl s).since _
  have hk0 : s.heap.size ≤ h0.size := Nat.le_of_eq (congrArg Array.size hh)
  have C0 : CHr Z consts_1 s.vm s.heap s.vm h0 := by rw [hh]; exact CHr.refl hH
  have hEL : EW Z a0 consts_1 := own_EL hw
  have hwS : ∀ d ∈ Bundle.stringAtoms, d.before a0 Z = true := fun d hd => hw d (own_SA d hd)
  refine own_byW (T' := s₁) (g' := (mkF m 1 #[.val (.int (0 : Int32)), .val (.int c0), .val (.int c1), .val (.int c2), .unset] [(.int (0 : Int32))])) (fun _ k => XS.iloadN X0.here hx rfl (hb hby d2_0) rfl k) ?_
  refine own_byW (T' := s₁) (g' := (mkF m 4 #[.val (.int (0 : Int32)), .val (.int c0), .val (.int c1), .val (.int c2), .unset] [])) (fun _ k => XS.ifNo X0.here hx rfl (hb hby d2_1) rfl ((if0 _ _).trans (teq (by decide)).2) k) ?_
  obtain ⟨T21, h21, X21, e21, E21, A21, D21, -, st21⟩ := newO X0 hx hZ hown (hw _ (List.mem_of_getElem? (i := 7) rfl)) (hw _ (List.mem_of_getElem? (i := 8) rfl)) (hw _ (List.mem_of_getElem? (i := 9) rfl)) e0 (g := (mkF m 4 #[.val (.int (0 : Int32)), .val (.int c0), .val (.int c1), .val (.int c2), .unset] [])) rfl (hb hby d2_4) (by decide) (by decide)
  obtain ⟨b21, g21⟩ : ∃ z, z = h0.size := ⟨_, rfl⟩
  rw [← g21] at A21 D21 st21
  have E_b21 : Exa Z h21 b21 "java/lang/String" := A21
  have F_value_b21 : Fld Z h21 b21 "java/lang/String" "value" "[B" .null := D21 (Or.inr (hw _ (List.mem_of_getElem? (i := 23) rfl))) (ty := (.array .byte)) (by decide)
  have F_coder_b21 : Fld Z h21 b21 "java/lang/String" "coder" "B" (.int (0 : Int32)) := D21 (Or.inr (hw _ (List.mem_of_getElem? (i := 24) rfl))) (ty := .byte) (by decide)
  have g_b21 : n0 ≤ b21 := Nat.le_trans Z0 (Nat.le_of_eq g21.symm)
  have sz_b21 : h0.size ≤ b21 := Nat.le_trans (Keep.refl h0 []).1 (Nat.le_of_eq g21.symm)
  have K21 : Keep h0 h21 [] := Keep.ext (Keep.refl h0 []) E21
  have Sf21_b21 : Safe Z consts_1 s.vm h21 b21 := Safe.ext E21 C0.1 (Safe.new (Nat.le_of_eq g21.symm))
  have C21 : CHr Z consts_1 s.vm s.heap s.vm h21 := CHr.trans C0 (CHr.ext E21 C0.1)
  refine own_byW (T' := T21) (g' := (mkF m 7 #[.val (.int (0 : Int32)), .val (.int c0), .val (.int c1), .val (.int c2), .unset] [(.ref b21)])) (fun _ k => st21 _ k) ?_
  refine own_byW (T' := T21) (g' := (mkF m 8 #[.val (.int (0 : Int32)), .val (.int c0), .val (.int c1), .val (.int c2), .unset] [(.ref b21), (.ref b21)])) (fun _ k => XS.dup X21.here hx rfl (hb hby d2_7) rfl rfl k) ?_
  refine own_byW (T' := T21) (g' := (mkF m 9 #[.val (.int (0 : Int32)), .val (.int c0), .val (.int c1), .val (.int c2), .unset] [(.int (0 : Int32)), (.ref b21), (.ref b21)])) (fun _ k => XS.iconst X21.here hx rfl (hb hby d2_8) k) ?_
  obtain ⟨T22, h22, k22, X22, e22, E22, A22, st22⟩ := newP X21 hx hZ (hw _ (List.mem_of_getElem? (i := 10) rfl)) e21 (g := (mkF m 9 #[.val (.int (0 : Int32)), .val (.int c0), .val (.int c1), .val (.int c2), .unset] [(.int (0 : Int32)), (.ref b21), (.ref b21)])) rfl (hb hby d2_9) rfl (by decide) (cap := 0) (by decide) (by decide) (by decide) (by decide)
  obtain ⟨b22, g22⟩ : ∃ z, z = h21.size := ⟨_, rfl⟩
  rw [← g22] at A22 st22
  have V_b22 : Arv Z h22 b22 k22 .char (0 : Int32) [] (.int (0 : Int32)) := Arv.new A22 (by decide)
  have g_b22 : n0 ≤ b22 := Nat.le_trans (Nat.le_trans Z0 E21.1) (Nat.le_of_eq g22.symm)
  have sz_b22 : h0.size ≤ b22 := Nat.le_trans K21.1 (Nat.le_of_eq g22.symm)
  have K22 : Keep h0 h22 [] := Keep.ext K21 E22
  have Sf22_b21 : Safe Z consts_1 s.vm h22 b21 := Safe.ext E22 C21.1 Sf21_b21
  have C22 : CHr Z consts_1 s.vm s.heap s.vm h22 := CHr.trans C21 (CHr.ext E22 C21.1)
  refine own_byW (T' := T22) (g' := (mkF m 11 #[.val (.int (0 : Int32)), .val (.int c0), .val (.int c1), .val (.int c2), .unset] [(.ref b22), (.ref b21), (.ref b21)])) (fun _ k => st22 _ k) ?_
  obtain ⟨_, _, ⟨T23, L23, k23, n23⟩, -, X23, hSq23, hgq23, ⟨Lc23, hQ23, l23, y23, z23, Cq23⟩, st23⟩ := X22.specialBackS hx (y := (⟨"java/lang/String", "<init>", "([C)V"⟩ : MethodName)) rfl hown (mvT hZ (hw _ (List.mem_of_getElem? (i := 11) rfl))) (mvT hZ (hw _ (List.mem_of_getElem? (i := 12) rfl))) (mvT hZ (hw _ (List.mem_of_getElem? (i := 13) rfl))) (by decide) (own_backSH (s := s) (EL := consts_1) (W := 1) (sin1_0 l Z a0 hw [] b21 b22 k22 h22 n0 (Nat.le_trans (Nat.le_trans Z0 E21.1) E22.1) (Exa.ext E22 E_b21) (Fld.ext E22 F_value_b21) (Fld.ext E22 F_coder_b21) g_b21 V_b22) hZ (hw _ (List.mem_of_getElem? (i := 13) rfl)) (hw _ (List.mem_of_getElem? (i := 9) rfl)) (by decide) (by decide) hEL C22.1 (fun vm hC => CHr.safe hC ((Exa.ext E22 E_b21)).lt Sf22_b21)) (g := (mkF m 11 #[.val (.int (0 : Int32)), .val (.int c0), .val (.int c1), .val (.int c2), .unset] [(.ref b22), (.ref b21), (.ref b21)])) rfl (by rw [hml]; rfl) (Steps.refl _) (a := b21) (argsL := [(.ref b22)]) (rest := [(.ref b21)]) (lenOf pd_4 rfl) rfl (by show 2 * 0 + _ ≤ _; exact Nat.le_of_eq rfl) (hb hby d2_11) (fun _ _ => ⟨rfl, e22, (by decide : ((0 + 1) + 1) + 4 ≤ _), (by decide : ((0 + 4) + 0) + 8 ≤ _)⟩)
  dsimp only [Pt.U, Pt.locs, Pt.cells, Pt.slots] at X23 l23 y23 z23 st23 hQ23 hSq23 hgq23 Cq23
  subst l23 y23 z23
  obtain ⟨rfl, N23q, K23, Fc23, t23, kb23, Fv23, V23⟩ := hQ23
  have N23 := Fr.app N0 N23q
  have KK23 : Keep h0 T23.heap [] := Keep.trans K22 K23 (allS (Or.inr sz_b21) all0)
  have hS23 := foldS hS0 (T := T22) (by rw [e22]; exact (Nat.le_trans (Nat.le_trans hk0 E21.1) E22.1)) hSq23 hgq23
  have hZ23 : Z.Warmed39 (s.setVm T23.vm).vm := State.Warmed39.trans hZ hSq23.1
  have hown23 : (s.setVm T23.vm).vm.findClass "com/example/shelfgraph/shelfgraph/ingest/RecordPositionInputNamePinLaw" = some m.cls := by show T23.vm.findClass "com/example/shelfgraph/shelfgraph/ingest/RecordPositionInputNamePinLaw" = some m.cls; rw [hSq23.1.alike.findClass]; exact hown
  have X23 : Stand p l e ({ frames := 3, cells := 6, slots := 12, locals := 43 } : Room) (s.setVm T23.vm) m #[(.int (0 : Int32)), (.int c0), (.int c1), (.int c2)] below meth c T23 L23 (((0 + 1) + 1) + 4) (((0 + 4) + 0) + 8) := X23
  have Sf23_b21 : Safe Z consts_1 T23.vm T23.heap b21 := CHr.safe Cq23 ((Exa.ext E22 E_b21)).lt Sf22_b21
  have C23 : CHr Z consts_1 s.vm s.heap T23.vm T23.heap := CHr.trans C22 Cq23
  refine own_byW (T' := T23) (g' := (mkF m 14 #[.val (.int (0 : Int32)), .val (.int c0), .val (.int c1), .val (.int c2), .unset] [(.ref b21)])) (fun _ k => st23.trans k) ?_
  refine own_retW (s := s) X23 hlk hS23 (Nat.le_refl _) hZ23 hEL C23 rfl (v := some (.ref b21)) (fun h => by rw [Bd.returns] at h; cases h) (fun fs hr => retOut X23 hx Bd.returns rfl (Or.inr (Or.inr (Or.inr (Or.inr ⟨rfl, rfl, rfl⟩)))) (hb hby d2_14) hr) ?_ (by decide) (by decide)
  exact ⟨_, _, _, rfl, N23, KK23, sz_b21, (Exa.keep (Exa.ext E22 E_b21) K23), Fc23, Fv23, V23⟩
theorem d7_0 : decode prog_22_method_1_code 0 = .ok (.aload_n 0, 1) := by decide +kernel
theorem d7_1 : decode prog_22_method_1_code 1 = .ok (.invokespecial 1, 3) := by decide +kernel
theorem d7_4 : decode prog_22_method_1_code 4 = .ok (.aload_n 1, 1) := by decide +kernel
theorem d7_5 : decode prog_22_method_1_code 5 = .ok (.ldc 7, 2) := by decide +kernel
theorem d7_7 : decode prog_22_method_1_code 7 = .ok (.invokestatic 9, 3) := by decide +kernel
theorem d7_10 : decode prog_22_method_1_code 10 = .ok (.pop, 1) := by decide +kernel
theorem d7_11 : decode prog_22_method_1_code 11 = .ok (.lload_n 2, 1) := by decide +kernel
theorem d7_12 : decode prog_22_method_1_code 12 = .ok (.lconst 1, 1) := by decide +kernel
theorem d7_13 : decode prog_22_method_1_code 13 = .ok (.lcmp, 1) := by decide +kernel
theorem d7_14 : decode prog_22_method_1_code 14 = .ok (.ifCond .lt 10, 3) := by decide +kernel
theorem d7_17 : decode prog_22_method_1_code 17 = .ok (.lload 4, 2) := by decide +kernel
theorem d7_19 : decode prog_22_method_1_code 19 = .ok (.lconst 0, 1) := by decide +kernel
theorem d7_20 : decode prog_22_method_1_code 20 = .ok (.lcmp, 1) := by decide +kernel
theorem d7_21 : decode prog_22_method_1_code 21 = .ok (.ifCond .ge 20, 3) := by decide +kernel
theorem d7_41 : decode prog_22_method_1_code 41 = .ok (.aload_n 0, 1) := by decide +kernel
theorem d7_42 : decode prog_22_method_1_code 42 = .ok (.aload_n 1, 1) := by decide +kernel
theorem d7_43 : decode prog_22_method_1_code 43 = .ok (.putfield 24, 3) := by decide +kernel
theorem d7_46 : decode prog_22_method_1_code 46 = .ok (.aload_n 0, 1) := by decide +kernel
theorem d7_47 : decode prog_22_method_1_code 47 = .ok (.lload_n 2, 1) := by decide +kernel
theorem d7_48 : decode prog_22_method_1_code 48 = .ok (.putfield 29, 3) := by decide +kernel
theorem d7_51 : decode prog_22_method_1_code 51 = .ok (.aload_n 0, 1) := by decide +kernel
theorem d7_52 : decode prog_22_method_1_code 52 = .ok (.lload 4, 2) := by decide +kernel
theorem d7_54 : decode prog_22_method_1_code 54 = .ok (.putfield 33, 3) := by decide +kernel
theorem d7_57 : decode prog_22_method_1_code 57 = .ok (.return_, 1) := by decide +kernel
theorem pn_7 : plainName "com/example/shelfgraph/shelfgraph/ingest/RecordPosition" = true := by first | (simp [plainName, overriddenIn]; done) | decide +kernel
theorem ef_rm7 (m : MethodId) (a : Addr) (s1 : Addr) (q1 : Int64) (q2 : Int64) : entryFrame m #[(.ref a), (.ref s1), (.long q1), (.long q2)] 6 = mkF m 0 #[.val (.ref a), .val (.ref s1), .val (.long q1), .second, .val (.long q2), .second] [] := by first | (simp [entryFrame, mkF, argsToLocals, Value.category]; done) | rfl
def V_rm7 (Z : State) (a : Addr) (s1 : Addr) (q1 : Int64) (q2 : Int64) (h0 : Heap) (vm : Vm) : Prop := True
def Q_rm7 (Z : State) (a : Addr) (s1 : Addr) (q1 : Int64) (q2 : Int64) (h0 : Heap) (n0 : Nat) (v : Option Value) (h : Heap) (L : List Loc) : Prop := v = none ∧ Fr n0 L ∧ Keep h0 h [a] ∧ Fld Z h a "com/example/shelfgraph/shelfgraph/ingest/RecordPosition" "input" "Ljava/lang/String;" (.ref s1)
set_option maxRecDepth 65536 in
set_option maxHeartbeats 40000000 in
theorem rm7 (l : Launch) (Z : State) (a0 : Array Value) (hw : ∀ d ∈ tables_1, d.before a0 Z = true) (ws : List Jvm.Cond) (a : Addr) (s1 : Addr) (q1 : Int64) (q2 : Int64) (h0 : Heap) (n0 : Nat) (Z0 : n0 ≤ h0.size) (E_a : Exa Z h0 a "com/example/shelfgraph/shelfgraph/ingest/RecordPosition") (F_input_a : Fld Z h0 a "com/example/shelfgraph/shelfgraph/ingest/RecordPosition" "input" "Ljava/lang/String;" .null) (F_number_a : Fld Z h0 a "com/example/shelfgraph/shelfgraph/ingest/RecordPosition" "number" "J" (.long (0 : Int64))) (F_offset_a : Fld Z h0 a "com/example/shelfgraph/shelfgraph/ingest/RecordPosition" "offset" "J" (.long (0 : Int64))) (g_a : n0 ≤ a) (h1 : ¬ q1 < (1 : Int64)) (h2 : ¬ q2 < (0 : Int64)) :
    MetFree l (⟨"com/example/shelfgraph/shelfgraph/ingest/RecordPosition", "<init>", "(Ljava/lang/String;JJ)V"⟩ : MethodName) (head1 (Jvm.Cond.code (⟨"com/example/shelfgraph/shelfgraph/ingest/RecordPosition", "<init>", "(Ljava/lang/String;JJ)V"⟩ : MethodName) prog_22_method_1_code 6 none :: ws) ({ frames := 2, cells := 2, slots := 24, locals := 24 } : Room)) (fun zz UU => zz = #[(.ref a), (.ref s1), (.long q1), (.long q2)] ∧ Z.Warmed39 UU.vm ∧ UU.heap = h0 ∧ CHv Z consts_1 UU.vm h0 ∧ V_rm7 Z a s1 q1 q2 h0 UU.vm) (fun _ _ _ _ _ => True) (fun _ U o U' => ∃ v L, o = .returned v ∧ Q_rm7 Z a s1 q1 q2 h0 n0 v U'.heap L ∧ CHr Z consts_1 U.vm U.heap U'.vm U'.heap ∧ ReturnedEndW U o U' L ({ frames := 2, cells := 2, slots := 24, locals := 24 } : Room).cells ({ frames := 2, cells := 2, slots := 24, locals := 24 } : Room).slots) := by
  refine MetFree.of_bodySF (plainFor_of_name pn_7) hisR ?_
  intro p e s m args below meth c s₁ Bd hml0 hP hK
  obtain ⟨rfl, hZ, hh, hH, hV⟩ := hP
  have hx := Bd.exec
  have hby := Bd.bytes
  have hml : c.maxLocals = 6 := hml0
  have hown : s.vm.findClass "com/example/shelfgraph/shelfgraph/ingest/RecordPosition" = some m.cls := findClass_of_methodNamed Bd.named
  have hnm := (name_of_methodNamed Bd.named Bd.method).1
  have hlk : meth.locks = false := BodyLoose.notSynchronized Bd
  have X0 : Stand p l e ({ frames := 2, cells := 2, slots := 24, locals := 24 } : Room) (s.setVm s.vm) m #[(.ref a), (.ref s1), (.long q1), (.long q2)] below meth c s₁ [] 0 0 := Stand.of_body Bd
  have e0 : s₁.heap = h0 := by rw [← hh, Bd.state]; rfl
  have N0 := Fr.nil n0
  show own_GoW p.tables e below Z consts_1 (Q_rm7 Z a s1 q1 q2 h0 n0) s ({ frames := 2, cells := 2, slots := 24, locals := 24 } : Room).cells ({ frames := 2, cells := 2, slots := 24, locals := 24 } : Room).slots s₁ (entryFrame m #[(.ref a), (.ref s1), (.long q1), (.long q2)] 6)
  rw [ef_rm7 m a s1 q1 q2]
  have hS0 : s.Since s.vm s.heap.size := (State.WarmedH.refl s).since _
  have hk0 : s.heap.size ≤ h0.size := Nat.le_of_eq (congrArg Array.size hh)
  have C0 : CHr Z consts_1 s.vm s.heap s.vm h0 := by rw [hh]; exact CHr.refl hH
  have hEL : EW Z a0 consts_1 := own_EL hw
  have hwS : ∀ d ∈ Bundle.stringAtoms, d.before a0 Z = true := fun d hd => hw d (own_SA d hd)
  refine own_byW (T' := s₁) (g' := (mkF m 1 #[.val (.ref a), .val (.ref s1), .val (.long q1), .second, .val (.long q2), .second] [(.ref a)])) (fun _ k => XS.aloadN X0.here hx rfl (hb hby d7_0) rfl rfl k) ?_
  obtain ⟨_, _, ⟨T21, L21, k21, n21⟩, -, X21, ⟨Lc21, hQ21, l21, y21, z21⟩, st21⟩ := X0.specialBack hx (y := (⟨"java/lang/Record", "<init>", "()V"⟩ : MethodName)) rfl hown (mvT hZ (hw _ (List.mem_of_getElem? (i := 40) rfl))) (mvT hZ (hw _ (List.mem_of_getElem? (i := 41) rfl))) (mvT hZ (hw _ (List.mem_of_getElem? (i := 44) rfl))) (by decide) (backOf (W := 0) (rm8 l Z a0 hw [] a  h0 n0 Z0 ) hZ (hw _ (List.mem_of_getElem? (i := 44) rfl)) (hw _ (List.mem_of_getElem? (i := 43) rfl)) (by decide) (by decide)) (g := (mkF m 1 #[.val (.ref a), .val (.ref s1), .val (.long q1), .second, .val (.long q2), .second] [(.ref a)])) rfl (by rw [hml]; rfl) (Steps.refl _) (a := a) (argsL := []) (rest := []) (lenOf pd_5 rfl) rfl (by show 2 * 0 + _ ≤ _; exact Nat.le_of_eq rfl) (hb hby d7_1) (fun _ _ => ⟨rfl, e0, (by decide : 0 + 0 ≤ _), (by decide : 0 + 0 ≤ _)⟩)
  dsimp only [Pt.U, Pt.locs, Pt.cells, Pt.slots] at X21 l21 y21 z21 st21 hQ21
  subst l21 y21 z21
  obtain ⟨rfl, N21q, e21⟩ := hQ21
  have N21 := Fr.app N0 N21q
  refine own_byW (T' := T21) (g' := (mkF m 4 #[.val (.ref a), .val (.ref s1), .val (.long q1), .second, .val (.long q2), .second] [])) (fun _ k => st21.trans k) ?_
  refine own_byW (T' := T21) (g' := (mkF m 5 #[.val (.ref a), .val (.ref s1), .val (.long q1), .second, .val (.long q2), .second] [(.ref s1)])) (fun _ k => XS.aloadN X21.here hx rfl (hb hby d7_4) rfl rfl k) ?_
  obtain ⟨a22, T22, h22, k22, b22, kb22, X22, e22, E22, hS22, hk22, hZ22, hown22, Ex22, Fc22, Fv22, V22, la22, lb22, Cq22, Lt22, D22, st22⟩ := ldcCH (s := s) (EL := consts_1) X21 hx hZ hown (hw _ (List.mem_of_getElem? (i := 46) rfl)) hwS e21 hS0 hk0 hEL (List.mem_of_getElem? (i := 0) rfl) C0.1 (vs := [(.int (105 : Int32)), (.int (110 : Int32)), (.int (112 : Int32)), (.int (117 : Int32)), (.int (116 : Int32))]) (z := (5 : Int32)) ⟨by decide, by decide⟩ (by decide) (by decide) (g := (mkF m 5 #[.val (.ref a), .val (.ref s1), .val (.long q1), .second, .val (.long q2), .second] [(.ref s1)])) rfl (hb hby d7_5) (n := 20) (by decide) (by decide) (by decide) (by decide)
  have C22 : CHr Z consts_1 s.vm s.heap T22.vm h22 := CHr.trans C0 Cq22
  have K22 : Keep h0 h22 [a] := Keep.ext (Keep.refl h0 [a]) E22
  refine own_byW (T' := T22) (g' := (mkF m 7 #[.val (.ref a), .val (.ref s1), .val (.long q1), .second, .val (.long q2), .second] [(.ref a22), (.ref s1)])) (fun _ k => st22 _ k) ?_
  obtain ⟨_, _, ⟨T23, L23, k23, n23⟩, -, X23, ⟨Lc23, hQ23, l23, y23, z23⟩, st23⟩ := Jvm.LawKit.callS X22 hx (y := (⟨"java/util/Objects", "requireNonNull", "(Ljava/lang/Object;Ljava/lang/String;)Ljava/lang/Object;"⟩ : MethodName)) hown22 (mvT hZ22 (hw _ (List.mem_of_getElem? (i := 47) rfl))) (mvT hZ22 (hw _ (List.mem_of_getElem? (i := 48) rfl))) (mvT hZ22 (hw _ (List.mem_of_getElem? (i := 49) rfl))) (mvT hZ22 (hw _ (List.mem_of_getElem? (i := 50) rfl))) (by decide) (backOf (W := 0) (reqnn l Z a0 hw [] s1 a22  h22 n0 (Nat.le_trans Z0 E22.1) ) hZ22 (hw _ (List.mem_of_getElem? (i := 50) rfl)) (hw _ (List.mem_of_getElem? (i := 49) rfl)) (by decide) (by decide)) (g := (mkF m 7 #[.val (.ref a), .val (.ref s1), .val (.long q1), .second, .val (.long q2), .second] [(.ref a22), (.ref s1)])) rfl (by rw [hml]; rfl) (argsL := [(.ref s1), (.ref a22)]) (rest := []) (lenOf pd_6 rfl) rfl (by show 2 * 0 + _ ≤ _; exact Nat.le_of_eq rfl) (hb hby d7_7) (fun _ _ => ⟨rfl, e22, (by decide : ((0 + 0) + 2) + 0 ≤ _), (by decide : ((0 + 0) + (20 + 4)) + 0 ≤ _)⟩)
  dsimp only [Pt.U, Pt.locs, Pt.cells, Pt.slots] at X23 l23 y23 z23 st23 hQ23
  subst l23 y23 z23
  obtain ⟨rfl, N23q, e23⟩ := hQ23
  have N23 := Fr.app N21 N23q
  refine own_byW (T' := T23) (g' := (mkF m 10 #[.val (.ref a), .val (.ref s1), .val (.long q1), .second, .val (.long q2), .second] [(.ref s1)])) (fun _ k => st23 _ k) ?_
  refine own_byW (T' := T23) (g' := (mkF m 11 #[.val (.ref a), .val (.ref s1), .val (.long q1), .second, .val (.long q2), .second] [])) (fun _ k => XS.pop X23.here hx rfl (hb hby d7_10) rfl rfl k) ?_
  refine own_byW (T' := T23) (g' := (mkF m 12 #[.val (.ref a), .val (.ref s1), .val (.long q1), .second, .val (.long q2), .second] [(.long q1)])) (fun _ k => XS.lloadN X23.here hx rfl (hb hby d7_11) rfl k) ?_
  refine own_byW (T' := T23) (g' := (mkF m 13 #[.val (.ref a), .val (.ref s1), .val (.long q1), .second, .val (.long q2), .second] [(.long (1 : Int64)), (.long q1)])) (fun _ k => XS.lconst X23.here hx rfl (hb hby d7_12) k) ?_
  refine own_byW (T' := T23) (g' := (mkF m 14 #[.val (.ref a), .val (.ref s1), .val (.long q1), .second, .val (.long q2), .second] [(.int (lcmpW q1 (1 : Int64)))])) (fun _ k => XS.lcmp X23.here hx rfl (hb hby d7_13) rfl k) ?_
  refine own_byW (T' := T23) (g' := (mkF m 17 #[.val (.ref a), .val (.ref s1), .val (.long q1), .second, .val (.long q2), .second] [])) (fun _ k => XS.ifNo X23.here hx rfl (hb hby d7_14) rfl ((if0 _ _).trans (flt (fun q => absurd ((lw_lt _ _).mp q) h1)).1) k) ?_
  refine own_byW (T' := T23) (g' := (mkF m 19 #[.val (.ref a), .val (.ref s1), .val (.long q1), .second, .val (.long q2), .second] [(.long q2)])) (fun _ k => XS.lload X23.here hx rfl (hb hby d7_17) rfl k) ?_
  refine own_byW (T' := T23) (g' := (mkF m 20 #[.val (.ref a), .val (.ref s1), .val (.long q1), .second, .val (.long q2), .second] [(.long (0 : Int64)), (.long q2)])) (fun _ k => XS.lconst X23.here hx rfl (hb hby d7_19) k) ?_
  refine own_byW (T' := T23) (g' := (mkF m 21 #[.val (.ref a), .val (.ref s1), .val (.long q1), .second, .val (.long q2), .second] [(.int (lcmpW q2 (0 : Int64)))])) (fun _ k => XS.lcmp X23.here hx rfl (hb hby d7_20) rfl k) ?_
  refine own_byW (T' := T23) (g' := (mkF m 41 #[.val (.ref a), .val (.ref s1), .val (.long q1), .second, .val (.long q2), .second] [])) (fun _ k => XS.ifYes X23.here hx rfl (pc0 := 21) (pc' := 41) rfl (hb hby d7_21) rfl ((if0 _ _).trans (flt (fun q => absurd ((lw_lt _ _).mp q) h2)).2.1) (by decide) (by decide) k) ?_
  refine own_byW (T' := T23) (g' := (mkF m 42 #[.val (.ref a), .val (.ref s1), .val (.long q1), .second, .val (.long q2), .second] [(.ref a)])) (fun _ k => XS.aloadN X23.here hx rfl (hb hby d7_41) rfl rfl k) ?_
  refine own_byW (T' := T23) (g' := (mkF m 43 #[.val (.ref a), .val (.ref s1), .val (.long q1), .second, .val (.long q2), .second] [(.ref s1), (.ref a)])) (fun _ k => XS.aloadN X23.here hx rfl (hb hby d7_42) rfl rfl k) ?_
  obtain ⟨T24, h24, X24, e24, W24, st24⟩ := putF X23 hx hZ22 hown22 (host := "") (Or.inl (hw _ (List.mem_of_getElem? (i := 51) rfl))) Via.refl e23 (Fld.ext E22 F_input_a) (Exa.ext E22 E_a) (Or.inr ⟨(hw _ (List.mem_of_getElem? (i := 52) rfl)), rfl, hnm⟩) (hw _ (List.mem_of_getElem? (i := 35) rfl)) (ty := (.object "java/lang/String")) (by decide) rfl rfl (g := (mkF m 43 #[.val (.ref a), .val (.ref s1), .val (.long q1), .second, .val (.long q2), .second] [(.ref s1), (.ref a)])) rfl rfl (hb hby d7_43)
  have Fw24 : Fld Z h24 a "com/example/shelfgraph/shelfgraph/ingest/RecordPosition" "input" "Ljava/lang/String;" (.ref s1) := Fld.same W24 (Fld.ext E22 F_input_a)
  have K24 : Keep h0 h24 [a] := Keep.wr K22 W24 (Or.inl (List.mem_of_getElem? (i := 0) rfl))
  have C24 : CHr Z consts_1 s.vm s.heap T22.vm h24 := CHr.trans C22 (CHr.wr W24 (Safe.exa (EL := consts_1) (vm := T22.vm) hZ22.alike (Exa.ext E22 E_a) (by decide) (by decide)) C22.1)
  have N24 := Fr.snoc X24 N23 g_a
  refine own_byW (T' := T24) (g' := (mkF m 46 #[.val (.ref a), .val (.ref s1), .val (.long q1), .second, .val (.long q2), .second] [])) (fun _ k => st24 _ k) ?_
  refine own_byW (T' := T24) (g' := (mkF m 47 #[.val (.ref a), .val (.ref s1), .val (.long q1), .second, .val (.long q2), .second] [(.ref a)])) (fun _ k => XS.aloadN X24.here hx rfl (hb hby d7_46) rfl rfl k) ?_
  refine own_byW (T' := T24) (g' := (mkF m 48 #[.val (.ref a), .val (.ref s1), .val (.long q1), .second, .val (.long q2), .second] [(.long q1), (.ref a)])) (fun _ k => XS.lloadN X24.here hx rfl (hb hby d7_47) rfl k) ?_
  obtain ⟨T25, h25, X25, e25, W25, st25⟩ := putF X24 hx hZ22 hown22 (host := "") (Or.inl (hw _ (List.mem_of_getElem? (i := 53) rfl))) Via.refl e24 (Fld.other W24 (Fld.ext E22 F_number_a) (Or.inr (slot_ne (a0 := a0) (Or.inr (hw _ (List.mem_of_getElem? (i := 54) rfl))) (Or.inr (hw _ (List.mem_of_getElem? (i := 52) rfl))) (by decide) (t := .long) (t' := (.object "java/lang/String")) (by decide) (by decide)))) (Exa.wr W24 (Exa.ext E22 E_a)) (Or.inr ⟨(hw _ (List.mem_of_getElem? (i := 54) rfl)), rfl, hnm⟩) (hw _ (List.mem_of_getElem? (i := 35) rfl)) (ty := .long) (by decide) rfl rfl (g := (mkF m 48 #[.val (.ref a), .val (.ref s1), .val (.long q1), .second, .val (.long q2), .second] [(.long q1), (.ref a)])) rfl rfl (hb hby d7_48)
  have Fw25 : Fld Z h25 a "com/example/shelfgraph/shelfgraph/ingest/RecordPosition" "number" "J" (.long q1) := Fld.same W25 (Fld.other W24 (Fld.ext E22 F_number_a) (Or.inr (slot_ne (a0 := a0) (Or.inr (hw _ (List.mem_of_getElem? (i := 54) rfl))) (Or.inr (hw _ (List.mem_of_getElem? (i := 52) rfl))) (by decide) (t := .long) (t' := (.object "java/lang/String")) (by decide) (by decide))))
  have K25 : Keep h0 h25 [a] := Keep.wr K24 W25 (Or.inl (List.mem_of_getElem? (i := 0) rfl))
  have C25 : CHr Z consts_1 s.vm s.heap T22.vm h25 := CHr.trans C24 (CHr.wr W25 (Safe.exa (EL := consts_1) (vm := T22.vm) hZ22.alike (Exa.wr W24 (Exa.ext E22 E_a)) (by decide) (by decide)) C24.1)
  have N25 := Fr.snoc X25 N24 g_a
  refine own_byW (T' := T25) (g' := (mkF m 51 #[.val (.ref a), .val (.ref s1), .val (.long q1), .second, .val (.long q2), .second] [])) (fun _ k => st25 _ k) ?_
  refine own_byW (T' := T25) (g' := (mkF m 52 #[.val (.ref a), .val (.ref s1), .val (.long q1), .second, .val (.long q2), .second] [(.ref a)])) (fun _ k => XS.aloadN X25.here hx rfl (hb hby d7_51) rfl rfl k) ?_
  refine own_byW (T' := T25) (g' := (mkF m 54 #[.val (.ref a), .val (.ref s1), .val (.long q1), .second, .val (.long q2), .second] [(.long q2), (.ref a)])) (fun _ k => XS.lload X25.here hx rfl (hb hby d7_52) rfl k) ?_
  obtain ⟨T26, h26, X26, e26, W26, st26⟩ := putF X25 hx hZ22 hown22 (host := "") (Or.inl (hw _ (List.mem_of_getElem? (i := 55) rfl))) Via.refl e25 (Fld.other W25 (Fld.other W24 (Fld.ext E22 F_offset_a) (Or.inr (slot_ne (a0 := a0) (Or.inr (hw _ (List.mem_of_getElem? (i := 56) rfl))) (Or.inr (hw _ (List.mem_of_getElem? (i := 52) rfl))) (by decide) (t := .long) (t' := (.object "java/lang/String")) (by decide) (by decide)))) (Or.inr (slot_ne (a0 := a0) (Or.inr (hw _ (List.mem_of_getElem? (i := 56) rfl))) (Or.inr (hw _ (List.mem_of_getElem? (i := 54) rfl))) (by decide) (t := .long) (t' := .long) (by decide) (by decide)))) (Exa.wr W25 (Exa.wr W24 (Exa.ext E22 E_a))) (Or.inr ⟨(hw _ (List.mem_of_getElem? (i := 56) rfl)), rfl, hnm⟩) (hw _ (List.mem_of_getElem? (i := 35) rfl)) (ty := .long) (by decide) rfl rfl (g := (mkF m 54 #[.val (.ref a), .val (.ref s1), .val (.long q1), .second, .val (.long q2), .second] [(.long q2), (.ref a)])) rfl rfl (hb hby d7_54)
  have Fw26 : Fld Z h26 a "com/example/shelfgraph/shelfgraph/ingest/RecordPosition" "offset" "J" (.long q2) := Fld.same W26 (Fld.other W25 (Fld.other W24 (Fld.ext E22 F_offset_a) (Or.inr (slot_ne (a0 := a0) (Or.inr (hw _ (List.mem_of_getElem? (i := 56) rfl))) (Or.inr (hw _ (List.mem_of_getElem? (i := 52) rfl))) (by decide) (t := .long) (t' := (.object "java/lang/String")) (by decide) (by decide)))) (Or.inr (slot_ne (a0 := a0) (Or.inr (hw _ (List.mem_of_getElem? (i := 56) rfl))) (Or.inr (hw _ (List.mem_of_getElem? (i := 54) rfl))) (by decide) (t := .long) (t' := .long) (by decide) (by decide))))
  have K26 : Keep h0 h26 [a] := Keep.wr K25 W26 (Or.inl (List.mem_of_getElem? (i := 0) rfl))
  have C26 : CHr Z consts_1 s.vm s.heap T22.vm h26 := CHr.trans C25 (CHr.wr W26 (Safe.exa (EL := consts_1) (vm := T22.vm) hZ22.alike (Exa.wr W25 (Exa.wr W24 (Exa.ext E22 E_a))) (by decide) (by decide)) C25.1)
  have N26 := Fr.snoc X26 N25 g_a
  refine own_byW (T' := T26) (g' := (mkF m 57 #[.val (.ref a), .val (.ref s1), .val (.long q1), .second, .val (.long q2), .second] [])) (fun _ k => st26 _ k) ?_
  refine own_retW (s := s) X26 hlk hS22 (by rw [e26]; exact (Nat.le_trans (Nat.le_trans (Nat.le_trans hk22 (Keep.of_wr W24).1) (Keep.of_wr W25).1) (Keep.of_wr W26).1)) hZ22 hEL C26 e26 (v := none) (fun _ => rfl) (fun fs hr => X26.returnOut hx Bd.returns (hb hby d7_57) hr) ?_ (by decide) (by decide)
  rw [e26]
  exact ⟨rfl, N26, K26, (Fld.other W26 (Fld.other W25 Fw24 (Or.inr (slot_ne (a0 := a0) (Or.inr (hw _ (List.mem_of_getElem? (i := 52) rfl))) (Or.inr (hw _ (List.mem_of_getElem? (i := 54) rfl))) (by decide) (t := (.object "java/lang/String")) (t' := .long) (by decide) (by decide)))) (Or.inr (slot_ne (a0 := a0) (Or.inr (hw _ (List.mem_of_getElem? (i := 52) rfl))) (Or.inr (hw _ (List.mem_of_getElem? (i := 56) rfl))) (by decide) (t := (.object "java/lang/String")) (t' := .long) (by decide) (by decide))))⟩
theorem d12_0 : decode jdk_43_method_13_code 0 = .ok (.aload_n 0, 1) := by decide +kernel
theorem d12_1 : decode jdk_43_method_13_code 1 = .ok (.arraylength, 1) := by decide +kernel
theorem d12_2 : decode jdk_43_method_13_code 2 = .ok (.aload_n 1, 1) := by decide +kernel
theorem d12_3 : decode jdk_43_method_13_code 3 = .ok (.arraylength, 1) := by decide +kernel
theorem d12_4 : decode jdk_43_method_13_code 4 = .ok (.if_icmp .ne 30, 3) := by decide +kernel
theorem d12_34 : decode jdk_43_method_13_code 34 = .ok (.iconst 0, 1) := by decide +kernel
theorem d12_35 : decode jdk_43_method_13_code 35 = .ok (.ireturn, 1) := by decide +kernel
theorem pn_12 : plainName "java/lang/StringLatin1" = true := by first | (simp [plainName, overriddenIn]; done) | decide +kernel
theorem ef_leq_0_1 (m : MethodId) (t1 : Addr) (t2 : Addr) : entryFrame m #[(.ref t1), (.ref t2)] 3 = mkF m 0 #[.val (.ref t1), .val (.ref t2), .unset] [] := by first | (simp [entryFrame, mkF, argsToLocals, Value.category]; done) | rfl
def Q_leq_0_1 (Z : State) (t1 : Addr) (t2 : Addr) (k1 : ClassId) (k2 : ClassId) (y0 : Int32) (h0 : Heap) (n0 : Nat) (v : Option Value) (h : Heap) (L : List Loc) : Prop := v = some (.int (0 : Int32)) ∧ Fr n0 L ∧ h = h0
set_option maxRecDepth 65536 in
set_option maxHeartbeats 40000000 in
theorem leq_0_1 (l : Launch) (Z : State) (a0 : Array Value) (hw : ∀ d ∈ tables_1, d.before a0 Z = true) (ws : List Jvm.Cond) (t1 : Addr) (t2 : Addr) (k1 : ClassId) (k2 : ClassId) (y0 : Int32) (h0 : Heap) (n0 : Nat) (Z0 : n0 ≤ h0.size) (V_t1 : Arv Z h0 t1 k1 .byte (0 : Int32) [] (.int (0 : Int32))) (V_t2 : Arv Z h0 t2 k2 .byte (1 : Int32) [(.int y0)] (.int (0 : Int32))) :
    MetFree l (⟨"java/lang/StringLatin1", "equals", "([B[B)Z"⟩ : MethodName) (head1 (Jvm.Cond.code (⟨"java/lang/StringLatin1", "equals", "([B[B)Z"⟩ : MethodName) jdk_43_method_13_code 3 (some .boolean) :: ws) ({ frames := 0, cells := 0, slots := 0, locals := 0 } : Room)) (fun zz UU => zz = #[(.ref t1), (.ref t2)] ∧ Z.Warmed39 UU.vm ∧ UU.heap = h0) (fun _ _ _ _ _ => True) (fun _ U o U' => ∃ v L, o = .returned v ∧ Q_leq_0_1 Z t1 t2 k1 k2 y0 h0 n0 v U'.heap L ∧ FrameEnd U o U' L ({ frames := 0, cells := 0, slots := 0, locals := 0 } : Room).cells ({ frames := 0, cells := 0, slots := 0, locals := 0 } : Room).slots) := by
  refine MetFree.of_bodySF (plainFor_of_name pn_12) hisR ?_
  intro p e s m args below meth c s₁ Bd hml0 hP hK
  obtain ⟨rfl, hZ, hh⟩ := hP
  have hx := Bd.exec
  have hby := Bd.bytes
  have hml : c.maxLocals = 3 := hml0
  have hown : s.vm.findClass "java/lang/StringLatin1" = some m.cls := findClass_of_methodNamed Bd.named
  have hnm := (name_of_methodNamed Bd.named Bd.method).1
  have hlk : meth.locks = false := BodyLoose.notSynchronized Bd
  have X0 : Stand p l e ({ frames := 0, cells := 0, slots := 0, locals := 0 } : Room) s m #[(.ref t1), (.ref t2)] below meth c s₁ [] 0 0 := Stand.of_body Bd
  have e0 : s₁.heap = h0 := by rw [← hh, Bd.state]; rfl
  have N0 := Fr.nil n0
  show own_Go p.tables e below (Q_leq_0_1 Z t1 t2 k1 k2 y0 h0 n0) s ({ frames := 0, cells := 0, slots := 0, locals := 0 } : Room).cells ({ frames := 0, cells := 0, slots := 0, locals := 0 } : Room).slots s₁ (entryFrame m #[(.ref t1), (.ref t2)] 3)
  rw [ef_leq_0_1 m t1 t2]
  refine own_by (T' := s₁) (g' := (mkF m 1 #[.val (.ref t1), .val (.ref t2), .unset] [(.ref t1)])) (fun _ k => XS.aloadN X0.here hx rfl (hb hby d12_0) rfl rfl k) ?_
  obtain ⟨cl21, Ar21, q21, S21, N_21, H21, G21⟩ := id V_t1
  refine own_by (T' := s₁) (g' := (mkF m 2 #[.val (.ref t1), .val (.ref t2), .unset] [(.int (0 : Int32))])) (fun _ k => X0.arraylength hx (by rw [e0]; exact Ar21.1) (State.isArrayOf_alike hZ.alike Ar21.2.1) (g := (mkF m 1 #[.val (.ref t1), .val (.ref t2), .unset] [(.ref t1)])) rfl rfl (hb hby d12_1) _ (by rw [len_of S21 N_21]; exact k)) ?_
  refine own_by (T' := s₁) (g' := (mkF m 3 #[.val (.ref t1), .val (.ref t2), .unset] [(.ref t2), (.int (0 : Int32))])) (fun _ k => XS.aloadN X0.here hx rfl (hb hby d12_2) rfl rfl k) ?_
  obtain ⟨cl22, Ar22, q22, S22, N_22, H22, G22⟩ := id V_t2
  refine own_by (T' := s₁) (g' := (mkF m 4 #[.val (.ref t1), .val (.ref t2), .unset] [(.int (1 : Int32)), (.int (0 : Int32))])) (fun _ k => X0.arraylength hx (by rw [e0]; exact Ar22.1) (State.isArrayOf_alike hZ.alike Ar22.2.1) (g := (mkF m 3 #[.val (.ref t1), .val (.ref t2), .unset] [(.ref t2), (.int (0 : Int32))])) rfl rfl (hb hby d12_3) _ (by rw [len_of S22 N_22]; exact k)) ?_
  refine own_by (T' := s₁) (g' := (mkF m 34 #[.val (.ref t1), .val (.ref t2), .unset] [])) (fun _ k => XS.icmpYes X0.here hx rfl (pc0 := 4) (pc' := 34) rfl (hb hby d12_4) rfl (feq (by decide)).2 (by decide) (by decide) k) ?_
  refine own_by (T' := s₁) (g' := (mkF m 35 #[.val (.ref t1), .val (.ref t2), .unset] [(.int (0 : Int32))])) (fun _ k => XS.iconst X0.here hx rfl (hb hby d12_34) k) ?_
  refine own_ret X0 hlk (v := some (.int (0 : Int32))) (fun h => by rw [Bd.returns] at h; cases h) (fun fs hr => retN X0 hx (t := .boolean) Bd.returns (by simp) (hb hby d12_35) hr) ?_ (by decide) (by decide)
  rw [e0]
  exact ⟨congrArg (fun z => some (Value.int z)) rfl, N0, rfl⟩
theorem d11_0 : decode jdk_42_method_66_code 0 = .ok (.aload_n 0, 1) := by decide +kernel
theorem d11_1 : decode jdk_42_method_66_code 1 = .ok (.aload_n 1, 1) := by decide +kernel
theorem d11_2 : decode jdk_42_method_66_code 2 = .ok (.if_acmp .ne 5, 3) := by decide +kernel
theorem d11_7 : decode jdk_42_method_66_code 7 = .ok (.aload_n 1, 1) := by decide +kernel
theorem d11_8 : decode jdk_42_method_66_code 8 = .ok (.instanceof 10, 3) := by decide +kernel
theorem d11_11 : decode jdk_42_method_66_code 11 = .ok (.ifCond .eq 43, 3) := by decide +kernel
theorem d11_14 : decode jdk_42_method_66_code 14 = .ok (.aload_n 1, 1) := by decide +kernel
theorem d11_15 : decode jdk_42_method_66_code 15 = .ok (.checkcast 10, 3) := by decide +kernel
theorem d11_18 : decode jdk_42_method_66_code 18 = .ok (.astore_n 2, 1) := by decide +kernel
theorem d11_19 : decode jdk_42_method_66_code 19 = .ok (.getstatic 38, 3) := by decide +kernel
theorem d11_22 : decode jdk_42_method_66_code 22 = .ok (.ifCond .eq 14, 3) := by decide +kernel
theorem d11_25 : decode jdk_42_method_66_code 25 = .ok (.aload_n 0, 1) := by decide +kernel
theorem d11_26 : decode jdk_42_method_66_code 26 = .ok (.getfield 15, 3) := by decide +kernel
theorem d11_29 : decode jdk_42_method_66_code 29 = .ok (.aload_n 2, 1) := by decide +kernel
theorem d11_30 : decode jdk_42_method_66_code 30 = .ok (.getfield 15, 3) := by decide +kernel
theorem d11_33 : decode jdk_42_method_66_code 33 = .ok (.if_icmp .ne 21, 3) := by decide +kernel
theorem d11_36 : decode jdk_42_method_66_code 36 = .ok (.aload_n 0, 1) := by decide +kernel
theorem d11_37 : decode jdk_42_method_66_code 37 = .ok (.getfield 9, 3) := by decide +kernel
theorem d11_40 : decode jdk_42_method_66_code 40 = .ok (.aload_n 2, 1) := by decide +kernel
theorem d11_41 : decode jdk_42_method_66_code 41 = .ok (.getfield 9, 3) := by decide +kernel
theorem d11_44 : decode jdk_42_method_66_code 44 = .ok (.invokestatic 541, 3) := by decide +kernel
theorem d11_47 : decode jdk_42_method_66_code 47 = .ok (.ifCond .eq 7, 3) := by decide +kernel
theorem d11_54 : decode jdk_42_method_66_code 54 = .ok (.iconst 0, 1) := by decide +kernel
theorem d11_55 : decode jdk_42_method_66_code 55 = .ok (.ireturn, 1) := by decide +kernel
theorem pn_11 : plainName "java/lang/String" = true := by first | (simp [plainName, overriddenIn]; done) | decide +kernel
theorem ef_seq_0_1 (m : MethodId) (a : Addr) (b : Addr) : entryFrame m #[(.ref a), (.ref b)] 3 = mkF m 0 #[.val (.ref a), .val (.ref b), .unset] [] := by first | (simp [entryFrame, mkF, argsToLocals, Value.category]; done) | rfl
def Q_seq_0_1 (Z : State) (a : Addr) (b : Addr) (t1 : Addr) (t2 : Addr) (k1 : ClassId) (k2 : ClassId) (cs : Int32) (y0 : Int32) (h0 : Heap) (n0 : Nat) (v : Option Value) (h : Heap) (L : List Loc) : Prop := v = some (.int (0 : Int32)) ∧ Fr n0 L ∧ h = h0
set_option maxRecDepth 65536 in
set_option maxHeartbeats 40000000 in
theorem seq_0_1 (l : Launch) (Z : State) (a0 : Array Value) (hw : ∀ d ∈ tables_1, d.before a0 Z = true) (ws : List Jvm.Cond) (a : Addr) (b : Addr) (t1 : Addr) (t2 : Addr) (k1 : ClassId) (k2 : ClassId) (cs : Int32) (y0 : Int32) (h0 : Heap) (n0 : Nat) (Z0 : n0 ≤ h0.size) (E_b : Exa Z h0 b "java/lang/String") (F_coder_a : Fld Z h0 a "java/lang/String" "coder" "B" (.int (0 : Int32))) (F_coder_b : Fld Z h0 b "java/lang/String" "coder" "B" (.int (0 : Int32))) (F_value_a : Fld Z h0 a "java/lang/String" "value" "[B" (.ref t1)) (F_value_b : Fld Z h0 b "java/lang/String" "value" "[B" (.ref t2)) (V_t1 : Arv Z h0 t1 k1 .byte (0 : Int32) [] (.int (0 : Int32))) (V_t2 : Arv Z h0 t2 k2 .byte (1 : Int32) [(.int y0)] (.int (0 : Int32))) (S_CS : Sta Z h0 "java/lang/String" "COMPACT_STRINGS" "Z" (.int cs)) (hcs : ¬ cs = (0 : Int32)) (nab : a ≠ b) :
    MetFree l (⟨"java/lang/String", "equals", "(Ljava/lang/Object;)Z"⟩ : MethodName) (head1 (Jvm.Cond.code (⟨"java/lang/String", "equals", "(Ljava/lang/Object;)Z"⟩ : MethodName) jdk_42_method_66_code 3 (some .boolean) :: ws) ({ frames := 1, cells := 0, slots := 0, locals := 14 } : Room)) (fun zz UU => zz = #[(.ref a), (.ref b)] ∧ Z.Warmed39 UU.vm ∧ UU.heap = h0) (fun _ _ _ _ _ => True) (fun _ U o U' => ∃ v L, o = .returned v ∧ Q_seq_0_1 Z a b t1 t2 k1 k2 cs y0 h0 n0 v U'.heap L ∧ FrameEnd U o U' L ({ frames := 1, cells := 0, slots := 0, locals := 14 } : Room).cells ({ frames := 1, cells := 0, slots := 0, locals := 14 } : Room).slots) := by
  refine MetFree.of_bodySF (plainFor_of_name pn_11) hisR ?_
  intro p e s m args below meth c s₁ Bd hml0 hP hK
  obtain ⟨rfl, hZ, hh⟩ := hP
  have hx := Bd.exec
  have hby := Bd.bytes
  have hml : c.maxLocals = 3 := hml0
  have hown : s.vm.findClass "java/lang/String" = some m.cls := findClass_of_methodNamed Bd.named
  have hnm := (name_of_methodNamed Bd.named Bd.method).1
  have hlk : meth.locks = false := BodyLoose.notSynchronized Bd
  have X0 : Stand p l e ({ frames := 1, cells := 0, slots := 0, locals := 14 } : Room) s m #[(.ref a), (.ref b)] below meth c s₁ [] 0 0 := Stand.of_body Bd
  have e0 : s₁.heap = h0 := by rw [← hh, Bd.state]; rfl
  have N0 := Fr.nil n0
  show own_Go p.tables e below (Q_seq_0_1 Z a b t1 t2 k1 k2 cs y0 h0 n0) s ({ frames := 1, cells := 0, slots := 0, locals := 14 } : Room).cells ({ frames := 1, cells := 0, slots := 0, locals := 14 } : Room).slots s₁ (entryFrame m #[(.ref a), (.ref b)] 3)
  rw [ef_seq_0_1 m a b]
  refine own_by (T' := s₁) (g' := (mkF m 1 #[.val (.ref a), .val (.ref b), .unset] [(.ref a)])) (fun _ k => XS.aloadN X0.here hx rfl (hb hby d11_0) rfl rfl k) ?_
  refine own_by (T' := s₁) (g' := (mkF m 2 #[.val (.ref a), .val (.ref b), .unset] [(.ref b), (.ref a)])) (fun _ k => XS.aloadN X0.here hx rfl (hb hby d11_1) rfl rfl k) ?_
  refine own_by (T' := s₁) (g' := (mkF m 7 #[.val (.ref a), .val (.ref b), .unset] [])) (fun _ k => Jvm.RoadKit.acmp (g := (mkF m 2 #[.val (.ref a), .val (.ref b), .unset] [(.ref b), (.ref a)])) X0 hx rfl rfl rfl (pc0 := 2) (pc' := 7) (same := false) rfl (hb hby d11_2) rfl (decide_eq_false fun q => nab (Value.ref.inj q)) (by decide) (by decide) k) ?_
  refine own_by (T' := s₁) (g' := (mkF m 8 #[.val (.ref a), .val (.ref b), .unset] [(.ref b)])) (fun _ k => XS.aloadN X0.here hx rfl (hb hby d11_7) rfl rfl k) ?_
  obtain ⟨T21, X21, e21, st21⟩ := instY X0 hx hZ hown (hw _ (List.mem_of_getElem? (i := 68) rfl)) e0 (Ins.self E_b) (g := (mkF m 8 #[.val (.ref a), .val (.ref b), .unset] [(.ref b)])) rfl rfl (hb hby d11_8)
  refine own_by (T' := T21) (g' := (mkF m 11 #[.val (.ref a), .val (.ref b), .unset] [(.int (1 : Int32))])) (fun _ k => st21 _ k) ?_
  refine own_by (T' := T21) (g' := (mkF m 14 #[.val (.ref a), .val (.ref b), .unset] [])) (fun _ k => XS.ifNo X21.here hx rfl (hb hby d11_11) rfl ((if0 _ _).trans (feq (by decide)).1) k) ?_
  refine own_by (T' := T21) (g' := (mkF m 15 #[.val (.ref a), .val (.ref b), .unset] [(.ref b)])) (fun _ k => XS.aloadN X21.here hx rfl (hb hby d11_14) rfl rfl k) ?_
  obtain ⟨T22, X22, e22, st22⟩ := castY X21 hx hZ hown (hw _ (List.mem_of_getElem? (i := 68) rfl)) e21 (Ins.self E_b) (g := (mkF m 15 #[.val (.ref a), .val (.ref b), .unset] [(.ref b)])) rfl rfl (hb hby d11_15)
  refine own_by (T' := T22) (g' := (mkF m 18 #[.val (.ref a), .val (.ref b), .unset] [(.ref b)])) (fun _ k => st22 _ k) ?_
  refine own_by (T' := T22) (g' := (mkF m 19 #[.val (.ref a), .val (.ref b), .val (.ref b)] [])) (fun _ k => XS.astoreN X22.here hx rfl (hb hby d11_18) rfl rfl (l' := #[.val (.ref a), .val (.ref b), .val (.ref b)]) rfl k) ?_
  obtain ⟨T23, X23, e23, st23⟩ := getS2 X22 hx hZ hown (host := "") (Or.inl (hw _ (List.mem_of_getElem? (i := 69) rfl))) Via.refl e22 S_CS (g := (mkF m 19 #[.val (.ref a), .val (.ref b), .val (.ref b)] [])) rfl (hb hby d11_19)
  refine own_by (T' := T23) (g' := (mkF m 22 #[.val (.ref a), .val (.ref b), .val (.ref b)] [(.int cs)])) (fun _ k => st23 _ k) ?_
  refine own_by (T' := T23) (g' := (mkF m 25 #[.val (.ref a), .val (.ref b), .val (.ref b)] [])) (fun _ k => XS.ifNo X23.here hx rfl (hb hby d11_22) rfl ((if0 _ _).trans (feq hcs).1) k) ?_
  refine own_by (T' := T23) (g' := (mkF m 26 #[.val (.ref a), .val (.ref b), .val (.ref b)] [(.ref a)])) (fun _ k => XS.aloadN X23.here hx rfl (hb hby d11_25) rfl rfl k) ?_
  obtain ⟨T24, X24, e24, st24⟩ := getF X23 hx hZ hown (host := "") (Or.inl (hw _ (List.mem_of_getElem? (i := 28) rfl))) Via.refl e23 F_coder_a (g := (mkF m 26 #[.val (.ref a), .val (.ref b), .val (.ref b)] [(.ref a)])) rfl rfl (hb hby d11_26)
  refine own_by (T' := T24) (g' := (mkF m 29 #[.val (.ref a), .val (.ref b), .val (.ref b)] [(.int (0 : Int32))])) (fun _ k => st24 _ k) ?_
  refine own_by (T' := T24) (g' := (mkF m 30 #[.val (.ref a), .val (.ref b), .val (.ref b)] [(.ref b), (.int (0 : Int32))])) (fun _ k => XS.aloadN X24.here hx rfl (hb hby d11_29) rfl rfl k) ?_
  obtain ⟨T25, X25, e25, st25⟩ := getF X24 hx hZ hown (host := "") (Or.inl (hw _ (List.mem_of_getElem? (i := 28) rfl))) Via.refl e24 F_coder_b (g := (mkF m 30 #[.val (.ref a), .val (.ref b), .val (.ref b)] [(.ref b), (.int (0 : Int32))])) rfl rfl (hb hby d11_30)
  refine own_by (T' := T25) (g' := (mkF m 33 #[.val (.ref a), .val (.ref b), .val (.ref b)] [(.int (0 : Int32)), (.int (0 : Int32))])) (fun _ k => st25 _ k) ?_
  refine own_by (T' := T25) (g' := (mkF m 36 #[.val (.ref a), .val (.ref b), .val (.ref b)] [])) (fun _ k => XS.icmpNo X25.here hx rfl (hb hby d11_33) rfl (teq (by decide)).2 k) ?_
  refine own_by (T' := T25) (g' := (mkF m 37 #[.val (.ref a), .val (.ref b), .val (.ref b)] [(.ref a)])) (fun _ k => XS.aloadN X25.here hx rfl (hb hby d11_36) rfl rfl k) ?_
  obtain ⟨T26, X26, e26, st26⟩ := getF X25 hx hZ hown (host := "") (Or.inl (hw _ (List.mem_of_getElem? (i := 27) rfl))) Via.refl e25 F_value_a (g := (mkF m 37 #[.val (.ref a), .val (.ref b), .val (.ref b)] [(.ref a)])) rfl rfl (hb hby d11_37)
  refine own_by (T' := T26) (g' := (mkF m 40 #[.val (.ref a), .val (.ref b), .val (.ref b)] [(.ref t1)])) (fun _ k => st26 _ k) ?_
  refine own_by (T' := T26) (g' := (mkF m 41 #[.val (.ref a), .val (.ref b), .val (.ref b)] [(.ref b), (.ref t1)])) (fun _ k => XS.aloadN X26.here hx rfl (hb hby d11_40) rfl rfl k) ?_
  obtain ⟨T27, X27, e27, st27⟩ := getF X26 hx hZ hown (host := "") (Or.inl (hw _ (List.mem_of_getElem? (i := 27) rfl))) Via.refl e26 F_value_b (g := (mkF m 41 #[.val (.ref a), .val (.ref b), .val (.ref b)] [(.ref b), (.ref t1)])) rfl rfl (hb hby d11_41)
  refine own_by (T' := T27) (g' := (mkF m 44 #[.val (.ref a), .val (.ref b), .val (.ref b)] [(.ref t2), (.ref t1)])) (fun _ k => st27 _ k) ?_
  obtain ⟨_, _, ⟨T28, L28, k28, n28⟩, -, X28, ⟨Lc28, hQ28, l28, y28, z28⟩, st28⟩ := Jvm.LawKit.callS X27 hx (y := (⟨"java/lang/StringLatin1", "equals", "([B[B)Z"⟩ : MethodName)) hown (mvT hZ (hw _ (List.mem_of_getElem? (i := 70) rfl))) (mvT hZ (hw _ (List.mem_of_getElem? (i := 71) rfl))) (mvT hZ (hw _ (List.mem_of_getElem? (i := 72) rfl))) (mvT hZ (hw _ (List.mem_of_getElem? (i := 73) rfl))) (by decide) (backOf (W := 0) (leq_0_1 l Z a0 hw [] t1 t2 k1 k2 y0 h0 n0 Z0 V_t1 V_t2) hZ (hw _ (List.mem_of_getElem? (i := 73) rfl)) (hw _ (List.mem_of_getElem? (i := 72) rfl)) (by decide) (by decide)) (g := (mkF m 44 #[.val (.ref a), .val (.ref b), .val (.ref b)] [(.ref t2), (.ref t1)])) rfl (by rw [hml]; rfl) (argsL := [(.ref t1), (.ref t2)]) (rest := []) (lenOf pd_7 rfl) rfl (by show 2 * 0 + _ ≤ _; exact Nat.le_of_eq rfl) (hb hby d11_44) (fun _ _ => ⟨rfl, e27, (by decide : 0 + 0 ≤ _), (by decide : 0 + 0 ≤ _)⟩)
  dsimp only [Pt.U, Pt.locs, Pt.cells, Pt.slots] at X28 l28 y28 z28 st28 hQ28
  subst l28 y28 z28
  obtain ⟨rfl, N28q, e28⟩ := hQ28
  have N28 := Fr.app N0 N28q
  refine own_by (T' := T28) (g' := (mkF m 47 #[.val (.ref a), .val (.ref b), .val (.ref b)] [(.int (0 : Int32))])) (fun _ k => st28 _ k) ?_
  refine own_by (T' := T28) (g' := (mkF m 54 #[.val (.ref a), .val (.ref b), .val (.ref b)] [])) (fun _ k => XS.ifYes X28.here hx rfl (pc0 := 47) (pc' := 54) rfl (hb hby d11_47) rfl ((if0 _ _).trans (teq (by decide)).1) (by decide) (by decide) k) ?_
  refine own_by (T' := T28) (g' := (mkF m 55 #[.val (.ref a), .val (.ref b), .val (.ref b)] [(.int (0 : Int32))])) (fun _ k => XS.iconst X28.here hx rfl (hb hby d11_54) k) ?_
  refine own_ret X28 hlk (v := some (.int (0 : Int32))) (fun h => by rw [Bd.returns] at h; cases h) (fun fs hr => retN X28 hx (t := .boolean) Bd.returns (by simp) (hb hby d11_55) hr) ?_ (by decide) (by decide)
  rw [e28]
  exact ⟨congrArg (fun z => some (Value.int z)) rfl, N28, rfl⟩
theorem ef_leq_2_1 (m : MethodId) (t1 : Addr) (t2 : Addr) : entryFrame m #[(.ref t1), (.ref t2)] 3 = mkF m 0 #[.val (.ref t1), .val (.ref t2), .unset] [] := by first | (simp [entryFrame, mkF, argsToLocals, Value.category]; done) | rfl
def Q_leq_2_1 (Z : State) (t1 : Addr) (t2 : Addr) (k1 : ClassId) (k2 : ClassId) (x0 : Int32) (x1 : Int32) (y0 : Int32) (h0 : Heap) (n0 : Nat) (v : Option Value) (h : Heap) (L : List Loc) : Prop := v = some (.int (0 : Int32)) ∧ Fr n0 L ∧ h = h0
set_option maxRecDepth 65536 in
set_option maxHeartbeats 40000000 in
theorem leq_2_1 (l : Launch) (Z : State) (a0 : Array Value) (hw : ∀ d ∈ tables_1, d.before a0 Z = true) (ws : List Jvm.Cond) (t1 : Addr) (t2 : Addr) (k1 : ClassId) (k2 : ClassId) (x0 : Int32) (x1 : Int32) (y0 : Int32) (h0 : Heap) (n0 : Nat) (Z0 : n0 ≤ h0.size) (V_t1 : Arv Z h0 t1 k1 .byte (2 : Int32) [(.int x0), (.int x1)] (.int (0 : Int32))) (V_t2 : Arv Z h0 t2 k2 .byte (1 : Int32) [(.int y0)] (.int (0 : Int32))) :
    MetFree l (⟨"java/lang/StringLatin1", "equals", "([B[B)Z"⟩ : MethodName) (head1 (Jvm.Cond.code (⟨"java/lang/StringLatin1", "equals", "([B[B)Z"⟩ : MethodName) jdk_43_method_13_code 3 (some .boolean) :: ws) ({ frames := 0, cells := 0, slots := 0, locals := 0 } : Room)) (fun zz UU => zz = #[(.ref t1), (.ref t2)] ∧ Z.Warmed39 UU.vm ∧ UU.heap = h0) (fun _ _ _ _ _ => True) (fun _ U o U' => ∃ v L, o = .returned v ∧ Q_leq_2_1 Z t1 t2 k1 k2 x0 x1 y0 h0 n0 v U'.heap L ∧ FrameEnd U o U' L ({ frames := 0, cells := 0, slots := 0, locals := 0 } : Room).cells ({ frames := 0, cells := 0, slots := 0, locals := 0 } : Room).slots) := by
  refine MetFree.of_bodySF (plainFor_of_name pn_12) hisR ?_
  intro p e s m args below meth c s₁ Bd hml0 hP hK
  obtain ⟨rfl, hZ, hh⟩ := hP
  have hx := Bd.exec
  have hby := Bd.bytes
  have hml : c.maxLocals = 3 := hml0
  have hown : s.vm.findClass "java/lang/StringLatin1" = some m.cls := findClass_of_methodNamed Bd.named
  have hnm := (name_of_methodNamed Bd.named Bd.method).1
  have hlk : meth.locks = false := BodyLoose.notSynchronized Bd
  have X0 : Stand p l e ({ frames := 0, cells := 0, slots := 0, locals := 0 } : Room) s m #[(.ref t1), (.ref t2)] below meth c s₁ [] 0 0 := Stand.of_body Bd
  have e0 : s₁.heap = h0 := by rw [← hh, Bd.state]; rfl
  have N0 := Fr.nil n0
  show own_Go p.tables e below (Q_leq_2_1 Z t1 t2 k1 k2 x0 x1 y0 h0 n0) s ({ frames := 0, cells := 0, slots := 0, locals := 0 } : Room).cells ({ frames := 0, cells := 0, slots := 0, locals := 0 } : Room).slots s₁ (entryFrame m #[(.ref t1), (.ref t2)] 3)
  rw [ef_leq_2_1 m t1 t2]
  refine own_by (T' := s₁) (g' := (mkF m 1 #[.val (.ref t1), .val (.ref t2), .unset] [(.ref t1)])) (fun _ k => XS.aloadN X0.here hx rfl (hb hby d12_0) rfl rfl k) ?_
  obtain ⟨cl21, Ar21, q21, S21, N_21, H21, G21⟩ := id V_t1
  refine own_by (T' := s₁) (g' := (mkF m 2 #[.val (.ref t1), .val (.ref t2), .unset] [(.int (2 : Int32))])) (fun _ k => X0.arraylength hx (by rw [e0]; exact Ar21.1) (State.isArrayOf_alike hZ.alike Ar21.2.1) (g := (mkF m 1 #[.val (.ref t1), .val (.ref t2), .unset] [(.ref t1)])) rfl rfl (hb hby d12_1) _ (by rw [len_of S21 N_21]; exact k)) ?_
  refine own_by (T' := s₁) (g' := (mkF m 3 #[.val (.ref t1), .val (.ref t2), .unset] [(.ref t2), (.int (2 : Int32))])) (fun _ k => XS.aloadN X0.here hx rfl (hb hby d12_2) rfl rfl k) ?_
  obtain ⟨cl22, Ar22, q22, S22, N_22, H22, G22⟩ := id V_t2
  refine own_by (T' := s₁) (g' := (mkF m 4 #[.val (.ref t1), .val (.ref t2), .unset] [(.int (1 : Int32)), (.int (2 : Int32))])) (fun _ k => X0.arraylength hx (by rw [e0]; exact Ar22.1) (State.isArrayOf_alike hZ.alike Ar22.2.1) (g := (mkF m 3 #[.val (.ref t1), .val (.ref t2), .unset] [(.ref t2), (.int (2 : Int32))])) rfl rfl (hb hby d12_3) _ (by rw [len_of S22 N_22]; exact k)) ?_
  refine own_by (T' := s₁) (g' := (mkF m 34 #[.val (.ref t1), .val (.ref t2), .unset] [])) (fun _ k => XS.icmpYes X0.here hx rfl (pc0 := 4) (pc' := 34) rfl (hb hby d12_4) rfl (feq (by decide)).2 (by decide) (by decide) k) ?_
  refine own_by (T' := s₁) (g' := (mkF m 35 #[.val (.ref t1), .val (.ref t2), .unset] [(.int (0 : Int32))])) (fun _ k => XS.iconst X0.here hx rfl (hb hby d12_34) k) ?_
  refine own_ret X0 hlk (v := some (.int (0 : Int32))) (fun h => by rw [Bd.returns] at h; cases h) (fun fs hr => retN X0 hx (t := .boolean) Bd.returns (by simp) (hb hby d12_35) hr) ?_ (by decide) (by decide)
  rw [e0]
  exact ⟨congrArg (fun z => some (Value.int z)) rfl, N0, rfl⟩
theorem ef_seq_2_1 (m : MethodId) (a : Addr) (b : Addr) : entryFrame m #[(.ref a), (.ref b)] 3 = mkF m 0 #[.val (.ref a), .val (.ref b), .unset] [] := by first | (simp [entryFrame, mkF, argsToLocals, Value.category]; done) | rfl
def Q_seq_2_1 (Z : State) (a : Addr) (b : Addr) (t1 : Addr) (t2 : Addr) (k1 : ClassId) (k2 : ClassId) (cs : Int32) (x0 : Int32) (x1 : Int32) (y0 : Int32) (h0 : Heap) (n0 : Nat) (v : Option Value) (h : Heap) (L : List Loc) : Prop := v = some (.int (0 : Int32)) ∧ Fr n0 L ∧ h = h0
set_option maxRecDepth 65536 in
set_option maxHeartbeats 40000000 in
theorem seq_2_1 (l : Launch) (Z : State) (a0 : Array Value) (hw : ∀ d ∈ tables_1, d.before a0 Z = true) (ws : List Jvm.Cond) (a : Addr) (b : Addr) (t1 : Addr) (t2 : Addr) (k1 : ClassId) (k2 : ClassId) (cs : Int32) (x0 : Int32) (x1 : Int32) (y0 : Int32) (h0 : Heap) (n0 : Nat) (Z0 : n0 ≤ h0.size) (E_b : Exa Z h0 b "java/lang/String") (F_coder_a : Fld Z h0 a "java/lang/String" "coder" "B" (.int (0 : Int32))) (F_coder_b : Fld Z h0 b "java/lang/String" "coder" "B" (.int (0 : Int32))) (F_value_a : Fld Z h0 a "java/lang/String" "value" "[B" (.ref t1)) (F_value_b : Fld Z h0 b "java/lang/String" "value" "[B" (.ref t2)) (V_t1 : Arv Z h0 t1 k1 .byte (2 : Int32) [(.int x0), (.int x1)] (.int (0 : Int32))) (V_t2 : Arv Z h0 t2 k2 .byte (1 : Int32) [(.int y0)] (.int (0 : Int32))) (S_CS : Sta Z h0 "java/lang/String" "COMPACT_STRINGS" "Z" (.int cs)) (hcs : ¬ cs = (0 : Int32)) (nab : a ≠ b) :
    MetFree l (⟨"java/lang/String", "equals", "(Ljava/lang/Object;)Z"⟩ : MethodName) (head1 (Jvm.Cond.code (⟨"java/lang/String", "equals", "(Ljava/lang/Object;)Z"⟩ : MethodName) jdk_42_method_66_code 3 (some .boolean) :: ws) ({ frames := 1, cells := 0, slots := 0, locals := 14 } : Room)) (fun zz UU => zz = #[(.ref a), (.ref b)] ∧ Z.Warmed39 UU.vm ∧ UU.heap = h0) (fun _ _ _ _ _ => True) (fun _ U o U' => ∃ v L, o = .returned v ∧ Q_seq_2_1 Z a b t1 t2 k1 k2 cs x0 x1 y0 h0 n0 v U'.heap L ∧ FrameEnd U o U' L ({ frames := 1, cells := 0, slots := 0, locals := 14 } : Room).cells ({ frames := 1, cells := 0, slots := 0, locals := 14 } : Room).slots) := by
  refine MetFree.of_bodySF (plainFor_of_name pn_11) hisR ?_
  intro p e s m args below meth c s₁ Bd hml0 hP hK
  obtain ⟨rfl, hZ, hh⟩ := hP
  have hx := Bd.exec
  have hby := Bd.bytes
  have hml : c.maxLocals = 3 := hml0
  have hown : s.vm.findClass "java/lang/String" = some m.cls := findClass_of_methodNamed Bd.named
  have hnm := (name_of_methodNamed Bd.named Bd.method).1
  have hlk : meth.locks = false := BodyLoose.notSynchronized Bd
  have X0 : Stand p l e ({ frames := 1, cells := 0, slots := 0, locals := 14 } : Room) s m #[(.ref a), (.ref b)] below meth c s₁ [] 0 0 := Stand.of_body Bd
  have e0 : s₁.heap = h0 := by rw [← hh, Bd.state]; rfl
  have N0 := Fr.nil n0
  show own_Go p.tables e below (Q_seq_2_1 Z a b t1 t2 k1 k2 cs x0 x1 y0 h0 n0) s ({ frames := 1, cells := 0, slots := 0, locals := 14 } : Room).cells ({ frames := 1, cells := 0, slots := 0, locals := 14 } : Room).slots s₁ (entryFrame m #[(.ref a), (.ref b)] 3)
  rw [ef_seq_2_1 m a b]
  refine own_by (T' := s₁) (g' := (mkF m 1 #[.val (.ref a), .val (.ref b), .unset] [(.ref a)])) (fun _ k => XS.aloadN X0.here hx rfl (hb hby d11_0) rfl rfl k) ?_
  refine own_by (T' := s₁) (g' := (mkF m 2 #[.val (.ref a), .val (.ref b), .unset] [(.ref b), (.ref a)])) (fun _ k => XS.aloadN X0.here hx rfl (hb hby d11_1) rfl rfl k) ?_
  refine own_by (T' := s₁) (g' := (mkF m 7 #[.val (.ref a), .val (.ref b), .unset] [])) (fun _ k => Jvm.RoadKit.acmp (g := (mkF m 2 #[.val (.ref a), .val (.ref b), .unset] [(.ref b), (.ref a)])) X0 hx rfl rfl rfl (pc0 := 2) (pc' := 7) (same := false) rfl (hb hby d11_2) rfl (decide_eq_false fun q => nab (Value.ref.inj q)) (by decide) (by decide) k) ?_
  refine own_by (T' := s₁) (g' := (mkF m 8 #[.val (.ref a), .val (.ref b), .unset] [(.ref b)])) (fun _ k => XS.aloadN X0.here hx rfl (hb hby d11_7) rfl rfl k) ?_
  obtain ⟨T21, X21, e21, st21⟩ := instY X0 hx hZ hown (hw _ (List.mem_of_getElem? (i := 68) rfl)) e0 (Ins.self E_b) (g := (mkF m 8 #[.val (.ref a), .val (.ref b), .unset] [(.ref b)])) rfl rfl (hb hby d11_8)
  refine own_by (T' := T21) (g' := (mkF m 11 #[.val (.ref a), .val (.ref b), .unset] [(.int (1 : Int32))])) (fun _ k => st21 _ k) ?_
  refine own_by (T' := T21) (g' := (mkF m 14 #[.val (.ref a), .val (.ref b), .unset] [])) (fun _ k => XS.ifNo X21.here hx rfl (hb hby d11_11) rfl ((if0 _ _).trans (feq (by decide)).1) k) ?_
  refine own_by (T' := T21) (g' := (mkF m 15 #[.val (.ref a), .val (.ref b), .unset] [(.ref b)])) (fun _ k => XS.aloadN X21.here hx rfl (hb hby d11_14) rfl rfl k) ?_
  obtain ⟨T22, X22, e22, st22⟩ := castY X21 hx hZ hown (hw _ (List.mem_of_getElem? (i := 68) rfl)) e21 (Ins.self E_b) (g := (mkF m 15 #[.val (.ref a), .val (.ref b), .unset] [(.ref b)])) rfl rfl (hb hby d11_15)
  refine own_by (T' := T22) (g' := (mkF m 18 #[.val (.ref a), .val (.ref b), .unset] [(.ref b)])) (fun _ k => st22 _ k) ?_
  refine own_by (T' := T22) (g' := (mkF m 19 #[.val (.ref a), .val (.ref b), .val (.ref b)] [])) (fun _ k => XS.astoreN X22.here hx rfl (hb hby d11_18) rfl rfl (l' := #[.val (.ref a), .val (.ref b), .val (.ref b)]) rfl k) ?_
  obtain ⟨T23, X23, e23, st23⟩ := getS2 X22 hx hZ hown (host := "") (Or.inl (hw _ (List.mem_of_getElem? (i := 69) rfl))) Via.refl e22 S_CS (g := (mkF m 19 #[.val (.ref a), .val (.ref b), .val (.ref b)] [])) rfl (hb hby d11_19)
  refine own_by (T' := T23) (g' := (mkF m 22 #[.val (.ref a), .val (.ref b), .val (.ref b)] [(.int cs)])) (fun _ k => st23 _ k) ?_
  refine own_by (T' := T23) (g' := (mkF m 25 #[.val (.ref a), .val (.ref b), .val (.ref b)] [])) (fun _ k => XS.ifNo X23.here hx rfl (hb hby d11_22) rfl ((if0 _ _).trans (feq hcs).1) k) ?_
  refine own_by (T' := T23) (g' := (mkF m 26 #[.val (.ref a), .val (.ref b), .val (.ref b)] [(.ref a)])) (fun _ k => XS.aloadN X23.here hx rfl (hb hby d11_25) rfl rfl k) ?_
  obtain ⟨T24, X24, e24, st24⟩ := getF X23 hx hZ hown (host := "") (Or.inl (hw _ (List.mem_of_getElem? (i := 28) rfl))) Via.refl e23 F_coder_a (g := (mkF m 26 #[.val (.ref a), .val (.ref b), .val (.ref b)] [(.ref a)])) rfl rfl (hb hby d11_26)
  refine own_by (T' := T24) (g' := (mkF m 29 #[.val (.ref a), .val (.ref b), .val (.ref b)] [(.int (0 : Int32))])) (fun _ k => st24 _ k) ?_
  refine own_by (T' := T24) (g' := (mkF m 30 #[.val (.ref a), .val (.ref b), .val (.ref b)] [(.ref b), (.int (0 : Int32))])) (fun _ k => XS.aloadN X24.here hx rfl (hb hby d11_29) rfl rfl k) ?_
  obtain ⟨T25, X25, e25, st25⟩ := getF X24 hx hZ hown (host := "") (Or.inl (hw _ (List.mem_of_getElem? (i := 28) rfl))) Via.refl e24 F_coder_b (g := (mkF m 30 #[.val (.ref a), .val (.ref b), .val (.ref b)] [(.ref b), (.int (0 : Int32))])) rfl rfl (hb hby d11_30)
  refine own_by (T' := T25) (g' := (mkF m 33 #[.val (.ref a), .val (.ref b), .val (.ref b)] [(.int (0 : Int32)), (.int (0 : Int32))])) (fun _ k => st25 _ k) ?_
  refine own_by (T' := T25) (g' := (mkF m 36 #[.val (.ref a), .val (.ref b), .val (.ref b)] [])) (fun _ k => XS.icmpNo X25.here hx rfl (hb hby d11_33) rfl (teq (by decide)).2 k) ?_
  refine own_by (T' := T25) (g' := (mkF m 37 #[.val (.ref a), .val (.ref b), .val (.ref b)] [(.ref a)])) (fun _ k => XS.aloadN X25.here hx rfl (hb hby d11_36) rfl rfl k) ?_
  obtain ⟨T26, X26, e26, st26⟩ := getF X25 hx hZ hown (host := "") (Or.inl (hw _ (List.mem_of_getElem? (i := 27) rfl))) Via.refl e25 F_value_a (g := (mkF m 37 #[.val (.ref a), .val (.ref b), .val (.ref b)] [(.ref a)])) rfl rfl (hb hby d11_37)
  refine own_by (T' := T26) (g' := (mkF m 40 #[.val (.ref a), .val (.ref b), .val (.ref b)] [(.ref t1)])) (fun _ k => st26 _ k) ?_
  refine own_by (T' := T26) (g' := (mkF m 41 #[.val (.ref a), .val (.ref b), .val (.ref b)] [(.ref b), (.ref t1)])) (fun _ k => XS.aloadN X26.here hx rfl (hb hby d11_40) rfl rfl k) ?_
  obtain ⟨T27, X27, e27, st27⟩ := getF X26 hx hZ hown (host := "") (Or.inl (hw _ (List.mem_of_getElem? (i := 27) rfl))) Via.refl e26 F_value_b (g := (mkF m 41 #[.val (.ref a), .val (.ref b), .val (.ref b)] [(.ref b), (.ref t1)])) rfl rfl (hb hby d11_41)
  refine own_by (T' := T27) (g' := (mkF m 44 #[.val (.ref a), .val (.ref b), .val (.ref b)] [(.ref t2), (.ref t1)])) (fun _ k => st27 _ k) ?_
  obtain ⟨_, _, ⟨T28, L28, k28, n28⟩, -, X28, ⟨Lc28, hQ28, l28, y28, z28⟩, st28⟩ := Jvm.LawKit.callS X27 hx (y := (⟨"java/lang/StringLatin1", "equals", "([B[B)Z"⟩ : MethodName)) hown (mvT hZ (hw _ (List.mem_of_getElem? (i := 70) rfl))) (mvT hZ (hw _ (List.mem_of_getElem? (i := 71) rfl))) (mvT hZ (hw _ (List.mem_of_getElem? (i := 72) rfl))) (mvT hZ (hw _ (List.mem_of_getElem? (i := 73) rfl))) (by decide) (backOf (W := 0) (leq_2_1 l Z a0 hw [] t1 t2 k1 k2 x0 x1 y0 h0 n0 Z0 V_t1 V_t2) hZ (hw _ (List.mem_of_getElem? (i := 73) rfl)) (hw _ (List.mem_of_getElem? (i := 72) rfl)) (by decide) (by decide)) (g := (mkF m 44 #[.val (.ref a), .val (.ref b), .val (.ref b)] [(.ref t2), (.ref t1)])) rfl (by rw [hml]; rfl) (argsL := [(.ref t1), (.ref t2)]) (rest := []) (lenOf pd_7 rfl) rfl (by show 2 * 0 + _ ≤ _; exact Nat.le_of_eq rfl) (hb hby d11_44) (fun _ _ => ⟨rfl, e27, (by decide : 0 + 0 ≤ _), (by decide : 0 + 0 ≤ _)⟩)
  dsimp only [Pt.U, Pt.locs, Pt.cells, Pt.slots] at X28 l28 y28 z28 st28 hQ28
  subst l28 y28 z28
  obtain ⟨rfl, N28q, e28⟩ := hQ28
  have N28 := Fr.app N0 N28q
  refine own_by (T' := T28) (g' := (mkF m 47 #[.val (.ref a), .val (.ref b), .val (.ref b)] [(.int (0 : Int32))])) (fun _ k => st28 _ k) ?_
  refine own_by (T' := T28) (g' := (mkF m 54 #[.val (.ref a), .val (.ref b), .val (.ref b)] [])) (fun _ k => XS.ifYes X28.here hx rfl (pc0 := 47) (pc' := 54) rfl (hb hby d11_47) rfl ((if0 _ _).trans (teq (by decide)).1) (by decide) (by decide) k) ?_
  refine own_by (T' := T28) (g' := (mkF m 55 #[.val (.ref a), .val (.ref b), .val (.ref b)] [(.int (0 : Int32))])) (fun _ k => XS.iconst X28.here hx rfl (hb hby d11_54) k) ?_
  refine own_ret X28 hlk (v := some (.int (0 : Int32))) (fun h => by rw [Bd.returns] at h; cases h) (fun fs hr => retN X28 hx (t := .boolean) Bd.returns (by simp) (hb hby d11_55) hr) ?_ (by decide) (by decide)
  rw [e28]
  exact ⟨congrArg (fun z => some (Value.int z)) rfl, N28, rfl⟩
theorem ef_leq_3_1 (m : MethodId) (t1 : Addr) (t2 : Addr) : entryFrame m #[(.ref t1), (.ref t2)] 3 = mkF m 0 #[.val (.ref t1), .val (.ref t2), .unset] [] := by first | (simp [entryFrame, mkF, argsToLocals, Value.category]; done) | rfl
def Q_leq_3_1 (Z : State) (t1 : Addr) (t2 : Addr) (k1 : ClassId) (k2 : ClassId) (x0 : Int32) (x1 : Int32) (x2 : Int32) (y0 : Int32) (h0 : Heap) (n0 : Nat) (v : Option Value) (h : Heap) (L : List Loc) : Prop := v = some (.int (0 : Int32)) ∧ Fr n0 L ∧ h = h0
set_option maxRecDepth 65536 in
set_option maxHeartbeats 40000000 in
theorem leq_3_1 (l : Launch) (Z : State) (a0 : Array Value) (hw : ∀ d ∈ tables_1, d.before a0 Z = true) (ws : List Jvm.Cond) (t1 : Addr) (t2 : Addr) (k1 : ClassId) (k2 : ClassId) (x0 : Int32) (x1 : Int32) (x2 : Int32) (y0 : Int32) (h0 : Heap) (n0 : Nat) (Z0 : n0 ≤ h0.size) (V_t1 : Arv Z h0 t1 k1 .byte (3 : Int32) [(.int x0), (.int x1), (.int x2)] (.int (0 : Int32))) (V_t2 : Arv Z h0 t2 k2 .byte (1 : Int32) [(.int y0)] (.int (0 : Int32))) :
    MetFree l (⟨"java/lang/StringLatin1", "equals", "([B[B)Z"⟩ : MethodName) (head1 (Jvm.Cond.code (⟨"java/lang/StringLatin1", "equals", "([B[B)Z"⟩ : MethodName) jdk_43_method_13_code 3 (some .boolean) :: ws) ({ frames := 0, cells := 0, slots := 0, locals := 0 } : Room)) (fun zz UU => zz = #[(.ref t1), (.ref t2)] ∧ Z.Warmed39 UU.vm ∧ UU.heap = h0) (fun _ _ _ _ _ => True) (fun _ U o U' => ∃ v L, o = .returned v ∧ Q_leq_3_1 Z t1 t2 k1 k2 x0 x1 x2 y0 h0 n0 v U'.heap L ∧ FrameEnd U o U' L ({ frames := 0, cells := 0, slots := 0, locals := 0 } : Room).cells ({ frames := 0, cells := 0, slots := 0, locals := 0 } : Room).slots) := by
  refine MetFree.of_bodySF (plainFor_of_name pn_12) hisR ?_
  intro p e s m args below meth c s₁ Bd hml0 hP hK
  obtain ⟨rfl, hZ, hh⟩ := hP
  have hx := Bd.exec
  have hby := Bd.bytes
  have hml : c.maxLocals = 3 := hml0
  have hown : s.vm.findClass "java/lang/StringLatin1" = some m.cls := findClass_of_methodNamed Bd.named
  have hnm := (name_of_methodNamed Bd.named Bd.method).1
  have hlk : meth.locks = false := BodyLoose.notSynchronized Bd
  have X0 : Stand p l e ({ frames := 0, cells := 0, slots := 0, locals := 0 } : Room) s m #[(.ref t1), (.ref t2)] below meth c s₁ [] 0 0 := Stand.of_body Bd
  have e0 : s₁.heap = h0 := by rw [← hh, Bd.state]; rfl
  have N0 := Fr.nil n0
  show own_Go p.tables e below (Q_leq_3_1 Z t1 t2 k1 k2 x0 x1 x2 y0 h0 n0) s ({ frames := 0, cells := 0, slots := 0, locals := 0 } : Room).cells ({ frames := 0, cells := 0, slots := 0, locals := 0 } : Room).slots s₁ (entryFrame m #[(.ref t1), (.ref t2)] 3)
  rw [ef_leq_3_1 m t1 t2]
  refine own_by (T' := s₁) (g' := (mkF m 1 #[.val (.ref t1), .val (.ref t2), .unset] [(.ref t1)])) (fun _ k => XS.aloadN X0.here hx rfl (hb hby d12_0) rfl rfl k) ?_
  obtain ⟨cl21, Ar21, q21, S21, N_21, H21, G21⟩ := id V_t1
  refine own_by (T' := s₁) (g' := (mkF m 2 #[.val (.ref t1), .val (.ref t2), .unset] [(.int (3 : Int32))])) (fun _ k => X0.arraylength hx (by rw [e0]; exact Ar21.1) (State.isArrayOf_alike hZ.alike Ar21.2.1) (g := (mkF m 1 #[.val (.ref t1), .val (.ref t2), .unset] [(.ref t1)])) rfl rfl (hb hby d12_1) _ (by rw [len_of S21 N_21]; exact k)) ?_
  refine own_by (T' := s₁) (g' := (mkF m 3 #[.val (.ref t1), .val (.ref t2), .unset] [(.ref t2), (.int (3 : Int32))])) (fun _ k => XS.aloadN X0.here hx rfl (hb hby d12_2) rfl rfl k) ?_
  obtain ⟨cl22, Ar22, q22, S22, N_22, H22, G22⟩ := id V_t2
  refine own_by (T' := s₁) (g' := (mkF m 4 #[.val (.ref t1), .val (.ref t2), .unset] [(.int (1 : Int32)), (.int (3 : Int32))])) (fun _ k => X0.arraylength hx (by rw [e0]; exact Ar22.1) (State.isArrayOf_alike hZ.alike Ar22.2.1) (g := (mkF m 3 #[.val (.ref t1), .val (.ref t2), .unset] [(.ref t2), (.int (3 : Int32))])) rfl rfl (hb hby d12_3) _ (by rw [len_of S22 N_22]; exact k)) ?_
  refine own_by (T' := s₁) (g' := (mkF m 34 #[.val (.ref t1), .val (.ref t2), .unset] [])) (fun _ k => XS.icmpYes X0.here hx rfl (pc0 := 4) (pc' := 34) rfl (hb hby d12_4) rfl (feq (by decide)).2 (by decide) (by decide) k) ?_
  refine own_by (T' := s₁) (g' := (mkF m 35 #[.val (.ref t1), .val (.ref t2), .unset] [(.int (0 : Int32))])) (fun _ k => XS.iconst X0.here hx rfl (hb hby d12_34) k) ?_
  refine own_ret X0 hlk (v := some (.int (0 : Int32))) (fun h => by rw [Bd.returns] at h; cases h) (fun fs hr => retN X0 hx (t := .boolean) Bd.returns (by simp) (hb hby d12_35) hr) ?_ (by decide) (by decide)
  rw [e0]
  exact ⟨congrArg (fun z => some (Value.int z)) rfl, N0, rfl⟩
theorem ef_seq_3_1 (m : MethodId) (a : Addr) (b : Addr) : entryFrame m #[(.ref a), (.ref b)] 3 = mkF m 0 #[.val (.ref a), .val (.ref b), .unset] [] := by first | (simp [entryFrame, mkF, argsToLocals, Value.category]; done) | rfl
def Q_seq_3_1 (Z : State) (a : Addr) (b : Addr) (t1 : Addr) (t2 : Addr) (k1 : ClassId) (k2 : ClassId) (cs : Int32) (x0 : Int32) (x1 : Int32) (x2 : Int32) (y0 : Int32) (h0 : Heap) (n0 : Nat) (v : Option Value) (h : Heap) (L : List Loc) : Prop := v = some (.int (0 : Int32)) ∧ Fr n0 L ∧ h = h0
set_option maxRecDepth 65536 in
set_option maxHeartbeats 40000000 in
theorem seq_3_1 (l : Launch) (Z : State) (a0 : Array Value) (hw : ∀ d ∈ tables_1, d.before a0 Z = true) (ws : List Jvm.Cond) (a : Addr) (b : Addr) (t1 : Addr) (t2 : Addr) (k1 : ClassId) (k2 : ClassId) (cs : Int32) (x0 : Int32) (x1 : Int32) (x2 : Int32) (y0 : Int32) (h0 : Heap) (n0 : Nat) (Z0 : n0 ≤ h0.size) (E_b : Exa Z h0 b "java/lang/String") (F_coder_a : Fld Z h0 a "java/lang/String" "coder" "B" (.int (0 : Int32))) (F_coder_b : Fld Z h0 b "java/lang/String" "coder" "B" (.int (0 : Int32))) (F_value_a : Fld Z h0 a "java/lang/String" "value" "[B" (.ref t1)) (F_value_b : Fld Z h0 b "java/lang/String" "value" "[B" (.ref t2)) (V_t1 : Arv Z h0 t1 k1 .byte (3 : Int32) [(.int x0), (.int x1), (.int x2)] (.int (0 : Int32))) (V_t2 : Arv Z h0 t2 k2 .byte (1 : Int32) [(.int y0)] (.int (0 : Int32))) (S_CS : Sta Z h0 "java/lang/String" "COMPACT_STRINGS" "Z" (.int cs)) (hcs : ¬ cs = (0 : Int32)) (nab : a ≠ b) :
    MetFree l (⟨"java/lang/String", "equals", "(Ljava/lang/Object;)Z"⟩ : MethodName) (head1 (Jvm.Cond.code (⟨"java/lang/String", "equals", "(Ljava/lang/Object;)Z"⟩ : MethodName) jdk_42_method_66_code 3 (some .boolean) :: ws) ({ frames := 1, cells := 0, slots := 0, locals := 14 } : Room)) (fun zz UU => zz = #[(.ref a), (.ref b)] ∧ Z.Warmed39 UU.vm ∧ UU.heap = h0) (fun _ _ _ _ _ => True) (fun _ U o U' => ∃ v L, o = .returned v ∧ Q_seq_3_1 Z a b t1 t2 k1 k2 cs x0 x1 x2 y0 h0 n0 v U'.heap L ∧ FrameEnd U o U' L ({ frames := 1, cells := 0, slots := 0, locals := 14 } : Room).cells ({ frames := 1, cells := 0, slots := 0, locals := 14 } : Room).slots) := by
  refine MetFree.of_bodySF (plainFor_of_name pn_11) hisR ?_
  intro p e s m args below meth c s₁ Bd hml0 hP hK
  obtain ⟨rfl, hZ, hh⟩ := hP
  have hx := Bd.exec
  have hby := Bd.bytes
  have hml : c.maxLocals = 3 := hml0
  have hown : s.vm.findClass "java/lang/String" = some m.cls := findClass_of_methodNamed Bd.named
  have hnm := (name_of_methodNamed Bd.named Bd.method).1
  have hlk : meth.locks = false := BodyLoose.notSynchronized Bd
  have X0 : Stand p l e ({ frames := 1, cells := 0, slots := 0, locals := 14 } : Room) s m #[(.ref a), (.ref b)] below meth c s₁ [] 0 0 := Stand.of_body Bd
  have e0 : s₁.heap = h0 := by rw [← hh, Bd.state]; rfl
  have N0 := Fr.nil n0
  show own_Go p.tables e below (Q_seq_3_1 Z a b t1 t2 k1 k2 cs x0 x1 x2 y0 h0 n0) s ({ frames := 1, cells := 0, slots := 0, locals := 14 } : Room).cells ({ frames := 1, cells := 0, slots := 0, locals := 14 } : Room).slots s₁ (entryFrame m #[(.ref a), (.ref b)] 3)
  rw [ef_seq_3_1 m a b]
  refine own_by (T' := s₁) (g' := (mkF m 1 #[.val (.ref a), .val (.ref b), .unset] [(.ref a)])) (fun _ k => XS.aloadN X0.here hx rfl (hb hby d11_0) rfl rfl k) ?_
  refine own_by (T' := s₁) (g' := (mkF m 2 #[.val (.ref a), .val (.ref b), .unset] [(.ref b), (.ref a)])) (fun _ k => XS.aloadN X0.here hx rfl (hb hby d11_1) rfl rfl k) ?_
  refine own_by (T' := s₁) (g' := (mkF m 7 #[.val (.ref a), .val (.ref b), .unset] [])) (fun _ k => Jvm.RoadKit.acmp (g := (mkF m 2 #[.val (.ref a), .val (.ref b), .unset] [(.ref b), (.ref a)])) X0 hx rfl rfl rfl (pc0 := 2) (pc' := 7) (same := false) rfl (hb hby d11_2) rfl (decide_eq_false fun q => nab (Value.ref.inj q)) (by decide) (by decide) k) ?_
  refine own_by (T' := s₁) (g' := (mkF m 8 #[.val (.ref a), .val (.ref b), .unset] [(.ref b)])) (fun _ k => XS.aloadN X0.here hx rfl (hb hby d11_7) rfl rfl k) ?_
  obtain ⟨T21, X21, e21, st21⟩ := instY X0 hx hZ hown (hw _ (List.mem_of_getElem? (i := 68) rfl)) e0 (Ins.self E_b) (g := (mkF m 8 #[.val (.ref a), .val (.ref b), .unset] [(.ref b)])) rfl rfl (hb hby d11_8)
  refine own_by (T' := T21) (g' := (mkF m 11 #[.val (.ref a), .val (.ref b), .unset] [(.int (1 : Int32))])) (fun _ k => st21 _ k) ?_
  refine own_by (T' := T21) (g' := (mkF m 14 #[.val (.ref a), .val (.ref b), .unset] [])) (fun _ k => XS.ifNo X21.here hx rfl (hb hby d11_11) rfl ((if0 _ _).trans (feq (by decide)).1) k) ?_
  refine own_by (T' := T21) (g' := (mkF m 15 #[.val (.ref a), .val (.ref b), .unset] [(.ref b)])) (fun _ k => XS.aloadN X21.here hx rfl (hb hby d11_14) rfl rfl k) ?_
  obtain ⟨T22, X22, e22, st22⟩ := castY X21 hx hZ hown (hw _ (List.mem_of_getElem? (i := 68) rfl)) e21 (Ins.self E_b) (g := (mkF m 15 #[.val (.ref a), .val (.ref b), .unset] [(.ref b)])) rfl rfl (hb hby d11_15)
  refine own_by (T' := T22) (g' := (mkF m 18 #[.val (.ref a), .val (.ref b), .unset] [(.ref b)])) (fun _ k => st22 _ k) ?_
  refine own_by (T' := T22) (g' := (mkF m 19 #[.val (.ref a), .val (.ref b), .val (.ref b)] [])) (fun _ k => XS.astoreN X22.here hx rfl (hb hby d11_18) rfl rfl (l' := #[.val (.ref a), .val (.ref b), .val (.ref b)]) rfl k) ?_
  obtain ⟨T23, X23, e23, st23⟩ := getS2 X22 hx hZ hown (host := "") (Or.inl (hw _ (List.mem_of_getElem? (i := 69) rfl))) Via.refl e22 S_CS (g := (mkF m 19 #[.val (.ref a), .val (.ref b), .val (.ref b)] [])) rfl (hb hby d11_19)
  refine own_by (T' := T23) (g' := (mkF m 22 #[.val (.ref a), .val (.ref b), .val (.ref b)] [(.int cs)])) (fun _ k => st23 _ k) ?_
  refine own_by (T' := T23) (g' := (mkF m 25 #[.val (.ref a), .val (.ref b), .val (.ref b)] [])) (fun _ k => XS.ifNo X23.here hx rfl (hb hby d11_22) rfl ((if0 _ _).trans (feq hcs).1) k) ?_
  refine own_by (T' := T23) (g' := (mkF m 26 #[.val (.ref a), .val (.ref b), .val (.ref b)] [(.ref a)])) (fun _ k => XS.aloadN X23.here hx rfl (hb hby d11_25) rfl rfl k) ?_
  obtain ⟨T24, X24, e24, st24⟩ := getF X23 hx hZ hown (host := "") (Or.inl (hw _ (List.mem_of_getElem? (i := 28) rfl))) Via.refl e23 F_coder_a (g := (mkF m 26 #[.val (.ref a), .val (.ref b), .val (.ref b)] [(.ref a)])) rfl rfl (hb hby d11_26)
  refine own_by (T' := T24) (g' := (mkF m 29 #[.val (.ref a), .val (.ref b), .val (.ref b)] [(.int (0 : Int32))])) (fun _ k => st24 _ k) ?_
  refine own_by (T' := T24) (g' := (mkF m 30 #[.val (.ref a), .val (.ref b), .val (.ref b)] [(.ref b), (.int (0 : Int32))])) (fun _ k => XS.aloadN X24.here hx rfl (hb hby d11_29) rfl rfl k) ?_
  obtain ⟨T25, X25, e25, st25⟩ := getF X24 hx hZ hown (host := "") (Or.inl (hw _ (List.mem_of_getElem? (i := 28) rfl))) Via.refl e24 F_coder_b (g := (mkF m 30 #[.val (.ref a), .val (.ref b), .val (.ref b)] [(.ref b), (.int (0 : Int32))])) rfl rfl (hb hby d11_30)
  refine own_by (T' := T25) (g' := (mkF m 33 #[.val (.ref a), .val (.ref b), .val (.ref b)] [(.int (0 : Int32)), (.int (0 : Int32))])) (fun _ k => st25 _ k) ?_
  refine own_by (T' := T25) (g' := (mkF m 36 #[.val (.ref a), .val (.ref b), .val (.ref b)] [])) (fun _ k => XS.icmpNo X25.here hx rfl (hb hby d11_33) rfl (teq (by decide)).2 k) ?_
  refine own_by (T' := T25) (g' := (mkF m 37 #[.val (.ref a), .val (.ref b), .val (.ref b)] [(.ref a)])) (fun _ k => XS.aloadN X25.here hx rfl (hb hby d11_36) rfl rfl k) ?_
  obtain ⟨T26, X26, e26, st26⟩ := getF X25 hx hZ hown (host := "") (Or.inl (hw _ (List.mem_of_getElem? (i := 27) rfl))) Via.refl e25 F_value_a (g := (mkF m 37 #[.val (.ref a), .val (.ref b), .val (.ref b)] [(.ref a)])) rfl rfl (hb hby d11_37)
  refine own_by (T' := T26) (g' := (mkF m 40 #[.val (.ref a), .val (.ref b), .val (.ref b)] [(.ref t1)])) (fun _ k => st26 _ k) ?_
  refine own_by (T' := T26) (g' := (mkF m 41 #[.val (.ref a), .val (.ref b), .val (.ref b)] [(.ref b), (.ref t1)])) (fun _ k => XS.aloadN X26.here hx rfl (hb hby d11_40) rfl rfl k) ?_
  obtain ⟨T27, X27, e27, st27⟩ := getF X26 hx hZ hown (host := "") (Or.inl (hw _ (List.mem_of_getElem? (i := 27) rfl))) Via.refl e26 F_value_b (g := (mkF m 41 #[.val (.ref a), .val (.ref b), .val (.ref b)] [(.ref b), (.ref t1)])) rfl rfl (hb hby d11_41)
  refine own_by (T' := T27) (g' := (mkF m 44 #[.val (.ref a), .val (.ref b), .val (.ref b)] [(.ref t2), (.ref t1)])) (fun _ k => st27 _ k) ?_
  obtain ⟨_, _, ⟨T28, L28, k28, n28⟩, -, X28, ⟨Lc28, hQ28, l28, y28, z28⟩, st28⟩ := Jvm.LawKit.callS X27 hx (y := (⟨"java/lang/StringLatin1", "equals", "([B[B)Z"⟩ : MethodName)) hown (mvT hZ (hw _ (List.mem_of_getElem? (i := 70) rfl))) (mvT hZ (hw _ (List.mem_of_getElem? (i := 71) rfl))) (mvT hZ (hw _ (List.mem_of_getElem? (i := 72) rfl))) (mvT hZ (hw _ (List.mem_of_getElem? (i := 73) rfl))) (by decide) (backOf (W := 0) (leq_3_1 l Z a0 hw [] t1 t2 k1 k2 x0 x1 x2 y0 h0 n0 Z0 V_t1 V_t2) hZ (hw _ (List.mem_of_getElem? (i := 73) rfl)) (hw _ (List.mem_of_getElem? (i := 72) rfl)) (by decide) (by decide)) (g := (mkF m 44 #[.val (.ref a), .val (.ref b), .val (.ref b)] [(.ref t2), (.ref t1)])) rfl (by rw [hml]; rfl) (argsL := [(.ref t1), (.ref t2)]) (rest := []) (lenOf pd_7 rfl) rfl (by show 2 * 0 + _ ≤ _; exact Nat.le_of_eq rfl) (hb hby d11_44) (fun _ _ => ⟨rfl, e27, (by decide : 0 + 0 ≤ _), (by decide : 0 + 0 ≤ _)⟩)
  dsimp only [Pt.U, Pt.locs, Pt.cells, Pt.slots] at X28 l28 y28 z28 st28 hQ28
  subst l28 y28 z28
  obtain ⟨rfl, N28q, e28⟩ := hQ28
  have N28 := Fr.app N0 N28q
  refine own_by (T' := T28) (g' := (mkF m 47 #[.val (.ref a), .val (.ref b), .val (.ref b)] [(.int (0 : Int32))])) (fun _ k => st28 _ k) ?_
  refine own_by (T' := T28) (g' := (mkF m 54 #[.val (.ref a), .val (.ref b), .val (.ref b)] [])) (fun _ k => XS.ifYes X28.here hx rfl (pc0 := 47) (pc' := 54) rfl (hb hby d11_47) rfl ((if0 _ _).trans (teq (by decide)).1) (by decide) (by decide) k) ?_
  refine own_by (T' := T28) (g' := (mkF m 55 #[.val (.ref a), .val (.ref b), .val (.ref b)] [(.int (0 : Int32))])) (fun _ k => XS.iconst X28.here hx rfl (hb hby d11_54) k) ?_
  refine own_ret X28 hlk (v := some (.int (0 : Int32))) (fun h => by rw [Bd.returns] at h; cases h) (fun fs hr => retN X28 hx (t := .boolean) Bd.returns (by simp) (hb hby d11_55) hr) ?_ (by decide) (by decide)
  rw [e28]
  exact ⟨congrArg (fun z => some (Value.int z)) rfl, N28, rfl⟩
theorem d12_7 : decode jdk_43_method_13_code 7 = .ok (.iconst 0, 1) := by decide +kernel
theorem d12_8 : decode jdk_43_method_13_code 8 = .ok (.istore_n 2, 1) := by decide +kernel
theorem d12_9 : decode jdk_43_method_13_code 9 = .ok (.iload_n 2, 1) := by decide +kernel
theorem d12_10 : decode jdk_43_method_13_code 10 = .ok (.aload_n 0, 1) := by decide +kernel
theorem d12_11 : decode jdk_43_method_13_code 11 = .ok (.arraylength, 1) := by decide +kernel
theorem d12_12 : decode jdk_43_method_13_code 12 = .ok (.if_icmp .ge 20, 3) := by decide +kernel
theorem d12_15 : decode jdk_43_method_13_code 15 = .ok (.aload_n 0, 1) := by decide +kernel
theorem d12_16 : decode jdk_43_method_13_code 16 = .ok (.iload_n 2, 1) := by decide +kernel
theorem d12_17 : decode jdk_43_method_13_code 17 = .ok (.baload, 1) := by decide +kernel
theorem d12_18 : decode jdk_43_method_13_code 18 = .ok (.aload_n 1, 1) := by decide +kernel
theorem d12_19 : decode jdk_43_method_13_code 19 = .ok (.iload_n 2, 1) := by decide +kernel
theorem d12_20 : decode jdk_43_method_13_code 20 = .ok (.baload, 1) := by decide +kernel
theorem d12_21 : decode jdk_43_method_13_code 21 = .ok (.if_icmp .eq 5, 3) := by decide +kernel
theorem d12_24 : decode jdk_43_method_13_code 24 = .ok (.iconst 0, 1) := by decide +kernel
theorem d12_25 : decode jdk_43_method_13_code 25 = .ok (.ireturn, 1) := by decide +kernel
theorem d12_26 : decode jdk_43_method_13_code 26 = .ok (.iinc 2 1, 3) := by decide +kernel
theorem d12_29 : decode jdk_43_method_13_code 29 = .ok (.goto (-20), 3) := by decide +kernel
theorem d12_32 : decode jdk_43_method_13_code 32 = .ok (.iconst 1, 1) := by decide +kernel
theorem d12_33 : decode jdk_43_method_13_code 33 = .ok (.ireturn, 1) := by decide +kernel
theorem ef_leq_1_1 (m : MethodId) (t1 : Addr) (t2 : Addr) : entryFrame m #[(.ref t1), (.ref t2)] 3 = mkF m 0 #[.val (.ref t1), .val (.ref t2), .unset] [] := by first | (simp [entryFrame, mkF, argsToLocals, Value.category]; done) | rfl
def Q_leq_1_1 (Z : State) (t1 : Addr) (t2 : Addr) (k1 : ClassId) (k2 : ClassId) (x0 : Int32) (y0 : Int32) (h0 : Heap) (n0 : Nat) (v : Option Value) (h : Heap) (L : List Loc) : Prop := v = some (.int (if x0 = y0 then (1 : Int32) else (0 : Int32))) ∧ Fr n0 L ∧ h = h0
set_option maxRecDepth 65536 in
set_option maxHeartbeats 40000000 in
theorem leq_1_1 (l : Launch) (Z : State) (a0 : Array Value) (hw : ∀ d ∈ tables_1, d.before a0 Z = true) (ws : List Jvm.Cond) (t1 : Addr) (t2 : Addr) (k1 : ClassId) (k2 : ClassId) (x0 : Int32) (y0 : Int32) (h0 : Heap) (n0 : Nat) (Z0 : n0 ≤ h0.size) (V_t1 : Arv Z h0 t1 k1 .byte (1 : Int32) [(.int x0)] (.int (0 : Int32))) (V_t2 : Arv Z h0 t2 k2 .byte (1 : Int32) [(.int y0)] (.int (0 : Int32))) :
    MetFree l (⟨"java/lang/StringLatin1", "equals", "([B[B)Z"⟩ : MethodName) (head1 (Jvm.Cond.code (⟨"java/lang/StringLatin1", "equals", "([B[B)Z"⟩ : MethodName) jdk_43_method_13_code 3 (some .boolean) :: ws) ({ frames := 0, cells := 0, slots := 0, locals := 0 } : Room)) (fun zz UU => zz = #[(.ref t1), (.ref t2)] ∧ Z.Warmed39 UU.vm ∧ UU.heap = h0) (fun _ _ _ _ _ => True) (fun _ U o U' => ∃ v L, o = .returned v ∧ Q_leq_1_1 Z t1 t2 k1 k2 x0 y0 h0 n0 v U'.heap L ∧ FrameEnd U o U' L ({ frames := 0, cells := 0, slots := 0, locals := 0 } : Room).cells ({ frames := 0, cells := 0, slots := 0, locals := 0 } : Room).slots) := by
  refine MetFree.of_bodySF (plainFor_of_name pn_12) hisR ?_
  intro p e s m args below meth c s₁ Bd hml0 hP hK
  obtain ⟨rfl, hZ, hh⟩ := hP
  have hx := Bd.exec
  have hby := Bd.bytes
  have hml : c.maxLocals = 3 := hml0
  have hown : s.vm.findClass "java/lang/StringLatin1" = some m.cls := findClass_of_methodNamed Bd.named
  have hnm := (name_of_methodNamed Bd.named Bd.method).1
  have hlk : meth.locks = false := BodyLoose.notSynchronized Bd
  have X0 : Stand p l e ({ frames := 0, cells := 0, slots := 0, locals := 0 } : Room) s m #[(.ref t1), (.ref t2)] below meth c s₁ [] 0 0 := Stand.of_body Bd
  have e0 : s₁.heap = h0 := by rw [← hh, Bd.state]; rfl
  have N0 := Fr.nil n0
  show own_Go p.tables e below (Q_leq_1_1 Z t1 t2 k1 k2 x0 y0 h0 n0) s ({ frames := 0, cells := 0, slots := 0, locals := 0 } : Room).cells ({ frames := 0, cells := 0, slots := 0, locals := 0 } : Room).slots s₁ (entryFrame m #[(.ref t1), (.ref t2)] 3)
  rw [ef_leq_1_1 m t1 t2]
  refine own_by (T' := s₁) (g' := (mkF m 1 #[.val (.ref t1), .val (.ref t2), .unset] [(.ref t1)])) (fun _ k => XS.aloadN X0.here hx rfl (hb hby d12_0) rfl rfl k) ?_
  obtain ⟨cl21, Ar21, q21, S21, N_21, H21, G21⟩ := id V_t1
  refine own_by (T' := s₁) (g' := (mkF m 2 #[.val (.ref t1), .val (.ref t2), .unset] [(.int (1 : Int32))])) (fun _ k => X0.arraylength hx (by rw [e0]; exact Ar21.1) (State.isArrayOf_alike hZ.alike Ar21.2.1) (g := (mkF m 1 #[.val (.ref t1), .val (.ref t2), .unset] [(.ref t1)])) rfl rfl (hb hby d12_1) _ (by rw [len_of S21 N_21]; exact k)) ?_
  refine own_by (T' := s₁) (g' := (mkF m 3 #[.val (.ref t1), .val (.ref t2), .unset] [(.ref t2), (.int (1 : Int32))])) (fun _ k => XS.aloadN X0.here hx rfl (hb hby d12_2) rfl rfl k) ?_
  obtain ⟨cl22, Ar22, q22, S22, N_22, H22, G22⟩ := id V_t2
  refine own_by (T' := s₁) (g' := (mkF m 4 #[.val (.ref t1), .val (.ref t2), .unset] [(.int (1 : Int32)), (.int (1 : Int32))])) (fun _ k => X0.arraylength hx (by rw [e0]; exact Ar22.1) (State.isArrayOf_alike hZ.alike Ar22.2.1) (g := (mkF m 3 #[.val (.ref t1), .val (.ref t2), .unset] [(.ref t2), (.int (1 : Int32))])) rfl rfl (hb hby d12_3) _ (by rw [len_of S22 N_22]; exact k)) ?_
  refine own_by (T' := s₁) (g' := (mkF m 7 #[.val (.ref t1), .val (.ref t2), .unset] [])) (fun _ k => XS.icmpNo X0.here hx rfl (hb hby d12_4) rfl (teq (by decide)).2 k) ?_
  refine own_by (T' := s₁) (g' := (mkF m 8 #[.val (.ref t1), .val (.ref t2), .unset] [(.int (0 : Int32))])) (fun _ k => XS.iconst X0.here hx rfl (hb hby d12_7) k) ?_
  refine own_by (T' := s₁) (g' := (mkF m 9 #[.val (.ref t1), .val (.ref t2), .val (.int (0 : Int32))] [])) (fun _ k => XS.istoreN X0.here hx rfl (hb hby d12_8) rfl (l' := #[.val (.ref t1), .val (.ref t2), .val (.int (0 : Int32))]) rfl k) ?_
  refine own_by (T' := s₁) (g' := (mkF m 10 #[.val (.ref t1), .val (.ref t2), .val (.int (0 : Int32))] [(.int (0 : Int32))])) (fun _ k => XS.iloadN X0.here hx rfl (hb hby d12_9) rfl k) ?_
  refine own_by (T' := s₁) (g' := (mkF m 11 #[.val (.ref t1), .val (.ref t2), .val (.int (0 : Int32))] [(.ref t1), (.int (0 : Int32))])) (fun _ k => XS.aloadN X0.here hx rfl (hb hby d12_10) rfl rfl k) ?_
  obtain ⟨cl23, Ar23, q23, S23, N_23, H23, G23⟩ := id V_t1
  refine own_by (T' := s₁) (g' := (mkF m 12 #[.val (.ref t1), .val (.ref t2), .val (.int (0 : Int32))] [(.int (1 : Int32)), (.int (0 : Int32))])) (fun _ k => X0.arraylength hx (by rw [e0]; exact Ar23.1) (State.isArrayOf_alike hZ.alike Ar23.2.1) (g := (mkF m 11 #[.val (.ref t1), .val (.ref t2), .val (.int (0 : Int32))] [(.ref t1), (.int (0 : Int32))])) rfl rfl (hb hby d12_11) _ (by rw [len_of S23 N_23]; exact k)) ?_
  refine own_by (T' := s₁) (g' := (mkF m 15 #[.val (.ref t1), .val (.ref t2), .val (.int (0 : Int32))] [])) (fun _ k => XS.icmpNo X0.here hx rfl (hb hby d12_12) rfl (tlt (by decide)).2.1 k) ?_
  refine own_by (T' := s₁) (g' := (mkF m 16 #[.val (.ref t1), .val (.ref t2), .val (.int (0 : Int32))] [(.ref t1)])) (fun _ k => XS.aloadN X0.here hx rfl (hb hby d12_15) rfl rfl k) ?_
  refine own_by (T' := s₁) (g' := (mkF m 17 #[.val (.ref t1), .val (.ref t2), .val (.int (0 : Int32))] [(.int (0 : Int32)), (.ref t1)])) (fun _ k => XS.iloadN X0.here hx rfl (hb hby d12_16) rfl k) ?_
  obtain ⟨cl24, Ar24, q24, S24, N_24, H24, G24⟩ := id V_t1
  have hin24 : ¬ ((0 : Int32) < 0 ∨ cl24.slots.size ≤ ((0 : Int32)).toNatClampNeg) := inb_of S24 ⟨by decide, by decide⟩
  refine own_by (T' := s₁) (g' := (mkF m 18 #[.val (.ref t1), .val (.ref t2), .val (.int (0 : Int32))] [(.int x0)])) (fun _ k => X0.baloadBytes hx (j := (0 : Int32)) (v := (.int x0)) (by rw [e0]; exact Ar24.1) (State.isArrayOf_alike hZ.alike Ar24.2.1) Ar24.2.2 hin24 (Has.at H24 hin24 rfl) (g := (mkF m 17 #[.val (.ref t1), .val (.ref t2), .val (.int (0 : Int32))] [(.int (0 : Int32)), (.ref t1)])) rfl rfl (hb hby d12_17) _ k) ?_
  refine own_by (T' := s₁) (g' := (mkF m 19 #[.val (.ref t1), .val (.ref t2), .val (.int (0 : Int32))] [(.ref t2), (.int x0)])) (fun _ k => XS.aloadN X0.here hx rfl (hb hby d12_18) rfl rfl k) ?_
  refine own_by (T' := s₁) (g' := (mkF m 20 #[.val (.ref t1), .val (.ref t2), .val (.int (0 : Int32))] [(.int (0 : Int32)), (.ref t2), (.int x0)])) (fun _ k => XS.iloadN X0.here hx rfl (hb hby d12_19) rfl k) ?_
  obtain ⟨cl25, Ar25, q25, S25, N_25, H25, G25⟩ := id V_t2
  have hin25 : ¬ ((0 : Int32) < 0 ∨ cl25.slots.size ≤ ((0 : Int32)).toNatClampNeg) := inb_of S25 ⟨by decide, by decide⟩
  refine own_by (T' := s₁) (g' := (mkF m 21 #[.val (.ref t1), .val (.ref t2), .val (.int (0 : Int32))] [(.int y0), (.int x0)])) (fun _ k => X0.baloadBytes hx (j := (0 : Int32)) (v := (.int y0)) (by rw [e0]; exact Ar25.1) (State.isArrayOf_alike hZ.alike Ar25.2.1) Ar25.2.2 hin25 (Has.at H25 hin25 rfl) (g := (mkF m 20 #[.val (.ref t1), .val (.ref t2), .val (.int (0 : Int32))] [(.int (0 : Int32)), (.ref t2), (.int x0)])) rfl rfl (hb hby d12_20) _ k) ?_
  by_cases hc21_26 : x0 = y0
  · skip
    refine own_by (T' := s₁) (g' := (mkF m 26 #[.val (.ref t1), .val (.ref t2), .val (.int (0 : Int32))] [])) (fun _ k => XS.icmpYes X0.here hx rfl (pc0 := 21) (pc' := 26) rfl (hb hby d12_21) rfl (teq hc21_26).1 (by decide) (by decide) k) ?_
    refine own_by (T' := s₁) (g' := (mkF m 29 #[.val (.ref t1), .val (.ref t2), .val (.int (1 : Int32))] [])) (fun _ k => XS.iinc X0.here hx rfl (hb hby d12_26) rfl (l' := #[.val (.ref t1), .val (.ref t2), .val (.int (1 : Int32))]) rfl k) ?_
    refine own_by (T' := s₁) (g' := (mkF m 9 #[.val (.ref t1), .val (.ref t2), .val (.int (1 : Int32))] [])) (fun _ k => XS.goto X0.here hx rfl (pc0 := 29) (pc' := 9) rfl (hb hby d12_29) (by decide) (by decide) k) ?_
    refine own_by (T' := s₁) (g' := (mkF m 10 #[.val (.ref t1), .val (.ref t2), .val (.int (1 : Int32))] [(.int (1 : Int32))])) (fun _ k => XS.iloadN X0.here hx rfl (hb hby d12_9) rfl k) ?_
    refine own_by (T' := s₁) (g' := (mkF m 11 #[.val (.ref t1), .val (.ref t2), .val (.int (1 : Int32))] [(.ref t1), (.int (1 : Int32))])) (fun _ k => XS.aloadN X0.here hx rfl (hb hby d12_10) rfl rfl k) ?_
    obtain ⟨cl27, Ar27, q27, S27, N_27, H27, G27⟩ := id V_t1
    refine own_by (T' := s₁) (g' := (mkF m 12 #[.val (.ref t1), .val (.ref t2), .val (.int (1 : Int32))] [(.int (1 : Int32)), (.int (1 : Int32))])) (fun _ k => X0.arraylength hx (by rw [e0]; exact Ar27.1) (State.isArrayOf_alike hZ.alike Ar27.2.1) (g := (mkF m 11 #[.val (.ref t1), .val (.ref t2), .val (.int (1 : Int32))] [(.ref t1), (.int (1 : Int32))])) rfl rfl (hb hby d12_11) _ (by rw [len_of S27 N_27]; exact k)) ?_
    refine own_by (T' := s₁) (g' := (mkF m 32 #[.val (.ref t1), .val (.ref t2), .val (.int (1 : Int32))] [])) (fun _ k => XS.icmpYes X0.here hx rfl (pc0 := 12) (pc' := 32) rfl (hb hby d12_12) rfl (flt (by decide)).2.1 (by decide) (by decide) k) ?_
    refine own_by (T' := s₁) (g' := (mkF m 33 #[.val (.ref t1), .val (.ref t2), .val (.int (1 : Int32))] [(.int (1 : Int32))])) (fun _ k => XS.iconst X0.here hx rfl (hb hby d12_32) k) ?_
    refine own_ret X0 hlk (v := some (.int (1 : Int32))) (fun h => by rw [Bd.returns] at h; cases h) (fun fs hr => retN X0 hx (t := .boolean) Bd.returns (by simp) (hb hby d12_33) hr) ?_ (by decide) (by decide)
    rw [e0]
    exact ⟨congrArg (fun z => some (Value.int z)) (if_pos hc21_26).symm, N0, rfl⟩
  · skip
    refine own_by (T' := s₁) (g' := (mkF m 24 #[.val (.ref t1), .val (.ref t2), .val (.int (0 : Int32))] [])) (fun _ k => XS.icmpNo X0.here hx rfl (hb hby d12_21) rfl (feq hc21_26).1 k) ?_
    refine own_by (T' := s₁) (g' := (mkF m 25 #[.val (.ref t1), .val (.ref t2), .val (.int (0 : Int32))] [(.int (0 : Int32))])) (fun _ k => XS.iconst X0.here hx rfl (hb hby d12_24) k) ?_
    refine own_ret X0 hlk (v := some (.int (0 : Int32))) (fun h => by rw [Bd.returns] at h; cases h) (fun fs hr => retN X0 hx (t := .boolean) Bd.returns (by simp) (hb hby d12_25) hr) ?_ (by decide) (by decide)
    rw [e0]
    exact ⟨congrArg (fun z => some (Value.int z)) (if_neg hc21_26).symm, N0, rfl⟩
theorem d11_50 : decode jdk_42_method_66_code 50 = .ok (.iconst 1, 1) := by decide +kernel
theorem d11_51 : decode jdk_42_method_66_code 51 = .ok (.goto 4, 3) := by decide +kernel
theorem ef_seq_1_1 (m : MethodId) (a : Addr) (b : Addr) : entryFrame m #[(.ref a), (.ref b)] 3 = mkF m 0 #[.val (.ref a), .val (.ref b), .unset] [] := by first | (simp [entryFrame, mkF, argsToLocals, Value.category]; done) | rfl
def Q_seq_1_1 (Z : State) (a : Addr) (b : Addr) (t1 : Addr) (t2 : Addr) (k1 : ClassId) (k2 : ClassId) (cs : Int32) (x0 : Int32) (y0 : Int32) (h0 : Heap) (n0 : Nat) (v : Option Value) (h : Heap) (L : List Loc) : Prop := v = some (.int (if (if x0 = y0 then (1 : Int32) else (0 : Int32)) = (0 : Int32) then (0 : Int32) else (1 : Int32))) ∧ Fr n0 L ∧ h = h0
set_option maxRecDepth 65536 in
set_option maxHeartbeats 40000000 in
theorem seq_1_1 (l : Launch) (Z : State) (a0 : Array Value) (hw : ∀ d ∈ tables_1, d.before a0 Z = true) (ws : List Jvm.Cond) (a : Addr) (b : Addr) (t1 : Addr) (t2 : Addr) (k1 : ClassId) (k2 : ClassId) (cs : Int32) (x0 : Int32) (y0 : Int32) (h0 : Heap) (n0 : Nat) (Z0 : n0 ≤ h0.size) (E_b : Exa Z h0 b "java/lang/String") (F_coder_a : Fld Z h0 a "java/lang/String" "coder" "B" (.int (0 : Int32))) (F_coder_b : Fld Z h0 b "java/lang/String" "coder" "B" (.int (0 : Int32))) (F_value_a : Fld Z h0 a "java/lang/String" "value" "[B" (.ref t1)) (F_value_b : Fld Z h0 b "java/lang/String" "value" "[B" (.ref t2)) (V_t1 : Arv Z h0 t1 k1 .byte (1 : Int32) [(.int x0)] (.int (0 : Int32))) (V_t2 : Arv Z h0 t2 k2 .byte (1 : Int32) [(.int y0)] (.int (0 : Int32))) (S_CS : Sta Z h0 "java/lang/String" "COMPACT_STRINGS" "Z" (.int cs)) (hcs : ¬ cs = (0 : Int32)) (nab : a ≠ b) :
    MetFree l (⟨"java/lang/String", "equals", "(Ljava/lang/Object;)Z"⟩ : MethodName) (head1 (Jvm.Cond.code (⟨"java/lang/String", "equals", "(Ljava/lang/Object;)Z"⟩ : MethodName) jdk_42_method_66_code 3 (some .boolean) :: ws) ({ frames := 1, cells := 0, slots := 0, locals := 14 } : Room)) (fun zz UU => zz = #[(.ref a), (.ref b)] ∧ Z.Warmed39 UU.vm ∧ UU.heap = h0) (fun _ _ _ _ _ => True) (fun _ U o U' => ∃ v L, o = .returned v ∧ Q_seq_1_1 Z a b t1 t2 k1 k2 cs x0 y0 h0 n0 v U'.heap L ∧ FrameEnd U o U' L ({ frames := 1, cells := 0, slots := 0, locals := 14 } : Room).cells ({ frames := 1, cells := 0, slots := 0, locals := 14 } : Room).slots) := by
  refine MetFree.of_bodySF (plainFor_of_name pn_11) hisR ?_
  intro p e s m args below meth c s₁ Bd hml0 hP hK
  obtain ⟨rfl, hZ, hh⟩ := hP
  have hx := Bd.exec
  have hby := Bd.bytes
  have hml : c.maxLocals = 3 := hml0
  have hown : s.vm.findClass "java/lang/String" = some m.cls := findClass_of_methodNamed Bd.named
  have hnm := (name_of_methodNamed Bd.named Bd.method).1
  have hlk : meth.locks = false := BodyLoose.notSynchronized Bd
  have X0 : Stand p l e ({ frames := 1, cells := 0, slots := 0, locals := 14 } : Room) s m #[(.ref a), (.ref b)] below meth c s₁ [] 0 0 := Stand.of_body Bd
  have e0 : s₁.heap = h0 := by rw [← hh, Bd.state]; rfl
  have N0 := Fr.nil n0
  show own_Go p.tables e below (Q_seq_1_1 Z a b t1 t2 k1 k2 cs x0 y0 h0 n0) s ({ frames := 1, cells := 0, slots := 0, locals := 14 } : Room).cells ({ frames := 1, cells := 0, slots := 0, locals := 14 } : Room).slots s₁ (entryFrame m #[(.ref a), (.ref b)] 3)
  rw [ef_seq_1_1 m a b]
  refine own_by (T' := s₁) (g' := (mkF m 1 #[.val (.ref a), .val (.ref b), .unset] [(.ref a)])) (fun _ k => XS.aloadN X0.here hx rfl (hb hby d11_0) rfl rfl k) ?_
  refine own_by (T' := s₁) (g' := (mkF m 2 #[.val (.ref a), .val (.ref b), .unset] [(.ref b), (.ref a)])) (fun _ k => XS.aloadN X0.here hx rfl (hb hby d11_1) rfl rfl k) ?_
  refine own_by (T' := s₁) (g' := (mkF m 7 #[.val (.ref a), .val (.ref b), .unset] [])) (fun _ k => Jvm.RoadKit.acmp (g := (mkF m 2 #[.val (.ref a), .val (.ref b), .unset] [(.ref b), (.ref a)])) X0 hx rfl rfl rfl (pc0 := 2) (pc' := 7) (same := false) rfl (hb hby d11_2) rfl (decide_eq_false fun q => nab (Value.ref.inj q)) (by decide) (by decide) k) ?_
  refine own_by (T' := s₁) (g' := (mkF m 8 #[.val (.ref a), .val (.ref b), .unset] [(.ref b)])) (fun _ k => XS.aloadN X0.here hx rfl (hb hby d11_7) rfl rfl k) ?_
  obtain ⟨T21, X21, e21, st21⟩ := instY X0 hx hZ hown (hw _ (List.mem_of_getElem? (i := 68) rfl)) e0 (Ins.self E_b) (g := (mkF m 8 #[.val (.ref a), .val (.ref b), .unset] [(.ref b)])) rfl rfl (hb hby d11_8)
  refine own_by (T' := T21) (g' := (mkF m 11 #[.val (.ref a), .val (.ref b), .unset] [(.int (1 : Int32))])) (fun _ k => st21 _ k) ?_
  refine own_by (T' := T21) (g' := (mkF m 14 #[.val (.ref a), .val (.ref b), .unset] [])) (fun _ k => XS.ifNo X21.here hx rfl (hb hby d11_11) rfl ((if0 _ _).trans (feq (by decide)).1) k) ?_
  refine own_by (T' := T21) (g' := (mkF m 15 #[.val (.ref a), .val (.ref b), .unset] [(.ref b)])) (fun _ k => XS.aloadN X21.here hx rfl (hb hby d11_14) rfl rfl k) ?_
  obtain ⟨T22, X22, e22, st22⟩ := castY X21 hx hZ hown (hw _ (List.mem_of_getElem? (i := 68) rfl)) e21 (Ins.self E_b) (g := (mkF m 15 #[.val (.ref a), .val (.ref b), .unset] [(.ref b)])) rfl rfl (hb hby d11_15)
  refine own_by (T' := T22) (g' := (mkF m 18 #[.val (.ref a), .val (.ref b), .unset] [(.ref b)])) (fun _ k => st22 _ k) ?_
  refine own_by (T' := T22) (g' := (mkF m 19 #[.val (.ref a), .val (.ref b), .val (.ref b)] [])) (fun _ k => XS.astoreN X22.here hx rfl (hb hby d11_18) rfl rfl (l' := #[.val (.ref a), .val (.ref b), .val (.ref b)]) rfl k) ?_
  obtain ⟨T23, X23, e23, st23⟩ := getS2 X22 hx hZ hown (host := "") (Or.inl (hw _ (List.mem_of_getElem? (i := 69) rfl))) Via.refl e22 S_CS (g := (mkF m 19 #[.val (.ref a), .val (.ref b), .val (.ref b)] [])) rfl (hb hby d11_19)
  refine own_by (T' := T23) (g' := (mkF m 22 #[.val (.ref a), .val (.ref b), .val (.ref b)] [(.int cs)])) (fun _ k => st23 _ k) ?_
  refine own_by (T' := T23) (g' := (mkF m 25 #[.val (.ref a), .val (.ref b), .val (.ref b)] [])) (fun _ k => XS.ifNo X23.here hx rfl (hb hby d11_22) rfl ((if0 _ _).trans (feq hcs).1) k) ?_
  refine own_by (T' := T23) (g' := (mkF m 26 #[.val (.ref a), .val (.ref b), .val (.ref b)] [(.ref a)])) (fun _ k => XS.aloadN X23.here hx rfl (hb hby d11_25) rfl rfl k) ?_
  obtain ⟨T24, X24, e24, st24⟩ := getF X23 hx hZ hown (host := "") (Or.inl (hw _ (List.mem_of_getElem? (i := 28) rfl))) Via.refl e23 F_coder_a (g := (mkF m 26 #[.val (.ref a), .val (.ref b), .val (.ref b)] [(.ref a)])) rfl rfl (hb hby d11_26)
  refine own_by (T' := T24) (g' := (mkF m 29 #[.val (.ref a), .val (.ref b), .val (.ref b)] [(.int (0 : Int32))])) (fun _ k => st24 _ k) ?_
  refine own_by (T' := T24) (g' := (mkF m 30 #[.val (.ref a), .val (.ref b), .val (.ref b)] [(.ref b), (.int (0 : Int32))])) (fun _ k => XS.aloadN X24.here hx rfl (hb hby d11_29) rfl rfl k) ?_
  obtain ⟨T25, X25, e25, st25⟩ := getF X24 hx hZ hown (host := "") (Or.inl (hw _ (List.mem_of_getElem? (i := 28) rfl))) Via.refl e24 F_coder_b (g := (mkF m 30 #[.val (.ref a), .val (.ref b), .val (.ref b)] [(.ref b), (.int (0 : Int32))])) rfl rfl (hb hby d11_30)
  refine own_by (T' := T25) (g' := (mkF m 33 #[.val (.ref a), .val (.ref b), .val (.ref b)] [(.int (0 : Int32)), (.int (0 : Int32))])) (fun _ k => st25 _ k) ?_
  refine own_by (T' := T25) (g' := (mkF m 36 #[.val (.ref a), .val (.ref b), .val (.ref b)] [])) (fun _ k => XS.icmpNo X25.here hx rfl (hb hby d11_33) rfl (teq (by decide)).2 k) ?_
  refine own_by (T' := T25) (g' := (mkF m 37 #[.val (.ref a), .val (.ref b), .val (.ref b)] [(.ref a)])) (fun _ k => XS.aloadN X25.here hx rfl (hb hby d11_36) rfl rfl k) ?_
  obtain ⟨T26, X26, e26, st26⟩ := getF X25 hx hZ hown (host := "") (Or.inl (hw _ (List.mem_of_getElem? (i := 27) rfl))) Via.refl e25 F_value_a (g := (mkF m 37 #[.val (.ref a), .val (.ref b), .val (.ref b)] [(.ref a)])) rfl rfl (hb hby d11_37)
  refine own_by (T' := T26) (g' := (mkF m 40 #[.val (.ref a), .val (.ref b), .val (.ref b)] [(.ref t1)])) (fun _ k => st26 _ k) ?_
  refine own_by (T' := T26) (g' := (mkF m 41 #[.val (.ref a), .val (.ref b), .val (.ref b)] [(.ref b), (.ref t1)])) (fun _ k => XS.aloadN X26.here hx rfl (hb hby d11_40) rfl rfl k) ?_
  obtain ⟨T27, X27, e27, st27⟩ := getF X26 hx hZ hown (host := "") (Or.inl (hw _ (List.mem_of_getElem? (i := 27) rfl))) Via.refl e26 F_value_b (g := (mkF m 41 #[.val (.ref a), .val (.ref b), .val (.ref b)] [(.ref b), (.ref t1)])) rfl rfl (hb hby d11_41)
  refine own_by (T' := T27) (g' := (mkF m 44 #[.val (.ref a), .val (.ref b), .val (.ref b)] [(.ref t2), (.ref t1)])) (fun _ k => st27 _ k) ?_
  obtain ⟨_, _, ⟨T28, L28, k28, n28⟩, -, X28, ⟨Lc28, hQ28, l28, y28, z28⟩, st28⟩ := Jvm.LawKit.callS X27 hx (y := (⟨"java/lang/StringLatin1", "equals", "([B[B)Z"⟩ : MethodName)) hown (mvT hZ (hw _ (List.mem_of_getElem? (i := 70) rfl))) (mvT hZ (hw _ (List.mem_of_getElem? (i := 71) rfl))) (mvT hZ (hw _ (List.mem_of_getElem? (i := 72) rfl))) (mvT hZ (hw _ (List.mem_of_getElem? (i := 73) rfl))) (by decide) (backOf (W := 0) (leq_1_1 l Z a0 hw [] t1 t2 k1 k2 x0 y0 h0 n0 Z0 V_t1 V_t2) hZ (hw _ (List.mem_of_getElem? (i := 73) rfl)) (hw _ (List.mem_of_getElem? (i := 72) rfl)) (by decide) (by decide)) (g := (mkF m 44 #[.val (.ref a), .val (.ref b), .val (.ref b)] [(.ref t2), (.ref t1)])) rfl (by rw [hml]; rfl) (argsL := [(.ref t1), (.ref t2)]) (rest := []) (lenOf pd_7 rfl) rfl (by show 2 * 0 + _ ≤ _; exact Nat.le_of_eq rfl) (hb hby d11_44) (fun _ _ => ⟨rfl, e27, (by decide : 0 + 0 ≤ _), (by decide : 0 + 0 ≤ _)⟩)
  dsimp only [Pt.U, Pt.locs, Pt.cells, Pt.slots] at X28 l28 y28 z28 st28 hQ28
  subst l28 y28 z28
  obtain ⟨rfl, N28q, e28⟩ := hQ28
  have N28 := Fr.app N0 N28q
  refine own_by (T' := T28) (g' := (mkF m 47 #[.val (.ref a), .val (.ref b), .val (.ref b)] [(.int (if x0 = y0 then (1 : Int32) else (0 : Int32)))])) (fun _ k => st28 _ k) ?_
  by_cases hc47_29 : (if x0 = y0 then (1 : Int32) else (0 : Int32)) = (0 : Int32)
  · skip
    refine own_by (T' := T28) (g' := (mkF m 54 #[.val (.ref a), .val (.ref b), .val (.ref b)] [])) (fun _ k => XS.ifYes X28.here hx rfl (pc0 := 47) (pc' := 54) rfl (hb hby d11_47) rfl ((if0 _ _).trans (teq hc47_29).1) (by decide) (by decide) k) ?_
    refine own_by (T' := T28) (g' := (mkF m 55 #[.val (.ref a), .val (.ref b), .val (.ref b)] [(.int (0 : Int32))])) (fun _ k => XS.iconst X28.here hx rfl (hb hby d11_54) k) ?_
    refine own_ret X28 hlk (v := some (.int (0 : Int32))) (fun h => by rw [Bd.returns] at h; cases h) (fun fs hr => retN X28 hx (t := .boolean) Bd.returns (by simp) (hb hby d11_55) hr) ?_ (by decide) (by decide)
    rw [e28]
    exact ⟨congrArg (fun z => some (Value.int z)) (if_pos hc47_29).symm, N28, rfl⟩
  · skip
    refine own_by (T' := T28) (g' := (mkF m 50 #[.val (.ref a), .val (.ref b), .val (.ref b)] [])) (fun _ k => XS.ifNo X28.here hx rfl (hb hby d11_47) rfl ((if0 _ _).trans (feq hc47_29).1) k) ?_
    refine own_by (T' := T28) (g' := (mkF m 51 #[.val (.ref a), .val (.ref b), .val (.ref b)] [(.int (1 : Int32))])) (fun _ k => XS.iconst X28.here hx rfl (hb hby d11_50) k) ?_
    refine own_by (T' := T28) (g' := (mkF m 55 #[.val (.ref a), .val (.ref b), .val (.ref b)] [(.int (1 : Int32))])) (fun _ k => XS.goto X28.here hx rfl (pc0 := 51) (pc' := 55) rfl (hb hby d11_51) (by decide) (by decide) k) ?_
    refine own_ret X28 hlk (v := some (.int (1 : Int32))) (fun h => by rw [Bd.returns] at h; cases h) (fun fs hr => retN X28 hx (t := .boolean) Bd.returns (by simp) (hb hby d11_55) hr) ?_ (by decide) (by decide)
    rw [e28]
    exact ⟨congrArg (fun z => some (Value.int z)) (if_neg hc47_29).symm, N28, rfl⟩
theorem ef_leq_dash (m : MethodId) (t1 : Addr) (t2 : Addr) : entryFrame m #[(.ref t1), (.ref t2)] 3 = mkF m 0 #[.val (.ref t1), .val (.ref t2), .unset] [] := by first | (simp [entryFrame, mkF, argsToLocals, Value.category]; done) | rfl
def Q_leq_dash (Z : State) (t1 : Addr) (t2 : Addr) (k1 : ClassId) (k2 : ClassId) (h0 : Heap) (n0 : Nat) (v : Option Value) (h : Heap) (L : List Loc) : Prop := v = some (.int (1 : Int32)) ∧ Fr n0 L ∧ h = h0
set_option maxRecDepth 65536 in
set_option maxHeartbeats 40000000 in
theorem leq_dash (l : Launch) (Z : State) (a0 : Array Value) (hw : ∀ d ∈ tables_1, d.before a0 Z = true) (ws : List Jvm.Cond) (t1 : Addr) (t2 : Addr) (k1 : ClassId) (k2 : ClassId) (h0 : Heap) (n0 : Nat) (Z0 : n0 ≤ h0.size) (V_t1 : Arv Z h0 t1 k1 .byte (1 : Int32) [(.int (45 : Int32))] (.int (0 : Int32))) (V_t2 : Arv Z h0 t2 k2 .byte (1 : Int32) [(.int (45 : Int32))] (.int (0 : Int32))) :
    MetFree l (⟨"java/lang/StringLatin1", "equals", "([B[B)Z"⟩ : MethodName) (head1 (Jvm.Cond.code (⟨"java/lang/StringLatin1", "equals", "([B[B)Z"⟩ : MethodName) jdk_43_method_13_code 3 (some .boolean) :: ws) ({ frames := 0, cells := 0, slots := 0, locals := 0 } : Room)) (fun zz UU => zz = #[(.ref t1), (.ref t2)] ∧ Z.Warmed39 UU.vm ∧ UU.heap = h0) (fun _ _ _ _ _ => True) (fun _ U o U' => ∃ v L, o = .returned v ∧ Q_leq_dash Z t1 t2 k1 k2 h0 n0 v U'.heap L ∧ FrameEnd U o U' L ({ frames := 0, cells := 0, slots := 0, locals := 0 } : Room).cells ({ frames := 0, cells := 0, slots := 0, locals := 0 } : Room).slots) := by
  refine MetFree.of_bodySF (plainFor_of_name pn_12) hisR ?_
  intro p e s m args below meth c s₁ Bd hml0 hP hK
  obtain ⟨rfl, hZ, hh⟩ := hP
  have hx := Bd.exec
  have hby := Bd.bytes
  have hml : c.maxLocals = 3 := hml0
  have hown : s.vm.findClass "java/lang/StringLatin1" = some m.cls := findClass_of_methodNamed Bd.named
  have hnm := (name_of_methodNamed Bd.named Bd.method).1
  have hlk : meth.locks = false := BodyLoose.notSynchronized Bd
  have X0 : Stand p l e ({ frames := 0, cells := 0, slots := 0, locals := 0 } : Room) s m #[(.ref t1), (.ref t2)] below meth c s₁ [] 0 0 := Stand.of_body Bd
  have e0 : s₁.heap = h0 := by rw [← hh, Bd.state]; rfl
  have N0 := Fr.nil n0
  show own_Go p.tables e below (Q_leq_dash Z t1 t2 k1 k2 h0 n0) s ({ frames := 0, cells := 0, slots := 0, locals := 0 } : Room).cells ({ frames := 0, cells := 0, slots := 0, locals := 0 } : Room).slots s₁ (entryFrame m #[(.ref t1), (.ref t2)] 3)
  rw [ef_leq_dash m t1 t2]
  refine own_by (T' := s₁) (g' := (mkF m 1 #[.val (.ref t1), .val (.ref t2), .unset] [(.ref t1)])) (fun _ k => XS.aloadN X0.here hx rfl (hb hby d12_0) rfl rfl k) ?_
  obtain ⟨cl21, Ar21, q21, S21, N_21, H21, G21⟩ := id V_t1
  refine own_by (T' := s₁) (g' := (mkF m 2 #[.val (.ref t1), .val (.ref t2), .unset] [(.int (1 : Int32))])) (fun _ k => X0.arraylength hx (by rw [e0]; exact Ar21.1) (State.isArrayOf_alike hZ.alike Ar21.2.1) (g := (mkF m 1 #[.val (.ref t1), .val (.ref t2), .unset] [(.ref t1)])) rfl rfl (hb hby d12_1) _ (by rw [len_of S21 N_21]; exact k)) ?_
  refine own_by (T' := s₁) (g' := (mkF m 3 #[.val (.ref t1), .val (.ref t2), .unset] [(.ref t2), (.int (1 : Int32))])) (fun _ k => XS.aloadN X0.here hx rfl (hb hby d12_2) rfl rfl k) ?_
  obtain ⟨cl22, Ar22, q22, S22, N_22, H22, G22⟩ := id V_t2
  refine own_by (T' := s₁) (g' := (mkF m 4 #[.val (.ref t1), .val (.ref t2), .unset] [(.int (1 : Int32)), (.int (1 : Int32))])) (fun _ k => X0.arraylength hx (by rw [e0]; exact Ar22.1) (State.isArrayOf_alike hZ.alike Ar22.2.1) (g := (mkF m 3 #[.val (.ref t1), .val (.ref t2), .unset] [(.ref t2), (.int (1 : Int32))])) rfl rfl (hb hby d12_3) _ (by rw [len_of S22 N_22]; exact k)) ?_
  refine own_by (T' := s₁) (g' := (mkF m 7 #[.val (.ref t1), .val (.ref t2), .unset] [])) (fun _ k => XS.icmpNo X0.here hx rfl (hb hby d12_4) rfl (teq (by decide)).2 k) ?_
  refine own_by (T' := s₁) (g' := (mkF m 8 #[.val (.ref t1), .val (.ref t2), .unset] [(.int (0 : Int32))])) (fun _ k => XS.iconst X0.here hx rfl (hb hby d12_7) k) ?_
  refine own_by (T' := s₁) (g' := (mkF m 9 #[.val (.ref t1), .val (.ref t2), .val (.int (0 : Int32))] [])) (fun _ k => XS.istoreN X0.here hx rfl (hb hby d12_8) rfl (l' := #[.val (.ref t1), .val (.ref t2), .val (.int (0 : Int32))]) rfl k) ?_
  refine own_by (T' := s₁) (g' := (mkF m 10 #[.val (.ref t1), .val (.ref t2), .val (.int (0 : Int32))] [(.int (0 : Int32))])) (fun _ k => XS.iloadN X0.here hx rfl (hb hby d12_9) rfl k) ?_
  refine own_by (T' := s₁) (g' := (mkF m 11 #[.val (.ref t1), .val (.ref t2), .val (.int (0 : Int32))] [(.ref t1), (.int (0 : Int32))])) (fun _ k => XS.aloadN X0.here hx rfl (hb hby d12_10) rfl rfl k) ?_
  obtain ⟨cl23, Ar23, q23, S23, N_23, H23, G23⟩ := id V_t1
  refine own_by (T' := s₁) (g' := (mkF m 12 #[.val (.ref t1), .val (.ref t2), .val (.int (0 : Int32))] [(.int (1 : Int32)), (.int (0 : Int32))])) (fun _ k => X0.arraylength hx (by rw [e0]; exact Ar23.1) (State.isArrayOf_alike hZ.alike Ar23.2.1) (g := (mkF m 11 #[.val (.ref t1), .val (.ref t2), .val (.int (0 : Int32))] [(.ref t1), (.int (0 : Int32))])) rfl rfl (hb hby d12_11) _ (by rw [len_of S23 N_23]; exact k)) ?_
  refine own_by (T' := s₁) (g' := (mkF m 15 #[.val (.ref t1), .val (.ref t2), .val (.int (0 : Int32))] [])) (fun _ k => XS.icmpNo X0.here hx rfl (hb hby d12_12) rfl (tlt (by decide)).2.1 k) ?_
  refine own_by (T' := s₁) (g' := (mkF m 16 #[.val (.ref t1), .val (.ref t2), .val (.int (0 : Int32))] [(.ref t1)])) (fun _ k => XS.aloadN X0.here hx rfl (hb hby d12_15) rfl rfl k) ?_
  refine own_by (T' := s₁) (g' := (mkF m 17 #[.val (.ref t1), .val (.ref t2), .val (.int (0 : Int32))] [(.int (0 : Int32)), (.ref t1)])) (fun _ k => XS.iloadN X0.here hx rfl (hb hby d12_16) rfl k) ?_
  obtain ⟨cl24, Ar24, q24, S24, N_24, H24, G24⟩ := id V_t1
  have hin24 : ¬ ((0 : Int32) < 0 ∨ cl24.slots.size ≤ ((0 : Int32)).toNatClampNeg) := inb_of S24 ⟨by decide, by decide⟩
  refine own_by (T' := s₁) (g' := (mkF m 18 #[.val (.ref t1), .val (.ref t2), .val (.int (0 : Int32))] [(.int (45 : Int32))])) (fun _ k => X0.baloadBytes hx (j := (0 : Int32)) (v := (.int (45 : Int32))) (by rw [e0]; exact Ar24.1) (State.isArrayOf_alike hZ.alike Ar24.2.1) Ar24.2.2 hin24 (Has.at H24 hin24 rfl) (g := (mkF m 17 #[.val (.ref t1), .val (.ref t2), .val (.int (0 : Int32))] [(.int (0 : Int32)), (.ref t1)])) rfl rfl (hb hby d12_17) _ k) ?_
  refine own_by (T' := s₁) (g' := (mkF m 19 #[.val (.ref t1), .val (.ref t2), .val (.int (0 : Int32))] [(.ref t2), (.int (45 : Int32))])) (fun _ k => XS.aloadN X0.here hx rfl (hb hby d12_18) rfl rfl k) ?_
  refine own_by (T' := s₁) (g' := (mkF m 20 #[.val (.ref t1), .val (.ref t2), .val (.int (0 : Int32))] [(.int (0 : Int32)), (.ref t2), (.int (45 : Int32))])) (fun _ k => XS.iloadN X0.here hx rfl (hb hby d12_19) rfl k) ?_
  obtain ⟨cl25, Ar25, q25, S25, N_25, H25, G25⟩ := id V_t2
  have hin25 : ¬ ((0 : Int32) < 0 ∨ cl25.slots.size ≤ ((0 : Int32)).toNatClampNeg) := inb_of S25 ⟨by decide, by decide⟩
  refine own_by (T' := s₁) (g' := (mkF m 21 #[.val (.ref t1), .val (.ref t2), .val (.int (0 : Int32))] [(.int (45 : Int32)), (.int (45 : Int32))])) (fun _ k => X0.baloadBytes hx (j := (0 : Int32)) (v := (.int (45 : Int32))) (by rw [e0]; exact Ar25.1) (State.isArrayOf_alike hZ.alike Ar25.2.1) Ar25.2.2 hin25 (Has.at H25 hin25 rfl) (g := (mkF m 20 #[.val (.ref t1), .val (.ref t2), .val (.int (0 : Int32))] [(.int (0 : Int32)), (.ref t2), (.int (45 : Int32))])) rfl rfl (hb hby d12_20) _ k) ?_
  refine own_by (T' := s₁) (g' := (mkF m 26 #[.val (.ref t1), .val (.ref t2), .val (.int (0 : Int32))] [])) (fun _ k => XS.icmpYes X0.here hx rfl (pc0 := 21) (pc' := 26) rfl (hb hby d12_21) rfl (teq (by decide)).1 (by decide) (by decide) k) ?_
  refine own_by (T' := s₁) (g' := (mkF m 29 #[.val (.ref t1), .val (.ref t2), .val (.int (1 : Int32))] [])) (fun _ k => XS.iinc X0.here hx rfl (hb hby d12_26) rfl (l' := #[.val (.ref t1), .val (.ref t2), .val (.int (1 : Int32))]) rfl k) ?_
  refine own_by (T' := s₁) (g' := (mkF m 9 #[.val (.ref t1), .val (.ref t2), .val (.int (1 : Int32))] [])) (fun _ k => XS.goto X0.here hx rfl (pc0 := 29) (pc' := 9) rfl (hb hby d12_29) (by decide) (by decide) k) ?_
  refine own_by (T' := s₁) (g' := (mkF m 10 #[.val (.ref t1), .val (.ref t2), .val (.int (1 : Int32))] [(.int (1 : Int32))])) (fun _ k => XS.iloadN X0.here hx rfl (hb hby d12_9) rfl k) ?_
  refine own_by (T' := s₁) (g' := (mkF m 11 #[.val (.ref t1), .val (.ref t2), .val (.int (1 : Int32))] [(.ref t1), (.int (1 : Int32))])) (fun _ k => XS.aloadN X0.here hx rfl (hb hby d12_10) rfl rfl k) ?_
  obtain ⟨cl26, Ar26, q26, S26, N_26, H26, G26⟩ := id V_t1
  refine own_by (T' := s₁) (g' := (mkF m 12 #[.val (.ref t1), .val (.ref t2), .val (.int (1 : Int32))] [(.int (1 : Int32)), (.int (1 : Int32))])) (fun _ k => X0.arraylength hx (by rw [e0]; exact Ar26.1) (State.isArrayOf_alike hZ.alike Ar26.2.1) (g := (mkF m 11 #[.val (.ref t1), .val (.ref t2), .val (.int (1 : Int32))] [(.ref t1), (.int (1 : Int32))])) rfl rfl (hb hby d12_11) _ (by rw [len_of S26 N_26]; exact k)) ?_
  refine own_by (T' := s₁) (g' := (mkF m 32 #[.val (.ref t1), .val (.ref t2), .val (.int (1 : Int32))] [])) (fun _ k => XS.icmpYes X0.here hx rfl (pc0 := 12) (pc' := 32) rfl (hb hby d12_12) rfl (flt (by decide)).2.1 (by decide) (by decide) k) ?_
  refine own_by (T' := s₁) (g' := (mkF m 33 #[.val (.ref t1), .val (.ref t2), .val (.int (1 : Int32))] [(.int (1 : Int32))])) (fun _ k => XS.iconst X0.here hx rfl (hb hby d12_32) k) ?_
  refine own_ret X0 hlk (v := some (.int (1 : Int32))) (fun h => by rw [Bd.returns] at h; cases h) (fun fs hr => retN X0 hx (t := .boolean) Bd.returns (by simp) (hb hby d12_33) hr) ?_ (by decide) (by decide)
  rw [e0]
  exact ⟨congrArg (fun z => some (Value.int z)) rfl, N0, rfl⟩
theorem d11_5 : decode jdk_42_method_66_code 5 = .ok (.iconst 1, 1) := by decide +kernel
theorem d11_6 : decode jdk_42_method_66_code 6 = .ok (.ireturn, 1) := by decide +kernel
theorem ef_seq_dash (m : MethodId) (a : Addr) (b : Addr) : entryFrame m #[(.ref a), (.ref b)] 3 = mkF m 0 #[.val (.ref a), .val (.ref b), .unset] [] := by first | (simp [entryFrame, mkF, argsToLocals, Value.category]; done) | rfl
def Q_seq_dash (Z : State) (a : Addr) (b : Addr) (t1 : Addr) (t2 : Addr) (k1 : ClassId) (k2 : ClassId) (cs : Int32) (h0 : Heap) (n0 : Nat) (v : Option Value) (h : Heap) (L : List Loc) : Prop := v = some (.int (1 : Int32)) ∧ Fr n0 L ∧ h = h0
set_option maxRecDepth 65536 in
set_option maxHeartbeats 40000000 in
theorem seq_dash (l : Launch) (Z : State) (a0 : Array Value) (hw : ∀ d ∈ tables_1, d.before a0 Z = true) (ws : List Jvm.Cond) (a : Addr) (b : Addr) (t1 : Addr) (t2 : Addr) (k1 : ClassId) (k2 : ClassId) (cs : Int32) (h0 : Heap) (n0 : Nat) (Z0 : n0 ≤ h0.size) (E_b : Exa Z h0 b "java/lang/String") (F_coder_a : Fld Z h0 a "java/lang/String" "coder" "B" (.int (0 : Int32))) (F_coder_b : Fld Z h0 b "java/lang/String" "coder" "B" (.int (0 : Int32))) (F_value_a : Fld Z h0 a "java/lang/String" "value" "[B" (.ref t1)) (F_value_b : Fld Z h0 b "java/lang/String" "value" "[B" (.ref t2)) (V_t1 : Arv Z h0 t1 k1 .byte (1 : Int32) [(.int (45 : Int32))] (.int (0 : Int32))) (V_t2 : Arv Z h0 t2 k2 .byte (1 : Int32) [(.int (45 : Int32))] (.int (0 : Int32))) (S_CS : Sta Z h0 "java/lang/String" "COMPACT_STRINGS" "Z" (.int cs)) (hcs : ¬ cs = (0 : Int32)) :
    MetFree l (⟨"java/lang/String", "equals", "(Ljava/lang/Object;)Z"⟩ : MethodName) (head1 (Jvm.Cond.code (⟨"java/lang/String", "equals", "(Ljava/lang/Object;)Z"⟩ : MethodName) jdk_42_method_66_code 3 (some .boolean) :: ws) ({ frames := 1, cells := 0, slots := 0, locals := 14 } : Room)) (fun zz UU => zz = #[(.ref a), (.ref b)] ∧ Z.Warmed39 UU.vm ∧ UU.heap = h0) (fun _ _ _ _ _ => True) (fun _ U o U' => ∃ v L, o = .returned v ∧ Q_seq_dash Z a b t1 t2 k1 k2 cs h0 n0 v U'.heap L ∧ FrameEnd U o U' L ({ frames := 1, cells := 0, slots := 0, locals := 14 } : Room).cells ({ frames := 1, cells := 0, slots := 0, locals := 14 } : Room).slots) := by
  refine MetFree.of_bodySF (plainFor_of_name pn_11) hisR ?_
  intro p e s m args below meth c s₁ Bd hml0 hP hK
  obtain ⟨rfl, hZ, hh⟩ := hP
  have hx := Bd.exec
  have hby := Bd.bytes
  have hml : c.maxLocals = 3 := hml0
  have hown : s.vm.findClass "java/lang/String" = some m.cls := findClass_of_methodNamed Bd.named
  have hnm := (name_of_methodNamed Bd.named Bd.method).1
  have hlk : meth.locks = false := BodyLoose.notSynchronized Bd
  have X0 : Stand p l e ({ frames := 1, cells := 0, slots := 0, locals := 14 } : Room) s m #[(.ref a), (.ref b)] below meth c s₁ [] 0 0 := Stand.of_body Bd
  have e0 : s₁.heap = h0 := by rw [← hh, Bd.state]; rfl
  have N0 := Fr.nil n0
  show own_Go p.tables e below (Q_seq_dash Z a b t1 t2 k1 k2 cs h0 n0) s ({ frames := 1, cells := 0, slots := 0, locals := 14 } : Room).cells ({ frames := 1, cells := 0, slots := 0, locals := 14 } : Room).slots s₁ (entryFrame m #[(.ref a), (.ref b)] 3)
  rw [ef_seq_dash m a b]
  refine own_by (T' := s₁) (g' := (mkF m 1 #[.val (.ref a), .val (.ref b), .unset] [(.ref a)])) (fun _ k => XS.aloadN X0.here hx rfl (hb hby d11_0) rfl rfl k) ?_
  refine own_by (T' := s₁) (g' := (mkF m 2 #[.val (.ref a), .val (.ref b), .unset] [(.ref b), (.ref a)])) (fun _ k => XS.aloadN X0.here hx rfl (hb hby d11_1) rfl rfl k) ?_
  by_cases hc2_21 : a = b
  · skip
    refine own_by (T' := s₁) (g' := (mkF m 5 #[.val (.ref a), .val (.ref b), .unset] [])) (fun _ k => Jvm.RoadKit.acmp (g := (mkF m 2 #[.val (.ref a), .val (.ref b), .unset] [(.ref b), (.ref a)])) X0 hx rfl rfl rfl (pc0 := 2) (pc' := 5) (same := true) rfl (hb hby d11_2) rfl (decide_eq_true (congrArg Value.ref hc2_21)) (by decide) (by decide) k) ?_
    refine own_by (T' := s₁) (g' := (mkF m 6 #[.val (.ref a), .val (.ref b), .unset] [(.int (1 : Int32))])) (fun _ k => XS.iconst X0.here hx rfl (hb hby d11_5) k) ?_
    refine own_ret X0 hlk (v := some (.int (1 : Int32))) (fun h => by rw [Bd.returns] at h; cases h) (fun fs hr => retN X0 hx (t := .boolean) Bd.returns (by simp) (hb hby d11_6) hr) ?_ (by decide) (by decide)
    rw [e0]
    exact ⟨congrArg (fun z => some (Value.int z)) rfl, N0, rfl⟩
  · skip
    refine own_by (T' := s₁) (g' := (mkF m 7 #[.val (.ref a), .val (.ref b), .unset] [])) (fun _ k => Jvm.RoadKit.acmp (g := (mkF m 2 #[.val (.ref a), .val (.ref b), .unset] [(.ref b), (.ref a)])) X0 hx rfl rfl rfl (pc0 := 2) (pc' := 7) (same := false) rfl (hb hby d11_2) rfl (decide_eq_false fun q => hc2_21 (Value.ref.inj q)) (by decide) (by decide) k) ?_
    refine own_by (T' := s₁) (g' := (mkF m 8 #[.val (.ref a), .val (.ref b), .unset] [(.ref b)])) (fun _ k => XS.aloadN X0.here hx rfl (hb hby d11_7) rfl rfl k) ?_
    obtain ⟨T22, X22, e22, st22⟩ := instY X0 hx hZ hown (hw _ (List.mem_of_getElem? (i := 68) rfl)) e0 (Ins.self E_b) (g := (mkF m 8 #[.val (.ref a), .val (.ref b), .unset] [(.ref b)])) rfl rfl (hb hby d11_8)
    refine own_by (T' := T22) (g' := (mkF m 11 #[.val (.ref a), .val (.ref b), .unset] [(.int (1 : Int32))])) (fun _ k => st22 _ k) ?_
    refine own_by (T' := T22) (g' := (mkF m 14 #[.val (.ref a), .val (.ref b), .unset] [])) (fun _ k => XS.ifNo X22.here hx rfl (hb hby d11_11) rfl ((if0 _ _).trans (feq (by decide)).1) k) ?_
    refine own_by (T' := T22) (g' := (mkF m 15 #[.val (.ref a), .val (.ref b), .unset] [(.ref b)])) (fun _ k => XS.aloadN X22.here hx rfl (hb hby d11_14) rfl rfl k) ?_
    obtain ⟨T23, X23, e23, st23⟩ := castY X22 hx hZ hown (hw _ (List.mem_of_getElem? (i := 68) rfl)) e22 (Ins.self E_b) (g := (mkF m 15 #[.val (.ref a), .val (.ref b), .unset] [(.ref b)])) rfl rfl (hb hby d11_15)
    refine own_by (T' := T23) (g' := (mkF m 18 #[.val (.ref a), .val (.ref b), .unset] [(.ref b)])) (fun _ k => st23 _ k) ?_
    refine own_by (T' := T23) (g' := (mkF m 19 #[.val (.ref a), .val (.ref b), .val (.ref b)] [])) (fun _ k => XS.astoreN X23.here hx rfl (hb hby d11_18) rfl rfl (l' := #[.val (.ref a), .val (.ref b), .val (.ref b)]) rfl k) ?_
    obtain ⟨T24, X24, e24, st24⟩ := getS2 X23 hx hZ hown (host := "") (Or.inl (hw _ (List.mem_of_getElem? (i := 69) rfl))) Via.refl e23 S_CS (g := (mkF m 19 #[.val (.ref a), .val (.ref b), .val (.ref b)] [])) rfl (hb hby d11_19)
    refine own_by (T' := T24) (g' := (mkF m 22 #[.val (.ref a), .val (.ref b), .val (.ref b)] [(.int cs)])) (fun _ k => st24 _ k) ?_
    refine own_by (T' := T24) (g' := (mkF m 25 #[.val (.ref a), .val (.ref b), .val (.ref b)] [])) (fun _ k => XS.ifNo X24.here hx rfl (hb hby d11_22) rfl ((if0 _ _).trans (feq hcs).1) k) ?_
    refine own_by (T' := T24) (g' := (mkF m 26 #[.val (.ref a), .val (.ref b), .val (.ref b)] [(.ref a)])) (fun _ k => XS.aloadN X24.here hx rfl (hb hby d11_25) rfl rfl k) ?_
    obtain ⟨T25, X25, e25, st25⟩ := getF X24 hx hZ hown (host := "") (Or.inl (hw _ (List.mem_of_getElem? (i := 28) rfl))) Via.refl e24 F_coder_a (g := (mkF m 26 #[.val (.ref a), .val (.ref b), .val (.ref b)] [(.ref a)])) rfl rfl (hb hby d11_26)
    refine own_by (T' := T25) (g' := (mkF m 29 #[.val (.ref a), .val (.ref b), .val (.ref b)] [(.int (0 : Int32))])) (fun _ k => st25 _ k) ?_
    refine own_by (T' := T25) (g' := (mkF m 30 #[.val (.ref a), .val (.ref b), .val (.ref b)] [(.ref b), (.int (0 : Int32))])) (fun _ k => XS.aloadN X25.here hx rfl (hb hby d11_29) rfl rfl k) ?_
    obtain ⟨T26, X26, e26, st26⟩ := getF X25 hx hZ hown (host := "") (Or.inl (hw _ (List.mem_of_getElem? (i := 28) rfl))) Via.refl e25 F_coder_b (g := (mkF m 30 #[.val (.ref a), .val (.ref b), .val (.ref b)] [(.ref b), (.int (0 : Int32))])) rfl rfl (hb hby d11_30)
    refine own_by (T' := T26) (g' := (mkF m 33 #[.val (.ref a), .val (.ref b), .val (.ref b)] [(.int (0 : Int32)), (.int (0 : Int32))])) (fun _ k => st26 _ k) ?_
    refine own_by (T' := T26) (g' := (mkF m 36 #[.val (.ref a), .val (.ref b), .val (.ref b)] [])) (fun _ k => XS.icmpNo X26.here hx rfl (hb hby d11_33) rfl (teq (by decide)).2 k) ?_
    refine own_by (T' := T26) (g' := (mkF m 37 #[.val (.ref a), .val (.ref b), .val (.ref b)] [(.ref a)])) (fun _ k => XS.aloadN X26.here hx rfl (hb hby d11_36) rfl rfl k) ?_
    obtain ⟨T27, X27, e27, st27⟩ := getF X26 hx hZ hown (host := "") (Or.inl (hw _ (List.mem_of_getElem? (i := 27) rfl))) Via.refl e26 F_value_a (g := (mkF m 37 #[.val (.ref a), .val (.ref b), .val (.ref b)] [(.ref a)])) rfl rfl (hb hby d11_37)
    refine own_by (T' := T27) (g' := (mkF m 40 #[.val (.ref a), .val (.ref b), .val (.ref b)] [(.ref t1)])) (fun _ k => st27 _ k) ?_
    refine own_by (T' := T27) (g' := (mkF m 41 #[.val (.ref a), .val (.ref b), .val (.ref b)] [(.ref b), (.ref t1)])) (fun _ k => XS.aloadN X27.here hx rfl (hb hby d11_40) rfl rfl k) ?_
    obtain ⟨T28, X28, e28, st28⟩ := getF X27 hx hZ hown (host := "") (Or.inl (hw _ (List.mem_of_getElem? (i := 27) rfl))) Via.refl e27 F_value_b (g := (mkF m 41 #[.val (.ref a), .val (.ref b), .val (.ref b)] [(.ref b), (.ref t1)])) rfl rfl (hb hby d11_41)
    refine own_by (T' := T28) (g' := (mkF m 44 #[.val (.ref a), .val (.ref b), .val (.ref b)] [(.ref t2), (.ref t1)])) (fun _ k => st28 _ k) ?_
    obtain ⟨_, _, ⟨T29, L29, k29, n29⟩, -, X29, ⟨Lc29, hQ29, l29, y29, z29⟩, st29⟩ := Jvm.LawKit.callS X28 hx (y := (⟨"java/lang/StringLatin1", "equals", "([B[B)Z"⟩ : MethodName)) hown (mvT hZ (hw _ (List.mem_of_getElem? (i := 70) rfl))) (mvT hZ (hw _ (List.mem_of_getElem? (i := 71) rfl))) (mvT hZ (hw _ (List.mem_of_getElem? (i := 72) rfl))) (mvT hZ (hw _ (List.mem_of_getElem? (i := 73) rfl))) (by decide) (backOf (W := 0) (leq_dash l Z a0 hw [] t1 t2 k1 k2 h0 n0 Z0 V_t1 V_t2) hZ (hw _ (List.mem_of_getElem? (i := 73) rfl)) (hw _ (List.mem_of_getElem? (i := 72) rfl)) (by decide) (by decide)) (g := (mkF m 44 #[.val (.ref a), .val (.ref b), .val (.ref b)] [(.ref t2), (.ref t1)])) rfl (by rw [hml]; rfl) (argsL := [(.ref t1), (.ref t2)]) (rest := []) (lenOf pd_7 rfl) rfl (by show 2 * 0 + _ ≤ _; exact Nat.le_of_eq rfl) (hb hby d11_44) (fun _ _ => ⟨rfl, e28, (by decide : 0 + 0 ≤ _), (by decide : 0 + 0 ≤ _)⟩)
    dsimp only [Pt.U, Pt.locs, Pt.cells, Pt.slots] at X29 l29 y29 z29 st29 hQ29
    subst l29 y29 z29
    obtain ⟨rfl, N29q, e29⟩ := hQ29
    have N29 := Fr.app N0 N29q
    refine own_by (T' := T29) (g' := (mkF m 47 #[.val (.ref a), .val (.ref b), .val (.ref b)] [(.int (1 : Int32))])) (fun _ k => st29 _ k) ?_
    refine own_by (T' := T29) (g' := (mkF m 50 #[.val (.ref a), .val (.ref b), .val (.ref b)] [])) (fun _ k => XS.ifNo X29.here hx rfl (hb hby d11_47) rfl ((if0 _ _).trans (feq (by decide)).1) k) ?_
    refine own_by (T' := T29) (g' := (mkF m 51 #[.val (.ref a), .val (.ref b), .val (.ref b)] [(.int (1 : Int32))])) (fun _ k => XS.iconst X29.here hx rfl (hb hby d11_50) k) ?_
    refine own_by (T' := T29) (g' := (mkF m 55 #[.val (.ref a), .val (.ref b), .val (.ref b)] [(.int (1 : Int32))])) (fun _ k => XS.goto X29.here hx rfl (pc0 := 51) (pc' := 55) rfl (hb hby d11_51) (by decide) (by decide) k) ?_
    refine own_ret X29 hlk (v := some (.int (1 : Int32))) (fun h => by rw [Bd.returns] at h; cases h) (fun fs hr => retN X29 hx (t := .boolean) Bd.returns (by simp) (hb hby d11_55) hr) ?_ (by decide) (by decide)
    rw [e29]
    exact ⟨congrArg (fun z => some (Value.int z)) rfl, N29, rfl⟩
theorem ef_leq_si (m : MethodId) (t1 : Addr) (t2 : Addr) : entryFrame m #[(.ref t1), (.ref t2)] 3 = mkF m 0 #[.val (.ref t1), .val (.ref t2), .unset] [] := by first | (simp [entryFrame, mkF, argsToLocals, Value.category]; done) | rfl
def Q_leq_si (Z : State) (t1 : Addr) (t2 : Addr) (k1 : ClassId) (k2 : ClassId) (h0 : Heap) (n0 : Nat) (v : Option Value) (h : Heap) (L : List Loc) : Prop := v = some (.int (1 : Int32)) ∧ Fr n0 L ∧ h = h0
set_option maxRecDepth 65536 in
set_option maxHeartbeats 40000000 in
theorem leq_si (l : Launch) (Z : State) (a0 : Array Value) (hw : ∀ d ∈ tables_1, d.before a0 Z = true) (ws : List Jvm.Cond) (t1 : Addr) (t2 : Addr) (k1 : ClassId) (k2 : ClassId) (h0 : Heap) (n0 : Nat) (Z0 : n0 ≤ h0.size) (V_t1 : Arv Z h0 t1 k1 .byte (14 : Int32) [(.int (115 : Int32)), (.int (116 : Int32)), (.int (97 : Int32)), (.int (110 : Int32)), (.int (100 : Int32)), (.int (97 : Int32)), (.int (114 : Int32)), (.int (100 : Int32)), (.int (32 : Int32)), (.int (105 : Int32)), (.int (110 : Int32)), (.int (112 : Int32)), (.int (117 : Int32)), (.int (116 : Int32))] (.int (0 : Int32))) (V_t2 : Arv Z h0 t2 k2 .byte (14 : Int32) [(.int (115 : Int32)), (.int (116 : Int32)), (.int (97 : Int32)), (.int (110 : Int32)), (.int (100 : Int32)), (.int (97 : Int32)), (.int (114 : Int32)), (.int (100 : Int32)), (.int (32 : Int32)), (.int (105 : Int32)), (.int (110 : Int32)), (.int (112 : Int32)), (.int (117 : Int32)), (.int (116 : Int32))] (.int (0 : Int32))) :
    MetFree l (⟨"java/lang/StringLatin1", "equals", "([B[B)Z"⟩ : MethodName) (head1 (Jvm.Cond.code (⟨"java/lang/StringLatin1", "equals", "([B[B)Z"⟩ : MethodName) jdk_43_method_13_code 3 (some .boolean) :: ws) ({ frames := 0, cells := 0, slots := 0, locals := 0 } : Room)) (fun zz UU => zz = #[(.ref t1), (.ref t2)] ∧ Z.Warmed39 UU.vm ∧ UU.heap = h0) (fun _ _ _ _ _ => True) (fun _ U o U' => ∃ v L, o = .returned v ∧ Q_leq_si Z t1 t2 k1 k2 h0 n0 v U'.heap L ∧ FrameEnd U o U' L ({ frames := 0, cells := 0, slots := 0, locals := 0 } : Room).cells ({ frames := 0, cells := 0, slots := 0, locals := 0 } : Room).slots) := by
  refine MetFree.of_bodySF (plainFor_of_name pn_12) hisR ?_
  intro p e s m args below meth c s₁ Bd hml0 hP hK
  obtain ⟨rfl, hZ, hh⟩ := hP
  have hx := Bd.exec
  have hby := Bd.bytes
  have hml : c.maxLocals = 3 := hml0
  have hown : s.vm.findClass "java/lang/StringLatin1" = some m.cls := findClass_of_methodNamed Bd.named
  have hnm := (name_of_methodNamed Bd.named Bd.method).1
  have hlk : meth.locks = false := BodyLoose.notSynchronized Bd
  have X0 : Stand p l e ({ frames := 0, cells := 0, slots := 0, locals := 0 } : Room) s m #[(.ref t1), (.ref t2)] below meth c s₁ [] 0 0 := Stand.of_body Bd
  have e0 : s₁.heap = h0 := by rw [← hh, Bd.state]; rfl
  have N0 := Fr.nil n0
  show own_Go p.tables e below (Q_leq_si Z t1 t2 k1 k2 h0 n0) s ({ frames := 0, cells := 0, slots := 0, locals := 0 } : Room).cells ({ frames := 0, cells := 0, slots := 0, locals := 0 } : Room).slots s₁ (entryFrame m #[(.ref t1), (.ref t2)] 3)
  rw [ef_leq_si m t1 t2]
  refine own_by (T' := s₁) (g' := (mkF m 1 #[.val (.ref t1), .val (.ref t2), .unset] [(.ref t1)])) (fun _ k => XS.aloadN X0.here hx rfl (hb hby d12_0) rfl rfl k) ?_
  obtain ⟨cl21, Ar21, q21, S21, N_21, H21, G21⟩ := id V_t1
  refine own_by (T' := s₁) (g' := (mkF m 2 #[.val (.ref t1), .val (.ref t2), .unset] [(.int (14 : Int32))])) (fun _ k => X0.arraylength hx (by rw [e0]; exact Ar21.1) (State.isArrayOf_alike hZ.alike Ar21.2.1) (g := (mkF m 1 #[.val (.ref t1), .val (.ref t2), .unset] [(.ref t1)])) rfl rfl (hb hby d12_1) _ (by rw [len_of S21 N_21]; exact k)) ?_
  refine own_by (T' := s₁) (g' := (mkF m 3 #[.val (.ref t1), .val (.ref t2), .unset] [(.ref t2), (.int (14 : Int32))])) (fun _ k => XS.aloadN X0.here hx rfl (hb hby d12_2) rfl rfl k) ?_
  obtain ⟨cl22, Ar22, q22, S22, N_22, H22, G22⟩ := id V_t2
  refine own_by (T' := s₁) (g' := (mkF m 4 #[.val (.ref t1), .val (.ref t2), .unset] [(.int (14 : Int32)), (.int (14 : Int32))])) (fun _ k => X0.arraylength hx (by rw [e0]; exact Ar22.1) (State.isArrayOf_alike hZ.alike Ar22.2.1) (g := (mkF m 3 #[.val (.ref t1), .val (.ref t2), .unset] [(.ref t2), (.int (14 : Int32))])) rfl rfl (hb hby d12_3) _ (by rw [len_of S22 N_22]; exact k)) ?_
  refine own_by (T' := s₁) (g' := (mkF m 7 #[.val (.ref t1), .val (.ref t2), .unset] [])) (fun _ k => XS.icmpNo X0.here hx rfl (hb hby d12_4) rfl (teq (by decide)).2 k) ?_
  refine own_by (T' := s₁) (g' := (mkF m 8 #[.val (.ref t1), .val (.ref t2), .unset] [(.int (0 : Int32))])) (fun _ k => XS.iconst X0.here hx rfl (hb hby d12_7) k) ?_
  refine own_by (T' := s₁) (g' := (mkF m 9 #[.val (.ref t1), .val (.ref t2), .val (.int (0 : Int32))] [])) (fun _ k => XS.istoreN X0.here hx rfl (hb hby d12_8) rfl (l' := #[.val (.ref t1), .val (.ref t2), .val (.int (0 : Int32))]) rfl k) ?_
  refine own_by (T' := s₁) (g' := (mkF m 10 #[.val (.ref t1), .val (.ref t2), .val (.int (0 : Int32))] [(.int (0 : Int32))])) (fun _ k => XS.iloadN X0.here hx rfl (hb hby d12_9) rfl k) ?_
  refine own_by (T' := s₁) (g' := (mkF m 11 #[.val (.ref t1), .val (.ref t2), .val (.int (0 : Int32))] [(.ref t1), (.int (0 : Int32))])) (fun _ k => XS.aloadN X0.here hx rfl (hb hby d12_10) rfl rfl k) ?_
  obtain ⟨cl23, Ar23, q23, S23, N_23, H23, G23⟩ := id V_t1
  refine own_by (T' := s₁) (g' := (mkF m 12 #[.val (.ref t1), .val (.ref t2), .val (.int (0 : Int32))] [(.int (14 : Int32)), (.int (0 : Int32))])) (fun _ k => X0.arraylength hx (by rw [e0]; exact Ar23.1) (State.isArrayOf_alike hZ.alike Ar23.2.1) (g := (mkF m 11 #[.val (.ref t1), .val (.ref t2), .val (.int (0 : Int32))] [(.ref t1), (.int (0 : Int32))])) rfl rfl (hb hby d12_11) _ (by rw [len_of S23 N_23]; exact k)) ?_
  refine own_by (T' := s₁) (g' := (mkF m 15 #[.val (.ref t1), .val (.ref t2), .val (.int (0 : Int32))] [])) (fun _ k => XS.icmpNo X0.here hx rfl (hb hby d12_12) rfl (tlt (by decide)).2.1 k) ?_
  refine own_by (T' := s₁) (g' := (mkF m 16 #[.val (.ref t1), .val (.ref t2), .val (.int (0 : Int32))] [(.ref t1)])) (fun _ k => XS.aloadN X0.here hx rfl (hb hby d12_15) rfl rfl k) ?_
  refine own_by (T' := s₁) (g' := (mkF m 17 #[.val (.ref t1), .val (.ref t2), .val (.int (0 : Int32))] [(.int (0 : Int32)), (.ref t1)])) (fun _ k => XS.iloadN X0.here hx rfl (hb hby d12_16) rfl k) ?_
  obtain ⟨cl24, Ar24, q24, S24, N_24, H24, G24⟩ := id V_t1
  have hin24 : ¬ ((0 : Int32) < 0 ∨ cl24.slots.size ≤ ((0 : Int32)).toNatClampNeg) := inb_of S24 ⟨by decide, by decide⟩
  refine own_by (T' := s₁) (g' := (mkF m 18 #[.val (.ref t1), .val (.ref t2), .val (.int (0 : Int32))] [(.int (115 : Int32))])) (fun _ k => X0.baloadBytes hx (j := (0 : Int32)) (v := (.int (115 : Int32))) (by rw [e0]; exact Ar24.1) (State.isArrayOf_alike hZ.alike Ar24.2.1) Ar24.2.2 hin24 (Has.at H24 hin24 rfl) (g := (mkF m 17 #[.val (.ref t1), .val (.ref t2), .val (.int (0 : Int32))] [(.int (0 : Int32)), (.ref t1)])) rfl rfl (hb hby d12_17) _ k) ?_
  refine own_by (T' := s₁) (g' := (mkF m 19 #[.val (.ref t1), .val (.ref t2), .val (.int (0 : Int32))] [(.ref t2), (.int (115 : Int32))])) (fun _ k => XS.aloadN X0.here hx rfl (hb hby d12_18) rfl rfl k) ?_
  refine own_by (T' := s₁) (g' := (mkF m 20 #[.val (.ref t1), .val (.ref t2), .val (.int (0 : Int32))] [(.int (0 : Int32)), (.ref t2), (.int (115 : Int32))])) (fun _ k => XS.iloadN X0.here hx rfl (hb hby d12_19) rfl k) ?_
  obtain ⟨cl25, Ar25, q25, S25, N_25, H25, G25⟩ := id V_t2
  have hin25 : ¬ ((0 : Int32) < 0 ∨ cl25.slots.size ≤ ((0 : Int32)).toNatClampNeg) := inb_of S25 ⟨by decide, by decide⟩
  refine own_by (T' := s₁) (g' := (mkF m 21 #[.val (.ref t1), .val (.ref t2), .val (.int (0 : Int32))] [(.int (115 : Int32)), (.int (115 : Int32))])) (fun _ k => X0.baloadBytes hx (j := (0 : Int32)) (v := (.int (115 : Int32))) (by rw [e0]; exact Ar25.1) (State.isArrayOf_alike hZ.alike Ar25.2.1) Ar25.2.2 hin25 (Has.at H25 hin25 rfl) (g := (mkF m 20 #[.val (.ref t1), .val (.ref t2), .val (.int (0 : Int32))] [(.int (0 : Int32)), (.ref t2), (.int (115 : Int32))])) rfl rfl (hb hby d12_20) _ k) ?_
  refine own_by (T' := s₁) (g' := (mkF m 26 #[.val (.ref t1), .val (.ref t2), .val (.int (0 : Int32))] [])) (fun _ k => XS.icmpYes X0.here hx rfl (pc0 := 21) (pc' := 26) rfl (hb hby d12_21) rfl (teq (by decide)).1 (by decide) (by decide) k) ?_
  refine own_by (T' := s₁) (g' := (mkF m 29 #[.val (.ref t1), .val (.ref t2), .val (.int (1 : Int32))] [])) (fun _ k => XS.iinc X0.here hx rfl (hb hby d12_26) rfl (l' := #[.val (.ref t1), .val (.ref t2), .val (.int (1 : Int32))]) rfl k) ?_
  refine own_by (T' := s₁) (g' := (mkF m 9 #[.val (.ref t1), .val (.ref t2), .val (.int (1 : Int32))] [])) (fun _ k => XS.goto X0.here hx rfl (pc0 := 29) (pc' := 9) rfl (hb hby d12_29) (by decide) (by decide) k) ?_
  refine own_by (T' := s₁) (g' := (mkF m 10 #[.val (.ref t1), .val (.ref t2), .val (.int (1 : Int32))] [(.int (1 : Int32))])) (fun _ k => XS.iloadN X0.here hx rfl (hb hby d12_9) rfl k) ?_
  refine own_by (T' := s₁) (g' := (mkF m 11 #[.val (.ref t1), .val (.ref t2), .val (.int (1 : Int32))] [(.ref t1), (.int (1 : Int32))])) (fun _ k => XS.aloadN X0.here hx rfl (hb hby d12_10) rfl rfl k) ?_
  obtain ⟨cl26, Ar26, q26, S26, N_26, H26, G26⟩ := id V_t1
  refine own_by (T' := s₁) (g' := (mkF m 12 #[.val (.ref t1), .val (.ref t2), .val (.int (1 : Int32))] [(.int (14 : Int32)), (.int (1 : Int32))])) (fun _ k => X0.arraylength hx (by rw [e0]; exact Ar26.1) (State.isArrayOf_alike hZ.alike Ar26.2.1) (g := (mkF m 11 #[.val (.ref t1), .val (.ref t2), .val (.int (1 : Int32))] [(.ref t1), (.int (1 : Int32))])) rfl rfl (hb hby d12_11) _ (by rw [len_of S26 N_26]; exact k)) ?_
  refine own_by (T' := s₁) (g' := (mkF m 15 #[.val (.ref t1), .val (.ref t2), .val (.int (1 : Int32))] [])) (fun _ k => XS.icmpNo X0.here hx rfl (hb hby d12_12) rfl (tlt (by decide)).2.1 k) ?_
  refine own_by (T' := s₁) (g' := (mkF m 16 #[.val (.ref t1), .val (.ref t2), .val (.int (1 : Int32))] [(.ref t1)])) (fun _ k => XS.aloadN X0.here hx rfl (hb hby d12_15) rfl rfl k) ?_
  refine own_by (T' := s₁) (g' := (mkF m 17 #[.val (.ref t1), .val (.ref t2), .val (.int (1 : Int32))] [(.int (1 : Int32)), (.ref t1)])) (fun _ k => XS.iloadN X0.here hx rfl (hb hby d12_16) rfl k) ?_
  obtain ⟨cl27, Ar27, q27, S27, N_27, H27, G27⟩ := id V_t1
  have hin27 : ¬ ((1 : Int32) < 0 ∨ cl27.slots.size ≤ ((1 : Int32)).toNatClampNeg) := inb_of S27 ⟨by decide, by decide⟩
  refine own_by (T' := s₁) (g' := (mkF m 18 #[.val (.ref t1), .val (.ref t2), .val (.int (1 : Int32))] [(.int (116 : Int32))])) (fun _ k => X0.baloadBytes hx (j := (1 : Int32)) (v := (.int (116 : Int32))) (by rw [e0]; exact Ar27.1) (State.isArrayOf_alike hZ.alike Ar27.2.1) Ar27.2.2 hin27 (Has.at H27 hin27 rfl) (g := (mkF m 17 #[.val (.ref t1), .val (.ref t2), .val (.int (1 : Int32))] [(.int (1 : Int32)), (.ref t1)])) rfl rfl (hb hby d12_17) _ k) ?_
  refine own_by (T' := s₁) (g' := (mkF m 19 #[.val (.ref t1), .val (.ref t2), .val (.int (1 : Int32))] [(.ref t2), (.int (116 : Int32))])) (fun _ k => XS.aloadN X0.here hx rfl (hb hby d12_18) rfl rfl k) ?_
  refine own_by (T' := s₁) (g' := (mkF m 20 #[.val (.ref t1), .val (.ref t2), .val (.int (1 : Int32))] [(.int (1 : Int32)), (.ref t2), (.int (116 : Int32))])) (fun _ k => XS.iloadN X0.here hx rfl (hb hby d12_19) rfl k) ?_
  obtain ⟨cl28, Ar28, q28, S28, N_28, H28, G28⟩ := id V_t2
  have hin28 : ¬ ((1 : Int32) < 0 ∨ cl28.slots.size ≤ ((1 : Int32)).toNatClampNeg) := inb_of S28 ⟨by decide, by decide⟩
  refine own_by (T' := s₁) (g' := (mkF m 21 #[.val (.ref t1), .val (.ref t2), .val (.int (1 : Int32))] [(.int (116 : Int32)), (.int (116 : Int32))])) (fun _ k => X0.baloadBytes hx (j := (1 : Int32)) (v := (.int (116 : Int32))) (by rw [e0]; exact Ar28.1) (State.isArrayOf_alike hZ.alike Ar28.2.1) Ar28.2.2 hin28 (Has.at H28 hin28 rfl) (g := (mkF m 20 #[.val (.ref t1), .val (.ref t2), .val (.int (1 : Int32))] [(.int (1 : Int32)), (.ref t2), (.int (116 : Int32))])) rfl rfl (hb hby d12_20) _ k) ?_
  refine own_by (T' := s₁) (g' := (mkF m 26 #[.val (.ref t1), .val (.ref t2), .val (.int (1 : Int32))] [])) (fun _ k => XS.icmpYes X0.here hx rfl (pc0 := 21) (pc' := 26) rfl (hb hby d12_21) rfl (teq (by decide)).1 (by decide) (by decide) k) ?_
  refine own_by (T' := s₁) (g' := (mkF m 29 #[.val (.ref t1), .val (.ref t2), .val (.int (2 : Int32))] [])) (fun _ k => XS.iinc X0.here hx rfl (hb hby d12_26) rfl (l' := #[.val (.ref t1), .val (.ref t2), .val (.int (2 : Int32))]) rfl k) ?_
  refine own_by (T' := s₁) (g' := (mkF m 9 #[.val (.ref t1), .val (.ref t2), .val (.int (2 : Int32))] [])) (fun _ k => XS.goto X0.here hx rfl (pc0 := 29) (pc' := 9) rfl (hb hby d12_29) (by decide) (by decide) k) ?_
  refine own_by (T' := s₁) (g' := (mkF m 10 #[.val (.ref t1), .val (.ref t2), .val (.int (2 : Int32))] [(.int (2 : Int32))])) (fun _ k => XS.iloadN X0.here hx rfl (hb hby d12_9) rfl k) ?_
  refine own_by (T' := s₁) (g' := (mkF m 11 #[.val (.ref t1), .val (.ref t2), .val (.int (2 : Int32))] [(.ref t1), (.int (2 : Int32))])) (fun _ k => XS.aloadN X0.here hx rfl (hb hby d12_10) rfl rfl k) ?_
  obtain ⟨cl29, Ar29, q29, S29, N_29, H29, G29⟩ := id V_t1
  refine own_by (T' := s₁) (g' := (mkF m 12 #[.val (.ref t1), .val (.ref t2), .val (.int (2 : Int32))] [(.int (14 : Int32)), (.int (2 : Int32))])) (fun _ k => X0.arraylength hx (by rw [e0]; exact Ar29.1) (State.isArrayOf_alike hZ.alike Ar29.2.1) (g := (mkF m 11 #[.val (.ref t1), .val (.ref t2), .val (.int (2 : Int32))] [(.ref t1), (.int (2 : Int32))])) rfl rfl (hb hby d12_11) _ (by rw [len_of S29 N_29]; exact k)) ?_
  refine own_by (T' := s₁) (g' := (mkF m 15 #[.val (.ref t1), .val (.ref t2), .val (.int (2 : Int32))] [])) (fun _ k => XS.icmpNo X0.here hx rfl (hb hby d12_12) rfl (tlt (by decide)).2.1 k) ?_
  refine own_by (T' := s₁) (g' := (mkF m 16 #[.val (.ref t1), .val (.ref t2), .val (.int (2 : Int32))] [(.ref t1)])) (fun _ k => XS.aloadN X0.here hx rfl (hb hby d12_15) rfl rfl k) ?_
  refine own_by (T' := s₁) (g' := (mkF m 17 #[.val (.ref t1), .val (.ref t2), .val (.int (2 : Int32))] [(.int (2 : Int32)), (.ref t1)])) (fun _ k => XS.iloadN X0.here hx rfl (hb hby d12_16) rfl k) ?_
  obtain ⟨cl30, Ar30, q30, S30, N_30, H30, G30⟩ := id V_t1
  have hin30 : ¬ ((2 : Int32) < 0 ∨ cl30.slots.size ≤ ((2 : Int32)).toNatClampNeg) := inb_of S30 ⟨by decide, by decide⟩
  refine own_by (T' := s₁) (g' := (mkF m 18 #[.val (.ref t1), .val (.ref t2), .val (.int (2 : Int32))] [(.int (97 : Int32))])) (fun _ k => X0.baloadBytes hx (j := (2 : Int32)) (v := (.int (97 : Int32))) (by rw [e0]; exact Ar30.1) (State.isArrayOf_alike hZ.alike Ar30.2.1) Ar30.2.2 hin30 (Has.at H30 hin30 rfl) (g := (mkF m 17 #[.val (.ref t1), .val (.ref t2), .val (.int (2 : Int32))] [(.int (2 : Int32)), (.ref t1)])) rfl rfl (hb hby d12_17) _ k) ?_
  refine own_by (T' := s₁) (g' := (mkF m 19 #[.val (.ref t1), .val (.ref t2), .val (.int (2 : Int32))] [(.ref t2), (.int (97 : Int32))])) (fun _ k => XS.aloadN X0.here hx rfl (hb hby d12_18) rfl rfl k) ?_
  refine own_by (T' := s₁) (g' := (mkF m 20 #[.val (.ref t1), .val (.ref t2), .val (.int (2 : Int32))] [(.int (2 : Int32)), (.ref t2), (.int (97 : Int32))])) (fun _ k => XS.iloadN X0.here hx rfl (hb hby d12_19) rfl k) ?_
  obtain ⟨cl31, Ar31, q31, S31, N_31, H31, G31⟩ := id V_t2
  have hin31 : ¬ ((2 : Int32) < 0 ∨ cl31.slots.size ≤ ((2 : Int32)).toNatClampNeg) := inb_of S31 ⟨by decide, by decide⟩
  refine own_by (T' := s₁) (g' := (mkF m 21 #[.val (.ref t1), .val (.ref t2), .val (.int (2 : Int32))] [(.int (97 : Int32)), (.int (97 : Int32))])) (fun _ k => X0.baloadBytes hx (j := (2 : Int32)) (v := (.int (97 : Int32))) (by rw [e0]; exact Ar31.1) (State.isArrayOf_alike hZ.alike Ar31.2.1) Ar31.2.2 hin31 (Has.at H31 hin31 rfl) (g := (mkF m 20 #[.val (.ref t1), .val (.ref t2), .val (.int (2 : Int32))] [(.int (2 : Int32)), (.ref t2), (.int (97 : Int32))])) rfl rfl (hb hby d12_20) _ k) ?_
  refine own_by (T' := s₁) (g' := (mkF m 26 #[.val (.ref t1), .val (.ref t2), .val (.int (2 : Int32))] [])) (fun _ k => XS.icmpYes X0.here hx rfl (pc0 := 21) (pc' := 26) rfl (hb hby d12_21) rfl (teq (by decide)).1 (by decide) (by decide) k) ?_
  refine own_by (T' := s₁) (g' := (mkF m 29 #[.val (.ref t1), .val (.ref t2), .val (.int (3 : Int32))] [])) (fun _ k => XS.iinc X0.here hx rfl (hb hby d12_26) rfl (l' := #[.val (.ref t1), .val (.ref t2), .val (.int (3 : Int32))]) rfl k) ?_
  refine own_by (T' := s₁) (g' := (mkF m 9 #[.val (.ref t1), .val (.ref t2), .val (.int (3 : Int32))] [])) (fun _ k => XS.goto X0.here hx rfl (pc0 := 29) (pc' := 9) rfl (hb hby d12_29) (by decide) (by decide) k) ?_
  refine own_by (T' := s₁) (g' := (mkF m 10 #[.val (.ref t1), .val (.ref t2), .val (.int (3 : Int32))] [(.int (3 : Int32))])) (fun _ k => XS.iloadN X0.here hx rfl (hb hby d12_9) rfl k) ?_
  refine own_by (T' := s₁) (g' := (mkF m 11 #[.val (.ref t1), .val (.ref t2), .val (.int (3 : Int32))] [(.ref t1), (.int (3 : Int32))])) (fun _ k => XS.aloadN X0.here hx rfl (hb hby d12_10) rfl rfl k) ?_
  obtain ⟨cl32, Ar32, q32, S32, N_32, H32, G32⟩ := id V_t1
  refine own_by (T' := s₁) (g' := (mkF m 12 #[.val (.ref t1), .val (.ref t2), .val (.int (3 : Int32))] [(.int (14 : Int32)), (.int (3 : Int32))])) (fun _ k => X0.arraylength hx (by rw [e0]; exact Ar32.1) (State.isArrayOf_alike hZ.alike Ar32.2.1) (g := (mkF m 11 #[.val (.ref t1), .val (.ref t2), .val (.int (3 : Int32))] [(.ref t1), (.int (3 : Int32))])) rfl rfl (hb hby d12_11) _ (by rw [len_of S32 N_32]; exact k)) ?_
  refine own_by (T' := s₁) (g' := (mkF m 15 #[.val (.ref t1), .val (.ref t2), .val (.int (3 : Int32))] [])) (fun _ k => XS.icmpNo X0.here hx rfl (hb hby d12_12) rfl (tlt (by decide)).2.1 k) ?_
  refine own_by (T' := s₁) (g' := (mkF m 16 #[.val (.ref t1), .val (.ref t2), .val (.int (3 : Int32))] [(.ref t1)])) (fun _ k => XS.aloadN X0.here hx rfl (hb hby d12_15) rfl rfl k) ?_
  refine own_by (T' := s₁) (g' := (mkF m 17 #[.val (.ref t1), .val (.ref t2), .val (.int (3 : Int32))] [(.int (3 : Int32)), (.ref t1)])) (fun _ k => XS.iloadN X0.here hx rfl (hb hby d12_16) rfl k) ?_
  obtain ⟨cl33, Ar33, q33, S33, N_33, H33, G33⟩ := id V_t1
  have hin33 : ¬ ((3 : Int32) < 0 ∨ cl33.slots.size ≤ ((3 : Int32)).toNatClampNeg) := inb_of S33 ⟨by decide, by decide⟩
  refine own_by (T' := s₁) (g' := (mkF m 18 #[.val (.ref t1), .val (.ref t2), .val (.int (3 : Int32))] [(.int (110 : Int32))])) (fun _ k => X0.baloadBytes hx (j := (3 : Int32)) (v := (.int (110 : Int32))) (by rw [e0]; exact Ar33.1) (State.isArrayOf_alike hZ.alike Ar33.2.1) Ar33.2.2 hin33 (Has.at H33 hin33 rfl) (g := (mkF m 17 #[.val (.ref t1), .val (.ref t2), .val (.int (3 : Int32))] [(.int (3 : Int32)), (.ref t1)])) rfl rfl (hb hby d12_17) _ k) ?_
  refine own_by (T' := s₁) (g' := (mkF m 19 #[.val (.ref t1), .val (.ref t2), .val (.int (3 : Int32))] [(.ref t2), (.int (110 : Int32))])) (fun _ k => XS.aloadN X0.here hx rfl (hb hby d12_18) rfl rfl k) ?_
  refine own_by (T' := s₁) (g' := (mkF m 20 #[.val (.ref t1), .val (.ref t2), .val (.int (3 : Int32))] [(.int (3 : Int32)), (.ref t2), (.int (110 : Int32))])) (fun _ k => XS.iloadN X0.here hx rfl (hb hby d12_19) rfl k) ?_
  obtain ⟨cl34, Ar34, q34, S34, N_34, H34, G34⟩ := id V_t2
  have hin34 : ¬ ((3 : Int32) < 0 ∨ cl34.slots.size ≤ ((3 : Int32)).toNatClampNeg) := inb_of S34 ⟨by decide, by decide⟩
  refine own_by (T' := s₁) (g' := (mkF m 21 #[.val (.ref t1), .val (.ref t2), .val (.int (3 : Int32))] [(.int (110 : Int32)), (.int (110 : Int32))])) (fun _ k => X0.baloadBytes hx (j := (3 : Int32)) (v := (.int (110 : Int32))) (by rw [e0]; exact Ar34.1) (State.isArrayOf_alike hZ.alike Ar34.2.1) Ar34.2.2 hin34 (Has.at H34 hin34 rfl) (g := (mkF m 20 #[.val (.ref t1), .val (.ref t2), .val (.int (3 : Int32))] [(.int (3 : Int32)), (.ref t2), (.int (110 : Int32))])) rfl rfl (hb hby d12_20) _ k) ?_
  refine own_by (T' := s₁) (g' := (mkF m 26 #[.val (.ref t1), .val (.ref t2), .val (.int (3 : Int32))] [])) (fun _ k => XS.icmpYes X0.here hx rfl (pc0 := 21) (pc' := 26) rfl (hb hby d12_21) rfl (teq (by decide)).1 (by decide) (by decide) k) ?_
  refine own_by (T' := s₁) (g' := (mkF m 29 #[.val (.ref t1), .val (.ref t2), .val (.int (4 : Int32))] [])) (fun _ k => XS.iinc X0.here hx rfl (hb hby d12_26) rfl (l' := #[.val (.ref t1), .val (.ref t2), .val (.int (4 : Int32))]) rfl k) ?_
  refine own_by (T' := s₁) (g' := (mkF m 9 #[.val (.ref t1), .val (.ref t2), .val (.int (4 : Int32))] [])) (fun _ k => XS.goto X0.here hx rfl (pc0 := 29) (pc' := 9) rfl (hb hby d12_29) (by decide) (by decide) k) ?_
  refine own_by (T' := s₁) (g' := (mkF m 10 #[.val (.ref t1), .val (.ref t2), .val (.int (4 : Int32))] [(.int (4 : Int32))])) (fun _ k => XS.iloadN X0.here hx rfl (hb hby d12_9) rfl k) ?_
  refine own_by (T' := s₁) (g' := (mkF m 11 #[.val (.ref t1), .val (.ref t2), .val (.int (4 : Int32))] [(.ref t1), (.int (4 : Int32))])) (fun _ k => XS.aloadN X0.here hx rfl (hb hby d12_10) rfl rfl k) ?_
  obtain ⟨cl35, Ar35, q35, S35, N_35, H35, G35⟩ := id V_t1
  refine own_by (T' := s₁) (g' := (mkF m 12 #[.val (.ref t1), .val (.ref t2), .val (.int (4 : Int32))] [(.int (14 : Int32)), (.int (4 : Int32))])) (fun _ k => X0.arraylength hx (by rw [e0]; exact Ar35.1) (State.isArrayOf_alike hZ.alike Ar35.2.1) (g := (mkF m 11 #[.val (.ref t1), .val (.ref t2), .val (.int (4 : Int32))] [(.ref t1), (.int (4 : Int32))])) rfl rfl (hb hby d12_11) _ (by rw [len_of S35 N_35]; exact k)) ?_
  refine own_by (T' := s₁) (g' := (mkF m 15 #[.val (.ref t1), .val (.ref t2), .val (.int (4 : Int32))] [])) (fun _ k => XS.icmpNo X0.here hx rfl (hb hby d12_12) rfl (tlt (by decide)).2.1 k) ?_
  refine own_by (T' := s₁) (g' := (mkF m 16 #[.val (.ref t1), .val (.ref t2), .val (.int (4 : Int32))] [(.ref t1)])) (fun _ k => XS.aloadN X0.here hx rfl (hb hby d12_15) rfl rfl k) ?_
  refine own_by (T' := s₁) (g' := (mkF m 17 #[.val (.ref t1), .val (.ref t2), .val (.int (4 : Int32))] [(.int (4 : Int32)), (.ref t1)])) (fun _ k => XS.iloadN X0.here hx rfl (hb hby d12_16) rfl k) ?_
  obtain ⟨cl36, Ar36, q36, S36, N_36, H36, G36⟩ := id V_t1
  have hin36 : ¬ ((4 : Int32) < 0 ∨ cl36.slots.size ≤ ((4 : Int32)).toNatClampNeg) := inb_of S36 ⟨by decide, by decide⟩
  refine own_by (T' := s₁) (g' := (mkF m 18 #[.val (.ref t1), .val (.ref t2), .val (.int (4 : Int32))] [(.int (100 : Int32))])) (fun _ k => X0.baloadBytes hx (j := (4 : Int32)) (v := (.int (100 : Int32))) (by rw [e0]; exact Ar36.1) (State.isArrayOf_alike hZ.alike Ar36.2.1) Ar36.2.2 hin36 (Has.at H36 hin36 rfl) (g := (mkF m 17 #[.val (.ref t1), .val (.ref t2), .val (.int (4 : Int32))] [(.int (4 : Int32)), (.ref t1)])) rfl rfl (hb hby d12_17) _ k) ?_
  refine own_by (T' := s₁) (g' := (mkF m 19 #[.val (.ref t1), .val (.ref t2), .val (.int (4 : Int32))] [(.ref t2), (.int (100 : Int32))])) (fun _ k => XS.aloadN X0.here hx rfl (hb hby d12_18) rfl rfl k) ?_
  refine own_by (T' := s₁) (g' := (mkF m 20 #[.val (.ref t1), .val (.ref t2), .val (.int (4 : Int32))] [(.int (4 : Int32)), (.ref t2), (.int (100 : Int32))])) (fun _ k => XS.iloadN X0.here hx rfl (hb hby d12_19) rfl k) ?_
  obtain ⟨cl37, Ar37, q37, S37, N_37, H37, G37⟩ := id V_t2
  have hin37 : ¬ ((4 : Int32) < 0 ∨ cl37.slots.size ≤ ((4 : Int32)).toNatClampNeg) := inb_of S37 ⟨by decide, by decide⟩
  refine own_by (T' := s₁) (g' := (mkF m 21 #[.val (.ref t1), .val (.ref t2), .val (.int (4 : Int32))] [(.int (100 : Int32)), (.int (100 : Int32))])) (fun _ k => X0.baloadBytes hx (j := (4 : Int32)) (v := (.int (100 : Int32))) (by rw [e0]; exact Ar37.1) (State.isArrayOf_alike hZ.alike Ar37.2.1) Ar37.2.2 hin37 (Has.at H37 hin37 rfl) (g := (mkF m 20 #[.val (.ref t1), .val (.ref t2), .val (.int (4 : Int32))] [(.int (4 : Int32)), (.ref t2), (.int (100 : Int32))])) rfl rfl (hb hby d12_20) _ k) ?_
  refine own_by (T' := s₁) (g' := (mkF m 26 #[.val (.ref t1), .val (.ref t2), .val (.int (4 : Int32))] [])) (fun _ k => XS.icmpYes X0.here hx rfl (pc0 := 21) (pc' := 26) rfl (hb hby d12_21) rfl (teq (by decide)).1 (by decide) (by decide) k) ?_
  refine own_by (T' := s₁) (g' := (mkF m 29 #[.val (.ref t1), .val (.ref t2), .val (.int (5 : Int32))] [])) (fun _ k => XS.iinc X0.here hx rfl (hb hby d12_26) rfl (l' := #[.val (.ref t1), .val (.ref t2), .val (.int (5 : Int32))]) rfl k) ?_
  refine own_by (T' := s₁) (g' := (mkF m 9 #[.val (.ref t1), .val (.ref t2), .val (.int (5 : Int32))] [])) (fun _ k => XS.goto X0.here hx rfl (pc0 := 29) (pc' := 9) rfl (hb hby d12_29) (by decide) (by decide) k) ?_
  refine own_by (T' := s₁) (g' := (mkF m 10 #[.val (.ref t1), .val (.ref t2), .val (.int (5 : Int32))] [(.int (5 : Int32))])) (fun _ k => XS.iloadN X0.here hx rfl (hb hby d12_9) rfl k) ?_
  refine own_by (T' := s₁) (g' := (mkF m 11 #[.val (.ref t1), .val (.ref t2), .val (.int (5 : Int32))] [(.ref t1), (.int (5 : Int32))])) (fun _ k => XS.aloadN X0.here hx rfl (hb hby d12_10) rfl rfl k) ?_
  obtain ⟨cl38, Ar38, q38, S38, N_38, H38, G38⟩ := id V_t1
  refine own_by (T' := s₁) (g' := (mkF m 12 #[.val (.ref t1), .val (.ref t2), .val (.int (5 : Int32))] [(.int (14 : Int32)), (.int (5 : Int32))])) (fun _ k => X0.arraylength hx (by rw [e0]; exact Ar38.1) (State.isArrayOf_alike hZ.alike Ar38.2.1) (g := (mkF m 11 #[.val (.ref t1), .val (.ref t2), .val (.int (5 : Int32))] [(.ref t1), (.int (5 : Int32))])) rfl rfl (hb hby d12_11) _ (by rw [len_of S38 N_38]; exact k)) ?_
  refine own_by (T' := s₁) (g' := (mkF m 15 #[.val (.ref t1), .val (.ref t2), .val (.int (5 : Int32))] [])) (fun _ k => XS.icmpNo X0.here hx rfl (hb hby d12_12) rfl (tlt (by decide)).2.1 k) ?_
  refine own_by (T' := s₁) (g' := (mkF m 16 #[.val (.ref t1), .val (.ref t2), .val (.int (5 : Int32))] [(.ref t1)])) (fun _ k => XS.aloadN X0.here hx rfl (hb hby d12_15) rfl rfl k) ?_
  refine own_by (T' := s₁) (g' := (mkF m 17 #[.val (.ref t1), .val (.ref t2), .val (.int (5 : Int32))] [(.int (5 : Int32)), (.ref t1)])) (fun _ k => XS.iloadN X0.here hx rfl (hb hby d12_16) rfl k) ?_
  obtain ⟨cl39, Ar39, q39, S39, N_39, H39, G39⟩ := id V_t1
  have hin39 : ¬ ((5 : Int32) < 0 ∨ cl39.slots.size ≤ ((5 : Int32)).toNatClampNeg) := inb_of S39 ⟨by decide, by decide⟩
  refine own_by (T' := s₁) (g' := (mkF m 18 #[.val (.ref t1), .val (.ref t2), .val (.int (5 : Int32))] [(.int (97 : Int32))])) (fun _ k => X0.baloadBytes hx (j := (5 : Int32)) (v := (.int (97 : Int32))) (by rw [e0]; exact Ar39.1) (State.isArrayOf_alike hZ.alike Ar39.2.1) Ar39.2.2 hin39 (Has.at H39 hin39 rfl) (g := (mkF m 17 #[.val (.ref t1), .val (.ref t2), .val (.int (5 : Int32))] [(.int (5 : Int32)), (.ref t1)])) rfl rfl (hb hby d12_17) _ k) ?_
  refine own_by (T' := s₁) (g' := (mkF m 19 #[.val (.ref t1), .val (.ref t2), .val (.int (5 : Int32))] [(.ref t2), (.int (97 : Int32))])) (fun _ k => XS.aloadN X0.here hx rfl (hb hby d12_18) rfl rfl k) ?_
  refine own_by (T' := s₁) (g' := (mkF m 20 #[.val (.ref t1), .val (.ref t2), .val (.int (5 : Int32))] [(.int (5 : Int32)), (.ref t2), (.int (97 : Int32))])) (fun _ k => XS.iloadN X0.here hx rfl (hb hby d12_19) rfl k) ?_
  obtain ⟨cl40, Ar40, q40, S40, N_40, H40, G40⟩ := id V_t2
  have hin40 : ¬ ((5 : Int32) < 0 ∨ cl40.slots.size ≤ ((5 : Int32)).toNatClampNeg) := inb_of S40 ⟨by decide, by decide⟩
  refine own_by (T' := s₁) (g' := (mkF m 21 #[.val (.ref t1), .val (.ref t2), .val (.int (5 : Int32))] [(.int (97 : Int32)), (.int (97 : Int32))])) (fun _ k => X0.baloadBytes hx (j := (5 : Int32)) (v := (.int (97 : Int32))) (by rw [e0]; exact Ar40.1) (State.isArrayOf_alike hZ.alike Ar40.2.1) Ar40.2.2 hin40 (Has.at H40 hin40 rfl) (g := (mkF m 20 #[.val (.ref t1), .val (.ref t2), .val (.int (5 : Int32))] [(.int (5 : Int32)), (.ref t2), (.int (97 : Int32))])) rfl rfl (hb hby d12_20) _ k) ?_
  refine own_by (T' := s₁) (g' := (mkF m 26 #[.val (.ref t1), .val (.ref t2), .val (.int (5 : Int32))] [])) (fun _ k => XS.icmpYes X0.here hx rfl (pc0 := 21) (pc' := 26) rfl (hb hby d12_21) rfl (teq (by decide)).1 (by decide) (by decide) k) ?_
  refine own_by (T' := s₁) (g' := (mkF m 29 #[.val (.ref t1), .val (.ref t2), .val (.int (6 : Int32))] [])) (fun _ k => XS.iinc X0.here hx rfl (hb hby d12_26) rfl (l' := #[.val (.ref t1), .val (.ref t2), .val (.int (6 : Int32))]) rfl k) ?_
  refine own_by (T' := s₁) (g' := (mkF m 9 #[.val (.ref t1), .val (.ref t2), .val (.int (6 : Int32))] [])) (fun _ k => XS.goto X0.here hx rfl (pc0 := 29) (pc' := 9) rfl (hb hby d12_29) (by decide) (by decide) k) ?_
  refine own_by (T' := s₁) (g' := (mkF m 10 #[.val (.ref t1), .val (.ref t2), .val (.int (6 : Int32))] [(.int (6 : Int32))])) (fun _ k => XS.iloadN X0.here hx rfl (hb hby d12_9) rfl k) ?_
  refine own_by (T' := s₁) (g' := (mkF m 11 #[.val (.ref t1), .val (.ref t2), .val (.int (6 : Int32))] [(.ref t1), (.int (6 : Int32))])) (fun _ k => XS.aloadN X0.here hx rfl (hb hby d12_10) rfl rfl k) ?_
  obtain ⟨cl41, Ar41, q41, S41, N_41, H41, G41⟩ := id V_t1
  refine own_by (T' := s₁) (g' := (mkF m 12 #[.val (.ref t1), .val (.ref t2), .val (.int (6 : Int32))] [(.int (14 : Int32)), (.int (6 : Int32))])) (fun _ k => X0.arraylength hx (by rw [e0]; exact Ar41.1) (State.isArrayOf_alike hZ.alike Ar41.2.1) (g := (mkF m 11 #[.val (.ref t1), .val (.ref t2), .val (.int (6 : Int32))] [(.ref t1), (.int (6 : Int32))])) rfl rfl (hb hby d12_11) _ (by rw [len_of S41 N_41]; exact k)) ?_
  refine own_by (T' := s₁) (g' := (mkF m 15 #[.val (.ref t1), .val (.ref t2), .val (.int (6 : Int32))] [])) (fun _ k => XS.icmpNo X0.here hx rfl (hb hby d12_12) rfl (tlt (by decide)).2.1 k) ?_
  refine own_by (T' := s₁) (g' := (mkF m 16 #[.val (.ref t1), .val (.ref t2), .val (.int (6 : Int32))] [(.ref t1)])) (fun _ k => XS.aloadN X0.here hx rfl (hb hby d12_15) rfl rfl k) ?_
  refine own_by (T' := s₁) (g' := (mkF m 17 #[.val (.ref t1), .val (.ref t2), .val (.int (6 : Int32))] [(.int (6 : Int32)), (.ref t1)])) (fun _ k => XS.iloadN X0.here hx rfl (hb hby d12_16) rfl k) ?_
  obtain ⟨cl42, Ar42, q42, S42, N_42, H42, G42⟩ := id V_t1
  have hin42 : ¬ ((6 : Int32) < 0 ∨ cl42.slots.size ≤ ((6 : Int32)).toNatClampNeg) := inb_of S42 ⟨by decide, by decide⟩
  refine own_by (T' := s₁) (g' := (mkF m 18 #[.val (.ref t1), .val (.ref t2), .val (.int (6 : Int32))] [(.int (114 : Int32))])) (fun _ k => X0.baloadBytes hx (j := (6 : Int32)) (v := (.int (114 : Int32))) (by rw [e0]; exact Ar42.1) (State.isArrayOf_alike hZ.alike Ar42.2.1) Ar42.2.2 hin42 (Has.at H42 hin42 rfl) (g := (mkF m 17 #[.val (.ref t1), .val (.ref t2), .val (.int (6 : Int32))] [(.int (6 : Int32)), (.ref t1)])) rfl rfl (hb hby d12_17) _ k) ?_
  refine own_by (T' := s₁) (g' := (mkF m 19 #[.val (.ref t1), .val (.ref t2), .val (.int (6 : Int32))] [(.ref t2), (.int (114 : Int32))])) (fun _ k => XS.aloadN X0.here hx rfl (hb hby d12_18) rfl rfl k) ?_
  refine own_by (T' := s₁) (g' := (mkF m 20 #[.val (.ref t1), .val (.ref t2), .val (.int (6 : Int32))] [(.int (6 : Int32)), (.ref t2), (.int (114 : Int32))])) (fun _ k => XS.iloadN X0.here hx rfl (hb hby d12_19) rfl k) ?_
  obtain ⟨cl43, Ar43, q43, S43, N_43, H43, G43⟩ := id V_t2
  have hin43 : ¬ ((6 : Int32) < 0 ∨ cl43.slots.size ≤ ((6 : Int32)).toNatClampNeg) := inb_of S43 ⟨by decide, by decide⟩
  refine own_by (T' := s₁) (g' := (mkF m 21 #[.val (.ref t1), .val (.ref t2), .val (.int (6 : Int32))] [(.int (114 : Int32)), (.int (114 : Int32))])) (fun _ k => X0.baloadBytes hx (j := (6 : Int32)) (v := (.int (114 : Int32))) (by rw [e0]; exact Ar43.1) (State.isArrayOf_alike hZ.alike Ar43.2.1) Ar43.2.2 hin43 (Has.at H43 hin43 rfl) (g := (mkF m 20 #[.val (.ref t1), .val (.ref t2), .val (.int (6 : Int32))] [(.int (6 : Int32)), (.ref t2), (.int (114 : Int32))])) rfl rfl (hb hby d12_20) _ k) ?_
  refine own_by (T' := s₁) (g' := (mkF m 26 #[.val (.ref t1), .val (.ref t2), .val (.int (6 : Int32))] [])) (fun _ k => XS.icmpYes X0.here hx rfl (pc0 := 21) (pc' := 26) rfl (hb hby d12_21) rfl (teq (by decide)).1 (by decide) (by decide) k) ?_
  refine own_by (T' := s₁) (g' := (mkF m 29 #[.val (.ref t1), .val (.ref t2), .val (.int (7 : Int32))] [])) (fun _ k => XS.iinc X0.here hx rfl (hb hby d12_26) rfl (l' := #[.val (.ref t1), .val (.ref t2), .val (.int (7 : Int32))]) rfl k) ?_
  refine own_by (T' := s₁) (g' := (mkF m 9 #[.val (.ref t1), .val (.ref t2), .val (.int (7 : Int32))] [])) (fun _ k => XS.goto X0.here hx rfl (pc0 := 29) (pc' := 9) rfl (hb hby d12_29) (by decide) (by decide) k) ?_
  refine own_by (T' := s₁) (g' := (mkF m 10 #[.val (.ref t1), .val (.ref t2), .val (.int (7 : Int32))] [(.int (7 : Int32))])) (fun _ k => XS.iloadN X0.here hx rfl (hb hby d12_9) rfl k) ?_
  refine own_by (T' := s₁) (g' := (mkF m 11 #[.val (.ref t1), .val (.ref t2), .val (.int (7 : Int32))] [(.ref t1), (.int (7 : Int32))])) (fun _ k => XS.aloadN X0.here hx rfl (hb hby d12_10) rfl rfl k) ?_
  obtain ⟨cl44, Ar44, q44, S44, N_44, H44, G44⟩ := id V_t1
  refine own_by (T' := s₁) (g' := (mkF m 12 #[.val (.ref t1), .val (.ref t2), .val (.int (7 : Int32))] [(.int (14 : Int32)), (.int (7 : Int32))])) (fun _ k => X0.arraylength hx (by rw [e0]; exact Ar44.1) (State.isArrayOf_alike hZ.alike Ar44.2.1) (g := (mkF m 11 #[.val (.ref t1), .val (.ref t2), .val (.int (7 : Int32))] [(.ref t1), (.int (7 : Int32))])) rfl rfl (hb hby d12_11) _ (by rw [len_of S44 N_44]; exact k)) ?_
  refine own_by (T' := s₁) (g' := (mkF m 15 #[.val (.ref t1), .val (.ref t2), .val (.int (7 : Int32))] [])) (fun _ k => XS.icmpNo X0.here hx rfl (hb hby d12_12) rfl (tlt (by decide)).2.1 k) ?_
  refine own_by (T' := s₁) (g' := (mkF m 16 #[.val (.ref t1), .val (.ref t2), .val (.int (7 : Int32))] [(.ref t1)])) (fun _ k => XS.aloadN X0.here hx rfl (hb hby d12_15) rfl rfl k) ?_
  refine own_by (T' := s₁) (g' := (mkF m 17 #[.val (.ref t1), .val (.ref t2), .val (.int (7 : Int32))] [(.int (7 : Int32)), (.ref t1)])) (fun _ k => XS.iloadN X0.here hx rfl (hb hby d12_16) rfl k) ?_
  obtain ⟨cl45, Ar45, q45, S45, N_45, H45, G45⟩ := id V_t1
  have hin45 : ¬ ((7 : Int32) < 0 ∨ cl45.slots.size ≤ ((7 : Int32)).toNatClampNeg) := inb_of S45 ⟨by decide, by decide⟩
  refine own_by (T' := s₁) (g' := (mkF m 18 #[.val (.ref t1), .val (.ref t2), .val (.int (7 : Int32))] [(.int (100 : Int32))])) (fun _ k => X0.baloadBytes hx (j := (7 : Int32)) (v := (.int (100 : Int32))) (by rw [e0]; exact Ar45.1) (State.isArrayOf_alike hZ.alike Ar45.2.1) Ar45.2.2 hin45 (Has.at H45 hin45 rfl) (g := (mkF m 17 #[.val (.ref t1), .val (.ref t2), .val (.int (7 : Int32))] [(.int (7 : Int32)), (.ref t1)])) rfl rfl (hb hby d12_17) _ k) ?_
  refine own_by (T' := s₁) (g' := (mkF m 19 #[.val (.ref t1), .val (.ref t2), .val (.int (7 : Int32))] [(.ref t2), (.int (100 : Int32))])) (fun _ k => XS.aloadN X0.here hx rfl (hb hby d12_18) rfl rfl k) ?_
  refine own_by (T' := s₁) (g' := (mkF m 20 #[.val (.ref t1), .val (.ref t2), .val (.int (7 : Int32))] [(.int (7 : Int32)), (.ref t2), (.int (100 : Int32))])) (fun _ k => XS.iloadN X0.here hx rfl (hb hby d12_19) rfl k) ?_
  obtain ⟨cl46, Ar46, q46, S46, N_46, H46, G46⟩ := id V_t2
  have hin46 : ¬ ((7 : Int32) < 0 ∨ cl46.slots.size ≤ ((7 : Int32)).toNatClampNeg) := inb_of S46 ⟨by decide, by decide⟩
  refine own_by (T' := s₁) (g' := (mkF m 21 #[.val (.ref t1), .val (.ref t2), .val (.int (7 : Int32))] [(.int (100 : Int32)), (.int (100 : Int32))])) (fun _ k => X0.baloadBytes hx (j := (7 : Int32)) (v := (.int (100 : Int32))) (by rw [e0]; exact Ar46.1) (State.isArrayOf_alike hZ.alike Ar46.2.1) Ar46.2.2 hin46 (Has.at H46 hin46 rfl) (g := (mkF m 20 #[.val (.ref t1), .val (.ref t2), .val (.int (7 : Int32))] [(.int (7 : Int32)), (.ref t2), (.int (100 : Int32))])) rfl rfl (hb hby d12_20) _ k) ?_
  refine own_by (T' := s₁) (g' := (mkF m 26 #[.val (.ref t1), .val (.ref t2), .val (.int (7 : Int32))] [])) (fun _ k => XS.icmpYes X0.here hx rfl (pc0 := 21) (pc' := 26) rfl (hb hby d12_21) rfl (teq (by decide)).1 (by decide) (by decide) k) ?_
  refine own_by (T' := s₁) (g' := (mkF m 29 #[.val (.ref t1), .val (.ref t2), .val (.int (8 : Int32))] [])) (fun _ k => XS.iinc X0.here hx rfl (hb hby d12_26) rfl (l' := #[.val (.ref t1), .val (.ref t2), .val (.int (8 : Int32))]) rfl k) ?_
  refine own_by (T' := s₁) (g' := (mkF m 9 #[.val (.ref t1), .val (.ref t2), .val (.int (8 : Int32))] [])) (fun _ k => XS.goto X0.here hx rfl (pc0 := 29) (pc' := 9) rfl (hb hby d12_29) (by decide) (by decide) k) ?_
  refine own_by (T' := s₁) (g' := (mkF m 10 #[.val (.ref t1), .val (.ref t2), .val (.int (8 : Int32))] [(.int (8 : Int32))])) (fun _ k => XS.iloadN X0.here hx rfl (hb hby d12_9) rfl k) ?_
  refine own_by (T' := s₁) (g' := (mkF m 11 #[.val (.ref t1), .val (.ref t2), .val (.int (8 : Int32))] [(.ref t1), (.int (8 : Int32))])) (fun _ k => XS.aloadN X0.here hx rfl (hb hby d12_10) rfl rfl k) ?_
  obtain ⟨cl47, Ar47, q47, S47, N_47, H47, G47⟩ := id V_t1
  refine own_by (T' := s₁) (g' := (mkF m 12 #[.val (.ref t1), .val (.ref t2), .val (.int (8 : Int32))] [(.int (14 : Int32)), (.int (8 : Int32))])) (fun _ k => X0.arraylength hx (by rw [e0]; exact Ar47.1) (State.isArrayOf_alike hZ.alike Ar47.2.1) (g := (mkF m 11 #[.val (.ref t1), .val (.ref t2), .val (.int (8 : Int32))] [(.ref t1), (.int (8 : Int32))])) rfl rfl (hb hby d12_11) _ (by rw [len_of S47 N_47]; exact k)) ?_
  refine own_by (T' := s₁) (g' := (mkF m 15 #[.val (.ref t1), .val (.ref t2), .val (.int (8 : Int32))] [])) (fun _ k => XS.icmpNo X0.here hx rfl (hb hby d12_12) rfl (tlt (by decide)).2.1 k) ?_
  refine own_by (T' := s₁) (g' := (mkF m 16 #[.val (.ref t1), .val (.ref t2), .val (.int (8 : Int32))] [(.ref t1)])) (fun _ k => XS.aloadN X0.here hx rfl (hb hby d12_15) rfl rfl k) ?_
  refine own_by (T' := s₁) (g' := (mkF m 17 #[.val (.ref t1), .val (.ref t2), .val (.int (8 : Int32))] [(.int (8 : Int32)), (.ref t1)])) (fun _ k => XS.iloadN X0.here hx rfl (hb hby d12_16) rfl k) ?_
  obtain ⟨cl48, Ar48, q48, S48, N_48, H48, G48⟩ := id V_t1
  have hin48 : ¬ ((8 : Int32) < 0 ∨ cl48.slots.size ≤ ((8 : Int32)).toNatClampNeg) := inb_of S48 ⟨by decide, by decide⟩
  refine own_by (T' := s₁) (g' := (mkF m 18 #[.val (.ref t1), .val (.ref t2), .val (.int (8 : Int32))] [(.int (32 : Int32))])) (fun _ k => X0.baloadBytes hx (j := (8 : Int32)) (v := (.int (32 : Int32))) (by rw [e0]; exact Ar48.1) (State.isArrayOf_alike hZ.alike Ar48.2.1) Ar48.2.2 hin48 (Has.at H48 hin48 rfl) (g := (mkF m 17 #[.val (.ref t1), .val (.ref t2), .val (.int (8 : Int32))] [(.int (8 : Int32)), (.ref t1)])) rfl rfl (hb hby d12_17) _ k) ?_
  refine own_by (T' := s₁) (g' := (mkF m 19 #[.val (.ref t1), .val (.ref t2), .val (.int (8 : Int32))] [(.ref t2), (.int (32 : Int32))])) (fun _ k => XS.aloadN X0.here hx rfl (hb hby d12_18) rfl rfl k) ?_
  refine own_by (T' := s₁) (g' := (mkF m 20 #[.val (.ref t1), .val (.ref t2), .val (.int (8 : Int32))] [(.int (8 : Int32)), (.ref t2), (.int (32 : Int32))])) (fun _ k => XS.iloadN X0.here hx rfl (hb hby d12_19) rfl k) ?_
  obtain ⟨cl49, Ar49, q49, S49, N_49, H49, G49⟩ := id V_t2
  have hin49 : ¬ ((8 : Int32) < 0 ∨ cl49.slots.size ≤ ((8 : Int32)).toNatClampNeg) := inb_of S49 ⟨by decide, by decide⟩
  refine own_by (T' := s₁) (g' := (mkF m 21 #[.val (.ref t1), .val (.ref t2), .val (.int (8 : Int32))] [(.int (32 : Int32)), (.int (32 : Int32))])) (fun _ k => X0.baloadBytes hx (j := (8 : Int32)) (v := (.int (32 : Int32))) (by rw [e0]; exact Ar49.1) (State.isArrayOf_alike hZ.alike Ar49.2.1) Ar49.2.2 hin49 (Has.at H49 hin49 rfl) (g := (mkF m 20 #[.val (.ref t1), .val (.ref t2), .val (.int (8 : Int32))] [(.int (8 : Int32)), (.ref t2), (.int (32 : Int32))])) rfl rfl (hb hby d12_20) _ k) ?_
  refine own_by (T' := s₁) (g' := (mkF m 26 #[.val (.ref t1), .val (.ref t2), .val (.int (8 : Int32))] [])) (fun _ k => XS.icmpYes X0.here hx rfl (pc0 := 21) (pc' := 26) rfl (hb hby d12_21) rfl (teq (by decide)).1 (by decide) (by decide) k) ?_
  refine own_by (T' := s₁) (g' := (mkF m 29 #[.val (.ref t1), .val (.ref t2), .val (.int (9 : Int32))] [])) (fun _ k => XS.iinc X0.here hx rfl (hb hby d12_26) rfl (l' := #[.val (.ref t1), .val (.ref t2), .val (.int (9 : Int32))]) rfl k) ?_
  refine own_by (T' := s₁) (g' := (mkF m 9 #[.val (.ref t1), .val (.ref t2), .val (.int (9 : Int32))] [])) (fun _ k => XS.goto X0.here hx rfl (pc0 := 29) (pc' := 9) rfl (hb hby d12_29) (by decide) (by decide) k) ?_
  refine own_by (T' := s₁) (g' := (mkF m 10 #[.val (.ref t1), .val (.ref t2), .val (.int (9 : Int32))] [(.int (9 : Int32))])) (fun _ k => XS.iloadN X0.here hx rfl (hb hby d12_9) rfl k) ?_
  refine own_by (T' := s₁) (g' := (mkF m 11 #[.val (.ref t1), .val (.ref t2), .val (.int (9 : Int32))] [(.ref t1), (.int (9 : Int32))])) (fun _ k => XS.aloadN X0.here hx rfl (hb hby d12_10) rfl rfl k) ?_
  obtain ⟨cl50, Ar50, q50, S50, N_50, H50, G50⟩ := id V_t1
  refine own_by (T' := s₁) (g' := (mkF m 12 #[.val (.ref t1), .val (.ref t2), .val (.int (9 : Int32))] [(.int (14 : Int32)), (.int (9 : Int32))])) (fun _ k => X0.arraylength hx (by rw [e0]; exact Ar50.1) (State.isArrayOf_alike hZ.alike Ar50.2.1) (g := (mkF m 11 #[.val (.ref t1), .val (.ref t2), .val (.int (9 : Int32))] [(.ref t1), (.int (9 : Int32))])) rfl rfl (hb hby d12_11) _ (by rw [len_of S50 N_50]; exact k)) ?_
  refine own_by (T' := s₁) (g' := (mkF m 15 #[.val (.ref t1), .val (.ref t2), .val (.int (9 : Int32))] [])) (fun _ k => XS.icmpNo X0.here hx rfl (hb hby d12_12) rfl (tlt (by decide)).2.1 k) ?_
  refine own_by (T' := s₁) (g' := (mkF m 16 #[.val (.ref t1), .val (.ref t2), .val (.int (9 : Int32))] [(.ref t1)])) (fun _ k => XS.aloadN X0.here hx rfl (hb hby d12_15) rfl rfl k) ?_
  refine own_by (T' := s₁) (g' := (mkF m 17 #[.val (.ref t1), .val (.ref t2), .val (.int (9 : Int32))] [(.int (9 : Int32)), (.ref t1)])) (fun _ k => XS.iloadN X0.here hx rfl (hb hby d12_16) rfl k) ?_
  obtain ⟨cl51, Ar51, q51, S51, N_51, H51, G51⟩ := id V_t1
  have hin51 : ¬ ((9 : Int32) < 0 ∨ cl51.slots.size ≤ ((9 : Int32)).toNatClampNeg) := inb_of S51 ⟨by decide, by decide⟩
  refine own_by (T' := s₁) (g' := (mkF m 18 #[.val (.ref t1), .val (.ref t2), .val (.int (9 : Int32))] [(.int (105 : Int32))])) (fun _ k => X0.baloadBytes hx (j := (9 : Int32)) (v := (.int (105 : Int32))) (by rw [e0]; exact Ar51.1) (State.isArrayOf_alike hZ.alike Ar51.2.1) Ar51.2.2 hin51 (Has.at H51 hin51 rfl) (g := (mkF m 17 #[.val (.ref t1), .val (.ref t2), .val (.int (9 : Int32))] [(.int (9 : Int32)), (.ref t1)])) rfl rfl (hb hby d12_17) _ k) ?_
  refine own_by (T' := s₁) (g' := (mkF m 19 #[.val (.ref t1), .val (.ref t2), .val (.int (9 : Int32))] [(.ref t2), (.int (105 : Int32))])) (fun _ k => XS.aloadN X0.here hx rfl (hb hby d12_18) rfl rfl k) ?_
  refine own_by (T' := s₁) (g' := (mkF m 20 #[.val (.ref t1), .val (.ref t2), .val (.int (9 : Int32))] [(.int (9 : Int32)), (.ref t2), (.int (105 : Int32))])) (fun _ k => XS.iloadN X0.here hx rfl (hb hby d12_19) rfl k) ?_
  obtain ⟨cl52, Ar52, q52, S52, N_52, H52, G52⟩ := id V_t2
  have hin52 : ¬ ((9 : Int32) < 0 ∨ cl52.slots.size ≤ ((9 : Int32)).toNatClampNeg) := inb_of S52 ⟨by decide, by decide⟩
  refine own_by (T' := s₁) (g' := (mkF m 21 #[.val (.ref t1), .val (.ref t2), .val (.int (9 : Int32))] [(.int (105 : Int32)), (.int (105 : Int32))])) (fun _ k => X0.baloadBytes hx (j := (9 : Int32)) (v := (.int (105 : Int32))) (by rw [e0]; exact Ar52.1) (State.isArrayOf_alike hZ.alike Ar52.2.1) Ar52.2.2 hin52 (Has.at H52 hin52 rfl) (g := (mkF m 20 #[.val (.ref t1), .val (.ref t2), .val (.int (9 : Int32))] [(.int (9 : Int32)), (.ref t2), (.int (105 : Int32))])) rfl rfl (hb hby d12_20) _ k) ?_
  refine own_by (T' := s₁) (g' := (mkF m 26 #[.val (.ref t1), .val (.ref t2), .val (.int (9 : Int32))] [])) (fun _ k => XS.icmpYes X0.here hx rfl (pc0 := 21) (pc' := 26) rfl (hb hby d12_21) rfl (teq (by decide)).1 (by decide) (by decide) k) ?_
  refine own_by (T' := s₁) (g' := (mkF m 29 #[.val (.ref t1), .val (.ref t2), .val (.int (10 : Int32))] [])) (fun _ k => XS.iinc X0.here hx rfl (hb hby d12_26) rfl (l' := #[.val (.ref t1), .val (.ref t2), .val (.int (10 : Int32))]) rfl k) ?_
  refine own_by (T' := s₁) (g' := (mkF m 9 #[.val (.ref t1), .val (.ref t2), .val (.int (10 : Int32))] [])) (fun _ k => XS.goto X0.here hx rfl (pc0 := 29) (pc' := 9) rfl (hb hby d12_29) (by decide) (by decide) k) ?_
  refine own_by (T' := s₁) (g' := (mkF m 10 #[.val (.ref t1), .val (.ref t2), .val (.int (10 : Int32))] [(.int (10 : Int32))])) (fun _ k => XS.iloadN X0.here hx rfl (hb hby d12_9) rfl k) ?_
  refine own_by (T' := s₁) (g' := (mkF m 11 #[.val (.ref t1), .val (.ref t2), .val (.int (10 : Int32))] [(.ref t1), (.int (10 : Int32))])) (fun _ k => XS.aloadN X0.here hx rfl (hb hby d12_10) rfl rfl k) ?_
  obtain ⟨cl53, Ar53, q53, S53, N_53, H53, G53⟩ := id V_t1
  refine own_by (T' := s₁) (g' := (mkF m 12 #[.val (.ref t1), .val (.ref t2), .val (.int (10 : Int32))] [(.int (14 : Int32)), (.int (10 : Int32))])) (fun _ k => X0.arraylength hx (by rw [e0]; exact Ar53.1) (State.isArrayOf_alike hZ.alike Ar53.2.1) (g := (mkF m 11 #[.val (.ref t1), .val (.ref t2), .val (.int (10 : Int32))] [(.ref t1), (.int (10 : Int32))])) rfl rfl (hb hby d12_11) _ (by rw [len_of S53 N_53]; exact k)) ?_
  refine own_by (T' := s₁) (g' := (mkF m 15 #[.val (.ref t1), .val (.ref t2), .val (.int (10 : Int32))] [])) (fun _ k => XS.icmpNo X0.here hx rfl (hb hby d12_12) rfl (tlt (by decide)).2.1 k) ?_
  refine own_by (T' := s₁) (g' := (mkF m 16 #[.val (.ref t1), .val (.ref t2), .val (.int (10 : Int32))] [(.ref t1)])) (fun _ k => XS.aloadN X0.here hx rfl (hb hby d12_15) rfl rfl k) ?_
  refine own_by (T' := s₁) (g' := (mkF m 17 #[.val (.ref t1), .val (.ref t2), .val (.int (10 : Int32))] [(.int (10 : Int32)), (.ref t1)])) (fun _ k => XS.iloadN X0.here hx rfl (hb hby d12_16) rfl k) ?_
  obtain ⟨cl54, Ar54, q54, S54, N_54, H54, G54⟩ := id V_t1
  have hin54 : ¬ ((10 : Int32) < 0 ∨ cl54.slots.size ≤ ((10 : Int32)).toNatClampNeg) := inb_of S54 ⟨by decide, by decide⟩
  refine own_by (T' := s₁) (g' := (mkF m 18 #[.val (.ref t1), .val (.ref t2), .val (.int (10 : Int32))] [(.int (110 : Int32))])) (fun _ k => X0.baloadBytes hx (j := (10 : Int32)) (v := (.int (110 : Int32))) (by rw [e0]; exact Ar54.1) (State.isArrayOf_alike hZ.alike Ar54.2.1) Ar54.2.2 hin54 (Has.at H54 hin54 rfl) (g := (mkF m 17 #[.val (.ref t1), .val (.ref t2), .val (.int (10 : Int32))] [(.int (10 : Int32)), (.ref t1)])) rfl rfl (hb hby d12_17) _ k) ?_
  refine own_by (T' := s₁) (g' := (mkF m 19 #[.val (.ref t1), .val (.ref t2), .val (.int (10 : Int32))] [(.ref t2), (.int (110 : Int32))])) (fun _ k => XS.aloadN X0.here hx rfl (hb hby d12_18) rfl rfl k) ?_
  refine own_by (T' := s₁) (g' := (mkF m 20 #[.val (.ref t1), .val (.ref t2), .val (.int (10 : Int32))] [(.int (10 : Int32)), (.ref t2), (.int (110 : Int32))])) (fun _ k => XS.iloadN X0.here hx rfl (hb hby d12_19) rfl k) ?_
  obtain ⟨cl55, Ar55, q55, S55, N_55, H55, G55⟩ := id V_t2
  have hin55 : ¬ ((10 : Int32) < 0 ∨ cl55.slots.size ≤ ((10 : Int32)).toNatClampNeg) := inb_of S55 ⟨by decide, by decide⟩
  refine own_by (T' := s₁) (g' := (mkF m 21 #[.val (.ref t1), .val (.ref t2), .val (.int (10 : Int32))] [(.int (110 : Int32)), (.int (110 : Int32))])) (fun _ k => X0.baloadBytes hx (j := (10 : Int32)) (v := (.int (110 : Int32))) (by rw [e0]; exact Ar55.1) (State.isArrayOf_alike hZ.alike Ar55.2.1) Ar55.2.2 hin55 (Has.at H55 hin55 rfl) (g := (mkF m 20 #[.val (.ref t1), .val (.ref t2), .val (.int (10 : Int32))] [(.int (10 : Int32)), (.ref t2), (.int (110 : Int32))])) rfl rfl (hb hby d12_20) _ k) ?_
  refine own_by (T' := s₁) (g' := (mkF m 26 #[.val (.ref t1), .val (.ref t2), .val (.int (10 : Int32))] [])) (fun _ k => XS.icmpYes X0.here hx rfl (pc0 := 21) (pc' := 26) rfl (hb hby d12_21) rfl (teq (by decide)).1 (by decide) (by decide) k) ?_
  refine own_by (T' := s₁) (g' := (mkF m 29 #[.val (.ref t1), .val (.ref t2), .val (.int (11 : Int32))] [])) (fun _ k => XS.iinc X0.here hx rfl (hb hby d12_26) rfl (l' := #[.val (.ref t1), .val (.ref t2), .val (.int (11 : Int32))]) rfl k) ?_
  refine own_by (T' := s₁) (g' := (mkF m 9 #[.val (.ref t1), .val (.ref t2), .val (.int (11 : Int32))] [])) (fun _ k => XS.goto X0.here hx rfl (pc0 := 29) (pc' := 9) rfl (hb hby d12_29) (by decide) (by decide) k) ?_
  refine own_by (T' := s₁) (g' := (mkF m 10 #[.val (.ref t1), .val (.ref t2), .val (.int (11 : Int32))] [(.int (11 : Int32))])) (fun _ k => XS.iloadN X0.here hx rfl (hb hby d12_9) rfl k) ?_
  refine own_by (T' := s₁) (g' := (mkF m 11 #[.val (.ref t1), .val (.ref t2), .val (.int (11 : Int32))] [(.ref t1), (.int (11 : Int32))])) (fun _ k => XS.aloadN X0.here hx rfl (hb hby d12_10) rfl rfl k) ?_
  obtain ⟨cl56, Ar56, q56, S56, N_56, H56, G56⟩ := id V_t1
  refine own_by (T' := s₁) (g' := (mkF m 12 #[.val (.ref t1), .val (.ref t2), .val (.int (11 : Int32))] [(.int (14 : Int32)), (.int (11 : Int32))])) (fun _ k => X0.arraylength hx (by rw [e0]; exact Ar56.1) (State.isArrayOf_alike hZ.alike Ar56.2.1) (g := (mkF m 11 #[.val (.ref t1), .val (.ref t2), .val (.int (11 : Int32))] [(.ref t1), (.int (11 : Int32))])) rfl rfl (hb hby d12_11) _ (by rw [len_of S56 N_56]; exact k)) ?_
  refine own_by (T' := s₁) (g' := (mkF m 15 #[.val (.ref t1), .val (.ref t2), .val (.int (11 : Int32))] [])) (fun _ k => XS.icmpNo X0.here hx rfl (hb hby d12_12) rfl (tlt (by decide)).2.1 k) ?_
  refine own_by (T' := s₁) (g' := (mkF m 16 #[.val (.ref t1), .val (.ref t2), .val (.int (11 : Int32))] [(.ref t1)])) (fun _ k => XS.aloadN X0.here hx rfl (hb hby d12_15) rfl rfl k) ?_
  refine own_by (T' := s₁) (g' := (mkF m 17 #[.val (.ref t1), .val (.ref t2), .val (.int (11 : Int32))] [(.int (11 : Int32)), (.ref t1)])) (fun _ k => XS.iloadN X0.here hx rfl (hb hby d12_16) rfl k) ?_
  obtain ⟨cl57, Ar57, q57, S57, N_57, H57, G57⟩ := id V_t1
  have hin57 : ¬ ((11 : Int32) < 0 ∨ cl57.slots.size ≤ ((11 : Int32)).toNatClampNeg) := inb_of S57 ⟨by decide, by decide⟩
  refine own_by (T' := s₁) (g' := (mkF m 18 #[.val (.ref t1), .val (.ref t2), .val (.int (11 : Int32))] [(.int (112 : Int32))])) (fun _ k => X0.baloadBytes hx (j := (11 : Int32)) (v := (.int (112 : Int32))) (by rw [e0]; exact Ar57.1) (State.isArrayOf_alike hZ.alike Ar57.2.1) Ar57.2.2 hin57 (Has.at H57 hin57 rfl) (g := (mkF m 17 #[.val (.ref t1), .val (.ref t2), .val (.int (11 : Int32))] [(.int (11 : Int32)), (.ref t1)])) rfl rfl (hb hby d12_17) _ k) ?_
  refine own_by (T' := s₁) (g' := (mkF m 19 #[.val (.ref t1), .val (.ref t2), .val (.int (11 : Int32))] [(.ref t2), (.int (112 : Int32))])) (fun _ k => XS.aloadN X0.here hx rfl (hb hby d12_18) rfl rfl k) ?_
  refine own_by (T' := s₁) (g' := (mkF m 20 #[.val (.ref t1), .val (.ref t2), .val (.int (11 : Int32))] [(.int (11 : Int32)), (.ref t2), (.int (112 : Int32))])) (fun _ k => XS.iloadN X0.here hx rfl (hb hby d12_19) rfl k) ?_
  obtain ⟨cl58, Ar58, q58, S58, N_58, H58, G58⟩ := id V_t2
  have hin58 : ¬ ((11 : Int32) < 0 ∨ cl58.slots.size ≤ ((11 : Int32)).toNatClampNeg) := inb_of S58 ⟨by decide, by decide⟩
  refine own_by (T' := s₁) (g' := (mkF m 21 #[.val (.ref t1), .val (.ref t2), .val (.int (11 : Int32))] [(.int (112 : Int32)), (.int (112 : Int32))])) (fun _ k => X0.baloadBytes hx (j := (11 : Int32)) (v := (.int (112 : Int32))) (by rw [e0]; exact Ar58.1) (State.isArrayOf_alike hZ.alike Ar58.2.1) Ar58.2.2 hin58 (Has.at H58 hin58 rfl) (g := (mkF m 20 #[.val (.ref t1), .val (.ref t2), .val (.int (11 : Int32))] [(.int (11 : Int32)), (.ref t2), (.int (112 : Int32))])) rfl rfl (hb hby d12_20) _ k) ?_
  refine own_by (T' := s₁) (g' := (mkF m 26 #[.val (.ref t1), .val (.ref t2), .val (.int (11 : Int32))] [])) (fun _ k => XS.icmpYes X0.here hx rfl (pc0 := 21) (pc' := 26) rfl (hb hby d12_21) rfl (teq (by decide)).1 (by decide) (by decide) k) ?_
  refine own_by (T' := s₁) (g' := (mkF m 29 #[.val (.ref t1), .val (.ref t2), .val (.int (12 : Int32))] [])) (fun _ k => XS.iinc X0.here hx rfl (hb hby d12_26) rfl (l' := #[.val (.ref t1), .val (.ref t2), .val (.int (12 : Int32))]) rfl k) ?_
  refine own_by (T' := s₁) (g' := (mkF m 9 #[.val (.ref t1), .val (.ref t2), .val (.int (12 : Int32))] [])) (fun _ k => XS.goto X0.here hx rfl (pc0 := 29) (pc' := 9) rfl (hb hby d12_29) (by decide) (by decide) k) ?_
  refine own_by (T' := s₁) (g' := (mkF m 10 #[.val (.ref t1), .val (.ref t2), .val (.int (12 : Int32))] [(.int (12 : Int32))])) (fun _ k => XS.iloadN X0.here hx rfl (hb hby d12_9) rfl k) ?_
  refine own_by (T' := s₁) (g' := (mkF m 11 #[.val (.ref t1), .val (.ref t2), .val (.int (12 : Int32))] [(.ref t1), (.int (12 : Int32))])) (fun _ k => XS.aloadN X0.here hx rfl (hb hby d12_10) rfl rfl k) ?_
  obtain ⟨cl59, Ar59, q59, S59, N_59, H59, G59⟩ := id V_t1
  refine own_by (T' := s₁) (g' := (mkF m 12 #[.val (.ref t1), .val (.ref t2), .val (.int (12 : Int32))] [(.int (14 : Int32)), (.int (12 : Int32))])) (fun _ k => X0.arraylength hx (by rw [e0]; exact Ar59.1) (State.isArrayOf_alike hZ.alike Ar59.2.1) (g := (mkF m 11 #[.val (.ref t1), .val (.ref t2), .val (.int (12 : Int32))] [(.ref t1), (.int (12 : Int32))])) rfl rfl (hb hby d12_11) _ (by rw [len_of S59 N_59]; exact k)) ?_
  refine own_by (T' := s₁) (g' := (mkF m 15 #[.val (.ref t1), .val (.ref t2), .val (.int (12 : Int32))] [])) (fun _ k => XS.icmpNo X0.here hx rfl (hb hby d12_12) rfl (tlt (by decide)).2.1 k) ?_
  refine own_by (T' := s₁) (g' := (mkF m 16 #[.val (.ref t1), .val (.ref t2), .val (.int (12 : Int32))] [(.ref t1)])) (fun _ k => XS.aloadN X0.here hx rfl (hb hby d12_15) rfl rfl k) ?_
  refine own_by (T' := s₁) (g' := (mkF m 17 #[.val (.ref t1), .val (.ref t2), .val (.int (12 : Int32))] [(.int (12 : Int32)), (.ref t1)])) (fun _ k => XS.iloadN X0.here hx rfl (hb hby d12_16) rfl k) ?_
  obtain ⟨cl60, Ar60, q60, S60, N_60, H60, G60⟩ := id V_t1
  have hin60 : ¬ ((12 : Int32) < 0 ∨ cl60.slots.size ≤ ((12 : Int32)).toNatClampNeg) := inb_of S60 ⟨by decide, by decide⟩
  refine own_by (T' := s₁) (g' := (mkF m 18 #[.val (.ref t1), .val (.ref t2), .val (.int (12 : Int32))] [(.int (117 : Int32))])) (fun _ k => X0.baloadBytes hx (j := (12 : Int32)) (v := (.int (117 : Int32))) (by rw [e0]; exact Ar60.1) (State.isArrayOf_alike hZ.alike Ar60.2.1) Ar60.2.2 hin60 (Has.at H60 hin60 rfl) (g := (mkF m 17 #[.val (.ref t1), .val (.ref t2), .val (.int (12 : Int32))] [(.int (12 : Int32)), (.ref t1)])) rfl rfl (hb hby d12_17) _ k) ?_
  refine own_by (T' := s₁) (g' := (mkF m 19 #[.val (.ref t1), .val (.ref t2), .val (.int (12 : Int32))] [(.ref t2), (.int (117 : Int32))])) (fun _ k => XS.aloadN X0.here hx rfl (hb hby d12_18) rfl rfl k) ?_
  refine own_by (T' := s₁) (g' := (mkF m 20 #[.val (.ref t1), .val (.ref t2), .val (.int (12 : Int32))] [(.int (12 : Int32)), (.ref t2), (.int (117 : Int32))])) (fun _ k => XS.iloadN X0.here hx rfl (hb hby d12_19) rfl k) ?_
  obtain ⟨cl61, Ar61, q61, S61, N_61, H61, G61⟩ := id V_t2
  have hin61 : ¬ ((12 : Int32) < 0 ∨ cl61.slots.size ≤ ((12 : Int32)).toNatClampNeg) := inb_of S61 ⟨by decide, by decide⟩
  refine own_by (T' := s₁) (g' := (mkF m 21 #[.val (.ref t1), .val (.ref t2), .val (.int (12 : Int32))] [(.int (117 : Int32)), (.int (117 : Int32))])) (fun _ k => X0.baloadBytes hx (j := (12 : Int32)) (v := (.int (117 : Int32))) (by rw [e0]; exact Ar61.1) (State.isArrayOf_alike hZ.alike Ar61.2.1) Ar61.2.2 hin61 (Has.at H61 hin61 rfl) (g := (mkF m 20 #[.val (.ref t1), .val (.ref t2), .val (.int (12 : Int32))] [(.int (12 : Int32)), (.ref t2), (.int (117 : Int32))])) rfl rfl (hb hby d12_20) _ k) ?_
  refine own_by (T' := s₁) (g' := (mkF m 26 #[.val (.ref t1), .val (.ref t2), .val (.int (12 : Int32))] [])) (fun _ k => XS.icmpYes X0.here hx rfl (pc0 := 21) (pc' := 26) rfl (hb hby d12_21) rfl (teq (by decide)).1 (by decide) (by decide) k) ?_
  refine own_by (T' := s₁) (g' := (mkF m 29 #[.val (.ref t1), .val (.ref t2), .val (.int (13 : Int32))] [])) (fun _ k => XS.iinc X0.here hx rfl (hb hby d12_26) rfl (l' := #[.val (.ref t1), .val (.ref t2), .val (.int (13 : Int32))]) rfl k) ?_
  refine own_by (T' := s₁) (g' := (mkF m 9 #[.val (.ref t1), .val (.ref t2), .val (.int (13 : Int32))] [])) (fun _ k => XS.goto X0.here hx rfl (pc0 := 29) (pc' := 9) rfl (hb hby d12_29) (by decide) (by decide) k) ?_
  refine own_by (T' := s₁) (g' := (mkF m 10 #[.val (.ref t1), .val (.ref t2), .val (.int (13 : Int32))] [(.int (13 : Int32))])) (fun _ k => XS.iloadN X0.here hx rfl (hb hby d12_9) rfl k) ?_
  refine own_by (T' := s₁) (g' := (mkF m 11 #[.val (.ref t1), .val (.ref t2), .val (.int (13 : Int32))] [(.ref t1), (.int (13 : Int32))])) (fun _ k => XS.aloadN X0.here hx rfl (hb hby d12_10) rfl rfl k) ?_
  obtain ⟨cl62, Ar62, q62, S62, N_62, H62, G62⟩ := id V_t1
  refine own_by (T' := s₁) (g' := (mkF m 12 #[.val (.ref t1), .val (.ref t2), .val (.int (13 : Int32))] [(.int (14 : Int32)), (.int (13 : Int32))])) (fun _ k => X0.arraylength hx (by rw [e0]; exact Ar62.1) (State.isArrayOf_alike hZ.alike Ar62.2.1) (g := (mkF m 11 #[.val (.ref t1), .val (.ref t2), .val (.int (13 : Int32))] [(.ref t1), (.int (13 : Int32))])) rfl rfl (hb hby d12_11) _ (by rw [len_of S62 N_62]; exact k)) ?_
  refine own_by (T' := s₁) (g' := (mkF m 15 #[.val (.ref t1), .val (.ref t2), .val (.int (13 : Int32))] [])) (fun _ k => XS.icmpNo X0.here hx rfl (hb hby d12_12) rfl (tlt (by decide)).2.1 k) ?_
  refine own_by (T' := s₁) (g' := (mkF m 16 #[.val (.ref t1), .val (.ref t2), .val (.int (13 : Int32))] [(.ref t1)])) (fun _ k => XS.aloadN X0.here hx rfl (hb hby d12_15) rfl rfl k) ?_
  refine own_by (T' := s₁) (g' := (mkF m 17 #[.val (.ref t1), .val (.ref t2), .val (.int (13 : Int32))] [(.int (13 : Int32)), (.ref t1)])) (fun _ k => XS.iloadN X0.here hx rfl (hb hby d12_16) rfl k) ?_
  obtain ⟨cl63, Ar63, q63, S63, N_63, H63, G63⟩ := id V_t1
  have hin63 : ¬ ((13 : Int32) < 0 ∨ cl63.slots.size ≤ ((13 : Int32)).toNatClampNeg) := inb_of S63 ⟨by decide, by decide⟩
  refine own_by (T' := s₁) (g' := (mkF m 18 #[.val (.ref t1), .val (.ref t2), .val (.int (13 : Int32))] [(.int (116 : Int32))])) (fun _ k => X0.baloadBytes hx (j := (13 : Int32)) (v := (.int (116 : Int32))) (by rw [e0]; exact Ar63.1) (State.isArrayOf_alike hZ.alike Ar63.2.1) Ar63.2.2 hin63 (Has.at H63 hin63 rfl) (g := (mkF m 17 #[.val (.ref t1), .val (.ref t2), .val (.int (13 : Int32))] [(.int (13 : Int32)), (.ref t1)])) rfl rfl (hb hby d12_17) _ k) ?_
  refine own_by (T' := s₁) (g' := (mkF m 19 #[.val (.ref t1), .val (.ref t2), .val (.int (13 : Int32))] [(.ref t2), (.int (116 : Int32))])) (fun _ k => XS.aloadN X0.here hx rfl (hb hby d12_18) rfl rfl k) ?_
  refine own_by (T' := s₁) (g' := (mkF m 20 #[.val (.ref t1), .val (.ref t2), .val (.int (13 : Int32))] [(.int (13 : Int32)), (.ref t2), (.int (116 : Int32))])) (fun _ k => XS.iloadN X0.here hx rfl (hb hby d12_19) rfl k) ?_
  obtain ⟨cl64, Ar64, q64, S64, N_64, H64, G64⟩ := id V_t2
  have hin64 : ¬ ((13 : Int32) < 0 ∨ cl64.slots.size ≤ ((13 : Int32)).toNatClampNeg) := inb_of S64 ⟨by decide, by decide⟩
  refine own_by (T' := s₁) (g' := (mkF m 21 #[.val (.ref t1), .val (.ref t2), .val (.int (13 : Int32))] [(.int (116 : Int32)), (.int (116 : Int32))])) (fun _ k => X0.baloadBytes hx (j := (13 : Int32)) (v := (.int (116 : Int32))) (by rw [e0]; exact Ar64.1) (State.isArrayOf_alike hZ.alike Ar64.2.1) Ar64.2.2 hin64 (Has.at H64 hin64 rfl) (g := (mkF m 20 #[.val (.ref t1), .val (.ref t2), .val (.int (13 : Int32))] [(.int (13 : Int32)), (.ref t2), (.int (116 : Int32))])) rfl rfl (hb hby d12_20) _ k) ?_
  refine own_by (T' := s₁) (g' := (mkF m 26 #[.val (.ref t1), .val (.ref t2), .val (.int (13 : Int32))] [])) (fun _ k => XS.icmpYes X0.here hx rfl (pc0 := 21) (pc' := 26) rfl (hb hby d12_21) rfl (teq (by decide)).1 (by decide) (by decide) k) ?_
  refine own_by (T' := s₁) (g' := (mkF m 29 #[.val (.ref t1), .val (.ref t2), .val (.int (14 : Int32))] [])) (fun _ k => XS.iinc X0.here hx rfl (hb hby d12_26) rfl (l' := #[.val (.ref t1), .val (.ref t2), .val (.int (14 : Int32))]) rfl k) ?_
  refine own_by (T' := s₁) (g' := (mkF m 9 #[.val (.ref t1), .val (.ref t2), .val (.int (14 : Int32))] [])) (fun _ k => XS.goto X0.here hx rfl (pc0 := 29) (pc' := 9) rfl (hb hby d12_29) (by decide) (by decide) k) ?_
  refine own_by (T' := s₁) (g' := (mkF m 10 #[.val (.ref t1), .val (.ref t2), .val (.int (14 : Int32))] [(.int (14 : Int32))])) (fun _ k => XS.iloadN X0.here hx rfl (hb hby d12_9) rfl k) ?_
  refine own_by (T' := s₁) (g' := (mkF m 11 #[.val (.ref t1), .val (.ref t2), .val (.int (14 : Int32))] [(.ref t1), (.int (14 : Int32))])) (fun _ k => XS.aloadN X0.here hx rfl (hb hby d12_10) rfl rfl k) ?_
  obtain ⟨cl65, Ar65, q65, S65, N_65, H65, G65⟩ := id V_t1
  refine own_by (T' := s₁) (g' := (mkF m 12 #[.val (.ref t1), .val (.ref t2), .val (.int (14 : Int32))] [(.int (14 : Int32)), (.int (14 : Int32))])) (fun _ k => X0.arraylength hx (by rw [e0]; exact Ar65.1) (State.isArrayOf_alike hZ.alike Ar65.2.1) (g := (mkF m 11 #[.val (.ref t1), .val (.ref t2), .val (.int (14 : Int32))] [(.ref t1), (.int (14 : Int32))])) rfl rfl (hb hby d12_11) _ (by rw [len_of S65 N_65]; exact k)) ?_
  refine own_by (T' := s₁) (g' := (mkF m 32 #[.val (.ref t1), .val (.ref t2), .val (.int (14 : Int32))] [])) (fun _ k => XS.icmpYes X0.here hx rfl (pc0 := 12) (pc' := 32) rfl (hb hby d12_12) rfl (flt (by decide)).2.1 (by decide) (by decide) k) ?_
  refine own_by (T' := s₁) (g' := (mkF m 33 #[.val (.ref t1), .val (.ref t2), .val (.int (14 : Int32))] [(.int (1 : Int32))])) (fun _ k => XS.iconst X0.here hx rfl (hb hby d12_32) k) ?_
  refine own_ret X0 hlk (v := some (.int (1 : Int32))) (fun h => by rw [Bd.returns] at h; cases h) (fun fs hr => retN X0 hx (t := .boolean) Bd.returns (by simp) (hb hby d12_33) hr) ?_ (by decide) (by decide)
  rw [e0]
  exact ⟨congrArg (fun z => some (Value.int z)) rfl, N0, rfl⟩
theorem ef_seq_si (m : MethodId) (a : Addr) (b : Addr) : entryFrame m #[(.ref a), (.ref b)] 3 = mkF m 0 #[.val (.ref a), .val (.ref b), .unset] [] := by first | (simp [entryFrame, mkF, argsToLocals, Value.category]; done) | rfl
def Q_seq_si (Z : State) (a : Addr) (b : Addr) (t1 : Addr) (t2 : Addr) (k1 : ClassId) (k2 : ClassId) (cs : Int32) (h0 : Heap) (n0 : Nat) (v : Option Value) (h : Heap) (L : List Loc) : Prop := v = some (.int (1 : Int32)) ∧ Fr n0 L ∧ h = h0
set_option maxRecDepth 65536 in
set_option maxHeartbeats 40000000 in
theorem seq_si (l : Launch) (Z : State) (a0 : Array Value) (hw : ∀ d ∈ tables_1, d.before a0 Z = true) (ws : List Jvm.Cond) (a : Addr) (b : Addr) (t1 : Addr) (t2 : Addr) (k1 : ClassId) (k2 : ClassId) (cs : Int32) (h0 : Heap) (n0 : Nat) (Z0 : n0 ≤ h0.size) (E_b : Exa Z h0 b "java/lang/String") (F_coder_a : Fld Z h0 a "java/lang/String" "coder" "B" (.int (0 : Int32))) (F_coder_b : Fld Z h0 b "java/lang/String" "coder" "B" (.int (0 : Int32))) (F_value_a : Fld Z h0 a "java/lang/String" "value" "[B" (.ref t1)) (F_value_b : Fld Z h0 b "java/lang/String" "value" "[B" (.ref t2)) (V_t1 : Arv Z h0 t1 k1 .byte (14 : Int32) [(.int (115 : Int32)), (.int (116 : Int32)), (.int (97 : Int32)), (.int (110 : Int32)), (.int (100 : Int32)), (.int (97 : Int32)), (.int (114 : Int32)), (.int (100 : Int32)), (.int (32 : Int32)), (.int (105 : Int32)), (.int (110 : Int32)), (.int (112 : Int32)), (.int (117 : Int32)), (.int (116 : Int32))] (.int (0 : Int32))) (V_t2 : Arv Z h0 t2 k2 .byte (14 : Int32) [(.int (115 : Int32)), (.int (116 : Int32)), (.int (97 : Int32)), (.int (110 : Int32)), (.int (100 : Int32)), (.int (97 : Int32)), (.int (114 : Int32)), (.int (100 : Int32)), (.int (32 : Int32)), (.int (105 : Int32)), (.int (110 : Int32)), (.int (112 : Int32)), (.int (117 : Int32)), (.int (116 : Int32))] (.int (0 : Int32))) (S_CS : Sta Z h0 "java/lang/String" "COMPACT_STRINGS" "Z" (.int cs)) (hcs : ¬ cs = (0 : Int32)) :
    MetFree l (⟨"java/lang/String", "equals", "(Ljava/lang/Object;)Z"⟩ : MethodName) (head1 (Jvm.Cond.code (⟨"java/lang/String", "equals", "(Ljava/lang/Object;)Z"⟩ : MethodName) jdk_42_method_66_code 3 (some .boolean) :: ws) ({ frames := 1, cells := 0, slots := 0, locals := 14 } : Room)) (fun zz UU => zz = #[(.ref a), (.ref b)] ∧ Z.Warmed39 UU.vm ∧ UU.heap = h0) (fun _ _ _ _ _ => True) (fun _ U o U' => ∃ v L, o = .returned v ∧ Q_seq_si Z a b t1 t2 k1 k2 cs h0 n0 v U'.heap L ∧ FrameEnd U o U' L ({ frames := 1, cells := 0, slots := 0, locals := 14 } : Room).cells ({ frames := 1, cells := 0, slots := 0, locals := 14 } : Room).slots) := by
  refine MetFree.of_bodySF (plainFor_of_name pn_11) hisR ?_
  intro p e s m args below meth c s₁ Bd hml0 hP hK
  obtain ⟨rfl, hZ, hh⟩ := hP
  have hx := Bd.exec
  have hby := Bd.bytes
  have hml : c.maxLocals = 3 := hml0
  have hown : s.vm.findClass "java/lang/String" = some m.cls := findClass_of_methodNamed Bd.named
  have hnm := (name_of_methodNamed Bd.named Bd.method).1
  have hlk : meth.locks = false := BodyLoose.notSynchronized Bd
  have X0 : Stand p l e ({ frames := 1, cells := 0, slots := 0, locals := 14 } : Room) s m #[(.ref a), (.ref b)] below meth c s₁ [] 0 0 := Stand.of_body Bd
  have e0 : s₁.heap = h0 := by rw [← hh, Bd.state]; rfl
  have N0 := Fr.nil n0
  show own_Go p.tables e below (Q_seq_si Z a b t1 t2 k1 k2 cs h0 n0) s ({ frames := 1, cells := 0, slots := 0, locals := 14 } : Room).cells ({ frames := 1, cells := 0, slots := 0, locals := 14 } : Room).slots s₁ (entryFrame m #[(.ref a), (.ref b)] 3)
  rw [ef_seq_si m a b]
  refine own_by (T' := s₁) (g' := (mkF m 1 #[.val (.ref a), .val (.ref b), .unset] [(.ref a)])) (fun _ k => XS.aloadN X0.here hx rfl (hb hby d11_0) rfl rfl k) ?_
  refine own_by (T' := s₁) (g' := (mkF m 2 #[.val (.ref a), .val (.ref b), .unset] [(.ref b), (.ref a)])) (fun _ k => XS.aloadN X0.here hx rfl (hb hby d11_1) rfl rfl k) ?_
  by_cases hc2_21 : a = b
  · skip
    refine own_by (T' := s₁) (g' := (mkF m 5 #[.val (.ref a), .val (.ref b), .unset] [])) (fun _ k => Jvm.RoadKit.acmp (g := (mkF m 2 #[.val (.ref a), .val (.ref b), .unset] [(.ref b), (.ref a)])) X0 hx rfl rfl rfl (pc0 := 2) (pc' := 5) (same := true) rfl (hb hby d11_2) rfl (decide_eq_true (congrArg Value.ref hc2_21)) (by decide) (by decide) k) ?_
    refine own_by (T' := s₁) (g' := (mkF m 6 #[.val (.ref a), .val (.ref b), .unset] [(.int (1 : Int32))])) (fun _ k => XS.iconst X0.here hx rfl (hb hby d11_5) k) ?_
    refine own_ret X0 hlk (v := some (.int (1 : Int32))) (fun h => by rw [Bd.returns] at h; cases h) (fun fs hr => retN X0 hx (t := .boolean) Bd.returns (by simp) (hb hby d11_6) hr) ?_ (by decide) (by decide)
    rw [e0]
    exact ⟨congrArg (fun z => some (Value.int z)) rfl, N0, rfl⟩
  · skip
    refine own_by (T' := s₁) (g' := (mkF m 7 #[.val (.ref a), .val (.ref b), .unset] [])) (fun _ k => Jvm.RoadKit.acmp (g := (mkF m 2 #[.val (.ref a), .val (.ref b), .unset] [(.ref b), (.ref a)])) X0 hx rfl rfl rfl (pc0 := 2) (pc' := 7) (same := false) rfl (hb hby d11_2) rfl (decide_eq_false fun q => hc2_21 (Value.ref.inj q)) (by decide) (by decide) k) ?_
    refine own_by (T' := s₁) (g' := (mkF m 8 #[.val (.ref a), .val (.ref b), .unset] [(.ref b)])) (fun _ k => XS.aloadN X0.here hx rfl (hb hby d11_7) rfl rfl k) ?_
    obtain ⟨T22, X22, e22, st22⟩ := instY X0 hx hZ hown (hw _ (List.mem_of_getElem? (i := 68) rfl)) e0 (Ins.self E_b) (g := (mkF m 8 #[.val (.ref a), .val (.ref b), .unset] [(.ref b)])) rfl rfl (hb hby d11_8)
    refine own_by (T' := T22) (g' := (mkF m 11 #[.val (.ref a), .val (.ref b), .unset] [(.int (1 : Int32))])) (fun _ k => st22 _ k) ?_
    refine own_by (T' := T22) (g' := (mkF m 14 #[.val (.ref a), .val (.ref b), .unset] [])) (fun _ k => XS.ifNo X22.here hx rfl (hb hby d11_11) rfl ((if0 _ _).trans (feq (by decide)).1) k) ?_
    refine own_by (T' := T22) (g' := (mkF m 15 #[.val (.ref a), .val (.ref b), .unset] [(.ref b)])) (fun _ k => XS.aloadN X22.here hx rfl (hb hby d11_14) rfl rfl k) ?_
    obtain ⟨T23, X23, e23, st23⟩ := castY X22 hx hZ hown (hw _ (List.mem_of_getElem? (i := 68) rfl)) e22 (Ins.self E_b) (g := (mkF m 15 #[.val (.ref a), .val (.ref b), .unset] [(.ref b)])) rfl rfl (hb hby d11_15)
    refine own_by (T' := T23) (g' := (mkF m 18 #[.val (.ref a), .val (.ref b), .unset] [(.ref b)])) (fun _ k => st23 _ k) ?_
    refine own_by (T' := T23) (g' := (mkF m 19 #[.val (.ref a), .val (.ref b), .val (.ref b)] [])) (fun _ k => XS.astoreN X23.here hx rfl (hb hby d11_18) rfl rfl (l' := #[.val (.ref a), .val (.ref b), .val (.ref b)]) rfl k) ?_
    obtain ⟨T24, X24, e24, st24⟩ := getS2 X23 hx hZ hown (host := "") (Or.inl (hw _ (List.mem_of_getElem? (i := 69) rfl))) Via.refl e23 S_CS (g := (mkF m 19 #[.val (.ref a), .val (.ref b), .val (.ref b)] [])) rfl (hb hby d11_19)
    refine own_by (T' := T24) (g' := (mkF m 22 #[.val (.ref a), .val (.ref b), .val (.ref b)] [(.int cs)])) (fun _ k => st24 _ k) ?_
    refine own_by (T' := T24) (g' := (mkF m 25 #[.val (.ref a), .val (.ref b), .val (.ref b)] [])) (fun _ k => XS.ifNo X24.here hx rfl (hb hby d11_22) rfl ((if0 _ _).trans (feq hcs).1) k) ?_
    refine own_by (T' := T24) (g' := (mkF m 26 #[.val (.ref a), .val (.ref b), .val (.ref b)] [(.ref a)])) (fun _ k => XS.aloadN X24.here hx rfl (hb hby d11_25) rfl rfl k) ?_
    obtain ⟨T25, X25, e25, st25⟩ := getF X24 hx hZ hown (host := "") (Or.inl (hw _ (List.mem_of_getElem? (i := 28) rfl))) Via.refl e24 F_coder_a (g := (mkF m 26 #[.val (.ref a), .val (.ref b), .val (.ref b)] [(.ref a)])) rfl rfl (hb hby d11_26)
    refine own_by (T' := T25) (g' := (mkF m 29 #[.val (.ref a), .val (.ref b), .val (.ref b)] [(.int (0 : Int32))])) (fun _ k => st25 _ k) ?_
    refine own_by (T' := T25) (g' := (mkF m 30 #[.val (.ref a), .val (.ref b), .val (.ref b)] [(.ref b), (.int (0 : Int32))])) (fun _ k => XS.aloadN X25.here hx rfl (hb hby d11_29) rfl rfl k) ?_
    obtain ⟨T26, X26, e26, st26⟩ := getF X25 hx hZ hown (host := "") (Or.inl (hw _ (List.mem_of_getElem? (i := 28) rfl))) Via.refl e25 F_coder_b (g := (mkF m 30 #[.val (.ref a), .val (.ref b), .val (.ref b)] [(.ref b), (.int (0 : Int32))])) rfl rfl (hb hby d11_30)
    refine own_by (T' := T26) (g' := (mkF m 33 #[.val (.ref a), .val (.ref b), .val (.ref b)] [(.int (0 : Int32)), (.int (0 : Int32))])) (fun _ k => st26 _ k) ?_
    refine own_by (T' := T26) (g' := (mkF m 36 #[.val (.ref a), .val (.ref b), .val (.ref b)] [])) (fun _ k => XS.icmpNo X26.here hx rfl (hb hby d11_33) rfl (teq (by decide)).2 k) ?_
    refine own_by (T' := T26) (g' := (mkF m 37 #[.val (.ref a), .val (.ref b), .val (.ref b)] [(.ref a)])) (fun _ k => XS.aloadN X26.here hx rfl (hb hby d11_36) rfl rfl k) ?_
    obtain ⟨T27, X27, e27, st27⟩ := getF X26 hx hZ hown (host := "") (Or.inl (hw _ (List.mem_of_getElem? (i := 27) rfl))) Via.refl e26 F_value_a (g := (mkF m 37 #[.val (.ref a), .val (.ref b), .val (.ref b)] [(.ref a)])) rfl rfl (hb hby d11_37)
    refine own_by (T' := T27) (g' := (mkF m 40 #[.val (.ref a), .val (.ref b), .val (.ref b)] [(.ref t1)])) (fun _ k => st27 _ k) ?_
    refine own_by (T' := T27) (g' := (mkF m 41 #[.val (.ref a), .val (.ref b), .val (.ref b)] [(.ref b), (.ref t1)])) (fun _ k => XS.aloadN X27.here hx rfl (hb hby d11_40) rfl rfl k) ?_
    obtain ⟨T28, X28, e28, st28⟩ := getF X27 hx hZ hown (host := "") (Or.inl (hw _ (List.mem_of_getElem? (i := 27) rfl))) Via.refl e27 F_value_b (g := (mkF m 41 #[.val (.ref a), .val (.ref b), .val (.ref b)] [(.ref b), (.ref t1)])) rfl rfl (hb hby d11_41)
    refine own_by (T' := T28) (g' := (mkF m 44 #[.val (.ref a), .val (.ref b), .val (.ref b)] [(.ref t2), (.ref t1)])) (fun _ k => st28 _ k) ?_
    obtain ⟨_, _, ⟨T29, L29, k29, n29⟩, -, X29, ⟨Lc29, hQ29, l29, y29, z29⟩, st29⟩ := Jvm.LawKit.callS X28 hx (y := (⟨"java/lang/StringLatin1", "equals", "([B[B)Z"⟩ : MethodName)) hown (mvT hZ (hw _ (List.mem_of_getElem? (i := 70) rfl))) (mvT hZ (hw _ (List.mem_of_getElem? (i := 71) rfl))) (mvT hZ (hw _ (List.mem_of_getElem? (i := 72) rfl))) (mvT hZ (hw _ (List.mem_of_getElem? (i := 73) rfl))) (by decide) (backOf (W := 0) (leq_si l Z a0 hw [] t1 t2 k1 k2 h0 n0 Z0 V_t1 V_t2) hZ (hw _ (List.mem_of_getElem? (i := 73) rfl)) (hw _ (List.mem_of_getElem? (i := 72) rfl)) (by decide) (by decide)) (g := (mkF m 44 #[.val (.ref a), .val (.ref b), .val (.ref b)] [(.ref t2), (.ref t1)])) rfl (by rw [hml]; rfl) (argsL := [(.ref t1), (.ref t2)]) (rest := []) (lenOf pd_7 rfl) rfl (by show 2 * 0 + _ ≤ _; exact Nat.le_of_eq rfl) (hb hby d11_44) (fun _ _ => ⟨rfl, e28, (by decide : 0 + 0 ≤ _), (by decide : 0 + 0 ≤ _)⟩)
    dsimp only [Pt.U, Pt.locs, Pt.cells, Pt.slots] at X29 l29 y29 z29 st29 hQ29
    subst l29 y29 z29
    obtain ⟨rfl, N29q, e29⟩ := hQ29
    have N29 := Fr.app N0 N29q
    refine own_by (T' := T29) (g' := (mkF m 47 #[.val (.ref a), .val (.ref b), .val (.ref b)] [(.int (1 : Int32))])) (fun _ k => st29 _ k) ?_
    refine own_by (T' := T29) (g' := (mkF m 50 #[.val (.ref a), .val (.ref b), .val (.ref b)] [])) (fun _ k => XS.ifNo X29.here hx rfl (hb hby d11_47) rfl ((if0 _ _).trans (feq (by decide)).1) k) ?_
    refine own_by (T' := T29) (g' := (mkF m 51 #[.val (.ref a), .val (.ref b), .val (.ref b)] [(.int (1 : Int32))])) (fun _ k => XS.iconst X29.here hx rfl (hb hby d11_50) k) ?_
    refine own_by (T' := T29) (g' := (mkF m 55 #[.val (.ref a), .val (.ref b), .val (.ref b)] [(.int (1 : Int32))])) (fun _ k => XS.goto X29.here hx rfl (pc0 := 51) (pc' := 55) rfl (hb hby d11_51) (by decide) (by decide) k) ?_
    refine own_ret X29 hlk (v := some (.int (1 : Int32))) (fun h => by rw [Bd.returns] at h; cases h) (fun fs hr => retN X29 hx (t := .boolean) Bd.returns (by simp) (hb hby d11_55) hr) ?_ (by decide) (by decide)
    rw [e29]
    exact ⟨congrArg (fun z => some (Value.int z)) rfl, N29, rfl⟩
theorem ef_seq_same (m : MethodId) (a : Addr) : entryFrame m #[(.ref a), (.ref a)] 3 = mkF m 0 #[.val (.ref a), .val (.ref a), .unset] [] := by first | (simp [entryFrame, mkF, argsToLocals, Value.category]; done) | rfl
def Q_seq_same (Z : State) (a : Addr) (h0 : Heap) (n0 : Nat) (v : Option Value) (h : Heap) (L : List Loc) : Prop := v = some (.int (1 : Int32)) ∧ Fr n0 L ∧ h = h0
set_option maxRecDepth 65536 in
set_option maxHeartbeats 40000000 in
theorem seq_same (l : Launch) (Z : State) (a0 : Array Value) (hw : ∀ d ∈ tables_1, d.before a0 Z = true) (ws : List Jvm.Cond) (a : Addr) (h0 : Heap) (n0 : Nat) (Z0 : n0 ≤ h0.size) :
    MetFree l (⟨"java/lang/String", "equals", "(Ljava/lang/Object;)Z"⟩ : MethodName) (head1 (Jvm.Cond.code (⟨"java/lang/String", "equals", "(Ljava/lang/Object;)Z"⟩ : MethodName) jdk_42_method_66_code 3 (some .boolean) :: ws) ({ frames := 0, cells := 0, slots := 0, locals := 0 } : Room)) (fun zz UU => zz = #[(.ref a), (.ref a)] ∧ Z.Warmed39 UU.vm ∧ UU.heap = h0) (fun _ _ _ _ _ => True) (fun _ U o U' => ∃ v L, o = .returned v ∧ Q_seq_same Z a h0 n0 v U'.heap L ∧ FrameEnd U o U' L ({ frames := 0, cells := 0, slots := 0, locals := 0 } : Room).cells ({ frames := 0, cells := 0, slots := 0, locals := 0 } : Room).slots) := by
  refine MetFree.of_bodySF (plainFor_of_name pn_11) hisR ?_
  intro p e s m args below meth c s₁ Bd hml0 hP hK
  obtain ⟨rfl, hZ, hh⟩ := hP
  have hx := Bd.exec
  have hby := Bd.bytes
  have hml : c.maxLocals = 3 := hml0
  have hown : s.vm.findClass "java/lang/String" = some m.cls := findClass_of_methodNamed Bd.named
  have hnm := (name_of_methodNamed Bd.named Bd.method).1
  have hlk : meth.locks = false := BodyLoose.notSynchronized Bd
  have X0 : Stand p l e ({ frames := 0, cells := 0, slots := 0, locals := 0 } : Room) s m #[(.ref a), (.ref a)] below meth c s₁ [] 0 0 := Stand.of_body Bd
  have e0 : s₁.heap = h0 := by rw [← hh, Bd.state]; rfl
  have N0 := Fr.nil n0
  show own_Go p.tables e below (Q_seq_same Z a h0 n0) s ({ frames := 0, cells := 0, slots := 0, locals := 0 } : Room).cells ({ frames := 0, cells := 0, slots := 0, locals := 0 } : Room).slots s₁ (entryFrame m #[(.ref a), (.ref a)] 3)
  rw [ef_seq_same m a]
  refine own_by (T' := s₁) (g' := (mkF m 1 #[.val (.ref a), .val (.ref a), .unset] [(.ref a)])) (fun _ k => XS.aloadN X0.here hx rfl (hb hby d11_0) rfl rfl k) ?_
  refine own_by (T' := s₁) (g' := (mkF m 2 #[.val (.ref a), .val (.ref a), .unset] [(.ref a), (.ref a)])) (fun _ k => XS.aloadN X0.here hx rfl (hb hby d11_1) rfl rfl k) ?_
  refine own_by (T' := s₁) (g' := (mkF m 5 #[.val (.ref a), .val (.ref a), .unset] [])) (fun _ k => Jvm.RoadKit.acmp (g := (mkF m 2 #[.val (.ref a), .val (.ref a), .unset] [(.ref a), (.ref a)])) X0 hx rfl rfl rfl (pc0 := 2) (pc' := 5) (same := true) rfl (hb hby d11_2) rfl (decide_eq_true rfl) (by decide) (by decide) k) ?_
  refine own_by (T' := s₁) (g' := (mkF m 6 #[.val (.ref a), .val (.ref a), .unset] [(.int (1 : Int32))])) (fun _ k => XS.iconst X0.here hx rfl (hb hby d11_5) k) ?_
  refine own_ret X0 hlk (v := some (.int (1 : Int32))) (fun h => by rw [Bd.returns] at h; cases h) (fun fs hr => retN X0 hx (t := .boolean) Bd.returns (by simp) (hb hby d11_6) hr) ?_ (by decide) (by decide)
  rw [e0]
  exact ⟨rfl, N0, rfl⟩
theorem d10_0 : decode prog_22_method_2_code 0 = .ok (.aload_n 0, 1) := by decide +kernel
theorem d10_1 : decode prog_22_method_2_code 1 = .ok (.getfield 24, 3) := by decide +kernel
theorem d10_4 : decode prog_22_method_2_code 4 = .ok (.ldc 38, 2) := by decide +kernel
theorem d10_6 : decode prog_22_method_2_code 6 = .ok (.invokevirtual 40, 3) := by decide +kernel
theorem d10_9 : decode prog_22_method_2_code 9 = .ok (.ifCond .eq 8, 3) := by decide +kernel
theorem d10_17 : decode prog_22_method_2_code 17 = .ok (.aload_n 0, 1) := by decide +kernel
theorem d10_18 : decode prog_22_method_2_code 18 = .ok (.getfield 24, 3) := by decide +kernel
theorem d10_21 : decode prog_22_method_2_code 21 = .ok (.areturn, 1) := by decide +kernel
theorem pn_10 : plainName "com/example/shelfgraph/shelfgraph/ingest/RecordPosition" = true := by first | (simp [plainName, overriddenIn]; done) | decide +kernel
theorem ef_inm_0 (m : MethodId) (a : Addr) : entryFrame m #[(.ref a)] 1 = mkF m 0 #[.val (.ref a)] [] := by first | (simp [entryFrame, mkF, argsToLocals, Value.category]; done) | rfl
def V_inm_0 (Z : State) (a : Addr) (s1 : Addr) (t1 : Addr) (k1 : ClassId) (cs : Int32) (h0 : Heap) (vm : Vm) : Prop := True
def Q_inm_0 (Z : State) (a : Addr) (s1 : Addr) (t1 : Addr) (k1 : ClassId) (cs : Int32) (h0 : Heap) (n0 : Nat) (v : Option Value) (h : Heap) (L : List Loc) : Prop := v = some (.ref s1) ∧ Fr n0 L ∧ Keep h0 h []
set_option maxRecDepth 65536 in
set_option maxHeartbeats 40000000 in
theorem inm_0 (l : Launch) (Z : State) (a0 : Array Value) (hw : ∀ d ∈ tables_1, d.before a0 Z = true) (ws : List Jvm.Cond) (a : Addr) (s1 : Addr) (t1 : Addr) (k1 : ClassId) (cs : Int32) (h0 : Heap) (n0 : Nat) (Z0 : n0 ≤ h0.size) (F_input_a : Fld Z h0 a "com/example/shelfgraph/shelfgraph/ingest/RecordPosition" "input" "Ljava/lang/String;" (.ref s1)) (E_s1 : Exa Z h0 s1 "java/lang/String") (F_coder_s1 : Fld Z h0 s1 "java/lang/String" "coder" "B" (.int (0 : Int32))) (F_value_s1 : Fld Z h0 s1 "java/lang/String" "value" "[B" (.ref t1)) (V_t1 : Arv Z h0 t1 k1 .byte (0 : Int32) [] (.int (0 : Int32))) (S_CS : Sta Z h0 "java/lang/String" "COMPACT_STRINGS" "Z" (.int cs)) (hcs : ¬ cs = (0 : Int32)) :
    MetFree l (⟨"com/example/shelfgraph/shelfgraph/ingest/RecordPosition", "inputName", "()Ljava/lang/String;"⟩ : MethodName) (head1 (Jvm.Cond.code (⟨"com/example/shelfgraph/shelfgraph/ingest/RecordPosition", "inputName", "()Ljava/lang/String;"⟩ : MethodName) prog_22_method_2_code 1 (some (.object "java/lang/String")) :: ws) ({ frames := 2, cells := 2, slots := 8, locals := 28 } : Room)) (fun zz UU => zz = #[(.ref a)] ∧ Z.Warmed39 UU.vm ∧ UU.heap = h0 ∧ CHv Z consts_1 UU.vm h0 ∧ V_inm_0 Z a s1 t1 k1 cs h0 UU.vm) (fun _ _ _ _ _ => True) (fun _ U o U' => ∃ v L, o = .returned v ∧ Q_inm_0 Z a s1 t1 k1 cs h0 n0 v U'.heap L ∧ CHr Z consts_1 U.vm U.heap U'.vm U'.heap ∧ ReturnedEndW U o U' L ({ frames := 2, cells := 2, slots := 8, locals := 28 } : Room).cells ({ frames := 2, cells := 2, slots := 8, locals := 28 } : Room).slots) := by
  refine MetFree.of_bodySF (plainFor_of_name pn_10) hisR ?_
  intro p e s m args below meth c s₁ Bd hml0 hP hK
  obtain ⟨rfl, hZ, hh, hH, hV⟩ := hP
  have hx := Bd.exec
  have hby := Bd.bytes
  have hml : c.maxLocals = 1 := hml0
  have hown : s.vm.findClass "com/example/shelfgraph/shelfgraph/ingest/RecordPosition" = some m.cls := findClass_of_methodNamed Bd.named
  have hnm := (name_of_methodNamed Bd.named Bd.method).1
  have hlk : meth.locks = false := BodyLoose.notSynchronized Bd
  have X0 : Stand p l e ({ frames := 2, cells := 2, slots := 8, locals := 28 } : Room) (s.setVm s.vm) m #[(.ref a)] below meth c s₁ [] 0 0 := Stand.of_body Bd
  have e0 : s₁.heap = h0 := by rw [← hh, Bd.state]; rfl
  have N0 := Fr.nil n0
  show own_GoW p.tables e below Z consts_1 (Q_inm_0 Z a s1 t1 k1 cs h0 n0) s ({ frames := 2, cells := 2, slots := 8, locals := 28 } : Room).cells ({ frames := 2, cells := 2, slots := 8, locals := 28 } : Room).slots s₁ (entryFrame m #[(.ref a)] 1)
  rw [ef_inm_0 m a]
  have hS0 : s.Since s.vm s.heap.size := (State.WarmedH.refl s).since _
  have hk0 : s.heap.size ≤ h0.size := Nat.le_of_eq (congrArg Array.size hh)
  have C0 : CHr Z consts_1 s.vm s.heap s.vm h0 := by rw [hh]; exact CHr.refl hH
  have hEL : EW Z a0 consts_1 := own_EL hw
  have hwS : ∀ d ∈ Bundle.stringAtoms, d.before a0 Z = true := fun d hd => hw d (own_SA d hd)
  refine own_byW (T' := s₁) (g' := (mkF m 1 #[.val (.ref a)] [(.ref a)])) (fun _ k => XS.aloadN X0.here hx rfl (hb hby d10_0) rfl rfl k) ?_
  obtain ⟨T21, X21, e21, st21⟩ := getF X0 hx hZ hown (host := "") (Or.inl (hw _ (List.mem_of_getElem? (i := 51) rfl))) Via.refl e0 F_input_a (g := (mkF m 1 #[.val (.ref a)] [(.ref a)])) rfl rfl (hb hby d10_1)
  refine own_byW (T' := T21) (g' := (mkF m 4 #[.val (.ref a)] [(.ref s1)])) (fun _ k => st21 _ k) ?_
  obtain ⟨a22, T22, h22, k22, b22, kb22, X22, e22, E22, hS22, hk22, hZ22, hown22, Ex22, Fc22, Fv22, V22, la22, lb22, Cq22, Lt22, D22, st22⟩ := ldcCH (s := s) (EL := consts_1) X21 hx hZ hown (hw _ (List.mem_of_getElem? (i := 62) rfl)) hwS e21 hS0 hk0 hEL (List.mem_of_getElem? (i := 1) rfl) C0.1 (vs := [(.int (45 : Int32))]) (z := (1 : Int32)) ⟨by decide, by decide⟩ (by decide) (by decide) (g := (mkF m 4 #[.val (.ref a)] [(.ref s1)])) rfl (hb hby d10_4) (n := 4) (by decide) (by decide) (by decide) (by decide)
  have C22 : CHr Z consts_1 s.vm s.heap T22.vm h22 := CHr.trans C0 Cq22
  have K22 : Keep h0 h22 [] := Keep.ext (Keep.refl h0 []) E22
  refine own_byW (T' := T22) (g' := (mkF m 6 #[.val (.ref a)] [(.ref a22), (.ref s1)])) (fun _ k => st22 _ k) ?_
  obtain ⟨cq23, kq23, q23a, q23b, q23c⟩ := isOf hZ22 e22 (Exa.ext E22 E_s1)
  obtain ⟨_, _, ⟨T23, L23, k23, n23⟩, -, X23, ⟨Lc23, hQ23, l23, y23, z23⟩, st23⟩ := X22.virtualBack hx (y := (⟨"java/lang/String", "equals", "(Ljava/lang/Object;)Z"⟩ : MethodName)) (z := (⟨"java/lang/String", "equals", "(Ljava/lang/Object;)Z"⟩ : MethodName)) hown22 (mvT hZ22 (hw _ (List.mem_of_getElem? (i := 63) rfl))) (mvT hZ22 (hw _ (List.mem_of_getElem? (i := 64) rfl))) (notFace_of_selects (args := #[]) (mvT hZ22 (hw _ (List.mem_of_getElem? (i := 66) rfl)))) (mvT hZ22 (hw _ (List.mem_of_getElem? (i := 66) rfl))) (mvT hZ22 (hw _ (List.mem_of_getElem? (i := 65) rfl))) (by decide) (backOf (W := 0) (seq_0_1 l Z a0 hw [] s1 a22 t1 b22 k1 kb22 cs (45 : Int32) h22 n0 (Nat.le_trans Z0 E22.1) Ex22 (Fld.ext E22 F_coder_s1) Fc22 (Fld.ext E22 F_value_s1) Fv22 (Arv.ext V_t1 E22) V22 (Sta.ext E22 S_CS) hcs (Fld.ne (Fld.ext E22 F_value_s1) Fv22 (fun q => arv_ne (Arv.ext V_t1 E22) V22 (Or.inl (by decide)) (Value.ref.inj q)))) hZ22 (hw _ (List.mem_of_getElem? (i := 67) rfl)) (hw _ (List.mem_of_getElem? (i := 9) rfl)) (by decide) (by decide)) q23a q23c (g := (mkF m 6 #[.val (.ref a)] [(.ref a22), (.ref s1)])) rfl (by rw [hml]; rfl) (Steps.refl _) (argsL := [(.ref a22)]) (rest := []) (lenOf pd_8 rfl) rfl (by show 2 * 0 + _ ≤ _; exact Nat.le_of_eq rfl) (hb hby d10_6) (fun _ _ => ⟨rfl, e22, (by decide : (0 + 2) + 0 ≤ _), (by decide : (0 + (4 + 4)) + 0 ≤ _)⟩)
  dsimp only [Pt.U, Pt.locs, Pt.cells, Pt.slots] at X23 l23 y23 z23 st23 hQ23
  subst l23 y23 z23
  obtain ⟨rfl, N23q, e23⟩ := hQ23
  have N23 := Fr.app N0 N23q
  refine own_byW (T' := T23) (g' := (mkF m 9 #[.val (.ref a)] [(.int (0 : Int32))])) (fun _ k => st23.trans k) ?_
  refine own_byW (T' := T23) (g' := (mkF m 17 #[.val (.ref a)] [])) (fun _ k => XS.ifYes X23.here hx rfl (pc0 := 9) (pc' := 17) rfl (hb hby d10_9) rfl ((if0 _ _).trans (teq (by decide)).1) (by decide) (by decide) k) ?_
  refine own_byW (T' := T23) (g' := (mkF m 18 #[.val (.ref a)] [(.ref a)])) (fun _ k => XS.aloadN X23.here hx rfl (hb hby d10_17) rfl rfl k) ?_
  obtain ⟨T24, X24, e24, st24⟩ := getF X23 hx hZ22 hown22 (host := "") (Or.inl (hw _ (List.mem_of_getElem? (i := 51) rfl))) Via.refl e23 (Fld.ext E22 F_input_a) (g := (mkF m 18 #[.val (.ref a)] [(.ref a)])) rfl rfl (hb hby d10_18)
  refine own_byW (T' := T24) (g' := (mkF m 21 #[.val (.ref a)] [(.ref s1)])) (fun _ k => st24 _ k) ?_
  refine own_retW (s := s) X24 hlk hS22 (by rw [e24]; exact hk22) hZ22 hEL C22 e24 (v := some (.ref s1)) (fun h => by rw [Bd.returns] at h; cases h) (fun fs hr => retOut X24 hx Bd.returns rfl (Or.inr (Or.inr (Or.inr (Or.inr ⟨rfl, rfl, rfl⟩)))) (hb hby d10_21) hr) ?_ (by decide) (by decide)
  rw [e24]
  exact ⟨rfl, N23, K22⟩
theorem ef_inm_2 (m : MethodId) (a : Addr) : entryFrame m #[(.ref a)] 1 = mkF m 0 #[.val (.ref a)] [] := by first | (simp [entryFrame, mkF, argsToLocals, Value.category]; done) | rfl
def V_inm_2 (Z : State) (a : Addr) (s1 : Addr) (t1 : Addr) (k1 : ClassId) (cs : Int32) (x0 : Int32) (x1 : Int32) (h0 : Heap) (vm : Vm) : Prop := True
def Q_inm_2 (Z : State) (a : Addr) (s1 : Addr) (t1 : Addr) (k1 : ClassId) (cs : Int32) (x0 : Int32) (x1 : Int32) (h0 : Heap) (n0 : Nat) (v : Option Value) (h : Heap) (L : List Loc) : Prop := v = some (.ref s1) ∧ Fr n0 L ∧ Keep h0 h []
set_option maxRecDepth 65536 in
set_option maxHeartbeats 40000000 in
theorem inm_2 (l : Launch) (Z : State) (a0 : Array Value) (hw : ∀ d ∈ tables_1, d.before a0 Z = true) (ws : List Jvm.Cond) (a : Addr) (s1 : Addr) (t1 : Addr) (k1 : ClassId) (cs : Int32) (x0 : Int32) (x1 : Int32) (h0 : Heap) (n0 : Nat) (Z0 : n0 ≤ h0.size) (F_input_a : Fld Z h0 a "com/example/shelfgraph/shelfgraph/ingest/RecordPosition" "input" "Ljava/lang/String;" (.ref s1)) (E_s1 : Exa Z h0 s1 "java/lang/String") (F_coder_s1 : Fld Z h0 s1 "java/lang/String" "coder" "B" (.int (0 : Int32))) (F_value_s1 : Fld Z h0 s1 "java/lang/String" "value" "[B" (.ref t1)) (V_t1 : Arv Z h0 t1 k1 .byte (2 : Int32) [(.int x0), (.int x1)] (.int (0 : Int32))) (S_CS : Sta Z h0 "java/lang/String" "COMPACT_STRINGS" "Z" (.int cs)) (hcs : ¬ cs = (0 : Int32)) :
    MetFree l (⟨"com/example/shelfgraph/shelfgraph/ingest/RecordPosition", "inputName", "()Ljava/lang/String;"⟩ : MethodName) (head1 (Jvm.Cond.code (⟨"com/example/shelfgraph/shelfgraph/ingest/RecordPosition", "inputName", "()Ljava/lang/String;"⟩ : MethodName) prog_22_method_2_code 1 (some (.object "java/lang/String")) :: ws) ({ frames := 2, cells := 2, slots := 8, locals := 28 } : Room)) (fun zz UU => zz = #[(.ref a)] ∧ Z.Warmed39 UU.vm ∧ UU.heap = h0 ∧ CHv Z consts_1 UU.vm h0 ∧ V_inm_2 Z a s1 t1 k1 cs x0 x1 h0 UU.vm) (fun _ _ _ _ _ => True) (fun _ U o U' => ∃ v L, o = .returned v ∧ Q_inm_2 Z a s1 t1 k1 cs x0 x1 h0 n0 v U'.heap L ∧ CHr Z consts_1 U.vm U.heap U'.vm U'.heap ∧ ReturnedEndW U o U' L ({ frames := 2, cells := 2, slots := 8, locals := 28 } : Room).cells ({ frames := 2, cells := 2, slots := 8, locals := 28 } : Room).slots) := by
  refine MetFree.of_bodySF (plainFor_of_name pn_10) hisR ?_
  intro p e s m args below meth c s₁ Bd hml0 hP hK
  obtain ⟨rfl, hZ, hh, hH, hV⟩ := hP
  have hx := Bd.exec
  have hby := Bd.bytes
  have hml : c.maxLocals = 1 := hml0
  have hown : s.vm.findClass "com/example/shelfgraph/shelfgraph/ingest/RecordPosition" = some m.cls := findClass_of_methodNamed Bd.named
  have hnm := (name_of_methodNamed Bd.named Bd.method).1
  have hlk : meth.locks = false := BodyLoose.notSynchronized Bd
  have X0 : Stand p l e ({ frames := 2, cells := 2, slots := 8, locals := 28 } : Room) (s.setVm s.vm) m #[(.ref a)] below meth c s₁ [] 0 0 := Stand.of_body Bd
  have e0 : s₁.heap = h0 := by rw [← hh, Bd.state]; rfl
  have N0 := Fr.nil n0
  show own_GoW p.tables e below Z consts_1 (Q_inm_2 Z a s1 t1 k1 cs x0 x1 h0 n0) s ({ frames := 2, cells := 2, slots := 8, locals := 28 } : Room).cells ({ frames := 2, cells := 2, slots := 8, locals := 28 } : Room).slots s₁ (entryFrame m #[(.ref a)] 1)
  rw [ef_inm_2 m a]
  have hS0 : s.Since s.vm s.heap.size := (State.WarmedH.refl s).since _
  have hk0 : s.heap.size ≤ h0.size := Nat.le_of_eq (congrArg Array.size hh)
  have C0 : CHr Z consts_1 s.vm s.heap s.vm h0 := by rw [hh]; exact CHr.refl hH
  have hEL : EW Z a0 consts_1 := own_EL hw
  have hwS : ∀ d ∈ Bundle.stringAtoms, d.before a0 Z = true := fun d hd => hw d (own_SA d hd)
  refine own_byW (T' := s₁) (g' := (mkF m 1 #[.val (.ref a)] [(.ref a)])) (fun _ k => XS.aloadN X0.here hx rfl (hb hby d10_0) rfl rfl k) ?_
  obtain ⟨T21, X21, e21, st21⟩ := getF X0 hx hZ hown (host := "") (Or.inl (hw _ (List.mem_of_getElem? (i := 51) rfl))) Via.refl e0 F_input_a (g := (mkF m 1 #[.val (.ref a)] [(.ref a)])) rfl rfl (hb hby d10_1)
  refine own_byW (T' := T21) (g' := (mkF m 4 #[.val (.ref a)] [(.ref s1)])) (fun _ k => st21 _ k) ?_
  obtain ⟨a22, T22, h22, k22, b22, kb22, X22, e22, E22, hS22, hk22, hZ22, hown22, Ex22, Fc22, Fv22, V22, la22, lb22, Cq22, Lt22, D22, st22⟩ := ldcCH (s := s) (EL := consts_1) X21 hx hZ hown (hw _ (List.mem_of_getElem? (i := 62) rfl)) hwS e21 hS0 hk0 hEL (List.mem_of_getElem? (i := 1) rfl) C0.1 (vs := [(.int (45 : Int32))]) (z := (1 : Int32)) ⟨by decide, by decide⟩ (by decide) (by decide) (g := (mkF m 4 #[.val (.ref a)] [(.ref s1)])) rfl (hb hby d10_4) (n := 4) (by decide) (by decide) (by decide) (by decide)
  have C22 : CHr Z consts_1 s.vm s.heap T22.vm h22 := CHr.trans C0 Cq22
  have K22 : Keep h0 h22 [] := Keep.ext (Keep.refl h0 []) E22
  refine own_byW (T' := T22) (g' := (mkF m 6 #[.val (.ref a)] [(.ref a22), (.ref s1)])) (fun _ k => st22 _ k) ?_
  obtain ⟨cq23, kq23, q23a, q23b, q23c⟩ := isOf hZ22 e22 (Exa.ext E22 E_s1)
  obtain ⟨_, _, ⟨T23, L23, k23, n23⟩, -, X23, ⟨Lc23, hQ23, l23, y23, z23⟩, st23⟩ := X22.virtualBack hx (y := (⟨"java/lang/String", "equals", "(Ljava/lang/Object;)Z"⟩ : MethodName)) (z := (⟨"java/lang/String", "equals", "(Ljava/lang/Object;)Z"⟩ : MethodName)) hown22 (mvT hZ22 (hw _ (List.mem_of_getElem? (i := 63) rfl))) (mvT hZ22 (hw _ (List.mem_of_getElem? (i := 64) rfl))) (notFace_of_selects (args := #[]) (mvT hZ22 (hw _ (List.mem_of_getElem? (i := 66) rfl)))) (mvT hZ22 (hw _ (List.mem_of_getElem? (i := 66) rfl))) (mvT hZ22 (hw _ (List.mem_of_getElem? (i := 65) rfl))) (by decide) (backOf (W := 0) (seq_2_1 l Z a0 hw [] s1 a22 t1 b22 k1 kb22 cs x0 x1 (45 : Int32) h22 n0 (Nat.le_trans Z0 E22.1) Ex22 (Fld.ext E22 F_coder_s1) Fc22 (Fld.ext E22 F_value_s1) Fv22 (Arv.ext V_t1 E22) V22 (Sta.ext E22 S_CS) hcs (Fld.ne (Fld.ext E22 F_value_s1) Fv22 (fun q => arv_ne (Arv.ext V_t1 E22) V22 (Or.inl (by decide)) (Value.ref.inj q)))) hZ22 (hw _ (List.mem_of_getElem? (i := 67) rfl)) (hw _ (List.mem_of_getElem? (i := 9) rfl)) (by decide) (by decide)) q23a q23c (g := (mkF m 6 #[.val (.ref a)] [(.ref a22), (.ref s1)])) rfl (by rw [hml]; rfl) (Steps.refl _) (argsL := [(.ref a22)]) (rest := []) (lenOf pd_8 rfl) rfl (by show 2 * 0 + _ ≤ _; exact Nat.le_of_eq rfl) (hb hby d10_6) (fun _ _ => ⟨rfl, e22, (by decide : (0 + 2) + 0 ≤ _), (by decide : (0 + (4 + 4)) + 0 ≤ _)⟩)
  dsimp only [Pt.U, Pt.locs, Pt.cells, Pt.slots] at X23 l23 y23 z23 st23 hQ23
  subst l23 y23 z23
  obtain ⟨rfl, N23q, e23⟩ := hQ23
  have N23 := Fr.app N0 N23q
  refine own_byW (T' := T23) (g' := (mkF m 9 #[.val (.ref a)] [(.int (0 : Int32))])) (fun _ k => st23.trans k) ?_
  refine own_byW (T' := T23) (g' := (mkF m 17 #[.val (.ref a)] [])) (fun _ k => XS.ifYes X23.here hx rfl (pc0 := 9) (pc' := 17) rfl (hb hby d10_9) rfl ((if0 _ _).trans (teq (by decide)).1) (by decide) (by decide) k) ?_
  refine own_byW (T' := T23) (g' := (mkF m 18 #[.val (.ref a)] [(.ref a)])) (fun _ k => XS.aloadN X23.here hx rfl (hb hby d10_17) rfl rfl k) ?_
  obtain ⟨T24, X24, e24, st24⟩ := getF X23 hx hZ22 hown22 (host := "") (Or.inl (hw _ (List.mem_of_getElem? (i := 51) rfl))) Via.refl e23 (Fld.ext E22 F_input_a) (g := (mkF m 18 #[.val (.ref a)] [(.ref a)])) rfl rfl (hb hby d10_18)
  refine own_byW (T' := T24) (g' := (mkF m 21 #[.val (.ref a)] [(.ref s1)])) (fun _ k => st24 _ k) ?_
  refine own_retW (s := s) X24 hlk hS22 (by rw [e24]; exact hk22) hZ22 hEL C22 e24 (v := some (.ref s1)) (fun h => by rw [Bd.returns] at h; cases h) (fun fs hr => retOut X24 hx Bd.returns rfl (Or.inr (Or.inr (Or.inr (Or.inr ⟨rfl, rfl, rfl⟩)))) (hb hby d10_21) hr) ?_ (by decide) (by decide)
  rw [e24]
  exact ⟨rfl, N23, K22⟩
theorem ef_inm_3 (m : MethodId) (a : Addr) : entryFrame m #[(.ref a)] 1 = mkF m 0 #[.val (.ref a)] [] := by first | (simp [entryFrame, mkF, argsToLocals, Value.category]; done) | rfl
def V_inm_3 (Z : State) (a : Addr) (s1 : Addr) (t1 : Addr) (k1 : ClassId) (cs : Int32) (x0 : Int32) (x1 : Int32) (x2 : Int32) (h0 : Heap) (vm : Vm) : Prop := True
def Q_inm_3 (Z : State) (a : Addr) (s1 : Addr) (t1 : Addr) (k1 : ClassId) (cs : Int32) (x0 : Int32) (x1 : Int32) (x2 : Int32) (h0 : Heap) (n0 : Nat) (v : Option Value) (h : Heap) (L : List Loc) : Prop := v = some (.ref s1) ∧ Fr n0 L ∧ Keep h0 h []
set_option maxRecDepth 65536 in
set_option maxHeartbeats 40000000 in
theorem inm_3 (l : Launch) (Z : State) (a0 : Array Value) (hw : ∀ d ∈ tables_1, d.before a0 Z = true) (ws : List Jvm.Cond) (a : Addr) (s1 : Addr) (t1 : Addr) (k1 : ClassId) (cs : Int32) (x0 : Int32) (x1 : Int32) (x2 : Int32) (h0 : Heap) (n0 : Nat) (Z0 : n0 ≤ h0.size) (F_input_a : Fld Z h0 a "com/example/shelfgraph/shelfgraph/ingest/RecordPosition" "input" "Ljava/lang/String;" (.ref s1)) (E_s1 : Exa Z h0 s1 "java/lang/String") (F_coder_s1 : Fld Z h0 s1 "java/lang/String" "coder" "B" (.int (0 : Int32))) (F_value_s1 : Fld Z h0 s1 "java/lang/String" "value" "[B" (.ref t1)) (V_t1 : Arv Z h0 t1 k1 .byte (3 : Int32) [(.int x0), (.int x1), (.int x2)] (.int (0 : Int32))) (S_CS : Sta Z h0 "java/lang/String" "COMPACT_STRINGS" "Z" (.int cs)) (hcs : ¬ cs = (0 : Int32)) :
    MetFree l (⟨"com/example/shelfgraph/shelfgraph/ingest/RecordPosition", "inputName", "()Ljava/lang/String;"⟩ : MethodName) (head1 (Jvm.Cond.code (⟨"com/example/shelfgraph/shelfgraph/ingest/RecordPosition", "inputName", "()Ljava/lang/String;"⟩ : MethodName) prog_22_method_2_code 1 (some (.object "java/lang/String")) :: ws) ({ frames := 2, cells := 2, slots := 8, locals := 28 } : Room)) (fun zz UU => zz = #[(.ref a)] ∧ Z.Warmed39 UU.vm ∧ UU.heap = h0 ∧ CHv Z consts_1 UU.vm h0 ∧ V_inm_3 Z a s1 t1 k1 cs x0 x1 x2 h0 UU.vm) (fun _ _ _ _ _ => True) (fun _ U o U' => ∃ v L, o = .returned v ∧ Q_inm_3 Z a s1 t1 k1 cs x0 x1 x2 h0 n0 v U'.heap L ∧ CHr Z consts_1 U.vm U.heap U'.vm U'.heap ∧ ReturnedEndW U o U' L ({ frames := 2, cells := 2, slots := 8, locals := 28 } : Room).cells ({ frames := 2, cells := 2, slots := 8, locals := 28 } : Room).slots) := by
  refine MetFree.of_bodySF (plainFor_of_name pn_10) hisR ?_
  intro p e s m args below meth c s₁ Bd hml0 hP hK
  obtain ⟨rfl, hZ, hh, hH, hV⟩ := hP
  have hx := Bd.exec
  have hby := Bd.bytes
  have hml : c.maxLocals = 1 := hml0
  have hown : s.vm.findClass "com/example/shelfgraph/shelfgraph/ingest/RecordPosition" = some m.cls := findClass_of_methodNamed Bd.named
  have hnm := (name_of_methodNamed Bd.named Bd.method).1
  have hlk : meth.locks = false := BodyLoose.notSynchronized Bd
  have X0 : Stand p l e ({ frames := 2, cells := 2, slots := 8, locals := 28 } : Room) (s.setVm s.vm) m #[(.ref a)] below meth c s₁ [] 0 0 := Stand.of_body Bd
  have e0 : s₁.heap = h0 := by rw [← hh, Bd.state]; rfl
  have N0 := Fr.nil n0
  show own_GoW p.tables e below Z consts_1 (Q_inm_3 Z a s1 t1 k1 cs x0 x1 x2 h0 n0) s ({ frames := 2, cells := 2, slots := 8, locals := 28 } : Room).cells ({ frames := 2, cells := 2, slots := 8, locals := 28 } : Room).slots s₁ (entryFrame m #[(.ref a)] 1)
  rw [ef_inm_3 m a]
  have hS0 : s.Since s.vm s.heap.size := (State.WarmedH.refl s).since _
  have hk0 : s.heap.size ≤ h0.size := Nat.le_of_eq (congrArg Array.size hh)
  have C0 : CHr Z consts_1 s.vm s.heap s.vm h0 := by rw [hh]; exact CHr.refl hH
  have hEL : EW Z a0 consts_1 := own_EL hw
  have hwS : ∀ d ∈ Bundle.stringAtoms, d.before a0 Z = true := fun d hd => hw d (own_SA d hd)
  refine own_byW (T' := s₁) (g' := (mkF m 1 #[.val (.ref a)] [(.ref a)])) (fun _ k => XS.aloadN X0.here hx rfl (hb hby d10_0) rfl rfl k) ?_
  obtain ⟨T21, X21, e21, st21⟩ := getF X0 hx hZ hown (host := "") (Or.inl (hw _ (List.mem_of_getElem? (i := 51) rfl))) Via.refl e0 F_input_a (g := (mkF m 1 #[.val (.ref a)] [(.ref a)])) rfl rfl (hb hby d10_1)
  refine own_byW (T' := T21) (g' := (mkF m 4 #[.val (.ref a)] [(.ref s1)])) (fun _ k => st21 _ k) ?_
  obtain ⟨a22, T22, h22, k22, b22, kb22, X22, e22, E22, hS22, hk22, hZ22, hown22, Ex22, Fc22, Fv22, V22, la22, lb22, Cq22, Lt22, D22, st22⟩ := ldcCH (s := s) (EL := consts_1) X21 hx hZ hown (hw _ (List.mem_of_getElem? (i := 62) rfl)) hwS e21 hS0 hk0 hEL (List.mem_of_getElem? (i := 1) rfl) C0.1 (vs := [(.int (45 : Int32))]) (z := (1 : Int32)) ⟨by decide, by decide⟩ (by decide) (by decide) (g := (mkF m 4 #[.val (.ref a)] [(.ref s1)])) rfl (hb hby d10_4) (n := 4) (by decide) (by decide) (by decide) (by decide)
  have C22 : CHr Z consts_1 s.vm s.heap T22.vm h22 := CHr.trans C0 Cq22
  have K22 : Keep h0 h22 [] := Keep.ext (Keep.refl h0 []) E22
  refine own_byW (T' := T22) (g' := (mkF m 6 #[.val (.ref a)] [(.ref a22), (.ref s1)])) (fun _ k => st22 _ k) ?_
  obtain ⟨cq23, kq23, q23a, q23b, q23c⟩ := isOf hZ22 e22 (Exa.ext E22 E_s1)
  obtain ⟨_, _, ⟨T23, L23, k23, n23⟩, -, X23, ⟨Lc23, hQ23, l23, y23, z23⟩, st23⟩ := X22.virtualBack hx (y := (⟨"java/lang/String", "equals", "(Ljava/lang/Object;)Z"⟩ : MethodName)) (z := (⟨"java/lang/String", "equals", "(Ljava/lang/Object;)Z"⟩ : MethodName)) hown22 (mvT hZ22 (hw _ (List.mem_of_getElem? (i := 63) rfl))) (mvT hZ22 (hw _ (List.mem_of_getElem? (i := 64) rfl))) (notFace_of_selects (args := #[]) (mvT hZ22 (hw _ (List.mem_of_getElem? (i := 66) rfl)))) (mvT hZ22 (hw _ (List.mem_of_getElem? (i := 66) rfl))) (mvT hZ22 (hw _ (List.mem_of_getElem? (i := 65) rfl))) (by decide) (backOf (W := 0) (seq_3_1 l Z a0 hw [] s1 a22 t1 b22 k1 kb22 cs x0 x1 x2 (45 : Int32) h22 n0 (Nat.le_trans Z0 E22.1) Ex22 (Fld.ext E22 F_coder_s1) Fc22 (Fld.ext E22 F_value_s1) Fv22 (Arv.ext V_t1 E22) V22 (Sta.ext E22 S_CS) hcs (Fld.ne (Fld.ext E22 F_value_s1) Fv22 (fun q => arv_ne (Arv.ext V_t1 E22) V22 (Or.inl (by decide)) (Value.ref.inj q)))) hZ22 (hw _ (List.mem_of_getElem? (i := 67) rfl)) (hw _ (List.mem_of_getElem? (i := 9) rfl)) (by decide) (by decide)) q23a q23c (g := (mkF m 6 #[.val (.ref a)] [(.ref a22), (.ref s1)])) rfl (by rw [hml]; rfl) (Steps.refl _) (argsL := [(.ref a22)]) (rest := []) (lenOf pd_8 rfl) rfl (by show 2 * 0 + _ ≤ _; exact Nat.le_of_eq rfl) (hb hby d10_6) (fun _ _ => ⟨rfl, e22, (by decide : (0 + 2) + 0 ≤ _), (by decide : (0 + (4 + 4)) + 0 ≤ _)⟩)
  dsimp only [Pt.U, Pt.locs, Pt.cells, Pt.slots] at X23 l23 y23 z23 st23 hQ23
  subst l23 y23 z23
  obtain ⟨rfl, N23q, e23⟩ := hQ23
  have N23 := Fr.app N0 N23q
  refine own_byW (T' := T23) (g' := (mkF m 9 #[.val (.ref a)] [(.int (0 : Int32))])) (fun _ k => st23.trans k) ?_
  refine own_byW (T' := T23) (g' := (mkF m 17 #[.val (.ref a)] [])) (fun _ k => XS.ifYes X23.here hx rfl (pc0 := 9) (pc' := 17) rfl (hb hby d10_9) rfl ((if0 _ _).trans (teq (by decide)).1) (by decide) (by decide) k) ?_
  refine own_byW (T' := T23) (g' := (mkF m 18 #[.val (.ref a)] [(.ref a)])) (fun _ k => XS.aloadN X23.here hx rfl (hb hby d10_17) rfl rfl k) ?_
  obtain ⟨T24, X24, e24, st24⟩ := getF X23 hx hZ22 hown22 (host := "") (Or.inl (hw _ (List.mem_of_getElem? (i := 51) rfl))) Via.refl e23 (Fld.ext E22 F_input_a) (g := (mkF m 18 #[.val (.ref a)] [(.ref a)])) rfl rfl (hb hby d10_18)
  refine own_byW (T' := T24) (g' := (mkF m 21 #[.val (.ref a)] [(.ref s1)])) (fun _ k => st24 _ k) ?_
  refine own_retW (s := s) X24 hlk hS22 (by rw [e24]; exact hk22) hZ22 hEL C22 e24 (v := some (.ref s1)) (fun h => by rw [Bd.returns] at h; cases h) (fun fs hr => retOut X24 hx Bd.returns rfl (Or.inr (Or.inr (Or.inr (Or.inr ⟨rfl, rfl, rfl⟩)))) (hb hby d10_21) hr) ?_ (by decide) (by decide)
  rw [e24]
  exact ⟨rfl, N23, K22⟩
theorem ef_inm_ne (m : MethodId) (a : Addr) : entryFrame m #[(.ref a)] 1 = mkF m 0 #[.val (.ref a)] [] := by first | (simp [entryFrame, mkF, argsToLocals, Value.category]; done) | rfl
def V_inm_ne (Z : State) (a : Addr) (s1 : Addr) (t1 : Addr) (k1 : ClassId) (cs : Int32) (x0 : Int32) (h0 : Heap) (vm : Vm) : Prop := True
def Q_inm_ne (Z : State) (a : Addr) (s1 : Addr) (t1 : Addr) (k1 : ClassId) (cs : Int32) (x0 : Int32) (h0 : Heap) (n0 : Nat) (v : Option Value) (h : Heap) (L : List Loc) : Prop := v = some (.ref s1) ∧ Fr n0 L ∧ Keep h0 h []
set_option maxRecDepth 65536 in
set_option maxHeartbeats 40000000 in
theorem inm_ne (l : Launch) (Z : State) (a0 : Array Value) (hw : ∀ d ∈ tables_1, d.before a0 Z = true) (ws : List Jvm.Cond) (a : Addr) (s1 : Addr) (t1 : Addr) (k1 : ClassId) (cs : Int32) (x0 : Int32) (h0 : Heap) (n0 : Nat) (Z0 : n0 ≤ h0.size) (F_input_a : Fld Z h0 a "com/example/shelfgraph/shelfgraph/ingest/RecordPosition" "input" "Ljava/lang/String;" (.ref s1)) (E_s1 : Exa Z h0 s1 "java/lang/String") (F_coder_s1 : Fld Z h0 s1 "java/lang/String" "coder" "B" (.int (0 : Int32))) (F_value_s1 : Fld Z h0 s1 "java/lang/String" "value" "[B" (.ref t1)) (V_t1 : Arv Z h0 t1 k1 .byte (1 : Int32) [(.int x0)] (.int (0 : Int32))) (S_CS : Sta Z h0 "java/lang/String" "COMPACT_STRINGS" "Z" (.int cs)) (hcs : ¬ cs = (0 : Int32)) (h4b : ¬ x0 = (45 : Int32)) :
    MetFree l (⟨"com/example/shelfgraph/shelfgraph/ingest/RecordPosition", "inputName", "()Ljava/lang/String;"⟩ : MethodName) (head1 (Jvm.Cond.code (⟨"com/example/shelfgraph/shelfgraph/ingest/RecordPosition", "inputName", "()Ljava/lang/String;"⟩ : MethodName) prog_22_method_2_code 1 (some (.object "java/lang/String")) :: ws) ({ frames := 2, cells := 2, slots := 8, locals := 28 } : Room)) (fun zz UU => zz = #[(.ref a)] ∧ Z.Warmed39 UU.vm ∧ UU.heap = h0 ∧ CHv Z consts_1 UU.vm h0 ∧ V_inm_ne Z a s1 t1 k1 cs x0 h0 UU.vm) (fun _ _ _ _ _ => True) (fun _ U o U' => ∃ v L, o = .returned v ∧ Q_inm_ne Z a s1 t1 k1 cs x0 h0 n0 v U'.heap L ∧ CHr Z consts_1 U.vm U.heap U'.vm U'.heap ∧ ReturnedEndW U o U' L ({ frames := 2, cells := 2, slots := 8, locals := 28 } : Room).cells ({ frames := 2, cells := 2, slots := 8, locals := 28 } : Room).slots) := by
  refine MetFree.of_bodySF (plainFor_of_name pn_10) hisR ?_
  intro p e s m args below meth c s₁ Bd hml0 hP hK
  obtain ⟨rfl, hZ, hh, hH, hV⟩ := hP
  have hx := Bd.exec
  have hby := Bd.bytes
  have hml : c.maxLocals = 1 := hml0
  have hown : s.vm.findClass "com/example/shelfgraph/shelfgraph/ingest/RecordPosition" = some m.cls := findClass_of_methodNamed Bd.named
  have hnm := (name_of_methodNamed Bd.named Bd.method).1
  have hlk : meth.locks = false := BodyLoose.notSynchronized Bd
  have X0 : Stand p l e ({ frames := 2, cells := 2, slots := 8, locals := 28 } : Room) (s.setVm s.vm) m #[(.ref a)] below meth c s₁ [] 0 0 := Stand.of_body Bd
  have e0 : s₁.heap = h0 := by rw [← hh, Bd.state]; rfl
  have N0 := Fr.nil n0
  show own_GoW p.tables e below Z consts_1 (Q_inm_ne Z a s1 t1 k1 cs x0 h0 n0) s ({ frames := 2, cells := 2, slots := 8, locals := 28 } : Room).cells ({ frames := 2, cells := 2, slots := 8, locals := 28 } : Room).slots s₁ (entryFrame m #[(.ref a)] 1)
  rw [ef_inm_ne m a]
  have hS0 : s.Since s.vm s.heap.size := (State.WarmedH.refl s).since _
  have hk0 : s.heap.size ≤ h0.size := Nat.le_of_eq (congrArg Array.size hh)
  have C0 : CHr Z consts_1 s.vm s.heap s.vm h0 := by rw [hh]; exact CHr.refl hH
  have hEL : EW Z a0 consts_1 := own_EL hw
  have hwS : ∀ d ∈ Bundle.stringAtoms, d.before a0 Z = true := fun d hd => hw d (own_SA d hd)
  refine own_byW (T' := s₁) (g' := (mkF m 1 #[.val (.ref a)] [(.ref a)])) (fun _ k => XS.aloadN X0.here hx rfl (hb hby d10_0) rfl rfl k) ?_
  obtain ⟨T21, X21, e21, st21⟩ := getF X0 hx hZ hown (host := "") (Or.inl (hw _ (List.mem_of_getElem? (i := 51) rfl))) Via.refl e0 F_input_a (g := (mkF m 1 #[.val (.ref a)] [(.ref a)])) rfl rfl (hb hby d10_1)
  refine own_byW (T' := T21) (g' := (mkF m 4 #[.val (.ref a)] [(.ref s1)])) (fun _ k => st21 _ k) ?_
  obtain ⟨a22, T22, h22, k22, b22, kb22, X22, e22, E22, hS22, hk22, hZ22, hown22, Ex22, Fc22, Fv22, V22, la22, lb22, Cq22, Lt22, D22, st22⟩ := ldcCH (s := s) (EL := consts_1) X21 hx hZ hown (hw _ (List.mem_of_getElem? (i := 62) rfl)) hwS e21 hS0 hk0 hEL (List.mem_of_getElem? (i := 1) rfl) C0.1 (vs := [(.int (45 : Int32))]) (z := (1 : Int32)) ⟨by decide, by decide⟩ (by decide) (by decide) (g := (mkF m 4 #[.val (.ref a)] [(.ref s1)])) rfl (hb hby d10_4) (n := 4) (by decide) (by decide) (by decide) (by decide)
  have C22 : CHr Z consts_1 s.vm s.heap T22.vm h22 := CHr.trans C0 Cq22
  have K22 : Keep h0 h22 [] := Keep.ext (Keep.refl h0 []) E22
  refine own_byW (T' := T22) (g' := (mkF m 6 #[.val (.ref a)] [(.ref a22), (.ref s1)])) (fun _ k => st22 _ k) ?_
  obtain ⟨cq23, kq23, q23a, q23b, q23c⟩ := isOf hZ22 e22 (Exa.ext E22 E_s1)
  obtain ⟨_, _, ⟨T23, L23, k23, n23⟩, -, X23, ⟨Lc23, hQ23, l23, y23, z23⟩, st23⟩ := X22.virtualBack hx (y := (⟨"java/lang/String", "equals", "(Ljava/lang/Object;)Z"⟩ : MethodName)) (z := (⟨"java/lang/String", "equals", "(Ljava/lang/Object;)Z"⟩ : MethodName)) hown22 (mvT hZ22 (hw _ (List.mem_of_getElem? (i := 63) rfl))) (mvT hZ22 (hw _ (List.mem_of_getElem? (i := 64) rfl))) (notFace_of_selects (args := #[]) (mvT hZ22 (hw _ (List.mem_of_getElem? (i := 66) rfl)))) (mvT hZ22 (hw _ (List.mem_of_getElem? (i := 66) rfl))) (mvT hZ22 (hw _ (List.mem_of_getElem? (i := 65) rfl))) (by decide) (backOf (W := 0) (seq_1_1 l Z a0 hw [] s1 a22 t1 b22 k1 kb22 cs x0 (45 : Int32) h22 n0 (Nat.le_trans Z0 E22.1) Ex22 (Fld.ext E22 F_coder_s1) Fc22 (Fld.ext E22 F_value_s1) Fv22 (Arv.ext V_t1 E22) V22 (Sta.ext E22 S_CS) hcs (Fld.ne (Fld.ext E22 F_value_s1) Fv22 (fun q => arv_ne (Arv.ext V_t1 E22) V22 (Or.inr ⟨0, by decide, fun q => h4b (Value.int.inj q)⟩) (Value.ref.inj q)))) hZ22 (hw _ (List.mem_of_getElem? (i := 67) rfl)) (hw _ (List.mem_of_getElem? (i := 9) rfl)) (by decide) (by decide)) q23a q23c (g := (mkF m 6 #[.val (.ref a)] [(.ref a22), (.ref s1)])) rfl (by rw [hml]; rfl) (Steps.refl _) (argsL := [(.ref a22)]) (rest := []) (lenOf pd_8 rfl) rfl (by show 2 * 0 + _ ≤ _; exact Nat.le_of_eq rfl) (hb hby d10_6) (fun _ _ => ⟨rfl, e22, (by decide : (0 + 2) + 0 ≤ _), (by decide : (0 + (4 + 4)) + 0 ≤ _)⟩)
  dsimp only [Pt.U, Pt.locs, Pt.cells, Pt.slots] at X23 l23 y23 z23 st23 hQ23
  subst l23 y23 z23
  obtain ⟨rfl, N23q, e23⟩ := hQ23
  have N23 := Fr.app N0 N23q
  refine own_byW (T' := T23) (g' := (mkF m 9 #[.val (.ref a)] [(.int (if (if x0 = (45 : Int32) then (1 : Int32) else (0 : Int32)) = (0 : Int32) then (0 : Int32) else (1 : Int32)))])) (fun _ k => st23.trans k) ?_
  refine own_byW (T' := T23) (g' := (mkF m 17 #[.val (.ref a)] [])) (fun _ k => XS.ifYes X23.here hx rfl (pc0 := 9) (pc' := 17) rfl (hb hby d10_9) rfl ((if0 _ _).trans (teq (by rw [if_neg h4b]; rfl)).1) (by decide) (by decide) k) ?_
  refine own_byW (T' := T23) (g' := (mkF m 18 #[.val (.ref a)] [(.ref a)])) (fun _ k => XS.aloadN X23.here hx rfl (hb hby d10_17) rfl rfl k) ?_
  obtain ⟨T24, X24, e24, st24⟩ := getF X23 hx hZ22 hown22 (host := "") (Or.inl (hw _ (List.mem_of_getElem? (i := 51) rfl))) Via.refl e23 (Fld.ext E22 F_input_a) (g := (mkF m 18 #[.val (.ref a)] [(.ref a)])) rfl rfl (hb hby d10_18)
  refine own_byW (T' := T24) (g' := (mkF m 21 #[.val (.ref a)] [(.ref s1)])) (fun _ k => st24 _ k) ?_
  refine own_retW (s := s) X24 hlk hS22 (by rw [e24]; exact hk22) hZ22 hEL C22 e24 (v := some (.ref s1)) (fun h => by rw [Bd.returns] at h; cases h) (fun fs hr => retOut X24 hx Bd.returns rfl (Or.inr (Or.inr (Or.inr (Or.inr ⟨rfl, rfl, rfl⟩)))) (hb hby d10_21) hr) ?_ (by decide) (by decide)
  rw [e24]
  exact ⟨rfl, N23, K22⟩
theorem d10_12 : decode prog_22_method_2_code 12 = .ok (.ldc 46, 2) := by decide +kernel
theorem d10_14 : decode prog_22_method_2_code 14 = .ok (.goto 7, 3) := by decide +kernel
theorem ef_inm_eq (m : MethodId) (a : Addr) : entryFrame m #[(.ref a)] 1 = mkF m 0 #[.val (.ref a)] [] := by first | (simp [entryFrame, mkF, argsToLocals, Value.category]; done) | rfl
def V_inm_eq (Z : State) (a : Addr) (s1 : Addr) (t1 : Addr) (k1 : ClassId) (cs : Int32) (h0 : Heap) (vm : Vm) : Prop := True
def Q_inm_eq (Z : State) (a : Addr) (s1 : Addr) (t1 : Addr) (k1 : ClassId) (cs : Int32) (h0 : Heap) (n0 : Nat) (v : Option Value) (h : Heap) (L : List Loc) : Prop := ∃ (x t : Addr) (kb : ClassId), v = some (.ref x) ∧ Fr n0 L ∧ Keep h0 h [] ∧ Exa Z h x "java/lang/String" ∧ Fld Z h x "java/lang/String" "coder" "B" (.int (0 : Int32)) ∧ Fld Z h x "java/lang/String" "value" "[B" (.ref t) ∧ Arv Z h t kb .byte (14 : Int32) [(.int (115 : Int32)), (.int (116 : Int32)), (.int (97 : Int32)), (.int (110 : Int32)), (.int (100 : Int32)), (.int (97 : Int32)), (.int (114 : Int32)), (.int (100 : Int32)), (.int (32 : Int32)), (.int (105 : Int32)), (.int (110 : Int32)), (.int (112 : Int32)), (.int (117 : Int32)), (.int (116 : Int32))] (.int (0 : Int32))
set_option maxRecDepth 65536 in
set_option maxHeartbeats 40000000 in
theorem inm_eq (l : Launch) (Z : State) (a0 : Array Value) (hw : ∀ d ∈ tables_1, d.before a0 Z = true) (ws : List Jvm.Cond) (a : Addr) (s1 : Addr) (t1 : Addr) (k1 : ClassId) (cs : Int32) (h0 : Heap) (n0 : Nat) (Z0 : n0 ≤ h0.size) (F_input_a : Fld Z h0 a "com/example/shelfgraph/shelfgraph/ingest/RecordPosition" "input" "Ljava/lang/String;" (.ref s1)) (E_s1 : Exa Z h0 s1 "java/lang/String") (F_coder_s1 : Fld Z h0 s1 "java/lang/String" "coder" "B" (.int (0 : Int32))) (F_value_s1 : Fld Z h0 s1 "java/lang/String" "value" "[B" (.ref t1)) (V_t1 : Arv Z h0 t1 k1 .byte (1 : Int32) [(.int (45 : Int32))] (.int (0 : Int32))) (S_CS : Sta Z h0 "java/lang/String" "COMPACT_STRINGS" "Z" (.int cs)) (hcs : ¬ cs = (0 : Int32)) :
    MetFree l (⟨"com/example/shelfgraph/shelfgraph/ingest/RecordPosition", "inputName", "()Ljava/lang/String;"⟩ : MethodName) (head1 (Jvm.Cond.code (⟨"com/example/shelfgraph/shelfgraph/ingest/RecordPosition", "inputName", "()Ljava/lang/String;"⟩ : MethodName) prog_22_method_2_code 1 (some (.object "java/lang/String")) :: ws) ({ frames := 2, cells := 4, slots := 68, locals := 28 } : Room)) (fun zz UU => zz = #[(.ref a)] ∧ Z.Warmed39 UU.vm ∧ UU.heap = h0 ∧ CHv Z consts_1 UU.vm h0 ∧ V_inm_eq Z a s1 t1 k1 cs h0 UU.vm) (fun _ _ _ _ _ => True) (fun _ U o U' => ∃ v L, o = .returned v ∧ Q_inm_eq Z a s1 t1 k1 cs h0 n0 v U'.heap L ∧ CHr Z consts_1 U.vm U.heap U'.vm U'.heap ∧ ReturnedEndW U o U' L ({ frames := 2, cells := 4, slots := 68, locals := 28 } : Room).cells ({ frames := 2, cells := 4, slots := 68, locals := 28 } : Room).slots) := by
  refine MetFree.of_bodySF (plainFor_of_name pn_10) hisR ?_
  intro p e s m args below meth c s₁ Bd hml0 hP hK
  obtain ⟨rfl, hZ, hh, hH, hV⟩ := hP
  have hx := Bd.exec
  have hby := Bd.bytes
  have hml : c.maxLocals = 1 := hml0
  have hown : s.vm.findClass "com/example/shelfgraph/shelfgraph/ingest/RecordPosition" = some m.cls := findClass_of_methodNamed Bd.named
  have hnm := (name_of_methodNamed Bd.named Bd.method).1
  have hlk : meth.locks = false := BodyLoose.notSynchronized Bd
  have X0 : Stand p l e ({ frames := 2, cells := 4, slots := 68, locals := 28 } : Room) (s.setVm s.vm) m #[(.ref a)] below meth c s₁ [] 0 0 := Stand.of_body Bd
  have e0 : s₁.heap = h0 := by rw [← hh, Bd.state]; rfl
  have N0 := Fr.nil n0
  show own_GoW p.tables e below Z consts_1 (Q_inm_eq Z a s1 t1 k1 cs h0 n0) s ({ frames := 2, cells := 4, slots := 68, locals := 28 } : Room).cells ({ frames := 2, cells := 4, slots := 68, locals := 28 } : Room).slots s₁ (entryFrame m #[(.ref a)] 1)
  rw [ef_inm_eq m a]
  have hS0 : s.Since s.vm s.heap.size := (State.WarmedH.refl s).since _
  have hk0 : s.heap.size ≤ h0.size := Nat.le_of_eq (congrArg Array.size hh)
  have C0 : CHr Z consts_1 s.vm s.heap s.vm h0 := by rw [hh]; exact CHr.refl hH
  have hEL : EW Z a0 consts_1 := own_EL hw
  have hwS : ∀ d ∈ Bundle.stringAtoms, d.before a0 Z = true := fun d hd => hw d (own_SA d hd)
  refine own_byW (T' := s₁) (g' := (mkF m 1 #[.val (.ref a)] [(.ref a)])) (fun _ k => XS.aloadN X0.here hx rfl (hb hby d10_0) rfl rfl k) ?_
  obtain ⟨T21, X21, e21, st21⟩ := getF X0 hx hZ hown (host := "") (Or.inl (hw _ (List.mem_of_getElem? (i := 51) rfl))) Via.refl e0 F_input_a (g := (mkF m 1 #[.val (.ref a)] [(.ref a)])) rfl rfl (hb hby d10_1)
  refine own_byW (T' := T21) (g' := (mkF m 4 #[.val (.ref a)] [(.ref s1)])) (fun _ k => st21 _ k) ?_
  obtain ⟨a22, T22, h22, k22, b22, kb22, X22, e22, E22, hS22, hk22, hZ22, hown22, Ex22, Fc22, Fv22, V22, la22, lb22, Cq22, Lt22, D22, st22⟩ := ldcCH (s := s) (EL := consts_1) X21 hx hZ hown (hw _ (List.mem_of_getElem? (i := 62) rfl)) hwS e21 hS0 hk0 hEL (List.mem_of_getElem? (i := 1) rfl) C0.1 (vs := [(.int (45 : Int32))]) (z := (1 : Int32)) ⟨by decide, by decide⟩ (by decide) (by decide) (g := (mkF m 4 #[.val (.ref a)] [(.ref s1)])) rfl (hb hby d10_4) (n := 4) (by decide) (by decide) (by decide) (by decide)
  have C22 : CHr Z consts_1 s.vm s.heap T22.vm h22 := CHr.trans C0 Cq22
  have K22 : Keep h0 h22 [] := Keep.ext (Keep.refl h0 []) E22
  refine own_byW (T' := T22) (g' := (mkF m 6 #[.val (.ref a)] [(.ref a22), (.ref s1)])) (fun _ k => st22 _ k) ?_
  obtain ⟨cq23, kq23, q23a, q23b, q23c⟩ := isOf hZ22 e22 (Exa.ext E22 E_s1)
  obtain ⟨_, _, ⟨T23, L23, k23, n23⟩, -, X23, ⟨Lc23, hQ23, l23, y23, z23⟩, st23⟩ := X22.virtualBack hx (y := (⟨"java/lang/String", "equals", "(Ljava/lang/Object;)Z"⟩ : MethodName)) (z := (⟨"java/lang/String", "equals", "(Ljava/lang/Object;)Z"⟩ : MethodName)) hown22 (mvT hZ22 (hw _ (List.mem_of_getElem? (i := 63) rfl))) (mvT hZ22 (hw _ (List.mem_of_getElem? (i := 64) rfl))) (notFace_of_selects (args := #[]) (mvT hZ22 (hw _ (List.mem_of_getElem? (i := 66) rfl)))) (mvT hZ22 (hw _ (List.mem_of_getElem? (i := 66) rfl))) (mvT hZ22 (hw _ (List.mem_of_getElem? (i := 65) rfl))) (by decide) (backOf (W := 0) (seq_dash l Z a0 hw [] s1 a22 t1 b22 k1 kb22 cs h22 n0 (Nat.le_trans Z0 E22.1) Ex22 (Fld.ext E22 F_coder_s1) Fc22 (Fld.ext E22 F_value_s1) Fv22 (Arv.ext V_t1 E22) V22 (Sta.ext E22 S_CS) hcs) hZ22 (hw _ (List.mem_of_getElem? (i := 67) rfl)) (hw _ (List.mem_of_getElem? (i := 9) rfl)) (by decide) (by decide)) q23a q23c (g := (mkF m 6 #[.val (.ref a)] [(.ref a22), (.ref s1)])) rfl (by rw [hml]; rfl) (Steps.refl _) (argsL := [(.ref a22)]) (rest := []) (lenOf pd_8 rfl) rfl (by show 2 * 0 + _ ≤ _; exact Nat.le_of_eq rfl) (hb hby d10_6) (fun _ _ => ⟨rfl, e22, (by decide : (0 + 2) + 0 ≤ _), (by decide : (0 + (4 + 4)) + 0 ≤ _)⟩)
  dsimp only [Pt.U, Pt.locs, Pt.cells, Pt.slots] at X23 l23 y23 z23 st23 hQ23
  subst l23 y23 z23
  obtain ⟨rfl, N23q, e23⟩ := hQ23
  have N23 := Fr.app N0 N23q
  refine own_byW (T' := T23) (g' := (mkF m 9 #[.val (.ref a)] [(.int (1 : Int32))])) (fun _ k => st23.trans k) ?_
  refine own_byW (T' := T23) (g' := (mkF m 12 #[.val (.ref a)] [])) (fun _ k => XS.ifNo X23.here hx rfl (hb hby d10_9) rfl ((if0 _ _).trans (feq (by decide)).1) k) ?_
  obtain ⟨a24, T24, h24, k24, b24, kb24, X24, e24, E24, hS24, hk24, hZ24, hown24, Ex24, Fc24, Fv24, V24, la24, lb24, Cq24, Lt24, D24, st24⟩ := ldcCH (s := s) (EL := consts_1) X23 hx hZ22 hown22 (hw _ (List.mem_of_getElem? (i := 85) rfl)) hwS e23 hS22 hk22 hEL (List.mem_of_getElem? (i := 2) rfl) C22.1 (vs := [(.int (115 : Int32)), (.int (116 : Int32)), (.int (97 : Int32)), (.int (110 : Int32)), (.int (100 : Int32)), (.int (97 : Int32)), (.int (114 : Int32)), (.int (100 : Int32)), (.int (32 : Int32)), (.int (105 : Int32)), (.int (110 : Int32)), (.int (112 : Int32)), (.int (117 : Int32)), (.int (116 : Int32))]) (z := (14 : Int32)) ⟨by decide, by decide⟩ (by decide) (by decide) (g := (mkF m 12 #[.val (.ref a)] [])) rfl (hb hby d10_12) (n := 56) (by decide) (by decide) (by decide) (by decide)
  have C24 : CHr Z consts_1 s.vm s.heap T24.vm h24 := CHr.trans C22 Cq24
  have K24 : Keep h0 h24 [] := Keep.ext K22 E24
  refine own_byW (T' := T24) (g' := (mkF m 14 #[.val (.ref a)] [(.ref a24)])) (fun _ k => st24 _ k) ?_
  refine own_byW (T' := T24) (g' := (mkF m 21 #[.val (.ref a)] [(.ref a24)])) (fun _ k => XS.goto X24.here hx rfl (pc0 := 14) (pc' := 21) rfl (hb hby d10_14) (by decide) (by decide) k) ?_
  refine own_retW (s := s) X24 hlk hS24 (by rw [e24]; exact hk24) hZ24 hEL C24 e24 (v := some (.ref a24)) (fun h => by rw [Bd.returns] at h; cases h) (fun fs hr => retOut X24 hx Bd.returns rfl (Or.inr (Or.inr (Or.inr (Or.inr ⟨rfl, rfl, rfl⟩)))) (hb hby d10_21) hr) ?_ (by decide) (by decide)
  rw [e24]
  exact ⟨_, _, _, rfl, N23, K24, Ex24, Fc24, Fv24, V24⟩
theorem pn_0 : plainName "com/example/shelfgraph/shelfgraph/ingest/RecordPositionInputNamePinLaw" = true := by first | (simp [plainName, overriddenIn]; done) | decide +kernel
theorem ef_rm0 (m : MethodId) (k1 : Int32) (a1 : Int32) (b1 : Int32) (c1 : Int32) (p1 : Int64) (q1 : Int64) : entryFrame m #[(.int k1), (.int a1), (.int b1), (.int c1), (.long p1), (.long q1)] maxLocals = mkF m 0 #[.val (.int k1), .val (.int a1), .val (.int b1), .val (.int c1), .val (.long p1), .second, .val (.long q1), .second, .unset, .unset, .unset, .unset, .unset, .unset, .unset, .unset, .unset, .unset, .unset, .unset] [] := by first | (simp [entryFrame, mkF, argsToLocals, Value.category, maxLocals]; done) | rfl
def V_rm0 (Z : State) (k1 : Int32) (a1 : Int32) (b1 : Int32) (c1 : Int32) (p1 : Int64) (q1 : Int64) (cs : Int32) (h0 : Heap) (vm : Vm) : Prop := True
def Q_rm0 (Z : State) (k1 : Int32) (a1 : Int32) (b1 : Int32) (c1 : Int32) (p1 : Int64) (q1 : Int64) (cs : Int32) (h0 : Heap) (n0 : Nat) (v : Option Value) (h : Heap) (L : List Loc) : Prop := v = some (.int 1) ∧ Fr n0 L
set_option maxRecDepth 65536 in
set_option maxHeartbeats 40000000 in
theorem rm0 (l : Launch) (Z : State) (a0 : Array Value) (hw : ∀ d ∈ tables_1, d.before a0 Z = true) (ws : List Jvm.Cond) (k1 : Int32) (a1 : Int32) (b1 : Int32) (c1 : Int32) (p1 : Int64) (q1 : Int64) (cs : Int32) (h0 : Heap) (n0 : Nat) (Z0 : n0 ≤ h0.size) (O0 : Old Z n0 h0) (S_CS : Sta Z Z.heap "java/lang/String" "COMPACT_STRINGS" "Z" (.int cs)) (hcs : ¬ cs = (0 : Int32)) :
    MetFree l x (head1 (Jvm.Cond.code x code maxLocals ret :: ws) room_1) (fun zz UU => zz = #[(.int k1), (.int a1), (.int b1), (.int c1), (.long p1), (.long q1)] ∧ Z.Warmed39 UU.vm ∧ UU.heap = h0 ∧ CHv Z consts_1 UU.vm h0 ∧ V_rm0 Z k1 a1 b1 c1 p1 q1 cs h0 UU.vm) (fun _ _ _ _ _ => True) (fun _ U o U' => ∃ v L, o = .returned v ∧ Q_rm0 Z k1 a1 b1 c1 p1 q1 cs h0 n0 v U'.heap L ∧ CHr Z consts_1 U.vm U.heap U'.vm U'.heap ∧ ReturnedEndW U o U' L 32 5248) := by
  refine MetFree.of_bodySF (plainFor_of_name pn_0) hisR ?_
  intro p e s m args below meth c s₁ Bd hml0 hP hK
  obtain ⟨rfl, hZ, hh, hH, hV⟩ := hP
  have hx := Bd.exec
  have hby := Bd.bytes
  have hml : c.maxLocals = 20 := hml0
  have hown : s.vm.findClass "com/example/shelfgraph/shelfgraph/ingest/RecordPositionInputNamePinLaw" = some m.cls := findClass_of_methodNamed Bd.named
  have hnm := (name_of_methodNamed Bd.named Bd.method).1
  have hlk : meth.locks = false := BodyLoose.notSynchronized Bd
  have X0 : Stand p l e room_1 (s.setVm s.vm) m #[(.int k1), (.int a1), (.int b1), (.int c1), (.long p1), (.long q1)] below meth c s₁ [] 0 0 := Stand.of_body Bd
  have e0 : s₁.heap = h0 := by rw [← hh, Bd.state]; rfl
  have N0 := Fr.nil n0
  show own_GoW p.tables e below Z consts_1 (Q_rm0 Z k1 a1 b1 c1 p1 q1 cs h0 n0) s 32 5248 s₁ (entryFrame m #[(.int k1), (.int a1), (.int b1), (.int c1), (.long p1), (.long q1)] maxLocals)
  rw [ef_rm0 m k1 a1 b1 c1 p1 q1]
  have hS0 : s.Since s.vm s.heap.size := (State.WarmedH.refl s).since _
  have hk0 : s.heap.size ≤ h0.size := Nat.le_of_eq (congrArg Array.size hh)
  have C0 : CHr Z consts_1 s.vm s.heap s.vm h0 := by rw [hh]; exact CHr.refl hH
  have hEL : EW Z a0 consts_1 := own_EL hw
  have hwS : ∀ d ∈ Bundle.stringAtoms, d.before a0 Z = true := fun d hd => hw d (own_SA d hd)
  refine own_byW (T' := s₁) (g' := (mkF m 1 #[.val (.int k1), .val (.int a1), .val (.int b1), .val (.int c1), .val (.long p1), .second, .val (.long q1), .second, .unset, .unset, .unset, .unset, .unset, .unset, .unset, .unset, .unset, .unset, .unset, .unset] [(.int k1)])) (fun _ k => XS.iloadN X0.here hx rfl (hb hby at_0) rfl k) ?_
  refine own_byW (T' := s₁) (g' := (mkF m 2 #[.val (.int k1), .val (.int a1), .val (.int b1), .val (.int c1), .val (.long p1), .second, .val (.long q1), .second, .unset, .unset, .unset, .unset, .unset, .unset, .unset, .unset, .unset, .unset, .unset, .unset] [(.int (3 : Int32)), (.int k1)])) (fun _ k => XS.iconst X0.here hx rfl (hb hby at_1) k) ?_
  refine own_byW (T' := s₁) (g' := (mkF m 3 #[.val (.int k1), .val (.int a1), .val (.int b1), .val (.int c1), .val (.long p1), .second, .val (.long q1), .second, .unset, .unset, .unset, .unset, .unset, .unset, .unset, .unset, .unset, .unset, .unset, .unset] [(.int (k1 &&& (3 : Int32)))])) (fun _ k => XS.iand X0.here hx rfl (hb hby at_2) rfl k) ?_
  refine own_byW (T' := s₁) (g' := (mkF m 5 #[.val (.int k1), .val (.int a1), .val (.int b1), .val (.int c1), .val (.long p1), .second, .val (.long q1), .second, .val (.int (k1 &&& (3 : Int32))), .unset, .unset, .unset, .unset, .unset, .unset, .unset, .unset, .unset, .unset, .unset] [])) (fun _ k => XS.istore X0.here hx rfl (hb hby at_3) rfl (l' := #[.val (.int k1), .val (.int a1), .val (.int b1), .val (.int c1), .val (.long p1), .second, .val (.long q1), .second, .val (.int (k1 &&& (3 : Int32))), .unset, .unset, .unset, .unset, .unset, .unset, .unset, .unset, .unset, .unset, .unset]) rfl k) ?_
  rcases own_and3 k1 with hq21 | hq21 | hq21 | hq21
  · skip
    rw [hq21]
    refine own_byW (T' := s₁) (g' := (mkF m 6 #[.val (.int k1), .val (.int a1), .val (.int b1), .val (.int c1), .val (.long p1), .second, .val (.long q1), .second, .val (.int (0 : Int32)), .unset, .unset, .unset, .unset, .unset, .unset, .unset, .unset, .unset, .unset, .unset] [(.int a1)])) (fun _ k => XS.iloadN X0.here hx rfl (hb hby at_5) rfl k) ?_
    obtain ⟨_, _, ⟨T22, L22, k22, n22⟩, -, X22, ⟨Lc22, hQ22, l22, y22, z22⟩, st22⟩ := Jvm.LawKit.callS X0 hx (y := (⟨"com/example/shelfgraph/shelfgraph/ingest/RecordPositionInputNamePinLaw", "pick", "(I)C"⟩ : MethodName)) hown (mvT hZ (hw _ (List.mem_of_getElem? (i := 0) rfl))) (mvT hZ (hw _ (List.mem_of_getElem? (i := 1) rfl))) (mvT hZ (hw _ (List.mem_of_getElem? (i := 2) rfl))) (mvT hZ (hw _ (List.mem_of_getElem? (i := 3) rfl))) (by decide) (backOf (W := 0) (rm1 l Z a0 hw [] a1  h0 n0 Z0 ) hZ (hw _ (List.mem_of_getElem? (i := 3) rfl)) (hw _ (List.mem_of_getElem? (i := 2) rfl)) (by decide) (by decide)) (g := (mkF m 6 #[.val (.int k1), .val (.int a1), .val (.int b1), .val (.int c1), .val (.long p1), .second, .val (.long q1), .second, .val (.int (0 : Int32)), .unset, .unset, .unset, .unset, .unset, .unset, .unset, .unset, .unset, .unset, .unset] [(.int a1)])) rfl (by rw [hml]; rfl) (argsL := [(.int a1)]) (rest := []) (lenOf pd_9 rfl) rfl (by show 2 * 0 + _ ≤ _; exact Nat.le_of_eq rfl) (hb hby at_6) (fun _ _ => ⟨rfl, e0, (by decide : 0 + 0 ≤ _), (by decide : 0 + 0 ≤ _)⟩)
    dsimp only [Pt.U, Pt.locs, Pt.cells, Pt.slots] at X22 l22 y22 z22 st22 hQ22
    subst l22 y22 z22
    obtain ⟨rfl, N22q, e22⟩ := hQ22
    have N22 := Fr.app N0 N22q
    refine own_byW (T' := T22) (g' := (mkF m 9 #[.val (.int k1), .val (.int a1), .val (.int b1), .val (.int c1), .val (.long p1), .second, .val (.long q1), .second, .val (.int (0 : Int32)), .unset, .unset, .unset, .unset, .unset, .unset, .unset, .unset, .unset, .unset, .unset] [(.int (own_pk a1))])) (fun _ k => st22 _ k) ?_
    refine own_byW (T' := T22) (g' := (mkF m 11 #[.val (.int k1), .val (.int a1), .val (.int b1), .val (.int c1), .val (.long p1), .second, .val (.long q1), .second, .val (.int (0 : Int32)), .val (.int (own_pk a1)), .unset, .unset, .unset, .unset, .unset, .unset, .unset, .unset, .unset, .unset] [])) (fun _ k => XS.istore X22.here hx rfl (hb hby at_9) rfl (l' := #[.val (.int k1), .val (.int a1), .val (.int b1), .val (.int c1), .val (.long p1), .second, .val (.long q1), .second, .val (.int (0 : Int32)), .val (.int (own_pk a1)), .unset, .unset, .unset, .unset, .unset, .unset, .unset, .unset, .unset, .unset]) rfl k) ?_
    refine own_byW (T' := T22) (g' := (mkF m 12 #[.val (.int k1), .val (.int a1), .val (.int b1), .val (.int c1), .val (.long p1), .second, .val (.long q1), .second, .val (.int (0 : Int32)), .val (.int (own_pk a1)), .unset, .unset, .unset, .unset, .unset, .unset, .unset, .unset, .unset, .unset] [(.int b1)])) (fun _ k => XS.iloadN X22.here hx rfl (hb hby at_11) rfl k) ?_
    obtain ⟨_, _, ⟨T23, L23, k23, n23⟩, -, X23, ⟨Lc23, hQ23, l23, y23, z23⟩, st23⟩ := Jvm.LawKit.callS X22 hx (y := (⟨"com/example/shelfgraph/shelfgraph/ingest/RecordPositionInputNamePinLaw", "pick", "(I)C"⟩ : MethodName)) hown (mvT hZ (hw _ (List.mem_of_getElem? (i := 0) rfl))) (mvT hZ (hw _ (List.mem_of_getElem? (i := 1) rfl))) (mvT hZ (hw _ (List.mem_of_getElem? (i := 2) rfl))) (mvT hZ (hw _ (List.mem_of_getElem? (i := 3) rfl))) (by decide) (backOf (W := 0) (rm1 l Z a0 hw [] b1  h0 n0 Z0 ) hZ (hw _ (List.mem_of_getElem? (i := 3) rfl)) (hw _ (List.mem_of_getElem? (i := 2) rfl)) (by decide) (by decide)) (g := (mkF m 12 #[.val (.int k1), .val (.int a1), .val (.int b1), .val (.int c1), .val (.long p1), .second, .val (.long q1), .second, .val (.int (0 : Int32)), .val (.int (own_pk a1)), .unset, .unset, .unset, .unset, .unset, .unset, .unset, .unset, .unset, .unset] [(.int b1)])) rfl (by rw [hml]; rfl) (argsL := [(.int b1)]) (rest := []) (lenOf pd_9 rfl) rfl (by show 2 * 0 + _ ≤ _; exact Nat.le_of_eq rfl) (hb hby at_12) (fun _ _ => ⟨rfl, e22, (by decide : (0 + 0) + 0 ≤ _), (by decide : (0 + 0) + 0 ≤ _)⟩)
    dsimp only [Pt.U, Pt.locs, Pt.cells, Pt.slots] at X23 l23 y23 z23 st23 hQ23
    subst l23 y23 z23
    obtain ⟨rfl, N23q, e23⟩ := hQ23
    have N23 := Fr.app N22 N23q
    refine own_byW (T' := T23) (g' := (mkF m 15 #[.val (.int k1), .val (.int a1), .val (.int b1), .val (.int c1), .val (.long p1), .second, .val (.long q1), .second, .val (.int (0 : Int32)), .val (.int (own_pk a1)), .unset, .unset, .unset, .unset, .unset, .unset, .unset, .unset, .unset, .unset] [(.int (own_pk b1))])) (fun _ k => st23 _ k) ?_
    refine own_byW (T' := T23) (g' := (mkF m 17 #[.val (.int k1), .val (.int a1), .val (.int b1), .val (.int c1), .val (.long p1), .second, .val (.long q1), .second, .val (.int (0 : Int32)), .val (.int (own_pk a1)), .val (.int (own_pk b1)), .unset, .unset, .unset, .unset, .unset, .unset, .unset, .unset, .unset] [])) (fun _ k => XS.istore X23.here hx rfl (hb hby at_15) rfl (l' := #[.val (.int k1), .val (.int a1), .val (.int b1), .val (.int c1), .val (.long p1), .second, .val (.long q1), .second, .val (.int (0 : Int32)), .val (.int (own_pk a1)), .val (.int (own_pk b1)), .unset, .unset, .unset, .unset, .unset, .unset, .unset, .unset, .unset]) rfl k) ?_
    refine own_byW (T' := T23) (g' := (mkF m 18 #[.val (.int k1), .val (.int a1), .val (.int b1), .val (.int c1), .val (.long p1), .second, .val (.long q1), .second, .val (.int (0 : Int32)), .val (.int (own_pk a1)), .val (.int (own_pk b1)), .unset, .unset, .unset, .unset, .unset, .unset, .unset, .unset, .unset] [(.int c1)])) (fun _ k => XS.iloadN X23.here hx rfl (hb hby at_17) rfl k) ?_
    obtain ⟨_, _, ⟨T24, L24, k24, n24⟩, -, X24, ⟨Lc24, hQ24, l24, y24, z24⟩, st24⟩ := Jvm.LawKit.callS X23 hx (y := (⟨"com/example/shelfgraph/shelfgraph/ingest/RecordPositionInputNamePinLaw", "pick", "(I)C"⟩ : MethodName)) hown (mvT hZ (hw _ (List.mem_of_getElem? (i := 0) rfl))) (mvT hZ (hw _ (List.mem_of_getElem? (i := 1) rfl))) (mvT hZ (hw _ (List.mem_of_getElem? (i := 2) rfl))) (mvT hZ (hw _ (List.mem_of_getElem? (i := 3) rfl))) (by decide) (backOf (W := 0) (rm1 l Z a0 hw [] c1  h0 n0 Z0 ) hZ (hw _ (List.mem_of_getElem? (i := 3) rfl)) (hw _ (List.mem_of_getElem? (i := 2) rfl)) (by decide) (by decide)) (g := (mkF m 18 #[.val (.int k1), .val (.int a1), .val (.int b1), .val (.int c1), .val (.long p1), .second, .val (.long q1), .second, .val (.int (0 : Int32)), .val (.int (own_pk a1)), .val (.int (own_pk b1)), .unset, .unset, .unset, .unset, .unset, .unset, .unset, .unset, .unset] [(.int c1)])) rfl (by rw [hml]; rfl) (argsL := [(.int c1)]) (rest := []) (lenOf pd_9 rfl) rfl (by show 2 * 0 + _ ≤ _; exact Nat.le_of_eq rfl) (hb hby at_18) (fun _ _ => ⟨rfl, e23, (by decide : ((0 + 0) + 0) + 0 ≤ _), (by decide : ((0 + 0) + 0) + 0 ≤ _)⟩)
    dsimp only [Pt.U, Pt.locs, Pt.cells, Pt.slots] at X24 l24 y24 z24 st24 hQ24
    subst l24 y24 z24
    obtain ⟨rfl, N24q, e24⟩ := hQ24
    have N24 := Fr.app N23 N24q
    refine own_byW (T' := T24) (g' := (mkF m 21 #[.val (.int k1), .val (.int a1), .val (.int b1), .val (.int c1), .val (.long p1), .second, .val (.long q1), .second, .val (.int (0 : Int32)), .val (.int (own_pk a1)), .val (.int (own_pk b1)), .unset, .unset, .unset, .unset, .unset, .unset, .unset, .unset, .unset] [(.int (own_pk c1))])) (fun _ k => st24 _ k) ?_
    refine own_byW (T' := T24) (g' := (mkF m 23 #[.val (.int k1), .val (.int a1), .val (.int b1), .val (.int c1), .val (.long p1), .second, .val (.long q1), .second, .val (.int (0 : Int32)), .val (.int (own_pk a1)), .val (.int (own_pk b1)), .val (.int (own_pk c1)), .unset, .unset, .unset, .unset, .unset, .unset, .unset, .unset] [])) (fun _ k => XS.istore X24.here hx rfl (hb hby at_21) rfl (l' := #[.val (.int k1), .val (.int a1), .val (.int b1), .val (.int c1), .val (.long p1), .second, .val (.long q1), .second, .val (.int (0 : Int32)), .val (.int (own_pk a1)), .val (.int (own_pk b1)), .val (.int (own_pk c1)), .unset, .unset, .unset, .unset, .unset, .unset, .unset, .unset]) rfl k) ?_
    refine own_byW (T' := T24) (g' := (mkF m 25 #[.val (.int k1), .val (.int a1), .val (.int b1), .val (.int c1), .val (.long p1), .second, .val (.long q1), .second, .val (.int (0 : Int32)), .val (.int (own_pk a1)), .val (.int (own_pk b1)), .val (.int (own_pk c1)), .unset, .unset, .unset, .unset, .unset, .unset, .unset, .unset] [(.int (0 : Int32))])) (fun _ k => XS.iload X24.here hx rfl (hb hby at_23) rfl k) ?_
    refine own_byW (T' := T24) (g' := (mkF m 27 #[.val (.int k1), .val (.int a1), .val (.int b1), .val (.int c1), .val (.long p1), .second, .val (.long q1), .second, .val (.int (0 : Int32)), .val (.int (own_pk a1)), .val (.int (own_pk b1)), .val (.int (own_pk c1)), .unset, .unset, .unset, .unset, .unset, .unset, .unset, .unset] [(.int (own_pk a1)), (.int (0 : Int32))])) (fun _ k => XS.iload X24.here hx rfl (hb hby at_25) rfl k) ?_
    refine own_byW (T' := T24) (g' := (mkF m 29 #[.val (.int k1), .val (.int a1), .val (.int b1), .val (.int c1), .val (.long p1), .second, .val (.long q1), .second, .val (.int (0 : Int32)), .val (.int (own_pk a1)), .val (.int (own_pk b1)), .val (.int (own_pk c1)), .unset, .unset, .unset, .unset, .unset, .unset, .unset, .unset] [(.int (own_pk b1)), (.int (own_pk a1)), (.int (0 : Int32))])) (fun _ k => XS.iload X24.here hx rfl (hb hby at_27) rfl k) ?_
    refine own_byW (T' := T24) (g' := (mkF m 31 #[.val (.int k1), .val (.int a1), .val (.int b1), .val (.int c1), .val (.long p1), .second, .val (.long q1), .second, .val (.int (0 : Int32)), .val (.int (own_pk a1)), .val (.int (own_pk b1)), .val (.int (own_pk c1)), .unset, .unset, .unset, .unset, .unset, .unset, .unset, .unset] [(.int (own_pk c1)), (.int (own_pk b1)), (.int (own_pk a1)), (.int (0 : Int32))])) (fun _ k => XS.iload X24.here hx rfl (hb hby at_29) rfl k) ?_
    obtain ⟨_, _, ⟨T25, L25, k25, n25⟩, -, X25, hSq25, hgq25, ⟨Lc25, hQ25, l25, y25, z25, Cq25⟩, st25⟩ := callSS X24 hx (y := (⟨"com/example/shelfgraph/shelfgraph/ingest/RecordPositionInputNamePinLaw", "make", "(ICCC)Ljava/lang/String;"⟩ : MethodName)) hown (mvT hZ (hw _ (List.mem_of_getElem? (i := 4) rfl))) (mvT hZ (hw _ (List.mem_of_getElem? (i := 5) rfl))) (mvT hZ (hw _ (List.mem_of_getElem? (i := 2) rfl))) (mvT hZ (hw _ (List.mem_of_getElem? (i := 6) rfl))) (by decide) (own_backSH (s := s) (EL := consts_1) (W := 0) (make_0 l Z a0 hw [] (own_pk a1) (own_pk b1) (own_pk c1)  h0 n0 Z0 ) hZ (hw _ (List.mem_of_getElem? (i := 6) rfl)) (hw _ (List.mem_of_getElem? (i := 2) rfl)) (by decide) (by decide) hEL C0.1 (fun _ _ => trivial)) (g := (mkF m 31 #[.val (.int k1), .val (.int a1), .val (.int b1), .val (.int c1), .val (.long p1), .second, .val (.long q1), .second, .val (.int (0 : Int32)), .val (.int (own_pk a1)), .val (.int (own_pk b1)), .val (.int (own_pk c1)), .unset, .unset, .unset, .unset, .unset, .unset, .unset, .unset] [(.int (own_pk c1)), (.int (own_pk b1)), (.int (own_pk a1)), (.int (0 : Int32))])) rfl (by rw [hml]; rfl) (argsL := [(.int (0 : Int32)), (.int (own_pk a1)), (.int (own_pk b1)), (.int (own_pk c1))]) (rest := []) (lenOf pd_10 rfl) rfl (by show 2 * 0 + _ ≤ _; exact Nat.le_of_eq rfl) (hb hby at_31) (fun _ _ => ⟨rfl, e24, (by decide : (((0 + 0) + 0) + 0) + 6 ≤ _), (by decide : (((0 + 0) + 0) + 0) + 12 ≤ _)⟩)
    dsimp only [Pt.U, Pt.locs, Pt.cells, Pt.slots] at X25 l25 y25 z25 st25 hQ25 hSq25 hgq25 Cq25
    subst l25 y25 z25
    obtain ⟨x25, t25, kb25, rfl, N25q, K25, zx25, E25, Fc25, Fv25, V25⟩ := hQ25
    have N25 := Fr.app N24 N25q
    have KK25 : Keep h0 T25.heap [] := Keep.trans (Keep.refl h0 []) K25 all0
    have hS25 := foldS hS0 (T := T24) (by rw [e24]; exact hk0) hSq25 hgq25
    have hZ25 : Z.Warmed39 (s.setVm T25.vm).vm := State.Warmed39.trans hZ hSq25.1
    have hown25 : (s.setVm T25.vm).vm.findClass "com/example/shelfgraph/shelfgraph/ingest/RecordPositionInputNamePinLaw" = some m.cls := by show T25.vm.findClass "com/example/shelfgraph/shelfgraph/ingest/RecordPositionInputNamePinLaw" = some m.cls; rw [hSq25.1.alike.findClass]; exact hown
    have X25 : Stand p l e room_1 (s.setVm T25.vm) m #[(.int k1), (.int a1), (.int b1), (.int c1), (.long p1), (.long q1)] below meth c T25 (((L22 ++ Lc23) ++ Lc24) ++ Lc25) ((((0 + 0) + 0) + 0) + 6) ((((0 + 0) + 0) + 0) + 12) := X25
    have C25 : CHr Z consts_1 s.vm s.heap T25.vm T25.heap := CHr.trans C0 Cq25
    refine own_byW (T' := T25) (g' := (mkF m 34 #[.val (.int k1), .val (.int a1), .val (.int b1), .val (.int c1), .val (.long p1), .second, .val (.long q1), .second, .val (.int (0 : Int32)), .val (.int (own_pk a1)), .val (.int (own_pk b1)), .val (.int (own_pk c1)), .unset, .unset, .unset, .unset, .unset, .unset, .unset, .unset] [(.ref x25)])) (fun _ k => st25.trans k) ?_
    refine own_byW (T' := T25) (g' := (mkF m 36 #[.val (.int k1), .val (.int a1), .val (.int b1), .val (.int c1), .val (.long p1), .second, .val (.long q1), .second, .val (.int (0 : Int32)), .val (.int (own_pk a1)), .val (.int (own_pk b1)), .val (.int (own_pk c1)), .val (.ref x25), .unset, .unset, .unset, .unset, .unset, .unset, .unset] [])) (fun _ k => XS.astore X25.here hx rfl (hb hby at_34) rfl rfl (l' := #[.val (.int k1), .val (.int a1), .val (.int b1), .val (.int c1), .val (.long p1), .second, .val (.long q1), .second, .val (.int (0 : Int32)), .val (.int (own_pk a1)), .val (.int (own_pk b1)), .val (.int (own_pk c1)), .val (.ref x25), .unset, .unset, .unset, .unset, .unset, .unset, .unset]) rfl k) ?_
    refine own_byW (T' := T25) (g' := (mkF m 37 #[.val (.int k1), .val (.int a1), .val (.int b1), .val (.int c1), .val (.long p1), .second, .val (.long q1), .second, .val (.int (0 : Int32)), .val (.int (own_pk a1)), .val (.int (own_pk b1)), .val (.int (own_pk c1)), .val (.ref x25), .unset, .unset, .unset, .unset, .unset, .unset, .unset] [(.long (1 : Int64))])) (fun _ k => XS.lconst X25.here hx rfl (hb hby at_36) k) ?_
    refine own_byW (T' := T25) (g' := (mkF m 39 #[.val (.int k1), .val (.int a1), .val (.int b1), .val (.int c1), .val (.long p1), .second, .val (.long q1), .second, .val (.int (0 : Int32)), .val (.int (own_pk a1)), .val (.int (own_pk b1)), .val (.int (own_pk c1)), .val (.ref x25), .unset, .unset, .unset, .unset, .unset, .unset, .unset] [(.long p1), (.long (1 : Int64))])) (fun _ k => XS.lload X25.here hx rfl (hb hby at_37) rfl k) ?_
    refine own_byW (T' := T25) (g' := (mkF m 42 #[.val (.int k1), .val (.int a1), .val (.int b1), .val (.int c1), .val (.long p1), .second, .val (.long q1), .second, .val (.int (0 : Int32)), .val (.int (own_pk a1)), .val (.int (own_pk b1)), .val (.int (own_pk c1)), .val (.ref x25), .unset, .unset, .unset, .unset, .unset, .unset, .unset] [(.long (9223372036854775807 : Int64)), (.long p1), (.long (1 : Int64))])) (fun _ k => ldc2J X25 hx hown25 (mvT hZ25 (hw _ (List.mem_of_getElem? (i := 29) rfl))) rfl (hb hby at_39) k) ?_
    refine own_byW (T' := T25) (g' := (mkF m 43 #[.val (.int k1), .val (.int a1), .val (.int b1), .val (.int c1), .val (.long p1), .second, .val (.long q1), .second, .val (.int (0 : Int32)), .val (.int (own_pk a1)), .val (.int (own_pk b1)), .val (.int (own_pk c1)), .val (.ref x25), .unset, .unset, .unset, .unset, .unset, .unset, .unset] [(.long (p1 &&& (9223372036854775807 : Int64))), (.long (1 : Int64))])) (fun _ k => XS.land X25.here hx rfl (hb hby at_42) rfl k) ?_
    obtain ⟨_, _, ⟨T26, L26, k26, n26⟩, -, X26, ⟨Lc26, hQ26, l26, y26, z26⟩, st26⟩ := Jvm.LawKit.callS X25 hx (y := (⟨"java/lang/Math", "max", "(JJ)J"⟩ : MethodName)) hown25 (mvT hZ25 (hw _ (List.mem_of_getElem? (i := 30) rfl))) (mvT hZ25 (hw _ (List.mem_of_getElem? (i := 31) rfl))) (mvT hZ25 (hw _ (List.mem_of_getElem? (i := 32) rfl))) (mvT hZ25 (hw _ (List.mem_of_getElem? (i := 33) rfl))) (by decide) (backOf (W := 0) (rm6 l Z a0 hw [] (p1 &&& (9223372036854775807 : Int64))  T25.heap n0 (Nat.le_trans Z0 K25.1) ) hZ25 (hw _ (List.mem_of_getElem? (i := 33) rfl)) (hw _ (List.mem_of_getElem? (i := 32) rfl)) (by decide) (by decide)) (g := (mkF m 43 #[.val (.int k1), .val (.int a1), .val (.int b1), .val (.int c1), .val (.long p1), .second, .val (.long q1), .second, .val (.int (0 : Int32)), .val (.int (own_pk a1)), .val (.int (own_pk b1)), .val (.int (own_pk c1)), .val (.ref x25), .unset, .unset, .unset, .unset, .unset, .unset, .unset] [(.long (p1 &&& (9223372036854775807 : Int64))), (.long (1 : Int64))])) rfl (by rw [hml]; rfl) (argsL := [(.long (1 : Int64)), (.long (p1 &&& (9223372036854775807 : Int64)))]) (rest := []) (lenOf pd_11 rfl) rfl (by show 2 * 0 + _ ≤ _; exact Nat.le_of_eq rfl) (hb hby at_43) (fun _ _ => ⟨rfl, rfl, (by decide : ((((0 + 0) + 0) + 0) + 6) + 0 ≤ _), (by decide : ((((0 + 0) + 0) + 0) + 12) + 0 ≤ _)⟩)
    dsimp only [Pt.U, Pt.locs, Pt.cells, Pt.slots] at X26 l26 y26 z26 st26 hQ26
    subst l26 y26 z26
    obtain ⟨rfl, N26q, e26⟩ := hQ26
    have N26 := Fr.app N25 N26q
    refine own_byW (T' := T26) (g' := (mkF m 46 #[.val (.int k1), .val (.int a1), .val (.int b1), .val (.int c1), .val (.long p1), .second, .val (.long q1), .second, .val (.int (0 : Int32)), .val (.int (own_pk a1)), .val (.int (own_pk b1)), .val (.int (own_pk c1)), .val (.ref x25), .unset, .unset, .unset, .unset, .unset, .unset, .unset] [(.long (own_max (p1 &&& (9223372036854775807 : Int64))))])) (fun _ k => st26 _ k) ?_
    refine own_byW (T' := T26) (g' := (mkF m 48 #[.val (.int k1), .val (.int a1), .val (.int b1), .val (.int c1), .val (.long p1), .second, .val (.long q1), .second, .val (.int (0 : Int32)), .val (.int (own_pk a1)), .val (.int (own_pk b1)), .val (.int (own_pk c1)), .val (.ref x25), .val (.long (own_max (p1 &&& (9223372036854775807 : Int64)))), .second, .unset, .unset, .unset, .unset, .unset] [])) (fun _ k => XS.lstore X26.here hx rfl (hb hby at_46) rfl (l' := #[.val (.int k1), .val (.int a1), .val (.int b1), .val (.int c1), .val (.long p1), .second, .val (.long q1), .second, .val (.int (0 : Int32)), .val (.int (own_pk a1)), .val (.int (own_pk b1)), .val (.int (own_pk c1)), .val (.ref x25), .val (.long (own_max (p1 &&& (9223372036854775807 : Int64)))), .second, .unset, .unset, .unset, .unset, .unset]) rfl k) ?_
    refine own_byW (T' := T26) (g' := (mkF m 50 #[.val (.int k1), .val (.int a1), .val (.int b1), .val (.int c1), .val (.long p1), .second, .val (.long q1), .second, .val (.int (0 : Int32)), .val (.int (own_pk a1)), .val (.int (own_pk b1)), .val (.int (own_pk c1)), .val (.ref x25), .val (.long (own_max (p1 &&& (9223372036854775807 : Int64)))), .second, .unset, .unset, .unset, .unset, .unset] [(.long q1)])) (fun _ k => XS.lload X26.here hx rfl (hb hby at_48) rfl k) ?_
    refine own_byW (T' := T26) (g' := (mkF m 53 #[.val (.int k1), .val (.int a1), .val (.int b1), .val (.int c1), .val (.long p1), .second, .val (.long q1), .second, .val (.int (0 : Int32)), .val (.int (own_pk a1)), .val (.int (own_pk b1)), .val (.int (own_pk c1)), .val (.ref x25), .val (.long (own_max (p1 &&& (9223372036854775807 : Int64)))), .second, .unset, .unset, .unset, .unset, .unset] [(.long (9223372036854775807 : Int64)), (.long q1)])) (fun _ k => ldc2J X26 hx hown25 (mvT hZ25 (hw _ (List.mem_of_getElem? (i := 29) rfl))) rfl (hb hby at_50) k) ?_
    refine own_byW (T' := T26) (g' := (mkF m 54 #[.val (.int k1), .val (.int a1), .val (.int b1), .val (.int c1), .val (.long p1), .second, .val (.long q1), .second, .val (.int (0 : Int32)), .val (.int (own_pk a1)), .val (.int (own_pk b1)), .val (.int (own_pk c1)), .val (.ref x25), .val (.long (own_max (p1 &&& (9223372036854775807 : Int64)))), .second, .unset, .unset, .unset, .unset, .unset] [(.long (q1 &&& (9223372036854775807 : Int64)))])) (fun _ k => XS.land X26.here hx rfl (hb hby at_53) rfl k) ?_
    refine own_byW (T' := T26) (g' := (mkF m 56 #[.val (.int k1), .val (.int a1), .val (.int b1), .val (.int c1), .val (.long p1), .second, .val (.long q1), .second, .val (.int (0 : Int32)), .val (.int (own_pk a1)), .val (.int (own_pk b1)), .val (.int (own_pk c1)), .val (.ref x25), .val (.long (own_max (p1 &&& (9223372036854775807 : Int64)))), .second, .val (.long (q1 &&& (9223372036854775807 : Int64))), .second, .unset, .unset, .unset] [])) (fun _ k => XS.lstore X26.here hx rfl (hb hby at_54) rfl (l' := #[.val (.int k1), .val (.int a1), .val (.int b1), .val (.int c1), .val (.long p1), .second, .val (.long q1), .second, .val (.int (0 : Int32)), .val (.int (own_pk a1)), .val (.int (own_pk b1)), .val (.int (own_pk c1)), .val (.ref x25), .val (.long (own_max (p1 &&& (9223372036854775807 : Int64)))), .second, .val (.long (q1 &&& (9223372036854775807 : Int64))), .second, .unset, .unset, .unset]) rfl k) ?_
    obtain ⟨T27, h27, X27, e27, E27, A27, D27, -, st27⟩ := newO X26 hx hZ25 hown25 (hw _ (List.mem_of_getElem? (i := 34) rfl)) (hw _ (List.mem_of_getElem? (i := 35) rfl)) (hw _ (List.mem_of_getElem? (i := 36) rfl)) e26 (g := (mkF m 56 #[.val (.int k1), .val (.int a1), .val (.int b1), .val (.int c1), .val (.long p1), .second, .val (.long q1), .second, .val (.int (0 : Int32)), .val (.int (own_pk a1)), .val (.int (own_pk b1)), .val (.int (own_pk c1)), .val (.ref x25), .val (.long (own_max (p1 &&& (9223372036854775807 : Int64)))), .second, .val (.long (q1 &&& (9223372036854775807 : Int64))), .second, .unset, .unset, .unset] [])) rfl (hb hby at_56) (by decide) (by decide)
    obtain ⟨b27, g27⟩ : ∃ z, z = T25.heap.size := ⟨_, rfl⟩
    rw [← g27] at A27 D27 st27
    have E_b27 : Exa Z h27 b27 "com/example/shelfgraph/shelfgraph/ingest/RecordPosition" := A27
    have F_input_b27 : Fld Z h27 b27 "com/example/shelfgraph/shelfgraph/ingest/RecordPosition" "input" "Ljava/lang/String;" .null := D27 (Or.inr (hw _ (List.mem_of_getElem? (i := 52) rfl))) (ty := (.object "java/lang/String")) (by decide)
    have F_number_b27 : Fld Z h27 b27 "com/example/shelfgraph/shelfgraph/ingest/RecordPosition" "number" "J" (.long (0 : Int64)) := D27 (Or.inr (hw _ (List.mem_of_getElem? (i := 54) rfl))) (ty := .long) (by decide)
    have F_offset_b27 : Fld Z h27 b27 "com/example/shelfgraph/shelfgraph/ingest/RecordPosition" "offset" "J" (.long (0 : Int64)) := D27 (Or.inr (hw _ (List.mem_of_getElem? (i := 56) rfl))) (ty := .long) (by decide)
    have g_b27 : n0 ≤ b27 := Nat.le_trans (Nat.le_trans Z0 K25.1) (Nat.le_of_eq g27.symm)
    have sz_b27 : h0.size ≤ b27 := Nat.le_trans KK25.1 (Nat.le_of_eq g27.symm)
    have K27 : Keep h0 h27 [] := Keep.ext KK25 E27
    have C27 : CHr Z consts_1 s.vm s.heap T25.vm h27 := CHr.trans C25 (CHr.ext E27 C25.1)
    refine own_byW (T' := T27) (g' := (mkF m 59 #[.val (.int k1), .val (.int a1), .val (.int b1), .val (.int c1), .val (.long p1), .second, .val (.long q1), .second, .val (.int (0 : Int32)), .val (.int (own_pk a1)), .val (.int (own_pk b1)), .val (.int (own_pk c1)), .val (.ref x25), .val (.long (own_max (p1 &&& (9223372036854775807 : Int64)))), .second, .val (.long (q1 &&& (9223372036854775807 : Int64))), .second, .unset, .unset, .unset] [(.ref b27)])) (fun _ k => st27 _ k) ?_
    refine own_byW (T' := T27) (g' := (mkF m 60 #[.val (.int k1), .val (.int a1), .val (.int b1), .val (.int c1), .val (.long p1), .second, .val (.long q1), .second, .val (.int (0 : Int32)), .val (.int (own_pk a1)), .val (.int (own_pk b1)), .val (.int (own_pk c1)), .val (.ref x25), .val (.long (own_max (p1 &&& (9223372036854775807 : Int64)))), .second, .val (.long (q1 &&& (9223372036854775807 : Int64))), .second, .unset, .unset, .unset] [(.ref b27), (.ref b27)])) (fun _ k => XS.dup X27.here hx rfl (hb hby at_59) rfl rfl k) ?_
    refine own_byW (T' := T27) (g' := (mkF m 62 #[.val (.int k1), .val (.int a1), .val (.int b1), .val (.int c1), .val (.long p1), .second, .val (.long q1), .second, .val (.int (0 : Int32)), .val (.int (own_pk a1)), .val (.int (own_pk b1)), .val (.int (own_pk c1)), .val (.ref x25), .val (.long (own_max (p1 &&& (9223372036854775807 : Int64)))), .second, .val (.long (q1 &&& (9223372036854775807 : Int64))), .second, .unset, .unset, .unset] [(.ref x25), (.ref b27), (.ref b27)])) (fun _ k => XS.aload X27.here hx rfl (hb hby at_60) rfl rfl k) ?_
    refine own_byW (T' := T27) (g' := (mkF m 64 #[.val (.int k1), .val (.int a1), .val (.int b1), .val (.int c1), .val (.long p1), .second, .val (.long q1), .second, .val (.int (0 : Int32)), .val (.int (own_pk a1)), .val (.int (own_pk b1)), .val (.int (own_pk c1)), .val (.ref x25), .val (.long (own_max (p1 &&& (9223372036854775807 : Int64)))), .second, .val (.long (q1 &&& (9223372036854775807 : Int64))), .second, .unset, .unset, .unset] [(.long (own_max (p1 &&& (9223372036854775807 : Int64)))), (.ref x25), (.ref b27), (.ref b27)])) (fun _ k => XS.lload X27.here hx rfl (hb hby at_62) rfl k) ?_
    refine own_byW (T' := T27) (g' := (mkF m 66 #[.val (.int k1), .val (.int a1), .val (.int b1), .val (.int c1), .val (.long p1), .second, .val (.long q1), .second, .val (.int (0 : Int32)), .val (.int (own_pk a1)), .val (.int (own_pk b1)), .val (.int (own_pk c1)), .val (.ref x25), .val (.long (own_max (p1 &&& (9223372036854775807 : Int64)))), .second, .val (.long (q1 &&& (9223372036854775807 : Int64))), .second, .unset, .unset, .unset] [(.long (q1 &&& (9223372036854775807 : Int64))), (.long (own_max (p1 &&& (9223372036854775807 : Int64)))), (.ref x25), (.ref b27), (.ref b27)])) (fun _ k => XS.lload X27.here hx rfl (hb hby at_64) rfl k) ?_
    obtain ⟨_, _, ⟨T28, L28, k28, n28⟩, -, X28, hSq28, hgq28, ⟨Lc28, hQ28, l28, y28, z28, Cq28⟩, st28⟩ := X27.specialBackS hx (y := (⟨"com/example/shelfgraph/shelfgraph/ingest/RecordPosition", "<init>", "(Ljava/lang/String;JJ)V"⟩ : MethodName)) rfl hown25 (mvT hZ25 (hw _ (List.mem_of_getElem? (i := 37) rfl))) (mvT hZ25 (hw _ (List.mem_of_getElem? (i := 38) rfl))) (mvT hZ25 (hw _ (List.mem_of_getElem? (i := 39) rfl))) (by decide) (own_backSH (s := s) (EL := consts_1) (W := 1) (rm7 l Z a0 hw [] b27 x25 (own_max (p1 &&& (9223372036854775807 : Int64))) (q1 &&& (9223372036854775807 : Int64))  h27 n0 (Nat.le_trans (Nat.le_trans Z0 K25.1) E27.1) E_b27 F_input_b27 F_number_b27 F_offset_b27 g_b27 (own_max1 _) (own_pos _)) hZ25 (hw _ (List.mem_of_getElem? (i := 39) rfl)) (hw _ (List.mem_of_getElem? (i := 36) rfl)) (by decide) (by decide) hEL C27.1 (fun _ _ => trivial)) (g := (mkF m 66 #[.val (.int k1), .val (.int a1), .val (.int b1), .val (.int c1), .val (.long p1), .second, .val (.long q1), .second, .val (.int (0 : Int32)), .val (.int (own_pk a1)), .val (.int (own_pk b1)), .val (.int (own_pk c1)), .val (.ref x25), .val (.long (own_max (p1 &&& (9223372036854775807 : Int64)))), .second, .val (.long (q1 &&& (9223372036854775807 : Int64))), .second, .unset, .unset, .unset] [(.long (q1 &&& (9223372036854775807 : Int64))), (.long (own_max (p1 &&& (9223372036854775807 : Int64)))), (.ref x25), (.ref b27), (.ref b27)])) rfl (by rw [hml]; rfl) (Steps.refl _) (a := b27) (argsL := [(.ref x25), (.long (own_max (p1 &&& (9223372036854775807 : Int64)))), (.long (q1 &&& (9223372036854775807 : Int64)))]) (rest := [(.ref b27)]) (lenOf pd_12 rfl) rfl (by show 2 * 0 + _ ≤ _; exact Nat.le_of_eq rfl) (hb hby at_66) (fun _ _ => ⟨rfl, e27, (by decide : ((((((0 + 0) + 0) + 0) + 6) + 0) + 1) + 2 ≤ _), (by decide : ((((((0 + 0) + 0) + 0) + 12) + 0) + 3) + 24 ≤ _)⟩)
    dsimp only [Pt.U, Pt.locs, Pt.cells, Pt.slots] at X28 l28 y28 z28 st28 hQ28 hSq28 hgq28 Cq28
    subst l28 y28 z28
    obtain ⟨rfl, N28q, K28, Fi28⟩ := hQ28
    have N28 := Fr.app N26 N28q
    have KK28 : Keep h0 T28.heap [] := Keep.trans K27 K28 (allS (Or.inr sz_b27) all0)
    have hS28 := foldS hS25 (T := T27) (by rw [e27]; exact (Nat.le_trans (Nat.le_refl _) E27.1)) hSq28 hgq28
    have hZ28 : Z.Warmed39 (s.setVm T28.vm).vm := State.Warmed39.trans hZ25 hSq28.1
    have hown28 : (s.setVm T28.vm).vm.findClass "com/example/shelfgraph/shelfgraph/ingest/RecordPositionInputNamePinLaw" = some m.cls := by show T28.vm.findClass "com/example/shelfgraph/shelfgraph/ingest/RecordPositionInputNamePinLaw" = some m.cls; rw [hSq28.1.alike.findClass]; exact hown25
    have X28 : Stand p l e room_1 (s.setVm T28.vm) m #[(.int k1), (.int a1), (.int b1), (.int c1), (.long p1), (.long q1)] below meth c T28 (((((L22 ++ Lc23) ++ Lc24) ++ Lc25) ++ Lc26) ++ Lc28) (((((((0 + 0) + 0) + 0) + 6) + 0) + 1) + 2) (((((((0 + 0) + 0) + 0) + 12) + 0) + 3) + 24) := X28
    have C28 : CHr Z consts_1 s.vm s.heap T28.vm T28.heap := CHr.trans C27 Cq28
    refine own_byW (T' := T28) (g' := (mkF m 69 #[.val (.int k1), .val (.int a1), .val (.int b1), .val (.int c1), .val (.long p1), .second, .val (.long q1), .second, .val (.int (0 : Int32)), .val (.int (own_pk a1)), .val (.int (own_pk b1)), .val (.int (own_pk c1)), .val (.ref x25), .val (.long (own_max (p1 &&& (9223372036854775807 : Int64)))), .second, .val (.long (q1 &&& (9223372036854775807 : Int64))), .second, .unset, .unset, .unset] [(.ref b27)])) (fun _ k => st28.trans k) ?_
    refine own_byW (T' := T28) (g' := (mkF m 71 #[.val (.int k1), .val (.int a1), .val (.int b1), .val (.int c1), .val (.long p1), .second, .val (.long q1), .second, .val (.int (0 : Int32)), .val (.int (own_pk a1)), .val (.int (own_pk b1)), .val (.int (own_pk c1)), .val (.ref x25), .val (.long (own_max (p1 &&& (9223372036854775807 : Int64)))), .second, .val (.long (q1 &&& (9223372036854775807 : Int64))), .second, .val (.ref b27), .unset, .unset] [])) (fun _ k => XS.astore X28.here hx rfl (hb hby at_69) rfl rfl (l' := #[.val (.int k1), .val (.int a1), .val (.int b1), .val (.int c1), .val (.long p1), .second, .val (.long q1), .second, .val (.int (0 : Int32)), .val (.int (own_pk a1)), .val (.int (own_pk b1)), .val (.int (own_pk c1)), .val (.ref x25), .val (.long (own_max (p1 &&& (9223372036854775807 : Int64)))), .second, .val (.long (q1 &&& (9223372036854775807 : Int64))), .second, .val (.ref b27), .unset, .unset]) rfl k) ?_
    refine own_byW (T' := T28) (g' := (mkF m 73 #[.val (.int k1), .val (.int a1), .val (.int b1), .val (.int c1), .val (.long p1), .second, .val (.long q1), .second, .val (.int (0 : Int32)), .val (.int (own_pk a1)), .val (.int (own_pk b1)), .val (.int (own_pk c1)), .val (.ref x25), .val (.long (own_max (p1 &&& (9223372036854775807 : Int64)))), .second, .val (.long (q1 &&& (9223372036854775807 : Int64))), .second, .val (.ref b27), .unset, .unset] [(.ref b27)])) (fun _ k => XS.aload X28.here hx rfl (hb hby at_71) rfl rfl k) ?_
    obtain ⟨cq29, kq29, q29a, q29b, q29c⟩ := isOf hZ28 rfl (Exa.keep E_b27 K28)
    obtain ⟨_, _, ⟨T29, L29, k29, n29⟩, -, X29, hSq29, hgq29, ⟨Lc29, hQ29, l29, y29, z29, Cq29⟩, st29⟩ := X28.virtualBackS hx (y := (⟨"com/example/shelfgraph/shelfgraph/ingest/RecordPosition", "inputName", "()Ljava/lang/String;"⟩ : MethodName)) (z := (⟨"com/example/shelfgraph/shelfgraph/ingest/RecordPosition", "inputName", "()Ljava/lang/String;"⟩ : MethodName)) hown28 (mvT hZ28 (hw _ (List.mem_of_getElem? (i := 57) rfl))) (mvT hZ28 (hw _ (List.mem_of_getElem? (i := 58) rfl))) (notFace_of_selects (args := #[]) (mvT hZ28 (hw _ (List.mem_of_getElem? (i := 60) rfl)))) (mvT hZ28 (hw _ (List.mem_of_getElem? (i := 60) rfl))) (mvT hZ28 (hw _ (List.mem_of_getElem? (i := 59) rfl))) (by decide) (own_backSH (s := s) (EL := consts_1) (W := 0) (inm_0 l Z a0 hw [] b27 x25 t25 kb25 cs T28.heap n0 (Nat.le_trans (Nat.le_trans (Nat.le_trans Z0 K25.1) E27.1) K28.1) Fi28 (Exa.keep (Exa.ext E27 E25) K28) (Fld.keep (Fld.ext E27 Fc25) K28 (ninS (Nat.ne_of_lt (Nat.lt_of_lt_of_le E25.lt (Nat.le_of_eq g27.symm))) nin0)) (Fld.keep (Fld.ext E27 Fv25) K28 (ninS (Nat.ne_of_lt (Nat.lt_of_lt_of_le E25.lt (Nat.le_of_eq g27.symm))) nin0)) (Arv.keep (Arv.ext V25 E27) K28 (ninS (Nat.ne_of_lt (Nat.lt_of_lt_of_le V25.lt (Nat.le_of_eq g27.symm))) nin0)) (Sta.ext ((Old.keep (Old.ext (Old.keep O0 K25 all0) E27) K28 (allS g_b27 all0))).2 S_CS) hcs) hZ28 (hw _ (List.mem_of_getElem? (i := 61) rfl)) (hw _ (List.mem_of_getElem? (i := 36) rfl)) (by decide) (by decide) hEL C28.1 (fun _ _ => trivial)) q29a q29c (g := (mkF m 73 #[.val (.int k1), .val (.int a1), .val (.int b1), .val (.int c1), .val (.long p1), .second, .val (.long q1), .second, .val (.int (0 : Int32)), .val (.int (own_pk a1)), .val (.int (own_pk b1)), .val (.int (own_pk c1)), .val (.ref x25), .val (.long (own_max (p1 &&& (9223372036854775807 : Int64)))), .second, .val (.long (q1 &&& (9223372036854775807 : Int64))), .second, .val (.ref b27), .unset, .unset] [(.ref b27)])) rfl (by rw [hml]; rfl) (Steps.refl _) (argsL := []) (rest := []) (lenOf pd_13 rfl) rfl (by show 2 * 0 + _ ≤ _; exact Nat.le_of_eq rfl) (hb hby at_73) (fun _ _ => ⟨rfl, rfl, (by decide : (((((((0 + 0) + 0) + 0) + 6) + 0) + 1) + 2) + 2 ≤ _), (by decide : (((((((0 + 0) + 0) + 0) + 12) + 0) + 3) + 24) + 8 ≤ _)⟩)
    dsimp only [Pt.U, Pt.locs, Pt.cells, Pt.slots] at X29 l29 y29 z29 st29 hQ29 hSq29 hgq29 Cq29
    subst l29 y29 z29
    obtain ⟨rfl, N29q, K29⟩ := hQ29
    have N29 := Fr.app N28 N29q
    have KK29 : Keep h0 T29.heap [] := Keep.trans KK28 K29 all0
    have hS29 := foldS hS28 (T := T28) (Nat.le_refl _) hSq29 hgq29
    have hZ29 : Z.Warmed39 (s.setVm T29.vm).vm := State.Warmed39.trans hZ28 hSq29.1
    have hown29 : (s.setVm T29.vm).vm.findClass "com/example/shelfgraph/shelfgraph/ingest/RecordPositionInputNamePinLaw" = some m.cls := by show T29.vm.findClass "com/example/shelfgraph/shelfgraph/ingest/RecordPositionInputNamePinLaw" = some m.cls; rw [hSq29.1.alike.findClass]; exact hown28
    have X29 : Stand p l e room_1 (s.setVm T29.vm) m #[(.int k1), (.int a1), (.int b1), (.int c1), (.long p1), (.long q1)] below meth c T29 ((((((L22 ++ Lc23) ++ Lc24) ++ Lc25) ++ Lc26) ++ Lc28) ++ Lc29) ((((((((0 + 0) + 0) + 0) + 6) + 0) + 1) + 2) + 2) ((((((((0 + 0) + 0) + 0) + 12) + 0) + 3) + 24) + 8) := X29
    have C29 : CHr Z consts_1 s.vm s.heap T29.vm T29.heap := CHr.trans C28 Cq29
    refine own_byW (T' := T29) (g' := (mkF m 76 #[.val (.int k1), .val (.int a1), .val (.int b1), .val (.int c1), .val (.long p1), .second, .val (.long q1), .second, .val (.int (0 : Int32)), .val (.int (own_pk a1)), .val (.int (own_pk b1)), .val (.int (own_pk c1)), .val (.ref x25), .val (.long (own_max (p1 &&& (9223372036854775807 : Int64)))), .second, .val (.long (q1 &&& (9223372036854775807 : Int64))), .second, .val (.ref b27), .unset, .unset] [(.ref x25)])) (fun _ k => st29.trans k) ?_
    refine own_byW (T' := T29) (g' := (mkF m 78 #[.val (.int k1), .val (.int a1), .val (.int b1), .val (.int c1), .val (.long p1), .second, .val (.long q1), .second, .val (.int (0 : Int32)), .val (.int (own_pk a1)), .val (.int (own_pk b1)), .val (.int (own_pk c1)), .val (.ref x25), .val (.long (own_max (p1 &&& (9223372036854775807 : Int64)))), .second, .val (.long (q1 &&& (9223372036854775807 : Int64))), .second, .val (.ref b27), .val (.ref x25), .unset] [])) (fun _ k => XS.astore X29.here hx rfl (hb hby at_76) rfl rfl (l' := #[.val (.int k1), .val (.int a1), .val (.int b1), .val (.int c1), .val (.long p1), .second, .val (.long q1), .second, .val (.int (0 : Int32)), .val (.int (own_pk a1)), .val (.int (own_pk b1)), .val (.int (own_pk c1)), .val (.ref x25), .val (.long (own_max (p1 &&& (9223372036854775807 : Int64)))), .second, .val (.long (q1 &&& (9223372036854775807 : Int64))), .second, .val (.ref b27), .val (.ref x25), .unset]) rfl k) ?_
    refine own_byW (T' := T29) (g' := (mkF m 80 #[.val (.int k1), .val (.int a1), .val (.int b1), .val (.int c1), .val (.long p1), .second, .val (.long q1), .second, .val (.int (0 : Int32)), .val (.int (own_pk a1)), .val (.int (own_pk b1)), .val (.int (own_pk c1)), .val (.ref x25), .val (.long (own_max (p1 &&& (9223372036854775807 : Int64)))), .second, .val (.long (q1 &&& (9223372036854775807 : Int64))), .second, .val (.ref b27), .val (.ref x25), .unset] [(.ref x25)])) (fun _ k => XS.aload X29.here hx rfl (hb hby at_78) rfl rfl k) ?_
    refine own_byW (T' := T29) (g' := (mkF m 85 #[.val (.int k1), .val (.int a1), .val (.int b1), .val (.int c1), .val (.long p1), .second, .val (.long q1), .second, .val (.int (0 : Int32)), .val (.int (own_pk a1)), .val (.int (own_pk b1)), .val (.int (own_pk c1)), .val (.ref x25), .val (.long (own_max (p1 &&& (9223372036854775807 : Int64)))), .second, .val (.long (q1 &&& (9223372036854775807 : Int64))), .second, .val (.ref b27), .val (.ref x25), .unset] [])) (fun _ k => XS.ifnonnullYes X29.here hx rfl (pc0 := 80) (pc' := 85) rfl (hb hby at_80) rfl (by decide) (by decide) k) ?_
    refine own_byW (T' := T29) (g' := (mkF m 87 #[.val (.int k1), .val (.int a1), .val (.int b1), .val (.int c1), .val (.long p1), .second, .val (.long q1), .second, .val (.int (0 : Int32)), .val (.int (own_pk a1)), .val (.int (own_pk b1)), .val (.int (own_pk c1)), .val (.ref x25), .val (.long (own_max (p1 &&& (9223372036854775807 : Int64)))), .second, .val (.long (q1 &&& (9223372036854775807 : Int64))), .second, .val (.ref b27), .val (.ref x25), .unset] [(.int (0 : Int32))])) (fun _ k => XS.iload X29.here hx rfl (hb hby at_85) rfl k) ?_
    refine own_byW (T' := T29) (g' := (mkF m 88 #[.val (.int k1), .val (.int a1), .val (.int b1), .val (.int c1), .val (.long p1), .second, .val (.long q1), .second, .val (.int (0 : Int32)), .val (.int (own_pk a1)), .val (.int (own_pk b1)), .val (.int (own_pk c1)), .val (.ref x25), .val (.long (own_max (p1 &&& (9223372036854775807 : Int64)))), .second, .val (.long (q1 &&& (9223372036854775807 : Int64))), .second, .val (.ref b27), .val (.ref x25), .unset] [(.int (1 : Int32)), (.int (0 : Int32))])) (fun _ k => XS.iconst X29.here hx rfl (hb hby at_87) k) ?_
    refine own_byW (T' := T29) (g' := (mkF m 102 #[.val (.int k1), .val (.int a1), .val (.int b1), .val (.int c1), .val (.long p1), .second, .val (.long q1), .second, .val (.int (0 : Int32)), .val (.int (own_pk a1)), .val (.int (own_pk b1)), .val (.int (own_pk c1)), .val (.ref x25), .val (.long (own_max (p1 &&& (9223372036854775807 : Int64)))), .second, .val (.long (q1 &&& (9223372036854775807 : Int64))), .second, .val (.ref b27), .val (.ref x25), .unset] [])) (fun _ k => XS.icmpYes X29.here hx rfl (pc0 := 88) (pc' := 102) rfl (hb hby at_88) rfl (feq (by decide)).2 (by decide) (by decide) k) ?_
    refine own_byW (T' := T29) (g' := (mkF m 103 #[.val (.int k1), .val (.int a1), .val (.int b1), .val (.int c1), .val (.long p1), .second, .val (.long q1), .second, .val (.int (0 : Int32)), .val (.int (own_pk a1)), .val (.int (own_pk b1)), .val (.int (own_pk c1)), .val (.ref x25), .val (.long (own_max (p1 &&& (9223372036854775807 : Int64)))), .second, .val (.long (q1 &&& (9223372036854775807 : Int64))), .second, .val (.ref b27), .val (.ref x25), .unset] [(.int (0 : Int32))])) (fun _ k => XS.iconst X29.here hx rfl (hb hby at_102) k) ?_
    refine own_byW (T' := T29) (g' := (mkF m 105 #[.val (.int k1), .val (.int a1), .val (.int b1), .val (.int c1), .val (.long p1), .second, .val (.long q1), .second, .val (.int (0 : Int32)), .val (.int (own_pk a1)), .val (.int (own_pk b1)), .val (.int (own_pk c1)), .val (.ref x25), .val (.long (own_max (p1 &&& (9223372036854775807 : Int64)))), .second, .val (.long (q1 &&& (9223372036854775807 : Int64))), .second, .val (.ref b27), .val (.ref x25), .val (.int (0 : Int32))] [])) (fun _ k => XS.istore X29.here hx rfl (hb hby at_103) rfl (l' := #[.val (.int k1), .val (.int a1), .val (.int b1), .val (.int c1), .val (.long p1), .second, .val (.long q1), .second, .val (.int (0 : Int32)), .val (.int (own_pk a1)), .val (.int (own_pk b1)), .val (.int (own_pk c1)), .val (.ref x25), .val (.long (own_max (p1 &&& (9223372036854775807 : Int64)))), .second, .val (.long (q1 &&& (9223372036854775807 : Int64))), .second, .val (.ref b27), .val (.ref x25), .val (.int (0 : Int32))]) rfl k) ?_
    refine own_byW (T' := T29) (g' := (mkF m 107 #[.val (.int k1), .val (.int a1), .val (.int b1), .val (.int c1), .val (.long p1), .second, .val (.long q1), .second, .val (.int (0 : Int32)), .val (.int (own_pk a1)), .val (.int (own_pk b1)), .val (.int (own_pk c1)), .val (.ref x25), .val (.long (own_max (p1 &&& (9223372036854775807 : Int64)))), .second, .val (.long (q1 &&& (9223372036854775807 : Int64))), .second, .val (.ref b27), .val (.ref x25), .val (.int (0 : Int32))] [(.int (0 : Int32))])) (fun _ k => XS.iload X29.here hx rfl (hb hby at_105) rfl k) ?_
    refine own_byW (T' := T29) (g' := (mkF m 118 #[.val (.int k1), .val (.int a1), .val (.int b1), .val (.int c1), .val (.long p1), .second, .val (.long q1), .second, .val (.int (0 : Int32)), .val (.int (own_pk a1)), .val (.int (own_pk b1)), .val (.int (own_pk c1)), .val (.ref x25), .val (.long (own_max (p1 &&& (9223372036854775807 : Int64)))), .second, .val (.long (q1 &&& (9223372036854775807 : Int64))), .second, .val (.ref b27), .val (.ref x25), .val (.int (0 : Int32))] [])) (fun _ k => XS.ifYes X29.here hx rfl (pc0 := 107) (pc' := 118) rfl (hb hby at_107) rfl ((if0 _ _).trans (teq (by decide)).1) (by decide) (by decide) k) ?_
    refine own_byW (T' := T29) (g' := (mkF m 120 #[.val (.int k1), .val (.int a1), .val (.int b1), .val (.int c1), .val (.long p1), .second, .val (.long q1), .second, .val (.int (0 : Int32)), .val (.int (own_pk a1)), .val (.int (own_pk b1)), .val (.int (own_pk c1)), .val (.ref x25), .val (.long (own_max (p1 &&& (9223372036854775807 : Int64)))), .second, .val (.long (q1 &&& (9223372036854775807 : Int64))), .second, .val (.ref b27), .val (.ref x25), .val (.int (0 : Int32))] [(.ref x25)])) (fun _ k => XS.aload X29.here hx rfl (hb hby at_118) rfl rfl k) ?_
    refine own_byW (T' := T29) (g' := (mkF m 122 #[.val (.int k1), .val (.int a1), .val (.int b1), .val (.int c1), .val (.long p1), .second, .val (.long q1), .second, .val (.int (0 : Int32)), .val (.int (own_pk a1)), .val (.int (own_pk b1)), .val (.int (own_pk c1)), .val (.ref x25), .val (.long (own_max (p1 &&& (9223372036854775807 : Int64)))), .second, .val (.long (q1 &&& (9223372036854775807 : Int64))), .second, .val (.ref b27), .val (.ref x25), .val (.int (0 : Int32))] [(.ref x25), (.ref x25)])) (fun _ k => XS.aload X29.here hx rfl (hb hby at_120) rfl rfl k) ?_
    obtain ⟨cq30, kq30, q30a, q30b, q30c⟩ := isOf hZ29 rfl (Exa.keep (Exa.keep (Exa.ext E27 E25) K28) K29)
    obtain ⟨_, _, ⟨T30, L30, k30, n30⟩, -, X30, ⟨Lc30, hQ30, l30, y30, z30⟩, st30⟩ := X29.virtualBack hx (y := (⟨"java/lang/String", "equals", "(Ljava/lang/Object;)Z"⟩ : MethodName)) (z := (⟨"java/lang/String", "equals", "(Ljava/lang/Object;)Z"⟩ : MethodName)) hown29 (mvT hZ29 (hw _ (List.mem_of_getElem? (i := 74) rfl))) (mvT hZ29 (hw _ (List.mem_of_getElem? (i := 64) rfl))) (notFace_of_selects (args := #[]) (mvT hZ29 (hw _ (List.mem_of_getElem? (i := 66) rfl)))) (mvT hZ29 (hw _ (List.mem_of_getElem? (i := 66) rfl))) (mvT hZ29 (hw _ (List.mem_of_getElem? (i := 65) rfl))) (by decide) (backOf (W := 0) (seq_same l Z a0 hw [] x25  T29.heap n0 (Nat.le_trans (Nat.le_trans (Nat.le_trans (Nat.le_trans Z0 K25.1) E27.1) K28.1) K29.1) ) hZ29 (hw _ (List.mem_of_getElem? (i := 67) rfl)) (hw _ (List.mem_of_getElem? (i := 9) rfl)) (by decide) (by decide)) q30a q30c (g := (mkF m 122 #[.val (.int k1), .val (.int a1), .val (.int b1), .val (.int c1), .val (.long p1), .second, .val (.long q1), .second, .val (.int (0 : Int32)), .val (.int (own_pk a1)), .val (.int (own_pk b1)), .val (.int (own_pk c1)), .val (.ref x25), .val (.long (own_max (p1 &&& (9223372036854775807 : Int64)))), .second, .val (.long (q1 &&& (9223372036854775807 : Int64))), .second, .val (.ref b27), .val (.ref x25), .val (.int (0 : Int32))] [(.ref x25), (.ref x25)])) rfl (by rw [hml]; rfl) (Steps.refl _) (argsL := [(.ref x25)]) (rest := []) (lenOf pd_8 rfl) rfl (by show 2 * 0 + _ ≤ _; exact Nat.le_of_eq rfl) (hb hby at_122) (fun _ _ => ⟨rfl, rfl, (by decide : ((((((((0 + 0) + 0) + 0) + 6) + 0) + 1) + 2) + 2) + 0 ≤ _), (by decide : ((((((((0 + 0) + 0) + 0) + 12) + 0) + 3) + 24) + 8) + 0 ≤ _)⟩)
    dsimp only [Pt.U, Pt.locs, Pt.cells, Pt.slots] at X30 l30 y30 z30 st30 hQ30
    subst l30 y30 z30
    obtain ⟨rfl, N30q, e30⟩ := hQ30
    have N30 := Fr.app N29 N30q
    refine own_byW (T' := T30) (g' := (mkF m 125 #[.val (.int k1), .val (.int a1), .val (.int b1), .val (.int c1), .val (.long p1), .second, .val (.long q1), .second, .val (.int (0 : Int32)), .val (.int (own_pk a1)), .val (.int (own_pk b1)), .val (.int (own_pk c1)), .val (.ref x25), .val (.long (own_max (p1 &&& (9223372036854775807 : Int64)))), .second, .val (.long (q1 &&& (9223372036854775807 : Int64))), .second, .val (.ref b27), .val (.ref x25), .val (.int (0 : Int32))] [(.int (1 : Int32))])) (fun _ k => st30.trans k) ?_
    refine own_retW (s := s) X30 hlk hS29 (by rw [e30]; exact (Nat.le_refl _)) hZ29 hEL C29 e30 (v := some (.int (1 : Int32))) (fun h => by rw [Bd.returns] at h; cases h) (fun fs hr => retN X30 hx (t := .boolean) Bd.returns (by simp) (hb hby at_125) hr) ?_ (by decide) (by decide)
    rw [e30]
    exact ⟨rfl, N30⟩
  · skip
    rw [hq21]
    refine own_byW (T' := s₁) (g' := (mkF m 6 #[.val (.int k1), .val (.int a1), .val (.int b1), .val (.int c1), .val (.long p1), .second, .val (.long q1), .second, .val (.int (1 : Int32)), .unset, .unset, .unset, .unset, .unset, .unset, .unset, .unset, .unset, .unset, .unset] [(.int a1)])) (fun _ k => XS.iloadN X0.here hx rfl (hb hby at_5) rfl k) ?_
    obtain ⟨_, _, ⟨T31, L31, k31, n31⟩, -, X31, ⟨Lc31, hQ31, l31, y31, z31⟩, st31⟩ := Jvm.LawKit.callS X0 hx (y := (⟨"com/example/shelfgraph/shelfgraph/ingest/RecordPositionInputNamePinLaw", "pick", "(I)C"⟩ : MethodName)) hown (mvT hZ (hw _ (List.mem_of_getElem? (i := 0) rfl))) (mvT hZ (hw _ (List.mem_of_getElem? (i := 1) rfl))) (mvT hZ (hw _ (List.mem_of_getElem? (i := 2) rfl))) (mvT hZ (hw _ (List.mem_of_getElem? (i := 3) rfl))) (by decide) (backOf (W := 0) (rm1 l Z a0 hw [] a1  h0 n0 Z0 ) hZ (hw _ (List.mem_of_getElem? (i := 3) rfl)) (hw _ (List.mem_of_getElem? (i := 2) rfl)) (by decide) (by decide)) (g := (mkF m 6 #[.val (.int k1), .val (.int a1), .val (.int b1), .val (.int c1), .val (.long p1), .second, .val (.long q1), .second, .val (.int (1 : Int32)), .unset, .unset, .unset, .unset, .unset, .unset, .unset, .unset, .unset, .unset, .unset] [(.int a1)])) rfl (by rw [hml]; rfl) (argsL := [(.int a1)]) (rest := []) (lenOf pd_9 rfl) rfl (by show 2 * 0 + _ ≤ _; exact Nat.le_of_eq rfl) (hb hby at_6) (fun _ _ => ⟨rfl, e0, (by decide : 0 + 0 ≤ _), (by decide : 0 + 0 ≤ _)⟩)
    dsimp only [Pt.U, Pt.locs, Pt.cells, Pt.slots] at X31 l31 y31 z31 st31 hQ31
    subst l31 y31 z31
    obtain ⟨rfl, N31q, e31⟩ := hQ31
    have N31 := Fr.app N0 N31q
    refine own_byW (T' := T31) (g' := (mkF m 9 #[.val (.int k1), .val (.int a1), .val (.int b1), .val (.int c1), .val (.long p1), .second, .val (.long q1), .second, .val (.int (1 : Int32)), .unset, .unset, .unset, .unset, .unset, .unset, .unset, .unset, .unset, .unset, .unset] [(.int (own_pk a1))])) (fun _ k => st31 _ k) ?_
    refine own_byW (T' := T31) (g' := (mkF m 11 #[.val (.int k1), .val (.int a1), .val (.int b1), .val (.int c1), .val (.long p1), .second, .val (.long q1), .second, .val (.int (1 : Int32)), .val (.int (own_pk a1)), .unset, .unset, .unset, .unset, .unset, .unset, .unset, .unset, .unset, .unset] [])) (fun _ k => XS.istore X31.here hx rfl (hb hby at_9) rfl (l' := #[.val (.int k1), .val (.int a1), .val (.int b1), .val (.int c1), .val (.long p1), .second, .val (.long q1), .second, .val (.int (1 : Int32)), .val (.int (own_pk a1)), .unset, .unset, .unset, .unset, .unset, .unset, .unset, .unset, .unset, .unset]) rfl k) ?_
    refine own_byW (T' := T31) (g' := (mkF m 12 #[.val (.int k1), .val (.int a1), .val (.int b1), .val (.int c1), .val (.long p1), .second, .val (.long q1), .second, .val (.int (1 : Int32)), .val (.int (own_pk a1)), .unset, .unset, .unset, .unset, .unset, .unset, .unset, .unset, .unset, .unset] [(.int b1)])) (fun _ k => XS.iloadN X31.here hx rfl (hb hby at_11) rfl k) ?_
    obtain ⟨_, _, ⟨T32, L32, k32, n32⟩, -, X32, ⟨Lc32, hQ32, l32, y32, z32⟩, st32⟩ := Jvm.LawKit.callS X31 hx (y := (⟨"com/example/shelfgraph/shelfgraph/ingest/RecordPositionInputNamePinLaw", "pick", "(I)C"⟩ : MethodName)) hown (mvT hZ (hw _ (List.mem_of_getElem? (i := 0) rfl))) (mvT hZ (hw _ (List.mem_of_getElem? (i := 1) rfl))) (mvT hZ (hw _ (List.mem_of_getElem? (i := 2) rfl))) (mvT hZ (hw _ (List.mem_of_getElem? (i := 3) rfl))) (by decide) (backOf (W := 0) (rm1 l Z a0 hw [] b1  h0 n0 Z0 ) hZ (hw _ (List.mem_of_getElem? (i := 3) rfl)) (hw _ (List.mem_of_getElem? (i := 2) rfl)) (by decide) (by decide)) (g := (mkF m 12 #[.val (.int k1), .val (.int a1), .val (.int b1), .val (.int c1), .val (.long p1), .second, .val (.long q1), .second, .val (.int (1 : Int32)), .val (.int (own_pk a1)), .unset, .unset, .unset, .unset, .unset, .unset, .unset, .unset, .unset, .unset] [(.int b1)])) rfl (by rw [hml]; rfl) (argsL := [(.int b1)]) (rest := []) (lenOf pd_9 rfl) rfl (by show 2 * 0 + _ ≤ _; exact Nat.le_of_eq rfl) (hb hby at_12) (fun _ _ => ⟨rfl, e31, (by decide : (0 + 0) + 0 ≤ _), (by decide : (0 + 0) + 0 ≤ _)⟩)
    dsimp only [Pt.U, Pt.locs, Pt.cells, Pt.slots] at X32 l32 y32 z32 st32 hQ32
    subst l32 y32 z32
    obtain ⟨rfl, N32q, e32⟩ := hQ32
    have N32 := Fr.app N31 N32q
    refine own_byW (T' := T32) (g' := (mkF m 15 #[.val (.int k1), .val (.int a1), .val (.int b1), .val (.int c1), .val (.long p1), .second, .val (.long q1), .second, .val (.int (1 : Int32)), .val (.int (own_pk a1)), .unset, .unset, .unset, .unset, .unset, .unset, .unset, .unset, .unset, .unset] [(.int (own_pk b1))])) (fun _ k => st32 _ k) ?_
    refine own_byW (T' := T32) (g' := (mkF m 17 #[.val (.int k1), .val (.int a1), .val (.int b1), .val (.int c1), .val (.long p1), .second, .val (.long q1), .second, .val (.int (1 : Int32)), .val (.int (own_pk a1)), .val (.int (own_pk b1)), .unset, .unset, .unset, .unset, .unset, .unset, .unset, .unset, .unset] [])) (fun _ k => XS.istore X32.here hx rfl (hb hby at_15) rfl (l' := #[.val (.int k1), .val (.int a1), .val (.int b1), .val (.int c1), .val (.long p1), .second, .val (.long q1), .second, .val (.int (1 : Int32)), .val (.int (own_pk a1)), .val (.int (own_pk b1)), .unset, .unset, .unset, .unset, .unset, .unset, .unset, .unset, .unset]) rfl k) ?_
    refine own_byW (T' := T32) (g' := (mkF m 18 #[.val (.int k1), .val (.int a1), .val (.int b1), .val (.int c1), .val (.long p1), .second, .val (.long q1), .second, .val (.int (1 : Int32)), .val (.int (own_pk a1)), .val (.int (own_pk b1)), .unset, .unset, .unset, .unset, .unset, .unset, .unset, .unset, .unset] [(.int c1)])) (fun _ k => XS.iloadN X32.here hx rfl (hb hby at_17) rfl k) ?_
    obtain ⟨_, _, ⟨T33, L33, k33, n33⟩, -, X33, ⟨Lc33, hQ33, l33, y33, z33⟩, st33⟩ := Jvm.LawKit.callS X32 hx (y := (⟨"com/example/shelfgraph/shelfgraph/ingest/RecordPositionInputNamePinLaw", "pick", "(I)C"⟩ : MethodName)) hown (mvT hZ (hw _ (List.mem_of_getElem? (i := 0) rfl))) (mvT hZ (hw _ (List.mem_of_getElem? (i := 1) rfl))) (mvT hZ (hw _ (List.mem_of_getElem? (i := 2) rfl))) (mvT hZ (hw _ (List.mem_of_getElem? (i := 3) rfl))) (by decide) (backOf (W := 0) (rm1 l Z a0 hw [] c1  h0 n0 Z0 ) hZ (hw _ (List.mem_of_getElem? (i := 3) rfl)) (hw _ (List.mem_of_getElem? (i := 2) rfl)) (by decide) (by decide)) (g := (mkF m 18 #[.val (.int k1), .val (.int a1), .val (.int b1), .val (.int c1), .val (.long p1), .second, .val (.long q1), .second, .val (.int (1 : Int32)), .val (.int (own_pk a1)), .val (.int (own_pk b1)), .unset, .unset, .unset, .unset, .unset, .unset, .unset, .unset, .unset] [(.int c1)])) rfl (by rw [hml]; rfl) (argsL := [(.int c1)]) (rest := []) (lenOf pd_9 rfl) rfl (by show 2 * 0 + _ ≤ _; exact Nat.le_of_eq rfl) (hb hby at_18) (fun _ _ => ⟨rfl, e32, (by decide : ((0 + 0) + 0) + 0 ≤ _), (by decide : ((0 + 0) + 0) + 0 ≤ _)⟩)
    dsimp only [Pt.U, Pt.locs, Pt.cells, Pt.slots] at X33 l33 y33 z33 st33 hQ33
    subst l33 y33 z33
    obtain ⟨rfl, N33q, e33⟩ := hQ33
    have N33 := Fr.app N32 N33q
    refine own_byW (T' := T33) (g' := (mkF m 21 #[.val (.int k1), .val (.int a1), .val (.int b1), .val (.int c1), .val (.long p1), .second, .val (.long q1), .second, .val (.int (1 : Int32)), .val (.int (own_pk a1)), .val (.int (own_pk b1)), .unset, .unset, .unset, .unset, .unset, .unset, .unset, .unset, .unset] [(.int (own_pk c1))])) (fun _ k => st33 _ k) ?_
    refine own_byW (T' := T33) (g' := (mkF m 23 #[.val (.int k1), .val (.int a1), .val (.int b1), .val (.int c1), .val (.long p1), .second, .val (.long q1), .second, .val (.int (1 : Int32)), .val (.int (own_pk a1)), .val (.int (own_pk b1)), .val (.int (own_pk c1)), .unset, .unset, .unset, .unset, .unset, .unset, .unset, .unset] [])) (fun _ k => XS.istore X33.here hx rfl (hb hby at_21) rfl (l' := #[.val (.int k1), .val (.int a1), .val (.int b1), .val (.int c1), .val (.long p1), .second, .val (.long q1), .second, .val (.int (1 : Int32)), .val (.int (own_pk a1)), .val (.int (own_pk b1)), .val (.int (own_pk c1)), .unset, .unset, .unset, .unset, .unset, .unset, .unset, .unset]) rfl k) ?_
    refine own_byW (T' := T33) (g' := (mkF m 25 #[.val (.int k1), .val (.int a1), .val (.int b1), .val (.int c1), .val (.long p1), .second, .val (.long q1), .second, .val (.int (1 : Int32)), .val (.int (own_pk a1)), .val (.int (own_pk b1)), .val (.int (own_pk c1)), .unset, .unset, .unset, .unset, .unset, .unset, .unset, .unset] [(.int (1 : Int32))])) (fun _ k => XS.iload X33.here hx rfl (hb hby at_23) rfl k) ?_
    refine own_byW (T' := T33) (g' := (mkF m 27 #[.val (.int k1), .val (.int a1), .val (.int b1), .val (.int c1), .val (.long p1), .second, .val (.long q1), .second, .val (.int (1 : Int32)), .val (.int (own_pk a1)), .val (.int (own_pk b1)), .val (.int (own_pk c1)), .unset, .unset, .unset, .unset, .unset, .unset, .unset, .unset] [(.int (own_pk a1)), (.int (1 : Int32))])) (fun _ k => XS.iload X33.here hx rfl (hb hby at_25) rfl k) ?_
    refine own_byW (T' := T33) (g' := (mkF m 29 #[.val (.int k1), .val (.int a1), .val (.int b1), .val (.int c1), .val (.long p1), .second, .val (.long q1), .second, .val (.int (1 : Int32)), .val (.int (own_pk a1)), .val (.int (own_pk b1)), .val (.int (own_pk c1)), .unset, .unset, .unset, .unset, .unset, .unset, .unset, .unset] [(.int (own_pk b1)), (.int (own_pk a1)), (.int (1 : Int32))])) (fun _ k => XS.iload X33.here hx rfl (hb hby at_27) rfl k) ?_
    refine own_byW (T' := T33) (g' := (mkF m 31 #[.val (.int k1), .val (.int a1), .val (.int b1), .val (.int c1), .val (.long p1), .second, .val (.long q1), .second, .val (.int (1 : Int32)), .val (.int (own_pk a1)), .val (.int (own_pk b1)), .val (.int (own_pk c1)), .unset, .unset, .unset, .unset, .unset, .unset, .unset, .unset] [(.int (own_pk c1)), (.int (own_pk b1)), (.int (own_pk a1)), (.int (1 : Int32))])) (fun _ k => XS.iload X33.here hx rfl (hb hby at_29) rfl k) ?_
    by_cases h45 : own_pk a1 = (45 : Int32)
    · skip
      obtain ⟨_, _, ⟨T34, L34, k34, n34⟩, -, X34, ⟨Lc34, hQ34, l34, y34, z34⟩, st34⟩ := Jvm.LawKit.callS X33 hx (y := (⟨"com/example/shelfgraph/shelfgraph/ingest/RecordPositionInputNamePinLaw", "make", "(ICCC)Ljava/lang/String;"⟩ : MethodName)) hown (mvT hZ (hw _ (List.mem_of_getElem? (i := 4) rfl))) (mvT hZ (hw _ (List.mem_of_getElem? (i := 5) rfl))) (mvT hZ (hw _ (List.mem_of_getElem? (i := 2) rfl))) (mvT hZ (hw _ (List.mem_of_getElem? (i := 6) rfl))) (by decide) (backOf (W := 0) (make_1 l Z a0 hw [] (own_pk a1) (own_pk b1) (own_pk c1) cs h0 n0 Z0 (Sta.ext (O0).2 S_CS) hcs (own_pk255 a1)) hZ (hw _ (List.mem_of_getElem? (i := 6) rfl)) (hw _ (List.mem_of_getElem? (i := 2) rfl)) (by decide) (by decide)) (g := (mkF m 31 #[.val (.int k1), .val (.int a1), .val (.int b1), .val (.int c1), .val (.long p1), .second, .val (.long q1), .second, .val (.int (1 : Int32)), .val (.int (own_pk a1)), .val (.int (own_pk b1)), .val (.int (own_pk c1)), .unset, .unset, .unset, .unset, .unset, .unset, .unset, .unset] [(.int (own_pk c1)), (.int (own_pk b1)), (.int (own_pk a1)), (.int (1 : Int32))])) rfl (by rw [hml]; rfl) (argsL := [(.int (1 : Int32)), (.int (own_pk a1)), (.int (own_pk b1)), (.int (own_pk c1))]) (rest := []) (lenOf pd_10 rfl) rfl (by show 2 * 0 + _ ≤ _; exact Nat.le_of_eq rfl) (hb hby at_31) (fun _ _ => ⟨rfl, e33, (by decide : (((0 + 0) + 0) + 0) + 3 ≤ _), (by decide : (((0 + 0) + 0) + 0) + 6 ≤ _)⟩)
      dsimp only [Pt.U, Pt.locs, Pt.cells, Pt.slots] at X34 l34 y34 z34 st34 hQ34
      subst l34 y34 z34
      obtain ⟨x34, t34, kb34, rfl, N34q, K34, zx34, E34, Fc34, Fv34, V34⟩ := hQ34
      have N34 := Fr.app N33 N34q
      have KK34 : Keep h0 T34.heap [] := Keep.trans (Keep.refl h0 []) K34 all0
      have C34 : CHr Z consts_1 s.vm s.heap s.vm T34.heap := CHr.trans C0 (CHr.keep K34 sf0 C0.1)
      refine own_byW (T' := T34) (g' := (mkF m 34 #[.val (.int k1), .val (.int a1), .val (.int b1), .val (.int c1), .val (.long p1), .second, .val (.long q1), .second, .val (.int (1 : Int32)), .val (.int (own_pk a1)), .val (.int (own_pk b1)), .val (.int (own_pk c1)), .unset, .unset, .unset, .unset, .unset, .unset, .unset, .unset] [(.ref x34)])) (fun _ k => st34 _ k) ?_
      refine own_byW (T' := T34) (g' := (mkF m 36 #[.val (.int k1), .val (.int a1), .val (.int b1), .val (.int c1), .val (.long p1), .second, .val (.long q1), .second, .val (.int (1 : Int32)), .val (.int (own_pk a1)), .val (.int (own_pk b1)), .val (.int (own_pk c1)), .val (.ref x34), .unset, .unset, .unset, .unset, .unset, .unset, .unset] [])) (fun _ k => XS.astore X34.here hx rfl (hb hby at_34) rfl rfl (l' := #[.val (.int k1), .val (.int a1), .val (.int b1), .val (.int c1), .val (.long p1), .second, .val (.long q1), .second, .val (.int (1 : Int32)), .val (.int (own_pk a1)), .val (.int (own_pk b1)), .val (.int (own_pk c1)), .val (.ref x34), .unset, .unset, .unset, .unset, .unset, .unset, .unset]) rfl k) ?_
      refine own_byW (T' := T34) (g' := (mkF m 37 #[.val (.int k1), .val (.int a1), .val (.int b1), .val (.int c1), .val (.long p1), .second, .val (.long q1), .second, .val (.int (1 : Int32)), .val (.int (own_pk a1)), .val (.int (own_pk b1)), .val (.int (own_pk c1)), .val (.ref x34), .unset, .unset, .unset, .unset, .unset, .unset, .unset] [(.long (1 : Int64))])) (fun _ k => XS.lconst X34.here hx rfl (hb hby at_36) k) ?_
      refine own_byW (T' := T34) (g' := (mkF m 39 #[.val (.int k1), .val (.int a1), .val (.int b1), .val (.int c1), .val (.long p1), .second, .val (.long q1), .second, .val (.int (1 : Int32)), .val (.int (own_pk a1)), .val (.int (own_pk b1)), .val (.int (own_pk c1)), .val (.ref x34), .unset, .unset, .unset, .unset, .unset, .unset, .unset] [(.long p1), (.long (1 : Int64))])) (fun _ k => XS.lload X34.here hx rfl (hb hby at_37) rfl k) ?_
      refine own_byW (T' := T34) (g' := (mkF m 42 #[.val (.int k1), .val (.int a1), .val (.int b1), .val (.int c1), .val (.long p1), .second, .val (.long q1), .second, .val (.int (1 : Int32)), .val (.int (own_pk a1)), .val (.int (own_pk b1)), .val (.int (own_pk c1)), .val (.ref x34), .unset, .unset, .unset, .unset, .unset, .unset, .unset] [(.long (9223372036854775807 : Int64)), (.long p1), (.long (1 : Int64))])) (fun _ k => ldc2J X34 hx hown (mvT hZ (hw _ (List.mem_of_getElem? (i := 29) rfl))) rfl (hb hby at_39) k) ?_
      refine own_byW (T' := T34) (g' := (mkF m 43 #[.val (.int k1), .val (.int a1), .val (.int b1), .val (.int c1), .val (.long p1), .second, .val (.long q1), .second, .val (.int (1 : Int32)), .val (.int (own_pk a1)), .val (.int (own_pk b1)), .val (.int (own_pk c1)), .val (.ref x34), .unset, .unset, .unset, .unset, .unset, .unset, .unset] [(.long (p1 &&& (9223372036854775807 : Int64))), (.long (1 : Int64))])) (fun _ k => XS.land X34.here hx rfl (hb hby at_42) rfl k) ?_
      obtain ⟨_, _, ⟨T35, L35, k35, n35⟩, -, X35, ⟨Lc35, hQ35, l35, y35, z35⟩, st35⟩ := Jvm.LawKit.callS X34 hx (y := (⟨"java/lang/Math", "max", "(JJ)J"⟩ : MethodName)) hown (mvT hZ (hw _ (List.mem_of_getElem? (i := 30) rfl))) (mvT hZ (hw _ (List.mem_of_getElem? (i := 31) rfl))) (mvT hZ (hw _ (List.mem_of_getElem? (i := 32) rfl))) (mvT hZ (hw _ (List.mem_of_getElem? (i := 33) rfl))) (by decide) (backOf (W := 0) (rm6 l Z a0 hw [] (p1 &&& (9223372036854775807 : Int64))  T34.heap n0 (Nat.le_trans Z0 K34.1) ) hZ (hw _ (List.mem_of_getElem? (i := 33) rfl)) (hw _ (List.mem_of_getElem? (i := 32) rfl)) (by decide) (by decide)) (g := (mkF m 43 #[.val (.int k1), .val (.int a1), .val (.int b1), .val (.int c1), .val (.long p1), .second, .val (.long q1), .second, .val (.int (1 : Int32)), .val (.int (own_pk a1)), .val (.int (own_pk b1)), .val (.int (own_pk c1)), .val (.ref x34), .unset, .unset, .unset, .unset, .unset, .unset, .unset] [(.long (p1 &&& (9223372036854775807 : Int64))), (.long (1 : Int64))])) rfl (by rw [hml]; rfl) (argsL := [(.long (1 : Int64)), (.long (p1 &&& (9223372036854775807 : Int64)))]) (rest := []) (lenOf pd_11 rfl) rfl (by show 2 * 0 + _ ≤ _; exact Nat.le_of_eq rfl) (hb hby at_43) (fun _ _ => ⟨rfl, rfl, (by decide : ((((0 + 0) + 0) + 0) + 3) + 0 ≤ _), (by decide : ((((0 + 0) + 0) + 0) + 6) + 0 ≤ _)⟩)
      dsimp only [Pt.U, Pt.locs, Pt.cells, Pt.slots] at X35 l35 y35 z35 st35 hQ35
      subst l35 y35 z35
      obtain ⟨rfl, N35q, e35⟩ := hQ35
      have N35 := Fr.app N34 N35q
      refine own_byW (T' := T35) (g' := (mkF m 46 #[.val (.int k1), .val (.int a1), .val (.int b1), .val (.int c1), .val (.long p1), .second, .val (.long q1), .second, .val (.int (1 : Int32)), .val (.int (own_pk a1)), .val (.int (own_pk b1)), .val (.int (own_pk c1)), .val (.ref x34), .unset, .unset, .unset, .unset, .unset, .unset, .unset] [(.long (own_max (p1 &&& (9223372036854775807 : Int64))))])) (fun _ k => st35 _ k) ?_
      refine own_byW (T' := T35) (g' := (mkF m 48 #[.val (.int k1), .val (.int a1), .val (.int b1), .val (.int c1), .val (.long p1), .second, .val (.long q1), .second, .val (.int (1 : Int32)), .val (.int (own_pk a1)), .val (.int (own_pk b1)), .val (.int (own_pk c1)), .val (.ref x34), .val (.long (own_max (p1 &&& (9223372036854775807 : Int64)))), .second, .unset, .unset, .unset, .unset, .unset] [])) (fun _ k => XS.lstore X35.here hx rfl (hb hby at_46) rfl (l' := #[.val (.int k1), .val (.int a1), .val (.int b1), .val (.int c1), .val (.long p1), .second, .val (.long q1), .second, .val (.int (1 : Int32)), .val (.int (own_pk a1)), .val (.int (own_pk b1)), .val (.int (own_pk c1)), .val (.ref x34), .val (.long (own_max (p1 &&& (9223372036854775807 : Int64)))), .second, .unset, .unset, .unset, .unset, .unset]) rfl k) ?_
      refine own_byW (T' := T35) (g' := (mkF m 50 #[.val (.int k1), .val (.int a1), .val (.int b1), .val (.int c1), .val (.long p1), .second, .val (.long q1), .second, .val (.int (1 : Int32)), .val (.int (own_pk a1)), .val (.int (own_pk b1)), .val (.int (own_pk c1)), .val (.ref x34), .val (.long (own_max (p1 &&& (9223372036854775807 : Int64)))), .second, .unset, .unset, .unset, .unset, .unset] [(.long q1)])) (fun _ k => XS.lload X35.here hx rfl (hb hby at_48) rfl k) ?_
      refine own_byW (T' := T35) (g' := (mkF m 53 #[.val (.int k1), .val (.int a1), .val (.int b1), .val (.int c1), .val (.long p1), .second, .val (.long q1), .second, .val (.int (1 : Int32)), .val (.int (own_pk a1)), .val (.int (own_pk b1)), .val (.int (own_pk c1)), .val (.ref x34), .val (.long (own_max (p1 &&& (9223372036854775807 : Int64)))), .second, .unset, .unset, .unset, .unset, .unset] [(.long (9223372036854775807 : Int64)), (.long q1)])) (fun _ k => ldc2J X35 hx hown (mvT hZ (hw _ (List.mem_of_getElem? (i := 29) rfl))) rfl (hb hby at_50) k) ?_
      refine own_byW (T' := T35) (g' := (mkF m 54 #[.val (.int k1), .val (.int a1), .val (.int b1), .val (.int c1), .val (.long p1), .second, .val (.long q1), .second, .val (.int (1 : Int32)), .val (.int (own_pk a1)), .val (.int (own_pk b1)), .val (.int (own_pk c1)), .val (.ref x34), .val (.long (own_max (p1 &&& (9223372036854775807 : Int64)))), .second, .unset, .unset, .unset, .unset, .unset] [(.long (q1 &&& (9223372036854775807 : Int64)))])) (fun _ k => XS.land X35.here hx rfl (hb hby at_53) rfl k) ?_
      refine own_byW (T' := T35) (g' := (mkF m 56 #[.val (.int k1), .val (.int a1), .val (.int b1), .val (.int c1), .val (.long p1), .second, .val (.long q1), .second, .val (.int (1 : Int32)), .val (.int (own_pk a1)), .val (.int (own_pk b1)), .val (.int (own_pk c1)), .val (.ref x34), .val (.long (own_max (p1 &&& (9223372036854775807 : Int64)))), .second, .val (.long (q1 &&& (9223372036854775807 : Int64))), .second, .unset, .unset, .unset] [])) (fun _ k => XS.lstore X35.here hx rfl (hb hby at_54) rfl (l' := #[.val (.int k1), .val (.int a1), .val (.int b1), .val (.int c1), .val (.long p1), .second, .val (.long q1), .second, .val (.int (1 : Int32)), .val (.int (own_pk a1)), .val (.int (own_pk b1)), .val (.int (own_pk c1)), .val (.ref x34), .val (.long (own_max (p1 &&& (9223372036854775807 : Int64)))), .second, .val (.long (q1 &&& (9223372036854775807 : Int64))), .second, .unset, .unset, .unset]) rfl k) ?_
      obtain ⟨T36, h36, X36, e36, E36, A36, D36, -, st36⟩ := newO X35 hx hZ hown (hw _ (List.mem_of_getElem? (i := 34) rfl)) (hw _ (List.mem_of_getElem? (i := 35) rfl)) (hw _ (List.mem_of_getElem? (i := 36) rfl)) e35 (g := (mkF m 56 #[.val (.int k1), .val (.int a1), .val (.int b1), .val (.int c1), .val (.long p1), .second, .val (.long q1), .second, .val (.int (1 : Int32)), .val (.int (own_pk a1)), .val (.int (own_pk b1)), .val (.int (own_pk c1)), .val (.ref x34), .val (.long (own_max (p1 &&& (9223372036854775807 : Int64)))), .second, .val (.long (q1 &&& (9223372036854775807 : Int64))), .second, .unset, .unset, .unset] [])) rfl (hb hby at_56) (by decide) (by decide)
      obtain ⟨b36, g36⟩ : ∃ z, z = T34.heap.size := ⟨_, rfl⟩
      rw [← g36] at A36 D36 st36
      have E_b36 : Exa Z h36 b36 "com/example/shelfgraph/shelfgraph/ingest/RecordPosition" := A36
      have F_input_b36 : Fld Z h36 b36 "com/example/shelfgraph/shelfgraph/ingest/RecordPosition" "input" "Ljava/lang/String;" .null := D36 (Or.inr (hw _ (List.mem_of_getElem? (i := 52) rfl))) (ty := (.object "java/lang/String")) (by decide)
      have F_number_b36 : Fld Z h36 b36 "com/example/shelfgraph/shelfgraph/ingest/RecordPosition" "number" "J" (.long (0 : Int64)) := D36 (Or.inr (hw _ (List.mem_of_getElem? (i := 54) rfl))) (ty := .long) (by decide)
      have F_offset_b36 : Fld Z h36 b36 "com/example/shelfgraph/shelfgraph/ingest/RecordPosition" "offset" "J" (.long (0 : Int64)) := D36 (Or.inr (hw _ (List.mem_of_getElem? (i := 56) rfl))) (ty := .long) (by decide)
      have g_b36 : n0 ≤ b36 := Nat.le_trans (Nat.le_trans Z0 K34.1) (Nat.le_of_eq g36.symm)
      have sz_b36 : h0.size ≤ b36 := Nat.le_trans KK34.1 (Nat.le_of_eq g36.symm)
      have K36 : Keep h0 h36 [] := Keep.ext KK34 E36
      have C36 : CHr Z consts_1 s.vm s.heap s.vm h36 := CHr.trans C34 (CHr.ext E36 C34.1)
      refine own_byW (T' := T36) (g' := (mkF m 59 #[.val (.int k1), .val (.int a1), .val (.int b1), .val (.int c1), .val (.long p1), .second, .val (.long q1), .second, .val (.int (1 : Int32)), .val (.int (own_pk a1)), .val (.int (own_pk b1)), .val (.int (own_pk c1)), .val (.ref x34), .val (.long (own_max (p1 &&& (9223372036854775807 : Int64)))), .second, .val (.long (q1 &&& (9223372036854775807 : Int64))), .second, .unset, .unset, .unset] [(.ref b36)])) (fun _ k => st36 _ k) ?_
      refine own_byW (T' := T36) (g' := (mkF m 60 #[.val (.int k1), .val (.int a1), .val (.int b1), .val (.int c1), .val (.long p1), .second, .val (.long q1), .second, .val (.int (1 : Int32)), .val (.int (own_pk a1)), .val (.int (own_pk b1)), .val (.int (own_pk c1)), .val (.ref x34), .val (.long (own_max (p1 &&& (9223372036854775807 : Int64)))), .second, .val (.long (q1 &&& (9223372036854775807 : Int64))), .second, .unset, .unset, .unset] [(.ref b36), (.ref b36)])) (fun _ k => XS.dup X36.here hx rfl (hb hby at_59) rfl rfl k) ?_
      refine own_byW (T' := T36) (g' := (mkF m 62 #[.val (.int k1), .val (.int a1), .val (.int b1), .val (.int c1), .val (.long p1), .second, .val (.long q1), .second, .val (.int (1 : Int32)), .val (.int (own_pk a1)), .val (.int (own_pk b1)), .val (.int (own_pk c1)), .val (.ref x34), .val (.long (own_max (p1 &&& (9223372036854775807 : Int64)))), .second, .val (.long (q1 &&& (9223372036854775807 : Int64))), .second, .unset, .unset, .unset] [(.ref x34), (.ref b36), (.ref b36)])) (fun _ k => XS.aload X36.here hx rfl (hb hby at_60) rfl rfl k) ?_
      refine own_byW (T' := T36) (g' := (mkF m 64 #[.val (.int k1), .val (.int a1), .val (.int b1), .val (.int c1), .val (.long p1), .second, .val (.long q1), .second, .val (.int (1 : Int32)), .val (.int (own_pk a1)), .val (.int (own_pk b1)), .val (.int (own_pk c1)), .val (.ref x34), .val (.long (own_max (p1 &&& (9223372036854775807 : Int64)))), .second, .val (.long (q1 &&& (9223372036854775807 : Int64))), .second, .unset, .unset, .unset] [(.long (own_max (p1 &&& (9223372036854775807 : Int64)))), (.ref x34), (.ref b36), (.ref b36)])) (fun _ k => XS.lload X36.here hx rfl (hb hby at_62) rfl k) ?_
      refine own_byW (T' := T36) (g' := (mkF m 66 #[.val (.int k1), .val (.int a1), .val (.int b1), .val (.int c1), .val (.long p1), .second, .val (.long q1), .second, .val (.int (1 : Int32)), .val (.int (own_pk a1)), .val (.int (own_pk b1)), .val (.int (own_pk c1)), .val (.ref x34), .val (.long (own_max (p1 &&& (9223372036854775807 : Int64)))), .second, .val (.long (q1 &&& (9223372036854775807 : Int64))), .second, .unset, .unset, .unset] [(.long (q1 &&& (9223372036854775807 : Int64))), (.long (own_max (p1 &&& (9223372036854775807 : Int64)))), (.ref x34), (.ref b36), (.ref b36)])) (fun _ k => XS.lload X36.here hx rfl (hb hby at_64) rfl k) ?_
      obtain ⟨_, _, ⟨T37, L37, k37, n37⟩, -, X37, hSq37, hgq37, ⟨Lc37, hQ37, l37, y37, z37, Cq37⟩, st37⟩ := X36.specialBackS hx (y := (⟨"com/example/shelfgraph/shelfgraph/ingest/RecordPosition", "<init>", "(Ljava/lang/String;JJ)V"⟩ : MethodName)) rfl hown (mvT hZ (hw _ (List.mem_of_getElem? (i := 37) rfl))) (mvT hZ (hw _ (List.mem_of_getElem? (i := 38) rfl))) (mvT hZ (hw _ (List.mem_of_getElem? (i := 39) rfl))) (by decide) (own_backSH (s := s) (EL := consts_1) (W := 1) (rm7 l Z a0 hw [] b36 x34 (own_max (p1 &&& (9223372036854775807 : Int64))) (q1 &&& (9223372036854775807 : Int64))  h36 n0 (Nat.le_trans (Nat.le_trans Z0 K34.1) E36.1) E_b36 F_input_b36 F_number_b36 F_offset_b36 g_b36 (own_max1 _) (own_pos _)) hZ (hw _ (List.mem_of_getElem? (i := 39) rfl)) (hw _ (List.mem_of_getElem? (i := 36) rfl)) (by decide) (by decide) hEL C36.1 (fun _ _ => trivial)) (g := (mkF m 66 #[.val (.int k1), .val (.int a1), .val (.int b1), .val (.int c1), .val (.long p1), .second, .val (.long q1), .second, .val (.int (1 : Int32)), .val (.int (own_pk a1)), .val (.int (own_pk b1)), .val (.int (own_pk c1)), .val (.ref x34), .val (.long (own_max (p1 &&& (9223372036854775807 : Int64)))), .second, .val (.long (q1 &&& (9223372036854775807 : Int64))), .second, .unset, .unset, .unset] [(.long (q1 &&& (9223372036854775807 : Int64))), (.long (own_max (p1 &&& (9223372036854775807 : Int64)))), (.ref x34), (.ref b36), (.ref b36)])) rfl (by rw [hml]; rfl) (Steps.refl _) (a := b36) (argsL := [(.ref x34), (.long (own_max (p1 &&& (9223372036854775807 : Int64)))), (.long (q1 &&& (9223372036854775807 : Int64)))]) (rest := [(.ref b36)]) (lenOf pd_12 rfl) rfl (by show 2 * 0 + _ ≤ _; exact Nat.le_of_eq rfl) (hb hby at_66) (fun _ _ => ⟨rfl, e36, (by decide : ((((((0 + 0) + 0) + 0) + 3) + 0) + 1) + 2 ≤ _), (by decide : ((((((0 + 0) + 0) + 0) + 6) + 0) + 3) + 24 ≤ _)⟩)
      dsimp only [Pt.U, Pt.locs, Pt.cells, Pt.slots] at X37 l37 y37 z37 st37 hQ37 hSq37 hgq37 Cq37
      subst l37 y37 z37
      obtain ⟨rfl, N37q, K37, Fi37⟩ := hQ37
      have N37 := Fr.app N35 N37q
      have KK37 : Keep h0 T37.heap [] := Keep.trans K36 K37 (allS (Or.inr sz_b36) all0)
      have hS37 := foldS hS0 (T := T36) (by rw [e36]; exact (Nat.le_trans (Nat.le_trans hk0 K34.1) E36.1)) hSq37 hgq37
      have hZ37 : Z.Warmed39 (s.setVm T37.vm).vm := State.Warmed39.trans hZ hSq37.1
      have hown37 : (s.setVm T37.vm).vm.findClass "com/example/shelfgraph/shelfgraph/ingest/RecordPositionInputNamePinLaw" = some m.cls := by show T37.vm.findClass "com/example/shelfgraph/shelfgraph/ingest/RecordPositionInputNamePinLaw" = some m.cls; rw [hSq37.1.alike.findClass]; exact hown
      have X37 : Stand p l e room_1 (s.setVm T37.vm) m #[(.int k1), (.int a1), (.int b1), (.int c1), (.long p1), (.long q1)] below meth c T37 (((((L31 ++ Lc32) ++ Lc33) ++ Lc34) ++ Lc35) ++ Lc37) (((((((0 + 0) + 0) + 0) + 3) + 0) + 1) + 2) (((((((0 + 0) + 0) + 0) + 6) + 0) + 3) + 24) := X37
      have C37 : CHr Z consts_1 s.vm s.heap T37.vm T37.heap := CHr.trans C36 Cq37
      refine own_byW (T' := T37) (g' := (mkF m 69 #[.val (.int k1), .val (.int a1), .val (.int b1), .val (.int c1), .val (.long p1), .second, .val (.long q1), .second, .val (.int (1 : Int32)), .val (.int (own_pk a1)), .val (.int (own_pk b1)), .val (.int (own_pk c1)), .val (.ref x34), .val (.long (own_max (p1 &&& (9223372036854775807 : Int64)))), .second, .val (.long (q1 &&& (9223372036854775807 : Int64))), .second, .unset, .unset, .unset] [(.ref b36)])) (fun _ k => st37.trans k) ?_
      refine own_byW (T' := T37) (g' := (mkF m 71 #[.val (.int k1), .val (.int a1), .val (.int b1), .val (.int c1), .val (.long p1), .second, .val (.long q1), .second, .val (.int (1 : Int32)), .val (.int (own_pk a1)), .val (.int (own_pk b1)), .val (.int (own_pk c1)), .val (.ref x34), .val (.long (own_max (p1 &&& (9223372036854775807 : Int64)))), .second, .val (.long (q1 &&& (9223372036854775807 : Int64))), .second, .val (.ref b36), .unset, .unset] [])) (fun _ k => XS.astore X37.here hx rfl (hb hby at_69) rfl rfl (l' := #[.val (.int k1), .val (.int a1), .val (.int b1), .val (.int c1), .val (.long p1), .second, .val (.long q1), .second, .val (.int (1 : Int32)), .val (.int (own_pk a1)), .val (.int (own_pk b1)), .val (.int (own_pk c1)), .val (.ref x34), .val (.long (own_max (p1 &&& (9223372036854775807 : Int64)))), .second, .val (.long (q1 &&& (9223372036854775807 : Int64))), .second, .val (.ref b36), .unset, .unset]) rfl k) ?_
      refine own_byW (T' := T37) (g' := (mkF m 73 #[.val (.int k1), .val (.int a1), .val (.int b1), .val (.int c1), .val (.long p1), .second, .val (.long q1), .second, .val (.int (1 : Int32)), .val (.int (own_pk a1)), .val (.int (own_pk b1)), .val (.int (own_pk c1)), .val (.ref x34), .val (.long (own_max (p1 &&& (9223372036854775807 : Int64)))), .second, .val (.long (q1 &&& (9223372036854775807 : Int64))), .second, .val (.ref b36), .unset, .unset] [(.ref b36)])) (fun _ k => XS.aload X37.here hx rfl (hb hby at_71) rfl rfl k) ?_
      obtain ⟨cq38, kq38, q38a, q38b, q38c⟩ := isOf hZ37 rfl (Exa.keep E_b36 K37)
      obtain ⟨_, _, ⟨T38, L38, k38, n38⟩, -, X38, hSq38, hgq38, ⟨Lc38, hQ38, l38, y38, z38, Cq38⟩, st38⟩ := X37.virtualBackS hx (y := (⟨"com/example/shelfgraph/shelfgraph/ingest/RecordPosition", "inputName", "()Ljava/lang/String;"⟩ : MethodName)) (z := (⟨"com/example/shelfgraph/shelfgraph/ingest/RecordPosition", "inputName", "()Ljava/lang/String;"⟩ : MethodName)) hown37 (mvT hZ37 (hw _ (List.mem_of_getElem? (i := 57) rfl))) (mvT hZ37 (hw _ (List.mem_of_getElem? (i := 58) rfl))) (notFace_of_selects (args := #[]) (mvT hZ37 (hw _ (List.mem_of_getElem? (i := 60) rfl)))) (mvT hZ37 (hw _ (List.mem_of_getElem? (i := 60) rfl))) (mvT hZ37 (hw _ (List.mem_of_getElem? (i := 59) rfl))) (by decide) (own_backSH (s := s) (EL := consts_1) (W := 0) (inm_eq l Z a0 hw [] b36 x34 t34 kb34 cs T37.heap n0 (Nat.le_trans (Nat.le_trans (Nat.le_trans Z0 K34.1) E36.1) K37.1) Fi37 (Exa.keep (Exa.ext E36 E34) K37) (Fld.keep (Fld.ext E36 Fc34) K37 (ninS (Nat.ne_of_lt (Nat.lt_of_lt_of_le E34.lt (Nat.le_of_eq g36.symm))) nin0)) (Fld.keep (Fld.ext E36 Fv34) K37 (ninS (Nat.ne_of_lt (Nat.lt_of_lt_of_le E34.lt (Nat.le_of_eq g36.symm))) nin0)) (by have q := (Arv.keep (Arv.ext V34 E36) K37 (ninS (Nat.ne_of_lt (Nat.lt_of_lt_of_le V34.lt (Nat.le_of_eq g36.symm))) nin0)); rw [(own_b45 _).mpr h45] at q; exact q) (Sta.ext ((Old.keep (Old.ext (Old.keep O0 K34 all0) E36) K37 (allS g_b36 all0))).2 S_CS) hcs) hZ37 (hw _ (List.mem_of_getElem? (i := 61) rfl)) (hw _ (List.mem_of_getElem? (i := 36) rfl)) (by decide) (by decide) hEL C37.1 (fun _ _ => trivial)) q38a q38c (g := (mkF m 73 #[.val (.int k1), .val (.int a1), .val (.int b1), .val (.int c1), .val (.long p1), .second, .val (.long q1), .second, .val (.int (1 : Int32)), .val (.int (own_pk a1)), .val (.int (own_pk b1)), .val (.int (own_pk c1)), .val (.ref x34), .val (.long (own_max (p1 &&& (9223372036854775807 : Int64)))), .second, .val (.long (q1 &&& (9223372036854775807 : Int64))), .second, .val (.ref b36), .unset, .unset] [(.ref b36)])) rfl (by rw [hml]; rfl) (Steps.refl _) (argsL := []) (rest := []) (lenOf pd_13 rfl) rfl (by show 2 * 0 + _ ≤ _; exact Nat.le_of_eq rfl) (hb hby at_73) (fun _ _ => ⟨rfl, rfl, (by decide : (((((((0 + 0) + 0) + 0) + 3) + 0) + 1) + 2) + 4 ≤ _), (by decide : (((((((0 + 0) + 0) + 0) + 6) + 0) + 3) + 24) + 68 ≤ _)⟩)
      dsimp only [Pt.U, Pt.locs, Pt.cells, Pt.slots] at X38 l38 y38 z38 st38 hQ38 hSq38 hgq38 Cq38
      subst l38 y38 z38
      obtain ⟨y_38, t38, kb38, rfl, N38q, K38, E38, Fc38, Fv38, V38⟩ := hQ38
      have N38 := Fr.app N37 N38q
      have KK38 : Keep h0 T38.heap [] := Keep.trans KK37 K38 all0
      have hS38 := foldS hS37 (T := T37) (Nat.le_refl _) hSq38 hgq38
      have hZ38 : Z.Warmed39 (s.setVm T38.vm).vm := State.Warmed39.trans hZ37 hSq38.1
      have hown38 : (s.setVm T38.vm).vm.findClass "com/example/shelfgraph/shelfgraph/ingest/RecordPositionInputNamePinLaw" = some m.cls := by show T38.vm.findClass "com/example/shelfgraph/shelfgraph/ingest/RecordPositionInputNamePinLaw" = some m.cls; rw [hSq38.1.alike.findClass]; exact hown37
      have X38 : Stand p l e room_1 (s.setVm T38.vm) m #[(.int k1), (.int a1), (.int b1), (.int c1), (.long p1), (.long q1)] below meth c T38 ((((((L31 ++ Lc32) ++ Lc33) ++ Lc34) ++ Lc35) ++ Lc37) ++ Lc38) ((((((((0 + 0) + 0) + 0) + 3) + 0) + 1) + 2) + 4) ((((((((0 + 0) + 0) + 0) + 6) + 0) + 3) + 24) + 68) := X38
      have C38 : CHr Z consts_1 s.vm s.heap T38.vm T38.heap := CHr.trans C37 Cq38
      refine own_byW (T' := T38) (g' := (mkF m 76 #[.val (.int k1), .val (.int a1), .val (.int b1), .val (.int c1), .val (.long p1), .second, .val (.long q1), .second, .val (.int (1 : Int32)), .val (.int (own_pk a1)), .val (.int (own_pk b1)), .val (.int (own_pk c1)), .val (.ref x34), .val (.long (own_max (p1 &&& (9223372036854775807 : Int64)))), .second, .val (.long (q1 &&& (9223372036854775807 : Int64))), .second, .val (.ref b36), .unset, .unset] [(.ref y_38)])) (fun _ k => st38.trans k) ?_
      refine own_byW (T' := T38) (g' := (mkF m 78 #[.val (.int k1), .val (.int a1), .val (.int b1), .val (.int c1), .val (.long p1), .second, .val (.long q1), .second, .val (.int (1 : Int32)), .val (.int (own_pk a1)), .val (.int (own_pk b1)), .val (.int (own_pk c1)), .val (.ref x34), .val (.long (own_max (p1 &&& (9223372036854775807 : Int64)))), .second, .val (.long (q1 &&& (9223372036854775807 : Int64))), .second, .val (.ref b36), .val (.ref y_38), .unset] [])) (fun _ k => XS.astore X38.here hx rfl (hb hby at_76) rfl rfl (l' := #[.val (.int k1), .val (.int a1), .val (.int b1), .val (.int c1), .val (.long p1), .second, .val (.long q1), .second, .val (.int (1 : Int32)), .val (.int (own_pk a1)), .val (.int (own_pk b1)), .val (.int (own_pk c1)), .val (.ref x34), .val (.long (own_max (p1 &&& (9223372036854775807 : Int64)))), .second, .val (.long (q1 &&& (9223372036854775807 : Int64))), .second, .val (.ref b36), .val (.ref y_38), .unset]) rfl k) ?_
      refine own_byW (T' := T38) (g' := (mkF m 80 #[.val (.int k1), .val (.int a1), .val (.int b1), .val (.int c1), .val (.long p1), .second, .val (.long q1), .second, .val (.int (1 : Int32)), .val (.int (own_pk a1)), .val (.int (own_pk b1)), .val (.int (own_pk c1)), .val (.ref x34), .val (.long (own_max (p1 &&& (9223372036854775807 : Int64)))), .second, .val (.long (q1 &&& (9223372036854775807 : Int64))), .second, .val (.ref b36), .val (.ref y_38), .unset] [(.ref y_38)])) (fun _ k => XS.aload X38.here hx rfl (hb hby at_78) rfl rfl k) ?_
      refine own_byW (T' := T38) (g' := (mkF m 85 #[.val (.int k1), .val (.int a1), .val (.int b1), .val (.int c1), .val (.long p1), .second, .val (.long q1), .second, .val (.int (1 : Int32)), .val (.int (own_pk a1)), .val (.int (own_pk b1)), .val (.int (own_pk c1)), .val (.ref x34), .val (.long (own_max (p1 &&& (9223372036854775807 : Int64)))), .second, .val (.long (q1 &&& (9223372036854775807 : Int64))), .second, .val (.ref b36), .val (.ref y_38), .unset] [])) (fun _ k => XS.ifnonnullYes X38.here hx rfl (pc0 := 80) (pc' := 85) rfl (hb hby at_80) rfl (by decide) (by decide) k) ?_
      refine own_byW (T' := T38) (g' := (mkF m 87 #[.val (.int k1), .val (.int a1), .val (.int b1), .val (.int c1), .val (.long p1), .second, .val (.long q1), .second, .val (.int (1 : Int32)), .val (.int (own_pk a1)), .val (.int (own_pk b1)), .val (.int (own_pk c1)), .val (.ref x34), .val (.long (own_max (p1 &&& (9223372036854775807 : Int64)))), .second, .val (.long (q1 &&& (9223372036854775807 : Int64))), .second, .val (.ref b36), .val (.ref y_38), .unset] [(.int (1 : Int32))])) (fun _ k => XS.iload X38.here hx rfl (hb hby at_85) rfl k) ?_
      refine own_byW (T' := T38) (g' := (mkF m 88 #[.val (.int k1), .val (.int a1), .val (.int b1), .val (.int c1), .val (.long p1), .second, .val (.long q1), .second, .val (.int (1 : Int32)), .val (.int (own_pk a1)), .val (.int (own_pk b1)), .val (.int (own_pk c1)), .val (.ref x34), .val (.long (own_max (p1 &&& (9223372036854775807 : Int64)))), .second, .val (.long (q1 &&& (9223372036854775807 : Int64))), .second, .val (.ref b36), .val (.ref y_38), .unset] [(.int (1 : Int32)), (.int (1 : Int32))])) (fun _ k => XS.iconst X38.here hx rfl (hb hby at_87) k) ?_
      refine own_byW (T' := T38) (g' := (mkF m 91 #[.val (.int k1), .val (.int a1), .val (.int b1), .val (.int c1), .val (.long p1), .second, .val (.long q1), .second, .val (.int (1 : Int32)), .val (.int (own_pk a1)), .val (.int (own_pk b1)), .val (.int (own_pk c1)), .val (.ref x34), .val (.long (own_max (p1 &&& (9223372036854775807 : Int64)))), .second, .val (.long (q1 &&& (9223372036854775807 : Int64))), .second, .val (.ref b36), .val (.ref y_38), .unset] [])) (fun _ k => XS.icmpNo X38.here hx rfl (hb hby at_88) rfl (teq (by decide)).2 k) ?_
      refine own_byW (T' := T38) (g' := (mkF m 93 #[.val (.int k1), .val (.int a1), .val (.int b1), .val (.int c1), .val (.long p1), .second, .val (.long q1), .second, .val (.int (1 : Int32)), .val (.int (own_pk a1)), .val (.int (own_pk b1)), .val (.int (own_pk c1)), .val (.ref x34), .val (.long (own_max (p1 &&& (9223372036854775807 : Int64)))), .second, .val (.long (q1 &&& (9223372036854775807 : Int64))), .second, .val (.ref b36), .val (.ref y_38), .unset] [(.int (own_pk a1))])) (fun _ k => XS.iload X38.here hx rfl (hb hby at_91) rfl k) ?_
      refine own_byW (T' := T38) (g' := (mkF m 95 #[.val (.int k1), .val (.int a1), .val (.int b1), .val (.int c1), .val (.long p1), .second, .val (.long q1), .second, .val (.int (1 : Int32)), .val (.int (own_pk a1)), .val (.int (own_pk b1)), .val (.int (own_pk c1)), .val (.ref x34), .val (.long (own_max (p1 &&& (9223372036854775807 : Int64)))), .second, .val (.long (q1 &&& (9223372036854775807 : Int64))), .second, .val (.ref b36), .val (.ref y_38), .unset] [(.int (45 : Int32)), (.int (own_pk a1))])) (fun _ k => XS.bipush X38.here hx rfl (hb hby at_93) k) ?_
      refine own_byW (T' := T38) (g' := (mkF m 98 #[.val (.int k1), .val (.int a1), .val (.int b1), .val (.int c1), .val (.long p1), .second, .val (.long q1), .second, .val (.int (1 : Int32)), .val (.int (own_pk a1)), .val (.int (own_pk b1)), .val (.int (own_pk c1)), .val (.ref x34), .val (.long (own_max (p1 &&& (9223372036854775807 : Int64)))), .second, .val (.long (q1 &&& (9223372036854775807 : Int64))), .second, .val (.ref b36), .val (.ref y_38), .unset] [])) (fun _ k => XS.icmpNo X38.here hx rfl (hb hby at_95) rfl (teq h45).2 k) ?_
      refine own_byW (T' := T38) (g' := (mkF m 99 #[.val (.int k1), .val (.int a1), .val (.int b1), .val (.int c1), .val (.long p1), .second, .val (.long q1), .second, .val (.int (1 : Int32)), .val (.int (own_pk a1)), .val (.int (own_pk b1)), .val (.int (own_pk c1)), .val (.ref x34), .val (.long (own_max (p1 &&& (9223372036854775807 : Int64)))), .second, .val (.long (q1 &&& (9223372036854775807 : Int64))), .second, .val (.ref b36), .val (.ref y_38), .unset] [(.int (1 : Int32))])) (fun _ k => XS.iconst X38.here hx rfl (hb hby at_98) k) ?_
      refine own_byW (T' := T38) (g' := (mkF m 103 #[.val (.int k1), .val (.int a1), .val (.int b1), .val (.int c1), .val (.long p1), .second, .val (.long q1), .second, .val (.int (1 : Int32)), .val (.int (own_pk a1)), .val (.int (own_pk b1)), .val (.int (own_pk c1)), .val (.ref x34), .val (.long (own_max (p1 &&& (9223372036854775807 : Int64)))), .second, .val (.long (q1 &&& (9223372036854775807 : Int64))), .second, .val (.ref b36), .val (.ref y_38), .unset] [(.int (1 : Int32))])) (fun _ k => XS.goto X38.here hx rfl (pc0 := 99) (pc' := 103) rfl (hb hby at_99) (by decide) (by decide) k) ?_
      refine own_byW (T' := T38) (g' := (mkF m 105 #[.val (.int k1), .val (.int a1), .val (.int b1), .val (.int c1), .val (.long p1), .second, .val (.long q1), .second, .val (.int (1 : Int32)), .val (.int (own_pk a1)), .val (.int (own_pk b1)), .val (.int (own_pk c1)), .val (.ref x34), .val (.long (own_max (p1 &&& (9223372036854775807 : Int64)))), .second, .val (.long (q1 &&& (9223372036854775807 : Int64))), .second, .val (.ref b36), .val (.ref y_38), .val (.int (1 : Int32))] [])) (fun _ k => XS.istore X38.here hx rfl (hb hby at_103) rfl (l' := #[.val (.int k1), .val (.int a1), .val (.int b1), .val (.int c1), .val (.long p1), .second, .val (.long q1), .second, .val (.int (1 : Int32)), .val (.int (own_pk a1)), .val (.int (own_pk b1)), .val (.int (own_pk c1)), .val (.ref x34), .val (.long (own_max (p1 &&& (9223372036854775807 : Int64)))), .second, .val (.long (q1 &&& (9223372036854775807 : Int64))), .second, .val (.ref b36), .val (.ref y_38), .val (.int (1 : Int32))]) rfl k) ?_
      refine own_byW (T' := T38) (g' := (mkF m 107 #[.val (.int k1), .val (.int a1), .val (.int b1), .val (.int c1), .val (.long p1), .second, .val (.long q1), .second, .val (.int (1 : Int32)), .val (.int (own_pk a1)), .val (.int (own_pk b1)), .val (.int (own_pk c1)), .val (.ref x34), .val (.long (own_max (p1 &&& (9223372036854775807 : Int64)))), .second, .val (.long (q1 &&& (9223372036854775807 : Int64))), .second, .val (.ref b36), .val (.ref y_38), .val (.int (1 : Int32))] [(.int (1 : Int32))])) (fun _ k => XS.iload X38.here hx rfl (hb hby at_105) rfl k) ?_
      refine own_byW (T' := T38) (g' := (mkF m 110 #[.val (.int k1), .val (.int a1), .val (.int b1), .val (.int c1), .val (.long p1), .second, .val (.long q1), .second, .val (.int (1 : Int32)), .val (.int (own_pk a1)), .val (.int (own_pk b1)), .val (.int (own_pk c1)), .val (.ref x34), .val (.long (own_max (p1 &&& (9223372036854775807 : Int64)))), .second, .val (.long (q1 &&& (9223372036854775807 : Int64))), .second, .val (.ref b36), .val (.ref y_38), .val (.int (1 : Int32))] [])) (fun _ k => XS.ifNo X38.here hx rfl (hb hby at_107) rfl ((if0 _ _).trans (feq (by decide)).1) k) ?_
      refine own_byW (T' := T38) (g' := (mkF m 112 #[.val (.int k1), .val (.int a1), .val (.int b1), .val (.int c1), .val (.long p1), .second, .val (.long q1), .second, .val (.int (1 : Int32)), .val (.int (own_pk a1)), .val (.int (own_pk b1)), .val (.int (own_pk c1)), .val (.ref x34), .val (.long (own_max (p1 &&& (9223372036854775807 : Int64)))), .second, .val (.long (q1 &&& (9223372036854775807 : Int64))), .second, .val (.ref b36), .val (.ref y_38), .val (.int (1 : Int32))] [(.ref y_38)])) (fun _ k => XS.aload X38.here hx rfl (hb hby at_110) rfl rfl k) ?_
      obtain ⟨a39, T39, h39, k39, b39, kb39, X39, e39, E39, hS39, hk39, hZ39, hown39, Ex39, Fc39, Fv39, V39, la39, lb39, Cq39, Lt39, D39, st39⟩ := ldcCH (s := s) (EL := consts_1) X38 hx hZ38 hown38 (hw _ (List.mem_of_getElem? (i := 86) rfl)) hwS rfl hS38 (Nat.le_refl _) hEL (List.mem_of_getElem? (i := 3) rfl) C38.1 (vs := [(.int (115 : Int32)), (.int (116 : Int32)), (.int (97 : Int32)), (.int (110 : Int32)), (.int (100 : Int32)), (.int (97 : Int32)), (.int (114 : Int32)), (.int (100 : Int32)), (.int (32 : Int32)), (.int (105 : Int32)), (.int (110 : Int32)), (.int (112 : Int32)), (.int (117 : Int32)), (.int (116 : Int32))]) (z := (14 : Int32)) ⟨by decide, by decide⟩ (by decide) (by decide) (g := (mkF m 112 #[.val (.int k1), .val (.int a1), .val (.int b1), .val (.int c1), .val (.long p1), .second, .val (.long q1), .second, .val (.int (1 : Int32)), .val (.int (own_pk a1)), .val (.int (own_pk b1)), .val (.int (own_pk c1)), .val (.ref x34), .val (.long (own_max (p1 &&& (9223372036854775807 : Int64)))), .second, .val (.long (q1 &&& (9223372036854775807 : Int64))), .second, .val (.ref b36), .val (.ref y_38), .val (.int (1 : Int32))] [(.ref y_38)])) rfl (hb hby at_112) (n := 56) (by decide) (by decide) (by decide) (by decide)
      have C39 : CHr Z consts_1 s.vm s.heap T39.vm h39 := CHr.trans C38 Cq39
      have K39 : Keep h0 h39 [] := Keep.ext KK38 E39
      refine own_byW (T' := T39) (g' := (mkF m 114 #[.val (.int k1), .val (.int a1), .val (.int b1), .val (.int c1), .val (.long p1), .second, .val (.long q1), .second, .val (.int (1 : Int32)), .val (.int (own_pk a1)), .val (.int (own_pk b1)), .val (.int (own_pk c1)), .val (.ref x34), .val (.long (own_max (p1 &&& (9223372036854775807 : Int64)))), .second, .val (.long (q1 &&& (9223372036854775807 : Int64))), .second, .val (.ref b36), .val (.ref y_38), .val (.int (1 : Int32))] [(.ref a39), (.ref y_38)])) (fun _ k => st39 _ k) ?_
      obtain ⟨cq40, kq40, q40a, q40b, q40c⟩ := isOf hZ39 e39 (Exa.ext E39 E38)
      obtain ⟨_, _, ⟨T40, L40, k40, n40⟩, -, X40, ⟨Lc40, hQ40, l40, y40, z40⟩, st40⟩ := X39.virtualBack hx (y := (⟨"java/lang/String", "equals", "(Ljava/lang/Object;)Z"⟩ : MethodName)) (z := (⟨"java/lang/String", "equals", "(Ljava/lang/Object;)Z"⟩ : MethodName)) hown39 (mvT hZ39 (hw _ (List.mem_of_getElem? (i := 74) rfl))) (mvT hZ39 (hw _ (List.mem_of_getElem? (i := 64) rfl))) (notFace_of_selects (args := #[]) (mvT hZ39 (hw _ (List.mem_of_getElem? (i := 66) rfl)))) (mvT hZ39 (hw _ (List.mem_of_getElem? (i := 66) rfl))) (mvT hZ39 (hw _ (List.mem_of_getElem? (i := 65) rfl))) (by decide) (backOf (W := 0) (seq_si l Z a0 hw [] y_38 a39 t38 b39 kb38 kb39 cs h39 n0 (Nat.le_trans (Nat.le_trans (Nat.le_trans (Nat.le_trans (Nat.le_trans Z0 K34.1) E36.1) K37.1) K38.1) E39.1) Ex39 (Fld.ext E39 Fc38) Fc39 (Fld.ext E39 Fv38) Fv39 (Arv.ext V38 E39) V39 (Sta.ext ((Old.ext (Old.keep (Old.keep (Old.ext (Old.keep O0 K34 all0) E36) K37 (allS g_b36 all0)) K38 all0) E39)).2 S_CS) hcs) hZ39 (hw _ (List.mem_of_getElem? (i := 67) rfl)) (hw _ (List.mem_of_getElem? (i := 9) rfl)) (by decide) (by decide)) q40a q40c (g := (mkF m 114 #[.val (.int k1), .val (.int a1), .val (.int b1), .val (.int c1), .val (.long p1), .second, .val (.long q1), .second, .val (.int (1 : Int32)), .val (.int (own_pk a1)), .val (.int (own_pk b1)), .val (.int (own_pk c1)), .val (.ref x34), .val (.long (own_max (p1 &&& (9223372036854775807 : Int64)))), .second, .val (.long (q1 &&& (9223372036854775807 : Int64))), .second, .val (.ref b36), .val (.ref y_38), .val (.int (1 : Int32))] [(.ref a39), (.ref y_38)])) rfl (by rw [hml]; rfl) (Steps.refl _) (argsL := [(.ref a39)]) (rest := []) (lenOf pd_8 rfl) rfl (by show 2 * 0 + _ ≤ _; exact Nat.le_of_eq rfl) (hb hby at_114) (fun _ _ => ⟨rfl, e39, (by decide : (((((((((0 + 0) + 0) + 0) + 3) + 0) + 1) + 2) + 4) + 2) + 0 ≤ _), (by decide : (((((((((0 + 0) + 0) + 0) + 6) + 0) + 3) + 24) + 68) + (56 + 4)) + 0 ≤ _)⟩)
      dsimp only [Pt.U, Pt.locs, Pt.cells, Pt.slots] at X40 l40 y40 z40 st40 hQ40
      subst l40 y40 z40
      obtain ⟨rfl, N40q, e40⟩ := hQ40
      have N40 := Fr.app N38 N40q
      refine own_byW (T' := T40) (g' := (mkF m 117 #[.val (.int k1), .val (.int a1), .val (.int b1), .val (.int c1), .val (.long p1), .second, .val (.long q1), .second, .val (.int (1 : Int32)), .val (.int (own_pk a1)), .val (.int (own_pk b1)), .val (.int (own_pk c1)), .val (.ref x34), .val (.long (own_max (p1 &&& (9223372036854775807 : Int64)))), .second, .val (.long (q1 &&& (9223372036854775807 : Int64))), .second, .val (.ref b36), .val (.ref y_38), .val (.int (1 : Int32))] [(.int (1 : Int32))])) (fun _ k => st40.trans k) ?_
      refine own_retW (s := s) X40 hlk hS39 (by rw [e40]; exact hk39) hZ39 hEL C39 e40 (v := some (.int (1 : Int32))) (fun h => by rw [Bd.returns] at h; cases h) (fun fs hr => retN X40 hx (t := .boolean) Bd.returns (by simp) (hb hby at_117) hr) ?_ (by decide) (by decide)
      rw [e40]
      exact ⟨rfl, N40⟩
    · skip
      obtain ⟨_, _, ⟨T41, L41, k41, n41⟩, -, X41, ⟨Lc41, hQ41, l41, y41, z41⟩, st41⟩ := Jvm.LawKit.callS X33 hx (y := (⟨"com/example/shelfgraph/shelfgraph/ingest/RecordPositionInputNamePinLaw", "make", "(ICCC)Ljava/lang/String;"⟩ : MethodName)) hown (mvT hZ (hw _ (List.mem_of_getElem? (i := 4) rfl))) (mvT hZ (hw _ (List.mem_of_getElem? (i := 5) rfl))) (mvT hZ (hw _ (List.mem_of_getElem? (i := 2) rfl))) (mvT hZ (hw _ (List.mem_of_getElem? (i := 6) rfl))) (by decide) (backOf (W := 0) (make_1 l Z a0 hw [] (own_pk a1) (own_pk b1) (own_pk c1) cs h0 n0 Z0 (Sta.ext (O0).2 S_CS) hcs (own_pk255 a1)) hZ (hw _ (List.mem_of_getElem? (i := 6) rfl)) (hw _ (List.mem_of_getElem? (i := 2) rfl)) (by decide) (by decide)) (g := (mkF m 31 #[.val (.int k1), .val (.int a1), .val (.int b1), .val (.int c1), .val (.long p1), .second, .val (.long q1), .second, .val (.int (1 : Int32)), .val (.int (own_pk a1)), .val (.int (own_pk b1)), .val (.int (own_pk c1)), .unset, .unset, .unset, .unset, .unset, .unset, .unset, .unset] [(.int (own_pk c1)), (.int (own_pk b1)), (.int (own_pk a1)), (.int (1 : Int32))])) rfl (by rw [hml]; rfl) (argsL := [(.int (1 : Int32)), (.int (own_pk a1)), (.int (own_pk b1)), (.int (own_pk c1))]) (rest := []) (lenOf pd_10 rfl) rfl (by show 2 * 0 + _ ≤ _; exact Nat.le_of_eq rfl) (hb hby at_31) (fun _ _ => ⟨rfl, e33, (by decide : (((0 + 0) + 0) + 0) + 3 ≤ _), (by decide : (((0 + 0) + 0) + 0) + 6 ≤ _)⟩)
      dsimp only [Pt.U, Pt.locs, Pt.cells, Pt.slots] at X41 l41 y41 z41 st41 hQ41
      subst l41 y41 z41
      obtain ⟨x41, t41, kb41, rfl, N41q, K41, zx41, E41, Fc41, Fv41, V41⟩ := hQ41
      have N41 := Fr.app N33 N41q
      have KK41 : Keep h0 T41.heap [] := Keep.trans (Keep.refl h0 []) K41 all0
      have C41 : CHr Z consts_1 s.vm s.heap s.vm T41.heap := CHr.trans C0 (CHr.keep K41 sf0 C0.1)
      refine own_byW (T' := T41) (g' := (mkF m 34 #[.val (.int k1), .val (.int a1), .val (.int b1), .val (.int c1), .val (.long p1), .second, .val (.long q1), .second, .val (.int (1 : Int32)), .val (.int (own_pk a1)), .val (.int (own_pk b1)), .val (.int (own_pk c1)), .unset, .unset, .unset, .unset, .unset, .unset, .unset, .unset] [(.ref x41)])) (fun _ k => st41 _ k) ?_
      refine own_byW (T' := T41) (g' := (mkF m 36 #[.val (.int k1), .val (.int a1), .val (.int b1), .val (.int c1), .val (.long p1), .second, .val (.long q1), .second, .val (.int (1 : Int32)), .val (.int (own_pk a1)), .val (.int (own_pk b1)), .val (.int (own_pk c1)), .val (.ref x41), .unset, .unset, .unset, .unset, .unset, .unset, .unset] [])) (fun _ k => XS.astore X41.here hx rfl (hb hby at_34) rfl rfl (l' := #[.val (.int k1), .val (.int a1), .val (.int b1), .val (.int c1), .val (.long p1), .second, .val (.long q1), .second, .val (.int (1 : Int32)), .val (.int (own_pk a1)), .val (.int (own_pk b1)), .val (.int (own_pk c1)), .val (.ref x41), .unset, .unset, .unset, .unset, .unset, .unset, .unset]) rfl k) ?_
      refine own_byW (T' := T41) (g' := (mkF m 37 #[.val (.int k1), .val (.int a1), .val (.int b1), .val (.int c1), .val (.long p1), .second, .val (.long q1), .second, .val (.int (1 : Int32)), .val (.int (own_pk a1)), .val (.int (own_pk b1)), .val (.int (own_pk c1)), .val (.ref x41), .unset, .unset, .unset, .unset, .unset, .unset, .unset] [(.long (1 : Int64))])) (fun _ k => XS.lconst X41.here hx rfl (hb hby at_36) k) ?_
      refine own_byW (T' := T41) (g' := (mkF m 39 #[.val (.int k1), .val (.int a1), .val (.int b1), .val (.int c1), .val (.long p1), .second, .val (.long q1), .second, .val (.int (1 : Int32)), .val (.int (own_pk a1)), .val (.int (own_pk b1)), .val (.int (own_pk c1)), .val (.ref x41), .unset, .unset, .unset, .unset, .unset, .unset, .unset] [(.long p1), (.long (1 : Int64))])) (fun _ k => XS.lload X41.here hx rfl (hb hby at_37) rfl k) ?_
      refine own_byW (T' := T41) (g' := (mkF m 42 #[.val (.int k1), .val (.int a1), .val (.int b1), .val (.int c1), .val (.long p1), .second, .val (.long q1), .second, .val (.int (1 : Int32)), .val (.int (own_pk a1)), .val (.int (own_pk b1)), .val (.int (own_pk c1)), .val (.ref x41), .unset, .unset, .unset, .unset, .unset, .unset, .unset] [(.long (9223372036854775807 : Int64)), (.long p1), (.long (1 : Int64))])) (fun _ k => ldc2J X41 hx hown (mvT hZ (hw _ (List.mem_of_getElem? (i := 29) rfl))) rfl (hb hby at_39) k) ?_
      refine own_byW (T' := T41) (g' := (mkF m 43 #[.val (.int k1), .val (.int a1), .val (.int b1), .val (.int c1), .val (.long p1), .second, .val (.long q1), .second, .val (.int (1 : Int32)), .val (.int (own_pk a1)), .val (.int (own_pk b1)), .val (.int (own_pk c1)), .val (.ref x41), .unset, .unset, .unset, .unset, .unset, .unset, .unset] [(.long (p1 &&& (9223372036854775807 : Int64))), (.long (1 : Int64))])) (fun _ k => XS.land X41.here hx rfl (hb hby at_42) rfl k) ?_
      obtain ⟨_, _, ⟨T42, L42, k42, n42⟩, -, X42, ⟨Lc42, hQ42, l42, y42, z42⟩, st42⟩ := Jvm.LawKit.callS X41 hx (y := (⟨"java/lang/Math", "max", "(JJ)J"⟩ : MethodName)) hown (mvT hZ (hw _ (List.mem_of_getElem? (i := 30) rfl))) (mvT hZ (hw _ (List.mem_of_getElem? (i := 31) rfl))) (mvT hZ (hw _ (List.mem_of_getElem? (i := 32) rfl))) (mvT hZ (hw _ (List.mem_of_getElem? (i := 33) rfl))) (by decide) (backOf (W := 0) (rm6 l Z a0 hw [] (p1 &&& (9223372036854775807 : Int64))  T41.heap n0 (Nat.le_trans Z0 K41.1) ) hZ (hw _ (List.mem_of_getElem? (i := 33) rfl)) (hw _ (List.mem_of_getElem? (i := 32) rfl)) (by decide) (by decide)) (g := (mkF m 43 #[.val (.int k1), .val (.int a1), .val (.int b1), .val (.int c1), .val (.long p1), .second, .val (.long q1), .second, .val (.int (1 : Int32)), .val (.int (own_pk a1)), .val (.int (own_pk b1)), .val (.int (own_pk c1)), .val (.ref x41), .unset, .unset, .unset, .unset, .unset, .unset, .unset] [(.long (p1 &&& (9223372036854775807 : Int64))), (.long (1 : Int64))])) rfl (by rw [hml]; rfl) (argsL := [(.long (1 : Int64)), (.long (p1 &&& (9223372036854775807 : Int64)))]) (rest := []) (lenOf pd_11 rfl) rfl (by show 2 * 0 + _ ≤ _; exact Nat.le_of_eq rfl) (hb hby at_43) (fun _ _ => ⟨rfl, rfl, (by decide : ((((0 + 0) + 0) + 0) + 3) + 0 ≤ _), (by decide : ((((0 + 0) + 0) + 0) + 6) + 0 ≤ _)⟩)
      dsimp only [Pt.U, Pt.locs, Pt.cells, Pt.slots] at X42 l42 y42 z42 st42 hQ42
      subst l42 y42 z42
      obtain ⟨rfl, N42q, e42⟩ := hQ42
      have N42 := Fr.app N41 N42q
      refine own_byW (T' := T42) (g' := (mkF m 46 #[.val (.int k1), .val (.int a1), .val (.int b1), .val (.int c1), .val (.long p1), .second, .val (.long q1), .second, .val (.int (1 : Int32)), .val (.int (own_pk a1)), .val (.int (own_pk b1)), .val (.int (own_pk c1)), .val (.ref x41), .unset, .unset, .unset, .unset, .unset, .unset, .unset] [(.long (own_max (p1 &&& (9223372036854775807 : Int64))))])) (fun _ k => st42 _ k) ?_
      refine own_byW (T' := T42) (g' := (mkF m 48 #[.val (.int k1), .val (.int a1), .val (.int b1), .val (.int c1), .val (.long p1), .second, .val (.long q1), .second, .val (.int (1 : Int32)), .val (.int (own_pk a1)), .val (.int (own_pk b1)), .val (.int (own_pk c1)), .val (.ref x41), .val (.long (own_max (p1 &&& (9223372036854775807 : Int64)))), .second, .unset, .unset, .unset, .unset, .unset] [])) (fun _ k => XS.lstore X42.here hx rfl (hb hby at_46) rfl (l' := #[.val (.int k1), .val (.int a1), .val (.int b1), .val (.int c1), .val (.long p1), .second, .val (.long q1), .second, .val (.int (1 : Int32)), .val (.int (own_pk a1)), .val (.int (own_pk b1)), .val (.int (own_pk c1)), .val (.ref x41), .val (.long (own_max (p1 &&& (9223372036854775807 : Int64)))), .second, .unset, .unset, .unset, .unset, .unset]) rfl k) ?_
      refine own_byW (T' := T42) (g' := (mkF m 50 #[.val (.int k1), .val (.int a1), .val (.int b1), .val (.int c1), .val (.long p1), .second, .val (.long q1), .second, .val (.int (1 : Int32)), .val (.int (own_pk a1)), .val (.int (own_pk b1)), .val (.int (own_pk c1)), .val (.ref x41), .val (.long (own_max (p1 &&& (9223372036854775807 : Int64)))), .second, .unset, .unset, .unset, .unset, .unset] [(.long q1)])) (fun _ k => XS.lload X42.here hx rfl (hb hby at_48) rfl k) ?_
      refine own_byW (T' := T42) (g' := (mkF m 53 #[.val (.int k1), .val (.int a1), .val (.int b1), .val (.int c1), .val (.long p1), .second, .val (.long q1), .second, .val (.int (1 : Int32)), .val (.int (own_pk a1)), .val (.int (own_pk b1)), .val (.int (own_pk c1)), .val (.ref x41), .val (.long (own_max (p1 &&& (9223372036854775807 : Int64)))), .second, .unset, .unset, .unset, .unset, .unset] [(.long (9223372036854775807 : Int64)), (.long q1)])) (fun _ k => ldc2J X42 hx hown (mvT hZ (hw _ (List.mem_of_getElem? (i := 29) rfl))) rfl (hb hby at_50) k) ?_
      refine own_byW (T' := T42) (g' := (mkF m 54 #[.val (.int k1), .val (.int a1), .val (.int b1), .val (.int c1), .val (.long p1), .second, .val (.long q1), .second, .val (.int (1 : Int32)), .val (.int (own_pk a1)), .val (.int (own_pk b1)), .val (.int (own_pk c1)), .val (.ref x41), .val (.long (own_max (p1 &&& (9223372036854775807 : Int64)))), .second, .unset, .unset, .unset, .unset, .unset] [(.long (q1 &&& (9223372036854775807 : Int64)))])) (fun _ k => XS.land X42.here hx rfl (hb hby at_53) rfl k) ?_
      refine own_byW (T' := T42) (g' := (mkF m 56 #[.val (.int k1), .val (.int a1), .val (.int b1), .val (.int c1), .val (.long p1), .second, .val (.long q1), .second, .val (.int (1 : Int32)), .val (.int (own_pk a1)), .val (.int (own_pk b1)), .val (.int (own_pk c1)), .val (.ref x41), .val (.long (own_max (p1 &&& (9223372036854775807 : Int64)))), .second, .val (.long (q1 &&& (9223372036854775807 : Int64))), .second, .unset, .unset, .unset] [])) (fun _ k => XS.lstore X42.here hx rfl (hb hby at_54) rfl (l' := #[.val (.int k1), .val (.int a1), .val (.int b1), .val (.int c1), .val (.long p1), .second, .val (.long q1), .second, .val (.int (1 : Int32)), .val (.int (own_pk a1)), .val (.int (own_pk b1)), .val (.int (own_pk c1)), .val (.ref x41), .val (.long (own_max (p1 &&& (9223372036854775807 : Int64)))), .second, .val (.long (q1 &&& (9223372036854775807 : Int64))), .second, .unset, .unset, .unset]) rfl k) ?_
      obtain ⟨T43, h43, X43, e43, E43, A43, D43, -, st43⟩ := newO X42 hx hZ hown (hw _ (List.mem_of_getElem? (i := 34) rfl)) (hw _ (List.mem_of_getElem? (i := 35) rfl)) (hw _ (List.mem_of_getElem? (i := 36) rfl)) e42 (g := (mkF m 56 #[.val (.int k1), .val (.int a1), .val (.int b1), .val (.int c1), .val (.long p1), .second, .val (.long q1), .second, .val (.int (1 : Int32)), .val (.int (own_pk a1)), .val (.int (own_pk b1)), .val (.int (own_pk c1)), .val (.ref x41), .val (.long (own_max (p1 &&& (9223372036854775807 : Int64)))), .second, .val (.long (q1 &&& (9223372036854775807 : Int64))), .second, .unset, .unset, .unset] [])) rfl (hb hby at_56) (by decide) (by decide)
      obtain ⟨b43, g43⟩ : ∃ z, z = T41.heap.size := ⟨_, rfl⟩
      rw [← g43] at A43 D43 st43
      have E_b43 : Exa Z h43 b43 "com/example/shelfgraph/shelfgraph/ingest/RecordPosition" := A43
      have F_input_b43 : Fld Z h43 b43 "com/example/shelfgraph/shelfgraph/ingest/RecordPosition" "input" "Ljava/lang/String;" .null := D43 (Or.inr (hw _ (List.mem_of_getElem? (i := 52) rfl))) (ty := (.object "java/lang/String")) (by decide)
      have F_number_b43 : Fld Z h43 b43 "com/example/shelfgraph/shelfgraph/ingest/RecordPosition" "number" "J" (.long (0 : Int64)) := D43 (Or.inr (hw _ (List.mem_of_getElem? (i := 54) rfl))) (ty := .long) (by decide)
      have F_offset_b43 : Fld Z h43 b43 "com/example/shelfgraph/shelfgraph/ingest/RecordPosition" "offset" "J" (.long (0 : Int64)) := D43 (Or.inr (hw _ (List.mem_of_getElem? (i := 56) rfl))) (ty := .long) (by decide)
      have g_b43 : n0 ≤ b43 := Nat.le_trans (Nat.le_trans Z0 K41.1) (Nat.le_of_eq g43.symm)
      have sz_b43 : h0.size ≤ b43 := Nat.le_trans KK41.1 (Nat.le_of_eq g43.symm)
      have K43 : Keep h0 h43 [] := Keep.ext KK41 E43
      have C43 : CHr Z consts_1 s.vm s.heap s.vm h43 := CHr.trans C41 (CHr.ext E43 C41.1)
      refine own_byW (T' := T43) (g' := (mkF m 59 #[.val (.int k1), .val (.int a1), .val (.int b1), .val (.int c1), .val (.long p1), .second, .val (.long q1), .second, .val (.int (1 : Int32)), .val (.int (own_pk a1)), .val (.int (own_pk b1)), .val (.int (own_pk c1)), .val (.ref x41), .val (.long (own_max (p1 &&& (9223372036854775807 : Int64)))), .second, .val (.long (q1 &&& (9223372036854775807 : Int64))), .second, .unset, .unset, .unset] [(.ref b43)])) (fun _ k => st43 _ k) ?_
      refine own_byW (T' := T43) (g' := (mkF m 60 #[.val (.int k1), .val (.int a1), .val (.int b1), .val (.int c1), .val (.long p1), .second, .val (.long q1), .second, .val (.int (1 : Int32)), .val (.int (own_pk a1)), .val (.int (own_pk b1)), .val (.int (own_pk c1)), .val (.ref x41), .val (.long (own_max (p1 &&& (9223372036854775807 : Int64)))), .second, .val (.long (q1 &&& (9223372036854775807 : Int64))), .second, .unset, .unset, .unset] [(.ref b43), (.ref b43)])) (fun _ k => XS.dup X43.here hx rfl (hb hby at_59) rfl rfl k) ?_
      refine own_byW (T' := T43) (g' := (mkF m 62 #[.val (.int k1), .val (.int a1), .val (.int b1), .val (.int c1), .val (.long p1), .second, .val (.long q1), .second, .val (.int (1 : Int32)), .val (.int (own_pk a1)), .val (.int (own_pk b1)), .val (.int (own_pk c1)), .val (.ref x41), .val (.long (own_max (p1 &&& (9223372036854775807 : Int64)))), .second, .val (.long (q1 &&& (9223372036854775807 : Int64))), .second, .unset, .unset, .unset] [(.ref x41), (.ref b43), (.ref b43)])) (fun _ k => XS.aload X43.here hx rfl (hb hby at_60) rfl rfl k) ?_
      refine own_byW (T' := T43) (g' := (mkF m 64 #[.val (.int k1), .val (.int a1), .val (.int b1), .val (.int c1), .val (.long p1), .second, .val (.long q1), .second, .val (.int (1 : Int32)), .val (.int (own_pk a1)), .val (.int (own_pk b1)), .val (.int (own_pk c1)), .val (.ref x41), .val (.long (own_max (p1 &&& (9223372036854775807 : Int64)))), .second, .val (.long (q1 &&& (9223372036854775807 : Int64))), .second, .unset, .unset, .unset] [(.long (own_max (p1 &&& (9223372036854775807 : Int64)))), (.ref x41), (.ref b43), (.ref b43)])) (fun _ k => XS.lload X43.here hx rfl (hb hby at_62) rfl k) ?_
      refine own_byW (T' := T43) (g' := (mkF m 66 #[.val (.int k1), .val (.int a1), .val (.int b1), .val (.int c1), .val (.long p1), .second, .val (.long q1), .second, .val (.int (1 : Int32)), .val (.int (own_pk a1)), .val (.int (own_pk b1)), .val (.int (own_pk c1)), .val (.ref x41), .val (.long (own_max (p1 &&& (9223372036854775807 : Int64)))), .second, .val (.long (q1 &&& (9223372036854775807 : Int64))), .second, .unset, .unset, .unset] [(.long (q1 &&& (9223372036854775807 : Int64))), (.long (own_max (p1 &&& (9223372036854775807 : Int64)))), (.ref x41), (.ref b43), (.ref b43)])) (fun _ k => XS.lload X43.here hx rfl (hb hby at_64) rfl k) ?_
      obtain ⟨_, _, ⟨T44, L44, k44, n44⟩, -, X44, hSq44, hgq44, ⟨Lc44, hQ44, l44, y44, z44, Cq44⟩, st44⟩ := X43.specialBackS hx (y := (⟨"com/example/shelfgraph/shelfgraph/ingest/RecordPosition", "<init>", "(Ljava/lang/String;JJ)V"⟩ : MethodName)) rfl hown (mvT hZ (hw _ (List.mem_of_getElem? (i := 37) rfl))) (mvT hZ (hw _ (List.mem_of_getElem? (i := 38) rfl))) (mvT hZ (hw _ (List.mem_of_getElem? (i := 39) rfl))) (by decide) (own_backSH (s := s) (EL := consts_1) (W := 1) (rm7 l Z a0 hw [] b43 x41 (own_max (p1 &&& (9223372036854775807 : Int64))) (q1 &&& (9223372036854775807 : Int64))  h43 n0 (Nat.le_trans (Nat.le_trans Z0 K41.1) E43.1) E_b43 F_input_b43 F_number_b43 F_offset_b43 g_b43 (own_max1 _) (own_pos _)) hZ (hw _ (List.mem_of_getElem? (i := 39) rfl)) (hw _ (List.mem_of_getElem? (i := 36) rfl)) (by decide) (by decide) hEL C43.1 (fun _ _ => trivial)) (g := (mkF m 66 #[.val (.int k1), .val (.int a1), .val (.int b1), .val (.int c1), .val (.long p1), .second, .val (.long q1), .second, .val (.int (1 : Int32)), .val (.int (own_pk a1)), .val (.int (own_pk b1)), .val (.int (own_pk c1)), .val (.ref x41), .val (.long (own_max (p1 &&& (9223372036854775807 : Int64)))), .second, .val (.long (q1 &&& (9223372036854775807 : Int64))), .second, .unset, .unset, .unset] [(.long (q1 &&& (9223372036854775807 : Int64))), (.long (own_max (p1 &&& (9223372036854775807 : Int64)))), (.ref x41), (.ref b43), (.ref b43)])) rfl (by rw [hml]; rfl) (Steps.refl _) (a := b43) (argsL := [(.ref x41), (.long (own_max (p1 &&& (9223372036854775807 : Int64)))), (.long (q1 &&& (9223372036854775807 : Int64)))]) (rest := [(.ref b43)]) (lenOf pd_12 rfl) rfl (by show 2 * 0 + _ ≤ _; exact Nat.le_of_eq rfl) (hb hby at_66) (fun _ _ => ⟨rfl, e43, (by decide : ((((((0 + 0) + 0) + 0) + 3) + 0) + 1) + 2 ≤ _), (by decide : ((((((0 + 0) + 0) + 0) + 6) + 0) + 3) + 24 ≤ _)⟩)
      dsimp only [Pt.U, Pt.locs, Pt.cells, Pt.slots] at X44 l44 y44 z44 st44 hQ44 hSq44 hgq44 Cq44
      subst l44 y44 z44
      obtain ⟨rfl, N44q, K44, Fi44⟩ := hQ44
      have N44 := Fr.app N42 N44q
      have KK44 : Keep h0 T44.heap [] := Keep.trans K43 K44 (allS (Or.inr sz_b43) all0)
      have hS44 := foldS hS0 (T := T43) (by rw [e43]; exact (Nat.le_trans (Nat.le_trans hk0 K41.1) E43.1)) hSq44 hgq44
      have hZ44 : Z.Warmed39 (s.setVm T44.vm).vm := State.Warmed39.trans hZ hSq44.1
      have hown44 : (s.setVm T44.vm).vm.findClass "com/example/shelfgraph/shelfgraph/ingest/RecordPositionInputNamePinLaw" = some m.cls := by show T44.vm.findClass "com/example/shelfgraph/shelfgraph/ingest/RecordPositionInputNamePinLaw" = some m.cls; rw [hSq44.1.alike.findClass]; exact hown
      have X44 : Stand p l e room_1 (s.setVm T44.vm) m #[(.int k1), (.int a1), (.int b1), (.int c1), (.long p1), (.long q1)] below meth c T44 (((((L31 ++ Lc32) ++ Lc33) ++ Lc41) ++ Lc42) ++ Lc44) (((((((0 + 0) + 0) + 0) + 3) + 0) + 1) + 2) (((((((0 + 0) + 0) + 0) + 6) + 0) + 3) + 24) := X44
      have C44 : CHr Z consts_1 s.vm s.heap T44.vm T44.heap := CHr.trans C43 Cq44
      refine own_byW (T' := T44) (g' := (mkF m 69 #[.val (.int k1), .val (.int a1), .val (.int b1), .val (.int c1), .val (.long p1), .second, .val (.long q1), .second, .val (.int (1 : Int32)), .val (.int (own_pk a1)), .val (.int (own_pk b1)), .val (.int (own_pk c1)), .val (.ref x41), .val (.long (own_max (p1 &&& (9223372036854775807 : Int64)))), .second, .val (.long (q1 &&& (9223372036854775807 : Int64))), .second, .unset, .unset, .unset] [(.ref b43)])) (fun _ k => st44.trans k) ?_
      refine own_byW (T' := T44) (g' := (mkF m 71 #[.val (.int k1), .val (.int a1), .val (.int b1), .val (.int c1), .val (.long p1), .second, .val (.long q1), .second, .val (.int (1 : Int32)), .val (.int (own_pk a1)), .val (.int (own_pk b1)), .val (.int (own_pk c1)), .val (.ref x41), .val (.long (own_max (p1 &&& (9223372036854775807 : Int64)))), .second, .val (.long (q1 &&& (9223372036854775807 : Int64))), .second, .val (.ref b43), .unset, .unset] [])) (fun _ k => XS.astore X44.here hx rfl (hb hby at_69) rfl rfl (l' := #[.val (.int k1), .val (.int a1), .val (.int b1), .val (.int c1), .val (.long p1), .second, .val (.long q1), .second, .val (.int (1 : Int32)), .val (.int (own_pk a1)), .val (.int (own_pk b1)), .val (.int (own_pk c1)), .val (.ref x41), .val (.long (own_max (p1 &&& (9223372036854775807 : Int64)))), .second, .val (.long (q1 &&& (9223372036854775807 : Int64))), .second, .val (.ref b43), .unset, .unset]) rfl k) ?_
      refine own_byW (T' := T44) (g' := (mkF m 73 #[.val (.int k1), .val (.int a1), .val (.int b1), .val (.int c1), .val (.long p1), .second, .val (.long q1), .second, .val (.int (1 : Int32)), .val (.int (own_pk a1)), .val (.int (own_pk b1)), .val (.int (own_pk c1)), .val (.ref x41), .val (.long (own_max (p1 &&& (9223372036854775807 : Int64)))), .second, .val (.long (q1 &&& (9223372036854775807 : Int64))), .second, .val (.ref b43), .unset, .unset] [(.ref b43)])) (fun _ k => XS.aload X44.here hx rfl (hb hby at_71) rfl rfl k) ?_
      obtain ⟨cq45, kq45, q45a, q45b, q45c⟩ := isOf hZ44 rfl (Exa.keep E_b43 K44)
      obtain ⟨_, _, ⟨T45, L45, k45, n45⟩, -, X45, hSq45, hgq45, ⟨Lc45, hQ45, l45, y45, z45, Cq45⟩, st45⟩ := X44.virtualBackS hx (y := (⟨"com/example/shelfgraph/shelfgraph/ingest/RecordPosition", "inputName", "()Ljava/lang/String;"⟩ : MethodName)) (z := (⟨"com/example/shelfgraph/shelfgraph/ingest/RecordPosition", "inputName", "()Ljava/lang/String;"⟩ : MethodName)) hown44 (mvT hZ44 (hw _ (List.mem_of_getElem? (i := 57) rfl))) (mvT hZ44 (hw _ (List.mem_of_getElem? (i := 58) rfl))) (notFace_of_selects (args := #[]) (mvT hZ44 (hw _ (List.mem_of_getElem? (i := 60) rfl)))) (mvT hZ44 (hw _ (List.mem_of_getElem? (i := 60) rfl))) (mvT hZ44 (hw _ (List.mem_of_getElem? (i := 59) rfl))) (by decide) (own_backSH (s := s) (EL := consts_1) (W := 0) (inm_ne l Z a0 hw [] b43 x41 t41 kb41 cs (nar .byte ((nar .char (own_pk a1)).toInt8.toInt32)) T44.heap n0 (Nat.le_trans (Nat.le_trans (Nat.le_trans Z0 K41.1) E43.1) K44.1) Fi44 (Exa.keep (Exa.ext E43 E41) K44) (Fld.keep (Fld.ext E43 Fc41) K44 (ninS (Nat.ne_of_lt (Nat.lt_of_lt_of_le E41.lt (Nat.le_of_eq g43.symm))) nin0)) (Fld.keep (Fld.ext E43 Fv41) K44 (ninS (Nat.ne_of_lt (Nat.lt_of_lt_of_le E41.lt (Nat.le_of_eq g43.symm))) nin0)) (Arv.keep (Arv.ext V41 E43) K44 (ninS (Nat.ne_of_lt (Nat.lt_of_lt_of_le V41.lt (Nat.le_of_eq g43.symm))) nin0)) (Sta.ext ((Old.keep (Old.ext (Old.keep O0 K41 all0) E43) K44 (allS g_b43 all0))).2 S_CS) hcs (fun q => h45 ((own_b45 _).mp q))) hZ44 (hw _ (List.mem_of_getElem? (i := 61) rfl)) (hw _ (List.mem_of_getElem? (i := 36) rfl)) (by decide) (by decide) hEL C44.1 (fun _ _ => trivial)) q45a q45c (g := (mkF m 73 #[.val (.int k1), .val (.int a1), .val (.int b1), .val (.int c1), .val (.long p1), .second, .val (.long q1), .second, .val (.int (1 : Int32)), .val (.int (own_pk a1)), .val (.int (own_pk b1)), .val (.int (own_pk c1)), .val (.ref x41), .val (.long (own_max (p1 &&& (9223372036854775807 : Int64)))), .second, .val (.long (q1 &&& (9223372036854775807 : Int64))), .second, .val (.ref b43), .unset, .unset] [(.ref b43)])) rfl (by rw [hml]; rfl) (Steps.refl _) (argsL := []) (rest := []) (lenOf pd_13 rfl) rfl (by show 2 * 0 + _ ≤ _; exact Nat.le_of_eq rfl) (hb hby at_73) (fun _ _ => ⟨rfl, rfl, (by decide : (((((((0 + 0) + 0) + 0) + 3) + 0) + 1) + 2) + 2 ≤ _), (by decide : (((((((0 + 0) + 0) + 0) + 6) + 0) + 3) + 24) + 8 ≤ _)⟩)
      dsimp only [Pt.U, Pt.locs, Pt.cells, Pt.slots] at X45 l45 y45 z45 st45 hQ45 hSq45 hgq45 Cq45
      subst l45 y45 z45
      obtain ⟨rfl, N45q, K45⟩ := hQ45
      have N45 := Fr.app N44 N45q
      have KK45 : Keep h0 T45.heap [] := Keep.trans KK44 K45 all0
      have hS45 := foldS hS44 (T := T44) (Nat.le_refl _) hSq45 hgq45
      have hZ45 : Z.Warmed39 (s.setVm T45.vm).vm := State.Warmed39.trans hZ44 hSq45.1
      have hown45 : (s.setVm T45.vm).vm.findClass "com/example/shelfgraph/shelfgraph/ingest/RecordPositionInputNamePinLaw" = some m.cls := by show T45.vm.findClass "com/example/shelfgraph/shelfgraph/ingest/RecordPositionInputNamePinLaw" = some m.cls; rw [hSq45.1.alike.findClass]; exact hown44
      have X45 : Stand p l e room_1 (s.setVm T45.vm) m #[(.int k1), (.int a1), (.int b1), (.int c1), (.long p1), (.long q1)] below meth c T45 ((((((L31 ++ Lc32) ++ Lc33) ++ Lc41) ++ Lc42) ++ Lc44) ++ Lc45) ((((((((0 + 0) + 0) + 0) + 3) + 0) + 1) + 2) + 2) ((((((((0 + 0) + 0) + 0) + 6) + 0) + 3) + 24) + 8) := X45
      have C45 : CHr Z consts_1 s.vm s.heap T45.vm T45.heap := CHr.trans C44 Cq45
      refine own_byW (T' := T45) (g' := (mkF m 76 #[.val (.int k1), .val (.int a1), .val (.int b1), .val (.int c1), .val (.long p1), .second, .val (.long q1), .second, .val (.int (1 : Int32)), .val (.int (own_pk a1)), .val (.int (own_pk b1)), .val (.int (own_pk c1)), .val (.ref x41), .val (.long (own_max (p1 &&& (9223372036854775807 : Int64)))), .second, .val (.long (q1 &&& (9223372036854775807 : Int64))), .second, .val (.ref b43), .unset, .unset] [(.ref x41)])) (fun _ k => st45.trans k) ?_
      refine own_byW (T' := T45) (g' := (mkF m 78 #[.val (.int k1), .val (.int a1), .val (.int b1), .val (.int c1), .val (.long p1), .second, .val (.long q1), .second, .val (.int (1 : Int32)), .val (.int (own_pk a1)), .val (.int (own_pk b1)), .val (.int (own_pk c1)), .val (.ref x41), .val (.long (own_max (p1 &&& (9223372036854775807 : Int64)))), .second, .val (.long (q1 &&& (9223372036854775807 : Int64))), .second, .val (.ref b43), .val (.ref x41), .unset] [])) (fun _ k => XS.astore X45.here hx rfl (hb hby at_76) rfl rfl (l' := #[.val (.int k1), .val (.int a1), .val (.int b1), .val (.int c1), .val (.long p1), .second, .val (.long q1), .second, .val (.int (1 : Int32)), .val (.int (own_pk a1)), .val (.int (own_pk b1)), .val (.int (own_pk c1)), .val (.ref x41), .val (.long (own_max (p1 &&& (9223372036854775807 : Int64)))), .second, .val (.long (q1 &&& (9223372036854775807 : Int64))), .second, .val (.ref b43), .val (.ref x41), .unset]) rfl k) ?_
      refine own_byW (T' := T45) (g' := (mkF m 80 #[.val (.int k1), .val (.int a1), .val (.int b1), .val (.int c1), .val (.long p1), .second, .val (.long q1), .second, .val (.int (1 : Int32)), .val (.int (own_pk a1)), .val (.int (own_pk b1)), .val (.int (own_pk c1)), .val (.ref x41), .val (.long (own_max (p1 &&& (9223372036854775807 : Int64)))), .second, .val (.long (q1 &&& (9223372036854775807 : Int64))), .second, .val (.ref b43), .val (.ref x41), .unset] [(.ref x41)])) (fun _ k => XS.aload X45.here hx rfl (hb hby at_78) rfl rfl k) ?_
      refine own_byW (T' := T45) (g' := (mkF m 85 #[.val (.int k1), .val (.int a1), .val (.int b1), .val (.int c1), .val (.long p1), .second, .val (.long q1), .second, .val (.int (1 : Int32)), .val (.int (own_pk a1)), .val (.int (own_pk b1)), .val (.int (own_pk c1)), .val (.ref x41), .val (.long (own_max (p1 &&& (9223372036854775807 : Int64)))), .second, .val (.long (q1 &&& (9223372036854775807 : Int64))), .second, .val (.ref b43), .val (.ref x41), .unset] [])) (fun _ k => XS.ifnonnullYes X45.here hx rfl (pc0 := 80) (pc' := 85) rfl (hb hby at_80) rfl (by decide) (by decide) k) ?_
      refine own_byW (T' := T45) (g' := (mkF m 87 #[.val (.int k1), .val (.int a1), .val (.int b1), .val (.int c1), .val (.long p1), .second, .val (.long q1), .second, .val (.int (1 : Int32)), .val (.int (own_pk a1)), .val (.int (own_pk b1)), .val (.int (own_pk c1)), .val (.ref x41), .val (.long (own_max (p1 &&& (9223372036854775807 : Int64)))), .second, .val (.long (q1 &&& (9223372036854775807 : Int64))), .second, .val (.ref b43), .val (.ref x41), .unset] [(.int (1 : Int32))])) (fun _ k => XS.iload X45.here hx rfl (hb hby at_85) rfl k) ?_
      refine own_byW (T' := T45) (g' := (mkF m 88 #[.val (.int k1), .val (.int a1), .val (.int b1), .val (.int c1), .val (.long p1), .second, .val (.long q1), .second, .val (.int (1 : Int32)), .val (.int (own_pk a1)), .val (.int (own_pk b1)), .val (.int (own_pk c1)), .val (.ref x41), .val (.long (own_max (p1 &&& (9223372036854775807 : Int64)))), .second, .val (.long (q1 &&& (9223372036854775807 : Int64))), .second, .val (.ref b43), .val (.ref x41), .unset] [(.int (1 : Int32)), (.int (1 : Int32))])) (fun _ k => XS.iconst X45.here hx rfl (hb hby at_87) k) ?_
      refine own_byW (T' := T45) (g' := (mkF m 91 #[.val (.int k1), .val (.int a1), .val (.int b1), .val (.int c1), .val (.long p1), .second, .val (.long q1), .second, .val (.int (1 : Int32)), .val (.int (own_pk a1)), .val (.int (own_pk b1)), .val (.int (own_pk c1)), .val (.ref x41), .val (.long (own_max (p1 &&& (9223372036854775807 : Int64)))), .second, .val (.long (q1 &&& (9223372036854775807 : Int64))), .second, .val (.ref b43), .val (.ref x41), .unset] [])) (fun _ k => XS.icmpNo X45.here hx rfl (hb hby at_88) rfl (teq (by decide)).2 k) ?_
      refine own_byW (T' := T45) (g' := (mkF m 93 #[.val (.int k1), .val (.int a1), .val (.int b1), .val (.int c1), .val (.long p1), .second, .val (.long q1), .second, .val (.int (1 : Int32)), .val (.int (own_pk a1)), .val (.int (own_pk b1)), .val (.int (own_pk c1)), .val (.ref x41), .val (.long (own_max (p1 &&& (9223372036854775807 : Int64)))), .second, .val (.long (q1 &&& (9223372036854775807 : Int64))), .second, .val (.ref b43), .val (.ref x41), .unset] [(.int (own_pk a1))])) (fun _ k => XS.iload X45.here hx rfl (hb hby at_91) rfl k) ?_
      refine own_byW (T' := T45) (g' := (mkF m 95 #[.val (.int k1), .val (.int a1), .val (.int b1), .val (.int c1), .val (.long p1), .second, .val (.long q1), .second, .val (.int (1 : Int32)), .val (.int (own_pk a1)), .val (.int (own_pk b1)), .val (.int (own_pk c1)), .val (.ref x41), .val (.long (own_max (p1 &&& (9223372036854775807 : Int64)))), .second, .val (.long (q1 &&& (9223372036854775807 : Int64))), .second, .val (.ref b43), .val (.ref x41), .unset] [(.int (45 : Int32)), (.int (own_pk a1))])) (fun _ k => XS.bipush X45.here hx rfl (hb hby at_93) k) ?_
      refine own_byW (T' := T45) (g' := (mkF m 102 #[.val (.int k1), .val (.int a1), .val (.int b1), .val (.int c1), .val (.long p1), .second, .val (.long q1), .second, .val (.int (1 : Int32)), .val (.int (own_pk a1)), .val (.int (own_pk b1)), .val (.int (own_pk c1)), .val (.ref x41), .val (.long (own_max (p1 &&& (9223372036854775807 : Int64)))), .second, .val (.long (q1 &&& (9223372036854775807 : Int64))), .second, .val (.ref b43), .val (.ref x41), .unset] [])) (fun _ k => XS.icmpYes X45.here hx rfl (pc0 := 95) (pc' := 102) rfl (hb hby at_95) rfl (feq h45).2 (by decide) (by decide) k) ?_
      refine own_byW (T' := T45) (g' := (mkF m 103 #[.val (.int k1), .val (.int a1), .val (.int b1), .val (.int c1), .val (.long p1), .second, .val (.long q1), .second, .val (.int (1 : Int32)), .val (.int (own_pk a1)), .val (.int (own_pk b1)), .val (.int (own_pk c1)), .val (.ref x41), .val (.long (own_max (p1 &&& (9223372036854775807 : Int64)))), .second, .val (.long (q1 &&& (9223372036854775807 : Int64))), .second, .val (.ref b43), .val (.ref x41), .unset] [(.int (0 : Int32))])) (fun _ k => XS.iconst X45.here hx rfl (hb hby at_102) k) ?_
      refine own_byW (T' := T45) (g' := (mkF m 105 #[.val (.int k1), .val (.int a1), .val (.int b1), .val (.int c1), .val (.long p1), .second, .val (.long q1), .second, .val (.int (1 : Int32)), .val (.int (own_pk a1)), .val (.int (own_pk b1)), .val (.int (own_pk c1)), .val (.ref x41), .val (.long (own_max (p1 &&& (9223372036854775807 : Int64)))), .second, .val (.long (q1 &&& (9223372036854775807 : Int64))), .second, .val (.ref b43), .val (.ref x41), .val (.int (0 : Int32))] [])) (fun _ k => XS.istore X45.here hx rfl (hb hby at_103) rfl (l' := #[.val (.int k1), .val (.int a1), .val (.int b1), .val (.int c1), .val (.long p1), .second, .val (.long q1), .second, .val (.int (1 : Int32)), .val (.int (own_pk a1)), .val (.int (own_pk b1)), .val (.int (own_pk c1)), .val (.ref x41), .val (.long (own_max (p1 &&& (9223372036854775807 : Int64)))), .second, .val (.long (q1 &&& (9223372036854775807 : Int64))), .second, .val (.ref b43), .val (.ref x41), .val (.int (0 : Int32))]) rfl k) ?_
      refine own_byW (T' := T45) (g' := (mkF m 107 #[.val (.int k1), .val (.int a1), .val (.int b1), .val (.int c1), .val (.long p1), .second, .val (.long q1), .second, .val (.int (1 : Int32)), .val (.int (own_pk a1)), .val (.int (own_pk b1)), .val (.int (own_pk c1)), .val (.ref x41), .val (.long (own_max (p1 &&& (9223372036854775807 : Int64)))), .second, .val (.long (q1 &&& (9223372036854775807 : Int64))), .second, .val (.ref b43), .val (.ref x41), .val (.int (0 : Int32))] [(.int (0 : Int32))])) (fun _ k => XS.iload X45.here hx rfl (hb hby at_105) rfl k) ?_
      refine own_byW (T' := T45) (g' := (mkF m 118 #[.val (.int k1), .val (.int a1), .val (.int b1), .val (.int c1), .val (.long p1), .second, .val (.long q1), .second, .val (.int (1 : Int32)), .val (.int (own_pk a1)), .val (.int (own_pk b1)), .val (.int (own_pk c1)), .val (.ref x41), .val (.long (own_max (p1 &&& (9223372036854775807 : Int64)))), .second, .val (.long (q1 &&& (9223372036854775807 : Int64))), .second, .val (.ref b43), .val (.ref x41), .val (.int (0 : Int32))] [])) (fun _ k => XS.ifYes X45.here hx rfl (pc0 := 107) (pc' := 118) rfl (hb hby at_107) rfl ((if0 _ _).trans (teq (by decide)).1) (by decide) (by decide) k) ?_
      refine own_byW (T' := T45) (g' := (mkF m 120 #[.val (.int k1), .val (.int a1), .val (.int b1), .val (.int c1), .val (.long p1), .second, .val (.long q1), .second, .val (.int (1 : Int32)), .val (.int (own_pk a1)), .val (.int (own_pk b1)), .val (.int (own_pk c1)), .val (.ref x41), .val (.long (own_max (p1 &&& (9223372036854775807 : Int64)))), .second, .val (.long (q1 &&& (9223372036854775807 : Int64))), .second, .val (.ref b43), .val (.ref x41), .val (.int (0 : Int32))] [(.ref x41)])) (fun _ k => XS.aload X45.here hx rfl (hb hby at_118) rfl rfl k) ?_
      refine own_byW (T' := T45) (g' := (mkF m 122 #[.val (.int k1), .val (.int a1), .val (.int b1), .val (.int c1), .val (.long p1), .second, .val (.long q1), .second, .val (.int (1 : Int32)), .val (.int (own_pk a1)), .val (.int (own_pk b1)), .val (.int (own_pk c1)), .val (.ref x41), .val (.long (own_max (p1 &&& (9223372036854775807 : Int64)))), .second, .val (.long (q1 &&& (9223372036854775807 : Int64))), .second, .val (.ref b43), .val (.ref x41), .val (.int (0 : Int32))] [(.ref x41), (.ref x41)])) (fun _ k => XS.aload X45.here hx rfl (hb hby at_120) rfl rfl k) ?_
      obtain ⟨cq46, kq46, q46a, q46b, q46c⟩ := isOf hZ45 rfl (Exa.keep (Exa.keep (Exa.ext E43 E41) K44) K45)
      obtain ⟨_, _, ⟨T46, L46, k46, n46⟩, -, X46, ⟨Lc46, hQ46, l46, y46, z46⟩, st46⟩ := X45.virtualBack hx (y := (⟨"java/lang/String", "equals", "(Ljava/lang/Object;)Z"⟩ : MethodName)) (z := (⟨"java/lang/String", "equals", "(Ljava/lang/Object;)Z"⟩ : MethodName)) hown45 (mvT hZ45 (hw _ (List.mem_of_getElem? (i := 74) rfl))) (mvT hZ45 (hw _ (List.mem_of_getElem? (i := 64) rfl))) (notFace_of_selects (args := #[]) (mvT hZ45 (hw _ (List.mem_of_getElem? (i := 66) rfl)))) (mvT hZ45 (hw _ (List.mem_of_getElem? (i := 66) rfl))) (mvT hZ45 (hw _ (List.mem_of_getElem? (i := 65) rfl))) (by decide) (backOf (W := 0) (seq_same l Z a0 hw [] x41  T45.heap n0 (Nat.le_trans (Nat.le_trans (Nat.le_trans (Nat.le_trans Z0 K41.1) E43.1) K44.1) K45.1) ) hZ45 (hw _ (List.mem_of_getElem? (i := 67) rfl)) (hw _ (List.mem_of_getElem? (i := 9) rfl)) (by decide) (by decide)) q46a q46c (g := (mkF m 122 #[.val (.int k1), .val (.int a1), .val (.int b1), .val (.int c1), .val (.long p1), .second, .val (.long q1), .second, .val (.int (1 : Int32)), .val (.int (own_pk a1)), .val (.int (own_pk b1)), .val (.int (own_pk c1)), .val (.ref x41), .val (.long (own_max (p1 &&& (9223372036854775807 : Int64)))), .second, .val (.long (q1 &&& (9223372036854775807 : Int64))), .second, .val (.ref b43), .val (.ref x41), .val (.int (0 : Int32))] [(.ref x41), (.ref x41)])) rfl (by rw [hml]; rfl) (Steps.refl _) (argsL := [(.ref x41)]) (rest := []) (lenOf pd_8 rfl) rfl (by show 2 * 0 + _ ≤ _; exact Nat.le_of_eq rfl) (hb hby at_122) (fun _ _ => ⟨rfl, rfl, (by decide : ((((((((0 + 0) + 0) + 0) + 3) + 0) + 1) + 2) + 2) + 0 ≤ _), (by decide : ((((((((0 + 0) + 0) + 0) + 6) + 0) + 3) + 24) + 8) + 0 ≤ _)⟩)
      dsimp only [Pt.U, Pt.locs, Pt.cells, Pt.slots] at X46 l46 y46 z46 st46 hQ46
      subst l46 y46 z46
      obtain ⟨rfl, N46q, e46⟩ := hQ46
      have N46 := Fr.app N45 N46q
      refine own_byW (T' := T46) (g' := (mkF m 125 #[.val (.int k1), .val (.int a1), .val (.int b1), .val (.int c1), .val (.long p1), .second, .val (.long q1), .second, .val (.int (1 : Int32)), .val (.int (own_pk a1)), .val (.int (own_pk b1)), .val (.int (own_pk c1)), .val (.ref x41), .val (.long (own_max (p1 &&& (9223372036854775807 : Int64)))), .second, .val (.long (q1 &&& (9223372036854775807 : Int64))), .second, .val (.ref b43), .val (.ref x41), .val (.int (0 : Int32))] [(.int (1 : Int32))])) (fun _ k => st46.trans k) ?_
      refine own_retW (s := s) X46 hlk hS45 (by rw [e46]; exact (Nat.le_refl _)) hZ45 hEL C45 e46 (v := some (.int (1 : Int32))) (fun h => by rw [Bd.returns] at h; cases h) (fun fs hr => retN X46 hx (t := .boolean) Bd.returns (by simp) (hb hby at_125) hr) ?_ (by decide) (by decide)
      rw [e46]
      exact ⟨rfl, N46⟩
  · skip
    rw [hq21]
    refine own_byW (T' := s₁) (g' := (mkF m 6 #[.val (.int k1), .val (.int a1), .val (.int b1), .val (.int c1), .val (.long p1), .second, .val (.long q1), .second, .val (.int (2 : Int32)), .unset, .unset, .unset, .unset, .unset, .unset, .unset, .unset, .unset, .unset, .unset] [(.int a1)])) (fun _ k => XS.iloadN X0.here hx rfl (hb hby at_5) rfl k) ?_
    obtain ⟨_, _, ⟨T47, L47, k47, n47⟩, -, X47, ⟨Lc47, hQ47, l47, y47, z47⟩, st47⟩ := Jvm.LawKit.callS X0 hx (y := (⟨"com/example/shelfgraph/shelfgraph/ingest/RecordPositionInputNamePinLaw", "pick", "(I)C"⟩ : MethodName)) hown (mvT hZ (hw _ (List.mem_of_getElem? (i := 0) rfl))) (mvT hZ (hw _ (List.mem_of_getElem? (i := 1) rfl))) (mvT hZ (hw _ (List.mem_of_getElem? (i := 2) rfl))) (mvT hZ (hw _ (List.mem_of_getElem? (i := 3) rfl))) (by decide) (backOf (W := 0) (rm1 l Z a0 hw [] a1  h0 n0 Z0 ) hZ (hw _ (List.mem_of_getElem? (i := 3) rfl)) (hw _ (List.mem_of_getElem? (i := 2) rfl)) (by decide) (by decide)) (g := (mkF m 6 #[.val (.int k1), .val (.int a1), .val (.int b1), .val (.int c1), .val (.long p1), .second, .val (.long q1), .second, .val (.int (2 : Int32)), .unset, .unset, .unset, .unset, .unset, .unset, .unset, .unset, .unset, .unset, .unset] [(.int a1)])) rfl (by rw [hml]; rfl) (argsL := [(.int a1)]) (rest := []) (lenOf pd_9 rfl) rfl (by show 2 * 0 + _ ≤ _; exact Nat.le_of_eq rfl) (hb hby at_6) (fun _ _ => ⟨rfl, e0, (by decide : 0 + 0 ≤ _), (by decide : 0 + 0 ≤ _)⟩)
    dsimp only [Pt.U, Pt.locs, Pt.cells, Pt.slots] at X47 l47 y47 z47 st47 hQ47
    subst l47 y47 z47
    obtain ⟨rfl, N47q, e47⟩ := hQ47
    have N47 := Fr.app N0 N47q
    refine own_byW (T' := T47) (g' := (mkF m 9 #[.val (.int k1), .val (.int a1), .val (.int b1), .val (.int c1), .val (.long p1), .second, .val (.long q1), .second, .val (.int (2 : Int32)), .unset, .unset, .unset, .unset, .unset, .unset, .unset, .unset, .unset, .unset, .unset] [(.int (own_pk a1))])) (fun _ k => st47 _ k) ?_
    refine own_byW (T' := T47) (g' := (mkF m 11 #[.val (.int k1), .val (.int a1), .val (.int b1), .val (.int c1), .val (.long p1), .second, .val (.long q1), .second, .val (.int (2 : Int32)), .val (.int (own_pk a1)), .unset, .unset, .unset, .unset, .unset, .unset, .unset, .unset, .unset, .unset] [])) (fun _ k => XS.istore X47.here hx rfl (hb hby at_9) rfl (l' := #[.val (.int k1), .val (.int a1), .val (.int b1), .val (.int c1), .val (.long p1), .second, .val (.long q1), .second, .val (.int (2 : Int32)), .val (.int (own_pk a1)), .unset, .unset, .unset, .unset, .unset, .unset, .unset, .unset, .unset, .unset]) rfl k) ?_
    refine own_byW (T' := T47) (g' := (mkF m 12 #[.val (.int k1), .val (.int a1), .val (.int b1), .val (.int c1), .val (.long p1), .second, .val (.long q1), .second, .val (.int (2 : Int32)), .val (.int (own_pk a1)), .unset, .unset, .unset, .unset, .unset, .unset, .unset, .unset, .unset, .unset] [(.int b1)])) (fun _ k => XS.iloadN X47.here hx rfl (hb hby at_11) rfl k) ?_
    obtain ⟨_, _, ⟨T48, L48, k48, n48⟩, -, X48, ⟨Lc48, hQ48, l48, y48, z48⟩, st48⟩ := Jvm.LawKit.callS X47 hx (y := (⟨"com/example/shelfgraph/shelfgraph/ingest/RecordPositionInputNamePinLaw", "pick", "(I)C"⟩ : MethodName)) hown (mvT hZ (hw _ (List.mem_of_getElem? (i := 0) rfl))) (mvT hZ (hw _ (List.mem_of_getElem? (i := 1) rfl))) (mvT hZ (hw _ (List.mem_of_getElem? (i := 2) rfl))) (mvT hZ (hw _ (List.mem_of_getElem? (i := 3) rfl))) (by decide) (backOf (W := 0) (rm1 l Z a0 hw [] b1  h0 n0 Z0 ) hZ (hw _ (List.mem_of_getElem? (i := 3) rfl)) (hw _ (List.mem_of_getElem? (i := 2) rfl)) (by decide) (by decide)) (g := (mkF m 12 #[.val (.int k1), .val (.int a1), .val (.int b1), .val (.int c1), .val (.long p1), .second, .val (.long q1), .second, .val (.int (2 : Int32)), .val (.int (own_pk a1)), .unset, .unset, .unset, .unset, .unset, .unset, .unset, .unset, .unset, .unset] [(.int b1)])) rfl (by rw [hml]; rfl) (argsL := [(.int b1)]) (rest := []) (lenOf pd_9 rfl) rfl (by show 2 * 0 + _ ≤ _; exact Nat.le_of_eq rfl) (hb hby at_12) (fun _ _ => ⟨rfl, e47, (by decide : (0 + 0) + 0 ≤ _), (by decide : (0 + 0) + 0 ≤ _)⟩)
    dsimp only [Pt.U, Pt.locs, Pt.cells, Pt.slots] at X48 l48 y48 z48 st48 hQ48
    subst l48 y48 z48
    obtain ⟨rfl, N48q, e48⟩ := hQ48
    have N48 := Fr.app N47 N48q
    refine own_byW (T' := T48) (g' := (mkF m 15 #[.val (.int k1), .val (.int a1), .val (.int b1), .val (.int c1), .val (.long p1), .second, .val (.long q1), .second, .val (.int (2 : Int32)), .val (.int (own_pk a1)), .unset, .unset, .unset, .unset, .unset, .unset, .unset, .unset, .unset, .unset] [(.int (own_pk b1))])) (fun _ k => st48 _ k) ?_
    refine own_byW (T' := T48) (g' := (mkF m 17 #[.val (.int k1), .val (.int a1), .val (.int b1), .val (.int c1), .val (.long p1), .second, .val (.long q1), .second, .val (.int (2 : Int32)), .val (.int (own_pk a1)), .val (.int (own_pk b1)), .unset, .unset, .unset, .unset, .unset, .unset, .unset, .unset, .unset] [])) (fun _ k => XS.istore X48.here hx rfl (hb hby at_15) rfl (l' := #[.val (.int k1), .val (.int a1), .val (.int b1), .val (.int c1), .val (.long p1), .second, .val (.long q1), .second, .val (.int (2 : Int32)), .val (.int (own_pk a1)), .val (.int (own_pk b1)), .unset, .unset, .unset, .unset, .unset, .unset, .unset, .unset, .unset]) rfl k) ?_
    refine own_byW (T' := T48) (g' := (mkF m 18 #[.val (.int k1), .val (.int a1), .val (.int b1), .val (.int c1), .val (.long p1), .second, .val (.long q1), .second, .val (.int (2 : Int32)), .val (.int (own_pk a1)), .val (.int (own_pk b1)), .unset, .unset, .unset, .unset, .unset, .unset, .unset, .unset, .unset] [(.int c1)])) (fun _ k => XS.iloadN X48.here hx rfl (hb hby at_17) rfl k) ?_
    obtain ⟨_, _, ⟨T49, L49, k49, n49⟩, -, X49, ⟨Lc49, hQ49, l49, y49, z49⟩, st49⟩ := Jvm.LawKit.callS X48 hx (y := (⟨"com/example/shelfgraph/shelfgraph/ingest/RecordPositionInputNamePinLaw", "pick", "(I)C"⟩ : MethodName)) hown (mvT hZ (hw _ (List.mem_of_getElem? (i := 0) rfl))) (mvT hZ (hw _ (List.mem_of_getElem? (i := 1) rfl))) (mvT hZ (hw _ (List.mem_of_getElem? (i := 2) rfl))) (mvT hZ (hw _ (List.mem_of_getElem? (i := 3) rfl))) (by decide) (backOf (W := 0) (rm1 l Z a0 hw [] c1  h0 n0 Z0 ) hZ (hw _ (List.mem_of_getElem? (i := 3) rfl)) (hw _ (List.mem_of_getElem? (i := 2) rfl)) (by decide) (by decide)) (g := (mkF m 18 #[.val (.int k1), .val (.int a1), .val (.int b1), .val (.int c1), .val (.long p1), .second, .val (.long q1), .second, .val (.int (2 : Int32)), .val (.int (own_pk a1)), .val (.int (own_pk b1)), .unset, .unset, .unset, .unset, .unset, .unset, .unset, .unset, .unset] [(.int c1)])) rfl (by rw [hml]; rfl) (argsL := [(.int c1)]) (rest := []) (lenOf pd_9 rfl) rfl (by show 2 * 0 + _ ≤ _; exact Nat.le_of_eq rfl) (hb hby at_18) (fun _ _ => ⟨rfl, e48, (by decide : ((0 + 0) + 0) + 0 ≤ _), (by decide : ((0 + 0) + 0) + 0 ≤ _)⟩)
    dsimp only [Pt.U, Pt.locs, Pt.cells, Pt.slots] at X49 l49 y49 z49 st49 hQ49
    subst l49 y49 z49
    obtain ⟨rfl, N49q, e49⟩ := hQ49
    have N49 := Fr.app N48 N49q
    refine own_byW (T' := T49) (g' := (mkF m 21 #[.val (.int k1), .val (.int a1), .val (.int b1), .val (.int c1), .val (.long p1), .second, .val (.long q1), .second, .val (.int (2 : Int32)), .val (.int (own_pk a1)), .val (.int (own_pk b1)), .unset, .unset, .unset, .unset, .unset, .unset, .unset, .unset, .unset] [(.int (own_pk c1))])) (fun _ k => st49 _ k) ?_
    refine own_byW (T' := T49) (g' := (mkF m 23 #[.val (.int k1), .val (.int a1), .val (.int b1), .val (.int c1), .val (.long p1), .second, .val (.long q1), .second, .val (.int (2 : Int32)), .val (.int (own_pk a1)), .val (.int (own_pk b1)), .val (.int (own_pk c1)), .unset, .unset, .unset, .unset, .unset, .unset, .unset, .unset] [])) (fun _ k => XS.istore X49.here hx rfl (hb hby at_21) rfl (l' := #[.val (.int k1), .val (.int a1), .val (.int b1), .val (.int c1), .val (.long p1), .second, .val (.long q1), .second, .val (.int (2 : Int32)), .val (.int (own_pk a1)), .val (.int (own_pk b1)), .val (.int (own_pk c1)), .unset, .unset, .unset, .unset, .unset, .unset, .unset, .unset]) rfl k) ?_
    refine own_byW (T' := T49) (g' := (mkF m 25 #[.val (.int k1), .val (.int a1), .val (.int b1), .val (.int c1), .val (.long p1), .second, .val (.long q1), .second, .val (.int (2 : Int32)), .val (.int (own_pk a1)), .val (.int (own_pk b1)), .val (.int (own_pk c1)), .unset, .unset, .unset, .unset, .unset, .unset, .unset, .unset] [(.int (2 : Int32))])) (fun _ k => XS.iload X49.here hx rfl (hb hby at_23) rfl k) ?_
    refine own_byW (T' := T49) (g' := (mkF m 27 #[.val (.int k1), .val (.int a1), .val (.int b1), .val (.int c1), .val (.long p1), .second, .val (.long q1), .second, .val (.int (2 : Int32)), .val (.int (own_pk a1)), .val (.int (own_pk b1)), .val (.int (own_pk c1)), .unset, .unset, .unset, .unset, .unset, .unset, .unset, .unset] [(.int (own_pk a1)), (.int (2 : Int32))])) (fun _ k => XS.iload X49.here hx rfl (hb hby at_25) rfl k) ?_
    refine own_byW (T' := T49) (g' := (mkF m 29 #[.val (.int k1), .val (.int a1), .val (.int b1), .val (.int c1), .val (.long p1), .second, .val (.long q1), .second, .val (.int (2 : Int32)), .val (.int (own_pk a1)), .val (.int (own_pk b1)), .val (.int (own_pk c1)), .unset, .unset, .unset, .unset, .unset, .unset, .unset, .unset] [(.int (own_pk b1)), (.int (own_pk a1)), (.int (2 : Int32))])) (fun _ k => XS.iload X49.here hx rfl (hb hby at_27) rfl k) ?_
    refine own_byW (T' := T49) (g' := (mkF m 31 #[.val (.int k1), .val (.int a1), .val (.int b1), .val (.int c1), .val (.long p1), .second, .val (.long q1), .second, .val (.int (2 : Int32)), .val (.int (own_pk a1)), .val (.int (own_pk b1)), .val (.int (own_pk c1)), .unset, .unset, .unset, .unset, .unset, .unset, .unset, .unset] [(.int (own_pk c1)), (.int (own_pk b1)), (.int (own_pk a1)), (.int (2 : Int32))])) (fun _ k => XS.iload X49.here hx rfl (hb hby at_29) rfl k) ?_
    obtain ⟨_, _, ⟨T50, L50, k50, n50⟩, -, X50, ⟨Lc50, hQ50, l50, y50, z50⟩, st50⟩ := Jvm.LawKit.callS X49 hx (y := (⟨"com/example/shelfgraph/shelfgraph/ingest/RecordPositionInputNamePinLaw", "make", "(ICCC)Ljava/lang/String;"⟩ : MethodName)) hown (mvT hZ (hw _ (List.mem_of_getElem? (i := 4) rfl))) (mvT hZ (hw _ (List.mem_of_getElem? (i := 5) rfl))) (mvT hZ (hw _ (List.mem_of_getElem? (i := 2) rfl))) (mvT hZ (hw _ (List.mem_of_getElem? (i := 6) rfl))) (by decide) (backOf (W := 0) (make_2 l Z a0 hw [] (own_pk a1) (own_pk b1) (own_pk c1) cs h0 n0 Z0 (Sta.ext (O0).2 S_CS) hcs (own_pk255 a1) (own_pk255 b1)) hZ (hw _ (List.mem_of_getElem? (i := 6) rfl)) (hw _ (List.mem_of_getElem? (i := 2) rfl)) (by decide) (by decide)) (g := (mkF m 31 #[.val (.int k1), .val (.int a1), .val (.int b1), .val (.int c1), .val (.long p1), .second, .val (.long q1), .second, .val (.int (2 : Int32)), .val (.int (own_pk a1)), .val (.int (own_pk b1)), .val (.int (own_pk c1)), .unset, .unset, .unset, .unset, .unset, .unset, .unset, .unset] [(.int (own_pk c1)), (.int (own_pk b1)), (.int (own_pk a1)), (.int (2 : Int32))])) rfl (by rw [hml]; rfl) (argsL := [(.int (2 : Int32)), (.int (own_pk a1)), (.int (own_pk b1)), (.int (own_pk c1))]) (rest := []) (lenOf pd_10 rfl) rfl (by show 2 * 0 + _ ≤ _; exact Nat.le_of_eq rfl) (hb hby at_31) (fun _ _ => ⟨rfl, e49, (by decide : (((0 + 0) + 0) + 0) + 3 ≤ _), (by decide : (((0 + 0) + 0) + 0) + 8 ≤ _)⟩)
    dsimp only [Pt.U, Pt.locs, Pt.cells, Pt.slots] at X50 l50 y50 z50 st50 hQ50
    subst l50 y50 z50
    obtain ⟨x50, t50, kb50, rfl, N50q, K50, zx50, E50, Fc50, Fv50, V50⟩ := hQ50
    have N50 := Fr.app N49 N50q
    have KK50 : Keep h0 T50.heap [] := Keep.trans (Keep.refl h0 []) K50 all0
    have C50 : CHr Z consts_1 s.vm s.heap s.vm T50.heap := CHr.trans C0 (CHr.keep K50 sf0 C0.1)
    refine own_byW (T' := T50) (g' := (mkF m 34 #[.val (.int k1), .val (.int a1), .val (.int b1), .val (.int c1), .val (.long p1), .second, .val (.long q1), .second, .val (.int (2 : Int32)), .val (.int (own_pk a1)), .val (.int (own_pk b1)), .val (.int (own_pk c1)), .unset, .unset, .unset, .unset, .unset, .unset, .unset, .unset] [(.ref x50)])) (fun _ k => st50 _ k) ?_
    refine own_byW (T' := T50) (g' := (mkF m 36 #[.val (.int k1), .val (.int a1), .val (.int b1), .val (.int c1), .val (.long p1), .second, .val (.long q1), .second, .val (.int (2 : Int32)), .val (.int (own_pk a1)), .val (.int (own_pk b1)), .val (.int (own_pk c1)), .val (.ref x50), .unset, .unset, .unset, .unset, .unset, .unset, .unset] [])) (fun _ k => XS.astore X50.here hx rfl (hb hby at_34) rfl rfl (l' := #[.val (.int k1), .val (.int a1), .val (.int b1), .val (.int c1), .val (.long p1), .second, .val (.long q1), .second, .val (.int (2 : Int32)), .val (.int (own_pk a1)), .val (.int (own_pk b1)), .val (.int (own_pk c1)), .val (.ref x50), .unset, .unset, .unset, .unset, .unset, .unset, .unset]) rfl k) ?_
    refine own_byW (T' := T50) (g' := (mkF m 37 #[.val (.int k1), .val (.int a1), .val (.int b1), .val (.int c1), .val (.long p1), .second, .val (.long q1), .second, .val (.int (2 : Int32)), .val (.int (own_pk a1)), .val (.int (own_pk b1)), .val (.int (own_pk c1)), .val (.ref x50), .unset, .unset, .unset, .unset, .unset, .unset, .unset] [(.long (1 : Int64))])) (fun _ k => XS.lconst X50.here hx rfl (hb hby at_36) k) ?_
    refine own_byW (T' := T50) (g' := (mkF m 39 #[.val (.int k1), .val (.int a1), .val (.int b1), .val (.int c1), .val (.long p1), .second, .val (.long q1), .second, .val (.int (2 : Int32)), .val (.int (own_pk a1)), .val (.int (own_pk b1)), .val (.int (own_pk c1)), .val (.ref x50), .unset, .unset, .unset, .unset, .unset, .unset, .unset] [(.long p1), (.long (1 : Int64))])) (fun _ k => XS.lload X50.here hx rfl (hb hby at_37) rfl k) ?_
    refine own_byW (T' := T50) (g' := (mkF m 42 #[.val (.int k1), .val (.int a1), .val (.int b1), .val (.int c1), .val (.long p1), .second, .val (.long q1), .second, .val (.int (2 : Int32)), .val (.int (own_pk a1)), .val (.int (own_pk b1)), .val (.int (own_pk c1)), .val (.ref x50), .unset, .unset, .unset, .unset, .unset, .unset, .unset] [(.long (9223372036854775807 : Int64)), (.long p1), (.long (1 : Int64))])) (fun _ k => ldc2J X50 hx hown (mvT hZ (hw _ (List.mem_of_getElem? (i := 29) rfl))) rfl (hb hby at_39) k) ?_
    refine own_byW (T' := T50) (g' := (mkF m 43 #[.val (.int k1), .val (.int a1), .val (.int b1), .val (.int c1), .val (.long p1), .second, .val (.long q1), .second, .val (.int (2 : Int32)), .val (.int (own_pk a1)), .val (.int (own_pk b1)), .val (.int (own_pk c1)), .val (.ref x50), .unset, .unset, .unset, .unset, .unset, .unset, .unset] [(.long (p1 &&& (9223372036854775807 : Int64))), (.long (1 : Int64))])) (fun _ k => XS.land X50.here hx rfl (hb hby at_42) rfl k) ?_
    obtain ⟨_, _, ⟨T51, L51, k51, n51⟩, -, X51, ⟨Lc51, hQ51, l51, y51, z51⟩, st51⟩ := Jvm.LawKit.callS X50 hx (y := (⟨"java/lang/Math", "max", "(JJ)J"⟩ : MethodName)) hown (mvT hZ (hw _ (List.mem_of_getElem? (i := 30) rfl))) (mvT hZ (hw _ (List.mem_of_getElem? (i := 31) rfl))) (mvT hZ (hw _ (List.mem_of_getElem? (i := 32) rfl))) (mvT hZ (hw _ (List.mem_of_getElem? (i := 33) rfl))) (by decide) (backOf (W := 0) (rm6 l Z a0 hw [] (p1 &&& (9223372036854775807 : Int64))  T50.heap n0 (Nat.le_trans Z0 K50.1) ) hZ (hw _ (List.mem_of_getElem? (i := 33) rfl)) (hw _ (List.mem_of_getElem? (i := 32) rfl)) (by decide) (by decide)) (g := (mkF m 43 #[.val (.int k1), .val (.int a1), .val (.int b1), .val (.int c1), .val (.long p1), .second, .val (.long q1), .second, .val (.int (2 : Int32)), .val (.int (own_pk a1)), .val (.int (own_pk b1)), .val (.int (own_pk c1)), .val (.ref x50), .unset, .unset, .unset, .unset, .unset, .unset, .unset] [(.long (p1 &&& (9223372036854775807 : Int64))), (.long (1 : Int64))])) rfl (by rw [hml]; rfl) (argsL := [(.long (1 : Int64)), (.long (p1 &&& (9223372036854775807 : Int64)))]) (rest := []) (lenOf pd_11 rfl) rfl (by show 2 * 0 + _ ≤ _; exact Nat.le_of_eq rfl) (hb hby at_43) (fun _ _ => ⟨rfl, rfl, (by decide : ((((0 + 0) + 0) + 0) + 3) + 0 ≤ _), (by decide : ((((0 + 0) + 0) + 0) + 8) + 0 ≤ _)⟩)
    dsimp only [Pt.U, Pt.locs, Pt.cells, Pt.slots] at X51 l51 y51 z51 st51 hQ51
    subst l51 y51 z51
    obtain ⟨rfl, N51q, e51⟩ := hQ51
    have N51 := Fr.app N50 N51q
    refine own_byW (T' := T51) (g' := (mkF m 46 #[.val (.int k1), .val (.int a1), .val (.int b1), .val (.int c1), .val (.long p1), .second, .val (.long q1), .second, .val (.int (2 : Int32)), .val (.int (own_pk a1)), .val (.int (own_pk b1)), .val (.int (own_pk c1)), .val (.ref x50), .unset, .unset, .unset, .unset, .unset, .unset, .unset] [(.long (own_max (p1 &&& (9223372036854775807 : Int64))))])) (fun _ k => st51 _ k) ?_
    refine own_byW (T' := T51) (g' := (mkF m 48 #[.val (.int k1), .val (.int a1), .val (.int b1), .val (.int c1), .val (.long p1), .second, .val (.long q1), .second, .val (.int (2 : Int32)), .val (.int (own_pk a1)), .val (.int (own_pk b1)), .val (.int (own_pk c1)), .val (.ref x50), .val (.long (own_max (p1 &&& (9223372036854775807 : Int64)))), .second, .unset, .unset, .unset, .unset, .unset] [])) (fun _ k => XS.lstore X51.here hx rfl (hb hby at_46) rfl (l' := #[.val (.int k1), .val (.int a1), .val (.int b1), .val (.int c1), .val (.long p1), .second, .val (.long q1), .second, .val (.int (2 : Int32)), .val (.int (own_pk a1)), .val (.int (own_pk b1)), .val (.int (own_pk c1)), .val (.ref x50), .val (.long (own_max (p1 &&& (9223372036854775807 : Int64)))), .second, .unset, .unset, .unset, .unset, .unset]) rfl k) ?_
    refine own_byW (T' := T51) (g' := (mkF m 50 #[.val (.int k1), .val (.int a1), .val (.int b1), .val (.int c1), .val (.long p1), .second, .val (.long q1), .second, .val (.int (2 : Int32)), .val (.int (own_pk a1)), .val (.int (own_pk b1)), .val (.int (own_pk c1)), .val (.ref x50), .val (.long (own_max (p1 &&& (9223372036854775807 : Int64)))), .second, .unset, .unset, .unset, .unset, .unset] [(.long q1)])) (fun _ k => XS.lload X51.here hx rfl (hb hby at_48) rfl k) ?_
    refine own_byW (T' := T51) (g' := (mkF m 53 #[.val (.int k1), .val (.int a1), .val (.int b1), .val (.int c1), .val (.long p1), .second, .val (.long q1), .second, .val (.int (2 : Int32)), .val (.int (own_pk a1)), .val (.int (own_pk b1)), .val (.int (own_pk c1)), .val (.ref x50), .val (.long (own_max (p1 &&& (9223372036854775807 : Int64)))), .second, .unset, .unset, .unset, .unset, .unset] [(.long (9223372036854775807 : Int64)), (.long q1)])) (fun _ k => ldc2J X51 hx hown (mvT hZ (hw _ (List.mem_of_getElem? (i := 29) rfl))) rfl (hb hby at_50) k) ?_
    refine own_byW (T' := T51) (g' := (mkF m 54 #[.val (.int k1), .val (.int a1), .val (.int b1), .val (.int c1), .val (.long p1), .second, .val (.long q1), .second, .val (.int (2 : Int32)), .val (.int (own_pk a1)), .val (.int (own_pk b1)), .val (.int (own_pk c1)), .val (.ref x50), .val (.long (own_max (p1 &&& (9223372036854775807 : Int64)))), .second, .unset, .unset, .unset, .unset, .unset] [(.long (q1 &&& (9223372036854775807 : Int64)))])) (fun _ k => XS.land X51.here hx rfl (hb hby at_53) rfl k) ?_
    refine own_byW (T' := T51) (g' := (mkF m 56 #[.val (.int k1), .val (.int a1), .val (.int b1), .val (.int c1), .val (.long p1), .second, .val (.long q1), .second, .val (.int (2 : Int32)), .val (.int (own_pk a1)), .val (.int (own_pk b1)), .val (.int (own_pk c1)), .val (.ref x50), .val (.long (own_max (p1 &&& (9223372036854775807 : Int64)))), .second, .val (.long (q1 &&& (9223372036854775807 : Int64))), .second, .unset, .unset, .unset] [])) (fun _ k => XS.lstore X51.here hx rfl (hb hby at_54) rfl (l' := #[.val (.int k1), .val (.int a1), .val (.int b1), .val (.int c1), .val (.long p1), .second, .val (.long q1), .second, .val (.int (2 : Int32)), .val (.int (own_pk a1)), .val (.int (own_pk b1)), .val (.int (own_pk c1)), .val (.ref x50), .val (.long (own_max (p1 &&& (9223372036854775807 : Int64)))), .second, .val (.long (q1 &&& (9223372036854775807 : Int64))), .second, .unset, .unset, .unset]) rfl k) ?_
    obtain ⟨T52, h52, X52, e52, E52, A52, D52, -, st52⟩ := newO X51 hx hZ hown (hw _ (List.mem_of_getElem? (i := 34) rfl)) (hw _ (List.mem_of_getElem? (i := 35) rfl)) (hw _ (List.mem_of_getElem? (i := 36) rfl)) e51 (g := (mkF m 56 #[.val (.int k1), .val (.int a1), .val (.int b1), .val (.int c1), .val (.long p1), .second, .val (.long q1), .second, .val (.int (2 : Int32)), .val (.int (own_pk a1)), .val (.int (own_pk b1)), .val (.int (own_pk c1)), .val (.ref x50), .val (.long (own_max (p1 &&& (9223372036854775807 : Int64)))), .second, .val (.long (q1 &&& (9223372036854775807 : Int64))), .second, .unset, .unset, .unset] [])) rfl (hb hby at_56) (by decide) (by decide)
    obtain ⟨b52, g52⟩ : ∃ z, z = T50.heap.size := ⟨_, rfl⟩
    rw [← g52] at A52 D52 st52
    have E_b52 : Exa Z h52 b52 "com/example/shelfgraph/shelfgraph/ingest/RecordPosition" := A52
    have F_input_b52 : Fld Z h52 b52 "com/example/shelfgraph/shelfgraph/ingest/RecordPosition" "input" "Ljava/lang/String;" .null := D52 (Or.inr (hw _ (List.mem_of_getElem? (i := 52) rfl))) (ty := (.object "java/lang/String")) (by decide)
    have F_number_b52 : Fld Z h52 b52 "com/example/shelfgraph/shelfgraph/ingest/RecordPosition" "number" "J" (.long (0 : Int64)) := D52 (Or.inr (hw _ (List.mem_of_getElem? (i := 54) rfl))) (ty := .long) (by decide)
    have F_offset_b52 : Fld Z h52 b52 "com/example/shelfgraph/shelfgraph/ingest/RecordPosition" "offset" "J" (.long (0 : Int64)) := D52 (Or.inr (hw _ (List.mem_of_getElem? (i := 56) rfl))) (ty := .long) (by decide)
    have g_b52 : n0 ≤ b52 := Nat.le_trans (Nat.le_trans Z0 K50.1) (Nat.le_of_eq g52.symm)
    have sz_b52 : h0.size ≤ b52 := Nat.le_trans KK50.1 (Nat.le_of_eq g52.symm)
    have K52 : Keep h0 h52 [] := Keep.ext KK50 E52
    have C52 : CHr Z consts_1 s.vm s.heap s.vm h52 := CHr.trans C50 (CHr.ext E52 C50.1)
    refine own_byW (T' := T52) (g' := (mkF m 59 #[.val (.int k1), .val (.int a1), .val (.int b1), .val (.int c1), .val (.long p1), .second, .val (.long q1), .second, .val (.int (2 : Int32)), .val (.int (own_pk a1)), .val (.int (own_pk b1)), .val (.int (own_pk c1)), .val (.ref x50), .val (.long (own_max (p1 &&& (9223372036854775807 : Int64)))), .second, .val (.long (q1 &&& (9223372036854775807 : Int64))), .second, .unset, .unset, .unset] [(.ref b52)])) (fun _ k => st52 _ k) ?_
    refine own_byW (T' := T52) (g' := (mkF m 60 #[.val (.int k1), .val (.int a1), .val (.int b1), .val (.int c1), .val (.long p1), .second, .val (.long q1), .second, .val (.int (2 : Int32)), .val (.int (own_pk a1)), .val (.int (own_pk b1)), .val (.int (own_pk c1)), .val (.ref x50), .val (.long (own_max (p1 &&& (9223372036854775807 : Int64)))), .second, .val (.long (q1 &&& (9223372036854775807 : Int64))), .second, .unset, .unset, .unset] [(.ref b52), (.ref b52)])) (fun _ k => XS.dup X52.here hx rfl (hb hby at_59) rfl rfl k) ?_
    refine own_byW (T' := T52) (g' := (mkF m 62 #[.val (.int k1), .val (.int a1), .val (.int b1), .val (.int c1), .val (.long p1), .second, .val (.long q1), .second, .val (.int (2 : Int32)), .val (.int (own_pk a1)), .val (.int (own_pk b1)), .val (.int (own_pk c1)), .val (.ref x50), .val (.long (own_max (p1 &&& (9223372036854775807 : Int64)))), .second, .val (.long (q1 &&& (9223372036854775807 : Int64))), .second, .unset, .unset, .unset] [(.ref x50), (.ref b52), (.ref b52)])) (fun _ k => XS.aload X52.here hx rfl (hb hby at_60) rfl rfl k) ?_
    refine own_byW (T' := T52) (g' := (mkF m 64 #[.val (.int k1), .val (.int a1), .val (.int b1), .val (.int c1), .val (.long p1), .second, .val (.long q1), .second, .val (.int (2 : Int32)), .val (.int (own_pk a1)), .val (.int (own_pk b1)), .val (.int (own_pk c1)), .val (.ref x50), .val (.long (own_max (p1 &&& (9223372036854775807 : Int64)))), .second, .val (.long (q1 &&& (9223372036854775807 : Int64))), .second, .unset, .unset, .unset] [(.long (own_max (p1 &&& (9223372036854775807 : Int64)))), (.ref x50), (.ref b52), (.ref b52)])) (fun _ k => XS.lload X52.here hx rfl (hb hby at_62) rfl k) ?_
    refine own_byW (T' := T52) (g' := (mkF m 66 #[.val (.int k1), .val (.int a1), .val (.int b1), .val (.int c1), .val (.long p1), .second, .val (.long q1), .second, .val (.int (2 : Int32)), .val (.int (own_pk a1)), .val (.int (own_pk b1)), .val (.int (own_pk c1)), .val (.ref x50), .val (.long (own_max (p1 &&& (9223372036854775807 : Int64)))), .second, .val (.long (q1 &&& (9223372036854775807 : Int64))), .second, .unset, .unset, .unset] [(.long (q1 &&& (9223372036854775807 : Int64))), (.long (own_max (p1 &&& (9223372036854775807 : Int64)))), (.ref x50), (.ref b52), (.ref b52)])) (fun _ k => XS.lload X52.here hx rfl (hb hby at_64) rfl k) ?_
    obtain ⟨_, _, ⟨T53, L53, k53, n53⟩, -, X53, hSq53, hgq53, ⟨Lc53, hQ53, l53, y53, z53, Cq53⟩, st53⟩ := X52.specialBackS hx (y := (⟨"com/example/shelfgraph/shelfgraph/ingest/RecordPosition", "<init>", "(Ljava/lang/String;JJ)V"⟩ : MethodName)) rfl hown (mvT hZ (hw _ (List.mem_of_getElem? (i := 37) rfl))) (mvT hZ (hw _ (List.mem_of_getElem? (i := 38) rfl))) (mvT hZ (hw _ (List.mem_of_getElem? (i := 39) rfl))) (by decide) (own_backSH (s := s) (EL := consts_1) (W := 1) (rm7 l Z a0 hw [] b52 x50 (own_max (p1 &&& (9223372036854775807 : Int64))) (q1 &&& (9223372036854775807 : Int64))  h52 n0 (Nat.le_trans (Nat.le_trans Z0 K50.1) E52.1) E_b52 F_input_b52 F_number_b52 F_offset_b52 g_b52 (own_max1 _) (own_pos _)) hZ (hw _ (List.mem_of_getElem? (i := 39) rfl)) (hw _ (List.mem_of_getElem? (i := 36) rfl)) (by decide) (by decide) hEL C52.1 (fun _ _ => trivial)) (g := (mkF m 66 #[.val (.int k1), .val (.int a1), .val (.int b1), .val (.int c1), .val (.long p1), .second, .val (.long q1), .second, .val (.int (2 : Int32)), .val (.int (own_pk a1)), .val (.int (own_pk b1)), .val (.int (own_pk c1)), .val (.ref x50), .val (.long (own_max (p1 &&& (9223372036854775807 : Int64)))), .second, .val (.long (q1 &&& (9223372036854775807 : Int64))), .second, .unset, .unset, .unset] [(.long (q1 &&& (9223372036854775807 : Int64))), (.long (own_max (p1 &&& (9223372036854775807 : Int64)))), (.ref x50), (.ref b52), (.ref b52)])) rfl (by rw [hml]; rfl) (Steps.refl _) (a := b52) (argsL := [(.ref x50), (.long (own_max (p1 &&& (9223372036854775807 : Int64)))), (.long (q1 &&& (9223372036854775807 : Int64)))]) (rest := [(.ref b52)]) (lenOf pd_12 rfl) rfl (by show 2 * 0 + _ ≤ _; exact Nat.le_of_eq rfl) (hb hby at_66) (fun _ _ => ⟨rfl, e52, (by decide : ((((((0 + 0) + 0) + 0) + 3) + 0) + 1) + 2 ≤ _), (by decide : ((((((0 + 0) + 0) + 0) + 8) + 0) + 3) + 24 ≤ _)⟩)
    dsimp only [Pt.U, Pt.locs, Pt.cells, Pt.slots] at X53 l53 y53 z53 st53 hQ53 hSq53 hgq53 Cq53
    subst l53 y53 z53
    obtain ⟨rfl, N53q, K53, Fi53⟩ := hQ53
    have N53 := Fr.app N51 N53q
    have KK53 : Keep h0 T53.heap [] := Keep.trans K52 K53 (allS (Or.inr sz_b52) all0)
    have hS53 := foldS hS0 (T := T52) (by rw [e52]; exact (Nat.le_trans (Nat.le_trans hk0 K50.1) E52.1)) hSq53 hgq53
    have hZ53 : Z.Warmed39 (s.setVm T53.vm).vm := State.Warmed39.trans hZ hSq53.1
    have hown53 : (s.setVm T53.vm).vm.findClass "com/example/shelfgraph/shelfgraph/ingest/RecordPositionInputNamePinLaw" = some m.cls := by show T53.vm.findClass "com/example/shelfgraph/shelfgraph/ingest/RecordPositionInputNamePinLaw" = some m.cls; rw [hSq53.1.alike.findClass]; exact hown
    have X53 : Stand p l e room_1 (s.setVm T53.vm) m #[(.int k1), (.int a1), (.int b1), (.int c1), (.long p1), (.long q1)] below meth c T53 (((((L47 ++ Lc48) ++ Lc49) ++ Lc50) ++ Lc51) ++ Lc53) (((((((0 + 0) + 0) + 0) + 3) + 0) + 1) + 2) (((((((0 + 0) + 0) + 0) + 8) + 0) + 3) + 24) := X53
    have C53 : CHr Z consts_1 s.vm s.heap T53.vm T53.heap := CHr.trans C52 Cq53
    refine own_byW (T' := T53) (g' := (mkF m 69 #[.val (.int k1), .val (.int a1), .val (.int b1), .val (.int c1), .val (.long p1), .second, .val (.long q1), .second, .val (.int (2 : Int32)), .val (.int (own_pk a1)), .val (.int (own_pk b1)), .val (.int (own_pk c1)), .val (.ref x50), .val (.long (own_max (p1 &&& (9223372036854775807 : Int64)))), .second, .val (.long (q1 &&& (9223372036854775807 : Int64))), .second, .unset, .unset, .unset] [(.ref b52)])) (fun _ k => st53.trans k) ?_
    refine own_byW (T' := T53) (g' := (mkF m 71 #[.val (.int k1), .val (.int a1), .val (.int b1), .val (.int c1), .val (.long p1), .second, .val (.long q1), .second, .val (.int (2 : Int32)), .val (.int (own_pk a1)), .val (.int (own_pk b1)), .val (.int (own_pk c1)), .val (.ref x50), .val (.long (own_max (p1 &&& (9223372036854775807 : Int64)))), .second, .val (.long (q1 &&& (9223372036854775807 : Int64))), .second, .val (.ref b52), .unset, .unset] [])) (fun _ k => XS.astore X53.here hx rfl (hb hby at_69) rfl rfl (l' := #[.val (.int k1), .val (.int a1), .val (.int b1), .val (.int c1), .val (.long p1), .second, .val (.long q1), .second, .val (.int (2 : Int32)), .val (.int (own_pk a1)), .val (.int (own_pk b1)), .val (.int (own_pk c1)), .val (.ref x50), .val (.long (own_max (p1 &&& (9223372036854775807 : Int64)))), .second, .val (.long (q1 &&& (9223372036854775807 : Int64))), .second, .val (.ref b52), .unset, .unset]) rfl k) ?_
    refine own_byW (T' := T53) (g' := (mkF m 73 #[.val (.int k1), .val (.int a1), .val (.int b1), .val (.int c1), .val (.long p1), .second, .val (.long q1), .second, .val (.int (2 : Int32)), .val (.int (own_pk a1)), .val (.int (own_pk b1)), .val (.int (own_pk c1)), .val (.ref x50), .val (.long (own_max (p1 &&& (9223372036854775807 : Int64)))), .second, .val (.long (q1 &&& (9223372036854775807 : Int64))), .second, .val (.ref b52), .unset, .unset] [(.ref b52)])) (fun _ k => XS.aload X53.here hx rfl (hb hby at_71) rfl rfl k) ?_
    obtain ⟨cq54, kq54, q54a, q54b, q54c⟩ := isOf hZ53 rfl (Exa.keep E_b52 K53)
    obtain ⟨_, _, ⟨T54, L54, k54, n54⟩, -, X54, hSq54, hgq54, ⟨Lc54, hQ54, l54, y54, z54, Cq54⟩, st54⟩ := X53.virtualBackS hx (y := (⟨"com/example/shelfgraph/shelfgraph/ingest/RecordPosition", "inputName", "()Ljava/lang/String;"⟩ : MethodName)) (z := (⟨"com/example/shelfgraph/shelfgraph/ingest/RecordPosition", "inputName", "()Ljava/lang/String;"⟩ : MethodName)) hown53 (mvT hZ53 (hw _ (List.mem_of_getElem? (i := 57) rfl))) (mvT hZ53 (hw _ (List.mem_of_getElem? (i := 58) rfl))) (notFace_of_selects (args := #[]) (mvT hZ53 (hw _ (List.mem_of_getElem? (i := 60) rfl)))) (mvT hZ53 (hw _ (List.mem_of_getElem? (i := 60) rfl))) (mvT hZ53 (hw _ (List.mem_of_getElem? (i := 59) rfl))) (by decide) (own_backSH (s := s) (EL := consts_1) (W := 0) (inm_2 l Z a0 hw [] b52 x50 t50 kb50 cs (nar .byte ((nar .char (own_pk a1)).toInt8.toInt32)) (nar .byte ((nar .char (own_pk b1)).toInt8.toInt32)) T53.heap n0 (Nat.le_trans (Nat.le_trans (Nat.le_trans Z0 K50.1) E52.1) K53.1) Fi53 (Exa.keep (Exa.ext E52 E50) K53) (Fld.keep (Fld.ext E52 Fc50) K53 (ninS (Nat.ne_of_lt (Nat.lt_of_lt_of_le E50.lt (Nat.le_of_eq g52.symm))) nin0)) (Fld.keep (Fld.ext E52 Fv50) K53 (ninS (Nat.ne_of_lt (Nat.lt_of_lt_of_le E50.lt (Nat.le_of_eq g52.symm))) nin0)) (Arv.keep (Arv.ext V50 E52) K53 (ninS (Nat.ne_of_lt (Nat.lt_of_lt_of_le V50.lt (Nat.le_of_eq g52.symm))) nin0)) (Sta.ext ((Old.keep (Old.ext (Old.keep O0 K50 all0) E52) K53 (allS g_b52 all0))).2 S_CS) hcs) hZ53 (hw _ (List.mem_of_getElem? (i := 61) rfl)) (hw _ (List.mem_of_getElem? (i := 36) rfl)) (by decide) (by decide) hEL C53.1 (fun _ _ => trivial)) q54a q54c (g := (mkF m 73 #[.val (.int k1), .val (.int a1), .val (.int b1), .val (.int c1), .val (.long p1), .second, .val (.long q1), .second, .val (.int (2 : Int32)), .val (.int (own_pk a1)), .val (.int (own_pk b1)), .val (.int (own_pk c1)), .val (.ref x50), .val (.long (own_max (p1 &&& (9223372036854775807 : Int64)))), .second, .val (.long (q1 &&& (9223372036854775807 : Int64))), .second, .val (.ref b52), .unset, .unset] [(.ref b52)])) rfl (by rw [hml]; rfl) (Steps.refl _) (argsL := []) (rest := []) (lenOf pd_13 rfl) rfl (by show 2 * 0 + _ ≤ _; exact Nat.le_of_eq rfl) (hb hby at_73) (fun _ _ => ⟨rfl, rfl, (by decide : (((((((0 + 0) + 0) + 0) + 3) + 0) + 1) + 2) + 2 ≤ _), (by decide : (((((((0 + 0) + 0) + 0) + 8) + 0) + 3) + 24) + 8 ≤ _)⟩)
    dsimp only [Pt.U, Pt.locs, Pt.cells, Pt.slots] at X54 l54 y54 z54 st54 hQ54 hSq54 hgq54 Cq54
    subst l54 y54 z54
    obtain ⟨rfl, N54q, K54⟩ := hQ54
    have N54 := Fr.app N53 N54q
    have KK54 : Keep h0 T54.heap [] := Keep.trans KK53 K54 all0
    have hS54 := foldS hS53 (T := T53) (Nat.le_refl _) hSq54 hgq54
    have hZ54 : Z.Warmed39 (s.setVm T54.vm).vm := State.Warmed39.trans hZ53 hSq54.1
    have hown54 : (s.setVm T54.vm).vm.findClass "com/example/shelfgraph/shelfgraph/ingest/RecordPositionInputNamePinLaw" = some m.cls := by show T54.vm.findClass "com/example/shelfgraph/shelfgraph/ingest/RecordPositionInputNamePinLaw" = some m.cls; rw [hSq54.1.alike.findClass]; exact hown53
    have X54 : Stand p l e room_1 (s.setVm T54.vm) m #[(.int k1), (.int a1), (.int b1), (.int c1), (.long p1), (.long q1)] below meth c T54 ((((((L47 ++ Lc48) ++ Lc49) ++ Lc50) ++ Lc51) ++ Lc53) ++ Lc54) ((((((((0 + 0) + 0) + 0) + 3) + 0) + 1) + 2) + 2) ((((((((0 + 0) + 0) + 0) + 8) + 0) + 3) + 24) + 8) := X54
    have C54 : CHr Z consts_1 s.vm s.heap T54.vm T54.heap := CHr.trans C53 Cq54
    refine own_byW (T' := T54) (g' := (mkF m 76 #[.val (.int k1), .val (.int a1), .val (.int b1), .val (.int c1), .val (.long p1), .second, .val (.long q1), .second, .val (.int (2 : Int32)), .val (.int (own_pk a1)), .val (.int (own_pk b1)), .val (.int (own_pk c1)), .val (.ref x50), .val (.long (own_max (p1 &&& (9223372036854775807 : Int64)))), .second, .val (.long (q1 &&& (9223372036854775807 : Int64))), .second, .val (.ref b52), .unset, .unset] [(.ref x50)])) (fun _ k => st54.trans k) ?_
    refine own_byW (T' := T54) (g' := (mkF m 78 #[.val (.int k1), .val (.int a1), .val (.int b1), .val (.int c1), .val (.long p1), .second, .val (.long q1), .second, .val (.int (2 : Int32)), .val (.int (own_pk a1)), .val (.int (own_pk b1)), .val (.int (own_pk c1)), .val (.ref x50), .val (.long (own_max (p1 &&& (9223372036854775807 : Int64)))), .second, .val (.long (q1 &&& (9223372036854775807 : Int64))), .second, .val (.ref b52), .val (.ref x50), .unset] [])) (fun _ k => XS.astore X54.here hx rfl (hb hby at_76) rfl rfl (l' := #[.val (.int k1), .val (.int a1), .val (.int b1), .val (.int c1), .val (.long p1), .second, .val (.long q1), .second, .val (.int (2 : Int32)), .val (.int (own_pk a1)), .val (.int (own_pk b1)), .val (.int (own_pk c1)), .val (.ref x50), .val (.long (own_max (p1 &&& (9223372036854775807 : Int64)))), .second, .val (.long (q1 &&& (9223372036854775807 : Int64))), .second, .val (.ref b52), .val (.ref x50), .unset]) rfl k) ?_
    refine own_byW (T' := T54) (g' := (mkF m 80 #[.val (.int k1), .val (.int a1), .val (.int b1), .val (.int c1), .val (.long p1), .second, .val (.long q1), .second, .val (.int (2 : Int32)), .val (.int (own_pk a1)), .val (.int (own_pk b1)), .val (.int (own_pk c1)), .val (.ref x50), .val (.long (own_max (p1 &&& (9223372036854775807 : Int64)))), .second, .val (.long (q1 &&& (9223372036854775807 : Int64))), .second, .val (.ref b52), .val (.ref x50), .unset] [(.ref x50)])) (fun _ k => XS.aload X54.here hx rfl (hb hby at_78) rfl rfl k) ?_
    refine own_byW (T' := T54) (g' := (mkF m 85 #[.val (.int k1), .val (.int a1), .val (.int b1), .val (.int c1), .val (.long p1), .second, .val (.long q1), .second, .val (.int (2 : Int32)), .val (.int (own_pk a1)), .val (.int (own_pk b1)), .val (.int (own_pk c1)), .val (.ref x50), .val (.long (own_max (p1 &&& (9223372036854775807 : Int64)))), .second, .val (.long (q1 &&& (9223372036854775807 : Int64))), .second, .val (.ref b52), .val (.ref x50), .unset] [])) (fun _ k => XS.ifnonnullYes X54.here hx rfl (pc0 := 80) (pc' := 85) rfl (hb hby at_80) rfl (by decide) (by decide) k) ?_
    refine own_byW (T' := T54) (g' := (mkF m 87 #[.val (.int k1), .val (.int a1), .val (.int b1), .val (.int c1), .val (.long p1), .second, .val (.long q1), .second, .val (.int (2 : Int32)), .val (.int (own_pk a1)), .val (.int (own_pk b1)), .val (.int (own_pk c1)), .val (.ref x50), .val (.long (own_max (p1 &&& (9223372036854775807 : Int64)))), .second, .val (.long (q1 &&& (9223372036854775807 : Int64))), .second, .val (.ref b52), .val (.ref x50), .unset] [(.int (2 : Int32))])) (fun _ k => XS.iload X54.here hx rfl (hb hby at_85) rfl k) ?_
    refine own_byW (T' := T54) (g' := (mkF m 88 #[.val (.int k1), .val (.int a1), .val (.int b1), .val (.int c1), .val (.long p1), .second, .val (.long q1), .second, .val (.int (2 : Int32)), .val (.int (own_pk a1)), .val (.int (own_pk b1)), .val (.int (own_pk c1)), .val (.ref x50), .val (.long (own_max (p1 &&& (9223372036854775807 : Int64)))), .second, .val (.long (q1 &&& (9223372036854775807 : Int64))), .second, .val (.ref b52), .val (.ref x50), .unset] [(.int (1 : Int32)), (.int (2 : Int32))])) (fun _ k => XS.iconst X54.here hx rfl (hb hby at_87) k) ?_
    refine own_byW (T' := T54) (g' := (mkF m 102 #[.val (.int k1), .val (.int a1), .val (.int b1), .val (.int c1), .val (.long p1), .second, .val (.long q1), .second, .val (.int (2 : Int32)), .val (.int (own_pk a1)), .val (.int (own_pk b1)), .val (.int (own_pk c1)), .val (.ref x50), .val (.long (own_max (p1 &&& (9223372036854775807 : Int64)))), .second, .val (.long (q1 &&& (9223372036854775807 : Int64))), .second, .val (.ref b52), .val (.ref x50), .unset] [])) (fun _ k => XS.icmpYes X54.here hx rfl (pc0 := 88) (pc' := 102) rfl (hb hby at_88) rfl (feq (by decide)).2 (by decide) (by decide) k) ?_
    refine own_byW (T' := T54) (g' := (mkF m 103 #[.val (.int k1), .val (.int a1), .val (.int b1), .val (.int c1), .val (.long p1), .second, .val (.long q1), .second, .val (.int (2 : Int32)), .val (.int (own_pk a1)), .val (.int (own_pk b1)), .val (.int (own_pk c1)), .val (.ref x50), .val (.long (own_max (p1 &&& (9223372036854775807 : Int64)))), .second, .val (.long (q1 &&& (9223372036854775807 : Int64))), .second, .val (.ref b52), .val (.ref x50), .unset] [(.int (0 : Int32))])) (fun _ k => XS.iconst X54.here hx rfl (hb hby at_102) k) ?_
    refine own_byW (T' := T54) (g' := (mkF m 105 #[.val (.int k1), .val (.int a1), .val (.int b1), .val (.int c1), .val (.long p1), .second, .val (.long q1), .second, .val (.int (2 : Int32)), .val (.int (own_pk a1)), .val (.int (own_pk b1)), .val (.int (own_pk c1)), .val (.ref x50), .val (.long (own_max (p1 &&& (9223372036854775807 : Int64)))), .second, .val (.long (q1 &&& (9223372036854775807 : Int64))), .second, .val (.ref b52), .val (.ref x50), .val (.int (0 : Int32))] [])) (fun _ k => XS.istore X54.here hx rfl (hb hby at_103) rfl (l' := #[.val (.int k1), .val (.int a1), .val (.int b1), .val (.int c1), .val (.long p1), .second, .val (.long q1), .second, .val (.int (2 : Int32)), .val (.int (own_pk a1)), .val (.int (own_pk b1)), .val (.int (own_pk c1)), .val (.ref x50), .val (.long (own_max (p1 &&& (9223372036854775807 : Int64)))), .second, .val (.long (q1 &&& (9223372036854775807 : Int64))), .second, .val (.ref b52), .val (.ref x50), .val (.int (0 : Int32))]) rfl k) ?_
    refine own_byW (T' := T54) (g' := (mkF m 107 #[.val (.int k1), .val (.int a1), .val (.int b1), .val (.int c1), .val (.long p1), .second, .val (.long q1), .second, .val (.int (2 : Int32)), .val (.int (own_pk a1)), .val (.int (own_pk b1)), .val (.int (own_pk c1)), .val (.ref x50), .val (.long (own_max (p1 &&& (9223372036854775807 : Int64)))), .second, .val (.long (q1 &&& (9223372036854775807 : Int64))), .second, .val (.ref b52), .val (.ref x50), .val (.int (0 : Int32))] [(.int (0 : Int32))])) (fun _ k => XS.iload X54.here hx rfl (hb hby at_105) rfl k) ?_
    refine own_byW (T' := T54) (g' := (mkF m 118 #[.val (.int k1), .val (.int a1), .val (.int b1), .val (.int c1), .val (.long p1), .second, .val (.long q1), .second, .val (.int (2 : Int32)), .val (.int (own_pk a1)), .val (.int (own_pk b1)), .val (.int (own_pk c1)), .val (.ref x50), .val (.long (own_max (p1 &&& (9223372036854775807 : Int64)))), .second, .val (.long (q1 &&& (9223372036854775807 : Int64))), .second, .val (.ref b52), .val (.ref x50), .val (.int (0 : Int32))] [])) (fun _ k => XS.ifYes X54.here hx rfl (pc0 := 107) (pc' := 118) rfl (hb hby at_107) rfl ((if0 _ _).trans (teq (by decide)).1) (by decide) (by decide) k) ?_
    refine own_byW (T' := T54) (g' := (mkF m 120 #[.val (.int k1), .val (.int a1), .val (.int b1), .val (.int c1), .val (.long p1), .second, .val (.long q1), .second, .val (.int (2 : Int32)), .val (.int (own_pk a1)), .val (.int (own_pk b1)), .val (.int (own_pk c1)), .val (.ref x50), .val (.long (own_max (p1 &&& (9223372036854775807 : Int64)))), .second, .val (.long (q1 &&& (9223372036854775807 : Int64))), .second, .val (.ref b52), .val (.ref x50), .val (.int (0 : Int32))] [(.ref x50)])) (fun _ k => XS.aload X54.here hx rfl (hb hby at_118) rfl rfl k) ?_
    refine own_byW (T' := T54) (g' := (mkF m 122 #[.val (.int k1), .val (.int a1), .val (.int b1), .val (.int c1), .val (.long p1), .second, .val (.long q1), .second, .val (.int (2 : Int32)), .val (.int (own_pk a1)), .val (.int (own_pk b1)), .val (.int (own_pk c1)), .val (.ref x50), .val (.long (own_max (p1 &&& (9223372036854775807 : Int64)))), .second, .val (.long (q1 &&& (9223372036854775807 : Int64))), .second, .val (.ref b52), .val (.ref x50), .val (.int (0 : Int32))] [(.ref x50), (.ref x50)])) (fun _ k => XS.aload X54.here hx rfl (hb hby at_120) rfl rfl k) ?_
    obtain ⟨cq55, kq55, q55a, q55b, q55c⟩ := isOf hZ54 rfl (Exa.keep (Exa.keep (Exa.ext E52 E50) K53) K54)
    obtain ⟨_, _, ⟨T55, L55, k55, n55⟩, -, X55, ⟨Lc55, hQ55, l55, y55, z55⟩, st55⟩ := X54.virtualBack hx (y := (⟨"java/lang/String", "equals", "(Ljava/lang/Object;)Z"⟩ : MethodName)) (z := (⟨"java/lang/String", "equals", "(Ljava/lang/Object;)Z"⟩ : MethodName)) hown54 (mvT hZ54 (hw _ (List.mem_of_getElem? (i := 74) rfl))) (mvT hZ54 (hw _ (List.mem_of_getElem? (i := 64) rfl))) (notFace_of_selects (args := #[]) (mvT hZ54 (hw _ (List.mem_of_getElem? (i := 66) rfl)))) (mvT hZ54 (hw _ (List.mem_of_getElem? (i := 66) rfl))) (mvT hZ54 (hw _ (List.mem_of_getElem? (i := 65) rfl))) (by decide) (backOf (W := 0) (seq_same l Z a0 hw [] x50  T54.heap n0 (Nat.le_trans (Nat.le_trans (Nat.le_trans (Nat.le_trans Z0 K50.1) E52.1) K53.1) K54.1) ) hZ54 (hw _ (List.mem_of_getElem? (i := 67) rfl)) (hw _ (List.mem_of_getElem? (i := 9) rfl)) (by decide) (by decide)) q55a q55c (g := (mkF m 122 #[.val (.int k1), .val (.int a1), .val (.int b1), .val (.int c1), .val (.long p1), .second, .val (.long q1), .second, .val (.int (2 : Int32)), .val (.int (own_pk a1)), .val (.int (own_pk b1)), .val (.int (own_pk c1)), .val (.ref x50), .val (.long (own_max (p1 &&& (9223372036854775807 : Int64)))), .second, .val (.long (q1 &&& (9223372036854775807 : Int64))), .second, .val (.ref b52), .val (.ref x50), .val (.int (0 : Int32))] [(.ref x50), (.ref x50)])) rfl (by rw [hml]; rfl) (Steps.refl _) (argsL := [(.ref x50)]) (rest := []) (lenOf pd_8 rfl) rfl (by show 2 * 0 + _ ≤ _; exact Nat.le_of_eq rfl) (hb hby at_122) (fun _ _ => ⟨rfl, rfl, (by decide : ((((((((0 + 0) + 0) + 0) + 3) + 0) + 1) + 2) + 2) + 0 ≤ _), (by decide : ((((((((0 + 0) + 0) + 0) + 8) + 0) + 3) + 24) + 8) + 0 ≤ _)⟩)
    dsimp only [Pt.U, Pt.locs, Pt.cells, Pt.slots] at X55 l55 y55 z55 st55 hQ55
    subst l55 y55 z55
    obtain ⟨rfl, N55q, e55⟩ := hQ55
    have N55 := Fr.app N54 N55q
    refine own_byW (T' := T55) (g' := (mkF m 125 #[.val (.int k1), .val (.int a1), .val (.int b1), .val (.int c1), .val (.long p1), .second, .val (.long q1), .second, .val (.int (2 : Int32)), .val (.int (own_pk a1)), .val (.int (own_pk b1)), .val (.int (own_pk c1)), .val (.ref x50), .val (.long (own_max (p1 &&& (9223372036854775807 : Int64)))), .second, .val (.long (q1 &&& (9223372036854775807 : Int64))), .second, .val (.ref b52), .val (.ref x50), .val (.int (0 : Int32))] [(.int (1 : Int32))])) (fun _ k => st55.trans k) ?_
    refine own_retW (s := s) X55 hlk hS54 (by rw [e55]; exact (Nat.le_refl _)) hZ54 hEL C54 e55 (v := some (.int (1 : Int32))) (fun h => by rw [Bd.returns] at h; cases h) (fun fs hr => retN X55 hx (t := .boolean) Bd.returns (by simp) (hb hby at_125) hr) ?_ (by decide) (by decide)
    rw [e55]
    exact ⟨rfl, N55⟩
  · skip
    rw [hq21]
    refine own_byW (T' := s₁) (g' := (mkF m 6 #[.val (.int k1), .val (.int a1), .val (.int b1), .val (.int c1), .val (.long p1), .second, .val (.long q1), .second, .val (.int (3 : Int32)), .unset, .unset, .unset, .unset, .unset, .unset, .unset, .unset, .unset, .unset, .unset] [(.int a1)])) (fun _ k => XS.iloadN X0.here hx rfl (hb hby at_5) rfl k) ?_
    obtain ⟨_, _, ⟨T56, L56, k56, n56⟩, -, X56, ⟨Lc56, hQ56, l56, y56, z56⟩, st56⟩ := Jvm.LawKit.callS X0 hx (y := (⟨"com/example/shelfgraph/shelfgraph/ingest/RecordPositionInputNamePinLaw", "pick", "(I)C"⟩ : MethodName)) hown (mvT hZ (hw _ (List.mem_of_getElem? (i := 0) rfl))) (mvT hZ (hw _ (List.mem_of_getElem? (i := 1) rfl))) (mvT hZ (hw _ (List.mem_of_getElem? (i := 2) rfl))) (mvT hZ (hw _ (List.mem_of_getElem? (i := 3) rfl))) (by decide) (backOf (W := 0) (rm1 l Z a0 hw [] a1  h0 n0 Z0 ) hZ (hw _ (List.mem_of_getElem? (i := 3) rfl)) (hw _ (List.mem_of_getElem? (i := 2) rfl)) (by decide) (by decide)) (g := (mkF m 6 #[.val (.int k1), .val (.int a1), .val (.int b1), .val (.int c1), .val (.long p1), .second, .val (.long q1), .second, .val (.int (3 : Int32)), .unset, .unset, .unset, .unset, .unset, .unset, .unset, .unset, .unset, .unset, .unset] [(.int a1)])) rfl (by rw [hml]; rfl) (argsL := [(.int a1)]) (rest := []) (lenOf pd_9 rfl) rfl (by show 2 * 0 + _ ≤ _; exact Nat.le_of_eq rfl) (hb hby at_6) (fun _ _ => ⟨rfl, e0, (by decide : 0 + 0 ≤ _), (by decide : 0 + 0 ≤ _)⟩)
    dsimp only [Pt.U, Pt.locs, Pt.cells, Pt.slots] at X56 l56 y56 z56 st56 hQ56
    subst l56 y56 z56
    obtain ⟨rfl, N56q, e56⟩ := hQ56
    have N56 := Fr.app N0 N56q
    refine own_byW (T' := T56) (g' := (mkF m 9 #[.val (.int k1), .val (.int a1), .val (.int b1), .val (.int c1), .val (.long p1), .second, .val (.long q1), .second, .val (.int (3 : Int32)), .unset, .unset, .unset, .unset, .unset, .unset, .unset, .unset, .unset, .unset, .unset] [(.int (own_pk a1))])) (fun _ k => st56 _ k) ?_
    refine own_byW (T' := T56) (g' := (mkF m 11 #[.val (.int k1), .val (.int a1), .val (.int b1), .val (.int c1), .val (.long p1), .second, .val (.long q1), .second, .val (.int (3 : Int32)), .val (.int (own_pk a1)), .unset, .unset, .unset, .unset, .unset, .unset, .unset, .unset, .unset, .unset] [])) (fun _ k => XS.istore X56.here hx rfl (hb hby at_9) rfl (l' := #[.val (.int k1), .val (.int a1), .val (.int b1), .val (.int c1), .val (.long p1), .second, .val (.long q1), .second, .val (.int (3 : Int32)), .val (.int (own_pk a1)), .unset, .unset, .unset, .unset, .unset, .unset, .unset, .unset, .unset, .unset]) rfl k) ?_
    refine own_byW (T' := T56) (g' := (mkF m 12 #[.val (.int k1), .val (.int a1), .val (.int b1), .val (.int c1), .val (.long p1), .second, .val (.long q1), .second, .val (.int (3 : Int32)), .val (.int (own_pk a1)), .unset, .unset, .unset, .unset, .unset, .unset, .unset, .unset, .unset, .unset] [(.int b1)])) (fun _ k => XS.iloadN X56.here hx rfl (hb hby at_11) rfl k) ?_
    obtain ⟨_, _, ⟨T57, L57, k57, n57⟩, -, X57, ⟨Lc57, hQ57, l57, y57, z57⟩, st57⟩ := Jvm.LawKit.callS X56 hx (y := (⟨"com/example/shelfgraph/shelfgraph/ingest/RecordPositionInputNamePinLaw", "pick", "(I)C"⟩ : MethodName)) hown (mvT hZ (hw _ (List.mem_of_getElem? (i := 0) rfl))) (mvT hZ (hw _ (List.mem_of_getElem? (i := 1) rfl))) (mvT hZ (hw _ (List.mem_of_getElem? (i := 2) rfl))) (mvT hZ (hw _ (List.mem_of_getElem? (i := 3) rfl))) (by decide) (backOf (W := 0) (rm1 l Z a0 hw [] b1  h0 n0 Z0 ) hZ (hw _ (List.mem_of_getElem? (i := 3) rfl)) (hw _ (List.mem_of_getElem? (i := 2) rfl)) (by decide) (by decide)) (g := (mkF m 12 #[.val (.int k1), .val (.int a1), .val (.int b1), .val (.int c1), .val (.long p1), .second, .val (.long q1), .second, .val (.int (3 : Int32)), .val (.int (own_pk a1)), .unset, .unset, .unset, .unset, .unset, .unset, .unset, .unset, .unset, .unset] [(.int b1)])) rfl (by rw [hml]; rfl) (argsL := [(.int b1)]) (rest := []) (lenOf pd_9 rfl) rfl (by show 2 * 0 + _ ≤ _; exact Nat.le_of_eq rfl) (hb hby at_12) (fun _ _ => ⟨rfl, e56, (by decide : (0 + 0) + 0 ≤ _), (by decide : (0 + 0) + 0 ≤ _)⟩)
    dsimp only [Pt.U, Pt.locs, Pt.cells, Pt.slots] at X57 l57 y57 z57 st57 hQ57
    subst l57 y57 z57
    obtain ⟨rfl, N57q, e57⟩ := hQ57
    have N57 := Fr.app N56 N57q
    refine own_byW (T' := T57) (g' := (mkF m 15 #[.val (.int k1), .val (.int a1), .val (.int b1), .val (.int c1), .val (.long p1), .second, .val (.long q1), .second, .val (.int (3 : Int32)), .val (.int (own_pk a1)), .unset, .unset, .unset, .unset, .unset, .unset, .unset, .unset, .unset, .unset] [(.int (own_pk b1))])) (fun _ k => st57 _ k) ?_
    refine own_byW (T' := T57) (g' := (mkF m 17 #[.val (.int k1), .val (.int a1), .val (.int b1), .val (.int c1), .val (.long p1), .second, .val (.long q1), .second, .val (.int (3 : Int32)), .val (.int (own_pk a1)), .val (.int (own_pk b1)), .unset, .unset, .unset, .unset, .unset, .unset, .unset, .unset, .unset] [])) (fun _ k => XS.istore X57.here hx rfl (hb hby at_15) rfl (l' := #[.val (.int k1), .val (.int a1), .val (.int b1), .val (.int c1), .val (.long p1), .second, .val (.long q1), .second, .val (.int (3 : Int32)), .val (.int (own_pk a1)), .val (.int (own_pk b1)), .unset, .unset, .unset, .unset, .unset, .unset, .unset, .unset, .unset]) rfl k) ?_
    refine own_byW (T' := T57) (g' := (mkF m 18 #[.val (.int k1), .val (.int a1), .val (.int b1), .val (.int c1), .val (.long p1), .second, .val (.long q1), .second, .val (.int (3 : Int32)), .val (.int (own_pk a1)), .val (.int (own_pk b1)), .unset, .unset, .unset, .unset, .unset, .unset, .unset, .unset, .unset] [(.int c1)])) (fun _ k => XS.iloadN X57.here hx rfl (hb hby at_17) rfl k) ?_
    obtain ⟨_, _, ⟨T58, L58, k58, n58⟩, -, X58, ⟨Lc58, hQ58, l58, y58, z58⟩, st58⟩ := Jvm.LawKit.callS X57 hx (y := (⟨"com/example/shelfgraph/shelfgraph/ingest/RecordPositionInputNamePinLaw", "pick", "(I)C"⟩ : MethodName)) hown (mvT hZ (hw _ (List.mem_of_getElem? (i := 0) rfl))) (mvT hZ (hw _ (List.mem_of_getElem? (i := 1) rfl))) (mvT hZ (hw _ (List.mem_of_getElem? (i := 2) rfl))) (mvT hZ (hw _ (List.mem_of_getElem? (i := 3) rfl))) (by decide) (backOf (W := 0) (rm1 l Z a0 hw [] c1  h0 n0 Z0 ) hZ (hw _ (List.mem_of_getElem? (i := 3) rfl)) (hw _ (List.mem_of_getElem? (i := 2) rfl)) (by decide) (by decide)) (g := (mkF m 18 #[.val (.int k1), .val (.int a1), .val (.int b1), .val (.int c1), .val (.long p1), .second, .val (.long q1), .second, .val (.int (3 : Int32)), .val (.int (own_pk a1)), .val (.int (own_pk b1)), .unset, .unset, .unset, .unset, .unset, .unset, .unset, .unset, .unset] [(.int c1)])) rfl (by rw [hml]; rfl) (argsL := [(.int c1)]) (rest := []) (lenOf pd_9 rfl) rfl (by show 2 * 0 + _ ≤ _; exact Nat.le_of_eq rfl) (hb hby at_18) (fun _ _ => ⟨rfl, e57, (by decide : ((0 + 0) + 0) + 0 ≤ _), (by decide : ((0 + 0) + 0) + 0 ≤ _)⟩)
    dsimp only [Pt.U, Pt.locs, Pt.cells, Pt.slots] at X58 l58 y58 z58 st58 hQ58
    subst l58 y58 z58
    obtain ⟨rfl, N58q, e58⟩ := hQ58
    have N58 := Fr.app N57 N58q
    refine own_byW (T' := T58) (g' := (mkF m 21 #[.val (.int k1), .val (.int a1), .val (.int b1), .val (.int c1), .val (.long p1), .second, .val (.long q1), .second, .val (.int (3 : Int32)), .val (.int (own_pk a1)), .val (.int (own_pk b1)), .unset, .unset, .unset, .unset, .unset, .unset, .unset, .unset, .unset] [(.int (own_pk c1))])) (fun _ k => st58 _ k) ?_
    refine own_byW (T' := T58) (g' := (mkF m 23 #[.val (.int k1), .val (.int a1), .val (.int b1), .val (.int c1), .val (.long p1), .second, .val (.long q1), .second, .val (.int (3 : Int32)), .val (.int (own_pk a1)), .val (.int (own_pk b1)), .val (.int (own_pk c1)), .unset, .unset, .unset, .unset, .unset, .unset, .unset, .unset] [])) (fun _ k => XS.istore X58.here hx rfl (hb hby at_21) rfl (l' := #[.val (.int k1), .val (.int a1), .val (.int b1), .val (.int c1), .val (.long p1), .second, .val (.long q1), .second, .val (.int (3 : Int32)), .val (.int (own_pk a1)), .val (.int (own_pk b1)), .val (.int (own_pk c1)), .unset, .unset, .unset, .unset, .unset, .unset, .unset, .unset]) rfl k) ?_
    refine own_byW (T' := T58) (g' := (mkF m 25 #[.val (.int k1), .val (.int a1), .val (.int b1), .val (.int c1), .val (.long p1), .second, .val (.long q1), .second, .val (.int (3 : Int32)), .val (.int (own_pk a1)), .val (.int (own_pk b1)), .val (.int (own_pk c1)), .unset, .unset, .unset, .unset, .unset, .unset, .unset, .unset] [(.int (3 : Int32))])) (fun _ k => XS.iload X58.here hx rfl (hb hby at_23) rfl k) ?_
    refine own_byW (T' := T58) (g' := (mkF m 27 #[.val (.int k1), .val (.int a1), .val (.int b1), .val (.int c1), .val (.long p1), .second, .val (.long q1), .second, .val (.int (3 : Int32)), .val (.int (own_pk a1)), .val (.int (own_pk b1)), .val (.int (own_pk c1)), .unset, .unset, .unset, .unset, .unset, .unset, .unset, .unset] [(.int (own_pk a1)), (.int (3 : Int32))])) (fun _ k => XS.iload X58.here hx rfl (hb hby at_25) rfl k) ?_
    refine own_byW (T' := T58) (g' := (mkF m 29 #[.val (.int k1), .val (.int a1), .val (.int b1), .val (.int c1), .val (.long p1), .second, .val (.long q1), .second, .val (.int (3 : Int32)), .val (.int (own_pk a1)), .val (.int (own_pk b1)), .val (.int (own_pk c1)), .unset, .unset, .unset, .unset, .unset, .unset, .unset, .unset] [(.int (own_pk b1)), (.int (own_pk a1)), (.int (3 : Int32))])) (fun _ k => XS.iload X58.here hx rfl (hb hby at_27) rfl k) ?_
    refine own_byW (T' := T58) (g' := (mkF m 31 #[.val (.int k1), .val (.int a1), .val (.int b1), .val (.int c1), .val (.long p1), .second, .val (.long q1), .second, .val (.int (3 : Int32)), .val (.int (own_pk a1)), .val (.int (own_pk b1)), .val (.int (own_pk c1)), .unset, .unset, .unset, .unset, .unset, .unset, .unset, .unset] [(.int (own_pk c1)), (.int (own_pk b1)), (.int (own_pk a1)), (.int (3 : Int32))])) (fun _ k => XS.iload X58.here hx rfl (hb hby at_29) rfl k) ?_
    obtain ⟨_, _, ⟨T59, L59, k59, n59⟩, -, X59, ⟨Lc59, hQ59, l59, y59, z59⟩, st59⟩ := Jvm.LawKit.callS X58 hx (y := (⟨"com/example/shelfgraph/shelfgraph/ingest/RecordPositionInputNamePinLaw", "make", "(ICCC)Ljava/lang/String;"⟩ : MethodName)) hown (mvT hZ (hw _ (List.mem_of_getElem? (i := 4) rfl))) (mvT hZ (hw _ (List.mem_of_getElem? (i := 5) rfl))) (mvT hZ (hw _ (List.mem_of_getElem? (i := 2) rfl))) (mvT hZ (hw _ (List.mem_of_getElem? (i := 6) rfl))) (by decide) (backOf (W := 0) (make_3 l Z a0 hw [] (own_pk a1) (own_pk b1) (own_pk c1) cs h0 n0 Z0 (Sta.ext (O0).2 S_CS) hcs (own_pk255 a1) (own_pk255 b1) (own_pk255 c1)) hZ (hw _ (List.mem_of_getElem? (i := 6) rfl)) (hw _ (List.mem_of_getElem? (i := 2) rfl)) (by decide) (by decide)) (g := (mkF m 31 #[.val (.int k1), .val (.int a1), .val (.int b1), .val (.int c1), .val (.long p1), .second, .val (.long q1), .second, .val (.int (3 : Int32)), .val (.int (own_pk a1)), .val (.int (own_pk b1)), .val (.int (own_pk c1)), .unset, .unset, .unset, .unset, .unset, .unset, .unset, .unset] [(.int (own_pk c1)), (.int (own_pk b1)), (.int (own_pk a1)), (.int (3 : Int32))])) rfl (by rw [hml]; rfl) (argsL := [(.int (3 : Int32)), (.int (own_pk a1)), (.int (own_pk b1)), (.int (own_pk c1))]) (rest := []) (lenOf pd_10 rfl) rfl (by show 2 * 0 + _ ≤ _; exact Nat.le_of_eq rfl) (hb hby at_31) (fun _ _ => ⟨rfl, e58, (by decide : (((0 + 0) + 0) + 0) + 3 ≤ _), (by decide : (((0 + 0) + 0) + 0) + 10 ≤ _)⟩)
    dsimp only [Pt.U, Pt.locs, Pt.cells, Pt.slots] at X59 l59 y59 z59 st59 hQ59
    subst l59 y59 z59
    obtain ⟨x59, t59, kb59, rfl, N59q, K59, zx59, E59, Fc59, Fv59, V59⟩ := hQ59
    have N59 := Fr.app N58 N59q
    have KK59 : Keep h0 T59.heap [] := Keep.trans (Keep.refl h0 []) K59 all0
    have C59 : CHr Z consts_1 s.vm s.heap s.vm T59.heap := CHr.trans C0 (CHr.keep K59 sf0 C0.1)
    refine own_byW (T' := T59) (g' := (mkF m 34 #[.val (.int k1), .val (.int a1), .val (.int b1), .val (.int c1), .val (.long p1), .second, .val (.long q1), .second, .val (.int (3 : Int32)), .val (.int (own_pk a1)), .val (.int (own_pk b1)), .val (.int (own_pk c1)), .unset, .unset, .unset, .unset, .unset, .unset, .unset, .unset] [(.ref x59)])) (fun _ k => st59 _ k) ?_
    refine own_byW (T' := T59) (g' := (mkF m 36 #[.val (.int k1), .val (.int a1), .val (.int b1), .val (.int c1), .val (.long p1), .second, .val (.long q1), .second, .val (.int (3 : Int32)), .val (.int (own_pk a1)), .val (.int (own_pk b1)), .val (.int (own_pk c1)), .val (.ref x59), .unset, .unset, .unset, .unset, .unset, .unset, .unset] [])) (fun _ k => XS.astore X59.here hx rfl (hb hby at_34) rfl rfl (l' := #[.val (.int k1), .val (.int a1), .val (.int b1), .val (.int c1), .val (.long p1), .second, .val (.long q1), .second, .val (.int (3 : Int32)), .val (.int (own_pk a1)), .val (.int (own_pk b1)), .val (.int (own_pk c1)), .val (.ref x59), .unset, .unset, .unset, .unset, .unset, .unset, .unset]) rfl k) ?_
    refine own_byW (T' := T59) (g' := (mkF m 37 #[.val (.int k1), .val (.int a1), .val (.int b1), .val (.int c1), .val (.long p1), .second, .val (.long q1), .second, .val (.int (3 : Int32)), .val (.int (own_pk a1)), .val (.int (own_pk b1)), .val (.int (own_pk c1)), .val (.ref x59), .unset, .unset, .unset, .unset, .unset, .unset, .unset] [(.long (1 : Int64))])) (fun _ k => XS.lconst X59.here hx rfl (hb hby at_36) k) ?_
    refine own_byW (T' := T59) (g' := (mkF m 39 #[.val (.int k1), .val (.int a1), .val (.int b1), .val (.int c1), .val (.long p1), .second, .val (.long q1), .second, .val (.int (3 : Int32)), .val (.int (own_pk a1)), .val (.int (own_pk b1)), .val (.int (own_pk c1)), .val (.ref x59), .unset, .unset, .unset, .unset, .unset, .unset, .unset] [(.long p1), (.long (1 : Int64))])) (fun _ k => XS.lload X59.here hx rfl (hb hby at_37) rfl k) ?_
    refine own_byW (T' := T59) (g' := (mkF m 42 #[.val (.int k1), .val (.int a1), .val (.int b1), .val (.int c1), .val (.long p1), .second, .val (.long q1), .second, .val (.int (3 : Int32)), .val (.int (own_pk a1)), .val (.int (own_pk b1)), .val (.int (own_pk c1)), .val (.ref x59), .unset, .unset, .unset, .unset, .unset, .unset, .unset] [(.long (9223372036854775807 : Int64)), (.long p1), (.long (1 : Int64))])) (fun _ k => ldc2J X59 hx hown (mvT hZ (hw _ (List.mem_of_getElem? (i := 29) rfl))) rfl (hb hby at_39) k) ?_
    refine own_byW (T' := T59) (g' := (mkF m 43 #[.val (.int k1), .val (.int a1), .val (.int b1), .val (.int c1), .val (.long p1), .second, .val (.long q1), .second, .val (.int (3 : Int32)), .val (.int (own_pk a1)), .val (.int (own_pk b1)), .val (.int (own_pk c1)), .val (.ref x59), .unset, .unset, .unset, .unset, .unset, .unset, .unset] [(.long (p1 &&& (9223372036854775807 : Int64))), (.long (1 : Int64))])) (fun _ k => XS.land X59.here hx rfl (hb hby at_42) rfl k) ?_
    obtain ⟨_, _, ⟨T60, L60, k60, n60⟩, -, X60, ⟨Lc60, hQ60, l60, y60, z60⟩, st60⟩ := Jvm.LawKit.callS X59 hx (y := (⟨"java/lang/Math", "max", "(JJ)J"⟩ : MethodName)) hown (mvT hZ (hw _ (List.mem_of_getElem? (i := 30) rfl))) (mvT hZ (hw _ (List.mem_of_getElem? (i := 31) rfl))) (mvT hZ (hw _ (List.mem_of_getElem? (i := 32) rfl))) (mvT hZ (hw _ (List.mem_of_getElem? (i := 33) rfl))) (by decide) (backOf (W := 0) (rm6 l Z a0 hw [] (p1 &&& (9223372036854775807 : Int64))  T59.heap n0 (Nat.le_trans Z0 K59.1) ) hZ (hw _ (List.mem_of_getElem? (i := 33) rfl)) (hw _ (List.mem_of_getElem? (i := 32) rfl)) (by decide) (by decide)) (g := (mkF m 43 #[.val (.int k1), .val (.int a1), .val (.int b1), .val (.int c1), .val (.long p1), .second, .val (.long q1), .second, .val (.int (3 : Int32)), .val (.int (own_pk a1)), .val (.int (own_pk b1)), .val (.int (own_pk c1)), .val (.ref x59), .unset, .unset, .unset, .unset, .unset, .unset, .unset] [(.long (p1 &&& (9223372036854775807 : Int64))), (.long (1 : Int64))])) rfl (by rw [hml]; rfl) (argsL := [(.long (1 : Int64)), (.long (p1 &&& (9223372036854775807 : Int64)))]) (rest := []) (lenOf pd_11 rfl) rfl (by show 2 * 0 + _ ≤ _; exact Nat.le_of_eq rfl) (hb hby at_43) (fun _ _ => ⟨rfl, rfl, (by decide : ((((0 + 0) + 0) + 0) + 3) + 0 ≤ _), (by decide : ((((0 + 0) + 0) + 0) + 10) + 0 ≤ _)⟩)
    dsimp only [Pt.U, Pt.locs, Pt.cells, Pt.slots] at X60 l60 y60 z60 st60 hQ60
    subst l60 y60 z60
    obtain ⟨rfl, N60q, e60⟩ := hQ60
    have N60 := Fr.app N59 N60q
    refine own_byW (T' := T60) (g' := (mkF m 46 #[.val (.int k1), .val (.int a1), .val (.int b1), .val (.int c1), .val (.long p1), .second, .val (.long q1), .second, .val (.int (3 : Int32)), .val (.int (own_pk a1)), .val (.int (own_pk b1)), .val (.int (own_pk c1)), .val (.ref x59), .unset, .unset, .unset, .unset, .unset, .unset, .unset] [(.long (own_max (p1 &&& (9223372036854775807 : Int64))))])) (fun _ k => st60 _ k) ?_
    refine own_byW (T' := T60) (g' := (mkF m 48 #[.val (.int k1), .val (.int a1), .val (.int b1), .val (.int c1), .val (.long p1), .second, .val (.long q1), .second, .val (.int (3 : Int32)), .val (.int (own_pk a1)), .val (.int (own_pk b1)), .val (.int (own_pk c1)), .val (.ref x59), .val (.long (own_max (p1 &&& (9223372036854775807 : Int64)))), .second, .unset, .unset, .unset, .unset, .unset] [])) (fun _ k => XS.lstore X60.here hx rfl (hb hby at_46) rfl (l' := #[.val (.int k1), .val (.int a1), .val (.int b1), .val (.int c1), .val (.long p1), .second, .val (.long q1), .second, .val (.int (3 : Int32)), .val (.int (own_pk a1)), .val (.int (own_pk b1)), .val (.int (own_pk c1)), .val (.ref x59), .val (.long (own_max (p1 &&& (9223372036854775807 : Int64)))), .second, .unset, .unset, .unset, .unset, .unset]) rfl k) ?_
    refine own_byW (T' := T60) (g' := (mkF m 50 #[.val (.int k1), .val (.int a1), .val (.int b1), .val (.int c1), .val (.long p1), .second, .val (.long q1), .second, .val (.int (3 : Int32)), .val (.int (own_pk a1)), .val (.int (own_pk b1)), .val (.int (own_pk c1)), .val (.ref x59), .val (.long (own_max (p1 &&& (9223372036854775807 : Int64)))), .second, .unset, .unset, .unset, .unset, .unset] [(.long q1)])) (fun _ k => XS.lload X60.here hx rfl (hb hby at_48) rfl k) ?_
    refine own_byW (T' := T60) (g' := (mkF m 53 #[.val (.int k1), .val (.int a1), .val (.int b1), .val (.int c1), .val (.long p1), .second, .val (.long q1), .second, .val (.int (3 : Int32)), .val (.int (own_pk a1)), .val (.int (own_pk b1)), .val (.int (own_pk c1)), .val (.ref x59), .val (.long (own_max (p1 &&& (9223372036854775807 : Int64)))), .second, .unset, .unset, .unset, .unset, .unset] [(.long (9223372036854775807 : Int64)), (.long q1)])) (fun _ k => ldc2J X60 hx hown (mvT hZ (hw _ (List.mem_of_getElem? (i := 29) rfl))) rfl (hb hby at_50) k) ?_
    refine own_byW (T' := T60) (g' := (mkF m 54 #[.val (.int k1), .val (.int a1), .val (.int b1), .val (.int c1), .val (.long p1), .second, .val (.long q1), .second, .val (.int (3 : Int32)), .val (.int (own_pk a1)), .val (.int (own_pk b1)), .val (.int (own_pk c1)), .val (.ref x59), .val (.long (own_max (p1 &&& (9223372036854775807 : Int64)))), .second, .unset, .unset, .unset, .unset, .unset] [(.long (q1 &&& (9223372036854775807 : Int64)))])) (fun _ k => XS.land X60.here hx rfl (hb hby at_53) rfl k) ?_
    refine own_byW (T' := T60) (g' := (mkF m 56 #[.val (.int k1), .val (.int a1), .val (.int b1), .val (.int c1), .val (.long p1), .second, .val (.long q1), .second, .val (.int (3 : Int32)), .val (.int (own_pk a1)), .val (.int (own_pk b1)), .val (.int (own_pk c1)), .val (.ref x59), .val (.long (own_max (p1 &&& (9223372036854775807 : Int64)))), .second, .val (.long (q1 &&& (9223372036854775807 : Int64))), .second, .unset, .unset, .unset] [])) (fun _ k => XS.lstore X60.here hx rfl (hb hby at_54) rfl (l' := #[.val (.int k1), .val (.int a1), .val (.int b1), .val (.int c1), .val (.long p1), .second, .val (.long q1), .second, .val (.int (3 : Int32)), .val (.int (own_pk a1)), .val (.int (own_pk b1)), .val (.int (own_pk c1)), .val (.ref x59), .val (.long (own_max (p1 &&& (9223372036854775807 : Int64)))), .second, .val (.long (q1 &&& (9223372036854775807 : Int64))), .second, .unset, .unset, .unset]) rfl k) ?_
    obtain ⟨T61, h61, X61, e61, E61, A61, D61, -, st61⟩ := newO X60 hx hZ hown (hw _ (List.mem_of_getElem? (i := 34) rfl)) (hw _ (List.mem_of_getElem? (i := 35) rfl)) (hw _ (List.mem_of_getElem? (i := 36) rfl)) e60 (g := (mkF m 56 #[.val (.int k1), .val (.int a1), .val (.int b1), .val (.int c1), .val (.long p1), .second, .val (.long q1), .second, .val (.int (3 : Int32)), .val (.int (own_pk a1)), .val (.int (own_pk b1)), .val (.int (own_pk c1)), .val (.ref x59), .val (.long (own_max (p1 &&& (9223372036854775807 : Int64)))), .second, .val (.long (q1 &&& (9223372036854775807 : Int64))), .second, .unset, .unset, .unset] [])) rfl (hb hby at_56) (by decide) (by decide)
    obtain ⟨b61, g61⟩ : ∃ z, z = T59.heap.size := ⟨_, rfl⟩
    rw [← g61] at A61 D61 st61
    have E_b61 : Exa Z h61 b61 "com/example/shelfgraph/shelfgraph/ingest/RecordPosition" := A61
    have F_input_b61 : Fld Z h61 b61 "com/example/shelfgraph/shelfgraph/ingest/RecordPosition" "input" "Ljava/lang/String;" .null := D61 (Or.inr (hw _ (List.mem_of_getElem? (i := 52) rfl))) (ty := (.object "java/lang/String")) (by decide)
    have F_number_b61 : Fld Z h61 b61 "com/example/shelfgraph/shelfgraph/ingest/RecordPosition" "number" "J" (.long (0 : Int64)) := D61 (Or.inr (hw _ (List.mem_of_getElem? (i := 54) rfl))) (ty := .long) (by decide)
    have F_offset_b61 : Fld Z h61 b61 "com/example/shelfgraph/shelfgraph/ingest/RecordPosition" "offset" "J" (.long (0 : Int64)) := D61 (Or.inr (hw _ (List.mem_of_getElem? (i := 56) rfl))) (ty := .long) (by decide)
    have g_b61 : n0 ≤ b61 := Nat.le_trans (Nat.le_trans Z0 K59.1) (Nat.le_of_eq g61.symm)
    have sz_b61 : h0.size ≤ b61 := Nat.le_trans KK59.1 (Nat.le_of_eq g61.symm)
    have K61 : Keep h0 h61 [] := Keep.ext KK59 E61
    have C61 : CHr Z consts_1 s.vm s.heap s.vm h61 := CHr.trans C59 (CHr.ext E61 C59.1)
    refine own_byW (T' := T61) (g' := (mkF m 59 #[.val (.int k1), .val (.int a1), .val (.int b1), .val (.int c1), .val (.long p1), .second, .val (.long q1), .second, .val (.int (3 : Int32)), .val (.int (own_pk a1)), .val (.int (own_pk b1)), .val (.int (own_pk c1)), .val (.ref x59), .val (.long (own_max (p1 &&& (9223372036854775807 : Int64)))), .second, .val (.long (q1 &&& (9223372036854775807 : Int64))), .second, .unset, .unset, .unset] [(.ref b61)])) (fun _ k => st61 _ k) ?_
    refine own_byW (T' := T61) (g' := (mkF m 60 #[.val (.int k1), .val (.int a1), .val (.int b1), .val (.int c1), .val (.long p1), .second, .val (.long q1), .second, .val (.int (3 : Int32)), .val (.int (own_pk a1)), .val (.int (own_pk b1)), .val (.int (own_pk c1)), .val (.ref x59), .val (.long (own_max (p1 &&& (9223372036854775807 : Int64)))), .second, .val (.long (q1 &&& (9223372036854775807 : Int64))), .second, .unset, .unset, .unset] [(.ref b61), (.ref b61)])) (fun _ k => XS.dup X61.here hx rfl (hb hby at_59) rfl rfl k) ?_
    refine own_byW (T' := T61) (g' := (mkF m 62 #[.val (.int k1), .val (.int a1), .val (.int b1), .val (.int c1), .val (.long p1), .second, .val (.long q1), .second, .val (.int (3 : Int32)), .val (.int (own_pk a1)), .val (.int (own_pk b1)), .val (.int (own_pk c1)), .val (.ref x59), .val (.long (own_max (p1 &&& (9223372036854775807 : Int64)))), .second, .val (.long (q1 &&& (9223372036854775807 : Int64))), .second, .unset, .unset, .unset] [(.ref x59), (.ref b61), (.ref b61)])) (fun _ k => XS.aload X61.here hx rfl (hb hby at_60) rfl rfl k) ?_
    refine own_byW (T' := T61) (g' := (mkF m 64 #[.val (.int k1), .val (.int a1), .val (.int b1), .val (.int c1), .val (.long p1), .second, .val (.long q1), .second, .val (.int (3 : Int32)), .val (.int (own_pk a1)), .val (.int (own_pk b1)), .val (.int (own_pk c1)), .val (.ref x59), .val (.long (own_max (p1 &&& (9223372036854775807 : Int64)))), .second, .val (.long (q1 &&& (9223372036854775807 : Int64))), .second, .unset, .unset, .unset] [(.long (own_max (p1 &&& (9223372036854775807 : Int64)))), (.ref x59), (.ref b61), (.ref b61)])) (fun _ k => XS.lload X61.here hx rfl (hb hby at_62) rfl k) ?_
    refine own_byW (T' := T61) (g' := (mkF m 66 #[.val (.int k1), .val (.int a1), .val (.int b1), .val (.int c1), .val (.long p1), .second, .val (.long q1), .second, .val (.int (3 : Int32)), .val (.int (own_pk a1)), .val (.int (own_pk b1)), .val (.int (own_pk c1)), .val (.ref x59), .val (.long (own_max (p1 &&& (9223372036854775807 : Int64)))), .second, .val (.long (q1 &&& (9223372036854775807 : Int64))), .second, .unset, .unset, .unset] [(.long (q1 &&& (9223372036854775807 : Int64))), (.long (own_max (p1 &&& (9223372036854775807 : Int64)))), (.ref x59), (.ref b61), (.ref b61)])) (fun _ k => XS.lload X61.here hx rfl (hb hby at_64) rfl k) ?_
    obtain ⟨_, _, ⟨T62, L62, k62, n62⟩, -, X62, hSq62, hgq62, ⟨Lc62, hQ62, l62, y62, z62, Cq62⟩, st62⟩ := X61.specialBackS hx (y := (⟨"com/example/shelfgraph/shelfgraph/ingest/RecordPosition", "<init>", "(Ljava/lang/String;JJ)V"⟩ : MethodName)) rfl hown (mvT hZ (hw _ (List.mem_of_getElem? (i := 37) rfl))) (mvT hZ (hw _ (List.mem_of_getElem? (i := 38) rfl))) (mvT hZ (hw _ (List.mem_of_getElem? (i := 39) rfl))) (by decide) (own_backSH (s := s) (EL := consts_1) (W := 1) (rm7 l Z a0 hw [] b61 x59 (own_max (p1 &&& (9223372036854775807 : Int64))) (q1 &&& (9223372036854775807 : Int64))  h61 n0 (Nat.le_trans (Nat.le_trans Z0 K59.1) E61.1) E_b61 F_input_b61 F_number_b61 F_offset_b61 g_b61 (own_max1 _) (own_pos _)) hZ (hw _ (List.mem_of_getElem? (i := 39) rfl)) (hw _ (List.mem_of_getElem? (i := 36) rfl)) (by decide) (by decide) hEL C61.1 (fun _ _ => trivial)) (g := (mkF m 66 #[.val (.int k1), .val (.int a1), .val (.int b1), .val (.int c1), .val (.long p1), .second, .val (.long q1), .second, .val (.int (3 : Int32)), .val (.int (own_pk a1)), .val (.int (own_pk b1)), .val (.int (own_pk c1)), .val (.ref x59), .val (.long (own_max (p1 &&& (9223372036854775807 : Int64)))), .second, .val (.long (q1 &&& (9223372036854775807 : Int64))), .second, .unset, .unset, .unset] [(.long (q1 &&& (9223372036854775807 : Int64))), (.long (own_max (p1 &&& (9223372036854775807 : Int64)))), (.ref x59), (.ref b61), (.ref b61)])) rfl (by rw [hml]; rfl) (Steps.refl _) (a := b61) (argsL := [(.ref x59), (.long (own_max (p1 &&& (9223372036854775807 : Int64)))), (.long (q1 &&& (9223372036854775807 : Int64)))]) (rest := [(.ref b61)]) (lenOf pd_12 rfl) rfl (by show 2 * 0 + _ ≤ _; exact Nat.le_of_eq rfl) (hb hby at_66) (fun _ _ => ⟨rfl, e61, (by decide : ((((((0 + 0) + 0) + 0) + 3) + 0) + 1) + 2 ≤ _), (by decide : ((((((0 + 0) + 0) + 0) + 10) + 0) + 3) + 24 ≤ _)⟩)
    dsimp only [Pt.U, Pt.locs, Pt.cells, Pt.slots] at X62 l62 y62 z62 st62 hQ62 hSq62 hgq62 Cq62
    subst l62 y62 z62
    obtain ⟨rfl, N62q, K62, Fi62⟩ := hQ62
    have N62 := Fr.app N60 N62q
    have KK62 : Keep h0 T62.heap [] := Keep.trans K61 K62 (allS (Or.inr sz_b61) all0)
    have hS62 := foldS hS0 (T := T61) (by rw [e61]; exact (Nat.le_trans (Nat.le_trans hk0 K59.1) E61.1)) hSq62 hgq62
    have hZ62 : Z.Warmed39 (s.setVm T62.vm).vm := State.Warmed39.trans hZ hSq62.1
    have hown62 : (s.setVm T62.vm).vm.findClass "com/example/shelfgraph/shelfgraph/ingest/RecordPositionInputNamePinLaw" = some m.cls := by show T62.vm.findClass "com/example/shelfgraph/shelfgraph/ingest/RecordPositionInputNamePinLaw" = some m.cls; rw [hSq62.1.alike.findClass]; exact hown
    have X62 : Stand p l e room_1 (s.setVm T62.vm) m #[(.int k1), (.int a1), (.int b1), (.int c1), (.long p1), (.long q1)] below meth c T62 (((((L56 ++ Lc57) ++ Lc58) ++ Lc59) ++ Lc60) ++ Lc62) (((((((0 + 0) + 0) + 0) + 3) + 0) + 1) + 2) (((((((0 + 0) + 0) + 0) + 10) + 0) + 3) + 24) := X62
    have C62 : CHr Z consts_1 s.vm s.heap T62.vm T62.heap := CHr.trans C61 Cq62
    refine own_byW (T' := T62) (g' := (mkF m 69 #[.val (.int k1), .val (.int a1), .val (.int b1), .val (.int c1), .val (.long p1), .second, .val (.long q1), .second, .val (.int (3 : Int32)), .val (.int (own_pk a1)), .val (.int (own_pk b1)), .val (.int (own_pk c1)), .val (.ref x59), .val (.long (own_max (p1 &&& (9223372036854775807 : Int64)))), .second, .val (.long (q1 &&& (9223372036854775807 : Int64))), .second, .unset, .unset, .unset] [(.ref b61)])) (fun _ k => st62.trans k) ?_
    refine own_byW (T' := T62) (g' := (mkF m 71 #[.val (.int k1), .val (.int a1), .val (.int b1), .val (.int c1), .val (.long p1), .second, .val (.long q1), .second, .val (.int (3 : Int32)), .val (.int (own_pk a1)), .val (.int (own_pk b1)), .val (.int (own_pk c1)), .val (.ref x59), .val (.long (own_max (p1 &&& (9223372036854775807 : Int64)))), .second, .val (.long (q1 &&& (9223372036854775807 : Int64))), .second, .val (.ref b61), .unset, .unset] [])) (fun _ k => XS.astore X62.here hx rfl (hb hby at_69) rfl rfl (l' := #[.val (.int k1), .val (.int a1), .val (.int b1), .val (.int c1), .val (.long p1), .second, .val (.long q1), .second, .val (.int (3 : Int32)), .val (.int (own_pk a1)), .val (.int (own_pk b1)), .val (.int (own_pk c1)), .val (.ref x59), .val (.long (own_max (p1 &&& (9223372036854775807 : Int64)))), .second, .val (.long (q1 &&& (9223372036854775807 : Int64))), .second, .val (.ref b61), .unset, .unset]) rfl k) ?_
    refine own_byW (T' := T62) (g' := (mkF m 73 #[.val (.int k1), .val (.int a1), .val (.int b1), .val (.int c1), .val (.long p1), .second, .val (.long q1), .second, .val (.int (3 : Int32)), .val (.int (own_pk a1)), .val (.int (own_pk b1)), .val (.int (own_pk c1)), .val (.ref x59), .val (.long (own_max (p1 &&& (9223372036854775807 : Int64)))), .second, .val (.long (q1 &&& (9223372036854775807 : Int64))), .second, .val (.ref b61), .unset, .unset] [(.ref b61)])) (fun _ k => XS.aload X62.here hx rfl (hb hby at_71) rfl rfl k) ?_
    obtain ⟨cq63, kq63, q63a, q63b, q63c⟩ := isOf hZ62 rfl (Exa.keep E_b61 K62)
    obtain ⟨_, _, ⟨T63, L63, k63, n63⟩, -, X63, hSq63, hgq63, ⟨Lc63, hQ63, l63, y63, z63, Cq63⟩, st63⟩ := X62.virtualBackS hx (y := (⟨"com/example/shelfgraph/shelfgraph/ingest/RecordPosition", "inputName", "()Ljava/lang/String;"⟩ : MethodName)) (z := (⟨"com/example/shelfgraph/shelfgraph/ingest/RecordPosition", "inputName", "()Ljava/lang/String;"⟩ : MethodName)) hown62 (mvT hZ62 (hw _ (List.mem_of_getElem? (i := 57) rfl))) (mvT hZ62 (hw _ (List.mem_of_getElem? (i := 58) rfl))) (notFace_of_selects (args := #[]) (mvT hZ62 (hw _ (List.mem_of_getElem? (i := 60) rfl)))) (mvT hZ62 (hw _ (List.mem_of_getElem? (i := 60) rfl))) (mvT hZ62 (hw _ (List.mem_of_getElem? (i := 59) rfl))) (by decide) (own_backSH (s := s) (EL := consts_1) (W := 0) (inm_3 l Z a0 hw [] b61 x59 t59 kb59 cs (nar .byte ((nar .char (own_pk a1)).toInt8.toInt32)) (nar .byte ((nar .char (own_pk b1)).toInt8.toInt32)) (nar .byte ((nar .char (own_pk c1)).toInt8.toInt32)) T62.heap n0 (Nat.le_trans (Nat.le_trans (Nat.le_trans Z0 K59.1) E61.1) K62.1) Fi62 (Exa.keep (Exa.ext E61 E59) K62) (Fld.keep (Fld.ext E61 Fc59) K62 (ninS (Nat.ne_of_lt (Nat.lt_of_lt_of_le E59.lt (Nat.le_of_eq g61.symm))) nin0)) (Fld.keep (Fld.ext E61 Fv59) K62 (ninS (Nat.ne_of_lt (Nat.lt_of_lt_of_le E59.lt (Nat.le_of_eq g61.symm))) nin0)) (Arv.keep (Arv.ext V59 E61) K62 (ninS (Nat.ne_of_lt (Nat.lt_of_lt_of_le V59.lt (Nat.le_of_eq g61.symm))) nin0)) (Sta.ext ((Old.keep (Old.ext (Old.keep O0 K59 all0) E61) K62 (allS g_b61 all0))).2 S_CS) hcs) hZ62 (hw _ (List.mem_of_getElem? (i := 61) rfl)) (hw _ (List.mem_of_getElem? (i := 36) rfl)) (by decide) (by decide) hEL C62.1 (fun _ _ => trivial)) q63a q63c (g := (mkF m 73 #[.val (.int k1), .val (.int a1), .val (.int b1), .val (.int c1), .val (.long p1), .second, .val (.long q1), .second, .val (.int (3 : Int32)), .val (.int (own_pk a1)), .val (.int (own_pk b1)), .val (.int (own_pk c1)), .val (.ref x59), .val (.long (own_max (p1 &&& (9223372036854775807 : Int64)))), .second, .val (.long (q1 &&& (9223372036854775807 : Int64))), .second, .val (.ref b61), .unset, .unset] [(.ref b61)])) rfl (by rw [hml]; rfl) (Steps.refl _) (argsL := []) (rest := []) (lenOf pd_13 rfl) rfl (by show 2 * 0 + _ ≤ _; exact Nat.le_of_eq rfl) (hb hby at_73) (fun _ _ => ⟨rfl, rfl, (by decide : (((((((0 + 0) + 0) + 0) + 3) + 0) + 1) + 2) + 2 ≤ _), (by decide : (((((((0 + 0) + 0) + 0) + 10) + 0) + 3) + 24) + 8 ≤ _)⟩)
    dsimp only [Pt.U, Pt.locs, Pt.cells, Pt.slots] at X63 l63 y63 z63 st63 hQ63 hSq63 hgq63 Cq63
    subst l63 y63 z63
    obtain ⟨rfl, N63q, K63⟩ := hQ63
    have N63 := Fr.app N62 N63q
    have KK63 : Keep h0 T63.heap [] := Keep.trans KK62 K63 all0
    have hS63 := foldS hS62 (T := T62) (Nat.le_refl _) hSq63 hgq63
    have hZ63 : Z.Warmed39 (s.setVm T63.vm).vm := State.Warmed39.trans hZ62 hSq63.1
    have hown63 : (s.setVm T63.vm).vm.findClass "com/example/shelfgraph/shelfgraph/ingest/RecordPositionInputNamePinLaw" = some m.cls := by show T63.vm.findClass "com/example/shelfgraph/shelfgraph/ingest/RecordPositionInputNamePinLaw" = some m.cls; rw [hSq63.1.alike.findClass]; exact hown62
    have X63 : Stand p l e room_1 (s.setVm T63.vm) m #[(.int k1), (.int a1), (.int b1), (.int c1), (.long p1), (.long q1)] below meth c T63 ((((((L56 ++ Lc57) ++ Lc58) ++ Lc59) ++ Lc60) ++ Lc62) ++ Lc63) ((((((((0 + 0) + 0) + 0) + 3) + 0) + 1) + 2) + 2) ((((((((0 + 0) + 0) + 0) + 10) + 0) + 3) + 24) + 8) := X63
    have C63 : CHr Z consts_1 s.vm s.heap T63.vm T63.heap := CHr.trans C62 Cq63
    refine own_byW (T' := T63) (g' := (mkF m 76 #[.val (.int k1), .val (.int a1), .val (.int b1), .val (.int c1), .val (.long p1), .second, .val (.long q1), .second, .val (.int (3 : Int32)), .val (.int (own_pk a1)), .val (.int (own_pk b1)), .val (.int (own_pk c1)), .val (.ref x59), .val (.long (own_max (p1 &&& (9223372036854775807 : Int64)))), .second, .val (.long (q1 &&& (9223372036854775807 : Int64))), .second, .val (.ref b61), .unset, .unset] [(.ref x59)])) (fun _ k => st63.trans k) ?_
    refine own_byW (T' := T63) (g' := (mkF m 78 #[.val (.int k1), .val (.int a1), .val (.int b1), .val (.int c1), .val (.long p1), .second, .val (.long q1), .second, .val (.int (3 : Int32)), .val (.int (own_pk a1)), .val (.int (own_pk b1)), .val (.int (own_pk c1)), .val (.ref x59), .val (.long (own_max (p1 &&& (9223372036854775807 : Int64)))), .second, .val (.long (q1 &&& (9223372036854775807 : Int64))), .second, .val (.ref b61), .val (.ref x59), .unset] [])) (fun _ k => XS.astore X63.here hx rfl (hb hby at_76) rfl rfl (l' := #[.val (.int k1), .val (.int a1), .val (.int b1), .val (.int c1), .val (.long p1), .second, .val (.long q1), .second, .val (.int (3 : Int32)), .val (.int (own_pk a1)), .val (.int (own_pk b1)), .val (.int (own_pk c1)), .val (.ref x59), .val (.long (own_max (p1 &&& (9223372036854775807 : Int64)))), .second, .val (.long (q1 &&& (9223372036854775807 : Int64))), .second, .val (.ref b61), .val (.ref x59), .unset]) rfl k) ?_
    refine own_byW (T' := T63) (g' := (mkF m 80 #[.val (.int k1), .val (.int a1), .val (.int b1), .val (.int c1), .val (.long p1), .second, .val (.long q1), .second, .val (.int (3 : Int32)), .val (.int (own_pk a1)), .val (.int (own_pk b1)), .val (.int (own_pk c1)), .val (.ref x59), .val (.long (own_max (p1 &&& (9223372036854775807 : Int64)))), .second, .val (.long (q1 &&& (9223372036854775807 : Int64))), .second, .val (.ref b61), .val (.ref x59), .unset] [(.ref x59)])) (fun _ k => XS.aload X63.here hx rfl (hb hby at_78) rfl rfl k) ?_
    refine own_byW (T' := T63) (g' := (mkF m 85 #[.val (.int k1), .val (.int a1), .val (.int b1), .val (.int c1), .val (.long p1), .second, .val (.long q1), .second, .val (.int (3 : Int32)), .val (.int (own_pk a1)), .val (.int (own_pk b1)), .val (.int (own_pk c1)), .val (.ref x59), .val (.long (own_max (p1 &&& (9223372036854775807 : Int64)))), .second, .val (.long (q1 &&& (9223372036854775807 : Int64))), .second, .val (.ref b61), .val (.ref x59), .unset] [])) (fun _ k => XS.ifnonnullYes X63.here hx rfl (pc0 := 80) (pc' := 85) rfl (hb hby at_80) rfl (by decide) (by decide) k) ?_
    refine own_byW (T' := T63) (g' := (mkF m 87 #[.val (.int k1), .val (.int a1), .val (.int b1), .val (.int c1), .val (.long p1), .second, .val (.long q1), .second, .val (.int (3 : Int32)), .val (.int (own_pk a1)), .val (.int (own_pk b1)), .val (.int (own_pk c1)), .val (.ref x59), .val (.long (own_max (p1 &&& (9223372036854775807 : Int64)))), .second, .val (.long (q1 &&& (9223372036854775807 : Int64))), .second, .val (.ref b61), .val (.ref x59), .unset] [(.int (3 : Int32))])) (fun _ k => XS.iload X63.here hx rfl (hb hby at_85) rfl k) ?_
    refine own_byW (T' := T63) (g' := (mkF m 88 #[.val (.int k1), .val (.int a1), .val (.int b1), .val (.int c1), .val (.long p1), .second, .val (.long q1), .second, .val (.int (3 : Int32)), .val (.int (own_pk a1)), .val (.int (own_pk b1)), .val (.int (own_pk c1)), .val (.ref x59), .val (.long (own_max (p1 &&& (9223372036854775807 : Int64)))), .second, .val (.long (q1 &&& (9223372036854775807 : Int64))), .second, .val (.ref b61), .val (.ref x59), .unset] [(.int (1 : Int32)), (.int (3 : Int32))])) (fun _ k => XS.iconst X63.here hx rfl (hb hby at_87) k) ?_
    refine own_byW (T' := T63) (g' := (mkF m 102 #[.val (.int k1), .val (.int a1), .val (.int b1), .val (.int c1), .val (.long p1), .second, .val (.long q1), .second, .val (.int (3 : Int32)), .val (.int (own_pk a1)), .val (.int (own_pk b1)), .val (.int (own_pk c1)), .val (.ref x59), .val (.long (own_max (p1 &&& (9223372036854775807 : Int64)))), .second, .val (.long (q1 &&& (9223372036854775807 : Int64))), .second, .val (.ref b61), .val (.ref x59), .unset] [])) (fun _ k => XS.icmpYes X63.here hx rfl (pc0 := 88) (pc' := 102) rfl (hb hby at_88) rfl (feq (by decide)).2 (by decide) (by decide) k) ?_
    refine own_byW (T' := T63) (g' := (mkF m 103 #[.val (.int k1), .val (.int a1), .val (.int b1), .val (.int c1), .val (.long p1), .second, .val (.long q1), .second, .val (.int (3 : Int32)), .val (.int (own_pk a1)), .val (.int (own_pk b1)), .val (.int (own_pk c1)), .val (.ref x59), .val (.long (own_max (p1 &&& (9223372036854775807 : Int64)))), .second, .val (.long (q1 &&& (9223372036854775807 : Int64))), .second, .val (.ref b61), .val (.ref x59), .unset] [(.int (0 : Int32))])) (fun _ k => XS.iconst X63.here hx rfl (hb hby at_102) k) ?_
    refine own_byW (T' := T63) (g' := (mkF m 105 #[.val (.int k1), .val (.int a1), .val (.int b1), .val (.int c1), .val (.long p1), .second, .val (.long q1), .second, .val (.int (3 : Int32)), .val (.int (own_pk a1)), .val (.int (own_pk b1)), .val (.int (own_pk c1)), .val (.ref x59), .val (.long (own_max (p1 &&& (9223372036854775807 : Int64)))), .second, .val (.long (q1 &&& (9223372036854775807 : Int64))), .second, .val (.ref b61), .val (.ref x59), .val (.int (0 : Int32))] [])) (fun _ k => XS.istore X63.here hx rfl (hb hby at_103) rfl (l' := #[.val (.int k1), .val (.int a1), .val (.int b1), .val (.int c1), .val (.long p1), .second, .val (.long q1), .second, .val (.int (3 : Int32)), .val (.int (own_pk a1)), .val (.int (own_pk b1)), .val (.int (own_pk c1)), .val (.ref x59), .val (.long (own_max (p1 &&& (9223372036854775807 : Int64)))), .second, .val (.long (q1 &&& (9223372036854775807 : Int64))), .second, .val (.ref b61), .val (.ref x59), .val (.int (0 : Int32))]) rfl k) ?_
    refine own_byW (T' := T63) (g' := (mkF m 107 #[.val (.int k1), .val (.int a1), .val (.int b1), .val (.int c1), .val (.long p1), .second, .val (.long q1), .second, .val (.int (3 : Int32)), .val (.int (own_pk a1)), .val (.int (own_pk b1)), .val (.int (own_pk c1)), .val (.ref x59), .val (.long (own_max (p1 &&& (9223372036854775807 : Int64)))), .second, .val (.long (q1 &&& (9223372036854775807 : Int64))), .second, .val (.ref b61), .val (.ref x59), .val (.int (0 : Int32))] [(.int (0 : Int32))])) (fun _ k => XS.iload X63.here hx rfl (hb hby at_105) rfl k) ?_
    refine own_byW (T' := T63) (g' := (mkF m 118 #[.val (.int k1), .val (.int a1), .val (.int b1), .val (.int c1), .val (.long p1), .second, .val (.long q1), .second, .val (.int (3 : Int32)), .val (.int (own_pk a1)), .val (.int (own_pk b1)), .val (.int (own_pk c1)), .val (.ref x59), .val (.long (own_max (p1 &&& (9223372036854775807 : Int64)))), .second, .val (.long (q1 &&& (9223372036854775807 : Int64))), .second, .val (.ref b61), .val (.ref x59), .val (.int (0 : Int32))] [])) (fun _ k => XS.ifYes X63.here hx rfl (pc0 := 107) (pc' := 118) rfl (hb hby at_107) rfl ((if0 _ _).trans (teq (by decide)).1) (by decide) (by decide) k) ?_
    refine own_byW (T' := T63) (g' := (mkF m 120 #[.val (.int k1), .val (.int a1), .val (.int b1), .val (.int c1), .val (.long p1), .second, .val (.long q1), .second, .val (.int (3 : Int32)), .val (.int (own_pk a1)), .val (.int (own_pk b1)), .val (.int (own_pk c1)), .val (.ref x59), .val (.long (own_max (p1 &&& (9223372036854775807 : Int64)))), .second, .val (.long (q1 &&& (9223372036854775807 : Int64))), .second, .val (.ref b61), .val (.ref x59), .val (.int (0 : Int32))] [(.ref x59)])) (fun _ k => XS.aload X63.here hx rfl (hb hby at_118) rfl rfl k) ?_
    refine own_byW (T' := T63) (g' := (mkF m 122 #[.val (.int k1), .val (.int a1), .val (.int b1), .val (.int c1), .val (.long p1), .second, .val (.long q1), .second, .val (.int (3 : Int32)), .val (.int (own_pk a1)), .val (.int (own_pk b1)), .val (.int (own_pk c1)), .val (.ref x59), .val (.long (own_max (p1 &&& (9223372036854775807 : Int64)))), .second, .val (.long (q1 &&& (9223372036854775807 : Int64))), .second, .val (.ref b61), .val (.ref x59), .val (.int (0 : Int32))] [(.ref x59), (.ref x59)])) (fun _ k => XS.aload X63.here hx rfl (hb hby at_120) rfl rfl k) ?_
    obtain ⟨cq64, kq64, q64a, q64b, q64c⟩ := isOf hZ63 rfl (Exa.keep (Exa.keep (Exa.ext E61 E59) K62) K63)
    obtain ⟨_, _, ⟨T64, L64, k64, n64⟩, -, X64, ⟨Lc64, hQ64, l64, y64, z64⟩, st64⟩ := X63.virtualBack hx (y := (⟨"java/lang/String", "equals", "(Ljava/lang/Object;)Z"⟩ : MethodName)) (z := (⟨"java/lang/String", "equals", "(Ljava/lang/Object;)Z"⟩ : MethodName)) hown63 (mvT hZ63 (hw _ (List.mem_of_getElem? (i := 74) rfl))) (mvT hZ63 (hw _ (List.mem_of_getElem? (i := 64) rfl))) (notFace_of_selects (args := #[]) (mvT hZ63 (hw _ (List.mem_of_getElem? (i := 66) rfl)))) (mvT hZ63 (hw _ (List.mem_of_getElem? (i := 66) rfl))) (mvT hZ63 (hw _ (List.mem_of_getElem? (i := 65) rfl))) (by decide) (backOf (W := 0) (seq_same l Z a0 hw [] x59  T63.heap n0 (Nat.le_trans (Nat.le_trans (Nat.le_trans (Nat.le_trans Z0 K59.1) E61.1) K62.1) K63.1) ) hZ63 (hw _ (List.mem_of_getElem? (i := 67) rfl)) (hw _ (List.mem_of_getElem? (i := 9) rfl)) (by decide) (by decide)) q64a q64c (g := (mkF m 122 #[.val (.int k1), .val (.int a1), .val (.int b1), .val (.int c1), .val (.long p1), .second, .val (.long q1), .second, .val (.int (3 : Int32)), .val (.int (own_pk a1)), .val (.int (own_pk b1)), .val (.int (own_pk c1)), .val (.ref x59), .val (.long (own_max (p1 &&& (9223372036854775807 : Int64)))), .second, .val (.long (q1 &&& (9223372036854775807 : Int64))), .second, .val (.ref b61), .val (.ref x59), .val (.int (0 : Int32))] [(.ref x59), (.ref x59)])) rfl (by rw [hml]; rfl) (Steps.refl _) (argsL := [(.ref x59)]) (rest := []) (lenOf pd_8 rfl) rfl (by show 2 * 0 + _ ≤ _; exact Nat.le_of_eq rfl) (hb hby at_122) (fun _ _ => ⟨rfl, rfl, (by decide : ((((((((0 + 0) + 0) + 0) + 3) + 0) + 1) + 2) + 2) + 0 ≤ _), (by decide : ((((((((0 + 0) + 0) + 0) + 10) + 0) + 3) + 24) + 8) + 0 ≤ _)⟩)
    dsimp only [Pt.U, Pt.locs, Pt.cells, Pt.slots] at X64 l64 y64 z64 st64 hQ64
    subst l64 y64 z64
    obtain ⟨rfl, N64q, e64⟩ := hQ64
    have N64 := Fr.app N63 N64q
    refine own_byW (T' := T64) (g' := (mkF m 125 #[.val (.int k1), .val (.int a1), .val (.int b1), .val (.int c1), .val (.long p1), .second, .val (.long q1), .second, .val (.int (3 : Int32)), .val (.int (own_pk a1)), .val (.int (own_pk b1)), .val (.int (own_pk c1)), .val (.ref x59), .val (.long (own_max (p1 &&& (9223372036854775807 : Int64)))), .second, .val (.long (q1 &&& (9223372036854775807 : Int64))), .second, .val (.ref b61), .val (.ref x59), .val (.int (0 : Int32))] [(.int (1 : Int32))])) (fun _ k => st64.trans k) ?_
    refine own_retW (s := s) X64 hlk hS63 (by rw [e64]; exact (Nat.le_refl _)) hZ63 hEL C63 e64 (v := some (.int (1 : Int32))) (fun h => by rw [Bd.returns] at h; cases h) (fun fs hr => retN X64 hx (t := .boolean) Bd.returns (by simp) (hb hby at_125) hr) ?_ (by decide) (by decide)
    rw [e64]
    exact ⟨rfl, N64⟩
set_option maxRecDepth 65536 in
set_option maxHeartbeats 40000000 in
theorem comes_1 {Post : Tables → Env → Array Value → State → Outcome → State → Prop} (hpost : ∀ tb e args s v u, (limb_1_1.after args s (.returned v) u = true ∧ limb_1_2.after args s (.returned v) u = true ∧ True) → ReturnedEndW s (.returned v) u (Jvm.fieldLocs frame_1_writes args s ++ Jvm.arrayLocs frame_1_arrays args s ++ Jvm.staticLocs frame_1_statics s) 32 5248 → Post tb e args s (.returned v) u) :
    ArmFor flags0 classFile x code maxLocals ret World_1 tables_1 room_1 Calls_1 rest_1 Pre_1 Post := by
  intro l hfl _ _ p e ha hc hk s m args below hf hA hF happ hP
  obtain ⟨hcalls, hrest, hpre⟩ := hP
  obtain ⟨-, -, -, hnamed, -, -, -, hat⟩ := (Spec.applies_iff hf).mp happ
  obtain ⟨hg, hn⟩ := and_e (Cond.before_iff.mp (show (Jvm.Cond.and given_1 narrow_1).before args s = true from hpre))
  obtain ⟨g1, g2⟩ := and_e hg
  obtain ⟨g3, g4⟩ := and_e g2
  obtain ⟨g5, g6⟩ := and_e g4
  obtain ⟨g7, g8⟩ := and_e g6
  obtain ⟨g9, g10⟩ := and_e g8
  obtain ⟨g11, g12⟩ := and_e g10
  obtain ⟨w0, w1, w2, w3, w4, w5, rfl⟩ : ∃ w0 w1 w2 w3 w4 w5 : Value, args = #[w0, w1, w2, w3, w4, w5] := by
    have hs : args.size = 6 := by simpa [Cond.value, given_1] using g1
    obtain ⟨L⟩ := args
    match L, hs with
    | [w0, w1, w2, w3, w4, w5], _ => exact ⟨w0, w1, w2, w3, w4, w5, rfl⟩
  have hw := fun d (hd : d ∈ tables_1) => atoms_spec (ws := Jvm.Cond.code x code maxLocals ret :: tables_1) hat d (List.mem_cons_of_mem _ hd)
  have hfit : Fit s := fun {y c} hc i hi => by
    obtain ⟨ha, rfl⟩ := Array.getElem?_eq_some_iff.mp hc
    have q := List.all_eq_true.mp ((Array.all_eq_true_iff_forall_mem.mp hF) _ (Array.getElem_mem ha)) i (List.mem_range.mpr hi)
    simpa [Array.getElem?_eq_getElem hi] using q
  obtain ⟨hsets, hown0⟩ := atoms_of _ (rest_1_c_eq ▸ (show rest_1_c.before _ s = true from hrest))
  have hr0 := Cond.before_iff.mp hown0
  obtain ⟨i0, ei0⟩ := is_v g3
  obtain rfl : w0 = (.int i0) := Option.some.inj ei0
  obtain ⟨i1, ei1⟩ := is_v g5
  obtain rfl : w1 = (.int i1) := Option.some.inj ei1
  obtain ⟨i2, ei2⟩ := is_v g7
  obtain rfl : w2 = (.int i2) := Option.some.inj ei2
  obtain ⟨i3, ei3⟩ := is_v g9
  obtain rfl : w3 = (.int i3) := Option.some.inj ei3
  obtain ⟨i4, ei4⟩ := isL_v g11
  obtain rfl : w4 = (.long i4) := Option.some.inj ei4
  obtain ⟨i5, ei5⟩ := isL_v g12
  obtain rfl : w5 = (.long i5) := Option.some.inj ei5
  obtain ⟨cs, ecs⟩ := is_v (Cond.before_iff.mp (hsets _ (List.mem_of_getElem? (i := 1) rfl)))
  have S_CS : Sta s s.heap "java/lang/String" "COMPACT_STRINGS" "Z" (.int cs) := Sta.start ecs (Or.inl (hsets _ (List.mem_of_getElem? (i := 0) rfl)))
  have hcs : ¬ cs = (0 : Int32) := own_ne0 ecs (hsets _ (List.mem_of_getElem? (i := 2) rfl))
  have hCH : CHv s consts_1 s.vm s.heap := CHv.start (own_EL hw) (fun p hp => hcalls.1 p hp) (hsets _ (List.mem_of_getElem? (i := 2) rfl)) (hw _ (List.mem_of_getElem? (i := 22) rfl)) (hw _ (List.mem_of_getElem? (i := 8) rfl))
  obtain ⟨n, o, h1, h2, h3, _, L, rfl, ⟨rfl, N⟩, hCr, hq⟩ := rm0 l s _ hw tables_1 i0 i1 i2 i3 i4 i5 cs s.heap s.heap.size (Nat.le_refl _) (Old.start s) S_CS hcs p e ha hc hk s m _ below hf ((Spec.applies_iff_loose hf).mp happ).1 ⟨rfl, State.Warmed39.refl s, rfl, hCH, trivial⟩ trivial
  refine ⟨n, _, h1, h2, h3, hpost _ _ _ _ _ _ ⟨Cond.after_iff.mpr rfl, Cond.after_iff.mpr (eq_i res_at (Term.int_eval (1)) rfl), trivial⟩ ⟨hq.1, hq.2.1, hq.2.2.1, (hq.2.2.2.sift fun y hy => Or.inr (N y hy)).mono (by decide) (by decide)⟩⟩
theorem main_1_1 : Claimed_1_1 := comes_1 fun _ _ _ _ _ _ h hF => ⟨h.1, hF⟩
theorem main_1_2 : Claimed_1_2 := comes_1 fun _ _ _ _ _ _ h hF => ⟨h.2.1, hF⟩
end Jvm.Pilot.@@N@@
namespace Jvm.Pilot.@@N@@
open Jvm Jvm.ClassFile Sem Op Lib Jvm.Free Jvm.Stand Jvm.Pilot.@@N@@.Jvm.D
/-! MADE BY PROGRAM (witnessworld.py) out of the Statement's table words and the real class files: 23 classes; the members and pool entries that the words name. The judged class is class 1, her method 1. -/
namespace start1
open Jvm.ClassFile
def u (s : String) : CpInfo := .utf8 (stringToUtf16 s)
/-- a pool by its gaps: so many unusable entries, then the entry; so many at the end -/
def gap : Nat → List CpInfo → List CpInfo
  | 0, r => r
  | n + 1, r => .unusable :: gap n r
def poolList (es : List (Nat × CpInfo)) (last : Nat) : List CpInfo := es.foldr (fun e r => gap e.1 (e.2 :: r)) (gap last [])
def pool (es : List (Nat × CpInfo)) (last : Nat) : Array CpInfo := ⟨poolList es last⟩
def fileOf (pool : Array CpInfo) (this : Nat) (attrs : Array Attribute := #[]) (ms : Array MethodInfo := #[]) (fl : Nat := 33) (sup : Nat := 0) (ifs : Array Nat := #[]) (fds : Array FieldInfo := #[]) : ClassFile where
  minorVersion := 0
  majorVersion := 65
  constantPool := pool
  accessFlags := fl
  thisClass := this
  superClass := sup
  interfaces := ifs
  fields := fds
  methods := ms
  attributes := attrs
def plain (name : String) (sup : Option ClassId) : Class where
  name := name
  kind := .ordinary
  loader := none
  accessFlags := 33
  super := sup
  interfaces := #[]
  cf := none
  fields := #[]
  methods := #[]
  instanceTypes := #[]
  staticTypes := #[]
  resolved := #[]
  callSites := []
  init := .initialized
  statics := none
  mirror := none

def pool0 : Array CpInfo := pool [(5, u "<init>"), (0, u "()V"), (1, .class_ 10), (1, u "java/lang/Object")] 113

def k0c0 : Code := { maxStack := 0, maxLocals := 1, code := object_method_1_code, exceptionTable := #[], attributes := #[] }
def k0m0 : Method := { name := "<init>", desc := "()V", sig := { parameters := [], returnType := none }, accessFlags := 1, code := some k0c0 }
/-- java/lang/Object -/
def k0 : Class := { plain "java/lang/Object" none with
  accessFlags := 33
  interfaces := #[]
  cf := some (fileOf pool0 8 #[] #[{ accessFlags := 1, nameIndex := 5, descriptorIndex := 6, attributes := #[] }] 33 0 #[] #[])
  fields := #[]
  methods := #[k0m0]
  instanceTypes := #[]
  staticTypes := #[]
  resolved := Array.replicate 124 none
  statics := none }

def pool1 : Array CpInfo := pool [(2, .class_ 4), (1, u "java/lang/Object"), (0, u "<init>"), (0, u "()V"), (0, .methodref 8 9), (0, .class_ 10), (0, .nameAndType 11 12), (0, u "com/example/shelfgraph/shelfgraph/ingest/RecordPositionInputNamePinLaw"), (0, u "pick"), (0, u "(I)C"), (0, .methodref 8 14), (0, .nameAndType 15 16), (0, u "make"), (0, u "(ICCC)Ljava/lang/String;"), (2, .long 9223372036854775807), (1, .methodref 22 23), (0, .class_ 24), (0, .nameAndType 25 26), (0, u "java/lang/Math"), (0, u "max"), (0, u "(JJ)J"), (0, .class_ 28), (0, u "com/example/shelfgraph/shelfgraph/ingest/RecordPosition"), (0, .methodref 27 30), (0, .nameAndType 5 31), (0, u "(Ljava/lang/String;JJ)V"), (0, .methodref 27 33), (0, .nameAndType 34 35), (0, u "inputName"), (0, u "()Ljava/lang/String;"), (0, .string 37), (0, u "standard input"), (0, .methodref 39 40), (0, .class_ 41), (0, .nameAndType 42 43), (0, u "java/lang/String"), (0, u "equals"), (0, u "(Ljava/lang/Object;)Z"), (0, .methodref 39 45), (0, .nameAndType 5 46), (0, u "([C)V"), (2, u "law"), (0, u "(IIIIJJ)Z")] 3

def k1m0 : Method := { name := "<init>", desc := "()V", sig := { parameters := [], returnType := none }, accessFlags := 1, code := none }
def k1c1 : Code := { maxStack := 7, maxLocals := 20, code := code, exceptionTable := #[], attributes := #[] }
def k1m1 : Method := { name := "law", desc := "(IIIIJJ)Z", sig := { parameters := [.int, .int, .int, .int, .long, .long], returnType := some .boolean }, accessFlags := 9, code := some k1c1 }
def k1c2 : Code := { maxStack := 2, maxLocals := 1, code := method_3_code, exceptionTable := #[], attributes := #[] }
def k1m2 : Method := { name := "pick", desc := "(I)C", sig := { parameters := [.int], returnType := some .char }, accessFlags := 10, code := some k1c2 }
def k1c3 : Code := { maxStack := 3, maxLocals := 5, code := method_4_code, exceptionTable := #[], attributes := #[] }
def k1m3 : Method := { name := "make", desc := "(ICCC)Ljava/lang/String;", sig := { parameters := [.int, .char, .char, .char], returnType := some (.object "java/lang/String") }, accessFlags := 10, code := some k1c3 }
/-- com/example/shelfgraph/shelfgraph/ingest/RecordPositionInputNamePinLaw -/
def k1 : Class := { plain "com/example/shelfgraph/shelfgraph/ingest/RecordPositionInputNamePinLaw" (some 0) with
  accessFlags := 49
  interfaces := #[]
  cf := some (fileOf pool1 8 #[] #[{ accessFlags := 1, nameIndex := 5, descriptorIndex := 6, attributes := #[] }, { accessFlags := 9, nameIndex := 49, descriptorIndex := 50, attributes := #[] }, { accessFlags := 10, nameIndex := 11, descriptorIndex := 12, attributes := #[] }, { accessFlags := 10, nameIndex := 15, descriptorIndex := 16, attributes := #[] }] 49 2 #[] #[])
  fields := #[]
  methods := #[k1m0, k1m1, k1m2, k1m3]
  instanceTypes := #[]
  staticTypes := #[]
  resolved := Array.replicate 54 none
  statics := none }

def pool2 : Array CpInfo := pool [(1, .class_ 2), (0, u "java/io/Serializable"), (0, .class_ 4), (0, u "java/lang/Object")] 2

/-- java/io/Serializable -/
def k2 : Class := { plain "java/io/Serializable" (some 0) with
  accessFlags := 1537
  interfaces := #[]
  cf := some (fileOf pool2 1 #[] #[] 1537 3 #[] #[])
  fields := #[]
  methods := #[]
  instanceTypes := #[]
  staticTypes := #[]
  resolved := Array.replicate 7 none
  statics := none }

def pool3 : Array CpInfo := pool [(1, .class_ 2), (0, u "java/lang/Comparable"), (0, .class_ 4), (0, u "java/lang/Object")] 7

/-- java/lang/Comparable -/
def k3 : Class := { plain "java/lang/Comparable" (some 0) with
  accessFlags := 1537
  interfaces := #[]
  cf := some (fileOf pool3 1 #[] #[] 1537 3 #[] #[])
  fields := #[]
  methods := #[]
  instanceTypes := #[]
  staticTypes := #[]
  resolved := Array.replicate 12 none
  statics := none }

def pool4 : Array CpInfo := pool [(2, .class_ 4), (1, u "java/lang/CharSequence"), (42, .class_ 48), (0, u "java/lang/CharSequence$1CodePointIterator"), (10, .class_ 60), (0, u "java/lang/CharSequence$1CharIterator"), (5, .class_ 67), (0, u "java/lang/Object")] 63

/-- java/lang/CharSequence -/
def k4 : Class := { plain "java/lang/CharSequence" (some 0) with
  accessFlags := 1537
  interfaces := #[]
  cf := some (fileOf pool4 2 #[.nestMembers #[47, 59]] #[] 1537 66 #[] #[])
  fields := #[]
  methods := #[]
  instanceTypes := #[]
  staticTypes := #[]
  resolved := Array.replicate 131 none
  statics := none }

def pool5 : Array CpInfo := pool [(1, .class_ 2), (0, u "java/lang/constant/Constable"), (0, .class_ 4), (0, u "java/lang/Object")] 6

/-- java/lang/constant/Constable -/
def k5 : Class := { plain "java/lang/constant/Constable" (some 0) with
  accessFlags := 1537
  interfaces := #[]
  cf := some (fileOf pool5 1 #[] #[] 1537 3 #[] #[])
  fields := #[]
  methods := #[]
  instanceTypes := #[]
  staticTypes := #[]
  resolved := Array.replicate 11 none
  statics := none }

def pool6 : Array CpInfo := pool [(1, .class_ 2), (0, u "java/lang/constant/ConstantDesc"), (0, .class_ 4), (0, u "java/lang/Object")] 32

/-- java/lang/constant/ConstantDesc -/
def k6 : Class := { plain "java/lang/constant/ConstantDesc" (some 0) with
  accessFlags := 1537
  interfaces := #[]
  cf := some (fileOf pool6 1 #[] #[] 1537 3 #[] #[])
  fields := #[]
  methods := #[]
  instanceTypes := #[]
  staticTypes := #[]
  resolved := Array.replicate 37 none
  statics := none }

def pool7 : Array CpInfo := pool [(1, .methodref 2 3), (0, .class_ 4), (0, .nameAndType 5 6), (0, u "java/lang/Object"), (0, u "<init>"), (0, u "()V"), (0, .string 8), (0, u ""), (0, .fieldref 10 11), (0, .class_ 12), (0, .nameAndType 13 14), (0, u "java/lang/String"), (0, u "value"), (0, u "[B"), (0, .fieldref 10 16), (0, .nameAndType 17 18), (0, u "coder"), (0, u "B"), (2, u "hash"), (0, u "I"), (2, u "hashIsZero"), (0, u "Z"), (0, .methodref 10 28), (0, .nameAndType 5 29), (0, u "([CIILjava/lang/Void;)V"), (8, .fieldref 10 39), (0, .nameAndType 40 26), (0, u "COMPACT_STRINGS"), (1, .class_ 44), (1, u "java/lang/StringUTF16"), (0, u "compress"), (1, .methodref 42 48), (0, .nameAndType 49 50), (0, u "coderFromArrayLen"), (0, u "([BI)B"), (56, .class_ 109), (1, u "java/lang/StringLatin1"), (67, .methodref 42 178), (0, .nameAndType 45 179), (0, u "([CII)[B"), (361, .methodref 107 542), (0, .nameAndType 543 544), (0, u "equals"), (0, u "([B[B)Z"), (28, u "(Ljava/lang/Object;)Z"), (1, .class_ 576), (0, u "java/lang/CharSequence"), (22, u "CASE_INSENSITIVE_ORDER"), (0, u "Ljava/util/Comparator;"), (409, u "([C)V"), (90, u "serialPersistentFields"), (0, u "[Ljava/io/ObjectStreamField;"), (0, .class_ 1104), (0, u "java/lang/String$CaseInsensitiveComparator"), (1, .class_ 1107), (0, u "java/io/Serializable"), (0, .class_ 1109), (0, u "java/lang/Comparable"), (0, .class_ 1111), (0, u "java/lang/constant/Constable"), (0, .class_ 1113), (0, u "java/lang/constant/ConstantDesc"), (2, u "serialVersionUID"), (0, u "J"), (3, u "REPL"), (0, u "C"), (2, u "LATIN1"), (1, u "UTF16")] 323

def k7m0 : Method := { name := "<init>", desc := "()V", sig := { parameters := [], returnType := none }, accessFlags := 1, code := none }
def k7c1 : Code := { maxStack := 5, maxLocals := 2, code := jdk_42_method_3_code, exceptionTable := #[], attributes := #[] }
def k7m1 : Method := { name := "<init>", desc := "([C)V", sig := { parameters := [(.array .char)], returnType := none }, accessFlags := 1, code := some k7c1 }
def k7c2 : Code := { maxStack := 2, maxLocals := 3, code := jdk_42_method_66_code, exceptionTable := #[], attributes := #[] }
def k7m2 : Method := { name := "equals", desc := "(Ljava/lang/Object;)Z", sig := { parameters := [(.object "java/lang/Object")], returnType := some .boolean }, accessFlags := 1, code := some k7c2 }
def k7c3 : Code := { maxStack := 4, maxLocals := 6, code := jdk_42_method_149_code, exceptionTable := #[], attributes := #[] }
def k7m3 : Method := { name := "<init>", desc := "([CIILjava/lang/Void;)V", sig := { parameters := [(.array .char), .int, .int, (.object "java/lang/Void")], returnType := none }, accessFlags := 2, code := some k7c3 }
/-- java/lang/String -/
def k7 : Class := { plain "java/lang/String" (some 0) with
  accessFlags := 49
  interfaces := #[2, 3, 4, 5, 6]
  cf := some (fileOf pool7 10 #[.nestMembers #[1103]] #[{ accessFlags := 1, nameIndex := 5, descriptorIndex := 6, attributes := #[] }, { accessFlags := 1, nameIndex := 5, descriptorIndex := 1010, attributes := #[] }, { accessFlags := 1, nameIndex := 543, descriptorIndex := 573, attributes := #[] }, { accessFlags := 2, nameIndex := 5, descriptorIndex := 29, attributes := #[] }] 49 2 #[1106, 1108, 575, 1110, 1112] #[{ accessFlags := 18, nameIndex := 13, descriptorIndex := 14, attributes := #[] }, { accessFlags := 18, nameIndex := 17, descriptorIndex := 18, attributes := #[] }, { accessFlags := 2, nameIndex := 21, descriptorIndex := 22, attributes := #[] }, { accessFlags := 2, nameIndex := 25, descriptorIndex := 26, attributes := #[] }, { accessFlags := 26, nameIndex := 1116, descriptorIndex := 1117, attributes := #[] }, { accessFlags := 24, nameIndex := 40, descriptorIndex := 26, attributes := #[] }, { accessFlags := 26, nameIndex := 1101, descriptorIndex := 1102, attributes := #[] }, { accessFlags := 26, nameIndex := 1121, descriptorIndex := 1122, attributes := #[] }, { accessFlags := 25, nameIndex := 599, descriptorIndex := 600, attributes := #[] }, { accessFlags := 24, nameIndex := 1125, descriptorIndex := 18, attributes := #[] }, { accessFlags := 24, nameIndex := 1127, descriptorIndex := 18, attributes := #[] }])
  fields := #[{ name := "value", type := (.array .byte), accessFlags := 18, slot := 0, constantValue := 0 }, { name := "coder", type := .byte, accessFlags := 18, slot := 1, constantValue := 0 }, { name := "hash", type := .int, accessFlags := 2, slot := 2, constantValue := 0 }, { name := "hashIsZero", type := .boolean, accessFlags := 2, slot := 3, constantValue := 0 }, { name := "serialVersionUID", type := .long, accessFlags := 26, slot := 0, constantValue := 0 }, { name := "COMPACT_STRINGS", type := .boolean, accessFlags := 24, slot := 1, constantValue := 0 }, { name := "serialPersistentFields", type := (.array (.object "java/io/ObjectStreamField")), accessFlags := 26, slot := 2, constantValue := 0 }, { name := "REPL", type := .char, accessFlags := 26, slot := 3, constantValue := 0 }, { name := "CASE_INSENSITIVE_ORDER", type := (.object "java/util/Comparator"), accessFlags := 25, slot := 4, constantValue := 0 }, { name := "LATIN1", type := .byte, accessFlags := 24, slot := 5, constantValue := 0 }, { name := "UTF16", type := .byte, accessFlags := 24, slot := 6, constantValue := 0 }]
  methods := #[k7m0, k7m1, k7m2, k7m3]
  instanceTypes := #[(.array .byte), .byte, .int, .boolean]
  staticTypes := #[.long, .boolean, (.array (.object "java/io/ObjectStreamField")), .char, (.object "java/util/Comparator"), .byte, .byte]
  resolved := Array.replicate 1451 none
  statics := some 0 }

def pool8 : Array CpInfo := pool [(1, .class_ 2), (0, u "java/lang/Math"), (1, .class_ 6), (1, u "java/lang/Object"), (0, u "<init>"), (0, u "()V"), (89, .class_ 100), (1, u "java/lang/Math$RandomNumberGeneratorHolder"), (20, u "(JJ)J"), (50, u "negativeZeroFloatBits"), (0, u "J"), (2, u "negativeZeroDoubleBits"), (21, u "max"), (46, u "$assertionsDisabled"), (0, u "Z"), (91, u "twoToTheDoubleScaleDown"), (0, u "D"), (4, u "twoToTheDoubleScaleUp"), (9, u "E"), (3, u "PI"), (2, u "TAU"), (2, u "DEGREES_TO_RADIANS"), (0, u "RADIANS_TO_DEGREES")] 94

def k8m0 : Method := { name := "<init>", desc := "()V", sig := { parameters := [], returnType := none }, accessFlags := 2, code := none }
def k8c1 : Code := { maxStack := 4, maxLocals := 4, code := jdk_29_method_66_code, exceptionTable := #[], attributes := #[] }
def k8m1 : Method := { name := "max", desc := "(JJ)J", sig := { parameters := [.long, .long], returnType := some .long }, accessFlags := 9, code := some k8c1 }
/-- java/lang/Math -/
def k8 : Class := { plain "java/lang/Math" (some 0) with
  accessFlags := 49
  interfaces := #[]
  cf := some (fileOf pool8 1 #[.nestMembers #[98]] #[{ accessFlags := 2, nameIndex := 7, descriptorIndex := 8, attributes := #[] }, { accessFlags := 9, nameIndex := 198, descriptorIndex := 121, attributes := #[] }] 49 4 #[] #[{ accessFlags := 25, nameIndex := 354, descriptorIndex := 339, attributes := #[] }, { accessFlags := 25, nameIndex := 358, descriptorIndex := 339, attributes := #[] }, { accessFlags := 25, nameIndex := 361, descriptorIndex := 339, attributes := #[] }, { accessFlags := 26, nameIndex := 364, descriptorIndex := 339, attributes := #[] }, { accessFlags := 26, nameIndex := 365, descriptorIndex := 339, attributes := #[] }, { accessFlags := 26, nameIndex := 172, descriptorIndex := 173, attributes := #[] }, { accessFlags := 26, nameIndex := 176, descriptorIndex := 173, attributes := #[] }, { accessFlags := 8, nameIndex := 344, descriptorIndex := 339, attributes := #[] }, { accessFlags := 8, nameIndex := 338, descriptorIndex := 339, attributes := #[] }, { accessFlags := 4120, nameIndex := 245, descriptorIndex := 246, attributes := #[] }])
  fields := #[{ name := "E", type := .double, accessFlags := 25, slot := 0, constantValue := 0 }, { name := "PI", type := .double, accessFlags := 25, slot := 1, constantValue := 0 }, { name := "TAU", type := .double, accessFlags := 25, slot := 2, constantValue := 0 }, { name := "DEGREES_TO_RADIANS", type := .double, accessFlags := 26, slot := 3, constantValue := 0 }, { name := "RADIANS_TO_DEGREES", type := .double, accessFlags := 26, slot := 4, constantValue := 0 }, { name := "negativeZeroFloatBits", type := .long, accessFlags := 26, slot := 5, constantValue := 0 }, { name := "negativeZeroDoubleBits", type := .long, accessFlags := 26, slot := 6, constantValue := 0 }, { name := "twoToTheDoubleScaleUp", type := .double, accessFlags := 8, slot := 7, constantValue := 0 }, { name := "twoToTheDoubleScaleDown", type := .double, accessFlags := 8, slot := 8, constantValue := 0 }, { name := "$assertionsDisabled", type := .boolean, accessFlags := 4120, slot := 9, constantValue := 0 }]
  methods := #[k8m0, k8m1]
  instanceTypes := #[]
  staticTypes := #[.double, .double, .double, .double, .double, .long, .long, .double, .double, .boolean]
  resolved := Array.replicate 460 none
  statics := none }

def pool9 : Array CpInfo := pool [(1, .methodref 2 3), (0, .class_ 4), (0, .nameAndType 5 6), (0, u "java/lang/Object"), (0, u "<init>"), (0, u "()V"), (0, .class_ 8), (0, u "java/lang/Record")] 13

def k9c0 : Code := { maxStack := 1, maxLocals := 1, code := jdk_30_method_1_code, exceptionTable := #[], attributes := #[] }
def k9m0 : Method := { name := "<init>", desc := "()V", sig := { parameters := [], returnType := none }, accessFlags := 4, code := some k9c0 }
/-- java/lang/Record -/
def k9 : Class := { plain "java/lang/Record" (some 0) with
  accessFlags := 1057
  interfaces := #[]
  cf := some (fileOf pool9 7 #[] #[{ accessFlags := 4, nameIndex := 5, descriptorIndex := 6, attributes := #[] }] 1057 2 #[] #[])
  fields := #[]
  methods := #[k9m0]
  instanceTypes := #[]
  staticTypes := #[]
  resolved := Array.replicate 22 none
  statics := none }

def pool10 : Array CpInfo := pool [(1, .methodref 2 3), (0, .class_ 4), (0, .nameAndType 5 6), (0, u "java/lang/Record"), (0, u "<init>"), (0, u "()V"), (0, .string 8), (0, u "input"), (0, .methodref 10 11), (0, .class_ 12), (0, .nameAndType 13 14), (0, u "java/util/Objects"), (0, u "requireNonNull"), (0, u "(Ljava/lang/Object;Ljava/lang/String;)Ljava/lang/Object;"), (9, .fieldref 25 26), (0, .class_ 27), (0, .nameAndType 8 28), (0, u "com/example/shelfgraph/shelfgraph/ingest/RecordPosition"), (0, u "Ljava/lang/String;"), (0, .fieldref 25 30), (0, .nameAndType 31 32), (0, u "number"), (0, u "J"), (0, .fieldref 25 34), (0, .nameAndType 35 32), (0, u "offset"), (2, .string 39), (0, u "-"), (0, .methodref 41 42), (0, .class_ 43), (0, .nameAndType 44 45), (0, u "java/lang/String"), (0, u "equals"), (0, u "(Ljava/lang/Object;)Z"), (0, .string 47), (0, u "standard input"), (11, u "(Ljava/lang/String;JJ)V"), (4, u "inputName"), (0, u "()Ljava/lang/String;")] 32

def k10c0 : Code := { maxStack := 7, maxLocals := 6, code := prog_22_method_1_code, exceptionTable := #[], attributes := #[] }
def k10m0 : Method := { name := "<init>", desc := "(Ljava/lang/String;JJ)V", sig := { parameters := [(.object "java/lang/String"), .long, .long], returnType := none }, accessFlags := 1, code := some k10c0 }
def k10c1 : Code := { maxStack := 2, maxLocals := 1, code := prog_22_method_2_code, exceptionTable := #[], attributes := #[] }
def k10m1 : Method := { name := "inputName", desc := "()Ljava/lang/String;", sig := { parameters := [], returnType := some (.object "java/lang/String") }, accessFlags := 1, code := some k10c1 }
/-- com/example/shelfgraph/shelfgraph/ingest/RecordPosition -/
def k10 : Class := { plain "com/example/shelfgraph/shelfgraph/ingest/RecordPosition" (some 9) with
  accessFlags := 49
  interfaces := #[]
  cf := some (fileOf pool10 25 #[] #[{ accessFlags := 1, nameIndex := 5, descriptorIndex := 59, attributes := #[] }, { accessFlags := 1, nameIndex := 64, descriptorIndex := 65, attributes := #[] }] 49 2 #[] #[{ accessFlags := 18, nameIndex := 8, descriptorIndex := 28, attributes := #[] }, { accessFlags := 18, nameIndex := 31, descriptorIndex := 32, attributes := #[] }, { accessFlags := 18, nameIndex := 35, descriptorIndex := 32, attributes := #[] }])
  fields := #[{ name := "input", type := (.object "java/lang/String"), accessFlags := 18, slot := 0, constantValue := 0 }, { name := "number", type := .long, accessFlags := 18, slot := 1, constantValue := 0 }, { name := "offset", type := .long, accessFlags := 18, slot := 2, constantValue := 0 }]
  methods := #[k10m0, k10m1]
  instanceTypes := #[(.object "java/lang/String"), .long, .long]
  staticTypes := #[]
  resolved := Array.replicate 98 none
  statics := none }

def pool11 : Array CpInfo := pool [(2, .class_ 4), (1, u "java/lang/Object"), (0, u "<init>"), (0, u "()V"), (35, .class_ 44), (1, u "java/util/Objects"), (0, u "requireNonNull"), (48, u "(Ljava/lang/Object;Ljava/lang/String;)Ljava/lang/Object;")] 89

def k11m0 : Method := { name := "<init>", desc := "()V", sig := { parameters := [], returnType := none }, accessFlags := 2, code := none }
def k11c1 : Code := { maxStack := 3, maxLocals := 2, code := jdk_31_method_11_code, exceptionTable := #[], attributes := #[] }
def k11m1 : Method := { name := "requireNonNull", desc := "(Ljava/lang/Object;Ljava/lang/String;)Ljava/lang/Object;", sig := { parameters := [(.object "java/lang/Object"), (.object "java/lang/String")], returnType := some (.object "java/lang/Object") }, accessFlags := 9, code := some k11c1 }
/-- java/util/Objects -/
def k11 : Class := { plain "java/util/Objects" (some 0) with
  accessFlags := 49
  interfaces := #[]
  cf := some (fileOf pool11 42 #[] #[{ accessFlags := 2, nameIndex := 5, descriptorIndex := 6, attributes := #[] }, { accessFlags := 9, nameIndex := 45, descriptorIndex := 94, attributes := #[] }] 49 2 #[] #[])
  fields := #[]
  methods := #[k11m0, k11m1]
  instanceTypes := #[]
  staticTypes := #[]
  resolved := Array.replicate 184 none
  statics := none }

def pool12 : Array CpInfo := pool [(4, .class_ 6), (1, u "java/lang/Object"), (0, u "<init>"), (0, u "()V"), (5, .class_ 16), (1, u "java/lang/StringLatin1"), (104, u "$assertionsDisabled"), (0, u "Z"), (98, .class_ 223), (1, u "java/lang/StringLatin1$LinesSpliterator"), (57, u "equals"), (0, u "([B[B)Z"), (107, .class_ 391), (0, u "java/lang/StringLatin1$CharsSpliterator")] 3

def k12m0 : Method := { name := "<init>", desc := "()V", sig := { parameters := [], returnType := none }, accessFlags := 0, code := none }
def k12c1 : Code := { maxStack := 3, maxLocals := 3, code := jdk_43_method_13_code, exceptionTable := #[], attributes := #[] }
def k12m1 : Method := { name := "equals", desc := "([B[B)Z", sig := { parameters := [(.array .byte), (.array .byte)], returnType := some .boolean }, accessFlags := 9, code := some k12c1 }
/-- java/lang/StringLatin1 -/
def k12 : Class := { plain "java/lang/StringLatin1" (some 0) with
  accessFlags := 48
  interfaces := #[]
  cf := some (fileOf pool12 14 #[.nestMembers #[390, 221]] #[{ accessFlags := 0, nameIndex := 7, descriptorIndex := 8, attributes := #[] }, { accessFlags := 9, nameIndex := 281, descriptorIndex := 282, attributes := #[] }] 48 4 #[] #[{ accessFlags := 4120, nameIndex := 121, descriptorIndex := 122, attributes := #[] }])
  fields := #[{ name := "$assertionsDisabled", type := .boolean, accessFlags := 4120, slot := 0, constantValue := 0 }]
  methods := #[k12m0, k12m1]
  instanceTypes := #[]
  staticTypes := #[.boolean]
  resolved := Array.replicate 395 none
  statics := none }

def pool13 : Array CpInfo := pool [(6, .class_ 8), (1, u "java/lang/Object"), (0, u "<init>"), (0, u "()V"), (1, .class_ 14), (1, u "java/lang/StringUTF16"), (31, u "$assertionsDisabled"), (0, u "Z"), (13, u "HI_BYTE_SHIFT"), (0, u "I"), (2, u "LO_BYTE_SHIFT"), (49, .methodref 12 116), (0, .nameAndType 117 118), (0, u "compress"), (0, u "([CI[BII)I"), (3, u "([CII)[B"), (138, u "coderFromArrayLen"), (0, u "([BI)B"), (106, .class_ 371), (1, u "java/lang/StringUTF16$LinesSpliterator"), (58, u "MAX_LENGTH"), (196, .class_ 628), (0, u "java/lang/StringUTF16$CodePointsSpliterator"), (0, .class_ 630), (0, u "java/lang/StringUTF16$CharsSpliterator")] 4

def k13m0 : Method := { name := "<init>", desc := "()V", sig := { parameters := [], returnType := none }, accessFlags := 0, code := none }
def k13c1 : Code := { maxStack := 2, maxLocals := 2, code := jdk_52_method_15_code, exceptionTable := #[], attributes := #[] }
def k13m1 : Method := { name := "coderFromArrayLen", desc := "([BI)B", sig := { parameters := [(.array .byte), .int], returnType := some .byte }, accessFlags := 8, code := some k13c1 }
def k13c2 : Code := { maxStack := 5, maxLocals := 6, code := jdk_52_method_16_code, exceptionTable := #[], attributes := #[] }
def k13m2 : Method := { name := "compress", desc := "([CII)[B", sig := { parameters := [(.array .char), .int, .int], returnType := some (.array .byte) }, accessFlags := 9, code := some k13c2 }
def k13c3 : Code := { maxStack := 3, maxLocals := 7, code := jdk_52_method_21_code, exceptionTable := #[], attributes := #[] }
def k13m3 : Method := { name := "compress", desc := "([CI[BII)I", sig := { parameters := [(.array .char), .int, (.array .byte), .int, .int], returnType := some .int }, accessFlags := 9, code := some k13c3 }
/-- java/lang/StringUTF16 -/
def k13 : Class := { plain "java/lang/StringUTF16" (some 0) with
  accessFlags := 48
  interfaces := #[]
  cf := some (fileOf pool13 12 #[.nestMembers #[627, 629, 369]] #[{ accessFlags := 0, nameIndex := 9, descriptorIndex := 10, attributes := #[] }, { accessFlags := 8, nameIndex := 261, descriptorIndex := 262, attributes := #[] }, { accessFlags := 9, nameIndex := 117, descriptorIndex := 122, attributes := #[] }, { accessFlags := 9, nameIndex := 117, descriptorIndex := 118, attributes := #[] }] 48 6 #[] #[{ accessFlags := 26, nameIndex := 61, descriptorIndex := 62, attributes := #[] }, { accessFlags := 26, nameIndex := 65, descriptorIndex := 62, attributes := #[] }, { accessFlags := 24, nameIndex := 430, descriptorIndex := 62, attributes := #[] }, { accessFlags := 4120, nameIndex := 46, descriptorIndex := 47, attributes := #[] }])
  fields := #[{ name := "HI_BYTE_SHIFT", type := .int, accessFlags := 26, slot := 0, constantValue := 0 }, { name := "LO_BYTE_SHIFT", type := .int, accessFlags := 26, slot := 1, constantValue := 0 }, { name := "MAX_LENGTH", type := .int, accessFlags := 24, slot := 2, constantValue := 0 }, { name := "$assertionsDisabled", type := .boolean, accessFlags := 4120, slot := 3, constantValue := 0 }]
  methods := #[k13m0, k13m1, k13m2, k13m3]
  instanceTypes := #[]
  staticTypes := #[.int, .int, .int, .boolean]
  resolved := Array.replicate 635 none
  statics := none }

def pool14 : Array CpInfo := pool [(2, .class_ 4), (1, u "java/lang/Object"), (0, u "<init>"), (0, u "()V"), (17, .class_ 26), (1, u "jdk/internal/util/Preconditions"), (28, .class_ 56), (0, u "jdk/internal/util/Preconditions$4"), (57, .class_ 115), (0, u "jdk/internal/util/Preconditions$1"), (7, u "SIOOBE_FORMATTER"), (0, u "Ljava/util/function/BiFunction;"), (0, .class_ 126), (0, u "jdk/internal/util/Preconditions$2"), (3, u "AIOOBE_FORMATTER"), (0, .class_ 132), (0, u "jdk/internal/util/Preconditions$3"), (3, u "IOOBE_FORMATTER")] 57

def k14m0 : Method := { name := "<init>", desc := "()V", sig := { parameters := [], returnType := none }, accessFlags := 1, code := none }
/-- jdk/internal/util/Preconditions -/
def k14 : Class := { plain "jdk/internal/util/Preconditions" (some 0) with
  accessFlags := 33
  interfaces := #[]
  cf := some (fileOf pool14 24 #[.nestMembers #[55, 131, 125, 114]] #[{ accessFlags := 1, nameIndex := 5, descriptorIndex := 6, attributes := #[] }] 33 2 #[] #[{ accessFlags := 25, nameIndex := 123, descriptorIndex := 124, attributes := #[] }, { accessFlags := 25, nameIndex := 130, descriptorIndex := 124, attributes := #[] }, { accessFlags := 25, nameIndex := 136, descriptorIndex := 124, attributes := #[] }])
  fields := #[{ name := "SIOOBE_FORMATTER", type := (.object "java/util/function/BiFunction"), accessFlags := 25, slot := 0, constantValue := 0 }, { name := "AIOOBE_FORMATTER", type := (.object "java/util/function/BiFunction"), accessFlags := 25, slot := 1, constantValue := 0 }, { name := "IOOBE_FORMATTER", type := (.object "java/util/function/BiFunction"), accessFlags := 25, slot := 2, constantValue := 0 }]
  methods := #[k14m0]
  instanceTypes := #[]
  staticTypes := #[(.object "java/util/function/BiFunction"), (.object "java/util/function/BiFunction"), (.object "java/util/function/BiFunction")]
  resolved := Array.replicate 194 none
  statics := some 1 }

def pool15 : Array CpInfo := pool [(9, u "<init>"), (6, .class_ 18), (1, u "java/lang/Object"), (0, u "()V"), (1, .class_ 23), (1, u "jdk/internal/util/ArraysSupport"), (0, u "LOG2_ARRAY_LONG_INDEX_SCALE"), (0, u "I"), (2, u "U"), (0, u "Ljdk/internal/misc/Unsafe;"), (8, u "BIG_ENDIAN"), (0, u "Z"), (8, u "LOG2_BYTE_BIT_SIZE"), (4, u "LOG2_ARRAY_INT_INDEX_SCALE"), (54, u "JLA"), (0, u "Ljdk/internal/access/JavaLangAccess;"), (11, u "LOG2_ARRAY_BOOLEAN_INDEX_SCALE"), (9, u "LOG2_ARRAY_BYTE_INDEX_SCALE"), (5, u "LOG2_ARRAY_CHAR_INDEX_SCALE"), (5, u "LOG2_ARRAY_SHORT_INDEX_SCALE"), (18, u "LOG2_ARRAY_FLOAT_INDEX_SCALE"), (24, u "LOG2_ARRAY_DOUBLE_INDEX_SCALE"), (89, u "T_BOOLEAN"), (2, u "T_CHAR"), (1, u "T_FLOAT"), (1, u "T_DOUBLE"), (1, u "T_BYTE"), (1, u "T_SHORT"), (1, u "T_INT"), (1, u "T_LONG"), (1, u "SOFT_MAX_ARRAY_LENGTH")] 83

def k15m0 : Method := { name := "<init>", desc := "()V", sig := { parameters := [], returnType := none }, accessFlags := 2, code := none }
/-- jdk/internal/util/ArraysSupport -/
def k15 : Class := { plain "jdk/internal/util/ArraysSupport" (some 0) with
  accessFlags := 33
  interfaces := #[]
  cf := some (fileOf pool15 21 #[] #[{ accessFlags := 2, nameIndex := 9, descriptorIndex := 19, attributes := #[] }] 33 16 #[] #[{ accessFlags := 24, nameIndex := 28, descriptorIndex := 29, attributes := #[] }, { accessFlags := 26, nameIndex := 38, descriptorIndex := 39, attributes := #[] }, { accessFlags := 25, nameIndex := 121, descriptorIndex := 25, attributes := #[] }, { accessFlags := 25, nameIndex := 131, descriptorIndex := 25, attributes := #[] }, { accessFlags := 25, nameIndex := 137, descriptorIndex := 25, attributes := #[] }, { accessFlags := 25, nameIndex := 143, descriptorIndex := 25, attributes := #[] }, { accessFlags := 25, nameIndex := 53, descriptorIndex := 25, attributes := #[] }, { accessFlags := 25, nameIndex := 24, descriptorIndex := 25, attributes := #[] }, { accessFlags := 25, nameIndex := 162, descriptorIndex := 25, attributes := #[] }, { accessFlags := 25, nameIndex := 187, descriptorIndex := 25, attributes := #[] }, { accessFlags := 26, nameIndex := 48, descriptorIndex := 25, attributes := #[] }, { accessFlags := 25, nameIndex := 277, descriptorIndex := 25, attributes := #[] }, { accessFlags := 25, nameIndex := 280, descriptorIndex := 25, attributes := #[] }, { accessFlags := 25, nameIndex := 282, descriptorIndex := 25, attributes := #[] }, { accessFlags := 25, nameIndex := 284, descriptorIndex := 25, attributes := #[] }, { accessFlags := 25, nameIndex := 286, descriptorIndex := 25, attributes := #[] }, { accessFlags := 25, nameIndex := 288, descriptorIndex := 25, attributes := #[] }, { accessFlags := 25, nameIndex := 290, descriptorIndex := 25, attributes := #[] }, { accessFlags := 25, nameIndex := 292, descriptorIndex := 25, attributes := #[] }, { accessFlags := 26, nameIndex := 108, descriptorIndex := 109, attributes := #[] }, { accessFlags := 25, nameIndex := 294, descriptorIndex := 25, attributes := #[] }])
  fields := #[{ name := "U", type := (.object "jdk/internal/misc/Unsafe"), accessFlags := 24, slot := 0, constantValue := 0 }, { name := "BIG_ENDIAN", type := .boolean, accessFlags := 26, slot := 1, constantValue := 0 }, { name := "LOG2_ARRAY_BOOLEAN_INDEX_SCALE", type := .int, accessFlags := 25, slot := 2, constantValue := 0 }, { name := "LOG2_ARRAY_BYTE_INDEX_SCALE", type := .int, accessFlags := 25, slot := 3, constantValue := 0 }, { name := "LOG2_ARRAY_CHAR_INDEX_SCALE", type := .int, accessFlags := 25, slot := 4, constantValue := 0 }, { name := "LOG2_ARRAY_SHORT_INDEX_SCALE", type := .int, accessFlags := 25, slot := 5, constantValue := 0 }, { name := "LOG2_ARRAY_INT_INDEX_SCALE", type := .int, accessFlags := 25, slot := 6, constantValue := 0 }, { name := "LOG2_ARRAY_LONG_INDEX_SCALE", type := .int, accessFlags := 25, slot := 7, constantValue := 0 }, { name := "LOG2_ARRAY_FLOAT_INDEX_SCALE", type := .int, accessFlags := 25, slot := 8, constantValue := 0 }, { name := "LOG2_ARRAY_DOUBLE_INDEX_SCALE", type := .int, accessFlags := 25, slot := 9, constantValue := 0 }, { name := "LOG2_BYTE_BIT_SIZE", type := .int, accessFlags := 26, slot := 10, constantValue := 0 }, { name := "T_BOOLEAN", type := .int, accessFlags := 25, slot := 11, constantValue := 0 }, { name := "T_CHAR", type := .int, accessFlags := 25, slot := 12, constantValue := 0 }, { name := "T_FLOAT", type := .int, accessFlags := 25, slot := 13, constantValue := 0 }, { name := "T_DOUBLE", type := .int, accessFlags := 25, slot := 14, constantValue := 0 }, { name := "T_BYTE", type := .int, accessFlags := 25, slot := 15, constantValue := 0 }, { name := "T_SHORT", type := .int, accessFlags := 25, slot := 16, constantValue := 0 }, { name := "T_INT", type := .int, accessFlags := 25, slot := 17, constantValue := 0 }, { name := "T_LONG", type := .int, accessFlags := 25, slot := 18, constantValue := 0 }, { name := "JLA", type := (.object "jdk/internal/access/JavaLangAccess"), accessFlags := 26, slot := 19, constantValue := 0 }, { name := "SOFT_MAX_ARRAY_LENGTH", type := .int, accessFlags := 25, slot := 20, constantValue := 0 }]
  methods := #[k15m0]
  instanceTypes := #[]
  staticTypes := #[(.object "jdk/internal/misc/Unsafe"), .boolean, .int, .int, .int, .int, .int, .int, .int, .int, .int, .int, .int, .int, .int, .int, .int, .int, .int, (.object "jdk/internal/access/JavaLangAccess"), .int]
  resolved := Array.replicate 378 none
  statics := none }

def pool16 : Array CpInfo := pool [(1, u "java/lang/Cloneable"), (0, .class_ 1), (0, u "java/lang/Object"), (0, .class_ 3)] 3

/-- java/lang/Cloneable -/
def k16 : Class := { plain "java/lang/Cloneable" (some 0) with
  accessFlags := 1537
  interfaces := #[]
  cf := some (fileOf pool16 2 #[] #[] 1537 4 #[] #[])
  fields := #[]
  methods := #[]
  instanceTypes := #[]
  staticTypes := #[]
  resolved := Array.replicate 8 none
  statics := none }

/-- the primitive byte -/
def k17 : Class := { plain "byte" none with kind := .primitive 'B', accessFlags := 0x411 }
/-- [B -/
def k18 : Class := { plain "[B" (some 0) with kind := .array 17 .byte, interfaces := #[16, 2], accessFlags := 1041 }

/-- the primitive char -/
def k19 : Class := { plain "char" none with kind := .primitive 'C', accessFlags := 0x411 }
/-- [C -/
def k20 : Class := { plain "[C" (some 0) with kind := .array 19 .char, interfaces := #[16, 2], accessFlags := 1041 }

/-- the primitive int -/
def k21 : Class := { plain "int" none with kind := .primitive 'I', accessFlags := 0x411 }
/-- [I -/
def k22 : Class := { plain "[I" (some 0) with kind := .array 21 .int, interfaces := #[16, 2], accessFlags := 1041 }

def heap : Heap := #[{ cls := 7, slots := #[.long 0, .int 1, .null, .int 0, .null, .int 0, .int 0], vm := .statics 7 },
  { cls := 14, slots := #[.null, .null, .null], vm := .statics 14 }]
def classes : Array Class := #[k0, k1, k2, k3, k4, k5, k6, k7, k8, k9, k10, k11, k12, k13, k14, k15, k16, k17, k18, k19, k20, k21, k22]
def interned : List (Array UInt16 × Addr) := []
def slotsUsed : Nat := 10
def theMethod : MethodId := ⟨1, 1⟩
def args0 : Array Value := #[.int 1, .int 3, .int 5, .int 7, .long 1, .long 2]
def aboutOver (below : List Frame) : State where
  vm := { classes := classes, interned := interned.toArray }
  heap := heap
  slotsUsed := slotsUsed
  threads := #[{ frames := .invoking theMethod args0 :: below }]
def below0 : List Frame := [.native { method := ⟨0, 0⟩, args := #[] }]
def about1 : State := aboutOver below0
def p0 : Program := .bare "" "" ""
def e0 : Env := launch0.env 0 0 0
theorem w_frames : about1.frames = Frame.invoking theMethod args0 :: below0 := rfl
set_option maxRecDepth 65536 in
theorem w_args : argsFit about1.vm theMethod args0 = true := by decide +kernel
set_option maxRecDepth 65536 in
theorem w_heap : heapFits about1 = true := by decide +kernel
set_option maxRecDepth 65536 in
theorem w_runnable : about1.curStatus? = some .runnable := by decide +kernel
set_option maxRecDepth 65536 in
theorem w_alone : about1.alone = true := by decide +kernel
set_option maxRecDepth 65536 in
theorem w_named : about1.methodNamed? x = some theMethod := by decide +kernel
set_option maxRecDepth 65536 in
theorem w_hears : about1.hears theMethod below0 = true := by decide +kernel
set_option maxRecDepth 65536 in
theorem w_ripe : about1.ripe theMethod args0 below0 = true := by decide +kernel
theorem w_running : about1.status = .running := rfl
set_option maxRecDepth 65536 in
theorem w_room : about1.hasRoom e0.platform room_1 = true :=
  launch0.hasRoom_least _ room_1 (by decide +kernel) (by decide +kernel) (by decide +kernel) (by decide +kernel) (by decide +kernel) (by decide +kernel)
theorem allAtoms_all (ts : List Jvm.Cond) (a : Array Jvm.Value) (st : Jvm.State) : (allAtoms ts).before a st = ts.all (fun c => c.before a st) := by
  induction ts with
  | nil => rfl
  | cons c t ih =>
    show (Jvm.Cond.and c (allAtoms t)).before a st = _
    rw [Jvm.Cond.before_and, ih, List.all_cons]
def words1 : List Jvm.Cond := Jvm.Cond.code x code maxLocals ret :: tables_1
/-- a 'code' word, met by the world's own term for the bytes: nothing is compared byte by byte -/
theorem code_word {y : MethodName} {bytes : ByteArray} {mx : Nat} {rt : Option FieldType} {a : Array Value} {s : State} {m : MethodId} {meth : Method} {c : Code} (h1 : s.methodNamed? y = some m) (h2 : s.vm.method? m = some meth) (h3 : meth.code = some c) (h4 : c.code = bytes)
    (h5 : (c.maxLocals == mx && c.exceptionTable.isEmpty && decide (c.maxStack ≤ mostOperands) && decide (meth.sig.returnType = rt) && !meth.locks && decide (parseMethodDescriptor y.desc = some meth.sig)) = true) : (Jvm.Cond.code y bytes mx rt).before a s = true := by
  simp only [Bool.and_eq_true, beq_iff_eq, Bool.not_eq_true', decide_eq_true_eq] at h5
  obtain ⟨⟨⟨⟨⟨g1, g2⟩, g3⟩, g4⟩, g5⟩, g6⟩ := h5
  simp [Cond.before, Cond.holds, Cond.value, h1, h2, h3, h4, g1, g2, g3, g4, g5, g6]
def isCode : Jvm.Cond → Bool
  | .code _ _ _ _ => true
  | _ => false
theorem all_split {L : List Jvm.Cond} {P : Jvm.Cond → Bool} (h1 : L.all (fun c => isCode c || P c) = true) (h2 : ∀ c ∈ L.filter isCode, P c = true) : L.all P = true := by
  refine List.all_eq_true.mpr fun c hc => ?_
  have h := List.all_eq_true.mp h1 c hc
  rcases Bool.eq_false_or_eq_true (isCode c) with hi | hi
  · exact h2 c (List.mem_filter.mpr ⟨hc, hi⟩)
  · simpa [hi] using h
set_option maxRecDepth 65536 in
theorem w_c0 : (Jvm.Cond.code x code maxLocals ret).before args0 about1 = true := code_word (m := ⟨1, 1⟩) (meth := k1m1) (c := k1c1) (by decide +kernel) rfl rfl rfl (by decide +kernel)
set_option maxRecDepth 65536 in
theorem w_c1 : (Jvm.Cond.code ({ cls := "com/example/shelfgraph/shelfgraph/ingest/RecordPositionInputNamePinLaw", name := "pick", desc := "(I)C" } : Jvm.MethodName) method_3_code (1 : Nat) (Option.some Jvm.ClassFile.FieldType.char)).before args0 about1 = true := code_word (m := ⟨1, 2⟩) (meth := k1m2) (c := k1c2) (by decide +kernel) rfl rfl rfl (by decide +kernel)
set_option maxRecDepth 65536 in
theorem w_c2 : (Jvm.Cond.code ({ cls := "com/example/shelfgraph/shelfgraph/ingest/RecordPositionInputNamePinLaw", name := "make", desc := "(ICCC)Ljava/lang/String;" } : Jvm.MethodName) method_4_code (5 : Nat) (Option.some (Jvm.ClassFile.FieldType.object "java/lang/String"))).before args0 about1 = true := code_word (m := ⟨1, 3⟩) (meth := k1m3) (c := k1c3) (by decide +kernel) rfl rfl rfl (by decide +kernel)
set_option maxRecDepth 65536 in
theorem w_c3 : (Jvm.Cond.code ({ cls := "java/lang/String", name := "<init>", desc := "([C)V" } : Jvm.MethodName) jdk_42_method_3_code (2 : Nat) (Option.none : Option Jvm.ClassFile.FieldType)).before args0 about1 = true := code_word (m := ⟨7, 1⟩) (meth := k7m1) (c := k7c1) (by decide +kernel) rfl rfl rfl (by decide +kernel)
set_option maxRecDepth 65536 in
theorem w_c4 : (Jvm.Cond.code ({ cls := "java/lang/String", name := "<init>", desc := "([CIILjava/lang/Void;)V" } : Jvm.MethodName) jdk_42_method_149_code (6 : Nat) (Option.none : Option Jvm.ClassFile.FieldType)).before args0 about1 = true := code_word (m := ⟨7, 3⟩) (meth := k7m3) (c := k7c3) (by decide +kernel) rfl rfl rfl (by decide +kernel)
set_option maxRecDepth 65536 in
theorem w_c5 : (Jvm.Cond.code ({ cls := "java/lang/Object", name := "<init>", desc := "()V" } : Jvm.MethodName) object_method_1_code (1 : Nat) (Option.none : Option Jvm.ClassFile.FieldType)).before args0 about1 = true := code_word (m := ⟨0, 0⟩) (meth := k0m0) (c := k0c0) (by decide +kernel) rfl rfl rfl (by decide +kernel)
set_option maxRecDepth 65536 in
theorem w_c6 : (Jvm.Cond.code ({ cls := "java/lang/Math", name := "max", desc := "(JJ)J" } : Jvm.MethodName) jdk_29_method_66_code (4 : Nat) (Option.some Jvm.ClassFile.FieldType.long)).before args0 about1 = true := code_word (m := ⟨8, 1⟩) (meth := k8m1) (c := k8c1) (by decide +kernel) rfl rfl rfl (by decide +kernel)
set_option maxRecDepth 65536 in
theorem w_c7 : (Jvm.Cond.code ({ cls := "com/example/shelfgraph/shelfgraph/ingest/RecordPosition", name := "<init>", desc := "(Ljava/lang/String;JJ)V" } : Jvm.MethodName) prog_22_method_1_code (6 : Nat) (Option.none : Option Jvm.ClassFile.FieldType)).before args0 about1 = true := code_word (m := ⟨10, 0⟩) (meth := k10m0) (c := k10c0) (by decide +kernel) rfl rfl rfl (by decide +kernel)
set_option maxRecDepth 65536 in
theorem w_c8 : (Jvm.Cond.code ({ cls := "java/lang/Record", name := "<init>", desc := "()V" } : Jvm.MethodName) jdk_30_method_1_code (1 : Nat) (Option.none : Option Jvm.ClassFile.FieldType)).before args0 about1 = true := code_word (m := ⟨9, 0⟩) (meth := k9m0) (c := k9c0) (by decide +kernel) rfl rfl rfl (by decide +kernel)
set_option maxRecDepth 65536 in
theorem w_c9 : (Jvm.Cond.code ({ cls := "java/util/Objects", name := "requireNonNull", desc := "(Ljava/lang/Object;Ljava/lang/String;)Ljava/lang/Object;" } : Jvm.MethodName) jdk_31_method_11_code (2 : Nat) (Option.some (Jvm.ClassFile.FieldType.object "java/lang/Object"))).before args0 about1 = true := code_word (m := ⟨11, 1⟩) (meth := k11m1) (c := k11c1) (by decide +kernel) rfl rfl rfl (by decide +kernel)
set_option maxRecDepth 65536 in
theorem w_c10 : (Jvm.Cond.code ({ cls := "com/example/shelfgraph/shelfgraph/ingest/RecordPosition", name := "inputName", desc := "()Ljava/lang/String;" } : Jvm.MethodName) prog_22_method_2_code (1 : Nat) (Option.some (Jvm.ClassFile.FieldType.object "java/lang/String"))).before args0 about1 = true := code_word (m := ⟨10, 1⟩) (meth := k10m1) (c := k10c1) (by decide +kernel) rfl rfl rfl (by decide +kernel)
set_option maxRecDepth 65536 in
theorem w_c11 : (Jvm.Cond.code ({ cls := "java/lang/String", name := "equals", desc := "(Ljava/lang/Object;)Z" } : Jvm.MethodName) jdk_42_method_66_code (3 : Nat) (Option.some Jvm.ClassFile.FieldType.boolean)).before args0 about1 = true := code_word (m := ⟨7, 2⟩) (meth := k7m2) (c := k7c2) (by decide +kernel) rfl rfl rfl (by decide +kernel)
set_option maxRecDepth 65536 in
theorem w_c12 : (Jvm.Cond.code ({ cls := "java/lang/StringLatin1", name := "equals", desc := "([B[B)Z" } : Jvm.MethodName) jdk_43_method_13_code (3 : Nat) (Option.some Jvm.ClassFile.FieldType.boolean)).before args0 about1 = true := code_word (m := ⟨12, 1⟩) (meth := k12m1) (c := k12c1) (by decide +kernel) rfl rfl rfl (by decide +kernel)
set_option maxRecDepth 65536 in
theorem w_c13 : (Jvm.Cond.code ({ cls := "java/lang/StringUTF16", name := "compress", desc := "([CII)[B" } : Jvm.MethodName) jdk_52_method_16_code (6 : Nat) (Option.some (Jvm.ClassFile.FieldType.array Jvm.ClassFile.FieldType.byte))).before args0 about1 = true := code_word (m := ⟨13, 2⟩) (meth := k13m2) (c := k13c2) (by decide +kernel) rfl rfl rfl (by decide +kernel)
set_option maxRecDepth 65536 in
theorem w_c14 : (Jvm.Cond.code ({ cls := "java/lang/StringUTF16", name := "compress", desc := "([CI[BII)I" } : Jvm.MethodName) jdk_52_method_21_code (7 : Nat) (Option.some Jvm.ClassFile.FieldType.int)).before args0 about1 = true := code_word (m := ⟨13, 3⟩) (meth := k13m3) (c := k13c3) (by decide +kernel) rfl rfl rfl (by decide +kernel)
set_option maxRecDepth 65536 in
theorem w_c15 : (Jvm.Cond.code ({ cls := "java/lang/StringUTF16", name := "coderFromArrayLen", desc := "([BI)B" } : Jvm.MethodName) jdk_52_method_15_code (2 : Nat) (Option.some Jvm.ClassFile.FieldType.byte)).before args0 about1 = true := code_word (m := ⟨13, 1⟩) (meth := k13m1) (c := k13c1) (by decide +kernel) rfl rfl rfl (by decide +kernel)
def codes1 : List Jvm.Cond := [Jvm.Cond.code x code maxLocals ret, Jvm.Cond.code ({ cls := "com/example/shelfgraph/shelfgraph/ingest/RecordPositionInputNamePinLaw", name := "pick", desc := "(I)C" } : Jvm.MethodName) method_3_code (1 : Nat) (Option.some Jvm.ClassFile.FieldType.char), Jvm.Cond.code ({ cls := "com/example/shelfgraph/shelfgraph/ingest/RecordPositionInputNamePinLaw", name := "make", desc := "(ICCC)Ljava/lang/String;" } : Jvm.MethodName) method_4_code (5 : Nat) (Option.some (Jvm.ClassFile.FieldType.object "java/lang/String")), Jvm.Cond.code ({ cls := "java/lang/String", name := "<init>", desc := "([C)V" } : Jvm.MethodName) jdk_42_method_3_code (2 : Nat) (Option.none : Option Jvm.ClassFile.FieldType), Jvm.Cond.code ({ cls := "java/lang/String", name := "<init>", desc := "([CIILjava/lang/Void;)V" } : Jvm.MethodName) jdk_42_method_149_code (6 : Nat) (Option.none : Option Jvm.ClassFile.FieldType), Jvm.Cond.code ({ cls := "java/lang/Object", name := "<init>", desc := "()V" } : Jvm.MethodName) object_method_1_code (1 : Nat) (Option.none : Option Jvm.ClassFile.FieldType), Jvm.Cond.code ({ cls := "java/lang/Math", name := "max", desc := "(JJ)J" } : Jvm.MethodName) jdk_29_method_66_code (4 : Nat) (Option.some Jvm.ClassFile.FieldType.long), Jvm.Cond.code ({ cls := "com/example/shelfgraph/shelfgraph/ingest/RecordPosition", name := "<init>", desc := "(Ljava/lang/String;JJ)V" } : Jvm.MethodName) prog_22_method_1_code (6 : Nat) (Option.none : Option Jvm.ClassFile.FieldType), Jvm.Cond.code ({ cls := "java/lang/Record", name := "<init>", desc := "()V" } : Jvm.MethodName) jdk_30_method_1_code (1 : Nat) (Option.none : Option Jvm.ClassFile.FieldType), Jvm.Cond.code ({ cls := "java/util/Objects", name := "requireNonNull", desc := "(Ljava/lang/Object;Ljava/lang/String;)Ljava/lang/Object;" } : Jvm.MethodName) jdk_31_method_11_code (2 : Nat) (Option.some (Jvm.ClassFile.FieldType.object "java/lang/Object")), Jvm.Cond.code ({ cls := "com/example/shelfgraph/shelfgraph/ingest/RecordPosition", name := "inputName", desc := "()Ljava/lang/String;" } : Jvm.MethodName) prog_22_method_2_code (1 : Nat) (Option.some (Jvm.ClassFile.FieldType.object "java/lang/String")), Jvm.Cond.code ({ cls := "java/lang/String", name := "equals", desc := "(Ljava/lang/Object;)Z" } : Jvm.MethodName) jdk_42_method_66_code (3 : Nat) (Option.some Jvm.ClassFile.FieldType.boolean), Jvm.Cond.code ({ cls := "java/lang/StringLatin1", name := "equals", desc := "([B[B)Z" } : Jvm.MethodName) jdk_43_method_13_code (3 : Nat) (Option.some Jvm.ClassFile.FieldType.boolean), Jvm.Cond.code ({ cls := "java/lang/StringUTF16", name := "compress", desc := "([CII)[B" } : Jvm.MethodName) jdk_52_method_16_code (6 : Nat) (Option.some (Jvm.ClassFile.FieldType.array Jvm.ClassFile.FieldType.byte)), Jvm.Cond.code ({ cls := "java/lang/StringUTF16", name := "compress", desc := "([CI[BII)I" } : Jvm.MethodName) jdk_52_method_21_code (7 : Nat) (Option.some Jvm.ClassFile.FieldType.int), Jvm.Cond.code ({ cls := "java/lang/StringUTF16", name := "coderFromArrayLen", desc := "([BI)B" } : Jvm.MethodName) jdk_52_method_15_code (2 : Nat) (Option.some Jvm.ClassFile.FieldType.byte)]
set_option maxRecDepth 65536 in
theorem codes_eq : words1.filter isCode = codes1 := rfl
theorem w_codes : ∀ c ∈ words1.filter isCode, c.before args0 about1 = true := by
  rw [codes_eq]
  intro c hc
  simp only [codes1, List.mem_cons, List.not_mem_nil, or_false] at hc
  rcases hc with rfl | rfl | rfl | rfl | rfl | rfl | rfl | rfl | rfl | rfl | rfl | rfl | rfl | rfl | rfl | rfl
  · exact w_c0
  · exact w_c1
  · exact w_c2
  · exact w_c3
  · exact w_c4
  · exact w_c5
  · exact w_c6
  · exact w_c7
  · exact w_c8
  · exact w_c9
  · exact w_c10
  · exact w_c11
  · exact w_c12
  · exact w_c13
  · exact w_c14
  · exact w_c15
set_option maxRecDepth 65536 in
theorem w_t1 : (words1.take 24).all (fun c => isCode c || c.before args0 about1) = true := by decide +kernel
set_option maxRecDepth 65536 in
theorem w_t2 : ((words1.drop 24).take 24).all (fun c => isCode c || c.before args0 about1) = true := by decide +kernel
set_option maxRecDepth 65536 in
theorem w_t3 : (((words1.drop 24).drop 24).take 24).all (fun c => isCode c || c.before args0 about1) = true := by decide +kernel
set_option maxRecDepth 65536 in
theorem w_t4 : (((words1.drop 24).drop 24).drop 24).all (fun c => isCode c || c.before args0 about1) = true := by decide +kernel
theorem w_tables : (allAtoms (Jvm.Cond.code x code maxLocals ret :: tables_1)).before args0 about1 = true := by
  rw [allAtoms_all]
  show words1.all (fun c => c.before args0 about1) = true
  refine all_split ?_ w_codes
  rw [← List.take_append_drop 24 words1, List.all_append, w_t1, ← List.take_append_drop 24 (words1.drop 24), List.all_append, w_t2, ← List.take_append_drop 24 ((words1.drop 24).drop 24), List.all_append, w_t3, w_t4]
  rfl
set_option maxRecDepth 65536 in
theorem w_rest : rest_1_c.before args0 about1 = true := by decide +kernel
set_option maxRecDepth 65536 in
theorem w_case : (Jvm.Cond.and given_1 narrow_1).before args0 about1 = true := by decide +kernel
set_option maxRecDepth 65536 in
theorem w_consts : constsHeld consts_1 about1 := Jvm.Lit.constsHeldB_iff.mp (by decide +kernel)
theorem w_applies : (headSpec (Jvm.Cond.code x code maxLocals ret :: tables_1) room_1).applies x e0.platform about1 = true :=
  (Spec.applies_iff w_frames).mpr ⟨w_running, w_runnable, w_alone, w_named, w_hears, w_ripe, w_room, w_tables⟩
theorem atStart : AtStart classFile x code maxLocals ret World_1 tables_1 room_1 Calls_1 rest_1 Pre_1 launch0 p0 e0 about1 theMethod args0 below0 :=
  ⟨lists_1, trivial, launch0.admits_env _ _ _, launch0.least_env, fairChoices_fair.cas, fairChoices_fair.clock, w_frames, w_args, w_heap, w_applies, ⟨w_consts, trivial⟩, w_rest, w_case⟩
end start1
theorem witness_1 : WitnessClaimed_1 := ⟨start1.p0, start1.e0, start1.about1, start1.theMethod, start1.args0, start1.below0, start1.atStart⟩
end Jvm.Pilot.@@N@@
