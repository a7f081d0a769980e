import JvmDerived
import JvmDerived.Pilot.@@N@@Statement
import JvmDerived.Pilot.@@N@@Code
set_option linter.unusedVariables false
set_option linter.unusedSimpArgs false
namespace Jvm.RoadKit
open Sem ClassFile Op Lib Jvm.Stand Jvm.Free Jvm.LawKit
section New
variable {p : Program} {l : Launch} {e : Env} {R : Room} {s : State} {m : MethodId} {args : Array Value} {below : List Frame} {meth : Method} {c : Code} {T : State} {locs : List Loc} {cells slots : Nat}
theorem retI (X : Stand p l e R s m args below meth c T locs cells slots) (hx : p.tables.exec = Jvm.exec) {pc : Nat} {Ls : Array Slot} {z : Int32} {rest : List Value} (hret : meth.sig.returnType = some .int) (hd : decode c.code pc = .ok (.ireturn, 1)) {fs : List Frame}
    (hl : ∀ (f : JFrame) (acts : List Action), f.method = m → f.locked = none → f.entered = [] → (doReturn e (T.setTop f) acts (some (.int z))).1 = T.setFrames fs) : Steps p.tables e below (T.setTop (mkF m pc Ls (.int z :: rest))) (T.setFrames fs) := by
  have hm' : T.vm.method? m = some meth := X.method'
  have hn : narrow .int (.int z) = .int z := rfl
  show Steps p.tables e below (T.setTop { method := m, pc := pc, locals := Ls, stack := _ :: rest, locked := none }) _
  jvm_step X.here [X.here.top, hx, hd, hm', hret, hn]
  first | (intro acts; rw [hl _ acts rfl rfl rfl]) | rw [hl _ _ rfl rfl rfl]
  exact Steps.refl _
/-- from the state T with the frame g on top the run ends, returned, with Q -/
def own_Go (tb : Tables) (e : Env) (below : List Frame) (Q : Option Value → Heap → List Loc → Prop) (s : State) (C S : Nat) (T : State) (g : JFrame) : Prop :=
  ∃ t o, Steps tb e below (T.setTop g) t ∧ t.status = .running ∧ Ended t below o ∧ ∃ v L, o = .returned v ∧ Q v t.heap L ∧ FrameEnd s o t L C S
theorem own_by {tb : Tables} {Q : Option Value → Heap → List Loc → Prop} {C S : Nat} {T T' : State} {g g' : JFrame} (st : ∀ target, Steps tb e below (T'.setTop g') target → Steps tb e below (T.setTop g) target) (k : own_Go tb e below Q s C S T' g') : own_Go tb e below Q s C S T g := by
  obtain ⟨t, o, h1, h2⟩ := k
  exact ⟨t, o, st t h1, h2⟩
theorem bN {tb : Tables} {Q : Option Value → Heap → List Loc → Prop} {C S : Nat} {T : State} {g : JFrame} (T' : State) (g' : JFrame) (st : ∀ target, Steps tb e below (T'.setTop g') target → Steps tb e below (T.setTop g) target) (k : own_Go tb e below Q s C S T' g') : own_Go tb e below Q s C S T g := own_by st k
/-- the contract of a body: from the heap h0, with the arguments A, it returns, with Q -/
abbrev own_M (l : Launch) (y : MethodName) (code : ByteArray) (ml : Nat) (rt : Option FieldType) (ws : List Cond) (R : Room) (Z : State) (A : Array Value) (h0 : Heap) (Q : Option Value → Heap → List Loc → Prop) : Prop :=
  MetFree l y (head1 (Cond.code y code ml rt :: ws) R) (fun a U => a = A ∧ Z.Warmed39 U.vm ∧ U.heap = h0) (fun _ _ _ _ _ => True) (fun _ U o U' => ∃ v L, o = .returned v ∧ Q v U'.heap L ∧ FrameEnd U o U' L R.cells R.slots)
theorem own_bd {y : MethodName} {code : ByteArray} {ml : Nat} {rt : Option FieldType} {ws : List Cond} {Z : State} {A : Array Value} {h0 : Heap} {Q : Option Value → Heap → List Loc → Prop} (hpl : plainFor y = true)
    (k : ∀ p e s m below meth c s₁, BodyLoose p l y (head1 (Cond.code y code ml rt :: ws) R) code ml rt e s m A below meth c s₁ → p.tables.exec = Jvm.exec → c.code = code → c.maxLocals = ml → s.vm.findClass y.cls = some m.cls → meth.name = y.name → meth.locks = false → Z.Warmed39 s.vm → Stand p l e R s m A below meth c s₁ [] 0 0 → s₁.heap = h0 → own_Go p.tables e below Q s R.cells R.slots s₁ (entryFrame m A ml)) : own_M l y code ml rt ws R Z A h0 Q := by
  refine MetFree.of_bodySF hpl hisR ?_
  intro p e s m args below meth c s₁ Bd hml hP hK
  obtain ⟨rfl, hZ, hh⟩ := hP
  exact k p e s m below meth c s₁ Bd Bd.exec Bd.bytes hml (findClass_of_methodNamed Bd.named) (name_of_methodNamed Bd.named Bd.method).1 Bd.notSynchronized hZ (Stand.of_body Bd) (by rw [← hh, Bd.state]; rfl)
theorem own_ret {Q : Option Value → Heap → List Loc → Prop} {C S : Nat} {g : JFrame} (X : Stand p l e R s m args below meth c T locs cells slots) (hlk : meth.locks = false) {v : Option Value} (hv : meth.sig.returnType = none → v = none)
    (st : ∀ fs, (∀ (f : JFrame) (acts : List Action), f.method = m → f.locked = none → f.entered = [] → (doReturn e (T.setTop f) acts v).1 = T.setFrames fs) → Steps p.tables e below (T.setTop g) (T.setFrames fs))
    (hq : Q v T.heap locs) (hc : cells ≤ C) (hs : slots ≤ S) : own_Go p.tables e below Q s C S T g := by
  obtain ⟨fs, hr, hrun, hended, hW, hsame⟩ := X.leave (v := v) hv hlk
  exact ⟨_, _, st fs hr, hrun, hended, v, locs, rfl, hq, ⟨v, rfl⟩, hW, hsame.mono hc hs⟩
end New
section Wide
variable {p : Program} {l : Launch} {e : Env} {R : Room} {s : State} {m : MethodId} {args : Array Value} {below : List Frame} {meth : Method} {c : Code} {T Z : State} {locs : List Loc} {cells slots : Nat} {a0 : Array Value} {h : Heap} {EL : List (String × Nat)} {vm0 : Vm}
/-- as own_Go, of a run that may intern -/
def own_GoW (tb : Tables) (e : Env) (below : List Frame) (Z : State) (EL : List (String × Nat)) (Q : Option Value → Heap → List Loc → Prop) (s : State) (C S : Nat) (T : State) (g : JFrame) : Prop :=
  ∃ t o, Steps tb e below (T.setTop g) t ∧ t.status = .running ∧ Ended t below o ∧ ∃ v L, o = .returned v ∧ Q v t.heap L ∧ CHr Z EL s.vm s.heap t.vm t.heap ∧ ReturnedEndW s o t L C S
theorem own_byW {tb : Tables} {Q : Option Value → Heap → List Loc → Prop} {C S : Nat} {T T' : State} {g g' : JFrame} (st : ∀ target, Steps tb e below (T'.setTop g') target → Steps tb e below (T.setTop g) target) (k : own_GoW tb e below Z EL Q s C S T' g') : own_GoW tb e below Z EL Q s C S T g := by
  obtain ⟨t, o, h1, h2⟩ := k
  exact ⟨t, o, st t h1, h2⟩
theorem bW {tb : Tables} {Q : Option Value → Heap → List Loc → Prop} {C S : Nat} {T : State} {g : JFrame} (T' : State) (g' : JFrame) (st : ∀ target, Steps tb e below (T'.setTop g') target → Steps tb e below (T.setTop g) target) (k : own_GoW tb e below Z EL Q s C S T' g') : own_GoW tb e below Z EL Q s C S T g := own_byW st k
theorem own_retW {Q : Option Value → Heap → List Loc → Prop} {C S : Nat} {g : JFrame} {vm1 : Vm} {n : Nat} (X : Stand p l e R (s.setVm vm1) m args below meth c T locs cells slots) (hlk : meth.locks = false) (hS : s.Since vm1 n) (hn : n ≤ T.heap.size) (hZ : Z.Warmed39 vm1) (hEL : EW Z a0 EL) (hC : CHr Z EL s.vm s.heap vm1 h) (eT : T.heap = h) {v : Option Value} (hv : meth.sig.returnType = none → v = none)
    (st : ∀ fs, (∀ (f : JFrame) (acts : List Action), f.method = m → f.locked = none → f.entered = [] → (doReturn e (T.setTop f) acts v).1 = T.setFrames fs) → Steps p.tables e below (T.setTop g) (T.setFrames fs))
    (hq : Q v T.heap locs) (hc : cells ≤ C) (hs : slots ≤ S) : own_GoW p.tables e below Z EL Q s C S T g := by
  obtain ⟨fs, hr, hrun, hended, q1, q2, q3, q4⟩ := X.leaveW hS hn (v := v) hv hlk
  subst eT
  have q5 : CHr Z EL s.vm s.heap T.vm T.heap := hC.trans (CHv.at X hZ hEL hC.1)
  exact ⟨_, _, st fs hr, hrun, hended, v, locs, rfl, hq, q5, q1, q2, q3, q4.mono hc hs⟩
theorem own_backSH {y : MethodName} {bytes : ByteArray} {maxL : Nat} {ret : Option FieldType} {rm : Room} {len W : Nat} {as' : Array Value} {VP : Vm → Prop} {Q : Option Value → Heap → List Loc → Prop}
    (hM : MetFree l y (head1 [Cond.code y bytes maxL ret] rm) (fun a U => a = as' ∧ Z.Warmed39 U.vm ∧ U.heap = h ∧ CHv Z EL U.vm h ∧ VP U.vm) (fun _ _ _ _ _ => True) (fun _ U o U' => ∃ v L, o = .returned v ∧ Q v U'.heap L ∧ CHr Z EL U.vm U.heap U'.vm U'.heap ∧ ReturnedEndW U o U' L rm.cells rm.slots))
    (hZ : Z.Warmed39 vm0) (wc : (Cond.code y bytes maxL ret).before a0 Z = true) (wz : (Cond.initialized y.cls).before a0 Z = true) (hf : rm.frames + 1 ≤ R.frames) (hl : W + (maxL + 11) + rm.locals ≤ R.locals) (hEL : EW Z a0 EL) (H : CHv Z EL vm0 h) (hVP : ∀ vm, CHr Z EL vm0 h vm h → VP vm) :
    BackS l R p e below (s.setVm vm0) args y len W (fun A a => a = as' ∧ A.U.heap = h ∧ A.cells + rm.cells ≤ R.cells ∧ A.slots + rm.slots ≤ R.slots)
      (fun A _ v B => ∃ L, Q v B.U.heap L ∧ B.locs = A.locs ++ L ∧ B.cells = A.cells + rm.cells ∧ B.slots = A.slots + rm.slots ∧ CHr Z EL vm0 h B.U.vm B.U.heap) :=
  BackS.of_freeW (bytes := bytes) (maxL := maxL) (ret := ret) (E := fun _ first o t L k n => k = rm.cells ∧ n = rm.slots ∧ (∃ v, o = .returned v ∧ Q v t.heap L) ∧ CHr Z EL first.vm first.heap t.vm t.heap) hM hf hl
    (fun m meth c A a Y hp => have hU : Z.Warmed39 A.U.vm := wtrans (s := s.setVm vm0) hZ Y.warmed
      ⟨by show (Cond.and _ .tt).before a A.U = true; rw [Cond.before_and, mv hU wc]; rfl, mv hU wc, mv hU wz, hp.2.2.1, hp.2.2.2⟩)
    (fun m meth c A a g mk Y hp => have q : CHr Z EL vm0 h A.U.vm h := CHv.at Y hZ hEL H
      ⟨hp.1, wtrans (s := s.setVm vm0) hZ Y.warmed, hp.2.1, q.1, hVP A.U.vm q⟩) (fun _ _ _ _ _ _ _ _ _ => trivial)
    (fun _ _ _ _ ⟨v, L, h1, h2, h3, h4⟩ => ⟨L, _, _, h4, rfl, rfl, ⟨v, h1, h2⟩, h3⟩)
    (fun m meth c A a g mk v t L k n Y hp _ _ ⟨e1, e2, ⟨v', e3, e4⟩, e5⟩ => by
      cases e3; subst e1 e2
      refine ⟨L, e4, rfl, rfl, rfl, (CHv.at Y hZ hEL H).trans ?_⟩
      rw [← hp.2.1]; exact e5)
end Wide
end Jvm.RoadKit
namespace Jvm.Pilot.@@N@@
open Jvm Jvm.ClassFile Sem Op Lib Jvm.Free Jvm.Stand Jvm.LawKit Jvm.RoadKit Bundle Jvm.Pilot.@@N@@.Jvm.D
abbrev vi (x : Int32) : Slot := .val (.int x)
abbrev vr (x : Addr) : Slot := .val (.ref x)
abbrev uu : Slot := .unset
abbrev ii (x : Int32) : Value := .int x
abbrev HW (Z : State) (a0 : Array Value) : Prop := ∀ d ∈ tables_1, d.before a0 Z = true
theorem nvr {a : Option FieldType} {t : FieldType} {v : Option Value} (h : a = some t) : a = none → v = none := fun q => by rw [h] at q; cases q
theorem mo {α : Type} {L : List α} {a : α} (i : Nat) (h : L[i]? = some a) : a ∈ L := List.mem_of_getElem? (i := i) h
abbrev yy0 : MethodName := (⟨"com/example/nisaba/nisaba/isatab/ValuesFirstGivenPinLaw", "isEmptyCell", "(II)Z"⟩ : MethodName)
abbrev yy1 : MethodName := (⟨"java/lang/StringLatin1", "canEncode", "(C)Z"⟩ : MethodName)
abbrev yy2 : MethodName := (⟨"java/lang/StringLatin1", "toBytes", "(C)[B"⟩ : MethodName)
abbrev yy3 : MethodName := (⟨"java/lang/String", "<init>", "([BB)V"⟩ : MethodName)
abbrev yy4 : MethodName := (⟨"java/lang/String", "valueOf", "(C)Ljava/lang/String;"⟩ : MethodName)
abbrev yy5 : MethodName := (⟨"java/lang/String", "isEmpty", "()Z"⟩ : MethodName)
abbrev yy6 : MethodName := (⟨"java/util/AbstractCollection", "<init>", "()V"⟩ : MethodName)
abbrev yy7 : MethodName := (⟨"java/util/AbstractList", "<init>", "()V"⟩ : MethodName)
abbrev yy8 : MethodName := (⟨"java/util/ArrayList", "<init>", "()V"⟩ : MethodName)
abbrev yy9 : MethodName := (⟨"java/lang/Math", "max", "(II)I"⟩ : MethodName)
abbrev yy10 : MethodName := (⟨"java/util/ArrayList", "grow", "(I)[Ljava/lang/Object;"⟩ : MethodName)
abbrev yy11 : MethodName := (⟨"java/util/ArrayList", "grow", "()[Ljava/lang/Object;"⟩ : MethodName)
abbrev yy12 : MethodName := (⟨"java/util/ArrayList", "add", "(Ljava/lang/Object;[Ljava/lang/Object;I)V"⟩ : MethodName)
abbrev yy13 : MethodName := (⟨"java/util/ArrayList", "add", "(Ljava/lang/Object;)Z"⟩ : MethodName)
abbrev yy14 : MethodName := (⟨"com/example/nisaba/nisaba/isatab/Header$AnnotationColumn", "<init>", "(Ljava/lang/String;Ljava/lang/String;I)V"⟩ : MethodName)
abbrev yy15 : MethodName := (⟨"com/example/nisaba/nisaba/isatab/Header$AnnotationColumn", "value", "()I"⟩ : MethodName)
abbrev yy16 : MethodName := (⟨"com/example/nisaba/nisaba/isatab/Header$AnnotationColumn", "unit", "()I"⟩ : MethodName)
abbrev yy17 : MethodName := (⟨"java/util/ArrayList", "size", "()I"⟩ : MethodName)
abbrev yy18 : MethodName := (⟨"java/util/ArrayList$Itr", "<init>", "(Ljava/util/ArrayList;)V"⟩ : MethodName)
abbrev yy19 : MethodName := (⟨"java/util/ArrayList", "iterator", "()Ljava/util/Iterator;"⟩ : MethodName)
abbrev yy20 : MethodName := (⟨"java/util/ArrayList$Itr", "hasNext", "()Z"⟩ : MethodName)
abbrev yy21 : MethodName := (⟨"java/util/ArrayList$Itr", "checkForComodification", "()V"⟩ : MethodName)
abbrev yy22 : MethodName := (⟨"java/util/ArrayList$Itr", "next", "()Ljava/lang/Object;"⟩ : MethodName)
abbrev yy23 : MethodName := (⟨"jdk/internal/util/Preconditions", "checkIndex", "(IILjava/util/function/BiFunction;)I"⟩ : MethodName)
abbrev yy24 : MethodName := (⟨"java/util/Objects", "checkIndex", "(II)I"⟩ : MethodName)
abbrev yy25 : MethodName := (⟨"java/util/ArrayList", "elementData", "(I)Ljava/lang/Object;"⟩ : MethodName)
abbrev yy26 : MethodName := (⟨"java/util/ArrayList", "get", "(I)Ljava/lang/Object;"⟩ : MethodName)
abbrev yy27 : MethodName := (⟨"com/example/nisaba/nisaba/isatab/Values", "<init>", "(Ljava/util/List;Ljava/util/List;)V"⟩ : MethodName)
abbrev yy28 : MethodName := (⟨"java/util/List", "iterator", "()Ljava/util/Iterator;"⟩ : MethodName)
abbrev yy29 : MethodName := (⟨"java/util/Iterator", "hasNext", "()Z"⟩ : MethodName)
abbrev yy30 : MethodName := (⟨"java/util/List", "get", "(I)Ljava/lang/Object;"⟩ : MethodName)
abbrev yy31 : MethodName := (⟨"java/util/List", "add", "(Ljava/lang/Object;)Z"⟩ : MethodName)
abbrev yy32 : MethodName := (⟨"java/util/Iterator", "next", "()Ljava/lang/Object;"⟩ : MethodName)
abbrev yy33 : MethodName := (⟨"com/example/nisaba/nisaba/isatab/Values", "firstGiven", "()I"⟩ : MethodName)
abbrev yy34 : MethodName := (⟨"java/util/List", "size", "()I"⟩ : MethodName)
abbrev rr0 : Room := ({ frames := 0, cells := 0, slots := 0, locals := 0 } : Room)
abbrev rr1 : Room := ({ frames := 0, cells := 1, slots := 1, locals := 0 } : Room)
abbrev rr2 : Room := ({ frames := 1, cells := 0, slots := 0, locals := 12 } : Room)
abbrev rr3 : Room := ({ frames := 2, cells := 2, slots := 5, locals := 27 } : Room)
abbrev rr4 : Room := ({ frames := 2, cells := 0, slots := 0, locals := 24 } : Room)
abbrev rr5 : Room := ({ frames := 3, cells := 0, slots := 0, locals := 36 } : Room)
abbrev rr6 : Room := ({ frames := 1, cells := 1, slots := 10, locals := 14 } : Room)
abbrev rr7 : Room := ({ frames := 2, cells := 1, slots := 10, locals := 29 } : Room)
abbrev rr8 : Room := ({ frames := 3, cells := 1, slots := 10, locals := 41 } : Room)
abbrev rr9 : Room := ({ frames := 4, cells := 1, slots := 10, locals := 56 } : Room)
abbrev rr10 : Room := ({ frames := 1, cells := 0, slots := 0, locals := 15 } : Room)
abbrev rr11 : Room := ({ frames := 2, cells := 1, slots := 4, locals := 26 } : Room)
abbrev rr12 : Room := ({ frames := 1, cells := 0, slots := 0, locals := 14 } : Room)
abbrev rr13 : Room := ({ frames := 2, cells := 0, slots := 0, locals := 27 } : Room)
abbrev rr14 : Room := ({ frames := 4, cells := 3, slots := 10, locals := 50 } : Room)
abbrev rr15 : Room := ({ frames := 5, cells := 7, slots := 34, locals := 69 } : Room)
abbrev rr16 : Room := ({ frames := 5, cells := 9, slots := 38, locals := 69 } : Room)
abbrev rr17 : Room := ({ frames := 5, cells := 11, slots := 42, locals := 69 } : Room)
abbrev rr18 : Room := ({ frames := 1, cells := 0, slots := 0, locals := 13 } : Room)
abbrev rr19 : Room := ({ frames := 3, cells := 0, slots := 0, locals := 40 } : Room)
abbrev sA : String := "com/example/nisaba/nisaba/isatab/Header$AnnotationColumn"
abbrev sV : String := "com/example/nisaba/nisaba/isatab/Values"
abbrev sI : String := "java/util/ArrayList$Itr"
abbrev sL : String := "java/util/ArrayList"
abbrev sB : String := "java/util/AbstractList"
abbrev sS : String := "java/lang/String"
abbrev sO : String := "java/lang/Object"
abbrev sE : String := "[Ljava/lang/Object;"
set_option maxRecDepth 65536
set_option maxHeartbeats 40000000
theorem pd_0 : parseMethodDescriptor "(C)Z" = some ⟨[.char], some .boolean⟩ := by decide +kernel
theorem pd_1 : parseMethodDescriptor "(C)[B" = some ⟨[.char], some (.array .byte)⟩ := by decide +kernel
theorem pd_2 : parseMethodDescriptor "([BB)V" = some ⟨[(.array .byte), .byte], none⟩ := by decide +kernel
theorem pd_3 : parseMethodDescriptor "()V" = some ⟨[], none⟩ := by decide +kernel
theorem pd_4 : parseMethodDescriptor "(II)I" = some ⟨[.int, .int], some .int⟩ := by decide +kernel
theorem pd_5 : parseMethodDescriptor "(I)[Ljava/lang/Object;" = some ⟨[.int], some (.array (.object sO))⟩ := by decide +kernel
theorem pd_6 : parseMethodDescriptor "()[Ljava/lang/Object;" = some ⟨[], some (.array (.object sO))⟩ := by decide +kernel
theorem pd_7 : parseMethodDescriptor "(Ljava/lang/Object;[Ljava/lang/Object;I)V" = some ⟨[(.object sO), (.array (.object sO)), .int], none⟩ := by decide +kernel
theorem pd_8 : parseMethodDescriptor "(Ljava/util/ArrayList;)V" = some ⟨[(.object sL)], none⟩ := by decide +kernel
theorem pd_9 : parseMethodDescriptor "(IILjava/util/function/BiFunction;)I" = some ⟨[.int, .int, (.object "java/util/function/BiFunction")], some .int⟩ := by decide +kernel
theorem pd_10 : parseMethodDescriptor "(I)Ljava/lang/Object;" = some ⟨[.int], some (.object sO)⟩ := by decide +kernel
theorem pd_11 : parseMethodDescriptor "()Ljava/util/Iterator;" = some ⟨[], some (.object "java/util/Iterator")⟩ := by decide +kernel
theorem pd_12 : parseMethodDescriptor "()Z" = some ⟨[], some .boolean⟩ := by decide +kernel
theorem pd_13 : parseMethodDescriptor "()Ljava/lang/Object;" = some ⟨[], some (.object sO)⟩ := by decide +kernel
theorem pd_14 : parseMethodDescriptor "()I" = some ⟨[], some .int⟩ := by decide +kernel
theorem pd_15 : parseMethodDescriptor "(Ljava/lang/Object;)Z" = some ⟨[(.object sO)], some .boolean⟩ := by decide +kernel
theorem pd_16 : parseMethodDescriptor "(II)Z" = some ⟨[.int, .int], some .boolean⟩ := by decide +kernel
theorem pd_17 : parseMethodDescriptor "(C)Ljava/lang/String;" = some ⟨[.char], some (.object sS)⟩ := by decide +kernel
theorem pd_18 : parseMethodDescriptor "(Ljava/lang/String;Ljava/lang/String;I)V" = some ⟨[(.object sS), (.object sS), .int], none⟩ := by decide +kernel
theorem pd_19 : parseMethodDescriptor "(Ljava/util/List;Ljava/util/List;)V" = some ⟨[(.object "java/util/List"), (.object "java/util/List")], none⟩ := by decide +kernel
theorem own_fld {args : Array Value} {s : State} {t : Term} {C n d : String} {a : Addr} {k : Int32} (ht : t.eval args s none [] s = some (.ref a)) (h : (Jvm.Cond.eq (.field t C n d) (.int k)).value args s none s [] = some true) : Fld s s.heap a C n d (.int k) := by
  refine Fld.start ?_
  rw [← fld_at (args := args) (first := s) (o := none) (idx := []) (s := s) (C := C) (n := n) (dd := d) ht]
  obtain ⟨x, y, e1, e2, -, -⟩ := cmp_v (Or.inl h)
  rw [Term.int_eval k] at e2
  obtain rfl : Value.int k = y := Option.some.inj e2
  cases x <;> simp [Jvm.Cond.value, e1, Term.int_eval] at h
  rw [e1, h]
theorem own_eqi {args : Array Value} {s : State} {a : Term} {k : Int32} (h : (Jvm.Cond.eq a (.int k)).value args s none s [] = some true) : a.eval args s none [] s = some (.int k) := by
  obtain ⟨x, y, e1, e2, -, -⟩ := cmp_v (Or.inl h)
  rw [Term.int_eval k] at e2
  obtain rfl : Value.int k = y := Option.some.inj e2
  cases x <;> simp [Jvm.Cond.value, e1, Term.int_eval] at h
  rw [e1, h]
theorem own_len {args : Array Value} {s : State} {t : Term} {a : Addr} {cl : Cell} {n : Int32} (ht : t.eval args s none [] s = some (.ref a)) (ha : s.arrayAt? a = some cl) (h : (Jvm.Cond.eq (.length t) (.int n)).value args s none s [] = some true) : cl.slots.size < 2 ^ 31 ∧ cl.slots.size.toInt32 = n := by
  have e := own_eqi h
  simp [Term.eval, ht, ha] at e
  exact e
theorem own_ne0 {args : Array Value} {s : State} {a : Term} {x k : Int32} (e : a.eval args s none [] s = some (.int x)) (h : (Jvm.Cond.not (.eq a (.int k))).before args s = true) : ¬ x = k := by
  have h1 := not_v (Cond.before_iff.mp h)
  intro q
  subst q
  simp [Jvm.Cond.value, e, Term.int_eval] at h1
theorem own_eqr {args : Array Value} {s : State} {a b : Term} {x : Addr} (eb : b.eval args s none [] s = some (.ref x)) (h : (Jvm.Cond.eq a b).value args s none s [] = some true) : a.eval args s none [] s = some (.ref x) := by
  obtain ⟨u, y, e1, e2, -, -⟩ := cmp_v (Or.inl h)
  rw [eb] at e2
  obtain rfl : Value.ref x = y := Option.some.inj e2
  cases u <;> simp [Jvm.Cond.value, e1, eb] at h
  rw [e1, h]
theorem own_EL {Z : State} {a0 : Array Value} (hw : HW Z a0) : EW Z a0 consts_1 := (EW.cons (hw _ (mo 226 rfl)) (by decide) (EW.cons (hw _ (mo 232 rfl)) (by decide) (EW.cons (hw _ (mo 88 rfl)) (by decide) (EW.cons (hw _ (mo 91 rfl)) (by decide) (EW.cons (hw _ (mo 104 rfl)) (by decide) (EW.cons (hw _ (mo 105 rfl)) (by decide) (EW.cons (hw _ (mo 106 rfl)) (by decide) EW.nil)))))))
set_option maxRecDepth 65536 in
theorem own_SA : ∀ d ∈ Bundle.stringAtoms, d ∈ tables_1 := by decide +kernel
def own_e (b j : Int32) : Int32 := if (((b.toUInt32 >>> (j &&& 31).toUInt32).toInt32) &&& (1 : Int32)) = (0 : Int32) then (0 : Int32) else (1 : Int32)
def own_z (b j : Int32) : Int32 := if own_e b j = (0 : Int32) then (1 : Int32) else (0 : Int32)
def own_p3 {α : Type} (i : Int32) (x y w : α) : α := if i = 0 then x else if i = 1 then y else w
theorem own_p30 {α : Type} (x y w : α) : own_p3 0 x y w = x := if_pos rfl
theorem own_p31 {α : Type} (x y w : α) : own_p3 1 x y w = y := (if_neg (by decide)).trans (if_pos rfl)
theorem own_p32 {α : Type} (x y w : α) : own_p3 2 x y w = w := (if_neg (by decide)).trans (if_neg (by decide))
theorem own_pE {Z : State} {h : Heap} {C : String} (i : Int32) {x y w : Addr} (E1 : Exa Z h x C) (E2 : Exa Z h y C) (E3 : Exa Z h w C) : Exa Z h (own_p3 i x y w) C := by
  unfold own_p3
  split
  · exact E1
  · split
    · exact E2
    · exact E3
theorem own_pF {Z : State} {h : Heap} {C n d : String} (i : Int32) {x y w t1 t2 t3 : Addr} (E1 : Fld Z h x C n d (.ref t1)) (E2 : Fld Z h y C n d (.ref t2)) (E3 : Fld Z h w C n d (.ref t3)) : Fld Z h (own_p3 i x y w) C n d (.ref (own_p3 i t1 t2 t3)) := by
  unfold own_p3
  split
  · exact E1
  · split
    · exact E2
    · exact E3
theorem own_pV {Z : State} {h : Heap} {ty : FieldType} {dv : Value} (i : Int32) {x y w : Addr} {k1 k2 k3 : ClassId} {z1 z2 z3 : Int32} {v1 v2 v3 : List Value} (E1 : Arv Z h x k1 ty z1 v1 dv) (E2 : Arv Z h y k2 ty z2 v2 dv) (E3 : Arv Z h w k3 ty z3 v3 dv) : Arv Z h (own_p3 i x y w) (own_p3 i k1 k2 k3) ty (own_p3 i z1 z2 z3) (own_p3 i v1 v2 v3) dv := by
  unfold own_p3
  split
  · exact E1
  · split
    · exact E2
    · exact E3
theorem own_and3 (x : Int32) : x &&& 3 = 0 ∨ x &&& 3 = 1 ∨ x &&& 3 = 2 ∨ x &&& 3 = 3 := by
  have h := c_mask x 3 2 (by decide) (by decide)
  have h1 := Int.emod_nonneg x.toInt (b := ((2 ^ 2 : Nat) : Int)) (by decide)
  have h2 := Int.emod_lt_of_pos x.toInt (b := ((2 ^ 2 : Nat) : Int)) (by decide)
  rw [← h] at h1 h2
  have k0 : (0 : Int32).toInt = 0 := by decide
  have k1 : (1 : Int32).toInt = 1 := by decide
  have k2 : (2 : Int32).toInt = 2 := by decide
  have k3 : (3 : Int32).toInt = 3 := by decide
  simp only [← Int32.toInt_inj, k0, k1, k2, k3]
  omega
theorem own_r3 (x : Int32) : (x &&& (3 : Int32)) % (3 : Int32) = 0 ∨ (x &&& (3 : Int32)) % (3 : Int32) = 1 ∨ (x &&& (3 : Int32)) % (3 : Int32) = 2 := by
  rcases own_and3 x with h | h | h | h <;> rw [h] <;> decide
theorem own_ge0 {i : Int32} (h : i = 0 ∨ i = 1 ∨ i = 2) : ¬ i < (0 : Int32) := by rcases h with rfl | rfl | rfl <;> decide
theorem own_lt3 {i : Int32} (h : i = 0 ∨ i = 1 ∨ i = 2) : i < (3 : Int32) := by rcases h with rfl | rfl | rfl <;> decide
theorem own_c255 (x : Int32) : ¬ (255 : Int32) < ((x &&& (255 : Int32)).toUInt32.toUInt16.toUInt32.toInt32) := by
  rw [i2c_mask, Int32.lt_iff_toInt_lt]
  have h := (c_and x 255 (by decide)).2
  have k : (255 : Int32).toInt = 255 := by decide
  omega
def own_fg1 (z0 : Int32) : Int32 := (if z0 = (0 : Int32) then (-1 : Int32) else (0 : Int32))
def own_fg2 (z0 z1 : Int32) : Int32 := (if z0 = (0 : Int32) then (if z1 = (0 : Int32) then (-1 : Int32) else (1 : Int32)) else (0 : Int32))
def own_fg3 (z0 z1 z2 : Int32) : Int32 := (if z0 = (0 : Int32) then (if z1 = (0 : Int32) then (if z2 = (0 : Int32) then (-1 : Int32) else (2 : Int32)) else (1 : Int32)) else (0 : Int32))
theorem own_zp {b i : Int32} (h : i = 0 ∨ i = 1 ∨ i = 2) : own_p3 i (own_z b 0) (own_z b 1) (own_z b 2) = own_z b i := by
  rcases h with rfl | rfl | rfl
  · exact own_p30 _ _ _
  · exact own_p31 _ _ _
  · exact own_p32 _ _ _
theorem own_zz {b i z0 z1 z2 r : Int32} (h : i = 0 ∨ i = 1 ∨ i = 2) (h0 : z0 = own_z b 0) (h1 : z1 = own_z b 1) (h2 : z2 = own_z b 2) (hr : own_z b i = r) : own_p3 i z0 z1 z2 = r := by
  subst h0 h1 h2
  exact (own_zp h).trans hr
theorem d1_0 : decode method_2_code 0 = .ok (.iload_n 0, 1) := by decide +kernel
theorem d1_1 : decode method_2_code 1 = .ok (.iload_n 1, 1) := by decide +kernel
theorem d1_2 : decode method_2_code 2 = .ok (.iushr, 1) := by decide +kernel
theorem d1_3 : decode method_2_code 3 = .ok (.iconst 1, 1) := by decide +kernel
theorem d1_4 : decode method_2_code 4 = .ok (.iand, 1) := by decide +kernel
theorem d1_5 : decode method_2_code 5 = .ok (.ifCond .eq 7, 3) := by decide +kernel
theorem d1_8 : decode method_2_code 8 = .ok (.iconst 1, 1) := by decide +kernel
theorem d1_9 : decode method_2_code 9 = .ok (.goto 4, 3) := by decide +kernel
theorem d1_12 : decode method_2_code 12 = .ok (.iconst 0, 1) := by decide +kernel
theorem d1_13 : decode method_2_code 13 = .ok (.ireturn, 1) := by decide +kernel
theorem pn_1 : plainName "com/example/nisaba/nisaba/isatab/ValuesFirstGivenPinLaw" = true := by first | (simp [plainName, overriddenIn]; done) | decide +kernel
theorem ef_emc (m : MethodId) (b1 j1 : Int32) : entryFrame m #[(.int b1), (.int j1)] 2 = mkF m 0 #[vi b1, vi j1] [] := rfl
def Q_emc (Z : State) (b1 j1 : Int32) (h0 : Heap) (n0 : Nat) (v : Option Value) (h : Heap) (L : List Loc) : Prop := v = some (.int (own_e b1 j1)) ∧ Fr n0 L ∧ h = h0
theorem emc (l : Launch) (Z : State) (a0 : Array Value) (hw : HW Z a0) (ws : List Jvm.Cond) (b1 j1 : Int32) (h0 : Heap) (n0 : Nat) (Z0 : n0 ≤ h0.size) :
    own_M l yy0 method_2_code 2 (some .boolean) ws rr0 Z #[(.int b1), (.int j1)] h0 (Q_emc Z b1 j1 h0 n0) := by
  refine own_bd (plainFor_of_name pn_1) fun p e s m below meth c s₁ Bd hx hby hml hown hnm hlk hZ X0 e0 => ?_
  rw [ef_emc m b1 j1]
  refine bN s₁ (mkF m 1 #[vi b1, vi j1] [(.int b1)]) (fun _ k => XS.iloadN X0.here hx rfl (hb hby d1_0) rfl k) ?_
  refine bN s₁ (mkF m 2 #[vi b1, vi j1] [(.int j1), (.int b1)]) (fun _ k => XS.iloadN X0.here hx rfl (hb hby d1_1) rfl k) ?_
  refine bN s₁ (mkF m 3 #[vi b1, vi j1] [(.int ((b1.toUInt32 >>> (j1 &&& 31).toUInt32).toInt32))]) (fun _ k => XS.iushr X0.here hx rfl (hb hby d1_2) rfl k) ?_
  refine bN s₁ (mkF m 4 #[vi b1, vi j1] [(.int (1 : Int32)), (.int ((b1.toUInt32 >>> (j1 &&& 31).toUInt32).toInt32))]) (fun _ k => XS.iconst X0.here hx rfl (hb hby d1_3) k) ?_
  refine bN s₁ (mkF m 5 #[vi b1, vi j1] [(.int (((b1.toUInt32 >>> (j1 &&& 31).toUInt32).toInt32) &&& (1 : Int32)))]) (fun _ k => XS.iand X0.here hx rfl (hb hby d1_4) rfl k) ?_
  by_cases hc5_21 : (((b1.toUInt32 >>> (j1 &&& 31).toUInt32).toInt32) &&& (1 : Int32)) = (0 : Int32)
  · skip
    refine bN s₁ (mkF m 12 #[vi b1, vi j1] []) (fun _ k => XS.ifYes X0.here hx rfl (pc0 := 5) (pc' := 12) rfl (hb hby d1_5) rfl ((if0 _ _).trans (teq hc5_21).1) (by decide) (by decide) k) ?_
    refine bN s₁ (mkF m 13 #[vi b1, vi j1] [(ii 0)]) (fun _ k => XS.iconst X0.here hx rfl (hb hby d1_12) k) ?_
    refine own_ret X0 hlk (v := some (ii 0)) (nvr Bd.returns) (fun fs hr => retN X0 hx (t := .boolean) Bd.returns (by simp) (hb hby d1_13) hr) ?_ (by decide) (by decide)
    rw [e0]
    exact ⟨congrArg (fun z => some (Value.int z)) (if_pos hc5_21).symm, (Fr.nil n0), rfl⟩
  · skip
    refine bN s₁ (mkF m 8 #[vi b1, vi j1] []) (fun _ k => XS.ifNo X0.here hx rfl (hb hby d1_5) rfl ((if0 _ _).trans (feq hc5_21).1) k) ?_
    refine bN s₁ (mkF m 9 #[vi b1, vi j1] [(.int (1 : Int32))]) (fun _ k => XS.iconst X0.here hx rfl (hb hby d1_8) k) ?_
    refine bN s₁ (mkF m 13 #[vi b1, vi j1] [(.int (1 : Int32))]) (fun _ k => XS.goto X0.here hx rfl (pc0 := 9) (pc' := 13) rfl (hb hby d1_9) (by decide) (by decide) k) ?_
    refine own_ret X0 hlk (v := some (.int (1 : Int32))) (nvr Bd.returns) (fun fs hr => retN X0 hx (t := .boolean) Bd.returns (by simp) (hb hby d1_13) hr) ?_ (by decide) (by decide)
    rw [e0]
    exact ⟨congrArg (fun z => some (Value.int z)) (if_neg hc5_21).symm, (Fr.nil n0), rfl⟩
theorem d3_0 : decode jdk_43_method_3_code 0 = .ok (.iload_n 0, 1) := by decide +kernel
theorem d3_1 : decode jdk_43_method_3_code 1 = .ok (.sipush 255, 3) := by decide +kernel
theorem d3_4 : decode jdk_43_method_3_code 4 = .ok (.if_icmp .gt 7, 3) := by decide +kernel
theorem d3_7 : decode jdk_43_method_3_code 7 = .ok (.iconst 1, 1) := by decide +kernel
theorem d3_8 : decode jdk_43_method_3_code 8 = .ok (.goto 4, 3) := by decide +kernel
theorem d3_12 : decode jdk_43_method_3_code 12 = .ok (.ireturn, 1) := by decide +kernel
theorem pn_3 : plainName "java/lang/StringLatin1" = true := by first | (simp [plainName, overriddenIn]; done) | decide +kernel
theorem ef_cen (m : MethodId) (c1 : Int32) : entryFrame m #[(.int c1)] 1 = mkF m 0 #[vi c1] [] := rfl
def Q_cen (Z : State) (c1 : Int32) (h0 : Heap) (n0 : Nat) (v : Option Value) (h : Heap) (L : List Loc) : Prop := v = some (.int (1 : Int32)) ∧ Fr n0 L ∧ h = h0
theorem cen (l : Launch) (Z : State) (a0 : Array Value) (hw : HW Z a0) (ws : List Jvm.Cond) (c1 : Int32) (h0 : Heap) (n0 : Nat) (Z0 : n0 ≤ h0.size) (hc : ¬ (255 : Int32) < c1) :
    own_M l yy1 jdk_43_method_3_code 1 (some .boolean) ws rr0 Z #[(.int c1)] h0 (Q_cen Z c1 h0 n0) := by
  refine own_bd (plainFor_of_name pn_3) fun p e s m below meth c s₁ Bd hx hby hml hown hnm hlk hZ X0 e0 => ?_
  rw [ef_cen m c1]
  refine bN s₁ (mkF m 1 #[vi c1] [(.int c1)]) (fun _ k => XS.iloadN X0.here hx rfl (hb hby d3_0) rfl k) ?_
  refine bN s₁ (mkF m 4 #[vi c1] [(.int (255 : Int32)), (.int c1)]) (fun _ k => XS.sipush X0.here hx rfl (hb hby d3_1) k) ?_
  refine bN s₁ (mkF m 7 #[vi c1] []) (fun _ k => XS.icmpNo X0.here hx rfl (hb hby d3_4) rfl (flt hc).2.2.1 k) ?_
  refine bN s₁ (mkF m 8 #[vi c1] [(.int (1 : Int32))]) (fun _ k => XS.iconst X0.here hx rfl (hb hby d3_7) k) ?_
  refine bN s₁ (mkF m 12 #[vi c1] [(.int (1 : Int32))]) (fun _ k => XS.goto X0.here hx rfl (pc0 := 8) (pc' := 12) rfl (hb hby d3_8) (by decide) (by decide) k) ?_
  refine own_ret X0 hlk (v := some (.int (1 : Int32))) (nvr Bd.returns) (fun fs hr => retN X0 hx (t := .boolean) Bd.returns (by simp) (hb hby d3_12) hr) ?_ (by decide) (by decide)
  rw [e0]
  exact ⟨rfl, (Fr.nil n0), rfl⟩
theorem d4_0 : decode jdk_43_method_46_code 0 = .ok (.iconst 1, 1) := by decide +kernel
theorem d4_1 : decode jdk_43_method_46_code 1 = .ok (.newarray .byte, 2) := by decide +kernel
theorem d4_3 : decode jdk_43_method_46_code 3 = .ok (.dup, 1) := by decide +kernel
theorem d4_4 : decode jdk_43_method_46_code 4 = .ok (.iconst 0, 1) := by decide +kernel
theorem d4_5 : decode jdk_43_method_46_code 5 = .ok (.iload_n 0, 1) := by decide +kernel
theorem d4_6 : decode jdk_43_method_46_code 6 = .ok (.i2b, 1) := by decide +kernel
theorem d4_7 : decode jdk_43_method_46_code 7 = .ok (.bastore, 1) := by decide +kernel
theorem d4_8 : decode jdk_43_method_46_code 8 = .ok (.areturn, 1) := by decide +kernel
theorem pn_4 : plainName "java/lang/StringLatin1" = true := by first | (simp [plainName, overriddenIn]; done) | decide +kernel
theorem ef_tby (m : MethodId) (c1 : Int32) : entryFrame m #[(.int c1)] 1 = mkF m 0 #[vi c1] [] := rfl
def Q_tby (Z : State) (c1 : Int32) (h0 : Heap) (n0 : Nat) (v : Option Value) (h : Heap) (L : List Loc) : Prop := ∃ (t : Addr) (kb : ClassId), v = some (.ref t) ∧ Fr n0 L ∧ Keep h0 h [] ∧ h0.size ≤ t ∧ Arv Z h t kb .byte (1 : Int32) [(.int (nar .byte (c1.toInt8.toInt32)))] (ii 0)
theorem tby (l : Launch) (Z : State) (a0 : Array Value) (hw : HW Z a0) (ws : List Jvm.Cond) (c1 : Int32) (h0 : Heap) (n0 : Nat) (Z0 : n0 ≤ h0.size) :
    own_M l yy2 jdk_43_method_46_code 1 (some (.array .byte)) ws rr1 Z #[(.int c1)] h0 (Q_tby Z c1 h0 n0) := by
  refine own_bd (plainFor_of_name pn_4) fun p e s m below meth c s₁ Bd hx hby hml hown hnm hlk hZ X0 e0 => ?_
  rw [ef_tby m c1]
  refine bN s₁ (mkF m 1 #[vi c1] [(.int (1 : Int32))]) (fun _ k => XS.iconst X0.here hx rfl (hb hby d4_0) k) ?_
  obtain ⟨T21, h21, k21, X21, e21, E21, A21, st21⟩ := newP X0 hx hZ (hw _ (mo 18 rfl)) e0 (g := (mkF m 1 #[vi c1] [(.int (1 : Int32))])) rfl (hb hby d4_1) rfl (by decide) (cap := 1) (by decide) (by decide) (by decide) (by decide)
  obtain ⟨b21, g21⟩ : ∃ z, z = h0.size := ⟨_, rfl⟩
  rw [← g21] at A21 st21
  have V_b21 : Arv Z h21 b21 k21 .byte (1 : Int32) [(ii 0)] (ii 0) := (Arv.new A21 (by decide)).pad (pad_rep [] (ii 0) 1)
  have g_b21 : n0 ≤ b21 := Nat.le_trans Z0 (Nat.le_of_eq g21.symm)
  have sz_b21 : h0.size ≤ b21 := Nat.le_trans (Keep.refl h0 []).1 (Nat.le_of_eq g21.symm)
  have K21 : Keep h0 h21 [] := Keep.ext (Keep.refl h0 []) E21
  refine bN T21 (mkF m 3 #[vi c1] [(.ref b21)]) (fun _ k => st21 _ k) ?_
  refine bN T21 (mkF m 4 #[vi c1] [(.ref b21), (.ref b21)]) (fun _ k => XS.dup X21.here hx rfl (hb hby d4_3) rfl rfl k) ?_
  refine bN T21 (mkF m 5 #[vi c1] [(ii 0), (.ref b21), (.ref b21)]) (fun _ k => XS.iconst X21.here hx rfl (hb hby d4_4) k) ?_
  refine bN T21 (mkF m 6 #[vi c1] [(.int c1), (ii 0), (.ref b21), (.ref b21)]) (fun _ k => XS.iloadN X21.here hx rfl (hb hby d4_5) rfl k) ?_
  refine bN T21 (mkF m 7 #[vi c1] [(.int (c1.toInt8.toInt32)), (ii 0), (.ref b21), (.ref b21)]) (fun _ k => XS.i2b X21.here hx rfl (hb hby d4_6) rfl k) ?_
  obtain ⟨cl22, Ar22, q22, S22, N_22, H22, G22⟩ := id V_b21
  have hin22 : ¬ ((0 : Int32) < 0 ∨ cl22.slots.size ≤ ((0 : Int32)).toNatClampNeg) := inb_of S22 ⟨by decide, by decide⟩
  obtain ⟨T23, h23, X23, e23, W23, st23⟩ := stB X21 hx hZ e21 Ar22 (j := (0 : Int32)) hin22 (g := (mkF m 7 #[vi c1] [(.int (c1.toInt8.toInt32)), (ii 0), (.ref b21), (.ref b21)])) rfl rfl (hb hby d4_7)
  have V23 : Arv Z h23 b21 k21 .byte (1 : Int32) [(.int (nar .byte (c1.toInt8.toInt32)))] (ii 0) := Arv.set Ar22 q22 S22 N_22 H22 G22 (fits_nar_byte _) W23 0 rfl (Nat.le_of_ble_eq_true rfl)
  have K23 : Keep h0 h23 [] := Keep.wr K21 W23 (Or.inr sz_b21)
  have N23 := Fr.snoc X23 (Fr.nil n0) g_b21
  refine bN T23 (mkF m 8 #[vi c1] [(.ref b21)]) (fun _ k => st23 _ k) ?_
  refine own_ret X23 hlk (v := some (.ref b21)) (nvr Bd.returns) (fun fs hr => retOut X23 hx Bd.returns rfl (Or.inr (Or.inr (Or.inr (Or.inr ⟨rfl, rfl, rfl⟩)))) (hb hby d4_8) hr) ?_ (by decide) (by decide)
  rw [e23]
  exact ⟨_, _, rfl, N23, K23, sz_b21, V23⟩
theorem d5_0 : decode jdk_42_method_151_code 0 = .ok (.aload_n 0, 1) := by decide +kernel
theorem d5_1 : decode jdk_42_method_151_code 1 = .ok (.invokespecial 1, 3) := by decide +kernel
theorem d5_4 : decode jdk_42_method_151_code 4 = .ok (.aload_n 0, 1) := by decide +kernel
theorem d5_5 : decode jdk_42_method_151_code 5 = .ok (.aload_n 1, 1) := by decide +kernel
theorem d5_6 : decode jdk_42_method_151_code 6 = .ok (.putfield 9, 3) := by decide +kernel
theorem d5_9 : decode jdk_42_method_151_code 9 = .ok (.aload_n 0, 1) := by decide +kernel
theorem d5_10 : decode jdk_42_method_151_code 10 = .ok (.iload_n 2, 1) := by decide +kernel
theorem d5_11 : decode jdk_42_method_151_code 11 = .ok (.putfield 15, 3) := by decide +kernel
theorem d5_14 : decode jdk_42_method_151_code 14 = .ok (.return_, 1) := by decide +kernel
theorem pn_5 : plainName sS = true := by first | (simp [plainName, overriddenIn]; done) | decide +kernel
theorem ef_sini (m : MethodId) (a t1 : Addr) : entryFrame m #[(.ref a), (.ref t1), (ii 0)] 3 = mkF m 0 #[vr a, vr t1, vi 0] [] := rfl
def Q_sini (Z : State) (a t1 : Addr) (h0 : Heap) (n0 : Nat) (v : Option Value) (h : Heap) (L : List Loc) : Prop := v = none ∧ Fr n0 L ∧ Keep h0 h [a] ∧ Fld Z h a sS "value" "[B" (.ref t1)
theorem sini (l : Launch) (Z : State) (a0 : Array Value) (hw : HW Z a0) (ws : List Jvm.Cond) (a t1 : Addr) (h0 : Heap) (n0 : Nat) (Z0 : n0 ≤ h0.size) (E_a : Exa Z h0 a sS) (F_value_a : Fld Z h0 a sS "value" "[B" .null) (F_coder_a : Fld Z h0 a sS "coder" "B" (ii 0)) (g_a : n0 ≤ a) :
    own_M l yy3 jdk_42_method_151_code 3 none ws rr2 Z #[(.ref a), (.ref t1), (ii 0)] h0 (Q_sini Z a t1 h0 n0) := by
  refine own_bd (plainFor_of_name pn_5) fun p e s m below meth c s₁ Bd hx hby hml hown hnm hlk hZ X0 e0 => ?_
  rw [ef_sini m a t1]
  refine bN s₁ (mkF m 1 #[vr a, vr t1, vi 0] [(.ref a)]) (fun _ k => XS.aloadN X0.here hx rfl (hb hby d5_0) rfl rfl k) ?_
  obtain ⟨T21, X21, e21, st21⟩ := initO X0 hx hZ hown (hw _ (mo 23 rfl)) (hw _ (mo 24 rfl)) (hw _ (mo 25 rfl)) e0 (g := (mkF m 1 #[vr a, vr t1, vi 0] [(.ref a)])) rfl (by rw [hml]; rfl) rfl (hb hby d5_1) (by decide) (W := 0) (Nat.le_of_eq rfl) (by decide)
  refine bN T21 (mkF m 4 #[vr a, vr t1, vi 0] []) (fun _ k => st21 _ k) ?_
  refine bN T21 (mkF m 5 #[vr a, vr t1, vi 0] [(.ref a)]) (fun _ k => XS.aloadN X21.here hx rfl (hb hby d5_4) rfl rfl k) ?_
  refine bN T21 (mkF m 6 #[vr a, vr t1, vi 0] [(.ref t1), (.ref a)]) (fun _ k => XS.aloadN X21.here hx rfl (hb hby d5_5) rfl rfl k) ?_
  obtain ⟨T22, h22, X22, e22, W22, st22⟩ := putF X21 hx hZ hown (host := "") (Or.inl (hw _ (mo 26 rfl))) Via.refl e21 F_value_a E_a (Or.inr ⟨(hw _ (mo 27 rfl)), rfl, hnm⟩) (hw _ (mo 14 rfl)) (ty := (.array .byte)) (by decide) rfl rfl (g := (mkF m 6 #[vr a, vr t1, vi 0] [(.ref t1), (.ref a)])) rfl rfl (hb hby d5_6)
  have Fw22 : Fld Z h22 a sS "value" "[B" (.ref t1) := Fld.same W22 F_value_a
  have K22 : Keep h0 h22 [a] := Keep.wr (Keep.refl h0 [a]) W22 (Or.inl (mo 0 rfl))
  have N22 := Fr.snoc X22 (Fr.nil n0) g_a
  refine bN T22 (mkF m 9 #[vr a, vr t1, vi 0] []) (fun _ k => st22 _ k) ?_
  refine bN T22 (mkF m 10 #[vr a, vr t1, vi 0] [(.ref a)]) (fun _ k => XS.aloadN X22.here hx rfl (hb hby d5_9) rfl rfl k) ?_
  refine bN T22 (mkF m 11 #[vr a, vr t1, vi 0] [(ii 0), (.ref a)]) (fun _ k => XS.iloadN X22.here hx rfl (hb hby d5_10) rfl k) ?_
  obtain ⟨T23, h23, X23, e23, W23, st23⟩ := putFN X22 hx hZ hown (hw _ (mo 28 rfl)) Via.refl e22 (Fld.other W22 F_coder_a (Or.inr (slot_ne (a0 := a0) (Or.inr (hw _ (mo 29 rfl))) (Or.inr (hw _ (mo 27 rfl))) (by decide) (t := .byte) (t' := (.array .byte)) (by decide) (by decide)))) (Exa.wr W22 E_a) (Or.inr ⟨(hw _ (mo 29 rfl)), rfl, hnm⟩) (hw _ (mo 14 rfl)) (ty := .byte) (v' := (ii 0)) (by decide) rfl (by decide) (g := (mkF m 11 #[vr a, vr t1, vi 0] [(ii 0), (.ref a)])) rfl rfl (hb hby d5_11)
  have Fw23 : Fld Z h23 a sS "coder" "B" (ii 0) := Fld.same W23 (Fld.other W22 F_coder_a (Or.inr (slot_ne (a0 := a0) (Or.inr (hw _ (mo 29 rfl))) (Or.inr (hw _ (mo 27 rfl))) (by decide) (t := .byte) (t' := (.array .byte)) (by decide) (by decide))))
  have K23 : Keep h0 h23 [a] := Keep.wr K22 W23 (Or.inl (mo 0 rfl))
  have N23 := Fr.snoc X23 N22 g_a
  refine bN T23 (mkF m 14 #[vr a, vr t1, vi 0] []) (fun _ k => st23 _ k) ?_
  refine own_ret X23 hlk (v := none) (fun _ => rfl) (fun fs hr => X23.returnOut hx Bd.returns (hb hby d5_14) hr) ?_ (by decide) (by decide)
  rw [e23]
  exact ⟨rfl, N23, K23, (Fld.other W23 Fw22 (Or.inr (slot_ne (a0 := a0) (Or.inr (hw _ (mo 27 rfl))) (Or.inr (hw _ (mo 29 rfl))) (by decide) (t := (.array .byte)) (t' := .byte) (by decide) (by decide))))⟩
theorem d2_0 : decode jdk_42_method_139_code 0 = .ok (.getstatic 38, 3) := by decide +kernel
theorem d2_3 : decode jdk_42_method_139_code 3 = .ok (.ifCond .eq 23, 3) := by decide +kernel
theorem d2_6 : decode jdk_42_method_139_code 6 = .ok (.iload_n 0, 1) := by decide +kernel
theorem d2_7 : decode jdk_42_method_139_code 7 = .ok (.invokestatic 1015, 3) := by decide +kernel
theorem d2_10 : decode jdk_42_method_139_code 10 = .ok (.ifCond .eq 16, 3) := by decide +kernel
theorem d2_13 : decode jdk_42_method_139_code 13 = .ok (.new 10, 3) := by decide +kernel
theorem d2_16 : decode jdk_42_method_139_code 16 = .ok (.dup, 1) := by decide +kernel
theorem d2_17 : decode jdk_42_method_139_code 17 = .ok (.iload_n 0, 1) := by decide +kernel
theorem d2_18 : decode jdk_42_method_139_code 18 = .ok (.invokestatic 1018, 3) := by decide +kernel
theorem d2_21 : decode jdk_42_method_139_code 21 = .ok (.iconst 0, 1) := by decide +kernel
theorem d2_22 : decode jdk_42_method_139_code 22 = .ok (.invokespecial 209, 3) := by decide +kernel
theorem d2_25 : decode jdk_42_method_139_code 25 = .ok (.areturn, 1) := by decide +kernel
theorem pn_2 : plainName sS = true := by first | (simp [plainName, overriddenIn]; done) | decide +kernel
theorem ef_vof (m : MethodId) (c1 : Int32) : entryFrame m #[(.int c1)] 1 = mkF m 0 #[vi c1] [] := rfl
def Q_vof (Z : State) (c1 cs : Int32) (h0 : Heap) (n0 : Nat) (v : Option Value) (h : Heap) (L : List Loc) : Prop := ∃ (x t : Addr) (kb : ClassId), v = some (.ref x) ∧ Fr n0 L ∧ Keep h0 h [] ∧ h0.size ≤ x ∧ Exa Z h x sS ∧ Fld Z h x sS "value" "[B" (.ref t) ∧ Arv Z h t kb .byte (1 : Int32) [(.int (nar .byte (c1.toInt8.toInt32)))] (ii 0)
theorem vof (l : Launch) (Z : State) (a0 : Array Value) (hw : HW Z a0) (ws : List Jvm.Cond) (c1 cs : Int32) (h0 : Heap) (n0 : Nat) (Z0 : n0 ≤ h0.size) (S_CS : Sta Z h0 sS "COMPACT_STRINGS" "Z" (.int cs)) (hcs : ¬ cs = (0 : Int32)) (hc : ¬ (255 : Int32) < c1) :
    own_M l yy4 jdk_42_method_139_code 1 (some (.object sS)) ws rr3 Z #[(.int c1)] h0 (Q_vof Z c1 cs h0 n0) := by
  refine own_bd (plainFor_of_name pn_2) fun p e s m below meth c s₁ Bd hx hby hml hown hnm hlk hZ X0 e0 => ?_
  rw [ef_vof m c1]
  obtain ⟨T21, X21, e21, st21⟩ := getS2 X0 hx hZ hown (host := "") (Or.inl (hw _ (mo 8 rfl))) Via.refl e0 S_CS (g := (mkF m 0 #[vi c1] [])) rfl (hb hby d2_0)
  refine bN T21 (mkF m 3 #[vi c1] [(.int cs)]) (fun _ k => st21 _ k) ?_
  refine bN T21 (mkF m 6 #[vi c1] []) (fun _ k => XS.ifNo X21.here hx rfl (hb hby d2_3) rfl ((if0 _ _).trans (feq hcs).1) k) ?_
  refine bN T21 (mkF m 7 #[vi c1] [(.int c1)]) (fun _ k => XS.iloadN X21.here hx rfl (hb hby d2_6) rfl k) ?_
  obtain ⟨_, _, ⟨T22, L22, k22, n22⟩, -, X22, ⟨Lc22, hQ22, l22, y22, z22⟩, st22⟩ := Jvm.LawKit.callS X21 hx (y := yy1) hown (mvT hZ (hw _ (mo 9 rfl))) (mvT hZ (hw _ (mo 10 rfl))) (mvT hZ (hw _ (mo 11 rfl))) (mvT hZ (hw _ (mo 12 rfl))) (by decide) (backOf (W := 0) (cen l Z a0 hw [] c1  h0 n0 Z0 hc) hZ (hw _ (mo 12 rfl)) (hw _ (mo 11 rfl)) (by decide) (by decide)) (g := (mkF m 7 #[vi c1] [(.int c1)])) rfl (by rw [hml]; rfl) (argsL := [(.int c1)]) (rest := []) (lenOf pd_0 rfl) rfl (Nat.le_of_eq rfl) (hb hby d2_7) (fun _ _ => ⟨rfl, e21, (by decide : 0 ≤ _), (by decide : 0 ≤ _)⟩)
  dsimp only [Pt.U, Pt.locs, Pt.cells, Pt.slots] at X22 l22 y22 z22 st22 hQ22
  subst l22 y22 z22
  obtain ⟨rfl, N22q, e22⟩ := hQ22
  have N22 := Fr.app (Fr.nil n0) N22q
  refine bN T22 (mkF m 10 #[vi c1] [(.int (1 : Int32))]) (fun _ k => st22 _ k) ?_
  refine bN T22 (mkF m 13 #[vi c1] []) (fun _ k => XS.ifNo X22.here hx rfl (hb hby d2_10) rfl ((if0 _ _).trans (feq (by decide)).1) k) ?_
  obtain ⟨T23, h23, X23, e23, E23, A23, D23, -, st23⟩ := newO X22 hx hZ hown (hw _ (mo 13 rfl)) (hw _ (mo 14 rfl)) (hw _ (mo 6 rfl)) e22 (g := (mkF m 13 #[vi c1] [])) rfl (hb hby d2_13) (by decide) (by decide)
  obtain ⟨b23, g23⟩ : ∃ z, z = h0.size := ⟨_, rfl⟩
  rw [← g23] at A23 D23 st23
  have E_b23 : Exa Z h23 b23 sS := A23
  have F_value_b23 : Fld Z h23 b23 sS "value" "[B" .null := D23 (Or.inr (hw _ (mo 27 rfl))) (ty := (.array .byte)) (by decide)
  have F_coder_b23 : Fld Z h23 b23 sS "coder" "B" (ii 0) := D23 (Or.inr (hw _ (mo 29 rfl))) (ty := .byte) (by decide)
  have g_b23 : n0 ≤ b23 := Nat.le_trans Z0 (Nat.le_of_eq g23.symm)
  have sz_b23 : h0.size ≤ b23 := Nat.le_trans (Keep.refl h0 []).1 (Nat.le_of_eq g23.symm)
  have K23 : Keep h0 h23 [] := Keep.ext (Keep.refl h0 []) E23
  refine bN T23 (mkF m 16 #[vi c1] [(.ref b23)]) (fun _ k => st23 _ k) ?_
  refine bN T23 (mkF m 17 #[vi c1] [(.ref b23), (.ref b23)]) (fun _ k => XS.dup X23.here hx rfl (hb hby d2_16) rfl rfl k) ?_
  refine bN T23 (mkF m 18 #[vi c1] [(.int c1), (.ref b23), (.ref b23)]) (fun _ k => XS.iloadN X23.here hx rfl (hb hby d2_17) rfl k) ?_
  obtain ⟨_, _, ⟨T24, L24, k24, n24⟩, -, X24, ⟨Lc24, hQ24, l24, y24, z24⟩, st24⟩ := Jvm.LawKit.callS X23 hx (y := yy2) hown (mvT hZ (hw _ (mo 15 rfl))) (mvT hZ (hw _ (mo 16 rfl))) (mvT hZ (hw _ (mo 11 rfl))) (mvT hZ (hw _ (mo 17 rfl))) (by decide) (backOf (W := 2) (tby l Z a0 hw [] c1  h23 n0 (Nat.le_trans Z0 E23.1) ) hZ (hw _ (mo 17 rfl)) (hw _ (mo 11 rfl)) (by decide) (by decide)) (g := (mkF m 18 #[vi c1] [(.int c1), (.ref b23), (.ref b23)])) rfl (by rw [hml]; rfl) (argsL := [(.int c1)]) (rest := [(.ref b23), (.ref b23)]) (lenOf pd_1 rfl) rfl (Nat.le_of_eq rfl) (hb hby d2_18) (fun _ _ => ⟨rfl, e23, (by decide : 2 ≤ _), (by decide : 5 ≤ _)⟩)
  dsimp only [Pt.U, Pt.locs, Pt.cells, Pt.slots] at X24 l24 y24 z24 st24 hQ24
  subst l24 y24 z24
  obtain ⟨t24, kb24, rfl, N24q, K24, zt24, V24⟩ := hQ24
  have N24 := Fr.app N22 N24q
  have KK24 : Keep h0 T24.heap [] := Keep.trans K23 K24 all0
  have sz_t24 : h0.size ≤ t24 := Nat.le_trans K23.1 zt24
  have g_t24 : n0 ≤ t24 := Nat.le_trans Z0 sz_t24
  refine bN T24 (mkF m 21 #[vi c1] [(.ref t24), (.ref b23), (.ref b23)]) (fun _ k => st24 _ k) ?_
  refine bN T24 (mkF m 22 #[vi c1] [(ii 0), (.ref t24), (.ref b23), (.ref b23)]) (fun _ k => XS.iconst X24.here hx rfl (hb hby d2_21) k) ?_
  obtain ⟨_, _, ⟨T25, L25, k25, n25⟩, -, X25, ⟨Lc25, hQ25, l25, y25, z25⟩, st25⟩ := X24.specialBack hx (y := yy3) rfl hown (mvT hZ (hw _ (mo 19 rfl))) (mvT hZ (hw _ (mo 20 rfl))) (mvT hZ (hw _ (mo 22 rfl))) (by decide) (backOf (W := 1) (sini l Z a0 hw [] b23 t24  T24.heap n0 (Nat.le_trans (Nat.le_trans Z0 E23.1) K24.1) (Exa.keep E_b23 K24) (Fld.keep F_value_b23 K24 nin0) (Fld.keep F_coder_b23 K24 nin0) g_b23) hZ (hw _ (mo 22 rfl)) (hw _ (mo 6 rfl)) (by decide) (by decide)) (g := (mkF m 22 #[vi c1] [(ii 0), (.ref t24), (.ref b23), (.ref b23)])) rfl (by rw [hml]; rfl) (Steps.refl _) (a := b23) (argsL := [(.ref t24), (ii 0)]) (rest := [(.ref b23)]) (lenOf pd_2 rfl) rfl (Nat.le_of_eq rfl) (hb hby d2_22) (fun _ _ => ⟨rfl, rfl, (by decide : 2 ≤ _), (by decide : 5 ≤ _)⟩)
  dsimp only [Pt.U, Pt.locs, Pt.cells, Pt.slots] at X25 l25 y25 z25 st25 hQ25
  subst l25 y25 z25
  obtain ⟨rfl, N25q, K25, Fv25⟩ := hQ25
  have N25 := Fr.app N24 N25q
  have KK25 : Keep h0 T25.heap [] := Keep.trans KK24 K25 (allS (Or.inr sz_b23) all0)
  refine bN T25 (mkF m 25 #[vi c1] [(.ref b23)]) (fun _ k => st25.trans k) ?_
  refine own_ret X25 hlk (v := some (.ref b23)) (nvr Bd.returns) (fun fs hr => retOut X25 hx Bd.returns rfl (Or.inr (Or.inr (Or.inr (Or.inr ⟨rfl, rfl, rfl⟩)))) (hb hby d2_25) hr) ?_ (by decide) (by decide)
  have ne26 : b23 ≠ t24 := (Nat.ne_of_lt (Nat.lt_of_lt_of_le (E_b23).lt zt24))
  exact ⟨_, _, _, rfl, N25, KK25, sz_b23, (Exa.keep (Exa.keep E_b23 K24) K25), Fv25, (Arv.keep V24 K25 (ninS (Ne.symm ne26) nin0))⟩
theorem d30_0 : decode jdk_42_method_55_code 0 = .ok (.aload_n 0, 1) := by decide +kernel
theorem d30_1 : decode jdk_42_method_55_code 1 = .ok (.getfield 9, 3) := by decide +kernel
theorem d30_4 : decode jdk_42_method_55_code 4 = .ok (.arraylength, 1) := by decide +kernel
theorem d30_5 : decode jdk_42_method_55_code 5 = .ok (.ifCond .ne 7, 3) := by decide +kernel
theorem d30_8 : decode jdk_42_method_55_code 8 = .ok (.iconst 1, 1) := by decide +kernel
theorem d30_9 : decode jdk_42_method_55_code 9 = .ok (.goto 4, 3) := by decide +kernel
theorem d30_12 : decode jdk_42_method_55_code 12 = .ok (.iconst 0, 1) := by decide +kernel
theorem d30_13 : decode jdk_42_method_55_code 13 = .ok (.ireturn, 1) := by decide +kernel
theorem pn_30 : plainName sS = true := by first | (simp [plainName, overriddenIn]; done) | decide +kernel
theorem ef_ise (m : MethodId) (a : Addr) : entryFrame m #[(.ref a)] 1 = mkF m 0 #[vr a] [] := rfl
def Q_ise (Z : State) (a t1 : Addr) (k1 : ClassId) (zl : Int32) (vs : List Value) (h0 : Heap) (n0 : Nat) (v : Option Value) (h : Heap) (L : List Loc) : Prop := v = some (.int (if zl = (0 : Int32) then (1 : Int32) else (0 : Int32))) ∧ Fr n0 L ∧ h = h0
theorem ise (l : Launch) (Z : State) (a0 : Array Value) (hw : HW Z a0) (ws : List Jvm.Cond) (a t1 : Addr) (k1 : ClassId) (zl : Int32) (vs : List Value) (h0 : Heap) (n0 : Nat) (Z0 : n0 ≤ h0.size) (F_value_a : Fld Z h0 a sS "value" "[B" (.ref t1)) (V_t1 : Arv Z h0 t1 k1 .byte zl vs (ii 0)) :
    own_M l yy5 jdk_42_method_55_code 1 (some .boolean) ws rr0 Z #[(.ref a)] h0 (Q_ise Z a t1 k1 zl vs h0 n0) := by
  refine own_bd (plainFor_of_name pn_30) fun p e s m below meth c s₁ Bd hx hby hml hown hnm hlk hZ X0 e0 => ?_
  rw [ef_ise m a]
  refine bN s₁ (mkF m 1 #[vr a] [(.ref a)]) (fun _ k => XS.aloadN X0.here hx rfl (hb hby d30_0) rfl rfl k) ?_
  obtain ⟨T21, X21, e21, st21⟩ := getF X0 hx hZ hown (host := "") (Or.inl (hw _ (mo 26 rfl))) Via.refl e0 F_value_a (g := (mkF m 1 #[vr a] [(.ref a)])) rfl rfl (hb hby d30_1)
  refine bN T21 (mkF m 4 #[vr a] [(.ref t1)]) (fun _ k => st21 _ k) ?_
  obtain ⟨cl22, Ar22, q22, S22, N_22, H22, G22⟩ := id V_t1
  refine bN T21 (mkF m 5 #[vr a] [(.int zl)]) (fun _ k => X21.arraylength hx (by rw [e21]; exact Ar22.1) (State.isArrayOf_alike hZ.alike Ar22.2.1) (g := (mkF m 4 #[vr a] [(.ref t1)])) rfl rfl (hb hby d30_4) _ (by rw [len_of S22 N_22]; exact k)) ?_
  by_cases hc5_23 : zl = (0 : Int32)
  · skip
    refine bN T21 (mkF m 8 #[vr a] []) (fun _ k => XS.ifNo X21.here hx rfl (hb hby d30_5) rfl ((if0 _ _).trans (teq hc5_23).2) k) ?_
    refine bN T21 (mkF m 9 #[vr a] [(.int (1 : Int32))]) (fun _ k => XS.iconst X21.here hx rfl (hb hby d30_8) k) ?_
    refine bN T21 (mkF m 13 #[vr a] [(.int (1 : Int32))]) (fun _ k => XS.goto X21.here hx rfl (pc0 := 9) (pc' := 13) rfl (hb hby d30_9) (by decide) (by decide) k) ?_
    refine own_ret X21 hlk (v := some (.int (1 : Int32))) (nvr Bd.returns) (fun fs hr => retN X21 hx (t := .boolean) Bd.returns (by simp) (hb hby d30_13) hr) ?_ (by decide) (by decide)
    rw [e21]
    exact ⟨congrArg (fun z => some (Value.int z)) (if_pos hc5_23).symm, (Fr.nil n0), rfl⟩
  · skip
    refine bN T21 (mkF m 12 #[vr a] []) (fun _ k => XS.ifYes X21.here hx rfl (pc0 := 5) (pc' := 12) rfl (hb hby d30_5) rfl ((if0 _ _).trans (feq hc5_23).2) (by decide) (by decide) k) ?_
    refine bN T21 (mkF m 13 #[vr a] [(ii 0)]) (fun _ k => XS.iconst X21.here hx rfl (hb hby d30_12) k) ?_
    refine own_ret X21 hlk (v := some (ii 0)) (nvr Bd.returns) (fun fs hr => retN X21 hx (t := .boolean) Bd.returns (by simp) (hb hby d30_13) hr) ?_ (by decide) (by decide)
    rw [e21]
    exact ⟨congrArg (fun z => some (Value.int z)) (if_neg hc5_23).symm, (Fr.nil n0), rfl⟩
theorem d9_0 : decode jdk_22_method_1_code 0 = .ok (.aload_n 0, 1) := by decide +kernel
theorem d9_1 : decode jdk_22_method_1_code 1 = .ok (.invokespecial 1, 3) := by decide +kernel
theorem d9_4 : decode jdk_22_method_1_code 4 = .ok (.return_, 1) := by decide +kernel
theorem pn_9 : plainName "java/util/AbstractCollection" = true := by first | (simp [plainName, overriddenIn]; done) | decide +kernel
theorem ef_aci (m : MethodId) (a : Addr) : entryFrame m #[(.ref a)] 1 = mkF m 0 #[vr a] [] := rfl
def Q_aci (Z : State) (a : Addr) (h0 : Heap) (n0 : Nat) (v : Option Value) (h : Heap) (L : List Loc) : Prop := v = none ∧ Fr n0 L ∧ h = h0
theorem aci (l : Launch) (Z : State) (a0 : Array Value) (hw : HW Z a0) (ws : List Jvm.Cond) (a : Addr) (h0 : Heap) (n0 : Nat) (Z0 : n0 ≤ h0.size) :
    own_M l yy6 jdk_22_method_1_code 1 none ws rr2 Z #[(.ref a)] h0 (Q_aci Z a h0 n0) := by
  refine own_bd (plainFor_of_name pn_9) fun p e s m below meth c s₁ Bd hx hby hml hown hnm hlk hZ X0 e0 => ?_
  rw [ef_aci m a]
  refine bN s₁ (mkF m 1 #[vr a] [(.ref a)]) (fun _ k => XS.aloadN X0.here hx rfl (hb hby d9_0) rfl rfl k) ?_
  obtain ⟨T21, X21, e21, st21⟩ := initO X0 hx hZ hown (hw _ (mo 48 rfl)) (hw _ (mo 24 rfl)) (hw _ (mo 25 rfl)) e0 (g := (mkF m 1 #[vr a] [(.ref a)])) rfl (by rw [hml]; rfl) rfl (hb hby d9_1) (by decide) (W := 0) (Nat.le_of_eq rfl) (by decide)
  refine bN T21 (mkF m 4 #[vr a] []) (fun _ k => st21 _ k) ?_
  refine own_ret X21 hlk (v := none) (fun _ => rfl) (fun fs hr => X21.returnOut hx Bd.returns (hb hby d9_4) hr) ?_ (by decide) (by decide)
  rw [e21]
  exact ⟨rfl, (Fr.nil n0), rfl⟩
theorem d8_0 : decode jdk_39_method_1_code 0 = .ok (.aload_n 0, 1) := by decide +kernel
theorem d8_1 : decode jdk_39_method_1_code 1 = .ok (.invokespecial 1, 3) := by decide +kernel
theorem d8_4 : decode jdk_39_method_1_code 4 = .ok (.aload_n 0, 1) := by decide +kernel
theorem d8_5 : decode jdk_39_method_1_code 5 = .ok (.iconst 0, 1) := by decide +kernel
theorem d8_6 : decode jdk_39_method_1_code 6 = .ok (.putfield 7, 3) := by decide +kernel
theorem d8_9 : decode jdk_39_method_1_code 9 = .ok (.return_, 1) := by decide +kernel
theorem pn_8 : plainName sB = true := by first | (simp [plainName, overriddenIn]; done) | decide +kernel
theorem ef_abi (m : MethodId) (a : Addr) : entryFrame m #[(.ref a)] 1 = mkF m 0 #[vr a] [] := rfl
def Q_abi (Z : State) (a : Addr) (h0 : Heap) (n0 : Nat) (v : Option Value) (h : Heap) (L : List Loc) : Prop := v = none ∧ Fr n0 L ∧ Keep h0 h [a] ∧ Fld Z h a sB "modCount" "I" (ii 0) ∧ Fld Z h a sL "elementData" sE .null ∧ Fld Z h a sL "size" "I" (ii 0)
theorem abi (l : Launch) (Z : State) (a0 : Array Value) (hw : HW Z a0) (ws : List Jvm.Cond) (a : Addr) (h0 : Heap) (n0 : Nat) (Z0 : n0 ≤ h0.size) (E_a : Exa Z h0 a sL) (F_modCount_a : Fld Z h0 a sB "modCount" "I" (ii 0)) (F_elementData_a : Fld Z h0 a sL "elementData" sE .null) (F_size_a : Fld Z h0 a sL "size" "I" (ii 0)) (g_a : n0 ≤ a) :
    own_M l yy7 jdk_39_method_1_code 1 none ws rr4 Z #[(.ref a)] h0 (Q_abi Z a h0 n0) := by
  refine own_bd (plainFor_of_name pn_8) fun p e s m below meth c s₁ Bd hx hby hml hown hnm hlk hZ X0 e0 => ?_
  rw [ef_abi m a]
  refine bN s₁ (mkF m 1 #[vr a] [(.ref a)]) (fun _ k => XS.aloadN X0.here hx rfl (hb hby d8_0) rfl rfl k) ?_
  obtain ⟨_, _, ⟨T21, L21, k21, n21⟩, -, X21, ⟨Lc21, hQ21, l21, y21, z21⟩, st21⟩ := X0.specialBack hx (y := yy6) rfl hown (mvT hZ (hw _ (mo 42 rfl))) (mvT hZ (hw _ (mo 43 rfl))) (mvT hZ (hw _ (mo 47 rfl))) (by decide) (backOf (W := 0) (aci l Z a0 hw [] a  h0 n0 Z0 ) hZ (hw _ (mo 47 rfl)) (hw _ (mo 46 rfl)) (by decide) (by decide)) (g := (mkF m 1 #[vr a] [(.ref a)])) rfl (by rw [hml]; rfl) (Steps.refl _) (a := a) (argsL := []) (rest := []) (lenOf pd_3 rfl) rfl (Nat.le_of_eq rfl) (hb hby d8_1) (fun _ _ => ⟨rfl, e0, (by decide : 0 ≤ _), (by decide : 0 ≤ _)⟩)
  dsimp only [Pt.U, Pt.locs, Pt.cells, Pt.slots] at X21 l21 y21 z21 st21 hQ21
  subst l21 y21 z21
  obtain ⟨rfl, N21q, e21⟩ := hQ21
  have N21 := Fr.app (Fr.nil n0) N21q
  refine bN T21 (mkF m 4 #[vr a] []) (fun _ k => st21.trans k) ?_
  refine bN T21 (mkF m 5 #[vr a] [(.ref a)]) (fun _ k => XS.aloadN X21.here hx rfl (hb hby d8_4) rfl rfl k) ?_
  refine bN T21 (mkF m 6 #[vr a] [(ii 0), (.ref a)]) (fun _ k => XS.iconst X21.here hx rfl (hb hby d8_5) k) ?_
  obtain ⟨T22, h22, X22, e22, W22, st22⟩ := putF X21 hx hZ hown (host := "") (Or.inl (hw _ (mo 49 rfl))) Via.refl e21 F_modCount_a E_a (Or.inl (hw _ (mo 50 rfl))) (hw _ (mo 31 rfl)) (ty := .int) (by decide) rfl rfl (g := (mkF m 6 #[vr a] [(ii 0), (.ref a)])) rfl rfl (hb hby d8_6)
  have Fw22 : Fld Z h22 a sB "modCount" "I" (ii 0) := Fld.same W22 F_modCount_a
  have K22 : Keep h0 h22 [a] := Keep.wr (Keep.refl h0 [a]) W22 (Or.inl (mo 0 rfl))
  have N22 := Fr.snoc X22 N21 g_a
  refine bN T22 (mkF m 9 #[vr a] []) (fun _ k => st22 _ k) ?_
  refine own_ret X22 hlk (v := none) (fun _ => rfl) (fun fs hr => X22.returnOut hx Bd.returns (hb hby d8_9) hr) ?_ (by decide) (by decide)
  rw [e22]
  exact ⟨rfl, N22, K22, Fw22, (Fld.other W22 F_elementData_a (Or.inr (slot_ne (a0 := a0) (Or.inl (hw _ (mo 53 rfl))) (Or.inl (hw _ (mo 50 rfl))) (by decide) (t := (.array (.object sO))) (t' := .int) (by decide) (by decide)))), (Fld.other W22 F_size_a (Or.inr (slot_ne (a0 := a0) (Or.inl (hw _ (mo 62 rfl))) (Or.inl (hw _ (mo 50 rfl))) (by decide) (t := .int) (t' := .int) (by decide) (by decide))))⟩
theorem d7_0 : decode jdk_38_method_2_code 0 = .ok (.aload_n 0, 1) := by decide +kernel
theorem d7_1 : decode jdk_38_method_2_code 1 = .ok (.invokespecial 1, 3) := by decide +kernel
theorem d7_4 : decode jdk_38_method_2_code 4 = .ok (.aload_n 0, 1) := by decide +kernel
theorem d7_5 : decode jdk_38_method_2_code 5 = .ok (.getstatic 39, 3) := by decide +kernel
theorem d7_8 : decode jdk_38_method_2_code 8 = .ok (.putfield 9, 3) := by decide +kernel
theorem d7_11 : decode jdk_38_method_2_code 11 = .ok (.return_, 1) := by decide +kernel
theorem pn_7 : plainName sL = true := by first | (simp [plainName, overriddenIn]; done) | decide +kernel
theorem ef_ali (m : MethodId) (a : Addr) : entryFrame m #[(.ref a)] 1 = mkF m 0 #[vr a] [] := rfl
def Q_ali (Z : State) (a aD : Addr) (h0 : Heap) (n0 : Nat) (v : Option Value) (h : Heap) (L : List Loc) : Prop := v = none ∧ Fr n0 L ∧ Keep h0 h [a] ∧ Fld Z h a sB "modCount" "I" (ii 0) ∧ Fld Z h a sL "elementData" sE (.ref aD) ∧ Fld Z h a sL "size" "I" (ii 0)
theorem ali (l : Launch) (Z : State) (a0 : Array Value) (hw : HW Z a0) (ws : List Jvm.Cond) (a aD : Addr) (h0 : Heap) (n0 : Nat) (Z0 : n0 ≤ h0.size) (O0 : Old Z n0 h0) (E_a : Exa Z h0 a sL) (F_modCount_a : Fld Z h0 a sB "modCount" "I" (ii 0)) (F_elementData_a : Fld Z h0 a sL "elementData" sE .null) (F_size_a : Fld Z h0 a sL "size" "I" (ii 0)) (g_a : n0 ≤ a) (S_DE : Sta Z Z.heap sL "DEFAULTCAPACITY_EMPTY_ELEMENTDATA" "[Ljava/lang/Object;" (.ref aD)) :
    own_M l yy8 jdk_38_method_2_code 1 none ws rr5 Z #[(.ref a)] h0 (Q_ali Z a aD h0 n0) := by
  refine own_bd (plainFor_of_name pn_7) fun p e s m below meth c s₁ Bd hx hby hml hown hnm hlk hZ X0 e0 => ?_
  rw [ef_ali m a]
  refine bN s₁ (mkF m 1 #[vr a] [(.ref a)]) (fun _ k => XS.aloadN X0.here hx rfl (hb hby d7_0) rfl rfl k) ?_
  obtain ⟨_, _, ⟨T21, L21, k21, n21⟩, -, X21, ⟨Lc21, hQ21, l21, y21, z21⟩, st21⟩ := X0.specialBack hx (y := yy7) rfl hown (mvT hZ (hw _ (mo 36 rfl))) (mvT hZ (hw _ (mo 37 rfl))) (mvT hZ (hw _ (mo 41 rfl))) (by decide) (backOf (W := 0) (abi l Z a0 hw [] a  h0 n0 Z0 E_a F_modCount_a F_elementData_a F_size_a g_a) hZ (hw _ (mo 41 rfl)) (hw _ (mo 40 rfl)) (by decide) (by decide)) (g := (mkF m 1 #[vr a] [(.ref a)])) rfl (by rw [hml]; rfl) (Steps.refl _) (a := a) (argsL := []) (rest := []) (lenOf pd_3 rfl) rfl (Nat.le_of_eq rfl) (hb hby d7_1) (fun _ _ => ⟨rfl, e0, (by decide : 0 ≤ _), (by decide : 0 ≤ _)⟩)
  dsimp only [Pt.U, Pt.locs, Pt.cells, Pt.slots] at X21 l21 y21 z21 st21 hQ21
  subst l21 y21 z21
  obtain ⟨rfl, N21q, K21, Fm21, Fe21, Fz21⟩ := hQ21
  have N21 := Fr.app (Fr.nil n0) N21q
  have KK21 : Keep h0 T21.heap [a] := Keep.trans (Keep.refl h0 [a]) K21 (allS (Or.inl (mo 0 rfl)) all0)
  refine bN T21 (mkF m 4 #[vr a] []) (fun _ k => st21.trans k) ?_
  refine bN T21 (mkF m 5 #[vr a] [(.ref a)]) (fun _ k => XS.aloadN X21.here hx rfl (hb hby d7_4) rfl rfl k) ?_
  obtain ⟨T22, X22, e22, st22⟩ := getS2 X21 hx hZ hown (host := "") (Or.inl (hw _ (mo 51 rfl))) Via.refl rfl (Sta.ext ((Old.keep O0 K21 (allS g_a all0))).2 S_DE) (g := (mkF m 5 #[vr a] [(.ref a)])) rfl (hb hby d7_5)
  refine bN T22 (mkF m 8 #[vr a] [(.ref aD), (.ref a)]) (fun _ k => st22 _ k) ?_
  obtain ⟨T23, h23, X23, e23, W23, st23⟩ := putF X22 hx hZ hown (host := "") (Or.inl (hw _ (mo 52 rfl))) Via.refl e22 Fe21 (Exa.keep E_a K21) (Or.inl (hw _ (mo 53 rfl))) (hw _ (mo 31 rfl)) (ty := (.array (.object sO))) (by decide) rfl rfl (g := (mkF m 8 #[vr a] [(.ref aD), (.ref a)])) rfl rfl (hb hby d7_8)
  have Fw23 : Fld Z h23 a sL "elementData" sE (.ref aD) := Fld.same W23 Fe21
  have K23 : Keep h0 h23 [a] := Keep.wr KK21 W23 (Or.inl (mo 0 rfl))
  have N23 := Fr.snoc X23 N21 g_a
  refine bN T23 (mkF m 11 #[vr a] []) (fun _ k => st23 _ k) ?_
  refine own_ret X23 hlk (v := none) (fun _ => rfl) (fun fs hr => X23.returnOut hx Bd.returns (hb hby d7_11) hr) ?_ (by decide) (by decide)
  rw [e23]
  exact ⟨rfl, N23, K23, (Fld.other W23 Fm21 (Or.inr (slot_ne (a0 := a0) (Or.inl (hw _ (mo 50 rfl))) (Or.inl (hw _ (mo 53 rfl))) (by decide) (t := .int) (t' := (.array (.object sO))) (by decide) (by decide)))), Fw23, (Fld.other W23 Fz21 (Or.inr (slot_ne (a0 := a0) (Or.inl (hw _ (mo 62 rfl))) (Or.inl (hw _ (mo 53 rfl))) (by decide) (t := .int) (t' := (.array (.object sO))) (by decide) (by decide))))⟩
theorem d14_0 : decode jdk_29_method_65_code 0 = .ok (.iload_n 0, 1) := by decide +kernel
theorem d14_1 : decode jdk_29_method_65_code 1 = .ok (.iload_n 1, 1) := by decide +kernel
theorem d14_2 : decode jdk_29_method_65_code 2 = .ok (.if_icmp .lt 7, 3) := by decide +kernel
theorem d14_5 : decode jdk_29_method_65_code 5 = .ok (.iload_n 0, 1) := by decide +kernel
theorem d14_6 : decode jdk_29_method_65_code 6 = .ok (.goto 4, 3) := by decide +kernel
theorem d14_10 : decode jdk_29_method_65_code 10 = .ok (.ireturn, 1) := by decide +kernel
theorem ef_max10 (m : MethodId)  : entryFrame m #[(.int (10 : Int32)), (.int (1 : Int32))] 2 = mkF m 0 #[vi 10, vi 1] [] := rfl
def Q_max10 (Z : State)  (h0 : Heap) (n0 : Nat) (v : Option Value) (h : Heap) (L : List Loc) : Prop := v = some (.int (10 : Int32)) ∧ Fr n0 L ∧ h = h0
theorem max10 (l : Launch) (Z : State) (a0 : Array Value) (hw : HW Z a0) (ws : List Jvm.Cond)  (h0 : Heap) (n0 : Nat) (Z0 : n0 ≤ h0.size) :
    own_M l yy9 jdk_29_method_65_code 2 (some .int) ws rr0 Z #[(.int (10 : Int32)), (.int (1 : Int32))] h0 (Q_max10 Z  h0 n0) := by
  refine own_bd (Jvm.Free.JP.mathPlain rfl (by decide +kernel)) fun p e s m below meth c s₁ Bd hx hby hml hown hnm hlk hZ X0 e0 => ?_
  rw [ef_max10 m ]
  refine bN s₁ (mkF m 1 #[vi 10, vi 1] [(.int (10 : Int32))]) (fun _ k => XS.iloadN X0.here hx rfl (hb hby d14_0) rfl k) ?_
  refine bN s₁ (mkF m 2 #[vi 10, vi 1] [(.int (1 : Int32)), (.int (10 : Int32))]) (fun _ k => XS.iloadN X0.here hx rfl (hb hby d14_1) rfl k) ?_
  refine bN s₁ (mkF m 5 #[vi 10, vi 1] []) (fun _ k => XS.icmpNo X0.here hx rfl (hb hby d14_2) rfl (flt (by decide)).1 k) ?_
  refine bN s₁ (mkF m 6 #[vi 10, vi 1] [(.int (10 : Int32))]) (fun _ k => XS.iloadN X0.here hx rfl (hb hby d14_5) rfl k) ?_
  refine bN s₁ (mkF m 10 #[vi 10, vi 1] [(.int (10 : Int32))]) (fun _ k => XS.goto X0.here hx rfl (pc0 := 6) (pc' := 10) rfl (hb hby d14_6) (by decide) (by decide) k) ?_
  refine own_ret X0 hlk (v := some (.int (10 : Int32))) (nvr Bd.returns) (fun fs hr => retI X0 hx Bd.returns (hb hby d14_10) hr) ?_ (by decide) (by decide)
  rw [e0]
  exact ⟨rfl, (Fr.nil n0), rfl⟩
theorem d13_0 : decode jdk_38_method_6_code 0 = .ok (.aload_n 0, 1) := by decide +kernel
theorem d13_1 : decode jdk_38_method_6_code 1 = .ok (.getfield 9, 3) := by decide +kernel
theorem d13_4 : decode jdk_38_method_6_code 4 = .ok (.arraylength, 1) := by decide +kernel
theorem d13_5 : decode jdk_38_method_6_code 5 = .ok (.istore_n 2, 1) := by decide +kernel
theorem d13_6 : decode jdk_38_method_6_code 6 = .ok (.iload_n 2, 1) := by decide +kernel
theorem d13_7 : decode jdk_38_method_6_code 7 = .ok (.ifCond .gt 13, 3) := by decide +kernel
theorem d13_10 : decode jdk_38_method_6_code 10 = .ok (.aload_n 0, 1) := by decide +kernel
theorem d13_11 : decode jdk_38_method_6_code 11 = .ok (.getfield 9, 3) := by decide +kernel
theorem d13_14 : decode jdk_38_method_6_code 14 = .ok (.getstatic 39, 3) := by decide +kernel
theorem d13_17 : decode jdk_38_method_6_code 17 = .ok (.if_acmp .eq 28, 3) := by decide +kernel
theorem d13_45 : decode jdk_38_method_6_code 45 = .ok (.aload_n 0, 1) := by decide +kernel
theorem d13_46 : decode jdk_38_method_6_code 46 = .ok (.bipush 10, 2) := by decide +kernel
theorem d13_48 : decode jdk_38_method_6_code 48 = .ok (.iload_n 1, 1) := by decide +kernel
theorem d13_49 : decode jdk_38_method_6_code 49 = .ok (.invokestatic 79, 3) := by decide +kernel
theorem d13_52 : decode jdk_38_method_6_code 52 = .ok (.anewarray 7, 3) := by decide +kernel
theorem d13_55 : decode jdk_38_method_6_code 55 = .ok (.dup_x1, 1) := by decide +kernel
theorem d13_56 : decode jdk_38_method_6_code 56 = .ok (.putfield 9, 3) := by decide +kernel
theorem d13_59 : decode jdk_38_method_6_code 59 = .ok (.areturn, 1) := by decide +kernel
theorem pn_13 : plainName sL = true := by first | (simp [plainName, overriddenIn]; done) | decide +kernel
theorem ef_grw2 (m : MethodId) (a : Addr) : entryFrame m #[(.ref a), (.int (1 : Int32))] 4 = mkF m 0 #[vr a, vi 1, uu, uu] [] := rfl
def Q_grw2 (Z : State) (a aD : Addr) (kD : ClassId) (h0 : Heap) (n0 : Nat) (v : Option Value) (h : Heap) (L : List Loc) : Prop := ∃ (d : Addr) (kd : ClassId), v = some (.ref d) ∧ Fr n0 L ∧ Keep h0 h [a] ∧ h0.size ≤ d ∧ Fld Z h a sB "modCount" "I" (.int (1 : Int32)) ∧ Fld Z h a sL "elementData" sE (.ref d) ∧ Fld Z h a sL "size" "I" (ii 0) ∧ Arv Z h d kd (.object sO) (10 : Int32) [.null, .null, .null, .null, .null, .null, .null, .null, .null, .null] .null ∧ Ovr Z kd sO
theorem grw2 (l : Launch) (Z : State) (a0 : Array Value) (hw : HW Z a0) (ws : List Jvm.Cond) (a aD : Addr) (kD : ClassId) (h0 : Heap) (n0 : Nat) (Z0 : n0 ≤ h0.size) (O0 : Old Z n0 h0) (E_a : Exa Z h0 a sL) (F_modCount_a : Fld Z h0 a sB "modCount" "I" (.int (1 : Int32))) (F_elementData_a : Fld Z h0 a sL "elementData" sE (.ref aD)) (F_size_a : Fld Z h0 a sL "size" "I" (ii 0)) (g_a : n0 ≤ a) (S_DE : Sta Z Z.heap sL "DEFAULTCAPACITY_EMPTY_ELEMENTDATA" "[Ljava/lang/Object;" (.ref aD)) (V_aD : Arv Z Z.heap aD kD (.object sO) (0 : Int32) [] .null) :
    own_M l yy10 jdk_38_method_6_code 4 (some (.array (.object sO))) ws rr6 Z #[(.ref a), (.int (1 : Int32))] h0 (Q_grw2 Z a aD kD h0 n0) := by
  refine own_bd (plainFor_of_name pn_13) fun p e s m below meth c s₁ Bd hx hby hml hown hnm hlk hZ X0 e0 => ?_
  rw [ef_grw2 m a]
  refine bN s₁ (mkF m 1 #[vr a, vi 1, uu, uu] [(.ref a)]) (fun _ k => XS.aloadN X0.here hx rfl (hb hby d13_0) rfl rfl k) ?_
  obtain ⟨T21, X21, e21, st21⟩ := getF X0 hx hZ hown (host := "") (Or.inl (hw _ (mo 52 rfl))) Via.refl e0 F_elementData_a (g := (mkF m 1 #[vr a, vi 1, uu, uu] [(.ref a)])) rfl rfl (hb hby d13_1)
  refine bN T21 (mkF m 4 #[vr a, vi 1, uu, uu] [(.ref aD)]) (fun _ k => st21 _ k) ?_
  obtain ⟨cl22, Ar22, q22, S22, N_22, H22, G22⟩ := id (Arv.ext V_aD (O0).2)
  refine bN T21 (mkF m 5 #[vr a, vi 1, uu, uu] [(ii 0)]) (fun _ k => X21.arraylength hx (by rw [e21]; exact Ar22.1) (State.isArrayOf_alike hZ.alike Ar22.2.1) (g := (mkF m 4 #[vr a, vi 1, uu, uu] [(.ref aD)])) rfl rfl (hb hby d13_4) _ (by rw [len_of S22 N_22]; exact k)) ?_
  refine bN T21 (mkF m 6 #[vr a, vi 1, vi 0, uu] []) (fun _ k => XS.istoreN X21.here hx rfl (hb hby d13_5) rfl rfl k) ?_
  refine bN T21 (mkF m 7 #[vr a, vi 1, vi 0, uu] [(ii 0)]) (fun _ k => XS.iloadN X21.here hx rfl (hb hby d13_6) rfl k) ?_
  refine bN T21 (mkF m 10 #[vr a, vi 1, vi 0, uu] []) (fun _ k => XS.ifNo X21.here hx rfl (hb hby d13_7) rfl ((if0 _ _).trans (flt (by decide)).2.2.1) k) ?_
  refine bN T21 (mkF m 11 #[vr a, vi 1, vi 0, uu] [(.ref a)]) (fun _ k => XS.aloadN X21.here hx rfl (hb hby d13_10) rfl rfl k) ?_
  obtain ⟨T23, X23, e23, st23⟩ := getF X21 hx hZ hown (host := "") (Or.inl (hw _ (mo 52 rfl))) Via.refl e21 F_elementData_a (g := (mkF m 11 #[vr a, vi 1, vi 0, uu] [(.ref a)])) rfl rfl (hb hby d13_11)
  refine bN T23 (mkF m 14 #[vr a, vi 1, vi 0, uu] [(.ref aD)]) (fun _ k => st23 _ k) ?_
  obtain ⟨T24, X24, e24, st24⟩ := getS2 X23 hx hZ hown (host := "") (Or.inl (hw _ (mo 51 rfl))) Via.refl e23 (Sta.ext (O0).2 S_DE) (g := (mkF m 14 #[vr a, vi 1, vi 0, uu] [(.ref aD)])) rfl (hb hby d13_14)
  refine bN T24 (mkF m 17 #[vr a, vi 1, vi 0, uu] [(.ref aD), (.ref aD)]) (fun _ k => st24 _ k) ?_
  refine bN T24 (mkF m 45 #[vr a, vi 1, vi 0, uu] []) (fun _ k => Jvm.RoadKit.acmp (g := (mkF m 17 #[vr a, vi 1, vi 0, uu] [(.ref aD), (.ref aD)])) X24 hx rfl rfl rfl (pc0 := 17) (pc' := 45) (same := true) rfl (hb hby d13_17) rfl (decide_eq_true rfl) (by decide) (by decide) k) ?_
  refine bN T24 (mkF m 46 #[vr a, vi 1, vi 0, uu] [(.ref a)]) (fun _ k => XS.aloadN X24.here hx rfl (hb hby d13_45) rfl rfl k) ?_
  refine bN T24 (mkF m 48 #[vr a, vi 1, vi 0, uu] [(.int (10 : Int32)), (.ref a)]) (fun _ k => XS.bipush X24.here hx rfl (hb hby d13_46) k) ?_
  refine bN T24 (mkF m 49 #[vr a, vi 1, vi 0, uu] [(.int (1 : Int32)), (.int (10 : Int32)), (.ref a)]) (fun _ k => XS.iloadN X24.here hx rfl (hb hby d13_48) rfl k) ?_
  obtain ⟨_, _, ⟨T25, L25, k25, n25⟩, -, X25, ⟨Lc25, hQ25, l25, y25, z25⟩, st25⟩ := Jvm.LawKit.callS X24 hx (y := yy9) hown (mvT hZ (hw _ (mo 78 rfl))) (mvT hZ (hw _ (mo 79 rfl))) (mvT hZ (hw _ (mo 80 rfl))) (mvT hZ (hw _ (mo 81 rfl))) (by decide) (backOf (W := 1) (max10 l Z a0 hw []   h0 n0 Z0 ) hZ (hw _ (mo 81 rfl)) (hw _ (mo 80 rfl)) (by decide) (by decide)) (g := (mkF m 49 #[vr a, vi 1, vi 0, uu] [(.int (1 : Int32)), (.int (10 : Int32)), (.ref a)])) rfl (by rw [hml]; rfl) (argsL := [(.int (10 : Int32)), (.int (1 : Int32))]) (rest := [(.ref a)]) (lenOf pd_4 rfl) rfl (Nat.le_of_eq rfl) (hb hby d13_49) (fun _ _ => ⟨rfl, e24, (by decide : 0 ≤ _), (by decide : 0 ≤ _)⟩)
  dsimp only [Pt.U, Pt.locs, Pt.cells, Pt.slots] at X25 l25 y25 z25 st25 hQ25
  subst l25 y25 z25
  obtain ⟨rfl, N25q, e25⟩ := hQ25
  have N25 := Fr.app (Fr.nil n0) N25q
  refine bN T25 (mkF m 52 #[vr a, vi 1, vi 0, uu] [(.int (10 : Int32)), (.ref a)]) (fun _ k => st25 _ k) ?_
  obtain ⟨T26, h26, k26, X26, e26, E26, A26, O26, st26⟩ := newR X25 hx hZ hown (hw _ (mo 82 rfl)) (hw _ (mo 83 rfl)) e25 (g := (mkF m 52 #[vr a, vi 1, vi 0, uu] [(.int (10 : Int32)), (.ref a)])) rfl (hb hby d13_52) rfl (by decide) (cap := 10) (by decide) (by decide) (by decide) (by decide)
  obtain ⟨b26, g26⟩ : ∃ z, z = h0.size := ⟨_, rfl⟩
  rw [← g26] at A26 st26
  have V_b26 : Arv Z h26 b26 k26 (.object sO) (10 : Int32) [.null, .null, .null, .null, .null, .null, .null, .null, .null, .null] .null := (Arv.new A26 (by decide)).pad (pad_rep [] .null 10)
  have g_b26 : n0 ≤ b26 := Nat.le_trans Z0 (Nat.le_of_eq g26.symm)
  have sz_b26 : h0.size ≤ b26 := Nat.le_trans (Keep.refl h0 [a]).1 (Nat.le_of_eq g26.symm)
  have K26 : Keep h0 h26 [a] := Keep.ext (Keep.refl h0 [a]) E26
  refine bN T26 (mkF m 55 #[vr a, vi 1, vi 0, uu] [(.ref b26), (.ref a)]) (fun _ k => st26 _ k) ?_
  refine bN T26 (mkF m 56 #[vr a, vi 1, vi 0, uu] [(.ref b26), (.ref a), (.ref b26)]) (fun _ k => XS.dupX1 X26.here hx rfl (hb hby d13_55) rfl rfl rfl k) ?_
  obtain ⟨T27, h27, X27, e27, W27, st27⟩ := putF X26 hx hZ hown (host := "") (Or.inl (hw _ (mo 52 rfl))) Via.refl e26 (Fld.ext E26 F_elementData_a) (Exa.ext E26 E_a) (Or.inl (hw _ (mo 53 rfl))) (hw _ (mo 31 rfl)) (ty := (.array (.object sO))) (by decide) rfl rfl (g := (mkF m 56 #[vr a, vi 1, vi 0, uu] [(.ref b26), (.ref a), (.ref b26)])) rfl rfl (hb hby d13_56)
  have Fw27 : Fld Z h27 a sL "elementData" sE (.ref b26) := Fld.same W27 (Fld.ext E26 F_elementData_a)
  have K27 : Keep h0 h27 [a] := Keep.wr K26 W27 (Or.inl (mo 0 rfl))
  have N27 := Fr.snoc X27 N25 g_a
  refine bN T27 (mkF m 59 #[vr a, vi 1, vi 0, uu] [(.ref b26)]) (fun _ k => st27 _ k) ?_
  refine own_ret X27 hlk (v := some (.ref b26)) (nvr Bd.returns) (fun fs hr => retOut X27 hx Bd.returns rfl (Or.inr (Or.inr (Or.inr (Or.inr ⟨rfl, rfl, rfl⟩)))) (hb hby d13_59) hr) ?_ (by decide) (by decide)
  rw [e27]
  have ne28 : a ≠ b26 := (Nat.ne_of_lt (Nat.lt_of_lt_of_le E_a.lt (Nat.le_of_eq g26.symm)))
  exact ⟨_, _, rfl, N27, K27, sz_b26, (Fld.other W27 (Fld.ext E26 F_modCount_a) (Or.inr (slot_ne (a0 := a0) (Or.inl (hw _ (mo 50 rfl))) (Or.inl (hw _ (mo 53 rfl))) (by decide) (t := .int) (t' := (.array (.object sO))) (by decide) (by decide)))), Fw27, (Fld.other W27 (Fld.ext E26 F_size_a) (Or.inr (slot_ne (a0 := a0) (Or.inl (hw _ (mo 62 rfl))) (Or.inl (hw _ (mo 53 rfl))) (by decide) (t := .int) (t' := (.array (.object sO))) (by decide) (by decide)))), (Arv.other V_b26 W27 (Ne.symm ne28)), O26⟩
theorem d12_0 : decode jdk_38_method_7_code 0 = .ok (.aload_n 0, 1) := by decide +kernel
theorem d12_1 : decode jdk_38_method_7_code 1 = .ok (.aload_n 0, 1) := by decide +kernel
theorem d12_2 : decode jdk_38_method_7_code 2 = .ok (.getfield 48, 3) := by decide +kernel
theorem d12_5 : decode jdk_38_method_7_code 5 = .ok (.iconst 1, 1) := by decide +kernel
theorem d12_6 : decode jdk_38_method_7_code 6 = .ok (.iadd, 1) := by decide +kernel
theorem d12_7 : decode jdk_38_method_7_code 7 = .ok (.invokevirtual 69, 3) := by decide +kernel
theorem d12_10 : decode jdk_38_method_7_code 10 = .ok (.areturn, 1) := by decide +kernel
theorem pn_12 : plainName sL = true := by first | (simp [plainName, overriddenIn]; done) | decide +kernel
theorem ef_grw1 (m : MethodId) (a : Addr) : entryFrame m #[(.ref a)] 1 = mkF m 0 #[vr a] [] := rfl
def Q_grw1 (Z : State) (a aD : Addr) (kD : ClassId) (h0 : Heap) (n0 : Nat) (v : Option Value) (h : Heap) (L : List Loc) : Prop := ∃ (d : Addr) (kd : ClassId), v = some (.ref d) ∧ Fr n0 L ∧ Keep h0 h [a] ∧ h0.size ≤ d ∧ Fld Z h a sB "modCount" "I" (.int (1 : Int32)) ∧ Fld Z h a sL "elementData" sE (.ref d) ∧ Fld Z h a sL "size" "I" (ii 0) ∧ Arv Z h d kd (.object sO) (10 : Int32) [.null, .null, .null, .null, .null, .null, .null, .null, .null, .null] .null ∧ Ovr Z kd sO
theorem grw1 (l : Launch) (Z : State) (a0 : Array Value) (hw : HW Z a0) (ws : List Jvm.Cond) (a aD : Addr) (kD : ClassId) (h0 : Heap) (n0 : Nat) (Z0 : n0 ≤ h0.size) (O0 : Old Z n0 h0) (E_a : Exa Z h0 a sL) (F_modCount_a : Fld Z h0 a sB "modCount" "I" (.int (1 : Int32))) (F_elementData_a : Fld Z h0 a sL "elementData" sE (.ref aD)) (F_size_a : Fld Z h0 a sL "size" "I" (ii 0)) (g_a : n0 ≤ a) (S_DE : Sta Z Z.heap sL "DEFAULTCAPACITY_EMPTY_ELEMENTDATA" "[Ljava/lang/Object;" (.ref aD)) (V_aD : Arv Z Z.heap aD kD (.object sO) (0 : Int32) [] .null) :
    own_M l yy11 jdk_38_method_7_code 1 (some (.array (.object sO))) ws rr7 Z #[(.ref a)] h0 (Q_grw1 Z a aD kD h0 n0) := by
  refine own_bd (plainFor_of_name pn_12) fun p e s m below meth c s₁ Bd hx hby hml hown hnm hlk hZ X0 e0 => ?_
  rw [ef_grw1 m a]
  refine bN s₁ (mkF m 1 #[vr a] [(.ref a)]) (fun _ k => XS.aloadN X0.here hx rfl (hb hby d12_0) rfl rfl k) ?_
  refine bN s₁ (mkF m 2 #[vr a] [(.ref a), (.ref a)]) (fun _ k => XS.aloadN X0.here hx rfl (hb hby d12_1) rfl rfl k) ?_
  obtain ⟨T21, X21, e21, st21⟩ := getF X0 hx hZ hown (host := "") (Or.inl (hw _ (mo 61 rfl))) Via.refl e0 F_size_a (g := (mkF m 2 #[vr a] [(.ref a), (.ref a)])) rfl rfl (hb hby d12_2)
  refine bN T21 (mkF m 5 #[vr a] [(ii 0), (.ref a)]) (fun _ k => st21 _ k) ?_
  refine bN T21 (mkF m 6 #[vr a] [(.int (1 : Int32)), (ii 0), (.ref a)]) (fun _ k => XS.iconst X21.here hx rfl (hb hby d12_5) k) ?_
  refine bN T21 (mkF m 7 #[vr a] [(.int (1 : Int32)), (.ref a)]) (fun _ k => XS.iadd X21.here hx rfl (hb hby d12_6) rfl k) ?_
  obtain ⟨cq22, q22, q22'⟩ := Exa.cell E_a
  obtain ⟨_, _, ⟨T22, L22, k22, n22⟩, -, X22, ⟨Lc22, hQ22, l22, y22, z22⟩, st22⟩ := X21.privateBack hx (y := yy10) hown (mvT hZ (hw _ (mo 73 rfl))) (mvT hZ (hw _ (mo 74 rfl))) (mvT hZ (hw _ (mo 76 rfl))) (Cond.privateMethod_at (mvP hZ (hw _ (mo 75 rfl)) (args := #[]))) (mvT hZ (hw _ (mo 77 rfl))) (by decide) (backOf (W := 0) (grw2 l Z a0 hw [] a aD kD h0 n0 Z0 O0 E_a F_modCount_a F_elementData_a F_size_a g_a S_DE V_aD) hZ (hw _ (mo 77 rfl)) (hw _ (mo 32 rfl)) (by decide) (by decide)) (g := (mkF m 7 #[vr a] [(.int (1 : Int32)), (.ref a)])) rfl (by rw [hml]; rfl) (Steps.refl _) (a := a) (by rw [e21]; exact q22) q22' (argsL := [(.int (1 : Int32))]) (rest := []) (lenOf pd_5 rfl) rfl (Nat.le_of_eq rfl) (hb hby d12_7) (fun _ _ => ⟨rfl, e21, (by decide : 1 ≤ _), (by decide : 10 ≤ _)⟩)
  dsimp only [Pt.U, Pt.locs, Pt.cells, Pt.slots] at X22 l22 y22 z22 st22 hQ22
  subst l22 y22 z22
  obtain ⟨d22, kd22, rfl, N22q, K22, zd22, Fm22, Fe22, Fz22, V22, O22⟩ := hQ22
  have N22 := Fr.app (Fr.nil n0) N22q
  have KK22 : Keep h0 T22.heap [a] := Keep.trans (Keep.refl h0 [a]) K22 (allS (Or.inl (mo 0 rfl)) all0)
  have sz_d22 : h0.size ≤ d22 := Nat.le_trans (Keep.refl h0 [a]).1 zd22
  have g_d22 : n0 ≤ d22 := Nat.le_trans Z0 sz_d22
  refine bN T22 (mkF m 10 #[vr a] [(.ref d22)]) (fun _ k => st22.trans k) ?_
  refine own_ret X22 hlk (v := some (.ref d22)) (nvr Bd.returns) (fun fs hr => retOut X22 hx Bd.returns rfl (Or.inr (Or.inr (Or.inr (Or.inr ⟨rfl, rfl, rfl⟩)))) (hb hby d12_10) hr) ?_ (by decide) (by decide)
  exact ⟨_, _, rfl, N22, KK22, sz_d22, Fm22, Fe22, Fz22, V22, O22⟩
theorem d11_0 : decode jdk_38_method_24_code 0 = .ok (.iload_n 3, 1) := by decide +kernel
theorem d11_1 : decode jdk_38_method_24_code 1 = .ok (.aload_n 2, 1) := by decide +kernel
theorem d11_2 : decode jdk_38_method_24_code 2 = .ok (.arraylength, 1) := by decide +kernel
theorem d11_3 : decode jdk_38_method_24_code 3 = .ok (.if_icmp .ne 8, 3) := by decide +kernel
theorem d11_6 : decode jdk_38_method_24_code 6 = .ok (.aload_n 0, 1) := by decide +kernel
theorem d11_7 : decode jdk_38_method_24_code 7 = .ok (.invokevirtual 129, 3) := by decide +kernel
theorem d11_10 : decode jdk_38_method_24_code 10 = .ok (.astore_n 2, 1) := by decide +kernel
theorem d11_11 : decode jdk_38_method_24_code 11 = .ok (.aload_n 2, 1) := by decide +kernel
theorem d11_12 : decode jdk_38_method_24_code 12 = .ok (.iload_n 3, 1) := by decide +kernel
theorem d11_13 : decode jdk_38_method_24_code 13 = .ok (.aload_n 1, 1) := by decide +kernel
theorem d11_14 : decode jdk_38_method_24_code 14 = .ok (.aastore, 1) := by decide +kernel
theorem d11_15 : decode jdk_38_method_24_code 15 = .ok (.aload_n 0, 1) := by decide +kernel
theorem d11_16 : decode jdk_38_method_24_code 16 = .ok (.iload_n 3, 1) := by decide +kernel
theorem d11_17 : decode jdk_38_method_24_code 17 = .ok (.iconst 1, 1) := by decide +kernel
theorem d11_18 : decode jdk_38_method_24_code 18 = .ok (.iadd, 1) := by decide +kernel
theorem d11_19 : decode jdk_38_method_24_code 19 = .ok (.putfield 48, 3) := by decide +kernel
theorem d11_22 : decode jdk_38_method_24_code 22 = .ok (.return_, 1) := by decide +kernel
theorem pn_11 : plainName sL = true := by first | (simp [plainName, overriddenIn]; done) | decide +kernel
theorem ef_ad3s_0 (m : MethodId) (a e9 aD : Addr) : entryFrame m #[(.ref a), (.ref e9), (.ref aD), (ii 0)] 4 = mkF m 0 #[vr a, vr e9, vr aD, vi 0] [] := rfl
def Q_ad3s_0 (Z : State) (a e9 : Addr) (aD aD : Addr) (kD : ClassId) (KK : String) (h0 : Heap) (n0 : Nat) (v : Option Value) (h : Heap) (L : List Loc) : Prop := v = none ∧ Fr n0 L ∧ Keep h0 h [a] ∧ ∃ (d : Addr) (kd : ClassId), h0.size ≤ d ∧ Fld Z h a sB "modCount" "I" (.int (1 : Int32)) ∧ Fld Z h a sL "elementData" sE (.ref d) ∧ Fld Z h a sL "size" "I" (.int (1 : Int32)) ∧ Arv Z h d kd (.object sO) (10 : Int32) [(.ref e9), .null, .null, .null, .null, .null, .null, .null, .null, .null] .null ∧ Ovr Z kd sO
theorem ad3s_0 (l : Launch) (Z : State) (a0 : Array Value) (hw : HW Z a0) (ws : List Jvm.Cond) (a e9 : Addr) (aD aD : Addr) (kD : ClassId) (KK : String) (h0 : Heap) (n0 : Nat) (Z0 : n0 ≤ h0.size) (O0 : Old Z n0 h0) (E_a : Exa Z h0 a sL) (F_modCount_a : Fld Z h0 a sB "modCount" "I" (.int (1 : Int32))) (F_elementData_a : Fld Z h0 a sL "elementData" sE (.ref aD)) (F_size_a : Fld Z h0 a sL "size" "I" (ii 0)) (g_a : n0 ≤ a) (S_DE : Sta Z Z.heap sL "DEFAULTCAPACITY_EMPTY_ELEMENTDATA" "[Ljava/lang/Object;" (.ref aD)) (V_aD : Arv Z Z.heap aD kD (.object sO) (0 : Int32) [] .null) (E_e9 : Exa Z h0 e9 KK) (wK : (Jvm.Cond.castable KK sO).before a0 Z = true) :
    own_M l yy12 jdk_38_method_24_code 4 none ws rr8 Z #[(.ref a), (.ref e9), (.ref aD), (ii 0)] h0 (Q_ad3s_0 Z a e9 aD aD kD KK h0 n0) := by
  refine own_bd (plainFor_of_name pn_11) fun p e s m below meth c s₁ Bd hx hby hml hown hnm hlk hZ X0 e0 => ?_
  rw [ef_ad3s_0 m a e9 aD]
  refine bN s₁ (mkF m 1 #[vr a, vr e9, vr aD, vi 0] [(ii 0)]) (fun _ k => XS.iloadN X0.here hx rfl (hb hby d11_0) rfl k) ?_
  refine bN s₁ (mkF m 2 #[vr a, vr e9, vr aD, vi 0] [(.ref aD), (ii 0)]) (fun _ k => XS.aloadN X0.here hx rfl (hb hby d11_1) rfl rfl k) ?_
  obtain ⟨cl21, Ar21, q21, S21, N_21, H21, G21⟩ := id (Arv.ext V_aD (O0).2)
  refine bN s₁ (mkF m 3 #[vr a, vr e9, vr aD, vi 0] [(ii 0), (ii 0)]) (fun _ k => X0.arraylength hx (by rw [e0]; exact Ar21.1) (State.isArrayOf_alike hZ.alike Ar21.2.1) (g := (mkF m 2 #[vr a, vr e9, vr aD, vi 0] [(.ref aD), (ii 0)])) rfl rfl (hb hby d11_2) _ (by rw [len_of S21 N_21]; exact k)) ?_
  refine bN s₁ (mkF m 6 #[vr a, vr e9, vr aD, vi 0] []) (fun _ k => XS.icmpNo X0.here hx rfl (hb hby d11_3) rfl (teq (by decide)).2 k) ?_
  refine bN s₁ (mkF m 7 #[vr a, vr e9, vr aD, vi 0] [(.ref a)]) (fun _ k => XS.aloadN X0.here hx rfl (hb hby d11_6) rfl rfl k) ?_
  obtain ⟨cq22, q22, q22'⟩ := Exa.cell E_a
  obtain ⟨_, _, ⟨T22, L22, k22, n22⟩, -, X22, ⟨Lc22, hQ22, l22, y22, z22⟩, st22⟩ := X0.privateBack hx (y := yy11) hown (mvT hZ (hw _ (mo 68 rfl))) (mvT hZ (hw _ (mo 69 rfl))) (mvT hZ (hw _ (mo 71 rfl))) (Cond.privateMethod_at (mvP hZ (hw _ (mo 70 rfl)) (args := #[]))) (mvT hZ (hw _ (mo 72 rfl))) (by decide) (backOf (W := 0) (grw1 l Z a0 hw [] a aD kD h0 n0 Z0 O0 E_a F_modCount_a F_elementData_a F_size_a g_a S_DE V_aD) hZ (hw _ (mo 72 rfl)) (hw _ (mo 32 rfl)) (by decide) (by decide)) (g := (mkF m 7 #[vr a, vr e9, vr aD, vi 0] [(.ref a)])) rfl (by rw [hml]; rfl) (Steps.refl _) (a := a) (by rw [e0]; exact q22) q22' (argsL := []) (rest := []) (lenOf pd_6 rfl) rfl (Nat.le_of_eq rfl) (hb hby d11_7) (fun _ _ => ⟨rfl, e0, (by decide : 1 ≤ _), (by decide : 10 ≤ _)⟩)
  dsimp only [Pt.U, Pt.locs, Pt.cells, Pt.slots] at X22 l22 y22 z22 st22 hQ22
  subst l22 y22 z22
  obtain ⟨d22, kd22, rfl, N22q, K22, zd22, Fm22, Fe22, Fz22, V22, O22⟩ := hQ22
  have N22 := Fr.app (Fr.nil n0) N22q
  have KK22 : Keep h0 T22.heap [a] := Keep.trans (Keep.refl h0 [a]) K22 (allS (Or.inl (mo 0 rfl)) all0)
  have sz_d22 : h0.size ≤ d22 := Nat.le_trans (Keep.refl h0 [a]).1 zd22
  have g_d22 : n0 ≤ d22 := Nat.le_trans Z0 sz_d22
  refine bN T22 (mkF m 10 #[vr a, vr e9, vr aD, vi 0] [(.ref d22)]) (fun _ k => st22.trans k) ?_
  refine bN T22 (mkF m 11 #[vr a, vr e9, vr d22, vi 0] []) (fun _ k => XS.astoreN X22.here hx rfl (hb hby d11_10) rfl rfl rfl k) ?_
  refine bN T22 (mkF m 12 #[vr a, vr e9, vr d22, vi 0] [(.ref d22)]) (fun _ k => XS.aloadN X22.here hx rfl (hb hby d11_11) rfl rfl k) ?_
  refine bN T22 (mkF m 13 #[vr a, vr e9, vr d22, vi 0] [(ii 0), (.ref d22)]) (fun _ k => XS.iloadN X22.here hx rfl (hb hby d11_12) rfl k) ?_
  refine bN T22 (mkF m 14 #[vr a, vr e9, vr d22, vi 0] [(.ref e9), (ii 0), (.ref d22)]) (fun _ k => XS.aloadN X22.here hx rfl (hb hby d11_13) rfl rfl k) ?_
  obtain ⟨cl23, Ar23, q23, S23, N_23, H23, G23⟩ := id V22
  have hin23 : ¬ ((0 : Int32) < 0 ∨ cl23.slots.size ≤ ((0 : Int32)).toNatClampNeg) := inb_of S23 ⟨by decide, by decide⟩
  obtain ⟨T24, h24, X24, e24, W24, st24⟩ := stR X22 hx hZ rfl Ar23 (j := (0 : Int32)) hin23 rfl (Sto.ofV Ar23 q23 O22 (Ins.of_exa (Exa.keep E_e9 K22) wK)) (g := (mkF m 14 #[vr a, vr e9, vr d22, vi 0] [(.ref e9), (ii 0), (.ref d22)])) rfl rfl (hb hby d11_14)
  have V24 : Arv Z h24 d22 kd22 (.object sO) (10 : Int32) [(.ref e9), .null, .null, .null, .null, .null, .null, .null, .null, .null] .null := Arv.set Ar23 q23 S23 N_23 H23 G23 rfl W24 0 rfl (Nat.le_of_ble_eq_true rfl)
  have K24 : Keep h0 h24 [a] := Keep.wr KK22 W24 (Or.inr sz_d22)
  have N24 := Fr.snoc X24 N22 g_d22
  refine bN T24 (mkF m 15 #[vr a, vr e9, vr d22, vi 0] []) (fun _ k => st24 _ k) ?_
  refine bN T24 (mkF m 16 #[vr a, vr e9, vr d22, vi 0] [(.ref a)]) (fun _ k => XS.aloadN X24.here hx rfl (hb hby d11_15) rfl rfl k) ?_
  refine bN T24 (mkF m 17 #[vr a, vr e9, vr d22, vi 0] [(ii 0), (.ref a)]) (fun _ k => XS.iloadN X24.here hx rfl (hb hby d11_16) rfl k) ?_
  refine bN T24 (mkF m 18 #[vr a, vr e9, vr d22, vi 0] [(.int (1 : Int32)), (ii 0), (.ref a)]) (fun _ k => XS.iconst X24.here hx rfl (hb hby d11_17) k) ?_
  refine bN T24 (mkF m 19 #[vr a, vr e9, vr d22, vi 0] [(.int (1 : Int32)), (.ref a)]) (fun _ k => XS.iadd X24.here hx rfl (hb hby d11_18) rfl k) ?_
  have ne25 : a ≠ d22 := (Nat.ne_of_lt (Nat.lt_of_lt_of_le (E_a).lt zd22))
  obtain ⟨T26, h26, X26, e26, W26, st26⟩ := putF X24 hx hZ hown (host := "") (Or.inl (hw _ (mo 61 rfl))) Via.refl e24 (Fld.other W24 Fz22 (Or.inl ne25)) (Exa.wr W24 (Exa.keep E_a K22)) (Or.inl (hw _ (mo 62 rfl))) (hw _ (mo 31 rfl)) (ty := .int) (by decide) rfl rfl (g := (mkF m 19 #[vr a, vr e9, vr d22, vi 0] [(.int (1 : Int32)), (.ref a)])) rfl rfl (hb hby d11_19)
  have Fw26 : Fld Z h26 a sL "size" "I" (.int (1 : Int32)) := Fld.same W26 (Fld.other W24 Fz22 (Or.inl ne25))
  have K26 : Keep h0 h26 [a] := Keep.wr K24 W26 (Or.inl (mo 0 rfl))
  have N26 := Fr.snoc X26 N24 g_a
  refine bN T26 (mkF m 22 #[vr a, vr e9, vr d22, vi 0] []) (fun _ k => st26 _ k) ?_
  refine own_ret X26 hlk (v := none) (fun _ => rfl) (fun fs hr => X26.returnOut hx Bd.returns (hb hby d11_22) hr) ?_ (by decide) (by decide)
  rw [e26]
  exact ⟨rfl, N26, K26, _, _, sz_d22, (Fld.other W26 (Fld.other W24 Fm22 (Or.inl ne25)) (Or.inr (slot_ne (a0 := a0) (Or.inl (hw _ (mo 50 rfl))) (Or.inl (hw _ (mo 62 rfl))) (by decide) (t := .int) (t' := .int) (by decide) (by decide)))), (Fld.other W26 (Fld.other W24 Fe22 (Or.inl ne25)) (Or.inr (slot_ne (a0 := a0) (Or.inl (hw _ (mo 53 rfl))) (Or.inl (hw _ (mo 62 rfl))) (by decide) (t := (.array (.object sO))) (t' := .int) (by decide) (by decide)))), Fw26, (Arv.other V24 W26 (Ne.symm ne25)), O22⟩
theorem d10_0 : decode jdk_38_method_25_code 0 = .ok (.aload_n 0, 1) := by decide +kernel
theorem d10_1 : decode jdk_38_method_25_code 1 = .ok (.dup, 1) := by decide +kernel
theorem d10_2 : decode jdk_38_method_25_code 2 = .ok (.getfield 63, 3) := by decide +kernel
theorem d10_5 : decode jdk_38_method_25_code 5 = .ok (.iconst 1, 1) := by decide +kernel
theorem d10_6 : decode jdk_38_method_25_code 6 = .ok (.iadd, 1) := by decide +kernel
theorem d10_7 : decode jdk_38_method_25_code 7 = .ok (.putfield 63, 3) := by decide +kernel
theorem d10_10 : decode jdk_38_method_25_code 10 = .ok (.aload_n 0, 1) := by decide +kernel
theorem d10_11 : decode jdk_38_method_25_code 11 = .ok (.aload_n 1, 1) := by decide +kernel
theorem d10_12 : decode jdk_38_method_25_code 12 = .ok (.aload_n 0, 1) := by decide +kernel
theorem d10_13 : decode jdk_38_method_25_code 13 = .ok (.getfield 9, 3) := by decide +kernel
theorem d10_16 : decode jdk_38_method_25_code 16 = .ok (.aload_n 0, 1) := by decide +kernel
theorem d10_17 : decode jdk_38_method_25_code 17 = .ok (.getfield 48, 3) := by decide +kernel
theorem d10_20 : decode jdk_38_method_25_code 20 = .ok (.invokevirtual 131, 3) := by decide +kernel
theorem d10_23 : decode jdk_38_method_25_code 23 = .ok (.iconst 1, 1) := by decide +kernel
theorem d10_24 : decode jdk_38_method_25_code 24 = .ok (.ireturn, 1) := by decide +kernel
theorem pn_10 : plainName sL = true := by first | (simp [plainName, overriddenIn]; done) | decide +kernel
theorem ef_ad1s_0 (m : MethodId) (a e9 : Addr) : entryFrame m #[(.ref a), (.ref e9)] 2 = mkF m 0 #[vr a, vr e9] [] := rfl
def Q_ad1s_0 (Z : State) (a e9 aD : Addr) (kD : ClassId) (KK : String) (h0 : Heap) (n0 : Nat) (v : Option Value) (h : Heap) (L : List Loc) : Prop := v = some (.int (1 : Int32)) ∧ Fr n0 L ∧ Keep h0 h [a] ∧ ∃ (d : Addr) (kd : ClassId), h0.size ≤ d ∧ Fld Z h a sB "modCount" "I" (.int (1 : Int32)) ∧ Fld Z h a sL "elementData" sE (.ref d) ∧ Fld Z h a sL "size" "I" (.int (1 : Int32)) ∧ Arv Z h d kd (.object sO) (10 : Int32) [(.ref e9), .null, .null, .null, .null, .null, .null, .null, .null, .null] .null ∧ Ovr Z kd sO
theorem ad1s_0 (l : Launch) (Z : State) (a0 : Array Value) (hw : HW Z a0) (ws : List Jvm.Cond) (a e9 aD : Addr) (kD : ClassId) (KK : String) (h0 : Heap) (n0 : Nat) (Z0 : n0 ≤ h0.size) (O0 : Old Z n0 h0) (E_a : Exa Z h0 a sL) (F_modCount_a : Fld Z h0 a sB "modCount" "I" (ii 0)) (F_elementData_a : Fld Z h0 a sL "elementData" sE (.ref aD)) (F_size_a : Fld Z h0 a sL "size" "I" (ii 0)) (g_a : n0 ≤ a) (S_DE : Sta Z Z.heap sL "DEFAULTCAPACITY_EMPTY_ELEMENTDATA" "[Ljava/lang/Object;" (.ref aD)) (V_aD : Arv Z Z.heap aD kD (.object sO) (0 : Int32) [] .null) (E_e9 : Exa Z h0 e9 KK) (wK : (Jvm.Cond.castable KK sO).before a0 Z = true) :
    own_M l yy13 jdk_38_method_25_code 2 (some .boolean) ws rr9 Z #[(.ref a), (.ref e9)] h0 (Q_ad1s_0 Z a e9 aD kD KK h0 n0) := by
  refine own_bd (plainFor_of_name pn_10) fun p e s m below meth c s₁ Bd hx hby hml hown hnm hlk hZ X0 e0 => ?_
  rw [ef_ad1s_0 m a e9]
  refine bN s₁ (mkF m 1 #[vr a, vr e9] [(.ref a)]) (fun _ k => XS.aloadN X0.here hx rfl (hb hby d10_0) rfl rfl k) ?_
  refine bN s₁ (mkF m 2 #[vr a, vr e9] [(.ref a), (.ref a)]) (fun _ k => XS.dup X0.here hx rfl (hb hby d10_1) rfl rfl k) ?_
  obtain ⟨T21, X21, e21, st21⟩ := getF X0 hx hZ hown (host := "") (Or.inl (hw _ (mo 59 rfl))) (Via.of (hw _ (mo 60 rfl))) e0 F_modCount_a (g := (mkF m 2 #[vr a, vr e9] [(.ref a), (.ref a)])) rfl rfl (hb hby d10_2)
  refine bN T21 (mkF m 5 #[vr a, vr e9] [(ii 0), (.ref a)]) (fun _ k => st21 _ k) ?_
  refine bN T21 (mkF m 6 #[vr a, vr e9] [(.int (1 : Int32)), (ii 0), (.ref a)]) (fun _ k => XS.iconst X21.here hx rfl (hb hby d10_5) k) ?_
  refine bN T21 (mkF m 7 #[vr a, vr e9] [(.int (1 : Int32)), (.ref a)]) (fun _ k => XS.iadd X21.here hx rfl (hb hby d10_6) rfl k) ?_
  obtain ⟨T22, h22, X22, e22, W22, st22⟩ := putF X21 hx hZ hown (host := "") (Or.inl (hw _ (mo 59 rfl))) (Via.of (hw _ (mo 60 rfl))) e21 F_modCount_a E_a (Or.inl (hw _ (mo 50 rfl))) (hw _ (mo 31 rfl)) (ty := .int) (by decide) rfl rfl (g := (mkF m 7 #[vr a, vr e9] [(.int (1 : Int32)), (.ref a)])) rfl rfl (hb hby d10_7)
  have Fw22 : Fld Z h22 a sB "modCount" "I" (.int (1 : Int32)) := Fld.same W22 F_modCount_a
  have K22 : Keep h0 h22 [a] := Keep.wr (Keep.refl h0 [a]) W22 (Or.inl (mo 0 rfl))
  have N22 := Fr.snoc X22 (Fr.nil n0) g_a
  refine bN T22 (mkF m 10 #[vr a, vr e9] []) (fun _ k => st22 _ k) ?_
  refine bN T22 (mkF m 11 #[vr a, vr e9] [(.ref a)]) (fun _ k => XS.aloadN X22.here hx rfl (hb hby d10_10) rfl rfl k) ?_
  refine bN T22 (mkF m 12 #[vr a, vr e9] [(.ref e9), (.ref a)]) (fun _ k => XS.aloadN X22.here hx rfl (hb hby d10_11) rfl rfl k) ?_
  refine bN T22 (mkF m 13 #[vr a, vr e9] [(.ref a), (.ref e9), (.ref a)]) (fun _ k => XS.aloadN X22.here hx rfl (hb hby d10_12) rfl rfl k) ?_
  obtain ⟨T23, X23, e23, st23⟩ := getF X22 hx hZ hown (host := "") (Or.inl (hw _ (mo 52 rfl))) Via.refl e22 (Fld.other W22 F_elementData_a (Or.inr (slot_ne (a0 := a0) (Or.inl (hw _ (mo 53 rfl))) (Or.inl (hw _ (mo 50 rfl))) (by decide) (t := (.array (.object sO))) (t' := .int) (by decide) (by decide)))) (g := (mkF m 13 #[vr a, vr e9] [(.ref a), (.ref e9), (.ref a)])) rfl rfl (hb hby d10_13)
  refine bN T23 (mkF m 16 #[vr a, vr e9] [(.ref aD), (.ref e9), (.ref a)]) (fun _ k => st23 _ k) ?_
  refine bN T23 (mkF m 17 #[vr a, vr e9] [(.ref a), (.ref aD), (.ref e9), (.ref a)]) (fun _ k => XS.aloadN X23.here hx rfl (hb hby d10_16) rfl rfl k) ?_
  obtain ⟨T24, X24, e24, st24⟩ := getF X23 hx hZ hown (host := "") (Or.inl (hw _ (mo 61 rfl))) Via.refl e23 (Fld.other W22 F_size_a (Or.inr (slot_ne (a0 := a0) (Or.inl (hw _ (mo 62 rfl))) (Or.inl (hw _ (mo 50 rfl))) (by decide) (t := .int) (t' := .int) (by decide) (by decide)))) (g := (mkF m 17 #[vr a, vr e9] [(.ref a), (.ref aD), (.ref e9), (.ref a)])) rfl rfl (hb hby d10_17)
  refine bN T24 (mkF m 20 #[vr a, vr e9] [(ii 0), (.ref aD), (.ref e9), (.ref a)]) (fun _ k => st24 _ k) ?_
  obtain ⟨cq25, q25, q25'⟩ := Exa.cell (Exa.wr W22 E_a)
  obtain ⟨_, _, ⟨T25, L25, k25, n25⟩, -, X25, ⟨Lc25, hQ25, l25, y25, z25⟩, st25⟩ := X24.privateBack hx (y := yy12) hown (mvT hZ (hw _ (mo 63 rfl))) (mvT hZ (hw _ (mo 64 rfl))) (mvT hZ (hw _ (mo 66 rfl))) (Cond.privateMethod_at (mvP hZ (hw _ (mo 65 rfl)) (args := #[]))) (mvT hZ (hw _ (mo 67 rfl))) (by decide) (backOf (W := 0) (ad3s_0 l Z a0 hw [] a e9 aD aD kD KK h22 n0 (Nat.le_trans Z0 (Keep.of_wr W22).1) (Old.wr O0 W22 g_a) (Exa.wr W22 E_a) Fw22 (Fld.other W22 F_elementData_a (Or.inr (slot_ne (a0 := a0) (Or.inl (hw _ (mo 53 rfl))) (Or.inl (hw _ (mo 50 rfl))) (by decide) (t := (.array (.object sO))) (t' := .int) (by decide) (by decide)))) (Fld.other W22 F_size_a (Or.inr (slot_ne (a0 := a0) (Or.inl (hw _ (mo 62 rfl))) (Or.inl (hw _ (mo 50 rfl))) (by decide) (t := .int) (t' := .int) (by decide) (by decide)))) g_a S_DE V_aD (Exa.wr W22 E_e9) wK) hZ (hw _ (mo 67 rfl)) (hw _ (mo 32 rfl)) (by decide) (by decide)) (g := (mkF m 20 #[vr a, vr e9] [(ii 0), (.ref aD), (.ref e9), (.ref a)])) rfl (by rw [hml]; rfl) (Steps.refl _) (a := a) (by rw [e24]; exact q25) q25' (argsL := [(.ref e9), (.ref aD), (ii 0)]) (rest := []) (lenOf pd_7 rfl) rfl (Nat.le_of_eq rfl) (hb hby d10_20) (fun _ _ => ⟨rfl, e24, (by decide : 1 ≤ _), (by decide : 10 ≤ _)⟩)
  dsimp only [Pt.U, Pt.locs, Pt.cells, Pt.slots] at X25 l25 y25 z25 st25 hQ25
  subst l25 y25 z25
  obtain ⟨rfl, N25q, K25, d25, kd25, zd25, Fm25, Fe25, Fz25, V25, O25⟩ := hQ25
  have N25 := Fr.app N22 N25q
  have KK25 : Keep h0 T25.heap [a] := Keep.trans K22 K25 (allS (Or.inl (mo 0 rfl)) all0)
  have sz_d25 : h0.size ≤ d25 := Nat.le_trans K22.1 zd25
  have g_d25 : n0 ≤ d25 := Nat.le_trans Z0 sz_d25
  refine bN T25 (mkF m 23 #[vr a, vr e9] []) (fun _ k => st25.trans k) ?_
  refine bN T25 (mkF m 24 #[vr a, vr e9] [(.int (1 : Int32))]) (fun _ k => XS.iconst X25.here hx rfl (hb hby d10_23) k) ?_
  refine own_ret X25 hlk (v := some (.int (1 : Int32))) (nvr Bd.returns) (fun fs hr => retN X25 hx (t := .boolean) Bd.returns (by simp) (hb hby d10_24) hr) ?_ (by decide) (by decide)
  exact ⟨rfl, N25, KK25, _, _, sz_d25, Fm25, Fe25, Fz25, V25, O25⟩
theorem ef_ad3s_1 (m : MethodId) (a e9 dd : Addr) : entryFrame m #[(.ref a), (.ref e9), (.ref dd), (.int (1 : Int32))] 4 = mkF m 0 #[vr a, vr e9, vr dd, vi 1] [] := rfl
def Q_ad3s_1 (Z : State) (a e9 : Addr) (dd dd : Addr) (kd : ClassId) (y0 : Addr) (KK : String) (h0 : Heap) (n0 : Nat) (v : Option Value) (h : Heap) (L : List Loc) : Prop := v = none ∧ Fr n0 L ∧ Keep h0 h [dd, a] ∧ Fld Z h a sB "modCount" "I" (.int (2 : Int32)) ∧ Fld Z h a sL "elementData" sE (.ref dd) ∧ Fld Z h a sL "size" "I" (.int (2 : Int32)) ∧ Arv Z h dd kd (.object sO) (10 : Int32) [(.ref y0), (.ref e9), .null, .null, .null, .null, .null, .null, .null, .null] .null
theorem ad3s_1 (l : Launch) (Z : State) (a0 : Array Value) (hw : HW Z a0) (ws : List Jvm.Cond) (a e9 : Addr) (dd dd : Addr) (kd : ClassId) (y0 : Addr) (KK : String) (h0 : Heap) (n0 : Nat) (Z0 : n0 ≤ h0.size) (E_a : Exa Z h0 a sL) (F_modCount_a : Fld Z h0 a sB "modCount" "I" (.int (2 : Int32))) (F_elementData_a : Fld Z h0 a sL "elementData" sE (.ref dd)) (F_size_a : Fld Z h0 a sL "size" "I" (.int (1 : Int32))) (g_a : n0 ≤ a) (V_dd : Arv Z h0 dd kd (.object sO) (10 : Int32) [(.ref y0), .null, .null, .null, .null, .null, .null, .null, .null, .null] .null) (O_dd : Ovr Z kd sO) (g_dd : n0 ≤ dd) (nead : a ≠ dd) (E_e9 : Exa Z h0 e9 KK) (wK : (Jvm.Cond.castable KK sO).before a0 Z = true) :
    own_M l yy12 jdk_38_method_24_code 4 none ws rr0 Z #[(.ref a), (.ref e9), (.ref dd), (.int (1 : Int32))] h0 (Q_ad3s_1 Z a e9 dd dd kd y0 KK h0 n0) := by
  refine own_bd (plainFor_of_name pn_11) fun p e s m below meth c s₁ Bd hx hby hml hown hnm hlk hZ X0 e0 => ?_
  rw [ef_ad3s_1 m a e9 dd]
  refine bN s₁ (mkF m 1 #[vr a, vr e9, vr dd, vi 1] [(.int (1 : Int32))]) (fun _ k => XS.iloadN X0.here hx rfl (hb hby d11_0) rfl k) ?_
  refine bN s₁ (mkF m 2 #[vr a, vr e9, vr dd, vi 1] [(.ref dd), (.int (1 : Int32))]) (fun _ k => XS.aloadN X0.here hx rfl (hb hby d11_1) rfl rfl k) ?_
  obtain ⟨cl21, Ar21, q21, S21, N_21, H21, G21⟩ := id V_dd
  refine bN s₁ (mkF m 3 #[vr a, vr e9, vr dd, vi 1] [(.int (10 : Int32)), (.int (1 : Int32))]) (fun _ k => X0.arraylength hx (by rw [e0]; exact Ar21.1) (State.isArrayOf_alike hZ.alike Ar21.2.1) (g := (mkF m 2 #[vr a, vr e9, vr dd, vi 1] [(.ref dd), (.int (1 : Int32))])) rfl rfl (hb hby d11_2) _ (by rw [len_of S21 N_21]; exact k)) ?_
  refine bN s₁ (mkF m 11 #[vr a, vr e9, vr dd, vi 1] []) (fun _ k => XS.icmpYes X0.here hx rfl (pc0 := 3) (pc' := 11) rfl (hb hby d11_3) rfl (feq (by decide)).2 (by decide) (by decide) k) ?_
  refine bN s₁ (mkF m 12 #[vr a, vr e9, vr dd, vi 1] [(.ref dd)]) (fun _ k => XS.aloadN X0.here hx rfl (hb hby d11_11) rfl rfl k) ?_
  refine bN s₁ (mkF m 13 #[vr a, vr e9, vr dd, vi 1] [(.int (1 : Int32)), (.ref dd)]) (fun _ k => XS.iloadN X0.here hx rfl (hb hby d11_12) rfl k) ?_
  refine bN s₁ (mkF m 14 #[vr a, vr e9, vr dd, vi 1] [(.ref e9), (.int (1 : Int32)), (.ref dd)]) (fun _ k => XS.aloadN X0.here hx rfl (hb hby d11_13) rfl rfl k) ?_
  obtain ⟨cl22, Ar22, q22, S22, N_22, H22, G22⟩ := id V_dd
  have hin22 : ¬ ((1 : Int32) < 0 ∨ cl22.slots.size ≤ ((1 : Int32)).toNatClampNeg) := inb_of S22 ⟨by decide, by decide⟩
  obtain ⟨T23, h23, X23, e23, W23, st23⟩ := stR X0 hx hZ e0 Ar22 (j := (1 : Int32)) hin22 rfl (Sto.ofV Ar22 q22 O_dd (Ins.of_exa E_e9 wK)) (g := (mkF m 14 #[vr a, vr e9, vr dd, vi 1] [(.ref e9), (.int (1 : Int32)), (.ref dd)])) rfl rfl (hb hby d11_14)
  have V23 : Arv Z h23 dd kd (.object sO) (10 : Int32) [(.ref y0), (.ref e9), .null, .null, .null, .null, .null, .null, .null, .null] .null := Arv.set Ar22 q22 S22 N_22 H22 G22 rfl W23 1 rfl (Nat.le_of_ble_eq_true rfl)
  have K23 : Keep h0 h23 [dd, a] := Keep.wr (Keep.refl h0 [dd, a]) W23 (Or.inl (mo 0 rfl))
  have N23 := Fr.snoc X23 (Fr.nil n0) g_dd
  refine bN T23 (mkF m 15 #[vr a, vr e9, vr dd, vi 1] []) (fun _ k => st23 _ k) ?_
  refine bN T23 (mkF m 16 #[vr a, vr e9, vr dd, vi 1] [(.ref a)]) (fun _ k => XS.aloadN X23.here hx rfl (hb hby d11_15) rfl rfl k) ?_
  refine bN T23 (mkF m 17 #[vr a, vr e9, vr dd, vi 1] [(.int (1 : Int32)), (.ref a)]) (fun _ k => XS.iloadN X23.here hx rfl (hb hby d11_16) rfl k) ?_
  refine bN T23 (mkF m 18 #[vr a, vr e9, vr dd, vi 1] [(.int (1 : Int32)), (.int (1 : Int32)), (.ref a)]) (fun _ k => XS.iconst X23.here hx rfl (hb hby d11_17) k) ?_
  refine bN T23 (mkF m 19 #[vr a, vr e9, vr dd, vi 1] [(.int (2 : Int32)), (.ref a)]) (fun _ k => XS.iadd X23.here hx rfl (hb hby d11_18) rfl k) ?_
  obtain ⟨T24, h24, X24, e24, W24, st24⟩ := putF X23 hx hZ hown (host := "") (Or.inl (hw _ (mo 61 rfl))) Via.refl e23 (Fld.other W23 F_size_a (Or.inl nead)) (Exa.wr W23 E_a) (Or.inl (hw _ (mo 62 rfl))) (hw _ (mo 31 rfl)) (ty := .int) (by decide) rfl rfl (g := (mkF m 19 #[vr a, vr e9, vr dd, vi 1] [(.int (2 : Int32)), (.ref a)])) rfl rfl (hb hby d11_19)
  have Fw24 : Fld Z h24 a sL "size" "I" (.int (2 : Int32)) := Fld.same W24 (Fld.other W23 F_size_a (Or.inl nead))
  have K24 : Keep h0 h24 [dd, a] := Keep.wr K23 W24 (Or.inl (mo 1 rfl))
  have N24 := Fr.snoc X24 N23 g_a
  refine bN T24 (mkF m 22 #[vr a, vr e9, vr dd, vi 1] []) (fun _ k => st24 _ k) ?_
  refine own_ret X24 hlk (v := none) (fun _ => rfl) (fun fs hr => X24.returnOut hx Bd.returns (hb hby d11_22) hr) ?_ (by decide) (by decide)
  rw [e24]
  exact ⟨rfl, N24, K24, (Fld.other W24 (Fld.other W23 F_modCount_a (Or.inl nead)) (Or.inr (slot_ne (a0 := a0) (Or.inl (hw _ (mo 50 rfl))) (Or.inl (hw _ (mo 62 rfl))) (by decide) (t := .int) (t' := .int) (by decide) (by decide)))), (Fld.other W24 (Fld.other W23 F_elementData_a (Or.inl nead)) (Or.inr (slot_ne (a0 := a0) (Or.inl (hw _ (mo 53 rfl))) (Or.inl (hw _ (mo 62 rfl))) (by decide) (t := (.array (.object sO))) (t' := .int) (by decide) (by decide)))), Fw24, (Arv.other V23 W24 (Ne.symm nead))⟩
theorem ef_ad1s_1 (m : MethodId) (a e9 : Addr) : entryFrame m #[(.ref a), (.ref e9)] 2 = mkF m 0 #[vr a, vr e9] [] := rfl
def Q_ad1s_1 (Z : State) (a e9 dd : Addr) (kd : ClassId) (y0 : Addr) (KK : String) (h0 : Heap) (n0 : Nat) (v : Option Value) (h : Heap) (L : List Loc) : Prop := v = some (.int (1 : Int32)) ∧ Fr n0 L ∧ Keep h0 h [a, dd] ∧ Fld Z h a sB "modCount" "I" (.int (2 : Int32)) ∧ Fld Z h a sL "elementData" sE (.ref dd) ∧ Fld Z h a sL "size" "I" (.int (2 : Int32)) ∧ Arv Z h dd kd (.object sO) (10 : Int32) [(.ref y0), (.ref e9), .null, .null, .null, .null, .null, .null, .null, .null] .null
theorem ad1s_1 (l : Launch) (Z : State) (a0 : Array Value) (hw : HW Z a0) (ws : List Jvm.Cond) (a e9 dd : Addr) (kd : ClassId) (y0 : Addr) (KK : String) (h0 : Heap) (n0 : Nat) (Z0 : n0 ≤ h0.size) (E_a : Exa Z h0 a sL) (F_modCount_a : Fld Z h0 a sB "modCount" "I" (.int (1 : Int32))) (F_elementData_a : Fld Z h0 a sL "elementData" sE (.ref dd)) (F_size_a : Fld Z h0 a sL "size" "I" (.int (1 : Int32))) (g_a : n0 ≤ a) (V_dd : Arv Z h0 dd kd (.object sO) (10 : Int32) [(.ref y0), .null, .null, .null, .null, .null, .null, .null, .null, .null] .null) (O_dd : Ovr Z kd sO) (g_dd : n0 ≤ dd) (nead : a ≠ dd) (E_e9 : Exa Z h0 e9 KK) (wK : (Jvm.Cond.castable KK sO).before a0 Z = true) :
    own_M l yy13 jdk_38_method_25_code 2 (some .boolean) ws rr10 Z #[(.ref a), (.ref e9)] h0 (Q_ad1s_1 Z a e9 dd kd y0 KK h0 n0) := by
  refine own_bd (plainFor_of_name pn_10) fun p e s m below meth c s₁ Bd hx hby hml hown hnm hlk hZ X0 e0 => ?_
  rw [ef_ad1s_1 m a e9]
  refine bN s₁ (mkF m 1 #[vr a, vr e9] [(.ref a)]) (fun _ k => XS.aloadN X0.here hx rfl (hb hby d10_0) rfl rfl k) ?_
  refine bN s₁ (mkF m 2 #[vr a, vr e9] [(.ref a), (.ref a)]) (fun _ k => XS.dup X0.here hx rfl (hb hby d10_1) rfl rfl k) ?_
  obtain ⟨T21, X21, e21, st21⟩ := getF X0 hx hZ hown (host := "") (Or.inl (hw _ (mo 59 rfl))) (Via.of (hw _ (mo 60 rfl))) e0 F_modCount_a (g := (mkF m 2 #[vr a, vr e9] [(.ref a), (.ref a)])) rfl rfl (hb hby d10_2)
  refine bN T21 (mkF m 5 #[vr a, vr e9] [(.int (1 : Int32)), (.ref a)]) (fun _ k => st21 _ k) ?_
  refine bN T21 (mkF m 6 #[vr a, vr e9] [(.int (1 : Int32)), (.int (1 : Int32)), (.ref a)]) (fun _ k => XS.iconst X21.here hx rfl (hb hby d10_5) k) ?_
  refine bN T21 (mkF m 7 #[vr a, vr e9] [(.int (2 : Int32)), (.ref a)]) (fun _ k => XS.iadd X21.here hx rfl (hb hby d10_6) rfl k) ?_
  obtain ⟨T22, h22, X22, e22, W22, st22⟩ := putF X21 hx hZ hown (host := "") (Or.inl (hw _ (mo 59 rfl))) (Via.of (hw _ (mo 60 rfl))) e21 F_modCount_a E_a (Or.inl (hw _ (mo 50 rfl))) (hw _ (mo 31 rfl)) (ty := .int) (by decide) rfl rfl (g := (mkF m 7 #[vr a, vr e9] [(.int (2 : Int32)), (.ref a)])) rfl rfl (hb hby d10_7)
  have Fw22 : Fld Z h22 a sB "modCount" "I" (.int (2 : Int32)) := Fld.same W22 F_modCount_a
  have K22 : Keep h0 h22 [a, dd] := Keep.wr (Keep.refl h0 [a, dd]) W22 (Or.inl (mo 0 rfl))
  have N22 := Fr.snoc X22 (Fr.nil n0) g_a
  refine bN T22 (mkF m 10 #[vr a, vr e9] []) (fun _ k => st22 _ k) ?_
  refine bN T22 (mkF m 11 #[vr a, vr e9] [(.ref a)]) (fun _ k => XS.aloadN X22.here hx rfl (hb hby d10_10) rfl rfl k) ?_
  refine bN T22 (mkF m 12 #[vr a, vr e9] [(.ref e9), (.ref a)]) (fun _ k => XS.aloadN X22.here hx rfl (hb hby d10_11) rfl rfl k) ?_
  refine bN T22 (mkF m 13 #[vr a, vr e9] [(.ref a), (.ref e9), (.ref a)]) (fun _ k => XS.aloadN X22.here hx rfl (hb hby d10_12) rfl rfl k) ?_
  obtain ⟨T23, X23, e23, st23⟩ := getF X22 hx hZ hown (host := "") (Or.inl (hw _ (mo 52 rfl))) Via.refl e22 (Fld.other W22 F_elementData_a (Or.inr (slot_ne (a0 := a0) (Or.inl (hw _ (mo 53 rfl))) (Or.inl (hw _ (mo 50 rfl))) (by decide) (t := (.array (.object sO))) (t' := .int) (by decide) (by decide)))) (g := (mkF m 13 #[vr a, vr e9] [(.ref a), (.ref e9), (.ref a)])) rfl rfl (hb hby d10_13)
  refine bN T23 (mkF m 16 #[vr a, vr e9] [(.ref dd), (.ref e9), (.ref a)]) (fun _ k => st23 _ k) ?_
  refine bN T23 (mkF m 17 #[vr a, vr e9] [(.ref a), (.ref dd), (.ref e9), (.ref a)]) (fun _ k => XS.aloadN X23.here hx rfl (hb hby d10_16) rfl rfl k) ?_
  obtain ⟨T24, X24, e24, st24⟩ := getF X23 hx hZ hown (host := "") (Or.inl (hw _ (mo 61 rfl))) Via.refl e23 (Fld.other W22 F_size_a (Or.inr (slot_ne (a0 := a0) (Or.inl (hw _ (mo 62 rfl))) (Or.inl (hw _ (mo 50 rfl))) (by decide) (t := .int) (t' := .int) (by decide) (by decide)))) (g := (mkF m 17 #[vr a, vr e9] [(.ref a), (.ref dd), (.ref e9), (.ref a)])) rfl rfl (hb hby d10_17)
  refine bN T24 (mkF m 20 #[vr a, vr e9] [(.int (1 : Int32)), (.ref dd), (.ref e9), (.ref a)]) (fun _ k => st24 _ k) ?_
  obtain ⟨cq25, q25, q25'⟩ := Exa.cell (Exa.wr W22 E_a)
  obtain ⟨_, _, ⟨T25, L25, k25, n25⟩, -, X25, ⟨Lc25, hQ25, l25, y25, z25⟩, st25⟩ := X24.privateBack hx (y := yy12) hown (mvT hZ (hw _ (mo 63 rfl))) (mvT hZ (hw _ (mo 64 rfl))) (mvT hZ (hw _ (mo 66 rfl))) (Cond.privateMethod_at (mvP hZ (hw _ (mo 65 rfl)) (args := #[]))) (mvT hZ (hw _ (mo 67 rfl))) (by decide) (backOf (W := 0) (ad3s_1 l Z a0 hw [] a e9 dd dd kd y0 KK h22 n0 (Nat.le_trans Z0 (Keep.of_wr W22).1) (Exa.wr W22 E_a) Fw22 (Fld.other W22 F_elementData_a (Or.inr (slot_ne (a0 := a0) (Or.inl (hw _ (mo 53 rfl))) (Or.inl (hw _ (mo 50 rfl))) (by decide) (t := (.array (.object sO))) (t' := .int) (by decide) (by decide)))) (Fld.other W22 F_size_a (Or.inr (slot_ne (a0 := a0) (Or.inl (hw _ (mo 62 rfl))) (Or.inl (hw _ (mo 50 rfl))) (by decide) (t := .int) (t' := .int) (by decide) (by decide)))) g_a (Arv.other V_dd W22 (Ne.symm nead)) O_dd g_dd nead (Exa.wr W22 E_e9) wK) hZ (hw _ (mo 67 rfl)) (hw _ (mo 32 rfl)) (by decide) (by decide)) (g := (mkF m 20 #[vr a, vr e9] [(.int (1 : Int32)), (.ref dd), (.ref e9), (.ref a)])) rfl (by rw [hml]; rfl) (Steps.refl _) (a := a) (by rw [e24]; exact q25) q25' (argsL := [(.ref e9), (.ref dd), (.int (1 : Int32))]) (rest := []) (lenOf pd_7 rfl) rfl (Nat.le_of_eq rfl) (hb hby d10_20) (fun _ _ => ⟨rfl, e24, (by decide : 0 ≤ _), (by decide : 0 ≤ _)⟩)
  dsimp only [Pt.U, Pt.locs, Pt.cells, Pt.slots] at X25 l25 y25 z25 st25 hQ25
  subst l25 y25 z25
  obtain ⟨rfl, N25q, K25, Fm25, Fe25, Fz25, V25⟩ := hQ25
  have N25 := Fr.app N22 N25q
  have KK25 : Keep h0 T25.heap [a, dd] := Keep.trans K22 K25 (allS (Or.inl (mo 1 rfl)) (allS (Or.inl (mo 0 rfl)) all0))
  refine bN T25 (mkF m 23 #[vr a, vr e9] []) (fun _ k => st25.trans k) ?_
  refine bN T25 (mkF m 24 #[vr a, vr e9] [(.int (1 : Int32))]) (fun _ k => XS.iconst X25.here hx rfl (hb hby d10_23) k) ?_
  refine own_ret X25 hlk (v := some (.int (1 : Int32))) (nvr Bd.returns) (fun fs hr => retN X25 hx (t := .boolean) Bd.returns (by simp) (hb hby d10_24) hr) ?_ (by decide) (by decide)
  exact ⟨rfl, N25, KK25, Fm25, Fe25, Fz25, V25⟩
theorem ef_ad3s_2 (m : MethodId) (a e9 dd : Addr) : entryFrame m #[(.ref a), (.ref e9), (.ref dd), (.int (2 : Int32))] 4 = mkF m 0 #[vr a, vr e9, vr dd, vi 2] [] := rfl
def Q_ad3s_2 (Z : State) (a e9 : Addr) (dd dd : Addr) (kd : ClassId) (y0 y1 : Addr) (KK : String) (h0 : Heap) (n0 : Nat) (v : Option Value) (h : Heap) (L : List Loc) : Prop := v = none ∧ Fr n0 L ∧ Keep h0 h [dd, a] ∧ Fld Z h a sB "modCount" "I" (.int (3 : Int32)) ∧ Fld Z h a sL "elementData" sE (.ref dd) ∧ Fld Z h a sL "size" "I" (.int (3 : Int32)) ∧ Arv Z h dd kd (.object sO) (10 : Int32) [(.ref y0), (.ref y1), (.ref e9), .null, .null, .null, .null, .null, .null, .null] .null
theorem ad3s_2 (l : Launch) (Z : State) (a0 : Array Value) (hw : HW Z a0) (ws : List Jvm.Cond) (a e9 : Addr) (dd dd : Addr) (kd : ClassId) (y0 y1 : Addr) (KK : String) (h0 : Heap) (n0 : Nat) (Z0 : n0 ≤ h0.size) (E_a : Exa Z h0 a sL) (F_modCount_a : Fld Z h0 a sB "modCount" "I" (.int (3 : Int32))) (F_elementData_a : Fld Z h0 a sL "elementData" sE (.ref dd)) (F_size_a : Fld Z h0 a sL "size" "I" (.int (2 : Int32))) (g_a : n0 ≤ a) (V_dd : Arv Z h0 dd kd (.object sO) (10 : Int32) [(.ref y0), (.ref y1), .null, .null, .null, .null, .null, .null, .null, .null] .null) (O_dd : Ovr Z kd sO) (g_dd : n0 ≤ dd) (nead : a ≠ dd) (E_e9 : Exa Z h0 e9 KK) (wK : (Jvm.Cond.castable KK sO).before a0 Z = true) :
    own_M l yy12 jdk_38_method_24_code 4 none ws rr0 Z #[(.ref a), (.ref e9), (.ref dd), (.int (2 : Int32))] h0 (Q_ad3s_2 Z a e9 dd dd kd y0 y1 KK h0 n0) := by
  refine own_bd (plainFor_of_name pn_11) fun p e s m below meth c s₁ Bd hx hby hml hown hnm hlk hZ X0 e0 => ?_
  rw [ef_ad3s_2 m a e9 dd]
  refine bN s₁ (mkF m 1 #[vr a, vr e9, vr dd, vi 2] [(.int (2 : Int32))]) (fun _ k => XS.iloadN X0.here hx rfl (hb hby d11_0) rfl k) ?_
  refine bN s₁ (mkF m 2 #[vr a, vr e9, vr dd, vi 2] [(.ref dd), (.int (2 : Int32))]) (fun _ k => XS.aloadN X0.here hx rfl (hb hby d11_1) rfl rfl k) ?_
  obtain ⟨cl21, Ar21, q21, S21, N_21, H21, G21⟩ := id V_dd
  refine bN s₁ (mkF m 3 #[vr a, vr e9, vr dd, vi 2] [(.int (10 : Int32)), (.int (2 : Int32))]) (fun _ k => X0.arraylength hx (by rw [e0]; exact Ar21.1) (State.isArrayOf_alike hZ.alike Ar21.2.1) (g := (mkF m 2 #[vr a, vr e9, vr dd, vi 2] [(.ref dd), (.int (2 : Int32))])) rfl rfl (hb hby d11_2) _ (by rw [len_of S21 N_21]; exact k)) ?_
  refine bN s₁ (mkF m 11 #[vr a, vr e9, vr dd, vi 2] []) (fun _ k => XS.icmpYes X0.here hx rfl (pc0 := 3) (pc' := 11) rfl (hb hby d11_3) rfl (feq (by decide)).2 (by decide) (by decide) k) ?_
  refine bN s₁ (mkF m 12 #[vr a, vr e9, vr dd, vi 2] [(.ref dd)]) (fun _ k => XS.aloadN X0.here hx rfl (hb hby d11_11) rfl rfl k) ?_
  refine bN s₁ (mkF m 13 #[vr a, vr e9, vr dd, vi 2] [(.int (2 : Int32)), (.ref dd)]) (fun _ k => XS.iloadN X0.here hx rfl (hb hby d11_12) rfl k) ?_
  refine bN s₁ (mkF m 14 #[vr a, vr e9, vr dd, vi 2] [(.ref e9), (.int (2 : Int32)), (.ref dd)]) (fun _ k => XS.aloadN X0.here hx rfl (hb hby d11_13) rfl rfl k) ?_
  obtain ⟨cl22, Ar22, q22, S22, N_22, H22, G22⟩ := id V_dd
  have hin22 : ¬ ((2 : Int32) < 0 ∨ cl22.slots.size ≤ ((2 : Int32)).toNatClampNeg) := inb_of S22 ⟨by decide, by decide⟩
  obtain ⟨T23, h23, X23, e23, W23, st23⟩ := stR X0 hx hZ e0 Ar22 (j := (2 : Int32)) hin22 rfl (Sto.ofV Ar22 q22 O_dd (Ins.of_exa E_e9 wK)) (g := (mkF m 14 #[vr a, vr e9, vr dd, vi 2] [(.ref e9), (.int (2 : Int32)), (.ref dd)])) rfl rfl (hb hby d11_14)
  have V23 : Arv Z h23 dd kd (.object sO) (10 : Int32) [(.ref y0), (.ref y1), (.ref e9), .null, .null, .null, .null, .null, .null, .null] .null := Arv.set Ar22 q22 S22 N_22 H22 G22 rfl W23 2 rfl (Nat.le_of_ble_eq_true rfl)
  have K23 : Keep h0 h23 [dd, a] := Keep.wr (Keep.refl h0 [dd, a]) W23 (Or.inl (mo 0 rfl))
  have N23 := Fr.snoc X23 (Fr.nil n0) g_dd
  refine bN T23 (mkF m 15 #[vr a, vr e9, vr dd, vi 2] []) (fun _ k => st23 _ k) ?_
  refine bN T23 (mkF m 16 #[vr a, vr e9, vr dd, vi 2] [(.ref a)]) (fun _ k => XS.aloadN X23.here hx rfl (hb hby d11_15) rfl rfl k) ?_
  refine bN T23 (mkF m 17 #[vr a, vr e9, vr dd, vi 2] [(.int (2 : Int32)), (.ref a)]) (fun _ k => XS.iloadN X23.here hx rfl (hb hby d11_16) rfl k) ?_
  refine bN T23 (mkF m 18 #[vr a, vr e9, vr dd, vi 2] [(.int (1 : Int32)), (.int (2 : Int32)), (.ref a)]) (fun _ k => XS.iconst X23.here hx rfl (hb hby d11_17) k) ?_
  refine bN T23 (mkF m 19 #[vr a, vr e9, vr dd, vi 2] [(.int (3 : Int32)), (.ref a)]) (fun _ k => XS.iadd X23.here hx rfl (hb hby d11_18) rfl k) ?_
  obtain ⟨T24, h24, X24, e24, W24, st24⟩ := putF X23 hx hZ hown (host := "") (Or.inl (hw _ (mo 61 rfl))) Via.refl e23 (Fld.other W23 F_size_a (Or.inl nead)) (Exa.wr W23 E_a) (Or.inl (hw _ (mo 62 rfl))) (hw _ (mo 31 rfl)) (ty := .int) (by decide) rfl rfl (g := (mkF m 19 #[vr a, vr e9, vr dd, vi 2] [(.int (3 : Int32)), (.ref a)])) rfl rfl (hb hby d11_19)
  have Fw24 : Fld Z h24 a sL "size" "I" (.int (3 : Int32)) := Fld.same W24 (Fld.other W23 F_size_a (Or.inl nead))
  have K24 : Keep h0 h24 [dd, a] := Keep.wr K23 W24 (Or.inl (mo 1 rfl))
  have N24 := Fr.snoc X24 N23 g_a
  refine bN T24 (mkF m 22 #[vr a, vr e9, vr dd, vi 2] []) (fun _ k => st24 _ k) ?_
  refine own_ret X24 hlk (v := none) (fun _ => rfl) (fun fs hr => X24.returnOut hx Bd.returns (hb hby d11_22) hr) ?_ (by decide) (by decide)
  rw [e24]
  exact ⟨rfl, N24, K24, (Fld.other W24 (Fld.other W23 F_modCount_a (Or.inl nead)) (Or.inr (slot_ne (a0 := a0) (Or.inl (hw _ (mo 50 rfl))) (Or.inl (hw _ (mo 62 rfl))) (by decide) (t := .int) (t' := .int) (by decide) (by decide)))), (Fld.other W24 (Fld.other W23 F_elementData_a (Or.inl nead)) (Or.inr (slot_ne (a0 := a0) (Or.inl (hw _ (mo 53 rfl))) (Or.inl (hw _ (mo 62 rfl))) (by decide) (t := (.array (.object sO))) (t' := .int) (by decide) (by decide)))), Fw24, (Arv.other V23 W24 (Ne.symm nead))⟩
theorem ef_ad1s_2 (m : MethodId) (a e9 : Addr) : entryFrame m #[(.ref a), (.ref e9)] 2 = mkF m 0 #[vr a, vr e9] [] := rfl
def Q_ad1s_2 (Z : State) (a e9 dd : Addr) (kd : ClassId) (y0 y1 : Addr) (KK : String) (h0 : Heap) (n0 : Nat) (v : Option Value) (h : Heap) (L : List Loc) : Prop := v = some (.int (1 : Int32)) ∧ Fr n0 L ∧ Keep h0 h [a, dd] ∧ Fld Z h a sB "modCount" "I" (.int (3 : Int32)) ∧ Fld Z h a sL "elementData" sE (.ref dd) ∧ Fld Z h a sL "size" "I" (.int (3 : Int32)) ∧ Arv Z h dd kd (.object sO) (10 : Int32) [(.ref y0), (.ref y1), (.ref e9), .null, .null, .null, .null, .null, .null, .null] .null
theorem ad1s_2 (l : Launch) (Z : State) (a0 : Array Value) (hw : HW Z a0) (ws : List Jvm.Cond) (a e9 dd : Addr) (kd : ClassId) (y0 y1 : Addr) (KK : String) (h0 : Heap) (n0 : Nat) (Z0 : n0 ≤ h0.size) (E_a : Exa Z h0 a sL) (F_modCount_a : Fld Z h0 a sB "modCount" "I" (.int (2 : Int32))) (F_elementData_a : Fld Z h0 a sL "elementData" sE (.ref dd)) (F_size_a : Fld Z h0 a sL "size" "I" (.int (2 : Int32))) (g_a : n0 ≤ a) (V_dd : Arv Z h0 dd kd (.object sO) (10 : Int32) [(.ref y0), (.ref y1), .null, .null, .null, .null, .null, .null, .null, .null] .null) (O_dd : Ovr Z kd sO) (g_dd : n0 ≤ dd) (nead : a ≠ dd) (E_e9 : Exa Z h0 e9 KK) (wK : (Jvm.Cond.castable KK sO).before a0 Z = true) :
    own_M l yy13 jdk_38_method_25_code 2 (some .boolean) ws rr10 Z #[(.ref a), (.ref e9)] h0 (Q_ad1s_2 Z a e9 dd kd y0 y1 KK h0 n0) := by
  refine own_bd (plainFor_of_name pn_10) fun p e s m below meth c s₁ Bd hx hby hml hown hnm hlk hZ X0 e0 => ?_
  rw [ef_ad1s_2 m a e9]
  refine bN s₁ (mkF m 1 #[vr a, vr e9] [(.ref a)]) (fun _ k => XS.aloadN X0.here hx rfl (hb hby d10_0) rfl rfl k) ?_
  refine bN s₁ (mkF m 2 #[vr a, vr e9] [(.ref a), (.ref a)]) (fun _ k => XS.dup X0.here hx rfl (hb hby d10_1) rfl rfl k) ?_
  obtain ⟨T21, X21, e21, st21⟩ := getF X0 hx hZ hown (host := "") (Or.inl (hw _ (mo 59 rfl))) (Via.of (hw _ (mo 60 rfl))) e0 F_modCount_a (g := (mkF m 2 #[vr a, vr e9] [(.ref a), (.ref a)])) rfl rfl (hb hby d10_2)
  refine bN T21 (mkF m 5 #[vr a, vr e9] [(.int (2 : Int32)), (.ref a)]) (fun _ k => st21 _ k) ?_
  refine bN T21 (mkF m 6 #[vr a, vr e9] [(.int (1 : Int32)), (.int (2 : Int32)), (.ref a)]) (fun _ k => XS.iconst X21.here hx rfl (hb hby d10_5) k) ?_
  refine bN T21 (mkF m 7 #[vr a, vr e9] [(.int (3 : Int32)), (.ref a)]) (fun _ k => XS.iadd X21.here hx rfl (hb hby d10_6) rfl k) ?_
  obtain ⟨T22, h22, X22, e22, W22, st22⟩ := putF X21 hx hZ hown (host := "") (Or.inl (hw _ (mo 59 rfl))) (Via.of (hw _ (mo 60 rfl))) e21 F_modCount_a E_a (Or.inl (hw _ (mo 50 rfl))) (hw _ (mo 31 rfl)) (ty := .int) (by decide) rfl rfl (g := (mkF m 7 #[vr a, vr e9] [(.int (3 : Int32)), (.ref a)])) rfl rfl (hb hby d10_7)
  have Fw22 : Fld Z h22 a sB "modCount" "I" (.int (3 : Int32)) := Fld.same W22 F_modCount_a
  have K22 : Keep h0 h22 [a, dd] := Keep.wr (Keep.refl h0 [a, dd]) W22 (Or.inl (mo 0 rfl))
  have N22 := Fr.snoc X22 (Fr.nil n0) g_a
  refine bN T22 (mkF m 10 #[vr a, vr e9] []) (fun _ k => st22 _ k) ?_
  refine bN T22 (mkF m 11 #[vr a, vr e9] [(.ref a)]) (fun _ k => XS.aloadN X22.here hx rfl (hb hby d10_10) rfl rfl k) ?_
  refine bN T22 (mkF m 12 #[vr a, vr e9] [(.ref e9), (.ref a)]) (fun _ k => XS.aloadN X22.here hx rfl (hb hby d10_11) rfl rfl k) ?_
  refine bN T22 (mkF m 13 #[vr a, vr e9] [(.ref a), (.ref e9), (.ref a)]) (fun _ k => XS.aloadN X22.here hx rfl (hb hby d10_12) rfl rfl k) ?_
  obtain ⟨T23, X23, e23, st23⟩ := getF X22 hx hZ hown (host := "") (Or.inl (hw _ (mo 52 rfl))) Via.refl e22 (Fld.other W22 F_elementData_a (Or.inr (slot_ne (a0 := a0) (Or.inl (hw _ (mo 53 rfl))) (Or.inl (hw _ (mo 50 rfl))) (by decide) (t := (.array (.object sO))) (t' := .int) (by decide) (by decide)))) (g := (mkF m 13 #[vr a, vr e9] [(.ref a), (.ref e9), (.ref a)])) rfl rfl (hb hby d10_13)
  refine bN T23 (mkF m 16 #[vr a, vr e9] [(.ref dd), (.ref e9), (.ref a)]) (fun _ k => st23 _ k) ?_
  refine bN T23 (mkF m 17 #[vr a, vr e9] [(.ref a), (.ref dd), (.ref e9), (.ref a)]) (fun _ k => XS.aloadN X23.here hx rfl (hb hby d10_16) rfl rfl k) ?_
  obtain ⟨T24, X24, e24, st24⟩ := getF X23 hx hZ hown (host := "") (Or.inl (hw _ (mo 61 rfl))) Via.refl e23 (Fld.other W22 F_size_a (Or.inr (slot_ne (a0 := a0) (Or.inl (hw _ (mo 62 rfl))) (Or.inl (hw _ (mo 50 rfl))) (by decide) (t := .int) (t' := .int) (by decide) (by decide)))) (g := (mkF m 17 #[vr a, vr e9] [(.ref a), (.ref dd), (.ref e9), (.ref a)])) rfl rfl (hb hby d10_17)
  refine bN T24 (mkF m 20 #[vr a, vr e9] [(.int (2 : Int32)), (.ref dd), (.ref e9), (.ref a)]) (fun _ k => st24 _ k) ?_
  obtain ⟨cq25, q25, q25'⟩ := Exa.cell (Exa.wr W22 E_a)
  obtain ⟨_, _, ⟨T25, L25, k25, n25⟩, -, X25, ⟨Lc25, hQ25, l25, y25, z25⟩, st25⟩ := X24.privateBack hx (y := yy12) hown (mvT hZ (hw _ (mo 63 rfl))) (mvT hZ (hw _ (mo 64 rfl))) (mvT hZ (hw _ (mo 66 rfl))) (Cond.privateMethod_at (mvP hZ (hw _ (mo 65 rfl)) (args := #[]))) (mvT hZ (hw _ (mo 67 rfl))) (by decide) (backOf (W := 0) (ad3s_2 l Z a0 hw [] a e9 dd dd kd y0 y1 KK h22 n0 (Nat.le_trans Z0 (Keep.of_wr W22).1) (Exa.wr W22 E_a) Fw22 (Fld.other W22 F_elementData_a (Or.inr (slot_ne (a0 := a0) (Or.inl (hw _ (mo 53 rfl))) (Or.inl (hw _ (mo 50 rfl))) (by decide) (t := (.array (.object sO))) (t' := .int) (by decide) (by decide)))) (Fld.other W22 F_size_a (Or.inr (slot_ne (a0 := a0) (Or.inl (hw _ (mo 62 rfl))) (Or.inl (hw _ (mo 50 rfl))) (by decide) (t := .int) (t' := .int) (by decide) (by decide)))) g_a (Arv.other V_dd W22 (Ne.symm nead)) O_dd g_dd nead (Exa.wr W22 E_e9) wK) hZ (hw _ (mo 67 rfl)) (hw _ (mo 32 rfl)) (by decide) (by decide)) (g := (mkF m 20 #[vr a, vr e9] [(.int (2 : Int32)), (.ref dd), (.ref e9), (.ref a)])) rfl (by rw [hml]; rfl) (Steps.refl _) (a := a) (by rw [e24]; exact q25) q25' (argsL := [(.ref e9), (.ref dd), (.int (2 : Int32))]) (rest := []) (lenOf pd_7 rfl) rfl (Nat.le_of_eq rfl) (hb hby d10_20) (fun _ _ => ⟨rfl, e24, (by decide : 0 ≤ _), (by decide : 0 ≤ _)⟩)
  dsimp only [Pt.U, Pt.locs, Pt.cells, Pt.slots] at X25 l25 y25 z25 st25 hQ25
  subst l25 y25 z25
  obtain ⟨rfl, N25q, K25, Fm25, Fe25, Fz25, V25⟩ := hQ25
  have N25 := Fr.app N22 N25q
  have KK25 : Keep h0 T25.heap [a, dd] := Keep.trans K22 K25 (allS (Or.inl (mo 1 rfl)) (allS (Or.inl (mo 0 rfl)) all0))
  refine bN T25 (mkF m 23 #[vr a, vr e9] []) (fun _ k => st25.trans k) ?_
  refine bN T25 (mkF m 24 #[vr a, vr e9] [(.int (1 : Int32))]) (fun _ k => XS.iconst X25.here hx rfl (hb hby d10_23) k) ?_
  refine own_ret X25 hlk (v := some (.int (1 : Int32))) (nvr Bd.returns) (fun fs hr => retN X25 hx (t := .boolean) Bd.returns (by simp) (hb hby d10_24) hr) ?_ (by decide) (by decide)
  exact ⟨rfl, N25, KK25, Fm25, Fe25, Fz25, V25⟩
theorem d15_0 : decode prog_7_method_1_code 0 = .ok (.aload_n 0, 1) := by decide +kernel
theorem d15_1 : decode prog_7_method_1_code 1 = .ok (.invokespecial 1, 3) := by decide +kernel
theorem d15_4 : decode prog_7_method_1_code 4 = .ok (.aload_n 0, 1) := by decide +kernel
theorem d15_5 : decode prog_7_method_1_code 5 = .ok (.iconst (-1), 1) := by decide +kernel
theorem d15_6 : decode prog_7_method_1_code 6 = .ok (.putfield 7, 3) := by decide +kernel
theorem d15_9 : decode prog_7_method_1_code 9 = .ok (.aload_n 0, 1) := by decide +kernel
theorem d15_10 : decode prog_7_method_1_code 10 = .ok (.aload_n 1, 1) := by decide +kernel
theorem d15_11 : decode prog_7_method_1_code 11 = .ok (.putfield 13, 3) := by decide +kernel
theorem d15_14 : decode prog_7_method_1_code 14 = .ok (.aload_n 0, 1) := by decide +kernel
theorem d15_15 : decode prog_7_method_1_code 15 = .ok (.aload_n 2, 1) := by decide +kernel
theorem d15_16 : decode prog_7_method_1_code 16 = .ok (.putfield 17, 3) := by decide +kernel
theorem d15_19 : decode prog_7_method_1_code 19 = .ok (.aload_n 0, 1) := by decide +kernel
theorem d15_20 : decode prog_7_method_1_code 20 = .ok (.iload_n 3, 1) := by decide +kernel
theorem d15_21 : decode prog_7_method_1_code 21 = .ok (.putfield 20, 3) := by decide +kernel
theorem d15_24 : decode prog_7_method_1_code 24 = .ok (.return_, 1) := by decide +kernel
theorem pn_15 : plainName sA = true := by first | (simp [plainName, overriddenIn]; done) | decide +kernel
theorem ef_coi (m : MethodId) (a x1 x2 : Addr) (i1 : Int32) : entryFrame m #[(.ref a), (.ref x1), (.ref x2), (.int i1)] 4 = mkF m 0 #[vr a, vr x1, vr x2, vi i1] [] := rfl
def Q_coi (Z : State) (a x1 x2 : Addr) (i1 : Int32) (h0 : Heap) (n0 : Nat) (v : Option Value) (h : Heap) (L : List Loc) : Prop := v = none ∧ Fr n0 L ∧ Keep h0 h [a] ∧ Fld Z h a sA "unit" "I" (.int (-1 : Int32)) ∧ Fld Z h a sA "value" "I" (.int i1)
theorem coi (l : Launch) (Z : State) (a0 : Array Value) (hw : HW Z a0) (ws : List Jvm.Cond) (a x1 x2 : Addr) (i1 : Int32) (h0 : Heap) (n0 : Nat) (Z0 : n0 ≤ h0.size) (E_a : Exa Z h0 a sA) (F_unit_a : Fld Z h0 a sA "unit" "I" (ii 0)) (F_category_a : Fld Z h0 a sA "category" "Ljava/lang/String;" .null) (F_type_a : Fld Z h0 a sA "type" "Ljava/lang/String;" .null) (F_value_a : Fld Z h0 a sA "value" "I" (ii 0)) (g_a : n0 ≤ a) :
    own_M l yy14 prog_7_method_1_code 4 none ws rr2 Z #[(.ref a), (.ref x1), (.ref x2), (.int i1)] h0 (Q_coi Z a x1 x2 i1 h0 n0) := by
  refine own_bd (plainFor_of_name pn_15) fun p e s m below meth c s₁ Bd hx hby hml hown hnm hlk hZ X0 e0 => ?_
  rw [ef_coi m a x1 x2 i1]
  refine bN s₁ (mkF m 1 #[vr a, vr x1, vr x2, vi i1] [(.ref a)]) (fun _ k => XS.aloadN X0.here hx rfl (hb hby d15_0) rfl rfl k) ?_
  obtain ⟨T21, X21, e21, st21⟩ := initO X0 hx hZ hown (hw _ (mo 95 rfl)) (hw _ (mo 24 rfl)) (hw _ (mo 25 rfl)) e0 (g := (mkF m 1 #[vr a, vr x1, vr x2, vi i1] [(.ref a)])) rfl (by rw [hml]; rfl) rfl (hb hby d15_1) (by decide) (W := 0) (Nat.le_of_eq rfl) (by decide)
  refine bN T21 (mkF m 4 #[vr a, vr x1, vr x2, vi i1] []) (fun _ k => st21 _ k) ?_
  refine bN T21 (mkF m 5 #[vr a, vr x1, vr x2, vi i1] [(.ref a)]) (fun _ k => XS.aloadN X21.here hx rfl (hb hby d15_4) rfl rfl k) ?_
  refine bN T21 (mkF m 6 #[vr a, vr x1, vr x2, vi i1] [(.int (-1 : Int32)), (.ref a)]) (fun _ k => XS.iconst X21.here hx rfl (hb hby d15_5) k) ?_
  obtain ⟨T22, h22, X22, e22, W22, st22⟩ := putF X21 hx hZ hown (host := "") (Or.inl (hw _ (mo 96 rfl))) Via.refl e21 F_unit_a E_a (Or.inl (hw _ (mo 97 rfl))) (hw _ (mo 86 rfl)) (ty := .int) (by decide) rfl rfl (g := (mkF m 6 #[vr a, vr x1, vr x2, vi i1] [(.int (-1 : Int32)), (.ref a)])) rfl rfl (hb hby d15_6)
  have Fw22 : Fld Z h22 a sA "unit" "I" (.int (-1 : Int32)) := Fld.same W22 F_unit_a
  have K22 : Keep h0 h22 [a] := Keep.wr (Keep.refl h0 [a]) W22 (Or.inl (mo 0 rfl))
  have N22 := Fr.snoc X22 (Fr.nil n0) g_a
  refine bN T22 (mkF m 9 #[vr a, vr x1, vr x2, vi i1] []) (fun _ k => st22 _ k) ?_
  refine bN T22 (mkF m 10 #[vr a, vr x1, vr x2, vi i1] [(.ref a)]) (fun _ k => XS.aloadN X22.here hx rfl (hb hby d15_9) rfl rfl k) ?_
  refine bN T22 (mkF m 11 #[vr a, vr x1, vr x2, vi i1] [(.ref x1), (.ref a)]) (fun _ k => XS.aloadN X22.here hx rfl (hb hby d15_10) rfl rfl k) ?_
  obtain ⟨T23, h23, X23, e23, W23, st23⟩ := putF X22 hx hZ hown (host := "") (Or.inl (hw _ (mo 98 rfl))) Via.refl e22 (Fld.other W22 F_category_a (Or.inr (slot_ne (a0 := a0) (Or.inr (hw _ (mo 99 rfl))) (Or.inl (hw _ (mo 97 rfl))) (by decide) (t := (.object sS)) (t' := .int) (by decide) (by decide)))) (Exa.wr W22 E_a) (Or.inr ⟨(hw _ (mo 99 rfl)), rfl, hnm⟩) (hw _ (mo 86 rfl)) (ty := (.object sS)) (by decide) rfl rfl (g := (mkF m 11 #[vr a, vr x1, vr x2, vi i1] [(.ref x1), (.ref a)])) rfl rfl (hb hby d15_11)
  have Fw23 : Fld Z h23 a sA "category" "Ljava/lang/String;" (.ref x1) := Fld.same W23 (Fld.other W22 F_category_a (Or.inr (slot_ne (a0 := a0) (Or.inr (hw _ (mo 99 rfl))) (Or.inl (hw _ (mo 97 rfl))) (by decide) (t := (.object sS)) (t' := .int) (by decide) (by decide))))
  have K23 : Keep h0 h23 [a] := Keep.wr K22 W23 (Or.inl (mo 0 rfl))
  have N23 := Fr.snoc X23 N22 g_a
  refine bN T23 (mkF m 14 #[vr a, vr x1, vr x2, vi i1] []) (fun _ k => st23 _ k) ?_
  refine bN T23 (mkF m 15 #[vr a, vr x1, vr x2, vi i1] [(.ref a)]) (fun _ k => XS.aloadN X23.here hx rfl (hb hby d15_14) rfl rfl k) ?_
  refine bN T23 (mkF m 16 #[vr a, vr x1, vr x2, vi i1] [(.ref x2), (.ref a)]) (fun _ k => XS.aloadN X23.here hx rfl (hb hby d15_15) rfl rfl k) ?_
  obtain ⟨T24, h24, X24, e24, W24, st24⟩ := putF X23 hx hZ hown (host := "") (Or.inl (hw _ (mo 100 rfl))) Via.refl e23 (Fld.other W23 (Fld.other W22 F_type_a (Or.inr (slot_ne (a0 := a0) (Or.inr (hw _ (mo 101 rfl))) (Or.inl (hw _ (mo 97 rfl))) (by decide) (t := (.object sS)) (t' := .int) (by decide) (by decide)))) (Or.inr (slot_ne (a0 := a0) (Or.inr (hw _ (mo 101 rfl))) (Or.inr (hw _ (mo 99 rfl))) (by decide) (t := (.object sS)) (t' := (.object sS)) (by decide) (by decide)))) (Exa.wr W23 (Exa.wr W22 E_a)) (Or.inr ⟨(hw _ (mo 101 rfl)), rfl, hnm⟩) (hw _ (mo 86 rfl)) (ty := (.object sS)) (by decide) rfl rfl (g := (mkF m 16 #[vr a, vr x1, vr x2, vi i1] [(.ref x2), (.ref a)])) rfl rfl (hb hby d15_16)
  have Fw24 : Fld Z h24 a sA "type" "Ljava/lang/String;" (.ref x2) := Fld.same W24 (Fld.other W23 (Fld.other W22 F_type_a (Or.inr (slot_ne (a0 := a0) (Or.inr (hw _ (mo 101 rfl))) (Or.inl (hw _ (mo 97 rfl))) (by decide) (t := (.object sS)) (t' := .int) (by decide) (by decide)))) (Or.inr (slot_ne (a0 := a0) (Or.inr (hw _ (mo 101 rfl))) (Or.inr (hw _ (mo 99 rfl))) (by decide) (t := (.object sS)) (t' := (.object sS)) (by decide) (by decide))))
  have K24 : Keep h0 h24 [a] := Keep.wr K23 W24 (Or.inl (mo 0 rfl))
  have N24 := Fr.snoc X24 N23 g_a
  refine bN T24 (mkF m 19 #[vr a, vr x1, vr x2, vi i1] []) (fun _ k => st24 _ k) ?_
  refine bN T24 (mkF m 20 #[vr a, vr x1, vr x2, vi i1] [(.ref a)]) (fun _ k => XS.aloadN X24.here hx rfl (hb hby d15_19) rfl rfl k) ?_
  refine bN T24 (mkF m 21 #[vr a, vr x1, vr x2, vi i1] [(.int i1), (.ref a)]) (fun _ k => XS.iloadN X24.here hx rfl (hb hby d15_20) rfl k) ?_
  obtain ⟨T25, h25, X25, e25, W25, st25⟩ := putF X24 hx hZ hown (host := "") (Or.inl (hw _ (mo 102 rfl))) Via.refl e24 (Fld.other W24 (Fld.other W23 (Fld.other W22 F_value_a (Or.inr (slot_ne (a0 := a0) (Or.inr (hw _ (mo 103 rfl))) (Or.inl (hw _ (mo 97 rfl))) (by decide) (t := .int) (t' := .int) (by decide) (by decide)))) (Or.inr (slot_ne (a0 := a0) (Or.inr (hw _ (mo 103 rfl))) (Or.inr (hw _ (mo 99 rfl))) (by decide) (t := .int) (t' := (.object sS)) (by decide) (by decide)))) (Or.inr (slot_ne (a0 := a0) (Or.inr (hw _ (mo 103 rfl))) (Or.inr (hw _ (mo 101 rfl))) (by decide) (t := .int) (t' := (.object sS)) (by decide) (by decide)))) (Exa.wr W24 (Exa.wr W23 (Exa.wr W22 E_a))) (Or.inr ⟨(hw _ (mo 103 rfl)), rfl, hnm⟩) (hw _ (mo 86 rfl)) (ty := .int) (by decide) rfl rfl (g := (mkF m 21 #[vr a, vr x1, vr x2, vi i1] [(.int i1), (.ref a)])) rfl rfl (hb hby d15_21)
  have Fw25 : Fld Z h25 a sA "value" "I" (.int i1) := Fld.same W25 (Fld.other W24 (Fld.other W23 (Fld.other W22 F_value_a (Or.inr (slot_ne (a0 := a0) (Or.inr (hw _ (mo 103 rfl))) (Or.inl (hw _ (mo 97 rfl))) (by decide) (t := .int) (t' := .int) (by decide) (by decide)))) (Or.inr (slot_ne (a0 := a0) (Or.inr (hw _ (mo 103 rfl))) (Or.inr (hw _ (mo 99 rfl))) (by decide) (t := .int) (t' := (.object sS)) (by decide) (by decide)))) (Or.inr (slot_ne (a0 := a0) (Or.inr (hw _ (mo 103 rfl))) (Or.inr (hw _ (mo 101 rfl))) (by decide) (t := .int) (t' := (.object sS)) (by decide) (by decide))))
  have K25 : Keep h0 h25 [a] := Keep.wr K24 W25 (Or.inl (mo 0 rfl))
  have N25 := Fr.snoc X25 N24 g_a
  refine bN T25 (mkF m 24 #[vr a, vr x1, vr x2, vi i1] []) (fun _ k => st25 _ k) ?_
  refine own_ret X25 hlk (v := none) (fun _ => rfl) (fun fs hr => X25.returnOut hx Bd.returns (hb hby d15_24) hr) ?_ (by decide) (by decide)
  rw [e25]
  exact ⟨rfl, N25, K25, (Fld.other W25 (Fld.other W24 (Fld.other W23 Fw22 (Or.inr (slot_ne (a0 := a0) (Or.inl (hw _ (mo 97 rfl))) (Or.inr (hw _ (mo 99 rfl))) (by decide) (t := .int) (t' := (.object sS)) (by decide) (by decide)))) (Or.inr (slot_ne (a0 := a0) (Or.inl (hw _ (mo 97 rfl))) (Or.inr (hw _ (mo 101 rfl))) (by decide) (t := .int) (t' := (.object sS)) (by decide) (by decide)))) (Or.inr (slot_ne (a0 := a0) (Or.inl (hw _ (mo 97 rfl))) (Or.inr (hw _ (mo 103 rfl))) (by decide) (t := .int) (t' := .int) (by decide) (by decide)))), Fw25⟩
theorem d24_0 : decode prog_7_method_4_code 0 = .ok (.aload_n 0, 1) := by decide +kernel
theorem d24_1 : decode prog_7_method_4_code 1 = .ok (.getfield 20, 3) := by decide +kernel
theorem d24_4 : decode prog_7_method_4_code 4 = .ok (.ireturn, 1) := by decide +kernel
theorem pn_24 : plainName sA = true := by first | (simp [plainName, overriddenIn]; done) | decide +kernel
theorem ef_cg_value (m : MethodId) (a : Addr) : entryFrame m #[(.ref a)] 1 = mkF m 0 #[vr a] [] := rfl
def Q_cg_value (Z : State) (a : Addr) (i1 : Int32) (h0 : Heap) (n0 : Nat) (v : Option Value) (h : Heap) (L : List Loc) : Prop := v = some (.int i1) ∧ Fr n0 L ∧ h = h0
theorem cg_value (l : Launch) (Z : State) (a0 : Array Value) (hw : HW Z a0) (ws : List Jvm.Cond) (a : Addr) (i1 : Int32) (h0 : Heap) (n0 : Nat) (Z0 : n0 ≤ h0.size) (F_value_a : Fld Z h0 a sA "value" "I" (.int i1)) :
    own_M l yy15 prog_7_method_4_code 1 (some .int) ws rr0 Z #[(.ref a)] h0 (Q_cg_value Z a i1 h0 n0) := by
  refine own_bd (plainFor_of_name pn_24) fun p e s m below meth c s₁ Bd hx hby hml hown hnm hlk hZ X0 e0 => ?_
  rw [ef_cg_value m a]
  refine bN s₁ (mkF m 1 #[vr a] [(.ref a)]) (fun _ k => XS.aloadN X0.here hx rfl (hb hby d24_0) rfl rfl k) ?_
  obtain ⟨T21, X21, e21, st21⟩ := getF X0 hx hZ hown (host := "") (Or.inl (hw _ (mo 102 rfl))) Via.refl e0 F_value_a (g := (mkF m 1 #[vr a] [(.ref a)])) rfl rfl (hb hby d24_1)
  refine bN T21 (mkF m 4 #[vr a] [(.int i1)]) (fun _ k => st21 _ k) ?_
  refine own_ret X21 hlk (v := some (.int i1)) (nvr Bd.returns) (fun fs hr => retI X21 hx Bd.returns (hb hby d24_4) hr) ?_ (by decide) (by decide)
  rw [e21]
  exact ⟨rfl, (Fr.nil n0), rfl⟩
theorem d29_0 : decode prog_7_method_5_code 0 = .ok (.aload_n 0, 1) := by decide +kernel
theorem d29_1 : decode prog_7_method_5_code 1 = .ok (.getfield 7, 3) := by decide +kernel
theorem d29_4 : decode prog_7_method_5_code 4 = .ok (.ireturn, 1) := by decide +kernel
theorem pn_29 : plainName sA = true := by first | (simp [plainName, overriddenIn]; done) | decide +kernel
theorem ef_cg_unit (m : MethodId) (a : Addr) : entryFrame m #[(.ref a)] 1 = mkF m 0 #[vr a] [] := rfl
def Q_cg_unit (Z : State) (a : Addr) (i1 : Int32) (h0 : Heap) (n0 : Nat) (v : Option Value) (h : Heap) (L : List Loc) : Prop := v = some (.int i1) ∧ Fr n0 L ∧ h = h0
theorem cg_unit (l : Launch) (Z : State) (a0 : Array Value) (hw : HW Z a0) (ws : List Jvm.Cond) (a : Addr) (i1 : Int32) (h0 : Heap) (n0 : Nat) (Z0 : n0 ≤ h0.size) (F_unit_a : Fld Z h0 a sA "unit" "I" (.int i1)) :
    own_M l yy16 prog_7_method_5_code 1 (some .int) ws rr0 Z #[(.ref a)] h0 (Q_cg_unit Z a i1 h0 n0) := by
  refine own_bd (plainFor_of_name pn_29) fun p e s m below meth c s₁ Bd hx hby hml hown hnm hlk hZ X0 e0 => ?_
  rw [ef_cg_unit m a]
  refine bN s₁ (mkF m 1 #[vr a] [(.ref a)]) (fun _ k => XS.aloadN X0.here hx rfl (hb hby d29_0) rfl rfl k) ?_
  obtain ⟨T21, X21, e21, st21⟩ := getF X0 hx hZ hown (host := "") (Or.inl (hw _ (mo 96 rfl))) Via.refl e0 F_unit_a (g := (mkF m 1 #[vr a] [(.ref a)])) rfl rfl (hb hby d29_1)
  refine bN T21 (mkF m 4 #[vr a] [(.int i1)]) (fun _ k => st21 _ k) ?_
  refine own_ret X21 hlk (v := some (.int i1)) (nvr Bd.returns) (fun fs hr => retI X21 hx Bd.returns (hb hby d29_4) hr) ?_ (by decide) (by decide)
  rw [e21]
  exact ⟨rfl, (Fr.nil n0), rfl⟩
theorem d21_0 : decode jdk_38_method_8_code 0 = .ok (.aload_n 0, 1) := by decide +kernel
theorem d21_1 : decode jdk_38_method_8_code 1 = .ok (.getfield 48, 3) := by decide +kernel
theorem d21_4 : decode jdk_38_method_8_code 4 = .ok (.ireturn, 1) := by decide +kernel
theorem pn_21 : plainName sL = true := by first | (simp [plainName, overriddenIn]; done) | decide +kernel
theorem ef_lsz (m : MethodId) (a : Addr) : entryFrame m #[(.ref a)] 1 = mkF m 0 #[vr a] [] := rfl
def Q_lsz (Z : State) (a : Addr) (i1 : Int32) (h0 : Heap) (n0 : Nat) (v : Option Value) (h : Heap) (L : List Loc) : Prop := v = some (.int i1) ∧ Fr n0 L ∧ h = h0
theorem lsz (l : Launch) (Z : State) (a0 : Array Value) (hw : HW Z a0) (ws : List Jvm.Cond) (a : Addr) (i1 : Int32) (h0 : Heap) (n0 : Nat) (Z0 : n0 ≤ h0.size) (F_size_a : Fld Z h0 a sL "size" "I" (.int i1)) :
    own_M l yy17 jdk_38_method_8_code 1 (some .int) ws rr0 Z #[(.ref a)] h0 (Q_lsz Z a i1 h0 n0) := by
  refine own_bd (plainFor_of_name pn_21) fun p e s m below meth c s₁ Bd hx hby hml hown hnm hlk hZ X0 e0 => ?_
  rw [ef_lsz m a]
  refine bN s₁ (mkF m 1 #[vr a] [(.ref a)]) (fun _ k => XS.aloadN X0.here hx rfl (hb hby d21_0) rfl rfl k) ?_
  obtain ⟨T21, X21, e21, st21⟩ := getF X0 hx hZ hown (host := "") (Or.inl (hw _ (mo 61 rfl))) Via.refl e0 F_size_a (g := (mkF m 1 #[vr a] [(.ref a)])) rfl rfl (hb hby d21_1)
  refine bN T21 (mkF m 4 #[vr a] [(.int i1)]) (fun _ k => st21 _ k) ?_
  refine own_ret X21 hlk (v := some (.int i1)) (nvr Bd.returns) (fun fs hr => retI X21 hx Bd.returns (hb hby d21_4) hr) ?_ (by decide) (by decide)
  rw [e21]
  exact ⟨rfl, (Fr.nil n0), rfl⟩
theorem d18_0 : decode jdk_49_method_1_code 0 = .ok (.aload_n 0, 1) := by decide +kernel
theorem d18_1 : decode jdk_49_method_1_code 1 = .ok (.aload_n 1, 1) := by decide +kernel
theorem d18_2 : decode jdk_49_method_1_code 2 = .ok (.putfield 1, 3) := by decide +kernel
theorem d18_5 : decode jdk_49_method_1_code 5 = .ok (.aload_n 0, 1) := by decide +kernel
theorem d18_6 : decode jdk_49_method_1_code 6 = .ok (.invokespecial 7, 3) := by decide +kernel
theorem d18_9 : decode jdk_49_method_1_code 9 = .ok (.aload_n 0, 1) := by decide +kernel
theorem d18_10 : decode jdk_49_method_1_code 10 = .ok (.iconst (-1), 1) := by decide +kernel
theorem d18_11 : decode jdk_49_method_1_code 11 = .ok (.putfield 13, 3) := by decide +kernel
theorem d18_14 : decode jdk_49_method_1_code 14 = .ok (.aload_n 0, 1) := by decide +kernel
theorem d18_15 : decode jdk_49_method_1_code 15 = .ok (.aload_n 0, 1) := by decide +kernel
theorem d18_16 : decode jdk_49_method_1_code 16 = .ok (.getfield 1, 3) := by decide +kernel
theorem d18_19 : decode jdk_49_method_1_code 19 = .ok (.getfield 17, 3) := by decide +kernel
theorem d18_22 : decode jdk_49_method_1_code 22 = .ok (.putfield 22, 3) := by decide +kernel
theorem d18_25 : decode jdk_49_method_1_code 25 = .ok (.return_, 1) := by decide +kernel
theorem pn_18 : plainName sI = true := by first | (simp [plainName, overriddenIn]; done) | decide +kernel
theorem ef_iti (m : MethodId) (it al : Addr) : entryFrame m #[(.ref it), (.ref al)] 2 = mkF m 0 #[vr it, vr al] [] := rfl
def Q_iti (Z : State) (it al : Addr) (mc : Int32) (h0 : Heap) (n0 : Nat) (v : Option Value) (h : Heap) (L : List Loc) : Prop := v = none ∧ Fr n0 L ∧ Keep h0 h [it] ∧ Fld Z h it sI "this$0" "Ljava/util/ArrayList;" (.ref al) ∧ Fld Z h it sI "lastRet" "I" (.int (-1 : Int32)) ∧ Fld Z h it sI "expectedModCount" "I" (.int mc) ∧ Fld Z h it sI "cursor" "I" (ii 0)
theorem iti (l : Launch) (Z : State) (a0 : Array Value) (hw : HW Z a0) (ws : List Jvm.Cond) (it al : Addr) (mc : Int32) (h0 : Heap) (n0 : Nat) (Z0 : n0 ≤ h0.size) (E_it : Exa Z h0 it sI) (F_this_0_it : Fld Z h0 it sI "this$0" "Ljava/util/ArrayList;" .null) (F_lastRet_it : Fld Z h0 it sI "lastRet" "I" (ii 0)) (F_expectedModCount_it : Fld Z h0 it sI "expectedModCount" "I" (ii 0)) (F_cursor_it : Fld Z h0 it sI "cursor" "I" (ii 0)) (g_it : n0 ≤ it) (F_modCount_al : Fld Z h0 al sB "modCount" "I" (.int mc)) (neia : al ≠ it) :
    own_M l yy18 jdk_49_method_1_code 2 none ws rr2 Z #[(.ref it), (.ref al)] h0 (Q_iti Z it al mc h0 n0) := by
  refine own_bd (plainFor_of_name pn_18) fun p e s m below meth c s₁ Bd hx hby hml hown hnm hlk hZ X0 e0 => ?_
  rw [ef_iti m it al]
  refine bN s₁ (mkF m 1 #[vr it, vr al] [(.ref it)]) (fun _ k => XS.aloadN X0.here hx rfl (hb hby d18_0) rfl rfl k) ?_
  refine bN s₁ (mkF m 2 #[vr it, vr al] [(.ref al), (.ref it)]) (fun _ k => XS.aloadN X0.here hx rfl (hb hby d18_1) rfl rfl k) ?_
  obtain ⟨T21, h21, X21, e21, W21, st21⟩ := putF X0 hx hZ hown (host := "") (Or.inl (hw _ (mo 138 rfl))) Via.refl e0 F_this_0_it E_it (Or.inr ⟨(hw _ (mo 139 rfl)), rfl, hnm⟩) (hw _ (mo 132 rfl)) (ty := (.object sL)) (by decide) rfl rfl (g := (mkF m 2 #[vr it, vr al] [(.ref al), (.ref it)])) rfl rfl (hb hby d18_2)
  have Fw21 : Fld Z h21 it sI "this$0" "Ljava/util/ArrayList;" (.ref al) := Fld.same W21 F_this_0_it
  have K21 : Keep h0 h21 [it] := Keep.wr (Keep.refl h0 [it]) W21 (Or.inl (mo 0 rfl))
  have N21 := Fr.snoc X21 (Fr.nil n0) g_it
  refine bN T21 (mkF m 5 #[vr it, vr al] []) (fun _ k => st21 _ k) ?_
  refine bN T21 (mkF m 6 #[vr it, vr al] [(.ref it)]) (fun _ k => XS.aloadN X21.here hx rfl (hb hby d18_5) rfl rfl k) ?_
  obtain ⟨T22, X22, e22, st22⟩ := initO X21 hx hZ hown (hw _ (mo 140 rfl)) (hw _ (mo 24 rfl)) (hw _ (mo 25 rfl)) e21 (g := (mkF m 6 #[vr it, vr al] [(.ref it)])) rfl (by rw [hml]; rfl) rfl (hb hby d18_6) (by decide) (W := 0) (Nat.le_of_eq rfl) (by decide)
  refine bN T22 (mkF m 9 #[vr it, vr al] []) (fun _ k => st22 _ k) ?_
  refine bN T22 (mkF m 10 #[vr it, vr al] [(.ref it)]) (fun _ k => XS.aloadN X22.here hx rfl (hb hby d18_9) rfl rfl k) ?_
  refine bN T22 (mkF m 11 #[vr it, vr al] [(.int (-1 : Int32)), (.ref it)]) (fun _ k => XS.iconst X22.here hx rfl (hb hby d18_10) k) ?_
  obtain ⟨T23, h23, X23, e23, W23, st23⟩ := putF X22 hx hZ hown (host := "") (Or.inl (hw _ (mo 141 rfl))) Via.refl e22 (Fld.other W21 F_lastRet_it (Or.inr (slot_ne (a0 := a0) (Or.inl (hw _ (mo 142 rfl))) (Or.inr (hw _ (mo 139 rfl))) (by decide) (t := .int) (t' := (.object sL)) (by decide) (by decide)))) (Exa.wr W21 E_it) (Or.inl (hw _ (mo 142 rfl))) (hw _ (mo 132 rfl)) (ty := .int) (by decide) rfl rfl (g := (mkF m 11 #[vr it, vr al] [(.int (-1 : Int32)), (.ref it)])) rfl rfl (hb hby d18_11)
  have Fw23 : Fld Z h23 it sI "lastRet" "I" (.int (-1 : Int32)) := Fld.same W23 (Fld.other W21 F_lastRet_it (Or.inr (slot_ne (a0 := a0) (Or.inl (hw _ (mo 142 rfl))) (Or.inr (hw _ (mo 139 rfl))) (by decide) (t := .int) (t' := (.object sL)) (by decide) (by decide))))
  have K23 : Keep h0 h23 [it] := Keep.wr K21 W23 (Or.inl (mo 0 rfl))
  have N23 := Fr.snoc X23 N21 g_it
  refine bN T23 (mkF m 14 #[vr it, vr al] []) (fun _ k => st23 _ k) ?_
  refine bN T23 (mkF m 15 #[vr it, vr al] [(.ref it)]) (fun _ k => XS.aloadN X23.here hx rfl (hb hby d18_14) rfl rfl k) ?_
  refine bN T23 (mkF m 16 #[vr it, vr al] [(.ref it), (.ref it)]) (fun _ k => XS.aloadN X23.here hx rfl (hb hby d18_15) rfl rfl k) ?_
  obtain ⟨T24, X24, e24, st24⟩ := getF X23 hx hZ hown (host := "") (Or.inl (hw _ (mo 138 rfl))) Via.refl e23 (Fld.other W23 Fw21 (Or.inr (slot_ne (a0 := a0) (Or.inr (hw _ (mo 139 rfl))) (Or.inl (hw _ (mo 142 rfl))) (by decide) (t := (.object sL)) (t' := .int) (by decide) (by decide)))) (g := (mkF m 16 #[vr it, vr al] [(.ref it), (.ref it)])) rfl rfl (hb hby d18_16)
  refine bN T24 (mkF m 19 #[vr it, vr al] [(.ref al), (.ref it)]) (fun _ k => st24 _ k) ?_
  obtain ⟨T25, X25, e25, st25⟩ := getF X24 hx hZ hown (host := "") (Or.inl (hw _ (mo 143 rfl))) (Via.of (hw _ (mo 60 rfl))) e24 (Fld.other W23 (Fld.other W21 F_modCount_al (Or.inl neia)) (Or.inl neia)) (g := (mkF m 19 #[vr it, vr al] [(.ref al), (.ref it)])) rfl rfl (hb hby d18_19)
  refine bN T25 (mkF m 22 #[vr it, vr al] [(.int mc), (.ref it)]) (fun _ k => st25 _ k) ?_
  obtain ⟨T26, h26, X26, e26, W26, st26⟩ := putF X25 hx hZ hown (host := "") (Or.inl (hw _ (mo 144 rfl))) Via.refl e25 (Fld.other W23 (Fld.other W21 F_expectedModCount_it (Or.inr (slot_ne (a0 := a0) (Or.inl (hw _ (mo 145 rfl))) (Or.inr (hw _ (mo 139 rfl))) (by decide) (t := .int) (t' := (.object sL)) (by decide) (by decide)))) (Or.inr (slot_ne (a0 := a0) (Or.inl (hw _ (mo 145 rfl))) (Or.inl (hw _ (mo 142 rfl))) (by decide) (t := .int) (t' := .int) (by decide) (by decide)))) (Exa.wr W23 (Exa.wr W21 E_it)) (Or.inl (hw _ (mo 145 rfl))) (hw _ (mo 132 rfl)) (ty := .int) (by decide) rfl rfl (g := (mkF m 22 #[vr it, vr al] [(.int mc), (.ref it)])) rfl rfl (hb hby d18_22)
  have Fw26 : Fld Z h26 it sI "expectedModCount" "I" (.int mc) := Fld.same W26 (Fld.other W23 (Fld.other W21 F_expectedModCount_it (Or.inr (slot_ne (a0 := a0) (Or.inl (hw _ (mo 145 rfl))) (Or.inr (hw _ (mo 139 rfl))) (by decide) (t := .int) (t' := (.object sL)) (by decide) (by decide)))) (Or.inr (slot_ne (a0 := a0) (Or.inl (hw _ (mo 145 rfl))) (Or.inl (hw _ (mo 142 rfl))) (by decide) (t := .int) (t' := .int) (by decide) (by decide))))
  have K26 : Keep h0 h26 [it] := Keep.wr K23 W26 (Or.inl (mo 0 rfl))
  have N26 := Fr.snoc X26 N23 g_it
  refine bN T26 (mkF m 25 #[vr it, vr al] []) (fun _ k => st26 _ k) ?_
  refine own_ret X26 hlk (v := none) (fun _ => rfl) (fun fs hr => X26.returnOut hx Bd.returns (hb hby d18_25) hr) ?_ (by decide) (by decide)
  rw [e26]
  exact ⟨rfl, N26, K26, (Fld.other W26 (Fld.other W23 Fw21 (Or.inr (slot_ne (a0 := a0) (Or.inr (hw _ (mo 139 rfl))) (Or.inl (hw _ (mo 142 rfl))) (by decide) (t := (.object sL)) (t' := .int) (by decide) (by decide)))) (Or.inr (slot_ne (a0 := a0) (Or.inr (hw _ (mo 139 rfl))) (Or.inl (hw _ (mo 145 rfl))) (by decide) (t := (.object sL)) (t' := .int) (by decide) (by decide)))), (Fld.other W26 Fw23 (Or.inr (slot_ne (a0 := a0) (Or.inl (hw _ (mo 142 rfl))) (Or.inl (hw _ (mo 145 rfl))) (by decide) (t := .int) (t' := .int) (by decide) (by decide)))), Fw26, (Fld.other W26 (Fld.other W23 (Fld.other W21 F_cursor_it (Or.inr (slot_ne (a0 := a0) (Or.inl (hw _ (mo 156 rfl))) (Or.inr (hw _ (mo 139 rfl))) (by decide) (t := .int) (t' := (.object sL)) (by decide) (by decide)))) (Or.inr (slot_ne (a0 := a0) (Or.inl (hw _ (mo 156 rfl))) (Or.inl (hw _ (mo 142 rfl))) (by decide) (t := .int) (t' := .int) (by decide) (by decide)))) (Or.inr (slot_ne (a0 := a0) (Or.inl (hw _ (mo 156 rfl))) (Or.inl (hw _ (mo 145 rfl))) (by decide) (t := .int) (t' := .int) (by decide) (by decide))))⟩
theorem d17_0 : decode jdk_38_method_55_code 0 = .ok (.new 267, 3) := by decide +kernel
theorem d17_3 : decode jdk_38_method_55_code 3 = .ok (.dup, 1) := by decide +kernel
theorem d17_4 : decode jdk_38_method_55_code 4 = .ok (.aload_n 0, 1) := by decide +kernel
theorem d17_5 : decode jdk_38_method_55_code 5 = .ok (.invokespecial 269, 3) := by decide +kernel
theorem d17_8 : decode jdk_38_method_55_code 8 = .ok (.areturn, 1) := by decide +kernel
theorem pn_17 : plainName sL = true := by first | (simp [plainName, overriddenIn]; done) | decide +kernel
theorem ef_ite (m : MethodId) (al : Addr) : entryFrame m #[(.ref al)] 1 = mkF m 0 #[vr al] [] := rfl
def Q_ite (Z : State) (al : Addr) (mc : Int32) (h0 : Heap) (n0 : Nat) (v : Option Value) (h : Heap) (L : List Loc) : Prop := ∃ it : Addr, v = some (.ref it) ∧ Fr n0 L ∧ Keep h0 h [] ∧ h0.size ≤ it ∧ Exa Z h it sI ∧ Fld Z h it sI "this$0" "Ljava/util/ArrayList;" (.ref al) ∧ Fld Z h it sI "lastRet" "I" (.int (-1 : Int32)) ∧ Fld Z h it sI "expectedModCount" "I" (.int mc) ∧ Fld Z h it sI "cursor" "I" (ii 0)
theorem ite (l : Launch) (Z : State) (a0 : Array Value) (hw : HW Z a0) (ws : List Jvm.Cond) (al : Addr) (mc : Int32) (h0 : Heap) (n0 : Nat) (Z0 : n0 ≤ h0.size) (F_modCount_al : Fld Z h0 al sB "modCount" "I" (.int mc)) :
    own_M l yy19 jdk_38_method_55_code 1 (some (.object "java/util/Iterator")) ws rr11 Z #[(.ref al)] h0 (Q_ite Z al mc h0 n0) := by
  refine own_bd (plainFor_of_name pn_17) fun p e s m below meth c s₁ Bd hx hby hml hown hnm hlk hZ X0 e0 => ?_
  rw [ef_ite m al]
  obtain ⟨T21, h21, X21, e21, E21, A21, D21, -, st21⟩ := newO X0 hx hZ hown (hw _ (mo 131 rfl)) (hw _ (mo 132 rfl)) (hw _ (mo 133 rfl)) e0 (g := (mkF m 0 #[vr al] [])) rfl (hb hby d17_0) (by decide) (by decide)
  obtain ⟨b21, g21⟩ : ∃ z, z = h0.size := ⟨_, rfl⟩
  rw [← g21] at A21 D21 st21
  have E_b21 : Exa Z h21 b21 sI := A21
  have F_this_0_b21 : Fld Z h21 b21 sI "this$0" "Ljava/util/ArrayList;" .null := D21 (Or.inr (hw _ (mo 139 rfl))) (ty := (.object sL)) (by decide)
  have F_lastRet_b21 : Fld Z h21 b21 sI "lastRet" "I" (ii 0) := D21 (Or.inl (hw _ (mo 142 rfl))) (ty := .int) (by decide)
  have F_expectedModCount_b21 : Fld Z h21 b21 sI "expectedModCount" "I" (ii 0) := D21 (Or.inl (hw _ (mo 145 rfl))) (ty := .int) (by decide)
  have F_cursor_b21 : Fld Z h21 b21 sI "cursor" "I" (ii 0) := D21 (Or.inl (hw _ (mo 156 rfl))) (ty := .int) (by decide)
  have g_b21 : n0 ≤ b21 := Nat.le_trans Z0 (Nat.le_of_eq g21.symm)
  have sz_b21 : h0.size ≤ b21 := Nat.le_trans (Keep.refl h0 []).1 (Nat.le_of_eq g21.symm)
  have K21 : Keep h0 h21 [] := Keep.ext (Keep.refl h0 []) E21
  refine bN T21 (mkF m 3 #[vr al] [(.ref b21)]) (fun _ k => st21 _ k) ?_
  refine bN T21 (mkF m 4 #[vr al] [(.ref b21), (.ref b21)]) (fun _ k => XS.dup X21.here hx rfl (hb hby d17_3) rfl rfl k) ?_
  refine bN T21 (mkF m 5 #[vr al] [(.ref al), (.ref b21), (.ref b21)]) (fun _ k => XS.aloadN X21.here hx rfl (hb hby d17_4) rfl rfl k) ?_
  have ne22 : al ≠ b21 := (Nat.ne_of_lt (Nat.lt_of_lt_of_le F_modCount_al.lt (Nat.le_of_eq g21.symm)))
  obtain ⟨_, _, ⟨T23, L23, k23, n23⟩, -, X23, ⟨Lc23, hQ23, l23, y23, z23⟩, st23⟩ := X21.specialBack hx (y := yy18) rfl hown (mvT hZ (hw _ (mo 134 rfl))) (mvT hZ (hw _ (mo 135 rfl))) (mvT hZ (hw _ (mo 137 rfl))) (by decide) (backOf (W := 1) (iti l Z a0 hw [] b21 al mc h21 n0 (Nat.le_trans Z0 E21.1) E_b21 F_this_0_b21 F_lastRet_b21 F_expectedModCount_b21 F_cursor_b21 g_b21 (Fld.ext E21 F_modCount_al) ne22) hZ (hw _ (mo 137 rfl)) (hw _ (mo 133 rfl)) (by decide) (by decide)) (g := (mkF m 5 #[vr al] [(.ref al), (.ref b21), (.ref b21)])) rfl (by rw [hml]; rfl) (Steps.refl _) (a := b21) (argsL := [(.ref al)]) (rest := [(.ref b21)]) (lenOf pd_8 rfl) rfl (Nat.le_of_eq rfl) (hb hby d17_5) (fun _ _ => ⟨rfl, e21, (by decide : 1 ≤ _), (by decide : 4 ≤ _)⟩)
  dsimp only [Pt.U, Pt.locs, Pt.cells, Pt.slots] at X23 l23 y23 z23 st23 hQ23
  subst l23 y23 z23
  obtain ⟨rfl, N23q, K23, F0_23, F1_23, F2_23, F3_23⟩ := hQ23
  have N23 := Fr.app (Fr.nil n0) N23q
  have KK23 : Keep h0 T23.heap [] := Keep.trans K21 K23 (allS (Or.inr sz_b21) all0)
  refine bN T23 (mkF m 8 #[vr al] [(.ref b21)]) (fun _ k => st23.trans k) ?_
  refine own_ret X23 hlk (v := some (.ref b21)) (nvr Bd.returns) (fun fs hr => retOut X23 hx Bd.returns rfl (Or.inr (Or.inr (Or.inr (Or.inr ⟨rfl, rfl, rfl⟩)))) (hb hby d17_8) hr) ?_ (by decide) (by decide)
  exact ⟨_, rfl, N23, KK23, sz_b21, (Exa.keep E_b21 K23), F0_23, F1_23, F2_23, F3_23⟩
theorem d19_0 : decode jdk_49_method_2_code 0 = .ok (.aload_n 0, 1) := by decide +kernel
theorem d19_1 : decode jdk_49_method_2_code 1 = .ok (.getfield 25, 3) := by decide +kernel
theorem d19_4 : decode jdk_49_method_2_code 4 = .ok (.aload_n 0, 1) := by decide +kernel
theorem d19_5 : decode jdk_49_method_2_code 5 = .ok (.getfield 1, 3) := by decide +kernel
theorem d19_8 : decode jdk_49_method_2_code 8 = .ok (.getfield 28, 3) := by decide +kernel
theorem d19_11 : decode jdk_49_method_2_code 11 = .ok (.if_icmp .eq 7, 3) := by decide +kernel
theorem d19_14 : decode jdk_49_method_2_code 14 = .ok (.iconst 1, 1) := by decide +kernel
theorem d19_15 : decode jdk_49_method_2_code 15 = .ok (.goto 4, 3) := by decide +kernel
theorem d19_18 : decode jdk_49_method_2_code 18 = .ok (.iconst 0, 1) := by decide +kernel
theorem d19_19 : decode jdk_49_method_2_code 19 = .ok (.ireturn, 1) := by decide +kernel
theorem pn_19 : plainName sI = true := by first | (simp [plainName, overriddenIn]; done) | decide +kernel
theorem ef_ihn (m : MethodId) (it : Addr) : entryFrame m #[(.ref it)] 1 = mkF m 0 #[vr it] [] := rfl
def Q_ihn (Z : State) (it al : Addr) (cu sz : Int32) (h0 : Heap) (n0 : Nat) (v : Option Value) (h : Heap) (L : List Loc) : Prop := v = some (.int (if cu = sz then (0 : Int32) else (1 : Int32))) ∧ Fr n0 L ∧ h = h0
theorem ihn (l : Launch) (Z : State) (a0 : Array Value) (hw : HW Z a0) (ws : List Jvm.Cond) (it al : Addr) (cu sz : Int32) (h0 : Heap) (n0 : Nat) (Z0 : n0 ≤ h0.size) (F_cursor_it : Fld Z h0 it sI "cursor" "I" (.int cu)) (F_this_0_it : Fld Z h0 it sI "this$0" "Ljava/util/ArrayList;" (.ref al)) (F_size_al : Fld Z h0 al sL "size" "I" (.int sz)) :
    own_M l yy20 jdk_49_method_2_code 1 (some .boolean) ws rr0 Z #[(.ref it)] h0 (Q_ihn Z it al cu sz h0 n0) := by
  refine own_bd (plainFor_of_name pn_19) fun p e s m below meth c s₁ Bd hx hby hml hown hnm hlk hZ X0 e0 => ?_
  rw [ef_ihn m it]
  refine bN s₁ (mkF m 1 #[vr it] [(.ref it)]) (fun _ k => XS.aloadN X0.here hx rfl (hb hby d19_0) rfl rfl k) ?_
  obtain ⟨T21, X21, e21, st21⟩ := getF X0 hx hZ hown (host := "") (Or.inl (hw _ (mo 155 rfl))) Via.refl e0 F_cursor_it (g := (mkF m 1 #[vr it] [(.ref it)])) rfl rfl (hb hby d19_1)
  refine bN T21 (mkF m 4 #[vr it] [(.int cu)]) (fun _ k => st21 _ k) ?_
  refine bN T21 (mkF m 5 #[vr it] [(.ref it), (.int cu)]) (fun _ k => XS.aloadN X21.here hx rfl (hb hby d19_4) rfl rfl k) ?_
  obtain ⟨T22, X22, e22, st22⟩ := getF X21 hx hZ hown (host := "") (Or.inl (hw _ (mo 138 rfl))) Via.refl e21 F_this_0_it (g := (mkF m 5 #[vr it] [(.ref it), (.int cu)])) rfl rfl (hb hby d19_5)
  refine bN T22 (mkF m 8 #[vr it] [(.ref al), (.int cu)]) (fun _ k => st22 _ k) ?_
  obtain ⟨T23, X23, e23, st23⟩ := getF X22 hx hZ hown (Or.inr (hw _ (mo 157 rfl))) Via.refl e22 F_size_al (g := (mkF m 8 #[vr it] [(.ref al), (.int cu)])) rfl rfl (hb hby d19_8)
  refine bN T23 (mkF m 11 #[vr it] [(.int sz), (.int cu)]) (fun _ k => st23 _ k) ?_
  by_cases hc11_24 : cu = sz
  · skip
    refine bN T23 (mkF m 18 #[vr it] []) (fun _ k => XS.icmpYes X23.here hx rfl (pc0 := 11) (pc' := 18) rfl (hb hby d19_11) rfl (teq hc11_24).1 (by decide) (by decide) k) ?_
    refine bN T23 (mkF m 19 #[vr it] [(ii 0)]) (fun _ k => XS.iconst X23.here hx rfl (hb hby d19_18) k) ?_
    refine own_ret X23 hlk (v := some (ii 0)) (nvr Bd.returns) (fun fs hr => retN X23 hx (t := .boolean) Bd.returns (by simp) (hb hby d19_19) hr) ?_ (by decide) (by decide)
    rw [e23]
    exact ⟨congrArg (fun z => some (Value.int z)) (if_pos hc11_24).symm, (Fr.nil n0), rfl⟩
  · skip
    refine bN T23 (mkF m 14 #[vr it] []) (fun _ k => XS.icmpNo X23.here hx rfl (hb hby d19_11) rfl (feq hc11_24).1 k) ?_
    refine bN T23 (mkF m 15 #[vr it] [(.int (1 : Int32))]) (fun _ k => XS.iconst X23.here hx rfl (hb hby d19_14) k) ?_
    refine bN T23 (mkF m 19 #[vr it] [(.int (1 : Int32))]) (fun _ k => XS.goto X23.here hx rfl (pc0 := 15) (pc' := 19) rfl (hb hby d19_15) (by decide) (by decide) k) ?_
    refine own_ret X23 hlk (v := some (.int (1 : Int32))) (nvr Bd.returns) (fun fs hr => retN X23 hx (t := .boolean) Bd.returns (by simp) (hb hby d19_19) hr) ?_ (by decide) (by decide)
    rw [e23]
    exact ⟨congrArg (fun z => some (Value.int z)) (if_neg hc11_24).symm, (Fr.nil n0), rfl⟩
theorem d23_0 : decode jdk_49_method_6_code 0 = .ok (.aload_n 0, 1) := by decide +kernel
theorem d23_1 : decode jdk_49_method_6_code 1 = .ok (.getfield 1, 3) := by decide +kernel
theorem d23_4 : decode jdk_49_method_6_code 4 = .ok (.getfield 17, 3) := by decide +kernel
theorem d23_7 : decode jdk_49_method_6_code 7 = .ok (.aload_n 0, 1) := by decide +kernel
theorem d23_8 : decode jdk_49_method_6_code 8 = .ok (.getfield 22, 3) := by decide +kernel
theorem d23_11 : decode jdk_49_method_6_code 11 = .ok (.if_icmp .eq 11, 3) := by decide +kernel
theorem d23_22 : decode jdk_49_method_6_code 22 = .ok (.return_, 1) := by decide +kernel
theorem pn_23 : plainName sI = true := by first | (simp [plainName, overriddenIn]; done) | decide +kernel
theorem ef_icm (m : MethodId) (it : Addr) : entryFrame m #[(.ref it)] 1 = mkF m 0 #[vr it] [] := rfl
def Q_icm (Z : State) (it al : Addr) (mc : Int32) (h0 : Heap) (n0 : Nat) (v : Option Value) (h : Heap) (L : List Loc) : Prop := v = none ∧ Fr n0 L ∧ h = h0
theorem icm (l : Launch) (Z : State) (a0 : Array Value) (hw : HW Z a0) (ws : List Jvm.Cond) (it al : Addr) (mc : Int32) (h0 : Heap) (n0 : Nat) (Z0 : n0 ≤ h0.size) (F_this_0_it : Fld Z h0 it sI "this$0" "Ljava/util/ArrayList;" (.ref al)) (F_modCount_al : Fld Z h0 al sB "modCount" "I" (.int mc)) (F_expectedModCount_it : Fld Z h0 it sI "expectedModCount" "I" (.int mc)) :
    own_M l yy21 jdk_49_method_6_code 1 none ws rr0 Z #[(.ref it)] h0 (Q_icm Z it al mc h0 n0) := by
  refine own_bd (plainFor_of_name pn_23) fun p e s m below meth c s₁ Bd hx hby hml hown hnm hlk hZ X0 e0 => ?_
  rw [ef_icm m it]
  refine bN s₁ (mkF m 1 #[vr it] [(.ref it)]) (fun _ k => XS.aloadN X0.here hx rfl (hb hby d23_0) rfl rfl k) ?_
  obtain ⟨T21, X21, e21, st21⟩ := getF X0 hx hZ hown (host := "") (Or.inl (hw _ (mo 138 rfl))) Via.refl e0 F_this_0_it (g := (mkF m 1 #[vr it] [(.ref it)])) rfl rfl (hb hby d23_1)
  refine bN T21 (mkF m 4 #[vr it] [(.ref al)]) (fun _ k => st21 _ k) ?_
  obtain ⟨T22, X22, e22, st22⟩ := getF X21 hx hZ hown (host := "") (Or.inl (hw _ (mo 143 rfl))) (Via.of (hw _ (mo 60 rfl))) e21 F_modCount_al (g := (mkF m 4 #[vr it] [(.ref al)])) rfl rfl (hb hby d23_4)
  refine bN T22 (mkF m 7 #[vr it] [(.int mc)]) (fun _ k => st22 _ k) ?_
  refine bN T22 (mkF m 8 #[vr it] [(.ref it), (.int mc)]) (fun _ k => XS.aloadN X22.here hx rfl (hb hby d23_7) rfl rfl k) ?_
  obtain ⟨T23, X23, e23, st23⟩ := getF X22 hx hZ hown (host := "") (Or.inl (hw _ (mo 144 rfl))) Via.refl e22 F_expectedModCount_it (g := (mkF m 8 #[vr it] [(.ref it), (.int mc)])) rfl rfl (hb hby d23_8)
  refine bN T23 (mkF m 11 #[vr it] [(.int mc), (.int mc)]) (fun _ k => st23 _ k) ?_
  refine bN T23 (mkF m 22 #[vr it] []) (fun _ k => XS.icmpYes X23.here hx rfl (pc0 := 11) (pc' := 22) rfl (hb hby d23_11) rfl (teq rfl).1 (by decide) (by decide) k) ?_
  refine own_ret X23 hlk (v := none) (fun _ => rfl) (fun fs hr => X23.returnOut hx Bd.returns (hb hby d23_22) hr) ?_ (by decide) (by decide)
  rw [e23]
  exact ⟨rfl, (Fr.nil n0), rfl⟩
theorem d22_0 : decode jdk_49_method_3_code 0 = .ok (.aload_n 0, 1) := by decide +kernel
theorem d22_1 : decode jdk_49_method_3_code 1 = .ok (.invokevirtual 31, 3) := by decide +kernel
theorem d22_4 : decode jdk_49_method_3_code 4 = .ok (.aload_n 0, 1) := by decide +kernel
theorem d22_5 : decode jdk_49_method_3_code 5 = .ok (.getfield 25, 3) := by decide +kernel
theorem d22_8 : decode jdk_49_method_3_code 8 = .ok (.istore_n 1, 1) := by decide +kernel
theorem d22_9 : decode jdk_49_method_3_code 9 = .ok (.iload_n 1, 1) := by decide +kernel
theorem d22_10 : decode jdk_49_method_3_code 10 = .ok (.aload_n 0, 1) := by decide +kernel
theorem d22_11 : decode jdk_49_method_3_code 11 = .ok (.getfield 1, 3) := by decide +kernel
theorem d22_14 : decode jdk_49_method_3_code 14 = .ok (.getfield 28, 3) := by decide +kernel
theorem d22_17 : decode jdk_49_method_3_code 17 = .ok (.if_icmp .lt 11, 3) := by decide +kernel
theorem d22_28 : decode jdk_49_method_3_code 28 = .ok (.aload_n 0, 1) := by decide +kernel
theorem d22_29 : decode jdk_49_method_3_code 29 = .ok (.getfield 1, 3) := by decide +kernel
theorem d22_32 : decode jdk_49_method_3_code 32 = .ok (.getfield 37, 3) := by decide +kernel
theorem d22_35 : decode jdk_49_method_3_code 35 = .ok (.astore_n 2, 1) := by decide +kernel
theorem d22_36 : decode jdk_49_method_3_code 36 = .ok (.iload_n 1, 1) := by decide +kernel
theorem d22_37 : decode jdk_49_method_3_code 37 = .ok (.aload_n 2, 1) := by decide +kernel
theorem d22_38 : decode jdk_49_method_3_code 38 = .ok (.arraylength, 1) := by decide +kernel
theorem d22_39 : decode jdk_49_method_3_code 39 = .ok (.if_icmp .lt 11, 3) := by decide +kernel
theorem d22_50 : decode jdk_49_method_3_code 50 = .ok (.aload_n 0, 1) := by decide +kernel
theorem d22_51 : decode jdk_49_method_3_code 51 = .ok (.iload_n 1, 1) := by decide +kernel
theorem d22_52 : decode jdk_49_method_3_code 52 = .ok (.iconst 1, 1) := by decide +kernel
theorem d22_53 : decode jdk_49_method_3_code 53 = .ok (.iadd, 1) := by decide +kernel
theorem d22_54 : decode jdk_49_method_3_code 54 = .ok (.putfield 25, 3) := by decide +kernel
theorem d22_57 : decode jdk_49_method_3_code 57 = .ok (.aload_n 2, 1) := by decide +kernel
theorem d22_58 : decode jdk_49_method_3_code 58 = .ok (.aload_n 0, 1) := by decide +kernel
theorem d22_59 : decode jdk_49_method_3_code 59 = .ok (.iload_n 1, 1) := by decide +kernel
theorem d22_60 : decode jdk_49_method_3_code 60 = .ok (.dup_x1, 1) := by decide +kernel
theorem d22_61 : decode jdk_49_method_3_code 61 = .ok (.putfield 13, 3) := by decide +kernel
theorem d22_64 : decode jdk_49_method_3_code 64 = .ok (.aaload, 1) := by decide +kernel
theorem d22_65 : decode jdk_49_method_3_code 65 = .ok (.areturn, 1) := by decide +kernel
theorem pn_22 : plainName sI = true := by first | (simp [plainName, overriddenIn]; done) | decide +kernel
theorem ef_inx_0 (m : MethodId) (it : Addr) : entryFrame m #[(.ref it)] 3 = mkF m 0 #[vr it, uu, uu] [] := rfl
def Q_inx_0 (Z : State) (it al : Addr) (mc lr sz : Int32) (dd : Addr) (kd : ClassId) (vs : List Value) (e9 : Addr) (h0 : Heap) (n0 : Nat) (v : Option Value) (h : Heap) (L : List Loc) : Prop := v = some (.ref e9) ∧ Fr n0 L ∧ Keep h0 h [it] ∧ Fld Z h it sI "this$0" "Ljava/util/ArrayList;" (.ref al) ∧ Fld Z h it sI "lastRet" "I" (ii 0) ∧ Fld Z h it sI "expectedModCount" "I" (.int mc) ∧ Fld Z h it sI "cursor" "I" (.int (1 : Int32))
theorem inx_0 (l : Launch) (Z : State) (a0 : Array Value) (hw : HW Z a0) (ws : List Jvm.Cond) (it al : Addr) (mc lr sz : Int32) (dd : Addr) (kd : ClassId) (vs : List Value) (e9 : Addr) (h0 : Heap) (n0 : Nat) (Z0 : n0 ≤ h0.size) (E_it : Exa Z h0 it sI) (F_this_0_it : Fld Z h0 it sI "this$0" "Ljava/util/ArrayList;" (.ref al)) (F_lastRet_it : Fld Z h0 it sI "lastRet" "I" (.int lr)) (F_expectedModCount_it : Fld Z h0 it sI "expectedModCount" "I" (.int mc)) (F_cursor_it : Fld Z h0 it sI "cursor" "I" (ii 0)) (g_it : n0 ≤ it) (F_modCount_al : Fld Z h0 al sB "modCount" "I" (.int mc)) (F_size_al : Fld Z h0 al sL "size" "I" (.int sz)) (F_elementData_al : Fld Z h0 al sL "elementData" sE (.ref dd)) (V_dd : Arv Z h0 dd kd (.object sO) (10 : Int32) vs .null) (hv : vs.getD 0 .null = (.ref e9)) (hlt : (0 : Int32) < sz) (neia : al ≠ it) (neid : dd ≠ it) :
    own_M l yy22 jdk_49_method_3_code 3 (some (.object sO)) ws rr2 Z #[(.ref it)] h0 (Q_inx_0 Z it al mc lr sz dd kd vs e9 h0 n0) := by
  refine own_bd (plainFor_of_name pn_22) fun p e s m below meth c s₁ Bd hx hby hml hown hnm hlk hZ X0 e0 => ?_
  rw [ef_inx_0 m it]
  refine bN s₁ (mkF m 1 #[vr it, uu, uu] [(.ref it)]) (fun _ k => XS.aloadN X0.here hx rfl (hb hby d22_0) rfl rfl k) ?_
  obtain ⟨cq21, kq21, q21a, q21b, q21c⟩ := isOf hZ e0 E_it
  obtain ⟨_, _, ⟨T21, L21, k21, n21⟩, -, X21, ⟨Lc21, hQ21, l21, y21, z21⟩, st21⟩ := X0.virtualBack hx (y := yy21) (z := yy21) hown (mvT hZ (hw _ (mo 180 rfl))) (mvT hZ (hw _ (mo 181 rfl))) (notFace_of_selects (args := #[]) (mvT hZ (hw _ (mo 183 rfl)))) (mvT hZ (hw _ (mo 183 rfl))) (mvT hZ (hw _ (mo 182 rfl))) (by decide) (backOf (W := 0) (icm l Z a0 hw [] it al mc h0 n0 Z0 F_this_0_it F_modCount_al F_expectedModCount_it) hZ (hw _ (mo 184 rfl)) (hw _ (mo 133 rfl)) (by decide) (by decide)) q21a q21c (g := (mkF m 1 #[vr it, uu, uu] [(.ref it)])) rfl (by rw [hml]; rfl) (Steps.refl _) (argsL := []) (rest := []) (lenOf pd_3 rfl) rfl (Nat.le_of_eq rfl) (hb hby d22_1) (fun _ _ => ⟨rfl, e0, (by decide : 0 ≤ _), (by decide : 0 ≤ _)⟩)
  dsimp only [Pt.U, Pt.locs, Pt.cells, Pt.slots] at X21 l21 y21 z21 st21 hQ21
  subst l21 y21 z21
  obtain ⟨rfl, N21q, e21⟩ := hQ21
  have N21 := Fr.app (Fr.nil n0) N21q
  refine bN T21 (mkF m 4 #[vr it, uu, uu] []) (fun _ k => st21.trans k) ?_
  refine bN T21 (mkF m 5 #[vr it, uu, uu] [(.ref it)]) (fun _ k => XS.aloadN X21.here hx rfl (hb hby d22_4) rfl rfl k) ?_
  obtain ⟨T22, X22, e22, st22⟩ := getF X21 hx hZ hown (host := "") (Or.inl (hw _ (mo 155 rfl))) Via.refl e21 F_cursor_it (g := (mkF m 5 #[vr it, uu, uu] [(.ref it)])) rfl rfl (hb hby d22_5)
  refine bN T22 (mkF m 8 #[vr it, uu, uu] [(ii 0)]) (fun _ k => st22 _ k) ?_
  refine bN T22 (mkF m 9 #[vr it, vi 0, uu] []) (fun _ k => XS.istoreN X22.here hx rfl (hb hby d22_8) rfl rfl k) ?_
  refine bN T22 (mkF m 10 #[vr it, vi 0, uu] [(ii 0)]) (fun _ k => XS.iloadN X22.here hx rfl (hb hby d22_9) rfl k) ?_
  refine bN T22 (mkF m 11 #[vr it, vi 0, uu] [(.ref it), (ii 0)]) (fun _ k => XS.aloadN X22.here hx rfl (hb hby d22_10) rfl rfl k) ?_
  obtain ⟨T23, X23, e23, st23⟩ := getF X22 hx hZ hown (host := "") (Or.inl (hw _ (mo 138 rfl))) Via.refl e22 F_this_0_it (g := (mkF m 11 #[vr it, vi 0, uu] [(.ref it), (ii 0)])) rfl rfl (hb hby d22_11)
  refine bN T23 (mkF m 14 #[vr it, vi 0, uu] [(.ref al), (ii 0)]) (fun _ k => st23 _ k) ?_
  obtain ⟨T24, X24, e24, st24⟩ := getF X23 hx hZ hown (Or.inr (hw _ (mo 157 rfl))) Via.refl e23 F_size_al (g := (mkF m 14 #[vr it, vi 0, uu] [(.ref al), (ii 0)])) rfl rfl (hb hby d22_14)
  refine bN T24 (mkF m 17 #[vr it, vi 0, uu] [(.int sz), (ii 0)]) (fun _ k => st24 _ k) ?_
  refine bN T24 (mkF m 28 #[vr it, vi 0, uu] []) (fun _ k => XS.icmpYes X24.here hx rfl (pc0 := 17) (pc' := 28) rfl (hb hby d22_17) rfl (tlt hlt).1 (by decide) (by decide) k) ?_
  refine bN T24 (mkF m 29 #[vr it, vi 0, uu] [(.ref it)]) (fun _ k => XS.aloadN X24.here hx rfl (hb hby d22_28) rfl rfl k) ?_
  obtain ⟨T25, X25, e25, st25⟩ := getF X24 hx hZ hown (host := "") (Or.inl (hw _ (mo 138 rfl))) Via.refl e24 F_this_0_it (g := (mkF m 29 #[vr it, vi 0, uu] [(.ref it)])) rfl rfl (hb hby d22_29)
  refine bN T25 (mkF m 32 #[vr it, vi 0, uu] [(.ref al)]) (fun _ k => st25 _ k) ?_
  obtain ⟨T26, X26, e26, st26⟩ := getF X25 hx hZ hown (host := "") (Or.inl (hw _ (mo 185 rfl))) Via.refl e25 F_elementData_al (g := (mkF m 32 #[vr it, vi 0, uu] [(.ref al)])) rfl rfl (hb hby d22_32)
  refine bN T26 (mkF m 35 #[vr it, vi 0, uu] [(.ref dd)]) (fun _ k => st26 _ k) ?_
  refine bN T26 (mkF m 36 #[vr it, vi 0, vr dd] []) (fun _ k => XS.astoreN X26.here hx rfl (hb hby d22_35) rfl rfl rfl k) ?_
  refine bN T26 (mkF m 37 #[vr it, vi 0, vr dd] [(ii 0)]) (fun _ k => XS.iloadN X26.here hx rfl (hb hby d22_36) rfl k) ?_
  refine bN T26 (mkF m 38 #[vr it, vi 0, vr dd] [(.ref dd), (ii 0)]) (fun _ k => XS.aloadN X26.here hx rfl (hb hby d22_37) rfl rfl k) ?_
  obtain ⟨cl27, Ar27, q27, S27, N_27, H27, G27⟩ := id V_dd
  refine bN T26 (mkF m 39 #[vr it, vi 0, vr dd] [(.int (10 : Int32)), (ii 0)]) (fun _ k => X26.arraylength hx (by rw [e26]; exact Ar27.1) (State.isArrayOf_alike hZ.alike Ar27.2.1) (g := (mkF m 38 #[vr it, vi 0, vr dd] [(.ref dd), (ii 0)])) rfl rfl (hb hby d22_38) _ (by rw [len_of S27 N_27]; exact k)) ?_
  refine bN T26 (mkF m 50 #[vr it, vi 0, vr dd] []) (fun _ k => XS.icmpYes X26.here hx rfl (pc0 := 39) (pc' := 50) rfl (hb hby d22_39) rfl (tlt (by decide)).1 (by decide) (by decide) k) ?_
  refine bN T26 (mkF m 51 #[vr it, vi 0, vr dd] [(.ref it)]) (fun _ k => XS.aloadN X26.here hx rfl (hb hby d22_50) rfl rfl k) ?_
  refine bN T26 (mkF m 52 #[vr it, vi 0, vr dd] [(ii 0), (.ref it)]) (fun _ k => XS.iloadN X26.here hx rfl (hb hby d22_51) rfl k) ?_
  refine bN T26 (mkF m 53 #[vr it, vi 0, vr dd] [(.int (1 : Int32)), (ii 0), (.ref it)]) (fun _ k => XS.iconst X26.here hx rfl (hb hby d22_52) k) ?_
  refine bN T26 (mkF m 54 #[vr it, vi 0, vr dd] [(.int (1 : Int32)), (.ref it)]) (fun _ k => XS.iadd X26.here hx rfl (hb hby d22_53) rfl k) ?_
  obtain ⟨T28, h28, X28, e28, W28, st28⟩ := putF X26 hx hZ hown (host := "") (Or.inl (hw _ (mo 155 rfl))) Via.refl e26 F_cursor_it E_it (Or.inl (hw _ (mo 156 rfl))) (hw _ (mo 132 rfl)) (ty := .int) (by decide) rfl rfl (g := (mkF m 54 #[vr it, vi 0, vr dd] [(.int (1 : Int32)), (.ref it)])) rfl rfl (hb hby d22_54)
  have Fw28 : Fld Z h28 it sI "cursor" "I" (.int (1 : Int32)) := Fld.same W28 F_cursor_it
  have K28 : Keep h0 h28 [it] := Keep.wr (Keep.refl h0 [it]) W28 (Or.inl (mo 0 rfl))
  have N28 := Fr.snoc X28 N21 g_it
  refine bN T28 (mkF m 57 #[vr it, vi 0, vr dd] []) (fun _ k => st28 _ k) ?_
  refine bN T28 (mkF m 58 #[vr it, vi 0, vr dd] [(.ref dd)]) (fun _ k => XS.aloadN X28.here hx rfl (hb hby d22_57) rfl rfl k) ?_
  refine bN T28 (mkF m 59 #[vr it, vi 0, vr dd] [(.ref it), (.ref dd)]) (fun _ k => XS.aloadN X28.here hx rfl (hb hby d22_58) rfl rfl k) ?_
  refine bN T28 (mkF m 60 #[vr it, vi 0, vr dd] [(ii 0), (.ref it), (.ref dd)]) (fun _ k => XS.iloadN X28.here hx rfl (hb hby d22_59) rfl k) ?_
  refine bN T28 (mkF m 61 #[vr it, vi 0, vr dd] [(ii 0), (.ref it), (ii 0), (.ref dd)]) (fun _ k => XS.dupX1 X28.here hx rfl (hb hby d22_60) rfl rfl rfl k) ?_
  obtain ⟨T29, h29, X29, e29, W29, st29⟩ := putF X28 hx hZ hown (host := "") (Or.inl (hw _ (mo 141 rfl))) Via.refl e28 (Fld.other W28 F_lastRet_it (Or.inr (slot_ne (a0 := a0) (Or.inl (hw _ (mo 142 rfl))) (Or.inl (hw _ (mo 156 rfl))) (by decide) (t := .int) (t' := .int) (by decide) (by decide)))) (Exa.wr W28 E_it) (Or.inl (hw _ (mo 142 rfl))) (hw _ (mo 132 rfl)) (ty := .int) (by decide) rfl rfl (g := (mkF m 61 #[vr it, vi 0, vr dd] [(ii 0), (.ref it), (ii 0), (.ref dd)])) rfl rfl (hb hby d22_61)
  have Fw29 : Fld Z h29 it sI "lastRet" "I" (ii 0) := Fld.same W29 (Fld.other W28 F_lastRet_it (Or.inr (slot_ne (a0 := a0) (Or.inl (hw _ (mo 142 rfl))) (Or.inl (hw _ (mo 156 rfl))) (by decide) (t := .int) (t' := .int) (by decide) (by decide))))
  have K29 : Keep h0 h29 [it] := Keep.wr K28 W29 (Or.inl (mo 0 rfl))
  have N29 := Fr.snoc X29 N28 g_it
  refine bN T29 (mkF m 64 #[vr it, vi 0, vr dd] [(ii 0), (.ref dd)]) (fun _ k => st29 _ k) ?_
  obtain ⟨cl30, Ar30, q30, S30, N_30, H30, G30⟩ := id (Arv.other (Arv.other V_dd W28 neid) W29 neid)
  have hin30 : ¬ ((0 : Int32) < 0 ∨ cl30.slots.size ≤ ((0 : Int32)).toNatClampNeg) := inb_of S30 ⟨by decide, by decide⟩
  refine bN T29 (mkF m 65 #[vr it, vi 0, vr dd] [(.ref e9)]) (fun _ k => X29.aaload hx (j := (0 : Int32)) (v := (.ref e9)) (by rw [e29]; exact Ar30.1) (State.isArrayOf_alike hZ.alike Ar30.2.1) rfl Ar30.2.2 hin30 (Has.at H30 hin30 hv) (g := (mkF m 64 #[vr it, vi 0, vr dd] [(ii 0), (.ref dd)])) rfl rfl (hb hby d22_64) _ k) ?_
  refine own_ret X29 hlk (v := some (.ref e9)) (nvr Bd.returns) (fun fs hr => retOut X29 hx Bd.returns rfl (Or.inr (Or.inr (Or.inr (Or.inr ⟨rfl, rfl, rfl⟩)))) (hb hby d22_65) hr) ?_ (by decide) (by decide)
  rw [e29]
  exact ⟨rfl, N29, K29, (Fld.other W29 (Fld.other W28 F_this_0_it (Or.inr (slot_ne (a0 := a0) (Or.inr (hw _ (mo 139 rfl))) (Or.inl (hw _ (mo 156 rfl))) (by decide) (t := (.object sL)) (t' := .int) (by decide) (by decide)))) (Or.inr (slot_ne (a0 := a0) (Or.inr (hw _ (mo 139 rfl))) (Or.inl (hw _ (mo 142 rfl))) (by decide) (t := (.object sL)) (t' := .int) (by decide) (by decide)))), Fw29, (Fld.other W29 (Fld.other W28 F_expectedModCount_it (Or.inr (slot_ne (a0 := a0) (Or.inl (hw _ (mo 145 rfl))) (Or.inl (hw _ (mo 156 rfl))) (by decide) (t := .int) (t' := .int) (by decide) (by decide)))) (Or.inr (slot_ne (a0 := a0) (Or.inl (hw _ (mo 145 rfl))) (Or.inl (hw _ (mo 142 rfl))) (by decide) (t := .int) (t' := .int) (by decide) (by decide)))), (Fld.other W29 Fw28 (Or.inr (slot_ne (a0 := a0) (Or.inl (hw _ (mo 156 rfl))) (Or.inl (hw _ (mo 142 rfl))) (by decide) (t := .int) (t' := .int) (by decide) (by decide))))⟩
theorem ef_inx_1 (m : MethodId) (it : Addr) : entryFrame m #[(.ref it)] 3 = mkF m 0 #[vr it, uu, uu] [] := rfl
def Q_inx_1 (Z : State) (it al : Addr) (mc lr sz : Int32) (dd : Addr) (kd : ClassId) (vs : List Value) (e9 : Addr) (h0 : Heap) (n0 : Nat) (v : Option Value) (h : Heap) (L : List Loc) : Prop := v = some (.ref e9) ∧ Fr n0 L ∧ Keep h0 h [it] ∧ Fld Z h it sI "this$0" "Ljava/util/ArrayList;" (.ref al) ∧ Fld Z h it sI "lastRet" "I" (.int (1 : Int32)) ∧ Fld Z h it sI "expectedModCount" "I" (.int mc) ∧ Fld Z h it sI "cursor" "I" (.int (2 : Int32))
theorem inx_1 (l : Launch) (Z : State) (a0 : Array Value) (hw : HW Z a0) (ws : List Jvm.Cond) (it al : Addr) (mc lr sz : Int32) (dd : Addr) (kd : ClassId) (vs : List Value) (e9 : Addr) (h0 : Heap) (n0 : Nat) (Z0 : n0 ≤ h0.size) (E_it : Exa Z h0 it sI) (F_this_0_it : Fld Z h0 it sI "this$0" "Ljava/util/ArrayList;" (.ref al)) (F_lastRet_it : Fld Z h0 it sI "lastRet" "I" (.int lr)) (F_expectedModCount_it : Fld Z h0 it sI "expectedModCount" "I" (.int mc)) (F_cursor_it : Fld Z h0 it sI "cursor" "I" (.int (1 : Int32))) (g_it : n0 ≤ it) (F_modCount_al : Fld Z h0 al sB "modCount" "I" (.int mc)) (F_size_al : Fld Z h0 al sL "size" "I" (.int sz)) (F_elementData_al : Fld Z h0 al sL "elementData" sE (.ref dd)) (V_dd : Arv Z h0 dd kd (.object sO) (10 : Int32) vs .null) (hv : vs.getD 1 .null = (.ref e9)) (hlt : (1 : Int32) < sz) (neia : al ≠ it) (neid : dd ≠ it) :
    own_M l yy22 jdk_49_method_3_code 3 (some (.object sO)) ws rr2 Z #[(.ref it)] h0 (Q_inx_1 Z it al mc lr sz dd kd vs e9 h0 n0) := by
  refine own_bd (plainFor_of_name pn_22) fun p e s m below meth c s₁ Bd hx hby hml hown hnm hlk hZ X0 e0 => ?_
  rw [ef_inx_1 m it]
  refine bN s₁ (mkF m 1 #[vr it, uu, uu] [(.ref it)]) (fun _ k => XS.aloadN X0.here hx rfl (hb hby d22_0) rfl rfl k) ?_
  obtain ⟨cq21, kq21, q21a, q21b, q21c⟩ := isOf hZ e0 E_it
  obtain ⟨_, _, ⟨T21, L21, k21, n21⟩, -, X21, ⟨Lc21, hQ21, l21, y21, z21⟩, st21⟩ := X0.virtualBack hx (y := yy21) (z := yy21) hown (mvT hZ (hw _ (mo 180 rfl))) (mvT hZ (hw _ (mo 181 rfl))) (notFace_of_selects (args := #[]) (mvT hZ (hw _ (mo 183 rfl)))) (mvT hZ (hw _ (mo 183 rfl))) (mvT hZ (hw _ (mo 182 rfl))) (by decide) (backOf (W := 0) (icm l Z a0 hw [] it al mc h0 n0 Z0 F_this_0_it F_modCount_al F_expectedModCount_it) hZ (hw _ (mo 184 rfl)) (hw _ (mo 133 rfl)) (by decide) (by decide)) q21a q21c (g := (mkF m 1 #[vr it, uu, uu] [(.ref it)])) rfl (by rw [hml]; rfl) (Steps.refl _) (argsL := []) (rest := []) (lenOf pd_3 rfl) rfl (Nat.le_of_eq rfl) (hb hby d22_1) (fun _ _ => ⟨rfl, e0, (by decide : 0 ≤ _), (by decide : 0 ≤ _)⟩)
  dsimp only [Pt.U, Pt.locs, Pt.cells, Pt.slots] at X21 l21 y21 z21 st21 hQ21
  subst l21 y21 z21
  obtain ⟨rfl, N21q, e21⟩ := hQ21
  have N21 := Fr.app (Fr.nil n0) N21q
  refine bN T21 (mkF m 4 #[vr it, uu, uu] []) (fun _ k => st21.trans k) ?_
  refine bN T21 (mkF m 5 #[vr it, uu, uu] [(.ref it)]) (fun _ k => XS.aloadN X21.here hx rfl (hb hby d22_4) rfl rfl k) ?_
  obtain ⟨T22, X22, e22, st22⟩ := getF X21 hx hZ hown (host := "") (Or.inl (hw _ (mo 155 rfl))) Via.refl e21 F_cursor_it (g := (mkF m 5 #[vr it, uu, uu] [(.ref it)])) rfl rfl (hb hby d22_5)
  refine bN T22 (mkF m 8 #[vr it, uu, uu] [(.int (1 : Int32))]) (fun _ k => st22 _ k) ?_
  refine bN T22 (mkF m 9 #[vr it, vi 1, uu] []) (fun _ k => XS.istoreN X22.here hx rfl (hb hby d22_8) rfl rfl k) ?_
  refine bN T22 (mkF m 10 #[vr it, vi 1, uu] [(.int (1 : Int32))]) (fun _ k => XS.iloadN X22.here hx rfl (hb hby d22_9) rfl k) ?_
  refine bN T22 (mkF m 11 #[vr it, vi 1, uu] [(.ref it), (.int (1 : Int32))]) (fun _ k => XS.aloadN X22.here hx rfl (hb hby d22_10) rfl rfl k) ?_
  obtain ⟨T23, X23, e23, st23⟩ := getF X22 hx hZ hown (host := "") (Or.inl (hw _ (mo 138 rfl))) Via.refl e22 F_this_0_it (g := (mkF m 11 #[vr it, vi 1, uu] [(.ref it), (.int (1 : Int32))])) rfl rfl (hb hby d22_11)
  refine bN T23 (mkF m 14 #[vr it, vi 1, uu] [(.ref al), (.int (1 : Int32))]) (fun _ k => st23 _ k) ?_
  obtain ⟨T24, X24, e24, st24⟩ := getF X23 hx hZ hown (Or.inr (hw _ (mo 157 rfl))) Via.refl e23 F_size_al (g := (mkF m 14 #[vr it, vi 1, uu] [(.ref al), (.int (1 : Int32))])) rfl rfl (hb hby d22_14)
  refine bN T24 (mkF m 17 #[vr it, vi 1, uu] [(.int sz), (.int (1 : Int32))]) (fun _ k => st24 _ k) ?_
  refine bN T24 (mkF m 28 #[vr it, vi 1, uu] []) (fun _ k => XS.icmpYes X24.here hx rfl (pc0 := 17) (pc' := 28) rfl (hb hby d22_17) rfl (tlt hlt).1 (by decide) (by decide) k) ?_
  refine bN T24 (mkF m 29 #[vr it, vi 1, uu] [(.ref it)]) (fun _ k => XS.aloadN X24.here hx rfl (hb hby d22_28) rfl rfl k) ?_
  obtain ⟨T25, X25, e25, st25⟩ := getF X24 hx hZ hown (host := "") (Or.inl (hw _ (mo 138 rfl))) Via.refl e24 F_this_0_it (g := (mkF m 29 #[vr it, vi 1, uu] [(.ref it)])) rfl rfl (hb hby d22_29)
  refine bN T25 (mkF m 32 #[vr it, vi 1, uu] [(.ref al)]) (fun _ k => st25 _ k) ?_
  obtain ⟨T26, X26, e26, st26⟩ := getF X25 hx hZ hown (host := "") (Or.inl (hw _ (mo 185 rfl))) Via.refl e25 F_elementData_al (g := (mkF m 32 #[vr it, vi 1, uu] [(.ref al)])) rfl rfl (hb hby d22_32)
  refine bN T26 (mkF m 35 #[vr it, vi 1, uu] [(.ref dd)]) (fun _ k => st26 _ k) ?_
  refine bN T26 (mkF m 36 #[vr it, vi 1, vr dd] []) (fun _ k => XS.astoreN X26.here hx rfl (hb hby d22_35) rfl rfl rfl k) ?_
  refine bN T26 (mkF m 37 #[vr it, vi 1, vr dd] [(.int (1 : Int32))]) (fun _ k => XS.iloadN X26.here hx rfl (hb hby d22_36) rfl k) ?_
  refine bN T26 (mkF m 38 #[vr it, vi 1, vr dd] [(.ref dd), (.int (1 : Int32))]) (fun _ k => XS.aloadN X26.here hx rfl (hb hby d22_37) rfl rfl k) ?_
  obtain ⟨cl27, Ar27, q27, S27, N_27, H27, G27⟩ := id V_dd
  refine bN T26 (mkF m 39 #[vr it, vi 1, vr dd] [(.int (10 : Int32)), (.int (1 : Int32))]) (fun _ k => X26.arraylength hx (by rw [e26]; exact Ar27.1) (State.isArrayOf_alike hZ.alike Ar27.2.1) (g := (mkF m 38 #[vr it, vi 1, vr dd] [(.ref dd), (.int (1 : Int32))])) rfl rfl (hb hby d22_38) _ (by rw [len_of S27 N_27]; exact k)) ?_
  refine bN T26 (mkF m 50 #[vr it, vi 1, vr dd] []) (fun _ k => XS.icmpYes X26.here hx rfl (pc0 := 39) (pc' := 50) rfl (hb hby d22_39) rfl (tlt (by decide)).1 (by decide) (by decide) k) ?_
  refine bN T26 (mkF m 51 #[vr it, vi 1, vr dd] [(.ref it)]) (fun _ k => XS.aloadN X26.here hx rfl (hb hby d22_50) rfl rfl k) ?_
  refine bN T26 (mkF m 52 #[vr it, vi 1, vr dd] [(.int (1 : Int32)), (.ref it)]) (fun _ k => XS.iloadN X26.here hx rfl (hb hby d22_51) rfl k) ?_
  refine bN T26 (mkF m 53 #[vr it, vi 1, vr dd] [(.int (1 : Int32)), (.int (1 : Int32)), (.ref it)]) (fun _ k => XS.iconst X26.here hx rfl (hb hby d22_52) k) ?_
  refine bN T26 (mkF m 54 #[vr it, vi 1, vr dd] [(.int (2 : Int32)), (.ref it)]) (fun _ k => XS.iadd X26.here hx rfl (hb hby d22_53) rfl k) ?_
  obtain ⟨T28, h28, X28, e28, W28, st28⟩ := putF X26 hx hZ hown (host := "") (Or.inl (hw _ (mo 155 rfl))) Via.refl e26 F_cursor_it E_it (Or.inl (hw _ (mo 156 rfl))) (hw _ (mo 132 rfl)) (ty := .int) (by decide) rfl rfl (g := (mkF m 54 #[vr it, vi 1, vr dd] [(.int (2 : Int32)), (.ref it)])) rfl rfl (hb hby d22_54)
  have Fw28 : Fld Z h28 it sI "cursor" "I" (.int (2 : Int32)) := Fld.same W28 F_cursor_it
  have K28 : Keep h0 h28 [it] := Keep.wr (Keep.refl h0 [it]) W28 (Or.inl (mo 0 rfl))
  have N28 := Fr.snoc X28 N21 g_it
  refine bN T28 (mkF m 57 #[vr it, vi 1, vr dd] []) (fun _ k => st28 _ k) ?_
  refine bN T28 (mkF m 58 #[vr it, vi 1, vr dd] [(.ref dd)]) (fun _ k => XS.aloadN X28.here hx rfl (hb hby d22_57) rfl rfl k) ?_
  refine bN T28 (mkF m 59 #[vr it, vi 1, vr dd] [(.ref it), (.ref dd)]) (fun _ k => XS.aloadN X28.here hx rfl (hb hby d22_58) rfl rfl k) ?_
  refine bN T28 (mkF m 60 #[vr it, vi 1, vr dd] [(.int (1 : Int32)), (.ref it), (.ref dd)]) (fun _ k => XS.iloadN X28.here hx rfl (hb hby d22_59) rfl k) ?_
  refine bN T28 (mkF m 61 #[vr it, vi 1, vr dd] [(.int (1 : Int32)), (.ref it), (.int (1 : Int32)), (.ref dd)]) (fun _ k => XS.dupX1 X28.here hx rfl (hb hby d22_60) rfl rfl rfl k) ?_
  obtain ⟨T29, h29, X29, e29, W29, st29⟩ := putF X28 hx hZ hown (host := "") (Or.inl (hw _ (mo 141 rfl))) Via.refl e28 (Fld.other W28 F_lastRet_it (Or.inr (slot_ne (a0 := a0) (Or.inl (hw _ (mo 142 rfl))) (Or.inl (hw _ (mo 156 rfl))) (by decide) (t := .int) (t' := .int) (by decide) (by decide)))) (Exa.wr W28 E_it) (Or.inl (hw _ (mo 142 rfl))) (hw _ (mo 132 rfl)) (ty := .int) (by decide) rfl rfl (g := (mkF m 61 #[vr it, vi 1, vr dd] [(.int (1 : Int32)), (.ref it), (.int (1 : Int32)), (.ref dd)])) rfl rfl (hb hby d22_61)
  have Fw29 : Fld Z h29 it sI "lastRet" "I" (.int (1 : Int32)) := Fld.same W29 (Fld.other W28 F_lastRet_it (Or.inr (slot_ne (a0 := a0) (Or.inl (hw _ (mo 142 rfl))) (Or.inl (hw _ (mo 156 rfl))) (by decide) (t := .int) (t' := .int) (by decide) (by decide))))
  have K29 : Keep h0 h29 [it] := Keep.wr K28 W29 (Or.inl (mo 0 rfl))
  have N29 := Fr.snoc X29 N28 g_it
  refine bN T29 (mkF m 64 #[vr it, vi 1, vr dd] [(.int (1 : Int32)), (.ref dd)]) (fun _ k => st29 _ k) ?_
  obtain ⟨cl30, Ar30, q30, S30, N_30, H30, G30⟩ := id (Arv.other (Arv.other V_dd W28 neid) W29 neid)
  have hin30 : ¬ ((1 : Int32) < 0 ∨ cl30.slots.size ≤ ((1 : Int32)).toNatClampNeg) := inb_of S30 ⟨by decide, by decide⟩
  refine bN T29 (mkF m 65 #[vr it, vi 1, vr dd] [(.ref e9)]) (fun _ k => X29.aaload hx (j := (1 : Int32)) (v := (.ref e9)) (by rw [e29]; exact Ar30.1) (State.isArrayOf_alike hZ.alike Ar30.2.1) rfl Ar30.2.2 hin30 (Has.at H30 hin30 hv) (g := (mkF m 64 #[vr it, vi 1, vr dd] [(.int (1 : Int32)), (.ref dd)])) rfl rfl (hb hby d22_64) _ k) ?_
  refine own_ret X29 hlk (v := some (.ref e9)) (nvr Bd.returns) (fun fs hr => retOut X29 hx Bd.returns rfl (Or.inr (Or.inr (Or.inr (Or.inr ⟨rfl, rfl, rfl⟩)))) (hb hby d22_65) hr) ?_ (by decide) (by decide)
  rw [e29]
  exact ⟨rfl, N29, K29, (Fld.other W29 (Fld.other W28 F_this_0_it (Or.inr (slot_ne (a0 := a0) (Or.inr (hw _ (mo 139 rfl))) (Or.inl (hw _ (mo 156 rfl))) (by decide) (t := (.object sL)) (t' := .int) (by decide) (by decide)))) (Or.inr (slot_ne (a0 := a0) (Or.inr (hw _ (mo 139 rfl))) (Or.inl (hw _ (mo 142 rfl))) (by decide) (t := (.object sL)) (t' := .int) (by decide) (by decide)))), Fw29, (Fld.other W29 (Fld.other W28 F_expectedModCount_it (Or.inr (slot_ne (a0 := a0) (Or.inl (hw _ (mo 145 rfl))) (Or.inl (hw _ (mo 156 rfl))) (by decide) (t := .int) (t' := .int) (by decide) (by decide)))) (Or.inr (slot_ne (a0 := a0) (Or.inl (hw _ (mo 145 rfl))) (Or.inl (hw _ (mo 142 rfl))) (by decide) (t := .int) (t' := .int) (by decide) (by decide)))), (Fld.other W29 Fw28 (Or.inr (slot_ne (a0 := a0) (Or.inl (hw _ (mo 156 rfl))) (Or.inl (hw _ (mo 142 rfl))) (by decide) (t := .int) (t' := .int) (by decide) (by decide))))⟩
theorem ef_inx_2 (m : MethodId) (it : Addr) : entryFrame m #[(.ref it)] 3 = mkF m 0 #[vr it, uu, uu] [] := rfl
def Q_inx_2 (Z : State) (it al : Addr) (mc lr sz : Int32) (dd : Addr) (kd : ClassId) (vs : List Value) (e9 : Addr) (h0 : Heap) (n0 : Nat) (v : Option Value) (h : Heap) (L : List Loc) : Prop := v = some (.ref e9) ∧ Fr n0 L ∧ Keep h0 h [it] ∧ Fld Z h it sI "this$0" "Ljava/util/ArrayList;" (.ref al) ∧ Fld Z h it sI "lastRet" "I" (.int (2 : Int32)) ∧ Fld Z h it sI "expectedModCount" "I" (.int mc) ∧ Fld Z h it sI "cursor" "I" (.int (3 : Int32))
theorem inx_2 (l : Launch) (Z : State) (a0 : Array Value) (hw : HW Z a0) (ws : List Jvm.Cond) (it al : Addr) (mc lr sz : Int32) (dd : Addr) (kd : ClassId) (vs : List Value) (e9 : Addr) (h0 : Heap) (n0 : Nat) (Z0 : n0 ≤ h0.size) (E_it : Exa Z h0 it sI) (F_this_0_it : Fld Z h0 it sI "this$0" "Ljava/util/ArrayList;" (.ref al)) (F_lastRet_it : Fld Z h0 it sI "lastRet" "I" (.int lr)) (F_expectedModCount_it : Fld Z h0 it sI "expectedModCount" "I" (.int mc)) (F_cursor_it : Fld Z h0 it sI "cursor" "I" (.int (2 : Int32))) (g_it : n0 ≤ it) (F_modCount_al : Fld Z h0 al sB "modCount" "I" (.int mc)) (F_size_al : Fld Z h0 al sL "size" "I" (.int sz)) (F_elementData_al : Fld Z h0 al sL "elementData" sE (.ref dd)) (V_dd : Arv Z h0 dd kd (.object sO) (10 : Int32) vs .null) (hv : vs.getD 2 .null = (.ref e9)) (hlt : (2 : Int32) < sz) (neia : al ≠ it) (neid : dd ≠ it) :
    own_M l yy22 jdk_49_method_3_code 3 (some (.object sO)) ws rr2 Z #[(.ref it)] h0 (Q_inx_2 Z it al mc lr sz dd kd vs e9 h0 n0) := by
  refine own_bd (plainFor_of_name pn_22) fun p e s m below meth c s₁ Bd hx hby hml hown hnm hlk hZ X0 e0 => ?_
  rw [ef_inx_2 m it]
  refine bN s₁ (mkF m 1 #[vr it, uu, uu] [(.ref it)]) (fun _ k => XS.aloadN X0.here hx rfl (hb hby d22_0) rfl rfl k) ?_
  obtain ⟨cq21, kq21, q21a, q21b, q21c⟩ := isOf hZ e0 E_it
  obtain ⟨_, _, ⟨T21, L21, k21, n21⟩, -, X21, ⟨Lc21, hQ21, l21, y21, z21⟩, st21⟩ := X0.virtualBack hx (y := yy21) (z := yy21) hown (mvT hZ (hw _ (mo 180 rfl))) (mvT hZ (hw _ (mo 181 rfl))) (notFace_of_selects (args := #[]) (mvT hZ (hw _ (mo 183 rfl)))) (mvT hZ (hw _ (mo 183 rfl))) (mvT hZ (hw _ (mo 182 rfl))) (by decide) (backOf (W := 0) (icm l Z a0 hw [] it al mc h0 n0 Z0 F_this_0_it F_modCount_al F_expectedModCount_it) hZ (hw _ (mo 184 rfl)) (hw _ (mo 133 rfl)) (by decide) (by decide)) q21a q21c (g := (mkF m 1 #[vr it, uu, uu] [(.ref it)])) rfl (by rw [hml]; rfl) (Steps.refl _) (argsL := []) (rest := []) (lenOf pd_3 rfl) rfl (Nat.le_of_eq rfl) (hb hby d22_1) (fun _ _ => ⟨rfl, e0, (by decide : 0 ≤ _), (by decide : 0 ≤ _)⟩)
  dsimp only [Pt.U, Pt.locs, Pt.cells, Pt.slots] at X21 l21 y21 z21 st21 hQ21
  subst l21 y21 z21
  obtain ⟨rfl, N21q, e21⟩ := hQ21
  have N21 := Fr.app (Fr.nil n0) N21q
  refine bN T21 (mkF m 4 #[vr it, uu, uu] []) (fun _ k => st21.trans k) ?_
  refine bN T21 (mkF m 5 #[vr it, uu, uu] [(.ref it)]) (fun _ k => XS.aloadN X21.here hx rfl (hb hby d22_4) rfl rfl k) ?_
  obtain ⟨T22, X22, e22, st22⟩ := getF X21 hx hZ hown (host := "") (Or.inl (hw _ (mo 155 rfl))) Via.refl e21 F_cursor_it (g := (mkF m 5 #[vr it, uu, uu] [(.ref it)])) rfl rfl (hb hby d22_5)
  refine bN T22 (mkF m 8 #[vr it, uu, uu] [(.int (2 : Int32))]) (fun _ k => st22 _ k) ?_
  refine bN T22 (mkF m 9 #[vr it, vi 2, uu] []) (fun _ k => XS.istoreN X22.here hx rfl (hb hby d22_8) rfl rfl k) ?_
  refine bN T22 (mkF m 10 #[vr it, vi 2, uu] [(.int (2 : Int32))]) (fun _ k => XS.iloadN X22.here hx rfl (hb hby d22_9) rfl k) ?_
  refine bN T22 (mkF m 11 #[vr it, vi 2, uu] [(.ref it), (.int (2 : Int32))]) (fun _ k => XS.aloadN X22.here hx rfl (hb hby d22_10) rfl rfl k) ?_
  obtain ⟨T23, X23, e23, st23⟩ := getF X22 hx hZ hown (host := "") (Or.inl (hw _ (mo 138 rfl))) Via.refl e22 F_this_0_it (g := (mkF m 11 #[vr it, vi 2, uu] [(.ref it), (.int (2 : Int32))])) rfl rfl (hb hby d22_11)
  refine bN T23 (mkF m 14 #[vr it, vi 2, uu] [(.ref al), (.int (2 : Int32))]) (fun _ k => st23 _ k) ?_
  obtain ⟨T24, X24, e24, st24⟩ := getF X23 hx hZ hown (Or.inr (hw _ (mo 157 rfl))) Via.refl e23 F_size_al (g := (mkF m 14 #[vr it, vi 2, uu] [(.ref al), (.int (2 : Int32))])) rfl rfl (hb hby d22_14)
  refine bN T24 (mkF m 17 #[vr it, vi 2, uu] [(.int sz), (.int (2 : Int32))]) (fun _ k => st24 _ k) ?_
  refine bN T24 (mkF m 28 #[vr it, vi 2, uu] []) (fun _ k => XS.icmpYes X24.here hx rfl (pc0 := 17) (pc' := 28) rfl (hb hby d22_17) rfl (tlt hlt).1 (by decide) (by decide) k) ?_
  refine bN T24 (mkF m 29 #[vr it, vi 2, uu] [(.ref it)]) (fun _ k => XS.aloadN X24.here hx rfl (hb hby d22_28) rfl rfl k) ?_
  obtain ⟨T25, X25, e25, st25⟩ := getF X24 hx hZ hown (host := "") (Or.inl (hw _ (mo 138 rfl))) Via.refl e24 F_this_0_it (g := (mkF m 29 #[vr it, vi 2, uu] [(.ref it)])) rfl rfl (hb hby d22_29)
  refine bN T25 (mkF m 32 #[vr it, vi 2, uu] [(.ref al)]) (fun _ k => st25 _ k) ?_
  obtain ⟨T26, X26, e26, st26⟩ := getF X25 hx hZ hown (host := "") (Or.inl (hw _ (mo 185 rfl))) Via.refl e25 F_elementData_al (g := (mkF m 32 #[vr it, vi 2, uu] [(.ref al)])) rfl rfl (hb hby d22_32)
  refine bN T26 (mkF m 35 #[vr it, vi 2, uu] [(.ref dd)]) (fun _ k => st26 _ k) ?_
  refine bN T26 (mkF m 36 #[vr it, vi 2, vr dd] []) (fun _ k => XS.astoreN X26.here hx rfl (hb hby d22_35) rfl rfl rfl k) ?_
  refine bN T26 (mkF m 37 #[vr it, vi 2, vr dd] [(.int (2 : Int32))]) (fun _ k => XS.iloadN X26.here hx rfl (hb hby d22_36) rfl k) ?_
  refine bN T26 (mkF m 38 #[vr it, vi 2, vr dd] [(.ref dd), (.int (2 : Int32))]) (fun _ k => XS.aloadN X26.here hx rfl (hb hby d22_37) rfl rfl k) ?_
  obtain ⟨cl27, Ar27, q27, S27, N_27, H27, G27⟩ := id V_dd
  refine bN T26 (mkF m 39 #[vr it, vi 2, vr dd] [(.int (10 : Int32)), (.int (2 : Int32))]) (fun _ k => X26.arraylength hx (by rw [e26]; exact Ar27.1) (State.isArrayOf_alike hZ.alike Ar27.2.1) (g := (mkF m 38 #[vr it, vi 2, vr dd] [(.ref dd), (.int (2 : Int32))])) rfl rfl (hb hby d22_38) _ (by rw [len_of S27 N_27]; exact k)) ?_
  refine bN T26 (mkF m 50 #[vr it, vi 2, vr dd] []) (fun _ k => XS.icmpYes X26.here hx rfl (pc0 := 39) (pc' := 50) rfl (hb hby d22_39) rfl (tlt (by decide)).1 (by decide) (by decide) k) ?_
  refine bN T26 (mkF m 51 #[vr it, vi 2, vr dd] [(.ref it)]) (fun _ k => XS.aloadN X26.here hx rfl (hb hby d22_50) rfl rfl k) ?_
  refine bN T26 (mkF m 52 #[vr it, vi 2, vr dd] [(.int (2 : Int32)), (.ref it)]) (fun _ k => XS.iloadN X26.here hx rfl (hb hby d22_51) rfl k) ?_
  refine bN T26 (mkF m 53 #[vr it, vi 2, vr dd] [(.int (1 : Int32)), (.int (2 : Int32)), (.ref it)]) (fun _ k => XS.iconst X26.here hx rfl (hb hby d22_52) k) ?_
  refine bN T26 (mkF m 54 #[vr it, vi 2, vr dd] [(.int (3 : Int32)), (.ref it)]) (fun _ k => XS.iadd X26.here hx rfl (hb hby d22_53) rfl k) ?_
  obtain ⟨T28, h28, X28, e28, W28, st28⟩ := putF X26 hx hZ hown (host := "") (Or.inl (hw _ (mo 155 rfl))) Via.refl e26 F_cursor_it E_it (Or.inl (hw _ (mo 156 rfl))) (hw _ (mo 132 rfl)) (ty := .int) (by decide) rfl rfl (g := (mkF m 54 #[vr it, vi 2, vr dd] [(.int (3 : Int32)), (.ref it)])) rfl rfl (hb hby d22_54)
  have Fw28 : Fld Z h28 it sI "cursor" "I" (.int (3 : Int32)) := Fld.same W28 F_cursor_it
  have K28 : Keep h0 h28 [it] := Keep.wr (Keep.refl h0 [it]) W28 (Or.inl (mo 0 rfl))
  have N28 := Fr.snoc X28 N21 g_it
  refine bN T28 (mkF m 57 #[vr it, vi 2, vr dd] []) (fun _ k => st28 _ k) ?_
  refine bN T28 (mkF m 58 #[vr it, vi 2, vr dd] [(.ref dd)]) (fun _ k => XS.aloadN X28.here hx rfl (hb hby d22_57) rfl rfl k) ?_
  refine bN T28 (mkF m 59 #[vr it, vi 2, vr dd] [(.ref it), (.ref dd)]) (fun _ k => XS.aloadN X28.here hx rfl (hb hby d22_58) rfl rfl k) ?_
  refine bN T28 (mkF m 60 #[vr it, vi 2, vr dd] [(.int (2 : Int32)), (.ref it), (.ref dd)]) (fun _ k => XS.iloadN X28.here hx rfl (hb hby d22_59) rfl k) ?_
  refine bN T28 (mkF m 61 #[vr it, vi 2, vr dd] [(.int (2 : Int32)), (.ref it), (.int (2 : Int32)), (.ref dd)]) (fun _ k => XS.dupX1 X28.here hx rfl (hb hby d22_60) rfl rfl rfl k) ?_
  obtain ⟨T29, h29, X29, e29, W29, st29⟩ := putF X28 hx hZ hown (host := "") (Or.inl (hw _ (mo 141 rfl))) Via.refl e28 (Fld.other W28 F_lastRet_it (Or.inr (slot_ne (a0 := a0) (Or.inl (hw _ (mo 142 rfl))) (Or.inl (hw _ (mo 156 rfl))) (by decide) (t := .int) (t' := .int) (by decide) (by decide)))) (Exa.wr W28 E_it) (Or.inl (hw _ (mo 142 rfl))) (hw _ (mo 132 rfl)) (ty := .int) (by decide) rfl rfl (g := (mkF m 61 #[vr it, vi 2, vr dd] [(.int (2 : Int32)), (.ref it), (.int (2 : Int32)), (.ref dd)])) rfl rfl (hb hby d22_61)
  have Fw29 : Fld Z h29 it sI "lastRet" "I" (.int (2 : Int32)) := Fld.same W29 (Fld.other W28 F_lastRet_it (Or.inr (slot_ne (a0 := a0) (Or.inl (hw _ (mo 142 rfl))) (Or.inl (hw _ (mo 156 rfl))) (by decide) (t := .int) (t' := .int) (by decide) (by decide))))
  have K29 : Keep h0 h29 [it] := Keep.wr K28 W29 (Or.inl (mo 0 rfl))
  have N29 := Fr.snoc X29 N28 g_it
  refine bN T29 (mkF m 64 #[vr it, vi 2, vr dd] [(.int (2 : Int32)), (.ref dd)]) (fun _ k => st29 _ k) ?_
  obtain ⟨cl30, Ar30, q30, S30, N_30, H30, G30⟩ := id (Arv.other (Arv.other V_dd W28 neid) W29 neid)
  have hin30 : ¬ ((2 : Int32) < 0 ∨ cl30.slots.size ≤ ((2 : Int32)).toNatClampNeg) := inb_of S30 ⟨by decide, by decide⟩
  refine bN T29 (mkF m 65 #[vr it, vi 2, vr dd] [(.ref e9)]) (fun _ k => X29.aaload hx (j := (2 : Int32)) (v := (.ref e9)) (by rw [e29]; exact Ar30.1) (State.isArrayOf_alike hZ.alike Ar30.2.1) rfl Ar30.2.2 hin30 (Has.at H30 hin30 hv) (g := (mkF m 64 #[vr it, vi 2, vr dd] [(.int (2 : Int32)), (.ref dd)])) rfl rfl (hb hby d22_64) _ k) ?_
  refine own_ret X29 hlk (v := some (.ref e9)) (nvr Bd.returns) (fun fs hr => retOut X29 hx Bd.returns rfl (Or.inr (Or.inr (Or.inr (Or.inr ⟨rfl, rfl, rfl⟩)))) (hb hby d22_65) hr) ?_ (by decide) (by decide)
  rw [e29]
  exact ⟨rfl, N29, K29, (Fld.other W29 (Fld.other W28 F_this_0_it (Or.inr (slot_ne (a0 := a0) (Or.inr (hw _ (mo 139 rfl))) (Or.inl (hw _ (mo 156 rfl))) (by decide) (t := (.object sL)) (t' := .int) (by decide) (by decide)))) (Or.inr (slot_ne (a0 := a0) (Or.inr (hw _ (mo 139 rfl))) (Or.inl (hw _ (mo 142 rfl))) (by decide) (t := (.object sL)) (t' := .int) (by decide) (by decide)))), Fw29, (Fld.other W29 (Fld.other W28 F_expectedModCount_it (Or.inr (slot_ne (a0 := a0) (Or.inl (hw _ (mo 145 rfl))) (Or.inl (hw _ (mo 156 rfl))) (by decide) (t := .int) (t' := .int) (by decide) (by decide)))) (Or.inr (slot_ne (a0 := a0) (Or.inl (hw _ (mo 145 rfl))) (Or.inl (hw _ (mo 142 rfl))) (by decide) (t := .int) (t' := .int) (by decide) (by decide)))), (Fld.other W29 Fw28 (Or.inr (slot_ne (a0 := a0) (Or.inl (hw _ (mo 156 rfl))) (Or.inl (hw _ (mo 142 rfl))) (by decide) (t := .int) (t' := .int) (by decide) (by decide))))⟩
theorem d27_0 : decode jdk_41_method_11_code 0 = .ok (.iload_n 0, 1) := by decide +kernel
theorem d27_1 : decode jdk_41_method_11_code 1 = .ok (.ifCond .lt 8, 3) := by decide +kernel
theorem d27_4 : decode jdk_41_method_11_code 4 = .ok (.iload_n 0, 1) := by decide +kernel
theorem d27_5 : decode jdk_41_method_11_code 5 = .ok (.iload_n 1, 1) := by decide +kernel
theorem d27_6 : decode jdk_41_method_11_code 6 = .ok (.if_icmp .lt 10, 3) := by decide +kernel
theorem d27_16 : decode jdk_41_method_11_code 16 = .ok (.iload_n 0, 1) := by decide +kernel
theorem d27_17 : decode jdk_41_method_11_code 17 = .ok (.ireturn, 1) := by decide +kernel
theorem pn_27 : plainName "jdk/internal/util/Preconditions" = true := by first | (simp [plainName, overriddenIn]; done) | decide +kernel
theorem ef_pci (m : MethodId) (i1 i2 : Int32) : entryFrame m #[(.int i1), (.int i2), .null] 3 = mkF m 0 #[vi i1, vi i2, .val .null] [] := rfl
def Q_pci (Z : State) (i1 i2 : Int32) (h0 : Heap) (n0 : Nat) (v : Option Value) (h : Heap) (L : List Loc) : Prop := v = some (.int i1) ∧ Fr n0 L ∧ h = h0
theorem pci (l : Launch) (Z : State) (a0 : Array Value) (hw : HW Z a0) (ws : List Jvm.Cond) (i1 i2 : Int32) (h0 : Heap) (n0 : Nat) (Z0 : n0 ≤ h0.size) (hg : ¬ i1 < (0 : Int32)) (hl : i1 < i2) :
    own_M l yy23 jdk_41_method_11_code 3 (some .int) ws rr0 Z #[(.int i1), (.int i2), .null] h0 (Q_pci Z i1 i2 h0 n0) := by
  refine own_bd (plainFor_of_name pn_27) fun p e s m below meth c s₁ Bd hx hby hml hown hnm hlk hZ X0 e0 => ?_
  rw [ef_pci m i1 i2]
  refine bN s₁ (mkF m 1 #[vi i1, vi i2, .val .null] [(.int i1)]) (fun _ k => XS.iloadN X0.here hx rfl (hb hby d27_0) rfl k) ?_
  refine bN s₁ (mkF m 4 #[vi i1, vi i2, .val .null] []) (fun _ k => XS.ifNo X0.here hx rfl (hb hby d27_1) rfl ((if0 _ _).trans (flt hg).1) k) ?_
  refine bN s₁ (mkF m 5 #[vi i1, vi i2, .val .null] [(.int i1)]) (fun _ k => XS.iloadN X0.here hx rfl (hb hby d27_4) rfl k) ?_
  refine bN s₁ (mkF m 6 #[vi i1, vi i2, .val .null] [(.int i2), (.int i1)]) (fun _ k => XS.iloadN X0.here hx rfl (hb hby d27_5) rfl k) ?_
  refine bN s₁ (mkF m 16 #[vi i1, vi i2, .val .null] []) (fun _ k => XS.icmpYes X0.here hx rfl (pc0 := 6) (pc' := 16) rfl (hb hby d27_6) rfl (tlt hl).1 (by decide) (by decide) k) ?_
  refine bN s₁ (mkF m 17 #[vi i1, vi i2, .val .null] [(.int i1)]) (fun _ k => XS.iloadN X0.here hx rfl (hb hby d27_16) rfl k) ?_
  refine own_ret X0 hlk (v := some (.int i1)) (nvr Bd.returns) (fun fs hr => retI X0 hx Bd.returns (hb hby d27_17) hr) ?_ (by decide) (by decide)
  rw [e0]
  exact ⟨rfl, (Fr.nil n0), rfl⟩
theorem d26_0 : decode jdk_31_method_17_code 0 = .ok (.iload_n 0, 1) := by decide +kernel
theorem d26_1 : decode jdk_31_method_17_code 1 = .ok (.iload_n 1, 1) := by decide +kernel
theorem d26_2 : decode jdk_31_method_17_code 2 = .ok (.aconst_null, 1) := by decide +kernel
theorem d26_3 : decode jdk_31_method_17_code 3 = .ok (.invokestatic 105, 3) := by decide +kernel
theorem d26_6 : decode jdk_31_method_17_code 6 = .ok (.ireturn, 1) := by decide +kernel
theorem pn_26 : plainName "java/util/Objects" = true := by first | (simp [plainName, overriddenIn]; done) | decide +kernel
theorem ef_oci (m : MethodId) (i1 i2 : Int32) : entryFrame m #[(.int i1), (.int i2)] 2 = mkF m 0 #[vi i1, vi i2] [] := rfl
def Q_oci (Z : State) (i1 i2 : Int32) (h0 : Heap) (n0 : Nat) (v : Option Value) (h : Heap) (L : List Loc) : Prop := v = some (.int i1) ∧ Fr n0 L ∧ h = h0
theorem oci (l : Launch) (Z : State) (a0 : Array Value) (hw : HW Z a0) (ws : List Jvm.Cond) (i1 i2 : Int32) (h0 : Heap) (n0 : Nat) (Z0 : n0 ≤ h0.size) (hg : ¬ i1 < (0 : Int32)) (hl : i1 < i2) :
    own_M l yy24 jdk_31_method_17_code 2 (some .int) ws rr12 Z #[(.int i1), (.int i2)] h0 (Q_oci Z i1 i2 h0 n0) := by
  refine own_bd (plainFor_of_name pn_26) fun p e s m below meth c s₁ Bd hx hby hml hown hnm hlk hZ X0 e0 => ?_
  rw [ef_oci m i1 i2]
  refine bN s₁ (mkF m 1 #[vi i1, vi i2] [(.int i1)]) (fun _ k => XS.iloadN X0.here hx rfl (hb hby d26_0) rfl k) ?_
  refine bN s₁ (mkF m 2 #[vi i1, vi i2] [(.int i2), (.int i1)]) (fun _ k => XS.iloadN X0.here hx rfl (hb hby d26_1) rfl k) ?_
  refine bN s₁ (mkF m 3 #[vi i1, vi i2] [.null, (.int i2), (.int i1)]) (fun _ k => XS.aconstNull X0.here hx rfl (hb hby d26_2) k) ?_
  obtain ⟨_, _, ⟨T21, L21, k21, n21⟩, -, X21, ⟨Lc21, hQ21, l21, y21, z21⟩, st21⟩ := Jvm.LawKit.callS X0 hx (y := yy23) hown (mvT hZ (hw _ (mo 205 rfl))) (mvT hZ (hw _ (mo 206 rfl))) (mvT hZ (hw _ (mo 207 rfl))) (mvT hZ (hw _ (mo 208 rfl))) (by decide) (backOf (W := 0) (pci l Z a0 hw [] i1 i2  h0 n0 Z0 hg hl) hZ (hw _ (mo 208 rfl)) (hw _ (mo 207 rfl)) (by decide) (by decide)) (g := (mkF m 3 #[vi i1, vi i2] [.null, (.int i2), (.int i1)])) rfl (by rw [hml]; rfl) (argsL := [(.int i1), (.int i2), .null]) (rest := []) (lenOf pd_9 rfl) rfl (Nat.le_of_eq rfl) (hb hby d26_3) (fun _ _ => ⟨rfl, e0, (by decide : 0 ≤ _), (by decide : 0 ≤ _)⟩)
  dsimp only [Pt.U, Pt.locs, Pt.cells, Pt.slots] at X21 l21 y21 z21 st21 hQ21
  subst l21 y21 z21
  obtain ⟨rfl, N21q, e21⟩ := hQ21
  have N21 := Fr.app (Fr.nil n0) N21q
  refine bN T21 (mkF m 6 #[vi i1, vi i2] [(.int i1)]) (fun _ k => st21 _ k) ?_
  refine own_ret X21 hlk (v := some (.int i1)) (nvr Bd.returns) (fun fs hr => retI X21 hx Bd.returns (hb hby d26_6) hr) ?_ (by decide) (by decide)
  rw [e21]
  exact ⟨rfl, N21, rfl⟩
theorem d28_0 : decode jdk_38_method_18_code 0 = .ok (.aload_n 0, 1) := by decide +kernel
theorem d28_1 : decode jdk_38_method_18_code 1 = .ok (.getfield 9, 3) := by decide +kernel
theorem d28_4 : decode jdk_38_method_18_code 4 = .ok (.iload_n 1, 1) := by decide +kernel
theorem d28_5 : decode jdk_38_method_18_code 5 = .ok (.aaload, 1) := by decide +kernel
theorem d28_6 : decode jdk_38_method_18_code 6 = .ok (.areturn, 1) := by decide +kernel
theorem pn_28 : plainName sL = true := by first | (simp [plainName, overriddenIn]; done) | decide +kernel
theorem ef_eld3 (m : MethodId) (a : Addr) (i1 : Int32) : entryFrame m #[(.ref a), (.int i1)] 2 = mkF m 0 #[vr a, vi i1] [] := rfl
def Q_eld3 (Z : State) (a : Addr) (i1 : Int32) (dd : Addr) (kd : ClassId) (y0 y1 y2 : Addr) (h0 : Heap) (n0 : Nat) (v : Option Value) (h : Heap) (L : List Loc) : Prop := v = some (.ref (own_p3 i1 y0 y1 y2)) ∧ Fr n0 L ∧ h = h0
theorem eld3 (l : Launch) (Z : State) (a0 : Array Value) (hw : HW Z a0) (ws : List Jvm.Cond) (a : Addr) (i1 : Int32) (dd : Addr) (kd : ClassId) (y0 y1 y2 : Addr) (h0 : Heap) (n0 : Nat) (Z0 : n0 ≤ h0.size) (F_elementData_a : Fld Z h0 a sL "elementData" sE (.ref dd)) (V_dd : Arv Z h0 dd kd (.object sO) (10 : Int32) [(.ref y0), (.ref y1), (.ref y2), .null, .null, .null, .null, .null, .null, .null] .null) (hi : i1 = 0 ∨ i1 = 1 ∨ i1 = 2) :
    own_M l yy25 jdk_38_method_18_code 2 (some (.object sO)) ws rr0 Z #[(.ref a), (.int i1)] h0 (Q_eld3 Z a i1 dd kd y0 y1 y2 h0 n0) := by
  refine own_bd (plainFor_of_name pn_28) fun p e s m below meth c s₁ Bd hx hby hml hown hnm hlk hZ X0 e0 => ?_
  rw [ef_eld3 m a i1]
  rcases hi with rfl | rfl | rfl
  · skip
    refine bN s₁ (mkF m 1 #[vr a, vi 0] [(.ref a)]) (fun _ k => XS.aloadN X0.here hx rfl (hb hby d28_0) rfl rfl k) ?_
    obtain ⟨T21, X21, e21, st21⟩ := getF X0 hx hZ hown (host := "") (Or.inl (hw _ (mo 52 rfl))) Via.refl e0 F_elementData_a (g := (mkF m 1 #[vr a, vi 0] [(.ref a)])) rfl rfl (hb hby d28_1)
    refine bN T21 (mkF m 4 #[vr a, vi 0] [(.ref dd)]) (fun _ k => st21 _ k) ?_
    refine bN T21 (mkF m 5 #[vr a, vi 0] [(ii 0), (.ref dd)]) (fun _ k => XS.iloadN X21.here hx rfl (hb hby d28_4) rfl k) ?_
    obtain ⟨cl22, Ar22, q22, S22, N_22, H22, G22⟩ := id V_dd
    have hin22 : ¬ ((0 : Int32) < 0 ∨ cl22.slots.size ≤ ((0 : Int32)).toNatClampNeg) := inb_of S22 ⟨by decide, by decide⟩
    refine bN T21 (mkF m 6 #[vr a, vi 0] [(.ref y0)]) (fun _ k => X21.aaload hx (j := (0 : Int32)) (v := (.ref y0)) (by rw [e21]; exact Ar22.1) (State.isArrayOf_alike hZ.alike Ar22.2.1) rfl Ar22.2.2 hin22 (Has.at H22 hin22 rfl) (g := (mkF m 5 #[vr a, vi 0] [(ii 0), (.ref dd)])) rfl rfl (hb hby d28_5) _ k) ?_
    refine own_ret X21 hlk (v := some (.ref y0)) (nvr Bd.returns) (fun fs hr => retOut X21 hx Bd.returns rfl (Or.inr (Or.inr (Or.inr (Or.inr ⟨rfl, rfl, rfl⟩)))) (hb hby d28_6) hr) ?_ (by decide) (by decide)
    rw [e21]
    exact ⟨congrArg (fun z => some (Value.ref z)) (own_p30 _ _ _).symm, (Fr.nil n0), rfl⟩
  · skip
    refine bN s₁ (mkF m 1 #[vr a, vi 1] [(.ref a)]) (fun _ k => XS.aloadN X0.here hx rfl (hb hby d28_0) rfl rfl k) ?_
    obtain ⟨T23, X23, e23, st23⟩ := getF X0 hx hZ hown (host := "") (Or.inl (hw _ (mo 52 rfl))) Via.refl e0 F_elementData_a (g := (mkF m 1 #[vr a, vi 1] [(.ref a)])) rfl rfl (hb hby d28_1)
    refine bN T23 (mkF m 4 #[vr a, vi 1] [(.ref dd)]) (fun _ k => st23 _ k) ?_
    refine bN T23 (mkF m 5 #[vr a, vi 1] [(.int (1 : Int32)), (.ref dd)]) (fun _ k => XS.iloadN X23.here hx rfl (hb hby d28_4) rfl k) ?_
    obtain ⟨cl24, Ar24, q24, S24, N_24, H24, G24⟩ := id V_dd
    have hin24 : ¬ ((1 : Int32) < 0 ∨ cl24.slots.size ≤ ((1 : Int32)).toNatClampNeg) := inb_of S24 ⟨by decide, by decide⟩
    refine bN T23 (mkF m 6 #[vr a, vi 1] [(.ref y1)]) (fun _ k => X23.aaload hx (j := (1 : Int32)) (v := (.ref y1)) (by rw [e23]; exact Ar24.1) (State.isArrayOf_alike hZ.alike Ar24.2.1) rfl Ar24.2.2 hin24 (Has.at H24 hin24 rfl) (g := (mkF m 5 #[vr a, vi 1] [(.int (1 : Int32)), (.ref dd)])) rfl rfl (hb hby d28_5) _ k) ?_
    refine own_ret X23 hlk (v := some (.ref y1)) (nvr Bd.returns) (fun fs hr => retOut X23 hx Bd.returns rfl (Or.inr (Or.inr (Or.inr (Or.inr ⟨rfl, rfl, rfl⟩)))) (hb hby d28_6) hr) ?_ (by decide) (by decide)
    rw [e23]
    exact ⟨congrArg (fun z => some (Value.ref z)) (own_p31 _ _ _).symm, (Fr.nil n0), rfl⟩
  · skip
    refine bN s₁ (mkF m 1 #[vr a, vi 2] [(.ref a)]) (fun _ k => XS.aloadN X0.here hx rfl (hb hby d28_0) rfl rfl k) ?_
    obtain ⟨T25, X25, e25, st25⟩ := getF X0 hx hZ hown (host := "") (Or.inl (hw _ (mo 52 rfl))) Via.refl e0 F_elementData_a (g := (mkF m 1 #[vr a, vi 2] [(.ref a)])) rfl rfl (hb hby d28_1)
    refine bN T25 (mkF m 4 #[vr a, vi 2] [(.ref dd)]) (fun _ k => st25 _ k) ?_
    refine bN T25 (mkF m 5 #[vr a, vi 2] [(.int (2 : Int32)), (.ref dd)]) (fun _ k => XS.iloadN X25.here hx rfl (hb hby d28_4) rfl k) ?_
    obtain ⟨cl26, Ar26, q26, S26, N_26, H26, G26⟩ := id V_dd
    have hin26 : ¬ ((2 : Int32) < 0 ∨ cl26.slots.size ≤ ((2 : Int32)).toNatClampNeg) := inb_of S26 ⟨by decide, by decide⟩
    refine bN T25 (mkF m 6 #[vr a, vi 2] [(.ref y2)]) (fun _ k => X25.aaload hx (j := (2 : Int32)) (v := (.ref y2)) (by rw [e25]; exact Ar26.1) (State.isArrayOf_alike hZ.alike Ar26.2.1) rfl Ar26.2.2 hin26 (Has.at H26 hin26 rfl) (g := (mkF m 5 #[vr a, vi 2] [(.int (2 : Int32)), (.ref dd)])) rfl rfl (hb hby d28_5) _ k) ?_
    refine own_ret X25 hlk (v := some (.ref y2)) (nvr Bd.returns) (fun fs hr => retOut X25 hx Bd.returns rfl (Or.inr (Or.inr (Or.inr (Or.inr ⟨rfl, rfl, rfl⟩)))) (hb hby d28_6) hr) ?_ (by decide) (by decide)
    rw [e25]
    exact ⟨congrArg (fun z => some (Value.ref z)) (own_p32 _ _ _).symm, (Fr.nil n0), rfl⟩
theorem d25_0 : decode jdk_38_method_20_code 0 = .ok (.iload_n 1, 1) := by decide +kernel
theorem d25_1 : decode jdk_38_method_20_code 1 = .ok (.aload_n 0, 1) := by decide +kernel
theorem d25_2 : decode jdk_38_method_20_code 2 = .ok (.getfield 48, 3) := by decide +kernel
theorem d25_5 : decode jdk_38_method_20_code 5 = .ok (.invokestatic 118, 3) := by decide +kernel
theorem d25_8 : decode jdk_38_method_20_code 8 = .ok (.pop, 1) := by decide +kernel
theorem d25_9 : decode jdk_38_method_20_code 9 = .ok (.aload_n 0, 1) := by decide +kernel
theorem d25_10 : decode jdk_38_method_20_code 10 = .ok (.iload_n 1, 1) := by decide +kernel
theorem d25_11 : decode jdk_38_method_20_code 11 = .ok (.invokevirtual 123, 3) := by decide +kernel
theorem d25_14 : decode jdk_38_method_20_code 14 = .ok (.areturn, 1) := by decide +kernel
theorem pn_25 : plainName sL = true := by first | (simp [plainName, overriddenIn]; done) | decide +kernel
theorem ef_get3 (m : MethodId) (a : Addr) (i1 : Int32) : entryFrame m #[(.ref a), (.int i1)] 2 = mkF m 0 #[vr a, vi i1] [] := rfl
def Q_get3 (Z : State) (a : Addr) (i1 : Int32) (dd : Addr) (kd : ClassId) (y0 y1 y2 : Addr) (h0 : Heap) (n0 : Nat) (v : Option Value) (h : Heap) (L : List Loc) : Prop := v = some (.ref (own_p3 i1 y0 y1 y2)) ∧ Fr n0 L ∧ h = h0
theorem get3 (l : Launch) (Z : State) (a0 : Array Value) (hw : HW Z a0) (ws : List Jvm.Cond) (a : Addr) (i1 : Int32) (dd : Addr) (kd : ClassId) (y0 y1 y2 : Addr) (h0 : Heap) (n0 : Nat) (Z0 : n0 ≤ h0.size) (E_a : Exa Z h0 a sL) (F_size_a : Fld Z h0 a sL "size" "I" (.int (3 : Int32))) (F_elementData_a : Fld Z h0 a sL "elementData" sE (.ref dd)) (V_dd : Arv Z h0 dd kd (.object sO) (10 : Int32) [(.ref y0), (.ref y1), (.ref y2), .null, .null, .null, .null, .null, .null, .null] .null) (hi : i1 = 0 ∨ i1 = 1 ∨ i1 = 2) :
    own_M l yy26 jdk_38_method_20_code 2 (some (.object sO)) ws rr13 Z #[(.ref a), (.int i1)] h0 (Q_get3 Z a i1 dd kd y0 y1 y2 h0 n0) := by
  refine own_bd (plainFor_of_name pn_25) fun p e s m below meth c s₁ Bd hx hby hml hown hnm hlk hZ X0 e0 => ?_
  rw [ef_get3 m a i1]
  refine bN s₁ (mkF m 1 #[vr a, vi i1] [(.int i1)]) (fun _ k => XS.iloadN X0.here hx rfl (hb hby d25_0) rfl k) ?_
  refine bN s₁ (mkF m 2 #[vr a, vi i1] [(.ref a), (.int i1)]) (fun _ k => XS.aloadN X0.here hx rfl (hb hby d25_1) rfl rfl k) ?_
  obtain ⟨T21, X21, e21, st21⟩ := getF X0 hx hZ hown (host := "") (Or.inl (hw _ (mo 61 rfl))) Via.refl e0 F_size_a (g := (mkF m 2 #[vr a, vi i1] [(.ref a), (.int i1)])) rfl rfl (hb hby d25_2)
  refine bN T21 (mkF m 5 #[vr a, vi i1] [(.int (3 : Int32)), (.int i1)]) (fun _ k => st21 _ k) ?_
  obtain ⟨_, _, ⟨T22, L22, k22, n22⟩, -, X22, ⟨Lc22, hQ22, l22, y22, z22⟩, st22⟩ := Jvm.LawKit.callS X21 hx (y := yy24) hown (mvT hZ (hw _ (mo 201 rfl))) (mvT hZ (hw _ (mo 202 rfl))) (mvT hZ (hw _ (mo 203 rfl))) (mvT hZ (hw _ (mo 204 rfl))) (by decide) (backOf (W := 0) (oci l Z a0 hw [] i1 (3 : Int32)  h0 n0 Z0 (own_ge0 hi) (own_lt3 hi)) hZ (hw _ (mo 204 rfl)) (hw _ (mo 203 rfl)) (by decide) (by decide)) (g := (mkF m 5 #[vr a, vi i1] [(.int (3 : Int32)), (.int i1)])) rfl (by rw [hml]; rfl) (argsL := [(.int i1), (.int (3 : Int32))]) (rest := []) (lenOf pd_4 rfl) rfl (Nat.le_of_eq rfl) (hb hby d25_5) (fun _ _ => ⟨rfl, e21, (by decide : 0 ≤ _), (by decide : 0 ≤ _)⟩)
  dsimp only [Pt.U, Pt.locs, Pt.cells, Pt.slots] at X22 l22 y22 z22 st22 hQ22
  subst l22 y22 z22
  obtain ⟨rfl, N22q, e22⟩ := hQ22
  have N22 := Fr.app (Fr.nil n0) N22q
  refine bN T22 (mkF m 8 #[vr a, vi i1] [(.int i1)]) (fun _ k => st22 _ k) ?_
  refine bN T22 (mkF m 9 #[vr a, vi i1] []) (fun _ k => XS.pop X22.here hx rfl (hb hby d25_8) rfl rfl k) ?_
  refine bN T22 (mkF m 10 #[vr a, vi i1] [(.ref a)]) (fun _ k => XS.aloadN X22.here hx rfl (hb hby d25_9) rfl rfl k) ?_
  refine bN T22 (mkF m 11 #[vr a, vi i1] [(.int i1), (.ref a)]) (fun _ k => XS.iloadN X22.here hx rfl (hb hby d25_10) rfl k) ?_
  obtain ⟨cq23, kq23, q23a, q23b, q23c⟩ := isOf hZ e22 E_a
  obtain ⟨_, _, ⟨T23, L23, k23, n23⟩, -, X23, ⟨Lc23, hQ23, l23, y23, z23⟩, st23⟩ := X22.virtualBack hx (y := yy25) (z := yy25) hown (mvT hZ (hw _ (mo 209 rfl))) (mvT hZ (hw _ (mo 210 rfl))) (notFace_of_selects (args := #[]) (mvT hZ (hw _ (mo 212 rfl)))) (mvT hZ (hw _ (mo 212 rfl))) (mvT hZ (hw _ (mo 211 rfl))) (by decide) (backOf (W := 0) (eld3 l Z a0 hw [] a i1 dd kd y0 y1 y2 h0 n0 Z0 F_elementData_a V_dd hi) hZ (hw _ (mo 213 rfl)) (hw _ (mo 32 rfl)) (by decide) (by decide)) q23a q23c (g := (mkF m 11 #[vr a, vi i1] [(.int i1), (.ref a)])) rfl (by rw [hml]; rfl) (Steps.refl _) (argsL := [(.int i1)]) (rest := []) (lenOf pd_10 rfl) rfl (Nat.le_of_eq rfl) (hb hby d25_11) (fun _ _ => ⟨rfl, e22, (by decide : 0 ≤ _), (by decide : 0 ≤ _)⟩)
  dsimp only [Pt.U, Pt.locs, Pt.cells, Pt.slots] at X23 l23 y23 z23 st23 hQ23
  subst l23 y23 z23
  obtain ⟨rfl, N23q, e23⟩ := hQ23
  have N23 := Fr.app N22 N23q
  refine bN T23 (mkF m 14 #[vr a, vi i1] [(.ref (own_p3 i1 y0 y1 y2))]) (fun _ k => st23.trans k) ?_
  refine own_ret X23 hlk (v := some (.ref (own_p3 i1 y0 y1 y2))) (nvr Bd.returns) (fun fs hr => retOut X23 hx Bd.returns rfl (Or.inr (Or.inr (Or.inr (Or.inr ⟨rfl, rfl, rfl⟩)))) (hb hby d25_14) hr) ?_ (by decide) (by decide)
  rw [e23]
  exact ⟨rfl, N23, rfl⟩
theorem ef_eldj_0 (m : MethodId) (a : Addr) : entryFrame m #[(.ref a), (ii 0)] 2 = mkF m 0 #[vr a, vi 0] [] := rfl
def Q_eldj_0 (Z : State) (a dd : Addr) (kd : ClassId) (vs : List Value) (e9 : Addr) (h0 : Heap) (n0 : Nat) (v : Option Value) (h : Heap) (L : List Loc) : Prop := v = some (.ref e9) ∧ Fr n0 L ∧ h = h0
theorem eldj_0 (l : Launch) (Z : State) (a0 : Array Value) (hw : HW Z a0) (ws : List Jvm.Cond) (a dd : Addr) (kd : ClassId) (vs : List Value) (e9 : Addr) (h0 : Heap) (n0 : Nat) (Z0 : n0 ≤ h0.size) (F_elementData_a : Fld Z h0 a sL "elementData" sE (.ref dd)) (V_dd : Arv Z h0 dd kd (.object sO) (10 : Int32) vs .null) (hv : vs.getD 0 .null = (.ref e9)) :
    own_M l yy25 jdk_38_method_18_code 2 (some (.object sO)) ws rr0 Z #[(.ref a), (ii 0)] h0 (Q_eldj_0 Z a dd kd vs e9 h0 n0) := by
  refine own_bd (plainFor_of_name pn_28) fun p e s m below meth c s₁ Bd hx hby hml hown hnm hlk hZ X0 e0 => ?_
  rw [ef_eldj_0 m a]
  refine bN s₁ (mkF m 1 #[vr a, vi 0] [(.ref a)]) (fun _ k => XS.aloadN X0.here hx rfl (hb hby d28_0) rfl rfl k) ?_
  obtain ⟨T21, X21, e21, st21⟩ := getF X0 hx hZ hown (host := "") (Or.inl (hw _ (mo 52 rfl))) Via.refl e0 F_elementData_a (g := (mkF m 1 #[vr a, vi 0] [(.ref a)])) rfl rfl (hb hby d28_1)
  refine bN T21 (mkF m 4 #[vr a, vi 0] [(.ref dd)]) (fun _ k => st21 _ k) ?_
  refine bN T21 (mkF m 5 #[vr a, vi 0] [(ii 0), (.ref dd)]) (fun _ k => XS.iloadN X21.here hx rfl (hb hby d28_4) rfl k) ?_
  obtain ⟨cl22, Ar22, q22, S22, N_22, H22, G22⟩ := id V_dd
  have hin22 : ¬ ((0 : Int32) < 0 ∨ cl22.slots.size ≤ ((0 : Int32)).toNatClampNeg) := inb_of S22 ⟨by decide, by decide⟩
  refine bN T21 (mkF m 6 #[vr a, vi 0] [(.ref e9)]) (fun _ k => X21.aaload hx (j := (0 : Int32)) (v := (.ref e9)) (by rw [e21]; exact Ar22.1) (State.isArrayOf_alike hZ.alike Ar22.2.1) rfl Ar22.2.2 hin22 (Has.at H22 hin22 hv) (g := (mkF m 5 #[vr a, vi 0] [(ii 0), (.ref dd)])) rfl rfl (hb hby d28_5) _ k) ?_
  refine own_ret X21 hlk (v := some (.ref e9)) (nvr Bd.returns) (fun fs hr => retOut X21 hx Bd.returns rfl (Or.inr (Or.inr (Or.inr (Or.inr ⟨rfl, rfl, rfl⟩)))) (hb hby d28_6) hr) ?_ (by decide) (by decide)
  rw [e21]
  exact ⟨rfl, (Fr.nil n0), rfl⟩
theorem ef_getj_0 (m : MethodId) (a : Addr) : entryFrame m #[(.ref a), (ii 0)] 2 = mkF m 0 #[vr a, vi 0] [] := rfl
def Q_getj_0 (Z : State) (a dd : Addr) (kd : ClassId) (vs : List Value) (e9 : Addr) (sz : Int32) (h0 : Heap) (n0 : Nat) (v : Option Value) (h : Heap) (L : List Loc) : Prop := v = some (.ref e9) ∧ Fr n0 L ∧ h = h0
theorem getj_0 (l : Launch) (Z : State) (a0 : Array Value) (hw : HW Z a0) (ws : List Jvm.Cond) (a dd : Addr) (kd : ClassId) (vs : List Value) (e9 : Addr) (sz : Int32) (h0 : Heap) (n0 : Nat) (Z0 : n0 ≤ h0.size) (E_a : Exa Z h0 a sL) (F_size_a : Fld Z h0 a sL "size" "I" (.int sz)) (F_elementData_a : Fld Z h0 a sL "elementData" sE (.ref dd)) (V_dd : Arv Z h0 dd kd (.object sO) (10 : Int32) vs .null) (hv : vs.getD 0 .null = (.ref e9)) (hlt : (0 : Int32) < sz) :
    own_M l yy26 jdk_38_method_20_code 2 (some (.object sO)) ws rr13 Z #[(.ref a), (ii 0)] h0 (Q_getj_0 Z a dd kd vs e9 sz h0 n0) := by
  refine own_bd (plainFor_of_name pn_25) fun p e s m below meth c s₁ Bd hx hby hml hown hnm hlk hZ X0 e0 => ?_
  rw [ef_getj_0 m a]
  refine bN s₁ (mkF m 1 #[vr a, vi 0] [(ii 0)]) (fun _ k => XS.iloadN X0.here hx rfl (hb hby d25_0) rfl k) ?_
  refine bN s₁ (mkF m 2 #[vr a, vi 0] [(.ref a), (ii 0)]) (fun _ k => XS.aloadN X0.here hx rfl (hb hby d25_1) rfl rfl k) ?_
  obtain ⟨T21, X21, e21, st21⟩ := getF X0 hx hZ hown (host := "") (Or.inl (hw _ (mo 61 rfl))) Via.refl e0 F_size_a (g := (mkF m 2 #[vr a, vi 0] [(.ref a), (ii 0)])) rfl rfl (hb hby d25_2)
  refine bN T21 (mkF m 5 #[vr a, vi 0] [(.int sz), (ii 0)]) (fun _ k => st21 _ k) ?_
  obtain ⟨_, _, ⟨T22, L22, k22, n22⟩, -, X22, ⟨Lc22, hQ22, l22, y22, z22⟩, st22⟩ := Jvm.LawKit.callS X21 hx (y := yy24) hown (mvT hZ (hw _ (mo 201 rfl))) (mvT hZ (hw _ (mo 202 rfl))) (mvT hZ (hw _ (mo 203 rfl))) (mvT hZ (hw _ (mo 204 rfl))) (by decide) (backOf (W := 0) (oci l Z a0 hw [] (0 : Int32) sz  h0 n0 Z0 (by decide) hlt) hZ (hw _ (mo 204 rfl)) (hw _ (mo 203 rfl)) (by decide) (by decide)) (g := (mkF m 5 #[vr a, vi 0] [(.int sz), (ii 0)])) rfl (by rw [hml]; rfl) (argsL := [(ii 0), (.int sz)]) (rest := []) (lenOf pd_4 rfl) rfl (Nat.le_of_eq rfl) (hb hby d25_5) (fun _ _ => ⟨rfl, e21, (by decide : 0 ≤ _), (by decide : 0 ≤ _)⟩)
  dsimp only [Pt.U, Pt.locs, Pt.cells, Pt.slots] at X22 l22 y22 z22 st22 hQ22
  subst l22 y22 z22
  obtain ⟨rfl, N22q, e22⟩ := hQ22
  have N22 := Fr.app (Fr.nil n0) N22q
  refine bN T22 (mkF m 8 #[vr a, vi 0] [(ii 0)]) (fun _ k => st22 _ k) ?_
  refine bN T22 (mkF m 9 #[vr a, vi 0] []) (fun _ k => XS.pop X22.here hx rfl (hb hby d25_8) rfl rfl k) ?_
  refine bN T22 (mkF m 10 #[vr a, vi 0] [(.ref a)]) (fun _ k => XS.aloadN X22.here hx rfl (hb hby d25_9) rfl rfl k) ?_
  refine bN T22 (mkF m 11 #[vr a, vi 0] [(ii 0), (.ref a)]) (fun _ k => XS.iloadN X22.here hx rfl (hb hby d25_10) rfl k) ?_
  obtain ⟨cq23, kq23, q23a, q23b, q23c⟩ := isOf hZ e22 E_a
  obtain ⟨_, _, ⟨T23, L23, k23, n23⟩, -, X23, ⟨Lc23, hQ23, l23, y23, z23⟩, st23⟩ := X22.virtualBack hx (y := yy25) (z := yy25) hown (mvT hZ (hw _ (mo 209 rfl))) (mvT hZ (hw _ (mo 210 rfl))) (notFace_of_selects (args := #[]) (mvT hZ (hw _ (mo 212 rfl)))) (mvT hZ (hw _ (mo 212 rfl))) (mvT hZ (hw _ (mo 211 rfl))) (by decide) (backOf (W := 0) (eldj_0 l Z a0 hw [] a dd kd vs e9 h0 n0 Z0 F_elementData_a V_dd hv) hZ (hw _ (mo 213 rfl)) (hw _ (mo 32 rfl)) (by decide) (by decide)) q23a q23c (g := (mkF m 11 #[vr a, vi 0] [(ii 0), (.ref a)])) rfl (by rw [hml]; rfl) (Steps.refl _) (argsL := [(ii 0)]) (rest := []) (lenOf pd_10 rfl) rfl (Nat.le_of_eq rfl) (hb hby d25_11) (fun _ _ => ⟨rfl, e22, (by decide : 0 ≤ _), (by decide : 0 ≤ _)⟩)
  dsimp only [Pt.U, Pt.locs, Pt.cells, Pt.slots] at X23 l23 y23 z23 st23 hQ23
  subst l23 y23 z23
  obtain ⟨rfl, N23q, e23⟩ := hQ23
  have N23 := Fr.app N22 N23q
  refine bN T23 (mkF m 14 #[vr a, vi 0] [(.ref e9)]) (fun _ k => st23.trans k) ?_
  refine own_ret X23 hlk (v := some (.ref e9)) (nvr Bd.returns) (fun fs hr => retOut X23 hx Bd.returns rfl (Or.inr (Or.inr (Or.inr (Or.inr ⟨rfl, rfl, rfl⟩)))) (hb hby d25_14) hr) ?_ (by decide) (by decide)
  rw [e23]
  exact ⟨rfl, N23, rfl⟩
theorem ef_eldj_1 (m : MethodId) (a : Addr) : entryFrame m #[(.ref a), (.int (1 : Int32))] 2 = mkF m 0 #[vr a, vi 1] [] := rfl
def Q_eldj_1 (Z : State) (a dd : Addr) (kd : ClassId) (vs : List Value) (e9 : Addr) (h0 : Heap) (n0 : Nat) (v : Option Value) (h : Heap) (L : List Loc) : Prop := v = some (.ref e9) ∧ Fr n0 L ∧ h = h0
theorem eldj_1 (l : Launch) (Z : State) (a0 : Array Value) (hw : HW Z a0) (ws : List Jvm.Cond) (a dd : Addr) (kd : ClassId) (vs : List Value) (e9 : Addr) (h0 : Heap) (n0 : Nat) (Z0 : n0 ≤ h0.size) (F_elementData_a : Fld Z h0 a sL "elementData" sE (.ref dd)) (V_dd : Arv Z h0 dd kd (.object sO) (10 : Int32) vs .null) (hv : vs.getD 1 .null = (.ref e9)) :
    own_M l yy25 jdk_38_method_18_code 2 (some (.object sO)) ws rr0 Z #[(.ref a), (.int (1 : Int32))] h0 (Q_eldj_1 Z a dd kd vs e9 h0 n0) := by
  refine own_bd (plainFor_of_name pn_28) fun p e s m below meth c s₁ Bd hx hby hml hown hnm hlk hZ X0 e0 => ?_
  rw [ef_eldj_1 m a]
  refine bN s₁ (mkF m 1 #[vr a, vi 1] [(.ref a)]) (fun _ k => XS.aloadN X0.here hx rfl (hb hby d28_0) rfl rfl k) ?_
  obtain ⟨T21, X21, e21, st21⟩ := getF X0 hx hZ hown (host := "") (Or.inl (hw _ (mo 52 rfl))) Via.refl e0 F_elementData_a (g := (mkF m 1 #[vr a, vi 1] [(.ref a)])) rfl rfl (hb hby d28_1)
  refine bN T21 (mkF m 4 #[vr a, vi 1] [(.ref dd)]) (fun _ k => st21 _ k) ?_
  refine bN T21 (mkF m 5 #[vr a, vi 1] [(.int (1 : Int32)), (.ref dd)]) (fun _ k => XS.iloadN X21.here hx rfl (hb hby d28_4) rfl k) ?_
  obtain ⟨cl22, Ar22, q22, S22, N_22, H22, G22⟩ := id V_dd
  have hin22 : ¬ ((1 : Int32) < 0 ∨ cl22.slots.size ≤ ((1 : Int32)).toNatClampNeg) := inb_of S22 ⟨by decide, by decide⟩
  refine bN T21 (mkF m 6 #[vr a, vi 1] [(.ref e9)]) (fun _ k => X21.aaload hx (j := (1 : Int32)) (v := (.ref e9)) (by rw [e21]; exact Ar22.1) (State.isArrayOf_alike hZ.alike Ar22.2.1) rfl Ar22.2.2 hin22 (Has.at H22 hin22 hv) (g := (mkF m 5 #[vr a, vi 1] [(.int (1 : Int32)), (.ref dd)])) rfl rfl (hb hby d28_5) _ k) ?_
  refine own_ret X21 hlk (v := some (.ref e9)) (nvr Bd.returns) (fun fs hr => retOut X21 hx Bd.returns rfl (Or.inr (Or.inr (Or.inr (Or.inr ⟨rfl, rfl, rfl⟩)))) (hb hby d28_6) hr) ?_ (by decide) (by decide)
  rw [e21]
  exact ⟨rfl, (Fr.nil n0), rfl⟩
theorem ef_getj_1 (m : MethodId) (a : Addr) : entryFrame m #[(.ref a), (.int (1 : Int32))] 2 = mkF m 0 #[vr a, vi 1] [] := rfl
def Q_getj_1 (Z : State) (a dd : Addr) (kd : ClassId) (vs : List Value) (e9 : Addr) (sz : Int32) (h0 : Heap) (n0 : Nat) (v : Option Value) (h : Heap) (L : List Loc) : Prop := v = some (.ref e9) ∧ Fr n0 L ∧ h = h0
theorem getj_1 (l : Launch) (Z : State) (a0 : Array Value) (hw : HW Z a0) (ws : List Jvm.Cond) (a dd : Addr) (kd : ClassId) (vs : List Value) (e9 : Addr) (sz : Int32) (h0 : Heap) (n0 : Nat) (Z0 : n0 ≤ h0.size) (E_a : Exa Z h0 a sL) (F_size_a : Fld Z h0 a sL "size" "I" (.int sz)) (F_elementData_a : Fld Z h0 a sL "elementData" sE (.ref dd)) (V_dd : Arv Z h0 dd kd (.object sO) (10 : Int32) vs .null) (hv : vs.getD 1 .null = (.ref e9)) (hlt : (1 : Int32) < sz) :
    own_M l yy26 jdk_38_method_20_code 2 (some (.object sO)) ws rr13 Z #[(.ref a), (.int (1 : Int32))] h0 (Q_getj_1 Z a dd kd vs e9 sz h0 n0) := by
  refine own_bd (plainFor_of_name pn_25) fun p e s m below meth c s₁ Bd hx hby hml hown hnm hlk hZ X0 e0 => ?_
  rw [ef_getj_1 m a]
  refine bN s₁ (mkF m 1 #[vr a, vi 1] [(.int (1 : Int32))]) (fun _ k => XS.iloadN X0.here hx rfl (hb hby d25_0) rfl k) ?_
  refine bN s₁ (mkF m 2 #[vr a, vi 1] [(.ref a), (.int (1 : Int32))]) (fun _ k => XS.aloadN X0.here hx rfl (hb hby d25_1) rfl rfl k) ?_
  obtain ⟨T21, X21, e21, st21⟩ := getF X0 hx hZ hown (host := "") (Or.inl (hw _ (mo 61 rfl))) Via.refl e0 F_size_a (g := (mkF m 2 #[vr a, vi 1] [(.ref a), (.int (1 : Int32))])) rfl rfl (hb hby d25_2)
  refine bN T21 (mkF m 5 #[vr a, vi 1] [(.int sz), (.int (1 : Int32))]) (fun _ k => st21 _ k) ?_
  obtain ⟨_, _, ⟨T22, L22, k22, n22⟩, -, X22, ⟨Lc22, hQ22, l22, y22, z22⟩, st22⟩ := Jvm.LawKit.callS X21 hx (y := yy24) hown (mvT hZ (hw _ (mo 201 rfl))) (mvT hZ (hw _ (mo 202 rfl))) (mvT hZ (hw _ (mo 203 rfl))) (mvT hZ (hw _ (mo 204 rfl))) (by decide) (backOf (W := 0) (oci l Z a0 hw [] (1 : Int32) sz  h0 n0 Z0 (by decide) hlt) hZ (hw _ (mo 204 rfl)) (hw _ (mo 203 rfl)) (by decide) (by decide)) (g := (mkF m 5 #[vr a, vi 1] [(.int sz), (.int (1 : Int32))])) rfl (by rw [hml]; rfl) (argsL := [(.int (1 : Int32)), (.int sz)]) (rest := []) (lenOf pd_4 rfl) rfl (Nat.le_of_eq rfl) (hb hby d25_5) (fun _ _ => ⟨rfl, e21, (by decide : 0 ≤ _), (by decide : 0 ≤ _)⟩)
  dsimp only [Pt.U, Pt.locs, Pt.cells, Pt.slots] at X22 l22 y22 z22 st22 hQ22
  subst l22 y22 z22
  obtain ⟨rfl, N22q, e22⟩ := hQ22
  have N22 := Fr.app (Fr.nil n0) N22q
  refine bN T22 (mkF m 8 #[vr a, vi 1] [(.int (1 : Int32))]) (fun _ k => st22 _ k) ?_
  refine bN T22 (mkF m 9 #[vr a, vi 1] []) (fun _ k => XS.pop X22.here hx rfl (hb hby d25_8) rfl rfl k) ?_
  refine bN T22 (mkF m 10 #[vr a, vi 1] [(.ref a)]) (fun _ k => XS.aloadN X22.here hx rfl (hb hby d25_9) rfl rfl k) ?_
  refine bN T22 (mkF m 11 #[vr a, vi 1] [(.int (1 : Int32)), (.ref a)]) (fun _ k => XS.iloadN X22.here hx rfl (hb hby d25_10) rfl k) ?_
  obtain ⟨cq23, kq23, q23a, q23b, q23c⟩ := isOf hZ e22 E_a
  obtain ⟨_, _, ⟨T23, L23, k23, n23⟩, -, X23, ⟨Lc23, hQ23, l23, y23, z23⟩, st23⟩ := X22.virtualBack hx (y := yy25) (z := yy25) hown (mvT hZ (hw _ (mo 209 rfl))) (mvT hZ (hw _ (mo 210 rfl))) (notFace_of_selects (args := #[]) (mvT hZ (hw _ (mo 212 rfl)))) (mvT hZ (hw _ (mo 212 rfl))) (mvT hZ (hw _ (mo 211 rfl))) (by decide) (backOf (W := 0) (eldj_1 l Z a0 hw [] a dd kd vs e9 h0 n0 Z0 F_elementData_a V_dd hv) hZ (hw _ (mo 213 rfl)) (hw _ (mo 32 rfl)) (by decide) (by decide)) q23a q23c (g := (mkF m 11 #[vr a, vi 1] [(.int (1 : Int32)), (.ref a)])) rfl (by rw [hml]; rfl) (Steps.refl _) (argsL := [(.int (1 : Int32))]) (rest := []) (lenOf pd_10 rfl) rfl (Nat.le_of_eq rfl) (hb hby d25_11) (fun _ _ => ⟨rfl, e22, (by decide : 0 ≤ _), (by decide : 0 ≤ _)⟩)
  dsimp only [Pt.U, Pt.locs, Pt.cells, Pt.slots] at X23 l23 y23 z23 st23 hQ23
  subst l23 y23 z23
  obtain ⟨rfl, N23q, e23⟩ := hQ23
  have N23 := Fr.app N22 N23q
  refine bN T23 (mkF m 14 #[vr a, vi 1] [(.ref e9)]) (fun _ k => st23.trans k) ?_
  refine own_ret X23 hlk (v := some (.ref e9)) (nvr Bd.returns) (fun fs hr => retOut X23 hx Bd.returns rfl (Or.inr (Or.inr (Or.inr (Or.inr ⟨rfl, rfl, rfl⟩)))) (hb hby d25_14) hr) ?_ (by decide) (by decide)
  rw [e23]
  exact ⟨rfl, N23, rfl⟩
theorem ef_eldj_2 (m : MethodId) (a : Addr) : entryFrame m #[(.ref a), (.int (2 : Int32))] 2 = mkF m 0 #[vr a, vi 2] [] := rfl
def Q_eldj_2 (Z : State) (a dd : Addr) (kd : ClassId) (vs : List Value) (e9 : Addr) (h0 : Heap) (n0 : Nat) (v : Option Value) (h : Heap) (L : List Loc) : Prop := v = some (.ref e9) ∧ Fr n0 L ∧ h = h0
theorem eldj_2 (l : Launch) (Z : State) (a0 : Array Value) (hw : HW Z a0) (ws : List Jvm.Cond) (a dd : Addr) (kd : ClassId) (vs : List Value) (e9 : Addr) (h0 : Heap) (n0 : Nat) (Z0 : n0 ≤ h0.size) (F_elementData_a : Fld Z h0 a sL "elementData" sE (.ref dd)) (V_dd : Arv Z h0 dd kd (.object sO) (10 : Int32) vs .null) (hv : vs.getD 2 .null = (.ref e9)) :
    own_M l yy25 jdk_38_method_18_code 2 (some (.object sO)) ws rr0 Z #[(.ref a), (.int (2 : Int32))] h0 (Q_eldj_2 Z a dd kd vs e9 h0 n0) := by
  refine own_bd (plainFor_of_name pn_28) fun p e s m below meth c s₁ Bd hx hby hml hown hnm hlk hZ X0 e0 => ?_
  rw [ef_eldj_2 m a]
  refine bN s₁ (mkF m 1 #[vr a, vi 2] [(.ref a)]) (fun _ k => XS.aloadN X0.here hx rfl (hb hby d28_0) rfl rfl k) ?_
  obtain ⟨T21, X21, e21, st21⟩ := getF X0 hx hZ hown (host := "") (Or.inl (hw _ (mo 52 rfl))) Via.refl e0 F_elementData_a (g := (mkF m 1 #[vr a, vi 2] [(.ref a)])) rfl rfl (hb hby d28_1)
  refine bN T21 (mkF m 4 #[vr a, vi 2] [(.ref dd)]) (fun _ k => st21 _ k) ?_
  refine bN T21 (mkF m 5 #[vr a, vi 2] [(.int (2 : Int32)), (.ref dd)]) (fun _ k => XS.iloadN X21.here hx rfl (hb hby d28_4) rfl k) ?_
  obtain ⟨cl22, Ar22, q22, S22, N_22, H22, G22⟩ := id V_dd
  have hin22 : ¬ ((2 : Int32) < 0 ∨ cl22.slots.size ≤ ((2 : Int32)).toNatClampNeg) := inb_of S22 ⟨by decide, by decide⟩
  refine bN T21 (mkF m 6 #[vr a, vi 2] [(.ref e9)]) (fun _ k => X21.aaload hx (j := (2 : Int32)) (v := (.ref e9)) (by rw [e21]; exact Ar22.1) (State.isArrayOf_alike hZ.alike Ar22.2.1) rfl Ar22.2.2 hin22 (Has.at H22 hin22 hv) (g := (mkF m 5 #[vr a, vi 2] [(.int (2 : Int32)), (.ref dd)])) rfl rfl (hb hby d28_5) _ k) ?_
  refine own_ret X21 hlk (v := some (.ref e9)) (nvr Bd.returns) (fun fs hr => retOut X21 hx Bd.returns rfl (Or.inr (Or.inr (Or.inr (Or.inr ⟨rfl, rfl, rfl⟩)))) (hb hby d28_6) hr) ?_ (by decide) (by decide)
  rw [e21]
  exact ⟨rfl, (Fr.nil n0), rfl⟩
theorem ef_getj_2 (m : MethodId) (a : Addr) : entryFrame m #[(.ref a), (.int (2 : Int32))] 2 = mkF m 0 #[vr a, vi 2] [] := rfl
def Q_getj_2 (Z : State) (a dd : Addr) (kd : ClassId) (vs : List Value) (e9 : Addr) (sz : Int32) (h0 : Heap) (n0 : Nat) (v : Option Value) (h : Heap) (L : List Loc) : Prop := v = some (.ref e9) ∧ Fr n0 L ∧ h = h0
theorem getj_2 (l : Launch) (Z : State) (a0 : Array Value) (hw : HW Z a0) (ws : List Jvm.Cond) (a dd : Addr) (kd : ClassId) (vs : List Value) (e9 : Addr) (sz : Int32) (h0 : Heap) (n0 : Nat) (Z0 : n0 ≤ h0.size) (E_a : Exa Z h0 a sL) (F_size_a : Fld Z h0 a sL "size" "I" (.int sz)) (F_elementData_a : Fld Z h0 a sL "elementData" sE (.ref dd)) (V_dd : Arv Z h0 dd kd (.object sO) (10 : Int32) vs .null) (hv : vs.getD 2 .null = (.ref e9)) (hlt : (2 : Int32) < sz) :
    own_M l yy26 jdk_38_method_20_code 2 (some (.object sO)) ws rr13 Z #[(.ref a), (.int (2 : Int32))] h0 (Q_getj_2 Z a dd kd vs e9 sz h0 n0) := by
  refine own_bd (plainFor_of_name pn_25) fun p e s m below meth c s₁ Bd hx hby hml hown hnm hlk hZ X0 e0 => ?_
  rw [ef_getj_2 m a]
  refine bN s₁ (mkF m 1 #[vr a, vi 2] [(.int (2 : Int32))]) (fun _ k => XS.iloadN X0.here hx rfl (hb hby d25_0) rfl k) ?_
  refine bN s₁ (mkF m 2 #[vr a, vi 2] [(.ref a), (.int (2 : Int32))]) (fun _ k => XS.aloadN X0.here hx rfl (hb hby d25_1) rfl rfl k) ?_
  obtain ⟨T21, X21, e21, st21⟩ := getF X0 hx hZ hown (host := "") (Or.inl (hw _ (mo 61 rfl))) Via.refl e0 F_size_a (g := (mkF m 2 #[vr a, vi 2] [(.ref a), (.int (2 : Int32))])) rfl rfl (hb hby d25_2)
  refine bN T21 (mkF m 5 #[vr a, vi 2] [(.int sz), (.int (2 : Int32))]) (fun _ k => st21 _ k) ?_
  obtain ⟨_, _, ⟨T22, L22, k22, n22⟩, -, X22, ⟨Lc22, hQ22, l22, y22, z22⟩, st22⟩ := Jvm.LawKit.callS X21 hx (y := yy24) hown (mvT hZ (hw _ (mo 201 rfl))) (mvT hZ (hw _ (mo 202 rfl))) (mvT hZ (hw _ (mo 203 rfl))) (mvT hZ (hw _ (mo 204 rfl))) (by decide) (backOf (W := 0) (oci l Z a0 hw [] (2 : Int32) sz  h0 n0 Z0 (by decide) hlt) hZ (hw _ (mo 204 rfl)) (hw _ (mo 203 rfl)) (by decide) (by decide)) (g := (mkF m 5 #[vr a, vi 2] [(.int sz), (.int (2 : Int32))])) rfl (by rw [hml]; rfl) (argsL := [(.int (2 : Int32)), (.int sz)]) (rest := []) (lenOf pd_4 rfl) rfl (Nat.le_of_eq rfl) (hb hby d25_5) (fun _ _ => ⟨rfl, e21, (by decide : 0 ≤ _), (by decide : 0 ≤ _)⟩)
  dsimp only [Pt.U, Pt.locs, Pt.cells, Pt.slots] at X22 l22 y22 z22 st22 hQ22
  subst l22 y22 z22
  obtain ⟨rfl, N22q, e22⟩ := hQ22
  have N22 := Fr.app (Fr.nil n0) N22q
  refine bN T22 (mkF m 8 #[vr a, vi 2] [(.int (2 : Int32))]) (fun _ k => st22 _ k) ?_
  refine bN T22 (mkF m 9 #[vr a, vi 2] []) (fun _ k => XS.pop X22.here hx rfl (hb hby d25_8) rfl rfl k) ?_
  refine bN T22 (mkF m 10 #[vr a, vi 2] [(.ref a)]) (fun _ k => XS.aloadN X22.here hx rfl (hb hby d25_9) rfl rfl k) ?_
  refine bN T22 (mkF m 11 #[vr a, vi 2] [(.int (2 : Int32)), (.ref a)]) (fun _ k => XS.iloadN X22.here hx rfl (hb hby d25_10) rfl k) ?_
  obtain ⟨cq23, kq23, q23a, q23b, q23c⟩ := isOf hZ e22 E_a
  obtain ⟨_, _, ⟨T23, L23, k23, n23⟩, -, X23, ⟨Lc23, hQ23, l23, y23, z23⟩, st23⟩ := X22.virtualBack hx (y := yy25) (z := yy25) hown (mvT hZ (hw _ (mo 209 rfl))) (mvT hZ (hw _ (mo 210 rfl))) (notFace_of_selects (args := #[]) (mvT hZ (hw _ (mo 212 rfl)))) (mvT hZ (hw _ (mo 212 rfl))) (mvT hZ (hw _ (mo 211 rfl))) (by decide) (backOf (W := 0) (eldj_2 l Z a0 hw [] a dd kd vs e9 h0 n0 Z0 F_elementData_a V_dd hv) hZ (hw _ (mo 213 rfl)) (hw _ (mo 32 rfl)) (by decide) (by decide)) q23a q23c (g := (mkF m 11 #[vr a, vi 2] [(.int (2 : Int32)), (.ref a)])) rfl (by rw [hml]; rfl) (Steps.refl _) (argsL := [(.int (2 : Int32))]) (rest := []) (lenOf pd_10 rfl) rfl (Nat.le_of_eq rfl) (hb hby d25_11) (fun _ _ => ⟨rfl, e22, (by decide : 0 ≤ _), (by decide : 0 ≤ _)⟩)
  dsimp only [Pt.U, Pt.locs, Pt.cells, Pt.slots] at X23 l23 y23 z23 st23 hQ23
  subst l23 y23 z23
  obtain ⟨rfl, N23q, e23⟩ := hQ23
  have N23 := Fr.app N22 N23q
  refine bN T23 (mkF m 14 #[vr a, vi 2] [(.ref e9)]) (fun _ k => st23.trans k) ?_
  refine own_ret X23 hlk (v := some (.ref e9)) (nvr Bd.returns) (fun fs hr => retOut X23 hx Bd.returns rfl (Or.inr (Or.inr (Or.inr (Or.inr ⟨rfl, rfl, rfl⟩)))) (hb hby d25_14) hr) ?_ (by decide) (by decide)
  rw [e23]
  exact ⟨rfl, N23, rfl⟩
theorem d16_0 : decode prog_15_method_1_code 0 = .ok (.aload_n 0, 1) := by decide +kernel
theorem d16_1 : decode prog_15_method_1_code 1 = .ok (.invokespecial 1, 3) := by decide +kernel
theorem d16_4 : decode prog_15_method_1_code 4 = .ok (.aload_n 0, 1) := by decide +kernel
theorem d16_5 : decode prog_15_method_1_code 5 = .ok (.new 7, 3) := by decide +kernel
theorem d16_8 : decode prog_15_method_1_code 8 = .ok (.dup, 1) := by decide +kernel
theorem d16_9 : decode prog_15_method_1_code 9 = .ok (.invokespecial 9, 3) := by decide +kernel
theorem d16_12 : decode prog_15_method_1_code 12 = .ok (.putfield 10, 3) := by decide +kernel
theorem d16_15 : decode prog_15_method_1_code 15 = .ok (.aload_n 0, 1) := by decide +kernel
theorem d16_16 : decode prog_15_method_1_code 16 = .ok (.new 7, 3) := by decide +kernel
theorem d16_19 : decode prog_15_method_1_code 19 = .ok (.dup, 1) := by decide +kernel
theorem d16_20 : decode prog_15_method_1_code 20 = .ok (.invokespecial 9, 3) := by decide +kernel
theorem d16_23 : decode prog_15_method_1_code 23 = .ok (.putfield 16, 3) := by decide +kernel
theorem d16_26 : decode prog_15_method_1_code 26 = .ok (.aload_n 0, 1) := by decide +kernel
theorem d16_27 : decode prog_15_method_1_code 27 = .ok (.aload_n 2, 1) := by decide +kernel
theorem d16_28 : decode prog_15_method_1_code 28 = .ok (.putfield 19, 3) := by decide +kernel
theorem d16_31 : decode prog_15_method_1_code 31 = .ok (.aload_n 2, 1) := by decide +kernel
theorem d16_32 : decode prog_15_method_1_code 32 = .ok (.invokeinterface 22 1, 5) := by decide +kernel
theorem d16_37 : decode prog_15_method_1_code 37 = .ok (.astore_n 3, 1) := by decide +kernel
theorem d16_38 : decode prog_15_method_1_code 38 = .ok (.aload_n 3, 1) := by decide +kernel
theorem d16_39 : decode prog_15_method_1_code 39 = .ok (.invokeinterface 28 1, 5) := by decide +kernel
theorem d16_44 : decode prog_15_method_1_code 44 = .ok (.ifCond .eq 90, 3) := by decide +kernel
theorem d16_134 : decode prog_15_method_1_code 134 = .ok (.return_, 1) := by decide +kernel
theorem pn_16 : plainName sV = true := by first | (simp [plainName, overriddenIn]; done) | decide +kernel
theorem ef_vin_0 (m : MethodId) (a cl kl : Addr) : entryFrame m #[(.ref a), (.ref cl), (.ref kl)] 6 = mkF m 0 #[vr a, vr cl, vr kl, uu, uu, uu] [] := rfl
def V_vin_0 (Z : State) (a cl : Addr) (kl aD : Addr) (kD : ClassId) (dc : Addr) (kc : ClassId) (y0 y1 y2 : Addr) (h0 : Heap) (vm : Vm) : Prop := True
def Q_vin_0 (Z : State) (a cl : Addr) (kl aD : Addr) (kD : ClassId) (dc : Addr) (kc : ClassId) (y0 y1 y2 : Addr) (h0 : Heap) (n0 : Nat) (v : Option Value) (h : Heap) (L : List Loc) : Prop := v = none ∧ Fr n0 L ∧ Keep h0 h [a] ∧ ∃ (vl dv : Addr) (kv : ClassId), Fld Z h a sV "values" "Ljava/util/List;" (.ref vl) ∧ Exa Z h vl sL ∧ Fld Z h vl sL "size" "I" (ii 0) ∧ True
theorem vin_0 (l : Launch) (Z : State) (a0 : Array Value) (hw : HW Z a0) (ws : List Jvm.Cond) (a cl : Addr) (kl aD : Addr) (kD : ClassId) (dc : Addr) (kc : ClassId) (y0 y1 y2 : Addr) (h0 : Heap) (n0 : Nat) (Z0 : n0 ≤ h0.size) (O0 : Old Z n0 h0) (S_DE : Sta Z Z.heap sL "DEFAULTCAPACITY_EMPTY_ELEMENTDATA" "[Ljava/lang/Object;" (.ref aD)) (V_aD : Arv Z Z.heap aD kD (.object sO) (0 : Int32) [] .null) (E_a : Exa Z h0 a sV) (F_values_a : Fld Z h0 a sV "values" "Ljava/util/List;" .null) (F_units_a : Fld Z h0 a sV "units" "Ljava/util/List;" .null) (F_columns_a : Fld Z h0 a sV "columns" "Ljava/util/List;" .null) (g_a : n0 ≤ a) (E_cl : Exa Z h0 cl sL) (F_size_cl : Fld Z h0 cl sL "size" "I" (.int (3 : Int32))) (F_elementData_cl : Fld Z h0 cl sL "elementData" sE (.ref dc)) (V_dc : Arv Z h0 dc kc (.object sO) (10 : Int32) [(.ref y0), (.ref y1), (.ref y2), .null, .null, .null, .null, .null, .null, .null] .null) (E_y0 : Exa Z h0 y0 sS) (E_y1 : Exa Z h0 y1 sS) (E_y2 : Exa Z h0 y2 sS) (E_kl : Exa Z h0 kl sL) (F_modCount_kl : Fld Z h0 kl sB "modCount" "I" (ii 0)) (F_elementData_kl : Fld Z h0 kl sL "elementData" sE (.ref aD)) (F_size_kl : Fld Z h0 kl sL "size" "I" (ii 0)) (ne_cl : cl ≠ a) (ne_dc : dc ≠ a) (ne_kl : kl ≠ a) :
    MetFree l yy27 (head1 (Jvm.Cond.code yy27 prog_15_method_1_code 6 none :: ws) rr14) (fun zz UU => zz = #[(.ref a), (.ref cl), (.ref kl)] ∧ Z.Warmed39 UU.vm ∧ UU.heap = h0 ∧ CHv Z consts_1 UU.vm h0 ∧ V_vin_0 Z a cl kl aD kD dc kc y0 y1 y2 h0 UU.vm) (fun _ _ _ _ _ => True) (fun _ U o U' => ∃ v L, o = .returned v ∧ Q_vin_0 Z a cl kl aD kD dc kc y0 y1 y2 h0 n0 v U'.heap L ∧ CHr Z consts_1 U.vm U.heap U'.vm U'.heap ∧ ReturnedEndW U o U' L rr14.cells rr14.slots) := by
  refine MetFree.of_bodySF (plainFor_of_name pn_16) hisR ?_
  intro p e s m args below meth c s₁ Bd hml0 hP hK
  obtain ⟨rfl, hZ, hh, hH, hV⟩ := hP
  have hx := Bd.exec
  have hby := Bd.bytes
  have hml : c.maxLocals = 6 := hml0
  have hown : s.vm.findClass sV = some m.cls := findClass_of_methodNamed Bd.named
  have hnm := (name_of_methodNamed Bd.named Bd.method).1
  have hlk : meth.locks = false := BodyLoose.notSynchronized Bd
  have X0 : Stand p l e rr14 (s.setVm s.vm) m #[(.ref a), (.ref cl), (.ref kl)] below meth c s₁ [] 0 0 := Stand.of_body Bd
  have e0 : s₁.heap = h0 := by rw [← hh, Bd.state]; rfl
  have N0 := Fr.nil n0
  show own_GoW p.tables e below Z consts_1 (Q_vin_0 Z a cl kl aD kD dc kc y0 y1 y2 h0 n0) s rr14.cells rr14.slots s₁ (entryFrame m #[(.ref a), (.ref cl), (.ref kl)] 6)
  rw [ef_vin_0 m a cl kl]
  have hS0 : s.Since s.vm s.heap.size := (State.WarmedH.refl s).since _
  have hk0 : s.heap.size ≤ h0.size := Nat.le_of_eq (congrArg Array.size hh)
  have C0 : CHr Z consts_1 s.vm s.heap s.vm h0 := by rw [hh]; exact CHr.refl hH
  have hEL : EW Z a0 consts_1 := own_EL hw
  have hwS : ∀ d ∈ Bundle.stringAtoms, d.before a0 Z = true := fun d hd => hw d (own_SA d hd)
  refine bW s₁ (mkF m 1 #[vr a, vr cl, vr kl, uu, uu, uu] [(.ref a)]) (fun _ k => XS.aloadN X0.here hx rfl (hb hby d16_0) rfl rfl k) ?_
  obtain ⟨T21, X21, e21, st21⟩ := initO X0 hx hZ hown (hw _ (mo 113 rfl)) (hw _ (mo 24 rfl)) (hw _ (mo 25 rfl)) e0 (g := (mkF m 1 #[vr a, vr cl, vr kl, uu, uu, uu] [(.ref a)])) rfl (by rw [hml]; rfl) rfl (hb hby d16_1) (by decide) (W := 0) (Nat.le_of_eq rfl) (by decide)
  refine bW T21 (mkF m 4 #[vr a, vr cl, vr kl, uu, uu, uu] []) (fun _ k => st21 _ k) ?_
  refine bW T21 (mkF m 5 #[vr a, vr cl, vr kl, uu, uu, uu] [(.ref a)]) (fun _ k => XS.aloadN X21.here hx rfl (hb hby d16_4) rfl rfl k) ?_
  obtain ⟨T22, h22, X22, e22, E22, A22, D22, -, st22⟩ := newO X21 hx hZ hown (hw _ (mo 114 rfl)) (hw _ (mo 31 rfl)) (hw _ (mo 32 rfl)) e21 (g := (mkF m 5 #[vr a, vr cl, vr kl, uu, uu, uu] [(.ref a)])) rfl (hb hby d16_5) (by decide) (by decide)
  obtain ⟨b22, g22⟩ : ∃ z, z = h0.size := ⟨_, rfl⟩
  rw [← g22] at A22 D22 st22
  have E_b22 : Exa Z h22 b22 sL := A22
  have F_modCount_b22 : Fld Z h22 b22 sB "modCount" "I" (ii 0) := D22 (Or.inl (hw _ (mo 50 rfl))) (ty := .int) (by decide)
  have F_elementData_b22 : Fld Z h22 b22 sL "elementData" sE .null := D22 (Or.inl (hw _ (mo 53 rfl))) (ty := (.array (.object sO))) (by decide)
  have F_size_b22 : Fld Z h22 b22 sL "size" "I" (ii 0) := D22 (Or.inl (hw _ (mo 62 rfl))) (ty := .int) (by decide)
  have g_b22 : n0 ≤ b22 := Nat.le_trans Z0 (Nat.le_of_eq g22.symm)
  have sz_b22 : h0.size ≤ b22 := Nat.le_trans (Keep.refl h0 [a]).1 (Nat.le_of_eq g22.symm)
  have K22 : Keep h0 h22 [a] := Keep.ext (Keep.refl h0 [a]) E22
  have C22 : CHr Z consts_1 s.vm s.heap s.vm h22 := CHr.trans C0 (CHr.ext E22 C0.1)
  refine bW T22 (mkF m 8 #[vr a, vr cl, vr kl, uu, uu, uu] [(.ref b22), (.ref a)]) (fun _ k => st22 _ k) ?_
  refine bW T22 (mkF m 9 #[vr a, vr cl, vr kl, uu, uu, uu] [(.ref b22), (.ref b22), (.ref a)]) (fun _ k => XS.dup X22.here hx rfl (hb hby d16_8) rfl rfl k) ?_
  obtain ⟨_, _, ⟨T23, L23, k23, n23⟩, -, X23, ⟨Lc23, hQ23, l23, y23, z23⟩, st23⟩ := X22.specialBack hx (y := yy8) rfl hown (mvT hZ (hw _ (mo 115 rfl))) (mvT hZ (hw _ (mo 34 rfl))) (mvT hZ (hw _ (mo 35 rfl))) (by decide) (backOf (W := 2) (ali l Z a0 hw [] b22 aD h22 n0 (Nat.le_trans Z0 E22.1) (Old.ext O0 E22) E_b22 F_modCount_b22 F_elementData_b22 F_size_b22 g_b22 S_DE) hZ (hw _ (mo 35 rfl)) (hw _ (mo 32 rfl)) (by decide) (by decide)) (g := (mkF m 9 #[vr a, vr cl, vr kl, uu, uu, uu] [(.ref b22), (.ref b22), (.ref a)])) rfl (by rw [hml]; rfl) (Steps.refl _) (a := b22) (argsL := []) (rest := [(.ref b22), (.ref a)]) (lenOf pd_3 rfl) rfl (Nat.le_of_eq rfl) (hb hby d16_9) (fun _ _ => ⟨rfl, e22, (by decide : 1 ≤ _), (by decide : 3 ≤ _)⟩)
  dsimp only [Pt.U, Pt.locs, Pt.cells, Pt.slots] at X23 l23 y23 z23 st23 hQ23
  subst l23 y23 z23
  obtain ⟨rfl, N23q, K23, Fm23, Fe23, Fz23⟩ := hQ23
  have N23 := Fr.app (Fr.nil n0) N23q
  have KK23 : Keep h0 T23.heap [a] := Keep.trans K22 K23 (allS (Or.inr sz_b22) all0)
  have C23 : CHr Z consts_1 s.vm s.heap s.vm T23.heap := CHr.trans C22 (CHr.keep K23 (sfS (Safe.exa (EL := consts_1) (vm := s.vm) hZ.alike E_b22 (by decide) (by decide)) sf0) C22.1)
  refine bW T23 (mkF m 12 #[vr a, vr cl, vr kl, uu, uu, uu] [(.ref b22), (.ref a)]) (fun _ k => st23.trans k) ?_
  have ne24 : a ≠ b22 := (Nat.ne_of_lt (Nat.lt_of_lt_of_le E_a.lt (Nat.le_of_eq g22.symm)))
  obtain ⟨T25, h25, X25, e25, W25, st25⟩ := putF X23 hx hZ hown (host := "") (Or.inl (hw _ (mo 116 rfl))) Via.refl rfl (Fld.keep (Fld.ext E22 F_values_a) K23 (ninS ne24 nin0)) (Exa.keep (Exa.ext E22 E_a) K23) (Or.inr ⟨(hw _ (mo 117 rfl)), rfl, hnm⟩) (hw _ (mo 108 rfl)) (ty := (.object "java/util/List")) (by decide) rfl rfl (g := (mkF m 12 #[vr a, vr cl, vr kl, uu, uu, uu] [(.ref b22), (.ref a)])) rfl rfl (hb hby d16_12)
  have Fw25 : Fld Z h25 a sV "values" "Ljava/util/List;" (.ref b22) := Fld.same W25 (Fld.keep (Fld.ext E22 F_values_a) K23 (ninS ne24 nin0))
  have K25 : Keep h0 h25 [a] := Keep.wr KK23 W25 (Or.inl (mo 0 rfl))
  have C25 : CHr Z consts_1 s.vm s.heap s.vm h25 := CHr.trans C23 (CHr.wr W25 (Safe.exa (EL := consts_1) (vm := s.vm) hZ.alike (Exa.keep (Exa.ext E22 E_a) K23) (by decide) (by decide)) C23.1)
  have N25 := Fr.snoc X25 N23 g_a
  refine bW T25 (mkF m 15 #[vr a, vr cl, vr kl, uu, uu, uu] []) (fun _ k => st25 _ k) ?_
  refine bW T25 (mkF m 16 #[vr a, vr cl, vr kl, uu, uu, uu] [(.ref a)]) (fun _ k => XS.aloadN X25.here hx rfl (hb hby d16_15) rfl rfl k) ?_
  obtain ⟨T26, h26, X26, e26, E26, A26, D26, -, st26⟩ := newO X25 hx hZ hown (hw _ (mo 114 rfl)) (hw _ (mo 31 rfl)) (hw _ (mo 32 rfl)) e25 (g := (mkF m 16 #[vr a, vr cl, vr kl, uu, uu, uu] [(.ref a)])) rfl (hb hby d16_16) (by decide) (by decide)
  obtain ⟨b26, g26⟩ : ∃ z, z = h25.size := ⟨_, rfl⟩
  rw [← g26] at A26 D26 st26
  have E_b26 : Exa Z h26 b26 sL := A26
  have F_modCount_b26 : Fld Z h26 b26 sB "modCount" "I" (ii 0) := D26 (Or.inl (hw _ (mo 50 rfl))) (ty := .int) (by decide)
  have F_elementData_b26 : Fld Z h26 b26 sL "elementData" sE .null := D26 (Or.inl (hw _ (mo 53 rfl))) (ty := (.array (.object sO))) (by decide)
  have F_size_b26 : Fld Z h26 b26 sL "size" "I" (ii 0) := D26 (Or.inl (hw _ (mo 62 rfl))) (ty := .int) (by decide)
  have g_b26 : n0 ≤ b26 := Nat.le_trans (Nat.le_trans (Nat.le_trans (Nat.le_trans Z0 E22.1) K23.1) (Keep.of_wr W25).1) (Nat.le_of_eq g26.symm)
  have sz_b26 : h0.size ≤ b26 := Nat.le_trans K25.1 (Nat.le_of_eq g26.symm)
  have K26 : Keep h0 h26 [a] := Keep.ext K25 E26
  have C26 : CHr Z consts_1 s.vm s.heap s.vm h26 := CHr.trans C25 (CHr.ext E26 C25.1)
  refine bW T26 (mkF m 19 #[vr a, vr cl, vr kl, uu, uu, uu] [(.ref b26), (.ref a)]) (fun _ k => st26 _ k) ?_
  refine bW T26 (mkF m 20 #[vr a, vr cl, vr kl, uu, uu, uu] [(.ref b26), (.ref b26), (.ref a)]) (fun _ k => XS.dup X26.here hx rfl (hb hby d16_19) rfl rfl k) ?_
  obtain ⟨_, _, ⟨T27, L27, k27, n27⟩, -, X27, ⟨Lc27, hQ27, l27, y27, z27⟩, st27⟩ := X26.specialBack hx (y := yy8) rfl hown (mvT hZ (hw _ (mo 115 rfl))) (mvT hZ (hw _ (mo 34 rfl))) (mvT hZ (hw _ (mo 35 rfl))) (by decide) (backOf (W := 2) (ali l Z a0 hw [] b26 aD h26 n0 (Nat.le_trans (Nat.le_trans (Nat.le_trans (Nat.le_trans Z0 E22.1) K23.1) (Keep.of_wr W25).1) E26.1) (Old.ext (Old.wr (Old.keep (Old.ext O0 E22) K23 (allS g_b22 all0)) W25 g_a) E26) E_b26 F_modCount_b26 F_elementData_b26 F_size_b26 g_b26 S_DE) hZ (hw _ (mo 35 rfl)) (hw _ (mo 32 rfl)) (by decide) (by decide)) (g := (mkF m 20 #[vr a, vr cl, vr kl, uu, uu, uu] [(.ref b26), (.ref b26), (.ref a)])) rfl (by rw [hml]; rfl) (Steps.refl _) (a := b26) (argsL := []) (rest := [(.ref b26), (.ref a)]) (lenOf pd_3 rfl) rfl (Nat.le_of_eq rfl) (hb hby d16_20) (fun _ _ => ⟨rfl, e26, (by decide : 2 ≤ _), (by decide : 6 ≤ _)⟩)
  dsimp only [Pt.U, Pt.locs, Pt.cells, Pt.slots] at X27 l27 y27 z27 st27 hQ27
  subst l27 y27 z27
  obtain ⟨rfl, N27q, K27, Fm27, Fe27, Fz27⟩ := hQ27
  have N27 := Fr.app N25 N27q
  have KK27 : Keep h0 T27.heap [a] := Keep.trans K26 K27 (allS (Or.inr sz_b26) all0)
  have C27 : CHr Z consts_1 s.vm s.heap s.vm T27.heap := CHr.trans C26 (CHr.keep K27 (sfS (Safe.exa (EL := consts_1) (vm := s.vm) hZ.alike E_b26 (by decide) (by decide)) sf0) C26.1)
  refine bW T27 (mkF m 23 #[vr a, vr cl, vr kl, uu, uu, uu] [(.ref b26), (.ref a)]) (fun _ k => st27.trans k) ?_
  have ne28 : a ≠ b26 := (Nat.ne_of_lt (Nat.lt_of_lt_of_le (Exa.wr W25 (Exa.keep (Exa.ext E22 E_a) K23)).lt (Nat.le_of_eq g26.symm)))
  obtain ⟨T29, h29, X29, e29, W29, st29⟩ := putF X27 hx hZ hown (host := "") (Or.inl (hw _ (mo 118 rfl))) Via.refl rfl (Fld.keep (Fld.ext E26 (Fld.other W25 (Fld.keep (Fld.ext E22 F_units_a) K23 (ninS ne24 nin0)) (Or.inr (slot_ne (a0 := a0) (Or.inr (hw _ (mo 119 rfl))) (Or.inr (hw _ (mo 117 rfl))) (by decide) (t := (.object "java/util/List")) (t' := (.object "java/util/List")) (by decide) (by decide))))) K27 (ninS ne28 nin0)) (Exa.keep (Exa.ext E26 (Exa.wr W25 (Exa.keep (Exa.ext E22 E_a) K23))) K27) (Or.inr ⟨(hw _ (mo 119 rfl)), rfl, hnm⟩) (hw _ (mo 108 rfl)) (ty := (.object "java/util/List")) (by decide) rfl rfl (g := (mkF m 23 #[vr a, vr cl, vr kl, uu, uu, uu] [(.ref b26), (.ref a)])) rfl rfl (hb hby d16_23)
  have Fw29 : Fld Z h29 a sV "units" "Ljava/util/List;" (.ref b26) := Fld.same W29 (Fld.keep (Fld.ext E26 (Fld.other W25 (Fld.keep (Fld.ext E22 F_units_a) K23 (ninS ne24 nin0)) (Or.inr (slot_ne (a0 := a0) (Or.inr (hw _ (mo 119 rfl))) (Or.inr (hw _ (mo 117 rfl))) (by decide) (t := (.object "java/util/List")) (t' := (.object "java/util/List")) (by decide) (by decide))))) K27 (ninS ne28 nin0))
  have K29 : Keep h0 h29 [a] := Keep.wr KK27 W29 (Or.inl (mo 0 rfl))
  have C29 : CHr Z consts_1 s.vm s.heap s.vm h29 := CHr.trans C27 (CHr.wr W29 (Safe.exa (EL := consts_1) (vm := s.vm) hZ.alike (Exa.keep (Exa.ext E26 (Exa.wr W25 (Exa.keep (Exa.ext E22 E_a) K23))) K27) (by decide) (by decide)) C27.1)
  have N29 := Fr.snoc X29 N27 g_a
  refine bW T29 (mkF m 26 #[vr a, vr cl, vr kl, uu, uu, uu] []) (fun _ k => st29 _ k) ?_
  refine bW T29 (mkF m 27 #[vr a, vr cl, vr kl, uu, uu, uu] [(.ref a)]) (fun _ k => XS.aloadN X29.here hx rfl (hb hby d16_26) rfl rfl k) ?_
  refine bW T29 (mkF m 28 #[vr a, vr cl, vr kl, uu, uu, uu] [(.ref kl), (.ref a)]) (fun _ k => XS.aloadN X29.here hx rfl (hb hby d16_27) rfl rfl k) ?_
  obtain ⟨T30, h30, X30, e30, W30, st30⟩ := putF X29 hx hZ hown (host := "") (Or.inl (hw _ (mo 120 rfl))) Via.refl e29 (Fld.other W29 (Fld.keep (Fld.ext E26 (Fld.other W25 (Fld.keep (Fld.ext E22 F_columns_a) K23 (ninS ne24 nin0)) (Or.inr (slot_ne (a0 := a0) (Or.inr (hw _ (mo 121 rfl))) (Or.inr (hw _ (mo 117 rfl))) (by decide) (t := (.object "java/util/List")) (t' := (.object "java/util/List")) (by decide) (by decide))))) K27 (ninS ne28 nin0)) (Or.inr (slot_ne (a0 := a0) (Or.inr (hw _ (mo 121 rfl))) (Or.inr (hw _ (mo 119 rfl))) (by decide) (t := (.object "java/util/List")) (t' := (.object "java/util/List")) (by decide) (by decide)))) (Exa.wr W29 (Exa.keep (Exa.ext E26 (Exa.wr W25 (Exa.keep (Exa.ext E22 E_a) K23))) K27)) (Or.inr ⟨(hw _ (mo 121 rfl)), rfl, hnm⟩) (hw _ (mo 108 rfl)) (ty := (.object "java/util/List")) (by decide) rfl rfl (g := (mkF m 28 #[vr a, vr cl, vr kl, uu, uu, uu] [(.ref kl), (.ref a)])) rfl rfl (hb hby d16_28)
  have Fw30 : Fld Z h30 a sV "columns" "Ljava/util/List;" (.ref kl) := Fld.same W30 (Fld.other W29 (Fld.keep (Fld.ext E26 (Fld.other W25 (Fld.keep (Fld.ext E22 F_columns_a) K23 (ninS ne24 nin0)) (Or.inr (slot_ne (a0 := a0) (Or.inr (hw _ (mo 121 rfl))) (Or.inr (hw _ (mo 117 rfl))) (by decide) (t := (.object "java/util/List")) (t' := (.object "java/util/List")) (by decide) (by decide))))) K27 (ninS ne28 nin0)) (Or.inr (slot_ne (a0 := a0) (Or.inr (hw _ (mo 121 rfl))) (Or.inr (hw _ (mo 119 rfl))) (by decide) (t := (.object "java/util/List")) (t' := (.object "java/util/List")) (by decide) (by decide))))
  have K30 : Keep h0 h30 [a] := Keep.wr K29 W30 (Or.inl (mo 0 rfl))
  have C30 : CHr Z consts_1 s.vm s.heap s.vm h30 := CHr.trans C29 (CHr.wr W30 (Safe.exa (EL := consts_1) (vm := s.vm) hZ.alike (Exa.wr W29 (Exa.keep (Exa.ext E26 (Exa.wr W25 (Exa.keep (Exa.ext E22 E_a) K23))) K27)) (by decide) (by decide)) C29.1)
  have N30 := Fr.snoc X30 N29 g_a
  refine bW T30 (mkF m 31 #[vr a, vr cl, vr kl, uu, uu, uu] []) (fun _ k => st30 _ k) ?_
  refine bW T30 (mkF m 32 #[vr a, vr cl, vr kl, uu, uu, uu] [(.ref kl)]) (fun _ k => XS.aloadN X30.here hx rfl (hb hby d16_31) rfl rfl k) ?_
  have ne31 : kl ≠ b22 := (Nat.ne_of_lt (Nat.lt_of_lt_of_le E_kl.lt (Nat.le_of_eq g22.symm)))
  have ne32 : kl ≠ b26 := (Nat.ne_of_lt (Nat.lt_of_lt_of_le (Exa.wr W25 (Exa.keep (Exa.ext E22 E_kl) K23)).lt (Nat.le_of_eq g26.symm)))
  obtain ⟨cq33, kq33, q33a, q33b, q33c⟩ := isOf hZ e30 (Exa.wr W30 (Exa.wr W29 (Exa.keep (Exa.ext E26 (Exa.wr W25 (Exa.keep (Exa.ext E22 E_kl) K23))) K27)))
  obtain ⟨_, _, ⟨T33, L33, k33, n33⟩, -, X33, ⟨Lc33, hQ33, l33, y33, z33⟩, st33⟩ := X30.interfaceBack hx (xi := yy28) (y := yy19) hown (mvT hZ (hw _ (mo 122 rfl))) (mvT hZ (hw _ (mo 123 rfl))) (mvT hZ (hw _ (mo 124 rfl))) (mvT hZ (hw _ (mo 125 rfl))) (mvT hZ (hw _ (mo 126 rfl))) (mvT hZ (hw _ (mo 127 rfl))) (mvT hZ (hw _ (mo 128 rfl))) (mvT hZ (hw _ (mo 129 rfl))) (by decide) (backOf (W := 0) (ite l Z a0 hw [] kl (0 : Int32) h30 n0 (Nat.le_trans (Nat.le_trans (Nat.le_trans (Nat.le_trans (Nat.le_trans (Nat.le_trans (Nat.le_trans Z0 E22.1) K23.1) (Keep.of_wr W25).1) E26.1) K27.1) (Keep.of_wr W29).1) (Keep.of_wr W30).1) (Fld.other W30 (Fld.other W29 (Fld.keep (Fld.ext E26 (Fld.other W25 (Fld.keep (Fld.ext E22 F_modCount_kl) K23 (ninS ne31 nin0)) (Or.inl ne_kl))) K27 (ninS ne32 nin0)) (Or.inl ne_kl)) (Or.inl ne_kl))) hZ (hw _ (mo 130 rfl)) (hw _ (mo 32 rfl)) (by decide) (by decide)) q33a q33b q33c (g := (mkF m 32 #[vr a, vr cl, vr kl, uu, uu, uu] [(.ref kl)])) rfl (by rw [hml]; rfl) (Steps.refl _) (argsL := []) (rest := []) (lenOf pd_11 rfl) rfl (Nat.le_of_eq rfl) (hb hby d16_32) (fun _ _ => ⟨rfl, e30, (by decide : 3 ≤ _), (by decide : 10 ≤ _)⟩)
  dsimp only [Pt.U, Pt.locs, Pt.cells, Pt.slots] at X33 l33 y33 z33 st33 hQ33
  subst l33 y33 z33
  obtain ⟨it33, rfl, N33q, K33, zi33, E33, F0_33, F1_33, F2_33, F3_33⟩ := hQ33
  have N33 := Fr.app N30 N33q
  have KK33 : Keep h0 T33.heap [a] := Keep.trans K30 K33 all0
  have C33 : CHr Z consts_1 s.vm s.heap s.vm T33.heap := CHr.trans C30 (CHr.keep K33 sf0 C30.1)
  have sz_it33 : h0.size ≤ it33 := Nat.le_trans K30.1 zi33
  have g_it33 : n0 ≤ it33 := Nat.le_trans Z0 sz_it33
  refine bW T33 (mkF m 37 #[vr a, vr cl, vr kl, uu, uu, uu] [(.ref it33)]) (fun _ k => st33.trans k) ?_
  refine bW T33 (mkF m 38 #[vr a, vr cl, vr kl, vr it33, uu, uu] []) (fun _ k => XS.astoreN X33.here hx rfl (hb hby d16_37) rfl rfl rfl k) ?_
  refine bW T33 (mkF m 39 #[vr a, vr cl, vr kl, vr it33, uu, uu] [(.ref it33)]) (fun _ k => XS.aloadN X33.here hx rfl (hb hby d16_38) rfl rfl k) ?_
  obtain ⟨cq34, kq34, q34a, q34b, q34c⟩ := isOf hZ rfl E33
  obtain ⟨_, _, ⟨T34, L34, k34, n34⟩, -, X34, ⟨Lc34, hQ34, l34, y34, z34⟩, st34⟩ := X33.interfaceBack hx (xi := yy29) (y := yy20) hown (mvT hZ (hw _ (mo 146 rfl))) (mvT hZ (hw _ (mo 147 rfl))) (mvT hZ (hw _ (mo 148 rfl))) (mvT hZ (hw _ (mo 149 rfl))) (mvT hZ (hw _ (mo 150 rfl))) (mvT hZ (hw _ (mo 151 rfl))) (mvT hZ (hw _ (mo 152 rfl))) (mvT hZ (hw _ (mo 153 rfl))) (by decide) (backOf (W := 0) (ihn l Z a0 hw [] it33 kl (0 : Int32) (0 : Int32) T33.heap n0 (Nat.le_trans (Nat.le_trans (Nat.le_trans (Nat.le_trans (Nat.le_trans (Nat.le_trans (Nat.le_trans (Nat.le_trans Z0 E22.1) K23.1) (Keep.of_wr W25).1) E26.1) K27.1) (Keep.of_wr W29).1) (Keep.of_wr W30).1) K33.1) F3_33 F0_33 (Fld.keep (Fld.other W30 (Fld.other W29 (Fld.keep (Fld.ext E26 (Fld.other W25 (Fld.keep (Fld.ext E22 F_size_kl) K23 (ninS ne31 nin0)) (Or.inl ne_kl))) K27 (ninS ne32 nin0)) (Or.inl ne_kl)) (Or.inl ne_kl)) K33 nin0)) hZ (hw _ (mo 154 rfl)) (hw _ (mo 133 rfl)) (by decide) (by decide)) q34a q34b q34c (g := (mkF m 39 #[vr a, vr cl, vr kl, vr it33, uu, uu] [(.ref it33)])) rfl (by rw [hml]; rfl) (Steps.refl _) (argsL := []) (rest := []) (lenOf pd_12 rfl) rfl (Nat.le_of_eq rfl) (hb hby d16_39) (fun _ _ => ⟨rfl, rfl, (by decide : 3 ≤ _), (by decide : 10 ≤ _)⟩)
  dsimp only [Pt.U, Pt.locs, Pt.cells, Pt.slots] at X34 l34 y34 z34 st34 hQ34
  subst l34 y34 z34
  obtain ⟨vq34, N34q, e34⟩ := hQ34
  obtain rfl := vq34.trans (congrArg (fun z => some (Value.int z)) (if_pos rfl))
  have N34 := Fr.app N33 N34q
  refine bW T34 (mkF m 44 #[vr a, vr cl, vr kl, vr it33, uu, uu] [(ii 0)]) (fun _ k => st34.trans k) ?_
  refine bW T34 (mkF m 134 #[vr a, vr cl, vr kl, vr it33, uu, uu] []) (fun _ k => XS.ifYes X34.here hx rfl (pc0 := 44) (pc' := 134) rfl (hb hby d16_44) rfl ((if0 _ _).trans (teq (by decide)).1) (by decide) (by decide) k) ?_
  refine own_retW (s := s) X34 hlk hS0 (by rw [e34]; exact (Nat.le_trans (Nat.le_trans (Nat.le_trans (Nat.le_trans (Nat.le_trans (Nat.le_trans (Nat.le_trans (Nat.le_trans hk0 E22.1) K23.1) (Keep.of_wr W25).1) E26.1) K27.1) (Keep.of_wr W29).1) (Keep.of_wr W30).1) K33.1)) hZ hEL C33 e34 (v := none) (fun _ => rfl) (fun fs hr => X34.returnOut hx Bd.returns (hb hby d16_134) hr) ?_ (by decide) (by decide)
  rw [e34]
  have ne35 : b22 ≠ b26 := (Nat.ne_of_lt (Nat.lt_of_lt_of_le (Exa.wr W25 (Exa.keep E_b22 K23)).lt (Nat.le_of_eq g26.symm)))
  exact ⟨rfl, N34, KK33, _, aD, kD, (Fld.keep (Fld.other W30 (Fld.other W29 (Fld.keep (Fld.ext E26 Fw25) K27 (ninS ne28 nin0)) (Or.inr (slot_ne (a0 := a0) (Or.inr (hw _ (mo 117 rfl))) (Or.inr (hw _ (mo 119 rfl))) (by decide) (t := (.object "java/util/List")) (t' := (.object "java/util/List")) (by decide) (by decide)))) (Or.inr (slot_ne (a0 := a0) (Or.inr (hw _ (mo 117 rfl))) (Or.inr (hw _ (mo 121 rfl))) (by decide) (t := (.object "java/util/List")) (t' := (.object "java/util/List")) (by decide) (by decide)))) K33 nin0), (Exa.keep (Exa.wr W30 (Exa.wr W29 (Exa.keep (Exa.ext E26 (Exa.wr W25 (Exa.keep E_b22 K23))) K27))) K33), (Fld.keep (Fld.other W30 (Fld.other W29 (Fld.keep (Fld.ext E26 (Fld.other W25 Fz23 (Or.inl (Ne.symm ne24)))) K27 (ninS ne35 nin0)) (Or.inl (Ne.symm ne24))) (Or.inl (Ne.symm ne24))) K33 nin0), trivial⟩
theorem d16_47 : decode prog_15_method_1_code 47 = .ok (.aload_n 3, 1) := by decide +kernel
theorem d16_48 : decode prog_15_method_1_code 48 = .ok (.invokeinterface 34 1, 5) := by decide +kernel
theorem d16_53 : decode prog_15_method_1_code 53 = .ok (.checkcast 38, 3) := by decide +kernel
theorem d16_56 : decode prog_15_method_1_code 56 = .ok (.astore 4, 2) := by decide +kernel
theorem d16_58 : decode prog_15_method_1_code 58 = .ok (.aload_n 1, 1) := by decide +kernel
theorem d16_59 : decode prog_15_method_1_code 59 = .ok (.aload 4, 2) := by decide +kernel
theorem d16_61 : decode prog_15_method_1_code 61 = .ok (.invokevirtual 40, 3) := by decide +kernel
theorem d16_64 : decode prog_15_method_1_code 64 = .ok (.invokeinterface 44 2, 5) := by decide +kernel
theorem d16_69 : decode prog_15_method_1_code 69 = .ok (.checkcast 48, 3) := by decide +kernel
theorem d16_72 : decode prog_15_method_1_code 72 = .ok (.astore 5, 2) := by decide +kernel
theorem d16_74 : decode prog_15_method_1_code 74 = .ok (.aload_n 0, 1) := by decide +kernel
theorem d16_75 : decode prog_15_method_1_code 75 = .ok (.getfield 10, 3) := by decide +kernel
theorem d16_78 : decode prog_15_method_1_code 78 = .ok (.aload 5, 2) := by decide +kernel
theorem d16_80 : decode prog_15_method_1_code 80 = .ok (.invokeinterface 50 2, 5) := by decide +kernel
theorem d16_85 : decode prog_15_method_1_code 85 = .ok (.pop, 1) := by decide +kernel
theorem d16_86 : decode prog_15_method_1_code 86 = .ok (.aload_n 0, 1) := by decide +kernel
theorem d16_87 : decode prog_15_method_1_code 87 = .ok (.getfield 16, 3) := by decide +kernel
theorem d16_90 : decode prog_15_method_1_code 90 = .ok (.aload 4, 2) := by decide +kernel
theorem d16_92 : decode prog_15_method_1_code 92 = .ok (.invokevirtual 54, 3) := by decide +kernel
theorem d16_95 : decode prog_15_method_1_code 95 = .ok (.ifCond .lt 11, 3) := by decide +kernel
theorem d16_106 : decode prog_15_method_1_code 106 = .ok (.ldc 60, 2) := by decide +kernel
theorem d16_108 : decode prog_15_method_1_code 108 = .ok (.goto 17, 3) := by decide +kernel
theorem d16_125 : decode prog_15_method_1_code 125 = .ok (.invokeinterface 50 2, 5) := by decide +kernel
theorem d16_130 : decode prog_15_method_1_code 130 = .ok (.pop, 1) := by decide +kernel
theorem d16_131 : decode prog_15_method_1_code 131 = .ok (.goto (-93), 3) := by decide +kernel
theorem ef_vin_1 (m : MethodId) (a cl kl : Addr) : entryFrame m #[(.ref a), (.ref cl), (.ref kl)] 6 = mkF m 0 #[vr a, vr cl, vr kl, uu, uu, uu] [] := rfl
def V_vin_1 (Z : State) (a cl : Addr) (kl aD : Addr) (kD : ClassId) (dc : Addr) (kc : ClassId) (y0 y1 : Addr) (y2 dk : Addr) (kk : ClassId) (w0 : Addr) (i0 : Int32) (h0 : Heap) (vm : Vm) : Prop := True
def Q_vin_1 (Z : State) (a cl : Addr) (kl aD : Addr) (kD : ClassId) (dc : Addr) (kc : ClassId) (y0 y1 : Addr) (y2 dk : Addr) (kk : ClassId) (w0 : Addr) (i0 : Int32) (h0 : Heap) (n0 : Nat) (v : Option Value) (h : Heap) (L : List Loc) : Prop := v = none ∧ Fr n0 L ∧ Keep h0 h [a] ∧ ∃ (vl dv : Addr) (kv : ClassId), Fld Z h a sV "values" "Ljava/util/List;" (.ref vl) ∧ Exa Z h vl sL ∧ Fld Z h vl sL "size" "I" (.int (1 : Int32)) ∧ Fld Z h vl sL "elementData" sE (.ref dv) ∧ Arv Z h dv kv (.object sO) (10 : Int32) [(.ref (own_p3 i0 y0 y1 y2)), .null, .null, .null, .null, .null, .null, .null, .null, .null] .null
theorem vin_1_c2 {l : _} {Z : State} {a0 : Array Value} (hw : HW Z a0) {a : Addr} {cl : Addr} {kl : Addr} {aD : Addr} {kD : ClassId} {dc : Addr} {kc : ClassId} {y0 : Addr} {y1 : Addr} {y2 : Addr} {dk : Addr} {kk : ClassId} {w0 : Addr} {i0 : Int32} {h0 : Heap} {n0 : Nat} {p : _} {e : _} {s : State} {m : _} {below : _} {meth : _} {c : _} {h1 : Heap} {T1 : State} {Lc : List Loc} {vm1 : Vm} {ks1 : Nat} {b22 : Addr} {d45 : Addr} {it33 : Addr} {kd45 : ClassId} (X1 : Stand p l e rr15 (s.setVm vm1) m #[(.ref a), (.ref cl), (.ref kl)] below meth c T1 Lc 7 34) (e1 : T1.heap = h1) (Kc : Keep h0 h1 [a]) (Nc : Fr n0 Lc) (Z0 : n0 ≤ h0.size) (hZ1 : Z.Warmed39 (s.setVm vm1).vm) (hown1 : (s.setVm vm1).vm.findClass sV = some m.cls) (hS1 : s.Since vm1 ks1) (hk1 : ks1 ≤ h1.size) (C1 : CHr Z consts_1 s.vm s.heap vm1 h1) (hx : p.tables.exec = Jvm.exec) (hby : c.code = prog_15_method_1_code) (hml : c.maxLocals = 6) (hlk : meth.locks = false) (hrt : meth.sig.returnType = none) (Y3 : Fld Z h1 a sV "values" "Ljava/util/List;" (.ref b22)) (Y16 : Fld Z h1 kl sL "size" "I" (.int (1 : Int32))) (Y21 : Exa Z h1 b22 sL) (Y23 : Fld Z h1 b22 sL "elementData" sE (.ref d45)) (Y24 : Fld Z h1 b22 sL "size" "I" (.int (1 : Int32))) (Y29 : Exa Z h1 it33 sI) (Y30 : Fld Z h1 it33 sI "this$0" "Ljava/util/ArrayList;" (.ref kl)) (Y33 : Fld Z h1 it33 sI "cursor" "I" (.int (1 : Int32))) (Y35 : Arv Z h1 d45 kd45 (.object sO) (10 : Int32) [(.ref (own_p3 i0 y0 y1 y2)), .null, .null, .null, .null, .null, .null, .null, .null, .null] .null) :
    own_GoW p.tables e below Z consts_1 (Q_vin_1 Z a cl kl aD kD dc kc y0 y1 y2 dk kk w0 i0 h0 n0) s rr15.cells rr15.slots T1 (mkF m 131 #[vr a, vr cl, vr kl, vr it33, vr w0, vr (own_p3 i0 y0 y1 y2)] []) := by
  have hEL : EW Z a0 consts_1 := own_EL hw
  refine bW T1 (mkF m 38 #[vr a, vr cl, vr kl, vr it33, vr w0, vr (own_p3 i0 y0 y1 y2)] []) (fun _ k => XS.goto X1.here hx rfl (pc0 := 131) (pc' := 38) rfl (hb hby d16_131) (by decide) (by decide) k) ?_
  refine bW T1 (mkF m 39 #[vr a, vr cl, vr kl, vr it33, vr w0, vr (own_p3 i0 y0 y1 y2)] [(.ref it33)]) (fun _ k => XS.aloadN X1.here hx rfl (hb hby d16_38) rfl rfl k) ?_
  obtain ⟨cq50, kq50, q50a, q50b, q50c⟩ := isOf hZ1 e1 Y29
  obtain ⟨_, _, ⟨T50, L50, k50, n50⟩, -, X50, ⟨Lc50, hQ50, l50, y50, z50⟩, st50⟩ := X1.interfaceBack hx (xi := yy29) (y := yy20) hown1 (mvT hZ1 (hw _ (mo 146 rfl))) (mvT hZ1 (hw _ (mo 147 rfl))) (mvT hZ1 (hw _ (mo 148 rfl))) (mvT hZ1 (hw _ (mo 149 rfl))) (mvT hZ1 (hw _ (mo 150 rfl))) (mvT hZ1 (hw _ (mo 151 rfl))) (mvT hZ1 (hw _ (mo 152 rfl))) (mvT hZ1 (hw _ (mo 153 rfl))) (by decide) (backOf (W := 0) (ihn l Z a0 hw [] it33 kl (1 : Int32) (1 : Int32) h1 n0 (Nat.le_trans Z0 Kc.1) Y33 Y30 Y16) hZ1 (hw _ (mo 154 rfl)) (hw _ (mo 133 rfl)) (by decide) (by decide)) q50a q50b q50c (g := (mkF m 39 #[vr a, vr cl, vr kl, vr it33, vr w0, vr (own_p3 i0 y0 y1 y2)] [(.ref it33)])) rfl (by rw [hml]; rfl) (Steps.refl _) (argsL := []) (rest := []) (lenOf pd_12 rfl) rfl (Nat.le_of_eq rfl) (hb hby d16_39) (fun _ _ => ⟨rfl, e1, (by decide : 7 ≤ _), (by decide : 34 ≤ _)⟩)
  dsimp only [Pt.U, Pt.locs, Pt.cells, Pt.slots] at X50 l50 y50 z50 st50 hQ50
  subst l50 y50 z50
  obtain ⟨vq50, N50q, e50⟩ := hQ50
  obtain rfl := vq50.trans (congrArg (fun z => some (Value.int z)) (if_pos rfl))
  have N50 := Fr.app Nc N50q
  refine bW T50 (mkF m 44 #[vr a, vr cl, vr kl, vr it33, vr w0, vr (own_p3 i0 y0 y1 y2)] [(ii 0)]) (fun _ k => st50.trans k) ?_
  refine bW T50 (mkF m 134 #[vr a, vr cl, vr kl, vr it33, vr w0, vr (own_p3 i0 y0 y1 y2)] []) (fun _ k => XS.ifYes X50.here hx rfl (pc0 := 44) (pc' := 134) rfl (hb hby d16_44) rfl ((if0 _ _).trans (teq (by decide)).1) (by decide) (by decide) k) ?_
  refine own_retW (s := s) X50 hlk hS1 (by rw [e50]; exact hk1) hZ1 hEL C1 e50 (v := none) (fun _ => rfl) (fun fs hr => X50.returnOut hx hrt (hb hby d16_134) hr) ?_ (by decide) (by decide)
  rw [e50]
  exact ⟨rfl, N50, Kc, _, _, _, Y3, Y21, Y24, Y23, Y35⟩
theorem vin_1_c1 {l : _} {Z : State} {a0 : Array Value} (hw : HW Z a0) {a : Addr} {cl : Addr} {kl : Addr} {aD : Addr} {kD : ClassId} {dc : Addr} {kc : ClassId} {y0 : Addr} {y1 : Addr} {y2 : Addr} {dk : Addr} {kk : ClassId} {w0 : Addr} {i0 : Int32} {h0 : Heap} {n0 : Nat} {p : _} {e : _} {s : State} {m : _} {below : _} {meth : _} {c : _} {h1 : Heap} {T1 : State} {Lc : List Loc} {vm1 : Vm} {ks1 : Nat} {b22 : Addr} {b26 : Addr} {it33 : Addr} (X1 : Stand p l e rr15 (s.setVm vm1) m #[(.ref a), (.ref cl), (.ref kl)] below meth c T1 Lc 3 10) (e1 : T1.heap = h1) (Kc : Keep h0 h1 [a]) (Nc : Fr n0 Lc) (Z0 : n0 ≤ h0.size) (O0 : Old Z n0 h1) (S_DE : Sta Z Z.heap sL "DEFAULTCAPACITY_EMPTY_ELEMENTDATA" "[Ljava/lang/Object;" (.ref aD)) (V_aD : Arv Z Z.heap aD kD (.object sO) (0 : Int32) [] .null) (hi0 : i0 = 0 ∨ i0 = 1 ∨ i0 = 2) (hZ1 : Z.Warmed39 (s.setVm vm1).vm) (hown1 : (s.setVm vm1).vm.findClass sV = some m.cls) (hS1 : s.Since vm1 ks1) (hk1 : ks1 ≤ h1.size) (C1 : CHr Z consts_1 s.vm s.heap vm1 h1) (hx : p.tables.exec = Jvm.exec) (hby : c.code = prog_15_method_1_code) (hml : c.maxLocals = 6) (hlk : meth.locks = false) (hrt : meth.sig.returnType = none) (Y3 : Fld Z h1 a sV "values" "Ljava/util/List;" (.ref b22)) (Y4 : Fld Z h1 a sV "units" "Ljava/util/List;" (.ref b26)) (Y6 : Exa Z h1 cl sL) (Y7 : Fld Z h1 cl sL "size" "I" (.int (3 : Int32))) (Y8 : Fld Z h1 cl sL "elementData" sE (.ref dc)) (Y9 : Arv Z h1 dc kc (.object sO) (10 : Int32) [(.ref y0), (.ref y1), (.ref y2), .null, .null, .null, .null, .null, .null, .null] .null) (Y10 : Exa Z h1 y0 sS) (Y11 : Exa Z h1 y1 sS) (Y12 : Exa Z h1 y2 sS) (Y16 : Fld Z h1 kl sL "size" "I" (.int (1 : Int32))) (Y18 : Exa Z h1 w0 sA) (Y19 : Fld Z h1 w0 sA "value" "I" (.int i0)) (Y20 : Fld Z h1 w0 sA "unit" "I" (.int (-1 : Int32))) (Y21 : Exa Z h1 b22 sL) (Y22 : Fld Z h1 b22 sB "modCount" "I" (ii 0)) (Y23 : Fld Z h1 b22 sL "elementData" sE (.ref aD)) (Y24 : Fld Z h1 b22 sL "size" "I" (ii 0)) (Y25 : Exa Z h1 b26 sL) (Y26 : Fld Z h1 b26 sB "modCount" "I" (ii 0)) (Y27 : Fld Z h1 b26 sL "elementData" sE (.ref aD)) (Y28 : Fld Z h1 b26 sL "size" "I" (ii 0)) (Y29 : Exa Z h1 it33 sI) (Y30 : Fld Z h1 it33 sI "this$0" "Ljava/util/ArrayList;" (.ref kl)) (Y33 : Fld Z h1 it33 sI "cursor" "I" (.int (1 : Int32))) (nx8 : a ≠ b22) (nx9 : a ≠ b26) (nx53 : kl ≠ b22) (nx54 : kl ≠ b26) (nx60 : w0 ≠ b22) (nx63 : b22 ≠ b26) (nx64 : b22 ≠ it33) (nx65 : b26 ≠ it33) (g_b22 : n0 ≤ b22) (sz_b22 : h0.size ≤ b22) (g_b26 : n0 ≤ b26) (sz_b26 : h0.size ≤ b26) :
    own_GoW p.tables e below Z consts_1 (Q_vin_1 Z a cl kl aD kD dc kc y0 y1 y2 dk kk w0 i0 h0 n0) s rr15.cells rr15.slots T1 (mkF m 58 #[vr a, vr cl, vr kl, vr it33, vr w0, uu] []) := by
  have hEL : EW Z a0 consts_1 := own_EL hw
  have hwS : ∀ d ∈ Bundle.stringAtoms, d.before a0 Z = true := fun d hd => hw d (own_SA d hd)
  refine bW T1 (mkF m 59 #[vr a, vr cl, vr kl, vr it33, vr w0, uu] [(.ref cl)]) (fun _ k => XS.aloadN X1.here hx rfl (hb hby d16_58) rfl rfl k) ?_
  refine bW T1 (mkF m 61 #[vr a, vr cl, vr kl, vr it33, vr w0, uu] [(.ref w0), (.ref cl)]) (fun _ k => XS.aload X1.here hx rfl (hb hby d16_59) rfl rfl k) ?_
  obtain ⟨cq41, kq41, q41a, q41b, q41c⟩ := isOf hZ1 e1 Y18
  obtain ⟨_, _, ⟨T41, L41, k41, n41⟩, -, X41, ⟨Lc41, hQ41, l41, y41, z41⟩, st41⟩ := X1.virtualBack hx (y := yy15) (z := yy15) hown1 (mvT hZ1 (hw _ (mo 188 rfl))) (mvT hZ1 (hw _ (mo 189 rfl))) (notFace_of_selects (args := #[]) (mvT hZ1 (hw _ (mo 191 rfl)))) (mvT hZ1 (hw _ (mo 191 rfl))) (mvT hZ1 (hw _ (mo 190 rfl))) (by decide) (backOf (W := 1) (cg_value l Z a0 hw [] w0 i0 h1 n0 (Nat.le_trans Z0 Kc.1) Y19) hZ1 (hw _ (mo 192 rfl)) (hw _ (mo 87 rfl)) (by decide) (by decide)) q41a q41c (g := (mkF m 61 #[vr a, vr cl, vr kl, vr it33, vr w0, uu] [(.ref w0), (.ref cl)])) rfl (by rw [hml]; rfl) (Steps.refl _) (argsL := []) (rest := [(.ref cl)]) (lenOf pd_14 rfl) rfl (Nat.le_of_eq rfl) (hb hby d16_61) (fun _ _ => ⟨rfl, e1, (by decide : 3 ≤ _), (by decide : 10 ≤ _)⟩)
  dsimp only [Pt.U, Pt.locs, Pt.cells, Pt.slots] at X41 l41 y41 z41 st41 hQ41
  subst l41 y41 z41
  obtain ⟨rfl, N41q, e41⟩ := hQ41
  have N41 := Fr.app Nc N41q
  refine bW T41 (mkF m 64 #[vr a, vr cl, vr kl, vr it33, vr w0, uu] [(.int i0), (.ref cl)]) (fun _ k => st41.trans k) ?_
  obtain ⟨cq42, kq42, q42a, q42b, q42c⟩ := isOf hZ1 e41 Y6
  obtain ⟨_, _, ⟨T42, L42, k42, n42⟩, -, X42, ⟨Lc42, hQ42, l42, y42, z42⟩, st42⟩ := X41.interfaceBack hx (xi := yy30) (y := yy26) hown1 (mvT hZ1 (hw _ (mo 193 rfl))) (mvT hZ1 (hw _ (mo 194 rfl))) (mvT hZ1 (hw _ (mo 195 rfl))) (mvT hZ1 (hw _ (mo 196 rfl))) (mvT hZ1 (hw _ (mo 197 rfl))) (mvT hZ1 (hw _ (mo 198 rfl))) (mvT hZ1 (hw _ (mo 199 rfl))) (mvT hZ1 (hw _ (mo 129 rfl))) (by decide) (backOf (W := 0) (get3 l Z a0 hw [] cl i0 dc kc y0 y1 y2 h1 n0 (Nat.le_trans Z0 Kc.1) Y6 Y7 Y8 Y9 hi0) hZ1 (hw _ (mo 200 rfl)) (hw _ (mo 32 rfl)) (by decide) (by decide)) q42a q42b q42c (g := (mkF m 64 #[vr a, vr cl, vr kl, vr it33, vr w0, uu] [(.int i0), (.ref cl)])) rfl (by rw [hml]; rfl) (Steps.refl _) (argsL := [(.int i0)]) (rest := []) (lenOf pd_10 rfl) rfl (Nat.le_of_eq rfl) (hb hby d16_64) (fun _ _ => ⟨rfl, e41, (by decide : 3 ≤ _), (by decide : 10 ≤ _)⟩)
  dsimp only [Pt.U, Pt.locs, Pt.cells, Pt.slots] at X42 l42 y42 z42 st42 hQ42
  subst l42 y42 z42
  obtain ⟨rfl, N42q, e42⟩ := hQ42
  have N42 := Fr.app N41 N42q
  have Ep42 := own_pE i0 Y10 Y11 Y12
  refine bW T42 (mkF m 69 #[vr a, vr cl, vr kl, vr it33, vr w0, uu] [(.ref (own_p3 i0 y0 y1 y2))]) (fun _ k => st42.trans k) ?_
  obtain ⟨T43, X43, e43, st43⟩ := castY X42 hx hZ1 hown1 (hw _ (mo 214 rfl)) e42 (Ins.self Ep42) (g := (mkF m 69 #[vr a, vr cl, vr kl, vr it33, vr w0, uu] [(.ref (own_p3 i0 y0 y1 y2))])) rfl rfl (hb hby d16_69)
  refine bW T43 (mkF m 72 #[vr a, vr cl, vr kl, vr it33, vr w0, uu] [(.ref (own_p3 i0 y0 y1 y2))]) (fun _ k => st43 _ k) ?_
  refine bW T43 (mkF m 74 #[vr a, vr cl, vr kl, vr it33, vr w0, vr (own_p3 i0 y0 y1 y2)] []) (fun _ k => XS.astore X43.here hx rfl (hb hby d16_72) rfl rfl rfl k) ?_
  refine bW T43 (mkF m 75 #[vr a, vr cl, vr kl, vr it33, vr w0, vr (own_p3 i0 y0 y1 y2)] [(.ref a)]) (fun _ k => XS.aloadN X43.here hx rfl (hb hby d16_74) rfl rfl k) ?_
  obtain ⟨T44, X44, e44, st44⟩ := getF X43 hx hZ1 hown1 (host := "") (Or.inl (hw _ (mo 116 rfl))) Via.refl e43 Y3 (g := (mkF m 75 #[vr a, vr cl, vr kl, vr it33, vr w0, vr (own_p3 i0 y0 y1 y2)] [(.ref a)])) rfl rfl (hb hby d16_75)
  refine bW T44 (mkF m 78 #[vr a, vr cl, vr kl, vr it33, vr w0, vr (own_p3 i0 y0 y1 y2)] [(.ref b22)]) (fun _ k => st44 _ k) ?_
  refine bW T44 (mkF m 80 #[vr a, vr cl, vr kl, vr it33, vr w0, vr (own_p3 i0 y0 y1 y2)] [(.ref (own_p3 i0 y0 y1 y2)), (.ref b22)]) (fun _ k => XS.aload X44.here hx rfl (hb hby d16_78) rfl rfl k) ?_
  obtain ⟨cq45, kq45, q45a, q45b, q45c⟩ := isOf hZ1 e44 Y21
  obtain ⟨_, _, ⟨T45, L45, k45, n45⟩, -, X45, ⟨Lc45, hQ45, l45, y45, z45⟩, st45⟩ := X44.interfaceBack hx (xi := yy31) (y := yy13) hown1 (mvT hZ1 (hw _ (mo 215 rfl))) (mvT hZ1 (hw _ (mo 216 rfl))) (mvT hZ1 (hw _ (mo 217 rfl))) (mvT hZ1 (hw _ (mo 218 rfl))) (mvT hZ1 (hw _ (mo 56 rfl))) (mvT hZ1 (hw _ (mo 219 rfl))) (mvT hZ1 (hw _ (mo 220 rfl))) (mvT hZ1 (hw _ (mo 129 rfl))) (by decide) (backOf (W := 0) (ad1s_0 l Z a0 hw [] b22 (own_p3 i0 y0 y1 y2) aD kD sS h1 n0 (Nat.le_trans Z0 Kc.1) O0 Y21 Y22 Y23 Y24 g_b22 S_DE V_aD Ep42 (hw _ (mo 84 rfl))) hZ1 (hw _ (mo 58 rfl)) (hw _ (mo 32 rfl)) (by decide) (by decide)) q45a q45b q45c (g := (mkF m 80 #[vr a, vr cl, vr kl, vr it33, vr w0, vr (own_p3 i0 y0 y1 y2)] [(.ref (own_p3 i0 y0 y1 y2)), (.ref b22)])) rfl (by rw [hml]; rfl) (Steps.refl _) (argsL := [(.ref (own_p3 i0 y0 y1 y2))]) (rest := []) (lenOf pd_15 rfl) rfl (Nat.le_of_eq rfl) (hb hby d16_80) (fun _ _ => ⟨rfl, e44, (by decide : 4 ≤ _), (by decide : 20 ≤ _)⟩)
  dsimp only [Pt.U, Pt.locs, Pt.cells, Pt.slots] at X45 l45 y45 z45 st45 hQ45
  subst l45 y45 z45
  obtain ⟨rfl, N45q, K45, d45, kd45, zd45, Fm45, Fe45, Fz45, V45, O45⟩ := hQ45
  have N45 := Fr.app N42 N45q
  have KK45 : Keep h0 T45.heap [a] := Keep.trans Kc K45 (allS (Or.inr sz_b22) all0)
  have C45 : CHr Z consts_1 s.vm s.heap vm1 T45.heap := CHr.trans C1 (CHr.keep K45 (sfS (Safe.exa (EL := consts_1) (vm := vm1) hZ1.alike Y21 (by decide) (by decide)) sf0) C1.1)
  have sz_d45 : h0.size ≤ d45 := Nat.le_trans Kc.1 zd45
  have g_d45 : n0 ≤ d45 := Nat.le_trans Z0 sz_d45
  refine bW T45 (mkF m 85 #[vr a, vr cl, vr kl, vr it33, vr w0, vr (own_p3 i0 y0 y1 y2)] [(.int (1 : Int32))]) (fun _ k => st45.trans k) ?_
  refine bW T45 (mkF m 86 #[vr a, vr cl, vr kl, vr it33, vr w0, vr (own_p3 i0 y0 y1 y2)] []) (fun _ k => XS.pop X45.here hx rfl (hb hby d16_85) rfl rfl k) ?_
  refine bW T45 (mkF m 87 #[vr a, vr cl, vr kl, vr it33, vr w0, vr (own_p3 i0 y0 y1 y2)] [(.ref a)]) (fun _ k => XS.aloadN X45.here hx rfl (hb hby d16_86) rfl rfl k) ?_
  obtain ⟨T46, X46, e46, st46⟩ := getF X45 hx hZ1 hown1 (host := "") (Or.inl (hw _ (mo 118 rfl))) Via.refl rfl (Fld.keep Y4 K45 (ninS nx8 nin0)) (g := (mkF m 87 #[vr a, vr cl, vr kl, vr it33, vr w0, vr (own_p3 i0 y0 y1 y2)] [(.ref a)])) rfl rfl (hb hby d16_87)
  refine bW T46 (mkF m 90 #[vr a, vr cl, vr kl, vr it33, vr w0, vr (own_p3 i0 y0 y1 y2)] [(.ref b26)]) (fun _ k => st46 _ k) ?_
  refine bW T46 (mkF m 92 #[vr a, vr cl, vr kl, vr it33, vr w0, vr (own_p3 i0 y0 y1 y2)] [(.ref w0), (.ref b26)]) (fun _ k => XS.aload X46.here hx rfl (hb hby d16_90) rfl rfl k) ?_
  obtain ⟨cq47, kq47, q47a, q47b, q47c⟩ := isOf hZ1 e46 (Exa.keep Y18 K45)
  obtain ⟨_, _, ⟨T47, L47, k47, n47⟩, -, X47, ⟨Lc47, hQ47, l47, y47, z47⟩, st47⟩ := X46.virtualBack hx (y := yy16) (z := yy16) hown1 (mvT hZ1 (hw _ (mo 221 rfl))) (mvT hZ1 (hw _ (mo 222 rfl))) (notFace_of_selects (args := #[]) (mvT hZ1 (hw _ (mo 224 rfl)))) (mvT hZ1 (hw _ (mo 224 rfl))) (mvT hZ1 (hw _ (mo 223 rfl))) (by decide) (backOf (W := 1) (cg_unit l Z a0 hw [] w0 (-1 : Int32) T45.heap n0 (Nat.le_trans (Nat.le_trans Z0 Kc.1) K45.1) (Fld.keep Y20 K45 (ninS nx60 nin0))) hZ1 (hw _ (mo 225 rfl)) (hw _ (mo 87 rfl)) (by decide) (by decide)) q47a q47c (g := (mkF m 92 #[vr a, vr cl, vr kl, vr it33, vr w0, vr (own_p3 i0 y0 y1 y2)] [(.ref w0), (.ref b26)])) rfl (by rw [hml]; rfl) (Steps.refl _) (argsL := []) (rest := [(.ref b26)]) (lenOf pd_14 rfl) rfl (Nat.le_of_eq rfl) (hb hby d16_92) (fun _ _ => ⟨rfl, e46, (by decide : 4 ≤ _), (by decide : 20 ≤ _)⟩)
  dsimp only [Pt.U, Pt.locs, Pt.cells, Pt.slots] at X47 l47 y47 z47 st47 hQ47
  subst l47 y47 z47
  obtain ⟨rfl, N47q, e47⟩ := hQ47
  have N47 := Fr.app N45 N47q
  refine bW T47 (mkF m 95 #[vr a, vr cl, vr kl, vr it33, vr w0, vr (own_p3 i0 y0 y1 y2)] [(.int (-1 : Int32)), (.ref b26)]) (fun _ k => st47.trans k) ?_
  refine bW T47 (mkF m 106 #[vr a, vr cl, vr kl, vr it33, vr w0, vr (own_p3 i0 y0 y1 y2)] [(.ref b26)]) (fun _ k => XS.ifYes X47.here hx rfl (pc0 := 95) (pc' := 106) rfl (hb hby d16_95) rfl ((if0 _ _).trans (tlt (by decide)).1) (by decide) (by decide) k) ?_
  obtain ⟨a48, T48, h48, k48, b48, kb48, X48, e48, E48, hS48, hk48, hZ48, hown48, Ex48, Fc48, Fv48, V48, la48, lb48, Cq48, Lt48, D48, st48⟩ := ldcCH (s := s) (EL := consts_1) X47 hx hZ1 hown1 (hw _ (mo 226 rfl)) hwS e47 hS1 (Nat.le_trans hk1 K45.1) hEL (mo 0 rfl) C45.1 (vs := []) (z := (0 : Int32)) ⟨by decide, by decide⟩ (by decide) (by decide) (g := (mkF m 106 #[vr a, vr cl, vr kl, vr it33, vr w0, vr (own_p3 i0 y0 y1 y2)] [(.ref b26)])) rfl (hb hby d16_106) (n := 0) (by decide) (by decide) (by decide) (by decide)
  have C48 : CHr Z consts_1 s.vm s.heap T48.vm h48 := CHr.trans C45 Cq48
  have K48 : Keep h0 h48 [a] := Keep.ext KK45 E48
  refine bW T48 (mkF m 108 #[vr a, vr cl, vr kl, vr it33, vr w0, vr (own_p3 i0 y0 y1 y2)] [(.ref a48), (.ref b26)]) (fun _ k => st48 _ k) ?_
  refine bW T48 (mkF m 125 #[vr a, vr cl, vr kl, vr it33, vr w0, vr (own_p3 i0 y0 y1 y2)] [(.ref a48), (.ref b26)]) (fun _ k => XS.goto X48.here hx rfl (pc0 := 108) (pc' := 125) rfl (hb hby d16_108) (by decide) (by decide) k) ?_
  obtain ⟨cq49, kq49, q49a, q49b, q49c⟩ := isOf hZ48 e48 (Exa.ext E48 (Exa.keep Y25 K45))
  obtain ⟨_, _, ⟨T49, L49, k49, n49⟩, -, X49, ⟨Lc49, hQ49, l49, y49, z49⟩, st49⟩ := X48.interfaceBack hx (xi := yy31) (y := yy13) hown48 (mvT hZ48 (hw _ (mo 215 rfl))) (mvT hZ48 (hw _ (mo 216 rfl))) (mvT hZ48 (hw _ (mo 217 rfl))) (mvT hZ48 (hw _ (mo 218 rfl))) (mvT hZ48 (hw _ (mo 56 rfl))) (mvT hZ48 (hw _ (mo 219 rfl))) (mvT hZ48 (hw _ (mo 220 rfl))) (mvT hZ48 (hw _ (mo 129 rfl))) (by decide) (backOf (W := 0) (ad1s_0 l Z a0 hw [] b26 a48 aD kD sS h48 n0 (Nat.le_trans (Nat.le_trans (Nat.le_trans Z0 Kc.1) K45.1) E48.1) (Old.ext (Old.keep O0 K45 (allS g_b22 all0)) E48) (Exa.ext E48 (Exa.keep Y25 K45)) (Fld.ext E48 (Fld.keep Y26 K45 (ninS (Ne.symm nx63) nin0))) (Fld.ext E48 (Fld.keep Y27 K45 (ninS (Ne.symm nx63) nin0))) (Fld.ext E48 (Fld.keep Y28 K45 (ninS (Ne.symm nx63) nin0))) g_b26 S_DE V_aD Ex48 (hw _ (mo 84 rfl))) hZ48 (hw _ (mo 58 rfl)) (hw _ (mo 32 rfl)) (by decide) (by decide)) q49a q49b q49c (g := (mkF m 125 #[vr a, vr cl, vr kl, vr it33, vr w0, vr (own_p3 i0 y0 y1 y2)] [(.ref a48), (.ref b26)])) rfl (by rw [hml]; rfl) (Steps.refl _) (argsL := [(.ref a48)]) (rest := []) (lenOf pd_15 rfl) rfl (Nat.le_of_eq rfl) (hb hby d16_125) (fun _ _ => ⟨rfl, e48, (by decide : 7 ≤ _), (by decide : 34 ≤ _)⟩)
  dsimp only [Pt.U, Pt.locs, Pt.cells, Pt.slots] at X49 l49 y49 z49 st49 hQ49
  subst l49 y49 z49
  obtain ⟨rfl, N49q, K49, d49, kd49, zd49, Fm49, Fe49, Fz49, V49, O49⟩ := hQ49
  have N49 := Fr.app N47 N49q
  have KK49 : Keep h0 T49.heap [a] := Keep.trans K48 K49 (allS (Or.inr sz_b26) all0)
  have C49 : CHr Z consts_1 s.vm s.heap T48.vm T49.heap := CHr.trans C48 (CHr.keep K49 (sfS (Safe.exa (EL := consts_1) (vm := T48.vm) hZ48.alike (Exa.ext E48 (Exa.keep Y25 K45)) (by decide) (by decide)) sf0) C48.1)
  have sz_d49 : h0.size ≤ d49 := Nat.le_trans K48.1 zd49
  have g_d49 : n0 ≤ d49 := Nat.le_trans Z0 sz_d49
  refine bW T49 (mkF m 130 #[vr a, vr cl, vr kl, vr it33, vr w0, vr (own_p3 i0 y0 y1 y2)] [(.int (1 : Int32))]) (fun _ k => st49.trans k) ?_
  refine bW T49 (mkF m 131 #[vr a, vr cl, vr kl, vr it33, vr w0, vr (own_p3 i0 y0 y1 y2)] []) (fun _ k => XS.pop X49.here hx rfl (hb hby d16_130) rfl rfl k) ?_
  have ne51 : b26 ≠ d45 := (Nat.ne_of_lt (Nat.lt_of_lt_of_le (Y25).lt zd45))
  exact vin_1_c2 (h1 := T49.heap) (T1 := T49) (vm1 := T48.vm) hw X49 rfl KK49 N49 Z0 hZ48 hown48 hS48 (Nat.le_trans hk48 K49.1) C49 hx hby hml hlk hrt (Fld.keep (Fld.ext E48 (Fld.keep Y3 K45 (ninS nx8 nin0))) K49 (ninS nx9 nin0)) (Fld.keep (Fld.ext E48 (Fld.keep Y16 K45 (ninS nx53 nin0))) K49 (ninS nx54 nin0)) (Exa.keep (Exa.ext E48 (Exa.keep Y21 K45)) K49) (Fld.keep (Fld.ext E48 Fe45) K49 (ninS nx63 nin0)) (Fld.keep (Fld.ext E48 Fz45) K49 (ninS nx63 nin0)) (Exa.keep (Exa.ext E48 (Exa.keep Y29 K45)) K49) (Fld.keep (Fld.ext E48 (Fld.keep Y30 K45 (ninS (Ne.symm nx64) nin0))) K49 (ninS (Ne.symm nx65) nin0)) (Fld.keep (Fld.ext E48 (Fld.keep Y33 K45 (ninS (Ne.symm nx64) nin0))) K49 (ninS (Ne.symm nx65) nin0)) (Arv.keep (Arv.ext V45 E48) K49 (ninS (Ne.symm ne51) nin0))
theorem vin_1 (l : Launch) (Z : State) (a0 : Array Value) (hw : HW Z a0) (ws : List Jvm.Cond) (a cl : Addr) (kl aD : Addr) (kD : ClassId) (dc : Addr) (kc : ClassId) (y0 y1 : Addr) (y2 dk : Addr) (kk : ClassId) (w0 : Addr) (i0 : Int32) (h0 : Heap) (n0 : Nat) (Z0 : n0 ≤ h0.size) (O0 : Old Z n0 h0) (S_DE : Sta Z Z.heap sL "DEFAULTCAPACITY_EMPTY_ELEMENTDATA" "[Ljava/lang/Object;" (.ref aD)) (V_aD : Arv Z Z.heap aD kD (.object sO) (0 : Int32) [] .null) (E_a : Exa Z h0 a sV) (F_values_a : Fld Z h0 a sV "values" "Ljava/util/List;" .null) (F_units_a : Fld Z h0 a sV "units" "Ljava/util/List;" .null) (F_columns_a : Fld Z h0 a sV "columns" "Ljava/util/List;" .null) (g_a : n0 ≤ a) (E_cl : Exa Z h0 cl sL) (F_size_cl : Fld Z h0 cl sL "size" "I" (.int (3 : Int32))) (F_elementData_cl : Fld Z h0 cl sL "elementData" sE (.ref dc)) (V_dc : Arv Z h0 dc kc (.object sO) (10 : Int32) [(.ref y0), (.ref y1), (.ref y2), .null, .null, .null, .null, .null, .null, .null] .null) (E_y0 : Exa Z h0 y0 sS) (E_y1 : Exa Z h0 y1 sS) (E_y2 : Exa Z h0 y2 sS) (E_kl : Exa Z h0 kl sL) (F_modCount_kl : Fld Z h0 kl sB "modCount" "I" (.int (1 : Int32))) (F_elementData_kl : Fld Z h0 kl sL "elementData" sE (.ref dk)) (F_size_kl : Fld Z h0 kl sL "size" "I" (.int (1 : Int32))) (V_dk : Arv Z h0 dk kk (.object sO) (10 : Int32) [(.ref w0), .null, .null, .null, .null, .null, .null, .null, .null, .null] .null) (E_w0 : Exa Z h0 w0 sA) (F_value_w0 : Fld Z h0 w0 sA "value" "I" (.int i0)) (F_unit_w0 : Fld Z h0 w0 sA "unit" "I" (.int (-1 : Int32))) (hi0 : i0 = 0 ∨ i0 = 1 ∨ i0 = 2) (ne_cl : cl ≠ a) (ne_dc : dc ≠ a) (ne_kl : kl ≠ a) (ne_dk : dk ≠ a) (ne_w0 : w0 ≠ a) :
    MetFree l yy27 (head1 (Jvm.Cond.code yy27 prog_15_method_1_code 6 none :: ws) rr15) (fun zz UU => zz = #[(.ref a), (.ref cl), (.ref kl)] ∧ Z.Warmed39 UU.vm ∧ UU.heap = h0 ∧ CHv Z consts_1 UU.vm h0 ∧ V_vin_1 Z a cl kl aD kD dc kc y0 y1 y2 dk kk w0 i0 h0 UU.vm) (fun _ _ _ _ _ => True) (fun _ U o U' => ∃ v L, o = .returned v ∧ Q_vin_1 Z a cl kl aD kD dc kc y0 y1 y2 dk kk w0 i0 h0 n0 v U'.heap L ∧ CHr Z consts_1 U.vm U.heap U'.vm U'.heap ∧ ReturnedEndW U o U' L rr15.cells rr15.slots) := by
  refine MetFree.of_bodySF (plainFor_of_name pn_16) hisR ?_
  intro p e s m args below meth c s₁ Bd hml0 hP hK
  obtain ⟨rfl, hZ, hh, hH, hV⟩ := hP
  have hx := Bd.exec
  have hby := Bd.bytes
  have hml : c.maxLocals = 6 := hml0
  have hown : s.vm.findClass sV = some m.cls := findClass_of_methodNamed Bd.named
  have hnm := (name_of_methodNamed Bd.named Bd.method).1
  have hlk : meth.locks = false := BodyLoose.notSynchronized Bd
  have X0 : Stand p l e rr15 (s.setVm s.vm) m #[(.ref a), (.ref cl), (.ref kl)] below meth c s₁ [] 0 0 := Stand.of_body Bd
  have e0 : s₁.heap = h0 := by rw [← hh, Bd.state]; rfl
  have N0 := Fr.nil n0
  show own_GoW p.tables e below Z consts_1 (Q_vin_1 Z a cl kl aD kD dc kc y0 y1 y2 dk kk w0 i0 h0 n0) s rr15.cells rr15.slots s₁ (entryFrame m #[(.ref a), (.ref cl), (.ref kl)] 6)
  rw [ef_vin_1 m a cl kl]
  have hS0 : s.Since s.vm s.heap.size := (State.WarmedH.refl s).since _
  have hk0 : s.heap.size ≤ h0.size := Nat.le_of_eq (congrArg Array.size hh)
  have C0 : CHr Z consts_1 s.vm s.heap s.vm h0 := by rw [hh]; exact CHr.refl hH
  have hEL : EW Z a0 consts_1 := own_EL hw
  have hwS : ∀ d ∈ Bundle.stringAtoms, d.before a0 Z = true := fun d hd => hw d (own_SA d hd)
  refine bW s₁ (mkF m 1 #[vr a, vr cl, vr kl, uu, uu, uu] [(.ref a)]) (fun _ k => XS.aloadN X0.here hx rfl (hb hby d16_0) rfl rfl k) ?_
  obtain ⟨T21, X21, e21, st21⟩ := initO X0 hx hZ hown (hw _ (mo 113 rfl)) (hw _ (mo 24 rfl)) (hw _ (mo 25 rfl)) e0 (g := (mkF m 1 #[vr a, vr cl, vr kl, uu, uu, uu] [(.ref a)])) rfl (by rw [hml]; rfl) rfl (hb hby d16_1) (by decide) (W := 0) (Nat.le_of_eq rfl) (by decide)
  refine bW T21 (mkF m 4 #[vr a, vr cl, vr kl, uu, uu, uu] []) (fun _ k => st21 _ k) ?_
  refine bW T21 (mkF m 5 #[vr a, vr cl, vr kl, uu, uu, uu] [(.ref a)]) (fun _ k => XS.aloadN X21.here hx rfl (hb hby d16_4) rfl rfl k) ?_
  obtain ⟨T22, h22, X22, e22, E22, A22, D22, -, st22⟩ := newO X21 hx hZ hown (hw _ (mo 114 rfl)) (hw _ (mo 31 rfl)) (hw _ (mo 32 rfl)) e21 (g := (mkF m 5 #[vr a, vr cl, vr kl, uu, uu, uu] [(.ref a)])) rfl (hb hby d16_5) (by decide) (by decide)
  obtain ⟨b22, g22⟩ : ∃ z, z = h0.size := ⟨_, rfl⟩
  rw [← g22] at A22 D22 st22
  have E_b22 : Exa Z h22 b22 sL := A22
  have F_modCount_b22 : Fld Z h22 b22 sB "modCount" "I" (ii 0) := D22 (Or.inl (hw _ (mo 50 rfl))) (ty := .int) (by decide)
  have F_elementData_b22 : Fld Z h22 b22 sL "elementData" sE .null := D22 (Or.inl (hw _ (mo 53 rfl))) (ty := (.array (.object sO))) (by decide)
  have F_size_b22 : Fld Z h22 b22 sL "size" "I" (ii 0) := D22 (Or.inl (hw _ (mo 62 rfl))) (ty := .int) (by decide)
  have g_b22 : n0 ≤ b22 := Nat.le_trans Z0 (Nat.le_of_eq g22.symm)
  have sz_b22 : h0.size ≤ b22 := Nat.le_trans (Keep.refl h0 [a]).1 (Nat.le_of_eq g22.symm)
  have K22 : Keep h0 h22 [a] := Keep.ext (Keep.refl h0 [a]) E22
  have C22 : CHr Z consts_1 s.vm s.heap s.vm h22 := CHr.trans C0 (CHr.ext E22 C0.1)
  refine bW T22 (mkF m 8 #[vr a, vr cl, vr kl, uu, uu, uu] [(.ref b22), (.ref a)]) (fun _ k => st22 _ k) ?_
  refine bW T22 (mkF m 9 #[vr a, vr cl, vr kl, uu, uu, uu] [(.ref b22), (.ref b22), (.ref a)]) (fun _ k => XS.dup X22.here hx rfl (hb hby d16_8) rfl rfl k) ?_
  obtain ⟨_, _, ⟨T23, L23, k23, n23⟩, -, X23, ⟨Lc23, hQ23, l23, y23, z23⟩, st23⟩ := X22.specialBack hx (y := yy8) rfl hown (mvT hZ (hw _ (mo 115 rfl))) (mvT hZ (hw _ (mo 34 rfl))) (mvT hZ (hw _ (mo 35 rfl))) (by decide) (backOf (W := 2) (ali l Z a0 hw [] b22 aD h22 n0 (Nat.le_trans Z0 E22.1) (Old.ext O0 E22) E_b22 F_modCount_b22 F_elementData_b22 F_size_b22 g_b22 S_DE) hZ (hw _ (mo 35 rfl)) (hw _ (mo 32 rfl)) (by decide) (by decide)) (g := (mkF m 9 #[vr a, vr cl, vr kl, uu, uu, uu] [(.ref b22), (.ref b22), (.ref a)])) rfl (by rw [hml]; rfl) (Steps.refl _) (a := b22) (argsL := []) (rest := [(.ref b22), (.ref a)]) (lenOf pd_3 rfl) rfl (Nat.le_of_eq rfl) (hb hby d16_9) (fun _ _ => ⟨rfl, e22, (by decide : 1 ≤ _), (by decide : 3 ≤ _)⟩)
  dsimp only [Pt.U, Pt.locs, Pt.cells, Pt.slots] at X23 l23 y23 z23 st23 hQ23
  subst l23 y23 z23
  obtain ⟨rfl, N23q, K23, Fm23, Fe23, Fz23⟩ := hQ23
  have N23 := Fr.app (Fr.nil n0) N23q
  have KK23 : Keep h0 T23.heap [a] := Keep.trans K22 K23 (allS (Or.inr sz_b22) all0)
  have C23 : CHr Z consts_1 s.vm s.heap s.vm T23.heap := CHr.trans C22 (CHr.keep K23 (sfS (Safe.exa (EL := consts_1) (vm := s.vm) hZ.alike E_b22 (by decide) (by decide)) sf0) C22.1)
  refine bW T23 (mkF m 12 #[vr a, vr cl, vr kl, uu, uu, uu] [(.ref b22), (.ref a)]) (fun _ k => st23.trans k) ?_
  have ne24 : a ≠ b22 := (Nat.ne_of_lt (Nat.lt_of_lt_of_le E_a.lt (Nat.le_of_eq g22.symm)))
  obtain ⟨T25, h25, X25, e25, W25, st25⟩ := putF X23 hx hZ hown (host := "") (Or.inl (hw _ (mo 116 rfl))) Via.refl rfl (Fld.keep (Fld.ext E22 F_values_a) K23 (ninS ne24 nin0)) (Exa.keep (Exa.ext E22 E_a) K23) (Or.inr ⟨(hw _ (mo 117 rfl)), rfl, hnm⟩) (hw _ (mo 108 rfl)) (ty := (.object "java/util/List")) (by decide) rfl rfl (g := (mkF m 12 #[vr a, vr cl, vr kl, uu, uu, uu] [(.ref b22), (.ref a)])) rfl rfl (hb hby d16_12)
  have Fw25 : Fld Z h25 a sV "values" "Ljava/util/List;" (.ref b22) := Fld.same W25 (Fld.keep (Fld.ext E22 F_values_a) K23 (ninS ne24 nin0))
  have K25 : Keep h0 h25 [a] := Keep.wr KK23 W25 (Or.inl (mo 0 rfl))
  have C25 : CHr Z consts_1 s.vm s.heap s.vm h25 := CHr.trans C23 (CHr.wr W25 (Safe.exa (EL := consts_1) (vm := s.vm) hZ.alike (Exa.keep (Exa.ext E22 E_a) K23) (by decide) (by decide)) C23.1)
  have N25 := Fr.snoc X25 N23 g_a
  refine bW T25 (mkF m 15 #[vr a, vr cl, vr kl, uu, uu, uu] []) (fun _ k => st25 _ k) ?_
  refine bW T25 (mkF m 16 #[vr a, vr cl, vr kl, uu, uu, uu] [(.ref a)]) (fun _ k => XS.aloadN X25.here hx rfl (hb hby d16_15) rfl rfl k) ?_
  obtain ⟨T26, h26, X26, e26, E26, A26, D26, -, st26⟩ := newO X25 hx hZ hown (hw _ (mo 114 rfl)) (hw _ (mo 31 rfl)) (hw _ (mo 32 rfl)) e25 (g := (mkF m 16 #[vr a, vr cl, vr kl, uu, uu, uu] [(.ref a)])) rfl (hb hby d16_16) (by decide) (by decide)
  obtain ⟨b26, g26⟩ : ∃ z, z = h25.size := ⟨_, rfl⟩
  rw [← g26] at A26 D26 st26
  have E_b26 : Exa Z h26 b26 sL := A26
  have F_modCount_b26 : Fld Z h26 b26 sB "modCount" "I" (ii 0) := D26 (Or.inl (hw _ (mo 50 rfl))) (ty := .int) (by decide)
  have F_elementData_b26 : Fld Z h26 b26 sL "elementData" sE .null := D26 (Or.inl (hw _ (mo 53 rfl))) (ty := (.array (.object sO))) (by decide)
  have F_size_b26 : Fld Z h26 b26 sL "size" "I" (ii 0) := D26 (Or.inl (hw _ (mo 62 rfl))) (ty := .int) (by decide)
  have g_b26 : n0 ≤ b26 := Nat.le_trans (Nat.le_trans (Nat.le_trans (Nat.le_trans Z0 E22.1) K23.1) (Keep.of_wr W25).1) (Nat.le_of_eq g26.symm)
  have sz_b26 : h0.size ≤ b26 := Nat.le_trans K25.1 (Nat.le_of_eq g26.symm)
  have K26 : Keep h0 h26 [a] := Keep.ext K25 E26
  have C26 : CHr Z consts_1 s.vm s.heap s.vm h26 := CHr.trans C25 (CHr.ext E26 C25.1)
  refine bW T26 (mkF m 19 #[vr a, vr cl, vr kl, uu, uu, uu] [(.ref b26), (.ref a)]) (fun _ k => st26 _ k) ?_
  refine bW T26 (mkF m 20 #[vr a, vr cl, vr kl, uu, uu, uu] [(.ref b26), (.ref b26), (.ref a)]) (fun _ k => XS.dup X26.here hx rfl (hb hby d16_19) rfl rfl k) ?_
  obtain ⟨_, _, ⟨T27, L27, k27, n27⟩, -, X27, ⟨Lc27, hQ27, l27, y27, z27⟩, st27⟩ := X26.specialBack hx (y := yy8) rfl hown (mvT hZ (hw _ (mo 115 rfl))) (mvT hZ (hw _ (mo 34 rfl))) (mvT hZ (hw _ (mo 35 rfl))) (by decide) (backOf (W := 2) (ali l Z a0 hw [] b26 aD h26 n0 (Nat.le_trans (Nat.le_trans (Nat.le_trans (Nat.le_trans Z0 E22.1) K23.1) (Keep.of_wr W25).1) E26.1) (Old.ext (Old.wr (Old.keep (Old.ext O0 E22) K23 (allS g_b22 all0)) W25 g_a) E26) E_b26 F_modCount_b26 F_elementData_b26 F_size_b26 g_b26 S_DE) hZ (hw _ (mo 35 rfl)) (hw _ (mo 32 rfl)) (by decide) (by decide)) (g := (mkF m 20 #[vr a, vr cl, vr kl, uu, uu, uu] [(.ref b26), (.ref b26), (.ref a)])) rfl (by rw [hml]; rfl) (Steps.refl _) (a := b26) (argsL := []) (rest := [(.ref b26), (.ref a)]) (lenOf pd_3 rfl) rfl (Nat.le_of_eq rfl) (hb hby d16_20) (fun _ _ => ⟨rfl, e26, (by decide : 2 ≤ _), (by decide : 6 ≤ _)⟩)
  dsimp only [Pt.U, Pt.locs, Pt.cells, Pt.slots] at X27 l27 y27 z27 st27 hQ27
  subst l27 y27 z27
  obtain ⟨rfl, N27q, K27, Fm27, Fe27, Fz27⟩ := hQ27
  have N27 := Fr.app N25 N27q
  have KK27 : Keep h0 T27.heap [a] := Keep.trans K26 K27 (allS (Or.inr sz_b26) all0)
  have C27 : CHr Z consts_1 s.vm s.heap s.vm T27.heap := CHr.trans C26 (CHr.keep K27 (sfS (Safe.exa (EL := consts_1) (vm := s.vm) hZ.alike E_b26 (by decide) (by decide)) sf0) C26.1)
  refine bW T27 (mkF m 23 #[vr a, vr cl, vr kl, uu, uu, uu] [(.ref b26), (.ref a)]) (fun _ k => st27.trans k) ?_
  have ne28 : a ≠ b26 := (Nat.ne_of_lt (Nat.lt_of_lt_of_le (Exa.wr W25 (Exa.keep (Exa.ext E22 E_a) K23)).lt (Nat.le_of_eq g26.symm)))
  obtain ⟨T29, h29, X29, e29, W29, st29⟩ := putF X27 hx hZ hown (host := "") (Or.inl (hw _ (mo 118 rfl))) Via.refl rfl (Fld.keep (Fld.ext E26 (Fld.other W25 (Fld.keep (Fld.ext E22 F_units_a) K23 (ninS ne24 nin0)) (Or.inr (slot_ne (a0 := a0) (Or.inr (hw _ (mo 119 rfl))) (Or.inr (hw _ (mo 117 rfl))) (by decide) (t := (.object "java/util/List")) (t' := (.object "java/util/List")) (by decide) (by decide))))) K27 (ninS ne28 nin0)) (Exa.keep (Exa.ext E26 (Exa.wr W25 (Exa.keep (Exa.ext E22 E_a) K23))) K27) (Or.inr ⟨(hw _ (mo 119 rfl)), rfl, hnm⟩) (hw _ (mo 108 rfl)) (ty := (.object "java/util/List")) (by decide) rfl rfl (g := (mkF m 23 #[vr a, vr cl, vr kl, uu, uu, uu] [(.ref b26), (.ref a)])) rfl rfl (hb hby d16_23)
  have Fw29 : Fld Z h29 a sV "units" "Ljava/util/List;" (.ref b26) := Fld.same W29 (Fld.keep (Fld.ext E26 (Fld.other W25 (Fld.keep (Fld.ext E22 F_units_a) K23 (ninS ne24 nin0)) (Or.inr (slot_ne (a0 := a0) (Or.inr (hw _ (mo 119 rfl))) (Or.inr (hw _ (mo 117 rfl))) (by decide) (t := (.object "java/util/List")) (t' := (.object "java/util/List")) (by decide) (by decide))))) K27 (ninS ne28 nin0))
  have K29 : Keep h0 h29 [a] := Keep.wr KK27 W29 (Or.inl (mo 0 rfl))
  have C29 : CHr Z consts_1 s.vm s.heap s.vm h29 := CHr.trans C27 (CHr.wr W29 (Safe.exa (EL := consts_1) (vm := s.vm) hZ.alike (Exa.keep (Exa.ext E26 (Exa.wr W25 (Exa.keep (Exa.ext E22 E_a) K23))) K27) (by decide) (by decide)) C27.1)
  have N29 := Fr.snoc X29 N27 g_a
  refine bW T29 (mkF m 26 #[vr a, vr cl, vr kl, uu, uu, uu] []) (fun _ k => st29 _ k) ?_
  refine bW T29 (mkF m 27 #[vr a, vr cl, vr kl, uu, uu, uu] [(.ref a)]) (fun _ k => XS.aloadN X29.here hx rfl (hb hby d16_26) rfl rfl k) ?_
  refine bW T29 (mkF m 28 #[vr a, vr cl, vr kl, uu, uu, uu] [(.ref kl), (.ref a)]) (fun _ k => XS.aloadN X29.here hx rfl (hb hby d16_27) rfl rfl k) ?_
  obtain ⟨T30, h30, X30, e30, W30, st30⟩ := putF X29 hx hZ hown (host := "") (Or.inl (hw _ (mo 120 rfl))) Via.refl e29 (Fld.other W29 (Fld.keep (Fld.ext E26 (Fld.other W25 (Fld.keep (Fld.ext E22 F_columns_a) K23 (ninS ne24 nin0)) (Or.inr (slot_ne (a0 := a0) (Or.inr (hw _ (mo 121 rfl))) (Or.inr (hw _ (mo 117 rfl))) (by decide) (t := (.object "java/util/List")) (t' := (.object "java/util/List")) (by decide) (by decide))))) K27 (ninS ne28 nin0)) (Or.inr (slot_ne (a0 := a0) (Or.inr (hw _ (mo 121 rfl))) (Or.inr (hw _ (mo 119 rfl))) (by decide) (t := (.object "java/util/List")) (t' := (.object "java/util/List")) (by decide) (by decide)))) (Exa.wr W29 (Exa.keep (Exa.ext E26 (Exa.wr W25 (Exa.keep (Exa.ext E22 E_a) K23))) K27)) (Or.inr ⟨(hw _ (mo 121 rfl)), rfl, hnm⟩) (hw _ (mo 108 rfl)) (ty := (.object "java/util/List")) (by decide) rfl rfl (g := (mkF m 28 #[vr a, vr cl, vr kl, uu, uu, uu] [(.ref kl), (.ref a)])) rfl rfl (hb hby d16_28)
  have Fw30 : Fld Z h30 a sV "columns" "Ljava/util/List;" (.ref kl) := Fld.same W30 (Fld.other W29 (Fld.keep (Fld.ext E26 (Fld.other W25 (Fld.keep (Fld.ext E22 F_columns_a) K23 (ninS ne24 nin0)) (Or.inr (slot_ne (a0 := a0) (Or.inr (hw _ (mo 121 rfl))) (Or.inr (hw _ (mo 117 rfl))) (by decide) (t := (.object "java/util/List")) (t' := (.object "java/util/List")) (by decide) (by decide))))) K27 (ninS ne28 nin0)) (Or.inr (slot_ne (a0 := a0) (Or.inr (hw _ (mo 121 rfl))) (Or.inr (hw _ (mo 119 rfl))) (by decide) (t := (.object "java/util/List")) (t' := (.object "java/util/List")) (by decide) (by decide))))
  have K30 : Keep h0 h30 [a] := Keep.wr K29 W30 (Or.inl (mo 0 rfl))
  have C30 : CHr Z consts_1 s.vm s.heap s.vm h30 := CHr.trans C29 (CHr.wr W30 (Safe.exa (EL := consts_1) (vm := s.vm) hZ.alike (Exa.wr W29 (Exa.keep (Exa.ext E26 (Exa.wr W25 (Exa.keep (Exa.ext E22 E_a) K23))) K27)) (by decide) (by decide)) C29.1)
  have N30 := Fr.snoc X30 N29 g_a
  refine bW T30 (mkF m 31 #[vr a, vr cl, vr kl, uu, uu, uu] []) (fun _ k => st30 _ k) ?_
  refine bW T30 (mkF m 32 #[vr a, vr cl, vr kl, uu, uu, uu] [(.ref kl)]) (fun _ k => XS.aloadN X30.here hx rfl (hb hby d16_31) rfl rfl k) ?_
  have ne31 : kl ≠ b22 := (Nat.ne_of_lt (Nat.lt_of_lt_of_le E_kl.lt (Nat.le_of_eq g22.symm)))
  have ne32 : kl ≠ b26 := (Nat.ne_of_lt (Nat.lt_of_lt_of_le (Exa.wr W25 (Exa.keep (Exa.ext E22 E_kl) K23)).lt (Nat.le_of_eq g26.symm)))
  obtain ⟨cq33, kq33, q33a, q33b, q33c⟩ := isOf hZ e30 (Exa.wr W30 (Exa.wr W29 (Exa.keep (Exa.ext E26 (Exa.wr W25 (Exa.keep (Exa.ext E22 E_kl) K23))) K27)))
  obtain ⟨_, _, ⟨T33, L33, k33, n33⟩, -, X33, ⟨Lc33, hQ33, l33, y33, z33⟩, st33⟩ := X30.interfaceBack hx (xi := yy28) (y := yy19) hown (mvT hZ (hw _ (mo 122 rfl))) (mvT hZ (hw _ (mo 123 rfl))) (mvT hZ (hw _ (mo 124 rfl))) (mvT hZ (hw _ (mo 125 rfl))) (mvT hZ (hw _ (mo 126 rfl))) (mvT hZ (hw _ (mo 127 rfl))) (mvT hZ (hw _ (mo 128 rfl))) (mvT hZ (hw _ (mo 129 rfl))) (by decide) (backOf (W := 0) (ite l Z a0 hw [] kl (1 : Int32) h30 n0 (Nat.le_trans (Nat.le_trans (Nat.le_trans (Nat.le_trans (Nat.le_trans (Nat.le_trans (Nat.le_trans Z0 E22.1) K23.1) (Keep.of_wr W25).1) E26.1) K27.1) (Keep.of_wr W29).1) (Keep.of_wr W30).1) (Fld.other W30 (Fld.other W29 (Fld.keep (Fld.ext E26 (Fld.other W25 (Fld.keep (Fld.ext E22 F_modCount_kl) K23 (ninS ne31 nin0)) (Or.inl ne_kl))) K27 (ninS ne32 nin0)) (Or.inl ne_kl)) (Or.inl ne_kl))) hZ (hw _ (mo 130 rfl)) (hw _ (mo 32 rfl)) (by decide) (by decide)) q33a q33b q33c (g := (mkF m 32 #[vr a, vr cl, vr kl, uu, uu, uu] [(.ref kl)])) rfl (by rw [hml]; rfl) (Steps.refl _) (argsL := []) (rest := []) (lenOf pd_11 rfl) rfl (Nat.le_of_eq rfl) (hb hby d16_32) (fun _ _ => ⟨rfl, e30, (by decide : 3 ≤ _), (by decide : 10 ≤ _)⟩)
  dsimp only [Pt.U, Pt.locs, Pt.cells, Pt.slots] at X33 l33 y33 z33 st33 hQ33
  subst l33 y33 z33
  obtain ⟨it33, rfl, N33q, K33, zi33, E33, F0_33, F1_33, F2_33, F3_33⟩ := hQ33
  have N33 := Fr.app N30 N33q
  have KK33 : Keep h0 T33.heap [a] := Keep.trans K30 K33 all0
  have C33 : CHr Z consts_1 s.vm s.heap s.vm T33.heap := CHr.trans C30 (CHr.keep K33 sf0 C30.1)
  have sz_it33 : h0.size ≤ it33 := Nat.le_trans K30.1 zi33
  have g_it33 : n0 ≤ it33 := Nat.le_trans Z0 sz_it33
  refine bW T33 (mkF m 37 #[vr a, vr cl, vr kl, uu, uu, uu] [(.ref it33)]) (fun _ k => st33.trans k) ?_
  refine bW T33 (mkF m 38 #[vr a, vr cl, vr kl, vr it33, uu, uu] []) (fun _ k => XS.astoreN X33.here hx rfl (hb hby d16_37) rfl rfl rfl k) ?_
  refine bW T33 (mkF m 39 #[vr a, vr cl, vr kl, vr it33, uu, uu] [(.ref it33)]) (fun _ k => XS.aloadN X33.here hx rfl (hb hby d16_38) rfl rfl k) ?_
  obtain ⟨cq34, kq34, q34a, q34b, q34c⟩ := isOf hZ rfl E33
  obtain ⟨_, _, ⟨T34, L34, k34, n34⟩, -, X34, ⟨Lc34, hQ34, l34, y34, z34⟩, st34⟩ := X33.interfaceBack hx (xi := yy29) (y := yy20) hown (mvT hZ (hw _ (mo 146 rfl))) (mvT hZ (hw _ (mo 147 rfl))) (mvT hZ (hw _ (mo 148 rfl))) (mvT hZ (hw _ (mo 149 rfl))) (mvT hZ (hw _ (mo 150 rfl))) (mvT hZ (hw _ (mo 151 rfl))) (mvT hZ (hw _ (mo 152 rfl))) (mvT hZ (hw _ (mo 153 rfl))) (by decide) (backOf (W := 0) (ihn l Z a0 hw [] it33 kl (0 : Int32) (1 : Int32) T33.heap n0 (Nat.le_trans (Nat.le_trans (Nat.le_trans (Nat.le_trans (Nat.le_trans (Nat.le_trans (Nat.le_trans (Nat.le_trans Z0 E22.1) K23.1) (Keep.of_wr W25).1) E26.1) K27.1) (Keep.of_wr W29).1) (Keep.of_wr W30).1) K33.1) F3_33 F0_33 (Fld.keep (Fld.other W30 (Fld.other W29 (Fld.keep (Fld.ext E26 (Fld.other W25 (Fld.keep (Fld.ext E22 F_size_kl) K23 (ninS ne31 nin0)) (Or.inl ne_kl))) K27 (ninS ne32 nin0)) (Or.inl ne_kl)) (Or.inl ne_kl)) K33 nin0)) hZ (hw _ (mo 154 rfl)) (hw _ (mo 133 rfl)) (by decide) (by decide)) q34a q34b q34c (g := (mkF m 39 #[vr a, vr cl, vr kl, vr it33, uu, uu] [(.ref it33)])) rfl (by rw [hml]; rfl) (Steps.refl _) (argsL := []) (rest := []) (lenOf pd_12 rfl) rfl (Nat.le_of_eq rfl) (hb hby d16_39) (fun _ _ => ⟨rfl, rfl, (by decide : 3 ≤ _), (by decide : 10 ≤ _)⟩)
  dsimp only [Pt.U, Pt.locs, Pt.cells, Pt.slots] at X34 l34 y34 z34 st34 hQ34
  subst l34 y34 z34
  obtain ⟨vq34, N34q, e34⟩ := hQ34
  obtain rfl := vq34.trans (congrArg (fun z => some (Value.int z)) (if_neg (by decide)))
  have N34 := Fr.app N33 N34q
  refine bW T34 (mkF m 44 #[vr a, vr cl, vr kl, vr it33, uu, uu] [(.int (1 : Int32))]) (fun _ k => st34.trans k) ?_
  refine bW T34 (mkF m 47 #[vr a, vr cl, vr kl, vr it33, uu, uu] []) (fun _ k => XS.ifNo X34.here hx rfl (hb hby d16_44) rfl ((if0 _ _).trans (feq (by decide)).1) k) ?_
  refine bW T34 (mkF m 48 #[vr a, vr cl, vr kl, vr it33, uu, uu] [(.ref it33)]) (fun _ k => XS.aloadN X34.here hx rfl (hb hby d16_47) rfl rfl k) ?_
  have ne35 : dk ≠ b22 := (Nat.ne_of_lt (Nat.lt_of_lt_of_le V_dk.lt (Nat.le_of_eq g22.symm)))
  have ne36 : dk ≠ b26 := (Nat.ne_of_lt (Nat.lt_of_lt_of_le (Arv.other (Arv.keep (Arv.ext V_dk E22) K23 (ninS ne35 nin0)) W25 ne_dk).lt (Nat.le_of_eq g26.symm)))
  have ne37 : kl ≠ it33 := (Nat.ne_of_lt (Nat.lt_of_lt_of_le ((Exa.wr W30 (Exa.wr W29 (Exa.keep (Exa.ext E26 (Exa.wr W25 (Exa.keep (Exa.ext E22 E_kl) K23))) K27)))).lt zi33))
  have ne38 : dk ≠ it33 := (Nat.ne_of_lt (Nat.lt_of_lt_of_le ((Arv.other (Arv.other (Arv.keep (Arv.ext (Arv.other (Arv.keep (Arv.ext V_dk E22) K23 (ninS ne35 nin0)) W25 ne_dk) E26) K27 (ninS ne36 nin0)) W29 ne_dk) W30 ne_dk)).lt zi33))
  obtain ⟨cq39, kq39, q39a, q39b, q39c⟩ := isOf hZ e34 E33
  obtain ⟨_, _, ⟨T39, L39, k39, n39⟩, -, X39, ⟨Lc39, hQ39, l39, y39, z39⟩, st39⟩ := X34.interfaceBack hx (xi := yy32) (y := yy22) hown (mvT hZ (hw _ (mo 172 rfl))) (mvT hZ (hw _ (mo 173 rfl))) (mvT hZ (hw _ (mo 174 rfl))) (mvT hZ (hw _ (mo 175 rfl))) (mvT hZ (hw _ (mo 176 rfl))) (mvT hZ (hw _ (mo 177 rfl))) (mvT hZ (hw _ (mo 178 rfl))) (mvT hZ (hw _ (mo 153 rfl))) (by decide) (backOf (W := 0) (inx_0 l Z a0 hw [] it33 kl (1 : Int32) (-1 : Int32) (1 : Int32) dk kk [(.ref w0), .null, .null, .null, .null, .null, .null, .null, .null, .null] w0 T33.heap n0 (Nat.le_trans (Nat.le_trans (Nat.le_trans (Nat.le_trans (Nat.le_trans (Nat.le_trans (Nat.le_trans (Nat.le_trans Z0 E22.1) K23.1) (Keep.of_wr W25).1) E26.1) K27.1) (Keep.of_wr W29).1) (Keep.of_wr W30).1) K33.1) E33 F0_33 F1_33 F2_33 F3_33 g_it33 (Fld.keep (Fld.other W30 (Fld.other W29 (Fld.keep (Fld.ext E26 (Fld.other W25 (Fld.keep (Fld.ext E22 F_modCount_kl) K23 (ninS ne31 nin0)) (Or.inl ne_kl))) K27 (ninS ne32 nin0)) (Or.inl ne_kl)) (Or.inl ne_kl)) K33 nin0) (Fld.keep (Fld.other W30 (Fld.other W29 (Fld.keep (Fld.ext E26 (Fld.other W25 (Fld.keep (Fld.ext E22 F_size_kl) K23 (ninS ne31 nin0)) (Or.inl ne_kl))) K27 (ninS ne32 nin0)) (Or.inl ne_kl)) (Or.inl ne_kl)) K33 nin0) (Fld.keep (Fld.other W30 (Fld.other W29 (Fld.keep (Fld.ext E26 (Fld.other W25 (Fld.keep (Fld.ext E22 F_elementData_kl) K23 (ninS ne31 nin0)) (Or.inl ne_kl))) K27 (ninS ne32 nin0)) (Or.inl ne_kl)) (Or.inl ne_kl)) K33 nin0) (Arv.keep (Arv.other (Arv.other (Arv.keep (Arv.ext (Arv.other (Arv.keep (Arv.ext V_dk E22) K23 (ninS ne35 nin0)) W25 ne_dk) E26) K27 (ninS ne36 nin0)) W29 ne_dk) W30 ne_dk) K33 nin0) rfl (by decide) ne37 ne38) hZ (hw _ (mo 179 rfl)) (hw _ (mo 133 rfl)) (by decide) (by decide)) q39a q39b q39c (g := (mkF m 48 #[vr a, vr cl, vr kl, vr it33, uu, uu] [(.ref it33)])) rfl (by rw [hml]; rfl) (Steps.refl _) (argsL := []) (rest := []) (lenOf pd_13 rfl) rfl (Nat.le_of_eq rfl) (hb hby d16_48) (fun _ _ => ⟨rfl, e34, (by decide : 3 ≤ _), (by decide : 10 ≤ _)⟩)
  dsimp only [Pt.U, Pt.locs, Pt.cells, Pt.slots] at X39 l39 y39 z39 st39 hQ39
  subst l39 y39 z39
  obtain ⟨rfl, N39q, K39, F0_39, F1_39, F2_39, F3_39⟩ := hQ39
  have N39 := Fr.app N34 N39q
  have KK39 : Keep h0 T39.heap [a] := Keep.trans KK33 K39 (allS (Or.inr sz_it33) all0)
  have C39 : CHr Z consts_1 s.vm s.heap s.vm T39.heap := CHr.trans C33 (CHr.keep K39 (sfS (Safe.exa (EL := consts_1) (vm := s.vm) hZ.alike E33 (by decide) (by decide)) sf0) C33.1)
  refine bW T39 (mkF m 53 #[vr a, vr cl, vr kl, vr it33, uu, uu] [(.ref w0)]) (fun _ k => st39.trans k) ?_
  obtain ⟨T40, X40, e40, st40⟩ := castY X39 hx hZ hown (hw _ (mo 186 rfl)) rfl (Ins.self (Exa.keep (Exa.keep (Exa.wr W30 (Exa.wr W29 (Exa.keep (Exa.ext E26 (Exa.wr W25 (Exa.keep (Exa.ext E22 E_w0) K23))) K27))) K33) K39)) (g := (mkF m 53 #[vr a, vr cl, vr kl, vr it33, uu, uu] [(.ref w0)])) rfl rfl (hb hby d16_53)
  refine bW T40 (mkF m 56 #[vr a, vr cl, vr kl, vr it33, uu, uu] [(.ref w0)]) (fun _ k => st40 _ k) ?_
  refine bW T40 (mkF m 58 #[vr a, vr cl, vr kl, vr it33, vr w0, uu] []) (fun _ k => XS.astore X40.here hx rfl (hb hby d16_56) rfl rfl rfl k) ?_
  have ne52 : a ≠ it33 := (Nat.ne_of_lt (Nat.lt_of_lt_of_le ((Exa.wr W30 (Exa.wr W29 (Exa.keep (Exa.ext E26 (Exa.wr W25 (Exa.keep (Exa.ext E22 E_a) K23))) K27)))).lt zi33))
  have ne53 : cl ≠ b22 := (Nat.ne_of_lt (Nat.lt_of_lt_of_le E_cl.lt (Nat.le_of_eq g22.symm)))
  have ne54 : cl ≠ b26 := (Nat.ne_of_lt (Nat.lt_of_lt_of_le (Exa.wr W25 (Exa.keep (Exa.ext E22 E_cl) K23)).lt (Nat.le_of_eq g26.symm)))
  have ne55 : cl ≠ it33 := (Nat.ne_of_lt (Nat.lt_of_lt_of_le ((Exa.wr W30 (Exa.wr W29 (Exa.keep (Exa.ext E26 (Exa.wr W25 (Exa.keep (Exa.ext E22 E_cl) K23))) K27)))).lt zi33))
  have ne56 : dc ≠ b22 := (Nat.ne_of_lt (Nat.lt_of_lt_of_le V_dc.lt (Nat.le_of_eq g22.symm)))
  have ne57 : dc ≠ b26 := (Nat.ne_of_lt (Nat.lt_of_lt_of_le (Arv.other (Arv.keep (Arv.ext V_dc E22) K23 (ninS ne56 nin0)) W25 ne_dc).lt (Nat.le_of_eq g26.symm)))
  have ne58 : dc ≠ it33 := (Nat.ne_of_lt (Nat.lt_of_lt_of_le ((Arv.other (Arv.other (Arv.keep (Arv.ext (Arv.other (Arv.keep (Arv.ext V_dc E22) K23 (ninS ne56 nin0)) W25 ne_dc) E26) K27 (ninS ne57 nin0)) W29 ne_dc) W30 ne_dc)).lt zi33))
  have ne59 : w0 ≠ b22 := (Nat.ne_of_lt (Nat.lt_of_lt_of_le E_w0.lt (Nat.le_of_eq g22.symm)))
  have ne60 : w0 ≠ b26 := (Nat.ne_of_lt (Nat.lt_of_lt_of_le (Exa.wr W25 (Exa.keep (Exa.ext E22 E_w0) K23)).lt (Nat.le_of_eq g26.symm)))
  have ne61 : w0 ≠ it33 := (Nat.ne_of_lt (Nat.lt_of_lt_of_le ((Exa.wr W30 (Exa.wr W29 (Exa.keep (Exa.ext E26 (Exa.wr W25 (Exa.keep (Exa.ext E22 E_w0) K23))) K27)))).lt zi33))
  have ne62 : b22 ≠ b26 := (Nat.ne_of_lt (Nat.lt_of_lt_of_le (Exa.wr W25 (Exa.keep E_b22 K23)).lt (Nat.le_of_eq g26.symm)))
  have ne63 : b22 ≠ it33 := (Nat.ne_of_lt (Nat.lt_of_lt_of_le ((Exa.wr W30 (Exa.wr W29 (Exa.keep (Exa.ext E26 (Exa.wr W25 (Exa.keep E_b22 K23))) K27)))).lt zi33))
  have ne64 : b26 ≠ it33 := (Nat.ne_of_lt (Nat.lt_of_lt_of_le ((Exa.wr W30 (Exa.wr W29 (Exa.keep E_b26 K27)))).lt zi33))
  exact vin_1_c1 (h1 := T39.heap) (T1 := T40) (vm1 := s.vm) hw X40 e40 KK39 N39 Z0 (Old.keep (Old.keep (Old.wr (Old.wr (Old.keep (Old.ext (Old.wr (Old.keep (Old.ext O0 E22) K23 (allS g_b22 all0)) W25 g_a) E26) K27 (allS g_b26 all0)) W29 g_a) W30 g_a) K33 all0) K39 (allS g_it33 all0)) S_DE V_aD hi0 hZ hown hS0 (Nat.le_trans (Nat.le_trans (Nat.le_trans (Nat.le_trans (Nat.le_trans (Nat.le_trans (Nat.le_trans (Nat.le_trans (Nat.le_trans hk0 E22.1) K23.1) (Keep.of_wr W25).1) E26.1) K27.1) (Keep.of_wr W29).1) (Keep.of_wr W30).1) K33.1) K39.1) C39 hx hby hml hlk Bd.returns (Fld.keep (Fld.keep (Fld.other W30 (Fld.other W29 (Fld.keep (Fld.ext E26 Fw25) K27 (ninS ne28 nin0)) (Or.inr (slot_ne (a0 := a0) (Or.inr (hw _ (mo 117 rfl))) (Or.inr (hw _ (mo 119 rfl))) (by decide) (t := (.object "java/util/List")) (t' := (.object "java/util/List")) (by decide) (by decide)))) (Or.inr (slot_ne (a0 := a0) (Or.inr (hw _ (mo 117 rfl))) (Or.inr (hw _ (mo 121 rfl))) (by decide) (t := (.object "java/util/List")) (t' := (.object "java/util/List")) (by decide) (by decide)))) K33 nin0) K39 (ninS ne52 nin0)) (Fld.keep (Fld.keep (Fld.other W30 Fw29 (Or.inr (slot_ne (a0 := a0) (Or.inr (hw _ (mo 119 rfl))) (Or.inr (hw _ (mo 121 rfl))) (by decide) (t := (.object "java/util/List")) (t' := (.object "java/util/List")) (by decide) (by decide)))) K33 nin0) K39 (ninS ne52 nin0)) (Exa.keep (Exa.keep (Exa.wr W30 (Exa.wr W29 (Exa.keep (Exa.ext E26 (Exa.wr W25 (Exa.keep (Exa.ext E22 E_cl) K23))) K27))) K33) K39) (Fld.keep (Fld.keep (Fld.other W30 (Fld.other W29 (Fld.keep (Fld.ext E26 (Fld.other W25 (Fld.keep (Fld.ext E22 F_size_cl) K23 (ninS ne53 nin0)) (Or.inl ne_cl))) K27 (ninS ne54 nin0)) (Or.inl ne_cl)) (Or.inl ne_cl)) K33 nin0) K39 (ninS ne55 nin0)) (Fld.keep (Fld.keep (Fld.other W30 (Fld.other W29 (Fld.keep (Fld.ext E26 (Fld.other W25 (Fld.keep (Fld.ext E22 F_elementData_cl) K23 (ninS ne53 nin0)) (Or.inl ne_cl))) K27 (ninS ne54 nin0)) (Or.inl ne_cl)) (Or.inl ne_cl)) K33 nin0) K39 (ninS ne55 nin0)) (Arv.keep (Arv.keep (Arv.other (Arv.other (Arv.keep (Arv.ext (Arv.other (Arv.keep (Arv.ext V_dc E22) K23 (ninS ne56 nin0)) W25 ne_dc) E26) K27 (ninS ne57 nin0)) W29 ne_dc) W30 ne_dc) K33 nin0) K39 (ninS ne58 nin0)) (Exa.keep (Exa.keep (Exa.wr W30 (Exa.wr W29 (Exa.keep (Exa.ext E26 (Exa.wr W25 (Exa.keep (Exa.ext E22 E_y0) K23))) K27))) K33) K39) (Exa.keep (Exa.keep (Exa.wr W30 (Exa.wr W29 (Exa.keep (Exa.ext E26 (Exa.wr W25 (Exa.keep (Exa.ext E22 E_y1) K23))) K27))) K33) K39) (Exa.keep (Exa.keep (Exa.wr W30 (Exa.wr W29 (Exa.keep (Exa.ext E26 (Exa.wr W25 (Exa.keep (Exa.ext E22 E_y2) K23))) K27))) K33) K39) (Fld.keep (Fld.keep (Fld.other W30 (Fld.other W29 (Fld.keep (Fld.ext E26 (Fld.other W25 (Fld.keep (Fld.ext E22 F_size_kl) K23 (ninS ne31 nin0)) (Or.inl ne_kl))) K27 (ninS ne32 nin0)) (Or.inl ne_kl)) (Or.inl ne_kl)) K33 nin0) K39 (ninS ne37 nin0)) (Exa.keep (Exa.keep (Exa.wr W30 (Exa.wr W29 (Exa.keep (Exa.ext E26 (Exa.wr W25 (Exa.keep (Exa.ext E22 E_w0) K23))) K27))) K33) K39) (Fld.keep (Fld.keep (Fld.other W30 (Fld.other W29 (Fld.keep (Fld.ext E26 (Fld.other W25 (Fld.keep (Fld.ext E22 F_value_w0) K23 (ninS ne59 nin0)) (Or.inl ne_w0))) K27 (ninS ne60 nin0)) (Or.inl ne_w0)) (Or.inl ne_w0)) K33 nin0) K39 (ninS ne61 nin0)) (Fld.keep (Fld.keep (Fld.other W30 (Fld.other W29 (Fld.keep (Fld.ext E26 (Fld.other W25 (Fld.keep (Fld.ext E22 F_unit_w0) K23 (ninS ne59 nin0)) (Or.inl ne_w0))) K27 (ninS ne60 nin0)) (Or.inl ne_w0)) (Or.inl ne_w0)) K33 nin0) K39 (ninS ne61 nin0)) (Exa.keep (Exa.keep (Exa.wr W30 (Exa.wr W29 (Exa.keep (Exa.ext E26 (Exa.wr W25 (Exa.keep E_b22 K23))) K27))) K33) K39) (Fld.keep (Fld.keep (Fld.other W30 (Fld.other W29 (Fld.keep (Fld.ext E26 (Fld.other W25 Fm23 (Or.inl (Ne.symm ne24)))) K27 (ninS ne62 nin0)) (Or.inl (Ne.symm ne24))) (Or.inl (Ne.symm ne24))) K33 nin0) K39 (ninS ne63 nin0)) (Fld.keep (Fld.keep (Fld.other W30 (Fld.other W29 (Fld.keep (Fld.ext E26 (Fld.other W25 Fe23 (Or.inl (Ne.symm ne24)))) K27 (ninS ne62 nin0)) (Or.inl (Ne.symm ne24))) (Or.inl (Ne.symm ne24))) K33 nin0) K39 (ninS ne63 nin0)) (Fld.keep (Fld.keep (Fld.other W30 (Fld.other W29 (Fld.keep (Fld.ext E26 (Fld.other W25 Fz23 (Or.inl (Ne.symm ne24)))) K27 (ninS ne62 nin0)) (Or.inl (Ne.symm ne24))) (Or.inl (Ne.symm ne24))) K33 nin0) K39 (ninS ne63 nin0)) (Exa.keep (Exa.keep (Exa.wr W30 (Exa.wr W29 (Exa.keep E_b26 K27))) K33) K39) (Fld.keep (Fld.keep (Fld.other W30 (Fld.other W29 Fm27 (Or.inl (Ne.symm ne28))) (Or.inl (Ne.symm ne28))) K33 nin0) K39 (ninS ne64 nin0)) (Fld.keep (Fld.keep (Fld.other W30 (Fld.other W29 Fe27 (Or.inl (Ne.symm ne28))) (Or.inl (Ne.symm ne28))) K33 nin0) K39 (ninS ne64 nin0)) (Fld.keep (Fld.keep (Fld.other W30 (Fld.other W29 Fz27 (Or.inl (Ne.symm ne28))) (Or.inl (Ne.symm ne28))) K33 nin0) K39 (ninS ne64 nin0)) (Exa.keep E33 K39) F0_39 F3_39 ne24 ne28 ne31 ne32 ne59 ne62 ne63 ne64 g_b22 sz_b22 g_b26 sz_b26
theorem ef_vin_2 (m : MethodId) (a cl kl : Addr) : entryFrame m #[(.ref a), (.ref cl), (.ref kl)] 6 = mkF m 0 #[vr a, vr cl, vr kl, uu, uu, uu] [] := rfl
def V_vin_2 (Z : State) (a cl : Addr) (kl aD : Addr) (kD : ClassId) (dc : Addr) (kc : ClassId) (y0 y1 : Addr) (y2 dk : Addr) (kk : ClassId) (w0 w1 : Addr) (i0 i1 : Int32) (h0 : Heap) (vm : Vm) : Prop := True
def Q_vin_2 (Z : State) (a cl : Addr) (kl aD : Addr) (kD : ClassId) (dc : Addr) (kc : ClassId) (y0 y1 : Addr) (y2 dk : Addr) (kk : ClassId) (w0 w1 : Addr) (i0 i1 : Int32) (h0 : Heap) (n0 : Nat) (v : Option Value) (h : Heap) (L : List Loc) : Prop := v = none ∧ Fr n0 L ∧ Keep h0 h [a] ∧ ∃ (vl dv : Addr) (kv : ClassId), Fld Z h a sV "values" "Ljava/util/List;" (.ref vl) ∧ Exa Z h vl sL ∧ Fld Z h vl sL "size" "I" (.int (2 : Int32)) ∧ Fld Z h vl sL "elementData" sE (.ref dv) ∧ Arv Z h dv kv (.object sO) (10 : Int32) [(.ref (own_p3 i0 y0 y1 y2)), (.ref (own_p3 i1 y0 y1 y2)), .null, .null, .null, .null, .null, .null, .null, .null] .null
theorem vin_2_c4 {l : _} {Z : State} {a0 : Array Value} (hw : HW Z a0) {a : Addr} {cl : Addr} {kl : Addr} {aD : Addr} {kD : ClassId} {dc : Addr} {kc : ClassId} {y0 : Addr} {y1 : Addr} {y2 : Addr} {dk : Addr} {kk : ClassId} {w0 : Addr} {w1 : Addr} {i0 : Int32} {i1 : Int32} {h0 : Heap} {n0 : Nat} {p : _} {e : _} {s : State} {m : _} {below : _} {meth : _} {c : _} {h1 : Heap} {T1 : State} {Lc : List Loc} {vm1 : Vm} {ks1 : Nat} {b22 : Addr} {d45 : Addr} {it33 : Addr} {kd45 : ClassId} (X1 : Stand p l e rr16 (s.setVm vm1) m #[(.ref a), (.ref cl), (.ref kl)] below meth c T1 Lc 9 38) (e1 : T1.heap = h1) (Kc : Keep h0 h1 [a]) (Nc : Fr n0 Lc) (Z0 : n0 ≤ h0.size) (hZ1 : Z.Warmed39 (s.setVm vm1).vm) (hown1 : (s.setVm vm1).vm.findClass sV = some m.cls) (hS1 : s.Since vm1 ks1) (hk1 : ks1 ≤ h1.size) (C1 : CHr Z consts_1 s.vm s.heap vm1 h1) (hx : p.tables.exec = Jvm.exec) (hby : c.code = prog_15_method_1_code) (hml : c.maxLocals = 6) (hlk : meth.locks = false) (hrt : meth.sig.returnType = none) (Y3 : Fld Z h1 a sV "values" "Ljava/util/List;" (.ref b22)) (Y16 : Fld Z h1 kl sL "size" "I" (.int (2 : Int32))) (Y24 : Exa Z h1 b22 sL) (Y26 : Fld Z h1 b22 sL "elementData" sE (.ref d45)) (Y27 : Fld Z h1 b22 sL "size" "I" (.int (2 : Int32))) (Y32 : Exa Z h1 it33 sI) (Y33 : Fld Z h1 it33 sI "this$0" "Ljava/util/ArrayList;" (.ref kl)) (Y36 : Fld Z h1 it33 sI "cursor" "I" (.int (2 : Int32))) (Y38 : Arv Z h1 d45 kd45 (.object sO) (10 : Int32) [(.ref (own_p3 i0 y0 y1 y2)), (.ref (own_p3 i1 y0 y1 y2)), .null, .null, .null, .null, .null, .null, .null, .null] .null) :
    own_GoW p.tables e below Z consts_1 (Q_vin_2 Z a cl kl aD kD dc kc y0 y1 y2 dk kk w0 w1 i0 i1 h0 n0) s rr16.cells rr16.slots T1 (mkF m 131 #[vr a, vr cl, vr kl, vr it33, vr w1, vr (own_p3 i1 y0 y1 y2)] []) := by
  have hEL : EW Z a0 consts_1 := own_EL hw
  refine bW T1 (mkF m 38 #[vr a, vr cl, vr kl, vr it33, vr w1, vr (own_p3 i1 y0 y1 y2)] []) (fun _ k => XS.goto X1.here hx rfl (pc0 := 131) (pc' := 38) rfl (hb hby d16_131) (by decide) (by decide) k) ?_
  refine bW T1 (mkF m 39 #[vr a, vr cl, vr kl, vr it33, vr w1, vr (own_p3 i1 y0 y1 y2)] [(.ref it33)]) (fun _ k => XS.aloadN X1.here hx rfl (hb hby d16_38) rfl rfl k) ?_
  obtain ⟨cq62, kq62, q62a, q62b, q62c⟩ := isOf hZ1 e1 Y32
  obtain ⟨_, _, ⟨T62, L62, k62, n62⟩, -, X62, ⟨Lc62, hQ62, l62, y62, z62⟩, st62⟩ := X1.interfaceBack hx (xi := yy29) (y := yy20) hown1 (mvT hZ1 (hw _ (mo 146 rfl))) (mvT hZ1 (hw _ (mo 147 rfl))) (mvT hZ1 (hw _ (mo 148 rfl))) (mvT hZ1 (hw _ (mo 149 rfl))) (mvT hZ1 (hw _ (mo 150 rfl))) (mvT hZ1 (hw _ (mo 151 rfl))) (mvT hZ1 (hw _ (mo 152 rfl))) (mvT hZ1 (hw _ (mo 153 rfl))) (by decide) (backOf (W := 0) (ihn l Z a0 hw [] it33 kl (2 : Int32) (2 : Int32) h1 n0 (Nat.le_trans Z0 Kc.1) Y36 Y33 Y16) hZ1 (hw _ (mo 154 rfl)) (hw _ (mo 133 rfl)) (by decide) (by decide)) q62a q62b q62c (g := (mkF m 39 #[vr a, vr cl, vr kl, vr it33, vr w1, vr (own_p3 i1 y0 y1 y2)] [(.ref it33)])) rfl (by rw [hml]; rfl) (Steps.refl _) (argsL := []) (rest := []) (lenOf pd_12 rfl) rfl (Nat.le_of_eq rfl) (hb hby d16_39) (fun _ _ => ⟨rfl, e1, (by decide : 9 ≤ _), (by decide : 38 ≤ _)⟩)
  dsimp only [Pt.U, Pt.locs, Pt.cells, Pt.slots] at X62 l62 y62 z62 st62 hQ62
  subst l62 y62 z62
  obtain ⟨vq62, N62q, e62⟩ := hQ62
  obtain rfl := vq62.trans (congrArg (fun z => some (Value.int z)) (if_pos rfl))
  have N62 := Fr.app Nc N62q
  refine bW T62 (mkF m 44 #[vr a, vr cl, vr kl, vr it33, vr w1, vr (own_p3 i1 y0 y1 y2)] [(ii 0)]) (fun _ k => st62.trans k) ?_
  refine bW T62 (mkF m 134 #[vr a, vr cl, vr kl, vr it33, vr w1, vr (own_p3 i1 y0 y1 y2)] []) (fun _ k => XS.ifYes X62.here hx rfl (pc0 := 44) (pc' := 134) rfl (hb hby d16_44) rfl ((if0 _ _).trans (teq (by decide)).1) (by decide) (by decide) k) ?_
  refine own_retW (s := s) X62 hlk hS1 (by rw [e62]; exact hk1) hZ1 hEL C1 e62 (v := none) (fun _ => rfl) (fun fs hr => X62.returnOut hx hrt (hb hby d16_134) hr) ?_ (by decide) (by decide)
  rw [e62]
  exact ⟨rfl, N62, Kc, _, _, _, Y3, Y24, Y27, Y26, Y38⟩
theorem vin_2_c3 {l : _} {Z : State} {a0 : Array Value} (hw : HW Z a0) {a : Addr} {cl : Addr} {kl : Addr} {aD : Addr} {kD : ClassId} {dc : Addr} {kc : ClassId} {y0 : Addr} {y1 : Addr} {y2 : Addr} {dk : Addr} {kk : ClassId} {w0 : Addr} {w1 : Addr} {i0 : Int32} {i1 : Int32} {h0 : Heap} {n0 : Nat} {p : _} {e : _} {s : State} {m : _} {below : _} {meth : _} {c : _} {h1 : Heap} {T1 : State} {Lc : List Loc} {vm1 : Vm} {ks1 : Nat} {b22 : Addr} {b26 : Addr} {d45 : Addr} {d49 : Addr} {it33 : Addr} {kd45 : ClassId} {kd49 : ClassId} {a48 : Addr} (X1 : Stand p l e rr16 (s.setVm vm1) m #[(.ref a), (.ref cl), (.ref kl)] below meth c T1 Lc 7 34) (e1 : T1.heap = h1) (Kc : Keep h0 h1 [a]) (Nc : Fr n0 Lc) (Z0 : n0 ≤ h0.size) (hi1 : i1 = 0 ∨ i1 = 1 ∨ i1 = 2) (hZ1 : Z.Warmed39 (s.setVm vm1).vm) (hown1 : (s.setVm vm1).vm.findClass sV = some m.cls) (hS1 : s.Since vm1 ks1) (hk1 : ks1 ≤ h1.size) (C1 : CHr Z consts_1 s.vm s.heap vm1 h1) (hx : p.tables.exec = Jvm.exec) (hby : c.code = prog_15_method_1_code) (hml : c.maxLocals = 6) (hlk : meth.locks = false) (hrt : meth.sig.returnType = none) (Y3 : Fld Z h1 a sV "values" "Ljava/util/List;" (.ref b22)) (Y4 : Fld Z h1 a sV "units" "Ljava/util/List;" (.ref b26)) (Y6 : Exa Z h1 cl sL) (Y7 : Fld Z h1 cl sL "size" "I" (.int (3 : Int32))) (Y8 : Fld Z h1 cl sL "elementData" sE (.ref dc)) (Y9 : Arv Z h1 dc kc (.object sO) (10 : Int32) [(.ref y0), (.ref y1), (.ref y2), .null, .null, .null, .null, .null, .null, .null] .null) (Y10 : Exa Z h1 y0 sS) (Y11 : Exa Z h1 y1 sS) (Y12 : Exa Z h1 y2 sS) (Y16 : Fld Z h1 kl sL "size" "I" (.int (2 : Int32))) (Y21 : Exa Z h1 w1 sA) (Y22 : Fld Z h1 w1 sA "value" "I" (.int i1)) (Y23 : Fld Z h1 w1 sA "unit" "I" (.int (-1 : Int32))) (Y24 : Exa Z h1 b22 sL) (Y25 : Fld Z h1 b22 sB "modCount" "I" (.int (1 : Int32))) (Y26 : Fld Z h1 b22 sL "elementData" sE (.ref d45)) (Y27 : Fld Z h1 b22 sL "size" "I" (.int (1 : Int32))) (Y28 : Exa Z h1 b26 sL) (Y29 : Fld Z h1 b26 sB "modCount" "I" (.int (1 : Int32))) (Y30 : Fld Z h1 b26 sL "elementData" sE (.ref d49)) (Y31 : Fld Z h1 b26 sL "size" "I" (.int (1 : Int32))) (Y32 : Exa Z h1 it33 sI) (Y33 : Fld Z h1 it33 sI "this$0" "Ljava/util/ArrayList;" (.ref kl)) (Y36 : Fld Z h1 it33 sI "cursor" "I" (.int (2 : Int32))) (Y38 : Arv Z h1 d45 kd45 (.object sO) (10 : Int32) [(.ref (own_p3 i0 y0 y1 y2)), .null, .null, .null, .null, .null, .null, .null, .null, .null] .null) (Y40 : Arv Z h1 d49 kd49 (.object sO) (10 : Int32) [(.ref a48), .null, .null, .null, .null, .null, .null, .null, .null, .null] .null) (nx9 : a ≠ b22) (nx10 : a ≠ b26) (nx13 : a ≠ d45) (nx15 : a ≠ d49) (nx84 : kl ≠ b22) (nx85 : kl ≠ b26) (nx88 : kl ≠ d45) (nx90 : kl ≠ d49) (nx108 : w1 ≠ b22) (nx112 : w1 ≠ d45) (nx115 : b22 ≠ b26) (nx116 : b22 ≠ it33) (nx118 : b22 ≠ d45) (nx120 : b22 ≠ d49) (nx121 : b26 ≠ it33) (nx123 : b26 ≠ d45) (nx125 : b26 ≠ d49) (nx127 : it33 ≠ d45) (nx129 : it33 ≠ d49) (nx134 : d45 ≠ d49) (g_b22 : n0 ≤ b22) (sz_b22 : h0.size ≤ b22) (g_b26 : n0 ≤ b26) (sz_b26 : h0.size ≤ b26) (g_d45 : n0 ≤ d45) (sz_d45 : h0.size ≤ d45) (g_d49 : n0 ≤ d49) (sz_d49 : h0.size ≤ d49) (O45 : Ovr Z kd45 sO) (O49 : Ovr Z kd49 sO) :
    own_GoW p.tables e below Z consts_1 (Q_vin_2 Z a cl kl aD kD dc kc y0 y1 y2 dk kk w0 w1 i0 i1 h0 n0) s rr16.cells rr16.slots T1 (mkF m 58 #[vr a, vr cl, vr kl, vr it33, vr w1, vr (own_p3 i0 y0 y1 y2)] []) := by
  have hEL : EW Z a0 consts_1 := own_EL hw
  have hwS : ∀ d ∈ Bundle.stringAtoms, d.before a0 Z = true := fun d hd => hw d (own_SA d hd)
  refine bW T1 (mkF m 59 #[vr a, vr cl, vr kl, vr it33, vr w1, vr (own_p3 i0 y0 y1 y2)] [(.ref cl)]) (fun _ k => XS.aloadN X1.here hx rfl (hb hby d16_58) rfl rfl k) ?_
  refine bW T1 (mkF m 61 #[vr a, vr cl, vr kl, vr it33, vr w1, vr (own_p3 i0 y0 y1 y2)] [(.ref w1), (.ref cl)]) (fun _ k => XS.aload X1.here hx rfl (hb hby d16_59) rfl rfl k) ?_
  obtain ⟨cq53, kq53, q53a, q53b, q53c⟩ := isOf hZ1 e1 Y21
  obtain ⟨_, _, ⟨T53, L53, k53, n53⟩, -, X53, ⟨Lc53, hQ53, l53, y53, z53⟩, st53⟩ := X1.virtualBack hx (y := yy15) (z := yy15) hown1 (mvT hZ1 (hw _ (mo 188 rfl))) (mvT hZ1 (hw _ (mo 189 rfl))) (notFace_of_selects (args := #[]) (mvT hZ1 (hw _ (mo 191 rfl)))) (mvT hZ1 (hw _ (mo 191 rfl))) (mvT hZ1 (hw _ (mo 190 rfl))) (by decide) (backOf (W := 1) (cg_value l Z a0 hw [] w1 i1 h1 n0 (Nat.le_trans Z0 Kc.1) Y22) hZ1 (hw _ (mo 192 rfl)) (hw _ (mo 87 rfl)) (by decide) (by decide)) q53a q53c (g := (mkF m 61 #[vr a, vr cl, vr kl, vr it33, vr w1, vr (own_p3 i0 y0 y1 y2)] [(.ref w1), (.ref cl)])) rfl (by rw [hml]; rfl) (Steps.refl _) (argsL := []) (rest := [(.ref cl)]) (lenOf pd_14 rfl) rfl (Nat.le_of_eq rfl) (hb hby d16_61) (fun _ _ => ⟨rfl, e1, (by decide : 7 ≤ _), (by decide : 34 ≤ _)⟩)
  dsimp only [Pt.U, Pt.locs, Pt.cells, Pt.slots] at X53 l53 y53 z53 st53 hQ53
  subst l53 y53 z53
  obtain ⟨rfl, N53q, e53⟩ := hQ53
  have N53 := Fr.app Nc N53q
  refine bW T53 (mkF m 64 #[vr a, vr cl, vr kl, vr it33, vr w1, vr (own_p3 i0 y0 y1 y2)] [(.int i1), (.ref cl)]) (fun _ k => st53.trans k) ?_
  obtain ⟨cq54, kq54, q54a, q54b, q54c⟩ := isOf hZ1 e53 Y6
  obtain ⟨_, _, ⟨T54, L54, k54, n54⟩, -, X54, ⟨Lc54, hQ54, l54, y54, z54⟩, st54⟩ := X53.interfaceBack hx (xi := yy30) (y := yy26) hown1 (mvT hZ1 (hw _ (mo 193 rfl))) (mvT hZ1 (hw _ (mo 194 rfl))) (mvT hZ1 (hw _ (mo 195 rfl))) (mvT hZ1 (hw _ (mo 196 rfl))) (mvT hZ1 (hw _ (mo 197 rfl))) (mvT hZ1 (hw _ (mo 198 rfl))) (mvT hZ1 (hw _ (mo 199 rfl))) (mvT hZ1 (hw _ (mo 129 rfl))) (by decide) (backOf (W := 0) (get3 l Z a0 hw [] cl i1 dc kc y0 y1 y2 h1 n0 (Nat.le_trans Z0 Kc.1) Y6 Y7 Y8 Y9 hi1) hZ1 (hw _ (mo 200 rfl)) (hw _ (mo 32 rfl)) (by decide) (by decide)) q54a q54b q54c (g := (mkF m 64 #[vr a, vr cl, vr kl, vr it33, vr w1, vr (own_p3 i0 y0 y1 y2)] [(.int i1), (.ref cl)])) rfl (by rw [hml]; rfl) (Steps.refl _) (argsL := [(.int i1)]) (rest := []) (lenOf pd_10 rfl) rfl (Nat.le_of_eq rfl) (hb hby d16_64) (fun _ _ => ⟨rfl, e53, (by decide : 7 ≤ _), (by decide : 34 ≤ _)⟩)
  dsimp only [Pt.U, Pt.locs, Pt.cells, Pt.slots] at X54 l54 y54 z54 st54 hQ54
  subst l54 y54 z54
  obtain ⟨rfl, N54q, e54⟩ := hQ54
  have N54 := Fr.app N53 N54q
  have Ep54 := own_pE i1 Y10 Y11 Y12
  refine bW T54 (mkF m 69 #[vr a, vr cl, vr kl, vr it33, vr w1, vr (own_p3 i0 y0 y1 y2)] [(.ref (own_p3 i1 y0 y1 y2))]) (fun _ k => st54.trans k) ?_
  obtain ⟨T55, X55, e55, st55⟩ := castY X54 hx hZ1 hown1 (hw _ (mo 214 rfl)) e54 (Ins.self Ep54) (g := (mkF m 69 #[vr a, vr cl, vr kl, vr it33, vr w1, vr (own_p3 i0 y0 y1 y2)] [(.ref (own_p3 i1 y0 y1 y2))])) rfl rfl (hb hby d16_69)
  refine bW T55 (mkF m 72 #[vr a, vr cl, vr kl, vr it33, vr w1, vr (own_p3 i0 y0 y1 y2)] [(.ref (own_p3 i1 y0 y1 y2))]) (fun _ k => st55 _ k) ?_
  refine bW T55 (mkF m 74 #[vr a, vr cl, vr kl, vr it33, vr w1, vr (own_p3 i1 y0 y1 y2)] []) (fun _ k => XS.astore X55.here hx rfl (hb hby d16_72) rfl rfl rfl k) ?_
  refine bW T55 (mkF m 75 #[vr a, vr cl, vr kl, vr it33, vr w1, vr (own_p3 i1 y0 y1 y2)] [(.ref a)]) (fun _ k => XS.aloadN X55.here hx rfl (hb hby d16_74) rfl rfl k) ?_
  obtain ⟨T56, X56, e56, st56⟩ := getF X55 hx hZ1 hown1 (host := "") (Or.inl (hw _ (mo 116 rfl))) Via.refl e55 Y3 (g := (mkF m 75 #[vr a, vr cl, vr kl, vr it33, vr w1, vr (own_p3 i1 y0 y1 y2)] [(.ref a)])) rfl rfl (hb hby d16_75)
  refine bW T56 (mkF m 78 #[vr a, vr cl, vr kl, vr it33, vr w1, vr (own_p3 i1 y0 y1 y2)] [(.ref b22)]) (fun _ k => st56 _ k) ?_
  refine bW T56 (mkF m 80 #[vr a, vr cl, vr kl, vr it33, vr w1, vr (own_p3 i1 y0 y1 y2)] [(.ref (own_p3 i1 y0 y1 y2)), (.ref b22)]) (fun _ k => XS.aload X56.here hx rfl (hb hby d16_78) rfl rfl k) ?_
  obtain ⟨cq57, kq57, q57a, q57b, q57c⟩ := isOf hZ1 e56 Y24
  obtain ⟨_, _, ⟨T57, L57, k57, n57⟩, -, X57, ⟨Lc57, hQ57, l57, y57, z57⟩, st57⟩ := X56.interfaceBack hx (xi := yy31) (y := yy13) hown1 (mvT hZ1 (hw _ (mo 215 rfl))) (mvT hZ1 (hw _ (mo 216 rfl))) (mvT hZ1 (hw _ (mo 217 rfl))) (mvT hZ1 (hw _ (mo 218 rfl))) (mvT hZ1 (hw _ (mo 56 rfl))) (mvT hZ1 (hw _ (mo 219 rfl))) (mvT hZ1 (hw _ (mo 220 rfl))) (mvT hZ1 (hw _ (mo 129 rfl))) (by decide) (backOf (W := 0) (ad1s_1 l Z a0 hw [] b22 (own_p3 i1 y0 y1 y2) d45 kd45 (own_p3 i0 y0 y1 y2) sS h1 n0 (Nat.le_trans Z0 Kc.1) Y24 Y25 Y26 Y27 g_b22 Y38 O45 g_d45 nx118 Ep54 (hw _ (mo 84 rfl))) hZ1 (hw _ (mo 58 rfl)) (hw _ (mo 32 rfl)) (by decide) (by decide)) q57a q57b q57c (g := (mkF m 80 #[vr a, vr cl, vr kl, vr it33, vr w1, vr (own_p3 i1 y0 y1 y2)] [(.ref (own_p3 i1 y0 y1 y2)), (.ref b22)])) rfl (by rw [hml]; rfl) (Steps.refl _) (argsL := [(.ref (own_p3 i1 y0 y1 y2))]) (rest := []) (lenOf pd_15 rfl) rfl (Nat.le_of_eq rfl) (hb hby d16_80) (fun _ _ => ⟨rfl, e56, (by decide : 7 ≤ _), (by decide : 34 ≤ _)⟩)
  dsimp only [Pt.U, Pt.locs, Pt.cells, Pt.slots] at X57 l57 y57 z57 st57 hQ57
  subst l57 y57 z57
  obtain ⟨rfl, N57q, K57, Fm57, Fe57, Fz57, V57⟩ := hQ57
  have N57 := Fr.app N54 N57q
  have KK57 : Keep h0 T57.heap [a] := Keep.trans Kc K57 (allS (Or.inr sz_b22) (allS (Or.inr sz_d45) all0))
  have C57 : CHr Z consts_1 s.vm s.heap vm1 T57.heap := CHr.trans C1 (CHr.keep K57 (sfS (Safe.exa (EL := consts_1) (vm := vm1) hZ1.alike Y24 (by decide) (by decide)) (sfS (Safe.arv (EL := consts_1) (vm := vm1) hZ1.alike Y38 (by decide)) sf0)) C1.1)
  refine bW T57 (mkF m 85 #[vr a, vr cl, vr kl, vr it33, vr w1, vr (own_p3 i1 y0 y1 y2)] [(.int (1 : Int32))]) (fun _ k => st57.trans k) ?_
  refine bW T57 (mkF m 86 #[vr a, vr cl, vr kl, vr it33, vr w1, vr (own_p3 i1 y0 y1 y2)] []) (fun _ k => XS.pop X57.here hx rfl (hb hby d16_85) rfl rfl k) ?_
  refine bW T57 (mkF m 87 #[vr a, vr cl, vr kl, vr it33, vr w1, vr (own_p3 i1 y0 y1 y2)] [(.ref a)]) (fun _ k => XS.aloadN X57.here hx rfl (hb hby d16_86) rfl rfl k) ?_
  obtain ⟨T58, X58, e58, st58⟩ := getF X57 hx hZ1 hown1 (host := "") (Or.inl (hw _ (mo 118 rfl))) Via.refl rfl (Fld.keep Y4 K57 (ninS nx9 (ninS nx13 nin0))) (g := (mkF m 87 #[vr a, vr cl, vr kl, vr it33, vr w1, vr (own_p3 i1 y0 y1 y2)] [(.ref a)])) rfl rfl (hb hby d16_87)
  refine bW T58 (mkF m 90 #[vr a, vr cl, vr kl, vr it33, vr w1, vr (own_p3 i1 y0 y1 y2)] [(.ref b26)]) (fun _ k => st58 _ k) ?_
  refine bW T58 (mkF m 92 #[vr a, vr cl, vr kl, vr it33, vr w1, vr (own_p3 i1 y0 y1 y2)] [(.ref w1), (.ref b26)]) (fun _ k => XS.aload X58.here hx rfl (hb hby d16_90) rfl rfl k) ?_
  obtain ⟨cq59, kq59, q59a, q59b, q59c⟩ := isOf hZ1 e58 (Exa.keep Y21 K57)
  obtain ⟨_, _, ⟨T59, L59, k59, n59⟩, -, X59, ⟨Lc59, hQ59, l59, y59, z59⟩, st59⟩ := X58.virtualBack hx (y := yy16) (z := yy16) hown1 (mvT hZ1 (hw _ (mo 221 rfl))) (mvT hZ1 (hw _ (mo 222 rfl))) (notFace_of_selects (args := #[]) (mvT hZ1 (hw _ (mo 224 rfl)))) (mvT hZ1 (hw _ (mo 224 rfl))) (mvT hZ1 (hw _ (mo 223 rfl))) (by decide) (backOf (W := 1) (cg_unit l Z a0 hw [] w1 (-1 : Int32) T57.heap n0 (Nat.le_trans (Nat.le_trans Z0 Kc.1) K57.1) (Fld.keep Y23 K57 (ninS nx108 (ninS nx112 nin0)))) hZ1 (hw _ (mo 225 rfl)) (hw _ (mo 87 rfl)) (by decide) (by decide)) q59a q59c (g := (mkF m 92 #[vr a, vr cl, vr kl, vr it33, vr w1, vr (own_p3 i1 y0 y1 y2)] [(.ref w1), (.ref b26)])) rfl (by rw [hml]; rfl) (Steps.refl _) (argsL := []) (rest := [(.ref b26)]) (lenOf pd_14 rfl) rfl (Nat.le_of_eq rfl) (hb hby d16_92) (fun _ _ => ⟨rfl, e58, (by decide : 7 ≤ _), (by decide : 34 ≤ _)⟩)
  dsimp only [Pt.U, Pt.locs, Pt.cells, Pt.slots] at X59 l59 y59 z59 st59 hQ59
  subst l59 y59 z59
  obtain ⟨rfl, N59q, e59⟩ := hQ59
  have N59 := Fr.app N57 N59q
  refine bW T59 (mkF m 95 #[vr a, vr cl, vr kl, vr it33, vr w1, vr (own_p3 i1 y0 y1 y2)] [(.int (-1 : Int32)), (.ref b26)]) (fun _ k => st59.trans k) ?_
  refine bW T59 (mkF m 106 #[vr a, vr cl, vr kl, vr it33, vr w1, vr (own_p3 i1 y0 y1 y2)] [(.ref b26)]) (fun _ k => XS.ifYes X59.here hx rfl (pc0 := 95) (pc' := 106) rfl (hb hby d16_95) rfl ((if0 _ _).trans (tlt (by decide)).1) (by decide) (by decide) k) ?_
  obtain ⟨a60, T60, h60, k60, b60, kb60, X60, e60, E60, hS60, hk60, hZ60, hown60, Ex60, Fc60, Fv60, V60, la60, lb60, Cq60, Lt60, D60, st60⟩ := ldcCH (s := s) (EL := consts_1) X59 hx hZ1 hown1 (hw _ (mo 226 rfl)) hwS e59 hS1 (Nat.le_trans hk1 K57.1) hEL (mo 0 rfl) C57.1 (vs := []) (z := (0 : Int32)) ⟨by decide, by decide⟩ (by decide) (by decide) (g := (mkF m 106 #[vr a, vr cl, vr kl, vr it33, vr w1, vr (own_p3 i1 y0 y1 y2)] [(.ref b26)])) rfl (hb hby d16_106) (n := 0) (by decide) (by decide) (by decide) (by decide)
  have C60 : CHr Z consts_1 s.vm s.heap T60.vm h60 := CHr.trans C57 Cq60
  have K60 : Keep h0 h60 [a] := Keep.ext KK57 E60
  refine bW T60 (mkF m 108 #[vr a, vr cl, vr kl, vr it33, vr w1, vr (own_p3 i1 y0 y1 y2)] [(.ref a60), (.ref b26)]) (fun _ k => st60 _ k) ?_
  refine bW T60 (mkF m 125 #[vr a, vr cl, vr kl, vr it33, vr w1, vr (own_p3 i1 y0 y1 y2)] [(.ref a60), (.ref b26)]) (fun _ k => XS.goto X60.here hx rfl (pc0 := 108) (pc' := 125) rfl (hb hby d16_108) (by decide) (by decide) k) ?_
  obtain ⟨cq61, kq61, q61a, q61b, q61c⟩ := isOf hZ60 e60 (Exa.ext E60 (Exa.keep Y28 K57))
  obtain ⟨_, _, ⟨T61, L61, k61, n61⟩, -, X61, ⟨Lc61, hQ61, l61, y61, z61⟩, st61⟩ := X60.interfaceBack hx (xi := yy31) (y := yy13) hown60 (mvT hZ60 (hw _ (mo 215 rfl))) (mvT hZ60 (hw _ (mo 216 rfl))) (mvT hZ60 (hw _ (mo 217 rfl))) (mvT hZ60 (hw _ (mo 218 rfl))) (mvT hZ60 (hw _ (mo 56 rfl))) (mvT hZ60 (hw _ (mo 219 rfl))) (mvT hZ60 (hw _ (mo 220 rfl))) (mvT hZ60 (hw _ (mo 129 rfl))) (by decide) (backOf (W := 0) (ad1s_1 l Z a0 hw [] b26 a60 d49 kd49 a48 sS h60 n0 (Nat.le_trans (Nat.le_trans (Nat.le_trans Z0 Kc.1) K57.1) E60.1) (Exa.ext E60 (Exa.keep Y28 K57)) (Fld.ext E60 (Fld.keep Y29 K57 (ninS (Ne.symm nx115) (ninS nx123 nin0)))) (Fld.ext E60 (Fld.keep Y30 K57 (ninS (Ne.symm nx115) (ninS nx123 nin0)))) (Fld.ext E60 (Fld.keep Y31 K57 (ninS (Ne.symm nx115) (ninS nx123 nin0)))) g_b26 (Arv.ext (Arv.keep Y40 K57 (ninS (Ne.symm nx120) (ninS (Ne.symm nx134) nin0))) E60) O49 g_d49 nx125 Ex60 (hw _ (mo 84 rfl))) hZ60 (hw _ (mo 58 rfl)) (hw _ (mo 32 rfl)) (by decide) (by decide)) q61a q61b q61c (g := (mkF m 125 #[vr a, vr cl, vr kl, vr it33, vr w1, vr (own_p3 i1 y0 y1 y2)] [(.ref a60), (.ref b26)])) rfl (by rw [hml]; rfl) (Steps.refl _) (argsL := [(.ref a60)]) (rest := []) (lenOf pd_15 rfl) rfl (Nat.le_of_eq rfl) (hb hby d16_125) (fun _ _ => ⟨rfl, e60, (by decide : 9 ≤ _), (by decide : 38 ≤ _)⟩)
  dsimp only [Pt.U, Pt.locs, Pt.cells, Pt.slots] at X61 l61 y61 z61 st61 hQ61
  subst l61 y61 z61
  obtain ⟨rfl, N61q, K61, Fm61, Fe61, Fz61, V61⟩ := hQ61
  have N61 := Fr.app N59 N61q
  have KK61 : Keep h0 T61.heap [a] := Keep.trans K60 K61 (allS (Or.inr sz_b26) (allS (Or.inr sz_d49) all0))
  have C61 : CHr Z consts_1 s.vm s.heap T60.vm T61.heap := CHr.trans C60 (CHr.keep K61 (sfS (Safe.exa (EL := consts_1) (vm := T60.vm) hZ60.alike (Exa.ext E60 (Exa.keep Y28 K57)) (by decide) (by decide)) (sfS (Safe.arv (EL := consts_1) (vm := T60.vm) hZ60.alike (Arv.ext (Arv.keep Y40 K57 (ninS (Ne.symm nx120) (ninS (Ne.symm nx134) nin0))) E60) (by decide)) sf0)) C60.1)
  refine bW T61 (mkF m 130 #[vr a, vr cl, vr kl, vr it33, vr w1, vr (own_p3 i1 y0 y1 y2)] [(.int (1 : Int32))]) (fun _ k => st61.trans k) ?_
  refine bW T61 (mkF m 131 #[vr a, vr cl, vr kl, vr it33, vr w1, vr (own_p3 i1 y0 y1 y2)] []) (fun _ k => XS.pop X61.here hx rfl (hb hby d16_130) rfl rfl k) ?_
  exact vin_2_c4 (h1 := T61.heap) (T1 := T61) (vm1 := T60.vm) hw X61 rfl KK61 N61 Z0 hZ60 hown60 hS60 (Nat.le_trans hk60 K61.1) C61 hx hby hml hlk hrt (Fld.keep (Fld.ext E60 (Fld.keep Y3 K57 (ninS nx9 (ninS nx13 nin0)))) K61 (ninS nx10 (ninS nx15 nin0))) (Fld.keep (Fld.ext E60 (Fld.keep Y16 K57 (ninS nx84 (ninS nx88 nin0)))) K61 (ninS nx85 (ninS nx90 nin0))) (Exa.keep (Exa.ext E60 (Exa.keep Y24 K57)) K61) (Fld.keep (Fld.ext E60 Fe57) K61 (ninS nx115 (ninS nx120 nin0))) (Fld.keep (Fld.ext E60 Fz57) K61 (ninS nx115 (ninS nx120 nin0))) (Exa.keep (Exa.ext E60 (Exa.keep Y32 K57)) K61) (Fld.keep (Fld.ext E60 (Fld.keep Y33 K57 (ninS (Ne.symm nx116) (ninS nx127 nin0)))) K61 (ninS (Ne.symm nx121) (ninS nx129 nin0))) (Fld.keep (Fld.ext E60 (Fld.keep Y36 K57 (ninS (Ne.symm nx116) (ninS nx127 nin0)))) K61 (ninS (Ne.symm nx121) (ninS nx129 nin0))) (Arv.keep (Arv.ext V57 E60) K61 (ninS (Ne.symm nx123) (ninS nx134 nin0)))
theorem vin_2_c2 {l : _} {Z : State} {a0 : Array Value} (hw : HW Z a0) {a : Addr} {cl : Addr} {kl : Addr} {aD : Addr} {kD : ClassId} {dc : Addr} {kc : ClassId} {y0 : Addr} {y1 : Addr} {y2 : Addr} {dk : Addr} {kk : ClassId} {w0 : Addr} {w1 : Addr} {i0 : Int32} {i1 : Int32} {h0 : Heap} {n0 : Nat} {p : _} {e : _} {s : State} {m : _} {below : _} {meth : _} {c : _} {h1 : Heap} {T1 : State} {Lc : List Loc} {vm1 : Vm} {ks1 : Nat} {b22 : Addr} {b26 : Addr} {d45 : Addr} {d49 : Addr} {it33 : Addr} {kd45 : ClassId} {kd49 : ClassId} {a48 : Addr} (X1 : Stand p l e rr16 (s.setVm vm1) m #[(.ref a), (.ref cl), (.ref kl)] below meth c T1 Lc 7 34) (e1 : T1.heap = h1) (Kc : Keep h0 h1 [a]) (Nc : Fr n0 Lc) (Z0 : n0 ≤ h0.size) (hi1 : i1 = 0 ∨ i1 = 1 ∨ i1 = 2) (hZ1 : Z.Warmed39 (s.setVm vm1).vm) (hown1 : (s.setVm vm1).vm.findClass sV = some m.cls) (hS1 : s.Since vm1 ks1) (hk1 : ks1 ≤ h1.size) (C1 : CHr Z consts_1 s.vm s.heap vm1 h1) (hx : p.tables.exec = Jvm.exec) (hby : c.code = prog_15_method_1_code) (hml : c.maxLocals = 6) (hlk : meth.locks = false) (hrt : meth.sig.returnType = none) (Y3 : Fld Z h1 a sV "values" "Ljava/util/List;" (.ref b22)) (Y4 : Fld Z h1 a sV "units" "Ljava/util/List;" (.ref b26)) (Y6 : Exa Z h1 cl sL) (Y7 : Fld Z h1 cl sL "size" "I" (.int (3 : Int32))) (Y8 : Fld Z h1 cl sL "elementData" sE (.ref dc)) (Y9 : Arv Z h1 dc kc (.object sO) (10 : Int32) [(.ref y0), (.ref y1), (.ref y2), .null, .null, .null, .null, .null, .null, .null] .null) (Y10 : Exa Z h1 y0 sS) (Y11 : Exa Z h1 y1 sS) (Y12 : Exa Z h1 y2 sS) (Y14 : Fld Z h1 kl sB "modCount" "I" (.int (2 : Int32))) (Y15 : Fld Z h1 kl sL "elementData" sE (.ref dk)) (Y16 : Fld Z h1 kl sL "size" "I" (.int (2 : Int32))) (Y17 : Arv Z h1 dk kk (.object sO) (10 : Int32) [(.ref w0), (.ref w1), .null, .null, .null, .null, .null, .null, .null, .null] .null) (Y21 : Exa Z h1 w1 sA) (Y22 : Fld Z h1 w1 sA "value" "I" (.int i1)) (Y23 : Fld Z h1 w1 sA "unit" "I" (.int (-1 : Int32))) (Y24 : Exa Z h1 b22 sL) (Y25 : Fld Z h1 b22 sB "modCount" "I" (.int (1 : Int32))) (Y26 : Fld Z h1 b22 sL "elementData" sE (.ref d45)) (Y27 : Fld Z h1 b22 sL "size" "I" (.int (1 : Int32))) (Y28 : Exa Z h1 b26 sL) (Y29 : Fld Z h1 b26 sB "modCount" "I" (.int (1 : Int32))) (Y30 : Fld Z h1 b26 sL "elementData" sE (.ref d49)) (Y31 : Fld Z h1 b26 sL "size" "I" (.int (1 : Int32))) (Y32 : Exa Z h1 it33 sI) (Y33 : Fld Z h1 it33 sI "this$0" "Ljava/util/ArrayList;" (.ref kl)) (Y34 : Fld Z h1 it33 sI "lastRet" "I" (ii 0)) (Y35 : Fld Z h1 it33 sI "expectedModCount" "I" (.int (2 : Int32))) (Y36 : Fld Z h1 it33 sI "cursor" "I" (.int (1 : Int32))) (Y38 : Arv Z h1 d45 kd45 (.object sO) (10 : Int32) [(.ref (own_p3 i0 y0 y1 y2)), .null, .null, .null, .null, .null, .null, .null, .null, .null] .null) (Y40 : Arv Z h1 d49 kd49 (.object sO) (10 : Int32) [(.ref a48), .null, .null, .null, .null, .null, .null, .null, .null, .null] .null) (nx9 : a ≠ b22) (nx10 : a ≠ b26) (nx11 : a ≠ it33) (nx13 : a ≠ d45) (nx15 : a ≠ d49) (nx26 : cl ≠ it33) (nx40 : dc ≠ it33) (nx84 : kl ≠ b22) (nx85 : kl ≠ b26) (nx86 : kl ≠ it33) (nx88 : kl ≠ d45) (nx90 : kl ≠ d49) (nx95 : dk ≠ it33) (nx108 : w1 ≠ b22) (nx110 : w1 ≠ it33) (nx112 : w1 ≠ d45) (nx115 : b22 ≠ b26) (nx116 : b22 ≠ it33) (nx118 : b22 ≠ d45) (nx120 : b22 ≠ d49) (nx121 : b26 ≠ it33) (nx123 : b26 ≠ d45) (nx125 : b26 ≠ d49) (nx127 : it33 ≠ d45) (nx129 : it33 ≠ d49) (nx134 : d45 ≠ d49) (g_b22 : n0 ≤ b22) (sz_b22 : h0.size ≤ b22) (g_b26 : n0 ≤ b26) (sz_b26 : h0.size ≤ b26) (g_it33 : n0 ≤ it33) (sz_it33 : h0.size ≤ it33) (g_d45 : n0 ≤ d45) (sz_d45 : h0.size ≤ d45) (g_d49 : n0 ≤ d49) (sz_d49 : h0.size ≤ d49) (O45 : Ovr Z kd45 sO) (O49 : Ovr Z kd49 sO) :
    own_GoW p.tables e below Z consts_1 (Q_vin_2 Z a cl kl aD kD dc kc y0 y1 y2 dk kk w0 w1 i0 i1 h0 n0) s rr16.cells rr16.slots T1 (mkF m 131 #[vr a, vr cl, vr kl, vr it33, vr w0, vr (own_p3 i0 y0 y1 y2)] []) := by
  refine bW T1 (mkF m 38 #[vr a, vr cl, vr kl, vr it33, vr w0, vr (own_p3 i0 y0 y1 y2)] []) (fun _ k => XS.goto X1.here hx rfl (pc0 := 131) (pc' := 38) rfl (hb hby d16_131) (by decide) (by decide) k) ?_
  refine bW T1 (mkF m 39 #[vr a, vr cl, vr kl, vr it33, vr w0, vr (own_p3 i0 y0 y1 y2)] [(.ref it33)]) (fun _ k => XS.aloadN X1.here hx rfl (hb hby d16_38) rfl rfl k) ?_
  obtain ⟨cq50, kq50, q50a, q50b, q50c⟩ := isOf hZ1 e1 Y32
  obtain ⟨_, _, ⟨T50, L50, k50, n50⟩, -, X50, ⟨Lc50, hQ50, l50, y50, z50⟩, st50⟩ := X1.interfaceBack hx (xi := yy29) (y := yy20) hown1 (mvT hZ1 (hw _ (mo 146 rfl))) (mvT hZ1 (hw _ (mo 147 rfl))) (mvT hZ1 (hw _ (mo 148 rfl))) (mvT hZ1 (hw _ (mo 149 rfl))) (mvT hZ1 (hw _ (mo 150 rfl))) (mvT hZ1 (hw _ (mo 151 rfl))) (mvT hZ1 (hw _ (mo 152 rfl))) (mvT hZ1 (hw _ (mo 153 rfl))) (by decide) (backOf (W := 0) (ihn l Z a0 hw [] it33 kl (1 : Int32) (2 : Int32) h1 n0 (Nat.le_trans Z0 Kc.1) Y36 Y33 Y16) hZ1 (hw _ (mo 154 rfl)) (hw _ (mo 133 rfl)) (by decide) (by decide)) q50a q50b q50c (g := (mkF m 39 #[vr a, vr cl, vr kl, vr it33, vr w0, vr (own_p3 i0 y0 y1 y2)] [(.ref it33)])) rfl (by rw [hml]; rfl) (Steps.refl _) (argsL := []) (rest := []) (lenOf pd_12 rfl) rfl (Nat.le_of_eq rfl) (hb hby d16_39) (fun _ _ => ⟨rfl, e1, (by decide : 7 ≤ _), (by decide : 34 ≤ _)⟩)
  dsimp only [Pt.U, Pt.locs, Pt.cells, Pt.slots] at X50 l50 y50 z50 st50 hQ50
  subst l50 y50 z50
  obtain ⟨vq50, N50q, e50⟩ := hQ50
  obtain rfl := vq50.trans (congrArg (fun z => some (Value.int z)) (if_neg (by decide)))
  have N50 := Fr.app Nc N50q
  refine bW T50 (mkF m 44 #[vr a, vr cl, vr kl, vr it33, vr w0, vr (own_p3 i0 y0 y1 y2)] [(.int (1 : Int32))]) (fun _ k => st50.trans k) ?_
  refine bW T50 (mkF m 47 #[vr a, vr cl, vr kl, vr it33, vr w0, vr (own_p3 i0 y0 y1 y2)] []) (fun _ k => XS.ifNo X50.here hx rfl (hb hby d16_44) rfl ((if0 _ _).trans (feq (by decide)).1) k) ?_
  refine bW T50 (mkF m 48 #[vr a, vr cl, vr kl, vr it33, vr w0, vr (own_p3 i0 y0 y1 y2)] [(.ref it33)]) (fun _ k => XS.aloadN X50.here hx rfl (hb hby d16_47) rfl rfl k) ?_
  obtain ⟨cq51, kq51, q51a, q51b, q51c⟩ := isOf hZ1 e50 Y32
  obtain ⟨_, _, ⟨T51, L51, k51, n51⟩, -, X51, ⟨Lc51, hQ51, l51, y51, z51⟩, st51⟩ := X50.interfaceBack hx (xi := yy32) (y := yy22) hown1 (mvT hZ1 (hw _ (mo 172 rfl))) (mvT hZ1 (hw _ (mo 173 rfl))) (mvT hZ1 (hw _ (mo 174 rfl))) (mvT hZ1 (hw _ (mo 175 rfl))) (mvT hZ1 (hw _ (mo 176 rfl))) (mvT hZ1 (hw _ (mo 177 rfl))) (mvT hZ1 (hw _ (mo 178 rfl))) (mvT hZ1 (hw _ (mo 153 rfl))) (by decide) (backOf (W := 0) (inx_1 l Z a0 hw [] it33 kl (2 : Int32) (0 : Int32) (2 : Int32) dk kk [(.ref w0), (.ref w1), .null, .null, .null, .null, .null, .null, .null, .null] w1 h1 n0 (Nat.le_trans Z0 Kc.1) Y32 Y33 Y34 Y35 Y36 g_it33 Y14 Y16 Y15 Y17 rfl (by decide) nx86 nx95) hZ1 (hw _ (mo 179 rfl)) (hw _ (mo 133 rfl)) (by decide) (by decide)) q51a q51b q51c (g := (mkF m 48 #[vr a, vr cl, vr kl, vr it33, vr w0, vr (own_p3 i0 y0 y1 y2)] [(.ref it33)])) rfl (by rw [hml]; rfl) (Steps.refl _) (argsL := []) (rest := []) (lenOf pd_13 rfl) rfl (Nat.le_of_eq rfl) (hb hby d16_48) (fun _ _ => ⟨rfl, e50, (by decide : 7 ≤ _), (by decide : 34 ≤ _)⟩)
  dsimp only [Pt.U, Pt.locs, Pt.cells, Pt.slots] at X51 l51 y51 z51 st51 hQ51
  subst l51 y51 z51
  obtain ⟨rfl, N51q, K51, F0_51, F1_51, F2_51, F3_51⟩ := hQ51
  have N51 := Fr.app N50 N51q
  have KK51 : Keep h0 T51.heap [a] := Keep.trans Kc K51 (allS (Or.inr sz_it33) all0)
  have C51 : CHr Z consts_1 s.vm s.heap vm1 T51.heap := CHr.trans C1 (CHr.keep K51 (sfS (Safe.exa (EL := consts_1) (vm := vm1) hZ1.alike Y32 (by decide) (by decide)) sf0) C1.1)
  refine bW T51 (mkF m 53 #[vr a, vr cl, vr kl, vr it33, vr w0, vr (own_p3 i0 y0 y1 y2)] [(.ref w1)]) (fun _ k => st51.trans k) ?_
  obtain ⟨T52, X52, e52, st52⟩ := castY X51 hx hZ1 hown1 (hw _ (mo 186 rfl)) rfl (Ins.self (Exa.keep Y21 K51)) (g := (mkF m 53 #[vr a, vr cl, vr kl, vr it33, vr w0, vr (own_p3 i0 y0 y1 y2)] [(.ref w1)])) rfl rfl (hb hby d16_53)
  refine bW T52 (mkF m 56 #[vr a, vr cl, vr kl, vr it33, vr w0, vr (own_p3 i0 y0 y1 y2)] [(.ref w1)]) (fun _ k => st52 _ k) ?_
  refine bW T52 (mkF m 58 #[vr a, vr cl, vr kl, vr it33, vr w1, vr (own_p3 i0 y0 y1 y2)] []) (fun _ k => XS.astore X52.here hx rfl (hb hby d16_56) rfl rfl rfl k) ?_
  exact vin_2_c3 (h1 := T51.heap) (T1 := T52) (vm1 := vm1) hw X52 e52 KK51 N51 Z0 hi1 hZ1 hown1 hS1 (Nat.le_trans hk1 K51.1) C51 hx hby hml hlk hrt (Fld.keep Y3 K51 (ninS nx11 nin0)) (Fld.keep Y4 K51 (ninS nx11 nin0)) (Exa.keep Y6 K51) (Fld.keep Y7 K51 (ninS nx26 nin0)) (Fld.keep Y8 K51 (ninS nx26 nin0)) (Arv.keep Y9 K51 (ninS nx40 nin0)) (Exa.keep Y10 K51) (Exa.keep Y11 K51) (Exa.keep Y12 K51) (Fld.keep Y16 K51 (ninS nx86 nin0)) (Exa.keep Y21 K51) (Fld.keep Y22 K51 (ninS nx110 nin0)) (Fld.keep Y23 K51 (ninS nx110 nin0)) (Exa.keep Y24 K51) (Fld.keep Y25 K51 (ninS nx116 nin0)) (Fld.keep Y26 K51 (ninS nx116 nin0)) (Fld.keep Y27 K51 (ninS nx116 nin0)) (Exa.keep Y28 K51) (Fld.keep Y29 K51 (ninS nx121 nin0)) (Fld.keep Y30 K51 (ninS nx121 nin0)) (Fld.keep Y31 K51 (ninS nx121 nin0)) (Exa.keep Y32 K51) F0_51 F3_51 (Arv.keep Y38 K51 (ninS (Ne.symm nx127) nin0)) (Arv.keep Y40 K51 (ninS (Ne.symm nx129) nin0)) nx9 nx10 nx13 nx15 nx84 nx85 nx88 nx90 nx108 nx112 nx115 nx116 nx118 nx120 nx121 nx123 nx125 nx127 nx129 nx134 g_b22 sz_b22 g_b26 sz_b26 g_d45 sz_d45 g_d49 sz_d49 O45 O49
theorem vin_2_c1 {l : _} {Z : State} {a0 : Array Value} (hw : HW Z a0) {a : Addr} {cl : Addr} {kl : Addr} {aD : Addr} {kD : ClassId} {dc : Addr} {kc : ClassId} {y0 : Addr} {y1 : Addr} {y2 : Addr} {dk : Addr} {kk : ClassId} {w0 : Addr} {w1 : Addr} {i0 : Int32} {i1 : Int32} {h0 : Heap} {n0 : Nat} {p : _} {e : _} {s : State} {m : _} {below : _} {meth : _} {c : _} {h1 : Heap} {T1 : State} {Lc : List Loc} {vm1 : Vm} {ks1 : Nat} {b22 : Addr} {b26 : Addr} {it33 : Addr} (X1 : Stand p l e rr16 (s.setVm vm1) m #[(.ref a), (.ref cl), (.ref kl)] below meth c T1 Lc 3 10) (e1 : T1.heap = h1) (Kc : Keep h0 h1 [a]) (Nc : Fr n0 Lc) (Z0 : n0 ≤ h0.size) (O0 : Old Z n0 h1) (S_DE : Sta Z Z.heap sL "DEFAULTCAPACITY_EMPTY_ELEMENTDATA" "[Ljava/lang/Object;" (.ref aD)) (V_aD : Arv Z Z.heap aD kD (.object sO) (0 : Int32) [] .null) (hi0 : i0 = 0 ∨ i0 = 1 ∨ i0 = 2) (hi1 : i1 = 0 ∨ i1 = 1 ∨ i1 = 2) (hZ1 : Z.Warmed39 (s.setVm vm1).vm) (hown1 : (s.setVm vm1).vm.findClass sV = some m.cls) (hS1 : s.Since vm1 ks1) (hk1 : ks1 ≤ h1.size) (C1 : CHr Z consts_1 s.vm s.heap vm1 h1) (hx : p.tables.exec = Jvm.exec) (hby : c.code = prog_15_method_1_code) (hml : c.maxLocals = 6) (hlk : meth.locks = false) (hrt : meth.sig.returnType = none) (Y2 : Exa Z h1 a sV) (Y3 : Fld Z h1 a sV "values" "Ljava/util/List;" (.ref b22)) (Y4 : Fld Z h1 a sV "units" "Ljava/util/List;" (.ref b26)) (Y6 : Exa Z h1 cl sL) (Y7 : Fld Z h1 cl sL "size" "I" (.int (3 : Int32))) (Y8 : Fld Z h1 cl sL "elementData" sE (.ref dc)) (Y9 : Arv Z h1 dc kc (.object sO) (10 : Int32) [(.ref y0), (.ref y1), (.ref y2), .null, .null, .null, .null, .null, .null, .null] .null) (Y10 : Exa Z h1 y0 sS) (Y11 : Exa Z h1 y1 sS) (Y12 : Exa Z h1 y2 sS) (Y13 : Exa Z h1 kl sL) (Y14 : Fld Z h1 kl sB "modCount" "I" (.int (2 : Int32))) (Y15 : Fld Z h1 kl sL "elementData" sE (.ref dk)) (Y16 : Fld Z h1 kl sL "size" "I" (.int (2 : Int32))) (Y17 : Arv Z h1 dk kk (.object sO) (10 : Int32) [(.ref w0), (.ref w1), .null, .null, .null, .null, .null, .null, .null, .null] .null) (Y18 : Exa Z h1 w0 sA) (Y19 : Fld Z h1 w0 sA "value" "I" (.int i0)) (Y20 : Fld Z h1 w0 sA "unit" "I" (.int (-1 : Int32))) (Y21 : Exa Z h1 w1 sA) (Y22 : Fld Z h1 w1 sA "value" "I" (.int i1)) (Y23 : Fld Z h1 w1 sA "unit" "I" (.int (-1 : Int32))) (Y24 : Exa Z h1 b22 sL) (Y25 : Fld Z h1 b22 sB "modCount" "I" (ii 0)) (Y26 : Fld Z h1 b22 sL "elementData" sE (.ref aD)) (Y27 : Fld Z h1 b22 sL "size" "I" (ii 0)) (Y28 : Exa Z h1 b26 sL) (Y29 : Fld Z h1 b26 sB "modCount" "I" (ii 0)) (Y30 : Fld Z h1 b26 sL "elementData" sE (.ref aD)) (Y31 : Fld Z h1 b26 sL "size" "I" (ii 0)) (Y32 : Exa Z h1 it33 sI) (Y33 : Fld Z h1 it33 sI "this$0" "Ljava/util/ArrayList;" (.ref kl)) (Y34 : Fld Z h1 it33 sI "lastRet" "I" (ii 0)) (Y35 : Fld Z h1 it33 sI "expectedModCount" "I" (.int (2 : Int32))) (Y36 : Fld Z h1 it33 sI "cursor" "I" (.int (1 : Int32))) (nx9 : a ≠ b22) (nx10 : a ≠ b26) (nx11 : a ≠ it33) (nx20 : cl ≠ b22) (nx21 : cl ≠ b26) (nx22 : cl ≠ it33) (nx30 : dc ≠ b22) (nx31 : dc ≠ b26) (nx32 : dc ≠ it33) (nx60 : kl ≠ b22) (nx61 : kl ≠ b26) (nx62 : kl ≠ it33) (nx65 : dk ≠ b22) (nx66 : dk ≠ b26) (nx67 : dk ≠ it33) (nx69 : w0 ≠ b22) (nx72 : w1 ≠ b22) (nx73 : w1 ≠ b26) (nx74 : w1 ≠ it33) (nx75 : b22 ≠ b26) (nx76 : b22 ≠ it33) (nx77 : b26 ≠ it33) (g_b22 : n0 ≤ b22) (sz_b22 : h0.size ≤ b22) (g_b26 : n0 ≤ b26) (sz_b26 : h0.size ≤ b26) (g_it33 : n0 ≤ it33) (sz_it33 : h0.size ≤ it33) :
    own_GoW p.tables e below Z consts_1 (Q_vin_2 Z a cl kl aD kD dc kc y0 y1 y2 dk kk w0 w1 i0 i1 h0 n0) s rr16.cells rr16.slots T1 (mkF m 58 #[vr a, vr cl, vr kl, vr it33, vr w0, uu] []) := by
  have hEL : EW Z a0 consts_1 := own_EL hw
  have hwS : ∀ d ∈ Bundle.stringAtoms, d.before a0 Z = true := fun d hd => hw d (own_SA d hd)
  refine bW T1 (mkF m 59 #[vr a, vr cl, vr kl, vr it33, vr w0, uu] [(.ref cl)]) (fun _ k => XS.aloadN X1.here hx rfl (hb hby d16_58) rfl rfl k) ?_
  refine bW T1 (mkF m 61 #[vr a, vr cl, vr kl, vr it33, vr w0, uu] [(.ref w0), (.ref cl)]) (fun _ k => XS.aload X1.here hx rfl (hb hby d16_59) rfl rfl k) ?_
  obtain ⟨cq41, kq41, q41a, q41b, q41c⟩ := isOf hZ1 e1 Y18
  obtain ⟨_, _, ⟨T41, L41, k41, n41⟩, -, X41, ⟨Lc41, hQ41, l41, y41, z41⟩, st41⟩ := X1.virtualBack hx (y := yy15) (z := yy15) hown1 (mvT hZ1 (hw _ (mo 188 rfl))) (mvT hZ1 (hw _ (mo 189 rfl))) (notFace_of_selects (args := #[]) (mvT hZ1 (hw _ (mo 191 rfl)))) (mvT hZ1 (hw _ (mo 191 rfl))) (mvT hZ1 (hw _ (mo 190 rfl))) (by decide) (backOf (W := 1) (cg_value l Z a0 hw [] w0 i0 h1 n0 (Nat.le_trans Z0 Kc.1) Y19) hZ1 (hw _ (mo 192 rfl)) (hw _ (mo 87 rfl)) (by decide) (by decide)) q41a q41c (g := (mkF m 61 #[vr a, vr cl, vr kl, vr it33, vr w0, uu] [(.ref w0), (.ref cl)])) rfl (by rw [hml]; rfl) (Steps.refl _) (argsL := []) (rest := [(.ref cl)]) (lenOf pd_14 rfl) rfl (Nat.le_of_eq rfl) (hb hby d16_61) (fun _ _ => ⟨rfl, e1, (by decide : 3 ≤ _), (by decide : 10 ≤ _)⟩)
  dsimp only [Pt.U, Pt.locs, Pt.cells, Pt.slots] at X41 l41 y41 z41 st41 hQ41
  subst l41 y41 z41
  obtain ⟨rfl, N41q, e41⟩ := hQ41
  have N41 := Fr.app Nc N41q
  refine bW T41 (mkF m 64 #[vr a, vr cl, vr kl, vr it33, vr w0, uu] [(.int i0), (.ref cl)]) (fun _ k => st41.trans k) ?_
  obtain ⟨cq42, kq42, q42a, q42b, q42c⟩ := isOf hZ1 e41 Y6
  obtain ⟨_, _, ⟨T42, L42, k42, n42⟩, -, X42, ⟨Lc42, hQ42, l42, y42, z42⟩, st42⟩ := X41.interfaceBack hx (xi := yy30) (y := yy26) hown1 (mvT hZ1 (hw _ (mo 193 rfl))) (mvT hZ1 (hw _ (mo 194 rfl))) (mvT hZ1 (hw _ (mo 195 rfl))) (mvT hZ1 (hw _ (mo 196 rfl))) (mvT hZ1 (hw _ (mo 197 rfl))) (mvT hZ1 (hw _ (mo 198 rfl))) (mvT hZ1 (hw _ (mo 199 rfl))) (mvT hZ1 (hw _ (mo 129 rfl))) (by decide) (backOf (W := 0) (get3 l Z a0 hw [] cl i0 dc kc y0 y1 y2 h1 n0 (Nat.le_trans Z0 Kc.1) Y6 Y7 Y8 Y9 hi0) hZ1 (hw _ (mo 200 rfl)) (hw _ (mo 32 rfl)) (by decide) (by decide)) q42a q42b q42c (g := (mkF m 64 #[vr a, vr cl, vr kl, vr it33, vr w0, uu] [(.int i0), (.ref cl)])) rfl (by rw [hml]; rfl) (Steps.refl _) (argsL := [(.int i0)]) (rest := []) (lenOf pd_10 rfl) rfl (Nat.le_of_eq rfl) (hb hby d16_64) (fun _ _ => ⟨rfl, e41, (by decide : 3 ≤ _), (by decide : 10 ≤ _)⟩)
  dsimp only [Pt.U, Pt.locs, Pt.cells, Pt.slots] at X42 l42 y42 z42 st42 hQ42
  subst l42 y42 z42
  obtain ⟨rfl, N42q, e42⟩ := hQ42
  have N42 := Fr.app N41 N42q
  have Ep42 := own_pE i0 Y10 Y11 Y12
  refine bW T42 (mkF m 69 #[vr a, vr cl, vr kl, vr it33, vr w0, uu] [(.ref (own_p3 i0 y0 y1 y2))]) (fun _ k => st42.trans k) ?_
  obtain ⟨T43, X43, e43, st43⟩ := castY X42 hx hZ1 hown1 (hw _ (mo 214 rfl)) e42 (Ins.self Ep42) (g := (mkF m 69 #[vr a, vr cl, vr kl, vr it33, vr w0, uu] [(.ref (own_p3 i0 y0 y1 y2))])) rfl rfl (hb hby d16_69)
  refine bW T43 (mkF m 72 #[vr a, vr cl, vr kl, vr it33, vr w0, uu] [(.ref (own_p3 i0 y0 y1 y2))]) (fun _ k => st43 _ k) ?_
  refine bW T43 (mkF m 74 #[vr a, vr cl, vr kl, vr it33, vr w0, vr (own_p3 i0 y0 y1 y2)] []) (fun _ k => XS.astore X43.here hx rfl (hb hby d16_72) rfl rfl rfl k) ?_
  refine bW T43 (mkF m 75 #[vr a, vr cl, vr kl, vr it33, vr w0, vr (own_p3 i0 y0 y1 y2)] [(.ref a)]) (fun _ k => XS.aloadN X43.here hx rfl (hb hby d16_74) rfl rfl k) ?_
  obtain ⟨T44, X44, e44, st44⟩ := getF X43 hx hZ1 hown1 (host := "") (Or.inl (hw _ (mo 116 rfl))) Via.refl e43 Y3 (g := (mkF m 75 #[vr a, vr cl, vr kl, vr it33, vr w0, vr (own_p3 i0 y0 y1 y2)] [(.ref a)])) rfl rfl (hb hby d16_75)
  refine bW T44 (mkF m 78 #[vr a, vr cl, vr kl, vr it33, vr w0, vr (own_p3 i0 y0 y1 y2)] [(.ref b22)]) (fun _ k => st44 _ k) ?_
  refine bW T44 (mkF m 80 #[vr a, vr cl, vr kl, vr it33, vr w0, vr (own_p3 i0 y0 y1 y2)] [(.ref (own_p3 i0 y0 y1 y2)), (.ref b22)]) (fun _ k => XS.aload X44.here hx rfl (hb hby d16_78) rfl rfl k) ?_
  obtain ⟨cq45, kq45, q45a, q45b, q45c⟩ := isOf hZ1 e44 Y24
  obtain ⟨_, _, ⟨T45, L45, k45, n45⟩, -, X45, ⟨Lc45, hQ45, l45, y45, z45⟩, st45⟩ := X44.interfaceBack hx (xi := yy31) (y := yy13) hown1 (mvT hZ1 (hw _ (mo 215 rfl))) (mvT hZ1 (hw _ (mo 216 rfl))) (mvT hZ1 (hw _ (mo 217 rfl))) (mvT hZ1 (hw _ (mo 218 rfl))) (mvT hZ1 (hw _ (mo 56 rfl))) (mvT hZ1 (hw _ (mo 219 rfl))) (mvT hZ1 (hw _ (mo 220 rfl))) (mvT hZ1 (hw _ (mo 129 rfl))) (by decide) (backOf (W := 0) (ad1s_0 l Z a0 hw [] b22 (own_p3 i0 y0 y1 y2) aD kD sS h1 n0 (Nat.le_trans Z0 Kc.1) O0 Y24 Y25 Y26 Y27 g_b22 S_DE V_aD Ep42 (hw _ (mo 84 rfl))) hZ1 (hw _ (mo 58 rfl)) (hw _ (mo 32 rfl)) (by decide) (by decide)) q45a q45b q45c (g := (mkF m 80 #[vr a, vr cl, vr kl, vr it33, vr w0, vr (own_p3 i0 y0 y1 y2)] [(.ref (own_p3 i0 y0 y1 y2)), (.ref b22)])) rfl (by rw [hml]; rfl) (Steps.refl _) (argsL := [(.ref (own_p3 i0 y0 y1 y2))]) (rest := []) (lenOf pd_15 rfl) rfl (Nat.le_of_eq rfl) (hb hby d16_80) (fun _ _ => ⟨rfl, e44, (by decide : 4 ≤ _), (by decide : 20 ≤ _)⟩)
  dsimp only [Pt.U, Pt.locs, Pt.cells, Pt.slots] at X45 l45 y45 z45 st45 hQ45
  subst l45 y45 z45
  obtain ⟨rfl, N45q, K45, d45, kd45, zd45, Fm45, Fe45, Fz45, V45, O45⟩ := hQ45
  have N45 := Fr.app N42 N45q
  have KK45 : Keep h0 T45.heap [a] := Keep.trans Kc K45 (allS (Or.inr sz_b22) all0)
  have C45 : CHr Z consts_1 s.vm s.heap vm1 T45.heap := CHr.trans C1 (CHr.keep K45 (sfS (Safe.exa (EL := consts_1) (vm := vm1) hZ1.alike Y24 (by decide) (by decide)) sf0) C1.1)
  have sz_d45 : h0.size ≤ d45 := Nat.le_trans Kc.1 zd45
  have g_d45 : n0 ≤ d45 := Nat.le_trans Z0 sz_d45
  refine bW T45 (mkF m 85 #[vr a, vr cl, vr kl, vr it33, vr w0, vr (own_p3 i0 y0 y1 y2)] [(.int (1 : Int32))]) (fun _ k => st45.trans k) ?_
  refine bW T45 (mkF m 86 #[vr a, vr cl, vr kl, vr it33, vr w0, vr (own_p3 i0 y0 y1 y2)] []) (fun _ k => XS.pop X45.here hx rfl (hb hby d16_85) rfl rfl k) ?_
  refine bW T45 (mkF m 87 #[vr a, vr cl, vr kl, vr it33, vr w0, vr (own_p3 i0 y0 y1 y2)] [(.ref a)]) (fun _ k => XS.aloadN X45.here hx rfl (hb hby d16_86) rfl rfl k) ?_
  obtain ⟨T46, X46, e46, st46⟩ := getF X45 hx hZ1 hown1 (host := "") (Or.inl (hw _ (mo 118 rfl))) Via.refl rfl (Fld.keep Y4 K45 (ninS nx9 nin0)) (g := (mkF m 87 #[vr a, vr cl, vr kl, vr it33, vr w0, vr (own_p3 i0 y0 y1 y2)] [(.ref a)])) rfl rfl (hb hby d16_87)
  refine bW T46 (mkF m 90 #[vr a, vr cl, vr kl, vr it33, vr w0, vr (own_p3 i0 y0 y1 y2)] [(.ref b26)]) (fun _ k => st46 _ k) ?_
  refine bW T46 (mkF m 92 #[vr a, vr cl, vr kl, vr it33, vr w0, vr (own_p3 i0 y0 y1 y2)] [(.ref w0), (.ref b26)]) (fun _ k => XS.aload X46.here hx rfl (hb hby d16_90) rfl rfl k) ?_
  obtain ⟨cq47, kq47, q47a, q47b, q47c⟩ := isOf hZ1 e46 (Exa.keep Y18 K45)
  obtain ⟨_, _, ⟨T47, L47, k47, n47⟩, -, X47, ⟨Lc47, hQ47, l47, y47, z47⟩, st47⟩ := X46.virtualBack hx (y := yy16) (z := yy16) hown1 (mvT hZ1 (hw _ (mo 221 rfl))) (mvT hZ1 (hw _ (mo 222 rfl))) (notFace_of_selects (args := #[]) (mvT hZ1 (hw _ (mo 224 rfl)))) (mvT hZ1 (hw _ (mo 224 rfl))) (mvT hZ1 (hw _ (mo 223 rfl))) (by decide) (backOf (W := 1) (cg_unit l Z a0 hw [] w0 (-1 : Int32) T45.heap n0 (Nat.le_trans (Nat.le_trans Z0 Kc.1) K45.1) (Fld.keep Y20 K45 (ninS nx69 nin0))) hZ1 (hw _ (mo 225 rfl)) (hw _ (mo 87 rfl)) (by decide) (by decide)) q47a q47c (g := (mkF m 92 #[vr a, vr cl, vr kl, vr it33, vr w0, vr (own_p3 i0 y0 y1 y2)] [(.ref w0), (.ref b26)])) rfl (by rw [hml]; rfl) (Steps.refl _) (argsL := []) (rest := [(.ref b26)]) (lenOf pd_14 rfl) rfl (Nat.le_of_eq rfl) (hb hby d16_92) (fun _ _ => ⟨rfl, e46, (by decide : 4 ≤ _), (by decide : 20 ≤ _)⟩)
  dsimp only [Pt.U, Pt.locs, Pt.cells, Pt.slots] at X47 l47 y47 z47 st47 hQ47
  subst l47 y47 z47
  obtain ⟨rfl, N47q, e47⟩ := hQ47
  have N47 := Fr.app N45 N47q
  refine bW T47 (mkF m 95 #[vr a, vr cl, vr kl, vr it33, vr w0, vr (own_p3 i0 y0 y1 y2)] [(.int (-1 : Int32)), (.ref b26)]) (fun _ k => st47.trans k) ?_
  refine bW T47 (mkF m 106 #[vr a, vr cl, vr kl, vr it33, vr w0, vr (own_p3 i0 y0 y1 y2)] [(.ref b26)]) (fun _ k => XS.ifYes X47.here hx rfl (pc0 := 95) (pc' := 106) rfl (hb hby d16_95) rfl ((if0 _ _).trans (tlt (by decide)).1) (by decide) (by decide) k) ?_
  obtain ⟨a48, T48, h48, k48, b48, kb48, X48, e48, E48, hS48, hk48, hZ48, hown48, Ex48, Fc48, Fv48, V48, la48, lb48, Cq48, Lt48, D48, st48⟩ := ldcCH (s := s) (EL := consts_1) X47 hx hZ1 hown1 (hw _ (mo 226 rfl)) hwS e47 hS1 (Nat.le_trans hk1 K45.1) hEL (mo 0 rfl) C45.1 (vs := []) (z := (0 : Int32)) ⟨by decide, by decide⟩ (by decide) (by decide) (g := (mkF m 106 #[vr a, vr cl, vr kl, vr it33, vr w0, vr (own_p3 i0 y0 y1 y2)] [(.ref b26)])) rfl (hb hby d16_106) (n := 0) (by decide) (by decide) (by decide) (by decide)
  have C48 : CHr Z consts_1 s.vm s.heap T48.vm h48 := CHr.trans C45 Cq48
  have K48 : Keep h0 h48 [a] := Keep.ext KK45 E48
  refine bW T48 (mkF m 108 #[vr a, vr cl, vr kl, vr it33, vr w0, vr (own_p3 i0 y0 y1 y2)] [(.ref a48), (.ref b26)]) (fun _ k => st48 _ k) ?_
  refine bW T48 (mkF m 125 #[vr a, vr cl, vr kl, vr it33, vr w0, vr (own_p3 i0 y0 y1 y2)] [(.ref a48), (.ref b26)]) (fun _ k => XS.goto X48.here hx rfl (pc0 := 108) (pc' := 125) rfl (hb hby d16_108) (by decide) (by decide) k) ?_
  obtain ⟨cq49, kq49, q49a, q49b, q49c⟩ := isOf hZ48 e48 (Exa.ext E48 (Exa.keep Y28 K45))
  obtain ⟨_, _, ⟨T49, L49, k49, n49⟩, -, X49, ⟨Lc49, hQ49, l49, y49, z49⟩, st49⟩ := X48.interfaceBack hx (xi := yy31) (y := yy13) hown48 (mvT hZ48 (hw _ (mo 215 rfl))) (mvT hZ48 (hw _ (mo 216 rfl))) (mvT hZ48 (hw _ (mo 217 rfl))) (mvT hZ48 (hw _ (mo 218 rfl))) (mvT hZ48 (hw _ (mo 56 rfl))) (mvT hZ48 (hw _ (mo 219 rfl))) (mvT hZ48 (hw _ (mo 220 rfl))) (mvT hZ48 (hw _ (mo 129 rfl))) (by decide) (backOf (W := 0) (ad1s_0 l Z a0 hw [] b26 a48 aD kD sS h48 n0 (Nat.le_trans (Nat.le_trans (Nat.le_trans Z0 Kc.1) K45.1) E48.1) (Old.ext (Old.keep O0 K45 (allS g_b22 all0)) E48) (Exa.ext E48 (Exa.keep Y28 K45)) (Fld.ext E48 (Fld.keep Y29 K45 (ninS (Ne.symm nx75) nin0))) (Fld.ext E48 (Fld.keep Y30 K45 (ninS (Ne.symm nx75) nin0))) (Fld.ext E48 (Fld.keep Y31 K45 (ninS (Ne.symm nx75) nin0))) g_b26 S_DE V_aD Ex48 (hw _ (mo 84 rfl))) hZ48 (hw _ (mo 58 rfl)) (hw _ (mo 32 rfl)) (by decide) (by decide)) q49a q49b q49c (g := (mkF m 125 #[vr a, vr cl, vr kl, vr it33, vr w0, vr (own_p3 i0 y0 y1 y2)] [(.ref a48), (.ref b26)])) rfl (by rw [hml]; rfl) (Steps.refl _) (argsL := [(.ref a48)]) (rest := []) (lenOf pd_15 rfl) rfl (Nat.le_of_eq rfl) (hb hby d16_125) (fun _ _ => ⟨rfl, e48, (by decide : 7 ≤ _), (by decide : 34 ≤ _)⟩)
  dsimp only [Pt.U, Pt.locs, Pt.cells, Pt.slots] at X49 l49 y49 z49 st49 hQ49
  subst l49 y49 z49
  obtain ⟨rfl, N49q, K49, d49, kd49, zd49, Fm49, Fe49, Fz49, V49, O49⟩ := hQ49
  have N49 := Fr.app N47 N49q
  have KK49 : Keep h0 T49.heap [a] := Keep.trans K48 K49 (allS (Or.inr sz_b26) all0)
  have C49 : CHr Z consts_1 s.vm s.heap T48.vm T49.heap := CHr.trans C48 (CHr.keep K49 (sfS (Safe.exa (EL := consts_1) (vm := T48.vm) hZ48.alike (Exa.ext E48 (Exa.keep Y28 K45)) (by decide) (by decide)) sf0) C48.1)
  have sz_d49 : h0.size ≤ d49 := Nat.le_trans K48.1 zd49
  have g_d49 : n0 ≤ d49 := Nat.le_trans Z0 sz_d49
  refine bW T49 (mkF m 130 #[vr a, vr cl, vr kl, vr it33, vr w0, vr (own_p3 i0 y0 y1 y2)] [(.int (1 : Int32))]) (fun _ k => st49.trans k) ?_
  refine bW T49 (mkF m 131 #[vr a, vr cl, vr kl, vr it33, vr w0, vr (own_p3 i0 y0 y1 y2)] []) (fun _ k => XS.pop X49.here hx rfl (hb hby d16_130) rfl rfl k) ?_
  have ne63 : b26 ≠ d45 := (Nat.ne_of_lt (Nat.lt_of_lt_of_le (Y28).lt zd45))
  have ne64 : a ≠ d45 := (Nat.ne_of_lt (Nat.lt_of_lt_of_le (Y2).lt zd45))
  have ne65 : a ≠ d49 := (Nat.ne_of_lt (Nat.lt_of_lt_of_le ((Exa.ext E48 (Exa.keep Y2 K45))).lt zd49))
  have ne66 : kl ≠ d45 := (Nat.ne_of_lt (Nat.lt_of_lt_of_le (Y13).lt zd45))
  have ne67 : kl ≠ d49 := (Nat.ne_of_lt (Nat.lt_of_lt_of_le ((Exa.ext E48 (Exa.keep Y13 K45))).lt zd49))
  have ne68 : w1 ≠ d45 := (Nat.ne_of_lt (Nat.lt_of_lt_of_le (Y21).lt zd45))
  have ne69 : b22 ≠ d45 := (Nat.ne_of_lt (Nat.lt_of_lt_of_le (Y24).lt zd45))
  have ne70 : b22 ≠ d49 := (Nat.ne_of_lt (Nat.lt_of_lt_of_le ((Exa.ext E48 (Exa.keep Y24 K45))).lt zd49))
  have ne71 : b26 ≠ d49 := (Nat.ne_of_lt (Nat.lt_of_lt_of_le ((Exa.ext E48 (Exa.keep Y28 K45))).lt zd49))
  have ne72 : it33 ≠ d45 := (Nat.ne_of_lt (Nat.lt_of_lt_of_le (Y32).lt zd45))
  have ne73 : it33 ≠ d49 := (Nat.ne_of_lt (Nat.lt_of_lt_of_le ((Exa.ext E48 (Exa.keep Y32 K45))).lt zd49))
  have ne74 : d45 ≠ d49 := (Nat.ne_of_lt (Nat.lt_of_lt_of_le ((Arv.ext V45 E48)).lt zd49))
  exact vin_2_c2 (h1 := T49.heap) (T1 := T49) (vm1 := T48.vm) hw X49 rfl KK49 N49 Z0 hi1 hZ48 hown48 hS48 (Nat.le_trans hk48 K49.1) C49 hx hby hml hlk hrt (Fld.keep (Fld.ext E48 (Fld.keep Y3 K45 (ninS nx9 nin0))) K49 (ninS nx10 nin0)) (Fld.keep (Fld.ext E48 (Fld.keep Y4 K45 (ninS nx9 nin0))) K49 (ninS nx10 nin0)) (Exa.keep (Exa.ext E48 (Exa.keep Y6 K45)) K49) (Fld.keep (Fld.ext E48 (Fld.keep Y7 K45 (ninS nx20 nin0))) K49 (ninS nx21 nin0)) (Fld.keep (Fld.ext E48 (Fld.keep Y8 K45 (ninS nx20 nin0))) K49 (ninS nx21 nin0)) (Arv.keep (Arv.ext (Arv.keep Y9 K45 (ninS nx30 nin0)) E48) K49 (ninS nx31 nin0)) (Exa.keep (Exa.ext E48 (Exa.keep Y10 K45)) K49) (Exa.keep (Exa.ext E48 (Exa.keep Y11 K45)) K49) (Exa.keep (Exa.ext E48 (Exa.keep Y12 K45)) K49) (Fld.keep (Fld.ext E48 (Fld.keep Y14 K45 (ninS nx60 nin0))) K49 (ninS nx61 nin0)) (Fld.keep (Fld.ext E48 (Fld.keep Y15 K45 (ninS nx60 nin0))) K49 (ninS nx61 nin0)) (Fld.keep (Fld.ext E48 (Fld.keep Y16 K45 (ninS nx60 nin0))) K49 (ninS nx61 nin0)) (Arv.keep (Arv.ext (Arv.keep Y17 K45 (ninS nx65 nin0)) E48) K49 (ninS nx66 nin0)) (Exa.keep (Exa.ext E48 (Exa.keep Y21 K45)) K49) (Fld.keep (Fld.ext E48 (Fld.keep Y22 K45 (ninS nx72 nin0))) K49 (ninS nx73 nin0)) (Fld.keep (Fld.ext E48 (Fld.keep Y23 K45 (ninS nx72 nin0))) K49 (ninS nx73 nin0)) (Exa.keep (Exa.ext E48 (Exa.keep Y24 K45)) K49) (Fld.keep (Fld.ext E48 Fm45) K49 (ninS nx75 nin0)) (Fld.keep (Fld.ext E48 Fe45) K49 (ninS nx75 nin0)) (Fld.keep (Fld.ext E48 Fz45) K49 (ninS nx75 nin0)) (Exa.keep (Exa.ext E48 (Exa.keep Y28 K45)) K49) Fm49 Fe49 Fz49 (Exa.keep (Exa.ext E48 (Exa.keep Y32 K45)) K49) (Fld.keep (Fld.ext E48 (Fld.keep Y33 K45 (ninS (Ne.symm nx76) nin0))) K49 (ninS (Ne.symm nx77) nin0)) (Fld.keep (Fld.ext E48 (Fld.keep Y34 K45 (ninS (Ne.symm nx76) nin0))) K49 (ninS (Ne.symm nx77) nin0)) (Fld.keep (Fld.ext E48 (Fld.keep Y35 K45 (ninS (Ne.symm nx76) nin0))) K49 (ninS (Ne.symm nx77) nin0)) (Fld.keep (Fld.ext E48 (Fld.keep Y36 K45 (ninS (Ne.symm nx76) nin0))) K49 (ninS (Ne.symm nx77) nin0)) (Arv.keep (Arv.ext V45 E48) K49 (ninS (Ne.symm ne63) nin0)) V49 nx9 nx10 nx11 ne64 ne65 nx22 nx32 nx60 nx61 nx62 ne66 ne67 nx67 nx72 nx74 ne68 nx75 nx76 ne69 ne70 nx77 ne63 ne71 ne72 ne73 ne74 g_b22 sz_b22 g_b26 sz_b26 g_it33 sz_it33 g_d45 sz_d45 g_d49 sz_d49 O45 O49
theorem vin_2 (l : Launch) (Z : State) (a0 : Array Value) (hw : HW Z a0) (ws : List Jvm.Cond) (a cl : Addr) (kl aD : Addr) (kD : ClassId) (dc : Addr) (kc : ClassId) (y0 y1 : Addr) (y2 dk : Addr) (kk : ClassId) (w0 w1 : Addr) (i0 i1 : Int32) (h0 : Heap) (n0 : Nat) (Z0 : n0 ≤ h0.size) (O0 : Old Z n0 h0) (S_DE : Sta Z Z.heap sL "DEFAULTCAPACITY_EMPTY_ELEMENTDATA" "[Ljava/lang/Object;" (.ref aD)) (V_aD : Arv Z Z.heap aD kD (.object sO) (0 : Int32) [] .null) (E_a : Exa Z h0 a sV) (F_values_a : Fld Z h0 a sV "values" "Ljava/util/List;" .null) (F_units_a : Fld Z h0 a sV "units" "Ljava/util/List;" .null) (F_columns_a : Fld Z h0 a sV "columns" "Ljava/util/List;" .null) (g_a : n0 ≤ a) (E_cl : Exa Z h0 cl sL) (F_size_cl : Fld Z h0 cl sL "size" "I" (.int (3 : Int32))) (F_elementData_cl : Fld Z h0 cl sL "elementData" sE (.ref dc)) (V_dc : Arv Z h0 dc kc (.object sO) (10 : Int32) [(.ref y0), (.ref y1), (.ref y2), .null, .null, .null, .null, .null, .null, .null] .null) (E_y0 : Exa Z h0 y0 sS) (E_y1 : Exa Z h0 y1 sS) (E_y2 : Exa Z h0 y2 sS) (E_kl : Exa Z h0 kl sL) (F_modCount_kl : Fld Z h0 kl sB "modCount" "I" (.int (2 : Int32))) (F_elementData_kl : Fld Z h0 kl sL "elementData" sE (.ref dk)) (F_size_kl : Fld Z h0 kl sL "size" "I" (.int (2 : Int32))) (V_dk : Arv Z h0 dk kk (.object sO) (10 : Int32) [(.ref w0), (.ref w1), .null, .null, .null, .null, .null, .null, .null, .null] .null) (E_w0 : Exa Z h0 w0 sA) (F_value_w0 : Fld Z h0 w0 sA "value" "I" (.int i0)) (F_unit_w0 : Fld Z h0 w0 sA "unit" "I" (.int (-1 : Int32))) (hi0 : i0 = 0 ∨ i0 = 1 ∨ i0 = 2) (E_w1 : Exa Z h0 w1 sA) (F_value_w1 : Fld Z h0 w1 sA "value" "I" (.int i1)) (F_unit_w1 : Fld Z h0 w1 sA "unit" "I" (.int (-1 : Int32))) (hi1 : i1 = 0 ∨ i1 = 1 ∨ i1 = 2) (ne_cl : cl ≠ a) (ne_dc : dc ≠ a) (ne_kl : kl ≠ a) (ne_dk : dk ≠ a) (ne_w0 : w0 ≠ a) (ne_w1 : w1 ≠ a) :
    MetFree l yy27 (head1 (Jvm.Cond.code yy27 prog_15_method_1_code 6 none :: ws) rr16) (fun zz UU => zz = #[(.ref a), (.ref cl), (.ref kl)] ∧ Z.Warmed39 UU.vm ∧ UU.heap = h0 ∧ CHv Z consts_1 UU.vm h0 ∧ V_vin_2 Z a cl kl aD kD dc kc y0 y1 y2 dk kk w0 w1 i0 i1 h0 UU.vm) (fun _ _ _ _ _ => True) (fun _ U o U' => ∃ v L, o = .returned v ∧ Q_vin_2 Z a cl kl aD kD dc kc y0 y1 y2 dk kk w0 w1 i0 i1 h0 n0 v U'.heap L ∧ CHr Z consts_1 U.vm U.heap U'.vm U'.heap ∧ ReturnedEndW U o U' L rr16.cells rr16.slots) := by
  refine MetFree.of_bodySF (plainFor_of_name pn_16) hisR ?_
  intro p e s m args below meth c s₁ Bd hml0 hP hK
  obtain ⟨rfl, hZ, hh, hH, hV⟩ := hP
  have hx := Bd.exec
  have hby := Bd.bytes
  have hml : c.maxLocals = 6 := hml0
  have hown : s.vm.findClass sV = some m.cls := findClass_of_methodNamed Bd.named
  have hnm := (name_of_methodNamed Bd.named Bd.method).1
  have hlk : meth.locks = false := BodyLoose.notSynchronized Bd
  have X0 : Stand p l e rr16 (s.setVm s.vm) m #[(.ref a), (.ref cl), (.ref kl)] below meth c s₁ [] 0 0 := Stand.of_body Bd
  have e0 : s₁.heap = h0 := by rw [← hh, Bd.state]; rfl
  have N0 := Fr.nil n0
  show own_GoW p.tables e below Z consts_1 (Q_vin_2 Z a cl kl aD kD dc kc y0 y1 y2 dk kk w0 w1 i0 i1 h0 n0) s rr16.cells rr16.slots s₁ (entryFrame m #[(.ref a), (.ref cl), (.ref kl)] 6)
  rw [ef_vin_2 m a cl kl]
  have hS0 : s.Since s.vm s.heap.size := (State.WarmedH.refl s).since _
  have hk0 : s.heap.size ≤ h0.size := Nat.le_of_eq (congrArg Array.size hh)
  have C0 : CHr Z consts_1 s.vm s.heap s.vm h0 := by rw [hh]; exact CHr.refl hH
  have hEL : EW Z a0 consts_1 := own_EL hw
  have hwS : ∀ d ∈ Bundle.stringAtoms, d.before a0 Z = true := fun d hd => hw d (own_SA d hd)
  refine bW s₁ (mkF m 1 #[vr a, vr cl, vr kl, uu, uu, uu] [(.ref a)]) (fun _ k => XS.aloadN X0.here hx rfl (hb hby d16_0) rfl rfl k) ?_
  obtain ⟨T21, X21, e21, st21⟩ := initO X0 hx hZ hown (hw _ (mo 113 rfl)) (hw _ (mo 24 rfl)) (hw _ (mo 25 rfl)) e0 (g := (mkF m 1 #[vr a, vr cl, vr kl, uu, uu, uu] [(.ref a)])) rfl (by rw [hml]; rfl) rfl (hb hby d16_1) (by decide) (W := 0) (Nat.le_of_eq rfl) (by decide)
  refine bW T21 (mkF m 4 #[vr a, vr cl, vr kl, uu, uu, uu] []) (fun _ k => st21 _ k) ?_
  refine bW T21 (mkF m 5 #[vr a, vr cl, vr kl, uu, uu, uu] [(.ref a)]) (fun _ k => XS.aloadN X21.here hx rfl (hb hby d16_4) rfl rfl k) ?_
  obtain ⟨T22, h22, X22, e22, E22, A22, D22, -, st22⟩ := newO X21 hx hZ hown (hw _ (mo 114 rfl)) (hw _ (mo 31 rfl)) (hw _ (mo 32 rfl)) e21 (g := (mkF m 5 #[vr a, vr cl, vr kl, uu, uu, uu] [(.ref a)])) rfl (hb hby d16_5) (by decide) (by decide)
  obtain ⟨b22, g22⟩ : ∃ z, z = h0.size := ⟨_, rfl⟩
  rw [← g22] at A22 D22 st22
  have E_b22 : Exa Z h22 b22 sL := A22
  have F_modCount_b22 : Fld Z h22 b22 sB "modCount" "I" (ii 0) := D22 (Or.inl (hw _ (mo 50 rfl))) (ty := .int) (by decide)
  have F_elementData_b22 : Fld Z h22 b22 sL "elementData" sE .null := D22 (Or.inl (hw _ (mo 53 rfl))) (ty := (.array (.object sO))) (by decide)
  have F_size_b22 : Fld Z h22 b22 sL "size" "I" (ii 0) := D22 (Or.inl (hw _ (mo 62 rfl))) (ty := .int) (by decide)
  have g_b22 : n0 ≤ b22 := Nat.le_trans Z0 (Nat.le_of_eq g22.symm)
  have sz_b22 : h0.size ≤ b22 := Nat.le_trans (Keep.refl h0 [a]).1 (Nat.le_of_eq g22.symm)
  have K22 : Keep h0 h22 [a] := Keep.ext (Keep.refl h0 [a]) E22
  have C22 : CHr Z consts_1 s.vm s.heap s.vm h22 := CHr.trans C0 (CHr.ext E22 C0.1)
  refine bW T22 (mkF m 8 #[vr a, vr cl, vr kl, uu, uu, uu] [(.ref b22), (.ref a)]) (fun _ k => st22 _ k) ?_
  refine bW T22 (mkF m 9 #[vr a, vr cl, vr kl, uu, uu, uu] [(.ref b22), (.ref b22), (.ref a)]) (fun _ k => XS.dup X22.here hx rfl (hb hby d16_8) rfl rfl k) ?_
  obtain ⟨_, _, ⟨T23, L23, k23, n23⟩, -, X23, ⟨Lc23, hQ23, l23, y23, z23⟩, st23⟩ := X22.specialBack hx (y := yy8) rfl hown (mvT hZ (hw _ (mo 115 rfl))) (mvT hZ (hw _ (mo 34 rfl))) (mvT hZ (hw _ (mo 35 rfl))) (by decide) (backOf (W := 2) (ali l Z a0 hw [] b22 aD h22 n0 (Nat.le_trans Z0 E22.1) (Old.ext O0 E22) E_b22 F_modCount_b22 F_elementData_b22 F_size_b22 g_b22 S_DE) hZ (hw _ (mo 35 rfl)) (hw _ (mo 32 rfl)) (by decide) (by decide)) (g := (mkF m 9 #[vr a, vr cl, vr kl, uu, uu, uu] [(.ref b22), (.ref b22), (.ref a)])) rfl (by rw [hml]; rfl) (Steps.refl _) (a := b22) (argsL := []) (rest := [(.ref b22), (.ref a)]) (lenOf pd_3 rfl) rfl (Nat.le_of_eq rfl) (hb hby d16_9) (fun _ _ => ⟨rfl, e22, (by decide : 1 ≤ _), (by decide : 3 ≤ _)⟩)
  dsimp only [Pt.U, Pt.locs, Pt.cells, Pt.slots] at X23 l23 y23 z23 st23 hQ23
  subst l23 y23 z23
  obtain ⟨rfl, N23q, K23, Fm23, Fe23, Fz23⟩ := hQ23
  have N23 := Fr.app (Fr.nil n0) N23q
  have KK23 : Keep h0 T23.heap [a] := Keep.trans K22 K23 (allS (Or.inr sz_b22) all0)
  have C23 : CHr Z consts_1 s.vm s.heap s.vm T23.heap := CHr.trans C22 (CHr.keep K23 (sfS (Safe.exa (EL := consts_1) (vm := s.vm) hZ.alike E_b22 (by decide) (by decide)) sf0) C22.1)
  refine bW T23 (mkF m 12 #[vr a, vr cl, vr kl, uu, uu, uu] [(.ref b22), (.ref a)]) (fun _ k => st23.trans k) ?_
  have ne24 : a ≠ b22 := (Nat.ne_of_lt (Nat.lt_of_lt_of_le E_a.lt (Nat.le_of_eq g22.symm)))
  obtain ⟨T25, h25, X25, e25, W25, st25⟩ := putF X23 hx hZ hown (host := "") (Or.inl (hw _ (mo 116 rfl))) Via.refl rfl (Fld.keep (Fld.ext E22 F_values_a) K23 (ninS ne24 nin0)) (Exa.keep (Exa.ext E22 E_a) K23) (Or.inr ⟨(hw _ (mo 117 rfl)), rfl, hnm⟩) (hw _ (mo 108 rfl)) (ty := (.object "java/util/List")) (by decide) rfl rfl (g := (mkF m 12 #[vr a, vr cl, vr kl, uu, uu, uu] [(.ref b22), (.ref a)])) rfl rfl (hb hby d16_12)
  have Fw25 : Fld Z h25 a sV "values" "Ljava/util/List;" (.ref b22) := Fld.same W25 (Fld.keep (Fld.ext E22 F_values_a) K23 (ninS ne24 nin0))
  have K25 : Keep h0 h25 [a] := Keep.wr KK23 W25 (Or.inl (mo 0 rfl))
  have C25 : CHr Z consts_1 s.vm s.heap s.vm h25 := CHr.trans C23 (CHr.wr W25 (Safe.exa (EL := consts_1) (vm := s.vm) hZ.alike (Exa.keep (Exa.ext E22 E_a) K23) (by decide) (by decide)) C23.1)
  have N25 := Fr.snoc X25 N23 g_a
  refine bW T25 (mkF m 15 #[vr a, vr cl, vr kl, uu, uu, uu] []) (fun _ k => st25 _ k) ?_
  refine bW T25 (mkF m 16 #[vr a, vr cl, vr kl, uu, uu, uu] [(.ref a)]) (fun _ k => XS.aloadN X25.here hx rfl (hb hby d16_15) rfl rfl k) ?_
  obtain ⟨T26, h26, X26, e26, E26, A26, D26, -, st26⟩ := newO X25 hx hZ hown (hw _ (mo 114 rfl)) (hw _ (mo 31 rfl)) (hw _ (mo 32 rfl)) e25 (g := (mkF m 16 #[vr a, vr cl, vr kl, uu, uu, uu] [(.ref a)])) rfl (hb hby d16_16) (by decide) (by decide)
  obtain ⟨b26, g26⟩ : ∃ z, z = h25.size := ⟨_, rfl⟩
  rw [← g26] at A26 D26 st26
  have E_b26 : Exa Z h26 b26 sL := A26
  have F_modCount_b26 : Fld Z h26 b26 sB "modCount" "I" (ii 0) := D26 (Or.inl (hw _ (mo 50 rfl))) (ty := .int) (by decide)
  have F_elementData_b26 : Fld Z h26 b26 sL "elementData" sE .null := D26 (Or.inl (hw _ (mo 53 rfl))) (ty := (.array (.object sO))) (by decide)
  have F_size_b26 : Fld Z h26 b26 sL "size" "I" (ii 0) := D26 (Or.inl (hw _ (mo 62 rfl))) (ty := .int) (by decide)
  have g_b26 : n0 ≤ b26 := Nat.le_trans (Nat.le_trans (Nat.le_trans (Nat.le_trans Z0 E22.1) K23.1) (Keep.of_wr W25).1) (Nat.le_of_eq g26.symm)
  have sz_b26 : h0.size ≤ b26 := Nat.le_trans K25.1 (Nat.le_of_eq g26.symm)
  have K26 : Keep h0 h26 [a] := Keep.ext K25 E26
  have C26 : CHr Z consts_1 s.vm s.heap s.vm h26 := CHr.trans C25 (CHr.ext E26 C25.1)
  refine bW T26 (mkF m 19 #[vr a, vr cl, vr kl, uu, uu, uu] [(.ref b26), (.ref a)]) (fun _ k => st26 _ k) ?_
  refine bW T26 (mkF m 20 #[vr a, vr cl, vr kl, uu, uu, uu] [(.ref b26), (.ref b26), (.ref a)]) (fun _ k => XS.dup X26.here hx rfl (hb hby d16_19) rfl rfl k) ?_
  obtain ⟨_, _, ⟨T27, L27, k27, n27⟩, -, X27, ⟨Lc27, hQ27, l27, y27, z27⟩, st27⟩ := X26.specialBack hx (y := yy8) rfl hown (mvT hZ (hw _ (mo 115 rfl))) (mvT hZ (hw _ (mo 34 rfl))) (mvT hZ (hw _ (mo 35 rfl))) (by decide) (backOf (W := 2) (ali l Z a0 hw [] b26 aD h26 n0 (Nat.le_trans (Nat.le_trans (Nat.le_trans (Nat.le_trans Z0 E22.1) K23.1) (Keep.of_wr W25).1) E26.1) (Old.ext (Old.wr (Old.keep (Old.ext O0 E22) K23 (allS g_b22 all0)) W25 g_a) E26) E_b26 F_modCount_b26 F_elementData_b26 F_size_b26 g_b26 S_DE) hZ (hw _ (mo 35 rfl)) (hw _ (mo 32 rfl)) (by decide) (by decide)) (g := (mkF m 20 #[vr a, vr cl, vr kl, uu, uu, uu] [(.ref b26), (.ref b26), (.ref a)])) rfl (by rw [hml]; rfl) (Steps.refl _) (a := b26) (argsL := []) (rest := [(.ref b26), (.ref a)]) (lenOf pd_3 rfl) rfl (Nat.le_of_eq rfl) (hb hby d16_20) (fun _ _ => ⟨rfl, e26, (by decide : 2 ≤ _), (by decide : 6 ≤ _)⟩)
  dsimp only [Pt.U, Pt.locs, Pt.cells, Pt.slots] at X27 l27 y27 z27 st27 hQ27
  subst l27 y27 z27
  obtain ⟨rfl, N27q, K27, Fm27, Fe27, Fz27⟩ := hQ27
  have N27 := Fr.app N25 N27q
  have KK27 : Keep h0 T27.heap [a] := Keep.trans K26 K27 (allS (Or.inr sz_b26) all0)
  have C27 : CHr Z consts_1 s.vm s.heap s.vm T27.heap := CHr.trans C26 (CHr.keep K27 (sfS (Safe.exa (EL := consts_1) (vm := s.vm) hZ.alike E_b26 (by decide) (by decide)) sf0) C26.1)
  refine bW T27 (mkF m 23 #[vr a, vr cl, vr kl, uu, uu, uu] [(.ref b26), (.ref a)]) (fun _ k => st27.trans k) ?_
  have ne28 : a ≠ b26 := (Nat.ne_of_lt (Nat.lt_of_lt_of_le (Exa.wr W25 (Exa.keep (Exa.ext E22 E_a) K23)).lt (Nat.le_of_eq g26.symm)))
  obtain ⟨T29, h29, X29, e29, W29, st29⟩ := putF X27 hx hZ hown (host := "") (Or.inl (hw _ (mo 118 rfl))) Via.refl rfl (Fld.keep (Fld.ext E26 (Fld.other W25 (Fld.keep (Fld.ext E22 F_units_a) K23 (ninS ne24 nin0)) (Or.inr (slot_ne (a0 := a0) (Or.inr (hw _ (mo 119 rfl))) (Or.inr (hw _ (mo 117 rfl))) (by decide) (t := (.object "java/util/List")) (t' := (.object "java/util/List")) (by decide) (by decide))))) K27 (ninS ne28 nin0)) (Exa.keep (Exa.ext E26 (Exa.wr W25 (Exa.keep (Exa.ext E22 E_a) K23))) K27) (Or.inr ⟨(hw _ (mo 119 rfl)), rfl, hnm⟩) (hw _ (mo 108 rfl)) (ty := (.object "java/util/List")) (by decide) rfl rfl (g := (mkF m 23 #[vr a, vr cl, vr kl, uu, uu, uu] [(.ref b26), (.ref a)])) rfl rfl (hb hby d16_23)
  have Fw29 : Fld Z h29 a sV "units" "Ljava/util/List;" (.ref b26) := Fld.same W29 (Fld.keep (Fld.ext E26 (Fld.other W25 (Fld.keep (Fld.ext E22 F_units_a) K23 (ninS ne24 nin0)) (Or.inr (slot_ne (a0 := a0) (Or.inr (hw _ (mo 119 rfl))) (Or.inr (hw _ (mo 117 rfl))) (by decide) (t := (.object "java/util/List")) (t' := (.object "java/util/List")) (by decide) (by decide))))) K27 (ninS ne28 nin0))
  have K29 : Keep h0 h29 [a] := Keep.wr KK27 W29 (Or.inl (mo 0 rfl))
  have C29 : CHr Z consts_1 s.vm s.heap s.vm h29 := CHr.trans C27 (CHr.wr W29 (Safe.exa (EL := consts_1) (vm := s.vm) hZ.alike (Exa.keep (Exa.ext E26 (Exa.wr W25 (Exa.keep (Exa.ext E22 E_a) K23))) K27) (by decide) (by decide)) C27.1)
  have N29 := Fr.snoc X29 N27 g_a
  refine bW T29 (mkF m 26 #[vr a, vr cl, vr kl, uu, uu, uu] []) (fun _ k => st29 _ k) ?_
  refine bW T29 (mkF m 27 #[vr a, vr cl, vr kl, uu, uu, uu] [(.ref a)]) (fun _ k => XS.aloadN X29.here hx rfl (hb hby d16_26) rfl rfl k) ?_
  refine bW T29 (mkF m 28 #[vr a, vr cl, vr kl, uu, uu, uu] [(.ref kl), (.ref a)]) (fun _ k => XS.aloadN X29.here hx rfl (hb hby d16_27) rfl rfl k) ?_
  obtain ⟨T30, h30, X30, e30, W30, st30⟩ := putF X29 hx hZ hown (host := "") (Or.inl (hw _ (mo 120 rfl))) Via.refl e29 (Fld.other W29 (Fld.keep (Fld.ext E26 (Fld.other W25 (Fld.keep (Fld.ext E22 F_columns_a) K23 (ninS ne24 nin0)) (Or.inr (slot_ne (a0 := a0) (Or.inr (hw _ (mo 121 rfl))) (Or.inr (hw _ (mo 117 rfl))) (by decide) (t := (.object "java/util/List")) (t' := (.object "java/util/List")) (by decide) (by decide))))) K27 (ninS ne28 nin0)) (Or.inr (slot_ne (a0 := a0) (Or.inr (hw _ (mo 121 rfl))) (Or.inr (hw _ (mo 119 rfl))) (by decide) (t := (.object "java/util/List")) (t' := (.object "java/util/List")) (by decide) (by decide)))) (Exa.wr W29 (Exa.keep (Exa.ext E26 (Exa.wr W25 (Exa.keep (Exa.ext E22 E_a) K23))) K27)) (Or.inr ⟨(hw _ (mo 121 rfl)), rfl, hnm⟩) (hw _ (mo 108 rfl)) (ty := (.object "java/util/List")) (by decide) rfl rfl (g := (mkF m 28 #[vr a, vr cl, vr kl, uu, uu, uu] [(.ref kl), (.ref a)])) rfl rfl (hb hby d16_28)
  have Fw30 : Fld Z h30 a sV "columns" "Ljava/util/List;" (.ref kl) := Fld.same W30 (Fld.other W29 (Fld.keep (Fld.ext E26 (Fld.other W25 (Fld.keep (Fld.ext E22 F_columns_a) K23 (ninS ne24 nin0)) (Or.inr (slot_ne (a0 := a0) (Or.inr (hw _ (mo 121 rfl))) (Or.inr (hw _ (mo 117 rfl))) (by decide) (t := (.object "java/util/List")) (t' := (.object "java/util/List")) (by decide) (by decide))))) K27 (ninS ne28 nin0)) (Or.inr (slot_ne (a0 := a0) (Or.inr (hw _ (mo 121 rfl))) (Or.inr (hw _ (mo 119 rfl))) (by decide) (t := (.object "java/util/List")) (t' := (.object "java/util/List")) (by decide) (by decide))))
  have K30 : Keep h0 h30 [a] := Keep.wr K29 W30 (Or.inl (mo 0 rfl))
  have C30 : CHr Z consts_1 s.vm s.heap s.vm h30 := CHr.trans C29 (CHr.wr W30 (Safe.exa (EL := consts_1) (vm := s.vm) hZ.alike (Exa.wr W29 (Exa.keep (Exa.ext E26 (Exa.wr W25 (Exa.keep (Exa.ext E22 E_a) K23))) K27)) (by decide) (by decide)) C29.1)
  have N30 := Fr.snoc X30 N29 g_a
  refine bW T30 (mkF m 31 #[vr a, vr cl, vr kl, uu, uu, uu] []) (fun _ k => st30 _ k) ?_
  refine bW T30 (mkF m 32 #[vr a, vr cl, vr kl, uu, uu, uu] [(.ref kl)]) (fun _ k => XS.aloadN X30.here hx rfl (hb hby d16_31) rfl rfl k) ?_
  have ne31 : kl ≠ b22 := (Nat.ne_of_lt (Nat.lt_of_lt_of_le E_kl.lt (Nat.le_of_eq g22.symm)))
  have ne32 : kl ≠ b26 := (Nat.ne_of_lt (Nat.lt_of_lt_of_le (Exa.wr W25 (Exa.keep (Exa.ext E22 E_kl) K23)).lt (Nat.le_of_eq g26.symm)))
  obtain ⟨cq33, kq33, q33a, q33b, q33c⟩ := isOf hZ e30 (Exa.wr W30 (Exa.wr W29 (Exa.keep (Exa.ext E26 (Exa.wr W25 (Exa.keep (Exa.ext E22 E_kl) K23))) K27)))
  obtain ⟨_, _, ⟨T33, L33, k33, n33⟩, -, X33, ⟨Lc33, hQ33, l33, y33, z33⟩, st33⟩ := X30.interfaceBack hx (xi := yy28) (y := yy19) hown (mvT hZ (hw _ (mo 122 rfl))) (mvT hZ (hw _ (mo 123 rfl))) (mvT hZ (hw _ (mo 124 rfl))) (mvT hZ (hw _ (mo 125 rfl))) (mvT hZ (hw _ (mo 126 rfl))) (mvT hZ (hw _ (mo 127 rfl))) (mvT hZ (hw _ (mo 128 rfl))) (mvT hZ (hw _ (mo 129 rfl))) (by decide) (backOf (W := 0) (ite l Z a0 hw [] kl (2 : Int32) h30 n0 (Nat.le_trans (Nat.le_trans (Nat.le_trans (Nat.le_trans (Nat.le_trans (Nat.le_trans (Nat.le_trans Z0 E22.1) K23.1) (Keep.of_wr W25).1) E26.1) K27.1) (Keep.of_wr W29).1) (Keep.of_wr W30).1) (Fld.other W30 (Fld.other W29 (Fld.keep (Fld.ext E26 (Fld.other W25 (Fld.keep (Fld.ext E22 F_modCount_kl) K23 (ninS ne31 nin0)) (Or.inl ne_kl))) K27 (ninS ne32 nin0)) (Or.inl ne_kl)) (Or.inl ne_kl))) hZ (hw _ (mo 130 rfl)) (hw _ (mo 32 rfl)) (by decide) (by decide)) q33a q33b q33c (g := (mkF m 32 #[vr a, vr cl, vr kl, uu, uu, uu] [(.ref kl)])) rfl (by rw [hml]; rfl) (Steps.refl _) (argsL := []) (rest := []) (lenOf pd_11 rfl) rfl (Nat.le_of_eq rfl) (hb hby d16_32) (fun _ _ => ⟨rfl, e30, (by decide : 3 ≤ _), (by decide : 10 ≤ _)⟩)
  dsimp only [Pt.U, Pt.locs, Pt.cells, Pt.slots] at X33 l33 y33 z33 st33 hQ33
  subst l33 y33 z33
  obtain ⟨it33, rfl, N33q, K33, zi33, E33, F0_33, F1_33, F2_33, F3_33⟩ := hQ33
  have N33 := Fr.app N30 N33q
  have KK33 : Keep h0 T33.heap [a] := Keep.trans K30 K33 all0
  have C33 : CHr Z consts_1 s.vm s.heap s.vm T33.heap := CHr.trans C30 (CHr.keep K33 sf0 C30.1)
  have sz_it33 : h0.size ≤ it33 := Nat.le_trans K30.1 zi33
  have g_it33 : n0 ≤ it33 := Nat.le_trans Z0 sz_it33
  refine bW T33 (mkF m 37 #[vr a, vr cl, vr kl, uu, uu, uu] [(.ref it33)]) (fun _ k => st33.trans k) ?_
  refine bW T33 (mkF m 38 #[vr a, vr cl, vr kl, vr it33, uu, uu] []) (fun _ k => XS.astoreN X33.here hx rfl (hb hby d16_37) rfl rfl rfl k) ?_
  refine bW T33 (mkF m 39 #[vr a, vr cl, vr kl, vr it33, uu, uu] [(.ref it33)]) (fun _ k => XS.aloadN X33.here hx rfl (hb hby d16_38) rfl rfl k) ?_
  obtain ⟨cq34, kq34, q34a, q34b, q34c⟩ := isOf hZ rfl E33
  obtain ⟨_, _, ⟨T34, L34, k34, n34⟩, -, X34, ⟨Lc34, hQ34, l34, y34, z34⟩, st34⟩ := X33.interfaceBack hx (xi := yy29) (y := yy20) hown (mvT hZ (hw _ (mo 146 rfl))) (mvT hZ (hw _ (mo 147 rfl))) (mvT hZ (hw _ (mo 148 rfl))) (mvT hZ (hw _ (mo 149 rfl))) (mvT hZ (hw _ (mo 150 rfl))) (mvT hZ (hw _ (mo 151 rfl))) (mvT hZ (hw _ (mo 152 rfl))) (mvT hZ (hw _ (mo 153 rfl))) (by decide) (backOf (W := 0) (ihn l Z a0 hw [] it33 kl (0 : Int32) (2 : Int32) T33.heap n0 (Nat.le_trans (Nat.le_trans (Nat.le_trans (Nat.le_trans (Nat.le_trans (Nat.le_trans (Nat.le_trans (Nat.le_trans Z0 E22.1) K23.1) (Keep.of_wr W25).1) E26.1) K27.1) (Keep.of_wr W29).1) (Keep.of_wr W30).1) K33.1) F3_33 F0_33 (Fld.keep (Fld.other W30 (Fld.other W29 (Fld.keep (Fld.ext E26 (Fld.other W25 (Fld.keep (Fld.ext E22 F_size_kl) K23 (ninS ne31 nin0)) (Or.inl ne_kl))) K27 (ninS ne32 nin0)) (Or.inl ne_kl)) (Or.inl ne_kl)) K33 nin0)) hZ (hw _ (mo 154 rfl)) (hw _ (mo 133 rfl)) (by decide) (by decide)) q34a q34b q34c (g := (mkF m 39 #[vr a, vr cl, vr kl, vr it33, uu, uu] [(.ref it33)])) rfl (by rw [hml]; rfl) (Steps.refl _) (argsL := []) (rest := []) (lenOf pd_12 rfl) rfl (Nat.le_of_eq rfl) (hb hby d16_39) (fun _ _ => ⟨rfl, rfl, (by decide : 3 ≤ _), (by decide : 10 ≤ _)⟩)
  dsimp only [Pt.U, Pt.locs, Pt.cells, Pt.slots] at X34 l34 y34 z34 st34 hQ34
  subst l34 y34 z34
  obtain ⟨vq34, N34q, e34⟩ := hQ34
  obtain rfl := vq34.trans (congrArg (fun z => some (Value.int z)) (if_neg (by decide)))
  have N34 := Fr.app N33 N34q
  refine bW T34 (mkF m 44 #[vr a, vr cl, vr kl, vr it33, uu, uu] [(.int (1 : Int32))]) (fun _ k => st34.trans k) ?_
  refine bW T34 (mkF m 47 #[vr a, vr cl, vr kl, vr it33, uu, uu] []) (fun _ k => XS.ifNo X34.here hx rfl (hb hby d16_44) rfl ((if0 _ _).trans (feq (by decide)).1) k) ?_
  refine bW T34 (mkF m 48 #[vr a, vr cl, vr kl, vr it33, uu, uu] [(.ref it33)]) (fun _ k => XS.aloadN X34.here hx rfl (hb hby d16_47) rfl rfl k) ?_
  have ne35 : dk ≠ b22 := (Nat.ne_of_lt (Nat.lt_of_lt_of_le V_dk.lt (Nat.le_of_eq g22.symm)))
  have ne36 : dk ≠ b26 := (Nat.ne_of_lt (Nat.lt_of_lt_of_le (Arv.other (Arv.keep (Arv.ext V_dk E22) K23 (ninS ne35 nin0)) W25 ne_dk).lt (Nat.le_of_eq g26.symm)))
  have ne37 : kl ≠ it33 := (Nat.ne_of_lt (Nat.lt_of_lt_of_le ((Exa.wr W30 (Exa.wr W29 (Exa.keep (Exa.ext E26 (Exa.wr W25 (Exa.keep (Exa.ext E22 E_kl) K23))) K27)))).lt zi33))
  have ne38 : dk ≠ it33 := (Nat.ne_of_lt (Nat.lt_of_lt_of_le ((Arv.other (Arv.other (Arv.keep (Arv.ext (Arv.other (Arv.keep (Arv.ext V_dk E22) K23 (ninS ne35 nin0)) W25 ne_dk) E26) K27 (ninS ne36 nin0)) W29 ne_dk) W30 ne_dk)).lt zi33))
  obtain ⟨cq39, kq39, q39a, q39b, q39c⟩ := isOf hZ e34 E33
  obtain ⟨_, _, ⟨T39, L39, k39, n39⟩, -, X39, ⟨Lc39, hQ39, l39, y39, z39⟩, st39⟩ := X34.interfaceBack hx (xi := yy32) (y := yy22) hown (mvT hZ (hw _ (mo 172 rfl))) (mvT hZ (hw _ (mo 173 rfl))) (mvT hZ (hw _ (mo 174 rfl))) (mvT hZ (hw _ (mo 175 rfl))) (mvT hZ (hw _ (mo 176 rfl))) (mvT hZ (hw _ (mo 177 rfl))) (mvT hZ (hw _ (mo 178 rfl))) (mvT hZ (hw _ (mo 153 rfl))) (by decide) (backOf (W := 0) (inx_0 l Z a0 hw [] it33 kl (2 : Int32) (-1 : Int32) (2 : Int32) dk kk [(.ref w0), (.ref w1), .null, .null, .null, .null, .null, .null, .null, .null] w0 T33.heap n0 (Nat.le_trans (Nat.le_trans (Nat.le_trans (Nat.le_trans (Nat.le_trans (Nat.le_trans (Nat.le_trans (Nat.le_trans Z0 E22.1) K23.1) (Keep.of_wr W25).1) E26.1) K27.1) (Keep.of_wr W29).1) (Keep.of_wr W30).1) K33.1) E33 F0_33 F1_33 F2_33 F3_33 g_it33 (Fld.keep (Fld.other W30 (Fld.other W29 (Fld.keep (Fld.ext E26 (Fld.other W25 (Fld.keep (Fld.ext E22 F_modCount_kl) K23 (ninS ne31 nin0)) (Or.inl ne_kl))) K27 (ninS ne32 nin0)) (Or.inl ne_kl)) (Or.inl ne_kl)) K33 nin0) (Fld.keep (Fld.other W30 (Fld.other W29 (Fld.keep (Fld.ext E26 (Fld.other W25 (Fld.keep (Fld.ext E22 F_size_kl) K23 (ninS ne31 nin0)) (Or.inl ne_kl))) K27 (ninS ne32 nin0)) (Or.inl ne_kl)) (Or.inl ne_kl)) K33 nin0) (Fld.keep (Fld.other W30 (Fld.other W29 (Fld.keep (Fld.ext E26 (Fld.other W25 (Fld.keep (Fld.ext E22 F_elementData_kl) K23 (ninS ne31 nin0)) (Or.inl ne_kl))) K27 (ninS ne32 nin0)) (Or.inl ne_kl)) (Or.inl ne_kl)) K33 nin0) (Arv.keep (Arv.other (Arv.other (Arv.keep (Arv.ext (Arv.other (Arv.keep (Arv.ext V_dk E22) K23 (ninS ne35 nin0)) W25 ne_dk) E26) K27 (ninS ne36 nin0)) W29 ne_dk) W30 ne_dk) K33 nin0) rfl (by decide) ne37 ne38) hZ (hw _ (mo 179 rfl)) (hw _ (mo 133 rfl)) (by decide) (by decide)) q39a q39b q39c (g := (mkF m 48 #[vr a, vr cl, vr kl, vr it33, uu, uu] [(.ref it33)])) rfl (by rw [hml]; rfl) (Steps.refl _) (argsL := []) (rest := []) (lenOf pd_13 rfl) rfl (Nat.le_of_eq rfl) (hb hby d16_48) (fun _ _ => ⟨rfl, e34, (by decide : 3 ≤ _), (by decide : 10 ≤ _)⟩)
  dsimp only [Pt.U, Pt.locs, Pt.cells, Pt.slots] at X39 l39 y39 z39 st39 hQ39
  subst l39 y39 z39
  obtain ⟨rfl, N39q, K39, F0_39, F1_39, F2_39, F3_39⟩ := hQ39
  have N39 := Fr.app N34 N39q
  have KK39 : Keep h0 T39.heap [a] := Keep.trans KK33 K39 (allS (Or.inr sz_it33) all0)
  have C39 : CHr Z consts_1 s.vm s.heap s.vm T39.heap := CHr.trans C33 (CHr.keep K39 (sfS (Safe.exa (EL := consts_1) (vm := s.vm) hZ.alike E33 (by decide) (by decide)) sf0) C33.1)
  refine bW T39 (mkF m 53 #[vr a, vr cl, vr kl, vr it33, uu, uu] [(.ref w0)]) (fun _ k => st39.trans k) ?_
  obtain ⟨T40, X40, e40, st40⟩ := castY X39 hx hZ hown (hw _ (mo 186 rfl)) rfl (Ins.self (Exa.keep (Exa.keep (Exa.wr W30 (Exa.wr W29 (Exa.keep (Exa.ext E26 (Exa.wr W25 (Exa.keep (Exa.ext E22 E_w0) K23))) K27))) K33) K39)) (g := (mkF m 53 #[vr a, vr cl, vr kl, vr it33, uu, uu] [(.ref w0)])) rfl rfl (hb hby d16_53)
  refine bW T40 (mkF m 56 #[vr a, vr cl, vr kl, vr it33, uu, uu] [(.ref w0)]) (fun _ k => st40 _ k) ?_
  refine bW T40 (mkF m 58 #[vr a, vr cl, vr kl, vr it33, vr w0, uu] []) (fun _ k => XS.astore X40.here hx rfl (hb hby d16_56) rfl rfl rfl k) ?_
  have ne75 : a ≠ it33 := (Nat.ne_of_lt (Nat.lt_of_lt_of_le ((Exa.wr W30 (Exa.wr W29 (Exa.keep (Exa.ext E26 (Exa.wr W25 (Exa.keep (Exa.ext E22 E_a) K23))) K27)))).lt zi33))
  have ne76 : cl ≠ b22 := (Nat.ne_of_lt (Nat.lt_of_lt_of_le E_cl.lt (Nat.le_of_eq g22.symm)))
  have ne77 : cl ≠ b26 := (Nat.ne_of_lt (Nat.lt_of_lt_of_le (Exa.wr W25 (Exa.keep (Exa.ext E22 E_cl) K23)).lt (Nat.le_of_eq g26.symm)))
  have ne78 : cl ≠ it33 := (Nat.ne_of_lt (Nat.lt_of_lt_of_le ((Exa.wr W30 (Exa.wr W29 (Exa.keep (Exa.ext E26 (Exa.wr W25 (Exa.keep (Exa.ext E22 E_cl) K23))) K27)))).lt zi33))
  have ne79 : dc ≠ b22 := (Nat.ne_of_lt (Nat.lt_of_lt_of_le V_dc.lt (Nat.le_of_eq g22.symm)))
  have ne80 : dc ≠ b26 := (Nat.ne_of_lt (Nat.lt_of_lt_of_le (Arv.other (Arv.keep (Arv.ext V_dc E22) K23 (ninS ne79 nin0)) W25 ne_dc).lt (Nat.le_of_eq g26.symm)))
  have ne81 : dc ≠ it33 := (Nat.ne_of_lt (Nat.lt_of_lt_of_le ((Arv.other (Arv.other (Arv.keep (Arv.ext (Arv.other (Arv.keep (Arv.ext V_dc E22) K23 (ninS ne79 nin0)) W25 ne_dc) E26) K27 (ninS ne80 nin0)) W29 ne_dc) W30 ne_dc)).lt zi33))
  have ne82 : w0 ≠ b22 := (Nat.ne_of_lt (Nat.lt_of_lt_of_le E_w0.lt (Nat.le_of_eq g22.symm)))
  have ne83 : w0 ≠ b26 := (Nat.ne_of_lt (Nat.lt_of_lt_of_le (Exa.wr W25 (Exa.keep (Exa.ext E22 E_w0) K23)).lt (Nat.le_of_eq g26.symm)))
  have ne84 : w0 ≠ it33 := (Nat.ne_of_lt (Nat.lt_of_lt_of_le ((Exa.wr W30 (Exa.wr W29 (Exa.keep (Exa.ext E26 (Exa.wr W25 (Exa.keep (Exa.ext E22 E_w0) K23))) K27)))).lt zi33))
  have ne85 : w1 ≠ b22 := (Nat.ne_of_lt (Nat.lt_of_lt_of_le E_w1.lt (Nat.le_of_eq g22.symm)))
  have ne86 : w1 ≠ b26 := (Nat.ne_of_lt (Nat.lt_of_lt_of_le (Exa.wr W25 (Exa.keep (Exa.ext E22 E_w1) K23)).lt (Nat.le_of_eq g26.symm)))
  have ne87 : w1 ≠ it33 := (Nat.ne_of_lt (Nat.lt_of_lt_of_le ((Exa.wr W30 (Exa.wr W29 (Exa.keep (Exa.ext E26 (Exa.wr W25 (Exa.keep (Exa.ext E22 E_w1) K23))) K27)))).lt zi33))
  have ne88 : b22 ≠ b26 := (Nat.ne_of_lt (Nat.lt_of_lt_of_le (Exa.wr W25 (Exa.keep E_b22 K23)).lt (Nat.le_of_eq g26.symm)))
  have ne89 : b22 ≠ it33 := (Nat.ne_of_lt (Nat.lt_of_lt_of_le ((Exa.wr W30 (Exa.wr W29 (Exa.keep (Exa.ext E26 (Exa.wr W25 (Exa.keep E_b22 K23))) K27)))).lt zi33))
  have ne90 : b26 ≠ it33 := (Nat.ne_of_lt (Nat.lt_of_lt_of_le ((Exa.wr W30 (Exa.wr W29 (Exa.keep E_b26 K27)))).lt zi33))
  exact vin_2_c1 (h1 := T39.heap) (T1 := T40) (vm1 := s.vm) hw X40 e40 KK39 N39 Z0 (Old.keep (Old.keep (Old.wr (Old.wr (Old.keep (Old.ext (Old.wr (Old.keep (Old.ext O0 E22) K23 (allS g_b22 all0)) W25 g_a) E26) K27 (allS g_b26 all0)) W29 g_a) W30 g_a) K33 all0) K39 (allS g_it33 all0)) S_DE V_aD hi0 hi1 hZ hown hS0 (Nat.le_trans (Nat.le_trans (Nat.le_trans (Nat.le_trans (Nat.le_trans (Nat.le_trans (Nat.le_trans (Nat.le_trans (Nat.le_trans hk0 E22.1) K23.1) (Keep.of_wr W25).1) E26.1) K27.1) (Keep.of_wr W29).1) (Keep.of_wr W30).1) K33.1) K39.1) C39 hx hby hml hlk Bd.returns (Exa.keep (Exa.keep (Exa.wr W30 (Exa.wr W29 (Exa.keep (Exa.ext E26 (Exa.wr W25 (Exa.keep (Exa.ext E22 E_a) K23))) K27))) K33) K39) (Fld.keep (Fld.keep (Fld.other W30 (Fld.other W29 (Fld.keep (Fld.ext E26 Fw25) K27 (ninS ne28 nin0)) (Or.inr (slot_ne (a0 := a0) (Or.inr (hw _ (mo 117 rfl))) (Or.inr (hw _ (mo 119 rfl))) (by decide) (t := (.object "java/util/List")) (t' := (.object "java/util/List")) (by decide) (by decide)))) (Or.inr (slot_ne (a0 := a0) (Or.inr (hw _ (mo 117 rfl))) (Or.inr (hw _ (mo 121 rfl))) (by decide) (t := (.object "java/util/List")) (t' := (.object "java/util/List")) (by decide) (by decide)))) K33 nin0) K39 (ninS ne75 nin0)) (Fld.keep (Fld.keep (Fld.other W30 Fw29 (Or.inr (slot_ne (a0 := a0) (Or.inr (hw _ (mo 119 rfl))) (Or.inr (hw _ (mo 121 rfl))) (by decide) (t := (.object "java/util/List")) (t' := (.object "java/util/List")) (by decide) (by decide)))) K33 nin0) K39 (ninS ne75 nin0)) (Exa.keep (Exa.keep (Exa.wr W30 (Exa.wr W29 (Exa.keep (Exa.ext E26 (Exa.wr W25 (Exa.keep (Exa.ext E22 E_cl) K23))) K27))) K33) K39) (Fld.keep (Fld.keep (Fld.other W30 (Fld.other W29 (Fld.keep (Fld.ext E26 (Fld.other W25 (Fld.keep (Fld.ext E22 F_size_cl) K23 (ninS ne76 nin0)) (Or.inl ne_cl))) K27 (ninS ne77 nin0)) (Or.inl ne_cl)) (Or.inl ne_cl)) K33 nin0) K39 (ninS ne78 nin0)) (Fld.keep (Fld.keep (Fld.other W30 (Fld.other W29 (Fld.keep (Fld.ext E26 (Fld.other W25 (Fld.keep (Fld.ext E22 F_elementData_cl) K23 (ninS ne76 nin0)) (Or.inl ne_cl))) K27 (ninS ne77 nin0)) (Or.inl ne_cl)) (Or.inl ne_cl)) K33 nin0) K39 (ninS ne78 nin0)) (Arv.keep (Arv.keep (Arv.other (Arv.other (Arv.keep (Arv.ext (Arv.other (Arv.keep (Arv.ext V_dc E22) K23 (ninS ne79 nin0)) W25 ne_dc) E26) K27 (ninS ne80 nin0)) W29 ne_dc) W30 ne_dc) K33 nin0) K39 (ninS ne81 nin0)) (Exa.keep (Exa.keep (Exa.wr W30 (Exa.wr W29 (Exa.keep (Exa.ext E26 (Exa.wr W25 (Exa.keep (Exa.ext E22 E_y0) K23))) K27))) K33) K39) (Exa.keep (Exa.keep (Exa.wr W30 (Exa.wr W29 (Exa.keep (Exa.ext E26 (Exa.wr W25 (Exa.keep (Exa.ext E22 E_y1) K23))) K27))) K33) K39) (Exa.keep (Exa.keep (Exa.wr W30 (Exa.wr W29 (Exa.keep (Exa.ext E26 (Exa.wr W25 (Exa.keep (Exa.ext E22 E_y2) K23))) K27))) K33) K39) (Exa.keep (Exa.keep (Exa.wr W30 (Exa.wr W29 (Exa.keep (Exa.ext E26 (Exa.wr W25 (Exa.keep (Exa.ext E22 E_kl) K23))) K27))) K33) K39) (Fld.keep (Fld.keep (Fld.other W30 (Fld.other W29 (Fld.keep (Fld.ext E26 (Fld.other W25 (Fld.keep (Fld.ext E22 F_modCount_kl) K23 (ninS ne31 nin0)) (Or.inl ne_kl))) K27 (ninS ne32 nin0)) (Or.inl ne_kl)) (Or.inl ne_kl)) K33 nin0) K39 (ninS ne37 nin0)) (Fld.keep (Fld.keep (Fld.other W30 (Fld.other W29 (Fld.keep (Fld.ext E26 (Fld.other W25 (Fld.keep (Fld.ext E22 F_elementData_kl) K23 (ninS ne31 nin0)) (Or.inl ne_kl))) K27 (ninS ne32 nin0)) (Or.inl ne_kl)) (Or.inl ne_kl)) K33 nin0) K39 (ninS ne37 nin0)) (Fld.keep (Fld.keep (Fld.other W30 (Fld.other W29 (Fld.keep (Fld.ext E26 (Fld.other W25 (Fld.keep (Fld.ext E22 F_size_kl) K23 (ninS ne31 nin0)) (Or.inl ne_kl))) K27 (ninS ne32 nin0)) (Or.inl ne_kl)) (Or.inl ne_kl)) K33 nin0) K39 (ninS ne37 nin0)) (Arv.keep (Arv.keep (Arv.other (Arv.other (Arv.keep (Arv.ext (Arv.other (Arv.keep (Arv.ext V_dk E22) K23 (ninS ne35 nin0)) W25 ne_dk) E26) K27 (ninS ne36 nin0)) W29 ne_dk) W30 ne_dk) K33 nin0) K39 (ninS ne38 nin0)) (Exa.keep (Exa.keep (Exa.wr W30 (Exa.wr W29 (Exa.keep (Exa.ext E26 (Exa.wr W25 (Exa.keep (Exa.ext E22 E_w0) K23))) K27))) K33) K39) (Fld.keep (Fld.keep (Fld.other W30 (Fld.other W29 (Fld.keep (Fld.ext E26 (Fld.other W25 (Fld.keep (Fld.ext E22 F_value_w0) K23 (ninS ne82 nin0)) (Or.inl ne_w0))) K27 (ninS ne83 nin0)) (Or.inl ne_w0)) (Or.inl ne_w0)) K33 nin0) K39 (ninS ne84 nin0)) (Fld.keep (Fld.keep (Fld.other W30 (Fld.other W29 (Fld.keep (Fld.ext E26 (Fld.other W25 (Fld.keep (Fld.ext E22 F_unit_w0) K23 (ninS ne82 nin0)) (Or.inl ne_w0))) K27 (ninS ne83 nin0)) (Or.inl ne_w0)) (Or.inl ne_w0)) K33 nin0) K39 (ninS ne84 nin0)) (Exa.keep (Exa.keep (Exa.wr W30 (Exa.wr W29 (Exa.keep (Exa.ext E26 (Exa.wr W25 (Exa.keep (Exa.ext E22 E_w1) K23))) K27))) K33) K39) (Fld.keep (Fld.keep (Fld.other W30 (Fld.other W29 (Fld.keep (Fld.ext E26 (Fld.other W25 (Fld.keep (Fld.ext E22 F_value_w1) K23 (ninS ne85 nin0)) (Or.inl ne_w1))) K27 (ninS ne86 nin0)) (Or.inl ne_w1)) (Or.inl ne_w1)) K33 nin0) K39 (ninS ne87 nin0)) (Fld.keep (Fld.keep (Fld.other W30 (Fld.other W29 (Fld.keep (Fld.ext E26 (Fld.other W25 (Fld.keep (Fld.ext E22 F_unit_w1) K23 (ninS ne85 nin0)) (Or.inl ne_w1))) K27 (ninS ne86 nin0)) (Or.inl ne_w1)) (Or.inl ne_w1)) K33 nin0) K39 (ninS ne87 nin0)) (Exa.keep (Exa.keep (Exa.wr W30 (Exa.wr W29 (Exa.keep (Exa.ext E26 (Exa.wr W25 (Exa.keep E_b22 K23))) K27))) K33) K39) (Fld.keep (Fld.keep (Fld.other W30 (Fld.other W29 (Fld.keep (Fld.ext E26 (Fld.other W25 Fm23 (Or.inl (Ne.symm ne24)))) K27 (ninS ne88 nin0)) (Or.inl (Ne.symm ne24))) (Or.inl (Ne.symm ne24))) K33 nin0) K39 (ninS ne89 nin0)) (Fld.keep (Fld.keep (Fld.other W30 (Fld.other W29 (Fld.keep (Fld.ext E26 (Fld.other W25 Fe23 (Or.inl (Ne.symm ne24)))) K27 (ninS ne88 nin0)) (Or.inl (Ne.symm ne24))) (Or.inl (Ne.symm ne24))) K33 nin0) K39 (ninS ne89 nin0)) (Fld.keep (Fld.keep (Fld.other W30 (Fld.other W29 (Fld.keep (Fld.ext E26 (Fld.other W25 Fz23 (Or.inl (Ne.symm ne24)))) K27 (ninS ne88 nin0)) (Or.inl (Ne.symm ne24))) (Or.inl (Ne.symm ne24))) K33 nin0) K39 (ninS ne89 nin0)) (Exa.keep (Exa.keep (Exa.wr W30 (Exa.wr W29 (Exa.keep E_b26 K27))) K33) K39) (Fld.keep (Fld.keep (Fld.other W30 (Fld.other W29 Fm27 (Or.inl (Ne.symm ne28))) (Or.inl (Ne.symm ne28))) K33 nin0) K39 (ninS ne90 nin0)) (Fld.keep (Fld.keep (Fld.other W30 (Fld.other W29 Fe27 (Or.inl (Ne.symm ne28))) (Or.inl (Ne.symm ne28))) K33 nin0) K39 (ninS ne90 nin0)) (Fld.keep (Fld.keep (Fld.other W30 (Fld.other W29 Fz27 (Or.inl (Ne.symm ne28))) (Or.inl (Ne.symm ne28))) K33 nin0) K39 (ninS ne90 nin0)) (Exa.keep E33 K39) F0_39 F1_39 F2_39 F3_39 ne24 ne28 ne75 ne76 ne77 ne78 ne79 ne80 ne81 ne31 ne32 ne37 ne35 ne36 ne38 ne82 ne85 ne86 ne87 ne88 ne89 ne90 g_b22 sz_b22 g_b26 sz_b26 g_it33 sz_it33
theorem ef_vin_3 (m : MethodId) (a cl kl : Addr) : entryFrame m #[(.ref a), (.ref cl), (.ref kl)] 6 = mkF m 0 #[vr a, vr cl, vr kl, uu, uu, uu] [] := rfl
def V_vin_3 (Z : State) (a cl : Addr) (kl aD : Addr) (kD : ClassId) (dc : Addr) (kc : ClassId) (y0 y1 : Addr) (y2 dk : Addr) (kk : ClassId) (w0 w1 w2 : Addr) (i0 i1 i2 : Int32) (h0 : Heap) (vm : Vm) : Prop := True
def Q_vin_3 (Z : State) (a cl : Addr) (kl aD : Addr) (kD : ClassId) (dc : Addr) (kc : ClassId) (y0 y1 : Addr) (y2 dk : Addr) (kk : ClassId) (w0 w1 w2 : Addr) (i0 i1 i2 : Int32) (h0 : Heap) (n0 : Nat) (v : Option Value) (h : Heap) (L : List Loc) : Prop := v = none ∧ Fr n0 L ∧ Keep h0 h [a] ∧ ∃ (vl dv : Addr) (kv : ClassId), Fld Z h a sV "values" "Ljava/util/List;" (.ref vl) ∧ Exa Z h vl sL ∧ Fld Z h vl sL "size" "I" (.int (3 : Int32)) ∧ Fld Z h vl sL "elementData" sE (.ref dv) ∧ Arv Z h dv kv (.object sO) (10 : Int32) [(.ref (own_p3 i0 y0 y1 y2)), (.ref (own_p3 i1 y0 y1 y2)), (.ref (own_p3 i2 y0 y1 y2)), .null, .null, .null, .null, .null, .null, .null] .null
theorem vin_3_c6 {l : _} {Z : State} {a0 : Array Value} (hw : HW Z a0) {a : Addr} {cl : Addr} {kl : Addr} {aD : Addr} {kD : ClassId} {dc : Addr} {kc : ClassId} {y0 : Addr} {y1 : Addr} {y2 : Addr} {dk : Addr} {kk : ClassId} {w0 : Addr} {w1 : Addr} {w2 : Addr} {i0 : Int32} {i1 : Int32} {i2 : Int32} {h0 : Heap} {n0 : Nat} {p : _} {e : _} {s : State} {m : _} {below : _} {meth : _} {c : _} {h1 : Heap} {T1 : State} {Lc : List Loc} {vm1 : Vm} {ks1 : Nat} {b22 : Addr} {d45 : Addr} {it33 : Addr} {kd45 : ClassId} (X1 : Stand p l e rr17 (s.setVm vm1) m #[(.ref a), (.ref cl), (.ref kl)] below meth c T1 Lc 11 42) (e1 : T1.heap = h1) (Kc : Keep h0 h1 [a]) (Nc : Fr n0 Lc) (Z0 : n0 ≤ h0.size) (hZ1 : Z.Warmed39 (s.setVm vm1).vm) (hown1 : (s.setVm vm1).vm.findClass sV = some m.cls) (hS1 : s.Since vm1 ks1) (hk1 : ks1 ≤ h1.size) (C1 : CHr Z consts_1 s.vm s.heap vm1 h1) (hx : p.tables.exec = Jvm.exec) (hby : c.code = prog_15_method_1_code) (hml : c.maxLocals = 6) (hlk : meth.locks = false) (hrt : meth.sig.returnType = none) (Y3 : Fld Z h1 a sV "values" "Ljava/util/List;" (.ref b22)) (Y16 : Fld Z h1 kl sL "size" "I" (.int (3 : Int32))) (Y27 : Exa Z h1 b22 sL) (Y29 : Fld Z h1 b22 sL "elementData" sE (.ref d45)) (Y30 : Fld Z h1 b22 sL "size" "I" (.int (3 : Int32))) (Y35 : Exa Z h1 it33 sI) (Y36 : Fld Z h1 it33 sI "this$0" "Ljava/util/ArrayList;" (.ref kl)) (Y39 : Fld Z h1 it33 sI "cursor" "I" (.int (3 : Int32))) (Y41 : Arv Z h1 d45 kd45 (.object sO) (10 : Int32) [(.ref (own_p3 i0 y0 y1 y2)), (.ref (own_p3 i1 y0 y1 y2)), (.ref (own_p3 i2 y0 y1 y2)), .null, .null, .null, .null, .null, .null, .null] .null) :
    own_GoW p.tables e below Z consts_1 (Q_vin_3 Z a cl kl aD kD dc kc y0 y1 y2 dk kk w0 w1 w2 i0 i1 i2 h0 n0) s rr17.cells rr17.slots T1 (mkF m 131 #[vr a, vr cl, vr kl, vr it33, vr w2, vr (own_p3 i2 y0 y1 y2)] []) := by
  have hEL : EW Z a0 consts_1 := own_EL hw
  refine bW T1 (mkF m 38 #[vr a, vr cl, vr kl, vr it33, vr w2, vr (own_p3 i2 y0 y1 y2)] []) (fun _ k => XS.goto X1.here hx rfl (pc0 := 131) (pc' := 38) rfl (hb hby d16_131) (by decide) (by decide) k) ?_
  refine bW T1 (mkF m 39 #[vr a, vr cl, vr kl, vr it33, vr w2, vr (own_p3 i2 y0 y1 y2)] [(.ref it33)]) (fun _ k => XS.aloadN X1.here hx rfl (hb hby d16_38) rfl rfl k) ?_
  obtain ⟨cq74, kq74, q74a, q74b, q74c⟩ := isOf hZ1 e1 Y35
  obtain ⟨_, _, ⟨T74, L74, k74, n74⟩, -, X74, ⟨Lc74, hQ74, l74, y74, z74⟩, st74⟩ := X1.interfaceBack hx (xi := yy29) (y := yy20) hown1 (mvT hZ1 (hw _ (mo 146 rfl))) (mvT hZ1 (hw _ (mo 147 rfl))) (mvT hZ1 (hw _ (mo 148 rfl))) (mvT hZ1 (hw _ (mo 149 rfl))) (mvT hZ1 (hw _ (mo 150 rfl))) (mvT hZ1 (hw _ (mo 151 rfl))) (mvT hZ1 (hw _ (mo 152 rfl))) (mvT hZ1 (hw _ (mo 153 rfl))) (by decide) (backOf (W := 0) (ihn l Z a0 hw [] it33 kl (3 : Int32) (3 : Int32) h1 n0 (Nat.le_trans Z0 Kc.1) Y39 Y36 Y16) hZ1 (hw _ (mo 154 rfl)) (hw _ (mo 133 rfl)) (by decide) (by decide)) q74a q74b q74c (g := (mkF m 39 #[vr a, vr cl, vr kl, vr it33, vr w2, vr (own_p3 i2 y0 y1 y2)] [(.ref it33)])) rfl (by rw [hml]; rfl) (Steps.refl _) (argsL := []) (rest := []) (lenOf pd_12 rfl) rfl (Nat.le_of_eq rfl) (hb hby d16_39) (fun _ _ => ⟨rfl, e1, (by decide : 11 ≤ _), (by decide : 42 ≤ _)⟩)
  dsimp only [Pt.U, Pt.locs, Pt.cells, Pt.slots] at X74 l74 y74 z74 st74 hQ74
  subst l74 y74 z74
  obtain ⟨vq74, N74q, e74⟩ := hQ74
  obtain rfl := vq74.trans (congrArg (fun z => some (Value.int z)) (if_pos rfl))
  have N74 := Fr.app Nc N74q
  refine bW T74 (mkF m 44 #[vr a, vr cl, vr kl, vr it33, vr w2, vr (own_p3 i2 y0 y1 y2)] [(ii 0)]) (fun _ k => st74.trans k) ?_
  refine bW T74 (mkF m 134 #[vr a, vr cl, vr kl, vr it33, vr w2, vr (own_p3 i2 y0 y1 y2)] []) (fun _ k => XS.ifYes X74.here hx rfl (pc0 := 44) (pc' := 134) rfl (hb hby d16_44) rfl ((if0 _ _).trans (teq (by decide)).1) (by decide) (by decide) k) ?_
  refine own_retW (s := s) X74 hlk hS1 (by rw [e74]; exact hk1) hZ1 hEL C1 e74 (v := none) (fun _ => rfl) (fun fs hr => X74.returnOut hx hrt (hb hby d16_134) hr) ?_ (by decide) (by decide)
  rw [e74]
  exact ⟨rfl, N74, Kc, _, _, _, Y3, Y27, Y30, Y29, Y41⟩
theorem vin_3_c5 {l : _} {Z : State} {a0 : Array Value} (hw : HW Z a0) {a : Addr} {cl : Addr} {kl : Addr} {aD : Addr} {kD : ClassId} {dc : Addr} {kc : ClassId} {y0 : Addr} {y1 : Addr} {y2 : Addr} {dk : Addr} {kk : ClassId} {w0 : Addr} {w1 : Addr} {w2 : Addr} {i0 : Int32} {i1 : Int32} {i2 : Int32} {h0 : Heap} {n0 : Nat} {p : _} {e : _} {s : State} {m : _} {below : _} {meth : _} {c : _} {h1 : Heap} {T1 : State} {Lc : List Loc} {vm1 : Vm} {ks1 : Nat} {b22 : Addr} {b26 : Addr} {d45 : Addr} {d49 : Addr} {it33 : Addr} {kd45 : ClassId} {kd49 : ClassId} {a48 : Addr} {a60 : Addr} (X1 : Stand p l e rr17 (s.setVm vm1) m #[(.ref a), (.ref cl), (.ref kl)] below meth c T1 Lc 9 38) (e1 : T1.heap = h1) (Kc : Keep h0 h1 [a]) (Nc : Fr n0 Lc) (Z0 : n0 ≤ h0.size) (hi2 : i2 = 0 ∨ i2 = 1 ∨ i2 = 2) (hZ1 : Z.Warmed39 (s.setVm vm1).vm) (hown1 : (s.setVm vm1).vm.findClass sV = some m.cls) (hS1 : s.Since vm1 ks1) (hk1 : ks1 ≤ h1.size) (C1 : CHr Z consts_1 s.vm s.heap vm1 h1) (hx : p.tables.exec = Jvm.exec) (hby : c.code = prog_15_method_1_code) (hml : c.maxLocals = 6) (hlk : meth.locks = false) (hrt : meth.sig.returnType = none) (Y3 : Fld Z h1 a sV "values" "Ljava/util/List;" (.ref b22)) (Y4 : Fld Z h1 a sV "units" "Ljava/util/List;" (.ref b26)) (Y6 : Exa Z h1 cl sL) (Y7 : Fld Z h1 cl sL "size" "I" (.int (3 : Int32))) (Y8 : Fld Z h1 cl sL "elementData" sE (.ref dc)) (Y9 : Arv Z h1 dc kc (.object sO) (10 : Int32) [(.ref y0), (.ref y1), (.ref y2), .null, .null, .null, .null, .null, .null, .null] .null) (Y10 : Exa Z h1 y0 sS) (Y11 : Exa Z h1 y1 sS) (Y12 : Exa Z h1 y2 sS) (Y16 : Fld Z h1 kl sL "size" "I" (.int (3 : Int32))) (Y24 : Exa Z h1 w2 sA) (Y25 : Fld Z h1 w2 sA "value" "I" (.int i2)) (Y26 : Fld Z h1 w2 sA "unit" "I" (.int (-1 : Int32))) (Y27 : Exa Z h1 b22 sL) (Y28 : Fld Z h1 b22 sB "modCount" "I" (.int (2 : Int32))) (Y29 : Fld Z h1 b22 sL "elementData" sE (.ref d45)) (Y30 : Fld Z h1 b22 sL "size" "I" (.int (2 : Int32))) (Y31 : Exa Z h1 b26 sL) (Y32 : Fld Z h1 b26 sB "modCount" "I" (.int (2 : Int32))) (Y33 : Fld Z h1 b26 sL "elementData" sE (.ref d49)) (Y34 : Fld Z h1 b26 sL "size" "I" (.int (2 : Int32))) (Y35 : Exa Z h1 it33 sI) (Y36 : Fld Z h1 it33 sI "this$0" "Ljava/util/ArrayList;" (.ref kl)) (Y39 : Fld Z h1 it33 sI "cursor" "I" (.int (3 : Int32))) (Y41 : Arv Z h1 d45 kd45 (.object sO) (10 : Int32) [(.ref (own_p3 i0 y0 y1 y2)), (.ref (own_p3 i1 y0 y1 y2)), .null, .null, .null, .null, .null, .null, .null, .null] .null) (Y43 : Arv Z h1 d49 kd49 (.object sO) (10 : Int32) [(.ref a48), (.ref a60), .null, .null, .null, .null, .null, .null, .null, .null] .null) (nx10 : a ≠ b22) (nx11 : a ≠ b26) (nx14 : a ≠ d45) (nx16 : a ≠ d49) (nx103 : kl ≠ b22) (nx104 : kl ≠ b26) (nx107 : kl ≠ d45) (nx109 : kl ≠ d49) (nx145 : w2 ≠ b22) (nx149 : w2 ≠ d45) (nx154 : b22 ≠ b26) (nx155 : b22 ≠ it33) (nx157 : b22 ≠ d45) (nx159 : b22 ≠ d49) (nx162 : b26 ≠ it33) (nx164 : b26 ≠ d45) (nx166 : b26 ≠ d49) (nx170 : it33 ≠ d45) (nx172 : it33 ≠ d49) (nx181 : d45 ≠ d49) (g_b22 : n0 ≤ b22) (sz_b22 : h0.size ≤ b22) (g_b26 : n0 ≤ b26) (sz_b26 : h0.size ≤ b26) (g_d45 : n0 ≤ d45) (sz_d45 : h0.size ≤ d45) (g_d49 : n0 ≤ d49) (sz_d49 : h0.size ≤ d49) (O45 : Ovr Z kd45 sO) (O49 : Ovr Z kd49 sO) :
    own_GoW p.tables e below Z consts_1 (Q_vin_3 Z a cl kl aD kD dc kc y0 y1 y2 dk kk w0 w1 w2 i0 i1 i2 h0 n0) s rr17.cells rr17.slots T1 (mkF m 58 #[vr a, vr cl, vr kl, vr it33, vr w2, vr (own_p3 i1 y0 y1 y2)] []) := by
  have hEL : EW Z a0 consts_1 := own_EL hw
  have hwS : ∀ d ∈ Bundle.stringAtoms, d.before a0 Z = true := fun d hd => hw d (own_SA d hd)
  refine bW T1 (mkF m 59 #[vr a, vr cl, vr kl, vr it33, vr w2, vr (own_p3 i1 y0 y1 y2)] [(.ref cl)]) (fun _ k => XS.aloadN X1.here hx rfl (hb hby d16_58) rfl rfl k) ?_
  refine bW T1 (mkF m 61 #[vr a, vr cl, vr kl, vr it33, vr w2, vr (own_p3 i1 y0 y1 y2)] [(.ref w2), (.ref cl)]) (fun _ k => XS.aload X1.here hx rfl (hb hby d16_59) rfl rfl k) ?_
  obtain ⟨cq65, kq65, q65a, q65b, q65c⟩ := isOf hZ1 e1 Y24
  obtain ⟨_, _, ⟨T65, L65, k65, n65⟩, -, X65, ⟨Lc65, hQ65, l65, y65, z65⟩, st65⟩ := X1.virtualBack hx (y := yy15) (z := yy15) hown1 (mvT hZ1 (hw _ (mo 188 rfl))) (mvT hZ1 (hw _ (mo 189 rfl))) (notFace_of_selects (args := #[]) (mvT hZ1 (hw _ (mo 191 rfl)))) (mvT hZ1 (hw _ (mo 191 rfl))) (mvT hZ1 (hw _ (mo 190 rfl))) (by decide) (backOf (W := 1) (cg_value l Z a0 hw [] w2 i2 h1 n0 (Nat.le_trans Z0 Kc.1) Y25) hZ1 (hw _ (mo 192 rfl)) (hw _ (mo 87 rfl)) (by decide) (by decide)) q65a q65c (g := (mkF m 61 #[vr a, vr cl, vr kl, vr it33, vr w2, vr (own_p3 i1 y0 y1 y2)] [(.ref w2), (.ref cl)])) rfl (by rw [hml]; rfl) (Steps.refl _) (argsL := []) (rest := [(.ref cl)]) (lenOf pd_14 rfl) rfl (Nat.le_of_eq rfl) (hb hby d16_61) (fun _ _ => ⟨rfl, e1, (by decide : 9 ≤ _), (by decide : 38 ≤ _)⟩)
  dsimp only [Pt.U, Pt.locs, Pt.cells, Pt.slots] at X65 l65 y65 z65 st65 hQ65
  subst l65 y65 z65
  obtain ⟨rfl, N65q, e65⟩ := hQ65
  have N65 := Fr.app Nc N65q
  refine bW T65 (mkF m 64 #[vr a, vr cl, vr kl, vr it33, vr w2, vr (own_p3 i1 y0 y1 y2)] [(.int i2), (.ref cl)]) (fun _ k => st65.trans k) ?_
  obtain ⟨cq66, kq66, q66a, q66b, q66c⟩ := isOf hZ1 e65 Y6
  obtain ⟨_, _, ⟨T66, L66, k66, n66⟩, -, X66, ⟨Lc66, hQ66, l66, y66, z66⟩, st66⟩ := X65.interfaceBack hx (xi := yy30) (y := yy26) hown1 (mvT hZ1 (hw _ (mo 193 rfl))) (mvT hZ1 (hw _ (mo 194 rfl))) (mvT hZ1 (hw _ (mo 195 rfl))) (mvT hZ1 (hw _ (mo 196 rfl))) (mvT hZ1 (hw _ (mo 197 rfl))) (mvT hZ1 (hw _ (mo 198 rfl))) (mvT hZ1 (hw _ (mo 199 rfl))) (mvT hZ1 (hw _ (mo 129 rfl))) (by decide) (backOf (W := 0) (get3 l Z a0 hw [] cl i2 dc kc y0 y1 y2 h1 n0 (Nat.le_trans Z0 Kc.1) Y6 Y7 Y8 Y9 hi2) hZ1 (hw _ (mo 200 rfl)) (hw _ (mo 32 rfl)) (by decide) (by decide)) q66a q66b q66c (g := (mkF m 64 #[vr a, vr cl, vr kl, vr it33, vr w2, vr (own_p3 i1 y0 y1 y2)] [(.int i2), (.ref cl)])) rfl (by rw [hml]; rfl) (Steps.refl _) (argsL := [(.int i2)]) (rest := []) (lenOf pd_10 rfl) rfl (Nat.le_of_eq rfl) (hb hby d16_64) (fun _ _ => ⟨rfl, e65, (by decide : 9 ≤ _), (by decide : 38 ≤ _)⟩)
  dsimp only [Pt.U, Pt.locs, Pt.cells, Pt.slots] at X66 l66 y66 z66 st66 hQ66
  subst l66 y66 z66
  obtain ⟨rfl, N66q, e66⟩ := hQ66
  have N66 := Fr.app N65 N66q
  have Ep66 := own_pE i2 Y10 Y11 Y12
  refine bW T66 (mkF m 69 #[vr a, vr cl, vr kl, vr it33, vr w2, vr (own_p3 i1 y0 y1 y2)] [(.ref (own_p3 i2 y0 y1 y2))]) (fun _ k => st66.trans k) ?_
  obtain ⟨T67, X67, e67, st67⟩ := castY X66 hx hZ1 hown1 (hw _ (mo 214 rfl)) e66 (Ins.self Ep66) (g := (mkF m 69 #[vr a, vr cl, vr kl, vr it33, vr w2, vr (own_p3 i1 y0 y1 y2)] [(.ref (own_p3 i2 y0 y1 y2))])) rfl rfl (hb hby d16_69)
  refine bW T67 (mkF m 72 #[vr a, vr cl, vr kl, vr it33, vr w2, vr (own_p3 i1 y0 y1 y2)] [(.ref (own_p3 i2 y0 y1 y2))]) (fun _ k => st67 _ k) ?_
  refine bW T67 (mkF m 74 #[vr a, vr cl, vr kl, vr it33, vr w2, vr (own_p3 i2 y0 y1 y2)] []) (fun _ k => XS.astore X67.here hx rfl (hb hby d16_72) rfl rfl rfl k) ?_
  refine bW T67 (mkF m 75 #[vr a, vr cl, vr kl, vr it33, vr w2, vr (own_p3 i2 y0 y1 y2)] [(.ref a)]) (fun _ k => XS.aloadN X67.here hx rfl (hb hby d16_74) rfl rfl k) ?_
  obtain ⟨T68, X68, e68, st68⟩ := getF X67 hx hZ1 hown1 (host := "") (Or.inl (hw _ (mo 116 rfl))) Via.refl e67 Y3 (g := (mkF m 75 #[vr a, vr cl, vr kl, vr it33, vr w2, vr (own_p3 i2 y0 y1 y2)] [(.ref a)])) rfl rfl (hb hby d16_75)
  refine bW T68 (mkF m 78 #[vr a, vr cl, vr kl, vr it33, vr w2, vr (own_p3 i2 y0 y1 y2)] [(.ref b22)]) (fun _ k => st68 _ k) ?_
  refine bW T68 (mkF m 80 #[vr a, vr cl, vr kl, vr it33, vr w2, vr (own_p3 i2 y0 y1 y2)] [(.ref (own_p3 i2 y0 y1 y2)), (.ref b22)]) (fun _ k => XS.aload X68.here hx rfl (hb hby d16_78) rfl rfl k) ?_
  obtain ⟨cq69, kq69, q69a, q69b, q69c⟩ := isOf hZ1 e68 Y27
  obtain ⟨_, _, ⟨T69, L69, k69, n69⟩, -, X69, ⟨Lc69, hQ69, l69, y69, z69⟩, st69⟩ := X68.interfaceBack hx (xi := yy31) (y := yy13) hown1 (mvT hZ1 (hw _ (mo 215 rfl))) (mvT hZ1 (hw _ (mo 216 rfl))) (mvT hZ1 (hw _ (mo 217 rfl))) (mvT hZ1 (hw _ (mo 218 rfl))) (mvT hZ1 (hw _ (mo 56 rfl))) (mvT hZ1 (hw _ (mo 219 rfl))) (mvT hZ1 (hw _ (mo 220 rfl))) (mvT hZ1 (hw _ (mo 129 rfl))) (by decide) (backOf (W := 0) (ad1s_2 l Z a0 hw [] b22 (own_p3 i2 y0 y1 y2) d45 kd45 (own_p3 i0 y0 y1 y2) (own_p3 i1 y0 y1 y2) sS h1 n0 (Nat.le_trans Z0 Kc.1) Y27 Y28 Y29 Y30 g_b22 Y41 O45 g_d45 nx157 Ep66 (hw _ (mo 84 rfl))) hZ1 (hw _ (mo 58 rfl)) (hw _ (mo 32 rfl)) (by decide) (by decide)) q69a q69b q69c (g := (mkF m 80 #[vr a, vr cl, vr kl, vr it33, vr w2, vr (own_p3 i2 y0 y1 y2)] [(.ref (own_p3 i2 y0 y1 y2)), (.ref b22)])) rfl (by rw [hml]; rfl) (Steps.refl _) (argsL := [(.ref (own_p3 i2 y0 y1 y2))]) (rest := []) (lenOf pd_15 rfl) rfl (Nat.le_of_eq rfl) (hb hby d16_80) (fun _ _ => ⟨rfl, e68, (by decide : 9 ≤ _), (by decide : 38 ≤ _)⟩)
  dsimp only [Pt.U, Pt.locs, Pt.cells, Pt.slots] at X69 l69 y69 z69 st69 hQ69
  subst l69 y69 z69
  obtain ⟨rfl, N69q, K69, Fm69, Fe69, Fz69, V69⟩ := hQ69
  have N69 := Fr.app N66 N69q
  have KK69 : Keep h0 T69.heap [a] := Keep.trans Kc K69 (allS (Or.inr sz_b22) (allS (Or.inr sz_d45) all0))
  have C69 : CHr Z consts_1 s.vm s.heap vm1 T69.heap := CHr.trans C1 (CHr.keep K69 (sfS (Safe.exa (EL := consts_1) (vm := vm1) hZ1.alike Y27 (by decide) (by decide)) (sfS (Safe.arv (EL := consts_1) (vm := vm1) hZ1.alike Y41 (by decide)) sf0)) C1.1)
  refine bW T69 (mkF m 85 #[vr a, vr cl, vr kl, vr it33, vr w2, vr (own_p3 i2 y0 y1 y2)] [(.int (1 : Int32))]) (fun _ k => st69.trans k) ?_
  refine bW T69 (mkF m 86 #[vr a, vr cl, vr kl, vr it33, vr w2, vr (own_p3 i2 y0 y1 y2)] []) (fun _ k => XS.pop X69.here hx rfl (hb hby d16_85) rfl rfl k) ?_
  refine bW T69 (mkF m 87 #[vr a, vr cl, vr kl, vr it33, vr w2, vr (own_p3 i2 y0 y1 y2)] [(.ref a)]) (fun _ k => XS.aloadN X69.here hx rfl (hb hby d16_86) rfl rfl k) ?_
  obtain ⟨T70, X70, e70, st70⟩ := getF X69 hx hZ1 hown1 (host := "") (Or.inl (hw _ (mo 118 rfl))) Via.refl rfl (Fld.keep Y4 K69 (ninS nx10 (ninS nx14 nin0))) (g := (mkF m 87 #[vr a, vr cl, vr kl, vr it33, vr w2, vr (own_p3 i2 y0 y1 y2)] [(.ref a)])) rfl rfl (hb hby d16_87)
  refine bW T70 (mkF m 90 #[vr a, vr cl, vr kl, vr it33, vr w2, vr (own_p3 i2 y0 y1 y2)] [(.ref b26)]) (fun _ k => st70 _ k) ?_
  refine bW T70 (mkF m 92 #[vr a, vr cl, vr kl, vr it33, vr w2, vr (own_p3 i2 y0 y1 y2)] [(.ref w2), (.ref b26)]) (fun _ k => XS.aload X70.here hx rfl (hb hby d16_90) rfl rfl k) ?_
  obtain ⟨cq71, kq71, q71a, q71b, q71c⟩ := isOf hZ1 e70 (Exa.keep Y24 K69)
  obtain ⟨_, _, ⟨T71, L71, k71, n71⟩, -, X71, ⟨Lc71, hQ71, l71, y71, z71⟩, st71⟩ := X70.virtualBack hx (y := yy16) (z := yy16) hown1 (mvT hZ1 (hw _ (mo 221 rfl))) (mvT hZ1 (hw _ (mo 222 rfl))) (notFace_of_selects (args := #[]) (mvT hZ1 (hw _ (mo 224 rfl)))) (mvT hZ1 (hw _ (mo 224 rfl))) (mvT hZ1 (hw _ (mo 223 rfl))) (by decide) (backOf (W := 1) (cg_unit l Z a0 hw [] w2 (-1 : Int32) T69.heap n0 (Nat.le_trans (Nat.le_trans Z0 Kc.1) K69.1) (Fld.keep Y26 K69 (ninS nx145 (ninS nx149 nin0)))) hZ1 (hw _ (mo 225 rfl)) (hw _ (mo 87 rfl)) (by decide) (by decide)) q71a q71c (g := (mkF m 92 #[vr a, vr cl, vr kl, vr it33, vr w2, vr (own_p3 i2 y0 y1 y2)] [(.ref w2), (.ref b26)])) rfl (by rw [hml]; rfl) (Steps.refl _) (argsL := []) (rest := [(.ref b26)]) (lenOf pd_14 rfl) rfl (Nat.le_of_eq rfl) (hb hby d16_92) (fun _ _ => ⟨rfl, e70, (by decide : 9 ≤ _), (by decide : 38 ≤ _)⟩)
  dsimp only [Pt.U, Pt.locs, Pt.cells, Pt.slots] at X71 l71 y71 z71 st71 hQ71
  subst l71 y71 z71
  obtain ⟨rfl, N71q, e71⟩ := hQ71
  have N71 := Fr.app N69 N71q
  refine bW T71 (mkF m 95 #[vr a, vr cl, vr kl, vr it33, vr w2, vr (own_p3 i2 y0 y1 y2)] [(.int (-1 : Int32)), (.ref b26)]) (fun _ k => st71.trans k) ?_
  refine bW T71 (mkF m 106 #[vr a, vr cl, vr kl, vr it33, vr w2, vr (own_p3 i2 y0 y1 y2)] [(.ref b26)]) (fun _ k => XS.ifYes X71.here hx rfl (pc0 := 95) (pc' := 106) rfl (hb hby d16_95) rfl ((if0 _ _).trans (tlt (by decide)).1) (by decide) (by decide) k) ?_
  obtain ⟨a72, T72, h72, k72, b72, kb72, X72, e72, E72, hS72, hk72, hZ72, hown72, Ex72, Fc72, Fv72, V72, la72, lb72, Cq72, Lt72, D72, st72⟩ := ldcCH (s := s) (EL := consts_1) X71 hx hZ1 hown1 (hw _ (mo 226 rfl)) hwS e71 hS1 (Nat.le_trans hk1 K69.1) hEL (mo 0 rfl) C69.1 (vs := []) (z := (0 : Int32)) ⟨by decide, by decide⟩ (by decide) (by decide) (g := (mkF m 106 #[vr a, vr cl, vr kl, vr it33, vr w2, vr (own_p3 i2 y0 y1 y2)] [(.ref b26)])) rfl (hb hby d16_106) (n := 0) (by decide) (by decide) (by decide) (by decide)
  have C72 : CHr Z consts_1 s.vm s.heap T72.vm h72 := CHr.trans C69 Cq72
  have K72 : Keep h0 h72 [a] := Keep.ext KK69 E72
  refine bW T72 (mkF m 108 #[vr a, vr cl, vr kl, vr it33, vr w2, vr (own_p3 i2 y0 y1 y2)] [(.ref a72), (.ref b26)]) (fun _ k => st72 _ k) ?_
  refine bW T72 (mkF m 125 #[vr a, vr cl, vr kl, vr it33, vr w2, vr (own_p3 i2 y0 y1 y2)] [(.ref a72), (.ref b26)]) (fun _ k => XS.goto X72.here hx rfl (pc0 := 108) (pc' := 125) rfl (hb hby d16_108) (by decide) (by decide) k) ?_
  obtain ⟨cq73, kq73, q73a, q73b, q73c⟩ := isOf hZ72 e72 (Exa.ext E72 (Exa.keep Y31 K69))
  obtain ⟨_, _, ⟨T73, L73, k73, n73⟩, -, X73, ⟨Lc73, hQ73, l73, y73, z73⟩, st73⟩ := X72.interfaceBack hx (xi := yy31) (y := yy13) hown72 (mvT hZ72 (hw _ (mo 215 rfl))) (mvT hZ72 (hw _ (mo 216 rfl))) (mvT hZ72 (hw _ (mo 217 rfl))) (mvT hZ72 (hw _ (mo 218 rfl))) (mvT hZ72 (hw _ (mo 56 rfl))) (mvT hZ72 (hw _ (mo 219 rfl))) (mvT hZ72 (hw _ (mo 220 rfl))) (mvT hZ72 (hw _ (mo 129 rfl))) (by decide) (backOf (W := 0) (ad1s_2 l Z a0 hw [] b26 a72 d49 kd49 a48 a60 sS h72 n0 (Nat.le_trans (Nat.le_trans (Nat.le_trans Z0 Kc.1) K69.1) E72.1) (Exa.ext E72 (Exa.keep Y31 K69)) (Fld.ext E72 (Fld.keep Y32 K69 (ninS (Ne.symm nx154) (ninS nx164 nin0)))) (Fld.ext E72 (Fld.keep Y33 K69 (ninS (Ne.symm nx154) (ninS nx164 nin0)))) (Fld.ext E72 (Fld.keep Y34 K69 (ninS (Ne.symm nx154) (ninS nx164 nin0)))) g_b26 (Arv.ext (Arv.keep Y43 K69 (ninS (Ne.symm nx159) (ninS (Ne.symm nx181) nin0))) E72) O49 g_d49 nx166 Ex72 (hw _ (mo 84 rfl))) hZ72 (hw _ (mo 58 rfl)) (hw _ (mo 32 rfl)) (by decide) (by decide)) q73a q73b q73c (g := (mkF m 125 #[vr a, vr cl, vr kl, vr it33, vr w2, vr (own_p3 i2 y0 y1 y2)] [(.ref a72), (.ref b26)])) rfl (by rw [hml]; rfl) (Steps.refl _) (argsL := [(.ref a72)]) (rest := []) (lenOf pd_15 rfl) rfl (Nat.le_of_eq rfl) (hb hby d16_125) (fun _ _ => ⟨rfl, e72, (by decide : 11 ≤ _), (by decide : 42 ≤ _)⟩)
  dsimp only [Pt.U, Pt.locs, Pt.cells, Pt.slots] at X73 l73 y73 z73 st73 hQ73
  subst l73 y73 z73
  obtain ⟨rfl, N73q, K73, Fm73, Fe73, Fz73, V73⟩ := hQ73
  have N73 := Fr.app N71 N73q
  have KK73 : Keep h0 T73.heap [a] := Keep.trans K72 K73 (allS (Or.inr sz_b26) (allS (Or.inr sz_d49) all0))
  have C73 : CHr Z consts_1 s.vm s.heap T72.vm T73.heap := CHr.trans C72 (CHr.keep K73 (sfS (Safe.exa (EL := consts_1) (vm := T72.vm) hZ72.alike (Exa.ext E72 (Exa.keep Y31 K69)) (by decide) (by decide)) (sfS (Safe.arv (EL := consts_1) (vm := T72.vm) hZ72.alike (Arv.ext (Arv.keep Y43 K69 (ninS (Ne.symm nx159) (ninS (Ne.symm nx181) nin0))) E72) (by decide)) sf0)) C72.1)
  refine bW T73 (mkF m 130 #[vr a, vr cl, vr kl, vr it33, vr w2, vr (own_p3 i2 y0 y1 y2)] [(.int (1 : Int32))]) (fun _ k => st73.trans k) ?_
  refine bW T73 (mkF m 131 #[vr a, vr cl, vr kl, vr it33, vr w2, vr (own_p3 i2 y0 y1 y2)] []) (fun _ k => XS.pop X73.here hx rfl (hb hby d16_130) rfl rfl k) ?_
  exact vin_3_c6 (h1 := T73.heap) (T1 := T73) (vm1 := T72.vm) hw X73 rfl KK73 N73 Z0 hZ72 hown72 hS72 (Nat.le_trans hk72 K73.1) C73 hx hby hml hlk hrt (Fld.keep (Fld.ext E72 (Fld.keep Y3 K69 (ninS nx10 (ninS nx14 nin0)))) K73 (ninS nx11 (ninS nx16 nin0))) (Fld.keep (Fld.ext E72 (Fld.keep Y16 K69 (ninS nx103 (ninS nx107 nin0)))) K73 (ninS nx104 (ninS nx109 nin0))) (Exa.keep (Exa.ext E72 (Exa.keep Y27 K69)) K73) (Fld.keep (Fld.ext E72 Fe69) K73 (ninS nx154 (ninS nx159 nin0))) (Fld.keep (Fld.ext E72 Fz69) K73 (ninS nx154 (ninS nx159 nin0))) (Exa.keep (Exa.ext E72 (Exa.keep Y35 K69)) K73) (Fld.keep (Fld.ext E72 (Fld.keep Y36 K69 (ninS (Ne.symm nx155) (ninS nx170 nin0)))) K73 (ninS (Ne.symm nx162) (ninS nx172 nin0))) (Fld.keep (Fld.ext E72 (Fld.keep Y39 K69 (ninS (Ne.symm nx155) (ninS nx170 nin0)))) K73 (ninS (Ne.symm nx162) (ninS nx172 nin0))) (Arv.keep (Arv.ext V69 E72) K73 (ninS (Ne.symm nx164) (ninS nx181 nin0)))
theorem vin_3_c4 {l : _} {Z : State} {a0 : Array Value} (hw : HW Z a0) {a : Addr} {cl : Addr} {kl : Addr} {aD : Addr} {kD : ClassId} {dc : Addr} {kc : ClassId} {y0 : Addr} {y1 : Addr} {y2 : Addr} {dk : Addr} {kk : ClassId} {w0 : Addr} {w1 : Addr} {w2 : Addr} {i0 : Int32} {i1 : Int32} {i2 : Int32} {h0 : Heap} {n0 : Nat} {p : _} {e : _} {s : State} {m : _} {below : _} {meth : _} {c : _} {h1 : Heap} {T1 : State} {Lc : List Loc} {vm1 : Vm} {ks1 : Nat} {b22 : Addr} {b26 : Addr} {d45 : Addr} {d49 : Addr} {it33 : Addr} {kd45 : ClassId} {kd49 : ClassId} {a48 : Addr} {a60 : Addr} (X1 : Stand p l e rr17 (s.setVm vm1) m #[(.ref a), (.ref cl), (.ref kl)] below meth c T1 Lc 9 38) (e1 : T1.heap = h1) (Kc : Keep h0 h1 [a]) (Nc : Fr n0 Lc) (Z0 : n0 ≤ h0.size) (hi2 : i2 = 0 ∨ i2 = 1 ∨ i2 = 2) (hZ1 : Z.Warmed39 (s.setVm vm1).vm) (hown1 : (s.setVm vm1).vm.findClass sV = some m.cls) (hS1 : s.Since vm1 ks1) (hk1 : ks1 ≤ h1.size) (C1 : CHr Z consts_1 s.vm s.heap vm1 h1) (hx : p.tables.exec = Jvm.exec) (hby : c.code = prog_15_method_1_code) (hml : c.maxLocals = 6) (hlk : meth.locks = false) (hrt : meth.sig.returnType = none) (Y3 : Fld Z h1 a sV "values" "Ljava/util/List;" (.ref b22)) (Y4 : Fld Z h1 a sV "units" "Ljava/util/List;" (.ref b26)) (Y6 : Exa Z h1 cl sL) (Y7 : Fld Z h1 cl sL "size" "I" (.int (3 : Int32))) (Y8 : Fld Z h1 cl sL "elementData" sE (.ref dc)) (Y9 : Arv Z h1 dc kc (.object sO) (10 : Int32) [(.ref y0), (.ref y1), (.ref y2), .null, .null, .null, .null, .null, .null, .null] .null) (Y10 : Exa Z h1 y0 sS) (Y11 : Exa Z h1 y1 sS) (Y12 : Exa Z h1 y2 sS) (Y14 : Fld Z h1 kl sB "modCount" "I" (.int (3 : Int32))) (Y15 : Fld Z h1 kl sL "elementData" sE (.ref dk)) (Y16 : Fld Z h1 kl sL "size" "I" (.int (3 : Int32))) (Y17 : Arv Z h1 dk kk (.object sO) (10 : Int32) [(.ref w0), (.ref w1), (.ref w2), .null, .null, .null, .null, .null, .null, .null] .null) (Y24 : Exa Z h1 w2 sA) (Y25 : Fld Z h1 w2 sA "value" "I" (.int i2)) (Y26 : Fld Z h1 w2 sA "unit" "I" (.int (-1 : Int32))) (Y27 : Exa Z h1 b22 sL) (Y28 : Fld Z h1 b22 sB "modCount" "I" (.int (2 : Int32))) (Y29 : Fld Z h1 b22 sL "elementData" sE (.ref d45)) (Y30 : Fld Z h1 b22 sL "size" "I" (.int (2 : Int32))) (Y31 : Exa Z h1 b26 sL) (Y32 : Fld Z h1 b26 sB "modCount" "I" (.int (2 : Int32))) (Y33 : Fld Z h1 b26 sL "elementData" sE (.ref d49)) (Y34 : Fld Z h1 b26 sL "size" "I" (.int (2 : Int32))) (Y35 : Exa Z h1 it33 sI) (Y36 : Fld Z h1 it33 sI "this$0" "Ljava/util/ArrayList;" (.ref kl)) (Y37 : Fld Z h1 it33 sI "lastRet" "I" (.int (1 : Int32))) (Y38 : Fld Z h1 it33 sI "expectedModCount" "I" (.int (3 : Int32))) (Y39 : Fld Z h1 it33 sI "cursor" "I" (.int (2 : Int32))) (Y41 : Arv Z h1 d45 kd45 (.object sO) (10 : Int32) [(.ref (own_p3 i0 y0 y1 y2)), (.ref (own_p3 i1 y0 y1 y2)), .null, .null, .null, .null, .null, .null, .null, .null] .null) (Y43 : Arv Z h1 d49 kd49 (.object sO) (10 : Int32) [(.ref a48), (.ref a60), .null, .null, .null, .null, .null, .null, .null, .null] .null) (nx10 : a ≠ b22) (nx11 : a ≠ b26) (nx12 : a ≠ it33) (nx14 : a ≠ d45) (nx16 : a ≠ d49) (nx30 : cl ≠ it33) (nx47 : dc ≠ it33) (nx103 : kl ≠ b22) (nx104 : kl ≠ b26) (nx105 : kl ≠ it33) (nx107 : kl ≠ d45) (nx109 : kl ≠ d49) (nx117 : dk ≠ it33) (nx145 : w2 ≠ b22) (nx147 : w2 ≠ it33) (nx149 : w2 ≠ d45) (nx154 : b22 ≠ b26) (nx155 : b22 ≠ it33) (nx157 : b22 ≠ d45) (nx159 : b22 ≠ d49) (nx162 : b26 ≠ it33) (nx164 : b26 ≠ d45) (nx166 : b26 ≠ d49) (nx170 : it33 ≠ d45) (nx172 : it33 ≠ d49) (nx181 : d45 ≠ d49) (g_b22 : n0 ≤ b22) (sz_b22 : h0.size ≤ b22) (g_b26 : n0 ≤ b26) (sz_b26 : h0.size ≤ b26) (g_it33 : n0 ≤ it33) (sz_it33 : h0.size ≤ it33) (g_d45 : n0 ≤ d45) (sz_d45 : h0.size ≤ d45) (g_d49 : n0 ≤ d49) (sz_d49 : h0.size ≤ d49) (O45 : Ovr Z kd45 sO) (O49 : Ovr Z kd49 sO) :
    own_GoW p.tables e below Z consts_1 (Q_vin_3 Z a cl kl aD kD dc kc y0 y1 y2 dk kk w0 w1 w2 i0 i1 i2 h0 n0) s rr17.cells rr17.slots T1 (mkF m 131 #[vr a, vr cl, vr kl, vr it33, vr w1, vr (own_p3 i1 y0 y1 y2)] []) := by
  refine bW T1 (mkF m 38 #[vr a, vr cl, vr kl, vr it33, vr w1, vr (own_p3 i1 y0 y1 y2)] []) (fun _ k => XS.goto X1.here hx rfl (pc0 := 131) (pc' := 38) rfl (hb hby d16_131) (by decide) (by decide) k) ?_
  refine bW T1 (mkF m 39 #[vr a, vr cl, vr kl, vr it33, vr w1, vr (own_p3 i1 y0 y1 y2)] [(.ref it33)]) (fun _ k => XS.aloadN X1.here hx rfl (hb hby d16_38) rfl rfl k) ?_
  obtain ⟨cq62, kq62, q62a, q62b, q62c⟩ := isOf hZ1 e1 Y35
  obtain ⟨_, _, ⟨T62, L62, k62, n62⟩, -, X62, ⟨Lc62, hQ62, l62, y62, z62⟩, st62⟩ := X1.interfaceBack hx (xi := yy29) (y := yy20) hown1 (mvT hZ1 (hw _ (mo 146 rfl))) (mvT hZ1 (hw _ (mo 147 rfl))) (mvT hZ1 (hw _ (mo 148 rfl))) (mvT hZ1 (hw _ (mo 149 rfl))) (mvT hZ1 (hw _ (mo 150 rfl))) (mvT hZ1 (hw _ (mo 151 rfl))) (mvT hZ1 (hw _ (mo 152 rfl))) (mvT hZ1 (hw _ (mo 153 rfl))) (by decide) (backOf (W := 0) (ihn l Z a0 hw [] it33 kl (2 : Int32) (3 : Int32) h1 n0 (Nat.le_trans Z0 Kc.1) Y39 Y36 Y16) hZ1 (hw _ (mo 154 rfl)) (hw _ (mo 133 rfl)) (by decide) (by decide)) q62a q62b q62c (g := (mkF m 39 #[vr a, vr cl, vr kl, vr it33, vr w1, vr (own_p3 i1 y0 y1 y2)] [(.ref it33)])) rfl (by rw [hml]; rfl) (Steps.refl _) (argsL := []) (rest := []) (lenOf pd_12 rfl) rfl (Nat.le_of_eq rfl) (hb hby d16_39) (fun _ _ => ⟨rfl, e1, (by decide : 9 ≤ _), (by decide : 38 ≤ _)⟩)
  dsimp only [Pt.U, Pt.locs, Pt.cells, Pt.slots] at X62 l62 y62 z62 st62 hQ62
  subst l62 y62 z62
  obtain ⟨vq62, N62q, e62⟩ := hQ62
  obtain rfl := vq62.trans (congrArg (fun z => some (Value.int z)) (if_neg (by decide)))
  have N62 := Fr.app Nc N62q
  refine bW T62 (mkF m 44 #[vr a, vr cl, vr kl, vr it33, vr w1, vr (own_p3 i1 y0 y1 y2)] [(.int (1 : Int32))]) (fun _ k => st62.trans k) ?_
  refine bW T62 (mkF m 47 #[vr a, vr cl, vr kl, vr it33, vr w1, vr (own_p3 i1 y0 y1 y2)] []) (fun _ k => XS.ifNo X62.here hx rfl (hb hby d16_44) rfl ((if0 _ _).trans (feq (by decide)).1) k) ?_
  refine bW T62 (mkF m 48 #[vr a, vr cl, vr kl, vr it33, vr w1, vr (own_p3 i1 y0 y1 y2)] [(.ref it33)]) (fun _ k => XS.aloadN X62.here hx rfl (hb hby d16_47) rfl rfl k) ?_
  obtain ⟨cq63, kq63, q63a, q63b, q63c⟩ := isOf hZ1 e62 Y35
  obtain ⟨_, _, ⟨T63, L63, k63, n63⟩, -, X63, ⟨Lc63, hQ63, l63, y63, z63⟩, st63⟩ := X62.interfaceBack hx (xi := yy32) (y := yy22) hown1 (mvT hZ1 (hw _ (mo 172 rfl))) (mvT hZ1 (hw _ (mo 173 rfl))) (mvT hZ1 (hw _ (mo 174 rfl))) (mvT hZ1 (hw _ (mo 175 rfl))) (mvT hZ1 (hw _ (mo 176 rfl))) (mvT hZ1 (hw _ (mo 177 rfl))) (mvT hZ1 (hw _ (mo 178 rfl))) (mvT hZ1 (hw _ (mo 153 rfl))) (by decide) (backOf (W := 0) (inx_2 l Z a0 hw [] it33 kl (3 : Int32) (1 : Int32) (3 : Int32) dk kk [(.ref w0), (.ref w1), (.ref w2), .null, .null, .null, .null, .null, .null, .null] w2 h1 n0 (Nat.le_trans Z0 Kc.1) Y35 Y36 Y37 Y38 Y39 g_it33 Y14 Y16 Y15 Y17 rfl (by decide) nx105 nx117) hZ1 (hw _ (mo 179 rfl)) (hw _ (mo 133 rfl)) (by decide) (by decide)) q63a q63b q63c (g := (mkF m 48 #[vr a, vr cl, vr kl, vr it33, vr w1, vr (own_p3 i1 y0 y1 y2)] [(.ref it33)])) rfl (by rw [hml]; rfl) (Steps.refl _) (argsL := []) (rest := []) (lenOf pd_13 rfl) rfl (Nat.le_of_eq rfl) (hb hby d16_48) (fun _ _ => ⟨rfl, e62, (by decide : 9 ≤ _), (by decide : 38 ≤ _)⟩)
  dsimp only [Pt.U, Pt.locs, Pt.cells, Pt.slots] at X63 l63 y63 z63 st63 hQ63
  subst l63 y63 z63
  obtain ⟨rfl, N63q, K63, F0_63, F1_63, F2_63, F3_63⟩ := hQ63
  have N63 := Fr.app N62 N63q
  have KK63 : Keep h0 T63.heap [a] := Keep.trans Kc K63 (allS (Or.inr sz_it33) all0)
  have C63 : CHr Z consts_1 s.vm s.heap vm1 T63.heap := CHr.trans C1 (CHr.keep K63 (sfS (Safe.exa (EL := consts_1) (vm := vm1) hZ1.alike Y35 (by decide) (by decide)) sf0) C1.1)
  refine bW T63 (mkF m 53 #[vr a, vr cl, vr kl, vr it33, vr w1, vr (own_p3 i1 y0 y1 y2)] [(.ref w2)]) (fun _ k => st63.trans k) ?_
  obtain ⟨T64, X64, e64, st64⟩ := castY X63 hx hZ1 hown1 (hw _ (mo 186 rfl)) rfl (Ins.self (Exa.keep Y24 K63)) (g := (mkF m 53 #[vr a, vr cl, vr kl, vr it33, vr w1, vr (own_p3 i1 y0 y1 y2)] [(.ref w2)])) rfl rfl (hb hby d16_53)
  refine bW T64 (mkF m 56 #[vr a, vr cl, vr kl, vr it33, vr w1, vr (own_p3 i1 y0 y1 y2)] [(.ref w2)]) (fun _ k => st64 _ k) ?_
  refine bW T64 (mkF m 58 #[vr a, vr cl, vr kl, vr it33, vr w2, vr (own_p3 i1 y0 y1 y2)] []) (fun _ k => XS.astore X64.here hx rfl (hb hby d16_56) rfl rfl rfl k) ?_
  exact vin_3_c5 (h1 := T63.heap) (T1 := T64) (vm1 := vm1) hw X64 e64 KK63 N63 Z0 hi2 hZ1 hown1 hS1 (Nat.le_trans hk1 K63.1) C63 hx hby hml hlk hrt (Fld.keep Y3 K63 (ninS nx12 nin0)) (Fld.keep Y4 K63 (ninS nx12 nin0)) (Exa.keep Y6 K63) (Fld.keep Y7 K63 (ninS nx30 nin0)) (Fld.keep Y8 K63 (ninS nx30 nin0)) (Arv.keep Y9 K63 (ninS nx47 nin0)) (Exa.keep Y10 K63) (Exa.keep Y11 K63) (Exa.keep Y12 K63) (Fld.keep Y16 K63 (ninS nx105 nin0)) (Exa.keep Y24 K63) (Fld.keep Y25 K63 (ninS nx147 nin0)) (Fld.keep Y26 K63 (ninS nx147 nin0)) (Exa.keep Y27 K63) (Fld.keep Y28 K63 (ninS nx155 nin0)) (Fld.keep Y29 K63 (ninS nx155 nin0)) (Fld.keep Y30 K63 (ninS nx155 nin0)) (Exa.keep Y31 K63) (Fld.keep Y32 K63 (ninS nx162 nin0)) (Fld.keep Y33 K63 (ninS nx162 nin0)) (Fld.keep Y34 K63 (ninS nx162 nin0)) (Exa.keep Y35 K63) F0_63 F3_63 (Arv.keep Y41 K63 (ninS (Ne.symm nx170) nin0)) (Arv.keep Y43 K63 (ninS (Ne.symm nx172) nin0)) nx10 nx11 nx14 nx16 nx103 nx104 nx107 nx109 nx145 nx149 nx154 nx155 nx157 nx159 nx162 nx164 nx166 nx170 nx172 nx181 g_b22 sz_b22 g_b26 sz_b26 g_d45 sz_d45 g_d49 sz_d49 O45 O49
theorem vin_3_c3 {l : _} {Z : State} {a0 : Array Value} (hw : HW Z a0) {a : Addr} {cl : Addr} {kl : Addr} {aD : Addr} {kD : ClassId} {dc : Addr} {kc : ClassId} {y0 : Addr} {y1 : Addr} {y2 : Addr} {dk : Addr} {kk : ClassId} {w0 : Addr} {w1 : Addr} {w2 : Addr} {i0 : Int32} {i1 : Int32} {i2 : Int32} {h0 : Heap} {n0 : Nat} {p : _} {e : _} {s : State} {m : _} {below : _} {meth : _} {c : _} {h1 : Heap} {T1 : State} {Lc : List Loc} {vm1 : Vm} {ks1 : Nat} {b22 : Addr} {b26 : Addr} {d45 : Addr} {d49 : Addr} {it33 : Addr} {kd45 : ClassId} {kd49 : ClassId} {a48 : Addr} (X1 : Stand p l e rr17 (s.setVm vm1) m #[(.ref a), (.ref cl), (.ref kl)] below meth c T1 Lc 7 34) (e1 : T1.heap = h1) (Kc : Keep h0 h1 [a]) (Nc : Fr n0 Lc) (Z0 : n0 ≤ h0.size) (hi1 : i1 = 0 ∨ i1 = 1 ∨ i1 = 2) (hi2 : i2 = 0 ∨ i2 = 1 ∨ i2 = 2) (hZ1 : Z.Warmed39 (s.setVm vm1).vm) (hown1 : (s.setVm vm1).vm.findClass sV = some m.cls) (hS1 : s.Since vm1 ks1) (hk1 : ks1 ≤ h1.size) (C1 : CHr Z consts_1 s.vm s.heap vm1 h1) (hx : p.tables.exec = Jvm.exec) (hby : c.code = prog_15_method_1_code) (hml : c.maxLocals = 6) (hlk : meth.locks = false) (hrt : meth.sig.returnType = none) (Y3 : Fld Z h1 a sV "values" "Ljava/util/List;" (.ref b22)) (Y4 : Fld Z h1 a sV "units" "Ljava/util/List;" (.ref b26)) (Y6 : Exa Z h1 cl sL) (Y7 : Fld Z h1 cl sL "size" "I" (.int (3 : Int32))) (Y8 : Fld Z h1 cl sL "elementData" sE (.ref dc)) (Y9 : Arv Z h1 dc kc (.object sO) (10 : Int32) [(.ref y0), (.ref y1), (.ref y2), .null, .null, .null, .null, .null, .null, .null] .null) (Y10 : Exa Z h1 y0 sS) (Y11 : Exa Z h1 y1 sS) (Y12 : Exa Z h1 y2 sS) (Y14 : Fld Z h1 kl sB "modCount" "I" (.int (3 : Int32))) (Y15 : Fld Z h1 kl sL "elementData" sE (.ref dk)) (Y16 : Fld Z h1 kl sL "size" "I" (.int (3 : Int32))) (Y17 : Arv Z h1 dk kk (.object sO) (10 : Int32) [(.ref w0), (.ref w1), (.ref w2), .null, .null, .null, .null, .null, .null, .null] .null) (Y21 : Exa Z h1 w1 sA) (Y22 : Fld Z h1 w1 sA "value" "I" (.int i1)) (Y23 : Fld Z h1 w1 sA "unit" "I" (.int (-1 : Int32))) (Y24 : Exa Z h1 w2 sA) (Y25 : Fld Z h1 w2 sA "value" "I" (.int i2)) (Y26 : Fld Z h1 w2 sA "unit" "I" (.int (-1 : Int32))) (Y27 : Exa Z h1 b22 sL) (Y28 : Fld Z h1 b22 sB "modCount" "I" (.int (1 : Int32))) (Y29 : Fld Z h1 b22 sL "elementData" sE (.ref d45)) (Y30 : Fld Z h1 b22 sL "size" "I" (.int (1 : Int32))) (Y31 : Exa Z h1 b26 sL) (Y32 : Fld Z h1 b26 sB "modCount" "I" (.int (1 : Int32))) (Y33 : Fld Z h1 b26 sL "elementData" sE (.ref d49)) (Y34 : Fld Z h1 b26 sL "size" "I" (.int (1 : Int32))) (Y35 : Exa Z h1 it33 sI) (Y36 : Fld Z h1 it33 sI "this$0" "Ljava/util/ArrayList;" (.ref kl)) (Y37 : Fld Z h1 it33 sI "lastRet" "I" (.int (1 : Int32))) (Y38 : Fld Z h1 it33 sI "expectedModCount" "I" (.int (3 : Int32))) (Y39 : Fld Z h1 it33 sI "cursor" "I" (.int (2 : Int32))) (Y41 : Arv Z h1 d45 kd45 (.object sO) (10 : Int32) [(.ref (own_p3 i0 y0 y1 y2)), .null, .null, .null, .null, .null, .null, .null, .null, .null] .null) (Y43 : Arv Z h1 d49 kd49 (.object sO) (10 : Int32) [(.ref a48), .null, .null, .null, .null, .null, .null, .null, .null, .null] .null) (nx10 : a ≠ b22) (nx11 : a ≠ b26) (nx12 : a ≠ it33) (nx14 : a ≠ d45) (nx16 : a ≠ d49) (nx26 : cl ≠ b22) (nx27 : cl ≠ b26) (nx28 : cl ≠ it33) (nx30 : cl ≠ d45) (nx32 : cl ≠ d49) (nx41 : dc ≠ b22) (nx42 : dc ≠ b26) (nx43 : dc ≠ it33) (nx45 : dc ≠ d45) (nx47 : dc ≠ d49) (nx91 : kl ≠ b22) (nx92 : kl ≠ b26) (nx93 : kl ≠ it33) (nx95 : kl ≠ d45) (nx97 : kl ≠ d49) (nx101 : dk ≠ b22) (nx102 : dk ≠ b26) (nx103 : dk ≠ it33) (nx105 : dk ≠ d45) (nx107 : dk ≠ d49) (nx118 : w1 ≠ b22) (nx122 : w1 ≠ d45) (nx125 : w2 ≠ b22) (nx126 : w2 ≠ b26) (nx127 : w2 ≠ it33) (nx129 : w2 ≠ d45) (nx131 : w2 ≠ d49) (nx132 : b22 ≠ b26) (nx133 : b22 ≠ it33) (nx135 : b22 ≠ d45) (nx137 : b22 ≠ d49) (nx138 : b26 ≠ it33) (nx140 : b26 ≠ d45) (nx142 : b26 ≠ d49) (nx144 : it33 ≠ d45) (nx146 : it33 ≠ d49) (nx151 : d45 ≠ d49) (g_b22 : n0 ≤ b22) (sz_b22 : h0.size ≤ b22) (g_b26 : n0 ≤ b26) (sz_b26 : h0.size ≤ b26) (g_it33 : n0 ≤ it33) (sz_it33 : h0.size ≤ it33) (g_d45 : n0 ≤ d45) (sz_d45 : h0.size ≤ d45) (g_d49 : n0 ≤ d49) (sz_d49 : h0.size ≤ d49) (O45 : Ovr Z kd45 sO) (O49 : Ovr Z kd49 sO) :
    own_GoW p.tables e below Z consts_1 (Q_vin_3 Z a cl kl aD kD dc kc y0 y1 y2 dk kk w0 w1 w2 i0 i1 i2 h0 n0) s rr17.cells rr17.slots T1 (mkF m 58 #[vr a, vr cl, vr kl, vr it33, vr w1, vr (own_p3 i0 y0 y1 y2)] []) := by
  have hEL : EW Z a0 consts_1 := own_EL hw
  have hwS : ∀ d ∈ Bundle.stringAtoms, d.before a0 Z = true := fun d hd => hw d (own_SA d hd)
  refine bW T1 (mkF m 59 #[vr a, vr cl, vr kl, vr it33, vr w1, vr (own_p3 i0 y0 y1 y2)] [(.ref cl)]) (fun _ k => XS.aloadN X1.here hx rfl (hb hby d16_58) rfl rfl k) ?_
  refine bW T1 (mkF m 61 #[vr a, vr cl, vr kl, vr it33, vr w1, vr (own_p3 i0 y0 y1 y2)] [(.ref w1), (.ref cl)]) (fun _ k => XS.aload X1.here hx rfl (hb hby d16_59) rfl rfl k) ?_
  obtain ⟨cq53, kq53, q53a, q53b, q53c⟩ := isOf hZ1 e1 Y21
  obtain ⟨_, _, ⟨T53, L53, k53, n53⟩, -, X53, ⟨Lc53, hQ53, l53, y53, z53⟩, st53⟩ := X1.virtualBack hx (y := yy15) (z := yy15) hown1 (mvT hZ1 (hw _ (mo 188 rfl))) (mvT hZ1 (hw _ (mo 189 rfl))) (notFace_of_selects (args := #[]) (mvT hZ1 (hw _ (mo 191 rfl)))) (mvT hZ1 (hw _ (mo 191 rfl))) (mvT hZ1 (hw _ (mo 190 rfl))) (by decide) (backOf (W := 1) (cg_value l Z a0 hw [] w1 i1 h1 n0 (Nat.le_trans Z0 Kc.1) Y22) hZ1 (hw _ (mo 192 rfl)) (hw _ (mo 87 rfl)) (by decide) (by decide)) q53a q53c (g := (mkF m 61 #[vr a, vr cl, vr kl, vr it33, vr w1, vr (own_p3 i0 y0 y1 y2)] [(.ref w1), (.ref cl)])) rfl (by rw [hml]; rfl) (Steps.refl _) (argsL := []) (rest := [(.ref cl)]) (lenOf pd_14 rfl) rfl (Nat.le_of_eq rfl) (hb hby d16_61) (fun _ _ => ⟨rfl, e1, (by decide : 7 ≤ _), (by decide : 34 ≤ _)⟩)
  dsimp only [Pt.U, Pt.locs, Pt.cells, Pt.slots] at X53 l53 y53 z53 st53 hQ53
  subst l53 y53 z53
  obtain ⟨rfl, N53q, e53⟩ := hQ53
  have N53 := Fr.app Nc N53q
  refine bW T53 (mkF m 64 #[vr a, vr cl, vr kl, vr it33, vr w1, vr (own_p3 i0 y0 y1 y2)] [(.int i1), (.ref cl)]) (fun _ k => st53.trans k) ?_
  obtain ⟨cq54, kq54, q54a, q54b, q54c⟩ := isOf hZ1 e53 Y6
  obtain ⟨_, _, ⟨T54, L54, k54, n54⟩, -, X54, ⟨Lc54, hQ54, l54, y54, z54⟩, st54⟩ := X53.interfaceBack hx (xi := yy30) (y := yy26) hown1 (mvT hZ1 (hw _ (mo 193 rfl))) (mvT hZ1 (hw _ (mo 194 rfl))) (mvT hZ1 (hw _ (mo 195 rfl))) (mvT hZ1 (hw _ (mo 196 rfl))) (mvT hZ1 (hw _ (mo 197 rfl))) (mvT hZ1 (hw _ (mo 198 rfl))) (mvT hZ1 (hw _ (mo 199 rfl))) (mvT hZ1 (hw _ (mo 129 rfl))) (by decide) (backOf (W := 0) (get3 l Z a0 hw [] cl i1 dc kc y0 y1 y2 h1 n0 (Nat.le_trans Z0 Kc.1) Y6 Y7 Y8 Y9 hi1) hZ1 (hw _ (mo 200 rfl)) (hw _ (mo 32 rfl)) (by decide) (by decide)) q54a q54b q54c (g := (mkF m 64 #[vr a, vr cl, vr kl, vr it33, vr w1, vr (own_p3 i0 y0 y1 y2)] [(.int i1), (.ref cl)])) rfl (by rw [hml]; rfl) (Steps.refl _) (argsL := [(.int i1)]) (rest := []) (lenOf pd_10 rfl) rfl (Nat.le_of_eq rfl) (hb hby d16_64) (fun _ _ => ⟨rfl, e53, (by decide : 7 ≤ _), (by decide : 34 ≤ _)⟩)
  dsimp only [Pt.U, Pt.locs, Pt.cells, Pt.slots] at X54 l54 y54 z54 st54 hQ54
  subst l54 y54 z54
  obtain ⟨rfl, N54q, e54⟩ := hQ54
  have N54 := Fr.app N53 N54q
  have Ep54 := own_pE i1 Y10 Y11 Y12
  refine bW T54 (mkF m 69 #[vr a, vr cl, vr kl, vr it33, vr w1, vr (own_p3 i0 y0 y1 y2)] [(.ref (own_p3 i1 y0 y1 y2))]) (fun _ k => st54.trans k) ?_
  obtain ⟨T55, X55, e55, st55⟩ := castY X54 hx hZ1 hown1 (hw _ (mo 214 rfl)) e54 (Ins.self Ep54) (g := (mkF m 69 #[vr a, vr cl, vr kl, vr it33, vr w1, vr (own_p3 i0 y0 y1 y2)] [(.ref (own_p3 i1 y0 y1 y2))])) rfl rfl (hb hby d16_69)
  refine bW T55 (mkF m 72 #[vr a, vr cl, vr kl, vr it33, vr w1, vr (own_p3 i0 y0 y1 y2)] [(.ref (own_p3 i1 y0 y1 y2))]) (fun _ k => st55 _ k) ?_
  refine bW T55 (mkF m 74 #[vr a, vr cl, vr kl, vr it33, vr w1, vr (own_p3 i1 y0 y1 y2)] []) (fun _ k => XS.astore X55.here hx rfl (hb hby d16_72) rfl rfl rfl k) ?_
  refine bW T55 (mkF m 75 #[vr a, vr cl, vr kl, vr it33, vr w1, vr (own_p3 i1 y0 y1 y2)] [(.ref a)]) (fun _ k => XS.aloadN X55.here hx rfl (hb hby d16_74) rfl rfl k) ?_
  obtain ⟨T56, X56, e56, st56⟩ := getF X55 hx hZ1 hown1 (host := "") (Or.inl (hw _ (mo 116 rfl))) Via.refl e55 Y3 (g := (mkF m 75 #[vr a, vr cl, vr kl, vr it33, vr w1, vr (own_p3 i1 y0 y1 y2)] [(.ref a)])) rfl rfl (hb hby d16_75)
  refine bW T56 (mkF m 78 #[vr a, vr cl, vr kl, vr it33, vr w1, vr (own_p3 i1 y0 y1 y2)] [(.ref b22)]) (fun _ k => st56 _ k) ?_
  refine bW T56 (mkF m 80 #[vr a, vr cl, vr kl, vr it33, vr w1, vr (own_p3 i1 y0 y1 y2)] [(.ref (own_p3 i1 y0 y1 y2)), (.ref b22)]) (fun _ k => XS.aload X56.here hx rfl (hb hby d16_78) rfl rfl k) ?_
  obtain ⟨cq57, kq57, q57a, q57b, q57c⟩ := isOf hZ1 e56 Y27
  obtain ⟨_, _, ⟨T57, L57, k57, n57⟩, -, X57, ⟨Lc57, hQ57, l57, y57, z57⟩, st57⟩ := X56.interfaceBack hx (xi := yy31) (y := yy13) hown1 (mvT hZ1 (hw _ (mo 215 rfl))) (mvT hZ1 (hw _ (mo 216 rfl))) (mvT hZ1 (hw _ (mo 217 rfl))) (mvT hZ1 (hw _ (mo 218 rfl))) (mvT hZ1 (hw _ (mo 56 rfl))) (mvT hZ1 (hw _ (mo 219 rfl))) (mvT hZ1 (hw _ (mo 220 rfl))) (mvT hZ1 (hw _ (mo 129 rfl))) (by decide) (backOf (W := 0) (ad1s_1 l Z a0 hw [] b22 (own_p3 i1 y0 y1 y2) d45 kd45 (own_p3 i0 y0 y1 y2) sS h1 n0 (Nat.le_trans Z0 Kc.1) Y27 Y28 Y29 Y30 g_b22 Y41 O45 g_d45 nx135 Ep54 (hw _ (mo 84 rfl))) hZ1 (hw _ (mo 58 rfl)) (hw _ (mo 32 rfl)) (by decide) (by decide)) q57a q57b q57c (g := (mkF m 80 #[vr a, vr cl, vr kl, vr it33, vr w1, vr (own_p3 i1 y0 y1 y2)] [(.ref (own_p3 i1 y0 y1 y2)), (.ref b22)])) rfl (by rw [hml]; rfl) (Steps.refl _) (argsL := [(.ref (own_p3 i1 y0 y1 y2))]) (rest := []) (lenOf pd_15 rfl) rfl (Nat.le_of_eq rfl) (hb hby d16_80) (fun _ _ => ⟨rfl, e56, (by decide : 7 ≤ _), (by decide : 34 ≤ _)⟩)
  dsimp only [Pt.U, Pt.locs, Pt.cells, Pt.slots] at X57 l57 y57 z57 st57 hQ57
  subst l57 y57 z57
  obtain ⟨rfl, N57q, K57, Fm57, Fe57, Fz57, V57⟩ := hQ57
  have N57 := Fr.app N54 N57q
  have KK57 : Keep h0 T57.heap [a] := Keep.trans Kc K57 (allS (Or.inr sz_b22) (allS (Or.inr sz_d45) all0))
  have C57 : CHr Z consts_1 s.vm s.heap vm1 T57.heap := CHr.trans C1 (CHr.keep K57 (sfS (Safe.exa (EL := consts_1) (vm := vm1) hZ1.alike Y27 (by decide) (by decide)) (sfS (Safe.arv (EL := consts_1) (vm := vm1) hZ1.alike Y41 (by decide)) sf0)) C1.1)
  refine bW T57 (mkF m 85 #[vr a, vr cl, vr kl, vr it33, vr w1, vr (own_p3 i1 y0 y1 y2)] [(.int (1 : Int32))]) (fun _ k => st57.trans k) ?_
  refine bW T57 (mkF m 86 #[vr a, vr cl, vr kl, vr it33, vr w1, vr (own_p3 i1 y0 y1 y2)] []) (fun _ k => XS.pop X57.here hx rfl (hb hby d16_85) rfl rfl k) ?_
  refine bW T57 (mkF m 87 #[vr a, vr cl, vr kl, vr it33, vr w1, vr (own_p3 i1 y0 y1 y2)] [(.ref a)]) (fun _ k => XS.aloadN X57.here hx rfl (hb hby d16_86) rfl rfl k) ?_
  obtain ⟨T58, X58, e58, st58⟩ := getF X57 hx hZ1 hown1 (host := "") (Or.inl (hw _ (mo 118 rfl))) Via.refl rfl (Fld.keep Y4 K57 (ninS nx10 (ninS nx14 nin0))) (g := (mkF m 87 #[vr a, vr cl, vr kl, vr it33, vr w1, vr (own_p3 i1 y0 y1 y2)] [(.ref a)])) rfl rfl (hb hby d16_87)
  refine bW T58 (mkF m 90 #[vr a, vr cl, vr kl, vr it33, vr w1, vr (own_p3 i1 y0 y1 y2)] [(.ref b26)]) (fun _ k => st58 _ k) ?_
  refine bW T58 (mkF m 92 #[vr a, vr cl, vr kl, vr it33, vr w1, vr (own_p3 i1 y0 y1 y2)] [(.ref w1), (.ref b26)]) (fun _ k => XS.aload X58.here hx rfl (hb hby d16_90) rfl rfl k) ?_
  obtain ⟨cq59, kq59, q59a, q59b, q59c⟩ := isOf hZ1 e58 (Exa.keep Y21 K57)
  obtain ⟨_, _, ⟨T59, L59, k59, n59⟩, -, X59, ⟨Lc59, hQ59, l59, y59, z59⟩, st59⟩ := X58.virtualBack hx (y := yy16) (z := yy16) hown1 (mvT hZ1 (hw _ (mo 221 rfl))) (mvT hZ1 (hw _ (mo 222 rfl))) (notFace_of_selects (args := #[]) (mvT hZ1 (hw _ (mo 224 rfl)))) (mvT hZ1 (hw _ (mo 224 rfl))) (mvT hZ1 (hw _ (mo 223 rfl))) (by decide) (backOf (W := 1) (cg_unit l Z a0 hw [] w1 (-1 : Int32) T57.heap n0 (Nat.le_trans (Nat.le_trans Z0 Kc.1) K57.1) (Fld.keep Y23 K57 (ninS nx118 (ninS nx122 nin0)))) hZ1 (hw _ (mo 225 rfl)) (hw _ (mo 87 rfl)) (by decide) (by decide)) q59a q59c (g := (mkF m 92 #[vr a, vr cl, vr kl, vr it33, vr w1, vr (own_p3 i1 y0 y1 y2)] [(.ref w1), (.ref b26)])) rfl (by rw [hml]; rfl) (Steps.refl _) (argsL := []) (rest := [(.ref b26)]) (lenOf pd_14 rfl) rfl (Nat.le_of_eq rfl) (hb hby d16_92) (fun _ _ => ⟨rfl, e58, (by decide : 7 ≤ _), (by decide : 34 ≤ _)⟩)
  dsimp only [Pt.U, Pt.locs, Pt.cells, Pt.slots] at X59 l59 y59 z59 st59 hQ59
  subst l59 y59 z59
  obtain ⟨rfl, N59q, e59⟩ := hQ59
  have N59 := Fr.app N57 N59q
  refine bW T59 (mkF m 95 #[vr a, vr cl, vr kl, vr it33, vr w1, vr (own_p3 i1 y0 y1 y2)] [(.int (-1 : Int32)), (.ref b26)]) (fun _ k => st59.trans k) ?_
  refine bW T59 (mkF m 106 #[vr a, vr cl, vr kl, vr it33, vr w1, vr (own_p3 i1 y0 y1 y2)] [(.ref b26)]) (fun _ k => XS.ifYes X59.here hx rfl (pc0 := 95) (pc' := 106) rfl (hb hby d16_95) rfl ((if0 _ _).trans (tlt (by decide)).1) (by decide) (by decide) k) ?_
  obtain ⟨a60, T60, h60, k60, b60, kb60, X60, e60, E60, hS60, hk60, hZ60, hown60, Ex60, Fc60, Fv60, V60, la60, lb60, Cq60, Lt60, D60, st60⟩ := ldcCH (s := s) (EL := consts_1) X59 hx hZ1 hown1 (hw _ (mo 226 rfl)) hwS e59 hS1 (Nat.le_trans hk1 K57.1) hEL (mo 0 rfl) C57.1 (vs := []) (z := (0 : Int32)) ⟨by decide, by decide⟩ (by decide) (by decide) (g := (mkF m 106 #[vr a, vr cl, vr kl, vr it33, vr w1, vr (own_p3 i1 y0 y1 y2)] [(.ref b26)])) rfl (hb hby d16_106) (n := 0) (by decide) (by decide) (by decide) (by decide)
  have C60 : CHr Z consts_1 s.vm s.heap T60.vm h60 := CHr.trans C57 Cq60
  have K60 : Keep h0 h60 [a] := Keep.ext KK57 E60
  refine bW T60 (mkF m 108 #[vr a, vr cl, vr kl, vr it33, vr w1, vr (own_p3 i1 y0 y1 y2)] [(.ref a60), (.ref b26)]) (fun _ k => st60 _ k) ?_
  refine bW T60 (mkF m 125 #[vr a, vr cl, vr kl, vr it33, vr w1, vr (own_p3 i1 y0 y1 y2)] [(.ref a60), (.ref b26)]) (fun _ k => XS.goto X60.here hx rfl (pc0 := 108) (pc' := 125) rfl (hb hby d16_108) (by decide) (by decide) k) ?_
  obtain ⟨cq61, kq61, q61a, q61b, q61c⟩ := isOf hZ60 e60 (Exa.ext E60 (Exa.keep Y31 K57))
  obtain ⟨_, _, ⟨T61, L61, k61, n61⟩, -, X61, ⟨Lc61, hQ61, l61, y61, z61⟩, st61⟩ := X60.interfaceBack hx (xi := yy31) (y := yy13) hown60 (mvT hZ60 (hw _ (mo 215 rfl))) (mvT hZ60 (hw _ (mo 216 rfl))) (mvT hZ60 (hw _ (mo 217 rfl))) (mvT hZ60 (hw _ (mo 218 rfl))) (mvT hZ60 (hw _ (mo 56 rfl))) (mvT hZ60 (hw _ (mo 219 rfl))) (mvT hZ60 (hw _ (mo 220 rfl))) (mvT hZ60 (hw _ (mo 129 rfl))) (by decide) (backOf (W := 0) (ad1s_1 l Z a0 hw [] b26 a60 d49 kd49 a48 sS h60 n0 (Nat.le_trans (Nat.le_trans (Nat.le_trans Z0 Kc.1) K57.1) E60.1) (Exa.ext E60 (Exa.keep Y31 K57)) (Fld.ext E60 (Fld.keep Y32 K57 (ninS (Ne.symm nx132) (ninS nx140 nin0)))) (Fld.ext E60 (Fld.keep Y33 K57 (ninS (Ne.symm nx132) (ninS nx140 nin0)))) (Fld.ext E60 (Fld.keep Y34 K57 (ninS (Ne.symm nx132) (ninS nx140 nin0)))) g_b26 (Arv.ext (Arv.keep Y43 K57 (ninS (Ne.symm nx137) (ninS (Ne.symm nx151) nin0))) E60) O49 g_d49 nx142 Ex60 (hw _ (mo 84 rfl))) hZ60 (hw _ (mo 58 rfl)) (hw _ (mo 32 rfl)) (by decide) (by decide)) q61a q61b q61c (g := (mkF m 125 #[vr a, vr cl, vr kl, vr it33, vr w1, vr (own_p3 i1 y0 y1 y2)] [(.ref a60), (.ref b26)])) rfl (by rw [hml]; rfl) (Steps.refl _) (argsL := [(.ref a60)]) (rest := []) (lenOf pd_15 rfl) rfl (Nat.le_of_eq rfl) (hb hby d16_125) (fun _ _ => ⟨rfl, e60, (by decide : 9 ≤ _), (by decide : 38 ≤ _)⟩)
  dsimp only [Pt.U, Pt.locs, Pt.cells, Pt.slots] at X61 l61 y61 z61 st61 hQ61
  subst l61 y61 z61
  obtain ⟨rfl, N61q, K61, Fm61, Fe61, Fz61, V61⟩ := hQ61
  have N61 := Fr.app N59 N61q
  have KK61 : Keep h0 T61.heap [a] := Keep.trans K60 K61 (allS (Or.inr sz_b26) (allS (Or.inr sz_d49) all0))
  have C61 : CHr Z consts_1 s.vm s.heap T60.vm T61.heap := CHr.trans C60 (CHr.keep K61 (sfS (Safe.exa (EL := consts_1) (vm := T60.vm) hZ60.alike (Exa.ext E60 (Exa.keep Y31 K57)) (by decide) (by decide)) (sfS (Safe.arv (EL := consts_1) (vm := T60.vm) hZ60.alike (Arv.ext (Arv.keep Y43 K57 (ninS (Ne.symm nx137) (ninS (Ne.symm nx151) nin0))) E60) (by decide)) sf0)) C60.1)
  refine bW T61 (mkF m 130 #[vr a, vr cl, vr kl, vr it33, vr w1, vr (own_p3 i1 y0 y1 y2)] [(.int (1 : Int32))]) (fun _ k => st61.trans k) ?_
  refine bW T61 (mkF m 131 #[vr a, vr cl, vr kl, vr it33, vr w1, vr (own_p3 i1 y0 y1 y2)] []) (fun _ k => XS.pop X61.here hx rfl (hb hby d16_130) rfl rfl k) ?_
  exact vin_3_c4 (h1 := T61.heap) (T1 := T61) (vm1 := T60.vm) hw X61 rfl KK61 N61 Z0 hi2 hZ60 hown60 hS60 (Nat.le_trans hk60 K61.1) C61 hx hby hml hlk hrt (Fld.keep (Fld.ext E60 (Fld.keep Y3 K57 (ninS nx10 (ninS nx14 nin0)))) K61 (ninS nx11 (ninS nx16 nin0))) (Fld.keep (Fld.ext E60 (Fld.keep Y4 K57 (ninS nx10 (ninS nx14 nin0)))) K61 (ninS nx11 (ninS nx16 nin0))) (Exa.keep (Exa.ext E60 (Exa.keep Y6 K57)) K61) (Fld.keep (Fld.ext E60 (Fld.keep Y7 K57 (ninS nx26 (ninS nx30 nin0)))) K61 (ninS nx27 (ninS nx32 nin0))) (Fld.keep (Fld.ext E60 (Fld.keep Y8 K57 (ninS nx26 (ninS nx30 nin0)))) K61 (ninS nx27 (ninS nx32 nin0))) (Arv.keep (Arv.ext (Arv.keep Y9 K57 (ninS nx41 (ninS nx45 nin0))) E60) K61 (ninS nx42 (ninS nx47 nin0))) (Exa.keep (Exa.ext E60 (Exa.keep Y10 K57)) K61) (Exa.keep (Exa.ext E60 (Exa.keep Y11 K57)) K61) (Exa.keep (Exa.ext E60 (Exa.keep Y12 K57)) K61) (Fld.keep (Fld.ext E60 (Fld.keep Y14 K57 (ninS nx91 (ninS nx95 nin0)))) K61 (ninS nx92 (ninS nx97 nin0))) (Fld.keep (Fld.ext E60 (Fld.keep Y15 K57 (ninS nx91 (ninS nx95 nin0)))) K61 (ninS nx92 (ninS nx97 nin0))) (Fld.keep (Fld.ext E60 (Fld.keep Y16 K57 (ninS nx91 (ninS nx95 nin0)))) K61 (ninS nx92 (ninS nx97 nin0))) (Arv.keep (Arv.ext (Arv.keep Y17 K57 (ninS nx101 (ninS nx105 nin0))) E60) K61 (ninS nx102 (ninS nx107 nin0))) (Exa.keep (Exa.ext E60 (Exa.keep Y24 K57)) K61) (Fld.keep (Fld.ext E60 (Fld.keep Y25 K57 (ninS nx125 (ninS nx129 nin0)))) K61 (ninS nx126 (ninS nx131 nin0))) (Fld.keep (Fld.ext E60 (Fld.keep Y26 K57 (ninS nx125 (ninS nx129 nin0)))) K61 (ninS nx126 (ninS nx131 nin0))) (Exa.keep (Exa.ext E60 (Exa.keep Y27 K57)) K61) (Fld.keep (Fld.ext E60 Fm57) K61 (ninS nx132 (ninS nx137 nin0))) (Fld.keep (Fld.ext E60 Fe57) K61 (ninS nx132 (ninS nx137 nin0))) (Fld.keep (Fld.ext E60 Fz57) K61 (ninS nx132 (ninS nx137 nin0))) (Exa.keep (Exa.ext E60 (Exa.keep Y31 K57)) K61) Fm61 Fe61 Fz61 (Exa.keep (Exa.ext E60 (Exa.keep Y35 K57)) K61) (Fld.keep (Fld.ext E60 (Fld.keep Y36 K57 (ninS (Ne.symm nx133) (ninS nx144 nin0)))) K61 (ninS (Ne.symm nx138) (ninS nx146 nin0))) (Fld.keep (Fld.ext E60 (Fld.keep Y37 K57 (ninS (Ne.symm nx133) (ninS nx144 nin0)))) K61 (ninS (Ne.symm nx138) (ninS nx146 nin0))) (Fld.keep (Fld.ext E60 (Fld.keep Y38 K57 (ninS (Ne.symm nx133) (ninS nx144 nin0)))) K61 (ninS (Ne.symm nx138) (ninS nx146 nin0))) (Fld.keep (Fld.ext E60 (Fld.keep Y39 K57 (ninS (Ne.symm nx133) (ninS nx144 nin0)))) K61 (ninS (Ne.symm nx138) (ninS nx146 nin0))) (Arv.keep (Arv.ext V57 E60) K61 (ninS (Ne.symm nx140) (ninS nx151 nin0))) V61 nx10 nx11 nx12 nx14 nx16 nx28 nx43 nx91 nx92 nx93 nx95 nx97 nx103 nx125 nx127 nx129 nx132 nx133 nx135 nx137 nx138 nx140 nx142 nx144 nx146 nx151 g_b22 sz_b22 g_b26 sz_b26 g_it33 sz_it33 g_d45 sz_d45 g_d49 sz_d49 O45 O49
theorem vin_3_c2 {l : _} {Z : State} {a0 : Array Value} (hw : HW Z a0) {a : Addr} {cl : Addr} {kl : Addr} {aD : Addr} {kD : ClassId} {dc : Addr} {kc : ClassId} {y0 : Addr} {y1 : Addr} {y2 : Addr} {dk : Addr} {kk : ClassId} {w0 : Addr} {w1 : Addr} {w2 : Addr} {i0 : Int32} {i1 : Int32} {i2 : Int32} {h0 : Heap} {n0 : Nat} {p : _} {e : _} {s : State} {m : _} {below : _} {meth : _} {c : _} {h1 : Heap} {T1 : State} {Lc : List Loc} {vm1 : Vm} {ks1 : Nat} {b22 : Addr} {b26 : Addr} {d45 : Addr} {d49 : Addr} {it33 : Addr} {kd45 : ClassId} {kd49 : ClassId} {a48 : Addr} (X1 : Stand p l e rr17 (s.setVm vm1) m #[(.ref a), (.ref cl), (.ref kl)] below meth c T1 Lc 7 34) (e1 : T1.heap = h1) (Kc : Keep h0 h1 [a]) (Nc : Fr n0 Lc) (Z0 : n0 ≤ h0.size) (hi1 : i1 = 0 ∨ i1 = 1 ∨ i1 = 2) (hi2 : i2 = 0 ∨ i2 = 1 ∨ i2 = 2) (hZ1 : Z.Warmed39 (s.setVm vm1).vm) (hown1 : (s.setVm vm1).vm.findClass sV = some m.cls) (hS1 : s.Since vm1 ks1) (hk1 : ks1 ≤ h1.size) (C1 : CHr Z consts_1 s.vm s.heap vm1 h1) (hx : p.tables.exec = Jvm.exec) (hby : c.code = prog_15_method_1_code) (hml : c.maxLocals = 6) (hlk : meth.locks = false) (hrt : meth.sig.returnType = none) (Y3 : Fld Z h1 a sV "values" "Ljava/util/List;" (.ref b22)) (Y4 : Fld Z h1 a sV "units" "Ljava/util/List;" (.ref b26)) (Y6 : Exa Z h1 cl sL) (Y7 : Fld Z h1 cl sL "size" "I" (.int (3 : Int32))) (Y8 : Fld Z h1 cl sL "elementData" sE (.ref dc)) (Y9 : Arv Z h1 dc kc (.object sO) (10 : Int32) [(.ref y0), (.ref y1), (.ref y2), .null, .null, .null, .null, .null, .null, .null] .null) (Y10 : Exa Z h1 y0 sS) (Y11 : Exa Z h1 y1 sS) (Y12 : Exa Z h1 y2 sS) (Y14 : Fld Z h1 kl sB "modCount" "I" (.int (3 : Int32))) (Y15 : Fld Z h1 kl sL "elementData" sE (.ref dk)) (Y16 : Fld Z h1 kl sL "size" "I" (.int (3 : Int32))) (Y17 : Arv Z h1 dk kk (.object sO) (10 : Int32) [(.ref w0), (.ref w1), (.ref w2), .null, .null, .null, .null, .null, .null, .null] .null) (Y21 : Exa Z h1 w1 sA) (Y22 : Fld Z h1 w1 sA "value" "I" (.int i1)) (Y23 : Fld Z h1 w1 sA "unit" "I" (.int (-1 : Int32))) (Y24 : Exa Z h1 w2 sA) (Y25 : Fld Z h1 w2 sA "value" "I" (.int i2)) (Y26 : Fld Z h1 w2 sA "unit" "I" (.int (-1 : Int32))) (Y27 : Exa Z h1 b22 sL) (Y28 : Fld Z h1 b22 sB "modCount" "I" (.int (1 : Int32))) (Y29 : Fld Z h1 b22 sL "elementData" sE (.ref d45)) (Y30 : Fld Z h1 b22 sL "size" "I" (.int (1 : Int32))) (Y31 : Exa Z h1 b26 sL) (Y32 : Fld Z h1 b26 sB "modCount" "I" (.int (1 : Int32))) (Y33 : Fld Z h1 b26 sL "elementData" sE (.ref d49)) (Y34 : Fld Z h1 b26 sL "size" "I" (.int (1 : Int32))) (Y35 : Exa Z h1 it33 sI) (Y36 : Fld Z h1 it33 sI "this$0" "Ljava/util/ArrayList;" (.ref kl)) (Y37 : Fld Z h1 it33 sI "lastRet" "I" (ii 0)) (Y38 : Fld Z h1 it33 sI "expectedModCount" "I" (.int (3 : Int32))) (Y39 : Fld Z h1 it33 sI "cursor" "I" (.int (1 : Int32))) (Y41 : Arv Z h1 d45 kd45 (.object sO) (10 : Int32) [(.ref (own_p3 i0 y0 y1 y2)), .null, .null, .null, .null, .null, .null, .null, .null, .null] .null) (Y43 : Arv Z h1 d49 kd49 (.object sO) (10 : Int32) [(.ref a48), .null, .null, .null, .null, .null, .null, .null, .null, .null] .null) (nx10 : a ≠ b22) (nx11 : a ≠ b26) (nx12 : a ≠ it33) (nx14 : a ≠ d45) (nx16 : a ≠ d49) (nx26 : cl ≠ b22) (nx27 : cl ≠ b26) (nx28 : cl ≠ it33) (nx30 : cl ≠ d45) (nx32 : cl ≠ d49) (nx41 : dc ≠ b22) (nx42 : dc ≠ b26) (nx43 : dc ≠ it33) (nx45 : dc ≠ d45) (nx47 : dc ≠ d49) (nx91 : kl ≠ b22) (nx92 : kl ≠ b26) (nx93 : kl ≠ it33) (nx95 : kl ≠ d45) (nx97 : kl ≠ d49) (nx101 : dk ≠ b22) (nx102 : dk ≠ b26) (nx103 : dk ≠ it33) (nx105 : dk ≠ d45) (nx107 : dk ≠ d49) (nx118 : w1 ≠ b22) (nx120 : w1 ≠ it33) (nx122 : w1 ≠ d45) (nx125 : w2 ≠ b22) (nx126 : w2 ≠ b26) (nx127 : w2 ≠ it33) (nx129 : w2 ≠ d45) (nx131 : w2 ≠ d49) (nx132 : b22 ≠ b26) (nx133 : b22 ≠ it33) (nx135 : b22 ≠ d45) (nx137 : b22 ≠ d49) (nx138 : b26 ≠ it33) (nx140 : b26 ≠ d45) (nx142 : b26 ≠ d49) (nx144 : it33 ≠ d45) (nx146 : it33 ≠ d49) (nx151 : d45 ≠ d49) (g_b22 : n0 ≤ b22) (sz_b22 : h0.size ≤ b22) (g_b26 : n0 ≤ b26) (sz_b26 : h0.size ≤ b26) (g_it33 : n0 ≤ it33) (sz_it33 : h0.size ≤ it33) (g_d45 : n0 ≤ d45) (sz_d45 : h0.size ≤ d45) (g_d49 : n0 ≤ d49) (sz_d49 : h0.size ≤ d49) (O45 : Ovr Z kd45 sO) (O49 : Ovr Z kd49 sO) :
    own_GoW p.tables e below Z consts_1 (Q_vin_3 Z a cl kl aD kD dc kc y0 y1 y2 dk kk w0 w1 w2 i0 i1 i2 h0 n0) s rr17.cells rr17.slots T1 (mkF m 131 #[vr a, vr cl, vr kl, vr it33, vr w0, vr (own_p3 i0 y0 y1 y2)] []) := by
  refine bW T1 (mkF m 38 #[vr a, vr cl, vr kl, vr it33, vr w0, vr (own_p3 i0 y0 y1 y2)] []) (fun _ k => XS.goto X1.here hx rfl (pc0 := 131) (pc' := 38) rfl (hb hby d16_131) (by decide) (by decide) k) ?_
  refine bW T1 (mkF m 39 #[vr a, vr cl, vr kl, vr it33, vr w0, vr (own_p3 i0 y0 y1 y2)] [(.ref it33)]) (fun _ k => XS.aloadN X1.here hx rfl (hb hby d16_38) rfl rfl k) ?_
  obtain ⟨cq50, kq50, q50a, q50b, q50c⟩ := isOf hZ1 e1 Y35
  obtain ⟨_, _, ⟨T50, L50, k50, n50⟩, -, X50, ⟨Lc50, hQ50, l50, y50, z50⟩, st50⟩ := X1.interfaceBack hx (xi := yy29) (y := yy20) hown1 (mvT hZ1 (hw _ (mo 146 rfl))) (mvT hZ1 (hw _ (mo 147 rfl))) (mvT hZ1 (hw _ (mo 148 rfl))) (mvT hZ1 (hw _ (mo 149 rfl))) (mvT hZ1 (hw _ (mo 150 rfl))) (mvT hZ1 (hw _ (mo 151 rfl))) (mvT hZ1 (hw _ (mo 152 rfl))) (mvT hZ1 (hw _ (mo 153 rfl))) (by decide) (backOf (W := 0) (ihn l Z a0 hw [] it33 kl (1 : Int32) (3 : Int32) h1 n0 (Nat.le_trans Z0 Kc.1) Y39 Y36 Y16) hZ1 (hw _ (mo 154 rfl)) (hw _ (mo 133 rfl)) (by decide) (by decide)) q50a q50b q50c (g := (mkF m 39 #[vr a, vr cl, vr kl, vr it33, vr w0, vr (own_p3 i0 y0 y1 y2)] [(.ref it33)])) rfl (by rw [hml]; rfl) (Steps.refl _) (argsL := []) (rest := []) (lenOf pd_12 rfl) rfl (Nat.le_of_eq rfl) (hb hby d16_39) (fun _ _ => ⟨rfl, e1, (by decide : 7 ≤ _), (by decide : 34 ≤ _)⟩)
  dsimp only [Pt.U, Pt.locs, Pt.cells, Pt.slots] at X50 l50 y50 z50 st50 hQ50
  subst l50 y50 z50
  obtain ⟨vq50, N50q, e50⟩ := hQ50
  obtain rfl := vq50.trans (congrArg (fun z => some (Value.int z)) (if_neg (by decide)))
  have N50 := Fr.app Nc N50q
  refine bW T50 (mkF m 44 #[vr a, vr cl, vr kl, vr it33, vr w0, vr (own_p3 i0 y0 y1 y2)] [(.int (1 : Int32))]) (fun _ k => st50.trans k) ?_
  refine bW T50 (mkF m 47 #[vr a, vr cl, vr kl, vr it33, vr w0, vr (own_p3 i0 y0 y1 y2)] []) (fun _ k => XS.ifNo X50.here hx rfl (hb hby d16_44) rfl ((if0 _ _).trans (feq (by decide)).1) k) ?_
  refine bW T50 (mkF m 48 #[vr a, vr cl, vr kl, vr it33, vr w0, vr (own_p3 i0 y0 y1 y2)] [(.ref it33)]) (fun _ k => XS.aloadN X50.here hx rfl (hb hby d16_47) rfl rfl k) ?_
  obtain ⟨cq51, kq51, q51a, q51b, q51c⟩ := isOf hZ1 e50 Y35
  obtain ⟨_, _, ⟨T51, L51, k51, n51⟩, -, X51, ⟨Lc51, hQ51, l51, y51, z51⟩, st51⟩ := X50.interfaceBack hx (xi := yy32) (y := yy22) hown1 (mvT hZ1 (hw _ (mo 172 rfl))) (mvT hZ1 (hw _ (mo 173 rfl))) (mvT hZ1 (hw _ (mo 174 rfl))) (mvT hZ1 (hw _ (mo 175 rfl))) (mvT hZ1 (hw _ (mo 176 rfl))) (mvT hZ1 (hw _ (mo 177 rfl))) (mvT hZ1 (hw _ (mo 178 rfl))) (mvT hZ1 (hw _ (mo 153 rfl))) (by decide) (backOf (W := 0) (inx_1 l Z a0 hw [] it33 kl (3 : Int32) (0 : Int32) (3 : Int32) dk kk [(.ref w0), (.ref w1), (.ref w2), .null, .null, .null, .null, .null, .null, .null] w1 h1 n0 (Nat.le_trans Z0 Kc.1) Y35 Y36 Y37 Y38 Y39 g_it33 Y14 Y16 Y15 Y17 rfl (by decide) nx93 nx103) hZ1 (hw _ (mo 179 rfl)) (hw _ (mo 133 rfl)) (by decide) (by decide)) q51a q51b q51c (g := (mkF m 48 #[vr a, vr cl, vr kl, vr it33, vr w0, vr (own_p3 i0 y0 y1 y2)] [(.ref it33)])) rfl (by rw [hml]; rfl) (Steps.refl _) (argsL := []) (rest := []) (lenOf pd_13 rfl) rfl (Nat.le_of_eq rfl) (hb hby d16_48) (fun _ _ => ⟨rfl, e50, (by decide : 7 ≤ _), (by decide : 34 ≤ _)⟩)
  dsimp only [Pt.U, Pt.locs, Pt.cells, Pt.slots] at X51 l51 y51 z51 st51 hQ51
  subst l51 y51 z51
  obtain ⟨rfl, N51q, K51, F0_51, F1_51, F2_51, F3_51⟩ := hQ51
  have N51 := Fr.app N50 N51q
  have KK51 : Keep h0 T51.heap [a] := Keep.trans Kc K51 (allS (Or.inr sz_it33) all0)
  have C51 : CHr Z consts_1 s.vm s.heap vm1 T51.heap := CHr.trans C1 (CHr.keep K51 (sfS (Safe.exa (EL := consts_1) (vm := vm1) hZ1.alike Y35 (by decide) (by decide)) sf0) C1.1)
  refine bW T51 (mkF m 53 #[vr a, vr cl, vr kl, vr it33, vr w0, vr (own_p3 i0 y0 y1 y2)] [(.ref w1)]) (fun _ k => st51.trans k) ?_
  obtain ⟨T52, X52, e52, st52⟩ := castY X51 hx hZ1 hown1 (hw _ (mo 186 rfl)) rfl (Ins.self (Exa.keep Y21 K51)) (g := (mkF m 53 #[vr a, vr cl, vr kl, vr it33, vr w0, vr (own_p3 i0 y0 y1 y2)] [(.ref w1)])) rfl rfl (hb hby d16_53)
  refine bW T52 (mkF m 56 #[vr a, vr cl, vr kl, vr it33, vr w0, vr (own_p3 i0 y0 y1 y2)] [(.ref w1)]) (fun _ k => st52 _ k) ?_
  refine bW T52 (mkF m 58 #[vr a, vr cl, vr kl, vr it33, vr w1, vr (own_p3 i0 y0 y1 y2)] []) (fun _ k => XS.astore X52.here hx rfl (hb hby d16_56) rfl rfl rfl k) ?_
  exact vin_3_c3 (h1 := T51.heap) (T1 := T52) (vm1 := vm1) hw X52 e52 KK51 N51 Z0 hi1 hi2 hZ1 hown1 hS1 (Nat.le_trans hk1 K51.1) C51 hx hby hml hlk hrt (Fld.keep Y3 K51 (ninS nx12 nin0)) (Fld.keep Y4 K51 (ninS nx12 nin0)) (Exa.keep Y6 K51) (Fld.keep Y7 K51 (ninS nx28 nin0)) (Fld.keep Y8 K51 (ninS nx28 nin0)) (Arv.keep Y9 K51 (ninS nx43 nin0)) (Exa.keep Y10 K51) (Exa.keep Y11 K51) (Exa.keep Y12 K51) (Fld.keep Y14 K51 (ninS nx93 nin0)) (Fld.keep Y15 K51 (ninS nx93 nin0)) (Fld.keep Y16 K51 (ninS nx93 nin0)) (Arv.keep Y17 K51 (ninS nx103 nin0)) (Exa.keep Y21 K51) (Fld.keep Y22 K51 (ninS nx120 nin0)) (Fld.keep Y23 K51 (ninS nx120 nin0)) (Exa.keep Y24 K51) (Fld.keep Y25 K51 (ninS nx127 nin0)) (Fld.keep Y26 K51 (ninS nx127 nin0)) (Exa.keep Y27 K51) (Fld.keep Y28 K51 (ninS nx133 nin0)) (Fld.keep Y29 K51 (ninS nx133 nin0)) (Fld.keep Y30 K51 (ninS nx133 nin0)) (Exa.keep Y31 K51) (Fld.keep Y32 K51 (ninS nx138 nin0)) (Fld.keep Y33 K51 (ninS nx138 nin0)) (Fld.keep Y34 K51 (ninS nx138 nin0)) (Exa.keep Y35 K51) F0_51 F1_51 F2_51 F3_51 (Arv.keep Y41 K51 (ninS (Ne.symm nx144) nin0)) (Arv.keep Y43 K51 (ninS (Ne.symm nx146) nin0)) nx10 nx11 nx12 nx14 nx16 nx26 nx27 nx28 nx30 nx32 nx41 nx42 nx43 nx45 nx47 nx91 nx92 nx93 nx95 nx97 nx101 nx102 nx103 nx105 nx107 nx118 nx122 nx125 nx126 nx127 nx129 nx131 nx132 nx133 nx135 nx137 nx138 nx140 nx142 nx144 nx146 nx151 g_b22 sz_b22 g_b26 sz_b26 g_it33 sz_it33 g_d45 sz_d45 g_d49 sz_d49 O45 O49
theorem vin_3_c1 {l : _} {Z : State} {a0 : Array Value} (hw : HW Z a0) {a : Addr} {cl : Addr} {kl : Addr} {aD : Addr} {kD : ClassId} {dc : Addr} {kc : ClassId} {y0 : Addr} {y1 : Addr} {y2 : Addr} {dk : Addr} {kk : ClassId} {w0 : Addr} {w1 : Addr} {w2 : Addr} {i0 : Int32} {i1 : Int32} {i2 : Int32} {h0 : Heap} {n0 : Nat} {p : _} {e : _} {s : State} {m : _} {below : _} {meth : _} {c : _} {h1 : Heap} {T1 : State} {Lc : List Loc} {vm1 : Vm} {ks1 : Nat} {b22 : Addr} {b26 : Addr} {it33 : Addr} (X1 : Stand p l e rr17 (s.setVm vm1) m #[(.ref a), (.ref cl), (.ref kl)] below meth c T1 Lc 3 10) (e1 : T1.heap = h1) (Kc : Keep h0 h1 [a]) (Nc : Fr n0 Lc) (Z0 : n0 ≤ h0.size) (O0 : Old Z n0 h1) (S_DE : Sta Z Z.heap sL "DEFAULTCAPACITY_EMPTY_ELEMENTDATA" "[Ljava/lang/Object;" (.ref aD)) (V_aD : Arv Z Z.heap aD kD (.object sO) (0 : Int32) [] .null) (hi0 : i0 = 0 ∨ i0 = 1 ∨ i0 = 2) (hi1 : i1 = 0 ∨ i1 = 1 ∨ i1 = 2) (hi2 : i2 = 0 ∨ i2 = 1 ∨ i2 = 2) (hZ1 : Z.Warmed39 (s.setVm vm1).vm) (hown1 : (s.setVm vm1).vm.findClass sV = some m.cls) (hS1 : s.Since vm1 ks1) (hk1 : ks1 ≤ h1.size) (C1 : CHr Z consts_1 s.vm s.heap vm1 h1) (hx : p.tables.exec = Jvm.exec) (hby : c.code = prog_15_method_1_code) (hml : c.maxLocals = 6) (hlk : meth.locks = false) (hrt : meth.sig.returnType = none) (Y2 : Exa Z h1 a sV) (Y3 : Fld Z h1 a sV "values" "Ljava/util/List;" (.ref b22)) (Y4 : Fld Z h1 a sV "units" "Ljava/util/List;" (.ref b26)) (Y6 : Exa Z h1 cl sL) (Y7 : Fld Z h1 cl sL "size" "I" (.int (3 : Int32))) (Y8 : Fld Z h1 cl sL "elementData" sE (.ref dc)) (Y9 : Arv Z h1 dc kc (.object sO) (10 : Int32) [(.ref y0), (.ref y1), (.ref y2), .null, .null, .null, .null, .null, .null, .null] .null) (Y10 : Exa Z h1 y0 sS) (Y11 : Exa Z h1 y1 sS) (Y12 : Exa Z h1 y2 sS) (Y13 : Exa Z h1 kl sL) (Y14 : Fld Z h1 kl sB "modCount" "I" (.int (3 : Int32))) (Y15 : Fld Z h1 kl sL "elementData" sE (.ref dk)) (Y16 : Fld Z h1 kl sL "size" "I" (.int (3 : Int32))) (Y17 : Arv Z h1 dk kk (.object sO) (10 : Int32) [(.ref w0), (.ref w1), (.ref w2), .null, .null, .null, .null, .null, .null, .null] .null) (Y18 : Exa Z h1 w0 sA) (Y19 : Fld Z h1 w0 sA "value" "I" (.int i0)) (Y20 : Fld Z h1 w0 sA "unit" "I" (.int (-1 : Int32))) (Y21 : Exa Z h1 w1 sA) (Y22 : Fld Z h1 w1 sA "value" "I" (.int i1)) (Y23 : Fld Z h1 w1 sA "unit" "I" (.int (-1 : Int32))) (Y24 : Exa Z h1 w2 sA) (Y25 : Fld Z h1 w2 sA "value" "I" (.int i2)) (Y26 : Fld Z h1 w2 sA "unit" "I" (.int (-1 : Int32))) (Y27 : Exa Z h1 b22 sL) (Y28 : Fld Z h1 b22 sB "modCount" "I" (ii 0)) (Y29 : Fld Z h1 b22 sL "elementData" sE (.ref aD)) (Y30 : Fld Z h1 b22 sL "size" "I" (ii 0)) (Y31 : Exa Z h1 b26 sL) (Y32 : Fld Z h1 b26 sB "modCount" "I" (ii 0)) (Y33 : Fld Z h1 b26 sL "elementData" sE (.ref aD)) (Y34 : Fld Z h1 b26 sL "size" "I" (ii 0)) (Y35 : Exa Z h1 it33 sI) (Y36 : Fld Z h1 it33 sI "this$0" "Ljava/util/ArrayList;" (.ref kl)) (Y37 : Fld Z h1 it33 sI "lastRet" "I" (ii 0)) (Y38 : Fld Z h1 it33 sI "expectedModCount" "I" (.int (3 : Int32))) (Y39 : Fld Z h1 it33 sI "cursor" "I" (.int (1 : Int32))) (nx10 : a ≠ b22) (nx11 : a ≠ b26) (nx12 : a ≠ it33) (nx22 : cl ≠ b22) (nx23 : cl ≠ b26) (nx24 : cl ≠ it33) (nx33 : dc ≠ b22) (nx34 : dc ≠ b26) (nx35 : dc ≠ it33) (nx67 : kl ≠ b22) (nx68 : kl ≠ b26) (nx69 : kl ≠ it33) (nx73 : dk ≠ b22) (nx74 : dk ≠ b26) (nx75 : dk ≠ it33) (nx78 : w0 ≠ b22) (nx82 : w1 ≠ b22) (nx83 : w1 ≠ b26) (nx84 : w1 ≠ it33) (nx85 : w2 ≠ b22) (nx86 : w2 ≠ b26) (nx87 : w2 ≠ it33) (nx88 : b22 ≠ b26) (nx89 : b22 ≠ it33) (nx90 : b26 ≠ it33) (g_b22 : n0 ≤ b22) (sz_b22 : h0.size ≤ b22) (g_b26 : n0 ≤ b26) (sz_b26 : h0.size ≤ b26) (g_it33 : n0 ≤ it33) (sz_it33 : h0.size ≤ it33) :
    own_GoW p.tables e below Z consts_1 (Q_vin_3 Z a cl kl aD kD dc kc y0 y1 y2 dk kk w0 w1 w2 i0 i1 i2 h0 n0) s rr17.cells rr17.slots T1 (mkF m 58 #[vr a, vr cl, vr kl, vr it33, vr w0, uu] []) := by
  have hEL : EW Z a0 consts_1 := own_EL hw
  have hwS : ∀ d ∈ Bundle.stringAtoms, d.before a0 Z = true := fun d hd => hw d (own_SA d hd)
  refine bW T1 (mkF m 59 #[vr a, vr cl, vr kl, vr it33, vr w0, uu] [(.ref cl)]) (fun _ k => XS.aloadN X1.here hx rfl (hb hby d16_58) rfl rfl k) ?_
  refine bW T1 (mkF m 61 #[vr a, vr cl, vr kl, vr it33, vr w0, uu] [(.ref w0), (.ref cl)]) (fun _ k => XS.aload X1.here hx rfl (hb hby d16_59) rfl rfl k) ?_
  obtain ⟨cq41, kq41, q41a, q41b, q41c⟩ := isOf hZ1 e1 Y18
  obtain ⟨_, _, ⟨T41, L41, k41, n41⟩, -, X41, ⟨Lc41, hQ41, l41, y41, z41⟩, st41⟩ := X1.virtualBack hx (y := yy15) (z := yy15) hown1 (mvT hZ1 (hw _ (mo 188 rfl))) (mvT hZ1 (hw _ (mo 189 rfl))) (notFace_of_selects (args := #[]) (mvT hZ1 (hw _ (mo 191 rfl)))) (mvT hZ1 (hw _ (mo 191 rfl))) (mvT hZ1 (hw _ (mo 190 rfl))) (by decide) (backOf (W := 1) (cg_value l Z a0 hw [] w0 i0 h1 n0 (Nat.le_trans Z0 Kc.1) Y19) hZ1 (hw _ (mo 192 rfl)) (hw _ (mo 87 rfl)) (by decide) (by decide)) q41a q41c (g := (mkF m 61 #[vr a, vr cl, vr kl, vr it33, vr w0, uu] [(.ref w0), (.ref cl)])) rfl (by rw [hml]; rfl) (Steps.refl _) (argsL := []) (rest := [(.ref cl)]) (lenOf pd_14 rfl) rfl (Nat.le_of_eq rfl) (hb hby d16_61) (fun _ _ => ⟨rfl, e1, (by decide : 3 ≤ _), (by decide : 10 ≤ _)⟩)
  dsimp only [Pt.U, Pt.locs, Pt.cells, Pt.slots] at X41 l41 y41 z41 st41 hQ41
  subst l41 y41 z41
  obtain ⟨rfl, N41q, e41⟩ := hQ41
  have N41 := Fr.app Nc N41q
  refine bW T41 (mkF m 64 #[vr a, vr cl, vr kl, vr it33, vr w0, uu] [(.int i0), (.ref cl)]) (fun _ k => st41.trans k) ?_
  obtain ⟨cq42, kq42, q42a, q42b, q42c⟩ := isOf hZ1 e41 Y6
  obtain ⟨_, _, ⟨T42, L42, k42, n42⟩, -, X42, ⟨Lc42, hQ42, l42, y42, z42⟩, st42⟩ := X41.interfaceBack hx (xi := yy30) (y := yy26) hown1 (mvT hZ1 (hw _ (mo 193 rfl))) (mvT hZ1 (hw _ (mo 194 rfl))) (mvT hZ1 (hw _ (mo 195 rfl))) (mvT hZ1 (hw _ (mo 196 rfl))) (mvT hZ1 (hw _ (mo 197 rfl))) (mvT hZ1 (hw _ (mo 198 rfl))) (mvT hZ1 (hw _ (mo 199 rfl))) (mvT hZ1 (hw _ (mo 129 rfl))) (by decide) (backOf (W := 0) (get3 l Z a0 hw [] cl i0 dc kc y0 y1 y2 h1 n0 (Nat.le_trans Z0 Kc.1) Y6 Y7 Y8 Y9 hi0) hZ1 (hw _ (mo 200 rfl)) (hw _ (mo 32 rfl)) (by decide) (by decide)) q42a q42b q42c (g := (mkF m 64 #[vr a, vr cl, vr kl, vr it33, vr w0, uu] [(.int i0), (.ref cl)])) rfl (by rw [hml]; rfl) (Steps.refl _) (argsL := [(.int i0)]) (rest := []) (lenOf pd_10 rfl) rfl (Nat.le_of_eq rfl) (hb hby d16_64) (fun _ _ => ⟨rfl, e41, (by decide : 3 ≤ _), (by decide : 10 ≤ _)⟩)
  dsimp only [Pt.U, Pt.locs, Pt.cells, Pt.slots] at X42 l42 y42 z42 st42 hQ42
  subst l42 y42 z42
  obtain ⟨rfl, N42q, e42⟩ := hQ42
  have N42 := Fr.app N41 N42q
  have Ep42 := own_pE i0 Y10 Y11 Y12
  refine bW T42 (mkF m 69 #[vr a, vr cl, vr kl, vr it33, vr w0, uu] [(.ref (own_p3 i0 y0 y1 y2))]) (fun _ k => st42.trans k) ?_
  obtain ⟨T43, X43, e43, st43⟩ := castY X42 hx hZ1 hown1 (hw _ (mo 214 rfl)) e42 (Ins.self Ep42) (g := (mkF m 69 #[vr a, vr cl, vr kl, vr it33, vr w0, uu] [(.ref (own_p3 i0 y0 y1 y2))])) rfl rfl (hb hby d16_69)
  refine bW T43 (mkF m 72 #[vr a, vr cl, vr kl, vr it33, vr w0, uu] [(.ref (own_p3 i0 y0 y1 y2))]) (fun _ k => st43 _ k) ?_
  refine bW T43 (mkF m 74 #[vr a, vr cl, vr kl, vr it33, vr w0, vr (own_p3 i0 y0 y1 y2)] []) (fun _ k => XS.astore X43.here hx rfl (hb hby d16_72) rfl rfl rfl k) ?_
  refine bW T43 (mkF m 75 #[vr a, vr cl, vr kl, vr it33, vr w0, vr (own_p3 i0 y0 y1 y2)] [(.ref a)]) (fun _ k => XS.aloadN X43.here hx rfl (hb hby d16_74) rfl rfl k) ?_
  obtain ⟨T44, X44, e44, st44⟩ := getF X43 hx hZ1 hown1 (host := "") (Or.inl (hw _ (mo 116 rfl))) Via.refl e43 Y3 (g := (mkF m 75 #[vr a, vr cl, vr kl, vr it33, vr w0, vr (own_p3 i0 y0 y1 y2)] [(.ref a)])) rfl rfl (hb hby d16_75)
  refine bW T44 (mkF m 78 #[vr a, vr cl, vr kl, vr it33, vr w0, vr (own_p3 i0 y0 y1 y2)] [(.ref b22)]) (fun _ k => st44 _ k) ?_
  refine bW T44 (mkF m 80 #[vr a, vr cl, vr kl, vr it33, vr w0, vr (own_p3 i0 y0 y1 y2)] [(.ref (own_p3 i0 y0 y1 y2)), (.ref b22)]) (fun _ k => XS.aload X44.here hx rfl (hb hby d16_78) rfl rfl k) ?_
  obtain ⟨cq45, kq45, q45a, q45b, q45c⟩ := isOf hZ1 e44 Y27
  obtain ⟨_, _, ⟨T45, L45, k45, n45⟩, -, X45, ⟨Lc45, hQ45, l45, y45, z45⟩, st45⟩ := X44.interfaceBack hx (xi := yy31) (y := yy13) hown1 (mvT hZ1 (hw _ (mo 215 rfl))) (mvT hZ1 (hw _ (mo 216 rfl))) (mvT hZ1 (hw _ (mo 217 rfl))) (mvT hZ1 (hw _ (mo 218 rfl))) (mvT hZ1 (hw _ (mo 56 rfl))) (mvT hZ1 (hw _ (mo 219 rfl))) (mvT hZ1 (hw _ (mo 220 rfl))) (mvT hZ1 (hw _ (mo 129 rfl))) (by decide) (backOf (W := 0) (ad1s_0 l Z a0 hw [] b22 (own_p3 i0 y0 y1 y2) aD kD sS h1 n0 (Nat.le_trans Z0 Kc.1) O0 Y27 Y28 Y29 Y30 g_b22 S_DE V_aD Ep42 (hw _ (mo 84 rfl))) hZ1 (hw _ (mo 58 rfl)) (hw _ (mo 32 rfl)) (by decide) (by decide)) q45a q45b q45c (g := (mkF m 80 #[vr a, vr cl, vr kl, vr it33, vr w0, vr (own_p3 i0 y0 y1 y2)] [(.ref (own_p3 i0 y0 y1 y2)), (.ref b22)])) rfl (by rw [hml]; rfl) (Steps.refl _) (argsL := [(.ref (own_p3 i0 y0 y1 y2))]) (rest := []) (lenOf pd_15 rfl) rfl (Nat.le_of_eq rfl) (hb hby d16_80) (fun _ _ => ⟨rfl, e44, (by decide : 4 ≤ _), (by decide : 20 ≤ _)⟩)
  dsimp only [Pt.U, Pt.locs, Pt.cells, Pt.slots] at X45 l45 y45 z45 st45 hQ45
  subst l45 y45 z45
  obtain ⟨rfl, N45q, K45, d45, kd45, zd45, Fm45, Fe45, Fz45, V45, O45⟩ := hQ45
  have N45 := Fr.app N42 N45q
  have KK45 : Keep h0 T45.heap [a] := Keep.trans Kc K45 (allS (Or.inr sz_b22) all0)
  have C45 : CHr Z consts_1 s.vm s.heap vm1 T45.heap := CHr.trans C1 (CHr.keep K45 (sfS (Safe.exa (EL := consts_1) (vm := vm1) hZ1.alike Y27 (by decide) (by decide)) sf0) C1.1)
  have sz_d45 : h0.size ≤ d45 := Nat.le_trans Kc.1 zd45
  have g_d45 : n0 ≤ d45 := Nat.le_trans Z0 sz_d45
  refine bW T45 (mkF m 85 #[vr a, vr cl, vr kl, vr it33, vr w0, vr (own_p3 i0 y0 y1 y2)] [(.int (1 : Int32))]) (fun _ k => st45.trans k) ?_
  refine bW T45 (mkF m 86 #[vr a, vr cl, vr kl, vr it33, vr w0, vr (own_p3 i0 y0 y1 y2)] []) (fun _ k => XS.pop X45.here hx rfl (hb hby d16_85) rfl rfl k) ?_
  refine bW T45 (mkF m 87 #[vr a, vr cl, vr kl, vr it33, vr w0, vr (own_p3 i0 y0 y1 y2)] [(.ref a)]) (fun _ k => XS.aloadN X45.here hx rfl (hb hby d16_86) rfl rfl k) ?_
  obtain ⟨T46, X46, e46, st46⟩ := getF X45 hx hZ1 hown1 (host := "") (Or.inl (hw _ (mo 118 rfl))) Via.refl rfl (Fld.keep Y4 K45 (ninS nx10 nin0)) (g := (mkF m 87 #[vr a, vr cl, vr kl, vr it33, vr w0, vr (own_p3 i0 y0 y1 y2)] [(.ref a)])) rfl rfl (hb hby d16_87)
  refine bW T46 (mkF m 90 #[vr a, vr cl, vr kl, vr it33, vr w0, vr (own_p3 i0 y0 y1 y2)] [(.ref b26)]) (fun _ k => st46 _ k) ?_
  refine bW T46 (mkF m 92 #[vr a, vr cl, vr kl, vr it33, vr w0, vr (own_p3 i0 y0 y1 y2)] [(.ref w0), (.ref b26)]) (fun _ k => XS.aload X46.here hx rfl (hb hby d16_90) rfl rfl k) ?_
  obtain ⟨cq47, kq47, q47a, q47b, q47c⟩ := isOf hZ1 e46 (Exa.keep Y18 K45)
  obtain ⟨_, _, ⟨T47, L47, k47, n47⟩, -, X47, ⟨Lc47, hQ47, l47, y47, z47⟩, st47⟩ := X46.virtualBack hx (y := yy16) (z := yy16) hown1 (mvT hZ1 (hw _ (mo 221 rfl))) (mvT hZ1 (hw _ (mo 222 rfl))) (notFace_of_selects (args := #[]) (mvT hZ1 (hw _ (mo 224 rfl)))) (mvT hZ1 (hw _ (mo 224 rfl))) (mvT hZ1 (hw _ (mo 223 rfl))) (by decide) (backOf (W := 1) (cg_unit l Z a0 hw [] w0 (-1 : Int32) T45.heap n0 (Nat.le_trans (Nat.le_trans Z0 Kc.1) K45.1) (Fld.keep Y20 K45 (ninS nx78 nin0))) hZ1 (hw _ (mo 225 rfl)) (hw _ (mo 87 rfl)) (by decide) (by decide)) q47a q47c (g := (mkF m 92 #[vr a, vr cl, vr kl, vr it33, vr w0, vr (own_p3 i0 y0 y1 y2)] [(.ref w0), (.ref b26)])) rfl (by rw [hml]; rfl) (Steps.refl _) (argsL := []) (rest := [(.ref b26)]) (lenOf pd_14 rfl) rfl (Nat.le_of_eq rfl) (hb hby d16_92) (fun _ _ => ⟨rfl, e46, (by decide : 4 ≤ _), (by decide : 20 ≤ _)⟩)
  dsimp only [Pt.U, Pt.locs, Pt.cells, Pt.slots] at X47 l47 y47 z47 st47 hQ47
  subst l47 y47 z47
  obtain ⟨rfl, N47q, e47⟩ := hQ47
  have N47 := Fr.app N45 N47q
  refine bW T47 (mkF m 95 #[vr a, vr cl, vr kl, vr it33, vr w0, vr (own_p3 i0 y0 y1 y2)] [(.int (-1 : Int32)), (.ref b26)]) (fun _ k => st47.trans k) ?_
  refine bW T47 (mkF m 106 #[vr a, vr cl, vr kl, vr it33, vr w0, vr (own_p3 i0 y0 y1 y2)] [(.ref b26)]) (fun _ k => XS.ifYes X47.here hx rfl (pc0 := 95) (pc' := 106) rfl (hb hby d16_95) rfl ((if0 _ _).trans (tlt (by decide)).1) (by decide) (by decide) k) ?_
  obtain ⟨a48, T48, h48, k48, b48, kb48, X48, e48, E48, hS48, hk48, hZ48, hown48, Ex48, Fc48, Fv48, V48, la48, lb48, Cq48, Lt48, D48, st48⟩ := ldcCH (s := s) (EL := consts_1) X47 hx hZ1 hown1 (hw _ (mo 226 rfl)) hwS e47 hS1 (Nat.le_trans hk1 K45.1) hEL (mo 0 rfl) C45.1 (vs := []) (z := (0 : Int32)) ⟨by decide, by decide⟩ (by decide) (by decide) (g := (mkF m 106 #[vr a, vr cl, vr kl, vr it33, vr w0, vr (own_p3 i0 y0 y1 y2)] [(.ref b26)])) rfl (hb hby d16_106) (n := 0) (by decide) (by decide) (by decide) (by decide)
  have C48 : CHr Z consts_1 s.vm s.heap T48.vm h48 := CHr.trans C45 Cq48
  have K48 : Keep h0 h48 [a] := Keep.ext KK45 E48
  refine bW T48 (mkF m 108 #[vr a, vr cl, vr kl, vr it33, vr w0, vr (own_p3 i0 y0 y1 y2)] [(.ref a48), (.ref b26)]) (fun _ k => st48 _ k) ?_
  refine bW T48 (mkF m 125 #[vr a, vr cl, vr kl, vr it33, vr w0, vr (own_p3 i0 y0 y1 y2)] [(.ref a48), (.ref b26)]) (fun _ k => XS.goto X48.here hx rfl (pc0 := 108) (pc' := 125) rfl (hb hby d16_108) (by decide) (by decide) k) ?_
  obtain ⟨cq49, kq49, q49a, q49b, q49c⟩ := isOf hZ48 e48 (Exa.ext E48 (Exa.keep Y31 K45))
  obtain ⟨_, _, ⟨T49, L49, k49, n49⟩, -, X49, ⟨Lc49, hQ49, l49, y49, z49⟩, st49⟩ := X48.interfaceBack hx (xi := yy31) (y := yy13) hown48 (mvT hZ48 (hw _ (mo 215 rfl))) (mvT hZ48 (hw _ (mo 216 rfl))) (mvT hZ48 (hw _ (mo 217 rfl))) (mvT hZ48 (hw _ (mo 218 rfl))) (mvT hZ48 (hw _ (mo 56 rfl))) (mvT hZ48 (hw _ (mo 219 rfl))) (mvT hZ48 (hw _ (mo 220 rfl))) (mvT hZ48 (hw _ (mo 129 rfl))) (by decide) (backOf (W := 0) (ad1s_0 l Z a0 hw [] b26 a48 aD kD sS h48 n0 (Nat.le_trans (Nat.le_trans (Nat.le_trans Z0 Kc.1) K45.1) E48.1) (Old.ext (Old.keep O0 K45 (allS g_b22 all0)) E48) (Exa.ext E48 (Exa.keep Y31 K45)) (Fld.ext E48 (Fld.keep Y32 K45 (ninS (Ne.symm nx88) nin0))) (Fld.ext E48 (Fld.keep Y33 K45 (ninS (Ne.symm nx88) nin0))) (Fld.ext E48 (Fld.keep Y34 K45 (ninS (Ne.symm nx88) nin0))) g_b26 S_DE V_aD Ex48 (hw _ (mo 84 rfl))) hZ48 (hw _ (mo 58 rfl)) (hw _ (mo 32 rfl)) (by decide) (by decide)) q49a q49b q49c (g := (mkF m 125 #[vr a, vr cl, vr kl, vr it33, vr w0, vr (own_p3 i0 y0 y1 y2)] [(.ref a48), (.ref b26)])) rfl (by rw [hml]; rfl) (Steps.refl _) (argsL := [(.ref a48)]) (rest := []) (lenOf pd_15 rfl) rfl (Nat.le_of_eq rfl) (hb hby d16_125) (fun _ _ => ⟨rfl, e48, (by decide : 7 ≤ _), (by decide : 34 ≤ _)⟩)
  dsimp only [Pt.U, Pt.locs, Pt.cells, Pt.slots] at X49 l49 y49 z49 st49 hQ49
  subst l49 y49 z49
  obtain ⟨rfl, N49q, K49, d49, kd49, zd49, Fm49, Fe49, Fz49, V49, O49⟩ := hQ49
  have N49 := Fr.app N47 N49q
  have KK49 : Keep h0 T49.heap [a] := Keep.trans K48 K49 (allS (Or.inr sz_b26) all0)
  have C49 : CHr Z consts_1 s.vm s.heap T48.vm T49.heap := CHr.trans C48 (CHr.keep K49 (sfS (Safe.exa (EL := consts_1) (vm := T48.vm) hZ48.alike (Exa.ext E48 (Exa.keep Y31 K45)) (by decide) (by decide)) sf0) C48.1)
  have sz_d49 : h0.size ≤ d49 := Nat.le_trans K48.1 zd49
  have g_d49 : n0 ≤ d49 := Nat.le_trans Z0 sz_d49
  refine bW T49 (mkF m 130 #[vr a, vr cl, vr kl, vr it33, vr w0, vr (own_p3 i0 y0 y1 y2)] [(.int (1 : Int32))]) (fun _ k => st49.trans k) ?_
  refine bW T49 (mkF m 131 #[vr a, vr cl, vr kl, vr it33, vr w0, vr (own_p3 i0 y0 y1 y2)] []) (fun _ k => XS.pop X49.here hx rfl (hb hby d16_130) rfl rfl k) ?_
  have ne75 : b26 ≠ d45 := (Nat.ne_of_lt (Nat.lt_of_lt_of_le (Y31).lt zd45))
  have ne76 : a ≠ d45 := (Nat.ne_of_lt (Nat.lt_of_lt_of_le (Y2).lt zd45))
  have ne77 : a ≠ d49 := (Nat.ne_of_lt (Nat.lt_of_lt_of_le ((Exa.ext E48 (Exa.keep Y2 K45))).lt zd49))
  have ne78 : cl ≠ d45 := (Nat.ne_of_lt (Nat.lt_of_lt_of_le (Y6).lt zd45))
  have ne79 : cl ≠ d49 := (Nat.ne_of_lt (Nat.lt_of_lt_of_le ((Exa.ext E48 (Exa.keep Y6 K45))).lt zd49))
  have ne80 : dc ≠ d45 := (Nat.ne_of_lt (Nat.lt_of_lt_of_le (Y9).lt zd45))
  have ne81 : dc ≠ d49 := (Nat.ne_of_lt (Nat.lt_of_lt_of_le ((Arv.ext (Arv.keep Y9 K45 (ninS nx33 nin0)) E48)).lt zd49))
  have ne82 : kl ≠ d45 := (Nat.ne_of_lt (Nat.lt_of_lt_of_le (Y13).lt zd45))
  have ne83 : kl ≠ d49 := (Nat.ne_of_lt (Nat.lt_of_lt_of_le ((Exa.ext E48 (Exa.keep Y13 K45))).lt zd49))
  have ne84 : dk ≠ d45 := (Nat.ne_of_lt (Nat.lt_of_lt_of_le (Y17).lt zd45))
  have ne85 : dk ≠ d49 := (Nat.ne_of_lt (Nat.lt_of_lt_of_le ((Arv.ext (Arv.keep Y17 K45 (ninS nx73 nin0)) E48)).lt zd49))
  have ne86 : w1 ≠ d45 := (Nat.ne_of_lt (Nat.lt_of_lt_of_le (Y21).lt zd45))
  have ne87 : w2 ≠ d45 := (Nat.ne_of_lt (Nat.lt_of_lt_of_le (Y24).lt zd45))
  have ne88 : w2 ≠ d49 := (Nat.ne_of_lt (Nat.lt_of_lt_of_le ((Exa.ext E48 (Exa.keep Y24 K45))).lt zd49))
  have ne89 : b22 ≠ d45 := (Nat.ne_of_lt (Nat.lt_of_lt_of_le (Y27).lt zd45))
  have ne90 : b22 ≠ d49 := (Nat.ne_of_lt (Nat.lt_of_lt_of_le ((Exa.ext E48 (Exa.keep Y27 K45))).lt zd49))
  have ne91 : b26 ≠ d49 := (Nat.ne_of_lt (Nat.lt_of_lt_of_le ((Exa.ext E48 (Exa.keep Y31 K45))).lt zd49))
  have ne92 : it33 ≠ d45 := (Nat.ne_of_lt (Nat.lt_of_lt_of_le (Y35).lt zd45))
  have ne93 : it33 ≠ d49 := (Nat.ne_of_lt (Nat.lt_of_lt_of_le ((Exa.ext E48 (Exa.keep Y35 K45))).lt zd49))
  have ne94 : d45 ≠ d49 := (Nat.ne_of_lt (Nat.lt_of_lt_of_le ((Arv.ext V45 E48)).lt zd49))
  exact vin_3_c2 (h1 := T49.heap) (T1 := T49) (vm1 := T48.vm) hw X49 rfl KK49 N49 Z0 hi1 hi2 hZ48 hown48 hS48 (Nat.le_trans hk48 K49.1) C49 hx hby hml hlk hrt (Fld.keep (Fld.ext E48 (Fld.keep Y3 K45 (ninS nx10 nin0))) K49 (ninS nx11 nin0)) (Fld.keep (Fld.ext E48 (Fld.keep Y4 K45 (ninS nx10 nin0))) K49 (ninS nx11 nin0)) (Exa.keep (Exa.ext E48 (Exa.keep Y6 K45)) K49) (Fld.keep (Fld.ext E48 (Fld.keep Y7 K45 (ninS nx22 nin0))) K49 (ninS nx23 nin0)) (Fld.keep (Fld.ext E48 (Fld.keep Y8 K45 (ninS nx22 nin0))) K49 (ninS nx23 nin0)) (Arv.keep (Arv.ext (Arv.keep Y9 K45 (ninS nx33 nin0)) E48) K49 (ninS nx34 nin0)) (Exa.keep (Exa.ext E48 (Exa.keep Y10 K45)) K49) (Exa.keep (Exa.ext E48 (Exa.keep Y11 K45)) K49) (Exa.keep (Exa.ext E48 (Exa.keep Y12 K45)) K49) (Fld.keep (Fld.ext E48 (Fld.keep Y14 K45 (ninS nx67 nin0))) K49 (ninS nx68 nin0)) (Fld.keep (Fld.ext E48 (Fld.keep Y15 K45 (ninS nx67 nin0))) K49 (ninS nx68 nin0)) (Fld.keep (Fld.ext E48 (Fld.keep Y16 K45 (ninS nx67 nin0))) K49 (ninS nx68 nin0)) (Arv.keep (Arv.ext (Arv.keep Y17 K45 (ninS nx73 nin0)) E48) K49 (ninS nx74 nin0)) (Exa.keep (Exa.ext E48 (Exa.keep Y21 K45)) K49) (Fld.keep (Fld.ext E48 (Fld.keep Y22 K45 (ninS nx82 nin0))) K49 (ninS nx83 nin0)) (Fld.keep (Fld.ext E48 (Fld.keep Y23 K45 (ninS nx82 nin0))) K49 (ninS nx83 nin0)) (Exa.keep (Exa.ext E48 (Exa.keep Y24 K45)) K49) (Fld.keep (Fld.ext E48 (Fld.keep Y25 K45 (ninS nx85 nin0))) K49 (ninS nx86 nin0)) (Fld.keep (Fld.ext E48 (Fld.keep Y26 K45 (ninS nx85 nin0))) K49 (ninS nx86 nin0)) (Exa.keep (Exa.ext E48 (Exa.keep Y27 K45)) K49) (Fld.keep (Fld.ext E48 Fm45) K49 (ninS nx88 nin0)) (Fld.keep (Fld.ext E48 Fe45) K49 (ninS nx88 nin0)) (Fld.keep (Fld.ext E48 Fz45) K49 (ninS nx88 nin0)) (Exa.keep (Exa.ext E48 (Exa.keep Y31 K45)) K49) Fm49 Fe49 Fz49 (Exa.keep (Exa.ext E48 (Exa.keep Y35 K45)) K49) (Fld.keep (Fld.ext E48 (Fld.keep Y36 K45 (ninS (Ne.symm nx89) nin0))) K49 (ninS (Ne.symm nx90) nin0)) (Fld.keep (Fld.ext E48 (Fld.keep Y37 K45 (ninS (Ne.symm nx89) nin0))) K49 (ninS (Ne.symm nx90) nin0)) (Fld.keep (Fld.ext E48 (Fld.keep Y38 K45 (ninS (Ne.symm nx89) nin0))) K49 (ninS (Ne.symm nx90) nin0)) (Fld.keep (Fld.ext E48 (Fld.keep Y39 K45 (ninS (Ne.symm nx89) nin0))) K49 (ninS (Ne.symm nx90) nin0)) (Arv.keep (Arv.ext V45 E48) K49 (ninS (Ne.symm ne75) nin0)) V49 nx10 nx11 nx12 ne76 ne77 nx22 nx23 nx24 ne78 ne79 nx33 nx34 nx35 ne80 ne81 nx67 nx68 nx69 ne82 ne83 nx73 nx74 nx75 ne84 ne85 nx82 nx84 ne86 nx85 nx86 nx87 ne87 ne88 nx88 nx89 ne89 ne90 nx90 ne75 ne91 ne92 ne93 ne94 g_b22 sz_b22 g_b26 sz_b26 g_it33 sz_it33 g_d45 sz_d45 g_d49 sz_d49 O45 O49
theorem vin_3 (l : Launch) (Z : State) (a0 : Array Value) (hw : HW Z a0) (ws : List Jvm.Cond) (a cl : Addr) (kl aD : Addr) (kD : ClassId) (dc : Addr) (kc : ClassId) (y0 y1 : Addr) (y2 dk : Addr) (kk : ClassId) (w0 w1 w2 : Addr) (i0 i1 i2 : Int32) (h0 : Heap) (n0 : Nat) (Z0 : n0 ≤ h0.size) (O0 : Old Z n0 h0) (S_DE : Sta Z Z.heap sL "DEFAULTCAPACITY_EMPTY_ELEMENTDATA" "[Ljava/lang/Object;" (.ref aD)) (V_aD : Arv Z Z.heap aD kD (.object sO) (0 : Int32) [] .null) (E_a : Exa Z h0 a sV) (F_values_a : Fld Z h0 a sV "values" "Ljava/util/List;" .null) (F_units_a : Fld Z h0 a sV "units" "Ljava/util/List;" .null) (F_columns_a : Fld Z h0 a sV "columns" "Ljava/util/List;" .null) (g_a : n0 ≤ a) (E_cl : Exa Z h0 cl sL) (F_size_cl : Fld Z h0 cl sL "size" "I" (.int (3 : Int32))) (F_elementData_cl : Fld Z h0 cl sL "elementData" sE (.ref dc)) (V_dc : Arv Z h0 dc kc (.object sO) (10 : Int32) [(.ref y0), (.ref y1), (.ref y2), .null, .null, .null, .null, .null, .null, .null] .null) (E_y0 : Exa Z h0 y0 sS) (E_y1 : Exa Z h0 y1 sS) (E_y2 : Exa Z h0 y2 sS) (E_kl : Exa Z h0 kl sL) (F_modCount_kl : Fld Z h0 kl sB "modCount" "I" (.int (3 : Int32))) (F_elementData_kl : Fld Z h0 kl sL "elementData" sE (.ref dk)) (F_size_kl : Fld Z h0 kl sL "size" "I" (.int (3 : Int32))) (V_dk : Arv Z h0 dk kk (.object sO) (10 : Int32) [(.ref w0), (.ref w1), (.ref w2), .null, .null, .null, .null, .null, .null, .null] .null) (E_w0 : Exa Z h0 w0 sA) (F_value_w0 : Fld Z h0 w0 sA "value" "I" (.int i0)) (F_unit_w0 : Fld Z h0 w0 sA "unit" "I" (.int (-1 : Int32))) (hi0 : i0 = 0 ∨ i0 = 1 ∨ i0 = 2) (E_w1 : Exa Z h0 w1 sA) (F_value_w1 : Fld Z h0 w1 sA "value" "I" (.int i1)) (F_unit_w1 : Fld Z h0 w1 sA "unit" "I" (.int (-1 : Int32))) (hi1 : i1 = 0 ∨ i1 = 1 ∨ i1 = 2) (E_w2 : Exa Z h0 w2 sA) (F_value_w2 : Fld Z h0 w2 sA "value" "I" (.int i2)) (F_unit_w2 : Fld Z h0 w2 sA "unit" "I" (.int (-1 : Int32))) (hi2 : i2 = 0 ∨ i2 = 1 ∨ i2 = 2) (ne_cl : cl ≠ a) (ne_dc : dc ≠ a) (ne_kl : kl ≠ a) (ne_dk : dk ≠ a) (ne_w0 : w0 ≠ a) (ne_w1 : w1 ≠ a) (ne_w2 : w2 ≠ a) :
    MetFree l yy27 (head1 (Jvm.Cond.code yy27 prog_15_method_1_code 6 none :: ws) rr17) (fun zz UU => zz = #[(.ref a), (.ref cl), (.ref kl)] ∧ Z.Warmed39 UU.vm ∧ UU.heap = h0 ∧ CHv Z consts_1 UU.vm h0 ∧ V_vin_3 Z a cl kl aD kD dc kc y0 y1 y2 dk kk w0 w1 w2 i0 i1 i2 h0 UU.vm) (fun _ _ _ _ _ => True) (fun _ U o U' => ∃ v L, o = .returned v ∧ Q_vin_3 Z a cl kl aD kD dc kc y0 y1 y2 dk kk w0 w1 w2 i0 i1 i2 h0 n0 v U'.heap L ∧ CHr Z consts_1 U.vm U.heap U'.vm U'.heap ∧ ReturnedEndW U o U' L rr17.cells rr17.slots) := by
  refine MetFree.of_bodySF (plainFor_of_name pn_16) hisR ?_
  intro p e s m args below meth c s₁ Bd hml0 hP hK
  obtain ⟨rfl, hZ, hh, hH, hV⟩ := hP
  have hx := Bd.exec
  have hby := Bd.bytes
  have hml : c.maxLocals = 6 := hml0
  have hown : s.vm.findClass sV = some m.cls := findClass_of_methodNamed Bd.named
  have hnm := (name_of_methodNamed Bd.named Bd.method).1
  have hlk : meth.locks = false := BodyLoose.notSynchronized Bd
  have X0 : Stand p l e rr17 (s.setVm s.vm) m #[(.ref a), (.ref cl), (.ref kl)] below meth c s₁ [] 0 0 := Stand.of_body Bd
  have e0 : s₁.heap = h0 := by rw [← hh, Bd.state]; rfl
  have N0 := Fr.nil n0
  show own_GoW p.tables e below Z consts_1 (Q_vin_3 Z a cl kl aD kD dc kc y0 y1 y2 dk kk w0 w1 w2 i0 i1 i2 h0 n0) s rr17.cells rr17.slots s₁ (entryFrame m #[(.ref a), (.ref cl), (.ref kl)] 6)
  rw [ef_vin_3 m a cl kl]
  have hS0 : s.Since s.vm s.heap.size := (State.WarmedH.refl s).since _
  have hk0 : s.heap.size ≤ h0.size := Nat.le_of_eq (congrArg Array.size hh)
  have C0 : CHr Z consts_1 s.vm s.heap s.vm h0 := by rw [hh]; exact CHr.refl hH
  have hEL : EW Z a0 consts_1 := own_EL hw
  have hwS : ∀ d ∈ Bundle.stringAtoms, d.before a0 Z = true := fun d hd => hw d (own_SA d hd)
  refine bW s₁ (mkF m 1 #[vr a, vr cl, vr kl, uu, uu, uu] [(.ref a)]) (fun _ k => XS.aloadN X0.here hx rfl (hb hby d16_0) rfl rfl k) ?_
  obtain ⟨T21, X21, e21, st21⟩ := initO X0 hx hZ hown (hw _ (mo 113 rfl)) (hw _ (mo 24 rfl)) (hw _ (mo 25 rfl)) e0 (g := (mkF m 1 #[vr a, vr cl, vr kl, uu, uu, uu] [(.ref a)])) rfl (by rw [hml]; rfl) rfl (hb hby d16_1) (by decide) (W := 0) (Nat.le_of_eq rfl) (by decide)
  refine bW T21 (mkF m 4 #[vr a, vr cl, vr kl, uu, uu, uu] []) (fun _ k => st21 _ k) ?_
  refine bW T21 (mkF m 5 #[vr a, vr cl, vr kl, uu, uu, uu] [(.ref a)]) (fun _ k => XS.aloadN X21.here hx rfl (hb hby d16_4) rfl rfl k) ?_
  obtain ⟨T22, h22, X22, e22, E22, A22, D22, -, st22⟩ := newO X21 hx hZ hown (hw _ (mo 114 rfl)) (hw _ (mo 31 rfl)) (hw _ (mo 32 rfl)) e21 (g := (mkF m 5 #[vr a, vr cl, vr kl, uu, uu, uu] [(.ref a)])) rfl (hb hby d16_5) (by decide) (by decide)
  obtain ⟨b22, g22⟩ : ∃ z, z = h0.size := ⟨_, rfl⟩
  rw [← g22] at A22 D22 st22
  have E_b22 : Exa Z h22 b22 sL := A22
  have F_modCount_b22 : Fld Z h22 b22 sB "modCount" "I" (ii 0) := D22 (Or.inl (hw _ (mo 50 rfl))) (ty := .int) (by decide)
  have F_elementData_b22 : Fld Z h22 b22 sL "elementData" sE .null := D22 (Or.inl (hw _ (mo 53 rfl))) (ty := (.array (.object sO))) (by decide)
  have F_size_b22 : Fld Z h22 b22 sL "size" "I" (ii 0) := D22 (Or.inl (hw _ (mo 62 rfl))) (ty := .int) (by decide)
  have g_b22 : n0 ≤ b22 := Nat.le_trans Z0 (Nat.le_of_eq g22.symm)
  have sz_b22 : h0.size ≤ b22 := Nat.le_trans (Keep.refl h0 [a]).1 (Nat.le_of_eq g22.symm)
  have K22 : Keep h0 h22 [a] := Keep.ext (Keep.refl h0 [a]) E22
  have C22 : CHr Z consts_1 s.vm s.heap s.vm h22 := CHr.trans C0 (CHr.ext E22 C0.1)
  refine bW T22 (mkF m 8 #[vr a, vr cl, vr kl, uu, uu, uu] [(.ref b22), (.ref a)]) (fun _ k => st22 _ k) ?_
  refine bW T22 (mkF m 9 #[vr a, vr cl, vr kl, uu, uu, uu] [(.ref b22), (.ref b22), (.ref a)]) (fun _ k => XS.dup X22.here hx rfl (hb hby d16_8) rfl rfl k) ?_
  obtain ⟨_, _, ⟨T23, L23, k23, n23⟩, -, X23, ⟨Lc23, hQ23, l23, y23, z23⟩, st23⟩ := X22.specialBack hx (y := yy8) rfl hown (mvT hZ (hw _ (mo 115 rfl))) (mvT hZ (hw _ (mo 34 rfl))) (mvT hZ (hw _ (mo 35 rfl))) (by decide) (backOf (W := 2) (ali l Z a0 hw [] b22 aD h22 n0 (Nat.le_trans Z0 E22.1) (Old.ext O0 E22) E_b22 F_modCount_b22 F_elementData_b22 F_size_b22 g_b22 S_DE) hZ (hw _ (mo 35 rfl)) (hw _ (mo 32 rfl)) (by decide) (by decide)) (g := (mkF m 9 #[vr a, vr cl, vr kl, uu, uu, uu] [(.ref b22), (.ref b22), (.ref a)])) rfl (by rw [hml]; rfl) (Steps.refl _) (a := b22) (argsL := []) (rest := [(.ref b22), (.ref a)]) (lenOf pd_3 rfl) rfl (Nat.le_of_eq rfl) (hb hby d16_9) (fun _ _ => ⟨rfl, e22, (by decide : 1 ≤ _), (by decide : 3 ≤ _)⟩)
  dsimp only [Pt.U, Pt.locs, Pt.cells, Pt.slots] at X23 l23 y23 z23 st23 hQ23
  subst l23 y23 z23
  obtain ⟨rfl, N23q, K23, Fm23, Fe23, Fz23⟩ := hQ23
  have N23 := Fr.app (Fr.nil n0) N23q
  have KK23 : Keep h0 T23.heap [a] := Keep.trans K22 K23 (allS (Or.inr sz_b22) all0)
  have C23 : CHr Z consts_1 s.vm s.heap s.vm T23.heap := CHr.trans C22 (CHr.keep K23 (sfS (Safe.exa (EL := consts_1) (vm := s.vm) hZ.alike E_b22 (by decide) (by decide)) sf0) C22.1)
  refine bW T23 (mkF m 12 #[vr a, vr cl, vr kl, uu, uu, uu] [(.ref b22), (.ref a)]) (fun _ k => st23.trans k) ?_
  have ne24 : a ≠ b22 := (Nat.ne_of_lt (Nat.lt_of_lt_of_le E_a.lt (Nat.le_of_eq g22.symm)))
  obtain ⟨T25, h25, X25, e25, W25, st25⟩ := putF X23 hx hZ hown (host := "") (Or.inl (hw _ (mo 116 rfl))) Via.refl rfl (Fld.keep (Fld.ext E22 F_values_a) K23 (ninS ne24 nin0)) (Exa.keep (Exa.ext E22 E_a) K23) (Or.inr ⟨(hw _ (mo 117 rfl)), rfl, hnm⟩) (hw _ (mo 108 rfl)) (ty := (.object "java/util/List")) (by decide) rfl rfl (g := (mkF m 12 #[vr a, vr cl, vr kl, uu, uu, uu] [(.ref b22), (.ref a)])) rfl rfl (hb hby d16_12)
  have Fw25 : Fld Z h25 a sV "values" "Ljava/util/List;" (.ref b22) := Fld.same W25 (Fld.keep (Fld.ext E22 F_values_a) K23 (ninS ne24 nin0))
  have K25 : Keep h0 h25 [a] := Keep.wr KK23 W25 (Or.inl (mo 0 rfl))
  have C25 : CHr Z consts_1 s.vm s.heap s.vm h25 := CHr.trans C23 (CHr.wr W25 (Safe.exa (EL := consts_1) (vm := s.vm) hZ.alike (Exa.keep (Exa.ext E22 E_a) K23) (by decide) (by decide)) C23.1)
  have N25 := Fr.snoc X25 N23 g_a
  refine bW T25 (mkF m 15 #[vr a, vr cl, vr kl, uu, uu, uu] []) (fun _ k => st25 _ k) ?_
  refine bW T25 (mkF m 16 #[vr a, vr cl, vr kl, uu, uu, uu] [(.ref a)]) (fun _ k => XS.aloadN X25.here hx rfl (hb hby d16_15) rfl rfl k) ?_
  obtain ⟨T26, h26, X26, e26, E26, A26, D26, -, st26⟩ := newO X25 hx hZ hown (hw _ (mo 114 rfl)) (hw _ (mo 31 rfl)) (hw _ (mo 32 rfl)) e25 (g := (mkF m 16 #[vr a, vr cl, vr kl, uu, uu, uu] [(.ref a)])) rfl (hb hby d16_16) (by decide) (by decide)
  obtain ⟨b26, g26⟩ : ∃ z, z = h25.size := ⟨_, rfl⟩
  rw [← g26] at A26 D26 st26
  have E_b26 : Exa Z h26 b26 sL := A26
  have F_modCount_b26 : Fld Z h26 b26 sB "modCount" "I" (ii 0) := D26 (Or.inl (hw _ (mo 50 rfl))) (ty := .int) (by decide)
  have F_elementData_b26 : Fld Z h26 b26 sL "elementData" sE .null := D26 (Or.inl (hw _ (mo 53 rfl))) (ty := (.array (.object sO))) (by decide)
  have F_size_b26 : Fld Z h26 b26 sL "size" "I" (ii 0) := D26 (Or.inl (hw _ (mo 62 rfl))) (ty := .int) (by decide)
  have g_b26 : n0 ≤ b26 := Nat.le_trans (Nat.le_trans (Nat.le_trans (Nat.le_trans Z0 E22.1) K23.1) (Keep.of_wr W25).1) (Nat.le_of_eq g26.symm)
  have sz_b26 : h0.size ≤ b26 := Nat.le_trans K25.1 (Nat.le_of_eq g26.symm)
  have K26 : Keep h0 h26 [a] := Keep.ext K25 E26
  have C26 : CHr Z consts_1 s.vm s.heap s.vm h26 := CHr.trans C25 (CHr.ext E26 C25.1)
  refine bW T26 (mkF m 19 #[vr a, vr cl, vr kl, uu, uu, uu] [(.ref b26), (.ref a)]) (fun _ k => st26 _ k) ?_
  refine bW T26 (mkF m 20 #[vr a, vr cl, vr kl, uu, uu, uu] [(.ref b26), (.ref b26), (.ref a)]) (fun _ k => XS.dup X26.here hx rfl (hb hby d16_19) rfl rfl k) ?_
  obtain ⟨_, _, ⟨T27, L27, k27, n27⟩, -, X27, ⟨Lc27, hQ27, l27, y27, z27⟩, st27⟩ := X26.specialBack hx (y := yy8) rfl hown (mvT hZ (hw _ (mo 115 rfl))) (mvT hZ (hw _ (mo 34 rfl))) (mvT hZ (hw _ (mo 35 rfl))) (by decide) (backOf (W := 2) (ali l Z a0 hw [] b26 aD h26 n0 (Nat.le_trans (Nat.le_trans (Nat.le_trans (Nat.le_trans Z0 E22.1) K23.1) (Keep.of_wr W25).1) E26.1) (Old.ext (Old.wr (Old.keep (Old.ext O0 E22) K23 (allS g_b22 all0)) W25 g_a) E26) E_b26 F_modCount_b26 F_elementData_b26 F_size_b26 g_b26 S_DE) hZ (hw _ (mo 35 rfl)) (hw _ (mo 32 rfl)) (by decide) (by decide)) (g := (mkF m 20 #[vr a, vr cl, vr kl, uu, uu, uu] [(.ref b26), (.ref b26), (.ref a)])) rfl (by rw [hml]; rfl) (Steps.refl _) (a := b26) (argsL := []) (rest := [(.ref b26), (.ref a)]) (lenOf pd_3 rfl) rfl (Nat.le_of_eq rfl) (hb hby d16_20) (fun _ _ => ⟨rfl, e26, (by decide : 2 ≤ _), (by decide : 6 ≤ _)⟩)
  dsimp only [Pt.U, Pt.locs, Pt.cells, Pt.slots] at X27 l27 y27 z27 st27 hQ27
  subst l27 y27 z27
  obtain ⟨rfl, N27q, K27, Fm27, Fe27, Fz27⟩ := hQ27
  have N27 := Fr.app N25 N27q
  have KK27 : Keep h0 T27.heap [a] := Keep.trans K26 K27 (allS (Or.inr sz_b26) all0)
  have C27 : CHr Z consts_1 s.vm s.heap s.vm T27.heap := CHr.trans C26 (CHr.keep K27 (sfS (Safe.exa (EL := consts_1) (vm := s.vm) hZ.alike E_b26 (by decide) (by decide)) sf0) C26.1)
  refine bW T27 (mkF m 23 #[vr a, vr cl, vr kl, uu, uu, uu] [(.ref b26), (.ref a)]) (fun _ k => st27.trans k) ?_
  have ne28 : a ≠ b26 := (Nat.ne_of_lt (Nat.lt_of_lt_of_le (Exa.wr W25 (Exa.keep (Exa.ext E22 E_a) K23)).lt (Nat.le_of_eq g26.symm)))
  obtain ⟨T29, h29, X29, e29, W29, st29⟩ := putF X27 hx hZ hown (host := "") (Or.inl (hw _ (mo 118 rfl))) Via.refl rfl (Fld.keep (Fld.ext E26 (Fld.other W25 (Fld.keep (Fld.ext E22 F_units_a) K23 (ninS ne24 nin0)) (Or.inr (slot_ne (a0 := a0) (Or.inr (hw _ (mo 119 rfl))) (Or.inr (hw _ (mo 117 rfl))) (by decide) (t := (.object "java/util/List")) (t' := (.object "java/util/List")) (by decide) (by decide))))) K27 (ninS ne28 nin0)) (Exa.keep (Exa.ext E26 (Exa.wr W25 (Exa.keep (Exa.ext E22 E_a) K23))) K27) (Or.inr ⟨(hw _ (mo 119 rfl)), rfl, hnm⟩) (hw _ (mo 108 rfl)) (ty := (.object "java/util/List")) (by decide) rfl rfl (g := (mkF m 23 #[vr a, vr cl, vr kl, uu, uu, uu] [(.ref b26), (.ref a)])) rfl rfl (hb hby d16_23)
  have Fw29 : Fld Z h29 a sV "units" "Ljava/util/List;" (.ref b26) := Fld.same W29 (Fld.keep (Fld.ext E26 (Fld.other W25 (Fld.keep (Fld.ext E22 F_units_a) K23 (ninS ne24 nin0)) (Or.inr (slot_ne (a0 := a0) (Or.inr (hw _ (mo 119 rfl))) (Or.inr (hw _ (mo 117 rfl))) (by decide) (t := (.object "java/util/List")) (t' := (.object "java/util/List")) (by decide) (by decide))))) K27 (ninS ne28 nin0))
  have K29 : Keep h0 h29 [a] := Keep.wr KK27 W29 (Or.inl (mo 0 rfl))
  have C29 : CHr Z consts_1 s.vm s.heap s.vm h29 := CHr.trans C27 (CHr.wr W29 (Safe.exa (EL := consts_1) (vm := s.vm) hZ.alike (Exa.keep (Exa.ext E26 (Exa.wr W25 (Exa.keep (Exa.ext E22 E_a) K23))) K27) (by decide) (by decide)) C27.1)
  have N29 := Fr.snoc X29 N27 g_a
  refine bW T29 (mkF m 26 #[vr a, vr cl, vr kl, uu, uu, uu] []) (fun _ k => st29 _ k) ?_
  refine bW T29 (mkF m 27 #[vr a, vr cl, vr kl, uu, uu, uu] [(.ref a)]) (fun _ k => XS.aloadN X29.here hx rfl (hb hby d16_26) rfl rfl k) ?_
  refine bW T29 (mkF m 28 #[vr a, vr cl, vr kl, uu, uu, uu] [(.ref kl), (.ref a)]) (fun _ k => XS.aloadN X29.here hx rfl (hb hby d16_27) rfl rfl k) ?_
  obtain ⟨T30, h30, X30, e30, W30, st30⟩ := putF X29 hx hZ hown (host := "") (Or.inl (hw _ (mo 120 rfl))) Via.refl e29 (Fld.other W29 (Fld.keep (Fld.ext E26 (Fld.other W25 (Fld.keep (Fld.ext E22 F_columns_a) K23 (ninS ne24 nin0)) (Or.inr (slot_ne (a0 := a0) (Or.inr (hw _ (mo 121 rfl))) (Or.inr (hw _ (mo 117 rfl))) (by decide) (t := (.object "java/util/List")) (t' := (.object "java/util/List")) (by decide) (by decide))))) K27 (ninS ne28 nin0)) (Or.inr (slot_ne (a0 := a0) (Or.inr (hw _ (mo 121 rfl))) (Or.inr (hw _ (mo 119 rfl))) (by decide) (t := (.object "java/util/List")) (t' := (.object "java/util/List")) (by decide) (by decide)))) (Exa.wr W29 (Exa.keep (Exa.ext E26 (Exa.wr W25 (Exa.keep (Exa.ext E22 E_a) K23))) K27)) (Or.inr ⟨(hw _ (mo 121 rfl)), rfl, hnm⟩) (hw _ (mo 108 rfl)) (ty := (.object "java/util/List")) (by decide) rfl rfl (g := (mkF m 28 #[vr a, vr cl, vr kl, uu, uu, uu] [(.ref kl), (.ref a)])) rfl rfl (hb hby d16_28)
  have Fw30 : Fld Z h30 a sV "columns" "Ljava/util/List;" (.ref kl) := Fld.same W30 (Fld.other W29 (Fld.keep (Fld.ext E26 (Fld.other W25 (Fld.keep (Fld.ext E22 F_columns_a) K23 (ninS ne24 nin0)) (Or.inr (slot_ne (a0 := a0) (Or.inr (hw _ (mo 121 rfl))) (Or.inr (hw _ (mo 117 rfl))) (by decide) (t := (.object "java/util/List")) (t' := (.object "java/util/List")) (by decide) (by decide))))) K27 (ninS ne28 nin0)) (Or.inr (slot_ne (a0 := a0) (Or.inr (hw _ (mo 121 rfl))) (Or.inr (hw _ (mo 119 rfl))) (by decide) (t := (.object "java/util/List")) (t' := (.object "java/util/List")) (by decide) (by decide))))
  have K30 : Keep h0 h30 [a] := Keep.wr K29 W30 (Or.inl (mo 0 rfl))
  have C30 : CHr Z consts_1 s.vm s.heap s.vm h30 := CHr.trans C29 (CHr.wr W30 (Safe.exa (EL := consts_1) (vm := s.vm) hZ.alike (Exa.wr W29 (Exa.keep (Exa.ext E26 (Exa.wr W25 (Exa.keep (Exa.ext E22 E_a) K23))) K27)) (by decide) (by decide)) C29.1)
  have N30 := Fr.snoc X30 N29 g_a
  refine bW T30 (mkF m 31 #[vr a, vr cl, vr kl, uu, uu, uu] []) (fun _ k => st30 _ k) ?_
  refine bW T30 (mkF m 32 #[vr a, vr cl, vr kl, uu, uu, uu] [(.ref kl)]) (fun _ k => XS.aloadN X30.here hx rfl (hb hby d16_31) rfl rfl k) ?_
  have ne31 : kl ≠ b22 := (Nat.ne_of_lt (Nat.lt_of_lt_of_le E_kl.lt (Nat.le_of_eq g22.symm)))
  have ne32 : kl ≠ b26 := (Nat.ne_of_lt (Nat.lt_of_lt_of_le (Exa.wr W25 (Exa.keep (Exa.ext E22 E_kl) K23)).lt (Nat.le_of_eq g26.symm)))
  obtain ⟨cq33, kq33, q33a, q33b, q33c⟩ := isOf hZ e30 (Exa.wr W30 (Exa.wr W29 (Exa.keep (Exa.ext E26 (Exa.wr W25 (Exa.keep (Exa.ext E22 E_kl) K23))) K27)))
  obtain ⟨_, _, ⟨T33, L33, k33, n33⟩, -, X33, ⟨Lc33, hQ33, l33, y33, z33⟩, st33⟩ := X30.interfaceBack hx (xi := yy28) (y := yy19) hown (mvT hZ (hw _ (mo 122 rfl))) (mvT hZ (hw _ (mo 123 rfl))) (mvT hZ (hw _ (mo 124 rfl))) (mvT hZ (hw _ (mo 125 rfl))) (mvT hZ (hw _ (mo 126 rfl))) (mvT hZ (hw _ (mo 127 rfl))) (mvT hZ (hw _ (mo 128 rfl))) (mvT hZ (hw _ (mo 129 rfl))) (by decide) (backOf (W := 0) (ite l Z a0 hw [] kl (3 : Int32) h30 n0 (Nat.le_trans (Nat.le_trans (Nat.le_trans (Nat.le_trans (Nat.le_trans (Nat.le_trans (Nat.le_trans Z0 E22.1) K23.1) (Keep.of_wr W25).1) E26.1) K27.1) (Keep.of_wr W29).1) (Keep.of_wr W30).1) (Fld.other W30 (Fld.other W29 (Fld.keep (Fld.ext E26 (Fld.other W25 (Fld.keep (Fld.ext E22 F_modCount_kl) K23 (ninS ne31 nin0)) (Or.inl ne_kl))) K27 (ninS ne32 nin0)) (Or.inl ne_kl)) (Or.inl ne_kl))) hZ (hw _ (mo 130 rfl)) (hw _ (mo 32 rfl)) (by decide) (by decide)) q33a q33b q33c (g := (mkF m 32 #[vr a, vr cl, vr kl, uu, uu, uu] [(.ref kl)])) rfl (by rw [hml]; rfl) (Steps.refl _) (argsL := []) (rest := []) (lenOf pd_11 rfl) rfl (Nat.le_of_eq rfl) (hb hby d16_32) (fun _ _ => ⟨rfl, e30, (by decide : 3 ≤ _), (by decide : 10 ≤ _)⟩)
  dsimp only [Pt.U, Pt.locs, Pt.cells, Pt.slots] at X33 l33 y33 z33 st33 hQ33
  subst l33 y33 z33
  obtain ⟨it33, rfl, N33q, K33, zi33, E33, F0_33, F1_33, F2_33, F3_33⟩ := hQ33
  have N33 := Fr.app N30 N33q
  have KK33 : Keep h0 T33.heap [a] := Keep.trans K30 K33 all0
  have C33 : CHr Z consts_1 s.vm s.heap s.vm T33.heap := CHr.trans C30 (CHr.keep K33 sf0 C30.1)
  have sz_it33 : h0.size ≤ it33 := Nat.le_trans K30.1 zi33
  have g_it33 : n0 ≤ it33 := Nat.le_trans Z0 sz_it33
  refine bW T33 (mkF m 37 #[vr a, vr cl, vr kl, uu, uu, uu] [(.ref it33)]) (fun _ k => st33.trans k) ?_
  refine bW T33 (mkF m 38 #[vr a, vr cl, vr kl, vr it33, uu, uu] []) (fun _ k => XS.astoreN X33.here hx rfl (hb hby d16_37) rfl rfl rfl k) ?_
  refine bW T33 (mkF m 39 #[vr a, vr cl, vr kl, vr it33, uu, uu] [(.ref it33)]) (fun _ k => XS.aloadN X33.here hx rfl (hb hby d16_38) rfl rfl k) ?_
  obtain ⟨cq34, kq34, q34a, q34b, q34c⟩ := isOf hZ rfl E33
  obtain ⟨_, _, ⟨T34, L34, k34, n34⟩, -, X34, ⟨Lc34, hQ34, l34, y34, z34⟩, st34⟩ := X33.interfaceBack hx (xi := yy29) (y := yy20) hown (mvT hZ (hw _ (mo 146 rfl))) (mvT hZ (hw _ (mo 147 rfl))) (mvT hZ (hw _ (mo 148 rfl))) (mvT hZ (hw _ (mo 149 rfl))) (mvT hZ (hw _ (mo 150 rfl))) (mvT hZ (hw _ (mo 151 rfl))) (mvT hZ (hw _ (mo 152 rfl))) (mvT hZ (hw _ (mo 153 rfl))) (by decide) (backOf (W := 0) (ihn l Z a0 hw [] it33 kl (0 : Int32) (3 : Int32) T33.heap n0 (Nat.le_trans (Nat.le_trans (Nat.le_trans (Nat.le_trans (Nat.le_trans (Nat.le_trans (Nat.le_trans (Nat.le_trans Z0 E22.1) K23.1) (Keep.of_wr W25).1) E26.1) K27.1) (Keep.of_wr W29).1) (Keep.of_wr W30).1) K33.1) F3_33 F0_33 (Fld.keep (Fld.other W30 (Fld.other W29 (Fld.keep (Fld.ext E26 (Fld.other W25 (Fld.keep (Fld.ext E22 F_size_kl) K23 (ninS ne31 nin0)) (Or.inl ne_kl))) K27 (ninS ne32 nin0)) (Or.inl ne_kl)) (Or.inl ne_kl)) K33 nin0)) hZ (hw _ (mo 154 rfl)) (hw _ (mo 133 rfl)) (by decide) (by decide)) q34a q34b q34c (g := (mkF m 39 #[vr a, vr cl, vr kl, vr it33, uu, uu] [(.ref it33)])) rfl (by rw [hml]; rfl) (Steps.refl _) (argsL := []) (rest := []) (lenOf pd_12 rfl) rfl (Nat.le_of_eq rfl) (hb hby d16_39) (fun _ _ => ⟨rfl, rfl, (by decide : 3 ≤ _), (by decide : 10 ≤ _)⟩)
  dsimp only [Pt.U, Pt.locs, Pt.cells, Pt.slots] at X34 l34 y34 z34 st34 hQ34
  subst l34 y34 z34
  obtain ⟨vq34, N34q, e34⟩ := hQ34
  obtain rfl := vq34.trans (congrArg (fun z => some (Value.int z)) (if_neg (by decide)))
  have N34 := Fr.app N33 N34q
  refine bW T34 (mkF m 44 #[vr a, vr cl, vr kl, vr it33, uu, uu] [(.int (1 : Int32))]) (fun _ k => st34.trans k) ?_
  refine bW T34 (mkF m 47 #[vr a, vr cl, vr kl, vr it33, uu, uu] []) (fun _ k => XS.ifNo X34.here hx rfl (hb hby d16_44) rfl ((if0 _ _).trans (feq (by decide)).1) k) ?_
  refine bW T34 (mkF m 48 #[vr a, vr cl, vr kl, vr it33, uu, uu] [(.ref it33)]) (fun _ k => XS.aloadN X34.here hx rfl (hb hby d16_47) rfl rfl k) ?_
  have ne35 : dk ≠ b22 := (Nat.ne_of_lt (Nat.lt_of_lt_of_le V_dk.lt (Nat.le_of_eq g22.symm)))
  have ne36 : dk ≠ b26 := (Nat.ne_of_lt (Nat.lt_of_lt_of_le (Arv.other (Arv.keep (Arv.ext V_dk E22) K23 (ninS ne35 nin0)) W25 ne_dk).lt (Nat.le_of_eq g26.symm)))
  have ne37 : kl ≠ it33 := (Nat.ne_of_lt (Nat.lt_of_lt_of_le ((Exa.wr W30 (Exa.wr W29 (Exa.keep (Exa.ext E26 (Exa.wr W25 (Exa.keep (Exa.ext E22 E_kl) K23))) K27)))).lt zi33))
  have ne38 : dk ≠ it33 := (Nat.ne_of_lt (Nat.lt_of_lt_of_le ((Arv.other (Arv.other (Arv.keep (Arv.ext (Arv.other (Arv.keep (Arv.ext V_dk E22) K23 (ninS ne35 nin0)) W25 ne_dk) E26) K27 (ninS ne36 nin0)) W29 ne_dk) W30 ne_dk)).lt zi33))
  obtain ⟨cq39, kq39, q39a, q39b, q39c⟩ := isOf hZ e34 E33
  obtain ⟨_, _, ⟨T39, L39, k39, n39⟩, -, X39, ⟨Lc39, hQ39, l39, y39, z39⟩, st39⟩ := X34.interfaceBack hx (xi := yy32) (y := yy22) hown (mvT hZ (hw _ (mo 172 rfl))) (mvT hZ (hw _ (mo 173 rfl))) (mvT hZ (hw _ (mo 174 rfl))) (mvT hZ (hw _ (mo 175 rfl))) (mvT hZ (hw _ (mo 176 rfl))) (mvT hZ (hw _ (mo 177 rfl))) (mvT hZ (hw _ (mo 178 rfl))) (mvT hZ (hw _ (mo 153 rfl))) (by decide) (backOf (W := 0) (inx_0 l Z a0 hw [] it33 kl (3 : Int32) (-1 : Int32) (3 : Int32) dk kk [(.ref w0), (.ref w1), (.ref w2), .null, .null, .null, .null, .null, .null, .null] w0 T33.heap n0 (Nat.le_trans (Nat.le_trans (Nat.le_trans (Nat.le_trans (Nat.le_trans (Nat.le_trans (Nat.le_trans (Nat.le_trans Z0 E22.1) K23.1) (Keep.of_wr W25).1) E26.1) K27.1) (Keep.of_wr W29).1) (Keep.of_wr W30).1) K33.1) E33 F0_33 F1_33 F2_33 F3_33 g_it33 (Fld.keep (Fld.other W30 (Fld.other W29 (Fld.keep (Fld.ext E26 (Fld.other W25 (Fld.keep (Fld.ext E22 F_modCount_kl) K23 (ninS ne31 nin0)) (Or.inl ne_kl))) K27 (ninS ne32 nin0)) (Or.inl ne_kl)) (Or.inl ne_kl)) K33 nin0) (Fld.keep (Fld.other W30 (Fld.other W29 (Fld.keep (Fld.ext E26 (Fld.other W25 (Fld.keep (Fld.ext E22 F_size_kl) K23 (ninS ne31 nin0)) (Or.inl ne_kl))) K27 (ninS ne32 nin0)) (Or.inl ne_kl)) (Or.inl ne_kl)) K33 nin0) (Fld.keep (Fld.other W30 (Fld.other W29 (Fld.keep (Fld.ext E26 (Fld.other W25 (Fld.keep (Fld.ext E22 F_elementData_kl) K23 (ninS ne31 nin0)) (Or.inl ne_kl))) K27 (ninS ne32 nin0)) (Or.inl ne_kl)) (Or.inl ne_kl)) K33 nin0) (Arv.keep (Arv.other (Arv.other (Arv.keep (Arv.ext (Arv.other (Arv.keep (Arv.ext V_dk E22) K23 (ninS ne35 nin0)) W25 ne_dk) E26) K27 (ninS ne36 nin0)) W29 ne_dk) W30 ne_dk) K33 nin0) rfl (by decide) ne37 ne38) hZ (hw _ (mo 179 rfl)) (hw _ (mo 133 rfl)) (by decide) (by decide)) q39a q39b q39c (g := (mkF m 48 #[vr a, vr cl, vr kl, vr it33, uu, uu] [(.ref it33)])) rfl (by rw [hml]; rfl) (Steps.refl _) (argsL := []) (rest := []) (lenOf pd_13 rfl) rfl (Nat.le_of_eq rfl) (hb hby d16_48) (fun _ _ => ⟨rfl, e34, (by decide : 3 ≤ _), (by decide : 10 ≤ _)⟩)
  dsimp only [Pt.U, Pt.locs, Pt.cells, Pt.slots] at X39 l39 y39 z39 st39 hQ39
  subst l39 y39 z39
  obtain ⟨rfl, N39q, K39, F0_39, F1_39, F2_39, F3_39⟩ := hQ39
  have N39 := Fr.app N34 N39q
  have KK39 : Keep h0 T39.heap [a] := Keep.trans KK33 K39 (allS (Or.inr sz_it33) all0)
  have C39 : CHr Z consts_1 s.vm s.heap s.vm T39.heap := CHr.trans C33 (CHr.keep K39 (sfS (Safe.exa (EL := consts_1) (vm := s.vm) hZ.alike E33 (by decide) (by decide)) sf0) C33.1)
  refine bW T39 (mkF m 53 #[vr a, vr cl, vr kl, vr it33, uu, uu] [(.ref w0)]) (fun _ k => st39.trans k) ?_
  obtain ⟨T40, X40, e40, st40⟩ := castY X39 hx hZ hown (hw _ (mo 186 rfl)) rfl (Ins.self (Exa.keep (Exa.keep (Exa.wr W30 (Exa.wr W29 (Exa.keep (Exa.ext E26 (Exa.wr W25 (Exa.keep (Exa.ext E22 E_w0) K23))) K27))) K33) K39)) (g := (mkF m 53 #[vr a, vr cl, vr kl, vr it33, uu, uu] [(.ref w0)])) rfl rfl (hb hby d16_53)
  refine bW T40 (mkF m 56 #[vr a, vr cl, vr kl, vr it33, uu, uu] [(.ref w0)]) (fun _ k => st40 _ k) ?_
  refine bW T40 (mkF m 58 #[vr a, vr cl, vr kl, vr it33, vr w0, uu] []) (fun _ k => XS.astore X40.here hx rfl (hb hby d16_56) rfl rfl rfl k) ?_
  have ne95 : a ≠ it33 := (Nat.ne_of_lt (Nat.lt_of_lt_of_le ((Exa.wr W30 (Exa.wr W29 (Exa.keep (Exa.ext E26 (Exa.wr W25 (Exa.keep (Exa.ext E22 E_a) K23))) K27)))).lt zi33))
  have ne96 : cl ≠ b22 := (Nat.ne_of_lt (Nat.lt_of_lt_of_le E_cl.lt (Nat.le_of_eq g22.symm)))
  have ne97 : cl ≠ b26 := (Nat.ne_of_lt (Nat.lt_of_lt_of_le (Exa.wr W25 (Exa.keep (Exa.ext E22 E_cl) K23)).lt (Nat.le_of_eq g26.symm)))
  have ne98 : cl ≠ it33 := (Nat.ne_of_lt (Nat.lt_of_lt_of_le ((Exa.wr W30 (Exa.wr W29 (Exa.keep (Exa.ext E26 (Exa.wr W25 (Exa.keep (Exa.ext E22 E_cl) K23))) K27)))).lt zi33))
  have ne99 : dc ≠ b22 := (Nat.ne_of_lt (Nat.lt_of_lt_of_le V_dc.lt (Nat.le_of_eq g22.symm)))
  have ne100 : dc ≠ b26 := (Nat.ne_of_lt (Nat.lt_of_lt_of_le (Arv.other (Arv.keep (Arv.ext V_dc E22) K23 (ninS ne99 nin0)) W25 ne_dc).lt (Nat.le_of_eq g26.symm)))
  have ne101 : dc ≠ it33 := (Nat.ne_of_lt (Nat.lt_of_lt_of_le ((Arv.other (Arv.other (Arv.keep (Arv.ext (Arv.other (Arv.keep (Arv.ext V_dc E22) K23 (ninS ne99 nin0)) W25 ne_dc) E26) K27 (ninS ne100 nin0)) W29 ne_dc) W30 ne_dc)).lt zi33))
  have ne102 : w0 ≠ b22 := (Nat.ne_of_lt (Nat.lt_of_lt_of_le E_w0.lt (Nat.le_of_eq g22.symm)))
  have ne103 : w0 ≠ b26 := (Nat.ne_of_lt (Nat.lt_of_lt_of_le (Exa.wr W25 (Exa.keep (Exa.ext E22 E_w0) K23)).lt (Nat.le_of_eq g26.symm)))
  have ne104 : w0 ≠ it33 := (Nat.ne_of_lt (Nat.lt_of_lt_of_le ((Exa.wr W30 (Exa.wr W29 (Exa.keep (Exa.ext E26 (Exa.wr W25 (Exa.keep (Exa.ext E22 E_w0) K23))) K27)))).lt zi33))
  have ne105 : w1 ≠ b22 := (Nat.ne_of_lt (Nat.lt_of_lt_of_le E_w1.lt (Nat.le_of_eq g22.symm)))
  have ne106 : w1 ≠ b26 := (Nat.ne_of_lt (Nat.lt_of_lt_of_le (Exa.wr W25 (Exa.keep (Exa.ext E22 E_w1) K23)).lt (Nat.le_of_eq g26.symm)))
  have ne107 : w1 ≠ it33 := (Nat.ne_of_lt (Nat.lt_of_lt_of_le ((Exa.wr W30 (Exa.wr W29 (Exa.keep (Exa.ext E26 (Exa.wr W25 (Exa.keep (Exa.ext E22 E_w1) K23))) K27)))).lt zi33))
  have ne108 : w2 ≠ b22 := (Nat.ne_of_lt (Nat.lt_of_lt_of_le E_w2.lt (Nat.le_of_eq g22.symm)))
  have ne109 : w2 ≠ b26 := (Nat.ne_of_lt (Nat.lt_of_lt_of_le (Exa.wr W25 (Exa.keep (Exa.ext E22 E_w2) K23)).lt (Nat.le_of_eq g26.symm)))
  have ne110 : w2 ≠ it33 := (Nat.ne_of_lt (Nat.lt_of_lt_of_le ((Exa.wr W30 (Exa.wr W29 (Exa.keep (Exa.ext E26 (Exa.wr W25 (Exa.keep (Exa.ext E22 E_w2) K23))) K27)))).lt zi33))
  have ne111 : b22 ≠ b26 := (Nat.ne_of_lt (Nat.lt_of_lt_of_le (Exa.wr W25 (Exa.keep E_b22 K23)).lt (Nat.le_of_eq g26.symm)))
  have ne112 : b22 ≠ it33 := (Nat.ne_of_lt (Nat.lt_of_lt_of_le ((Exa.wr W30 (Exa.wr W29 (Exa.keep (Exa.ext E26 (Exa.wr W25 (Exa.keep E_b22 K23))) K27)))).lt zi33))
  have ne113 : b26 ≠ it33 := (Nat.ne_of_lt (Nat.lt_of_lt_of_le ((Exa.wr W30 (Exa.wr W29 (Exa.keep E_b26 K27)))).lt zi33))
  exact vin_3_c1 (h1 := T39.heap) (T1 := T40) (vm1 := s.vm) hw X40 e40 KK39 N39 Z0 (Old.keep (Old.keep (Old.wr (Old.wr (Old.keep (Old.ext (Old.wr (Old.keep (Old.ext O0 E22) K23 (allS g_b22 all0)) W25 g_a) E26) K27 (allS g_b26 all0)) W29 g_a) W30 g_a) K33 all0) K39 (allS g_it33 all0)) S_DE V_aD hi0 hi1 hi2 hZ hown hS0 (Nat.le_trans (Nat.le_trans (Nat.le_trans (Nat.le_trans (Nat.le_trans (Nat.le_trans (Nat.le_trans (Nat.le_trans (Nat.le_trans hk0 E22.1) K23.1) (Keep.of_wr W25).1) E26.1) K27.1) (Keep.of_wr W29).1) (Keep.of_wr W30).1) K33.1) K39.1) C39 hx hby hml hlk Bd.returns (Exa.keep (Exa.keep (Exa.wr W30 (Exa.wr W29 (Exa.keep (Exa.ext E26 (Exa.wr W25 (Exa.keep (Exa.ext E22 E_a) K23))) K27))) K33) K39) (Fld.keep (Fld.keep (Fld.other W30 (Fld.other W29 (Fld.keep (Fld.ext E26 Fw25) K27 (ninS ne28 nin0)) (Or.inr (slot_ne (a0 := a0) (Or.inr (hw _ (mo 117 rfl))) (Or.inr (hw _ (mo 119 rfl))) (by decide) (t := (.object "java/util/List")) (t' := (.object "java/util/List")) (by decide) (by decide)))) (Or.inr (slot_ne (a0 := a0) (Or.inr (hw _ (mo 117 rfl))) (Or.inr (hw _ (mo 121 rfl))) (by decide) (t := (.object "java/util/List")) (t' := (.object "java/util/List")) (by decide) (by decide)))) K33 nin0) K39 (ninS ne95 nin0)) (Fld.keep (Fld.keep (Fld.other W30 Fw29 (Or.inr (slot_ne (a0 := a0) (Or.inr (hw _ (mo 119 rfl))) (Or.inr (hw _ (mo 121 rfl))) (by decide) (t := (.object "java/util/List")) (t' := (.object "java/util/List")) (by decide) (by decide)))) K33 nin0) K39 (ninS ne95 nin0)) (Exa.keep (Exa.keep (Exa.wr W30 (Exa.wr W29 (Exa.keep (Exa.ext E26 (Exa.wr W25 (Exa.keep (Exa.ext E22 E_cl) K23))) K27))) K33) K39) (Fld.keep (Fld.keep (Fld.other W30 (Fld.other W29 (Fld.keep (Fld.ext E26 (Fld.other W25 (Fld.keep (Fld.ext E22 F_size_cl) K23 (ninS ne96 nin0)) (Or.inl ne_cl))) K27 (ninS ne97 nin0)) (Or.inl ne_cl)) (Or.inl ne_cl)) K33 nin0) K39 (ninS ne98 nin0)) (Fld.keep (Fld.keep (Fld.other W30 (Fld.other W29 (Fld.keep (Fld.ext E26 (Fld.other W25 (Fld.keep (Fld.ext E22 F_elementData_cl) K23 (ninS ne96 nin0)) (Or.inl ne_cl))) K27 (ninS ne97 nin0)) (Or.inl ne_cl)) (Or.inl ne_cl)) K33 nin0) K39 (ninS ne98 nin0)) (Arv.keep (Arv.keep (Arv.other (Arv.other (Arv.keep (Arv.ext (Arv.other (Arv.keep (Arv.ext V_dc E22) K23 (ninS ne99 nin0)) W25 ne_dc) E26) K27 (ninS ne100 nin0)) W29 ne_dc) W30 ne_dc) K33 nin0) K39 (ninS ne101 nin0)) (Exa.keep (Exa.keep (Exa.wr W30 (Exa.wr W29 (Exa.keep (Exa.ext E26 (Exa.wr W25 (Exa.keep (Exa.ext E22 E_y0) K23))) K27))) K33) K39) (Exa.keep (Exa.keep (Exa.wr W30 (Exa.wr W29 (Exa.keep (Exa.ext E26 (Exa.wr W25 (Exa.keep (Exa.ext E22 E_y1) K23))) K27))) K33) K39) (Exa.keep (Exa.keep (Exa.wr W30 (Exa.wr W29 (Exa.keep (Exa.ext E26 (Exa.wr W25 (Exa.keep (Exa.ext E22 E_y2) K23))) K27))) K33) K39) (Exa.keep (Exa.keep (Exa.wr W30 (Exa.wr W29 (Exa.keep (Exa.ext E26 (Exa.wr W25 (Exa.keep (Exa.ext E22 E_kl) K23))) K27))) K33) K39) (Fld.keep (Fld.keep (Fld.other W30 (Fld.other W29 (Fld.keep (Fld.ext E26 (Fld.other W25 (Fld.keep (Fld.ext E22 F_modCount_kl) K23 (ninS ne31 nin0)) (Or.inl ne_kl))) K27 (ninS ne32 nin0)) (Or.inl ne_kl)) (Or.inl ne_kl)) K33 nin0) K39 (ninS ne37 nin0)) (Fld.keep (Fld.keep (Fld.other W30 (Fld.other W29 (Fld.keep (Fld.ext E26 (Fld.other W25 (Fld.keep (Fld.ext E22 F_elementData_kl) K23 (ninS ne31 nin0)) (Or.inl ne_kl))) K27 (ninS ne32 nin0)) (Or.inl ne_kl)) (Or.inl ne_kl)) K33 nin0) K39 (ninS ne37 nin0)) (Fld.keep (Fld.keep (Fld.other W30 (Fld.other W29 (Fld.keep (Fld.ext E26 (Fld.other W25 (Fld.keep (Fld.ext E22 F_size_kl) K23 (ninS ne31 nin0)) (Or.inl ne_kl))) K27 (ninS ne32 nin0)) (Or.inl ne_kl)) (Or.inl ne_kl)) K33 nin0) K39 (ninS ne37 nin0)) (Arv.keep (Arv.keep (Arv.other (Arv.other (Arv.keep (Arv.ext (Arv.other (Arv.keep (Arv.ext V_dk E22) K23 (ninS ne35 nin0)) W25 ne_dk) E26) K27 (ninS ne36 nin0)) W29 ne_dk) W30 ne_dk) K33 nin0) K39 (ninS ne38 nin0)) (Exa.keep (Exa.keep (Exa.wr W30 (Exa.wr W29 (Exa.keep (Exa.ext E26 (Exa.wr W25 (Exa.keep (Exa.ext E22 E_w0) K23))) K27))) K33) K39) (Fld.keep (Fld.keep (Fld.other W30 (Fld.other W29 (Fld.keep (Fld.ext E26 (Fld.other W25 (Fld.keep (Fld.ext E22 F_value_w0) K23 (ninS ne102 nin0)) (Or.inl ne_w0))) K27 (ninS ne103 nin0)) (Or.inl ne_w0)) (Or.inl ne_w0)) K33 nin0) K39 (ninS ne104 nin0)) (Fld.keep (Fld.keep (Fld.other W30 (Fld.other W29 (Fld.keep (Fld.ext E26 (Fld.other W25 (Fld.keep (Fld.ext E22 F_unit_w0) K23 (ninS ne102 nin0)) (Or.inl ne_w0))) K27 (ninS ne103 nin0)) (Or.inl ne_w0)) (Or.inl ne_w0)) K33 nin0) K39 (ninS ne104 nin0)) (Exa.keep (Exa.keep (Exa.wr W30 (Exa.wr W29 (Exa.keep (Exa.ext E26 (Exa.wr W25 (Exa.keep (Exa.ext E22 E_w1) K23))) K27))) K33) K39) (Fld.keep (Fld.keep (Fld.other W30 (Fld.other W29 (Fld.keep (Fld.ext E26 (Fld.other W25 (Fld.keep (Fld.ext E22 F_value_w1) K23 (ninS ne105 nin0)) (Or.inl ne_w1))) K27 (ninS ne106 nin0)) (Or.inl ne_w1)) (Or.inl ne_w1)) K33 nin0) K39 (ninS ne107 nin0)) (Fld.keep (Fld.keep (Fld.other W30 (Fld.other W29 (Fld.keep (Fld.ext E26 (Fld.other W25 (Fld.keep (Fld.ext E22 F_unit_w1) K23 (ninS ne105 nin0)) (Or.inl ne_w1))) K27 (ninS ne106 nin0)) (Or.inl ne_w1)) (Or.inl ne_w1)) K33 nin0) K39 (ninS ne107 nin0)) (Exa.keep (Exa.keep (Exa.wr W30 (Exa.wr W29 (Exa.keep (Exa.ext E26 (Exa.wr W25 (Exa.keep (Exa.ext E22 E_w2) K23))) K27))) K33) K39) (Fld.keep (Fld.keep (Fld.other W30 (Fld.other W29 (Fld.keep (Fld.ext E26 (Fld.other W25 (Fld.keep (Fld.ext E22 F_value_w2) K23 (ninS ne108 nin0)) (Or.inl ne_w2))) K27 (ninS ne109 nin0)) (Or.inl ne_w2)) (Or.inl ne_w2)) K33 nin0) K39 (ninS ne110 nin0)) (Fld.keep (Fld.keep (Fld.other W30 (Fld.other W29 (Fld.keep (Fld.ext E26 (Fld.other W25 (Fld.keep (Fld.ext E22 F_unit_w2) K23 (ninS ne108 nin0)) (Or.inl ne_w2))) K27 (ninS ne109 nin0)) (Or.inl ne_w2)) (Or.inl ne_w2)) K33 nin0) K39 (ninS ne110 nin0)) (Exa.keep (Exa.keep (Exa.wr W30 (Exa.wr W29 (Exa.keep (Exa.ext E26 (Exa.wr W25 (Exa.keep E_b22 K23))) K27))) K33) K39) (Fld.keep (Fld.keep (Fld.other W30 (Fld.other W29 (Fld.keep (Fld.ext E26 (Fld.other W25 Fm23 (Or.inl (Ne.symm ne24)))) K27 (ninS ne111 nin0)) (Or.inl (Ne.symm ne24))) (Or.inl (Ne.symm ne24))) K33 nin0) K39 (ninS ne112 nin0)) (Fld.keep (Fld.keep (Fld.other W30 (Fld.other W29 (Fld.keep (Fld.ext E26 (Fld.other W25 Fe23 (Or.inl (Ne.symm ne24)))) K27 (ninS ne111 nin0)) (Or.inl (Ne.symm ne24))) (Or.inl (Ne.symm ne24))) K33 nin0) K39 (ninS ne112 nin0)) (Fld.keep (Fld.keep (Fld.other W30 (Fld.other W29 (Fld.keep (Fld.ext E26 (Fld.other W25 Fz23 (Or.inl (Ne.symm ne24)))) K27 (ninS ne111 nin0)) (Or.inl (Ne.symm ne24))) (Or.inl (Ne.symm ne24))) K33 nin0) K39 (ninS ne112 nin0)) (Exa.keep (Exa.keep (Exa.wr W30 (Exa.wr W29 (Exa.keep E_b26 K27))) K33) K39) (Fld.keep (Fld.keep (Fld.other W30 (Fld.other W29 Fm27 (Or.inl (Ne.symm ne28))) (Or.inl (Ne.symm ne28))) K33 nin0) K39 (ninS ne113 nin0)) (Fld.keep (Fld.keep (Fld.other W30 (Fld.other W29 Fe27 (Or.inl (Ne.symm ne28))) (Or.inl (Ne.symm ne28))) K33 nin0) K39 (ninS ne113 nin0)) (Fld.keep (Fld.keep (Fld.other W30 (Fld.other W29 Fz27 (Or.inl (Ne.symm ne28))) (Or.inl (Ne.symm ne28))) K33 nin0) K39 (ninS ne113 nin0)) (Exa.keep E33 K39) F0_39 F1_39 F2_39 F3_39 ne24 ne28 ne95 ne96 ne97 ne98 ne99 ne100 ne101 ne31 ne32 ne37 ne35 ne36 ne38 ne102 ne105 ne106 ne107 ne108 ne109 ne110 ne111 ne112 ne113 g_b22 sz_b22 g_b26 sz_b26 g_it33 sz_it33
theorem d20_0 : decode prog_15_method_3_code 0 = .ok (.iconst (-1), 1) := by decide +kernel
theorem d20_1 : decode prog_15_method_3_code 1 = .ok (.istore_n 1, 1) := by decide +kernel
theorem d20_2 : decode prog_15_method_3_code 2 = .ok (.iconst 0, 1) := by decide +kernel
theorem d20_3 : decode prog_15_method_3_code 3 = .ok (.istore_n 2, 1) := by decide +kernel
theorem d20_4 : decode prog_15_method_3_code 4 = .ok (.iload_n 1, 1) := by decide +kernel
theorem d20_5 : decode prog_15_method_3_code 5 = .ok (.ifCond .ge 43, 3) := by decide +kernel
theorem d20_8 : decode prog_15_method_3_code 8 = .ok (.iload_n 2, 1) := by decide +kernel
theorem d20_9 : decode prog_15_method_3_code 9 = .ok (.aload_n 0, 1) := by decide +kernel
theorem d20_10 : decode prog_15_method_3_code 10 = .ok (.getfield 10, 3) := by decide +kernel
theorem d20_13 : decode prog_15_method_3_code 13 = .ok (.invokeinterface 62 1, 5) := by decide +kernel
theorem d20_18 : decode prog_15_method_3_code 18 = .ok (.if_icmp .ge 30, 3) := by decide +kernel
theorem d20_48 : decode prog_15_method_3_code 48 = .ok (.iload_n 1, 1) := by decide +kernel
theorem d20_49 : decode prog_15_method_3_code 49 = .ok (.ireturn, 1) := by decide +kernel
theorem pn_20 : plainName sV = true := by first | (simp [plainName, overriddenIn]; done) | decide +kernel
theorem ef_fgv_0 (m : MethodId) (a : Addr) : entryFrame m #[(.ref a)] 3 = mkF m 0 #[vr a, uu, uu] [] := rfl
def Q_fgv_0 (Z : State) (a vl : Addr) (h0 : Heap) (n0 : Nat) (v : Option Value) (h : Heap) (L : List Loc) : Prop := v = some (.int (-1 : Int32)) ∧ Fr n0 L ∧ h = h0
theorem fgv_0 (l : Launch) (Z : State) (a0 : Array Value) (hw : HW Z a0) (ws : List Jvm.Cond) (a vl : Addr) (h0 : Heap) (n0 : Nat) (Z0 : n0 ≤ h0.size) (F_values_a : Fld Z h0 a sV "values" "Ljava/util/List;" (.ref vl)) (E_vl : Exa Z h0 vl sL) (F_size_vl : Fld Z h0 vl sL "size" "I" (ii 0)) :
    own_M l yy33 prog_15_method_3_code 3 (some .int) ws rr18 Z #[(.ref a)] h0 (Q_fgv_0 Z a vl h0 n0) := by
  refine own_bd (plainFor_of_name pn_20) fun p e s m below meth c s₁ Bd hx hby hml hown hnm hlk hZ X0 e0 => ?_
  rw [ef_fgv_0 m a]
  refine bN s₁ (mkF m 1 #[vr a, uu, uu] [(.int (-1 : Int32))]) (fun _ k => XS.iconst X0.here hx rfl (hb hby d20_0) k) ?_
  refine bN s₁ (mkF m 2 #[vr a, vi (-1 : Int32), uu] []) (fun _ k => XS.istoreN X0.here hx rfl (hb hby d20_1) rfl rfl k) ?_
  refine bN s₁ (mkF m 3 #[vr a, vi (-1 : Int32), uu] [(ii 0)]) (fun _ k => XS.iconst X0.here hx rfl (hb hby d20_2) k) ?_
  refine bN s₁ (mkF m 4 #[vr a, vi (-1 : Int32), vi 0] []) (fun _ k => XS.istoreN X0.here hx rfl (hb hby d20_3) rfl rfl k) ?_
  refine bN s₁ (mkF m 5 #[vr a, vi (-1 : Int32), vi 0] [(.int (-1 : Int32))]) (fun _ k => XS.iloadN X0.here hx rfl (hb hby d20_4) rfl k) ?_
  refine bN s₁ (mkF m 8 #[vr a, vi (-1 : Int32), vi 0] []) (fun _ k => XS.ifNo X0.here hx rfl (hb hby d20_5) rfl ((if0 _ _).trans (tlt (by decide)).2.1) k) ?_
  refine bN s₁ (mkF m 9 #[vr a, vi (-1 : Int32), vi 0] [(ii 0)]) (fun _ k => XS.iloadN X0.here hx rfl (hb hby d20_8) rfl k) ?_
  refine bN s₁ (mkF m 10 #[vr a, vi (-1 : Int32), vi 0] [(.ref a), (ii 0)]) (fun _ k => XS.aloadN X0.here hx rfl (hb hby d20_9) rfl rfl k) ?_
  obtain ⟨T21, X21, e21, st21⟩ := getF X0 hx hZ hown (host := "") (Or.inl (hw _ (mo 116 rfl))) Via.refl e0 F_values_a (g := (mkF m 10 #[vr a, vi (-1 : Int32), vi 0] [(.ref a), (ii 0)])) rfl rfl (hb hby d20_10)
  refine bN T21 (mkF m 13 #[vr a, vi (-1 : Int32), vi 0] [(.ref vl), (ii 0)]) (fun _ k => st21 _ k) ?_
  obtain ⟨cq22, kq22, q22a, q22b, q22c⟩ := isOf hZ e21 E_vl
  obtain ⟨_, _, ⟨T22, L22, k22, n22⟩, -, X22, ⟨Lc22, hQ22, l22, y22, z22⟩, st22⟩ := X21.interfaceBack hx (xi := yy34) (y := yy17) hown (mvT hZ (hw _ (mo 163 rfl))) (mvT hZ (hw _ (mo 164 rfl))) (mvT hZ (hw _ (mo 165 rfl))) (mvT hZ (hw _ (mo 166 rfl))) (mvT hZ (hw _ (mo 167 rfl))) (mvT hZ (hw _ (mo 168 rfl))) (mvT hZ (hw _ (mo 169 rfl))) (mvT hZ (hw _ (mo 129 rfl))) (by decide) (backOf (W := 1) (lsz l Z a0 hw [] vl (0 : Int32) h0 n0 Z0 F_size_vl) hZ (hw _ (mo 170 rfl)) (hw _ (mo 32 rfl)) (by decide) (by decide)) q22a q22b q22c (g := (mkF m 13 #[vr a, vi (-1 : Int32), vi 0] [(.ref vl), (ii 0)])) rfl (by rw [hml]; rfl) (Steps.refl _) (argsL := []) (rest := [(ii 0)]) (lenOf pd_14 rfl) rfl (Nat.le_of_eq rfl) (hb hby d20_13) (fun _ _ => ⟨rfl, e21, (by decide : 0 ≤ _), (by decide : 0 ≤ _)⟩)
  dsimp only [Pt.U, Pt.locs, Pt.cells, Pt.slots] at X22 l22 y22 z22 st22 hQ22
  subst l22 y22 z22
  obtain ⟨rfl, N22q, e22⟩ := hQ22
  have N22 := Fr.app (Fr.nil n0) N22q
  refine bN T22 (mkF m 18 #[vr a, vi (-1 : Int32), vi 0] [(ii 0), (ii 0)]) (fun _ k => st22.trans k) ?_
  refine bN T22 (mkF m 48 #[vr a, vi (-1 : Int32), vi 0] []) (fun _ k => XS.icmpYes X22.here hx rfl (pc0 := 18) (pc' := 48) rfl (hb hby d20_18) rfl (flt (by decide)).2.1 (by decide) (by decide) k) ?_
  refine bN T22 (mkF m 49 #[vr a, vi (-1 : Int32), vi 0] [(.int (-1 : Int32))]) (fun _ k => XS.iloadN X22.here hx rfl (hb hby d20_48) rfl k) ?_
  refine own_ret X22 hlk (v := some (.int (-1 : Int32))) (nvr Bd.returns) (fun fs hr => retI X22 hx Bd.returns (hb hby d20_49) hr) ?_ (by decide) (by decide)
  rw [e22]
  exact ⟨congrArg (fun z => some (Value.int z)) rfl, N22, rfl⟩
theorem d20_21 : decode prog_15_method_3_code 21 = .ok (.aload_n 0, 1) := by decide +kernel
theorem d20_22 : decode prog_15_method_3_code 22 = .ok (.getfield 10, 3) := by decide +kernel
theorem d20_25 : decode prog_15_method_3_code 25 = .ok (.iload_n 2, 1) := by decide +kernel
theorem d20_26 : decode prog_15_method_3_code 26 = .ok (.invokeinterface 44 2, 5) := by decide +kernel
theorem d20_31 : decode prog_15_method_3_code 31 = .ok (.checkcast 48, 3) := by decide +kernel
theorem d20_34 : decode prog_15_method_3_code 34 = .ok (.invokevirtual 57, 3) := by decide +kernel
theorem d20_37 : decode prog_15_method_3_code 37 = .ok (.ifCond .ne 5, 3) := by decide +kernel
theorem d20_40 : decode prog_15_method_3_code 40 = .ok (.iload_n 2, 1) := by decide +kernel
theorem d20_41 : decode prog_15_method_3_code 41 = .ok (.istore_n 1, 1) := by decide +kernel
theorem d20_42 : decode prog_15_method_3_code 42 = .ok (.iinc 2 1, 3) := by decide +kernel
theorem d20_45 : decode prog_15_method_3_code 45 = .ok (.goto (-41), 3) := by decide +kernel
theorem ef_fgv_1 (m : MethodId) (a : Addr) : entryFrame m #[(.ref a)] 3 = mkF m 0 #[vr a, uu, uu] [] := rfl
def Q_fgv_1 (Z : State) (a vl dv : Addr) (kv : ClassId) (x0 t0 : Addr) (q0 : ClassId) (z0 : Int32) (v0 : List Value) (h0 : Heap) (n0 : Nat) (v : Option Value) (h : Heap) (L : List Loc) : Prop := v = some (.int (own_fg1 z0)) ∧ Fr n0 L ∧ h = h0
theorem fgv_1 (l : Launch) (Z : State) (a0 : Array Value) (hw : HW Z a0) (ws : List Jvm.Cond) (a vl dv : Addr) (kv : ClassId) (x0 t0 : Addr) (q0 : ClassId) (z0 : Int32) (v0 : List Value) (h0 : Heap) (n0 : Nat) (Z0 : n0 ≤ h0.size) (F_values_a : Fld Z h0 a sV "values" "Ljava/util/List;" (.ref vl)) (E_vl : Exa Z h0 vl sL) (F_size_vl : Fld Z h0 vl sL "size" "I" (.int (1 : Int32))) (F_elementData_vl : Fld Z h0 vl sL "elementData" sE (.ref dv)) (V_dv : Arv Z h0 dv kv (.object sO) (10 : Int32) [(.ref x0), .null, .null, .null, .null, .null, .null, .null, .null, .null] .null) (E_x0 : Exa Z h0 x0 sS) (F_value_x0 : Fld Z h0 x0 sS "value" "[B" (.ref t0)) (V_t0 : Arv Z h0 t0 q0 .byte z0 v0 (ii 0)) :
    own_M l yy33 prog_15_method_3_code 3 (some .int) ws rr19 Z #[(.ref a)] h0 (Q_fgv_1 Z a vl dv kv x0 t0 q0 z0 v0 h0 n0) := by
  refine own_bd (plainFor_of_name pn_20) fun p e s m below meth c s₁ Bd hx hby hml hown hnm hlk hZ X0 e0 => ?_
  rw [ef_fgv_1 m a]
  refine bN s₁ (mkF m 1 #[vr a, uu, uu] [(.int (-1 : Int32))]) (fun _ k => XS.iconst X0.here hx rfl (hb hby d20_0) k) ?_
  refine bN s₁ (mkF m 2 #[vr a, vi (-1 : Int32), uu] []) (fun _ k => XS.istoreN X0.here hx rfl (hb hby d20_1) rfl rfl k) ?_
  refine bN s₁ (mkF m 3 #[vr a, vi (-1 : Int32), uu] [(ii 0)]) (fun _ k => XS.iconst X0.here hx rfl (hb hby d20_2) k) ?_
  refine bN s₁ (mkF m 4 #[vr a, vi (-1 : Int32), vi 0] []) (fun _ k => XS.istoreN X0.here hx rfl (hb hby d20_3) rfl rfl k) ?_
  refine bN s₁ (mkF m 5 #[vr a, vi (-1 : Int32), vi 0] [(.int (-1 : Int32))]) (fun _ k => XS.iloadN X0.here hx rfl (hb hby d20_4) rfl k) ?_
  refine bN s₁ (mkF m 8 #[vr a, vi (-1 : Int32), vi 0] []) (fun _ k => XS.ifNo X0.here hx rfl (hb hby d20_5) rfl ((if0 _ _).trans (tlt (by decide)).2.1) k) ?_
  refine bN s₁ (mkF m 9 #[vr a, vi (-1 : Int32), vi 0] [(ii 0)]) (fun _ k => XS.iloadN X0.here hx rfl (hb hby d20_8) rfl k) ?_
  refine bN s₁ (mkF m 10 #[vr a, vi (-1 : Int32), vi 0] [(.ref a), (ii 0)]) (fun _ k => XS.aloadN X0.here hx rfl (hb hby d20_9) rfl rfl k) ?_
  obtain ⟨T21, X21, e21, st21⟩ := getF X0 hx hZ hown (host := "") (Or.inl (hw _ (mo 116 rfl))) Via.refl e0 F_values_a (g := (mkF m 10 #[vr a, vi (-1 : Int32), vi 0] [(.ref a), (ii 0)])) rfl rfl (hb hby d20_10)
  refine bN T21 (mkF m 13 #[vr a, vi (-1 : Int32), vi 0] [(.ref vl), (ii 0)]) (fun _ k => st21 _ k) ?_
  obtain ⟨cq22, kq22, q22a, q22b, q22c⟩ := isOf hZ e21 E_vl
  obtain ⟨_, _, ⟨T22, L22, k22, n22⟩, -, X22, ⟨Lc22, hQ22, l22, y22, z22⟩, st22⟩ := X21.interfaceBack hx (xi := yy34) (y := yy17) hown (mvT hZ (hw _ (mo 163 rfl))) (mvT hZ (hw _ (mo 164 rfl))) (mvT hZ (hw _ (mo 165 rfl))) (mvT hZ (hw _ (mo 166 rfl))) (mvT hZ (hw _ (mo 167 rfl))) (mvT hZ (hw _ (mo 168 rfl))) (mvT hZ (hw _ (mo 169 rfl))) (mvT hZ (hw _ (mo 129 rfl))) (by decide) (backOf (W := 1) (lsz l Z a0 hw [] vl (1 : Int32) h0 n0 Z0 F_size_vl) hZ (hw _ (mo 170 rfl)) (hw _ (mo 32 rfl)) (by decide) (by decide)) q22a q22b q22c (g := (mkF m 13 #[vr a, vi (-1 : Int32), vi 0] [(.ref vl), (ii 0)])) rfl (by rw [hml]; rfl) (Steps.refl _) (argsL := []) (rest := [(ii 0)]) (lenOf pd_14 rfl) rfl (Nat.le_of_eq rfl) (hb hby d20_13) (fun _ _ => ⟨rfl, e21, (by decide : 0 ≤ _), (by decide : 0 ≤ _)⟩)
  dsimp only [Pt.U, Pt.locs, Pt.cells, Pt.slots] at X22 l22 y22 z22 st22 hQ22
  subst l22 y22 z22
  obtain ⟨rfl, N22q, e22⟩ := hQ22
  have N22 := Fr.app (Fr.nil n0) N22q
  refine bN T22 (mkF m 18 #[vr a, vi (-1 : Int32), vi 0] [(.int (1 : Int32)), (ii 0)]) (fun _ k => st22.trans k) ?_
  refine bN T22 (mkF m 21 #[vr a, vi (-1 : Int32), vi 0] []) (fun _ k => XS.icmpNo X22.here hx rfl (hb hby d20_18) rfl (tlt (by decide)).2.1 k) ?_
  refine bN T22 (mkF m 22 #[vr a, vi (-1 : Int32), vi 0] [(.ref a)]) (fun _ k => XS.aloadN X22.here hx rfl (hb hby d20_21) rfl rfl k) ?_
  obtain ⟨T23, X23, e23, st23⟩ := getF X22 hx hZ hown (host := "") (Or.inl (hw _ (mo 116 rfl))) Via.refl e22 F_values_a (g := (mkF m 22 #[vr a, vi (-1 : Int32), vi 0] [(.ref a)])) rfl rfl (hb hby d20_22)
  refine bN T23 (mkF m 25 #[vr a, vi (-1 : Int32), vi 0] [(.ref vl)]) (fun _ k => st23 _ k) ?_
  refine bN T23 (mkF m 26 #[vr a, vi (-1 : Int32), vi 0] [(ii 0), (.ref vl)]) (fun _ k => XS.iloadN X23.here hx rfl (hb hby d20_25) rfl k) ?_
  obtain ⟨cq24, kq24, q24a, q24b, q24c⟩ := isOf hZ e23 E_vl
  obtain ⟨_, _, ⟨T24, L24, k24, n24⟩, -, X24, ⟨Lc24, hQ24, l24, y24, z24⟩, st24⟩ := X23.interfaceBack hx (xi := yy30) (y := yy26) hown (mvT hZ (hw _ (mo 193 rfl))) (mvT hZ (hw _ (mo 194 rfl))) (mvT hZ (hw _ (mo 195 rfl))) (mvT hZ (hw _ (mo 196 rfl))) (mvT hZ (hw _ (mo 197 rfl))) (mvT hZ (hw _ (mo 198 rfl))) (mvT hZ (hw _ (mo 199 rfl))) (mvT hZ (hw _ (mo 129 rfl))) (by decide) (backOf (W := 0) (getj_0 l Z a0 hw [] vl dv kv [(.ref x0), .null, .null, .null, .null, .null, .null, .null, .null, .null] x0 (1 : Int32) h0 n0 Z0 E_vl F_size_vl F_elementData_vl V_dv rfl (by decide)) hZ (hw _ (mo 200 rfl)) (hw _ (mo 32 rfl)) (by decide) (by decide)) q24a q24b q24c (g := (mkF m 26 #[vr a, vi (-1 : Int32), vi 0] [(ii 0), (.ref vl)])) rfl (by rw [hml]; rfl) (Steps.refl _) (argsL := [(ii 0)]) (rest := []) (lenOf pd_10 rfl) rfl (Nat.le_of_eq rfl) (hb hby d20_26) (fun _ _ => ⟨rfl, e23, (by decide : 0 ≤ _), (by decide : 0 ≤ _)⟩)
  dsimp only [Pt.U, Pt.locs, Pt.cells, Pt.slots] at X24 l24 y24 z24 st24 hQ24
  subst l24 y24 z24
  obtain ⟨rfl, N24q, e24⟩ := hQ24
  have N24 := Fr.app N22 N24q
  refine bN T24 (mkF m 31 #[vr a, vi (-1 : Int32), vi 0] [(.ref x0)]) (fun _ k => st24.trans k) ?_
  obtain ⟨T25, X25, e25, st25⟩ := castY X24 hx hZ hown (hw _ (mo 214 rfl)) e24 (Ins.self E_x0) (g := (mkF m 31 #[vr a, vi (-1 : Int32), vi 0] [(.ref x0)])) rfl rfl (hb hby d20_31)
  refine bN T25 (mkF m 34 #[vr a, vi (-1 : Int32), vi 0] [(.ref x0)]) (fun _ k => st25 _ k) ?_
  by_cases hz0 : z0 = (0 : Int32)
  · skip
    obtain ⟨cq26, kq26, q26a, q26b, q26c⟩ := isOf hZ e25 E_x0
    obtain ⟨_, _, ⟨T26, L26, k26, n26⟩, -, X26, ⟨Lc26, hQ26, l26, y26, z26⟩, st26⟩ := X25.virtualBack hx (y := yy5) (z := yy5) hown (mvT hZ (hw _ (mo 227 rfl))) (mvT hZ (hw _ (mo 228 rfl))) (notFace_of_selects (args := #[]) (mvT hZ (hw _ (mo 230 rfl)))) (mvT hZ (hw _ (mo 230 rfl))) (mvT hZ (hw _ (mo 229 rfl))) (by decide) (backOf (W := 0) (ise l Z a0 hw [] x0 t0 q0 z0 v0 h0 n0 Z0 F_value_x0 V_t0) hZ (hw _ (mo 231 rfl)) (hw _ (mo 6 rfl)) (by decide) (by decide)) q26a q26c (g := (mkF m 34 #[vr a, vi (-1 : Int32), vi 0] [(.ref x0)])) rfl (by rw [hml]; rfl) (Steps.refl _) (argsL := []) (rest := []) (lenOf pd_12 rfl) rfl (Nat.le_of_eq rfl) (hb hby d20_34) (fun _ _ => ⟨rfl, e25, (by decide : 0 ≤ _), (by decide : 0 ≤ _)⟩)
    dsimp only [Pt.U, Pt.locs, Pt.cells, Pt.slots] at X26 l26 y26 z26 st26 hQ26
    subst l26 y26 z26
    obtain ⟨vq26, N26q, e26⟩ := hQ26
    obtain rfl := vq26.trans (congrArg (fun z => some (Value.int z)) (if_pos hz0))
    have N26 := Fr.app N24 N26q
    refine bN T26 (mkF m 37 #[vr a, vi (-1 : Int32), vi 0] [(.int (1 : Int32))]) (fun _ k => st26.trans k) ?_
    refine bN T26 (mkF m 42 #[vr a, vi (-1 : Int32), vi 0] []) (fun _ k => XS.ifYes X26.here hx rfl (pc0 := 37) (pc' := 42) rfl (hb hby d20_37) rfl ((if0 _ _).trans (feq (by decide)).2) (by decide) (by decide) k) ?_
    refine bN T26 (mkF m 45 #[vr a, vi (-1 : Int32), vi 1] []) (fun _ k => XS.iinc X26.here hx rfl (hb hby d20_42) rfl rfl k) ?_
    refine bN T26 (mkF m 4 #[vr a, vi (-1 : Int32), vi 1] []) (fun _ k => XS.goto X26.here hx rfl (pc0 := 45) (pc' := 4) rfl (hb hby d20_45) (by decide) (by decide) k) ?_
    refine bN T26 (mkF m 5 #[vr a, vi (-1 : Int32), vi 1] [(.int (-1 : Int32))]) (fun _ k => XS.iloadN X26.here hx rfl (hb hby d20_4) rfl k) ?_
    refine bN T26 (mkF m 8 #[vr a, vi (-1 : Int32), vi 1] []) (fun _ k => XS.ifNo X26.here hx rfl (hb hby d20_5) rfl ((if0 _ _).trans (tlt (by decide)).2.1) k) ?_
    refine bN T26 (mkF m 9 #[vr a, vi (-1 : Int32), vi 1] [(.int (1 : Int32))]) (fun _ k => XS.iloadN X26.here hx rfl (hb hby d20_8) rfl k) ?_
    refine bN T26 (mkF m 10 #[vr a, vi (-1 : Int32), vi 1] [(.ref a), (.int (1 : Int32))]) (fun _ k => XS.aloadN X26.here hx rfl (hb hby d20_9) rfl rfl k) ?_
    obtain ⟨T27, X27, e27, st27⟩ := getF X26 hx hZ hown (host := "") (Or.inl (hw _ (mo 116 rfl))) Via.refl e26 F_values_a (g := (mkF m 10 #[vr a, vi (-1 : Int32), vi 1] [(.ref a), (.int (1 : Int32))])) rfl rfl (hb hby d20_10)
    refine bN T27 (mkF m 13 #[vr a, vi (-1 : Int32), vi 1] [(.ref vl), (.int (1 : Int32))]) (fun _ k => st27 _ k) ?_
    obtain ⟨cq28, kq28, q28a, q28b, q28c⟩ := isOf hZ e27 E_vl
    obtain ⟨_, _, ⟨T28, L28, k28, n28⟩, -, X28, ⟨Lc28, hQ28, l28, y28, z28⟩, st28⟩ := X27.interfaceBack hx (xi := yy34) (y := yy17) hown (mvT hZ (hw _ (mo 163 rfl))) (mvT hZ (hw _ (mo 164 rfl))) (mvT hZ (hw _ (mo 165 rfl))) (mvT hZ (hw _ (mo 166 rfl))) (mvT hZ (hw _ (mo 167 rfl))) (mvT hZ (hw _ (mo 168 rfl))) (mvT hZ (hw _ (mo 169 rfl))) (mvT hZ (hw _ (mo 129 rfl))) (by decide) (backOf (W := 1) (lsz l Z a0 hw [] vl (1 : Int32) h0 n0 Z0 F_size_vl) hZ (hw _ (mo 170 rfl)) (hw _ (mo 32 rfl)) (by decide) (by decide)) q28a q28b q28c (g := (mkF m 13 #[vr a, vi (-1 : Int32), vi 1] [(.ref vl), (.int (1 : Int32))])) rfl (by rw [hml]; rfl) (Steps.refl _) (argsL := []) (rest := [(.int (1 : Int32))]) (lenOf pd_14 rfl) rfl (Nat.le_of_eq rfl) (hb hby d20_13) (fun _ _ => ⟨rfl, e27, (by decide : 0 ≤ _), (by decide : 0 ≤ _)⟩)
    dsimp only [Pt.U, Pt.locs, Pt.cells, Pt.slots] at X28 l28 y28 z28 st28 hQ28
    subst l28 y28 z28
    obtain ⟨rfl, N28q, e28⟩ := hQ28
    have N28 := Fr.app N26 N28q
    refine bN T28 (mkF m 18 #[vr a, vi (-1 : Int32), vi 1] [(.int (1 : Int32)), (.int (1 : Int32))]) (fun _ k => st28.trans k) ?_
    refine bN T28 (mkF m 48 #[vr a, vi (-1 : Int32), vi 1] []) (fun _ k => XS.icmpYes X28.here hx rfl (pc0 := 18) (pc' := 48) rfl (hb hby d20_18) rfl (flt (by decide)).2.1 (by decide) (by decide) k) ?_
    refine bN T28 (mkF m 49 #[vr a, vi (-1 : Int32), vi 1] [(.int (-1 : Int32))]) (fun _ k => XS.iloadN X28.here hx rfl (hb hby d20_48) rfl k) ?_
    refine own_ret X28 hlk (v := some (.int (-1 : Int32))) (nvr Bd.returns) (fun fs hr => retI X28 hx Bd.returns (hb hby d20_49) hr) ?_ (by decide) (by decide)
    rw [e28]
    exact ⟨congrArg (fun z => some (Value.int z)) (if_pos hz0).symm, N28, rfl⟩
  · skip
    obtain ⟨cq29, kq29, q29a, q29b, q29c⟩ := isOf hZ e25 E_x0
    obtain ⟨_, _, ⟨T29, L29, k29, n29⟩, -, X29, ⟨Lc29, hQ29, l29, y29, z29⟩, st29⟩ := X25.virtualBack hx (y := yy5) (z := yy5) hown (mvT hZ (hw _ (mo 227 rfl))) (mvT hZ (hw _ (mo 228 rfl))) (notFace_of_selects (args := #[]) (mvT hZ (hw _ (mo 230 rfl)))) (mvT hZ (hw _ (mo 230 rfl))) (mvT hZ (hw _ (mo 229 rfl))) (by decide) (backOf (W := 0) (ise l Z a0 hw [] x0 t0 q0 z0 v0 h0 n0 Z0 F_value_x0 V_t0) hZ (hw _ (mo 231 rfl)) (hw _ (mo 6 rfl)) (by decide) (by decide)) q29a q29c (g := (mkF m 34 #[vr a, vi (-1 : Int32), vi 0] [(.ref x0)])) rfl (by rw [hml]; rfl) (Steps.refl _) (argsL := []) (rest := []) (lenOf pd_12 rfl) rfl (Nat.le_of_eq rfl) (hb hby d20_34) (fun _ _ => ⟨rfl, e25, (by decide : 0 ≤ _), (by decide : 0 ≤ _)⟩)
    dsimp only [Pt.U, Pt.locs, Pt.cells, Pt.slots] at X29 l29 y29 z29 st29 hQ29
    subst l29 y29 z29
    obtain ⟨vq29, N29q, e29⟩ := hQ29
    obtain rfl := vq29.trans (congrArg (fun z => some (Value.int z)) (if_neg hz0))
    have N29 := Fr.app N24 N29q
    refine bN T29 (mkF m 37 #[vr a, vi (-1 : Int32), vi 0] [(ii 0)]) (fun _ k => st29.trans k) ?_
    refine bN T29 (mkF m 40 #[vr a, vi (-1 : Int32), vi 0] []) (fun _ k => XS.ifNo X29.here hx rfl (hb hby d20_37) rfl ((if0 _ _).trans (teq (by decide)).2) k) ?_
    refine bN T29 (mkF m 41 #[vr a, vi (-1 : Int32), vi 0] [(ii 0)]) (fun _ k => XS.iloadN X29.here hx rfl (hb hby d20_40) rfl k) ?_
    refine bN T29 (mkF m 42 #[vr a, vi 0, vi 0] []) (fun _ k => XS.istoreN X29.here hx rfl (hb hby d20_41) rfl rfl k) ?_
    refine bN T29 (mkF m 45 #[vr a, vi 0, vi 1] []) (fun _ k => XS.iinc X29.here hx rfl (hb hby d20_42) rfl rfl k) ?_
    refine bN T29 (mkF m 4 #[vr a, vi 0, vi 1] []) (fun _ k => XS.goto X29.here hx rfl (pc0 := 45) (pc' := 4) rfl (hb hby d20_45) (by decide) (by decide) k) ?_
    refine bN T29 (mkF m 5 #[vr a, vi 0, vi 1] [(ii 0)]) (fun _ k => XS.iloadN X29.here hx rfl (hb hby d20_4) rfl k) ?_
    refine bN T29 (mkF m 48 #[vr a, vi 0, vi 1] []) (fun _ k => XS.ifYes X29.here hx rfl (pc0 := 5) (pc' := 48) rfl (hb hby d20_5) rfl ((if0 _ _).trans (flt (by decide)).2.1) (by decide) (by decide) k) ?_
    refine bN T29 (mkF m 49 #[vr a, vi 0, vi 1] [(ii 0)]) (fun _ k => XS.iloadN X29.here hx rfl (hb hby d20_48) rfl k) ?_
    refine own_ret X29 hlk (v := some (ii 0)) (nvr Bd.returns) (fun fs hr => retI X29 hx Bd.returns (hb hby d20_49) hr) ?_ (by decide) (by decide)
    rw [e29]
    exact ⟨congrArg (fun z => some (Value.int z)) (if_neg hz0).symm, N29, rfl⟩
theorem ef_fgv_2 (m : MethodId) (a : Addr) : entryFrame m #[(.ref a)] 3 = mkF m 0 #[vr a, uu, uu] [] := rfl
def Q_fgv_2 (Z : State) (a vl dv : Addr) (kv : ClassId) (x0 t0 : Addr) (q0 : ClassId) (z0 : Int32) (v0 : List Value) (x1 t1 : Addr) (q1 : ClassId) (z1 : Int32) (v1 : List Value) (h0 : Heap) (n0 : Nat) (v : Option Value) (h : Heap) (L : List Loc) : Prop := v = some (.int (own_fg2 z0 z1)) ∧ Fr n0 L ∧ h = h0
theorem fgv_2 (l : Launch) (Z : State) (a0 : Array Value) (hw : HW Z a0) (ws : List Jvm.Cond) (a vl dv : Addr) (kv : ClassId) (x0 t0 : Addr) (q0 : ClassId) (z0 : Int32) (v0 : List Value) (x1 t1 : Addr) (q1 : ClassId) (z1 : Int32) (v1 : List Value) (h0 : Heap) (n0 : Nat) (Z0 : n0 ≤ h0.size) (F_values_a : Fld Z h0 a sV "values" "Ljava/util/List;" (.ref vl)) (E_vl : Exa Z h0 vl sL) (F_size_vl : Fld Z h0 vl sL "size" "I" (.int (2 : Int32))) (F_elementData_vl : Fld Z h0 vl sL "elementData" sE (.ref dv)) (V_dv : Arv Z h0 dv kv (.object sO) (10 : Int32) [(.ref x0), (.ref x1), .null, .null, .null, .null, .null, .null, .null, .null] .null) (E_x0 : Exa Z h0 x0 sS) (F_value_x0 : Fld Z h0 x0 sS "value" "[B" (.ref t0)) (V_t0 : Arv Z h0 t0 q0 .byte z0 v0 (ii 0)) (E_x1 : Exa Z h0 x1 sS) (F_value_x1 : Fld Z h0 x1 sS "value" "[B" (.ref t1)) (V_t1 : Arv Z h0 t1 q1 .byte z1 v1 (ii 0)) :
    own_M l yy33 prog_15_method_3_code 3 (some .int) ws rr19 Z #[(.ref a)] h0 (Q_fgv_2 Z a vl dv kv x0 t0 q0 z0 v0 x1 t1 q1 z1 v1 h0 n0) := by
  refine own_bd (plainFor_of_name pn_20) fun p e s m below meth c s₁ Bd hx hby hml hown hnm hlk hZ X0 e0 => ?_
  rw [ef_fgv_2 m a]
  refine bN s₁ (mkF m 1 #[vr a, uu, uu] [(.int (-1 : Int32))]) (fun _ k => XS.iconst X0.here hx rfl (hb hby d20_0) k) ?_
  refine bN s₁ (mkF m 2 #[vr a, vi (-1 : Int32), uu] []) (fun _ k => XS.istoreN X0.here hx rfl (hb hby d20_1) rfl rfl k) ?_
  refine bN s₁ (mkF m 3 #[vr a, vi (-1 : Int32), uu] [(ii 0)]) (fun _ k => XS.iconst X0.here hx rfl (hb hby d20_2) k) ?_
  refine bN s₁ (mkF m 4 #[vr a, vi (-1 : Int32), vi 0] []) (fun _ k => XS.istoreN X0.here hx rfl (hb hby d20_3) rfl rfl k) ?_
  refine bN s₁ (mkF m 5 #[vr a, vi (-1 : Int32), vi 0] [(.int (-1 : Int32))]) (fun _ k => XS.iloadN X0.here hx rfl (hb hby d20_4) rfl k) ?_
  refine bN s₁ (mkF m 8 #[vr a, vi (-1 : Int32), vi 0] []) (fun _ k => XS.ifNo X0.here hx rfl (hb hby d20_5) rfl ((if0 _ _).trans (tlt (by decide)).2.1) k) ?_
  refine bN s₁ (mkF m 9 #[vr a, vi (-1 : Int32), vi 0] [(ii 0)]) (fun _ k => XS.iloadN X0.here hx rfl (hb hby d20_8) rfl k) ?_
  refine bN s₁ (mkF m 10 #[vr a, vi (-1 : Int32), vi 0] [(.ref a), (ii 0)]) (fun _ k => XS.aloadN X0.here hx rfl (hb hby d20_9) rfl rfl k) ?_
  obtain ⟨T21, X21, e21, st21⟩ := getF X0 hx hZ hown (host := "") (Or.inl (hw _ (mo 116 rfl))) Via.refl e0 F_values_a (g := (mkF m 10 #[vr a, vi (-1 : Int32), vi 0] [(.ref a), (ii 0)])) rfl rfl (hb hby d20_10)
  refine bN T21 (mkF m 13 #[vr a, vi (-1 : Int32), vi 0] [(.ref vl), (ii 0)]) (fun _ k => st21 _ k) ?_
  obtain ⟨cq22, kq22, q22a, q22b, q22c⟩ := isOf hZ e21 E_vl
  obtain ⟨_, _, ⟨T22, L22, k22, n22⟩, -, X22, ⟨Lc22, hQ22, l22, y22, z22⟩, st22⟩ := X21.interfaceBack hx (xi := yy34) (y := yy17) hown (mvT hZ (hw _ (mo 163 rfl))) (mvT hZ (hw _ (mo 164 rfl))) (mvT hZ (hw _ (mo 165 rfl))) (mvT hZ (hw _ (mo 166 rfl))) (mvT hZ (hw _ (mo 167 rfl))) (mvT hZ (hw _ (mo 168 rfl))) (mvT hZ (hw _ (mo 169 rfl))) (mvT hZ (hw _ (mo 129 rfl))) (by decide) (backOf (W := 1) (lsz l Z a0 hw [] vl (2 : Int32) h0 n0 Z0 F_size_vl) hZ (hw _ (mo 170 rfl)) (hw _ (mo 32 rfl)) (by decide) (by decide)) q22a q22b q22c (g := (mkF m 13 #[vr a, vi (-1 : Int32), vi 0] [(.ref vl), (ii 0)])) rfl (by rw [hml]; rfl) (Steps.refl _) (argsL := []) (rest := [(ii 0)]) (lenOf pd_14 rfl) rfl (Nat.le_of_eq rfl) (hb hby d20_13) (fun _ _ => ⟨rfl, e21, (by decide : 0 ≤ _), (by decide : 0 ≤ _)⟩)
  dsimp only [Pt.U, Pt.locs, Pt.cells, Pt.slots] at X22 l22 y22 z22 st22 hQ22
  subst l22 y22 z22
  obtain ⟨rfl, N22q, e22⟩ := hQ22
  have N22 := Fr.app (Fr.nil n0) N22q
  refine bN T22 (mkF m 18 #[vr a, vi (-1 : Int32), vi 0] [(.int (2 : Int32)), (ii 0)]) (fun _ k => st22.trans k) ?_
  refine bN T22 (mkF m 21 #[vr a, vi (-1 : Int32), vi 0] []) (fun _ k => XS.icmpNo X22.here hx rfl (hb hby d20_18) rfl (tlt (by decide)).2.1 k) ?_
  refine bN T22 (mkF m 22 #[vr a, vi (-1 : Int32), vi 0] [(.ref a)]) (fun _ k => XS.aloadN X22.here hx rfl (hb hby d20_21) rfl rfl k) ?_
  obtain ⟨T23, X23, e23, st23⟩ := getF X22 hx hZ hown (host := "") (Or.inl (hw _ (mo 116 rfl))) Via.refl e22 F_values_a (g := (mkF m 22 #[vr a, vi (-1 : Int32), vi 0] [(.ref a)])) rfl rfl (hb hby d20_22)
  refine bN T23 (mkF m 25 #[vr a, vi (-1 : Int32), vi 0] [(.ref vl)]) (fun _ k => st23 _ k) ?_
  refine bN T23 (mkF m 26 #[vr a, vi (-1 : Int32), vi 0] [(ii 0), (.ref vl)]) (fun _ k => XS.iloadN X23.here hx rfl (hb hby d20_25) rfl k) ?_
  obtain ⟨cq24, kq24, q24a, q24b, q24c⟩ := isOf hZ e23 E_vl
  obtain ⟨_, _, ⟨T24, L24, k24, n24⟩, -, X24, ⟨Lc24, hQ24, l24, y24, z24⟩, st24⟩ := X23.interfaceBack hx (xi := yy30) (y := yy26) hown (mvT hZ (hw _ (mo 193 rfl))) (mvT hZ (hw _ (mo 194 rfl))) (mvT hZ (hw _ (mo 195 rfl))) (mvT hZ (hw _ (mo 196 rfl))) (mvT hZ (hw _ (mo 197 rfl))) (mvT hZ (hw _ (mo 198 rfl))) (mvT hZ (hw _ (mo 199 rfl))) (mvT hZ (hw _ (mo 129 rfl))) (by decide) (backOf (W := 0) (getj_0 l Z a0 hw [] vl dv kv [(.ref x0), (.ref x1), .null, .null, .null, .null, .null, .null, .null, .null] x0 (2 : Int32) h0 n0 Z0 E_vl F_size_vl F_elementData_vl V_dv rfl (by decide)) hZ (hw _ (mo 200 rfl)) (hw _ (mo 32 rfl)) (by decide) (by decide)) q24a q24b q24c (g := (mkF m 26 #[vr a, vi (-1 : Int32), vi 0] [(ii 0), (.ref vl)])) rfl (by rw [hml]; rfl) (Steps.refl _) (argsL := [(ii 0)]) (rest := []) (lenOf pd_10 rfl) rfl (Nat.le_of_eq rfl) (hb hby d20_26) (fun _ _ => ⟨rfl, e23, (by decide : 0 ≤ _), (by decide : 0 ≤ _)⟩)
  dsimp only [Pt.U, Pt.locs, Pt.cells, Pt.slots] at X24 l24 y24 z24 st24 hQ24
  subst l24 y24 z24
  obtain ⟨rfl, N24q, e24⟩ := hQ24
  have N24 := Fr.app N22 N24q
  refine bN T24 (mkF m 31 #[vr a, vi (-1 : Int32), vi 0] [(.ref x0)]) (fun _ k => st24.trans k) ?_
  obtain ⟨T25, X25, e25, st25⟩ := castY X24 hx hZ hown (hw _ (mo 214 rfl)) e24 (Ins.self E_x0) (g := (mkF m 31 #[vr a, vi (-1 : Int32), vi 0] [(.ref x0)])) rfl rfl (hb hby d20_31)
  refine bN T25 (mkF m 34 #[vr a, vi (-1 : Int32), vi 0] [(.ref x0)]) (fun _ k => st25 _ k) ?_
  by_cases hz0 : z0 = (0 : Int32)
  · skip
    obtain ⟨cq26, kq26, q26a, q26b, q26c⟩ := isOf hZ e25 E_x0
    obtain ⟨_, _, ⟨T26, L26, k26, n26⟩, -, X26, ⟨Lc26, hQ26, l26, y26, z26⟩, st26⟩ := X25.virtualBack hx (y := yy5) (z := yy5) hown (mvT hZ (hw _ (mo 227 rfl))) (mvT hZ (hw _ (mo 228 rfl))) (notFace_of_selects (args := #[]) (mvT hZ (hw _ (mo 230 rfl)))) (mvT hZ (hw _ (mo 230 rfl))) (mvT hZ (hw _ (mo 229 rfl))) (by decide) (backOf (W := 0) (ise l Z a0 hw [] x0 t0 q0 z0 v0 h0 n0 Z0 F_value_x0 V_t0) hZ (hw _ (mo 231 rfl)) (hw _ (mo 6 rfl)) (by decide) (by decide)) q26a q26c (g := (mkF m 34 #[vr a, vi (-1 : Int32), vi 0] [(.ref x0)])) rfl (by rw [hml]; rfl) (Steps.refl _) (argsL := []) (rest := []) (lenOf pd_12 rfl) rfl (Nat.le_of_eq rfl) (hb hby d20_34) (fun _ _ => ⟨rfl, e25, (by decide : 0 ≤ _), (by decide : 0 ≤ _)⟩)
    dsimp only [Pt.U, Pt.locs, Pt.cells, Pt.slots] at X26 l26 y26 z26 st26 hQ26
    subst l26 y26 z26
    obtain ⟨vq26, N26q, e26⟩ := hQ26
    obtain rfl := vq26.trans (congrArg (fun z => some (Value.int z)) (if_pos hz0))
    have N26 := Fr.app N24 N26q
    refine bN T26 (mkF m 37 #[vr a, vi (-1 : Int32), vi 0] [(.int (1 : Int32))]) (fun _ k => st26.trans k) ?_
    refine bN T26 (mkF m 42 #[vr a, vi (-1 : Int32), vi 0] []) (fun _ k => XS.ifYes X26.here hx rfl (pc0 := 37) (pc' := 42) rfl (hb hby d20_37) rfl ((if0 _ _).trans (feq (by decide)).2) (by decide) (by decide) k) ?_
    refine bN T26 (mkF m 45 #[vr a, vi (-1 : Int32), vi 1] []) (fun _ k => XS.iinc X26.here hx rfl (hb hby d20_42) rfl rfl k) ?_
    refine bN T26 (mkF m 4 #[vr a, vi (-1 : Int32), vi 1] []) (fun _ k => XS.goto X26.here hx rfl (pc0 := 45) (pc' := 4) rfl (hb hby d20_45) (by decide) (by decide) k) ?_
    refine bN T26 (mkF m 5 #[vr a, vi (-1 : Int32), vi 1] [(.int (-1 : Int32))]) (fun _ k => XS.iloadN X26.here hx rfl (hb hby d20_4) rfl k) ?_
    refine bN T26 (mkF m 8 #[vr a, vi (-1 : Int32), vi 1] []) (fun _ k => XS.ifNo X26.here hx rfl (hb hby d20_5) rfl ((if0 _ _).trans (tlt (by decide)).2.1) k) ?_
    refine bN T26 (mkF m 9 #[vr a, vi (-1 : Int32), vi 1] [(.int (1 : Int32))]) (fun _ k => XS.iloadN X26.here hx rfl (hb hby d20_8) rfl k) ?_
    refine bN T26 (mkF m 10 #[vr a, vi (-1 : Int32), vi 1] [(.ref a), (.int (1 : Int32))]) (fun _ k => XS.aloadN X26.here hx rfl (hb hby d20_9) rfl rfl k) ?_
    obtain ⟨T27, X27, e27, st27⟩ := getF X26 hx hZ hown (host := "") (Or.inl (hw _ (mo 116 rfl))) Via.refl e26 F_values_a (g := (mkF m 10 #[vr a, vi (-1 : Int32), vi 1] [(.ref a), (.int (1 : Int32))])) rfl rfl (hb hby d20_10)
    refine bN T27 (mkF m 13 #[vr a, vi (-1 : Int32), vi 1] [(.ref vl), (.int (1 : Int32))]) (fun _ k => st27 _ k) ?_
    obtain ⟨cq28, kq28, q28a, q28b, q28c⟩ := isOf hZ e27 E_vl
    obtain ⟨_, _, ⟨T28, L28, k28, n28⟩, -, X28, ⟨Lc28, hQ28, l28, y28, z28⟩, st28⟩ := X27.interfaceBack hx (xi := yy34) (y := yy17) hown (mvT hZ (hw _ (mo 163 rfl))) (mvT hZ (hw _ (mo 164 rfl))) (mvT hZ (hw _ (mo 165 rfl))) (mvT hZ (hw _ (mo 166 rfl))) (mvT hZ (hw _ (mo 167 rfl))) (mvT hZ (hw _ (mo 168 rfl))) (mvT hZ (hw _ (mo 169 rfl))) (mvT hZ (hw _ (mo 129 rfl))) (by decide) (backOf (W := 1) (lsz l Z a0 hw [] vl (2 : Int32) h0 n0 Z0 F_size_vl) hZ (hw _ (mo 170 rfl)) (hw _ (mo 32 rfl)) (by decide) (by decide)) q28a q28b q28c (g := (mkF m 13 #[vr a, vi (-1 : Int32), vi 1] [(.ref vl), (.int (1 : Int32))])) rfl (by rw [hml]; rfl) (Steps.refl _) (argsL := []) (rest := [(.int (1 : Int32))]) (lenOf pd_14 rfl) rfl (Nat.le_of_eq rfl) (hb hby d20_13) (fun _ _ => ⟨rfl, e27, (by decide : 0 ≤ _), (by decide : 0 ≤ _)⟩)
    dsimp only [Pt.U, Pt.locs, Pt.cells, Pt.slots] at X28 l28 y28 z28 st28 hQ28
    subst l28 y28 z28
    obtain ⟨rfl, N28q, e28⟩ := hQ28
    have N28 := Fr.app N26 N28q
    refine bN T28 (mkF m 18 #[vr a, vi (-1 : Int32), vi 1] [(.int (2 : Int32)), (.int (1 : Int32))]) (fun _ k => st28.trans k) ?_
    refine bN T28 (mkF m 21 #[vr a, vi (-1 : Int32), vi 1] []) (fun _ k => XS.icmpNo X28.here hx rfl (hb hby d20_18) rfl (tlt (by decide)).2.1 k) ?_
    refine bN T28 (mkF m 22 #[vr a, vi (-1 : Int32), vi 1] [(.ref a)]) (fun _ k => XS.aloadN X28.here hx rfl (hb hby d20_21) rfl rfl k) ?_
    obtain ⟨T29, X29, e29, st29⟩ := getF X28 hx hZ hown (host := "") (Or.inl (hw _ (mo 116 rfl))) Via.refl e28 F_values_a (g := (mkF m 22 #[vr a, vi (-1 : Int32), vi 1] [(.ref a)])) rfl rfl (hb hby d20_22)
    refine bN T29 (mkF m 25 #[vr a, vi (-1 : Int32), vi 1] [(.ref vl)]) (fun _ k => st29 _ k) ?_
    refine bN T29 (mkF m 26 #[vr a, vi (-1 : Int32), vi 1] [(.int (1 : Int32)), (.ref vl)]) (fun _ k => XS.iloadN X29.here hx rfl (hb hby d20_25) rfl k) ?_
    obtain ⟨cq30, kq30, q30a, q30b, q30c⟩ := isOf hZ e29 E_vl
    obtain ⟨_, _, ⟨T30, L30, k30, n30⟩, -, X30, ⟨Lc30, hQ30, l30, y30, z30⟩, st30⟩ := X29.interfaceBack hx (xi := yy30) (y := yy26) hown (mvT hZ (hw _ (mo 193 rfl))) (mvT hZ (hw _ (mo 194 rfl))) (mvT hZ (hw _ (mo 195 rfl))) (mvT hZ (hw _ (mo 196 rfl))) (mvT hZ (hw _ (mo 197 rfl))) (mvT hZ (hw _ (mo 198 rfl))) (mvT hZ (hw _ (mo 199 rfl))) (mvT hZ (hw _ (mo 129 rfl))) (by decide) (backOf (W := 0) (getj_1 l Z a0 hw [] vl dv kv [(.ref x0), (.ref x1), .null, .null, .null, .null, .null, .null, .null, .null] x1 (2 : Int32) h0 n0 Z0 E_vl F_size_vl F_elementData_vl V_dv rfl (by decide)) hZ (hw _ (mo 200 rfl)) (hw _ (mo 32 rfl)) (by decide) (by decide)) q30a q30b q30c (g := (mkF m 26 #[vr a, vi (-1 : Int32), vi 1] [(.int (1 : Int32)), (.ref vl)])) rfl (by rw [hml]; rfl) (Steps.refl _) (argsL := [(.int (1 : Int32))]) (rest := []) (lenOf pd_10 rfl) rfl (Nat.le_of_eq rfl) (hb hby d20_26) (fun _ _ => ⟨rfl, e29, (by decide : 0 ≤ _), (by decide : 0 ≤ _)⟩)
    dsimp only [Pt.U, Pt.locs, Pt.cells, Pt.slots] at X30 l30 y30 z30 st30 hQ30
    subst l30 y30 z30
    obtain ⟨rfl, N30q, e30⟩ := hQ30
    have N30 := Fr.app N28 N30q
    refine bN T30 (mkF m 31 #[vr a, vi (-1 : Int32), vi 1] [(.ref x1)]) (fun _ k => st30.trans k) ?_
    obtain ⟨T31, X31, e31, st31⟩ := castY X30 hx hZ hown (hw _ (mo 214 rfl)) e30 (Ins.self E_x1) (g := (mkF m 31 #[vr a, vi (-1 : Int32), vi 1] [(.ref x1)])) rfl rfl (hb hby d20_31)
    refine bN T31 (mkF m 34 #[vr a, vi (-1 : Int32), vi 1] [(.ref x1)]) (fun _ k => st31 _ k) ?_
    by_cases hz1 : z1 = (0 : Int32)
    · skip
      obtain ⟨cq32, kq32, q32a, q32b, q32c⟩ := isOf hZ e31 E_x1
      obtain ⟨_, _, ⟨T32, L32, k32, n32⟩, -, X32, ⟨Lc32, hQ32, l32, y32, z32⟩, st32⟩ := X31.virtualBack hx (y := yy5) (z := yy5) hown (mvT hZ (hw _ (mo 227 rfl))) (mvT hZ (hw _ (mo 228 rfl))) (notFace_of_selects (args := #[]) (mvT hZ (hw _ (mo 230 rfl)))) (mvT hZ (hw _ (mo 230 rfl))) (mvT hZ (hw _ (mo 229 rfl))) (by decide) (backOf (W := 0) (ise l Z a0 hw [] x1 t1 q1 z1 v1 h0 n0 Z0 F_value_x1 V_t1) hZ (hw _ (mo 231 rfl)) (hw _ (mo 6 rfl)) (by decide) (by decide)) q32a q32c (g := (mkF m 34 #[vr a, vi (-1 : Int32), vi 1] [(.ref x1)])) rfl (by rw [hml]; rfl) (Steps.refl _) (argsL := []) (rest := []) (lenOf pd_12 rfl) rfl (Nat.le_of_eq rfl) (hb hby d20_34) (fun _ _ => ⟨rfl, e31, (by decide : 0 ≤ _), (by decide : 0 ≤ _)⟩)
      dsimp only [Pt.U, Pt.locs, Pt.cells, Pt.slots] at X32 l32 y32 z32 st32 hQ32
      subst l32 y32 z32
      obtain ⟨vq32, N32q, e32⟩ := hQ32
      obtain rfl := vq32.trans (congrArg (fun z => some (Value.int z)) (if_pos hz1))
      have N32 := Fr.app N30 N32q
      refine bN T32 (mkF m 37 #[vr a, vi (-1 : Int32), vi 1] [(.int (1 : Int32))]) (fun _ k => st32.trans k) ?_
      refine bN T32 (mkF m 42 #[vr a, vi (-1 : Int32), vi 1] []) (fun _ k => XS.ifYes X32.here hx rfl (pc0 := 37) (pc' := 42) rfl (hb hby d20_37) rfl ((if0 _ _).trans (feq (by decide)).2) (by decide) (by decide) k) ?_
      refine bN T32 (mkF m 45 #[vr a, vi (-1 : Int32), vi 2] []) (fun _ k => XS.iinc X32.here hx rfl (hb hby d20_42) rfl rfl k) ?_
      refine bN T32 (mkF m 4 #[vr a, vi (-1 : Int32), vi 2] []) (fun _ k => XS.goto X32.here hx rfl (pc0 := 45) (pc' := 4) rfl (hb hby d20_45) (by decide) (by decide) k) ?_
      refine bN T32 (mkF m 5 #[vr a, vi (-1 : Int32), vi 2] [(.int (-1 : Int32))]) (fun _ k => XS.iloadN X32.here hx rfl (hb hby d20_4) rfl k) ?_
      refine bN T32 (mkF m 8 #[vr a, vi (-1 : Int32), vi 2] []) (fun _ k => XS.ifNo X32.here hx rfl (hb hby d20_5) rfl ((if0 _ _).trans (tlt (by decide)).2.1) k) ?_
      refine bN T32 (mkF m 9 #[vr a, vi (-1 : Int32), vi 2] [(.int (2 : Int32))]) (fun _ k => XS.iloadN X32.here hx rfl (hb hby d20_8) rfl k) ?_
      refine bN T32 (mkF m 10 #[vr a, vi (-1 : Int32), vi 2] [(.ref a), (.int (2 : Int32))]) (fun _ k => XS.aloadN X32.here hx rfl (hb hby d20_9) rfl rfl k) ?_
      obtain ⟨T33, X33, e33, st33⟩ := getF X32 hx hZ hown (host := "") (Or.inl (hw _ (mo 116 rfl))) Via.refl e32 F_values_a (g := (mkF m 10 #[vr a, vi (-1 : Int32), vi 2] [(.ref a), (.int (2 : Int32))])) rfl rfl (hb hby d20_10)
      refine bN T33 (mkF m 13 #[vr a, vi (-1 : Int32), vi 2] [(.ref vl), (.int (2 : Int32))]) (fun _ k => st33 _ k) ?_
      obtain ⟨cq34, kq34, q34a, q34b, q34c⟩ := isOf hZ e33 E_vl
      obtain ⟨_, _, ⟨T34, L34, k34, n34⟩, -, X34, ⟨Lc34, hQ34, l34, y34, z34⟩, st34⟩ := X33.interfaceBack hx (xi := yy34) (y := yy17) hown (mvT hZ (hw _ (mo 163 rfl))) (mvT hZ (hw _ (mo 164 rfl))) (mvT hZ (hw _ (mo 165 rfl))) (mvT hZ (hw _ (mo 166 rfl))) (mvT hZ (hw _ (mo 167 rfl))) (mvT hZ (hw _ (mo 168 rfl))) (mvT hZ (hw _ (mo 169 rfl))) (mvT hZ (hw _ (mo 129 rfl))) (by decide) (backOf (W := 1) (lsz l Z a0 hw [] vl (2 : Int32) h0 n0 Z0 F_size_vl) hZ (hw _ (mo 170 rfl)) (hw _ (mo 32 rfl)) (by decide) (by decide)) q34a q34b q34c (g := (mkF m 13 #[vr a, vi (-1 : Int32), vi 2] [(.ref vl), (.int (2 : Int32))])) rfl (by rw [hml]; rfl) (Steps.refl _) (argsL := []) (rest := [(.int (2 : Int32))]) (lenOf pd_14 rfl) rfl (Nat.le_of_eq rfl) (hb hby d20_13) (fun _ _ => ⟨rfl, e33, (by decide : 0 ≤ _), (by decide : 0 ≤ _)⟩)
      dsimp only [Pt.U, Pt.locs, Pt.cells, Pt.slots] at X34 l34 y34 z34 st34 hQ34
      subst l34 y34 z34
      obtain ⟨rfl, N34q, e34⟩ := hQ34
      have N34 := Fr.app N32 N34q
      refine bN T34 (mkF m 18 #[vr a, vi (-1 : Int32), vi 2] [(.int (2 : Int32)), (.int (2 : Int32))]) (fun _ k => st34.trans k) ?_
      refine bN T34 (mkF m 48 #[vr a, vi (-1 : Int32), vi 2] []) (fun _ k => XS.icmpYes X34.here hx rfl (pc0 := 18) (pc' := 48) rfl (hb hby d20_18) rfl (flt (by decide)).2.1 (by decide) (by decide) k) ?_
      refine bN T34 (mkF m 49 #[vr a, vi (-1 : Int32), vi 2] [(.int (-1 : Int32))]) (fun _ k => XS.iloadN X34.here hx rfl (hb hby d20_48) rfl k) ?_
      refine own_ret X34 hlk (v := some (.int (-1 : Int32))) (nvr Bd.returns) (fun fs hr => retI X34 hx Bd.returns (hb hby d20_49) hr) ?_ (by decide) (by decide)
      rw [e34]
      exact ⟨congrArg (fun z => some (Value.int z)) ((if_pos hz0).trans (if_pos hz1)).symm, N34, rfl⟩
    · skip
      obtain ⟨cq35, kq35, q35a, q35b, q35c⟩ := isOf hZ e31 E_x1
      obtain ⟨_, _, ⟨T35, L35, k35, n35⟩, -, X35, ⟨Lc35, hQ35, l35, y35, z35⟩, st35⟩ := X31.virtualBack hx (y := yy5) (z := yy5) hown (mvT hZ (hw _ (mo 227 rfl))) (mvT hZ (hw _ (mo 228 rfl))) (notFace_of_selects (args := #[]) (mvT hZ (hw _ (mo 230 rfl)))) (mvT hZ (hw _ (mo 230 rfl))) (mvT hZ (hw _ (mo 229 rfl))) (by decide) (backOf (W := 0) (ise l Z a0 hw [] x1 t1 q1 z1 v1 h0 n0 Z0 F_value_x1 V_t1) hZ (hw _ (mo 231 rfl)) (hw _ (mo 6 rfl)) (by decide) (by decide)) q35a q35c (g := (mkF m 34 #[vr a, vi (-1 : Int32), vi 1] [(.ref x1)])) rfl (by rw [hml]; rfl) (Steps.refl _) (argsL := []) (rest := []) (lenOf pd_12 rfl) rfl (Nat.le_of_eq rfl) (hb hby d20_34) (fun _ _ => ⟨rfl, e31, (by decide : 0 ≤ _), (by decide : 0 ≤ _)⟩)
      dsimp only [Pt.U, Pt.locs, Pt.cells, Pt.slots] at X35 l35 y35 z35 st35 hQ35
      subst l35 y35 z35
      obtain ⟨vq35, N35q, e35⟩ := hQ35
      obtain rfl := vq35.trans (congrArg (fun z => some (Value.int z)) (if_neg hz1))
      have N35 := Fr.app N30 N35q
      refine bN T35 (mkF m 37 #[vr a, vi (-1 : Int32), vi 1] [(ii 0)]) (fun _ k => st35.trans k) ?_
      refine bN T35 (mkF m 40 #[vr a, vi (-1 : Int32), vi 1] []) (fun _ k => XS.ifNo X35.here hx rfl (hb hby d20_37) rfl ((if0 _ _).trans (teq (by decide)).2) k) ?_
      refine bN T35 (mkF m 41 #[vr a, vi (-1 : Int32), vi 1] [(.int (1 : Int32))]) (fun _ k => XS.iloadN X35.here hx rfl (hb hby d20_40) rfl k) ?_
      refine bN T35 (mkF m 42 #[vr a, vi 1, vi 1] []) (fun _ k => XS.istoreN X35.here hx rfl (hb hby d20_41) rfl rfl k) ?_
      refine bN T35 (mkF m 45 #[vr a, vi 1, vi 2] []) (fun _ k => XS.iinc X35.here hx rfl (hb hby d20_42) rfl rfl k) ?_
      refine bN T35 (mkF m 4 #[vr a, vi 1, vi 2] []) (fun _ k => XS.goto X35.here hx rfl (pc0 := 45) (pc' := 4) rfl (hb hby d20_45) (by decide) (by decide) k) ?_
      refine bN T35 (mkF m 5 #[vr a, vi 1, vi 2] [(.int (1 : Int32))]) (fun _ k => XS.iloadN X35.here hx rfl (hb hby d20_4) rfl k) ?_
      refine bN T35 (mkF m 48 #[vr a, vi 1, vi 2] []) (fun _ k => XS.ifYes X35.here hx rfl (pc0 := 5) (pc' := 48) rfl (hb hby d20_5) rfl ((if0 _ _).trans (flt (by decide)).2.1) (by decide) (by decide) k) ?_
      refine bN T35 (mkF m 49 #[vr a, vi 1, vi 2] [(.int (1 : Int32))]) (fun _ k => XS.iloadN X35.here hx rfl (hb hby d20_48) rfl k) ?_
      refine own_ret X35 hlk (v := some (.int (1 : Int32))) (nvr Bd.returns) (fun fs hr => retI X35 hx Bd.returns (hb hby d20_49) hr) ?_ (by decide) (by decide)
      rw [e35]
      exact ⟨congrArg (fun z => some (Value.int z)) ((if_pos hz0).trans (if_neg hz1)).symm, N35, rfl⟩
  · skip
    obtain ⟨cq36, kq36, q36a, q36b, q36c⟩ := isOf hZ e25 E_x0
    obtain ⟨_, _, ⟨T36, L36, k36, n36⟩, -, X36, ⟨Lc36, hQ36, l36, y36, z36⟩, st36⟩ := X25.virtualBack hx (y := yy5) (z := yy5) hown (mvT hZ (hw _ (mo 227 rfl))) (mvT hZ (hw _ (mo 228 rfl))) (notFace_of_selects (args := #[]) (mvT hZ (hw _ (mo 230 rfl)))) (mvT hZ (hw _ (mo 230 rfl))) (mvT hZ (hw _ (mo 229 rfl))) (by decide) (backOf (W := 0) (ise l Z a0 hw [] x0 t0 q0 z0 v0 h0 n0 Z0 F_value_x0 V_t0) hZ (hw _ (mo 231 rfl)) (hw _ (mo 6 rfl)) (by decide) (by decide)) q36a q36c (g := (mkF m 34 #[vr a, vi (-1 : Int32), vi 0] [(.ref x0)])) rfl (by rw [hml]; rfl) (Steps.refl _) (argsL := []) (rest := []) (lenOf pd_12 rfl) rfl (Nat.le_of_eq rfl) (hb hby d20_34) (fun _ _ => ⟨rfl, e25, (by decide : 0 ≤ _), (by decide : 0 ≤ _)⟩)
    dsimp only [Pt.U, Pt.locs, Pt.cells, Pt.slots] at X36 l36 y36 z36 st36 hQ36
    subst l36 y36 z36
    obtain ⟨vq36, N36q, e36⟩ := hQ36
    obtain rfl := vq36.trans (congrArg (fun z => some (Value.int z)) (if_neg hz0))
    have N36 := Fr.app N24 N36q
    refine bN T36 (mkF m 37 #[vr a, vi (-1 : Int32), vi 0] [(ii 0)]) (fun _ k => st36.trans k) ?_
    refine bN T36 (mkF m 40 #[vr a, vi (-1 : Int32), vi 0] []) (fun _ k => XS.ifNo X36.here hx rfl (hb hby d20_37) rfl ((if0 _ _).trans (teq (by decide)).2) k) ?_
    refine bN T36 (mkF m 41 #[vr a, vi (-1 : Int32), vi 0] [(ii 0)]) (fun _ k => XS.iloadN X36.here hx rfl (hb hby d20_40) rfl k) ?_
    refine bN T36 (mkF m 42 #[vr a, vi 0, vi 0] []) (fun _ k => XS.istoreN X36.here hx rfl (hb hby d20_41) rfl rfl k) ?_
    refine bN T36 (mkF m 45 #[vr a, vi 0, vi 1] []) (fun _ k => XS.iinc X36.here hx rfl (hb hby d20_42) rfl rfl k) ?_
    refine bN T36 (mkF m 4 #[vr a, vi 0, vi 1] []) (fun _ k => XS.goto X36.here hx rfl (pc0 := 45) (pc' := 4) rfl (hb hby d20_45) (by decide) (by decide) k) ?_
    refine bN T36 (mkF m 5 #[vr a, vi 0, vi 1] [(ii 0)]) (fun _ k => XS.iloadN X36.here hx rfl (hb hby d20_4) rfl k) ?_
    refine bN T36 (mkF m 48 #[vr a, vi 0, vi 1] []) (fun _ k => XS.ifYes X36.here hx rfl (pc0 := 5) (pc' := 48) rfl (hb hby d20_5) rfl ((if0 _ _).trans (flt (by decide)).2.1) (by decide) (by decide) k) ?_
    refine bN T36 (mkF m 49 #[vr a, vi 0, vi 1] [(ii 0)]) (fun _ k => XS.iloadN X36.here hx rfl (hb hby d20_48) rfl k) ?_
    refine own_ret X36 hlk (v := some (ii 0)) (nvr Bd.returns) (fun fs hr => retI X36 hx Bd.returns (hb hby d20_49) hr) ?_ (by decide) (by decide)
    rw [e36]
    exact ⟨congrArg (fun z => some (Value.int z)) (if_neg hz0).symm, N36, rfl⟩
theorem ef_fgv_3 (m : MethodId) (a : Addr) : entryFrame m #[(.ref a)] 3 = mkF m 0 #[vr a, uu, uu] [] := rfl
def Q_fgv_3 (Z : State) (a vl dv : Addr) (kv : ClassId) (x0 t0 : Addr) (q0 : ClassId) (z0 : Int32) (v0 : List Value) (x1 t1 : Addr) (q1 : ClassId) (z1 : Int32) (v1 : List Value) (x2 t2 : Addr) (q2 : ClassId) (z2 : Int32) (v2 : List Value) (h0 : Heap) (n0 : Nat) (v : Option Value) (h : Heap) (L : List Loc) : Prop := v = some (.int (own_fg3 z0 z1 z2)) ∧ Fr n0 L ∧ h = h0
theorem fgv_3 (l : Launch) (Z : State) (a0 : Array Value) (hw : HW Z a0) (ws : List Jvm.Cond) (a vl dv : Addr) (kv : ClassId) (x0 t0 : Addr) (q0 : ClassId) (z0 : Int32) (v0 : List Value) (x1 t1 : Addr) (q1 : ClassId) (z1 : Int32) (v1 : List Value) (x2 t2 : Addr) (q2 : ClassId) (z2 : Int32) (v2 : List Value) (h0 : Heap) (n0 : Nat) (Z0 : n0 ≤ h0.size) (F_values_a : Fld Z h0 a sV "values" "Ljava/util/List;" (.ref vl)) (E_vl : Exa Z h0 vl sL) (F_size_vl : Fld Z h0 vl sL "size" "I" (.int (3 : Int32))) (F_elementData_vl : Fld Z h0 vl sL "elementData" sE (.ref dv)) (V_dv : Arv Z h0 dv kv (.object sO) (10 : Int32) [(.ref x0), (.ref x1), (.ref x2), .null, .null, .null, .null, .null, .null, .null] .null) (E_x0 : Exa Z h0 x0 sS) (F_value_x0 : Fld Z h0 x0 sS "value" "[B" (.ref t0)) (V_t0 : Arv Z h0 t0 q0 .byte z0 v0 (ii 0)) (E_x1 : Exa Z h0 x1 sS) (F_value_x1 : Fld Z h0 x1 sS "value" "[B" (.ref t1)) (V_t1 : Arv Z h0 t1 q1 .byte z1 v1 (ii 0)) (E_x2 : Exa Z h0 x2 sS) (F_value_x2 : Fld Z h0 x2 sS "value" "[B" (.ref t2)) (V_t2 : Arv Z h0 t2 q2 .byte z2 v2 (ii 0)) :
    own_M l yy33 prog_15_method_3_code 3 (some .int) ws rr19 Z #[(.ref a)] h0 (Q_fgv_3 Z a vl dv kv x0 t0 q0 z0 v0 x1 t1 q1 z1 v1 x2 t2 q2 z2 v2 h0 n0) := by
  refine own_bd (plainFor_of_name pn_20) fun p e s m below meth c s₁ Bd hx hby hml hown hnm hlk hZ X0 e0 => ?_
  rw [ef_fgv_3 m a]
  refine bN s₁ (mkF m 1 #[vr a, uu, uu] [(.int (-1 : Int32))]) (fun _ k => XS.iconst X0.here hx rfl (hb hby d20_0) k) ?_
  refine bN s₁ (mkF m 2 #[vr a, vi (-1 : Int32), uu] []) (fun _ k => XS.istoreN X0.here hx rfl (hb hby d20_1) rfl rfl k) ?_
  refine bN s₁ (mkF m 3 #[vr a, vi (-1 : Int32), uu] [(ii 0)]) (fun _ k => XS.iconst X0.here hx rfl (hb hby d20_2) k) ?_
  refine bN s₁ (mkF m 4 #[vr a, vi (-1 : Int32), vi 0] []) (fun _ k => XS.istoreN X0.here hx rfl (hb hby d20_3) rfl rfl k) ?_
  refine bN s₁ (mkF m 5 #[vr a, vi (-1 : Int32), vi 0] [(.int (-1 : Int32))]) (fun _ k => XS.iloadN X0.here hx rfl (hb hby d20_4) rfl k) ?_
  refine bN s₁ (mkF m 8 #[vr a, vi (-1 : Int32), vi 0] []) (fun _ k => XS.ifNo X0.here hx rfl (hb hby d20_5) rfl ((if0 _ _).trans (tlt (by decide)).2.1) k) ?_
  refine bN s₁ (mkF m 9 #[vr a, vi (-1 : Int32), vi 0] [(ii 0)]) (fun _ k => XS.iloadN X0.here hx rfl (hb hby d20_8) rfl k) ?_
  refine bN s₁ (mkF m 10 #[vr a, vi (-1 : Int32), vi 0] [(.ref a), (ii 0)]) (fun _ k => XS.aloadN X0.here hx rfl (hb hby d20_9) rfl rfl k) ?_
  obtain ⟨T21, X21, e21, st21⟩ := getF X0 hx hZ hown (host := "") (Or.inl (hw _ (mo 116 rfl))) Via.refl e0 F_values_a (g := (mkF m 10 #[vr a, vi (-1 : Int32), vi 0] [(.ref a), (ii 0)])) rfl rfl (hb hby d20_10)
  refine bN T21 (mkF m 13 #[vr a, vi (-1 : Int32), vi 0] [(.ref vl), (ii 0)]) (fun _ k => st21 _ k) ?_
  obtain ⟨cq22, kq22, q22a, q22b, q22c⟩ := isOf hZ e21 E_vl
  obtain ⟨_, _, ⟨T22, L22, k22, n22⟩, -, X22, ⟨Lc22, hQ22, l22, y22, z22⟩, st22⟩ := X21.interfaceBack hx (xi := yy34) (y := yy17) hown (mvT hZ (hw _ (mo 163 rfl))) (mvT hZ (hw _ (mo 164 rfl))) (mvT hZ (hw _ (mo 165 rfl))) (mvT hZ (hw _ (mo 166 rfl))) (mvT hZ (hw _ (mo 167 rfl))) (mvT hZ (hw _ (mo 168 rfl))) (mvT hZ (hw _ (mo 169 rfl))) (mvT hZ (hw _ (mo 129 rfl))) (by decide) (backOf (W := 1) (lsz l Z a0 hw [] vl (3 : Int32) h0 n0 Z0 F_size_vl) hZ (hw _ (mo 170 rfl)) (hw _ (mo 32 rfl)) (by decide) (by decide)) q22a q22b q22c (g := (mkF m 13 #[vr a, vi (-1 : Int32), vi 0] [(.ref vl), (ii 0)])) rfl (by rw [hml]; rfl) (Steps.refl _) (argsL := []) (rest := [(ii 0)]) (lenOf pd_14 rfl) rfl (Nat.le_of_eq rfl) (hb hby d20_13) (fun _ _ => ⟨rfl, e21, (by decide : 0 ≤ _), (by decide : 0 ≤ _)⟩)
  dsimp only [Pt.U, Pt.locs, Pt.cells, Pt.slots] at X22 l22 y22 z22 st22 hQ22
  subst l22 y22 z22
  obtain ⟨rfl, N22q, e22⟩ := hQ22
  have N22 := Fr.app (Fr.nil n0) N22q
  refine bN T22 (mkF m 18 #[vr a, vi (-1 : Int32), vi 0] [(.int (3 : Int32)), (ii 0)]) (fun _ k => st22.trans k) ?_
  refine bN T22 (mkF m 21 #[vr a, vi (-1 : Int32), vi 0] []) (fun _ k => XS.icmpNo X22.here hx rfl (hb hby d20_18) rfl (tlt (by decide)).2.1 k) ?_
  refine bN T22 (mkF m 22 #[vr a, vi (-1 : Int32), vi 0] [(.ref a)]) (fun _ k => XS.aloadN X22.here hx rfl (hb hby d20_21) rfl rfl k) ?_
  obtain ⟨T23, X23, e23, st23⟩ := getF X22 hx hZ hown (host := "") (Or.inl (hw _ (mo 116 rfl))) Via.refl e22 F_values_a (g := (mkF m 22 #[vr a, vi (-1 : Int32), vi 0] [(.ref a)])) rfl rfl (hb hby d20_22)
  refine bN T23 (mkF m 25 #[vr a, vi (-1 : Int32), vi 0] [(.ref vl)]) (fun _ k => st23 _ k) ?_
  refine bN T23 (mkF m 26 #[vr a, vi (-1 : Int32), vi 0] [(ii 0), (.ref vl)]) (fun _ k => XS.iloadN X23.here hx rfl (hb hby d20_25) rfl k) ?_
  obtain ⟨cq24, kq24, q24a, q24b, q24c⟩ := isOf hZ e23 E_vl
  obtain ⟨_, _, ⟨T24, L24, k24, n24⟩, -, X24, ⟨Lc24, hQ24, l24, y24, z24⟩, st24⟩ := X23.interfaceBack hx (xi := yy30) (y := yy26) hown (mvT hZ (hw _ (mo 193 rfl))) (mvT hZ (hw _ (mo 194 rfl))) (mvT hZ (hw _ (mo 195 rfl))) (mvT hZ (hw _ (mo 196 rfl))) (mvT hZ (hw _ (mo 197 rfl))) (mvT hZ (hw _ (mo 198 rfl))) (mvT hZ (hw _ (mo 199 rfl))) (mvT hZ (hw _ (mo 129 rfl))) (by decide) (backOf (W := 0) (getj_0 l Z a0 hw [] vl dv kv [(.ref x0), (.ref x1), (.ref x2), .null, .null, .null, .null, .null, .null, .null] x0 (3 : Int32) h0 n0 Z0 E_vl F_size_vl F_elementData_vl V_dv rfl (by decide)) hZ (hw _ (mo 200 rfl)) (hw _ (mo 32 rfl)) (by decide) (by decide)) q24a q24b q24c (g := (mkF m 26 #[vr a, vi (-1 : Int32), vi 0] [(ii 0), (.ref vl)])) rfl (by rw [hml]; rfl) (Steps.refl _) (argsL := [(ii 0)]) (rest := []) (lenOf pd_10 rfl) rfl (Nat.le_of_eq rfl) (hb hby d20_26) (fun _ _ => ⟨rfl, e23, (by decide : 0 ≤ _), (by decide : 0 ≤ _)⟩)
  dsimp only [Pt.U, Pt.locs, Pt.cells, Pt.slots] at X24 l24 y24 z24 st24 hQ24
  subst l24 y24 z24
  obtain ⟨rfl, N24q, e24⟩ := hQ24
  have N24 := Fr.app N22 N24q
  refine bN T24 (mkF m 31 #[vr a, vi (-1 : Int32), vi 0] [(.ref x0)]) (fun _ k => st24.trans k) ?_
  obtain ⟨T25, X25, e25, st25⟩ := castY X24 hx hZ hown (hw _ (mo 214 rfl)) e24 (Ins.self E_x0) (g := (mkF m 31 #[vr a, vi (-1 : Int32), vi 0] [(.ref x0)])) rfl rfl (hb hby d20_31)
  refine bN T25 (mkF m 34 #[vr a, vi (-1 : Int32), vi 0] [(.ref x0)]) (fun _ k => st25 _ k) ?_
  by_cases hz0 : z0 = (0 : Int32)
  · skip
    obtain ⟨cq26, kq26, q26a, q26b, q26c⟩ := isOf hZ e25 E_x0
    obtain ⟨_, _, ⟨T26, L26, k26, n26⟩, -, X26, ⟨Lc26, hQ26, l26, y26, z26⟩, st26⟩ := X25.virtualBack hx (y := yy5) (z := yy5) hown (mvT hZ (hw _ (mo 227 rfl))) (mvT hZ (hw _ (mo 228 rfl))) (notFace_of_selects (args := #[]) (mvT hZ (hw _ (mo 230 rfl)))) (mvT hZ (hw _ (mo 230 rfl))) (mvT hZ (hw _ (mo 229 rfl))) (by decide) (backOf (W := 0) (ise l Z a0 hw [] x0 t0 q0 z0 v0 h0 n0 Z0 F_value_x0 V_t0) hZ (hw _ (mo 231 rfl)) (hw _ (mo 6 rfl)) (by decide) (by decide)) q26a q26c (g := (mkF m 34 #[vr a, vi (-1 : Int32), vi 0] [(.ref x0)])) rfl (by rw [hml]; rfl) (Steps.refl _) (argsL := []) (rest := []) (lenOf pd_12 rfl) rfl (Nat.le_of_eq rfl) (hb hby d20_34) (fun _ _ => ⟨rfl, e25, (by decide : 0 ≤ _), (by decide : 0 ≤ _)⟩)
    dsimp only [Pt.U, Pt.locs, Pt.cells, Pt.slots] at X26 l26 y26 z26 st26 hQ26
    subst l26 y26 z26
    obtain ⟨vq26, N26q, e26⟩ := hQ26
    obtain rfl := vq26.trans (congrArg (fun z => some (Value.int z)) (if_pos hz0))
    have N26 := Fr.app N24 N26q
    refine bN T26 (mkF m 37 #[vr a, vi (-1 : Int32), vi 0] [(.int (1 : Int32))]) (fun _ k => st26.trans k) ?_
    refine bN T26 (mkF m 42 #[vr a, vi (-1 : Int32), vi 0] []) (fun _ k => XS.ifYes X26.here hx rfl (pc0 := 37) (pc' := 42) rfl (hb hby d20_37) rfl ((if0 _ _).trans (feq (by decide)).2) (by decide) (by decide) k) ?_
    refine bN T26 (mkF m 45 #[vr a, vi (-1 : Int32), vi 1] []) (fun _ k => XS.iinc X26.here hx rfl (hb hby d20_42) rfl rfl k) ?_
    refine bN T26 (mkF m 4 #[vr a, vi (-1 : Int32), vi 1] []) (fun _ k => XS.goto X26.here hx rfl (pc0 := 45) (pc' := 4) rfl (hb hby d20_45) (by decide) (by decide) k) ?_
    refine bN T26 (mkF m 5 #[vr a, vi (-1 : Int32), vi 1] [(.int (-1 : Int32))]) (fun _ k => XS.iloadN X26.here hx rfl (hb hby d20_4) rfl k) ?_
    refine bN T26 (mkF m 8 #[vr a, vi (-1 : Int32), vi 1] []) (fun _ k => XS.ifNo X26.here hx rfl (hb hby d20_5) rfl ((if0 _ _).trans (tlt (by decide)).2.1) k) ?_
    refine bN T26 (mkF m 9 #[vr a, vi (-1 : Int32), vi 1] [(.int (1 : Int32))]) (fun _ k => XS.iloadN X26.here hx rfl (hb hby d20_8) rfl k) ?_
    refine bN T26 (mkF m 10 #[vr a, vi (-1 : Int32), vi 1] [(.ref a), (.int (1 : Int32))]) (fun _ k => XS.aloadN X26.here hx rfl (hb hby d20_9) rfl rfl k) ?_
    obtain ⟨T27, X27, e27, st27⟩ := getF X26 hx hZ hown (host := "") (Or.inl (hw _ (mo 116 rfl))) Via.refl e26 F_values_a (g := (mkF m 10 #[vr a, vi (-1 : Int32), vi 1] [(.ref a), (.int (1 : Int32))])) rfl rfl (hb hby d20_10)
    refine bN T27 (mkF m 13 #[vr a, vi (-1 : Int32), vi 1] [(.ref vl), (.int (1 : Int32))]) (fun _ k => st27 _ k) ?_
    obtain ⟨cq28, kq28, q28a, q28b, q28c⟩ := isOf hZ e27 E_vl
    obtain ⟨_, _, ⟨T28, L28, k28, n28⟩, -, X28, ⟨Lc28, hQ28, l28, y28, z28⟩, st28⟩ := X27.interfaceBack hx (xi := yy34) (y := yy17) hown (mvT hZ (hw _ (mo 163 rfl))) (mvT hZ (hw _ (mo 164 rfl))) (mvT hZ (hw _ (mo 165 rfl))) (mvT hZ (hw _ (mo 166 rfl))) (mvT hZ (hw _ (mo 167 rfl))) (mvT hZ (hw _ (mo 168 rfl))) (mvT hZ (hw _ (mo 169 rfl))) (mvT hZ (hw _ (mo 129 rfl))) (by decide) (backOf (W := 1) (lsz l Z a0 hw [] vl (3 : Int32) h0 n0 Z0 F_size_vl) hZ (hw _ (mo 170 rfl)) (hw _ (mo 32 rfl)) (by decide) (by decide)) q28a q28b q28c (g := (mkF m 13 #[vr a, vi (-1 : Int32), vi 1] [(.ref vl), (.int (1 : Int32))])) rfl (by rw [hml]; rfl) (Steps.refl _) (argsL := []) (rest := [(.int (1 : Int32))]) (lenOf pd_14 rfl) rfl (Nat.le_of_eq rfl) (hb hby d20_13) (fun _ _ => ⟨rfl, e27, (by decide : 0 ≤ _), (by decide : 0 ≤ _)⟩)
    dsimp only [Pt.U, Pt.locs, Pt.cells, Pt.slots] at X28 l28 y28 z28 st28 hQ28
    subst l28 y28 z28
    obtain ⟨rfl, N28q, e28⟩ := hQ28
    have N28 := Fr.app N26 N28q
    refine bN T28 (mkF m 18 #[vr a, vi (-1 : Int32), vi 1] [(.int (3 : Int32)), (.int (1 : Int32))]) (fun _ k => st28.trans k) ?_
    refine bN T28 (mkF m 21 #[vr a, vi (-1 : Int32), vi 1] []) (fun _ k => XS.icmpNo X28.here hx rfl (hb hby d20_18) rfl (tlt (by decide)).2.1 k) ?_
    refine bN T28 (mkF m 22 #[vr a, vi (-1 : Int32), vi 1] [(.ref a)]) (fun _ k => XS.aloadN X28.here hx rfl (hb hby d20_21) rfl rfl k) ?_
    obtain ⟨T29, X29, e29, st29⟩ := getF X28 hx hZ hown (host := "") (Or.inl (hw _ (mo 116 rfl))) Via.refl e28 F_values_a (g := (mkF m 22 #[vr a, vi (-1 : Int32), vi 1] [(.ref a)])) rfl rfl (hb hby d20_22)
    refine bN T29 (mkF m 25 #[vr a, vi (-1 : Int32), vi 1] [(.ref vl)]) (fun _ k => st29 _ k) ?_
    refine bN T29 (mkF m 26 #[vr a, vi (-1 : Int32), vi 1] [(.int (1 : Int32)), (.ref vl)]) (fun _ k => XS.iloadN X29.here hx rfl (hb hby d20_25) rfl k) ?_
    obtain ⟨cq30, kq30, q30a, q30b, q30c⟩ := isOf hZ e29 E_vl
    obtain ⟨_, _, ⟨T30, L30, k30, n30⟩, -, X30, ⟨Lc30, hQ30, l30, y30, z30⟩, st30⟩ := X29.interfaceBack hx (xi := yy30) (y := yy26) hown (mvT hZ (hw _ (mo 193 rfl))) (mvT hZ (hw _ (mo 194 rfl))) (mvT hZ (hw _ (mo 195 rfl))) (mvT hZ (hw _ (mo 196 rfl))) (mvT hZ (hw _ (mo 197 rfl))) (mvT hZ (hw _ (mo 198 rfl))) (mvT hZ (hw _ (mo 199 rfl))) (mvT hZ (hw _ (mo 129 rfl))) (by decide) (backOf (W := 0) (getj_1 l Z a0 hw [] vl dv kv [(.ref x0), (.ref x1), (.ref x2), .null, .null, .null, .null, .null, .null, .null] x1 (3 : Int32) h0 n0 Z0 E_vl F_size_vl F_elementData_vl V_dv rfl (by decide)) hZ (hw _ (mo 200 rfl)) (hw _ (mo 32 rfl)) (by decide) (by decide)) q30a q30b q30c (g := (mkF m 26 #[vr a, vi (-1 : Int32), vi 1] [(.int (1 : Int32)), (.ref vl)])) rfl (by rw [hml]; rfl) (Steps.refl _) (argsL := [(.int (1 : Int32))]) (rest := []) (lenOf pd_10 rfl) rfl (Nat.le_of_eq rfl) (hb hby d20_26) (fun _ _ => ⟨rfl, e29, (by decide : 0 ≤ _), (by decide : 0 ≤ _)⟩)
    dsimp only [Pt.U, Pt.locs, Pt.cells, Pt.slots] at X30 l30 y30 z30 st30 hQ30
    subst l30 y30 z30
    obtain ⟨rfl, N30q, e30⟩ := hQ30
    have N30 := Fr.app N28 N30q
    refine bN T30 (mkF m 31 #[vr a, vi (-1 : Int32), vi 1] [(.ref x1)]) (fun _ k => st30.trans k) ?_
    obtain ⟨T31, X31, e31, st31⟩ := castY X30 hx hZ hown (hw _ (mo 214 rfl)) e30 (Ins.self E_x1) (g := (mkF m 31 #[vr a, vi (-1 : Int32), vi 1] [(.ref x1)])) rfl rfl (hb hby d20_31)
    refine bN T31 (mkF m 34 #[vr a, vi (-1 : Int32), vi 1] [(.ref x1)]) (fun _ k => st31 _ k) ?_
    by_cases hz1 : z1 = (0 : Int32)
    · skip
      obtain ⟨cq32, kq32, q32a, q32b, q32c⟩ := isOf hZ e31 E_x1
      obtain ⟨_, _, ⟨T32, L32, k32, n32⟩, -, X32, ⟨Lc32, hQ32, l32, y32, z32⟩, st32⟩ := X31.virtualBack hx (y := yy5) (z := yy5) hown (mvT hZ (hw _ (mo 227 rfl))) (mvT hZ (hw _ (mo 228 rfl))) (notFace_of_selects (args := #[]) (mvT hZ (hw _ (mo 230 rfl)))) (mvT hZ (hw _ (mo 230 rfl))) (mvT hZ (hw _ (mo 229 rfl))) (by decide) (backOf (W := 0) (ise l Z a0 hw [] x1 t1 q1 z1 v1 h0 n0 Z0 F_value_x1 V_t1) hZ (hw _ (mo 231 rfl)) (hw _ (mo 6 rfl)) (by decide) (by decide)) q32a q32c (g := (mkF m 34 #[vr a, vi (-1 : Int32), vi 1] [(.ref x1)])) rfl (by rw [hml]; rfl) (Steps.refl _) (argsL := []) (rest := []) (lenOf pd_12 rfl) rfl (Nat.le_of_eq rfl) (hb hby d20_34) (fun _ _ => ⟨rfl, e31, (by decide : 0 ≤ _), (by decide : 0 ≤ _)⟩)
      dsimp only [Pt.U, Pt.locs, Pt.cells, Pt.slots] at X32 l32 y32 z32 st32 hQ32
      subst l32 y32 z32
      obtain ⟨vq32, N32q, e32⟩ := hQ32
      obtain rfl := vq32.trans (congrArg (fun z => some (Value.int z)) (if_pos hz1))
      have N32 := Fr.app N30 N32q
      refine bN T32 (mkF m 37 #[vr a, vi (-1 : Int32), vi 1] [(.int (1 : Int32))]) (fun _ k => st32.trans k) ?_
      refine bN T32 (mkF m 42 #[vr a, vi (-1 : Int32), vi 1] []) (fun _ k => XS.ifYes X32.here hx rfl (pc0 := 37) (pc' := 42) rfl (hb hby d20_37) rfl ((if0 _ _).trans (feq (by decide)).2) (by decide) (by decide) k) ?_
      refine bN T32 (mkF m 45 #[vr a, vi (-1 : Int32), vi 2] []) (fun _ k => XS.iinc X32.here hx rfl (hb hby d20_42) rfl rfl k) ?_
      refine bN T32 (mkF m 4 #[vr a, vi (-1 : Int32), vi 2] []) (fun _ k => XS.goto X32.here hx rfl (pc0 := 45) (pc' := 4) rfl (hb hby d20_45) (by decide) (by decide) k) ?_
      refine bN T32 (mkF m 5 #[vr a, vi (-1 : Int32), vi 2] [(.int (-1 : Int32))]) (fun _ k => XS.iloadN X32.here hx rfl (hb hby d20_4) rfl k) ?_
      refine bN T32 (mkF m 8 #[vr a, vi (-1 : Int32), vi 2] []) (fun _ k => XS.ifNo X32.here hx rfl (hb hby d20_5) rfl ((if0 _ _).trans (tlt (by decide)).2.1) k) ?_
      refine bN T32 (mkF m 9 #[vr a, vi (-1 : Int32), vi 2] [(.int (2 : Int32))]) (fun _ k => XS.iloadN X32.here hx rfl (hb hby d20_8) rfl k) ?_
      refine bN T32 (mkF m 10 #[vr a, vi (-1 : Int32), vi 2] [(.ref a), (.int (2 : Int32))]) (fun _ k => XS.aloadN X32.here hx rfl (hb hby d20_9) rfl rfl k) ?_
      obtain ⟨T33, X33, e33, st33⟩ := getF X32 hx hZ hown (host := "") (Or.inl (hw _ (mo 116 rfl))) Via.refl e32 F_values_a (g := (mkF m 10 #[vr a, vi (-1 : Int32), vi 2] [(.ref a), (.int (2 : Int32))])) rfl rfl (hb hby d20_10)
      refine bN T33 (mkF m 13 #[vr a, vi (-1 : Int32), vi 2] [(.ref vl), (.int (2 : Int32))]) (fun _ k => st33 _ k) ?_
      obtain ⟨cq34, kq34, q34a, q34b, q34c⟩ := isOf hZ e33 E_vl
      obtain ⟨_, _, ⟨T34, L34, k34, n34⟩, -, X34, ⟨Lc34, hQ34, l34, y34, z34⟩, st34⟩ := X33.interfaceBack hx (xi := yy34) (y := yy17) hown (mvT hZ (hw _ (mo 163 rfl))) (mvT hZ (hw _ (mo 164 rfl))) (mvT hZ (hw _ (mo 165 rfl))) (mvT hZ (hw _ (mo 166 rfl))) (mvT hZ (hw _ (mo 167 rfl))) (mvT hZ (hw _ (mo 168 rfl))) (mvT hZ (hw _ (mo 169 rfl))) (mvT hZ (hw _ (mo 129 rfl))) (by decide) (backOf (W := 1) (lsz l Z a0 hw [] vl (3 : Int32) h0 n0 Z0 F_size_vl) hZ (hw _ (mo 170 rfl)) (hw _ (mo 32 rfl)) (by decide) (by decide)) q34a q34b q34c (g := (mkF m 13 #[vr a, vi (-1 : Int32), vi 2] [(.ref vl), (.int (2 : Int32))])) rfl (by rw [hml]; rfl) (Steps.refl _) (argsL := []) (rest := [(.int (2 : Int32))]) (lenOf pd_14 rfl) rfl (Nat.le_of_eq rfl) (hb hby d20_13) (fun _ _ => ⟨rfl, e33, (by decide : 0 ≤ _), (by decide : 0 ≤ _)⟩)
      dsimp only [Pt.U, Pt.locs, Pt.cells, Pt.slots] at X34 l34 y34 z34 st34 hQ34
      subst l34 y34 z34
      obtain ⟨rfl, N34q, e34⟩ := hQ34
      have N34 := Fr.app N32 N34q
      refine bN T34 (mkF m 18 #[vr a, vi (-1 : Int32), vi 2] [(.int (3 : Int32)), (.int (2 : Int32))]) (fun _ k => st34.trans k) ?_
      refine bN T34 (mkF m 21 #[vr a, vi (-1 : Int32), vi 2] []) (fun _ k => XS.icmpNo X34.here hx rfl (hb hby d20_18) rfl (tlt (by decide)).2.1 k) ?_
      refine bN T34 (mkF m 22 #[vr a, vi (-1 : Int32), vi 2] [(.ref a)]) (fun _ k => XS.aloadN X34.here hx rfl (hb hby d20_21) rfl rfl k) ?_
      obtain ⟨T35, X35, e35, st35⟩ := getF X34 hx hZ hown (host := "") (Or.inl (hw _ (mo 116 rfl))) Via.refl e34 F_values_a (g := (mkF m 22 #[vr a, vi (-1 : Int32), vi 2] [(.ref a)])) rfl rfl (hb hby d20_22)
      refine bN T35 (mkF m 25 #[vr a, vi (-1 : Int32), vi 2] [(.ref vl)]) (fun _ k => st35 _ k) ?_
      refine bN T35 (mkF m 26 #[vr a, vi (-1 : Int32), vi 2] [(.int (2 : Int32)), (.ref vl)]) (fun _ k => XS.iloadN X35.here hx rfl (hb hby d20_25) rfl k) ?_
      obtain ⟨cq36, kq36, q36a, q36b, q36c⟩ := isOf hZ e35 E_vl
      obtain ⟨_, _, ⟨T36, L36, k36, n36⟩, -, X36, ⟨Lc36, hQ36, l36, y36, z36⟩, st36⟩ := X35.interfaceBack hx (xi := yy30) (y := yy26) hown (mvT hZ (hw _ (mo 193 rfl))) (mvT hZ (hw _ (mo 194 rfl))) (mvT hZ (hw _ (mo 195 rfl))) (mvT hZ (hw _ (mo 196 rfl))) (mvT hZ (hw _ (mo 197 rfl))) (mvT hZ (hw _ (mo 198 rfl))) (mvT hZ (hw _ (mo 199 rfl))) (mvT hZ (hw _ (mo 129 rfl))) (by decide) (backOf (W := 0) (getj_2 l Z a0 hw [] vl dv kv [(.ref x0), (.ref x1), (.ref x2), .null, .null, .null, .null, .null, .null, .null] x2 (3 : Int32) h0 n0 Z0 E_vl F_size_vl F_elementData_vl V_dv rfl (by decide)) hZ (hw _ (mo 200 rfl)) (hw _ (mo 32 rfl)) (by decide) (by decide)) q36a q36b q36c (g := (mkF m 26 #[vr a, vi (-1 : Int32), vi 2] [(.int (2 : Int32)), (.ref vl)])) rfl (by rw [hml]; rfl) (Steps.refl _) (argsL := [(.int (2 : Int32))]) (rest := []) (lenOf pd_10 rfl) rfl (Nat.le_of_eq rfl) (hb hby d20_26) (fun _ _ => ⟨rfl, e35, (by decide : 0 ≤ _), (by decide : 0 ≤ _)⟩)
      dsimp only [Pt.U, Pt.locs, Pt.cells, Pt.slots] at X36 l36 y36 z36 st36 hQ36
      subst l36 y36 z36
      obtain ⟨rfl, N36q, e36⟩ := hQ36
      have N36 := Fr.app N34 N36q
      refine bN T36 (mkF m 31 #[vr a, vi (-1 : Int32), vi 2] [(.ref x2)]) (fun _ k => st36.trans k) ?_
      obtain ⟨T37, X37, e37, st37⟩ := castY X36 hx hZ hown (hw _ (mo 214 rfl)) e36 (Ins.self E_x2) (g := (mkF m 31 #[vr a, vi (-1 : Int32), vi 2] [(.ref x2)])) rfl rfl (hb hby d20_31)
      refine bN T37 (mkF m 34 #[vr a, vi (-1 : Int32), vi 2] [(.ref x2)]) (fun _ k => st37 _ k) ?_
      by_cases hz2 : z2 = (0 : Int32)
      · skip
        obtain ⟨cq38, kq38, q38a, q38b, q38c⟩ := isOf hZ e37 E_x2
        obtain ⟨_, _, ⟨T38, L38, k38, n38⟩, -, X38, ⟨Lc38, hQ38, l38, y38, z38⟩, st38⟩ := X37.virtualBack hx (y := yy5) (z := yy5) hown (mvT hZ (hw _ (mo 227 rfl))) (mvT hZ (hw _ (mo 228 rfl))) (notFace_of_selects (args := #[]) (mvT hZ (hw _ (mo 230 rfl)))) (mvT hZ (hw _ (mo 230 rfl))) (mvT hZ (hw _ (mo 229 rfl))) (by decide) (backOf (W := 0) (ise l Z a0 hw [] x2 t2 q2 z2 v2 h0 n0 Z0 F_value_x2 V_t2) hZ (hw _ (mo 231 rfl)) (hw _ (mo 6 rfl)) (by decide) (by decide)) q38a q38c (g := (mkF m 34 #[vr a, vi (-1 : Int32), vi 2] [(.ref x2)])) rfl (by rw [hml]; rfl) (Steps.refl _) (argsL := []) (rest := []) (lenOf pd_12 rfl) rfl (Nat.le_of_eq rfl) (hb hby d20_34) (fun _ _ => ⟨rfl, e37, (by decide : 0 ≤ _), (by decide : 0 ≤ _)⟩)
        dsimp only [Pt.U, Pt.locs, Pt.cells, Pt.slots] at X38 l38 y38 z38 st38 hQ38
        subst l38 y38 z38
        obtain ⟨vq38, N38q, e38⟩ := hQ38
        obtain rfl := vq38.trans (congrArg (fun z => some (Value.int z)) (if_pos hz2))
        have N38 := Fr.app N36 N38q
        refine bN T38 (mkF m 37 #[vr a, vi (-1 : Int32), vi 2] [(.int (1 : Int32))]) (fun _ k => st38.trans k) ?_
        refine bN T38 (mkF m 42 #[vr a, vi (-1 : Int32), vi 2] []) (fun _ k => XS.ifYes X38.here hx rfl (pc0 := 37) (pc' := 42) rfl (hb hby d20_37) rfl ((if0 _ _).trans (feq (by decide)).2) (by decide) (by decide) k) ?_
        refine bN T38 (mkF m 45 #[vr a, vi (-1 : Int32), vi 3] []) (fun _ k => XS.iinc X38.here hx rfl (hb hby d20_42) rfl rfl k) ?_
        refine bN T38 (mkF m 4 #[vr a, vi (-1 : Int32), vi 3] []) (fun _ k => XS.goto X38.here hx rfl (pc0 := 45) (pc' := 4) rfl (hb hby d20_45) (by decide) (by decide) k) ?_
        refine bN T38 (mkF m 5 #[vr a, vi (-1 : Int32), vi 3] [(.int (-1 : Int32))]) (fun _ k => XS.iloadN X38.here hx rfl (hb hby d20_4) rfl k) ?_
        refine bN T38 (mkF m 8 #[vr a, vi (-1 : Int32), vi 3] []) (fun _ k => XS.ifNo X38.here hx rfl (hb hby d20_5) rfl ((if0 _ _).trans (tlt (by decide)).2.1) k) ?_
        refine bN T38 (mkF m 9 #[vr a, vi (-1 : Int32), vi 3] [(.int (3 : Int32))]) (fun _ k => XS.iloadN X38.here hx rfl (hb hby d20_8) rfl k) ?_
        refine bN T38 (mkF m 10 #[vr a, vi (-1 : Int32), vi 3] [(.ref a), (.int (3 : Int32))]) (fun _ k => XS.aloadN X38.here hx rfl (hb hby d20_9) rfl rfl k) ?_
        obtain ⟨T39, X39, e39, st39⟩ := getF X38 hx hZ hown (host := "") (Or.inl (hw _ (mo 116 rfl))) Via.refl e38 F_values_a (g := (mkF m 10 #[vr a, vi (-1 : Int32), vi 3] [(.ref a), (.int (3 : Int32))])) rfl rfl (hb hby d20_10)
        refine bN T39 (mkF m 13 #[vr a, vi (-1 : Int32), vi 3] [(.ref vl), (.int (3 : Int32))]) (fun _ k => st39 _ k) ?_
        obtain ⟨cq40, kq40, q40a, q40b, q40c⟩ := isOf hZ e39 E_vl
        obtain ⟨_, _, ⟨T40, L40, k40, n40⟩, -, X40, ⟨Lc40, hQ40, l40, y40, z40⟩, st40⟩ := X39.interfaceBack hx (xi := yy34) (y := yy17) hown (mvT hZ (hw _ (mo 163 rfl))) (mvT hZ (hw _ (mo 164 rfl))) (mvT hZ (hw _ (mo 165 rfl))) (mvT hZ (hw _ (mo 166 rfl))) (mvT hZ (hw _ (mo 167 rfl))) (mvT hZ (hw _ (mo 168 rfl))) (mvT hZ (hw _ (mo 169 rfl))) (mvT hZ (hw _ (mo 129 rfl))) (by decide) (backOf (W := 1) (lsz l Z a0 hw [] vl (3 : Int32) h0 n0 Z0 F_size_vl) hZ (hw _ (mo 170 rfl)) (hw _ (mo 32 rfl)) (by decide) (by decide)) q40a q40b q40c (g := (mkF m 13 #[vr a, vi (-1 : Int32), vi 3] [(.ref vl), (.int (3 : Int32))])) rfl (by rw [hml]; rfl) (Steps.refl _) (argsL := []) (rest := [(.int (3 : Int32))]) (lenOf pd_14 rfl) rfl (Nat.le_of_eq rfl) (hb hby d20_13) (fun _ _ => ⟨rfl, e39, (by decide : 0 ≤ _), (by decide : 0 ≤ _)⟩)
        dsimp only [Pt.U, Pt.locs, Pt.cells, Pt.slots] at X40 l40 y40 z40 st40 hQ40
        subst l40 y40 z40
        obtain ⟨rfl, N40q, e40⟩ := hQ40
        have N40 := Fr.app N38 N40q
        refine bN T40 (mkF m 18 #[vr a, vi (-1 : Int32), vi 3] [(.int (3 : Int32)), (.int (3 : Int32))]) (fun _ k => st40.trans k) ?_
        refine bN T40 (mkF m 48 #[vr a, vi (-1 : Int32), vi 3] []) (fun _ k => XS.icmpYes X40.here hx rfl (pc0 := 18) (pc' := 48) rfl (hb hby d20_18) rfl (flt (by decide)).2.1 (by decide) (by decide) k) ?_
        refine bN T40 (mkF m 49 #[vr a, vi (-1 : Int32), vi 3] [(.int (-1 : Int32))]) (fun _ k => XS.iloadN X40.here hx rfl (hb hby d20_48) rfl k) ?_
        refine own_ret X40 hlk (v := some (.int (-1 : Int32))) (nvr Bd.returns) (fun fs hr => retI X40 hx Bd.returns (hb hby d20_49) hr) ?_ (by decide) (by decide)
        rw [e40]
        exact ⟨congrArg (fun z => some (Value.int z)) (((if_pos hz0).trans (if_pos hz1)).trans (if_pos hz2)).symm, N40, rfl⟩
      · skip
        obtain ⟨cq41, kq41, q41a, q41b, q41c⟩ := isOf hZ e37 E_x2
        obtain ⟨_, _, ⟨T41, L41, k41, n41⟩, -, X41, ⟨Lc41, hQ41, l41, y41, z41⟩, st41⟩ := X37.virtualBack hx (y := yy5) (z := yy5) hown (mvT hZ (hw _ (mo 227 rfl))) (mvT hZ (hw _ (mo 228 rfl))) (notFace_of_selects (args := #[]) (mvT hZ (hw _ (mo 230 rfl)))) (mvT hZ (hw _ (mo 230 rfl))) (mvT hZ (hw _ (mo 229 rfl))) (by decide) (backOf (W := 0) (ise l Z a0 hw [] x2 t2 q2 z2 v2 h0 n0 Z0 F_value_x2 V_t2) hZ (hw _ (mo 231 rfl)) (hw _ (mo 6 rfl)) (by decide) (by decide)) q41a q41c (g := (mkF m 34 #[vr a, vi (-1 : Int32), vi 2] [(.ref x2)])) rfl (by rw [hml]; rfl) (Steps.refl _) (argsL := []) (rest := []) (lenOf pd_12 rfl) rfl (Nat.le_of_eq rfl) (hb hby d20_34) (fun _ _ => ⟨rfl, e37, (by decide : 0 ≤ _), (by decide : 0 ≤ _)⟩)
        dsimp only [Pt.U, Pt.locs, Pt.cells, Pt.slots] at X41 l41 y41 z41 st41 hQ41
        subst l41 y41 z41
        obtain ⟨vq41, N41q, e41⟩ := hQ41
        obtain rfl := vq41.trans (congrArg (fun z => some (Value.int z)) (if_neg hz2))
        have N41 := Fr.app N36 N41q
        refine bN T41 (mkF m 37 #[vr a, vi (-1 : Int32), vi 2] [(ii 0)]) (fun _ k => st41.trans k) ?_
        refine bN T41 (mkF m 40 #[vr a, vi (-1 : Int32), vi 2] []) (fun _ k => XS.ifNo X41.here hx rfl (hb hby d20_37) rfl ((if0 _ _).trans (teq (by decide)).2) k) ?_
        refine bN T41 (mkF m 41 #[vr a, vi (-1 : Int32), vi 2] [(.int (2 : Int32))]) (fun _ k => XS.iloadN X41.here hx rfl (hb hby d20_40) rfl k) ?_
        refine bN T41 (mkF m 42 #[vr a, vi 2, vi 2] []) (fun _ k => XS.istoreN X41.here hx rfl (hb hby d20_41) rfl rfl k) ?_
        refine bN T41 (mkF m 45 #[vr a, vi 2, vi 3] []) (fun _ k => XS.iinc X41.here hx rfl (hb hby d20_42) rfl rfl k) ?_
        refine bN T41 (mkF m 4 #[vr a, vi 2, vi 3] []) (fun _ k => XS.goto X41.here hx rfl (pc0 := 45) (pc' := 4) rfl (hb hby d20_45) (by decide) (by decide) k) ?_
        refine bN T41 (mkF m 5 #[vr a, vi 2, vi 3] [(.int (2 : Int32))]) (fun _ k => XS.iloadN X41.here hx rfl (hb hby d20_4) rfl k) ?_
        refine bN T41 (mkF m 48 #[vr a, vi 2, vi 3] []) (fun _ k => XS.ifYes X41.here hx rfl (pc0 := 5) (pc' := 48) rfl (hb hby d20_5) rfl ((if0 _ _).trans (flt (by decide)).2.1) (by decide) (by decide) k) ?_
        refine bN T41 (mkF m 49 #[vr a, vi 2, vi 3] [(.int (2 : Int32))]) (fun _ k => XS.iloadN X41.here hx rfl (hb hby d20_48) rfl k) ?_
        refine own_ret X41 hlk (v := some (.int (2 : Int32))) (nvr Bd.returns) (fun fs hr => retI X41 hx Bd.returns (hb hby d20_49) hr) ?_ (by decide) (by decide)
        rw [e41]
        exact ⟨congrArg (fun z => some (Value.int z)) (((if_pos hz0).trans (if_pos hz1)).trans (if_neg hz2)).symm, N41, rfl⟩
    · skip
      obtain ⟨cq42, kq42, q42a, q42b, q42c⟩ := isOf hZ e31 E_x1
      obtain ⟨_, _, ⟨T42, L42, k42, n42⟩, -, X42, ⟨Lc42, hQ42, l42, y42, z42⟩, st42⟩ := X31.virtualBack hx (y := yy5) (z := yy5) hown (mvT hZ (hw _ (mo 227 rfl))) (mvT hZ (hw _ (mo 228 rfl))) (notFace_of_selects (args := #[]) (mvT hZ (hw _ (mo 230 rfl)))) (mvT hZ (hw _ (mo 230 rfl))) (mvT hZ (hw _ (mo 229 rfl))) (by decide) (backOf (W := 0) (ise l Z a0 hw [] x1 t1 q1 z1 v1 h0 n0 Z0 F_value_x1 V_t1) hZ (hw _ (mo 231 rfl)) (hw _ (mo 6 rfl)) (by decide) (by decide)) q42a q42c (g := (mkF m 34 #[vr a, vi (-1 : Int32), vi 1] [(.ref x1)])) rfl (by rw [hml]; rfl) (Steps.refl _) (argsL := []) (rest := []) (lenOf pd_12 rfl) rfl (Nat.le_of_eq rfl) (hb hby d20_34) (fun _ _ => ⟨rfl, e31, (by decide : 0 ≤ _), (by decide : 0 ≤ _)⟩)
      dsimp only [Pt.U, Pt.locs, Pt.cells, Pt.slots] at X42 l42 y42 z42 st42 hQ42
      subst l42 y42 z42
      obtain ⟨vq42, N42q, e42⟩ := hQ42
      obtain rfl := vq42.trans (congrArg (fun z => some (Value.int z)) (if_neg hz1))
      have N42 := Fr.app N30 N42q
      refine bN T42 (mkF m 37 #[vr a, vi (-1 : Int32), vi 1] [(ii 0)]) (fun _ k => st42.trans k) ?_
      refine bN T42 (mkF m 40 #[vr a, vi (-1 : Int32), vi 1] []) (fun _ k => XS.ifNo X42.here hx rfl (hb hby d20_37) rfl ((if0 _ _).trans (teq (by decide)).2) k) ?_
      refine bN T42 (mkF m 41 #[vr a, vi (-1 : Int32), vi 1] [(.int (1 : Int32))]) (fun _ k => XS.iloadN X42.here hx rfl (hb hby d20_40) rfl k) ?_
      refine bN T42 (mkF m 42 #[vr a, vi 1, vi 1] []) (fun _ k => XS.istoreN X42.here hx rfl (hb hby d20_41) rfl rfl k) ?_
      refine bN T42 (mkF m 45 #[vr a, vi 1, vi 2] []) (fun _ k => XS.iinc X42.here hx rfl (hb hby d20_42) rfl rfl k) ?_
      refine bN T42 (mkF m 4 #[vr a, vi 1, vi 2] []) (fun _ k => XS.goto X42.here hx rfl (pc0 := 45) (pc' := 4) rfl (hb hby d20_45) (by decide) (by decide) k) ?_
      refine bN T42 (mkF m 5 #[vr a, vi 1, vi 2] [(.int (1 : Int32))]) (fun _ k => XS.iloadN X42.here hx rfl (hb hby d20_4) rfl k) ?_
      refine bN T42 (mkF m 48 #[vr a, vi 1, vi 2] []) (fun _ k => XS.ifYes X42.here hx rfl (pc0 := 5) (pc' := 48) rfl (hb hby d20_5) rfl ((if0 _ _).trans (flt (by decide)).2.1) (by decide) (by decide) k) ?_
      refine bN T42 (mkF m 49 #[vr a, vi 1, vi 2] [(.int (1 : Int32))]) (fun _ k => XS.iloadN X42.here hx rfl (hb hby d20_48) rfl k) ?_
      refine own_ret X42 hlk (v := some (.int (1 : Int32))) (nvr Bd.returns) (fun fs hr => retI X42 hx Bd.returns (hb hby d20_49) hr) ?_ (by decide) (by decide)
      rw [e42]
      exact ⟨congrArg (fun z => some (Value.int z)) ((if_pos hz0).trans (if_neg hz1)).symm, N42, rfl⟩
  · skip
    obtain ⟨cq43, kq43, q43a, q43b, q43c⟩ := isOf hZ e25 E_x0
    obtain ⟨_, _, ⟨T43, L43, k43, n43⟩, -, X43, ⟨Lc43, hQ43, l43, y43, z43⟩, st43⟩ := X25.virtualBack hx (y := yy5) (z := yy5) hown (mvT hZ (hw _ (mo 227 rfl))) (mvT hZ (hw _ (mo 228 rfl))) (notFace_of_selects (args := #[]) (mvT hZ (hw _ (mo 230 rfl)))) (mvT hZ (hw _ (mo 230 rfl))) (mvT hZ (hw _ (mo 229 rfl))) (by decide) (backOf (W := 0) (ise l Z a0 hw [] x0 t0 q0 z0 v0 h0 n0 Z0 F_value_x0 V_t0) hZ (hw _ (mo 231 rfl)) (hw _ (mo 6 rfl)) (by decide) (by decide)) q43a q43c (g := (mkF m 34 #[vr a, vi (-1 : Int32), vi 0] [(.ref x0)])) rfl (by rw [hml]; rfl) (Steps.refl _) (argsL := []) (rest := []) (lenOf pd_12 rfl) rfl (Nat.le_of_eq rfl) (hb hby d20_34) (fun _ _ => ⟨rfl, e25, (by decide : 0 ≤ _), (by decide : 0 ≤ _)⟩)
    dsimp only [Pt.U, Pt.locs, Pt.cells, Pt.slots] at X43 l43 y43 z43 st43 hQ43
    subst l43 y43 z43
    obtain ⟨vq43, N43q, e43⟩ := hQ43
    obtain rfl := vq43.trans (congrArg (fun z => some (Value.int z)) (if_neg hz0))
    have N43 := Fr.app N24 N43q
    refine bN T43 (mkF m 37 #[vr a, vi (-1 : Int32), vi 0] [(ii 0)]) (fun _ k => st43.trans k) ?_
    refine bN T43 (mkF m 40 #[vr a, vi (-1 : Int32), vi 0] []) (fun _ k => XS.ifNo X43.here hx rfl (hb hby d20_37) rfl ((if0 _ _).trans (teq (by decide)).2) k) ?_
    refine bN T43 (mkF m 41 #[vr a, vi (-1 : Int32), vi 0] [(ii 0)]) (fun _ k => XS.iloadN X43.here hx rfl (hb hby d20_40) rfl k) ?_
    refine bN T43 (mkF m 42 #[vr a, vi 0, vi 0] []) (fun _ k => XS.istoreN X43.here hx rfl (hb hby d20_41) rfl rfl k) ?_
    refine bN T43 (mkF m 45 #[vr a, vi 0, vi 1] []) (fun _ k => XS.iinc X43.here hx rfl (hb hby d20_42) rfl rfl k) ?_
    refine bN T43 (mkF m 4 #[vr a, vi 0, vi 1] []) (fun _ k => XS.goto X43.here hx rfl (pc0 := 45) (pc' := 4) rfl (hb hby d20_45) (by decide) (by decide) k) ?_
    refine bN T43 (mkF m 5 #[vr a, vi 0, vi 1] [(ii 0)]) (fun _ k => XS.iloadN X43.here hx rfl (hb hby d20_4) rfl k) ?_
    refine bN T43 (mkF m 48 #[vr a, vi 0, vi 1] []) (fun _ k => XS.ifYes X43.here hx rfl (pc0 := 5) (pc' := 48) rfl (hb hby d20_5) rfl ((if0 _ _).trans (flt (by decide)).2.1) (by decide) (by decide) k) ?_
    refine bN T43 (mkF m 49 #[vr a, vi 0, vi 1] [(ii 0)]) (fun _ k => XS.iloadN X43.here hx rfl (hb hby d20_48) rfl k) ?_
    refine own_ret X43 hlk (v := some (ii 0)) (nvr Bd.returns) (fun fs hr => retI X43 hx Bd.returns (hb hby d20_49) hr) ?_ (by decide) (by decide)
    rw [e43]
    exact ⟨congrArg (fun z => some (Value.int z)) (if_neg hz0).symm, N43, rfl⟩
theorem pn_0 : plainName "com/example/nisaba/nisaba/isatab/ValuesFirstGivenPinLaw" = true := by first | (simp [plainName, overriddenIn]; done) | decide +kernel
theorem ef_rm0 (m : MethodId) (sa ia : Int32) (c0 c1 c2 : Int32) : entryFrame m #[(.int sa), (.int ia), (.int c0), (.int c1), (.int c2)] maxLocals = mkF m 0 #[vi sa, vi ia, vi c0, vi c1, vi c2, uu, uu, uu, uu, uu, uu, uu, uu, uu, uu, uu, uu, uu, uu, uu, uu, uu, uu] [] := by first | (simp [entryFrame, mkF, argsToLocals, Value.category, maxLocals]; done) | rfl
def V_rm0 (Z : State) (sa ia : Int32) (c0 c1 : Int32) (c2 cs : Int32) (aD : Addr) (kD : ClassId) (h0 : Heap) (vm : Vm) : Prop := True
def Q_rm0 (Z : State) (sa ia : Int32) (c0 c1 : Int32) (c2 cs : Int32) (aD : Addr) (kD : ClassId) (h0 : Heap) (n0 : Nat) (v : Option Value) (h : Heap) (L : List Loc) : Prop := v = some (.int 1) ∧ Fr n0 L
theorem rm0_c9 {l : _} {Z : State} {a0 : Array Value} (hw : HW Z a0) {sa : Int32} {ia : Int32} {c0 : Int32} {c1 : Int32} {c2 : Int32} {cs : Int32} {aD : Addr} {kD : ClassId} {h0 : Heap} {n0 : Nat} {p : _} {e : _} {s : State} {m : _} {below : _} {meth : _} {c : _} {h1 : Heap} {T1 : State} {Lc : List Loc} {vm1 : Vm} {ks1 : Nat} {b51 : Addr} {vl55 : Addr} {jx : Int32} {bb : Int32} {x0 : Addr} {x1 : Addr} {x2 : Addr} {b30 : Addr} {i0 : Int32} {i1 : Int32} {i2 : Int32} {b36 : Addr} {b40 : Addr} {b44 : Addr} {b48 : Addr} {ga : Int32} {gb : Int32} {gc : Int32} (X1 : Stand p l e room_1 (s.setVm vm1) m #[(.int sa), (.int ia), (.int c0), (.int c1), (.int c2)] below meth c T1 Lc 28 260) (e1 : T1.heap = h1) (Kc : Keep h0 h1 []) (Nc : Fr n0 Lc) (Z0 : n0 ≤ h0.size) (hZ1 : Z.Warmed39 (s.setVm vm1).vm) (hown1 : (s.setVm vm1).vm.findClass "com/example/nisaba/nisaba/isatab/ValuesFirstGivenPinLaw" = some m.cls) (hS1 : s.Since vm1 ks1) (hk1 : ks1 ≤ h1.size) (C1 : CHr Z consts_1 s.vm s.heap vm1 h1) (hx : p.tables.exec = Jvm.exec) (hby : c.code = code) (hml : c.maxLocals = 23) (hlk : meth.locks = false) (hrt : meth.sig.returnType = (some .boolean)) (Y36 : Exa Z h1 b51 sV) (Y37 : Fld Z h1 b51 sV "values" "Ljava/util/List;" (.ref vl55)) (Y38 : Exa Z h1 vl55 sL) (Y39 : Fld Z h1 vl55 sL "size" "I" (ii 0)) (hj : (-1 : Int32) = jx) :
    own_GoW p.tables e below Z consts_1 (Q_rm0 Z sa ia c0 c1 c2 cs aD kD h0 n0) s 64 7488 T1 (mkF m 353 #[vi sa, vi ia, vi c0, vi c1, vi c2, vi 0, vi bb, vr x0, vr x1, vr x2, vr b30, vi i0, vi i1, vi i2, vr b36, vr b40, vr b44, vr b48, vr b51, vi ga, vi gb, vi gc, vi jx] []) := by
  have hEL : EW Z a0 consts_1 := own_EL hw
  refine bW T1 (mkF m 355 #[vi sa, vi ia, vi c0, vi c1, vi c2, vi 0, vi bb, vr x0, vr x1, vr x2, vr b30, vi i0, vi i1, vi i2, vr b36, vr b40, vr b44, vr b48, vr b51, vi ga, vi gb, vi gc, vi jx] [(.ref b51)]) (fun _ k => XS.aload X1.here hx rfl (hb hby at_353) rfl rfl k) ?_
  obtain ⟨cq56, kq56, q56a, q56b, q56c⟩ := isOf hZ1 e1 Y36
  obtain ⟨_, _, ⟨T56, L56, k56, n56⟩, -, X56, ⟨Lc56, hQ56, l56, y56, z56⟩, st56⟩ := X1.virtualBack hx (y := yy33) (z := yy33) hown1 (mvT hZ1 (hw _ (mo 158 rfl))) (mvT hZ1 (hw _ (mo 159 rfl))) (notFace_of_selects (args := #[]) (mvT hZ1 (hw _ (mo 161 rfl)))) (mvT hZ1 (hw _ (mo 161 rfl))) (mvT hZ1 (hw _ (mo 160 rfl))) (by decide) (backOf (W := 0) (fgv_0 l Z a0 hw [] b51 vl55 h1 n0 (Nat.le_trans Z0 Kc.1) Y37 Y38 Y39) hZ1 (hw _ (mo 162 rfl)) (hw _ (mo 109 rfl)) (by decide) (by decide)) q56a q56c (g := (mkF m 355 #[vi sa, vi ia, vi c0, vi c1, vi c2, vi 0, vi bb, vr x0, vr x1, vr x2, vr b30, vi i0, vi i1, vi i2, vr b36, vr b40, vr b44, vr b48, vr b51, vi ga, vi gb, vi gc, vi jx] [(.ref b51)])) rfl (by rw [hml]; rfl) (Steps.refl _) (argsL := []) (rest := []) (lenOf pd_14 rfl) rfl (Nat.le_of_eq rfl) (hb hby at_355) (fun _ _ => ⟨rfl, e1, (by decide : 28 ≤ _), (by decide : 260 ≤ _)⟩)
  dsimp only [Pt.U, Pt.locs, Pt.cells, Pt.slots] at X56 l56 y56 z56 st56 hQ56
  subst l56 y56 z56
  obtain ⟨rfl, N56q, e56⟩ := hQ56
  have N56 := Fr.app Nc N56q
  refine bW T56 (mkF m 358 #[vi sa, vi ia, vi c0, vi c1, vi c2, vi 0, vi bb, vr x0, vr x1, vr x2, vr b30, vi i0, vi i1, vi i2, vr b36, vr b40, vr b44, vr b48, vr b51, vi ga, vi gb, vi gc, vi jx] [(.int (-1 : Int32))]) (fun _ k => st56.trans k) ?_
  refine bW T56 (mkF m 360 #[vi sa, vi ia, vi c0, vi c1, vi c2, vi 0, vi bb, vr x0, vr x1, vr x2, vr b30, vi i0, vi i1, vi i2, vr b36, vr b40, vr b44, vr b48, vr b51, vi ga, vi gb, vi gc, vi jx] [(.int jx), (.int (-1 : Int32))]) (fun _ k => XS.iload X56.here hx rfl (hb hby at_358) rfl k) ?_
  refine bW T56 (mkF m 363 #[vi sa, vi ia, vi c0, vi c1, vi c2, vi 0, vi bb, vr x0, vr x1, vr x2, vr b30, vi i0, vi i1, vi i2, vr b36, vr b40, vr b44, vr b48, vr b51, vi ga, vi gb, vi gc, vi jx] []) (fun _ k => XS.icmpNo X56.here hx rfl (hb hby at_360) rfl (teq hj).2 k) ?_
  refine bW T56 (mkF m 364 #[vi sa, vi ia, vi c0, vi c1, vi c2, vi 0, vi bb, vr x0, vr x1, vr x2, vr b30, vi i0, vi i1, vi i2, vr b36, vr b40, vr b44, vr b48, vr b51, vi ga, vi gb, vi gc, vi jx] [(.int (1 : Int32))]) (fun _ k => XS.iconst X56.here hx rfl (hb hby at_363) k) ?_
  refine bW T56 (mkF m 368 #[vi sa, vi ia, vi c0, vi c1, vi c2, vi 0, vi bb, vr x0, vr x1, vr x2, vr b30, vi i0, vi i1, vi i2, vr b36, vr b40, vr b44, vr b48, vr b51, vi ga, vi gb, vi gc, vi jx] [(.int (1 : Int32))]) (fun _ k => XS.goto X56.here hx rfl (pc0 := 364) (pc' := 368) rfl (hb hby at_364) (by decide) (by decide) k) ?_
  refine own_retW (s := s) X56 hlk hS1 (by rw [e56]; exact hk1) hZ1 hEL C1 e56 (v := some (.int (1 : Int32))) (fun h => by rw [hrt] at h; cases h) (fun fs hr => retN X56 hx (t := .boolean) hrt (by simp) (hb hby at_368) hr) ?_ (by decide) (by decide)
  rw [e56]
  exact ⟨rfl, N56⟩
theorem rm0_c8 {l : _} {Z : State} {a0 : Array Value} (hw : HW Z a0) {sa : Int32} {ia : Int32} {c0 : Int32} {c1 : Int32} {c2 : Int32} {cs : Int32} {aD : Addr} {kD : ClassId} {h0 : Heap} {n0 : Nat} {p : _} {e : _} {s : State} {m : _} {below : _} {meth : _} {c : _} {h1 : Heap} {T1 : State} {Lc : List Loc} {vm1 : Vm} {ks1 : Nat} {b51 : Addr} {vl55 : Addr} {bb : Int32} {x0 : Addr} {x1 : Addr} {x2 : Addr} {b30 : Addr} {i0 : Int32} {i1 : Int32} {i2 : Int32} {b36 : Addr} {b40 : Addr} {b44 : Addr} {b48 : Addr} (X1 : Stand p l e room_1 (s.setVm vm1) m #[(.int sa), (.int ia), (.int c0), (.int c1), (.int c2)] below meth c T1 Lc 28 260) (e1 : T1.heap = h1) (Kc : Keep h0 h1 []) (Nc : Fr n0 Lc) (Z0 : n0 ≤ h0.size) (hZ1 : Z.Warmed39 (s.setVm vm1).vm) (hown1 : (s.setVm vm1).vm.findClass "com/example/nisaba/nisaba/isatab/ValuesFirstGivenPinLaw" = some m.cls) (hS1 : s.Since vm1 ks1) (hk1 : ks1 ≤ h1.size) (C1 : CHr Z consts_1 s.vm s.heap vm1 h1) (hx : p.tables.exec = Jvm.exec) (hby : c.code = code) (hml : c.maxLocals = 23) (hlk : meth.locks = false) (hrt : meth.sig.returnType = (some .boolean)) (Y36 : Exa Z h1 b51 sV) (Y37 : Fld Z h1 b51 sV "values" "Ljava/util/List;" (.ref vl55)) (Y38 : Exa Z h1 vl55 sL) (Y39 : Fld Z h1 vl55 sL "size" "I" (ii 0)) :
    own_GoW p.tables e below Z consts_1 (Q_rm0 Z sa ia c0 c1 c2 cs aD kD h0 n0) s 64 7488 T1 (mkF m 255 #[vi sa, vi ia, vi c0, vi c1, vi c2, vi 0, vi bb, vr x0, vr x1, vr x2, vr b30, vi i0, vi i1, vi i2, vr b36, vr b40, vr b44, vr b48, vr b51, uu, uu, uu, uu] []) := by
  refine bW T1 (mkF m 257 #[vi sa, vi ia, vi c0, vi c1, vi c2, vi 0, vi bb, vr x0, vr x1, vr x2, vr b30, vi i0, vi i1, vi i2, vr b36, vr b40, vr b44, vr b48, vr b51, uu, uu, uu, uu] [(ii 0)]) (fun _ k => XS.iload X1.here hx rfl (hb hby at_255) rfl k) ?_
  refine bW T1 (mkF m 274 #[vi sa, vi ia, vi c0, vi c1, vi c2, vi 0, vi bb, vr x0, vr x1, vr x2, vr b30, vi i0, vi i1, vi i2, vr b36, vr b40, vr b44, vr b48, vr b51, uu, uu, uu, uu] []) (fun _ k => XS.ifYes X1.here hx rfl (pc0 := 257) (pc' := 274) rfl (hb hby at_257) rfl ((if0 _ _).trans (flt (by decide)).2.2.2) (by decide) (by decide) k) ?_
  refine bW T1 (mkF m 275 #[vi sa, vi ia, vi c0, vi c1, vi c2, vi 0, vi bb, vr x0, vr x1, vr x2, vr b30, vi i0, vi i1, vi i2, vr b36, vr b40, vr b44, vr b48, vr b51, uu, uu, uu, uu] [(ii 0)]) (fun _ k => XS.iconst X1.here hx rfl (hb hby at_274) k) ?_
  refine bW T1 (mkF m 277 #[vi sa, vi ia, vi c0, vi c1, vi c2, vi 0, vi bb, vr x0, vr x1, vr x2, vr b30, vi i0, vi i1, vi i2, vr b36, vr b40, vr b44, vr b48, vr b51, vi 0, uu, uu, uu] []) (fun _ k => XS.istore X1.here hx rfl (hb hby at_275) rfl rfl k) ?_
  refine bW T1 (mkF m 279 #[vi sa, vi ia, vi c0, vi c1, vi c2, vi 0, vi bb, vr x0, vr x1, vr x2, vr b30, vi i0, vi i1, vi i2, vr b36, vr b40, vr b44, vr b48, vr b51, vi 0, uu, uu, uu] [(ii 0)]) (fun _ k => XS.iload X1.here hx rfl (hb hby at_277) rfl k) ?_
  refine bW T1 (mkF m 280 #[vi sa, vi ia, vi c0, vi c1, vi c2, vi 0, vi bb, vr x0, vr x1, vr x2, vr b30, vi i0, vi i1, vi i2, vr b36, vr b40, vr b44, vr b48, vr b51, vi 0, uu, uu, uu] [(.int (1 : Int32)), (ii 0)]) (fun _ k => XS.iconst X1.here hx rfl (hb hby at_279) k) ?_
  refine bW T1 (mkF m 297 #[vi sa, vi ia, vi c0, vi c1, vi c2, vi 0, vi bb, vr x0, vr x1, vr x2, vr b30, vi i0, vi i1, vi i2, vr b36, vr b40, vr b44, vr b48, vr b51, vi 0, uu, uu, uu] []) (fun _ k => XS.icmpYes X1.here hx rfl (pc0 := 280) (pc' := 297) rfl (hb hby at_280) rfl (flt (by decide)).2.2.2 (by decide) (by decide) k) ?_
  refine bW T1 (mkF m 298 #[vi sa, vi ia, vi c0, vi c1, vi c2, vi 0, vi bb, vr x0, vr x1, vr x2, vr b30, vi i0, vi i1, vi i2, vr b36, vr b40, vr b44, vr b48, vr b51, vi 0, uu, uu, uu] [(ii 0)]) (fun _ k => XS.iconst X1.here hx rfl (hb hby at_297) k) ?_
  refine bW T1 (mkF m 300 #[vi sa, vi ia, vi c0, vi c1, vi c2, vi 0, vi bb, vr x0, vr x1, vr x2, vr b30, vi i0, vi i1, vi i2, vr b36, vr b40, vr b44, vr b48, vr b51, vi 0, vi 0, uu, uu] []) (fun _ k => XS.istore X1.here hx rfl (hb hby at_298) rfl rfl k) ?_
  refine bW T1 (mkF m 302 #[vi sa, vi ia, vi c0, vi c1, vi c2, vi 0, vi bb, vr x0, vr x1, vr x2, vr b30, vi i0, vi i1, vi i2, vr b36, vr b40, vr b44, vr b48, vr b51, vi 0, vi 0, uu, uu] [(ii 0)]) (fun _ k => XS.iload X1.here hx rfl (hb hby at_300) rfl k) ?_
  refine bW T1 (mkF m 303 #[vi sa, vi ia, vi c0, vi c1, vi c2, vi 0, vi bb, vr x0, vr x1, vr x2, vr b30, vi i0, vi i1, vi i2, vr b36, vr b40, vr b44, vr b48, vr b51, vi 0, vi 0, uu, uu] [(.int (2 : Int32)), (ii 0)]) (fun _ k => XS.iconst X1.here hx rfl (hb hby at_302) k) ?_
  refine bW T1 (mkF m 320 #[vi sa, vi ia, vi c0, vi c1, vi c2, vi 0, vi bb, vr x0, vr x1, vr x2, vr b30, vi i0, vi i1, vi i2, vr b36, vr b40, vr b44, vr b48, vr b51, vi 0, vi 0, uu, uu] []) (fun _ k => XS.icmpYes X1.here hx rfl (pc0 := 303) (pc' := 320) rfl (hb hby at_303) rfl (flt (by decide)).2.2.2 (by decide) (by decide) k) ?_
  refine bW T1 (mkF m 321 #[vi sa, vi ia, vi c0, vi c1, vi c2, vi 0, vi bb, vr x0, vr x1, vr x2, vr b30, vi i0, vi i1, vi i2, vr b36, vr b40, vr b44, vr b48, vr b51, vi 0, vi 0, uu, uu] [(ii 0)]) (fun _ k => XS.iconst X1.here hx rfl (hb hby at_320) k) ?_
  refine bW T1 (mkF m 323 #[vi sa, vi ia, vi c0, vi c1, vi c2, vi 0, vi bb, vr x0, vr x1, vr x2, vr b30, vi i0, vi i1, vi i2, vr b36, vr b40, vr b44, vr b48, vr b51, vi 0, vi 0, vi 0, uu] []) (fun _ k => XS.istore X1.here hx rfl (hb hby at_321) rfl rfl k) ?_
  refine bW T1 (mkF m 325 #[vi sa, vi ia, vi c0, vi c1, vi c2, vi 0, vi bb, vr x0, vr x1, vr x2, vr b30, vi i0, vi i1, vi i2, vr b36, vr b40, vr b44, vr b48, vr b51, vi 0, vi 0, vi 0, uu] [(ii 0)]) (fun _ k => XS.iload X1.here hx rfl (hb hby at_323) rfl k) ?_
  refine bW T1 (mkF m 332 #[vi sa, vi ia, vi c0, vi c1, vi c2, vi 0, vi bb, vr x0, vr x1, vr x2, vr b30, vi i0, vi i1, vi i2, vr b36, vr b40, vr b44, vr b48, vr b51, vi 0, vi 0, vi 0, uu] []) (fun _ k => XS.ifYes X1.here hx rfl (pc0 := 325) (pc' := 332) rfl (hb hby at_325) rfl ((if0 _ _).trans (teq (by decide)).1) (by decide) (by decide) k) ?_
  refine bW T1 (mkF m 334 #[vi sa, vi ia, vi c0, vi c1, vi c2, vi 0, vi bb, vr x0, vr x1, vr x2, vr b30, vi i0, vi i1, vi i2, vr b36, vr b40, vr b44, vr b48, vr b51, vi 0, vi 0, vi 0, uu] [(ii 0)]) (fun _ k => XS.iload X1.here hx rfl (hb hby at_332) rfl k) ?_
  refine bW T1 (mkF m 341 #[vi sa, vi ia, vi c0, vi c1, vi c2, vi 0, vi bb, vr x0, vr x1, vr x2, vr b30, vi i0, vi i1, vi i2, vr b36, vr b40, vr b44, vr b48, vr b51, vi 0, vi 0, vi 0, uu] []) (fun _ k => XS.ifYes X1.here hx rfl (pc0 := 334) (pc' := 341) rfl (hb hby at_334) rfl ((if0 _ _).trans (teq (by decide)).1) (by decide) (by decide) k) ?_
  refine bW T1 (mkF m 343 #[vi sa, vi ia, vi c0, vi c1, vi c2, vi 0, vi bb, vr x0, vr x1, vr x2, vr b30, vi i0, vi i1, vi i2, vr b36, vr b40, vr b44, vr b48, vr b51, vi 0, vi 0, vi 0, uu] [(ii 0)]) (fun _ k => XS.iload X1.here hx rfl (hb hby at_341) rfl k) ?_
  refine bW T1 (mkF m 350 #[vi sa, vi ia, vi c0, vi c1, vi c2, vi 0, vi bb, vr x0, vr x1, vr x2, vr b30, vi i0, vi i1, vi i2, vr b36, vr b40, vr b44, vr b48, vr b51, vi 0, vi 0, vi 0, uu] []) (fun _ k => XS.ifYes X1.here hx rfl (pc0 := 343) (pc' := 350) rfl (hb hby at_343) rfl ((if0 _ _).trans (teq (by decide)).1) (by decide) (by decide) k) ?_
  refine bW T1 (mkF m 351 #[vi sa, vi ia, vi c0, vi c1, vi c2, vi 0, vi bb, vr x0, vr x1, vr x2, vr b30, vi i0, vi i1, vi i2, vr b36, vr b40, vr b44, vr b48, vr b51, vi 0, vi 0, vi 0, uu] [(.int (-1 : Int32))]) (fun _ k => XS.iconst X1.here hx rfl (hb hby at_350) k) ?_
  refine bW T1 (mkF m 353 #[vi sa, vi ia, vi c0, vi c1, vi c2, vi 0, vi bb, vr x0, vr x1, vr x2, vr b30, vi i0, vi i1, vi i2, vr b36, vr b40, vr b44, vr b48, vr b51, vi 0, vi 0, vi 0, vi (-1 : Int32)] []) (fun _ k => XS.istore X1.here hx rfl (hb hby at_351) rfl rfl k) ?_
  exact rm0_c9 (h1 := h1) (T1 := T1) (vm1 := vm1) hw X1 e1 Kc Nc Z0 hZ1 hown1 hS1 hk1 C1 hx hby hml hlk hrt Y36 Y37 Y38 Y39 rfl
theorem rm0_c7 {l : _} {Z : State} {a0 : Array Value} (hw : HW Z a0) {sa : Int32} {ia : Int32} {c0 : Int32} {c1 : Int32} {c2 : Int32} {cs : Int32} {aD : Addr} {kD : ClassId} {h0 : Heap} {n0 : Nat} {p : _} {e : _} {s : State} {m : _} {below : _} {meth : _} {c : _} {h1 : Heap} {T1 : State} {Lc : List Loc} {vm1 : Vm} {ks1 : Nat} {x0 : Addr} {x1 : Addr} {x2 : Addr} {b30 : Addr} {d32 : Addr} {kd32 : ClassId} {b48 : Addr} {bb : Int32} {i0 : Int32} {i1 : Int32} {i2 : Int32} {b36 : Addr} {b40 : Addr} {b44 : Addr} (X1 : Stand p l e room_1 (s.setVm vm1) m #[(.int sa), (.int ia), (.int c0), (.int c1), (.int c2)] below meth c T1 Lc 24 247) (e1 : T1.heap = h1) (Kc : Keep h0 h1 []) (Nc : Fr n0 Lc) (Z0 : n0 ≤ h0.size) (O0 : Old Z n0 h1) (S_DE : Sta Z Z.heap sL "DEFAULTCAPACITY_EMPTY_ELEMENTDATA" "[Ljava/lang/Object;" (.ref aD)) (V_aD : Arv Z Z.heap aD kD (.object sO) (0 : Int32) [] .null) (hZ1 : Z.Warmed39 (s.setVm vm1).vm) (hown1 : (s.setVm vm1).vm.findClass "com/example/nisaba/nisaba/isatab/ValuesFirstGivenPinLaw" = some m.cls) (hS1 : s.Since vm1 ks1) (hk1 : ks1 ≤ h1.size) (C1 : CHr Z consts_1 s.vm s.heap vm1 h1) (hx : p.tables.exec = Jvm.exec) (hby : c.code = code) (hml : c.maxLocals = 23) (hlk : meth.locks = false) (hrt : meth.sig.returnType = (some .boolean)) (Y3 : Exa Z h1 x0 sS) (Y6 : Exa Z h1 x1 sS) (Y9 : Exa Z h1 x2 sS) (Y12 : Exa Z h1 b30 sL) (Y14 : Fld Z h1 b30 sL "elementData" sE (.ref d32)) (Y15 : Fld Z h1 b30 sL "size" "I" (.int (3 : Int32))) (Y16 : Arv Z h1 d32 kd32 (.object sO) (10 : Int32) [(.ref x0), (.ref x1), (.ref x2), .null, .null, .null, .null, .null, .null, .null] .null) (Y32 : Exa Z h1 b48 sL) (Y33 : Fld Z h1 b48 sB "modCount" "I" (ii 0)) (Y34 : Fld Z h1 b48 sL "elementData" sE (.ref aD)) (Y35 : Fld Z h1 b48 sL "size" "I" (ii 0)) :
    own_GoW p.tables e below Z consts_1 (Q_rm0 Z sa ia c0 c1 c2 cs aD kD h0 n0) s 64 7488 T1 (mkF m 242 #[vi sa, vi ia, vi c0, vi c1, vi c2, vi 0, vi bb, vr x0, vr x1, vr x2, vr b30, vi i0, vi i1, vi i2, vr b36, vr b40, vr b44, vr b48, uu, uu, uu, uu, uu] []) := by
  have hEL : EW Z a0 consts_1 := own_EL hw
  obtain ⟨T51, h51, X51, e51, E51, A51, D51, -, st51⟩ := newO X1 hx hZ1 hown1 (hw _ (mo 107 rfl)) (hw _ (mo 108 rfl)) (hw _ (mo 109 rfl)) e1 (g := (mkF m 242 #[vi sa, vi ia, vi c0, vi c1, vi c2, vi 0, vi bb, vr x0, vr x1, vr x2, vr b30, vi i0, vi i1, vi i2, vr b36, vr b40, vr b44, vr b48, uu, uu, uu, uu, uu] [])) rfl (hb hby at_242) (by decide) (by decide)
  obtain ⟨b51, g51⟩ : ∃ z, z = h1.size := ⟨_, rfl⟩
  rw [← g51] at A51 D51 st51
  have E_b51 : Exa Z h51 b51 sV := A51
  have F_values_b51 : Fld Z h51 b51 sV "values" "Ljava/util/List;" .null := D51 (Or.inr (hw _ (mo 117 rfl))) (ty := (.object "java/util/List")) (by decide)
  have F_units_b51 : Fld Z h51 b51 sV "units" "Ljava/util/List;" .null := D51 (Or.inr (hw _ (mo 119 rfl))) (ty := (.object "java/util/List")) (by decide)
  have F_columns_b51 : Fld Z h51 b51 sV "columns" "Ljava/util/List;" .null := D51 (Or.inr (hw _ (mo 121 rfl))) (ty := (.object "java/util/List")) (by decide)
  have g_b51 : n0 ≤ b51 := Nat.le_trans (Nat.le_trans Z0 Kc.1) (Nat.le_of_eq g51.symm)
  have sz_b51 : h0.size ≤ b51 := Nat.le_trans Kc.1 (Nat.le_of_eq g51.symm)
  have K51 : Keep h0 h51 [] := Keep.ext Kc E51
  have C51 : CHr Z consts_1 s.vm s.heap vm1 h51 := CHr.trans C1 (CHr.ext E51 C1.1)
  refine bW T51 (mkF m 245 #[vi sa, vi ia, vi c0, vi c1, vi c2, vi 0, vi bb, vr x0, vr x1, vr x2, vr b30, vi i0, vi i1, vi i2, vr b36, vr b40, vr b44, vr b48, uu, uu, uu, uu, uu] [(.ref b51)]) (fun _ k => st51 _ k) ?_
  refine bW T51 (mkF m 246 #[vi sa, vi ia, vi c0, vi c1, vi c2, vi 0, vi bb, vr x0, vr x1, vr x2, vr b30, vi i0, vi i1, vi i2, vr b36, vr b40, vr b44, vr b48, uu, uu, uu, uu, uu] [(.ref b51), (.ref b51)]) (fun _ k => XS.dup X51.here hx rfl (hb hby at_245) rfl rfl k) ?_
  refine bW T51 (mkF m 248 #[vi sa, vi ia, vi c0, vi c1, vi c2, vi 0, vi bb, vr x0, vr x1, vr x2, vr b30, vi i0, vi i1, vi i2, vr b36, vr b40, vr b44, vr b48, uu, uu, uu, uu, uu] [(.ref b30), (.ref b51), (.ref b51)]) (fun _ k => XS.aload X51.here hx rfl (hb hby at_246) rfl rfl k) ?_
  refine bW T51 (mkF m 250 #[vi sa, vi ia, vi c0, vi c1, vi c2, vi 0, vi bb, vr x0, vr x1, vr x2, vr b30, vi i0, vi i1, vi i2, vr b36, vr b40, vr b44, vr b48, uu, uu, uu, uu, uu] [(.ref b48), (.ref b30), (.ref b51), (.ref b51)]) (fun _ k => XS.aload X51.here hx rfl (hb hby at_248) rfl rfl k) ?_
  have ne52 : b30 ≠ b51 := (Nat.ne_of_lt (Nat.lt_of_lt_of_le Y12.lt (Nat.le_of_eq g51.symm)))
  have ne53 : d32 ≠ b51 := (Nat.ne_of_lt (Nat.lt_of_lt_of_le Y16.lt (Nat.le_of_eq g51.symm)))
  have ne54 : b48 ≠ b51 := (Nat.ne_of_lt (Nat.lt_of_lt_of_le Y32.lt (Nat.le_of_eq g51.symm)))
  obtain ⟨_, _, ⟨T55, L55, k55, n55⟩, -, X55, hSq55, hgq55, ⟨Lc55, hQ55, l55, y55, z55, Cq55⟩, st55⟩ := X51.specialBackS hx (y := yy27) rfl hown1 (mvT hZ1 (hw _ (mo 110 rfl))) (mvT hZ1 (hw _ (mo 111 rfl))) (mvT hZ1 (hw _ (mo 112 rfl))) (by decide) (own_backSH (s := s) (EL := consts_1) (W := 1) (vin_0 l Z a0 hw [] b51 b30 b48 aD kD d32 kd32 x0 x1 x2 h51 n0 (Nat.le_trans (Nat.le_trans Z0 Kc.1) E51.1) (Old.ext O0 E51) S_DE V_aD E_b51 F_values_b51 F_units_b51 F_columns_b51 g_b51 (Exa.ext E51 Y12) (Fld.ext E51 Y15) (Fld.ext E51 Y14) (Arv.ext Y16 E51) (Exa.ext E51 Y3) (Exa.ext E51 Y6) (Exa.ext E51 Y9) (Exa.ext E51 Y32) (Fld.ext E51 Y33) (Fld.ext E51 Y34) (Fld.ext E51 Y35) ne52 ne53 ne54) hZ1 (hw _ (mo 112 rfl)) (hw _ (mo 109 rfl)) (by decide) (by decide) hEL C51.1 (fun _ _ => trivial)) (g := (mkF m 250 #[vi sa, vi ia, vi c0, vi c1, vi c2, vi 0, vi bb, vr x0, vr x1, vr x2, vr b30, vi i0, vi i1, vi i2, vr b36, vr b40, vr b44, vr b48, uu, uu, uu, uu, uu] [(.ref b48), (.ref b30), (.ref b51), (.ref b51)])) rfl (by rw [hml]; rfl) (Steps.refl _) (a := b51) (argsL := [(.ref b30), (.ref b48)]) (rest := [(.ref b51)]) (lenOf pd_19 rfl) rfl (Nat.le_of_eq rfl) (hb hby at_250) (fun _ _ => ⟨rfl, e51, (by decide : 28 ≤ _), (by decide : 260 ≤ _)⟩)
  dsimp only [Pt.U, Pt.locs, Pt.cells, Pt.slots] at X55 l55 y55 z55 st55 hQ55 hSq55 hgq55 Cq55
  subst l55 y55 z55
  obtain ⟨rfl, N55q, K55, vl55, dv55, kv55, Fa55, Ev55, Fz55, -⟩ := hQ55
  have N55 := Fr.app Nc N55q
  have KK55 : Keep h0 T55.heap [] := Keep.trans K51 K55 (allS (Or.inr sz_b51) all0)
  have hS55 := foldS hS1 (T := T51) (by rw [e51]; exact (Nat.le_trans hk1 E51.1)) hSq55 hgq55
  have hZ55 : Z.Warmed39 (s.setVm T55.vm).vm := State.Warmed39.trans hZ1 hSq55.1
  have hown55 : (s.setVm T55.vm).vm.findClass "com/example/nisaba/nisaba/isatab/ValuesFirstGivenPinLaw" = some m.cls := by show T55.vm.findClass "com/example/nisaba/nisaba/isatab/ValuesFirstGivenPinLaw" = some m.cls; rw [hSq55.1.alike.findClass]; exact hown1
  have X55 : Stand p l e room_1 (s.setVm T55.vm) m #[(.int sa), (.int ia), (.int c0), (.int c1), (.int c2)] below meth c T55 (Lc ++ Lc55) ((24 + 1) + 3) ((247 + 3) + 10) := X55
  have C55 : CHr Z consts_1 s.vm s.heap T55.vm T55.heap := CHr.trans C51 Cq55
  refine bW T55 (mkF m 253 #[vi sa, vi ia, vi c0, vi c1, vi c2, vi 0, vi bb, vr x0, vr x1, vr x2, vr b30, vi i0, vi i1, vi i2, vr b36, vr b40, vr b44, vr b48, uu, uu, uu, uu, uu] [(.ref b51)]) (fun _ k => st55.trans k) ?_
  refine bW T55 (mkF m 255 #[vi sa, vi ia, vi c0, vi c1, vi c2, vi 0, vi bb, vr x0, vr x1, vr x2, vr b30, vi i0, vi i1, vi i2, vr b36, vr b40, vr b44, vr b48, vr b51, uu, uu, uu, uu] []) (fun _ k => XS.astore X55.here hx rfl (hb hby at_253) rfl rfl rfl k) ?_
  exact rm0_c8 (h1 := T55.heap) (T1 := T55) (vm1 := T55.vm) hw X55 rfl KK55 N55 Z0 hZ55 hown55 hS55 (Nat.le_refl _) C55 hx hby hml hlk hrt (Exa.keep E_b51 K55) Fa55 Ev55 Fz55
theorem rm0_c6 {l : _} {Z : State} {a0 : Array Value} (hw : HW Z a0) {sa : Int32} {ia : Int32} {c0 : Int32} {c1 : Int32} {c2 : Int32} {cs : Int32} {aD : Addr} {kD : ClassId} {h0 : Heap} {n0 : Nat} {p : _} {e : _} {s : State} {m : _} {below : _} {meth : _} {c : _} {h1 : Heap} {T1 : State} {Lc : List Loc} {vm1 : Vm} {ks1 : Nat} {x0 : Addr} {x1 : Addr} {x2 : Addr} {b30 : Addr} {d32 : Addr} {kd32 : ClassId} {b48 : Addr} {bb : Int32} {i0 : Int32} {i1 : Int32} {i2 : Int32} {b36 : Addr} {b40 : Addr} {b44 : Addr} (X1 : Stand p l e room_1 (s.setVm vm1) m #[(.int sa), (.int ia), (.int c0), (.int c1), (.int c2)] below meth c T1 Lc 24 247) (e1 : T1.heap = h1) (Kc : Keep h0 h1 []) (Nc : Fr n0 Lc) (Z0 : n0 ≤ h0.size) (O0 : Old Z n0 h1) (S_DE : Sta Z Z.heap sL "DEFAULTCAPACITY_EMPTY_ELEMENTDATA" "[Ljava/lang/Object;" (.ref aD)) (V_aD : Arv Z Z.heap aD kD (.object sO) (0 : Int32) [] .null) (hZ1 : Z.Warmed39 (s.setVm vm1).vm) (hown1 : (s.setVm vm1).vm.findClass "com/example/nisaba/nisaba/isatab/ValuesFirstGivenPinLaw" = some m.cls) (hS1 : s.Since vm1 ks1) (hk1 : ks1 ≤ h1.size) (C1 : CHr Z consts_1 s.vm s.heap vm1 h1) (hx : p.tables.exec = Jvm.exec) (hby : c.code = code) (hml : c.maxLocals = 23) (hlk : meth.locks = false) (hrt : meth.sig.returnType = (some .boolean)) (Y3 : Exa Z h1 x0 sS) (Y6 : Exa Z h1 x1 sS) (Y9 : Exa Z h1 x2 sS) (Y12 : Exa Z h1 b30 sL) (Y14 : Fld Z h1 b30 sL "elementData" sE (.ref d32)) (Y15 : Fld Z h1 b30 sL "size" "I" (.int (3 : Int32))) (Y16 : Arv Z h1 d32 kd32 (.object sO) (10 : Int32) [(.ref x0), (.ref x1), (.ref x2), .null, .null, .null, .null, .null, .null, .null] .null) (Y32 : Exa Z h1 b48 sL) (Y33 : Fld Z h1 b48 sB "modCount" "I" (ii 0)) (Y34 : Fld Z h1 b48 sL "elementData" sE (.ref aD)) (Y35 : Fld Z h1 b48 sL "size" "I" (ii 0)) :
    own_GoW p.tables e below Z consts_1 (Q_rm0 Z sa ia c0 c1 c2 cs aD kD h0 n0) s 64 7488 T1 (mkF m 201 #[vi sa, vi ia, vi c0, vi c1, vi c2, vi 0, vi bb, vr x0, vr x1, vr x2, vr b30, vi i0, vi i1, vi i2, vr b36, vr b40, vr b44, vr b48, uu, uu, uu, uu, uu] []) := by
  refine bW T1 (mkF m 203 #[vi sa, vi ia, vi c0, vi c1, vi c2, vi 0, vi bb, vr x0, vr x1, vr x2, vr b30, vi i0, vi i1, vi i2, vr b36, vr b40, vr b44, vr b48, uu, uu, uu, uu, uu] [(ii 0)]) (fun _ k => XS.iload X1.here hx rfl (hb hby at_201) rfl k) ?_
  refine bW T1 (mkF m 214 #[vi sa, vi ia, vi c0, vi c1, vi c2, vi 0, vi bb, vr x0, vr x1, vr x2, vr b30, vi i0, vi i1, vi i2, vr b36, vr b40, vr b44, vr b48, uu, uu, uu, uu, uu] []) (fun _ k => XS.ifYes X1.here hx rfl (pc0 := 203) (pc' := 214) rfl (hb hby at_203) rfl ((if0 _ _).trans (flt (by decide)).2.2.2) (by decide) (by decide) k) ?_
  refine bW T1 (mkF m 216 #[vi sa, vi ia, vi c0, vi c1, vi c2, vi 0, vi bb, vr x0, vr x1, vr x2, vr b30, vi i0, vi i1, vi i2, vr b36, vr b40, vr b44, vr b48, uu, uu, uu, uu, uu] [(ii 0)]) (fun _ k => XS.iload X1.here hx rfl (hb hby at_214) rfl k) ?_
  refine bW T1 (mkF m 217 #[vi sa, vi ia, vi c0, vi c1, vi c2, vi 0, vi bb, vr x0, vr x1, vr x2, vr b30, vi i0, vi i1, vi i2, vr b36, vr b40, vr b44, vr b48, uu, uu, uu, uu, uu] [(.int (1 : Int32)), (ii 0)]) (fun _ k => XS.iconst X1.here hx rfl (hb hby at_216) k) ?_
  refine bW T1 (mkF m 228 #[vi sa, vi ia, vi c0, vi c1, vi c2, vi 0, vi bb, vr x0, vr x1, vr x2, vr b30, vi i0, vi i1, vi i2, vr b36, vr b40, vr b44, vr b48, uu, uu, uu, uu, uu] []) (fun _ k => XS.icmpYes X1.here hx rfl (pc0 := 217) (pc' := 228) rfl (hb hby at_217) rfl (flt (by decide)).2.2.2 (by decide) (by decide) k) ?_
  refine bW T1 (mkF m 230 #[vi sa, vi ia, vi c0, vi c1, vi c2, vi 0, vi bb, vr x0, vr x1, vr x2, vr b30, vi i0, vi i1, vi i2, vr b36, vr b40, vr b44, vr b48, uu, uu, uu, uu, uu] [(ii 0)]) (fun _ k => XS.iload X1.here hx rfl (hb hby at_228) rfl k) ?_
  refine bW T1 (mkF m 231 #[vi sa, vi ia, vi c0, vi c1, vi c2, vi 0, vi bb, vr x0, vr x1, vr x2, vr b30, vi i0, vi i1, vi i2, vr b36, vr b40, vr b44, vr b48, uu, uu, uu, uu, uu] [(.int (2 : Int32)), (ii 0)]) (fun _ k => XS.iconst X1.here hx rfl (hb hby at_230) k) ?_
  refine bW T1 (mkF m 242 #[vi sa, vi ia, vi c0, vi c1, vi c2, vi 0, vi bb, vr x0, vr x1, vr x2, vr b30, vi i0, vi i1, vi i2, vr b36, vr b40, vr b44, vr b48, uu, uu, uu, uu, uu] []) (fun _ k => XS.icmpYes X1.here hx rfl (pc0 := 231) (pc' := 242) rfl (hb hby at_231) rfl (flt (by decide)).2.2.2 (by decide) (by decide) k) ?_
  exact rm0_c7 (h1 := h1) (T1 := T1) (vm1 := vm1) hw X1 e1 Kc Nc Z0 O0 S_DE V_aD hZ1 hown1 hS1 hk1 C1 hx hby hml hlk hrt Y3 Y6 Y9 Y12 Y14 Y15 Y16 Y32 Y33 Y34 Y35
theorem rm0_c13 {l : _} {Z : State} {a0 : Array Value} (hw : HW Z a0) {sa : Int32} {ia : Int32} {c0 : Int32} {c1 : Int32} {c2 : Int32} {cs : Int32} {aD : Addr} {kD : ClassId} {h0 : Heap} {n0 : Nat} {p : _} {e : _} {s : State} {m : _} {below : _} {meth : _} {c : _} {h1 : Heap} {T1 : State} {Lc : List Loc} {vm1 : Vm} {ks1 : Nat} {x0 : Addr} {t0 : Addr} {q0 : ClassId} {z0 : Int32} {v0 : List Value} {x1 : Addr} {t1 : Addr} {q1 : ClassId} {z1 : Int32} {v1 : List Value} {x2 : Addr} {t2 : Addr} {q2 : ClassId} {z2 : Int32} {v2 : List Value} {b60 : Addr} {vl66 : Addr} {dv66 : Addr} {kv66 : ClassId} {i0 : Int32} {jx : Int32} {bb : Int32} {b30 : Addr} {i1 : Int32} {i2 : Int32} {b36 : Addr} {b40 : Addr} {b44 : Addr} {b48 : Addr} {ga : Int32} {gb : Int32} {gc : Int32} (X1 : Stand p l e room_1 (s.setVm vm1) m #[(.int sa), (.int ia), (.int c0), (.int c1), (.int c2)] below meth c T1 Lc 33 294) (e1 : T1.heap = h1) (Kc : Keep h0 h1 []) (Nc : Fr n0 Lc) (Z0 : n0 ≤ h0.size) (hZ1 : Z.Warmed39 (s.setVm vm1).vm) (hown1 : (s.setVm vm1).vm.findClass "com/example/nisaba/nisaba/isatab/ValuesFirstGivenPinLaw" = some m.cls) (hS1 : s.Since vm1 ks1) (hk1 : ks1 ≤ h1.size) (C1 : CHr Z consts_1 s.vm s.heap vm1 h1) (hx : p.tables.exec = Jvm.exec) (hby : c.code = code) (hml : c.maxLocals = 23) (hlk : meth.locks = false) (hrt : meth.sig.returnType = (some .boolean)) (Y3 : Exa Z h1 x0 sS) (Y4 : Fld Z h1 x0 sS "value" "[B" (.ref t0)) (Y5 : Arv Z h1 t0 q0 .byte z0 v0 (ii 0)) (Y6 : Exa Z h1 x1 sS) (Y7 : Fld Z h1 x1 sS "value" "[B" (.ref t1)) (Y8 : Arv Z h1 t1 q1 .byte z1 v1 (ii 0)) (Y9 : Exa Z h1 x2 sS) (Y10 : Fld Z h1 x2 sS "value" "[B" (.ref t2)) (Y11 : Arv Z h1 t2 q2 .byte z2 v2 (ii 0)) (Y37 : Exa Z h1 b60 sV) (Y38 : Fld Z h1 b60 sV "values" "Ljava/util/List;" (.ref vl66)) (Y39 : Exa Z h1 vl66 sL) (Y40 : Fld Z h1 vl66 sL "size" "I" (.int (1 : Int32))) (Y41 : Fld Z h1 vl66 sL "elementData" sE (.ref dv66)) (Y42 : Arv Z h1 dv66 kv66 (.object sO) (10 : Int32) [(.ref (own_p3 i0 x0 x1 x2)), .null, .null, .null, .null, .null, .null, .null, .null, .null] .null) (hj : (own_fg1 (own_p3 i0 z0 z1 z2)) = jx) :
    own_GoW p.tables e below Z consts_1 (Q_rm0 Z sa ia c0 c1 c2 cs aD kD h0 n0) s 64 7488 T1 (mkF m 353 #[vi sa, vi ia, vi c0, vi c1, vi c2, vi 1, vi bb, vr x0, vr x1, vr x2, vr b30, vi i0, vi i1, vi i2, vr b36, vr b40, vr b44, vr b48, vr b60, vi ga, vi gb, vi gc, vi jx] []) := by
  have hEL : EW Z a0 consts_1 := own_EL hw
  refine bW T1 (mkF m 355 #[vi sa, vi ia, vi c0, vi c1, vi c2, vi 1, vi bb, vr x0, vr x1, vr x2, vr b30, vi i0, vi i1, vi i2, vr b36, vr b40, vr b44, vr b48, vr b60, vi ga, vi gb, vi gc, vi jx] [(.ref b60)]) (fun _ k => XS.aload X1.here hx rfl (hb hby at_353) rfl rfl k) ?_
  obtain ⟨cq69, kq69, q69a, q69b, q69c⟩ := isOf hZ1 e1 Y37
  obtain ⟨_, _, ⟨T69, L69, k69, n69⟩, -, X69, ⟨Lc69, hQ69, l69, y69, z69⟩, st69⟩ := X1.virtualBack hx (y := yy33) (z := yy33) hown1 (mvT hZ1 (hw _ (mo 158 rfl))) (mvT hZ1 (hw _ (mo 159 rfl))) (notFace_of_selects (args := #[]) (mvT hZ1 (hw _ (mo 161 rfl)))) (mvT hZ1 (hw _ (mo 161 rfl))) (mvT hZ1 (hw _ (mo 160 rfl))) (by decide) (backOf (W := 0) (fgv_1 l Z a0 hw [] b60 vl66 dv66 kv66 (own_p3 i0 x0 x1 x2) (own_p3 i0 t0 t1 t2) (own_p3 i0 q0 q1 q2) (own_p3 i0 z0 z1 z2) (own_p3 i0 v0 v1 v2) h1 n0 (Nat.le_trans Z0 Kc.1) Y38 Y39 Y40 Y41 Y42 (own_pE i0 Y3 Y6 Y9) (own_pF i0 Y4 Y7 Y10) (own_pV i0 Y5 Y8 Y11)) hZ1 (hw _ (mo 162 rfl)) (hw _ (mo 109 rfl)) (by decide) (by decide)) q69a q69c (g := (mkF m 355 #[vi sa, vi ia, vi c0, vi c1, vi c2, vi 1, vi bb, vr x0, vr x1, vr x2, vr b30, vi i0, vi i1, vi i2, vr b36, vr b40, vr b44, vr b48, vr b60, vi ga, vi gb, vi gc, vi jx] [(.ref b60)])) rfl (by rw [hml]; rfl) (Steps.refl _) (argsL := []) (rest := []) (lenOf pd_14 rfl) rfl (Nat.le_of_eq rfl) (hb hby at_355) (fun _ _ => ⟨rfl, e1, (by decide : 33 ≤ _), (by decide : 294 ≤ _)⟩)
  dsimp only [Pt.U, Pt.locs, Pt.cells, Pt.slots] at X69 l69 y69 z69 st69 hQ69
  subst l69 y69 z69
  obtain ⟨rfl, N69q, e69⟩ := hQ69
  have N69 := Fr.app Nc N69q
  refine bW T69 (mkF m 358 #[vi sa, vi ia, vi c0, vi c1, vi c2, vi 1, vi bb, vr x0, vr x1, vr x2, vr b30, vi i0, vi i1, vi i2, vr b36, vr b40, vr b44, vr b48, vr b60, vi ga, vi gb, vi gc, vi jx] [(.int (own_fg1 (own_p3 i0 z0 z1 z2)))]) (fun _ k => st69.trans k) ?_
  refine bW T69 (mkF m 360 #[vi sa, vi ia, vi c0, vi c1, vi c2, vi 1, vi bb, vr x0, vr x1, vr x2, vr b30, vi i0, vi i1, vi i2, vr b36, vr b40, vr b44, vr b48, vr b60, vi ga, vi gb, vi gc, vi jx] [(.int jx), (.int (own_fg1 (own_p3 i0 z0 z1 z2)))]) (fun _ k => XS.iload X69.here hx rfl (hb hby at_358) rfl k) ?_
  refine bW T69 (mkF m 363 #[vi sa, vi ia, vi c0, vi c1, vi c2, vi 1, vi bb, vr x0, vr x1, vr x2, vr b30, vi i0, vi i1, vi i2, vr b36, vr b40, vr b44, vr b48, vr b60, vi ga, vi gb, vi gc, vi jx] []) (fun _ k => XS.icmpNo X69.here hx rfl (hb hby at_360) rfl (teq hj).2 k) ?_
  refine bW T69 (mkF m 364 #[vi sa, vi ia, vi c0, vi c1, vi c2, vi 1, vi bb, vr x0, vr x1, vr x2, vr b30, vi i0, vi i1, vi i2, vr b36, vr b40, vr b44, vr b48, vr b60, vi ga, vi gb, vi gc, vi jx] [(.int (1 : Int32))]) (fun _ k => XS.iconst X69.here hx rfl (hb hby at_363) k) ?_
  refine bW T69 (mkF m 368 #[vi sa, vi ia, vi c0, vi c1, vi c2, vi 1, vi bb, vr x0, vr x1, vr x2, vr b30, vi i0, vi i1, vi i2, vr b36, vr b40, vr b44, vr b48, vr b60, vi ga, vi gb, vi gc, vi jx] [(.int (1 : Int32))]) (fun _ k => XS.goto X69.here hx rfl (pc0 := 364) (pc' := 368) rfl (hb hby at_364) (by decide) (by decide) k) ?_
  refine own_retW (s := s) X69 hlk hS1 (by rw [e69]; exact hk1) hZ1 hEL C1 e69 (v := some (.int (1 : Int32))) (fun h => by rw [hrt] at h; cases h) (fun fs hr => retN X69 hx (t := .boolean) hrt (by simp) (hb hby at_368) hr) ?_ (by decide) (by decide)
  rw [e69]
  exact ⟨rfl, N69⟩
theorem rm0_c12 {l : _} {Z : State} {a0 : Array Value} (hw : HW Z a0) {sa : Int32} {ia : Int32} {c0 : Int32} {c1 : Int32} {c2 : Int32} {cs : Int32} {aD : Addr} {kD : ClassId} {h0 : Heap} {n0 : Nat} {p : _} {e : _} {s : State} {m : _} {below : _} {meth : _} {c : _} {h1 : Heap} {T1 : State} {Lc : List Loc} {vm1 : Vm} {ks1 : Nat} {x0 : Addr} {t0 : Addr} {q0 : ClassId} {z0 : Int32} {v0 : List Value} {x1 : Addr} {t1 : Addr} {q1 : ClassId} {z1 : Int32} {v1 : List Value} {x2 : Addr} {t2 : Addr} {q2 : ClassId} {z2 : Int32} {v2 : List Value} {b60 : Addr} {vl66 : Addr} {dv66 : Addr} {kv66 : ClassId} {i0 : Int32} {bb : Int32} {b30 : Addr} {i1 : Int32} {i2 : Int32} {b36 : Addr} {b40 : Addr} {b44 : Addr} {b48 : Addr} (X1 : Stand p l e room_1 (s.setVm vm1) m #[(.int sa), (.int ia), (.int c0), (.int c1), (.int c2)] below meth c T1 Lc 33 294) (e1 : T1.heap = h1) (Kc : Keep h0 h1 []) (Nc : Fr n0 Lc) (Z0 : n0 ≤ h0.size) (hZ1 : Z.Warmed39 (s.setVm vm1).vm) (hown1 : (s.setVm vm1).vm.findClass "com/example/nisaba/nisaba/isatab/ValuesFirstGivenPinLaw" = some m.cls) (hS1 : s.Since vm1 ks1) (hk1 : ks1 ≤ h1.size) (C1 : CHr Z consts_1 s.vm s.heap vm1 h1) (hx : p.tables.exec = Jvm.exec) (hby : c.code = code) (hml : c.maxLocals = 23) (hlk : meth.locks = false) (hrt : meth.sig.returnType = (some .boolean)) (Y3 : Exa Z h1 x0 sS) (Y4 : Fld Z h1 x0 sS "value" "[B" (.ref t0)) (Y5 : Arv Z h1 t0 q0 .byte z0 v0 (ii 0)) (Y6 : Exa Z h1 x1 sS) (Y7 : Fld Z h1 x1 sS "value" "[B" (.ref t1)) (Y8 : Arv Z h1 t1 q1 .byte z1 v1 (ii 0)) (Y9 : Exa Z h1 x2 sS) (Y10 : Fld Z h1 x2 sS "value" "[B" (.ref t2)) (Y11 : Arv Z h1 t2 q2 .byte z2 v2 (ii 0)) (Y37 : Exa Z h1 b60 sV) (Y38 : Fld Z h1 b60 sV "values" "Ljava/util/List;" (.ref vl66)) (Y39 : Exa Z h1 vl66 sL) (Y40 : Fld Z h1 vl66 sL "size" "I" (.int (1 : Int32))) (Y41 : Fld Z h1 vl66 sL "elementData" sE (.ref dv66)) (Y42 : Arv Z h1 dv66 kv66 (.object sO) (10 : Int32) [(.ref (own_p3 i0 x0 x1 x2)), .null, .null, .null, .null, .null, .null, .null, .null, .null] .null) (hz0 : z0 = own_z bb (0 : Int32)) (hz1 : z1 = own_z bb (1 : Int32)) (hz2 : z2 = own_z bb (2 : Int32)) (hi0 : i0 = 0 ∨ i0 = 1 ∨ i0 = 2) :
    own_GoW p.tables e below Z consts_1 (Q_rm0 Z sa ia c0 c1 c2 cs aD kD h0 n0) s 64 7488 T1 (mkF m 255 #[vi sa, vi ia, vi c0, vi c1, vi c2, vi 1, vi bb, vr x0, vr x1, vr x2, vr b30, vi i0, vi i1, vi i2, vr b36, vr b40, vr b44, vr b48, vr b60, uu, uu, uu, uu] []) := by
  refine bW T1 (mkF m 257 #[vi sa, vi ia, vi c0, vi c1, vi c2, vi 1, vi bb, vr x0, vr x1, vr x2, vr b30, vi i0, vi i1, vi i2, vr b36, vr b40, vr b44, vr b48, vr b60, uu, uu, uu, uu] [(.int (1 : Int32))]) (fun _ k => XS.iload X1.here hx rfl (hb hby at_255) rfl k) ?_
  refine bW T1 (mkF m 260 #[vi sa, vi ia, vi c0, vi c1, vi c2, vi 1, vi bb, vr x0, vr x1, vr x2, vr b30, vi i0, vi i1, vi i2, vr b36, vr b40, vr b44, vr b48, vr b60, uu, uu, uu, uu] []) (fun _ k => XS.ifNo X1.here hx rfl (hb hby at_257) rfl ((if0 _ _).trans (tlt (by decide)).2.2.2) k) ?_
  refine bW T1 (mkF m 262 #[vi sa, vi ia, vi c0, vi c1, vi c2, vi 1, vi bb, vr x0, vr x1, vr x2, vr b30, vi i0, vi i1, vi i2, vr b36, vr b40, vr b44, vr b48, vr b60, uu, uu, uu, uu] [(.int bb)]) (fun _ k => XS.iload X1.here hx rfl (hb hby at_260) rfl k) ?_
  refine bW T1 (mkF m 264 #[vi sa, vi ia, vi c0, vi c1, vi c2, vi 1, vi bb, vr x0, vr x1, vr x2, vr b30, vi i0, vi i1, vi i2, vr b36, vr b40, vr b44, vr b48, vr b60, uu, uu, uu, uu] [(.int i0), (.int bb)]) (fun _ k => XS.iload X1.here hx rfl (hb hby at_262) rfl k) ?_
  obtain ⟨_, _, ⟨T67, L67, k67, n67⟩, -, X67, ⟨Lc67, hQ67, l67, y67, z67⟩, st67⟩ := Jvm.LawKit.callS X1 hx (y := yy0) hown1 (mvT hZ1 (hw _ (mo 0 rfl))) (mvT hZ1 (hw _ (mo 1 rfl))) (mvT hZ1 (hw _ (mo 2 rfl))) (mvT hZ1 (hw _ (mo 3 rfl))) (by decide) (backOf (W := 0) (emc l Z a0 hw [] bb i0  h1 n0 (Nat.le_trans Z0 Kc.1) ) hZ1 (hw _ (mo 3 rfl)) (hw _ (mo 2 rfl)) (by decide) (by decide)) (g := (mkF m 264 #[vi sa, vi ia, vi c0, vi c1, vi c2, vi 1, vi bb, vr x0, vr x1, vr x2, vr b30, vi i0, vi i1, vi i2, vr b36, vr b40, vr b44, vr b48, vr b60, uu, uu, uu, uu] [(.int i0), (.int bb)])) rfl (by rw [hml]; rfl) (argsL := [(.int bb), (.int i0)]) (rest := []) (lenOf pd_16 rfl) rfl (Nat.le_of_eq rfl) (hb hby at_264) (fun _ _ => ⟨rfl, e1, (by decide : 33 ≤ _), (by decide : 294 ≤ _)⟩)
  dsimp only [Pt.U, Pt.locs, Pt.cells, Pt.slots] at X67 l67 y67 z67 st67 hQ67
  subst l67 y67 z67
  obtain ⟨rfl, N67q, e67⟩ := hQ67
  have N67 := Fr.app Nc N67q
  refine bW T67 (mkF m 267 #[vi sa, vi ia, vi c0, vi c1, vi c2, vi 1, vi bb, vr x0, vr x1, vr x2, vr b30, vi i0, vi i1, vi i2, vr b36, vr b40, vr b44, vr b48, vr b60, uu, uu, uu, uu] [(.int (own_e bb i0))]) (fun _ k => st67 _ k) ?_
  by_cases hc267_68 : (own_e bb i0) = (0 : Int32)
  · skip
    refine bW T67 (mkF m 270 #[vi sa, vi ia, vi c0, vi c1, vi c2, vi 1, vi bb, vr x0, vr x1, vr x2, vr b30, vi i0, vi i1, vi i2, vr b36, vr b40, vr b44, vr b48, vr b60, uu, uu, uu, uu] []) (fun _ k => XS.ifNo X67.here hx rfl (hb hby at_267) rfl ((if0 _ _).trans (teq hc267_68).2) k) ?_
    refine bW T67 (mkF m 271 #[vi sa, vi ia, vi c0, vi c1, vi c2, vi 1, vi bb, vr x0, vr x1, vr x2, vr b30, vi i0, vi i1, vi i2, vr b36, vr b40, vr b44, vr b48, vr b60, uu, uu, uu, uu] [(.int (1 : Int32))]) (fun _ k => XS.iconst X67.here hx rfl (hb hby at_270) k) ?_
    refine bW T67 (mkF m 275 #[vi sa, vi ia, vi c0, vi c1, vi c2, vi 1, vi bb, vr x0, vr x1, vr x2, vr b30, vi i0, vi i1, vi i2, vr b36, vr b40, vr b44, vr b48, vr b60, uu, uu, uu, uu] [(.int (1 : Int32))]) (fun _ k => XS.goto X67.here hx rfl (pc0 := 271) (pc' := 275) rfl (hb hby at_271) (by decide) (by decide) k) ?_
    refine bW T67 (mkF m 277 #[vi sa, vi ia, vi c0, vi c1, vi c2, vi 1, vi bb, vr x0, vr x1, vr x2, vr b30, vi i0, vi i1, vi i2, vr b36, vr b40, vr b44, vr b48, vr b60, vi 1, uu, uu, uu] []) (fun _ k => XS.istore X67.here hx rfl (hb hby at_275) rfl rfl k) ?_
    refine bW T67 (mkF m 279 #[vi sa, vi ia, vi c0, vi c1, vi c2, vi 1, vi bb, vr x0, vr x1, vr x2, vr b30, vi i0, vi i1, vi i2, vr b36, vr b40, vr b44, vr b48, vr b60, vi 1, uu, uu, uu] [(.int (1 : Int32))]) (fun _ k => XS.iload X67.here hx rfl (hb hby at_277) rfl k) ?_
    refine bW T67 (mkF m 280 #[vi sa, vi ia, vi c0, vi c1, vi c2, vi 1, vi bb, vr x0, vr x1, vr x2, vr b30, vi i0, vi i1, vi i2, vr b36, vr b40, vr b44, vr b48, vr b60, vi 1, uu, uu, uu] [(.int (1 : Int32)), (.int (1 : Int32))]) (fun _ k => XS.iconst X67.here hx rfl (hb hby at_279) k) ?_
    refine bW T67 (mkF m 297 #[vi sa, vi ia, vi c0, vi c1, vi c2, vi 1, vi bb, vr x0, vr x1, vr x2, vr b30, vi i0, vi i1, vi i2, vr b36, vr b40, vr b44, vr b48, vr b60, vi 1, uu, uu, uu] []) (fun _ k => XS.icmpYes X67.here hx rfl (pc0 := 280) (pc' := 297) rfl (hb hby at_280) rfl (flt (by decide)).2.2.2 (by decide) (by decide) k) ?_
    refine bW T67 (mkF m 298 #[vi sa, vi ia, vi c0, vi c1, vi c2, vi 1, vi bb, vr x0, vr x1, vr x2, vr b30, vi i0, vi i1, vi i2, vr b36, vr b40, vr b44, vr b48, vr b60, vi 1, uu, uu, uu] [(ii 0)]) (fun _ k => XS.iconst X67.here hx rfl (hb hby at_297) k) ?_
    refine bW T67 (mkF m 300 #[vi sa, vi ia, vi c0, vi c1, vi c2, vi 1, vi bb, vr x0, vr x1, vr x2, vr b30, vi i0, vi i1, vi i2, vr b36, vr b40, vr b44, vr b48, vr b60, vi 1, vi 0, uu, uu] []) (fun _ k => XS.istore X67.here hx rfl (hb hby at_298) rfl rfl k) ?_
    refine bW T67 (mkF m 302 #[vi sa, vi ia, vi c0, vi c1, vi c2, vi 1, vi bb, vr x0, vr x1, vr x2, vr b30, vi i0, vi i1, vi i2, vr b36, vr b40, vr b44, vr b48, vr b60, vi 1, vi 0, uu, uu] [(.int (1 : Int32))]) (fun _ k => XS.iload X67.here hx rfl (hb hby at_300) rfl k) ?_
    refine bW T67 (mkF m 303 #[vi sa, vi ia, vi c0, vi c1, vi c2, vi 1, vi bb, vr x0, vr x1, vr x2, vr b30, vi i0, vi i1, vi i2, vr b36, vr b40, vr b44, vr b48, vr b60, vi 1, vi 0, uu, uu] [(.int (2 : Int32)), (.int (1 : Int32))]) (fun _ k => XS.iconst X67.here hx rfl (hb hby at_302) k) ?_
    refine bW T67 (mkF m 320 #[vi sa, vi ia, vi c0, vi c1, vi c2, vi 1, vi bb, vr x0, vr x1, vr x2, vr b30, vi i0, vi i1, vi i2, vr b36, vr b40, vr b44, vr b48, vr b60, vi 1, vi 0, uu, uu] []) (fun _ k => XS.icmpYes X67.here hx rfl (pc0 := 303) (pc' := 320) rfl (hb hby at_303) rfl (flt (by decide)).2.2.2 (by decide) (by decide) k) ?_
    refine bW T67 (mkF m 321 #[vi sa, vi ia, vi c0, vi c1, vi c2, vi 1, vi bb, vr x0, vr x1, vr x2, vr b30, vi i0, vi i1, vi i2, vr b36, vr b40, vr b44, vr b48, vr b60, vi 1, vi 0, uu, uu] [(ii 0)]) (fun _ k => XS.iconst X67.here hx rfl (hb hby at_320) k) ?_
    refine bW T67 (mkF m 323 #[vi sa, vi ia, vi c0, vi c1, vi c2, vi 1, vi bb, vr x0, vr x1, vr x2, vr b30, vi i0, vi i1, vi i2, vr b36, vr b40, vr b44, vr b48, vr b60, vi 1, vi 0, vi 0, uu] []) (fun _ k => XS.istore X67.here hx rfl (hb hby at_321) rfl rfl k) ?_
    refine bW T67 (mkF m 325 #[vi sa, vi ia, vi c0, vi c1, vi c2, vi 1, vi bb, vr x0, vr x1, vr x2, vr b30, vi i0, vi i1, vi i2, vr b36, vr b40, vr b44, vr b48, vr b60, vi 1, vi 0, vi 0, uu] [(.int (1 : Int32))]) (fun _ k => XS.iload X67.here hx rfl (hb hby at_323) rfl k) ?_
    refine bW T67 (mkF m 328 #[vi sa, vi ia, vi c0, vi c1, vi c2, vi 1, vi bb, vr x0, vr x1, vr x2, vr b30, vi i0, vi i1, vi i2, vr b36, vr b40, vr b44, vr b48, vr b60, vi 1, vi 0, vi 0, uu] []) (fun _ k => XS.ifNo X67.here hx rfl (hb hby at_325) rfl ((if0 _ _).trans (feq (by decide)).1) k) ?_
    refine bW T67 (mkF m 329 #[vi sa, vi ia, vi c0, vi c1, vi c2, vi 1, vi bb, vr x0, vr x1, vr x2, vr b30, vi i0, vi i1, vi i2, vr b36, vr b40, vr b44, vr b48, vr b60, vi 1, vi 0, vi 0, uu] [(ii 0)]) (fun _ k => XS.iconst X67.here hx rfl (hb hby at_328) k) ?_
    refine bW T67 (mkF m 351 #[vi sa, vi ia, vi c0, vi c1, vi c2, vi 1, vi bb, vr x0, vr x1, vr x2, vr b30, vi i0, vi i1, vi i2, vr b36, vr b40, vr b44, vr b48, vr b60, vi 1, vi 0, vi 0, uu] [(ii 0)]) (fun _ k => XS.goto X67.here hx rfl (pc0 := 329) (pc' := 351) rfl (hb hby at_329) (by decide) (by decide) k) ?_
    refine bW T67 (mkF m 353 #[vi sa, vi ia, vi c0, vi c1, vi c2, vi 1, vi bb, vr x0, vr x1, vr x2, vr b30, vi i0, vi i1, vi i2, vr b36, vr b40, vr b44, vr b48, vr b60, vi 1, vi 0, vi 0, vi 0] []) (fun _ k => XS.istore X67.here hx rfl (hb hby at_351) rfl rfl k) ?_
    exact rm0_c13 (h1 := h1) (T1 := T67) (vm1 := vm1) hw X67 e67 Kc N67 Z0 hZ1 hown1 hS1 hk1 C1 hx hby hml hlk hrt Y3 Y4 Y5 Y6 Y7 Y8 Y9 Y10 Y11 Y37 Y38 Y39 Y40 Y41 Y42 (by rw [own_zz hi0 hz0 hz1 hz2 (if_pos hc267_68)]; decide)
  · skip
    refine bW T67 (mkF m 274 #[vi sa, vi ia, vi c0, vi c1, vi c2, vi 1, vi bb, vr x0, vr x1, vr x2, vr b30, vi i0, vi i1, vi i2, vr b36, vr b40, vr b44, vr b48, vr b60, uu, uu, uu, uu] []) (fun _ k => XS.ifYes X67.here hx rfl (pc0 := 267) (pc' := 274) rfl (hb hby at_267) rfl ((if0 _ _).trans (feq hc267_68).2) (by decide) (by decide) k) ?_
    refine bW T67 (mkF m 275 #[vi sa, vi ia, vi c0, vi c1, vi c2, vi 1, vi bb, vr x0, vr x1, vr x2, vr b30, vi i0, vi i1, vi i2, vr b36, vr b40, vr b44, vr b48, vr b60, uu, uu, uu, uu] [(ii 0)]) (fun _ k => XS.iconst X67.here hx rfl (hb hby at_274) k) ?_
    refine bW T67 (mkF m 277 #[vi sa, vi ia, vi c0, vi c1, vi c2, vi 1, vi bb, vr x0, vr x1, vr x2, vr b30, vi i0, vi i1, vi i2, vr b36, vr b40, vr b44, vr b48, vr b60, vi 0, uu, uu, uu] []) (fun _ k => XS.istore X67.here hx rfl (hb hby at_275) rfl rfl k) ?_
    refine bW T67 (mkF m 279 #[vi sa, vi ia, vi c0, vi c1, vi c2, vi 1, vi bb, vr x0, vr x1, vr x2, vr b30, vi i0, vi i1, vi i2, vr b36, vr b40, vr b44, vr b48, vr b60, vi 0, uu, uu, uu] [(.int (1 : Int32))]) (fun _ k => XS.iload X67.here hx rfl (hb hby at_277) rfl k) ?_
    refine bW T67 (mkF m 280 #[vi sa, vi ia, vi c0, vi c1, vi c2, vi 1, vi bb, vr x0, vr x1, vr x2, vr b30, vi i0, vi i1, vi i2, vr b36, vr b40, vr b44, vr b48, vr b60, vi 0, uu, uu, uu] [(.int (1 : Int32)), (.int (1 : Int32))]) (fun _ k => XS.iconst X67.here hx rfl (hb hby at_279) k) ?_
    refine bW T67 (mkF m 297 #[vi sa, vi ia, vi c0, vi c1, vi c2, vi 1, vi bb, vr x0, vr x1, vr x2, vr b30, vi i0, vi i1, vi i2, vr b36, vr b40, vr b44, vr b48, vr b60, vi 0, uu, uu, uu] []) (fun _ k => XS.icmpYes X67.here hx rfl (pc0 := 280) (pc' := 297) rfl (hb hby at_280) rfl (flt (by decide)).2.2.2 (by decide) (by decide) k) ?_
    refine bW T67 (mkF m 298 #[vi sa, vi ia, vi c0, vi c1, vi c2, vi 1, vi bb, vr x0, vr x1, vr x2, vr b30, vi i0, vi i1, vi i2, vr b36, vr b40, vr b44, vr b48, vr b60, vi 0, uu, uu, uu] [(ii 0)]) (fun _ k => XS.iconst X67.here hx rfl (hb hby at_297) k) ?_
    refine bW T67 (mkF m 300 #[vi sa, vi ia, vi c0, vi c1, vi c2, vi 1, vi bb, vr x0, vr x1, vr x2, vr b30, vi i0, vi i1, vi i2, vr b36, vr b40, vr b44, vr b48, vr b60, vi 0, vi 0, uu, uu] []) (fun _ k => XS.istore X67.here hx rfl (hb hby at_298) rfl rfl k) ?_
    refine bW T67 (mkF m 302 #[vi sa, vi ia, vi c0, vi c1, vi c2, vi 1, vi bb, vr x0, vr x1, vr x2, vr b30, vi i0, vi i1, vi i2, vr b36, vr b40, vr b44, vr b48, vr b60, vi 0, vi 0, uu, uu] [(.int (1 : Int32))]) (fun _ k => XS.iload X67.here hx rfl (hb hby at_300) rfl k) ?_
    refine bW T67 (mkF m 303 #[vi sa, vi ia, vi c0, vi c1, vi c2, vi 1, vi bb, vr x0, vr x1, vr x2, vr b30, vi i0, vi i1, vi i2, vr b36, vr b40, vr b44, vr b48, vr b60, vi 0, vi 0, uu, uu] [(.int (2 : Int32)), (.int (1 : Int32))]) (fun _ k => XS.iconst X67.here hx rfl (hb hby at_302) k) ?_
    refine bW T67 (mkF m 320 #[vi sa, vi ia, vi c0, vi c1, vi c2, vi 1, vi bb, vr x0, vr x1, vr x2, vr b30, vi i0, vi i1, vi i2, vr b36, vr b40, vr b44, vr b48, vr b60, vi 0, vi 0, uu, uu] []) (fun _ k => XS.icmpYes X67.here hx rfl (pc0 := 303) (pc' := 320) rfl (hb hby at_303) rfl (flt (by decide)).2.2.2 (by decide) (by decide) k) ?_
    refine bW T67 (mkF m 321 #[vi sa, vi ia, vi c0, vi c1, vi c2, vi 1, vi bb, vr x0, vr x1, vr x2, vr b30, vi i0, vi i1, vi i2, vr b36, vr b40, vr b44, vr b48, vr b60, vi 0, vi 0, uu, uu] [(ii 0)]) (fun _ k => XS.iconst X67.here hx rfl (hb hby at_320) k) ?_
    refine bW T67 (mkF m 323 #[vi sa, vi ia, vi c0, vi c1, vi c2, vi 1, vi bb, vr x0, vr x1, vr x2, vr b30, vi i0, vi i1, vi i2, vr b36, vr b40, vr b44, vr b48, vr b60, vi 0, vi 0, vi 0, uu] []) (fun _ k => XS.istore X67.here hx rfl (hb hby at_321) rfl rfl k) ?_
    refine bW T67 (mkF m 325 #[vi sa, vi ia, vi c0, vi c1, vi c2, vi 1, vi bb, vr x0, vr x1, vr x2, vr b30, vi i0, vi i1, vi i2, vr b36, vr b40, vr b44, vr b48, vr b60, vi 0, vi 0, vi 0, uu] [(ii 0)]) (fun _ k => XS.iload X67.here hx rfl (hb hby at_323) rfl k) ?_
    refine bW T67 (mkF m 332 #[vi sa, vi ia, vi c0, vi c1, vi c2, vi 1, vi bb, vr x0, vr x1, vr x2, vr b30, vi i0, vi i1, vi i2, vr b36, vr b40, vr b44, vr b48, vr b60, vi 0, vi 0, vi 0, uu] []) (fun _ k => XS.ifYes X67.here hx rfl (pc0 := 325) (pc' := 332) rfl (hb hby at_325) rfl ((if0 _ _).trans (teq (by decide)).1) (by decide) (by decide) k) ?_
    refine bW T67 (mkF m 334 #[vi sa, vi ia, vi c0, vi c1, vi c2, vi 1, vi bb, vr x0, vr x1, vr x2, vr b30, vi i0, vi i1, vi i2, vr b36, vr b40, vr b44, vr b48, vr b60, vi 0, vi 0, vi 0, uu] [(ii 0)]) (fun _ k => XS.iload X67.here hx rfl (hb hby at_332) rfl k) ?_
    refine bW T67 (mkF m 341 #[vi sa, vi ia, vi c0, vi c1, vi c2, vi 1, vi bb, vr x0, vr x1, vr x2, vr b30, vi i0, vi i1, vi i2, vr b36, vr b40, vr b44, vr b48, vr b60, vi 0, vi 0, vi 0, uu] []) (fun _ k => XS.ifYes X67.here hx rfl (pc0 := 334) (pc' := 341) rfl (hb hby at_334) rfl ((if0 _ _).trans (teq (by decide)).1) (by decide) (by decide) k) ?_
    refine bW T67 (mkF m 343 #[vi sa, vi ia, vi c0, vi c1, vi c2, vi 1, vi bb, vr x0, vr x1, vr x2, vr b30, vi i0, vi i1, vi i2, vr b36, vr b40, vr b44, vr b48, vr b60, vi 0, vi 0, vi 0, uu] [(ii 0)]) (fun _ k => XS.iload X67.here hx rfl (hb hby at_341) rfl k) ?_
    refine bW T67 (mkF m 350 #[vi sa, vi ia, vi c0, vi c1, vi c2, vi 1, vi bb, vr x0, vr x1, vr x2, vr b30, vi i0, vi i1, vi i2, vr b36, vr b40, vr b44, vr b48, vr b60, vi 0, vi 0, vi 0, uu] []) (fun _ k => XS.ifYes X67.here hx rfl (pc0 := 343) (pc' := 350) rfl (hb hby at_343) rfl ((if0 _ _).trans (teq (by decide)).1) (by decide) (by decide) k) ?_
    refine bW T67 (mkF m 351 #[vi sa, vi ia, vi c0, vi c1, vi c2, vi 1, vi bb, vr x0, vr x1, vr x2, vr b30, vi i0, vi i1, vi i2, vr b36, vr b40, vr b44, vr b48, vr b60, vi 0, vi 0, vi 0, uu] [(.int (-1 : Int32))]) (fun _ k => XS.iconst X67.here hx rfl (hb hby at_350) k) ?_
    refine bW T67 (mkF m 353 #[vi sa, vi ia, vi c0, vi c1, vi c2, vi 1, vi bb, vr x0, vr x1, vr x2, vr b30, vi i0, vi i1, vi i2, vr b36, vr b40, vr b44, vr b48, vr b60, vi 0, vi 0, vi 0, vi (-1 : Int32)] []) (fun _ k => XS.istore X67.here hx rfl (hb hby at_351) rfl rfl k) ?_
    exact rm0_c13 (h1 := h1) (T1 := T67) (vm1 := vm1) hw X67 e67 Kc N67 Z0 hZ1 hown1 hS1 hk1 C1 hx hby hml hlk hrt Y3 Y4 Y5 Y6 Y7 Y8 Y9 Y10 Y11 Y37 Y38 Y39 Y40 Y41 Y42 (by rw [own_zz hi0 hz0 hz1 hz2 (if_neg hc267_68)]; decide)
theorem rm0_c11 {l : _} {Z : State} {a0 : Array Value} (hw : HW Z a0) {sa : Int32} {ia : Int32} {c0 : Int32} {c1 : Int32} {c2 : Int32} {cs : Int32} {aD : Addr} {kD : ClassId} {h0 : Heap} {n0 : Nat} {p : _} {e : _} {s : State} {m : _} {below : _} {meth : _} {c : _} {h1 : Heap} {T1 : State} {Lc : List Loc} {vm1 : Vm} {ks1 : Nat} {x0 : Addr} {t0 : Addr} {q0 : ClassId} {z0 : Int32} {v0 : List Value} {x1 : Addr} {t1 : Addr} {q1 : ClassId} {z1 : Int32} {v1 : List Value} {x2 : Addr} {t2 : Addr} {q2 : ClassId} {z2 : Int32} {v2 : List Value} {b30 : Addr} {d32 : Addr} {kd32 : ClassId} {b36 : Addr} {i0 : Int32} {b48 : Addr} {d59 : Addr} {kd59 : ClassId} {bb : Int32} {i1 : Int32} {i2 : Int32} {b40 : Addr} {b44 : Addr} (X1 : Stand p l e room_1 (s.setVm vm1) m #[(.int sa), (.int ia), (.int c0), (.int c1), (.int c2)] below meth c T1 Lc 25 257) (e1 : T1.heap = h1) (Kc : Keep h0 h1 []) (Nc : Fr n0 Lc) (Z0 : n0 ≤ h0.size) (O0 : Old Z n0 h1) (S_DE : Sta Z Z.heap sL "DEFAULTCAPACITY_EMPTY_ELEMENTDATA" "[Ljava/lang/Object;" (.ref aD)) (V_aD : Arv Z Z.heap aD kD (.object sO) (0 : Int32) [] .null) (hZ1 : Z.Warmed39 (s.setVm vm1).vm) (hown1 : (s.setVm vm1).vm.findClass "com/example/nisaba/nisaba/isatab/ValuesFirstGivenPinLaw" = some m.cls) (hS1 : s.Since vm1 ks1) (hk1 : ks1 ≤ h1.size) (C1 : CHr Z consts_1 s.vm s.heap vm1 h1) (hx : p.tables.exec = Jvm.exec) (hby : c.code = code) (hml : c.maxLocals = 23) (hlk : meth.locks = false) (hrt : meth.sig.returnType = (some .boolean)) (Y3 : Exa Z h1 x0 sS) (Y4 : Fld Z h1 x0 sS "value" "[B" (.ref t0)) (Y5 : Arv Z h1 t0 q0 .byte z0 v0 (ii 0)) (Y6 : Exa Z h1 x1 sS) (Y7 : Fld Z h1 x1 sS "value" "[B" (.ref t1)) (Y8 : Arv Z h1 t1 q1 .byte z1 v1 (ii 0)) (Y9 : Exa Z h1 x2 sS) (Y10 : Fld Z h1 x2 sS "value" "[B" (.ref t2)) (Y11 : Arv Z h1 t2 q2 .byte z2 v2 (ii 0)) (Y12 : Exa Z h1 b30 sL) (Y14 : Fld Z h1 b30 sL "elementData" sE (.ref d32)) (Y15 : Fld Z h1 b30 sL "size" "I" (.int (3 : Int32))) (Y16 : Arv Z h1 d32 kd32 (.object sO) (10 : Int32) [(.ref x0), (.ref x1), (.ref x2), .null, .null, .null, .null, .null, .null, .null] .null) (Y17 : Exa Z h1 b36 sA) (Y18 : Fld Z h1 b36 sA "unit" "I" (.int (-1 : Int32))) (Y19 : Fld Z h1 b36 sA "value" "I" (.int i0)) (Y32 : Exa Z h1 b48 sL) (Y33 : Fld Z h1 b48 sB "modCount" "I" (.int (1 : Int32))) (Y34 : Fld Z h1 b48 sL "elementData" sE (.ref d59)) (Y35 : Fld Z h1 b48 sL "size" "I" (.int (1 : Int32))) (Y36 : Arv Z h1 d59 kd59 (.object sO) (10 : Int32) [(.ref b36), .null, .null, .null, .null, .null, .null, .null, .null, .null] .null) (hz0 : z0 = own_z bb (0 : Int32)) (hz1 : z1 = own_z bb (1 : Int32)) (hz2 : z2 = own_z bb (2 : Int32)) (hi0 : i0 = 0 ∨ i0 = 1 ∨ i0 = 2) :
    own_GoW p.tables e below Z consts_1 (Q_rm0 Z sa ia c0 c1 c2 cs aD kD h0 n0) s 64 7488 T1 (mkF m 242 #[vi sa, vi ia, vi c0, vi c1, vi c2, vi 1, vi bb, vr x0, vr x1, vr x2, vr b30, vi i0, vi i1, vi i2, vr b36, vr b40, vr b44, vr b48, uu, uu, uu, uu, uu] []) := by
  have hEL : EW Z a0 consts_1 := own_EL hw
  obtain ⟨T60, h60, X60, e60, E60, A60, D60, -, st60⟩ := newO X1 hx hZ1 hown1 (hw _ (mo 107 rfl)) (hw _ (mo 108 rfl)) (hw _ (mo 109 rfl)) e1 (g := (mkF m 242 #[vi sa, vi ia, vi c0, vi c1, vi c2, vi 1, vi bb, vr x0, vr x1, vr x2, vr b30, vi i0, vi i1, vi i2, vr b36, vr b40, vr b44, vr b48, uu, uu, uu, uu, uu] [])) rfl (hb hby at_242) (by decide) (by decide)
  obtain ⟨b60, g60⟩ : ∃ z, z = h1.size := ⟨_, rfl⟩
  rw [← g60] at A60 D60 st60
  have E_b60 : Exa Z h60 b60 sV := A60
  have F_values_b60 : Fld Z h60 b60 sV "values" "Ljava/util/List;" .null := D60 (Or.inr (hw _ (mo 117 rfl))) (ty := (.object "java/util/List")) (by decide)
  have F_units_b60 : Fld Z h60 b60 sV "units" "Ljava/util/List;" .null := D60 (Or.inr (hw _ (mo 119 rfl))) (ty := (.object "java/util/List")) (by decide)
  have F_columns_b60 : Fld Z h60 b60 sV "columns" "Ljava/util/List;" .null := D60 (Or.inr (hw _ (mo 121 rfl))) (ty := (.object "java/util/List")) (by decide)
  have g_b60 : n0 ≤ b60 := Nat.le_trans (Nat.le_trans Z0 Kc.1) (Nat.le_of_eq g60.symm)
  have sz_b60 : h0.size ≤ b60 := Nat.le_trans Kc.1 (Nat.le_of_eq g60.symm)
  have K60 : Keep h0 h60 [] := Keep.ext Kc E60
  have C60 : CHr Z consts_1 s.vm s.heap vm1 h60 := CHr.trans C1 (CHr.ext E60 C1.1)
  refine bW T60 (mkF m 245 #[vi sa, vi ia, vi c0, vi c1, vi c2, vi 1, vi bb, vr x0, vr x1, vr x2, vr b30, vi i0, vi i1, vi i2, vr b36, vr b40, vr b44, vr b48, uu, uu, uu, uu, uu] [(.ref b60)]) (fun _ k => st60 _ k) ?_
  refine bW T60 (mkF m 246 #[vi sa, vi ia, vi c0, vi c1, vi c2, vi 1, vi bb, vr x0, vr x1, vr x2, vr b30, vi i0, vi i1, vi i2, vr b36, vr b40, vr b44, vr b48, uu, uu, uu, uu, uu] [(.ref b60), (.ref b60)]) (fun _ k => XS.dup X60.here hx rfl (hb hby at_245) rfl rfl k) ?_
  refine bW T60 (mkF m 248 #[vi sa, vi ia, vi c0, vi c1, vi c2, vi 1, vi bb, vr x0, vr x1, vr x2, vr b30, vi i0, vi i1, vi i2, vr b36, vr b40, vr b44, vr b48, uu, uu, uu, uu, uu] [(.ref b30), (.ref b60), (.ref b60)]) (fun _ k => XS.aload X60.here hx rfl (hb hby at_246) rfl rfl k) ?_
  refine bW T60 (mkF m 250 #[vi sa, vi ia, vi c0, vi c1, vi c2, vi 1, vi bb, vr x0, vr x1, vr x2, vr b30, vi i0, vi i1, vi i2, vr b36, vr b40, vr b44, vr b48, uu, uu, uu, uu, uu] [(.ref b48), (.ref b30), (.ref b60), (.ref b60)]) (fun _ k => XS.aload X60.here hx rfl (hb hby at_248) rfl rfl k) ?_
  have ne61 : b30 ≠ b60 := (Nat.ne_of_lt (Nat.lt_of_lt_of_le Y12.lt (Nat.le_of_eq g60.symm)))
  have ne62 : d32 ≠ b60 := (Nat.ne_of_lt (Nat.lt_of_lt_of_le Y16.lt (Nat.le_of_eq g60.symm)))
  have ne63 : b48 ≠ b60 := (Nat.ne_of_lt (Nat.lt_of_lt_of_le Y32.lt (Nat.le_of_eq g60.symm)))
  have ne64 : d59 ≠ b60 := (Nat.ne_of_lt (Nat.lt_of_lt_of_le Y36.lt (Nat.le_of_eq g60.symm)))
  have ne65 : b36 ≠ b60 := (Nat.ne_of_lt (Nat.lt_of_lt_of_le Y17.lt (Nat.le_of_eq g60.symm)))
  obtain ⟨_, _, ⟨T66, L66, k66, n66⟩, -, X66, hSq66, hgq66, ⟨Lc66, hQ66, l66, y66, z66, Cq66⟩, st66⟩ := X60.specialBackS hx (y := yy27) rfl hown1 (mvT hZ1 (hw _ (mo 110 rfl))) (mvT hZ1 (hw _ (mo 111 rfl))) (mvT hZ1 (hw _ (mo 112 rfl))) (by decide) (own_backSH (s := s) (EL := consts_1) (W := 1) (vin_1 l Z a0 hw [] b60 b30 b48 aD kD d32 kd32 x0 x1 x2 d59 kd59 b36 i0 h60 n0 (Nat.le_trans (Nat.le_trans Z0 Kc.1) E60.1) (Old.ext O0 E60) S_DE V_aD E_b60 F_values_b60 F_units_b60 F_columns_b60 g_b60 (Exa.ext E60 Y12) (Fld.ext E60 Y15) (Fld.ext E60 Y14) (Arv.ext Y16 E60) (Exa.ext E60 Y3) (Exa.ext E60 Y6) (Exa.ext E60 Y9) (Exa.ext E60 Y32) (Fld.ext E60 Y33) (Fld.ext E60 Y34) (Fld.ext E60 Y35) (Arv.ext Y36 E60) (Exa.ext E60 Y17) (Fld.ext E60 Y19) (Fld.ext E60 Y18) hi0 ne61 ne62 ne63 ne64 ne65) hZ1 (hw _ (mo 112 rfl)) (hw _ (mo 109 rfl)) (by decide) (by decide) hEL C60.1 (fun _ _ => trivial)) (g := (mkF m 250 #[vi sa, vi ia, vi c0, vi c1, vi c2, vi 1, vi bb, vr x0, vr x1, vr x2, vr b30, vi i0, vi i1, vi i2, vr b36, vr b40, vr b44, vr b48, uu, uu, uu, uu, uu] [(.ref b48), (.ref b30), (.ref b60), (.ref b60)])) rfl (by rw [hml]; rfl) (Steps.refl _) (a := b60) (argsL := [(.ref b30), (.ref b48)]) (rest := [(.ref b60)]) (lenOf pd_19 rfl) rfl (Nat.le_of_eq rfl) (hb hby at_250) (fun _ _ => ⟨rfl, e60, (by decide : 33 ≤ _), (by decide : 294 ≤ _)⟩)
  dsimp only [Pt.U, Pt.locs, Pt.cells, Pt.slots] at X66 l66 y66 z66 st66 hQ66 hSq66 hgq66 Cq66
  subst l66 y66 z66
  obtain ⟨rfl, N66q, K66, vl66, dv66, kv66, Fa66, Ev66, Fz66, Fe66, Vd66⟩ := hQ66
  have N66 := Fr.app Nc N66q
  have KK66 : Keep h0 T66.heap [] := Keep.trans K60 K66 (allS (Or.inr sz_b60) all0)
  have hS66 := foldS hS1 (T := T60) (by rw [e60]; exact (Nat.le_trans hk1 E60.1)) hSq66 hgq66
  have hZ66 : Z.Warmed39 (s.setVm T66.vm).vm := State.Warmed39.trans hZ1 hSq66.1
  have hown66 : (s.setVm T66.vm).vm.findClass "com/example/nisaba/nisaba/isatab/ValuesFirstGivenPinLaw" = some m.cls := by show T66.vm.findClass "com/example/nisaba/nisaba/isatab/ValuesFirstGivenPinLaw" = some m.cls; rw [hSq66.1.alike.findClass]; exact hown1
  have X66 : Stand p l e room_1 (s.setVm T66.vm) m #[(.int sa), (.int ia), (.int c0), (.int c1), (.int c2)] below meth c T66 (Lc ++ Lc66) ((25 + 1) + 7) ((257 + 3) + 34) := X66
  have C66 : CHr Z consts_1 s.vm s.heap T66.vm T66.heap := CHr.trans C60 Cq66
  refine bW T66 (mkF m 253 #[vi sa, vi ia, vi c0, vi c1, vi c2, vi 1, vi bb, vr x0, vr x1, vr x2, vr b30, vi i0, vi i1, vi i2, vr b36, vr b40, vr b44, vr b48, uu, uu, uu, uu, uu] [(.ref b60)]) (fun _ k => st66.trans k) ?_
  refine bW T66 (mkF m 255 #[vi sa, vi ia, vi c0, vi c1, vi c2, vi 1, vi bb, vr x0, vr x1, vr x2, vr b30, vi i0, vi i1, vi i2, vr b36, vr b40, vr b44, vr b48, vr b60, uu, uu, uu, uu] []) (fun _ k => XS.astore X66.here hx rfl (hb hby at_253) rfl rfl rfl k) ?_
  have ne70 : x0 ≠ b60 := (Nat.ne_of_lt (Nat.lt_of_lt_of_le Y3.lt (Nat.le_of_eq g60.symm)))
  have ne71 : t0 ≠ b60 := (Nat.ne_of_lt (Nat.lt_of_lt_of_le Y5.lt (Nat.le_of_eq g60.symm)))
  have ne72 : x1 ≠ b60 := (Nat.ne_of_lt (Nat.lt_of_lt_of_le Y6.lt (Nat.le_of_eq g60.symm)))
  have ne73 : t1 ≠ b60 := (Nat.ne_of_lt (Nat.lt_of_lt_of_le Y8.lt (Nat.le_of_eq g60.symm)))
  have ne74 : x2 ≠ b60 := (Nat.ne_of_lt (Nat.lt_of_lt_of_le Y9.lt (Nat.le_of_eq g60.symm)))
  have ne75 : t2 ≠ b60 := (Nat.ne_of_lt (Nat.lt_of_lt_of_le Y11.lt (Nat.le_of_eq g60.symm)))
  exact rm0_c12 (h1 := T66.heap) (T1 := T66) (vm1 := T66.vm) hw X66 rfl KK66 N66 Z0 hZ66 hown66 hS66 (Nat.le_refl _) C66 hx hby hml hlk hrt (Exa.keep (Exa.ext E60 Y3) K66) (Fld.keep (Fld.ext E60 Y4) K66 (ninS ne70 nin0)) (Arv.keep (Arv.ext Y5 E60) K66 (ninS ne71 nin0)) (Exa.keep (Exa.ext E60 Y6) K66) (Fld.keep (Fld.ext E60 Y7) K66 (ninS ne72 nin0)) (Arv.keep (Arv.ext Y8 E60) K66 (ninS ne73 nin0)) (Exa.keep (Exa.ext E60 Y9) K66) (Fld.keep (Fld.ext E60 Y10) K66 (ninS ne74 nin0)) (Arv.keep (Arv.ext Y11 E60) K66 (ninS ne75 nin0)) (Exa.keep E_b60 K66) Fa66 Ev66 Fz66 Fe66 Vd66 hz0 hz1 hz2 hi0
theorem rm0_c10 {l : _} {Z : State} {a0 : Array Value} (hw : HW Z a0) {sa : Int32} {ia : Int32} {c0 : Int32} {c1 : Int32} {c2 : Int32} {cs : Int32} {aD : Addr} {kD : ClassId} {h0 : Heap} {n0 : Nat} {p : _} {e : _} {s : State} {m : _} {below : _} {meth : _} {c : _} {h1 : Heap} {T1 : State} {Lc : List Loc} {vm1 : Vm} {ks1 : Nat} {x0 : Addr} {t0 : Addr} {q0 : ClassId} {z0 : Int32} {v0 : List Value} {x1 : Addr} {t1 : Addr} {q1 : ClassId} {z1 : Int32} {v1 : List Value} {x2 : Addr} {t2 : Addr} {q2 : ClassId} {z2 : Int32} {v2 : List Value} {b30 : Addr} {d32 : Addr} {kd32 : ClassId} {b36 : Addr} {i0 : Int32} {b48 : Addr} {bb : Int32} {i1 : Int32} {i2 : Int32} {b40 : Addr} {b44 : Addr} (X1 : Stand p l e room_1 (s.setVm vm1) m #[(.int sa), (.int ia), (.int c0), (.int c1), (.int c2)] below meth c T1 Lc 24 247) (e1 : T1.heap = h1) (Kc : Keep h0 h1 []) (Nc : Fr n0 Lc) (Z0 : n0 ≤ h0.size) (O0 : Old Z n0 h1) (S_DE : Sta Z Z.heap sL "DEFAULTCAPACITY_EMPTY_ELEMENTDATA" "[Ljava/lang/Object;" (.ref aD)) (V_aD : Arv Z Z.heap aD kD (.object sO) (0 : Int32) [] .null) (hZ1 : Z.Warmed39 (s.setVm vm1).vm) (hown1 : (s.setVm vm1).vm.findClass "com/example/nisaba/nisaba/isatab/ValuesFirstGivenPinLaw" = some m.cls) (hS1 : s.Since vm1 ks1) (hk1 : ks1 ≤ h1.size) (C1 : CHr Z consts_1 s.vm s.heap vm1 h1) (hx : p.tables.exec = Jvm.exec) (hby : c.code = code) (hml : c.maxLocals = 23) (hlk : meth.locks = false) (hrt : meth.sig.returnType = (some .boolean)) (Y3 : Exa Z h1 x0 sS) (Y4 : Fld Z h1 x0 sS "value" "[B" (.ref t0)) (Y5 : Arv Z h1 t0 q0 .byte z0 v0 (ii 0)) (Y6 : Exa Z h1 x1 sS) (Y7 : Fld Z h1 x1 sS "value" "[B" (.ref t1)) (Y8 : Arv Z h1 t1 q1 .byte z1 v1 (ii 0)) (Y9 : Exa Z h1 x2 sS) (Y10 : Fld Z h1 x2 sS "value" "[B" (.ref t2)) (Y11 : Arv Z h1 t2 q2 .byte z2 v2 (ii 0)) (Y12 : Exa Z h1 b30 sL) (Y14 : Fld Z h1 b30 sL "elementData" sE (.ref d32)) (Y15 : Fld Z h1 b30 sL "size" "I" (.int (3 : Int32))) (Y16 : Arv Z h1 d32 kd32 (.object sO) (10 : Int32) [(.ref x0), (.ref x1), (.ref x2), .null, .null, .null, .null, .null, .null, .null] .null) (Y17 : Exa Z h1 b36 sA) (Y18 : Fld Z h1 b36 sA "unit" "I" (.int (-1 : Int32))) (Y19 : Fld Z h1 b36 sA "value" "I" (.int i0)) (Y32 : Exa Z h1 b48 sL) (Y33 : Fld Z h1 b48 sB "modCount" "I" (ii 0)) (Y34 : Fld Z h1 b48 sL "elementData" sE (.ref aD)) (Y35 : Fld Z h1 b48 sL "size" "I" (ii 0)) (nx16 : x0 ≠ b48) (nx32 : t0 ≠ b48) (nx47 : x1 ≠ b48) (nx61 : t1 ≠ b48) (nx74 : x2 ≠ b48) (nx86 : t2 ≠ b48) (nx97 : b30 ≠ b48) (nx107 : d32 ≠ b48) (nx116 : b36 ≠ b48) (g_b48 : n0 ≤ b48) (sz_b48 : h0.size ≤ b48) (hz0 : z0 = own_z bb (0 : Int32)) (hz1 : z1 = own_z bb (1 : Int32)) (hz2 : z2 = own_z bb (2 : Int32)) (hi0 : i0 = 0 ∨ i0 = 1 ∨ i0 = 2) :
    own_GoW p.tables e below Z consts_1 (Q_rm0 Z sa ia c0 c1 c2 cs aD kD h0 n0) s 64 7488 T1 (mkF m 201 #[vi sa, vi ia, vi c0, vi c1, vi c2, vi 1, vi bb, vr x0, vr x1, vr x2, vr b30, vi i0, vi i1, vi i2, vr b36, vr b40, vr b44, vr b48, uu, uu, uu, uu, uu] []) := by
  refine bW T1 (mkF m 203 #[vi sa, vi ia, vi c0, vi c1, vi c2, vi 1, vi bb, vr x0, vr x1, vr x2, vr b30, vi i0, vi i1, vi i2, vr b36, vr b40, vr b44, vr b48, uu, uu, uu, uu, uu] [(.int (1 : Int32))]) (fun _ k => XS.iload X1.here hx rfl (hb hby at_201) rfl k) ?_
  refine bW T1 (mkF m 206 #[vi sa, vi ia, vi c0, vi c1, vi c2, vi 1, vi bb, vr x0, vr x1, vr x2, vr b30, vi i0, vi i1, vi i2, vr b36, vr b40, vr b44, vr b48, uu, uu, uu, uu, uu] []) (fun _ k => XS.ifNo X1.here hx rfl (hb hby at_203) rfl ((if0 _ _).trans (tlt (by decide)).2.2.2) k) ?_
  refine bW T1 (mkF m 208 #[vi sa, vi ia, vi c0, vi c1, vi c2, vi 1, vi bb, vr x0, vr x1, vr x2, vr b30, vi i0, vi i1, vi i2, vr b36, vr b40, vr b44, vr b48, uu, uu, uu, uu, uu] [(.ref b48)]) (fun _ k => XS.aload X1.here hx rfl (hb hby at_206) rfl rfl k) ?_
  refine bW T1 (mkF m 210 #[vi sa, vi ia, vi c0, vi c1, vi c2, vi 1, vi bb, vr x0, vr x1, vr x2, vr b30, vi i0, vi i1, vi i2, vr b36, vr b40, vr b44, vr b48, uu, uu, uu, uu, uu] [(.ref b36), (.ref b48)]) (fun _ k => XS.aload X1.here hx rfl (hb hby at_208) rfl rfl k) ?_
  obtain ⟨cq59, kq59, q59a, q59b, q59c⟩ := isOf hZ1 e1 Y32
  obtain ⟨_, _, ⟨T59, L59, k59, n59⟩, -, X59, ⟨Lc59, hQ59, l59, y59, z59⟩, st59⟩ := X1.virtualBack hx (y := yy13) (z := yy13) hown1 (mvT hZ1 (hw _ (mo 54 rfl))) (mvT hZ1 (hw _ (mo 55 rfl))) (notFace_of_selects (args := #[]) (mvT hZ1 (hw _ (mo 57 rfl)))) (mvT hZ1 (hw _ (mo 57 rfl))) (mvT hZ1 (hw _ (mo 56 rfl))) (by decide) (backOf (W := 0) (ad1s_0 l Z a0 hw [] b48 b36 aD kD sA h1 n0 (Nat.le_trans Z0 Kc.1) O0 Y32 Y33 Y34 Y35 g_b48 S_DE V_aD Y17 (hw _ (mo 171 rfl))) hZ1 (hw _ (mo 58 rfl)) (hw _ (mo 32 rfl)) (by decide) (by decide)) q59a q59c (g := (mkF m 210 #[vi sa, vi ia, vi c0, vi c1, vi c2, vi 1, vi bb, vr x0, vr x1, vr x2, vr b30, vi i0, vi i1, vi i2, vr b36, vr b40, vr b44, vr b48, uu, uu, uu, uu, uu] [(.ref b36), (.ref b48)])) rfl (by rw [hml]; rfl) (Steps.refl _) (argsL := [(.ref b36)]) (rest := []) (lenOf pd_15 rfl) rfl (Nat.le_of_eq rfl) (hb hby at_210) (fun _ _ => ⟨rfl, e1, (by decide : 25 ≤ _), (by decide : 257 ≤ _)⟩)
  dsimp only [Pt.U, Pt.locs, Pt.cells, Pt.slots] at X59 l59 y59 z59 st59 hQ59
  subst l59 y59 z59
  obtain ⟨rfl, N59q, K59, d59, kd59, zd59, Fm59, Fe59, Fz59, V59, O59⟩ := hQ59
  have N59 := Fr.app Nc N59q
  have KK59 : Keep h0 T59.heap [] := Keep.trans Kc K59 (allS (Or.inr sz_b48) all0)
  have C59 : CHr Z consts_1 s.vm s.heap vm1 T59.heap := CHr.trans C1 (CHr.keep K59 (sfS (Safe.exa (EL := consts_1) (vm := vm1) hZ1.alike Y32 (by decide) (by decide)) sf0) C1.1)
  have sz_d59 : h0.size ≤ d59 := Nat.le_trans Kc.1 zd59
  have g_d59 : n0 ≤ d59 := Nat.le_trans Z0 sz_d59
  refine bW T59 (mkF m 213 #[vi sa, vi ia, vi c0, vi c1, vi c2, vi 1, vi bb, vr x0, vr x1, vr x2, vr b30, vi i0, vi i1, vi i2, vr b36, vr b40, vr b44, vr b48, uu, uu, uu, uu, uu] [(.int (1 : Int32))]) (fun _ k => st59.trans k) ?_
  refine bW T59 (mkF m 214 #[vi sa, vi ia, vi c0, vi c1, vi c2, vi 1, vi bb, vr x0, vr x1, vr x2, vr b30, vi i0, vi i1, vi i2, vr b36, vr b40, vr b44, vr b48, uu, uu, uu, uu, uu] []) (fun _ k => XS.pop X59.here hx rfl (hb hby at_213) rfl rfl k) ?_
  refine bW T59 (mkF m 216 #[vi sa, vi ia, vi c0, vi c1, vi c2, vi 1, vi bb, vr x0, vr x1, vr x2, vr b30, vi i0, vi i1, vi i2, vr b36, vr b40, vr b44, vr b48, uu, uu, uu, uu, uu] [(.int (1 : Int32))]) (fun _ k => XS.iload X59.here hx rfl (hb hby at_214) rfl k) ?_
  refine bW T59 (mkF m 217 #[vi sa, vi ia, vi c0, vi c1, vi c2, vi 1, vi bb, vr x0, vr x1, vr x2, vr b30, vi i0, vi i1, vi i2, vr b36, vr b40, vr b44, vr b48, uu, uu, uu, uu, uu] [(.int (1 : Int32)), (.int (1 : Int32))]) (fun _ k => XS.iconst X59.here hx rfl (hb hby at_216) k) ?_
  refine bW T59 (mkF m 228 #[vi sa, vi ia, vi c0, vi c1, vi c2, vi 1, vi bb, vr x0, vr x1, vr x2, vr b30, vi i0, vi i1, vi i2, vr b36, vr b40, vr b44, vr b48, uu, uu, uu, uu, uu] []) (fun _ k => XS.icmpYes X59.here hx rfl (pc0 := 217) (pc' := 228) rfl (hb hby at_217) rfl (flt (by decide)).2.2.2 (by decide) (by decide) k) ?_
  refine bW T59 (mkF m 230 #[vi sa, vi ia, vi c0, vi c1, vi c2, vi 1, vi bb, vr x0, vr x1, vr x2, vr b30, vi i0, vi i1, vi i2, vr b36, vr b40, vr b44, vr b48, uu, uu, uu, uu, uu] [(.int (1 : Int32))]) (fun _ k => XS.iload X59.here hx rfl (hb hby at_228) rfl k) ?_
  refine bW T59 (mkF m 231 #[vi sa, vi ia, vi c0, vi c1, vi c2, vi 1, vi bb, vr x0, vr x1, vr x2, vr b30, vi i0, vi i1, vi i2, vr b36, vr b40, vr b44, vr b48, uu, uu, uu, uu, uu] [(.int (2 : Int32)), (.int (1 : Int32))]) (fun _ k => XS.iconst X59.here hx rfl (hb hby at_230) k) ?_
  refine bW T59 (mkF m 242 #[vi sa, vi ia, vi c0, vi c1, vi c2, vi 1, vi bb, vr x0, vr x1, vr x2, vr b30, vi i0, vi i1, vi i2, vr b36, vr b40, vr b44, vr b48, uu, uu, uu, uu, uu] []) (fun _ k => XS.icmpYes X59.here hx rfl (pc0 := 231) (pc' := 242) rfl (hb hby at_231) rfl (flt (by decide)).2.2.2 (by decide) (by decide) k) ?_
  exact rm0_c11 (h1 := T59.heap) (T1 := T59) (vm1 := vm1) hw X59 rfl KK59 N59 Z0 (Old.keep O0 K59 (allS g_b48 all0)) S_DE V_aD hZ1 hown1 hS1 (Nat.le_trans hk1 K59.1) C59 hx hby hml hlk hrt (Exa.keep Y3 K59) (Fld.keep Y4 K59 (ninS nx16 nin0)) (Arv.keep Y5 K59 (ninS nx32 nin0)) (Exa.keep Y6 K59) (Fld.keep Y7 K59 (ninS nx47 nin0)) (Arv.keep Y8 K59 (ninS nx61 nin0)) (Exa.keep Y9 K59) (Fld.keep Y10 K59 (ninS nx74 nin0)) (Arv.keep Y11 K59 (ninS nx86 nin0)) (Exa.keep Y12 K59) (Fld.keep Y14 K59 (ninS nx97 nin0)) (Fld.keep Y15 K59 (ninS nx97 nin0)) (Arv.keep Y16 K59 (ninS nx107 nin0)) (Exa.keep Y17 K59) (Fld.keep Y18 K59 (ninS nx116 nin0)) (Fld.keep Y19 K59 (ninS nx116 nin0)) (Exa.keep Y32 K59) Fm59 Fe59 Fz59 V59 hz0 hz1 hz2 hi0
theorem rm0_c17 {l : _} {Z : State} {a0 : Array Value} (hw : HW Z a0) {sa : Int32} {ia : Int32} {c0 : Int32} {c1 : Int32} {c2 : Int32} {cs : Int32} {aD : Addr} {kD : ClassId} {h0 : Heap} {n0 : Nat} {p : _} {e : _} {s : State} {m : _} {below : _} {meth : _} {c : _} {h1 : Heap} {T1 : State} {Lc : List Loc} {vm1 : Vm} {ks1 : Nat} {x0 : Addr} {t0 : Addr} {q0 : ClassId} {z0 : Int32} {v0 : List Value} {x1 : Addr} {t1 : Addr} {q1 : ClassId} {z1 : Int32} {v1 : List Value} {x2 : Addr} {t2 : Addr} {q2 : ClassId} {z2 : Int32} {v2 : List Value} {b88 : Addr} {vl95 : Addr} {dv95 : Addr} {kv95 : ClassId} {i0 : Int32} {i1 : Int32} {jx : Int32} {bb : Int32} {b30 : Addr} {i2 : Int32} {b36 : Addr} {b40 : Addr} {b44 : Addr} {b48 : Addr} {ga : Int32} {gb : Int32} {gc : Int32} (X1 : Stand p l e room_1 (s.setVm vm1) m #[(.int sa), (.int ia), (.int c0), (.int c1), (.int c2)] below meth c T1 Lc 35 298) (e1 : T1.heap = h1) (Kc : Keep h0 h1 []) (Nc : Fr n0 Lc) (Z0 : n0 ≤ h0.size) (hZ1 : Z.Warmed39 (s.setVm vm1).vm) (hown1 : (s.setVm vm1).vm.findClass "com/example/nisaba/nisaba/isatab/ValuesFirstGivenPinLaw" = some m.cls) (hS1 : s.Since vm1 ks1) (hk1 : ks1 ≤ h1.size) (C1 : CHr Z consts_1 s.vm s.heap vm1 h1) (hx : p.tables.exec = Jvm.exec) (hby : c.code = code) (hml : c.maxLocals = 23) (hlk : meth.locks = false) (hrt : meth.sig.returnType = (some .boolean)) (Y3 : Exa Z h1 x0 sS) (Y4 : Fld Z h1 x0 sS "value" "[B" (.ref t0)) (Y5 : Arv Z h1 t0 q0 .byte z0 v0 (ii 0)) (Y6 : Exa Z h1 x1 sS) (Y7 : Fld Z h1 x1 sS "value" "[B" (.ref t1)) (Y8 : Arv Z h1 t1 q1 .byte z1 v1 (ii 0)) (Y9 : Exa Z h1 x2 sS) (Y10 : Fld Z h1 x2 sS "value" "[B" (.ref t2)) (Y11 : Arv Z h1 t2 q2 .byte z2 v2 (ii 0)) (Y37 : Exa Z h1 b88 sV) (Y38 : Fld Z h1 b88 sV "values" "Ljava/util/List;" (.ref vl95)) (Y39 : Exa Z h1 vl95 sL) (Y40 : Fld Z h1 vl95 sL "size" "I" (.int (2 : Int32))) (Y41 : Fld Z h1 vl95 sL "elementData" sE (.ref dv95)) (Y42 : Arv Z h1 dv95 kv95 (.object sO) (10 : Int32) [(.ref (own_p3 i0 x0 x1 x2)), (.ref (own_p3 i1 x0 x1 x2)), .null, .null, .null, .null, .null, .null, .null, .null] .null) (hj : (own_fg2 (own_p3 i0 z0 z1 z2) (own_p3 i1 z0 z1 z2)) = jx) :
    own_GoW p.tables e below Z consts_1 (Q_rm0 Z sa ia c0 c1 c2 cs aD kD h0 n0) s 64 7488 T1 (mkF m 353 #[vi sa, vi ia, vi c0, vi c1, vi c2, vi 2, vi bb, vr x0, vr x1, vr x2, vr b30, vi i0, vi i1, vi i2, vr b36, vr b40, vr b44, vr b48, vr b88, vi ga, vi gb, vi gc, vi jx] []) := by
  have hEL : EW Z a0 consts_1 := own_EL hw
  refine bW T1 (mkF m 355 #[vi sa, vi ia, vi c0, vi c1, vi c2, vi 2, vi bb, vr x0, vr x1, vr x2, vr b30, vi i0, vi i1, vi i2, vr b36, vr b40, vr b44, vr b48, vr b88, vi ga, vi gb, vi gc, vi jx] [(.ref b88)]) (fun _ k => XS.aload X1.here hx rfl (hb hby at_353) rfl rfl k) ?_
  obtain ⟨cq100, kq100, q100a, q100b, q100c⟩ := isOf hZ1 e1 Y37
  obtain ⟨_, _, ⟨T100, L100, k100, n100⟩, -, X100, ⟨Lc100, hQ100, l100, y100, z100⟩, st100⟩ := X1.virtualBack hx (y := yy33) (z := yy33) hown1 (mvT hZ1 (hw _ (mo 158 rfl))) (mvT hZ1 (hw _ (mo 159 rfl))) (notFace_of_selects (args := #[]) (mvT hZ1 (hw _ (mo 161 rfl)))) (mvT hZ1 (hw _ (mo 161 rfl))) (mvT hZ1 (hw _ (mo 160 rfl))) (by decide) (backOf (W := 0) (fgv_2 l Z a0 hw [] b88 vl95 dv95 kv95 (own_p3 i0 x0 x1 x2) (own_p3 i0 t0 t1 t2) (own_p3 i0 q0 q1 q2) (own_p3 i0 z0 z1 z2) (own_p3 i0 v0 v1 v2) (own_p3 i1 x0 x1 x2) (own_p3 i1 t0 t1 t2) (own_p3 i1 q0 q1 q2) (own_p3 i1 z0 z1 z2) (own_p3 i1 v0 v1 v2) h1 n0 (Nat.le_trans Z0 Kc.1) Y38 Y39 Y40 Y41 Y42 (own_pE i0 Y3 Y6 Y9) (own_pF i0 Y4 Y7 Y10) (own_pV i0 Y5 Y8 Y11) (own_pE i1 Y3 Y6 Y9) (own_pF i1 Y4 Y7 Y10) (own_pV i1 Y5 Y8 Y11)) hZ1 (hw _ (mo 162 rfl)) (hw _ (mo 109 rfl)) (by decide) (by decide)) q100a q100c (g := (mkF m 355 #[vi sa, vi ia, vi c0, vi c1, vi c2, vi 2, vi bb, vr x0, vr x1, vr x2, vr b30, vi i0, vi i1, vi i2, vr b36, vr b40, vr b44, vr b48, vr b88, vi ga, vi gb, vi gc, vi jx] [(.ref b88)])) rfl (by rw [hml]; rfl) (Steps.refl _) (argsL := []) (rest := []) (lenOf pd_14 rfl) rfl (Nat.le_of_eq rfl) (hb hby at_355) (fun _ _ => ⟨rfl, e1, (by decide : 35 ≤ _), (by decide : 298 ≤ _)⟩)
  dsimp only [Pt.U, Pt.locs, Pt.cells, Pt.slots] at X100 l100 y100 z100 st100 hQ100
  subst l100 y100 z100
  obtain ⟨rfl, N100q, e100⟩ := hQ100
  have N100 := Fr.app Nc N100q
  refine bW T100 (mkF m 358 #[vi sa, vi ia, vi c0, vi c1, vi c2, vi 2, vi bb, vr x0, vr x1, vr x2, vr b30, vi i0, vi i1, vi i2, vr b36, vr b40, vr b44, vr b48, vr b88, vi ga, vi gb, vi gc, vi jx] [(.int (own_fg2 (own_p3 i0 z0 z1 z2) (own_p3 i1 z0 z1 z2)))]) (fun _ k => st100.trans k) ?_
  refine bW T100 (mkF m 360 #[vi sa, vi ia, vi c0, vi c1, vi c2, vi 2, vi bb, vr x0, vr x1, vr x2, vr b30, vi i0, vi i1, vi i2, vr b36, vr b40, vr b44, vr b48, vr b88, vi ga, vi gb, vi gc, vi jx] [(.int jx), (.int (own_fg2 (own_p3 i0 z0 z1 z2) (own_p3 i1 z0 z1 z2)))]) (fun _ k => XS.iload X100.here hx rfl (hb hby at_358) rfl k) ?_
  refine bW T100 (mkF m 363 #[vi sa, vi ia, vi c0, vi c1, vi c2, vi 2, vi bb, vr x0, vr x1, vr x2, vr b30, vi i0, vi i1, vi i2, vr b36, vr b40, vr b44, vr b48, vr b88, vi ga, vi gb, vi gc, vi jx] []) (fun _ k => XS.icmpNo X100.here hx rfl (hb hby at_360) rfl (teq hj).2 k) ?_
  refine bW T100 (mkF m 364 #[vi sa, vi ia, vi c0, vi c1, vi c2, vi 2, vi bb, vr x0, vr x1, vr x2, vr b30, vi i0, vi i1, vi i2, vr b36, vr b40, vr b44, vr b48, vr b88, vi ga, vi gb, vi gc, vi jx] [(.int (1 : Int32))]) (fun _ k => XS.iconst X100.here hx rfl (hb hby at_363) k) ?_
  refine bW T100 (mkF m 368 #[vi sa, vi ia, vi c0, vi c1, vi c2, vi 2, vi bb, vr x0, vr x1, vr x2, vr b30, vi i0, vi i1, vi i2, vr b36, vr b40, vr b44, vr b48, vr b88, vi ga, vi gb, vi gc, vi jx] [(.int (1 : Int32))]) (fun _ k => XS.goto X100.here hx rfl (pc0 := 364) (pc' := 368) rfl (hb hby at_364) (by decide) (by decide) k) ?_
  refine own_retW (s := s) X100 hlk hS1 (by rw [e100]; exact hk1) hZ1 hEL C1 e100 (v := some (.int (1 : Int32))) (fun h => by rw [hrt] at h; cases h) (fun fs hr => retN X100 hx (t := .boolean) hrt (by simp) (hb hby at_368) hr) ?_ (by decide) (by decide)
  rw [e100]
  exact ⟨rfl, N100⟩
theorem rm0_c16 {l : _} {Z : State} {a0 : Array Value} (hw : HW Z a0) {sa : Int32} {ia : Int32} {c0 : Int32} {c1 : Int32} {c2 : Int32} {cs : Int32} {aD : Addr} {kD : ClassId} {h0 : Heap} {n0 : Nat} {p : _} {e : _} {s : State} {m : _} {below : _} {meth : _} {c : _} {h1 : Heap} {T1 : State} {Lc : List Loc} {vm1 : Vm} {ks1 : Nat} {x0 : Addr} {t0 : Addr} {q0 : ClassId} {z0 : Int32} {v0 : List Value} {x1 : Addr} {t1 : Addr} {q1 : ClassId} {z1 : Int32} {v1 : List Value} {x2 : Addr} {t2 : Addr} {q2 : ClassId} {z2 : Int32} {v2 : List Value} {b88 : Addr} {vl95 : Addr} {dv95 : Addr} {kv95 : ClassId} {i0 : Int32} {i1 : Int32} {bb : Int32} {b30 : Addr} {i2 : Int32} {b36 : Addr} {b40 : Addr} {b44 : Addr} {b48 : Addr} (X1 : Stand p l e room_1 (s.setVm vm1) m #[(.int sa), (.int ia), (.int c0), (.int c1), (.int c2)] below meth c T1 Lc 35 298) (e1 : T1.heap = h1) (Kc : Keep h0 h1 []) (Nc : Fr n0 Lc) (Z0 : n0 ≤ h0.size) (hZ1 : Z.Warmed39 (s.setVm vm1).vm) (hown1 : (s.setVm vm1).vm.findClass "com/example/nisaba/nisaba/isatab/ValuesFirstGivenPinLaw" = some m.cls) (hS1 : s.Since vm1 ks1) (hk1 : ks1 ≤ h1.size) (C1 : CHr Z consts_1 s.vm s.heap vm1 h1) (hx : p.tables.exec = Jvm.exec) (hby : c.code = code) (hml : c.maxLocals = 23) (hlk : meth.locks = false) (hrt : meth.sig.returnType = (some .boolean)) (Y3 : Exa Z h1 x0 sS) (Y4 : Fld Z h1 x0 sS "value" "[B" (.ref t0)) (Y5 : Arv Z h1 t0 q0 .byte z0 v0 (ii 0)) (Y6 : Exa Z h1 x1 sS) (Y7 : Fld Z h1 x1 sS "value" "[B" (.ref t1)) (Y8 : Arv Z h1 t1 q1 .byte z1 v1 (ii 0)) (Y9 : Exa Z h1 x2 sS) (Y10 : Fld Z h1 x2 sS "value" "[B" (.ref t2)) (Y11 : Arv Z h1 t2 q2 .byte z2 v2 (ii 0)) (Y37 : Exa Z h1 b88 sV) (Y38 : Fld Z h1 b88 sV "values" "Ljava/util/List;" (.ref vl95)) (Y39 : Exa Z h1 vl95 sL) (Y40 : Fld Z h1 vl95 sL "size" "I" (.int (2 : Int32))) (Y41 : Fld Z h1 vl95 sL "elementData" sE (.ref dv95)) (Y42 : Arv Z h1 dv95 kv95 (.object sO) (10 : Int32) [(.ref (own_p3 i0 x0 x1 x2)), (.ref (own_p3 i1 x0 x1 x2)), .null, .null, .null, .null, .null, .null, .null, .null] .null) (hz0 : z0 = own_z bb (0 : Int32)) (hz1 : z1 = own_z bb (1 : Int32)) (hz2 : z2 = own_z bb (2 : Int32)) (hi0 : i0 = 0 ∨ i0 = 1 ∨ i0 = 2) (hi1 : i1 = 0 ∨ i1 = 1 ∨ i1 = 2) :
    own_GoW p.tables e below Z consts_1 (Q_rm0 Z sa ia c0 c1 c2 cs aD kD h0 n0) s 64 7488 T1 (mkF m 255 #[vi sa, vi ia, vi c0, vi c1, vi c2, vi 2, vi bb, vr x0, vr x1, vr x2, vr b30, vi i0, vi i1, vi i2, vr b36, vr b40, vr b44, vr b48, vr b88, uu, uu, uu, uu] []) := by
  refine bW T1 (mkF m 257 #[vi sa, vi ia, vi c0, vi c1, vi c2, vi 2, vi bb, vr x0, vr x1, vr x2, vr b30, vi i0, vi i1, vi i2, vr b36, vr b40, vr b44, vr b48, vr b88, uu, uu, uu, uu] [(.int (2 : Int32))]) (fun _ k => XS.iload X1.here hx rfl (hb hby at_255) rfl k) ?_
  refine bW T1 (mkF m 260 #[vi sa, vi ia, vi c0, vi c1, vi c2, vi 2, vi bb, vr x0, vr x1, vr x2, vr b30, vi i0, vi i1, vi i2, vr b36, vr b40, vr b44, vr b48, vr b88, uu, uu, uu, uu] []) (fun _ k => XS.ifNo X1.here hx rfl (hb hby at_257) rfl ((if0 _ _).trans (tlt (by decide)).2.2.2) k) ?_
  refine bW T1 (mkF m 262 #[vi sa, vi ia, vi c0, vi c1, vi c2, vi 2, vi bb, vr x0, vr x1, vr x2, vr b30, vi i0, vi i1, vi i2, vr b36, vr b40, vr b44, vr b48, vr b88, uu, uu, uu, uu] [(.int bb)]) (fun _ k => XS.iload X1.here hx rfl (hb hby at_260) rfl k) ?_
  refine bW T1 (mkF m 264 #[vi sa, vi ia, vi c0, vi c1, vi c2, vi 2, vi bb, vr x0, vr x1, vr x2, vr b30, vi i0, vi i1, vi i2, vr b36, vr b40, vr b44, vr b48, vr b88, uu, uu, uu, uu] [(.int i0), (.int bb)]) (fun _ k => XS.iload X1.here hx rfl (hb hby at_262) rfl k) ?_
  obtain ⟨_, _, ⟨T96, L96, k96, n96⟩, -, X96, ⟨Lc96, hQ96, l96, y96, z96⟩, st96⟩ := Jvm.LawKit.callS X1 hx (y := yy0) hown1 (mvT hZ1 (hw _ (mo 0 rfl))) (mvT hZ1 (hw _ (mo 1 rfl))) (mvT hZ1 (hw _ (mo 2 rfl))) (mvT hZ1 (hw _ (mo 3 rfl))) (by decide) (backOf (W := 0) (emc l Z a0 hw [] bb i0  h1 n0 (Nat.le_trans Z0 Kc.1) ) hZ1 (hw _ (mo 3 rfl)) (hw _ (mo 2 rfl)) (by decide) (by decide)) (g := (mkF m 264 #[vi sa, vi ia, vi c0, vi c1, vi c2, vi 2, vi bb, vr x0, vr x1, vr x2, vr b30, vi i0, vi i1, vi i2, vr b36, vr b40, vr b44, vr b48, vr b88, uu, uu, uu, uu] [(.int i0), (.int bb)])) rfl (by rw [hml]; rfl) (argsL := [(.int bb), (.int i0)]) (rest := []) (lenOf pd_16 rfl) rfl (Nat.le_of_eq rfl) (hb hby at_264) (fun _ _ => ⟨rfl, e1, (by decide : 35 ≤ _), (by decide : 298 ≤ _)⟩)
  dsimp only [Pt.U, Pt.locs, Pt.cells, Pt.slots] at X96 l96 y96 z96 st96 hQ96
  subst l96 y96 z96
  obtain ⟨rfl, N96q, e96⟩ := hQ96
  have N96 := Fr.app Nc N96q
  refine bW T96 (mkF m 267 #[vi sa, vi ia, vi c0, vi c1, vi c2, vi 2, vi bb, vr x0, vr x1, vr x2, vr b30, vi i0, vi i1, vi i2, vr b36, vr b40, vr b44, vr b48, vr b88, uu, uu, uu, uu] [(.int (own_e bb i0))]) (fun _ k => st96 _ k) ?_
  by_cases hc267_97 : (own_e bb i0) = (0 : Int32)
  · skip
    refine bW T96 (mkF m 270 #[vi sa, vi ia, vi c0, vi c1, vi c2, vi 2, vi bb, vr x0, vr x1, vr x2, vr b30, vi i0, vi i1, vi i2, vr b36, vr b40, vr b44, vr b48, vr b88, uu, uu, uu, uu] []) (fun _ k => XS.ifNo X96.here hx rfl (hb hby at_267) rfl ((if0 _ _).trans (teq hc267_97).2) k) ?_
    refine bW T96 (mkF m 271 #[vi sa, vi ia, vi c0, vi c1, vi c2, vi 2, vi bb, vr x0, vr x1, vr x2, vr b30, vi i0, vi i1, vi i2, vr b36, vr b40, vr b44, vr b48, vr b88, uu, uu, uu, uu] [(.int (1 : Int32))]) (fun _ k => XS.iconst X96.here hx rfl (hb hby at_270) k) ?_
    refine bW T96 (mkF m 275 #[vi sa, vi ia, vi c0, vi c1, vi c2, vi 2, vi bb, vr x0, vr x1, vr x2, vr b30, vi i0, vi i1, vi i2, vr b36, vr b40, vr b44, vr b48, vr b88, uu, uu, uu, uu] [(.int (1 : Int32))]) (fun _ k => XS.goto X96.here hx rfl (pc0 := 271) (pc' := 275) rfl (hb hby at_271) (by decide) (by decide) k) ?_
    refine bW T96 (mkF m 277 #[vi sa, vi ia, vi c0, vi c1, vi c2, vi 2, vi bb, vr x0, vr x1, vr x2, vr b30, vi i0, vi i1, vi i2, vr b36, vr b40, vr b44, vr b48, vr b88, vi 1, uu, uu, uu] []) (fun _ k => XS.istore X96.here hx rfl (hb hby at_275) rfl rfl k) ?_
    refine bW T96 (mkF m 279 #[vi sa, vi ia, vi c0, vi c1, vi c2, vi 2, vi bb, vr x0, vr x1, vr x2, vr b30, vi i0, vi i1, vi i2, vr b36, vr b40, vr b44, vr b48, vr b88, vi 1, uu, uu, uu] [(.int (2 : Int32))]) (fun _ k => XS.iload X96.here hx rfl (hb hby at_277) rfl k) ?_
    refine bW T96 (mkF m 280 #[vi sa, vi ia, vi c0, vi c1, vi c2, vi 2, vi bb, vr x0, vr x1, vr x2, vr b30, vi i0, vi i1, vi i2, vr b36, vr b40, vr b44, vr b48, vr b88, vi 1, uu, uu, uu] [(.int (1 : Int32)), (.int (2 : Int32))]) (fun _ k => XS.iconst X96.here hx rfl (hb hby at_279) k) ?_
    refine bW T96 (mkF m 283 #[vi sa, vi ia, vi c0, vi c1, vi c2, vi 2, vi bb, vr x0, vr x1, vr x2, vr b30, vi i0, vi i1, vi i2, vr b36, vr b40, vr b44, vr b48, vr b88, vi 1, uu, uu, uu] []) (fun _ k => XS.icmpNo X96.here hx rfl (hb hby at_280) rfl (tlt (by decide)).2.2.2 k) ?_
    refine bW T96 (mkF m 285 #[vi sa, vi ia, vi c0, vi c1, vi c2, vi 2, vi bb, vr x0, vr x1, vr x2, vr b30, vi i0, vi i1, vi i2, vr b36, vr b40, vr b44, vr b48, vr b88, vi 1, uu, uu, uu] [(.int bb)]) (fun _ k => XS.iload X96.here hx rfl (hb hby at_283) rfl k) ?_
    refine bW T96 (mkF m 287 #[vi sa, vi ia, vi c0, vi c1, vi c2, vi 2, vi bb, vr x0, vr x1, vr x2, vr b30, vi i0, vi i1, vi i2, vr b36, vr b40, vr b44, vr b48, vr b88, vi 1, uu, uu, uu] [(.int i1), (.int bb)]) (fun _ k => XS.iload X96.here hx rfl (hb hby at_285) rfl k) ?_
    obtain ⟨_, _, ⟨T98, L98, k98, n98⟩, -, X98, ⟨Lc98, hQ98, l98, y98, z98⟩, st98⟩ := Jvm.LawKit.callS X96 hx (y := yy0) hown1 (mvT hZ1 (hw _ (mo 0 rfl))) (mvT hZ1 (hw _ (mo 1 rfl))) (mvT hZ1 (hw _ (mo 2 rfl))) (mvT hZ1 (hw _ (mo 3 rfl))) (by decide) (backOf (W := 0) (emc l Z a0 hw [] bb i1  h1 n0 (Nat.le_trans Z0 Kc.1) ) hZ1 (hw _ (mo 3 rfl)) (hw _ (mo 2 rfl)) (by decide) (by decide)) (g := (mkF m 287 #[vi sa, vi ia, vi c0, vi c1, vi c2, vi 2, vi bb, vr x0, vr x1, vr x2, vr b30, vi i0, vi i1, vi i2, vr b36, vr b40, vr b44, vr b48, vr b88, vi 1, uu, uu, uu] [(.int i1), (.int bb)])) rfl (by rw [hml]; rfl) (argsL := [(.int bb), (.int i1)]) (rest := []) (lenOf pd_16 rfl) rfl (Nat.le_of_eq rfl) (hb hby at_287) (fun _ _ => ⟨rfl, e96, (by decide : 35 ≤ _), (by decide : 298 ≤ _)⟩)
    dsimp only [Pt.U, Pt.locs, Pt.cells, Pt.slots] at X98 l98 y98 z98 st98 hQ98
    subst l98 y98 z98
    obtain ⟨rfl, N98q, e98⟩ := hQ98
    have N98 := Fr.app N96 N98q
    refine bW T98 (mkF m 290 #[vi sa, vi ia, vi c0, vi c1, vi c2, vi 2, vi bb, vr x0, vr x1, vr x2, vr b30, vi i0, vi i1, vi i2, vr b36, vr b40, vr b44, vr b48, vr b88, vi 1, uu, uu, uu] [(.int (own_e bb i1))]) (fun _ k => st98 _ k) ?_
    by_cases hc290_99 : (own_e bb i1) = (0 : Int32)
    · skip
      refine bW T98 (mkF m 293 #[vi sa, vi ia, vi c0, vi c1, vi c2, vi 2, vi bb, vr x0, vr x1, vr x2, vr b30, vi i0, vi i1, vi i2, vr b36, vr b40, vr b44, vr b48, vr b88, vi 1, uu, uu, uu] []) (fun _ k => XS.ifNo X98.here hx rfl (hb hby at_290) rfl ((if0 _ _).trans (teq hc290_99).2) k) ?_
      refine bW T98 (mkF m 294 #[vi sa, vi ia, vi c0, vi c1, vi c2, vi 2, vi bb, vr x0, vr x1, vr x2, vr b30, vi i0, vi i1, vi i2, vr b36, vr b40, vr b44, vr b48, vr b88, vi 1, uu, uu, uu] [(.int (1 : Int32))]) (fun _ k => XS.iconst X98.here hx rfl (hb hby at_293) k) ?_
      refine bW T98 (mkF m 298 #[vi sa, vi ia, vi c0, vi c1, vi c2, vi 2, vi bb, vr x0, vr x1, vr x2, vr b30, vi i0, vi i1, vi i2, vr b36, vr b40, vr b44, vr b48, vr b88, vi 1, uu, uu, uu] [(.int (1 : Int32))]) (fun _ k => XS.goto X98.here hx rfl (pc0 := 294) (pc' := 298) rfl (hb hby at_294) (by decide) (by decide) k) ?_
      refine bW T98 (mkF m 300 #[vi sa, vi ia, vi c0, vi c1, vi c2, vi 2, vi bb, vr x0, vr x1, vr x2, vr b30, vi i0, vi i1, vi i2, vr b36, vr b40, vr b44, vr b48, vr b88, vi 1, vi 1, uu, uu] []) (fun _ k => XS.istore X98.here hx rfl (hb hby at_298) rfl rfl k) ?_
      refine bW T98 (mkF m 302 #[vi sa, vi ia, vi c0, vi c1, vi c2, vi 2, vi bb, vr x0, vr x1, vr x2, vr b30, vi i0, vi i1, vi i2, vr b36, vr b40, vr b44, vr b48, vr b88, vi 1, vi 1, uu, uu] [(.int (2 : Int32))]) (fun _ k => XS.iload X98.here hx rfl (hb hby at_300) rfl k) ?_
      refine bW T98 (mkF m 303 #[vi sa, vi ia, vi c0, vi c1, vi c2, vi 2, vi bb, vr x0, vr x1, vr x2, vr b30, vi i0, vi i1, vi i2, vr b36, vr b40, vr b44, vr b48, vr b88, vi 1, vi 1, uu, uu] [(.int (2 : Int32)), (.int (2 : Int32))]) (fun _ k => XS.iconst X98.here hx rfl (hb hby at_302) k) ?_
      refine bW T98 (mkF m 320 #[vi sa, vi ia, vi c0, vi c1, vi c2, vi 2, vi bb, vr x0, vr x1, vr x2, vr b30, vi i0, vi i1, vi i2, vr b36, vr b40, vr b44, vr b48, vr b88, vi 1, vi 1, uu, uu] []) (fun _ k => XS.icmpYes X98.here hx rfl (pc0 := 303) (pc' := 320) rfl (hb hby at_303) rfl (flt (by decide)).2.2.2 (by decide) (by decide) k) ?_
      refine bW T98 (mkF m 321 #[vi sa, vi ia, vi c0, vi c1, vi c2, vi 2, vi bb, vr x0, vr x1, vr x2, vr b30, vi i0, vi i1, vi i2, vr b36, vr b40, vr b44, vr b48, vr b88, vi 1, vi 1, uu, uu] [(ii 0)]) (fun _ k => XS.iconst X98.here hx rfl (hb hby at_320) k) ?_
      refine bW T98 (mkF m 323 #[vi sa, vi ia, vi c0, vi c1, vi c2, vi 2, vi bb, vr x0, vr x1, vr x2, vr b30, vi i0, vi i1, vi i2, vr b36, vr b40, vr b44, vr b48, vr b88, vi 1, vi 1, vi 0, uu] []) (fun _ k => XS.istore X98.here hx rfl (hb hby at_321) rfl rfl k) ?_
      refine bW T98 (mkF m 325 #[vi sa, vi ia, vi c0, vi c1, vi c2, vi 2, vi bb, vr x0, vr x1, vr x2, vr b30, vi i0, vi i1, vi i2, vr b36, vr b40, vr b44, vr b48, vr b88, vi 1, vi 1, vi 0, uu] [(.int (1 : Int32))]) (fun _ k => XS.iload X98.here hx rfl (hb hby at_323) rfl k) ?_
      refine bW T98 (mkF m 328 #[vi sa, vi ia, vi c0, vi c1, vi c2, vi 2, vi bb, vr x0, vr x1, vr x2, vr b30, vi i0, vi i1, vi i2, vr b36, vr b40, vr b44, vr b48, vr b88, vi 1, vi 1, vi 0, uu] []) (fun _ k => XS.ifNo X98.here hx rfl (hb hby at_325) rfl ((if0 _ _).trans (feq (by decide)).1) k) ?_
      refine bW T98 (mkF m 329 #[vi sa, vi ia, vi c0, vi c1, vi c2, vi 2, vi bb, vr x0, vr x1, vr x2, vr b30, vi i0, vi i1, vi i2, vr b36, vr b40, vr b44, vr b48, vr b88, vi 1, vi 1, vi 0, uu] [(ii 0)]) (fun _ k => XS.iconst X98.here hx rfl (hb hby at_328) k) ?_
      refine bW T98 (mkF m 351 #[vi sa, vi ia, vi c0, vi c1, vi c2, vi 2, vi bb, vr x0, vr x1, vr x2, vr b30, vi i0, vi i1, vi i2, vr b36, vr b40, vr b44, vr b48, vr b88, vi 1, vi 1, vi 0, uu] [(ii 0)]) (fun _ k => XS.goto X98.here hx rfl (pc0 := 329) (pc' := 351) rfl (hb hby at_329) (by decide) (by decide) k) ?_
      refine bW T98 (mkF m 353 #[vi sa, vi ia, vi c0, vi c1, vi c2, vi 2, vi bb, vr x0, vr x1, vr x2, vr b30, vi i0, vi i1, vi i2, vr b36, vr b40, vr b44, vr b48, vr b88, vi 1, vi 1, vi 0, vi 0] []) (fun _ k => XS.istore X98.here hx rfl (hb hby at_351) rfl rfl k) ?_
      exact rm0_c17 (h1 := h1) (T1 := T98) (vm1 := vm1) hw X98 e98 Kc N98 Z0 hZ1 hown1 hS1 hk1 C1 hx hby hml hlk hrt Y3 Y4 Y5 Y6 Y7 Y8 Y9 Y10 Y11 Y37 Y38 Y39 Y40 Y41 Y42 (by rw [own_zz hi0 hz0 hz1 hz2 (if_pos hc267_97), own_zz hi1 hz0 hz1 hz2 (if_pos hc290_99)]; decide)
    · skip
      refine bW T98 (mkF m 297 #[vi sa, vi ia, vi c0, vi c1, vi c2, vi 2, vi bb, vr x0, vr x1, vr x2, vr b30, vi i0, vi i1, vi i2, vr b36, vr b40, vr b44, vr b48, vr b88, vi 1, uu, uu, uu] []) (fun _ k => XS.ifYes X98.here hx rfl (pc0 := 290) (pc' := 297) rfl (hb hby at_290) rfl ((if0 _ _).trans (feq hc290_99).2) (by decide) (by decide) k) ?_
      refine bW T98 (mkF m 298 #[vi sa, vi ia, vi c0, vi c1, vi c2, vi 2, vi bb, vr x0, vr x1, vr x2, vr b30, vi i0, vi i1, vi i2, vr b36, vr b40, vr b44, vr b48, vr b88, vi 1, uu, uu, uu] [(ii 0)]) (fun _ k => XS.iconst X98.here hx rfl (hb hby at_297) k) ?_
      refine bW T98 (mkF m 300 #[vi sa, vi ia, vi c0, vi c1, vi c2, vi 2, vi bb, vr x0, vr x1, vr x2, vr b30, vi i0, vi i1, vi i2, vr b36, vr b40, vr b44, vr b48, vr b88, vi 1, vi 0, uu, uu] []) (fun _ k => XS.istore X98.here hx rfl (hb hby at_298) rfl rfl k) ?_
      refine bW T98 (mkF m 302 #[vi sa, vi ia, vi c0, vi c1, vi c2, vi 2, vi bb, vr x0, vr x1, vr x2, vr b30, vi i0, vi i1, vi i2, vr b36, vr b40, vr b44, vr b48, vr b88, vi 1, vi 0, uu, uu] [(.int (2 : Int32))]) (fun _ k => XS.iload X98.here hx rfl (hb hby at_300) rfl k) ?_
      refine bW T98 (mkF m 303 #[vi sa, vi ia, vi c0, vi c1, vi c2, vi 2, vi bb, vr x0, vr x1, vr x2, vr b30, vi i0, vi i1, vi i2, vr b36, vr b40, vr b44, vr b48, vr b88, vi 1, vi 0, uu, uu] [(.int (2 : Int32)), (.int (2 : Int32))]) (fun _ k => XS.iconst X98.here hx rfl (hb hby at_302) k) ?_
      refine bW T98 (mkF m 320 #[vi sa, vi ia, vi c0, vi c1, vi c2, vi 2, vi bb, vr x0, vr x1, vr x2, vr b30, vi i0, vi i1, vi i2, vr b36, vr b40, vr b44, vr b48, vr b88, vi 1, vi 0, uu, uu] []) (fun _ k => XS.icmpYes X98.here hx rfl (pc0 := 303) (pc' := 320) rfl (hb hby at_303) rfl (flt (by decide)).2.2.2 (by decide) (by decide) k) ?_
      refine bW T98 (mkF m 321 #[vi sa, vi ia, vi c0, vi c1, vi c2, vi 2, vi bb, vr x0, vr x1, vr x2, vr b30, vi i0, vi i1, vi i2, vr b36, vr b40, vr b44, vr b48, vr b88, vi 1, vi 0, uu, uu] [(ii 0)]) (fun _ k => XS.iconst X98.here hx rfl (hb hby at_320) k) ?_
      refine bW T98 (mkF m 323 #[vi sa, vi ia, vi c0, vi c1, vi c2, vi 2, vi bb, vr x0, vr x1, vr x2, vr b30, vi i0, vi i1, vi i2, vr b36, vr b40, vr b44, vr b48, vr b88, vi 1, vi 0, vi 0, uu] []) (fun _ k => XS.istore X98.here hx rfl (hb hby at_321) rfl rfl k) ?_
      refine bW T98 (mkF m 325 #[vi sa, vi ia, vi c0, vi c1, vi c2, vi 2, vi bb, vr x0, vr x1, vr x2, vr b30, vi i0, vi i1, vi i2, vr b36, vr b40, vr b44, vr b48, vr b88, vi 1, vi 0, vi 0, uu] [(.int (1 : Int32))]) (fun _ k => XS.iload X98.here hx rfl (hb hby at_323) rfl k) ?_
      refine bW T98 (mkF m 328 #[vi sa, vi ia, vi c0, vi c1, vi c2, vi 2, vi bb, vr x0, vr x1, vr x2, vr b30, vi i0, vi i1, vi i2, vr b36, vr b40, vr b44, vr b48, vr b88, vi 1, vi 0, vi 0, uu] []) (fun _ k => XS.ifNo X98.here hx rfl (hb hby at_325) rfl ((if0 _ _).trans (feq (by decide)).1) k) ?_
      refine bW T98 (mkF m 329 #[vi sa, vi ia, vi c0, vi c1, vi c2, vi 2, vi bb, vr x0, vr x1, vr x2, vr b30, vi i0, vi i1, vi i2, vr b36, vr b40, vr b44, vr b48, vr b88, vi 1, vi 0, vi 0, uu] [(ii 0)]) (fun _ k => XS.iconst X98.here hx rfl (hb hby at_328) k) ?_
      refine bW T98 (mkF m 351 #[vi sa, vi ia, vi c0, vi c1, vi c2, vi 2, vi bb, vr x0, vr x1, vr x2, vr b30, vi i0, vi i1, vi i2, vr b36, vr b40, vr b44, vr b48, vr b88, vi 1, vi 0, vi 0, uu] [(ii 0)]) (fun _ k => XS.goto X98.here hx rfl (pc0 := 329) (pc' := 351) rfl (hb hby at_329) (by decide) (by decide) k) ?_
      refine bW T98 (mkF m 353 #[vi sa, vi ia, vi c0, vi c1, vi c2, vi 2, vi bb, vr x0, vr x1, vr x2, vr b30, vi i0, vi i1, vi i2, vr b36, vr b40, vr b44, vr b48, vr b88, vi 1, vi 0, vi 0, vi 0] []) (fun _ k => XS.istore X98.here hx rfl (hb hby at_351) rfl rfl k) ?_
      exact rm0_c17 (h1 := h1) (T1 := T98) (vm1 := vm1) hw X98 e98 Kc N98 Z0 hZ1 hown1 hS1 hk1 C1 hx hby hml hlk hrt Y3 Y4 Y5 Y6 Y7 Y8 Y9 Y10 Y11 Y37 Y38 Y39 Y40 Y41 Y42 (by rw [own_zz hi0 hz0 hz1 hz2 (if_pos hc267_97), own_zz hi1 hz0 hz1 hz2 (if_neg hc290_99)]; decide)
  · skip
    refine bW T96 (mkF m 274 #[vi sa, vi ia, vi c0, vi c1, vi c2, vi 2, vi bb, vr x0, vr x1, vr x2, vr b30, vi i0, vi i1, vi i2, vr b36, vr b40, vr b44, vr b48, vr b88, uu, uu, uu, uu] []) (fun _ k => XS.ifYes X96.here hx rfl (pc0 := 267) (pc' := 274) rfl (hb hby at_267) rfl ((if0 _ _).trans (feq hc267_97).2) (by decide) (by decide) k) ?_
    refine bW T96 (mkF m 275 #[vi sa, vi ia, vi c0, vi c1, vi c2, vi 2, vi bb, vr x0, vr x1, vr x2, vr b30, vi i0, vi i1, vi i2, vr b36, vr b40, vr b44, vr b48, vr b88, uu, uu, uu, uu] [(ii 0)]) (fun _ k => XS.iconst X96.here hx rfl (hb hby at_274) k) ?_
    refine bW T96 (mkF m 277 #[vi sa, vi ia, vi c0, vi c1, vi c2, vi 2, vi bb, vr x0, vr x1, vr x2, vr b30, vi i0, vi i1, vi i2, vr b36, vr b40, vr b44, vr b48, vr b88, vi 0, uu, uu, uu] []) (fun _ k => XS.istore X96.here hx rfl (hb hby at_275) rfl rfl k) ?_
    refine bW T96 (mkF m 279 #[vi sa, vi ia, vi c0, vi c1, vi c2, vi 2, vi bb, vr x0, vr x1, vr x2, vr b30, vi i0, vi i1, vi i2, vr b36, vr b40, vr b44, vr b48, vr b88, vi 0, uu, uu, uu] [(.int (2 : Int32))]) (fun _ k => XS.iload X96.here hx rfl (hb hby at_277) rfl k) ?_
    refine bW T96 (mkF m 280 #[vi sa, vi ia, vi c0, vi c1, vi c2, vi 2, vi bb, vr x0, vr x1, vr x2, vr b30, vi i0, vi i1, vi i2, vr b36, vr b40, vr b44, vr b48, vr b88, vi 0, uu, uu, uu] [(.int (1 : Int32)), (.int (2 : Int32))]) (fun _ k => XS.iconst X96.here hx rfl (hb hby at_279) k) ?_
    refine bW T96 (mkF m 283 #[vi sa, vi ia, vi c0, vi c1, vi c2, vi 2, vi bb, vr x0, vr x1, vr x2, vr b30, vi i0, vi i1, vi i2, vr b36, vr b40, vr b44, vr b48, vr b88, vi 0, uu, uu, uu] []) (fun _ k => XS.icmpNo X96.here hx rfl (hb hby at_280) rfl (tlt (by decide)).2.2.2 k) ?_
    refine bW T96 (mkF m 285 #[vi sa, vi ia, vi c0, vi c1, vi c2, vi 2, vi bb, vr x0, vr x1, vr x2, vr b30, vi i0, vi i1, vi i2, vr b36, vr b40, vr b44, vr b48, vr b88, vi 0, uu, uu, uu] [(.int bb)]) (fun _ k => XS.iload X96.here hx rfl (hb hby at_283) rfl k) ?_
    refine bW T96 (mkF m 287 #[vi sa, vi ia, vi c0, vi c1, vi c2, vi 2, vi bb, vr x0, vr x1, vr x2, vr b30, vi i0, vi i1, vi i2, vr b36, vr b40, vr b44, vr b48, vr b88, vi 0, uu, uu, uu] [(.int i1), (.int bb)]) (fun _ k => XS.iload X96.here hx rfl (hb hby at_285) rfl k) ?_
    obtain ⟨_, _, ⟨T101, L101, k101, n101⟩, -, X101, ⟨Lc101, hQ101, l101, y101, z101⟩, st101⟩ := Jvm.LawKit.callS X96 hx (y := yy0) hown1 (mvT hZ1 (hw _ (mo 0 rfl))) (mvT hZ1 (hw _ (mo 1 rfl))) (mvT hZ1 (hw _ (mo 2 rfl))) (mvT hZ1 (hw _ (mo 3 rfl))) (by decide) (backOf (W := 0) (emc l Z a0 hw [] bb i1  h1 n0 (Nat.le_trans Z0 Kc.1) ) hZ1 (hw _ (mo 3 rfl)) (hw _ (mo 2 rfl)) (by decide) (by decide)) (g := (mkF m 287 #[vi sa, vi ia, vi c0, vi c1, vi c2, vi 2, vi bb, vr x0, vr x1, vr x2, vr b30, vi i0, vi i1, vi i2, vr b36, vr b40, vr b44, vr b48, vr b88, vi 0, uu, uu, uu] [(.int i1), (.int bb)])) rfl (by rw [hml]; rfl) (argsL := [(.int bb), (.int i1)]) (rest := []) (lenOf pd_16 rfl) rfl (Nat.le_of_eq rfl) (hb hby at_287) (fun _ _ => ⟨rfl, e96, (by decide : 35 ≤ _), (by decide : 298 ≤ _)⟩)
    dsimp only [Pt.U, Pt.locs, Pt.cells, Pt.slots] at X101 l101 y101 z101 st101 hQ101
    subst l101 y101 z101
    obtain ⟨rfl, N101q, e101⟩ := hQ101
    have N101 := Fr.app N96 N101q
    refine bW T101 (mkF m 290 #[vi sa, vi ia, vi c0, vi c1, vi c2, vi 2, vi bb, vr x0, vr x1, vr x2, vr b30, vi i0, vi i1, vi i2, vr b36, vr b40, vr b44, vr b48, vr b88, vi 0, uu, uu, uu] [(.int (own_e bb i1))]) (fun _ k => st101 _ k) ?_
    by_cases hc290_102 : (own_e bb i1) = (0 : Int32)
    · skip
      refine bW T101 (mkF m 293 #[vi sa, vi ia, vi c0, vi c1, vi c2, vi 2, vi bb, vr x0, vr x1, vr x2, vr b30, vi i0, vi i1, vi i2, vr b36, vr b40, vr b44, vr b48, vr b88, vi 0, uu, uu, uu] []) (fun _ k => XS.ifNo X101.here hx rfl (hb hby at_290) rfl ((if0 _ _).trans (teq hc290_102).2) k) ?_
      refine bW T101 (mkF m 294 #[vi sa, vi ia, vi c0, vi c1, vi c2, vi 2, vi bb, vr x0, vr x1, vr x2, vr b30, vi i0, vi i1, vi i2, vr b36, vr b40, vr b44, vr b48, vr b88, vi 0, uu, uu, uu] [(.int (1 : Int32))]) (fun _ k => XS.iconst X101.here hx rfl (hb hby at_293) k) ?_
      refine bW T101 (mkF m 298 #[vi sa, vi ia, vi c0, vi c1, vi c2, vi 2, vi bb, vr x0, vr x1, vr x2, vr b30, vi i0, vi i1, vi i2, vr b36, vr b40, vr b44, vr b48, vr b88, vi 0, uu, uu, uu] [(.int (1 : Int32))]) (fun _ k => XS.goto X101.here hx rfl (pc0 := 294) (pc' := 298) rfl (hb hby at_294) (by decide) (by decide) k) ?_
      refine bW T101 (mkF m 300 #[vi sa, vi ia, vi c0, vi c1, vi c2, vi 2, vi bb, vr x0, vr x1, vr x2, vr b30, vi i0, vi i1, vi i2, vr b36, vr b40, vr b44, vr b48, vr b88, vi 0, vi 1, uu, uu] []) (fun _ k => XS.istore X101.here hx rfl (hb hby at_298) rfl rfl k) ?_
      refine bW T101 (mkF m 302 #[vi sa, vi ia, vi c0, vi c1, vi c2, vi 2, vi bb, vr x0, vr x1, vr x2, vr b30, vi i0, vi i1, vi i2, vr b36, vr b40, vr b44, vr b48, vr b88, vi 0, vi 1, uu, uu] [(.int (2 : Int32))]) (fun _ k => XS.iload X101.here hx rfl (hb hby at_300) rfl k) ?_
      refine bW T101 (mkF m 303 #[vi sa, vi ia, vi c0, vi c1, vi c2, vi 2, vi bb, vr x0, vr x1, vr x2, vr b30, vi i0, vi i1, vi i2, vr b36, vr b40, vr b44, vr b48, vr b88, vi 0, vi 1, uu, uu] [(.int (2 : Int32)), (.int (2 : Int32))]) (fun _ k => XS.iconst X101.here hx rfl (hb hby at_302) k) ?_
      refine bW T101 (mkF m 320 #[vi sa, vi ia, vi c0, vi c1, vi c2, vi 2, vi bb, vr x0, vr x1, vr x2, vr b30, vi i0, vi i1, vi i2, vr b36, vr b40, vr b44, vr b48, vr b88, vi 0, vi 1, uu, uu] []) (fun _ k => XS.icmpYes X101.here hx rfl (pc0 := 303) (pc' := 320) rfl (hb hby at_303) rfl (flt (by decide)).2.2.2 (by decide) (by decide) k) ?_
      refine bW T101 (mkF m 321 #[vi sa, vi ia, vi c0, vi c1, vi c2, vi 2, vi bb, vr x0, vr x1, vr x2, vr b30, vi i0, vi i1, vi i2, vr b36, vr b40, vr b44, vr b48, vr b88, vi 0, vi 1, uu, uu] [(ii 0)]) (fun _ k => XS.iconst X101.here hx rfl (hb hby at_320) k) ?_
      refine bW T101 (mkF m 323 #[vi sa, vi ia, vi c0, vi c1, vi c2, vi 2, vi bb, vr x0, vr x1, vr x2, vr b30, vi i0, vi i1, vi i2, vr b36, vr b40, vr b44, vr b48, vr b88, vi 0, vi 1, vi 0, uu] []) (fun _ k => XS.istore X101.here hx rfl (hb hby at_321) rfl rfl k) ?_
      refine bW T101 (mkF m 325 #[vi sa, vi ia, vi c0, vi c1, vi c2, vi 2, vi bb, vr x0, vr x1, vr x2, vr b30, vi i0, vi i1, vi i2, vr b36, vr b40, vr b44, vr b48, vr b88, vi 0, vi 1, vi 0, uu] [(ii 0)]) (fun _ k => XS.iload X101.here hx rfl (hb hby at_323) rfl k) ?_
      refine bW T101 (mkF m 332 #[vi sa, vi ia, vi c0, vi c1, vi c2, vi 2, vi bb, vr x0, vr x1, vr x2, vr b30, vi i0, vi i1, vi i2, vr b36, vr b40, vr b44, vr b48, vr b88, vi 0, vi 1, vi 0, uu] []) (fun _ k => XS.ifYes X101.here hx rfl (pc0 := 325) (pc' := 332) rfl (hb hby at_325) rfl ((if0 _ _).trans (teq (by decide)).1) (by decide) (by decide) k) ?_
      refine bW T101 (mkF m 334 #[vi sa, vi ia, vi c0, vi c1, vi c2, vi 2, vi bb, vr x0, vr x1, vr x2, vr b30, vi i0, vi i1, vi i2, vr b36, vr b40, vr b44, vr b48, vr b88, vi 0, vi 1, vi 0, uu] [(.int (1 : Int32))]) (fun _ k => XS.iload X101.here hx rfl (hb hby at_332) rfl k) ?_
      refine bW T101 (mkF m 337 #[vi sa, vi ia, vi c0, vi c1, vi c2, vi 2, vi bb, vr x0, vr x1, vr x2, vr b30, vi i0, vi i1, vi i2, vr b36, vr b40, vr b44, vr b48, vr b88, vi 0, vi 1, vi 0, uu] []) (fun _ k => XS.ifNo X101.here hx rfl (hb hby at_334) rfl ((if0 _ _).trans (feq (by decide)).1) k) ?_
      refine bW T101 (mkF m 338 #[vi sa, vi ia, vi c0, vi c1, vi c2, vi 2, vi bb, vr x0, vr x1, vr x2, vr b30, vi i0, vi i1, vi i2, vr b36, vr b40, vr b44, vr b48, vr b88, vi 0, vi 1, vi 0, uu] [(.int (1 : Int32))]) (fun _ k => XS.iconst X101.here hx rfl (hb hby at_337) k) ?_
      refine bW T101 (mkF m 351 #[vi sa, vi ia, vi c0, vi c1, vi c2, vi 2, vi bb, vr x0, vr x1, vr x2, vr b30, vi i0, vi i1, vi i2, vr b36, vr b40, vr b44, vr b48, vr b88, vi 0, vi 1, vi 0, uu] [(.int (1 : Int32))]) (fun _ k => XS.goto X101.here hx rfl (pc0 := 338) (pc' := 351) rfl (hb hby at_338) (by decide) (by decide) k) ?_
      refine bW T101 (mkF m 353 #[vi sa, vi ia, vi c0, vi c1, vi c2, vi 2, vi bb, vr x0, vr x1, vr x2, vr b30, vi i0, vi i1, vi i2, vr b36, vr b40, vr b44, vr b48, vr b88, vi 0, vi 1, vi 0, vi 1] []) (fun _ k => XS.istore X101.here hx rfl (hb hby at_351) rfl rfl k) ?_
      exact rm0_c17 (h1 := h1) (T1 := T101) (vm1 := vm1) hw X101 e101 Kc N101 Z0 hZ1 hown1 hS1 hk1 C1 hx hby hml hlk hrt Y3 Y4 Y5 Y6 Y7 Y8 Y9 Y10 Y11 Y37 Y38 Y39 Y40 Y41 Y42 (by rw [own_zz hi0 hz0 hz1 hz2 (if_neg hc267_97), own_zz hi1 hz0 hz1 hz2 (if_pos hc290_102)]; decide)
    · skip
      refine bW T101 (mkF m 297 #[vi sa, vi ia, vi c0, vi c1, vi c2, vi 2, vi bb, vr x0, vr x1, vr x2, vr b30, vi i0, vi i1, vi i2, vr b36, vr b40, vr b44, vr b48, vr b88, vi 0, uu, uu, uu] []) (fun _ k => XS.ifYes X101.here hx rfl (pc0 := 290) (pc' := 297) rfl (hb hby at_290) rfl ((if0 _ _).trans (feq hc290_102).2) (by decide) (by decide) k) ?_
      refine bW T101 (mkF m 298 #[vi sa, vi ia, vi c0, vi c1, vi c2, vi 2, vi bb, vr x0, vr x1, vr x2, vr b30, vi i0, vi i1, vi i2, vr b36, vr b40, vr b44, vr b48, vr b88, vi 0, uu, uu, uu] [(ii 0)]) (fun _ k => XS.iconst X101.here hx rfl (hb hby at_297) k) ?_
      refine bW T101 (mkF m 300 #[vi sa, vi ia, vi c0, vi c1, vi c2, vi 2, vi bb, vr x0, vr x1, vr x2, vr b30, vi i0, vi i1, vi i2, vr b36, vr b40, vr b44, vr b48, vr b88, vi 0, vi 0, uu, uu] []) (fun _ k => XS.istore X101.here hx rfl (hb hby at_298) rfl rfl k) ?_
      refine bW T101 (mkF m 302 #[vi sa, vi ia, vi c0, vi c1, vi c2, vi 2, vi bb, vr x0, vr x1, vr x2, vr b30, vi i0, vi i1, vi i2, vr b36, vr b40, vr b44, vr b48, vr b88, vi 0, vi 0, uu, uu] [(.int (2 : Int32))]) (fun _ k => XS.iload X101.here hx rfl (hb hby at_300) rfl k) ?_
      refine bW T101 (mkF m 303 #[vi sa, vi ia, vi c0, vi c1, vi c2, vi 2, vi bb, vr x0, vr x1, vr x2, vr b30, vi i0, vi i1, vi i2, vr b36, vr b40, vr b44, vr b48, vr b88, vi 0, vi 0, uu, uu] [(.int (2 : Int32)), (.int (2 : Int32))]) (fun _ k => XS.iconst X101.here hx rfl (hb hby at_302) k) ?_
      refine bW T101 (mkF m 320 #[vi sa, vi ia, vi c0, vi c1, vi c2, vi 2, vi bb, vr x0, vr x1, vr x2, vr b30, vi i0, vi i1, vi i2, vr b36, vr b40, vr b44, vr b48, vr b88, vi 0, vi 0, uu, uu] []) (fun _ k => XS.icmpYes X101.here hx rfl (pc0 := 303) (pc' := 320) rfl (hb hby at_303) rfl (flt (by decide)).2.2.2 (by decide) (by decide) k) ?_
      refine bW T101 (mkF m 321 #[vi sa, vi ia, vi c0, vi c1, vi c2, vi 2, vi bb, vr x0, vr x1, vr x2, vr b30, vi i0, vi i1, vi i2, vr b36, vr b40, vr b44, vr b48, vr b88, vi 0, vi 0, uu, uu] [(ii 0)]) (fun _ k => XS.iconst X101.here hx rfl (hb hby at_320) k) ?_
      refine bW T101 (mkF m 323 #[vi sa, vi ia, vi c0, vi c1, vi c2, vi 2, vi bb, vr x0, vr x1, vr x2, vr b30, vi i0, vi i1, vi i2, vr b36, vr b40, vr b44, vr b48, vr b88, vi 0, vi 0, vi 0, uu] []) (fun _ k => XS.istore X101.here hx rfl (hb hby at_321) rfl rfl k) ?_
      refine bW T101 (mkF m 325 #[vi sa, vi ia, vi c0, vi c1, vi c2, vi 2, vi bb, vr x0, vr x1, vr x2, vr b30, vi i0, vi i1, vi i2, vr b36, vr b40, vr b44, vr b48, vr b88, vi 0, vi 0, vi 0, uu] [(ii 0)]) (fun _ k => XS.iload X101.here hx rfl (hb hby at_323) rfl k) ?_
      refine bW T101 (mkF m 332 #[vi sa, vi ia, vi c0, vi c1, vi c2, vi 2, vi bb, vr x0, vr x1, vr x2, vr b30, vi i0, vi i1, vi i2, vr b36, vr b40, vr b44, vr b48, vr b88, vi 0, vi 0, vi 0, uu] []) (fun _ k => XS.ifYes X101.here hx rfl (pc0 := 325) (pc' := 332) rfl (hb hby at_325) rfl ((if0 _ _).trans (teq (by decide)).1) (by decide) (by decide) k) ?_
      refine bW T101 (mkF m 334 #[vi sa, vi ia, vi c0, vi c1, vi c2, vi 2, vi bb, vr x0, vr x1, vr x2, vr b30, vi i0, vi i1, vi i2, vr b36, vr b40, vr b44, vr b48, vr b88, vi 0, vi 0, vi 0, uu] [(ii 0)]) (fun _ k => XS.iload X101.here hx rfl (hb hby at_332) rfl k) ?_
      refine bW T101 (mkF m 341 #[vi sa, vi ia, vi c0, vi c1, vi c2, vi 2, vi bb, vr x0, vr x1, vr x2, vr b30, vi i0, vi i1, vi i2, vr b36, vr b40, vr b44, vr b48, vr b88, vi 0, vi 0, vi 0, uu] []) (fun _ k => XS.ifYes X101.here hx rfl (pc0 := 334) (pc' := 341) rfl (hb hby at_334) rfl ((if0 _ _).trans (teq (by decide)).1) (by decide) (by decide) k) ?_
      refine bW T101 (mkF m 343 #[vi sa, vi ia, vi c0, vi c1, vi c2, vi 2, vi bb, vr x0, vr x1, vr x2, vr b30, vi i0, vi i1, vi i2, vr b36, vr b40, vr b44, vr b48, vr b88, vi 0, vi 0, vi 0, uu] [(ii 0)]) (fun _ k => XS.iload X101.here hx rfl (hb hby at_341) rfl k) ?_
      refine bW T101 (mkF m 350 #[vi sa, vi ia, vi c0, vi c1, vi c2, vi 2, vi bb, vr x0, vr x1, vr x2, vr b30, vi i0, vi i1, vi i2, vr b36, vr b40, vr b44, vr b48, vr b88, vi 0, vi 0, vi 0, uu] []) (fun _ k => XS.ifYes X101.here hx rfl (pc0 := 343) (pc' := 350) rfl (hb hby at_343) rfl ((if0 _ _).trans (teq (by decide)).1) (by decide) (by decide) k) ?_
      refine bW T101 (mkF m 351 #[vi sa, vi ia, vi c0, vi c1, vi c2, vi 2, vi bb, vr x0, vr x1, vr x2, vr b30, vi i0, vi i1, vi i2, vr b36, vr b40, vr b44, vr b48, vr b88, vi 0, vi 0, vi 0, uu] [(.int (-1 : Int32))]) (fun _ k => XS.iconst X101.here hx rfl (hb hby at_350) k) ?_
      refine bW T101 (mkF m 353 #[vi sa, vi ia, vi c0, vi c1, vi c2, vi 2, vi bb, vr x0, vr x1, vr x2, vr b30, vi i0, vi i1, vi i2, vr b36, vr b40, vr b44, vr b48, vr b88, vi 0, vi 0, vi 0, vi (-1 : Int32)] []) (fun _ k => XS.istore X101.here hx rfl (hb hby at_351) rfl rfl k) ?_
      exact rm0_c17 (h1 := h1) (T1 := T101) (vm1 := vm1) hw X101 e101 Kc N101 Z0 hZ1 hown1 hS1 hk1 C1 hx hby hml hlk hrt Y3 Y4 Y5 Y6 Y7 Y8 Y9 Y10 Y11 Y37 Y38 Y39 Y40 Y41 Y42 (by rw [own_zz hi0 hz0 hz1 hz2 (if_neg hc267_97), own_zz hi1 hz0 hz1 hz2 (if_neg hc290_102)]; decide)
theorem rm0_c15 {l : _} {Z : State} {a0 : Array Value} (hw : HW Z a0) {sa : Int32} {ia : Int32} {c0 : Int32} {c1 : Int32} {c2 : Int32} {cs : Int32} {aD : Addr} {kD : ClassId} {h0 : Heap} {n0 : Nat} {p : _} {e : _} {s : State} {m : _} {below : _} {meth : _} {c : _} {h1 : Heap} {T1 : State} {Lc : List Loc} {vm1 : Vm} {ks1 : Nat} {x0 : Addr} {t0 : Addr} {q0 : ClassId} {z0 : Int32} {v0 : List Value} {x1 : Addr} {t1 : Addr} {q1 : ClassId} {z1 : Int32} {v1 : List Value} {x2 : Addr} {t2 : Addr} {q2 : ClassId} {z2 : Int32} {v2 : List Value} {b30 : Addr} {d32 : Addr} {kd32 : ClassId} {b36 : Addr} {i0 : Int32} {b40 : Addr} {i1 : Int32} {b48 : Addr} {d85 : Addr} {kd85 : ClassId} {bb : Int32} {i2 : Int32} {b44 : Addr} (X1 : Stand p l e room_1 (s.setVm vm1) m #[(.int sa), (.int ia), (.int c0), (.int c1), (.int c2)] below meth c T1 Lc 25 257) (e1 : T1.heap = h1) (Kc : Keep h0 h1 []) (Nc : Fr n0 Lc) (Z0 : n0 ≤ h0.size) (O0 : Old Z n0 h1) (S_DE : Sta Z Z.heap sL "DEFAULTCAPACITY_EMPTY_ELEMENTDATA" "[Ljava/lang/Object;" (.ref aD)) (V_aD : Arv Z Z.heap aD kD (.object sO) (0 : Int32) [] .null) (hZ1 : Z.Warmed39 (s.setVm vm1).vm) (hown1 : (s.setVm vm1).vm.findClass "com/example/nisaba/nisaba/isatab/ValuesFirstGivenPinLaw" = some m.cls) (hS1 : s.Since vm1 ks1) (hk1 : ks1 ≤ h1.size) (C1 : CHr Z consts_1 s.vm s.heap vm1 h1) (hx : p.tables.exec = Jvm.exec) (hby : c.code = code) (hml : c.maxLocals = 23) (hlk : meth.locks = false) (hrt : meth.sig.returnType = (some .boolean)) (Y3 : Exa Z h1 x0 sS) (Y4 : Fld Z h1 x0 sS "value" "[B" (.ref t0)) (Y5 : Arv Z h1 t0 q0 .byte z0 v0 (ii 0)) (Y6 : Exa Z h1 x1 sS) (Y7 : Fld Z h1 x1 sS "value" "[B" (.ref t1)) (Y8 : Arv Z h1 t1 q1 .byte z1 v1 (ii 0)) (Y9 : Exa Z h1 x2 sS) (Y10 : Fld Z h1 x2 sS "value" "[B" (.ref t2)) (Y11 : Arv Z h1 t2 q2 .byte z2 v2 (ii 0)) (Y12 : Exa Z h1 b30 sL) (Y14 : Fld Z h1 b30 sL "elementData" sE (.ref d32)) (Y15 : Fld Z h1 b30 sL "size" "I" (.int (3 : Int32))) (Y16 : Arv Z h1 d32 kd32 (.object sO) (10 : Int32) [(.ref x0), (.ref x1), (.ref x2), .null, .null, .null, .null, .null, .null, .null] .null) (Y17 : Exa Z h1 b36 sA) (Y18 : Fld Z h1 b36 sA "unit" "I" (.int (-1 : Int32))) (Y19 : Fld Z h1 b36 sA "value" "I" (.int i0)) (Y22 : Exa Z h1 b40 sA) (Y23 : Fld Z h1 b40 sA "unit" "I" (.int (-1 : Int32))) (Y24 : Fld Z h1 b40 sA "value" "I" (.int i1)) (Y32 : Exa Z h1 b48 sL) (Y33 : Fld Z h1 b48 sB "modCount" "I" (.int (2 : Int32))) (Y34 : Fld Z h1 b48 sL "elementData" sE (.ref d85)) (Y35 : Fld Z h1 b48 sL "size" "I" (.int (2 : Int32))) (Y36 : Arv Z h1 d85 kd85 (.object sO) (10 : Int32) [(.ref b36), (.ref b40), .null, .null, .null, .null, .null, .null, .null, .null] .null) (hz0 : z0 = own_z bb (0 : Int32)) (hz1 : z1 = own_z bb (1 : Int32)) (hz2 : z2 = own_z bb (2 : Int32)) (hi0 : i0 = 0 ∨ i0 = 1 ∨ i0 = 2) (hi1 : i1 = 0 ∨ i1 = 1 ∨ i1 = 2) :
    own_GoW p.tables e below Z consts_1 (Q_rm0 Z sa ia c0 c1 c2 cs aD kD h0 n0) s 64 7488 T1 (mkF m 242 #[vi sa, vi ia, vi c0, vi c1, vi c2, vi 2, vi bb, vr x0, vr x1, vr x2, vr b30, vi i0, vi i1, vi i2, vr b36, vr b40, vr b44, vr b48, uu, uu, uu, uu, uu] []) := by
  have hEL : EW Z a0 consts_1 := own_EL hw
  obtain ⟨T88, h88, X88, e88, E88, A88, D88, -, st88⟩ := newO X1 hx hZ1 hown1 (hw _ (mo 107 rfl)) (hw _ (mo 108 rfl)) (hw _ (mo 109 rfl)) e1 (g := (mkF m 242 #[vi sa, vi ia, vi c0, vi c1, vi c2, vi 2, vi bb, vr x0, vr x1, vr x2, vr b30, vi i0, vi i1, vi i2, vr b36, vr b40, vr b44, vr b48, uu, uu, uu, uu, uu] [])) rfl (hb hby at_242) (by decide) (by decide)
  obtain ⟨b88, g88⟩ : ∃ z, z = h1.size := ⟨_, rfl⟩
  rw [← g88] at A88 D88 st88
  have E_b88 : Exa Z h88 b88 sV := A88
  have F_values_b88 : Fld Z h88 b88 sV "values" "Ljava/util/List;" .null := D88 (Or.inr (hw _ (mo 117 rfl))) (ty := (.object "java/util/List")) (by decide)
  have F_units_b88 : Fld Z h88 b88 sV "units" "Ljava/util/List;" .null := D88 (Or.inr (hw _ (mo 119 rfl))) (ty := (.object "java/util/List")) (by decide)
  have F_columns_b88 : Fld Z h88 b88 sV "columns" "Ljava/util/List;" .null := D88 (Or.inr (hw _ (mo 121 rfl))) (ty := (.object "java/util/List")) (by decide)
  have g_b88 : n0 ≤ b88 := Nat.le_trans (Nat.le_trans Z0 Kc.1) (Nat.le_of_eq g88.symm)
  have sz_b88 : h0.size ≤ b88 := Nat.le_trans Kc.1 (Nat.le_of_eq g88.symm)
  have K88 : Keep h0 h88 [] := Keep.ext Kc E88
  have C88 : CHr Z consts_1 s.vm s.heap vm1 h88 := CHr.trans C1 (CHr.ext E88 C1.1)
  refine bW T88 (mkF m 245 #[vi sa, vi ia, vi c0, vi c1, vi c2, vi 2, vi bb, vr x0, vr x1, vr x2, vr b30, vi i0, vi i1, vi i2, vr b36, vr b40, vr b44, vr b48, uu, uu, uu, uu, uu] [(.ref b88)]) (fun _ k => st88 _ k) ?_
  refine bW T88 (mkF m 246 #[vi sa, vi ia, vi c0, vi c1, vi c2, vi 2, vi bb, vr x0, vr x1, vr x2, vr b30, vi i0, vi i1, vi i2, vr b36, vr b40, vr b44, vr b48, uu, uu, uu, uu, uu] [(.ref b88), (.ref b88)]) (fun _ k => XS.dup X88.here hx rfl (hb hby at_245) rfl rfl k) ?_
  refine bW T88 (mkF m 248 #[vi sa, vi ia, vi c0, vi c1, vi c2, vi 2, vi bb, vr x0, vr x1, vr x2, vr b30, vi i0, vi i1, vi i2, vr b36, vr b40, vr b44, vr b48, uu, uu, uu, uu, uu] [(.ref b30), (.ref b88), (.ref b88)]) (fun _ k => XS.aload X88.here hx rfl (hb hby at_246) rfl rfl k) ?_
  refine bW T88 (mkF m 250 #[vi sa, vi ia, vi c0, vi c1, vi c2, vi 2, vi bb, vr x0, vr x1, vr x2, vr b30, vi i0, vi i1, vi i2, vr b36, vr b40, vr b44, vr b48, uu, uu, uu, uu, uu] [(.ref b48), (.ref b30), (.ref b88), (.ref b88)]) (fun _ k => XS.aload X88.here hx rfl (hb hby at_248) rfl rfl k) ?_
  have ne89 : b30 ≠ b88 := (Nat.ne_of_lt (Nat.lt_of_lt_of_le Y12.lt (Nat.le_of_eq g88.symm)))
  have ne90 : d32 ≠ b88 := (Nat.ne_of_lt (Nat.lt_of_lt_of_le Y16.lt (Nat.le_of_eq g88.symm)))
  have ne91 : b48 ≠ b88 := (Nat.ne_of_lt (Nat.lt_of_lt_of_le Y32.lt (Nat.le_of_eq g88.symm)))
  have ne92 : d85 ≠ b88 := (Nat.ne_of_lt (Nat.lt_of_lt_of_le Y36.lt (Nat.le_of_eq g88.symm)))
  have ne93 : b36 ≠ b88 := (Nat.ne_of_lt (Nat.lt_of_lt_of_le Y17.lt (Nat.le_of_eq g88.symm)))
  have ne94 : b40 ≠ b88 := (Nat.ne_of_lt (Nat.lt_of_lt_of_le Y22.lt (Nat.le_of_eq g88.symm)))
  obtain ⟨_, _, ⟨T95, L95, k95, n95⟩, -, X95, hSq95, hgq95, ⟨Lc95, hQ95, l95, y95, z95, Cq95⟩, st95⟩ := X88.specialBackS hx (y := yy27) rfl hown1 (mvT hZ1 (hw _ (mo 110 rfl))) (mvT hZ1 (hw _ (mo 111 rfl))) (mvT hZ1 (hw _ (mo 112 rfl))) (by decide) (own_backSH (s := s) (EL := consts_1) (W := 1) (vin_2 l Z a0 hw [] b88 b30 b48 aD kD d32 kd32 x0 x1 x2 d85 kd85 b36 b40 i0 i1 h88 n0 (Nat.le_trans (Nat.le_trans Z0 Kc.1) E88.1) (Old.ext O0 E88) S_DE V_aD E_b88 F_values_b88 F_units_b88 F_columns_b88 g_b88 (Exa.ext E88 Y12) (Fld.ext E88 Y15) (Fld.ext E88 Y14) (Arv.ext Y16 E88) (Exa.ext E88 Y3) (Exa.ext E88 Y6) (Exa.ext E88 Y9) (Exa.ext E88 Y32) (Fld.ext E88 Y33) (Fld.ext E88 Y34) (Fld.ext E88 Y35) (Arv.ext Y36 E88) (Exa.ext E88 Y17) (Fld.ext E88 Y19) (Fld.ext E88 Y18) hi0 (Exa.ext E88 Y22) (Fld.ext E88 Y24) (Fld.ext E88 Y23) hi1 ne89 ne90 ne91 ne92 ne93 ne94) hZ1 (hw _ (mo 112 rfl)) (hw _ (mo 109 rfl)) (by decide) (by decide) hEL C88.1 (fun _ _ => trivial)) (g := (mkF m 250 #[vi sa, vi ia, vi c0, vi c1, vi c2, vi 2, vi bb, vr x0, vr x1, vr x2, vr b30, vi i0, vi i1, vi i2, vr b36, vr b40, vr b44, vr b48, uu, uu, uu, uu, uu] [(.ref b48), (.ref b30), (.ref b88), (.ref b88)])) rfl (by rw [hml]; rfl) (Steps.refl _) (a := b88) (argsL := [(.ref b30), (.ref b48)]) (rest := [(.ref b88)]) (lenOf pd_19 rfl) rfl (Nat.le_of_eq rfl) (hb hby at_250) (fun _ _ => ⟨rfl, e88, (by decide : 35 ≤ _), (by decide : 298 ≤ _)⟩)
  dsimp only [Pt.U, Pt.locs, Pt.cells, Pt.slots] at X95 l95 y95 z95 st95 hQ95 hSq95 hgq95 Cq95
  subst l95 y95 z95
  obtain ⟨rfl, N95q, K95, vl95, dv95, kv95, Fa95, Ev95, Fz95, Fe95, Vd95⟩ := hQ95
  have N95 := Fr.app Nc N95q
  have KK95 : Keep h0 T95.heap [] := Keep.trans K88 K95 (allS (Or.inr sz_b88) all0)
  have hS95 := foldS hS1 (T := T88) (by rw [e88]; exact (Nat.le_trans hk1 E88.1)) hSq95 hgq95
  have hZ95 : Z.Warmed39 (s.setVm T95.vm).vm := State.Warmed39.trans hZ1 hSq95.1
  have hown95 : (s.setVm T95.vm).vm.findClass "com/example/nisaba/nisaba/isatab/ValuesFirstGivenPinLaw" = some m.cls := by show T95.vm.findClass "com/example/nisaba/nisaba/isatab/ValuesFirstGivenPinLaw" = some m.cls; rw [hSq95.1.alike.findClass]; exact hown1
  have X95 : Stand p l e room_1 (s.setVm T95.vm) m #[(.int sa), (.int ia), (.int c0), (.int c1), (.int c2)] below meth c T95 (Lc ++ Lc95) ((25 + 1) + 9) ((257 + 3) + 38) := X95
  have C95 : CHr Z consts_1 s.vm s.heap T95.vm T95.heap := CHr.trans C88 Cq95
  refine bW T95 (mkF m 253 #[vi sa, vi ia, vi c0, vi c1, vi c2, vi 2, vi bb, vr x0, vr x1, vr x2, vr b30, vi i0, vi i1, vi i2, vr b36, vr b40, vr b44, vr b48, uu, uu, uu, uu, uu] [(.ref b88)]) (fun _ k => st95.trans k) ?_
  refine bW T95 (mkF m 255 #[vi sa, vi ia, vi c0, vi c1, vi c2, vi 2, vi bb, vr x0, vr x1, vr x2, vr b30, vi i0, vi i1, vi i2, vr b36, vr b40, vr b44, vr b48, vr b88, uu, uu, uu, uu] []) (fun _ k => XS.astore X95.here hx rfl (hb hby at_253) rfl rfl rfl k) ?_
  have ne103 : x0 ≠ b88 := (Nat.ne_of_lt (Nat.lt_of_lt_of_le Y3.lt (Nat.le_of_eq g88.symm)))
  have ne104 : t0 ≠ b88 := (Nat.ne_of_lt (Nat.lt_of_lt_of_le Y5.lt (Nat.le_of_eq g88.symm)))
  have ne105 : x1 ≠ b88 := (Nat.ne_of_lt (Nat.lt_of_lt_of_le Y6.lt (Nat.le_of_eq g88.symm)))
  have ne106 : t1 ≠ b88 := (Nat.ne_of_lt (Nat.lt_of_lt_of_le Y8.lt (Nat.le_of_eq g88.symm)))
  have ne107 : x2 ≠ b88 := (Nat.ne_of_lt (Nat.lt_of_lt_of_le Y9.lt (Nat.le_of_eq g88.symm)))
  have ne108 : t2 ≠ b88 := (Nat.ne_of_lt (Nat.lt_of_lt_of_le Y11.lt (Nat.le_of_eq g88.symm)))
  exact rm0_c16 (h1 := T95.heap) (T1 := T95) (vm1 := T95.vm) hw X95 rfl KK95 N95 Z0 hZ95 hown95 hS95 (Nat.le_refl _) C95 hx hby hml hlk hrt (Exa.keep (Exa.ext E88 Y3) K95) (Fld.keep (Fld.ext E88 Y4) K95 (ninS ne103 nin0)) (Arv.keep (Arv.ext Y5 E88) K95 (ninS ne104 nin0)) (Exa.keep (Exa.ext E88 Y6) K95) (Fld.keep (Fld.ext E88 Y7) K95 (ninS ne105 nin0)) (Arv.keep (Arv.ext Y8 E88) K95 (ninS ne106 nin0)) (Exa.keep (Exa.ext E88 Y9) K95) (Fld.keep (Fld.ext E88 Y10) K95 (ninS ne107 nin0)) (Arv.keep (Arv.ext Y11 E88) K95 (ninS ne108 nin0)) (Exa.keep E_b88 K95) Fa95 Ev95 Fz95 Fe95 Vd95 hz0 hz1 hz2 hi0 hi1
theorem rm0_c14 {l : _} {Z : State} {a0 : Array Value} (hw : HW Z a0) {sa : Int32} {ia : Int32} {c0 : Int32} {c1 : Int32} {c2 : Int32} {cs : Int32} {aD : Addr} {kD : ClassId} {h0 : Heap} {n0 : Nat} {p : _} {e : _} {s : State} {m : _} {below : _} {meth : _} {c : _} {h1 : Heap} {T1 : State} {Lc : List Loc} {vm1 : Vm} {ks1 : Nat} {x0 : Addr} {t0 : Addr} {q0 : ClassId} {z0 : Int32} {v0 : List Value} {x1 : Addr} {t1 : Addr} {q1 : ClassId} {z1 : Int32} {v1 : List Value} {x2 : Addr} {t2 : Addr} {q2 : ClassId} {z2 : Int32} {v2 : List Value} {b30 : Addr} {d32 : Addr} {kd32 : ClassId} {b36 : Addr} {i0 : Int32} {b40 : Addr} {i1 : Int32} {b48 : Addr} {bb : Int32} {i2 : Int32} {b44 : Addr} (X1 : Stand p l e room_1 (s.setVm vm1) m #[(.int sa), (.int ia), (.int c0), (.int c1), (.int c2)] below meth c T1 Lc 24 247) (e1 : T1.heap = h1) (Kc : Keep h0 h1 []) (Nc : Fr n0 Lc) (Z0 : n0 ≤ h0.size) (O0 : Old Z n0 h1) (S_DE : Sta Z Z.heap sL "DEFAULTCAPACITY_EMPTY_ELEMENTDATA" "[Ljava/lang/Object;" (.ref aD)) (V_aD : Arv Z Z.heap aD kD (.object sO) (0 : Int32) [] .null) (hZ1 : Z.Warmed39 (s.setVm vm1).vm) (hown1 : (s.setVm vm1).vm.findClass "com/example/nisaba/nisaba/isatab/ValuesFirstGivenPinLaw" = some m.cls) (hS1 : s.Since vm1 ks1) (hk1 : ks1 ≤ h1.size) (C1 : CHr Z consts_1 s.vm s.heap vm1 h1) (hx : p.tables.exec = Jvm.exec) (hby : c.code = code) (hml : c.maxLocals = 23) (hlk : meth.locks = false) (hrt : meth.sig.returnType = (some .boolean)) (Y3 : Exa Z h1 x0 sS) (Y4 : Fld Z h1 x0 sS "value" "[B" (.ref t0)) (Y5 : Arv Z h1 t0 q0 .byte z0 v0 (ii 0)) (Y6 : Exa Z h1 x1 sS) (Y7 : Fld Z h1 x1 sS "value" "[B" (.ref t1)) (Y8 : Arv Z h1 t1 q1 .byte z1 v1 (ii 0)) (Y9 : Exa Z h1 x2 sS) (Y10 : Fld Z h1 x2 sS "value" "[B" (.ref t2)) (Y11 : Arv Z h1 t2 q2 .byte z2 v2 (ii 0)) (Y12 : Exa Z h1 b30 sL) (Y14 : Fld Z h1 b30 sL "elementData" sE (.ref d32)) (Y15 : Fld Z h1 b30 sL "size" "I" (.int (3 : Int32))) (Y16 : Arv Z h1 d32 kd32 (.object sO) (10 : Int32) [(.ref x0), (.ref x1), (.ref x2), .null, .null, .null, .null, .null, .null, .null] .null) (Y17 : Exa Z h1 b36 sA) (Y18 : Fld Z h1 b36 sA "unit" "I" (.int (-1 : Int32))) (Y19 : Fld Z h1 b36 sA "value" "I" (.int i0)) (Y22 : Exa Z h1 b40 sA) (Y23 : Fld Z h1 b40 sA "unit" "I" (.int (-1 : Int32))) (Y24 : Fld Z h1 b40 sA "value" "I" (.int i1)) (Y32 : Exa Z h1 b48 sL) (Y33 : Fld Z h1 b48 sB "modCount" "I" (ii 0)) (Y34 : Fld Z h1 b48 sL "elementData" sE (.ref aD)) (Y35 : Fld Z h1 b48 sL "size" "I" (ii 0)) (nx16 : x0 ≠ b48) (nx32 : t0 ≠ b48) (nx47 : x1 ≠ b48) (nx61 : t1 ≠ b48) (nx74 : x2 ≠ b48) (nx86 : t2 ≠ b48) (nx97 : b30 ≠ b48) (nx107 : d32 ≠ b48) (nx116 : b36 ≠ b48) (nx137 : b40 ≠ b48) (g_b48 : n0 ≤ b48) (sz_b48 : h0.size ≤ b48) (hz0 : z0 = own_z bb (0 : Int32)) (hz1 : z1 = own_z bb (1 : Int32)) (hz2 : z2 = own_z bb (2 : Int32)) (hi0 : i0 = 0 ∨ i0 = 1 ∨ i0 = 2) (hi1 : i1 = 0 ∨ i1 = 1 ∨ i1 = 2) :
    own_GoW p.tables e below Z consts_1 (Q_rm0 Z sa ia c0 c1 c2 cs aD kD h0 n0) s 64 7488 T1 (mkF m 201 #[vi sa, vi ia, vi c0, vi c1, vi c2, vi 2, vi bb, vr x0, vr x1, vr x2, vr b30, vi i0, vi i1, vi i2, vr b36, vr b40, vr b44, vr b48, uu, uu, uu, uu, uu] []) := by
  refine bW T1 (mkF m 203 #[vi sa, vi ia, vi c0, vi c1, vi c2, vi 2, vi bb, vr x0, vr x1, vr x2, vr b30, vi i0, vi i1, vi i2, vr b36, vr b40, vr b44, vr b48, uu, uu, uu, uu, uu] [(.int (2 : Int32))]) (fun _ k => XS.iload X1.here hx rfl (hb hby at_201) rfl k) ?_
  refine bW T1 (mkF m 206 #[vi sa, vi ia, vi c0, vi c1, vi c2, vi 2, vi bb, vr x0, vr x1, vr x2, vr b30, vi i0, vi i1, vi i2, vr b36, vr b40, vr b44, vr b48, uu, uu, uu, uu, uu] []) (fun _ k => XS.ifNo X1.here hx rfl (hb hby at_203) rfl ((if0 _ _).trans (tlt (by decide)).2.2.2) k) ?_
  refine bW T1 (mkF m 208 #[vi sa, vi ia, vi c0, vi c1, vi c2, vi 2, vi bb, vr x0, vr x1, vr x2, vr b30, vi i0, vi i1, vi i2, vr b36, vr b40, vr b44, vr b48, uu, uu, uu, uu, uu] [(.ref b48)]) (fun _ k => XS.aload X1.here hx rfl (hb hby at_206) rfl rfl k) ?_
  refine bW T1 (mkF m 210 #[vi sa, vi ia, vi c0, vi c1, vi c2, vi 2, vi bb, vr x0, vr x1, vr x2, vr b30, vi i0, vi i1, vi i2, vr b36, vr b40, vr b44, vr b48, uu, uu, uu, uu, uu] [(.ref b36), (.ref b48)]) (fun _ k => XS.aload X1.here hx rfl (hb hby at_208) rfl rfl k) ?_
  obtain ⟨cq85, kq85, q85a, q85b, q85c⟩ := isOf hZ1 e1 Y32
  obtain ⟨_, _, ⟨T85, L85, k85, n85⟩, -, X85, ⟨Lc85, hQ85, l85, y85, z85⟩, st85⟩ := X1.virtualBack hx (y := yy13) (z := yy13) hown1 (mvT hZ1 (hw _ (mo 54 rfl))) (mvT hZ1 (hw _ (mo 55 rfl))) (notFace_of_selects (args := #[]) (mvT hZ1 (hw _ (mo 57 rfl)))) (mvT hZ1 (hw _ (mo 57 rfl))) (mvT hZ1 (hw _ (mo 56 rfl))) (by decide) (backOf (W := 0) (ad1s_0 l Z a0 hw [] b48 b36 aD kD sA h1 n0 (Nat.le_trans Z0 Kc.1) O0 Y32 Y33 Y34 Y35 g_b48 S_DE V_aD Y17 (hw _ (mo 171 rfl))) hZ1 (hw _ (mo 58 rfl)) (hw _ (mo 32 rfl)) (by decide) (by decide)) q85a q85c (g := (mkF m 210 #[vi sa, vi ia, vi c0, vi c1, vi c2, vi 2, vi bb, vr x0, vr x1, vr x2, vr b30, vi i0, vi i1, vi i2, vr b36, vr b40, vr b44, vr b48, uu, uu, uu, uu, uu] [(.ref b36), (.ref b48)])) rfl (by rw [hml]; rfl) (Steps.refl _) (argsL := [(.ref b36)]) (rest := []) (lenOf pd_15 rfl) rfl (Nat.le_of_eq rfl) (hb hby at_210) (fun _ _ => ⟨rfl, e1, (by decide : 25 ≤ _), (by decide : 257 ≤ _)⟩)
  dsimp only [Pt.U, Pt.locs, Pt.cells, Pt.slots] at X85 l85 y85 z85 st85 hQ85
  subst l85 y85 z85
  obtain ⟨rfl, N85q, K85, d85, kd85, zd85, Fm85, Fe85, Fz85, V85, O85⟩ := hQ85
  have N85 := Fr.app Nc N85q
  have KK85 : Keep h0 T85.heap [] := Keep.trans Kc K85 (allS (Or.inr sz_b48) all0)
  have C85 : CHr Z consts_1 s.vm s.heap vm1 T85.heap := CHr.trans C1 (CHr.keep K85 (sfS (Safe.exa (EL := consts_1) (vm := vm1) hZ1.alike Y32 (by decide) (by decide)) sf0) C1.1)
  have sz_d85 : h0.size ≤ d85 := Nat.le_trans Kc.1 zd85
  have g_d85 : n0 ≤ d85 := Nat.le_trans Z0 sz_d85
  refine bW T85 (mkF m 213 #[vi sa, vi ia, vi c0, vi c1, vi c2, vi 2, vi bb, vr x0, vr x1, vr x2, vr b30, vi i0, vi i1, vi i2, vr b36, vr b40, vr b44, vr b48, uu, uu, uu, uu, uu] [(.int (1 : Int32))]) (fun _ k => st85.trans k) ?_
  refine bW T85 (mkF m 214 #[vi sa, vi ia, vi c0, vi c1, vi c2, vi 2, vi bb, vr x0, vr x1, vr x2, vr b30, vi i0, vi i1, vi i2, vr b36, vr b40, vr b44, vr b48, uu, uu, uu, uu, uu] []) (fun _ k => XS.pop X85.here hx rfl (hb hby at_213) rfl rfl k) ?_
  refine bW T85 (mkF m 216 #[vi sa, vi ia, vi c0, vi c1, vi c2, vi 2, vi bb, vr x0, vr x1, vr x2, vr b30, vi i0, vi i1, vi i2, vr b36, vr b40, vr b44, vr b48, uu, uu, uu, uu, uu] [(.int (2 : Int32))]) (fun _ k => XS.iload X85.here hx rfl (hb hby at_214) rfl k) ?_
  refine bW T85 (mkF m 217 #[vi sa, vi ia, vi c0, vi c1, vi c2, vi 2, vi bb, vr x0, vr x1, vr x2, vr b30, vi i0, vi i1, vi i2, vr b36, vr b40, vr b44, vr b48, uu, uu, uu, uu, uu] [(.int (1 : Int32)), (.int (2 : Int32))]) (fun _ k => XS.iconst X85.here hx rfl (hb hby at_216) k) ?_
  refine bW T85 (mkF m 220 #[vi sa, vi ia, vi c0, vi c1, vi c2, vi 2, vi bb, vr x0, vr x1, vr x2, vr b30, vi i0, vi i1, vi i2, vr b36, vr b40, vr b44, vr b48, uu, uu, uu, uu, uu] []) (fun _ k => XS.icmpNo X85.here hx rfl (hb hby at_217) rfl (tlt (by decide)).2.2.2 k) ?_
  refine bW T85 (mkF m 222 #[vi sa, vi ia, vi c0, vi c1, vi c2, vi 2, vi bb, vr x0, vr x1, vr x2, vr b30, vi i0, vi i1, vi i2, vr b36, vr b40, vr b44, vr b48, uu, uu, uu, uu, uu] [(.ref b48)]) (fun _ k => XS.aload X85.here hx rfl (hb hby at_220) rfl rfl k) ?_
  refine bW T85 (mkF m 224 #[vi sa, vi ia, vi c0, vi c1, vi c2, vi 2, vi bb, vr x0, vr x1, vr x2, vr b30, vi i0, vi i1, vi i2, vr b36, vr b40, vr b44, vr b48, uu, uu, uu, uu, uu] [(.ref b40), (.ref b48)]) (fun _ k => XS.aload X85.here hx rfl (hb hby at_222) rfl rfl k) ?_
  have ne86 : b48 ≠ d85 := (Nat.ne_of_lt (Nat.lt_of_lt_of_le (Y32).lt zd85))
  obtain ⟨cq87, kq87, q87a, q87b, q87c⟩ := isOf hZ1 rfl (Exa.keep Y32 K85)
  obtain ⟨_, _, ⟨T87, L87, k87, n87⟩, -, X87, ⟨Lc87, hQ87, l87, y87, z87⟩, st87⟩ := X85.virtualBack hx (y := yy13) (z := yy13) hown1 (mvT hZ1 (hw _ (mo 54 rfl))) (mvT hZ1 (hw _ (mo 55 rfl))) (notFace_of_selects (args := #[]) (mvT hZ1 (hw _ (mo 57 rfl)))) (mvT hZ1 (hw _ (mo 57 rfl))) (mvT hZ1 (hw _ (mo 56 rfl))) (by decide) (backOf (W := 0) (ad1s_1 l Z a0 hw [] b48 b40 d85 kd85 b36 sA T85.heap n0 (Nat.le_trans (Nat.le_trans Z0 Kc.1) K85.1) (Exa.keep Y32 K85) Fm85 Fe85 Fz85 g_b48 V85 O85 g_d85 ne86 (Exa.keep Y22 K85) (hw _ (mo 171 rfl))) hZ1 (hw _ (mo 58 rfl)) (hw _ (mo 32 rfl)) (by decide) (by decide)) q87a q87c (g := (mkF m 224 #[vi sa, vi ia, vi c0, vi c1, vi c2, vi 2, vi bb, vr x0, vr x1, vr x2, vr b30, vi i0, vi i1, vi i2, vr b36, vr b40, vr b44, vr b48, uu, uu, uu, uu, uu] [(.ref b40), (.ref b48)])) rfl (by rw [hml]; rfl) (Steps.refl _) (argsL := [(.ref b40)]) (rest := []) (lenOf pd_15 rfl) rfl (Nat.le_of_eq rfl) (hb hby at_224) (fun _ _ => ⟨rfl, rfl, (by decide : 25 ≤ _), (by decide : 257 ≤ _)⟩)
  dsimp only [Pt.U, Pt.locs, Pt.cells, Pt.slots] at X87 l87 y87 z87 st87 hQ87
  subst l87 y87 z87
  obtain ⟨rfl, N87q, K87, Fm87, Fe87, Fz87, V87⟩ := hQ87
  have N87 := Fr.app N85 N87q
  have KK87 : Keep h0 T87.heap [] := Keep.trans KK85 K87 (allS (Or.inr sz_b48) (allS (Or.inr sz_d85) all0))
  have C87 : CHr Z consts_1 s.vm s.heap vm1 T87.heap := CHr.trans C85 (CHr.keep K87 (sfS (Safe.exa (EL := consts_1) (vm := vm1) hZ1.alike (Exa.keep Y32 K85) (by decide) (by decide)) (sfS (Safe.arv (EL := consts_1) (vm := vm1) hZ1.alike V85 (by decide)) sf0)) C85.1)
  refine bW T87 (mkF m 227 #[vi sa, vi ia, vi c0, vi c1, vi c2, vi 2, vi bb, vr x0, vr x1, vr x2, vr b30, vi i0, vi i1, vi i2, vr b36, vr b40, vr b44, vr b48, uu, uu, uu, uu, uu] [(.int (1 : Int32))]) (fun _ k => st87.trans k) ?_
  refine bW T87 (mkF m 228 #[vi sa, vi ia, vi c0, vi c1, vi c2, vi 2, vi bb, vr x0, vr x1, vr x2, vr b30, vi i0, vi i1, vi i2, vr b36, vr b40, vr b44, vr b48, uu, uu, uu, uu, uu] []) (fun _ k => XS.pop X87.here hx rfl (hb hby at_227) rfl rfl k) ?_
  refine bW T87 (mkF m 230 #[vi sa, vi ia, vi c0, vi c1, vi c2, vi 2, vi bb, vr x0, vr x1, vr x2, vr b30, vi i0, vi i1, vi i2, vr b36, vr b40, vr b44, vr b48, uu, uu, uu, uu, uu] [(.int (2 : Int32))]) (fun _ k => XS.iload X87.here hx rfl (hb hby at_228) rfl k) ?_
  refine bW T87 (mkF m 231 #[vi sa, vi ia, vi c0, vi c1, vi c2, vi 2, vi bb, vr x0, vr x1, vr x2, vr b30, vi i0, vi i1, vi i2, vr b36, vr b40, vr b44, vr b48, uu, uu, uu, uu, uu] [(.int (2 : Int32)), (.int (2 : Int32))]) (fun _ k => XS.iconst X87.here hx rfl (hb hby at_230) k) ?_
  refine bW T87 (mkF m 242 #[vi sa, vi ia, vi c0, vi c1, vi c2, vi 2, vi bb, vr x0, vr x1, vr x2, vr b30, vi i0, vi i1, vi i2, vr b36, vr b40, vr b44, vr b48, uu, uu, uu, uu, uu] []) (fun _ k => XS.icmpYes X87.here hx rfl (pc0 := 231) (pc' := 242) rfl (hb hby at_231) rfl (flt (by decide)).2.2.2 (by decide) (by decide) k) ?_
  have ne109 : x0 ≠ d85 := (Nat.ne_of_lt (Nat.lt_of_lt_of_le (Y3).lt zd85))
  have ne110 : t0 ≠ d85 := (Nat.ne_of_lt (Nat.lt_of_lt_of_le (Y5).lt zd85))
  have ne111 : x1 ≠ d85 := (Nat.ne_of_lt (Nat.lt_of_lt_of_le (Y6).lt zd85))
  have ne112 : t1 ≠ d85 := (Nat.ne_of_lt (Nat.lt_of_lt_of_le (Y8).lt zd85))
  have ne113 : x2 ≠ d85 := (Nat.ne_of_lt (Nat.lt_of_lt_of_le (Y9).lt zd85))
  have ne114 : t2 ≠ d85 := (Nat.ne_of_lt (Nat.lt_of_lt_of_le (Y11).lt zd85))
  have ne115 : b30 ≠ d85 := (Nat.ne_of_lt (Nat.lt_of_lt_of_le (Y12).lt zd85))
  have ne116 : d32 ≠ d85 := (Nat.ne_of_lt (Nat.lt_of_lt_of_le (Y16).lt zd85))
  have ne117 : b36 ≠ d85 := (Nat.ne_of_lt (Nat.lt_of_lt_of_le (Y17).lt zd85))
  have ne118 : b40 ≠ d85 := (Nat.ne_of_lt (Nat.lt_of_lt_of_le (Y22).lt zd85))
  exact rm0_c15 (h1 := T87.heap) (T1 := T87) (vm1 := vm1) hw X87 rfl KK87 N87 Z0 (Old.keep (Old.keep O0 K85 (allS g_b48 all0)) K87 (allS g_b48 (allS g_d85 all0))) S_DE V_aD hZ1 hown1 hS1 (Nat.le_trans (Nat.le_trans hk1 K85.1) K87.1) C87 hx hby hml hlk hrt (Exa.keep (Exa.keep Y3 K85) K87) (Fld.keep (Fld.keep Y4 K85 (ninS nx16 nin0)) K87 (ninS nx16 (ninS ne109 nin0))) (Arv.keep (Arv.keep Y5 K85 (ninS nx32 nin0)) K87 (ninS nx32 (ninS ne110 nin0))) (Exa.keep (Exa.keep Y6 K85) K87) (Fld.keep (Fld.keep Y7 K85 (ninS nx47 nin0)) K87 (ninS nx47 (ninS ne111 nin0))) (Arv.keep (Arv.keep Y8 K85 (ninS nx61 nin0)) K87 (ninS nx61 (ninS ne112 nin0))) (Exa.keep (Exa.keep Y9 K85) K87) (Fld.keep (Fld.keep Y10 K85 (ninS nx74 nin0)) K87 (ninS nx74 (ninS ne113 nin0))) (Arv.keep (Arv.keep Y11 K85 (ninS nx86 nin0)) K87 (ninS nx86 (ninS ne114 nin0))) (Exa.keep (Exa.keep Y12 K85) K87) (Fld.keep (Fld.keep Y14 K85 (ninS nx97 nin0)) K87 (ninS nx97 (ninS ne115 nin0))) (Fld.keep (Fld.keep Y15 K85 (ninS nx97 nin0)) K87 (ninS nx97 (ninS ne115 nin0))) (Arv.keep (Arv.keep Y16 K85 (ninS nx107 nin0)) K87 (ninS nx107 (ninS ne116 nin0))) (Exa.keep (Exa.keep Y17 K85) K87) (Fld.keep (Fld.keep Y18 K85 (ninS nx116 nin0)) K87 (ninS nx116 (ninS ne117 nin0))) (Fld.keep (Fld.keep Y19 K85 (ninS nx116 nin0)) K87 (ninS nx116 (ninS ne117 nin0))) (Exa.keep (Exa.keep Y22 K85) K87) (Fld.keep (Fld.keep Y23 K85 (ninS nx137 nin0)) K87 (ninS nx137 (ninS ne118 nin0))) (Fld.keep (Fld.keep Y24 K85 (ninS nx137 nin0)) K87 (ninS nx137 (ninS ne118 nin0))) (Exa.keep (Exa.keep Y32 K85) K87) Fm87 Fe87 Fz87 V87 hz0 hz1 hz2 hi0 hi1
theorem rm0_c21 {l : _} {Z : State} {a0 : Array Value} (hw : HW Z a0) {sa : Int32} {ia : Int32} {c0 : Int32} {c1 : Int32} {c2 : Int32} {cs : Int32} {aD : Addr} {kD : ClassId} {h0 : Heap} {n0 : Nat} {p : _} {e : _} {s : State} {m : _} {below : _} {meth : _} {c : _} {h1 : Heap} {T1 : State} {Lc : List Loc} {vm1 : Vm} {ks1 : Nat} {x0 : Addr} {t0 : Addr} {q0 : ClassId} {z0 : Int32} {v0 : List Value} {x1 : Addr} {t1 : Addr} {q1 : ClassId} {z1 : Int32} {v1 : List Value} {x2 : Addr} {t2 : Addr} {q2 : ClassId} {z2 : Int32} {v2 : List Value} {b133 : Addr} {vl141 : Addr} {dv141 : Addr} {kv141 : ClassId} {i0 : Int32} {i1 : Int32} {i2 : Int32} {jx : Int32} {bb : Int32} {b30 : Addr} {b36 : Addr} {b40 : Addr} {b44 : Addr} {b48 : Addr} {ga : Int32} {gb : Int32} {gc : Int32} (X1 : Stand p l e room_1 (s.setVm vm1) m #[(.int sa), (.int ia), (.int c0), (.int c1), (.int c2)] below meth c T1 Lc 37 302) (e1 : T1.heap = h1) (Kc : Keep h0 h1 []) (Nc : Fr n0 Lc) (Z0 : n0 ≤ h0.size) (hZ1 : Z.Warmed39 (s.setVm vm1).vm) (hown1 : (s.setVm vm1).vm.findClass "com/example/nisaba/nisaba/isatab/ValuesFirstGivenPinLaw" = some m.cls) (hS1 : s.Since vm1 ks1) (hk1 : ks1 ≤ h1.size) (C1 : CHr Z consts_1 s.vm s.heap vm1 h1) (hx : p.tables.exec = Jvm.exec) (hby : c.code = code) (hml : c.maxLocals = 23) (hlk : meth.locks = false) (hrt : meth.sig.returnType = (some .boolean)) (Y3 : Exa Z h1 x0 sS) (Y4 : Fld Z h1 x0 sS "value" "[B" (.ref t0)) (Y5 : Arv Z h1 t0 q0 .byte z0 v0 (ii 0)) (Y6 : Exa Z h1 x1 sS) (Y7 : Fld Z h1 x1 sS "value" "[B" (.ref t1)) (Y8 : Arv Z h1 t1 q1 .byte z1 v1 (ii 0)) (Y9 : Exa Z h1 x2 sS) (Y10 : Fld Z h1 x2 sS "value" "[B" (.ref t2)) (Y11 : Arv Z h1 t2 q2 .byte z2 v2 (ii 0)) (Y37 : Exa Z h1 b133 sV) (Y38 : Fld Z h1 b133 sV "values" "Ljava/util/List;" (.ref vl141)) (Y39 : Exa Z h1 vl141 sL) (Y40 : Fld Z h1 vl141 sL "size" "I" (.int (3 : Int32))) (Y41 : Fld Z h1 vl141 sL "elementData" sE (.ref dv141)) (Y42 : Arv Z h1 dv141 kv141 (.object sO) (10 : Int32) [(.ref (own_p3 i0 x0 x1 x2)), (.ref (own_p3 i1 x0 x1 x2)), (.ref (own_p3 i2 x0 x1 x2)), .null, .null, .null, .null, .null, .null, .null] .null) (hj : (own_fg3 (own_p3 i0 z0 z1 z2) (own_p3 i1 z0 z1 z2) (own_p3 i2 z0 z1 z2)) = jx) :
    own_GoW p.tables e below Z consts_1 (Q_rm0 Z sa ia c0 c1 c2 cs aD kD h0 n0) s 64 7488 T1 (mkF m 353 #[vi sa, vi ia, vi c0, vi c1, vi c2, vi 3, vi bb, vr x0, vr x1, vr x2, vr b30, vi i0, vi i1, vi i2, vr b36, vr b40, vr b44, vr b48, vr b133, vi ga, vi gb, vi gc, vi jx] []) := by
  have hEL : EW Z a0 consts_1 := own_EL hw
  refine bW T1 (mkF m 355 #[vi sa, vi ia, vi c0, vi c1, vi c2, vi 3, vi bb, vr x0, vr x1, vr x2, vr b30, vi i0, vi i1, vi i2, vr b36, vr b40, vr b44, vr b48, vr b133, vi ga, vi gb, vi gc, vi jx] [(.ref b133)]) (fun _ k => XS.aload X1.here hx rfl (hb hby at_353) rfl rfl k) ?_
  obtain ⟨cq148, kq148, q148a, q148b, q148c⟩ := isOf hZ1 e1 Y37
  obtain ⟨_, _, ⟨T148, L148, k148, n148⟩, -, X148, ⟨Lc148, hQ148, l148, y148, z148⟩, st148⟩ := X1.virtualBack hx (y := yy33) (z := yy33) hown1 (mvT hZ1 (hw _ (mo 158 rfl))) (mvT hZ1 (hw _ (mo 159 rfl))) (notFace_of_selects (args := #[]) (mvT hZ1 (hw _ (mo 161 rfl)))) (mvT hZ1 (hw _ (mo 161 rfl))) (mvT hZ1 (hw _ (mo 160 rfl))) (by decide) (backOf (W := 0) (fgv_3 l Z a0 hw [] b133 vl141 dv141 kv141 (own_p3 i0 x0 x1 x2) (own_p3 i0 t0 t1 t2) (own_p3 i0 q0 q1 q2) (own_p3 i0 z0 z1 z2) (own_p3 i0 v0 v1 v2) (own_p3 i1 x0 x1 x2) (own_p3 i1 t0 t1 t2) (own_p3 i1 q0 q1 q2) (own_p3 i1 z0 z1 z2) (own_p3 i1 v0 v1 v2) (own_p3 i2 x0 x1 x2) (own_p3 i2 t0 t1 t2) (own_p3 i2 q0 q1 q2) (own_p3 i2 z0 z1 z2) (own_p3 i2 v0 v1 v2) h1 n0 (Nat.le_trans Z0 Kc.1) Y38 Y39 Y40 Y41 Y42 (own_pE i0 Y3 Y6 Y9) (own_pF i0 Y4 Y7 Y10) (own_pV i0 Y5 Y8 Y11) (own_pE i1 Y3 Y6 Y9) (own_pF i1 Y4 Y7 Y10) (own_pV i1 Y5 Y8 Y11) (own_pE i2 Y3 Y6 Y9) (own_pF i2 Y4 Y7 Y10) (own_pV i2 Y5 Y8 Y11)) hZ1 (hw _ (mo 162 rfl)) (hw _ (mo 109 rfl)) (by decide) (by decide)) q148a q148c (g := (mkF m 355 #[vi sa, vi ia, vi c0, vi c1, vi c2, vi 3, vi bb, vr x0, vr x1, vr x2, vr b30, vi i0, vi i1, vi i2, vr b36, vr b40, vr b44, vr b48, vr b133, vi ga, vi gb, vi gc, vi jx] [(.ref b133)])) rfl (by rw [hml]; rfl) (Steps.refl _) (argsL := []) (rest := []) (lenOf pd_14 rfl) rfl (Nat.le_of_eq rfl) (hb hby at_355) (fun _ _ => ⟨rfl, e1, (by decide : 37 ≤ _), (by decide : 302 ≤ _)⟩)
  dsimp only [Pt.U, Pt.locs, Pt.cells, Pt.slots] at X148 l148 y148 z148 st148 hQ148
  subst l148 y148 z148
  obtain ⟨rfl, N148q, e148⟩ := hQ148
  have N148 := Fr.app Nc N148q
  refine bW T148 (mkF m 358 #[vi sa, vi ia, vi c0, vi c1, vi c2, vi 3, vi bb, vr x0, vr x1, vr x2, vr b30, vi i0, vi i1, vi i2, vr b36, vr b40, vr b44, vr b48, vr b133, vi ga, vi gb, vi gc, vi jx] [(.int (own_fg3 (own_p3 i0 z0 z1 z2) (own_p3 i1 z0 z1 z2) (own_p3 i2 z0 z1 z2)))]) (fun _ k => st148.trans k) ?_
  refine bW T148 (mkF m 360 #[vi sa, vi ia, vi c0, vi c1, vi c2, vi 3, vi bb, vr x0, vr x1, vr x2, vr b30, vi i0, vi i1, vi i2, vr b36, vr b40, vr b44, vr b48, vr b133, vi ga, vi gb, vi gc, vi jx] [(.int jx), (.int (own_fg3 (own_p3 i0 z0 z1 z2) (own_p3 i1 z0 z1 z2) (own_p3 i2 z0 z1 z2)))]) (fun _ k => XS.iload X148.here hx rfl (hb hby at_358) rfl k) ?_
  refine bW T148 (mkF m 363 #[vi sa, vi ia, vi c0, vi c1, vi c2, vi 3, vi bb, vr x0, vr x1, vr x2, vr b30, vi i0, vi i1, vi i2, vr b36, vr b40, vr b44, vr b48, vr b133, vi ga, vi gb, vi gc, vi jx] []) (fun _ k => XS.icmpNo X148.here hx rfl (hb hby at_360) rfl (teq hj).2 k) ?_
  refine bW T148 (mkF m 364 #[vi sa, vi ia, vi c0, vi c1, vi c2, vi 3, vi bb, vr x0, vr x1, vr x2, vr b30, vi i0, vi i1, vi i2, vr b36, vr b40, vr b44, vr b48, vr b133, vi ga, vi gb, vi gc, vi jx] [(.int (1 : Int32))]) (fun _ k => XS.iconst X148.here hx rfl (hb hby at_363) k) ?_
  refine bW T148 (mkF m 368 #[vi sa, vi ia, vi c0, vi c1, vi c2, vi 3, vi bb, vr x0, vr x1, vr x2, vr b30, vi i0, vi i1, vi i2, vr b36, vr b40, vr b44, vr b48, vr b133, vi ga, vi gb, vi gc, vi jx] [(.int (1 : Int32))]) (fun _ k => XS.goto X148.here hx rfl (pc0 := 364) (pc' := 368) rfl (hb hby at_364) (by decide) (by decide) k) ?_
  refine own_retW (s := s) X148 hlk hS1 (by rw [e148]; exact hk1) hZ1 hEL C1 e148 (v := some (.int (1 : Int32))) (fun h => by rw [hrt] at h; cases h) (fun fs hr => retN X148 hx (t := .boolean) hrt (by simp) (hb hby at_368) hr) ?_ (by decide) (by decide)
  rw [e148]
  exact ⟨rfl, N148⟩
theorem rm0_c20 {l : _} {Z : State} {a0 : Array Value} (hw : HW Z a0) {sa : Int32} {ia : Int32} {c0 : Int32} {c1 : Int32} {c2 : Int32} {cs : Int32} {aD : Addr} {kD : ClassId} {h0 : Heap} {n0 : Nat} {p : _} {e : _} {s : State} {m : _} {below : _} {meth : _} {c : _} {h1 : Heap} {T1 : State} {Lc : List Loc} {vm1 : Vm} {ks1 : Nat} {x0 : Addr} {t0 : Addr} {q0 : ClassId} {z0 : Int32} {v0 : List Value} {x1 : Addr} {t1 : Addr} {q1 : ClassId} {z1 : Int32} {v1 : List Value} {x2 : Addr} {t2 : Addr} {q2 : ClassId} {z2 : Int32} {v2 : List Value} {b133 : Addr} {vl141 : Addr} {dv141 : Addr} {kv141 : ClassId} {i0 : Int32} {i1 : Int32} {i2 : Int32} {bb : Int32} {b30 : Addr} {b36 : Addr} {b40 : Addr} {b44 : Addr} {b48 : Addr} (X1 : Stand p l e room_1 (s.setVm vm1) m #[(.int sa), (.int ia), (.int c0), (.int c1), (.int c2)] below meth c T1 Lc 37 302) (e1 : T1.heap = h1) (Kc : Keep h0 h1 []) (Nc : Fr n0 Lc) (Z0 : n0 ≤ h0.size) (hZ1 : Z.Warmed39 (s.setVm vm1).vm) (hown1 : (s.setVm vm1).vm.findClass "com/example/nisaba/nisaba/isatab/ValuesFirstGivenPinLaw" = some m.cls) (hS1 : s.Since vm1 ks1) (hk1 : ks1 ≤ h1.size) (C1 : CHr Z consts_1 s.vm s.heap vm1 h1) (hx : p.tables.exec = Jvm.exec) (hby : c.code = code) (hml : c.maxLocals = 23) (hlk : meth.locks = false) (hrt : meth.sig.returnType = (some .boolean)) (Y3 : Exa Z h1 x0 sS) (Y4 : Fld Z h1 x0 sS "value" "[B" (.ref t0)) (Y5 : Arv Z h1 t0 q0 .byte z0 v0 (ii 0)) (Y6 : Exa Z h1 x1 sS) (Y7 : Fld Z h1 x1 sS "value" "[B" (.ref t1)) (Y8 : Arv Z h1 t1 q1 .byte z1 v1 (ii 0)) (Y9 : Exa Z h1 x2 sS) (Y10 : Fld Z h1 x2 sS "value" "[B" (.ref t2)) (Y11 : Arv Z h1 t2 q2 .byte z2 v2 (ii 0)) (Y37 : Exa Z h1 b133 sV) (Y38 : Fld Z h1 b133 sV "values" "Ljava/util/List;" (.ref vl141)) (Y39 : Exa Z h1 vl141 sL) (Y40 : Fld Z h1 vl141 sL "size" "I" (.int (3 : Int32))) (Y41 : Fld Z h1 vl141 sL "elementData" sE (.ref dv141)) (Y42 : Arv Z h1 dv141 kv141 (.object sO) (10 : Int32) [(.ref (own_p3 i0 x0 x1 x2)), (.ref (own_p3 i1 x0 x1 x2)), (.ref (own_p3 i2 x0 x1 x2)), .null, .null, .null, .null, .null, .null, .null] .null) (hz0 : z0 = own_z bb (0 : Int32)) (hz1 : z1 = own_z bb (1 : Int32)) (hz2 : z2 = own_z bb (2 : Int32)) (hi0 : i0 = 0 ∨ i0 = 1 ∨ i0 = 2) (hi1 : i1 = 0 ∨ i1 = 1 ∨ i1 = 2) (hi2 : i2 = 0 ∨ i2 = 1 ∨ i2 = 2) :
    own_GoW p.tables e below Z consts_1 (Q_rm0 Z sa ia c0 c1 c2 cs aD kD h0 n0) s 64 7488 T1 (mkF m 255 #[vi sa, vi ia, vi c0, vi c1, vi c2, vi 3, vi bb, vr x0, vr x1, vr x2, vr b30, vi i0, vi i1, vi i2, vr b36, vr b40, vr b44, vr b48, vr b133, uu, uu, uu, uu] []) := by
  refine bW T1 (mkF m 257 #[vi sa, vi ia, vi c0, vi c1, vi c2, vi 3, vi bb, vr x0, vr x1, vr x2, vr b30, vi i0, vi i1, vi i2, vr b36, vr b40, vr b44, vr b48, vr b133, uu, uu, uu, uu] [(.int (3 : Int32))]) (fun _ k => XS.iload X1.here hx rfl (hb hby at_255) rfl k) ?_
  refine bW T1 (mkF m 260 #[vi sa, vi ia, vi c0, vi c1, vi c2, vi 3, vi bb, vr x0, vr x1, vr x2, vr b30, vi i0, vi i1, vi i2, vr b36, vr b40, vr b44, vr b48, vr b133, uu, uu, uu, uu] []) (fun _ k => XS.ifNo X1.here hx rfl (hb hby at_257) rfl ((if0 _ _).trans (tlt (by decide)).2.2.2) k) ?_
  refine bW T1 (mkF m 262 #[vi sa, vi ia, vi c0, vi c1, vi c2, vi 3, vi bb, vr x0, vr x1, vr x2, vr b30, vi i0, vi i1, vi i2, vr b36, vr b40, vr b44, vr b48, vr b133, uu, uu, uu, uu] [(.int bb)]) (fun _ k => XS.iload X1.here hx rfl (hb hby at_260) rfl k) ?_
  refine bW T1 (mkF m 264 #[vi sa, vi ia, vi c0, vi c1, vi c2, vi 3, vi bb, vr x0, vr x1, vr x2, vr b30, vi i0, vi i1, vi i2, vr b36, vr b40, vr b44, vr b48, vr b133, uu, uu, uu, uu] [(.int i0), (.int bb)]) (fun _ k => XS.iload X1.here hx rfl (hb hby at_262) rfl k) ?_
  obtain ⟨_, _, ⟨T142, L142, k142, n142⟩, -, X142, ⟨Lc142, hQ142, l142, y142, z142⟩, st142⟩ := Jvm.LawKit.callS X1 hx (y := yy0) hown1 (mvT hZ1 (hw _ (mo 0 rfl))) (mvT hZ1 (hw _ (mo 1 rfl))) (mvT hZ1 (hw _ (mo 2 rfl))) (mvT hZ1 (hw _ (mo 3 rfl))) (by decide) (backOf (W := 0) (emc l Z a0 hw [] bb i0  h1 n0 (Nat.le_trans Z0 Kc.1) ) hZ1 (hw _ (mo 3 rfl)) (hw _ (mo 2 rfl)) (by decide) (by decide)) (g := (mkF m 264 #[vi sa, vi ia, vi c0, vi c1, vi c2, vi 3, vi bb, vr x0, vr x1, vr x2, vr b30, vi i0, vi i1, vi i2, vr b36, vr b40, vr b44, vr b48, vr b133, uu, uu, uu, uu] [(.int i0), (.int bb)])) rfl (by rw [hml]; rfl) (argsL := [(.int bb), (.int i0)]) (rest := []) (lenOf pd_16 rfl) rfl (Nat.le_of_eq rfl) (hb hby at_264) (fun _ _ => ⟨rfl, e1, (by decide : 37 ≤ _), (by decide : 302 ≤ _)⟩)
  dsimp only [Pt.U, Pt.locs, Pt.cells, Pt.slots] at X142 l142 y142 z142 st142 hQ142
  subst l142 y142 z142
  obtain ⟨rfl, N142q, e142⟩ := hQ142
  have N142 := Fr.app Nc N142q
  refine bW T142 (mkF m 267 #[vi sa, vi ia, vi c0, vi c1, vi c2, vi 3, vi bb, vr x0, vr x1, vr x2, vr b30, vi i0, vi i1, vi i2, vr b36, vr b40, vr b44, vr b48, vr b133, uu, uu, uu, uu] [(.int (own_e bb i0))]) (fun _ k => st142 _ k) ?_
  by_cases hc267_143 : (own_e bb i0) = (0 : Int32)
  · skip
    refine bW T142 (mkF m 270 #[vi sa, vi ia, vi c0, vi c1, vi c2, vi 3, vi bb, vr x0, vr x1, vr x2, vr b30, vi i0, vi i1, vi i2, vr b36, vr b40, vr b44, vr b48, vr b133, uu, uu, uu, uu] []) (fun _ k => XS.ifNo X142.here hx rfl (hb hby at_267) rfl ((if0 _ _).trans (teq hc267_143).2) k) ?_
    refine bW T142 (mkF m 271 #[vi sa, vi ia, vi c0, vi c1, vi c2, vi 3, vi bb, vr x0, vr x1, vr x2, vr b30, vi i0, vi i1, vi i2, vr b36, vr b40, vr b44, vr b48, vr b133, uu, uu, uu, uu] [(.int (1 : Int32))]) (fun _ k => XS.iconst X142.here hx rfl (hb hby at_270) k) ?_
    refine bW T142 (mkF m 275 #[vi sa, vi ia, vi c0, vi c1, vi c2, vi 3, vi bb, vr x0, vr x1, vr x2, vr b30, vi i0, vi i1, vi i2, vr b36, vr b40, vr b44, vr b48, vr b133, uu, uu, uu, uu] [(.int (1 : Int32))]) (fun _ k => XS.goto X142.here hx rfl (pc0 := 271) (pc' := 275) rfl (hb hby at_271) (by decide) (by decide) k) ?_
    refine bW T142 (mkF m 277 #[vi sa, vi ia, vi c0, vi c1, vi c2, vi 3, vi bb, vr x0, vr x1, vr x2, vr b30, vi i0, vi i1, vi i2, vr b36, vr b40, vr b44, vr b48, vr b133, vi 1, uu, uu, uu] []) (fun _ k => XS.istore X142.here hx rfl (hb hby at_275) rfl rfl k) ?_
    refine bW T142 (mkF m 279 #[vi sa, vi ia, vi c0, vi c1, vi c2, vi 3, vi bb, vr x0, vr x1, vr x2, vr b30, vi i0, vi i1, vi i2, vr b36, vr b40, vr b44, vr b48, vr b133, vi 1, uu, uu, uu] [(.int (3 : Int32))]) (fun _ k => XS.iload X142.here hx rfl (hb hby at_277) rfl k) ?_
    refine bW T142 (mkF m 280 #[vi sa, vi ia, vi c0, vi c1, vi c2, vi 3, vi bb, vr x0, vr x1, vr x2, vr b30, vi i0, vi i1, vi i2, vr b36, vr b40, vr b44, vr b48, vr b133, vi 1, uu, uu, uu] [(.int (1 : Int32)), (.int (3 : Int32))]) (fun _ k => XS.iconst X142.here hx rfl (hb hby at_279) k) ?_
    refine bW T142 (mkF m 283 #[vi sa, vi ia, vi c0, vi c1, vi c2, vi 3, vi bb, vr x0, vr x1, vr x2, vr b30, vi i0, vi i1, vi i2, vr b36, vr b40, vr b44, vr b48, vr b133, vi 1, uu, uu, uu] []) (fun _ k => XS.icmpNo X142.here hx rfl (hb hby at_280) rfl (tlt (by decide)).2.2.2 k) ?_
    refine bW T142 (mkF m 285 #[vi sa, vi ia, vi c0, vi c1, vi c2, vi 3, vi bb, vr x0, vr x1, vr x2, vr b30, vi i0, vi i1, vi i2, vr b36, vr b40, vr b44, vr b48, vr b133, vi 1, uu, uu, uu] [(.int bb)]) (fun _ k => XS.iload X142.here hx rfl (hb hby at_283) rfl k) ?_
    refine bW T142 (mkF m 287 #[vi sa, vi ia, vi c0, vi c1, vi c2, vi 3, vi bb, vr x0, vr x1, vr x2, vr b30, vi i0, vi i1, vi i2, vr b36, vr b40, vr b44, vr b48, vr b133, vi 1, uu, uu, uu] [(.int i1), (.int bb)]) (fun _ k => XS.iload X142.here hx rfl (hb hby at_285) rfl k) ?_
    obtain ⟨_, _, ⟨T144, L144, k144, n144⟩, -, X144, ⟨Lc144, hQ144, l144, y144, z144⟩, st144⟩ := Jvm.LawKit.callS X142 hx (y := yy0) hown1 (mvT hZ1 (hw _ (mo 0 rfl))) (mvT hZ1 (hw _ (mo 1 rfl))) (mvT hZ1 (hw _ (mo 2 rfl))) (mvT hZ1 (hw _ (mo 3 rfl))) (by decide) (backOf (W := 0) (emc l Z a0 hw [] bb i1  h1 n0 (Nat.le_trans Z0 Kc.1) ) hZ1 (hw _ (mo 3 rfl)) (hw _ (mo 2 rfl)) (by decide) (by decide)) (g := (mkF m 287 #[vi sa, vi ia, vi c0, vi c1, vi c2, vi 3, vi bb, vr x0, vr x1, vr x2, vr b30, vi i0, vi i1, vi i2, vr b36, vr b40, vr b44, vr b48, vr b133, vi 1, uu, uu, uu] [(.int i1), (.int bb)])) rfl (by rw [hml]; rfl) (argsL := [(.int bb), (.int i1)]) (rest := []) (lenOf pd_16 rfl) rfl (Nat.le_of_eq rfl) (hb hby at_287) (fun _ _ => ⟨rfl, e142, (by decide : 37 ≤ _), (by decide : 302 ≤ _)⟩)
    dsimp only [Pt.U, Pt.locs, Pt.cells, Pt.slots] at X144 l144 y144 z144 st144 hQ144
    subst l144 y144 z144
    obtain ⟨rfl, N144q, e144⟩ := hQ144
    have N144 := Fr.app N142 N144q
    refine bW T144 (mkF m 290 #[vi sa, vi ia, vi c0, vi c1, vi c2, vi 3, vi bb, vr x0, vr x1, vr x2, vr b30, vi i0, vi i1, vi i2, vr b36, vr b40, vr b44, vr b48, vr b133, vi 1, uu, uu, uu] [(.int (own_e bb i1))]) (fun _ k => st144 _ k) ?_
    by_cases hc290_145 : (own_e bb i1) = (0 : Int32)
    · skip
      refine bW T144 (mkF m 293 #[vi sa, vi ia, vi c0, vi c1, vi c2, vi 3, vi bb, vr x0, vr x1, vr x2, vr b30, vi i0, vi i1, vi i2, vr b36, vr b40, vr b44, vr b48, vr b133, vi 1, uu, uu, uu] []) (fun _ k => XS.ifNo X144.here hx rfl (hb hby at_290) rfl ((if0 _ _).trans (teq hc290_145).2) k) ?_
      refine bW T144 (mkF m 294 #[vi sa, vi ia, vi c0, vi c1, vi c2, vi 3, vi bb, vr x0, vr x1, vr x2, vr b30, vi i0, vi i1, vi i2, vr b36, vr b40, vr b44, vr b48, vr b133, vi 1, uu, uu, uu] [(.int (1 : Int32))]) (fun _ k => XS.iconst X144.here hx rfl (hb hby at_293) k) ?_
      refine bW T144 (mkF m 298 #[vi sa, vi ia, vi c0, vi c1, vi c2, vi 3, vi bb, vr x0, vr x1, vr x2, vr b30, vi i0, vi i1, vi i2, vr b36, vr b40, vr b44, vr b48, vr b133, vi 1, uu, uu, uu] [(.int (1 : Int32))]) (fun _ k => XS.goto X144.here hx rfl (pc0 := 294) (pc' := 298) rfl (hb hby at_294) (by decide) (by decide) k) ?_
      refine bW T144 (mkF m 300 #[vi sa, vi ia, vi c0, vi c1, vi c2, vi 3, vi bb, vr x0, vr x1, vr x2, vr b30, vi i0, vi i1, vi i2, vr b36, vr b40, vr b44, vr b48, vr b133, vi 1, vi 1, uu, uu] []) (fun _ k => XS.istore X144.here hx rfl (hb hby at_298) rfl rfl k) ?_
      refine bW T144 (mkF m 302 #[vi sa, vi ia, vi c0, vi c1, vi c2, vi 3, vi bb, vr x0, vr x1, vr x2, vr b30, vi i0, vi i1, vi i2, vr b36, vr b40, vr b44, vr b48, vr b133, vi 1, vi 1, uu, uu] [(.int (3 : Int32))]) (fun _ k => XS.iload X144.here hx rfl (hb hby at_300) rfl k) ?_
      refine bW T144 (mkF m 303 #[vi sa, vi ia, vi c0, vi c1, vi c2, vi 3, vi bb, vr x0, vr x1, vr x2, vr b30, vi i0, vi i1, vi i2, vr b36, vr b40, vr b44, vr b48, vr b133, vi 1, vi 1, uu, uu] [(.int (2 : Int32)), (.int (3 : Int32))]) (fun _ k => XS.iconst X144.here hx rfl (hb hby at_302) k) ?_
      refine bW T144 (mkF m 306 #[vi sa, vi ia, vi c0, vi c1, vi c2, vi 3, vi bb, vr x0, vr x1, vr x2, vr b30, vi i0, vi i1, vi i2, vr b36, vr b40, vr b44, vr b48, vr b133, vi 1, vi 1, uu, uu] []) (fun _ k => XS.icmpNo X144.here hx rfl (hb hby at_303) rfl (tlt (by decide)).2.2.2 k) ?_
      refine bW T144 (mkF m 308 #[vi sa, vi ia, vi c0, vi c1, vi c2, vi 3, vi bb, vr x0, vr x1, vr x2, vr b30, vi i0, vi i1, vi i2, vr b36, vr b40, vr b44, vr b48, vr b133, vi 1, vi 1, uu, uu] [(.int bb)]) (fun _ k => XS.iload X144.here hx rfl (hb hby at_306) rfl k) ?_
      refine bW T144 (mkF m 310 #[vi sa, vi ia, vi c0, vi c1, vi c2, vi 3, vi bb, vr x0, vr x1, vr x2, vr b30, vi i0, vi i1, vi i2, vr b36, vr b40, vr b44, vr b48, vr b133, vi 1, vi 1, uu, uu] [(.int i2), (.int bb)]) (fun _ k => XS.iload X144.here hx rfl (hb hby at_308) rfl k) ?_
      obtain ⟨_, _, ⟨T146, L146, k146, n146⟩, -, X146, ⟨Lc146, hQ146, l146, y146, z146⟩, st146⟩ := Jvm.LawKit.callS X144 hx (y := yy0) hown1 (mvT hZ1 (hw _ (mo 0 rfl))) (mvT hZ1 (hw _ (mo 1 rfl))) (mvT hZ1 (hw _ (mo 2 rfl))) (mvT hZ1 (hw _ (mo 3 rfl))) (by decide) (backOf (W := 0) (emc l Z a0 hw [] bb i2  h1 n0 (Nat.le_trans Z0 Kc.1) ) hZ1 (hw _ (mo 3 rfl)) (hw _ (mo 2 rfl)) (by decide) (by decide)) (g := (mkF m 310 #[vi sa, vi ia, vi c0, vi c1, vi c2, vi 3, vi bb, vr x0, vr x1, vr x2, vr b30, vi i0, vi i1, vi i2, vr b36, vr b40, vr b44, vr b48, vr b133, vi 1, vi 1, uu, uu] [(.int i2), (.int bb)])) rfl (by rw [hml]; rfl) (argsL := [(.int bb), (.int i2)]) (rest := []) (lenOf pd_16 rfl) rfl (Nat.le_of_eq rfl) (hb hby at_310) (fun _ _ => ⟨rfl, e144, (by decide : 37 ≤ _), (by decide : 302 ≤ _)⟩)
      dsimp only [Pt.U, Pt.locs, Pt.cells, Pt.slots] at X146 l146 y146 z146 st146 hQ146
      subst l146 y146 z146
      obtain ⟨rfl, N146q, e146⟩ := hQ146
      have N146 := Fr.app N144 N146q
      refine bW T146 (mkF m 313 #[vi sa, vi ia, vi c0, vi c1, vi c2, vi 3, vi bb, vr x0, vr x1, vr x2, vr b30, vi i0, vi i1, vi i2, vr b36, vr b40, vr b44, vr b48, vr b133, vi 1, vi 1, uu, uu] [(.int (own_e bb i2))]) (fun _ k => st146 _ k) ?_
      by_cases hc313_147 : (own_e bb i2) = (0 : Int32)
      · skip
        refine bW T146 (mkF m 316 #[vi sa, vi ia, vi c0, vi c1, vi c2, vi 3, vi bb, vr x0, vr x1, vr x2, vr b30, vi i0, vi i1, vi i2, vr b36, vr b40, vr b44, vr b48, vr b133, vi 1, vi 1, uu, uu] []) (fun _ k => XS.ifNo X146.here hx rfl (hb hby at_313) rfl ((if0 _ _).trans (teq hc313_147).2) k) ?_
        refine bW T146 (mkF m 317 #[vi sa, vi ia, vi c0, vi c1, vi c2, vi 3, vi bb, vr x0, vr x1, vr x2, vr b30, vi i0, vi i1, vi i2, vr b36, vr b40, vr b44, vr b48, vr b133, vi 1, vi 1, uu, uu] [(.int (1 : Int32))]) (fun _ k => XS.iconst X146.here hx rfl (hb hby at_316) k) ?_
        refine bW T146 (mkF m 321 #[vi sa, vi ia, vi c0, vi c1, vi c2, vi 3, vi bb, vr x0, vr x1, vr x2, vr b30, vi i0, vi i1, vi i2, vr b36, vr b40, vr b44, vr b48, vr b133, vi 1, vi 1, uu, uu] [(.int (1 : Int32))]) (fun _ k => XS.goto X146.here hx rfl (pc0 := 317) (pc' := 321) rfl (hb hby at_317) (by decide) (by decide) k) ?_
        refine bW T146 (mkF m 323 #[vi sa, vi ia, vi c0, vi c1, vi c2, vi 3, vi bb, vr x0, vr x1, vr x2, vr b30, vi i0, vi i1, vi i2, vr b36, vr b40, vr b44, vr b48, vr b133, vi 1, vi 1, vi 1, uu] []) (fun _ k => XS.istore X146.here hx rfl (hb hby at_321) rfl rfl k) ?_
        refine bW T146 (mkF m 325 #[vi sa, vi ia, vi c0, vi c1, vi c2, vi 3, vi bb, vr x0, vr x1, vr x2, vr b30, vi i0, vi i1, vi i2, vr b36, vr b40, vr b44, vr b48, vr b133, vi 1, vi 1, vi 1, uu] [(.int (1 : Int32))]) (fun _ k => XS.iload X146.here hx rfl (hb hby at_323) rfl k) ?_
        refine bW T146 (mkF m 328 #[vi sa, vi ia, vi c0, vi c1, vi c2, vi 3, vi bb, vr x0, vr x1, vr x2, vr b30, vi i0, vi i1, vi i2, vr b36, vr b40, vr b44, vr b48, vr b133, vi 1, vi 1, vi 1, uu] []) (fun _ k => XS.ifNo X146.here hx rfl (hb hby at_325) rfl ((if0 _ _).trans (feq (by decide)).1) k) ?_
        refine bW T146 (mkF m 329 #[vi sa, vi ia, vi c0, vi c1, vi c2, vi 3, vi bb, vr x0, vr x1, vr x2, vr b30, vi i0, vi i1, vi i2, vr b36, vr b40, vr b44, vr b48, vr b133, vi 1, vi 1, vi 1, uu] [(ii 0)]) (fun _ k => XS.iconst X146.here hx rfl (hb hby at_328) k) ?_
        refine bW T146 (mkF m 351 #[vi sa, vi ia, vi c0, vi c1, vi c2, vi 3, vi bb, vr x0, vr x1, vr x2, vr b30, vi i0, vi i1, vi i2, vr b36, vr b40, vr b44, vr b48, vr b133, vi 1, vi 1, vi 1, uu] [(ii 0)]) (fun _ k => XS.goto X146.here hx rfl (pc0 := 329) (pc' := 351) rfl (hb hby at_329) (by decide) (by decide) k) ?_
        refine bW T146 (mkF m 353 #[vi sa, vi ia, vi c0, vi c1, vi c2, vi 3, vi bb, vr x0, vr x1, vr x2, vr b30, vi i0, vi i1, vi i2, vr b36, vr b40, vr b44, vr b48, vr b133, vi 1, vi 1, vi 1, vi 0] []) (fun _ k => XS.istore X146.here hx rfl (hb hby at_351) rfl rfl k) ?_
        exact rm0_c21 (h1 := h1) (T1 := T146) (vm1 := vm1) hw X146 e146 Kc N146 Z0 hZ1 hown1 hS1 hk1 C1 hx hby hml hlk hrt Y3 Y4 Y5 Y6 Y7 Y8 Y9 Y10 Y11 Y37 Y38 Y39 Y40 Y41 Y42 (by rw [own_zz hi0 hz0 hz1 hz2 (if_pos hc267_143), own_zz hi1 hz0 hz1 hz2 (if_pos hc290_145), own_zz hi2 hz0 hz1 hz2 (if_pos hc313_147)]; decide)
      · skip
        refine bW T146 (mkF m 320 #[vi sa, vi ia, vi c0, vi c1, vi c2, vi 3, vi bb, vr x0, vr x1, vr x2, vr b30, vi i0, vi i1, vi i2, vr b36, vr b40, vr b44, vr b48, vr b133, vi 1, vi 1, uu, uu] []) (fun _ k => XS.ifYes X146.here hx rfl (pc0 := 313) (pc' := 320) rfl (hb hby at_313) rfl ((if0 _ _).trans (feq hc313_147).2) (by decide) (by decide) k) ?_
        refine bW T146 (mkF m 321 #[vi sa, vi ia, vi c0, vi c1, vi c2, vi 3, vi bb, vr x0, vr x1, vr x2, vr b30, vi i0, vi i1, vi i2, vr b36, vr b40, vr b44, vr b48, vr b133, vi 1, vi 1, uu, uu] [(ii 0)]) (fun _ k => XS.iconst X146.here hx rfl (hb hby at_320) k) ?_
        refine bW T146 (mkF m 323 #[vi sa, vi ia, vi c0, vi c1, vi c2, vi 3, vi bb, vr x0, vr x1, vr x2, vr b30, vi i0, vi i1, vi i2, vr b36, vr b40, vr b44, vr b48, vr b133, vi 1, vi 1, vi 0, uu] []) (fun _ k => XS.istore X146.here hx rfl (hb hby at_321) rfl rfl k) ?_
        refine bW T146 (mkF m 325 #[vi sa, vi ia, vi c0, vi c1, vi c2, vi 3, vi bb, vr x0, vr x1, vr x2, vr b30, vi i0, vi i1, vi i2, vr b36, vr b40, vr b44, vr b48, vr b133, vi 1, vi 1, vi 0, uu] [(.int (1 : Int32))]) (fun _ k => XS.iload X146.here hx rfl (hb hby at_323) rfl k) ?_
        refine bW T146 (mkF m 328 #[vi sa, vi ia, vi c0, vi c1, vi c2, vi 3, vi bb, vr x0, vr x1, vr x2, vr b30, vi i0, vi i1, vi i2, vr b36, vr b40, vr b44, vr b48, vr b133, vi 1, vi 1, vi 0, uu] []) (fun _ k => XS.ifNo X146.here hx rfl (hb hby at_325) rfl ((if0 _ _).trans (feq (by decide)).1) k) ?_
        refine bW T146 (mkF m 329 #[vi sa, vi ia, vi c0, vi c1, vi c2, vi 3, vi bb, vr x0, vr x1, vr x2, vr b30, vi i0, vi i1, vi i2, vr b36, vr b40, vr b44, vr b48, vr b133, vi 1, vi 1, vi 0, uu] [(ii 0)]) (fun _ k => XS.iconst X146.here hx rfl (hb hby at_328) k) ?_
        refine bW T146 (mkF m 351 #[vi sa, vi ia, vi c0, vi c1, vi c2, vi 3, vi bb, vr x0, vr x1, vr x2, vr b30, vi i0, vi i1, vi i2, vr b36, vr b40, vr b44, vr b48, vr b133, vi 1, vi 1, vi 0, uu] [(ii 0)]) (fun _ k => XS.goto X146.here hx rfl (pc0 := 329) (pc' := 351) rfl (hb hby at_329) (by decide) (by decide) k) ?_
        refine bW T146 (mkF m 353 #[vi sa, vi ia, vi c0, vi c1, vi c2, vi 3, vi bb, vr x0, vr x1, vr x2, vr b30, vi i0, vi i1, vi i2, vr b36, vr b40, vr b44, vr b48, vr b133, vi 1, vi 1, vi 0, vi 0] []) (fun _ k => XS.istore X146.here hx rfl (hb hby at_351) rfl rfl k) ?_
        exact rm0_c21 (h1 := h1) (T1 := T146) (vm1 := vm1) hw X146 e146 Kc N146 Z0 hZ1 hown1 hS1 hk1 C1 hx hby hml hlk hrt Y3 Y4 Y5 Y6 Y7 Y8 Y9 Y10 Y11 Y37 Y38 Y39 Y40 Y41 Y42 (by rw [own_zz hi0 hz0 hz1 hz2 (if_pos hc267_143), own_zz hi1 hz0 hz1 hz2 (if_pos hc290_145), own_zz hi2 hz0 hz1 hz2 (if_neg hc313_147)]; decide)
    · skip
      refine bW T144 (mkF m 297 #[vi sa, vi ia, vi c0, vi c1, vi c2, vi 3, vi bb, vr x0, vr x1, vr x2, vr b30, vi i0, vi i1, vi i2, vr b36, vr b40, vr b44, vr b48, vr b133, vi 1, uu, uu, uu] []) (fun _ k => XS.ifYes X144.here hx rfl (pc0 := 290) (pc' := 297) rfl (hb hby at_290) rfl ((if0 _ _).trans (feq hc290_145).2) (by decide) (by decide) k) ?_
      refine bW T144 (mkF m 298 #[vi sa, vi ia, vi c0, vi c1, vi c2, vi 3, vi bb, vr x0, vr x1, vr x2, vr b30, vi i0, vi i1, vi i2, vr b36, vr b40, vr b44, vr b48, vr b133, vi 1, uu, uu, uu] [(ii 0)]) (fun _ k => XS.iconst X144.here hx rfl (hb hby at_297) k) ?_
      refine bW T144 (mkF m 300 #[vi sa, vi ia, vi c0, vi c1, vi c2, vi 3, vi bb, vr x0, vr x1, vr x2, vr b30, vi i0, vi i1, vi i2, vr b36, vr b40, vr b44, vr b48, vr b133, vi 1, vi 0, uu, uu] []) (fun _ k => XS.istore X144.here hx rfl (hb hby at_298) rfl rfl k) ?_
      refine bW T144 (mkF m 302 #[vi sa, vi ia, vi c0, vi c1, vi c2, vi 3, vi bb, vr x0, vr x1, vr x2, vr b30, vi i0, vi i1, vi i2, vr b36, vr b40, vr b44, vr b48, vr b133, vi 1, vi 0, uu, uu] [(.int (3 : Int32))]) (fun _ k => XS.iload X144.here hx rfl (hb hby at_300) rfl k) ?_
      refine bW T144 (mkF m 303 #[vi sa, vi ia, vi c0, vi c1, vi c2, vi 3, vi bb, vr x0, vr x1, vr x2, vr b30, vi i0, vi i1, vi i2, vr b36, vr b40, vr b44, vr b48, vr b133, vi 1, vi 0, uu, uu] [(.int (2 : Int32)), (.int (3 : Int32))]) (fun _ k => XS.iconst X144.here hx rfl (hb hby at_302) k) ?_
      refine bW T144 (mkF m 306 #[vi sa, vi ia, vi c0, vi c1, vi c2, vi 3, vi bb, vr x0, vr x1, vr x2, vr b30, vi i0, vi i1, vi i2, vr b36, vr b40, vr b44, vr b48, vr b133, vi 1, vi 0, uu, uu] []) (fun _ k => XS.icmpNo X144.here hx rfl (hb hby at_303) rfl (tlt (by decide)).2.2.2 k) ?_
      refine bW T144 (mkF m 308 #[vi sa, vi ia, vi c0, vi c1, vi c2, vi 3, vi bb, vr x0, vr x1, vr x2, vr b30, vi i0, vi i1, vi i2, vr b36, vr b40, vr b44, vr b48, vr b133, vi 1, vi 0, uu, uu] [(.int bb)]) (fun _ k => XS.iload X144.here hx rfl (hb hby at_306) rfl k) ?_
      refine bW T144 (mkF m 310 #[vi sa, vi ia, vi c0, vi c1, vi c2, vi 3, vi bb, vr x0, vr x1, vr x2, vr b30, vi i0, vi i1, vi i2, vr b36, vr b40, vr b44, vr b48, vr b133, vi 1, vi 0, uu, uu] [(.int i2), (.int bb)]) (fun _ k => XS.iload X144.here hx rfl (hb hby at_308) rfl k) ?_
      obtain ⟨_, _, ⟨T149, L149, k149, n149⟩, -, X149, ⟨Lc149, hQ149, l149, y149, z149⟩, st149⟩ := Jvm.LawKit.callS X144 hx (y := yy0) hown1 (mvT hZ1 (hw _ (mo 0 rfl))) (mvT hZ1 (hw _ (mo 1 rfl))) (mvT hZ1 (hw _ (mo 2 rfl))) (mvT hZ1 (hw _ (mo 3 rfl))) (by decide) (backOf (W := 0) (emc l Z a0 hw [] bb i2  h1 n0 (Nat.le_trans Z0 Kc.1) ) hZ1 (hw _ (mo 3 rfl)) (hw _ (mo 2 rfl)) (by decide) (by decide)) (g := (mkF m 310 #[vi sa, vi ia, vi c0, vi c1, vi c2, vi 3, vi bb, vr x0, vr x1, vr x2, vr b30, vi i0, vi i1, vi i2, vr b36, vr b40, vr b44, vr b48, vr b133, vi 1, vi 0, uu, uu] [(.int i2), (.int bb)])) rfl (by rw [hml]; rfl) (argsL := [(.int bb), (.int i2)]) (rest := []) (lenOf pd_16 rfl) rfl (Nat.le_of_eq rfl) (hb hby at_310) (fun _ _ => ⟨rfl, e144, (by decide : 37 ≤ _), (by decide : 302 ≤ _)⟩)
      dsimp only [Pt.U, Pt.locs, Pt.cells, Pt.slots] at X149 l149 y149 z149 st149 hQ149
      subst l149 y149 z149
      obtain ⟨rfl, N149q, e149⟩ := hQ149
      have N149 := Fr.app N144 N149q
      refine bW T149 (mkF m 313 #[vi sa, vi ia, vi c0, vi c1, vi c2, vi 3, vi bb, vr x0, vr x1, vr x2, vr b30, vi i0, vi i1, vi i2, vr b36, vr b40, vr b44, vr b48, vr b133, vi 1, vi 0, uu, uu] [(.int (own_e bb i2))]) (fun _ k => st149 _ k) ?_
      by_cases hc313_150 : (own_e bb i2) = (0 : Int32)
      · skip
        refine bW T149 (mkF m 316 #[vi sa, vi ia, vi c0, vi c1, vi c2, vi 3, vi bb, vr x0, vr x1, vr x2, vr b30, vi i0, vi i1, vi i2, vr b36, vr b40, vr b44, vr b48, vr b133, vi 1, vi 0, uu, uu] []) (fun _ k => XS.ifNo X149.here hx rfl (hb hby at_313) rfl ((if0 _ _).trans (teq hc313_150).2) k) ?_
        refine bW T149 (mkF m 317 #[vi sa, vi ia, vi c0, vi c1, vi c2, vi 3, vi bb, vr x0, vr x1, vr x2, vr b30, vi i0, vi i1, vi i2, vr b36, vr b40, vr b44, vr b48, vr b133, vi 1, vi 0, uu, uu] [(.int (1 : Int32))]) (fun _ k => XS.iconst X149.here hx rfl (hb hby at_316) k) ?_
        refine bW T149 (mkF m 321 #[vi sa, vi ia, vi c0, vi c1, vi c2, vi 3, vi bb, vr x0, vr x1, vr x2, vr b30, vi i0, vi i1, vi i2, vr b36, vr b40, vr b44, vr b48, vr b133, vi 1, vi 0, uu, uu] [(.int (1 : Int32))]) (fun _ k => XS.goto X149.here hx rfl (pc0 := 317) (pc' := 321) rfl (hb hby at_317) (by decide) (by decide) k) ?_
        refine bW T149 (mkF m 323 #[vi sa, vi ia, vi c0, vi c1, vi c2, vi 3, vi bb, vr x0, vr x1, vr x2, vr b30, vi i0, vi i1, vi i2, vr b36, vr b40, vr b44, vr b48, vr b133, vi 1, vi 0, vi 1, uu] []) (fun _ k => XS.istore X149.here hx rfl (hb hby at_321) rfl rfl k) ?_
        refine bW T149 (mkF m 325 #[vi sa, vi ia, vi c0, vi c1, vi c2, vi 3, vi bb, vr x0, vr x1, vr x2, vr b30, vi i0, vi i1, vi i2, vr b36, vr b40, vr b44, vr b48, vr b133, vi 1, vi 0, vi 1, uu] [(.int (1 : Int32))]) (fun _ k => XS.iload X149.here hx rfl (hb hby at_323) rfl k) ?_
        refine bW T149 (mkF m 328 #[vi sa, vi ia, vi c0, vi c1, vi c2, vi 3, vi bb, vr x0, vr x1, vr x2, vr b30, vi i0, vi i1, vi i2, vr b36, vr b40, vr b44, vr b48, vr b133, vi 1, vi 0, vi 1, uu] []) (fun _ k => XS.ifNo X149.here hx rfl (hb hby at_325) rfl ((if0 _ _).trans (feq (by decide)).1) k) ?_
        refine bW T149 (mkF m 329 #[vi sa, vi ia, vi c0, vi c1, vi c2, vi 3, vi bb, vr x0, vr x1, vr x2, vr b30, vi i0, vi i1, vi i2, vr b36, vr b40, vr b44, vr b48, vr b133, vi 1, vi 0, vi 1, uu] [(ii 0)]) (fun _ k => XS.iconst X149.here hx rfl (hb hby at_328) k) ?_
        refine bW T149 (mkF m 351 #[vi sa, vi ia, vi c0, vi c1, vi c2, vi 3, vi bb, vr x0, vr x1, vr x2, vr b30, vi i0, vi i1, vi i2, vr b36, vr b40, vr b44, vr b48, vr b133, vi 1, vi 0, vi 1, uu] [(ii 0)]) (fun _ k => XS.goto X149.here hx rfl (pc0 := 329) (pc' := 351) rfl (hb hby at_329) (by decide) (by decide) k) ?_
        refine bW T149 (mkF m 353 #[vi sa, vi ia, vi c0, vi c1, vi c2, vi 3, vi bb, vr x0, vr x1, vr x2, vr b30, vi i0, vi i1, vi i2, vr b36, vr b40, vr b44, vr b48, vr b133, vi 1, vi 0, vi 1, vi 0] []) (fun _ k => XS.istore X149.here hx rfl (hb hby at_351) rfl rfl k) ?_
        exact rm0_c21 (h1 := h1) (T1 := T149) (vm1 := vm1) hw X149 e149 Kc N149 Z0 hZ1 hown1 hS1 hk1 C1 hx hby hml hlk hrt Y3 Y4 Y5 Y6 Y7 Y8 Y9 Y10 Y11 Y37 Y38 Y39 Y40 Y41 Y42 (by rw [own_zz hi0 hz0 hz1 hz2 (if_pos hc267_143), own_zz hi1 hz0 hz1 hz2 (if_neg hc290_145), own_zz hi2 hz0 hz1 hz2 (if_pos hc313_150)]; decide)
      · skip
        refine bW T149 (mkF m 320 #[vi sa, vi ia, vi c0, vi c1, vi c2, vi 3, vi bb, vr x0, vr x1, vr x2, vr b30, vi i0, vi i1, vi i2, vr b36, vr b40, vr b44, vr b48, vr b133, vi 1, vi 0, uu, uu] []) (fun _ k => XS.ifYes X149.here hx rfl (pc0 := 313) (pc' := 320) rfl (hb hby at_313) rfl ((if0 _ _).trans (feq hc313_150).2) (by decide) (by decide) k) ?_
        refine bW T149 (mkF m 321 #[vi sa, vi ia, vi c0, vi c1, vi c2, vi 3, vi bb, vr x0, vr x1, vr x2, vr b30, vi i0, vi i1, vi i2, vr b36, vr b40, vr b44, vr b48, vr b133, vi 1, vi 0, uu, uu] [(ii 0)]) (fun _ k => XS.iconst X149.here hx rfl (hb hby at_320) k) ?_
        refine bW T149 (mkF m 323 #[vi sa, vi ia, vi c0, vi c1, vi c2, vi 3, vi bb, vr x0, vr x1, vr x2, vr b30, vi i0, vi i1, vi i2, vr b36, vr b40, vr b44, vr b48, vr b133, vi 1, vi 0, vi 0, uu] []) (fun _ k => XS.istore X149.here hx rfl (hb hby at_321) rfl rfl k) ?_
        refine bW T149 (mkF m 325 #[vi sa, vi ia, vi c0, vi c1, vi c2, vi 3, vi bb, vr x0, vr x1, vr x2, vr b30, vi i0, vi i1, vi i2, vr b36, vr b40, vr b44, vr b48, vr b133, vi 1, vi 0, vi 0, uu] [(.int (1 : Int32))]) (fun _ k => XS.iload X149.here hx rfl (hb hby at_323) rfl k) ?_
        refine bW T149 (mkF m 328 #[vi sa, vi ia, vi c0, vi c1, vi c2, vi 3, vi bb, vr x0, vr x1, vr x2, vr b30, vi i0, vi i1, vi i2, vr b36, vr b40, vr b44, vr b48, vr b133, vi 1, vi 0, vi 0, uu] []) (fun _ k => XS.ifNo X149.here hx rfl (hb hby at_325) rfl ((if0 _ _).trans (feq (by decide)).1) k) ?_
        refine bW T149 (mkF m 329 #[vi sa, vi ia, vi c0, vi c1, vi c2, vi 3, vi bb, vr x0, vr x1, vr x2, vr b30, vi i0, vi i1, vi i2, vr b36, vr b40, vr b44, vr b48, vr b133, vi 1, vi 0, vi 0, uu] [(ii 0)]) (fun _ k => XS.iconst X149.here hx rfl (hb hby at_328) k) ?_
        refine bW T149 (mkF m 351 #[vi sa, vi ia, vi c0, vi c1, vi c2, vi 3, vi bb, vr x0, vr x1, vr x2, vr b30, vi i0, vi i1, vi i2, vr b36, vr b40, vr b44, vr b48, vr b133, vi 1, vi 0, vi 0, uu] [(ii 0)]) (fun _ k => XS.goto X149.here hx rfl (pc0 := 329) (pc' := 351) rfl (hb hby at_329) (by decide) (by decide) k) ?_
        refine bW T149 (mkF m 353 #[vi sa, vi ia, vi c0, vi c1, vi c2, vi 3, vi bb, vr x0, vr x1, vr x2, vr b30, vi i0, vi i1, vi i2, vr b36, vr b40, vr b44, vr b48, vr b133, vi 1, vi 0, vi 0, vi 0] []) (fun _ k => XS.istore X149.here hx rfl (hb hby at_351) rfl rfl k) ?_
        exact rm0_c21 (h1 := h1) (T1 := T149) (vm1 := vm1) hw X149 e149 Kc N149 Z0 hZ1 hown1 hS1 hk1 C1 hx hby hml hlk hrt Y3 Y4 Y5 Y6 Y7 Y8 Y9 Y10 Y11 Y37 Y38 Y39 Y40 Y41 Y42 (by rw [own_zz hi0 hz0 hz1 hz2 (if_pos hc267_143), own_zz hi1 hz0 hz1 hz2 (if_neg hc290_145), own_zz hi2 hz0 hz1 hz2 (if_neg hc313_150)]; decide)
  · skip
    refine bW T142 (mkF m 274 #[vi sa, vi ia, vi c0, vi c1, vi c2, vi 3, vi bb, vr x0, vr x1, vr x2, vr b30, vi i0, vi i1, vi i2, vr b36, vr b40, vr b44, vr b48, vr b133, uu, uu, uu, uu] []) (fun _ k => XS.ifYes X142.here hx rfl (pc0 := 267) (pc' := 274) rfl (hb hby at_267) rfl ((if0 _ _).trans (feq hc267_143).2) (by decide) (by decide) k) ?_
    refine bW T142 (mkF m 275 #[vi sa, vi ia, vi c0, vi c1, vi c2, vi 3, vi bb, vr x0, vr x1, vr x2, vr b30, vi i0, vi i1, vi i2, vr b36, vr b40, vr b44, vr b48, vr b133, uu, uu, uu, uu] [(ii 0)]) (fun _ k => XS.iconst X142.here hx rfl (hb hby at_274) k) ?_
    refine bW T142 (mkF m 277 #[vi sa, vi ia, vi c0, vi c1, vi c2, vi 3, vi bb, vr x0, vr x1, vr x2, vr b30, vi i0, vi i1, vi i2, vr b36, vr b40, vr b44, vr b48, vr b133, vi 0, uu, uu, uu] []) (fun _ k => XS.istore X142.here hx rfl (hb hby at_275) rfl rfl k) ?_
    refine bW T142 (mkF m 279 #[vi sa, vi ia, vi c0, vi c1, vi c2, vi 3, vi bb, vr x0, vr x1, vr x2, vr b30, vi i0, vi i1, vi i2, vr b36, vr b40, vr b44, vr b48, vr b133, vi 0, uu, uu, uu] [(.int (3 : Int32))]) (fun _ k => XS.iload X142.here hx rfl (hb hby at_277) rfl k) ?_
    refine bW T142 (mkF m 280 #[vi sa, vi ia, vi c0, vi c1, vi c2, vi 3, vi bb, vr x0, vr x1, vr x2, vr b30, vi i0, vi i1, vi i2, vr b36, vr b40, vr b44, vr b48, vr b133, vi 0, uu, uu, uu] [(.int (1 : Int32)), (.int (3 : Int32))]) (fun _ k => XS.iconst X142.here hx rfl (hb hby at_279) k) ?_
    refine bW T142 (mkF m 283 #[vi sa, vi ia, vi c0, vi c1, vi c2, vi 3, vi bb, vr x0, vr x1, vr x2, vr b30, vi i0, vi i1, vi i2, vr b36, vr b40, vr b44, vr b48, vr b133, vi 0, uu, uu, uu] []) (fun _ k => XS.icmpNo X142.here hx rfl (hb hby at_280) rfl (tlt (by decide)).2.2.2 k) ?_
    refine bW T142 (mkF m 285 #[vi sa, vi ia, vi c0, vi c1, vi c2, vi 3, vi bb, vr x0, vr x1, vr x2, vr b30, vi i0, vi i1, vi i2, vr b36, vr b40, vr b44, vr b48, vr b133, vi 0, uu, uu, uu] [(.int bb)]) (fun _ k => XS.iload X142.here hx rfl (hb hby at_283) rfl k) ?_
    refine bW T142 (mkF m 287 #[vi sa, vi ia, vi c0, vi c1, vi c2, vi 3, vi bb, vr x0, vr x1, vr x2, vr b30, vi i0, vi i1, vi i2, vr b36, vr b40, vr b44, vr b48, vr b133, vi 0, uu, uu, uu] [(.int i1), (.int bb)]) (fun _ k => XS.iload X142.here hx rfl (hb hby at_285) rfl k) ?_
    obtain ⟨_, _, ⟨T151, L151, k151, n151⟩, -, X151, ⟨Lc151, hQ151, l151, y151, z151⟩, st151⟩ := Jvm.LawKit.callS X142 hx (y := yy0) hown1 (mvT hZ1 (hw _ (mo 0 rfl))) (mvT hZ1 (hw _ (mo 1 rfl))) (mvT hZ1 (hw _ (mo 2 rfl))) (mvT hZ1 (hw _ (mo 3 rfl))) (by decide) (backOf (W := 0) (emc l Z a0 hw [] bb i1  h1 n0 (Nat.le_trans Z0 Kc.1) ) hZ1 (hw _ (mo 3 rfl)) (hw _ (mo 2 rfl)) (by decide) (by decide)) (g := (mkF m 287 #[vi sa, vi ia, vi c0, vi c1, vi c2, vi 3, vi bb, vr x0, vr x1, vr x2, vr b30, vi i0, vi i1, vi i2, vr b36, vr b40, vr b44, vr b48, vr b133, vi 0, uu, uu, uu] [(.int i1), (.int bb)])) rfl (by rw [hml]; rfl) (argsL := [(.int bb), (.int i1)]) (rest := []) (lenOf pd_16 rfl) rfl (Nat.le_of_eq rfl) (hb hby at_287) (fun _ _ => ⟨rfl, e142, (by decide : 37 ≤ _), (by decide : 302 ≤ _)⟩)
    dsimp only [Pt.U, Pt.locs, Pt.cells, Pt.slots] at X151 l151 y151 z151 st151 hQ151
    subst l151 y151 z151
    obtain ⟨rfl, N151q, e151⟩ := hQ151
    have N151 := Fr.app N142 N151q
    refine bW T151 (mkF m 290 #[vi sa, vi ia, vi c0, vi c1, vi c2, vi 3, vi bb, vr x0, vr x1, vr x2, vr b30, vi i0, vi i1, vi i2, vr b36, vr b40, vr b44, vr b48, vr b133, vi 0, uu, uu, uu] [(.int (own_e bb i1))]) (fun _ k => st151 _ k) ?_
    by_cases hc290_152 : (own_e bb i1) = (0 : Int32)
    · skip
      refine bW T151 (mkF m 293 #[vi sa, vi ia, vi c0, vi c1, vi c2, vi 3, vi bb, vr x0, vr x1, vr x2, vr b30, vi i0, vi i1, vi i2, vr b36, vr b40, vr b44, vr b48, vr b133, vi 0, uu, uu, uu] []) (fun _ k => XS.ifNo X151.here hx rfl (hb hby at_290) rfl ((if0 _ _).trans (teq hc290_152).2) k) ?_
      refine bW T151 (mkF m 294 #[vi sa, vi ia, vi c0, vi c1, vi c2, vi 3, vi bb, vr x0, vr x1, vr x2, vr b30, vi i0, vi i1, vi i2, vr b36, vr b40, vr b44, vr b48, vr b133, vi 0, uu, uu, uu] [(.int (1 : Int32))]) (fun _ k => XS.iconst X151.here hx rfl (hb hby at_293) k) ?_
      refine bW T151 (mkF m 298 #[vi sa, vi ia, vi c0, vi c1, vi c2, vi 3, vi bb, vr x0, vr x1, vr x2, vr b30, vi i0, vi i1, vi i2, vr b36, vr b40, vr b44, vr b48, vr b133, vi 0, uu, uu, uu] [(.int (1 : Int32))]) (fun _ k => XS.goto X151.here hx rfl (pc0 := 294) (pc' := 298) rfl (hb hby at_294) (by decide) (by decide) k) ?_
      refine bW T151 (mkF m 300 #[vi sa, vi ia, vi c0, vi c1, vi c2, vi 3, vi bb, vr x0, vr x1, vr x2, vr b30, vi i0, vi i1, vi i2, vr b36, vr b40, vr b44, vr b48, vr b133, vi 0, vi 1, uu, uu] []) (fun _ k => XS.istore X151.here hx rfl (hb hby at_298) rfl rfl k) ?_
      refine bW T151 (mkF m 302 #[vi sa, vi ia, vi c0, vi c1, vi c2, vi 3, vi bb, vr x0, vr x1, vr x2, vr b30, vi i0, vi i1, vi i2, vr b36, vr b40, vr b44, vr b48, vr b133, vi 0, vi 1, uu, uu] [(.int (3 : Int32))]) (fun _ k => XS.iload X151.here hx rfl (hb hby at_300) rfl k) ?_
      refine bW T151 (mkF m 303 #[vi sa, vi ia, vi c0, vi c1, vi c2, vi 3, vi bb, vr x0, vr x1, vr x2, vr b30, vi i0, vi i1, vi i2, vr b36, vr b40, vr b44, vr b48, vr b133, vi 0, vi 1, uu, uu] [(.int (2 : Int32)), (.int (3 : Int32))]) (fun _ k => XS.iconst X151.here hx rfl (hb hby at_302) k) ?_
      refine bW T151 (mkF m 306 #[vi sa, vi ia, vi c0, vi c1, vi c2, vi 3, vi bb, vr x0, vr x1, vr x2, vr b30, vi i0, vi i1, vi i2, vr b36, vr b40, vr b44, vr b48, vr b133, vi 0, vi 1, uu, uu] []) (fun _ k => XS.icmpNo X151.here hx rfl (hb hby at_303) rfl (tlt (by decide)).2.2.2 k) ?_
      refine bW T151 (mkF m 308 #[vi sa, vi ia, vi c0, vi c1, vi c2, vi 3, vi bb, vr x0, vr x1, vr x2, vr b30, vi i0, vi i1, vi i2, vr b36, vr b40, vr b44, vr b48, vr b133, vi 0, vi 1, uu, uu] [(.int bb)]) (fun _ k => XS.iload X151.here hx rfl (hb hby at_306) rfl k) ?_
      refine bW T151 (mkF m 310 #[vi sa, vi ia, vi c0, vi c1, vi c2, vi 3, vi bb, vr x0, vr x1, vr x2, vr b30, vi i0, vi i1, vi i2, vr b36, vr b40, vr b44, vr b48, vr b133, vi 0, vi 1, uu, uu] [(.int i2), (.int bb)]) (fun _ k => XS.iload X151.here hx rfl (hb hby at_308) rfl k) ?_
      obtain ⟨_, _, ⟨T153, L153, k153, n153⟩, -, X153, ⟨Lc153, hQ153, l153, y153, z153⟩, st153⟩ := Jvm.LawKit.callS X151 hx (y := yy0) hown1 (mvT hZ1 (hw _ (mo 0 rfl))) (mvT hZ1 (hw _ (mo 1 rfl))) (mvT hZ1 (hw _ (mo 2 rfl))) (mvT hZ1 (hw _ (mo 3 rfl))) (by decide) (backOf (W := 0) (emc l Z a0 hw [] bb i2  h1 n0 (Nat.le_trans Z0 Kc.1) ) hZ1 (hw _ (mo 3 rfl)) (hw _ (mo 2 rfl)) (by decide) (by decide)) (g := (mkF m 310 #[vi sa, vi ia, vi c0, vi c1, vi c2, vi 3, vi bb, vr x0, vr x1, vr x2, vr b30, vi i0, vi i1, vi i2, vr b36, vr b40, vr b44, vr b48, vr b133, vi 0, vi 1, uu, uu] [(.int i2), (.int bb)])) rfl (by rw [hml]; rfl) (argsL := [(.int bb), (.int i2)]) (rest := []) (lenOf pd_16 rfl) rfl (Nat.le_of_eq rfl) (hb hby at_310) (fun _ _ => ⟨rfl, e151, (by decide : 37 ≤ _), (by decide : 302 ≤ _)⟩)
      dsimp only [Pt.U, Pt.locs, Pt.cells, Pt.slots] at X153 l153 y153 z153 st153 hQ153
      subst l153 y153 z153
      obtain ⟨rfl, N153q, e153⟩ := hQ153
      have N153 := Fr.app N151 N153q
      refine bW T153 (mkF m 313 #[vi sa, vi ia, vi c0, vi c1, vi c2, vi 3, vi bb, vr x0, vr x1, vr x2, vr b30, vi i0, vi i1, vi i2, vr b36, vr b40, vr b44, vr b48, vr b133, vi 0, vi 1, uu, uu] [(.int (own_e bb i2))]) (fun _ k => st153 _ k) ?_
      by_cases hc313_154 : (own_e bb i2) = (0 : Int32)
      · skip
        refine bW T153 (mkF m 316 #[vi sa, vi ia, vi c0, vi c1, vi c2, vi 3, vi bb, vr x0, vr x1, vr x2, vr b30, vi i0, vi i1, vi i2, vr b36, vr b40, vr b44, vr b48, vr b133, vi 0, vi 1, uu, uu] []) (fun _ k => XS.ifNo X153.here hx rfl (hb hby at_313) rfl ((if0 _ _).trans (teq hc313_154).2) k) ?_
        refine bW T153 (mkF m 317 #[vi sa, vi ia, vi c0, vi c1, vi c2, vi 3, vi bb, vr x0, vr x1, vr x2, vr b30, vi i0, vi i1, vi i2, vr b36, vr b40, vr b44, vr b48, vr b133, vi 0, vi 1, uu, uu] [(.int (1 : Int32))]) (fun _ k => XS.iconst X153.here hx rfl (hb hby at_316) k) ?_
        refine bW T153 (mkF m 321 #[vi sa, vi ia, vi c0, vi c1, vi c2, vi 3, vi bb, vr x0, vr x1, vr x2, vr b30, vi i0, vi i1, vi i2, vr b36, vr b40, vr b44, vr b48, vr b133, vi 0, vi 1, uu, uu] [(.int (1 : Int32))]) (fun _ k => XS.goto X153.here hx rfl (pc0 := 317) (pc' := 321) rfl (hb hby at_317) (by decide) (by decide) k) ?_
        refine bW T153 (mkF m 323 #[vi sa, vi ia, vi c0, vi c1, vi c2, vi 3, vi bb, vr x0, vr x1, vr x2, vr b30, vi i0, vi i1, vi i2, vr b36, vr b40, vr b44, vr b48, vr b133, vi 0, vi 1, vi 1, uu] []) (fun _ k => XS.istore X153.here hx rfl (hb hby at_321) rfl rfl k) ?_
        refine bW T153 (mkF m 325 #[vi sa, vi ia, vi c0, vi c1, vi c2, vi 3, vi bb, vr x0, vr x1, vr x2, vr b30, vi i0, vi i1, vi i2, vr b36, vr b40, vr b44, vr b48, vr b133, vi 0, vi 1, vi 1, uu] [(ii 0)]) (fun _ k => XS.iload X153.here hx rfl (hb hby at_323) rfl k) ?_
        refine bW T153 (mkF m 332 #[vi sa, vi ia, vi c0, vi c1, vi c2, vi 3, vi bb, vr x0, vr x1, vr x2, vr b30, vi i0, vi i1, vi i2, vr b36, vr b40, vr b44, vr b48, vr b133, vi 0, vi 1, vi 1, uu] []) (fun _ k => XS.ifYes X153.here hx rfl (pc0 := 325) (pc' := 332) rfl (hb hby at_325) rfl ((if0 _ _).trans (teq (by decide)).1) (by decide) (by decide) k) ?_
        refine bW T153 (mkF m 334 #[vi sa, vi ia, vi c0, vi c1, vi c2, vi 3, vi bb, vr x0, vr x1, vr x2, vr b30, vi i0, vi i1, vi i2, vr b36, vr b40, vr b44, vr b48, vr b133, vi 0, vi 1, vi 1, uu] [(.int (1 : Int32))]) (fun _ k => XS.iload X153.here hx rfl (hb hby at_332) rfl k) ?_
        refine bW T153 (mkF m 337 #[vi sa, vi ia, vi c0, vi c1, vi c2, vi 3, vi bb, vr x0, vr x1, vr x2, vr b30, vi i0, vi i1, vi i2, vr b36, vr b40, vr b44, vr b48, vr b133, vi 0, vi 1, vi 1, uu] []) (fun _ k => XS.ifNo X153.here hx rfl (hb hby at_334) rfl ((if0 _ _).trans (feq (by decide)).1) k) ?_
        refine bW T153 (mkF m 338 #[vi sa, vi ia, vi c0, vi c1, vi c2, vi 3, vi bb, vr x0, vr x1, vr x2, vr b30, vi i0, vi i1, vi i2, vr b36, vr b40, vr b44, vr b48, vr b133, vi 0, vi 1, vi 1, uu] [(.int (1 : Int32))]) (fun _ k => XS.iconst X153.here hx rfl (hb hby at_337) k) ?_
        refine bW T153 (mkF m 351 #[vi sa, vi ia, vi c0, vi c1, vi c2, vi 3, vi bb, vr x0, vr x1, vr x2, vr b30, vi i0, vi i1, vi i2, vr b36, vr b40, vr b44, vr b48, vr b133, vi 0, vi 1, vi 1, uu] [(.int (1 : Int32))]) (fun _ k => XS.goto X153.here hx rfl (pc0 := 338) (pc' := 351) rfl (hb hby at_338) (by decide) (by decide) k) ?_
        refine bW T153 (mkF m 353 #[vi sa, vi ia, vi c0, vi c1, vi c2, vi 3, vi bb, vr x0, vr x1, vr x2, vr b30, vi i0, vi i1, vi i2, vr b36, vr b40, vr b44, vr b48, vr b133, vi 0, vi 1, vi 1, vi 1] []) (fun _ k => XS.istore X153.here hx rfl (hb hby at_351) rfl rfl k) ?_
        exact rm0_c21 (h1 := h1) (T1 := T153) (vm1 := vm1) hw X153 e153 Kc N153 Z0 hZ1 hown1 hS1 hk1 C1 hx hby hml hlk hrt Y3 Y4 Y5 Y6 Y7 Y8 Y9 Y10 Y11 Y37 Y38 Y39 Y40 Y41 Y42 (by rw [own_zz hi0 hz0 hz1 hz2 (if_neg hc267_143), own_zz hi1 hz0 hz1 hz2 (if_pos hc290_152), own_zz hi2 hz0 hz1 hz2 (if_pos hc313_154)]; decide)
      · skip
        refine bW T153 (mkF m 320 #[vi sa, vi ia, vi c0, vi c1, vi c2, vi 3, vi bb, vr x0, vr x1, vr x2, vr b30, vi i0, vi i1, vi i2, vr b36, vr b40, vr b44, vr b48, vr b133, vi 0, vi 1, uu, uu] []) (fun _ k => XS.ifYes X153.here hx rfl (pc0 := 313) (pc' := 320) rfl (hb hby at_313) rfl ((if0 _ _).trans (feq hc313_154).2) (by decide) (by decide) k) ?_
        refine bW T153 (mkF m 321 #[vi sa, vi ia, vi c0, vi c1, vi c2, vi 3, vi bb, vr x0, vr x1, vr x2, vr b30, vi i0, vi i1, vi i2, vr b36, vr b40, vr b44, vr b48, vr b133, vi 0, vi 1, uu, uu] [(ii 0)]) (fun _ k => XS.iconst X153.here hx rfl (hb hby at_320) k) ?_
        refine bW T153 (mkF m 323 #[vi sa, vi ia, vi c0, vi c1, vi c2, vi 3, vi bb, vr x0, vr x1, vr x2, vr b30, vi i0, vi i1, vi i2, vr b36, vr b40, vr b44, vr b48, vr b133, vi 0, vi 1, vi 0, uu] []) (fun _ k => XS.istore X153.here hx rfl (hb hby at_321) rfl rfl k) ?_
        refine bW T153 (mkF m 325 #[vi sa, vi ia, vi c0, vi c1, vi c2, vi 3, vi bb, vr x0, vr x1, vr x2, vr b30, vi i0, vi i1, vi i2, vr b36, vr b40, vr b44, vr b48, vr b133, vi 0, vi 1, vi 0, uu] [(ii 0)]) (fun _ k => XS.iload X153.here hx rfl (hb hby at_323) rfl k) ?_
        refine bW T153 (mkF m 332 #[vi sa, vi ia, vi c0, vi c1, vi c2, vi 3, vi bb, vr x0, vr x1, vr x2, vr b30, vi i0, vi i1, vi i2, vr b36, vr b40, vr b44, vr b48, vr b133, vi 0, vi 1, vi 0, uu] []) (fun _ k => XS.ifYes X153.here hx rfl (pc0 := 325) (pc' := 332) rfl (hb hby at_325) rfl ((if0 _ _).trans (teq (by decide)).1) (by decide) (by decide) k) ?_
        refine bW T153 (mkF m 334 #[vi sa, vi ia, vi c0, vi c1, vi c2, vi 3, vi bb, vr x0, vr x1, vr x2, vr b30, vi i0, vi i1, vi i2, vr b36, vr b40, vr b44, vr b48, vr b133, vi 0, vi 1, vi 0, uu] [(.int (1 : Int32))]) (fun _ k => XS.iload X153.here hx rfl (hb hby at_332) rfl k) ?_
        refine bW T153 (mkF m 337 #[vi sa, vi ia, vi c0, vi c1, vi c2, vi 3, vi bb, vr x0, vr x1, vr x2, vr b30, vi i0, vi i1, vi i2, vr b36, vr b40, vr b44, vr b48, vr b133, vi 0, vi 1, vi 0, uu] []) (fun _ k => XS.ifNo X153.here hx rfl (hb hby at_334) rfl ((if0 _ _).trans (feq (by decide)).1) k) ?_
        refine bW T153 (mkF m 338 #[vi sa, vi ia, vi c0, vi c1, vi c2, vi 3, vi bb, vr x0, vr x1, vr x2, vr b30, vi i0, vi i1, vi i2, vr b36, vr b40, vr b44, vr b48, vr b133, vi 0, vi 1, vi 0, uu] [(.int (1 : Int32))]) (fun _ k => XS.iconst X153.here hx rfl (hb hby at_337) k) ?_
        refine bW T153 (mkF m 351 #[vi sa, vi ia, vi c0, vi c1, vi c2, vi 3, vi bb, vr x0, vr x1, vr x2, vr b30, vi i0, vi i1, vi i2, vr b36, vr b40, vr b44, vr b48, vr b133, vi 0, vi 1, vi 0, uu] [(.int (1 : Int32))]) (fun _ k => XS.goto X153.here hx rfl (pc0 := 338) (pc' := 351) rfl (hb hby at_338) (by decide) (by decide) k) ?_
        refine bW T153 (mkF m 353 #[vi sa, vi ia, vi c0, vi c1, vi c2, vi 3, vi bb, vr x0, vr x1, vr x2, vr b30, vi i0, vi i1, vi i2, vr b36, vr b40, vr b44, vr b48, vr b133, vi 0, vi 1, vi 0, vi 1] []) (fun _ k => XS.istore X153.here hx rfl (hb hby at_351) rfl rfl k) ?_
        exact rm0_c21 (h1 := h1) (T1 := T153) (vm1 := vm1) hw X153 e153 Kc N153 Z0 hZ1 hown1 hS1 hk1 C1 hx hby hml hlk hrt Y3 Y4 Y5 Y6 Y7 Y8 Y9 Y10 Y11 Y37 Y38 Y39 Y40 Y41 Y42 (by rw [own_zz hi0 hz0 hz1 hz2 (if_neg hc267_143), own_zz hi1 hz0 hz1 hz2 (if_pos hc290_152), own_zz hi2 hz0 hz1 hz2 (if_neg hc313_154)]; decide)
    · skip
      refine bW T151 (mkF m 297 #[vi sa, vi ia, vi c0, vi c1, vi c2, vi 3, vi bb, vr x0, vr x1, vr x2, vr b30, vi i0, vi i1, vi i2, vr b36, vr b40, vr b44, vr b48, vr b133, vi 0, uu, uu, uu] []) (fun _ k => XS.ifYes X151.here hx rfl (pc0 := 290) (pc' := 297) rfl (hb hby at_290) rfl ((if0 _ _).trans (feq hc290_152).2) (by decide) (by decide) k) ?_
      refine bW T151 (mkF m 298 #[vi sa, vi ia, vi c0, vi c1, vi c2, vi 3, vi bb, vr x0, vr x1, vr x2, vr b30, vi i0, vi i1, vi i2, vr b36, vr b40, vr b44, vr b48, vr b133, vi 0, uu, uu, uu] [(ii 0)]) (fun _ k => XS.iconst X151.here hx rfl (hb hby at_297) k) ?_
      refine bW T151 (mkF m 300 #[vi sa, vi ia, vi c0, vi c1, vi c2, vi 3, vi bb, vr x0, vr x1, vr x2, vr b30, vi i0, vi i1, vi i2, vr b36, vr b40, vr b44, vr b48, vr b133, vi 0, vi 0, uu, uu] []) (fun _ k => XS.istore X151.here hx rfl (hb hby at_298) rfl rfl k) ?_
      refine bW T151 (mkF m 302 #[vi sa, vi ia, vi c0, vi c1, vi c2, vi 3, vi bb, vr x0, vr x1, vr x2, vr b30, vi i0, vi i1, vi i2, vr b36, vr b40, vr b44, vr b48, vr b133, vi 0, vi 0, uu, uu] [(.int (3 : Int32))]) (fun _ k => XS.iload X151.here hx rfl (hb hby at_300) rfl k) ?_
      refine bW T151 (mkF m 303 #[vi sa, vi ia, vi c0, vi c1, vi c2, vi 3, vi bb, vr x0, vr x1, vr x2, vr b30, vi i0, vi i1, vi i2, vr b36, vr b40, vr b44, vr b48, vr b133, vi 0, vi 0, uu, uu] [(.int (2 : Int32)), (.int (3 : Int32))]) (fun _ k => XS.iconst X151.here hx rfl (hb hby at_302) k) ?_
      refine bW T151 (mkF m 306 #[vi sa, vi ia, vi c0, vi c1, vi c2, vi 3, vi bb, vr x0, vr x1, vr x2, vr b30, vi i0, vi i1, vi i2, vr b36, vr b40, vr b44, vr b48, vr b133, vi 0, vi 0, uu, uu] []) (fun _ k => XS.icmpNo X151.here hx rfl (hb hby at_303) rfl (tlt (by decide)).2.2.2 k) ?_
      refine bW T151 (mkF m 308 #[vi sa, vi ia, vi c0, vi c1, vi c2, vi 3, vi bb, vr x0, vr x1, vr x2, vr b30, vi i0, vi i1, vi i2, vr b36, vr b40, vr b44, vr b48, vr b133, vi 0, vi 0, uu, uu] [(.int bb)]) (fun _ k => XS.iload X151.here hx rfl (hb hby at_306) rfl k) ?_
      refine bW T151 (mkF m 310 #[vi sa, vi ia, vi c0, vi c1, vi c2, vi 3, vi bb, vr x0, vr x1, vr x2, vr b30, vi i0, vi i1, vi i2, vr b36, vr b40, vr b44, vr b48, vr b133, vi 0, vi 0, uu, uu] [(.int i2), (.int bb)]) (fun _ k => XS.iload X151.here hx rfl (hb hby at_308) rfl k) ?_
      obtain ⟨_, _, ⟨T155, L155, k155, n155⟩, -, X155, ⟨Lc155, hQ155, l155, y155, z155⟩, st155⟩ := Jvm.LawKit.callS X151 hx (y := yy0) hown1 (mvT hZ1 (hw _ (mo 0 rfl))) (mvT hZ1 (hw _ (mo 1 rfl))) (mvT hZ1 (hw _ (mo 2 rfl))) (mvT hZ1 (hw _ (mo 3 rfl))) (by decide) (backOf (W := 0) (emc l Z a0 hw [] bb i2  h1 n0 (Nat.le_trans Z0 Kc.1) ) hZ1 (hw _ (mo 3 rfl)) (hw _ (mo 2 rfl)) (by decide) (by decide)) (g := (mkF m 310 #[vi sa, vi ia, vi c0, vi c1, vi c2, vi 3, vi bb, vr x0, vr x1, vr x2, vr b30, vi i0, vi i1, vi i2, vr b36, vr b40, vr b44, vr b48, vr b133, vi 0, vi 0, uu, uu] [(.int i2), (.int bb)])) rfl (by rw [hml]; rfl) (argsL := [(.int bb), (.int i2)]) (rest := []) (lenOf pd_16 rfl) rfl (Nat.le_of_eq rfl) (hb hby at_310) (fun _ _ => ⟨rfl, e151, (by decide : 37 ≤ _), (by decide : 302 ≤ _)⟩)
      dsimp only [Pt.U, Pt.locs, Pt.cells, Pt.slots] at X155 l155 y155 z155 st155 hQ155
      subst l155 y155 z155
      obtain ⟨rfl, N155q, e155⟩ := hQ155
      have N155 := Fr.app N151 N155q
      refine bW T155 (mkF m 313 #[vi sa, vi ia, vi c0, vi c1, vi c2, vi 3, vi bb, vr x0, vr x1, vr x2, vr b30, vi i0, vi i1, vi i2, vr b36, vr b40, vr b44, vr b48, vr b133, vi 0, vi 0, uu, uu] [(.int (own_e bb i2))]) (fun _ k => st155 _ k) ?_
      by_cases hc313_156 : (own_e bb i2) = (0 : Int32)
      · skip
        refine bW T155 (mkF m 316 #[vi sa, vi ia, vi c0, vi c1, vi c2, vi 3, vi bb, vr x0, vr x1, vr x2, vr b30, vi i0, vi i1, vi i2, vr b36, vr b40, vr b44, vr b48, vr b133, vi 0, vi 0, uu, uu] []) (fun _ k => XS.ifNo X155.here hx rfl (hb hby at_313) rfl ((if0 _ _).trans (teq hc313_156).2) k) ?_
        refine bW T155 (mkF m 317 #[vi sa, vi ia, vi c0, vi c1, vi c2, vi 3, vi bb, vr x0, vr x1, vr x2, vr b30, vi i0, vi i1, vi i2, vr b36, vr b40, vr b44, vr b48, vr b133, vi 0, vi 0, uu, uu] [(.int (1 : Int32))]) (fun _ k => XS.iconst X155.here hx rfl (hb hby at_316) k) ?_
        refine bW T155 (mkF m 321 #[vi sa, vi ia, vi c0, vi c1, vi c2, vi 3, vi bb, vr x0, vr x1, vr x2, vr b30, vi i0, vi i1, vi i2, vr b36, vr b40, vr b44, vr b48, vr b133, vi 0, vi 0, uu, uu] [(.int (1 : Int32))]) (fun _ k => XS.goto X155.here hx rfl (pc0 := 317) (pc' := 321) rfl (hb hby at_317) (by decide) (by decide) k) ?_
        refine bW T155 (mkF m 323 #[vi sa, vi ia, vi c0, vi c1, vi c2, vi 3, vi bb, vr x0, vr x1, vr x2, vr b30, vi i0, vi i1, vi i2, vr b36, vr b40, vr b44, vr b48, vr b133, vi 0, vi 0, vi 1, uu] []) (fun _ k => XS.istore X155.here hx rfl (hb hby at_321) rfl rfl k) ?_
        refine bW T155 (mkF m 325 #[vi sa, vi ia, vi c0, vi c1, vi c2, vi 3, vi bb, vr x0, vr x1, vr x2, vr b30, vi i0, vi i1, vi i2, vr b36, vr b40, vr b44, vr b48, vr b133, vi 0, vi 0, vi 1, uu] [(ii 0)]) (fun _ k => XS.iload X155.here hx rfl (hb hby at_323) rfl k) ?_
        refine bW T155 (mkF m 332 #[vi sa, vi ia, vi c0, vi c1, vi c2, vi 3, vi bb, vr x0, vr x1, vr x2, vr b30, vi i0, vi i1, vi i2, vr b36, vr b40, vr b44, vr b48, vr b133, vi 0, vi 0, vi 1, uu] []) (fun _ k => XS.ifYes X155.here hx rfl (pc0 := 325) (pc' := 332) rfl (hb hby at_325) rfl ((if0 _ _).trans (teq (by decide)).1) (by decide) (by decide) k) ?_
        refine bW T155 (mkF m 334 #[vi sa, vi ia, vi c0, vi c1, vi c2, vi 3, vi bb, vr x0, vr x1, vr x2, vr b30, vi i0, vi i1, vi i2, vr b36, vr b40, vr b44, vr b48, vr b133, vi 0, vi 0, vi 1, uu] [(ii 0)]) (fun _ k => XS.iload X155.here hx rfl (hb hby at_332) rfl k) ?_
        refine bW T155 (mkF m 341 #[vi sa, vi ia, vi c0, vi c1, vi c2, vi 3, vi bb, vr x0, vr x1, vr x2, vr b30, vi i0, vi i1, vi i2, vr b36, vr b40, vr b44, vr b48, vr b133, vi 0, vi 0, vi 1, uu] []) (fun _ k => XS.ifYes X155.here hx rfl (pc0 := 334) (pc' := 341) rfl (hb hby at_334) rfl ((if0 _ _).trans (teq (by decide)).1) (by decide) (by decide) k) ?_
        refine bW T155 (mkF m 343 #[vi sa, vi ia, vi c0, vi c1, vi c2, vi 3, vi bb, vr x0, vr x1, vr x2, vr b30, vi i0, vi i1, vi i2, vr b36, vr b40, vr b44, vr b48, vr b133, vi 0, vi 0, vi 1, uu] [(.int (1 : Int32))]) (fun _ k => XS.iload X155.here hx rfl (hb hby at_341) rfl k) ?_
        refine bW T155 (mkF m 346 #[vi sa, vi ia, vi c0, vi c1, vi c2, vi 3, vi bb, vr x0, vr x1, vr x2, vr b30, vi i0, vi i1, vi i2, vr b36, vr b40, vr b44, vr b48, vr b133, vi 0, vi 0, vi 1, uu] []) (fun _ k => XS.ifNo X155.here hx rfl (hb hby at_343) rfl ((if0 _ _).trans (feq (by decide)).1) k) ?_
        refine bW T155 (mkF m 347 #[vi sa, vi ia, vi c0, vi c1, vi c2, vi 3, vi bb, vr x0, vr x1, vr x2, vr b30, vi i0, vi i1, vi i2, vr b36, vr b40, vr b44, vr b48, vr b133, vi 0, vi 0, vi 1, uu] [(.int (2 : Int32))]) (fun _ k => XS.iconst X155.here hx rfl (hb hby at_346) k) ?_
        refine bW T155 (mkF m 351 #[vi sa, vi ia, vi c0, vi c1, vi c2, vi 3, vi bb, vr x0, vr x1, vr x2, vr b30, vi i0, vi i1, vi i2, vr b36, vr b40, vr b44, vr b48, vr b133, vi 0, vi 0, vi 1, uu] [(.int (2 : Int32))]) (fun _ k => XS.goto X155.here hx rfl (pc0 := 347) (pc' := 351) rfl (hb hby at_347) (by decide) (by decide) k) ?_
        refine bW T155 (mkF m 353 #[vi sa, vi ia, vi c0, vi c1, vi c2, vi 3, vi bb, vr x0, vr x1, vr x2, vr b30, vi i0, vi i1, vi i2, vr b36, vr b40, vr b44, vr b48, vr b133, vi 0, vi 0, vi 1, vi 2] []) (fun _ k => XS.istore X155.here hx rfl (hb hby at_351) rfl rfl k) ?_
        exact rm0_c21 (h1 := h1) (T1 := T155) (vm1 := vm1) hw X155 e155 Kc N155 Z0 hZ1 hown1 hS1 hk1 C1 hx hby hml hlk hrt Y3 Y4 Y5 Y6 Y7 Y8 Y9 Y10 Y11 Y37 Y38 Y39 Y40 Y41 Y42 (by rw [own_zz hi0 hz0 hz1 hz2 (if_neg hc267_143), own_zz hi1 hz0 hz1 hz2 (if_neg hc290_152), own_zz hi2 hz0 hz1 hz2 (if_pos hc313_156)]; decide)
      · skip
        refine bW T155 (mkF m 320 #[vi sa, vi ia, vi c0, vi c1, vi c2, vi 3, vi bb, vr x0, vr x1, vr x2, vr b30, vi i0, vi i1, vi i2, vr b36, vr b40, vr b44, vr b48, vr b133, vi 0, vi 0, uu, uu] []) (fun _ k => XS.ifYes X155.here hx rfl (pc0 := 313) (pc' := 320) rfl (hb hby at_313) rfl ((if0 _ _).trans (feq hc313_156).2) (by decide) (by decide) k) ?_
        refine bW T155 (mkF m 321 #[vi sa, vi ia, vi c0, vi c1, vi c2, vi 3, vi bb, vr x0, vr x1, vr x2, vr b30, vi i0, vi i1, vi i2, vr b36, vr b40, vr b44, vr b48, vr b133, vi 0, vi 0, uu, uu] [(ii 0)]) (fun _ k => XS.iconst X155.here hx rfl (hb hby at_320) k) ?_
        refine bW T155 (mkF m 323 #[vi sa, vi ia, vi c0, vi c1, vi c2, vi 3, vi bb, vr x0, vr x1, vr x2, vr b30, vi i0, vi i1, vi i2, vr b36, vr b40, vr b44, vr b48, vr b133, vi 0, vi 0, vi 0, uu] []) (fun _ k => XS.istore X155.here hx rfl (hb hby at_321) rfl rfl k) ?_
        refine bW T155 (mkF m 325 #[vi sa, vi ia, vi c0, vi c1, vi c2, vi 3, vi bb, vr x0, vr x1, vr x2, vr b30, vi i0, vi i1, vi i2, vr b36, vr b40, vr b44, vr b48, vr b133, vi 0, vi 0, vi 0, uu] [(ii 0)]) (fun _ k => XS.iload X155.here hx rfl (hb hby at_323) rfl k) ?_
        refine bW T155 (mkF m 332 #[vi sa, vi ia, vi c0, vi c1, vi c2, vi 3, vi bb, vr x0, vr x1, vr x2, vr b30, vi i0, vi i1, vi i2, vr b36, vr b40, vr b44, vr b48, vr b133, vi 0, vi 0, vi 0, uu] []) (fun _ k => XS.ifYes X155.here hx rfl (pc0 := 325) (pc' := 332) rfl (hb hby at_325) rfl ((if0 _ _).trans (teq (by decide)).1) (by decide) (by decide) k) ?_
        refine bW T155 (mkF m 334 #[vi sa, vi ia, vi c0, vi c1, vi c2, vi 3, vi bb, vr x0, vr x1, vr x2, vr b30, vi i0, vi i1, vi i2, vr b36, vr b40, vr b44, vr b48, vr b133, vi 0, vi 0, vi 0, uu] [(ii 0)]) (fun _ k => XS.iload X155.here hx rfl (hb hby at_332) rfl k) ?_
        refine bW T155 (mkF m 341 #[vi sa, vi ia, vi c0, vi c1, vi c2, vi 3, vi bb, vr x0, vr x1, vr x2, vr b30, vi i0, vi i1, vi i2, vr b36, vr b40, vr b44, vr b48, vr b133, vi 0, vi 0, vi 0, uu] []) (fun _ k => XS.ifYes X155.here hx rfl (pc0 := 334) (pc' := 341) rfl (hb hby at_334) rfl ((if0 _ _).trans (teq (by decide)).1) (by decide) (by decide) k) ?_
        refine bW T155 (mkF m 343 #[vi sa, vi ia, vi c0, vi c1, vi c2, vi 3, vi bb, vr x0, vr x1, vr x2, vr b30, vi i0, vi i1, vi i2, vr b36, vr b40, vr b44, vr b48, vr b133, vi 0, vi 0, vi 0, uu] [(ii 0)]) (fun _ k => XS.iload X155.here hx rfl (hb hby at_341) rfl k) ?_
        refine bW T155 (mkF m 350 #[vi sa, vi ia, vi c0, vi c1, vi c2, vi 3, vi bb, vr x0, vr x1, vr x2, vr b30, vi i0, vi i1, vi i2, vr b36, vr b40, vr b44, vr b48, vr b133, vi 0, vi 0, vi 0, uu] []) (fun _ k => XS.ifYes X155.here hx rfl (pc0 := 343) (pc' := 350) rfl (hb hby at_343) rfl ((if0 _ _).trans (teq (by decide)).1) (by decide) (by decide) k) ?_
        refine bW T155 (mkF m 351 #[vi sa, vi ia, vi c0, vi c1, vi c2, vi 3, vi bb, vr x0, vr x1, vr x2, vr b30, vi i0, vi i1, vi i2, vr b36, vr b40, vr b44, vr b48, vr b133, vi 0, vi 0, vi 0, uu] [(.int (-1 : Int32))]) (fun _ k => XS.iconst X155.here hx rfl (hb hby at_350) k) ?_
        refine bW T155 (mkF m 353 #[vi sa, vi ia, vi c0, vi c1, vi c2, vi 3, vi bb, vr x0, vr x1, vr x2, vr b30, vi i0, vi i1, vi i2, vr b36, vr b40, vr b44, vr b48, vr b133, vi 0, vi 0, vi 0, vi (-1 : Int32)] []) (fun _ k => XS.istore X155.here hx rfl (hb hby at_351) rfl rfl k) ?_
        exact rm0_c21 (h1 := h1) (T1 := T155) (vm1 := vm1) hw X155 e155 Kc N155 Z0 hZ1 hown1 hS1 hk1 C1 hx hby hml hlk hrt Y3 Y4 Y5 Y6 Y7 Y8 Y9 Y10 Y11 Y37 Y38 Y39 Y40 Y41 Y42 (by rw [own_zz hi0 hz0 hz1 hz2 (if_neg hc267_143), own_zz hi1 hz0 hz1 hz2 (if_neg hc290_152), own_zz hi2 hz0 hz1 hz2 (if_neg hc313_156)]; decide)
theorem rm0_c19 {l : _} {Z : State} {a0 : Array Value} (hw : HW Z a0) {sa : Int32} {ia : Int32} {c0 : Int32} {c1 : Int32} {c2 : Int32} {cs : Int32} {aD : Addr} {kD : ClassId} {h0 : Heap} {n0 : Nat} {p : _} {e : _} {s : State} {m : _} {below : _} {meth : _} {c : _} {h1 : Heap} {T1 : State} {Lc : List Loc} {vm1 : Vm} {ks1 : Nat} {x0 : Addr} {t0 : Addr} {q0 : ClassId} {z0 : Int32} {v0 : List Value} {x1 : Addr} {t1 : Addr} {q1 : ClassId} {z1 : Int32} {v1 : List Value} {x2 : Addr} {t2 : Addr} {q2 : ClassId} {z2 : Int32} {v2 : List Value} {b30 : Addr} {d32 : Addr} {kd32 : ClassId} {b36 : Addr} {i0 : Int32} {b40 : Addr} {i1 : Int32} {b44 : Addr} {i2 : Int32} {b48 : Addr} {d129 : Addr} {kd129 : ClassId} {bb : Int32} (X1 : Stand p l e room_1 (s.setVm vm1) m #[(.int sa), (.int ia), (.int c0), (.int c1), (.int c2)] below meth c T1 Lc 25 257) (e1 : T1.heap = h1) (Kc : Keep h0 h1 []) (Nc : Fr n0 Lc) (Z0 : n0 ≤ h0.size) (O0 : Old Z n0 h1) (S_DE : Sta Z Z.heap sL "DEFAULTCAPACITY_EMPTY_ELEMENTDATA" "[Ljava/lang/Object;" (.ref aD)) (V_aD : Arv Z Z.heap aD kD (.object sO) (0 : Int32) [] .null) (hZ1 : Z.Warmed39 (s.setVm vm1).vm) (hown1 : (s.setVm vm1).vm.findClass "com/example/nisaba/nisaba/isatab/ValuesFirstGivenPinLaw" = some m.cls) (hS1 : s.Since vm1 ks1) (hk1 : ks1 ≤ h1.size) (C1 : CHr Z consts_1 s.vm s.heap vm1 h1) (hx : p.tables.exec = Jvm.exec) (hby : c.code = code) (hml : c.maxLocals = 23) (hlk : meth.locks = false) (hrt : meth.sig.returnType = (some .boolean)) (Y3 : Exa Z h1 x0 sS) (Y4 : Fld Z h1 x0 sS "value" "[B" (.ref t0)) (Y5 : Arv Z h1 t0 q0 .byte z0 v0 (ii 0)) (Y6 : Exa Z h1 x1 sS) (Y7 : Fld Z h1 x1 sS "value" "[B" (.ref t1)) (Y8 : Arv Z h1 t1 q1 .byte z1 v1 (ii 0)) (Y9 : Exa Z h1 x2 sS) (Y10 : Fld Z h1 x2 sS "value" "[B" (.ref t2)) (Y11 : Arv Z h1 t2 q2 .byte z2 v2 (ii 0)) (Y12 : Exa Z h1 b30 sL) (Y14 : Fld Z h1 b30 sL "elementData" sE (.ref d32)) (Y15 : Fld Z h1 b30 sL "size" "I" (.int (3 : Int32))) (Y16 : Arv Z h1 d32 kd32 (.object sO) (10 : Int32) [(.ref x0), (.ref x1), (.ref x2), .null, .null, .null, .null, .null, .null, .null] .null) (Y17 : Exa Z h1 b36 sA) (Y18 : Fld Z h1 b36 sA "unit" "I" (.int (-1 : Int32))) (Y19 : Fld Z h1 b36 sA "value" "I" (.int i0)) (Y22 : Exa Z h1 b40 sA) (Y23 : Fld Z h1 b40 sA "unit" "I" (.int (-1 : Int32))) (Y24 : Fld Z h1 b40 sA "value" "I" (.int i1)) (Y27 : Exa Z h1 b44 sA) (Y28 : Fld Z h1 b44 sA "unit" "I" (.int (-1 : Int32))) (Y29 : Fld Z h1 b44 sA "value" "I" (.int i2)) (Y32 : Exa Z h1 b48 sL) (Y33 : Fld Z h1 b48 sB "modCount" "I" (.int (3 : Int32))) (Y34 : Fld Z h1 b48 sL "elementData" sE (.ref d129)) (Y35 : Fld Z h1 b48 sL "size" "I" (.int (3 : Int32))) (Y36 : Arv Z h1 d129 kd129 (.object sO) (10 : Int32) [(.ref b36), (.ref b40), (.ref b44), .null, .null, .null, .null, .null, .null, .null] .null) (hz0 : z0 = own_z bb (0 : Int32)) (hz1 : z1 = own_z bb (1 : Int32)) (hz2 : z2 = own_z bb (2 : Int32)) (hi0 : i0 = 0 ∨ i0 = 1 ∨ i0 = 2) (hi1 : i1 = 0 ∨ i1 = 1 ∨ i1 = 2) (hi2 : i2 = 0 ∨ i2 = 1 ∨ i2 = 2) :
    own_GoW p.tables e below Z consts_1 (Q_rm0 Z sa ia c0 c1 c2 cs aD kD h0 n0) s 64 7488 T1 (mkF m 242 #[vi sa, vi ia, vi c0, vi c1, vi c2, vi 3, vi bb, vr x0, vr x1, vr x2, vr b30, vi i0, vi i1, vi i2, vr b36, vr b40, vr b44, vr b48, uu, uu, uu, uu, uu] []) := by
  have hEL : EW Z a0 consts_1 := own_EL hw
  obtain ⟨T133, h133, X133, e133, E133, A133, D133, -, st133⟩ := newO X1 hx hZ1 hown1 (hw _ (mo 107 rfl)) (hw _ (mo 108 rfl)) (hw _ (mo 109 rfl)) e1 (g := (mkF m 242 #[vi sa, vi ia, vi c0, vi c1, vi c2, vi 3, vi bb, vr x0, vr x1, vr x2, vr b30, vi i0, vi i1, vi i2, vr b36, vr b40, vr b44, vr b48, uu, uu, uu, uu, uu] [])) rfl (hb hby at_242) (by decide) (by decide)
  obtain ⟨b133, g133⟩ : ∃ z, z = h1.size := ⟨_, rfl⟩
  rw [← g133] at A133 D133 st133
  have E_b133 : Exa Z h133 b133 sV := A133
  have F_values_b133 : Fld Z h133 b133 sV "values" "Ljava/util/List;" .null := D133 (Or.inr (hw _ (mo 117 rfl))) (ty := (.object "java/util/List")) (by decide)
  have F_units_b133 : Fld Z h133 b133 sV "units" "Ljava/util/List;" .null := D133 (Or.inr (hw _ (mo 119 rfl))) (ty := (.object "java/util/List")) (by decide)
  have F_columns_b133 : Fld Z h133 b133 sV "columns" "Ljava/util/List;" .null := D133 (Or.inr (hw _ (mo 121 rfl))) (ty := (.object "java/util/List")) (by decide)
  have g_b133 : n0 ≤ b133 := Nat.le_trans (Nat.le_trans Z0 Kc.1) (Nat.le_of_eq g133.symm)
  have sz_b133 : h0.size ≤ b133 := Nat.le_trans Kc.1 (Nat.le_of_eq g133.symm)
  have K133 : Keep h0 h133 [] := Keep.ext Kc E133
  have C133 : CHr Z consts_1 s.vm s.heap vm1 h133 := CHr.trans C1 (CHr.ext E133 C1.1)
  refine bW T133 (mkF m 245 #[vi sa, vi ia, vi c0, vi c1, vi c2, vi 3, vi bb, vr x0, vr x1, vr x2, vr b30, vi i0, vi i1, vi i2, vr b36, vr b40, vr b44, vr b48, uu, uu, uu, uu, uu] [(.ref b133)]) (fun _ k => st133 _ k) ?_
  refine bW T133 (mkF m 246 #[vi sa, vi ia, vi c0, vi c1, vi c2, vi 3, vi bb, vr x0, vr x1, vr x2, vr b30, vi i0, vi i1, vi i2, vr b36, vr b40, vr b44, vr b48, uu, uu, uu, uu, uu] [(.ref b133), (.ref b133)]) (fun _ k => XS.dup X133.here hx rfl (hb hby at_245) rfl rfl k) ?_
  refine bW T133 (mkF m 248 #[vi sa, vi ia, vi c0, vi c1, vi c2, vi 3, vi bb, vr x0, vr x1, vr x2, vr b30, vi i0, vi i1, vi i2, vr b36, vr b40, vr b44, vr b48, uu, uu, uu, uu, uu] [(.ref b30), (.ref b133), (.ref b133)]) (fun _ k => XS.aload X133.here hx rfl (hb hby at_246) rfl rfl k) ?_
  refine bW T133 (mkF m 250 #[vi sa, vi ia, vi c0, vi c1, vi c2, vi 3, vi bb, vr x0, vr x1, vr x2, vr b30, vi i0, vi i1, vi i2, vr b36, vr b40, vr b44, vr b48, uu, uu, uu, uu, uu] [(.ref b48), (.ref b30), (.ref b133), (.ref b133)]) (fun _ k => XS.aload X133.here hx rfl (hb hby at_248) rfl rfl k) ?_
  have ne134 : b30 ≠ b133 := (Nat.ne_of_lt (Nat.lt_of_lt_of_le Y12.lt (Nat.le_of_eq g133.symm)))
  have ne135 : d32 ≠ b133 := (Nat.ne_of_lt (Nat.lt_of_lt_of_le Y16.lt (Nat.le_of_eq g133.symm)))
  have ne136 : b48 ≠ b133 := (Nat.ne_of_lt (Nat.lt_of_lt_of_le Y32.lt (Nat.le_of_eq g133.symm)))
  have ne137 : d129 ≠ b133 := (Nat.ne_of_lt (Nat.lt_of_lt_of_le Y36.lt (Nat.le_of_eq g133.symm)))
  have ne138 : b36 ≠ b133 := (Nat.ne_of_lt (Nat.lt_of_lt_of_le Y17.lt (Nat.le_of_eq g133.symm)))
  have ne139 : b40 ≠ b133 := (Nat.ne_of_lt (Nat.lt_of_lt_of_le Y22.lt (Nat.le_of_eq g133.symm)))
  have ne140 : b44 ≠ b133 := (Nat.ne_of_lt (Nat.lt_of_lt_of_le Y27.lt (Nat.le_of_eq g133.symm)))
  obtain ⟨_, _, ⟨T141, L141, k141, n141⟩, -, X141, hSq141, hgq141, ⟨Lc141, hQ141, l141, y141, z141, Cq141⟩, st141⟩ := X133.specialBackS hx (y := yy27) rfl hown1 (mvT hZ1 (hw _ (mo 110 rfl))) (mvT hZ1 (hw _ (mo 111 rfl))) (mvT hZ1 (hw _ (mo 112 rfl))) (by decide) (own_backSH (s := s) (EL := consts_1) (W := 1) (vin_3 l Z a0 hw [] b133 b30 b48 aD kD d32 kd32 x0 x1 x2 d129 kd129 b36 b40 b44 i0 i1 i2 h133 n0 (Nat.le_trans (Nat.le_trans Z0 Kc.1) E133.1) (Old.ext O0 E133) S_DE V_aD E_b133 F_values_b133 F_units_b133 F_columns_b133 g_b133 (Exa.ext E133 Y12) (Fld.ext E133 Y15) (Fld.ext E133 Y14) (Arv.ext Y16 E133) (Exa.ext E133 Y3) (Exa.ext E133 Y6) (Exa.ext E133 Y9) (Exa.ext E133 Y32) (Fld.ext E133 Y33) (Fld.ext E133 Y34) (Fld.ext E133 Y35) (Arv.ext Y36 E133) (Exa.ext E133 Y17) (Fld.ext E133 Y19) (Fld.ext E133 Y18) hi0 (Exa.ext E133 Y22) (Fld.ext E133 Y24) (Fld.ext E133 Y23) hi1 (Exa.ext E133 Y27) (Fld.ext E133 Y29) (Fld.ext E133 Y28) hi2 ne134 ne135 ne136 ne137 ne138 ne139 ne140) hZ1 (hw _ (mo 112 rfl)) (hw _ (mo 109 rfl)) (by decide) (by decide) hEL C133.1 (fun _ _ => trivial)) (g := (mkF m 250 #[vi sa, vi ia, vi c0, vi c1, vi c2, vi 3, vi bb, vr x0, vr x1, vr x2, vr b30, vi i0, vi i1, vi i2, vr b36, vr b40, vr b44, vr b48, uu, uu, uu, uu, uu] [(.ref b48), (.ref b30), (.ref b133), (.ref b133)])) rfl (by rw [hml]; rfl) (Steps.refl _) (a := b133) (argsL := [(.ref b30), (.ref b48)]) (rest := [(.ref b133)]) (lenOf pd_19 rfl) rfl (Nat.le_of_eq rfl) (hb hby at_250) (fun _ _ => ⟨rfl, e133, (by decide : 37 ≤ _), (by decide : 302 ≤ _)⟩)
  dsimp only [Pt.U, Pt.locs, Pt.cells, Pt.slots] at X141 l141 y141 z141 st141 hQ141 hSq141 hgq141 Cq141
  subst l141 y141 z141
  obtain ⟨rfl, N141q, K141, vl141, dv141, kv141, Fa141, Ev141, Fz141, Fe141, Vd141⟩ := hQ141
  have N141 := Fr.app Nc N141q
  have KK141 : Keep h0 T141.heap [] := Keep.trans K133 K141 (allS (Or.inr sz_b133) all0)
  have hS141 := foldS hS1 (T := T133) (by rw [e133]; exact (Nat.le_trans hk1 E133.1)) hSq141 hgq141
  have hZ141 : Z.Warmed39 (s.setVm T141.vm).vm := State.Warmed39.trans hZ1 hSq141.1
  have hown141 : (s.setVm T141.vm).vm.findClass "com/example/nisaba/nisaba/isatab/ValuesFirstGivenPinLaw" = some m.cls := by show T141.vm.findClass "com/example/nisaba/nisaba/isatab/ValuesFirstGivenPinLaw" = some m.cls; rw [hSq141.1.alike.findClass]; exact hown1
  have X141 : Stand p l e room_1 (s.setVm T141.vm) m #[(.int sa), (.int ia), (.int c0), (.int c1), (.int c2)] below meth c T141 (Lc ++ Lc141) ((25 + 1) + 11) ((257 + 3) + 42) := X141
  have C141 : CHr Z consts_1 s.vm s.heap T141.vm T141.heap := CHr.trans C133 Cq141
  refine bW T141 (mkF m 253 #[vi sa, vi ia, vi c0, vi c1, vi c2, vi 3, vi bb, vr x0, vr x1, vr x2, vr b30, vi i0, vi i1, vi i2, vr b36, vr b40, vr b44, vr b48, uu, uu, uu, uu, uu] [(.ref b133)]) (fun _ k => st141.trans k) ?_
  refine bW T141 (mkF m 255 #[vi sa, vi ia, vi c0, vi c1, vi c2, vi 3, vi bb, vr x0, vr x1, vr x2, vr b30, vi i0, vi i1, vi i2, vr b36, vr b40, vr b44, vr b48, vr b133, uu, uu, uu, uu] []) (fun _ k => XS.astore X141.here hx rfl (hb hby at_253) rfl rfl rfl k) ?_
  have ne157 : x0 ≠ b133 := (Nat.ne_of_lt (Nat.lt_of_lt_of_le Y3.lt (Nat.le_of_eq g133.symm)))
  have ne158 : t0 ≠ b133 := (Nat.ne_of_lt (Nat.lt_of_lt_of_le Y5.lt (Nat.le_of_eq g133.symm)))
  have ne159 : x1 ≠ b133 := (Nat.ne_of_lt (Nat.lt_of_lt_of_le Y6.lt (Nat.le_of_eq g133.symm)))
  have ne160 : t1 ≠ b133 := (Nat.ne_of_lt (Nat.lt_of_lt_of_le Y8.lt (Nat.le_of_eq g133.symm)))
  have ne161 : x2 ≠ b133 := (Nat.ne_of_lt (Nat.lt_of_lt_of_le Y9.lt (Nat.le_of_eq g133.symm)))
  have ne162 : t2 ≠ b133 := (Nat.ne_of_lt (Nat.lt_of_lt_of_le Y11.lt (Nat.le_of_eq g133.symm)))
  exact rm0_c20 (h1 := T141.heap) (T1 := T141) (vm1 := T141.vm) hw X141 rfl KK141 N141 Z0 hZ141 hown141 hS141 (Nat.le_refl _) C141 hx hby hml hlk hrt (Exa.keep (Exa.ext E133 Y3) K141) (Fld.keep (Fld.ext E133 Y4) K141 (ninS ne157 nin0)) (Arv.keep (Arv.ext Y5 E133) K141 (ninS ne158 nin0)) (Exa.keep (Exa.ext E133 Y6) K141) (Fld.keep (Fld.ext E133 Y7) K141 (ninS ne159 nin0)) (Arv.keep (Arv.ext Y8 E133) K141 (ninS ne160 nin0)) (Exa.keep (Exa.ext E133 Y9) K141) (Fld.keep (Fld.ext E133 Y10) K141 (ninS ne161 nin0)) (Arv.keep (Arv.ext Y11 E133) K141 (ninS ne162 nin0)) (Exa.keep E_b133 K141) Fa141 Ev141 Fz141 Fe141 Vd141 hz0 hz1 hz2 hi0 hi1 hi2
theorem rm0_c18 {l : _} {Z : State} {a0 : Array Value} (hw : HW Z a0) {sa : Int32} {ia : Int32} {c0 : Int32} {c1 : Int32} {c2 : Int32} {cs : Int32} {aD : Addr} {kD : ClassId} {h0 : Heap} {n0 : Nat} {p : _} {e : _} {s : State} {m : _} {below : _} {meth : _} {c : _} {h1 : Heap} {T1 : State} {Lc : List Loc} {vm1 : Vm} {ks1 : Nat} {x0 : Addr} {t0 : Addr} {q0 : ClassId} {z0 : Int32} {v0 : List Value} {x1 : Addr} {t1 : Addr} {q1 : ClassId} {z1 : Int32} {v1 : List Value} {x2 : Addr} {t2 : Addr} {q2 : ClassId} {z2 : Int32} {v2 : List Value} {b30 : Addr} {d32 : Addr} {kd32 : ClassId} {b36 : Addr} {i0 : Int32} {b40 : Addr} {i1 : Int32} {b44 : Addr} {i2 : Int32} {b48 : Addr} {bb : Int32} (X1 : Stand p l e room_1 (s.setVm vm1) m #[(.int sa), (.int ia), (.int c0), (.int c1), (.int c2)] below meth c T1 Lc 24 247) (e1 : T1.heap = h1) (Kc : Keep h0 h1 []) (Nc : Fr n0 Lc) (Z0 : n0 ≤ h0.size) (O0 : Old Z n0 h1) (S_DE : Sta Z Z.heap sL "DEFAULTCAPACITY_EMPTY_ELEMENTDATA" "[Ljava/lang/Object;" (.ref aD)) (V_aD : Arv Z Z.heap aD kD (.object sO) (0 : Int32) [] .null) (hZ1 : Z.Warmed39 (s.setVm vm1).vm) (hown1 : (s.setVm vm1).vm.findClass "com/example/nisaba/nisaba/isatab/ValuesFirstGivenPinLaw" = some m.cls) (hS1 : s.Since vm1 ks1) (hk1 : ks1 ≤ h1.size) (C1 : CHr Z consts_1 s.vm s.heap vm1 h1) (hx : p.tables.exec = Jvm.exec) (hby : c.code = code) (hml : c.maxLocals = 23) (hlk : meth.locks = false) (hrt : meth.sig.returnType = (some .boolean)) (Y3 : Exa Z h1 x0 sS) (Y4 : Fld Z h1 x0 sS "value" "[B" (.ref t0)) (Y5 : Arv Z h1 t0 q0 .byte z0 v0 (ii 0)) (Y6 : Exa Z h1 x1 sS) (Y7 : Fld Z h1 x1 sS "value" "[B" (.ref t1)) (Y8 : Arv Z h1 t1 q1 .byte z1 v1 (ii 0)) (Y9 : Exa Z h1 x2 sS) (Y10 : Fld Z h1 x2 sS "value" "[B" (.ref t2)) (Y11 : Arv Z h1 t2 q2 .byte z2 v2 (ii 0)) (Y12 : Exa Z h1 b30 sL) (Y14 : Fld Z h1 b30 sL "elementData" sE (.ref d32)) (Y15 : Fld Z h1 b30 sL "size" "I" (.int (3 : Int32))) (Y16 : Arv Z h1 d32 kd32 (.object sO) (10 : Int32) [(.ref x0), (.ref x1), (.ref x2), .null, .null, .null, .null, .null, .null, .null] .null) (Y17 : Exa Z h1 b36 sA) (Y18 : Fld Z h1 b36 sA "unit" "I" (.int (-1 : Int32))) (Y19 : Fld Z h1 b36 sA "value" "I" (.int i0)) (Y22 : Exa Z h1 b40 sA) (Y23 : Fld Z h1 b40 sA "unit" "I" (.int (-1 : Int32))) (Y24 : Fld Z h1 b40 sA "value" "I" (.int i1)) (Y27 : Exa Z h1 b44 sA) (Y28 : Fld Z h1 b44 sA "unit" "I" (.int (-1 : Int32))) (Y29 : Fld Z h1 b44 sA "value" "I" (.int i2)) (Y32 : Exa Z h1 b48 sL) (Y33 : Fld Z h1 b48 sB "modCount" "I" (ii 0)) (Y34 : Fld Z h1 b48 sL "elementData" sE (.ref aD)) (Y35 : Fld Z h1 b48 sL "size" "I" (ii 0)) (nx16 : x0 ≠ b48) (nx32 : t0 ≠ b48) (nx47 : x1 ≠ b48) (nx61 : t1 ≠ b48) (nx74 : x2 ≠ b48) (nx86 : t2 ≠ b48) (nx97 : b30 ≠ b48) (nx107 : d32 ≠ b48) (nx116 : b36 ≠ b48) (nx137 : b40 ≠ b48) (nx149 : b44 ≠ b48) (g_b48 : n0 ≤ b48) (sz_b48 : h0.size ≤ b48) (hz0 : z0 = own_z bb (0 : Int32)) (hz1 : z1 = own_z bb (1 : Int32)) (hz2 : z2 = own_z bb (2 : Int32)) (hi0 : i0 = 0 ∨ i0 = 1 ∨ i0 = 2) (hi1 : i1 = 0 ∨ i1 = 1 ∨ i1 = 2) (hi2 : i2 = 0 ∨ i2 = 1 ∨ i2 = 2) :
    own_GoW p.tables e below Z consts_1 (Q_rm0 Z sa ia c0 c1 c2 cs aD kD h0 n0) s 64 7488 T1 (mkF m 201 #[vi sa, vi ia, vi c0, vi c1, vi c2, vi 3, vi bb, vr x0, vr x1, vr x2, vr b30, vi i0, vi i1, vi i2, vr b36, vr b40, vr b44, vr b48, uu, uu, uu, uu, uu] []) := by
  refine bW T1 (mkF m 203 #[vi sa, vi ia, vi c0, vi c1, vi c2, vi 3, vi bb, vr x0, vr x1, vr x2, vr b30, vi i0, vi i1, vi i2, vr b36, vr b40, vr b44, vr b48, uu, uu, uu, uu, uu] [(.int (3 : Int32))]) (fun _ k => XS.iload X1.here hx rfl (hb hby at_201) rfl k) ?_
  refine bW T1 (mkF m 206 #[vi sa, vi ia, vi c0, vi c1, vi c2, vi 3, vi bb, vr x0, vr x1, vr x2, vr b30, vi i0, vi i1, vi i2, vr b36, vr b40, vr b44, vr b48, uu, uu, uu, uu, uu] []) (fun _ k => XS.ifNo X1.here hx rfl (hb hby at_203) rfl ((if0 _ _).trans (tlt (by decide)).2.2.2) k) ?_
  refine bW T1 (mkF m 208 #[vi sa, vi ia, vi c0, vi c1, vi c2, vi 3, vi bb, vr x0, vr x1, vr x2, vr b30, vi i0, vi i1, vi i2, vr b36, vr b40, vr b44, vr b48, uu, uu, uu, uu, uu] [(.ref b48)]) (fun _ k => XS.aload X1.here hx rfl (hb hby at_206) rfl rfl k) ?_
  refine bW T1 (mkF m 210 #[vi sa, vi ia, vi c0, vi c1, vi c2, vi 3, vi bb, vr x0, vr x1, vr x2, vr b30, vi i0, vi i1, vi i2, vr b36, vr b40, vr b44, vr b48, uu, uu, uu, uu, uu] [(.ref b36), (.ref b48)]) (fun _ k => XS.aload X1.here hx rfl (hb hby at_208) rfl rfl k) ?_
  obtain ⟨cq129, kq129, q129a, q129b, q129c⟩ := isOf hZ1 e1 Y32
  obtain ⟨_, _, ⟨T129, L129, k129, n129⟩, -, X129, ⟨Lc129, hQ129, l129, y129, z129⟩, st129⟩ := X1.virtualBack hx (y := yy13) (z := yy13) hown1 (mvT hZ1 (hw _ (mo 54 rfl))) (mvT hZ1 (hw _ (mo 55 rfl))) (notFace_of_selects (args := #[]) (mvT hZ1 (hw _ (mo 57 rfl)))) (mvT hZ1 (hw _ (mo 57 rfl))) (mvT hZ1 (hw _ (mo 56 rfl))) (by decide) (backOf (W := 0) (ad1s_0 l Z a0 hw [] b48 b36 aD kD sA h1 n0 (Nat.le_trans Z0 Kc.1) O0 Y32 Y33 Y34 Y35 g_b48 S_DE V_aD Y17 (hw _ (mo 171 rfl))) hZ1 (hw _ (mo 58 rfl)) (hw _ (mo 32 rfl)) (by decide) (by decide)) q129a q129c (g := (mkF m 210 #[vi sa, vi ia, vi c0, vi c1, vi c2, vi 3, vi bb, vr x0, vr x1, vr x2, vr b30, vi i0, vi i1, vi i2, vr b36, vr b40, vr b44, vr b48, uu, uu, uu, uu, uu] [(.ref b36), (.ref b48)])) rfl (by rw [hml]; rfl) (Steps.refl _) (argsL := [(.ref b36)]) (rest := []) (lenOf pd_15 rfl) rfl (Nat.le_of_eq rfl) (hb hby at_210) (fun _ _ => ⟨rfl, e1, (by decide : 25 ≤ _), (by decide : 257 ≤ _)⟩)
  dsimp only [Pt.U, Pt.locs, Pt.cells, Pt.slots] at X129 l129 y129 z129 st129 hQ129
  subst l129 y129 z129
  obtain ⟨rfl, N129q, K129, d129, kd129, zd129, Fm129, Fe129, Fz129, V129, O129⟩ := hQ129
  have N129 := Fr.app Nc N129q
  have KK129 : Keep h0 T129.heap [] := Keep.trans Kc K129 (allS (Or.inr sz_b48) all0)
  have C129 : CHr Z consts_1 s.vm s.heap vm1 T129.heap := CHr.trans C1 (CHr.keep K129 (sfS (Safe.exa (EL := consts_1) (vm := vm1) hZ1.alike Y32 (by decide) (by decide)) sf0) C1.1)
  have sz_d129 : h0.size ≤ d129 := Nat.le_trans Kc.1 zd129
  have g_d129 : n0 ≤ d129 := Nat.le_trans Z0 sz_d129
  refine bW T129 (mkF m 213 #[vi sa, vi ia, vi c0, vi c1, vi c2, vi 3, vi bb, vr x0, vr x1, vr x2, vr b30, vi i0, vi i1, vi i2, vr b36, vr b40, vr b44, vr b48, uu, uu, uu, uu, uu] [(.int (1 : Int32))]) (fun _ k => st129.trans k) ?_
  refine bW T129 (mkF m 214 #[vi sa, vi ia, vi c0, vi c1, vi c2, vi 3, vi bb, vr x0, vr x1, vr x2, vr b30, vi i0, vi i1, vi i2, vr b36, vr b40, vr b44, vr b48, uu, uu, uu, uu, uu] []) (fun _ k => XS.pop X129.here hx rfl (hb hby at_213) rfl rfl k) ?_
  refine bW T129 (mkF m 216 #[vi sa, vi ia, vi c0, vi c1, vi c2, vi 3, vi bb, vr x0, vr x1, vr x2, vr b30, vi i0, vi i1, vi i2, vr b36, vr b40, vr b44, vr b48, uu, uu, uu, uu, uu] [(.int (3 : Int32))]) (fun _ k => XS.iload X129.here hx rfl (hb hby at_214) rfl k) ?_
  refine bW T129 (mkF m 217 #[vi sa, vi ia, vi c0, vi c1, vi c2, vi 3, vi bb, vr x0, vr x1, vr x2, vr b30, vi i0, vi i1, vi i2, vr b36, vr b40, vr b44, vr b48, uu, uu, uu, uu, uu] [(.int (1 : Int32)), (.int (3 : Int32))]) (fun _ k => XS.iconst X129.here hx rfl (hb hby at_216) k) ?_
  refine bW T129 (mkF m 220 #[vi sa, vi ia, vi c0, vi c1, vi c2, vi 3, vi bb, vr x0, vr x1, vr x2, vr b30, vi i0, vi i1, vi i2, vr b36, vr b40, vr b44, vr b48, uu, uu, uu, uu, uu] []) (fun _ k => XS.icmpNo X129.here hx rfl (hb hby at_217) rfl (tlt (by decide)).2.2.2 k) ?_
  refine bW T129 (mkF m 222 #[vi sa, vi ia, vi c0, vi c1, vi c2, vi 3, vi bb, vr x0, vr x1, vr x2, vr b30, vi i0, vi i1, vi i2, vr b36, vr b40, vr b44, vr b48, uu, uu, uu, uu, uu] [(.ref b48)]) (fun _ k => XS.aload X129.here hx rfl (hb hby at_220) rfl rfl k) ?_
  refine bW T129 (mkF m 224 #[vi sa, vi ia, vi c0, vi c1, vi c2, vi 3, vi bb, vr x0, vr x1, vr x2, vr b30, vi i0, vi i1, vi i2, vr b36, vr b40, vr b44, vr b48, uu, uu, uu, uu, uu] [(.ref b40), (.ref b48)]) (fun _ k => XS.aload X129.here hx rfl (hb hby at_222) rfl rfl k) ?_
  have ne130 : b48 ≠ d129 := (Nat.ne_of_lt (Nat.lt_of_lt_of_le (Y32).lt zd129))
  obtain ⟨cq131, kq131, q131a, q131b, q131c⟩ := isOf hZ1 rfl (Exa.keep Y32 K129)
  obtain ⟨_, _, ⟨T131, L131, k131, n131⟩, -, X131, ⟨Lc131, hQ131, l131, y131, z131⟩, st131⟩ := X129.virtualBack hx (y := yy13) (z := yy13) hown1 (mvT hZ1 (hw _ (mo 54 rfl))) (mvT hZ1 (hw _ (mo 55 rfl))) (notFace_of_selects (args := #[]) (mvT hZ1 (hw _ (mo 57 rfl)))) (mvT hZ1 (hw _ (mo 57 rfl))) (mvT hZ1 (hw _ (mo 56 rfl))) (by decide) (backOf (W := 0) (ad1s_1 l Z a0 hw [] b48 b40 d129 kd129 b36 sA T129.heap n0 (Nat.le_trans (Nat.le_trans Z0 Kc.1) K129.1) (Exa.keep Y32 K129) Fm129 Fe129 Fz129 g_b48 V129 O129 g_d129 ne130 (Exa.keep Y22 K129) (hw _ (mo 171 rfl))) hZ1 (hw _ (mo 58 rfl)) (hw _ (mo 32 rfl)) (by decide) (by decide)) q131a q131c (g := (mkF m 224 #[vi sa, vi ia, vi c0, vi c1, vi c2, vi 3, vi bb, vr x0, vr x1, vr x2, vr b30, vi i0, vi i1, vi i2, vr b36, vr b40, vr b44, vr b48, uu, uu, uu, uu, uu] [(.ref b40), (.ref b48)])) rfl (by rw [hml]; rfl) (Steps.refl _) (argsL := [(.ref b40)]) (rest := []) (lenOf pd_15 rfl) rfl (Nat.le_of_eq rfl) (hb hby at_224) (fun _ _ => ⟨rfl, rfl, (by decide : 25 ≤ _), (by decide : 257 ≤ _)⟩)
  dsimp only [Pt.U, Pt.locs, Pt.cells, Pt.slots] at X131 l131 y131 z131 st131 hQ131
  subst l131 y131 z131
  obtain ⟨rfl, N131q, K131, Fm131, Fe131, Fz131, V131⟩ := hQ131
  have N131 := Fr.app N129 N131q
  have KK131 : Keep h0 T131.heap [] := Keep.trans KK129 K131 (allS (Or.inr sz_b48) (allS (Or.inr sz_d129) all0))
  have C131 : CHr Z consts_1 s.vm s.heap vm1 T131.heap := CHr.trans C129 (CHr.keep K131 (sfS (Safe.exa (EL := consts_1) (vm := vm1) hZ1.alike (Exa.keep Y32 K129) (by decide) (by decide)) (sfS (Safe.arv (EL := consts_1) (vm := vm1) hZ1.alike V129 (by decide)) sf0)) C129.1)
  refine bW T131 (mkF m 227 #[vi sa, vi ia, vi c0, vi c1, vi c2, vi 3, vi bb, vr x0, vr x1, vr x2, vr b30, vi i0, vi i1, vi i2, vr b36, vr b40, vr b44, vr b48, uu, uu, uu, uu, uu] [(.int (1 : Int32))]) (fun _ k => st131.trans k) ?_
  refine bW T131 (mkF m 228 #[vi sa, vi ia, vi c0, vi c1, vi c2, vi 3, vi bb, vr x0, vr x1, vr x2, vr b30, vi i0, vi i1, vi i2, vr b36, vr b40, vr b44, vr b48, uu, uu, uu, uu, uu] []) (fun _ k => XS.pop X131.here hx rfl (hb hby at_227) rfl rfl k) ?_
  refine bW T131 (mkF m 230 #[vi sa, vi ia, vi c0, vi c1, vi c2, vi 3, vi bb, vr x0, vr x1, vr x2, vr b30, vi i0, vi i1, vi i2, vr b36, vr b40, vr b44, vr b48, uu, uu, uu, uu, uu] [(.int (3 : Int32))]) (fun _ k => XS.iload X131.here hx rfl (hb hby at_228) rfl k) ?_
  refine bW T131 (mkF m 231 #[vi sa, vi ia, vi c0, vi c1, vi c2, vi 3, vi bb, vr x0, vr x1, vr x2, vr b30, vi i0, vi i1, vi i2, vr b36, vr b40, vr b44, vr b48, uu, uu, uu, uu, uu] [(.int (2 : Int32)), (.int (3 : Int32))]) (fun _ k => XS.iconst X131.here hx rfl (hb hby at_230) k) ?_
  refine bW T131 (mkF m 234 #[vi sa, vi ia, vi c0, vi c1, vi c2, vi 3, vi bb, vr x0, vr x1, vr x2, vr b30, vi i0, vi i1, vi i2, vr b36, vr b40, vr b44, vr b48, uu, uu, uu, uu, uu] []) (fun _ k => XS.icmpNo X131.here hx rfl (hb hby at_231) rfl (tlt (by decide)).2.2.2 k) ?_
  refine bW T131 (mkF m 236 #[vi sa, vi ia, vi c0, vi c1, vi c2, vi 3, vi bb, vr x0, vr x1, vr x2, vr b30, vi i0, vi i1, vi i2, vr b36, vr b40, vr b44, vr b48, uu, uu, uu, uu, uu] [(.ref b48)]) (fun _ k => XS.aload X131.here hx rfl (hb hby at_234) rfl rfl k) ?_
  refine bW T131 (mkF m 238 #[vi sa, vi ia, vi c0, vi c1, vi c2, vi 3, vi bb, vr x0, vr x1, vr x2, vr b30, vi i0, vi i1, vi i2, vr b36, vr b40, vr b44, vr b48, uu, uu, uu, uu, uu] [(.ref b44), (.ref b48)]) (fun _ k => XS.aload X131.here hx rfl (hb hby at_236) rfl rfl k) ?_
  obtain ⟨cq132, kq132, q132a, q132b, q132c⟩ := isOf hZ1 rfl (Exa.keep (Exa.keep Y32 K129) K131)
  obtain ⟨_, _, ⟨T132, L132, k132, n132⟩, -, X132, ⟨Lc132, hQ132, l132, y132, z132⟩, st132⟩ := X131.virtualBack hx (y := yy13) (z := yy13) hown1 (mvT hZ1 (hw _ (mo 54 rfl))) (mvT hZ1 (hw _ (mo 55 rfl))) (notFace_of_selects (args := #[]) (mvT hZ1 (hw _ (mo 57 rfl)))) (mvT hZ1 (hw _ (mo 57 rfl))) (mvT hZ1 (hw _ (mo 56 rfl))) (by decide) (backOf (W := 0) (ad1s_2 l Z a0 hw [] b48 b44 d129 kd129 b36 b40 sA T131.heap n0 (Nat.le_trans (Nat.le_trans (Nat.le_trans Z0 Kc.1) K129.1) K131.1) (Exa.keep (Exa.keep Y32 K129) K131) Fm131 Fe131 Fz131 g_b48 V131 O129 g_d129 ne130 (Exa.keep (Exa.keep Y27 K129) K131) (hw _ (mo 171 rfl))) hZ1 (hw _ (mo 58 rfl)) (hw _ (mo 32 rfl)) (by decide) (by decide)) q132a q132c (g := (mkF m 238 #[vi sa, vi ia, vi c0, vi c1, vi c2, vi 3, vi bb, vr x0, vr x1, vr x2, vr b30, vi i0, vi i1, vi i2, vr b36, vr b40, vr b44, vr b48, uu, uu, uu, uu, uu] [(.ref b44), (.ref b48)])) rfl (by rw [hml]; rfl) (Steps.refl _) (argsL := [(.ref b44)]) (rest := []) (lenOf pd_15 rfl) rfl (Nat.le_of_eq rfl) (hb hby at_238) (fun _ _ => ⟨rfl, rfl, (by decide : 25 ≤ _), (by decide : 257 ≤ _)⟩)
  dsimp only [Pt.U, Pt.locs, Pt.cells, Pt.slots] at X132 l132 y132 z132 st132 hQ132
  subst l132 y132 z132
  obtain ⟨rfl, N132q, K132, Fm132, Fe132, Fz132, V132⟩ := hQ132
  have N132 := Fr.app N131 N132q
  have KK132 : Keep h0 T132.heap [] := Keep.trans KK131 K132 (allS (Or.inr sz_b48) (allS (Or.inr sz_d129) all0))
  have C132 : CHr Z consts_1 s.vm s.heap vm1 T132.heap := CHr.trans C131 (CHr.keep K132 (sfS (Safe.exa (EL := consts_1) (vm := vm1) hZ1.alike (Exa.keep (Exa.keep Y32 K129) K131) (by decide) (by decide)) (sfS (Safe.arv (EL := consts_1) (vm := vm1) hZ1.alike V131 (by decide)) sf0)) C131.1)
  refine bW T132 (mkF m 241 #[vi sa, vi ia, vi c0, vi c1, vi c2, vi 3, vi bb, vr x0, vr x1, vr x2, vr b30, vi i0, vi i1, vi i2, vr b36, vr b40, vr b44, vr b48, uu, uu, uu, uu, uu] [(.int (1 : Int32))]) (fun _ k => st132.trans k) ?_
  refine bW T132 (mkF m 242 #[vi sa, vi ia, vi c0, vi c1, vi c2, vi 3, vi bb, vr x0, vr x1, vr x2, vr b30, vi i0, vi i1, vi i2, vr b36, vr b40, vr b44, vr b48, uu, uu, uu, uu, uu] []) (fun _ k => XS.pop X132.here hx rfl (hb hby at_241) rfl rfl k) ?_
  have ne163 : x0 ≠ d129 := (Nat.ne_of_lt (Nat.lt_of_lt_of_le (Y3).lt zd129))
  have ne164 : t0 ≠ d129 := (Nat.ne_of_lt (Nat.lt_of_lt_of_le (Y5).lt zd129))
  have ne165 : x1 ≠ d129 := (Nat.ne_of_lt (Nat.lt_of_lt_of_le (Y6).lt zd129))
  have ne166 : t1 ≠ d129 := (Nat.ne_of_lt (Nat.lt_of_lt_of_le (Y8).lt zd129))
  have ne167 : x2 ≠ d129 := (Nat.ne_of_lt (Nat.lt_of_lt_of_le (Y9).lt zd129))
  have ne168 : t2 ≠ d129 := (Nat.ne_of_lt (Nat.lt_of_lt_of_le (Y11).lt zd129))
  have ne169 : b30 ≠ d129 := (Nat.ne_of_lt (Nat.lt_of_lt_of_le (Y12).lt zd129))
  have ne170 : d32 ≠ d129 := (Nat.ne_of_lt (Nat.lt_of_lt_of_le (Y16).lt zd129))
  have ne171 : b36 ≠ d129 := (Nat.ne_of_lt (Nat.lt_of_lt_of_le (Y17).lt zd129))
  have ne172 : b40 ≠ d129 := (Nat.ne_of_lt (Nat.lt_of_lt_of_le (Y22).lt zd129))
  have ne173 : b44 ≠ d129 := (Nat.ne_of_lt (Nat.lt_of_lt_of_le (Y27).lt zd129))
  exact rm0_c19 (h1 := T132.heap) (T1 := T132) (vm1 := vm1) hw X132 rfl KK132 N132 Z0 (Old.keep (Old.keep (Old.keep O0 K129 (allS g_b48 all0)) K131 (allS g_b48 (allS g_d129 all0))) K132 (allS g_b48 (allS g_d129 all0))) S_DE V_aD hZ1 hown1 hS1 (Nat.le_trans (Nat.le_trans (Nat.le_trans hk1 K129.1) K131.1) K132.1) C132 hx hby hml hlk hrt (Exa.keep (Exa.keep (Exa.keep Y3 K129) K131) K132) (Fld.keep (Fld.keep (Fld.keep Y4 K129 (ninS nx16 nin0)) K131 (ninS nx16 (ninS ne163 nin0))) K132 (ninS nx16 (ninS ne163 nin0))) (Arv.keep (Arv.keep (Arv.keep Y5 K129 (ninS nx32 nin0)) K131 (ninS nx32 (ninS ne164 nin0))) K132 (ninS nx32 (ninS ne164 nin0))) (Exa.keep (Exa.keep (Exa.keep Y6 K129) K131) K132) (Fld.keep (Fld.keep (Fld.keep Y7 K129 (ninS nx47 nin0)) K131 (ninS nx47 (ninS ne165 nin0))) K132 (ninS nx47 (ninS ne165 nin0))) (Arv.keep (Arv.keep (Arv.keep Y8 K129 (ninS nx61 nin0)) K131 (ninS nx61 (ninS ne166 nin0))) K132 (ninS nx61 (ninS ne166 nin0))) (Exa.keep (Exa.keep (Exa.keep Y9 K129) K131) K132) (Fld.keep (Fld.keep (Fld.keep Y10 K129 (ninS nx74 nin0)) K131 (ninS nx74 (ninS ne167 nin0))) K132 (ninS nx74 (ninS ne167 nin0))) (Arv.keep (Arv.keep (Arv.keep Y11 K129 (ninS nx86 nin0)) K131 (ninS nx86 (ninS ne168 nin0))) K132 (ninS nx86 (ninS ne168 nin0))) (Exa.keep (Exa.keep (Exa.keep Y12 K129) K131) K132) (Fld.keep (Fld.keep (Fld.keep Y14 K129 (ninS nx97 nin0)) K131 (ninS nx97 (ninS ne169 nin0))) K132 (ninS nx97 (ninS ne169 nin0))) (Fld.keep (Fld.keep (Fld.keep Y15 K129 (ninS nx97 nin0)) K131 (ninS nx97 (ninS ne169 nin0))) K132 (ninS nx97 (ninS ne169 nin0))) (Arv.keep (Arv.keep (Arv.keep Y16 K129 (ninS nx107 nin0)) K131 (ninS nx107 (ninS ne170 nin0))) K132 (ninS nx107 (ninS ne170 nin0))) (Exa.keep (Exa.keep (Exa.keep Y17 K129) K131) K132) (Fld.keep (Fld.keep (Fld.keep Y18 K129 (ninS nx116 nin0)) K131 (ninS nx116 (ninS ne171 nin0))) K132 (ninS nx116 (ninS ne171 nin0))) (Fld.keep (Fld.keep (Fld.keep Y19 K129 (ninS nx116 nin0)) K131 (ninS nx116 (ninS ne171 nin0))) K132 (ninS nx116 (ninS ne171 nin0))) (Exa.keep (Exa.keep (Exa.keep Y22 K129) K131) K132) (Fld.keep (Fld.keep (Fld.keep Y23 K129 (ninS nx137 nin0)) K131 (ninS nx137 (ninS ne172 nin0))) K132 (ninS nx137 (ninS ne172 nin0))) (Fld.keep (Fld.keep (Fld.keep Y24 K129 (ninS nx137 nin0)) K131 (ninS nx137 (ninS ne172 nin0))) K132 (ninS nx137 (ninS ne172 nin0))) (Exa.keep (Exa.keep (Exa.keep Y27 K129) K131) K132) (Fld.keep (Fld.keep (Fld.keep Y28 K129 (ninS nx149 nin0)) K131 (ninS nx149 (ninS ne173 nin0))) K132 (ninS nx149 (ninS ne173 nin0))) (Fld.keep (Fld.keep (Fld.keep Y29 K129 (ninS nx149 nin0)) K131 (ninS nx149 (ninS ne173 nin0))) K132 (ninS nx149 (ninS ne173 nin0))) (Exa.keep (Exa.keep (Exa.keep Y32 K129) K131) K132) Fm132 Fe132 Fz132 V132 hz0 hz1 hz2 hi0 hi1 hi2
theorem rm0_c5 {l : _} {Z : State} {a0 : Array Value} (hw : HW Z a0) {sa : Int32} {ia : Int32} {c0 : Int32} {c1 : Int32} {c2 : Int32} {cs : Int32} {aD : Addr} {kD : ClassId} {h0 : Heap} {n0 : Nat} {p : _} {e : _} {s : State} {m : _} {below : _} {meth : _} {c : _} {h1 : Heap} {T1 : State} {Lc : List Loc} {vm1 : Vm} {ks1 : Nat} {x0 : Addr} {t0 : Addr} {q0 : ClassId} {z0 : Int32} {v0 : List Value} {x1 : Addr} {t1 : Addr} {q1 : ClassId} {z1 : Int32} {v1 : List Value} {x2 : Addr} {t2 : Addr} {q2 : ClassId} {z2 : Int32} {v2 : List Value} {b30 : Addr} {d32 : Addr} {kd32 : ClassId} {b36 : Addr} {i0 : Int32} {b40 : Addr} {i1 : Int32} {b44 : Addr} {i2 : Int32} {nn : Int32} {bb : Int32} (X1 : Stand p l e room_1 (s.setVm vm1) m #[(.int sa), (.int ia), (.int c0), (.int c1), (.int c2)] below meth c T1 Lc 23 244) (e1 : T1.heap = h1) (Kc : Keep h0 h1 []) (Nc : Fr n0 Lc) (Z0 : n0 ≤ h0.size) (O0 : Old Z n0 h1) (S_DE : Sta Z Z.heap sL "DEFAULTCAPACITY_EMPTY_ELEMENTDATA" "[Ljava/lang/Object;" (.ref aD)) (V_aD : Arv Z Z.heap aD kD (.object sO) (0 : Int32) [] .null) (hZ1 : Z.Warmed39 (s.setVm vm1).vm) (hown1 : (s.setVm vm1).vm.findClass "com/example/nisaba/nisaba/isatab/ValuesFirstGivenPinLaw" = some m.cls) (hS1 : s.Since vm1 ks1) (hk1 : ks1 ≤ h1.size) (C1 : CHr Z consts_1 s.vm s.heap vm1 h1) (hx : p.tables.exec = Jvm.exec) (hby : c.code = code) (hml : c.maxLocals = 23) (hlk : meth.locks = false) (hrt : meth.sig.returnType = (some .boolean)) (Y3 : Exa Z h1 x0 sS) (Y4 : Fld Z h1 x0 sS "value" "[B" (.ref t0)) (Y5 : Arv Z h1 t0 q0 .byte z0 v0 (ii 0)) (Y6 : Exa Z h1 x1 sS) (Y7 : Fld Z h1 x1 sS "value" "[B" (.ref t1)) (Y8 : Arv Z h1 t1 q1 .byte z1 v1 (ii 0)) (Y9 : Exa Z h1 x2 sS) (Y10 : Fld Z h1 x2 sS "value" "[B" (.ref t2)) (Y11 : Arv Z h1 t2 q2 .byte z2 v2 (ii 0)) (Y12 : Exa Z h1 b30 sL) (Y14 : Fld Z h1 b30 sL "elementData" sE (.ref d32)) (Y15 : Fld Z h1 b30 sL "size" "I" (.int (3 : Int32))) (Y16 : Arv Z h1 d32 kd32 (.object sO) (10 : Int32) [(.ref x0), (.ref x1), (.ref x2), .null, .null, .null, .null, .null, .null, .null] .null) (Y17 : Exa Z h1 b36 sA) (Y18 : Fld Z h1 b36 sA "unit" "I" (.int (-1 : Int32))) (Y19 : Fld Z h1 b36 sA "value" "I" (.int i0)) (Y22 : Exa Z h1 b40 sA) (Y23 : Fld Z h1 b40 sA "unit" "I" (.int (-1 : Int32))) (Y24 : Fld Z h1 b40 sA "value" "I" (.int i1)) (Y27 : Exa Z h1 b44 sA) (Y28 : Fld Z h1 b44 sA "unit" "I" (.int (-1 : Int32))) (Y29 : Fld Z h1 b44 sA "value" "I" (.int i2)) (hnn : nn = 0 ∨ nn = 1 ∨ nn = 2 ∨ nn = 3) (hz0 : z0 = own_z bb (0 : Int32)) (hz1 : z1 = own_z bb (1 : Int32)) (hz2 : z2 = own_z bb (2 : Int32)) (hi0 : i0 = 0 ∨ i0 = 1 ∨ i0 = 2) (hi1 : i1 = 0 ∨ i1 = 1 ∨ i1 = 2) (hi2 : i2 = 0 ∨ i2 = 1 ∨ i2 = 2) :
    own_GoW p.tables e below Z consts_1 (Q_rm0 Z sa ia c0 c1 c2 cs aD kD h0 n0) s 64 7488 T1 (mkF m 192 #[vi sa, vi ia, vi c0, vi c1, vi c2, vi nn, vi bb, vr x0, vr x1, vr x2, vr b30, vi i0, vi i1, vi i2, vr b36, vr b40, vr b44, uu, uu, uu, uu, uu, uu] []) := by
  obtain ⟨T48, h48, X48, e48, E48, A48, D48, -, st48⟩ := newO X1 hx hZ1 hown1 (hw _ (mo 30 rfl)) (hw _ (mo 31 rfl)) (hw _ (mo 32 rfl)) e1 (g := (mkF m 192 #[vi sa, vi ia, vi c0, vi c1, vi c2, vi nn, vi bb, vr x0, vr x1, vr x2, vr b30, vi i0, vi i1, vi i2, vr b36, vr b40, vr b44, uu, uu, uu, uu, uu, uu] [])) rfl (hb hby at_192) (by decide) (by decide)
  obtain ⟨b48, g48⟩ : ∃ z, z = h1.size := ⟨_, rfl⟩
  rw [← g48] at A48 D48 st48
  have E_b48 : Exa Z h48 b48 sL := A48
  have F_modCount_b48 : Fld Z h48 b48 sB "modCount" "I" (ii 0) := D48 (Or.inl (hw _ (mo 50 rfl))) (ty := .int) (by decide)
  have F_elementData_b48 : Fld Z h48 b48 sL "elementData" sE .null := D48 (Or.inl (hw _ (mo 53 rfl))) (ty := (.array (.object sO))) (by decide)
  have F_size_b48 : Fld Z h48 b48 sL "size" "I" (ii 0) := D48 (Or.inl (hw _ (mo 62 rfl))) (ty := .int) (by decide)
  have g_b48 : n0 ≤ b48 := Nat.le_trans (Nat.le_trans Z0 Kc.1) (Nat.le_of_eq g48.symm)
  have sz_b48 : h0.size ≤ b48 := Nat.le_trans Kc.1 (Nat.le_of_eq g48.symm)
  have K48 : Keep h0 h48 [] := Keep.ext Kc E48
  have C48 : CHr Z consts_1 s.vm s.heap vm1 h48 := CHr.trans C1 (CHr.ext E48 C1.1)
  refine bW T48 (mkF m 195 #[vi sa, vi ia, vi c0, vi c1, vi c2, vi nn, vi bb, vr x0, vr x1, vr x2, vr b30, vi i0, vi i1, vi i2, vr b36, vr b40, vr b44, uu, uu, uu, uu, uu, uu] [(.ref b48)]) (fun _ k => st48 _ k) ?_
  refine bW T48 (mkF m 196 #[vi sa, vi ia, vi c0, vi c1, vi c2, vi nn, vi bb, vr x0, vr x1, vr x2, vr b30, vi i0, vi i1, vi i2, vr b36, vr b40, vr b44, uu, uu, uu, uu, uu, uu] [(.ref b48), (.ref b48)]) (fun _ k => XS.dup X48.here hx rfl (hb hby at_195) rfl rfl k) ?_
  obtain ⟨_, _, ⟨T49, L49, k49, n49⟩, -, X49, ⟨Lc49, hQ49, l49, y49, z49⟩, st49⟩ := X48.specialBack hx (y := yy8) rfl hown1 (mvT hZ1 (hw _ (mo 33 rfl))) (mvT hZ1 (hw _ (mo 34 rfl))) (mvT hZ1 (hw _ (mo 35 rfl))) (by decide) (backOf (W := 1) (ali l Z a0 hw [] b48 aD h48 n0 (Nat.le_trans (Nat.le_trans Z0 Kc.1) E48.1) (Old.ext O0 E48) E_b48 F_modCount_b48 F_elementData_b48 F_size_b48 g_b48 S_DE) hZ1 (hw _ (mo 35 rfl)) (hw _ (mo 32 rfl)) (by decide) (by decide)) (g := (mkF m 196 #[vi sa, vi ia, vi c0, vi c1, vi c2, vi nn, vi bb, vr x0, vr x1, vr x2, vr b30, vi i0, vi i1, vi i2, vr b36, vr b40, vr b44, uu, uu, uu, uu, uu, uu] [(.ref b48), (.ref b48)])) rfl (by rw [hml]; rfl) (Steps.refl _) (a := b48) (argsL := []) (rest := [(.ref b48)]) (lenOf pd_3 rfl) rfl (Nat.le_of_eq rfl) (hb hby at_196) (fun _ _ => ⟨rfl, e48, (by decide : 24 ≤ _), (by decide : 247 ≤ _)⟩)
  dsimp only [Pt.U, Pt.locs, Pt.cells, Pt.slots] at X49 l49 y49 z49 st49 hQ49
  subst l49 y49 z49
  obtain ⟨rfl, N49q, K49, Fm49, Fe49, Fz49⟩ := hQ49
  have N49 := Fr.app Nc N49q
  have KK49 : Keep h0 T49.heap [] := Keep.trans K48 K49 (allS (Or.inr sz_b48) all0)
  have C49 : CHr Z consts_1 s.vm s.heap vm1 T49.heap := CHr.trans C48 (CHr.keep K49 (sfS (Safe.exa (EL := consts_1) (vm := vm1) hZ1.alike E_b48 (by decide) (by decide)) sf0) C48.1)
  refine bW T49 (mkF m 199 #[vi sa, vi ia, vi c0, vi c1, vi c2, vi nn, vi bb, vr x0, vr x1, vr x2, vr b30, vi i0, vi i1, vi i2, vr b36, vr b40, vr b44, uu, uu, uu, uu, uu, uu] [(.ref b48)]) (fun _ k => st49.trans k) ?_
  refine bW T49 (mkF m 201 #[vi sa, vi ia, vi c0, vi c1, vi c2, vi nn, vi bb, vr x0, vr x1, vr x2, vr b30, vi i0, vi i1, vi i2, vr b36, vr b40, vr b44, vr b48, uu, uu, uu, uu, uu] []) (fun _ k => XS.astore X49.here hx rfl (hb hby at_199) rfl rfl rfl k) ?_
  rcases hnn with hq50 | hq50 | hq50 | hq50
  · skip
    rw [hq50]
    have ne57 : b30 ≠ b48 := (Nat.ne_of_lt (Nat.lt_of_lt_of_le Y12.lt (Nat.le_of_eq g48.symm)))
    have ne58 : d32 ≠ b48 := (Nat.ne_of_lt (Nat.lt_of_lt_of_le Y16.lt (Nat.le_of_eq g48.symm)))
    exact rm0_c6 (h1 := T49.heap) (T1 := T49) (vm1 := vm1) hw X49 rfl KK49 N49 Z0 (Old.keep (Old.ext O0 E48) K49 (allS g_b48 all0)) S_DE V_aD hZ1 hown1 hS1 (Nat.le_trans (Nat.le_trans hk1 E48.1) K49.1) C49 hx hby hml hlk hrt (Exa.keep (Exa.ext E48 Y3) K49) (Exa.keep (Exa.ext E48 Y6) K49) (Exa.keep (Exa.ext E48 Y9) K49) (Exa.keep (Exa.ext E48 Y12) K49) (Fld.keep (Fld.ext E48 Y14) K49 (ninS ne57 nin0)) (Fld.keep (Fld.ext E48 Y15) K49 (ninS ne57 nin0)) (Arv.keep (Arv.ext Y16 E48) K49 (ninS ne58 nin0)) (Exa.keep E_b48 K49) Fm49 Fe49 Fz49
  · skip
    rw [hq50]
    have ne76 : x0 ≠ b48 := (Nat.ne_of_lt (Nat.lt_of_lt_of_le Y3.lt (Nat.le_of_eq g48.symm)))
    have ne77 : t0 ≠ b48 := (Nat.ne_of_lt (Nat.lt_of_lt_of_le Y5.lt (Nat.le_of_eq g48.symm)))
    have ne78 : x1 ≠ b48 := (Nat.ne_of_lt (Nat.lt_of_lt_of_le Y6.lt (Nat.le_of_eq g48.symm)))
    have ne79 : t1 ≠ b48 := (Nat.ne_of_lt (Nat.lt_of_lt_of_le Y8.lt (Nat.le_of_eq g48.symm)))
    have ne80 : x2 ≠ b48 := (Nat.ne_of_lt (Nat.lt_of_lt_of_le Y9.lt (Nat.le_of_eq g48.symm)))
    have ne81 : t2 ≠ b48 := (Nat.ne_of_lt (Nat.lt_of_lt_of_le Y11.lt (Nat.le_of_eq g48.symm)))
    have ne82 : b30 ≠ b48 := (Nat.ne_of_lt (Nat.lt_of_lt_of_le Y12.lt (Nat.le_of_eq g48.symm)))
    have ne83 : d32 ≠ b48 := (Nat.ne_of_lt (Nat.lt_of_lt_of_le Y16.lt (Nat.le_of_eq g48.symm)))
    have ne84 : b36 ≠ b48 := (Nat.ne_of_lt (Nat.lt_of_lt_of_le Y17.lt (Nat.le_of_eq g48.symm)))
    exact rm0_c10 (h1 := T49.heap) (T1 := T49) (vm1 := vm1) hw X49 rfl KK49 N49 Z0 (Old.keep (Old.ext O0 E48) K49 (allS g_b48 all0)) S_DE V_aD hZ1 hown1 hS1 (Nat.le_trans (Nat.le_trans hk1 E48.1) K49.1) C49 hx hby hml hlk hrt (Exa.keep (Exa.ext E48 Y3) K49) (Fld.keep (Fld.ext E48 Y4) K49 (ninS ne76 nin0)) (Arv.keep (Arv.ext Y5 E48) K49 (ninS ne77 nin0)) (Exa.keep (Exa.ext E48 Y6) K49) (Fld.keep (Fld.ext E48 Y7) K49 (ninS ne78 nin0)) (Arv.keep (Arv.ext Y8 E48) K49 (ninS ne79 nin0)) (Exa.keep (Exa.ext E48 Y9) K49) (Fld.keep (Fld.ext E48 Y10) K49 (ninS ne80 nin0)) (Arv.keep (Arv.ext Y11 E48) K49 (ninS ne81 nin0)) (Exa.keep (Exa.ext E48 Y12) K49) (Fld.keep (Fld.ext E48 Y14) K49 (ninS ne82 nin0)) (Fld.keep (Fld.ext E48 Y15) K49 (ninS ne82 nin0)) (Arv.keep (Arv.ext Y16 E48) K49 (ninS ne83 nin0)) (Exa.keep (Exa.ext E48 Y17) K49) (Fld.keep (Fld.ext E48 Y18) K49 (ninS ne84 nin0)) (Fld.keep (Fld.ext E48 Y19) K49 (ninS ne84 nin0)) (Exa.keep E_b48 K49) Fm49 Fe49 Fz49 ne76 ne77 ne78 ne79 ne80 ne81 ne82 ne83 ne84 g_b48 sz_b48 hz0 hz1 hz2 hi0
  · skip
    rw [hq50]
    have ne119 : x0 ≠ b48 := (Nat.ne_of_lt (Nat.lt_of_lt_of_le Y3.lt (Nat.le_of_eq g48.symm)))
    have ne120 : t0 ≠ b48 := (Nat.ne_of_lt (Nat.lt_of_lt_of_le Y5.lt (Nat.le_of_eq g48.symm)))
    have ne121 : x1 ≠ b48 := (Nat.ne_of_lt (Nat.lt_of_lt_of_le Y6.lt (Nat.le_of_eq g48.symm)))
    have ne122 : t1 ≠ b48 := (Nat.ne_of_lt (Nat.lt_of_lt_of_le Y8.lt (Nat.le_of_eq g48.symm)))
    have ne123 : x2 ≠ b48 := (Nat.ne_of_lt (Nat.lt_of_lt_of_le Y9.lt (Nat.le_of_eq g48.symm)))
    have ne124 : t2 ≠ b48 := (Nat.ne_of_lt (Nat.lt_of_lt_of_le Y11.lt (Nat.le_of_eq g48.symm)))
    have ne125 : b30 ≠ b48 := (Nat.ne_of_lt (Nat.lt_of_lt_of_le Y12.lt (Nat.le_of_eq g48.symm)))
    have ne126 : d32 ≠ b48 := (Nat.ne_of_lt (Nat.lt_of_lt_of_le Y16.lt (Nat.le_of_eq g48.symm)))
    have ne127 : b36 ≠ b48 := (Nat.ne_of_lt (Nat.lt_of_lt_of_le Y17.lt (Nat.le_of_eq g48.symm)))
    have ne128 : b40 ≠ b48 := (Nat.ne_of_lt (Nat.lt_of_lt_of_le Y22.lt (Nat.le_of_eq g48.symm)))
    exact rm0_c14 (h1 := T49.heap) (T1 := T49) (vm1 := vm1) hw X49 rfl KK49 N49 Z0 (Old.keep (Old.ext O0 E48) K49 (allS g_b48 all0)) S_DE V_aD hZ1 hown1 hS1 (Nat.le_trans (Nat.le_trans hk1 E48.1) K49.1) C49 hx hby hml hlk hrt (Exa.keep (Exa.ext E48 Y3) K49) (Fld.keep (Fld.ext E48 Y4) K49 (ninS ne119 nin0)) (Arv.keep (Arv.ext Y5 E48) K49 (ninS ne120 nin0)) (Exa.keep (Exa.ext E48 Y6) K49) (Fld.keep (Fld.ext E48 Y7) K49 (ninS ne121 nin0)) (Arv.keep (Arv.ext Y8 E48) K49 (ninS ne122 nin0)) (Exa.keep (Exa.ext E48 Y9) K49) (Fld.keep (Fld.ext E48 Y10) K49 (ninS ne123 nin0)) (Arv.keep (Arv.ext Y11 E48) K49 (ninS ne124 nin0)) (Exa.keep (Exa.ext E48 Y12) K49) (Fld.keep (Fld.ext E48 Y14) K49 (ninS ne125 nin0)) (Fld.keep (Fld.ext E48 Y15) K49 (ninS ne125 nin0)) (Arv.keep (Arv.ext Y16 E48) K49 (ninS ne126 nin0)) (Exa.keep (Exa.ext E48 Y17) K49) (Fld.keep (Fld.ext E48 Y18) K49 (ninS ne127 nin0)) (Fld.keep (Fld.ext E48 Y19) K49 (ninS ne127 nin0)) (Exa.keep (Exa.ext E48 Y22) K49) (Fld.keep (Fld.ext E48 Y23) K49 (ninS ne128 nin0)) (Fld.keep (Fld.ext E48 Y24) K49 (ninS ne128 nin0)) (Exa.keep E_b48 K49) Fm49 Fe49 Fz49 ne119 ne120 ne121 ne122 ne123 ne124 ne125 ne126 ne127 ne128 g_b48 sz_b48 hz0 hz1 hz2 hi0 hi1
  · skip
    rw [hq50]
    have ne174 : x0 ≠ b48 := (Nat.ne_of_lt (Nat.lt_of_lt_of_le Y3.lt (Nat.le_of_eq g48.symm)))
    have ne175 : t0 ≠ b48 := (Nat.ne_of_lt (Nat.lt_of_lt_of_le Y5.lt (Nat.le_of_eq g48.symm)))
    have ne176 : x1 ≠ b48 := (Nat.ne_of_lt (Nat.lt_of_lt_of_le Y6.lt (Nat.le_of_eq g48.symm)))
    have ne177 : t1 ≠ b48 := (Nat.ne_of_lt (Nat.lt_of_lt_of_le Y8.lt (Nat.le_of_eq g48.symm)))
    have ne178 : x2 ≠ b48 := (Nat.ne_of_lt (Nat.lt_of_lt_of_le Y9.lt (Nat.le_of_eq g48.symm)))
    have ne179 : t2 ≠ b48 := (Nat.ne_of_lt (Nat.lt_of_lt_of_le Y11.lt (Nat.le_of_eq g48.symm)))
    have ne180 : b30 ≠ b48 := (Nat.ne_of_lt (Nat.lt_of_lt_of_le Y12.lt (Nat.le_of_eq g48.symm)))
    have ne181 : d32 ≠ b48 := (Nat.ne_of_lt (Nat.lt_of_lt_of_le Y16.lt (Nat.le_of_eq g48.symm)))
    have ne182 : b36 ≠ b48 := (Nat.ne_of_lt (Nat.lt_of_lt_of_le Y17.lt (Nat.le_of_eq g48.symm)))
    have ne183 : b40 ≠ b48 := (Nat.ne_of_lt (Nat.lt_of_lt_of_le Y22.lt (Nat.le_of_eq g48.symm)))
    have ne184 : b44 ≠ b48 := (Nat.ne_of_lt (Nat.lt_of_lt_of_le Y27.lt (Nat.le_of_eq g48.symm)))
    exact rm0_c18 (h1 := T49.heap) (T1 := T49) (vm1 := vm1) hw X49 rfl KK49 N49 Z0 (Old.keep (Old.ext O0 E48) K49 (allS g_b48 all0)) S_DE V_aD hZ1 hown1 hS1 (Nat.le_trans (Nat.le_trans hk1 E48.1) K49.1) C49 hx hby hml hlk hrt (Exa.keep (Exa.ext E48 Y3) K49) (Fld.keep (Fld.ext E48 Y4) K49 (ninS ne174 nin0)) (Arv.keep (Arv.ext Y5 E48) K49 (ninS ne175 nin0)) (Exa.keep (Exa.ext E48 Y6) K49) (Fld.keep (Fld.ext E48 Y7) K49 (ninS ne176 nin0)) (Arv.keep (Arv.ext Y8 E48) K49 (ninS ne177 nin0)) (Exa.keep (Exa.ext E48 Y9) K49) (Fld.keep (Fld.ext E48 Y10) K49 (ninS ne178 nin0)) (Arv.keep (Arv.ext Y11 E48) K49 (ninS ne179 nin0)) (Exa.keep (Exa.ext E48 Y12) K49) (Fld.keep (Fld.ext E48 Y14) K49 (ninS ne180 nin0)) (Fld.keep (Fld.ext E48 Y15) K49 (ninS ne180 nin0)) (Arv.keep (Arv.ext Y16 E48) K49 (ninS ne181 nin0)) (Exa.keep (Exa.ext E48 Y17) K49) (Fld.keep (Fld.ext E48 Y18) K49 (ninS ne182 nin0)) (Fld.keep (Fld.ext E48 Y19) K49 (ninS ne182 nin0)) (Exa.keep (Exa.ext E48 Y22) K49) (Fld.keep (Fld.ext E48 Y23) K49 (ninS ne183 nin0)) (Fld.keep (Fld.ext E48 Y24) K49 (ninS ne183 nin0)) (Exa.keep (Exa.ext E48 Y27) K49) (Fld.keep (Fld.ext E48 Y28) K49 (ninS ne184 nin0)) (Fld.keep (Fld.ext E48 Y29) K49 (ninS ne184 nin0)) (Exa.keep E_b48 K49) Fm49 Fe49 Fz49 ne174 ne175 ne176 ne177 ne178 ne179 ne180 ne181 ne182 ne183 ne184 g_b48 sz_b48 hz0 hz1 hz2 hi0 hi1 hi2
theorem rm0_c4 {l : _} {Z : State} {a0 : Array Value} (hw : HW Z a0) {sa : Int32} {ia : Int32} {c0 : Int32} {c1 : Int32} {c2 : Int32} {cs : Int32} {aD : Addr} {kD : ClassId} {h0 : Heap} {n0 : Nat} {p : _} {e : _} {s : State} {m : _} {below : _} {meth : _} {c : _} {h1 : Heap} {T1 : State} {Lc : List Loc} {vm1 : Vm} {ks1 : Nat} {x0 : Addr} {t0 : Addr} {q0 : ClassId} {z0 : Int32} {v0 : List Value} {x1 : Addr} {t1 : Addr} {q1 : ClassId} {z1 : Int32} {v1 : List Value} {x2 : Addr} {t2 : Addr} {q2 : ClassId} {z2 : Int32} {v2 : List Value} {b30 : Addr} {d32 : Addr} {kd32 : ClassId} {nn : Int32} {bb : Int32} {i0 : Int32} {i1 : Int32} {i2 : Int32} (X1 : Stand p l e room_1 (s.setVm vm1) m #[(.int sa), (.int ia), (.int c0), (.int c1), (.int c2)] below meth c T1 Lc 8 28) (e1 : T1.heap = h1) (Kc : Keep h0 h1 []) (Nc : Fr n0 Lc) (Z0 : n0 ≤ h0.size) (O0 : Old Z n0 h1) (S_DE : Sta Z Z.heap sL "DEFAULTCAPACITY_EMPTY_ELEMENTDATA" "[Ljava/lang/Object;" (.ref aD)) (V_aD : Arv Z Z.heap aD kD (.object sO) (0 : Int32) [] .null) (hZ1 : Z.Warmed39 (s.setVm vm1).vm) (hown1 : (s.setVm vm1).vm.findClass "com/example/nisaba/nisaba/isatab/ValuesFirstGivenPinLaw" = some m.cls) (hS1 : s.Since vm1 ks1) (hk1 : ks1 ≤ h1.size) (C1 : CHr Z consts_1 s.vm s.heap vm1 h1) (hx : p.tables.exec = Jvm.exec) (hby : c.code = code) (hml : c.maxLocals = 23) (hlk : meth.locks = false) (hrt : meth.sig.returnType = (some .boolean)) (Y3 : Exa Z h1 x0 sS) (Y4 : Fld Z h1 x0 sS "value" "[B" (.ref t0)) (Y5 : Arv Z h1 t0 q0 .byte z0 v0 (ii 0)) (Y6 : Exa Z h1 x1 sS) (Y7 : Fld Z h1 x1 sS "value" "[B" (.ref t1)) (Y8 : Arv Z h1 t1 q1 .byte z1 v1 (ii 0)) (Y9 : Exa Z h1 x2 sS) (Y10 : Fld Z h1 x2 sS "value" "[B" (.ref t2)) (Y11 : Arv Z h1 t2 q2 .byte z2 v2 (ii 0)) (Y12 : Exa Z h1 b30 sL) (Y14 : Fld Z h1 b30 sL "elementData" sE (.ref d32)) (Y15 : Fld Z h1 b30 sL "size" "I" (.int (3 : Int32))) (Y16 : Arv Z h1 d32 kd32 (.object sO) (10 : Int32) [(.ref x0), (.ref x1), (.ref x2), .null, .null, .null, .null, .null, .null, .null] .null) (hnn : nn = 0 ∨ nn = 1 ∨ nn = 2 ∨ nn = 3) (hz0 : z0 = own_z bb (0 : Int32)) (hz1 : z1 = own_z bb (1 : Int32)) (hz2 : z2 = own_z bb (2 : Int32)) (hi0 : i0 = 0 ∨ i0 = 1 ∨ i0 = 2) (hi1 : i1 = 0 ∨ i1 = 1 ∨ i1 = 2) (hi2 : i2 = 0 ∨ i2 = 1 ∨ i2 = 2) :
    own_GoW p.tables e below Z consts_1 (Q_rm0 Z sa ia c0 c1 c2 cs aD kD h0 n0) s 64 7488 T1 (mkF m 147 #[vi sa, vi ia, vi c0, vi c1, vi c2, vi nn, vi bb, vr x0, vr x1, vr x2, vr b30, vi i0, vi i1, vi i2, uu, uu, uu, uu, uu, uu, uu, uu, uu] []) := by
  have hEL : EW Z a0 consts_1 := own_EL hw
  have hwS : ∀ d ∈ Bundle.stringAtoms, d.before a0 Z = true := fun d hd => hw d (own_SA d hd)
  obtain ⟨T36, h36, X36, e36, E36, A36, D36, -, st36⟩ := newO X1 hx hZ1 hown1 (hw _ (mo 85 rfl)) (hw _ (mo 86 rfl)) (hw _ (mo 87 rfl)) e1 (g := (mkF m 147 #[vi sa, vi ia, vi c0, vi c1, vi c2, vi nn, vi bb, vr x0, vr x1, vr x2, vr b30, vi i0, vi i1, vi i2, uu, uu, uu, uu, uu, uu, uu, uu, uu] [])) rfl (hb hby at_147) (by decide) (by decide)
  obtain ⟨b36, g36⟩ : ∃ z, z = h1.size := ⟨_, rfl⟩
  rw [← g36] at A36 D36 st36
  have E_b36 : Exa Z h36 b36 sA := A36
  have F_unit_b36 : Fld Z h36 b36 sA "unit" "I" (ii 0) := D36 (Or.inl (hw _ (mo 97 rfl))) (ty := .int) (by decide)
  have F_category_b36 : Fld Z h36 b36 sA "category" "Ljava/lang/String;" .null := D36 (Or.inr (hw _ (mo 99 rfl))) (ty := (.object sS)) (by decide)
  have F_type_b36 : Fld Z h36 b36 sA "type" "Ljava/lang/String;" .null := D36 (Or.inr (hw _ (mo 101 rfl))) (ty := (.object sS)) (by decide)
  have F_value_b36 : Fld Z h36 b36 sA "value" "I" (ii 0) := D36 (Or.inr (hw _ (mo 103 rfl))) (ty := .int) (by decide)
  have g_b36 : n0 ≤ b36 := Nat.le_trans (Nat.le_trans Z0 Kc.1) (Nat.le_of_eq g36.symm)
  have sz_b36 : h0.size ≤ b36 := Nat.le_trans Kc.1 (Nat.le_of_eq g36.symm)
  have K36 : Keep h0 h36 [] := Keep.ext Kc E36
  have C36 : CHr Z consts_1 s.vm s.heap vm1 h36 := CHr.trans C1 (CHr.ext E36 C1.1)
  refine bW T36 (mkF m 150 #[vi sa, vi ia, vi c0, vi c1, vi c2, vi nn, vi bb, vr x0, vr x1, vr x2, vr b30, vi i0, vi i1, vi i2, uu, uu, uu, uu, uu, uu, uu, uu, uu] [(.ref b36)]) (fun _ k => st36 _ k) ?_
  refine bW T36 (mkF m 151 #[vi sa, vi ia, vi c0, vi c1, vi c2, vi nn, vi bb, vr x0, vr x1, vr x2, vr b30, vi i0, vi i1, vi i2, uu, uu, uu, uu, uu, uu, uu, uu, uu] [(.ref b36), (.ref b36)]) (fun _ k => XS.dup X36.here hx rfl (hb hby at_150) rfl rfl k) ?_
  obtain ⟨a37, T37, h37, k37, b37, kb37, X37, e37, E37, hS37, hk37, hZ37, hown37, Ex37, Fc37, Fv37, V37, la37, lb37, Cq37, Lt37, D37, st37⟩ := ldcCH (s := s) (EL := consts_1) X36 hx hZ1 hown1 (hw _ (mo 88 rfl)) hwS e36 hS1 (Nat.le_trans hk1 E36.1) hEL (mo 2 rfl) C36.1 (vs := [(.int (67 : Int32)), (.int (104 : Int32)), (.int (97 : Int32)), (.int (114 : Int32)), (.int (97 : Int32)), (.int (99 : Int32)), (.int (116 : Int32)), (.int (101 : Int32)), (.int (114 : Int32)), (.int (105 : Int32)), (.int (115 : Int32)), (.int (116 : Int32)), (.int (105 : Int32)), (.int (99 : Int32)), (.int (115 : Int32))]) (z := (15 : Int32)) ⟨by decide, by decide⟩ (by decide) (by decide) (g := (mkF m 151 #[vi sa, vi ia, vi c0, vi c1, vi c2, vi nn, vi bb, vr x0, vr x1, vr x2, vr b30, vi i0, vi i1, vi i2, uu, uu, uu, uu, uu, uu, uu, uu, uu] [(.ref b36), (.ref b36)])) rfl (hb hby at_151) (n := 60) (by decide) (by decide) (by decide) (by decide)
  have C37 : CHr Z consts_1 s.vm s.heap T37.vm h37 := CHr.trans C36 Cq37
  have K37 : Keep h0 h37 [] := Keep.ext K36 E37
  refine bW T37 (mkF m 153 #[vi sa, vi ia, vi c0, vi c1, vi c2, vi nn, vi bb, vr x0, vr x1, vr x2, vr b30, vi i0, vi i1, vi i2, uu, uu, uu, uu, uu, uu, uu, uu, uu] [(.ref a37), (.ref b36), (.ref b36)]) (fun _ k => st37 _ k) ?_
  obtain ⟨a38, T38, h38, k38, b38, kb38, X38, e38, E38, hS38, hk38, hZ38, hown38, Ex38, Fc38, Fv38, V38, la38, lb38, Cq38, Lt38, D38, st38⟩ := ldcCH (s := s) (EL := consts_1) X37 hx hZ37 hown37 (hw _ (mo 91 rfl)) hwS e37 hS37 hk37 hEL (mo 3 rfl) C37.1 (vs := [(.int (97 : Int32))]) (z := (1 : Int32)) ⟨by decide, by decide⟩ (by decide) (by decide) (g := (mkF m 153 #[vi sa, vi ia, vi c0, vi c1, vi c2, vi nn, vi bb, vr x0, vr x1, vr x2, vr b30, vi i0, vi i1, vi i2, uu, uu, uu, uu, uu, uu, uu, uu, uu] [(.ref a37), (.ref b36), (.ref b36)])) rfl (hb hby at_153) (n := 4) (by decide) (by decide) (by decide) (by decide)
  have C38 : CHr Z consts_1 s.vm s.heap T38.vm h38 := CHr.trans C37 Cq38
  have K38 : Keep h0 h38 [] := Keep.ext K37 E38
  refine bW T38 (mkF m 155 #[vi sa, vi ia, vi c0, vi c1, vi c2, vi nn, vi bb, vr x0, vr x1, vr x2, vr b30, vi i0, vi i1, vi i2, uu, uu, uu, uu, uu, uu, uu, uu, uu] [(.ref a38), (.ref a37), (.ref b36), (.ref b36)]) (fun _ k => st38 _ k) ?_
  refine bW T38 (mkF m 157 #[vi sa, vi ia, vi c0, vi c1, vi c2, vi nn, vi bb, vr x0, vr x1, vr x2, vr b30, vi i0, vi i1, vi i2, uu, uu, uu, uu, uu, uu, uu, uu, uu] [(.int i0), (.ref a38), (.ref a37), (.ref b36), (.ref b36)]) (fun _ k => XS.iload X38.here hx rfl (hb hby at_155) rfl k) ?_
  obtain ⟨_, _, ⟨T39, L39, k39, n39⟩, -, X39, ⟨Lc39, hQ39, l39, y39, z39⟩, st39⟩ := X38.specialBack hx (y := yy14) rfl hown38 (mvT hZ38 (hw _ (mo 92 rfl))) (mvT hZ38 (hw _ (mo 93 rfl))) (mvT hZ38 (hw _ (mo 94 rfl))) (by decide) (backOf (W := 1) (coi l Z a0 hw [] b36 a37 a38 i0  h38 n0 (Nat.le_trans (Nat.le_trans (Nat.le_trans (Nat.le_trans Z0 Kc.1) E36.1) E37.1) E38.1) (Exa.ext E38 (Exa.ext E37 E_b36)) (Fld.ext E38 (Fld.ext E37 F_unit_b36)) (Fld.ext E38 (Fld.ext E37 F_category_b36)) (Fld.ext E38 (Fld.ext E37 F_type_b36)) (Fld.ext E38 (Fld.ext E37 F_value_b36)) g_b36) hZ38 (hw _ (mo 94 rfl)) (hw _ (mo 87 rfl)) (by decide) (by decide)) (g := (mkF m 157 #[vi sa, vi ia, vi c0, vi c1, vi c2, vi nn, vi bb, vr x0, vr x1, vr x2, vr b30, vi i0, vi i1, vi i2, uu, uu, uu, uu, uu, uu, uu, uu, uu] [(.int i0), (.ref a38), (.ref a37), (.ref b36), (.ref b36)])) rfl (by rw [hml]; rfl) (Steps.refl _) (a := b36) (argsL := [(.ref a37), (.ref a38), (.int i0)]) (rest := [(.ref b36)]) (lenOf pd_18 rfl) rfl (Nat.le_of_eq rfl) (hb hby at_157) (fun _ _ => ⟨rfl, e38, (by decide : 13 ≤ _), (by decide : 104 ≤ _)⟩)
  dsimp only [Pt.U, Pt.locs, Pt.cells, Pt.slots] at X39 l39 y39 z39 st39 hQ39
  subst l39 y39 z39
  obtain ⟨rfl, N39q, K39, Fu39, Fv39⟩ := hQ39
  have N39 := Fr.app Nc N39q
  have KK39 : Keep h0 T39.heap [] := Keep.trans K38 K39 (allS (Or.inr sz_b36) all0)
  have C39 : CHr Z consts_1 s.vm s.heap T38.vm T39.heap := CHr.trans C38 (CHr.keep K39 (sfS (Safe.exa (EL := consts_1) (vm := T38.vm) hZ38.alike (Exa.ext E38 (Exa.ext E37 E_b36)) (by decide) (by decide)) sf0) C38.1)
  refine bW T39 (mkF m 160 #[vi sa, vi ia, vi c0, vi c1, vi c2, vi nn, vi bb, vr x0, vr x1, vr x2, vr b30, vi i0, vi i1, vi i2, uu, uu, uu, uu, uu, uu, uu, uu, uu] [(.ref b36)]) (fun _ k => st39.trans k) ?_
  refine bW T39 (mkF m 162 #[vi sa, vi ia, vi c0, vi c1, vi c2, vi nn, vi bb, vr x0, vr x1, vr x2, vr b30, vi i0, vi i1, vi i2, vr b36, uu, uu, uu, uu, uu, uu, uu, uu] []) (fun _ k => XS.astore X39.here hx rfl (hb hby at_160) rfl rfl rfl k) ?_
  obtain ⟨T40, h40, X40, e40, E40, A40, D40, -, st40⟩ := newO X39 hx hZ38 hown38 (hw _ (mo 85 rfl)) (hw _ (mo 86 rfl)) (hw _ (mo 87 rfl)) rfl (g := (mkF m 162 #[vi sa, vi ia, vi c0, vi c1, vi c2, vi nn, vi bb, vr x0, vr x1, vr x2, vr b30, vi i0, vi i1, vi i2, vr b36, uu, uu, uu, uu, uu, uu, uu, uu] [])) rfl (hb hby at_162) (by decide) (by decide)
  obtain ⟨b40, g40⟩ : ∃ z, z = T39.heap.size := ⟨_, rfl⟩
  rw [← g40] at A40 D40 st40
  have E_b40 : Exa Z h40 b40 sA := A40
  have F_unit_b40 : Fld Z h40 b40 sA "unit" "I" (ii 0) := D40 (Or.inl (hw _ (mo 97 rfl))) (ty := .int) (by decide)
  have F_category_b40 : Fld Z h40 b40 sA "category" "Ljava/lang/String;" .null := D40 (Or.inr (hw _ (mo 99 rfl))) (ty := (.object sS)) (by decide)
  have F_type_b40 : Fld Z h40 b40 sA "type" "Ljava/lang/String;" .null := D40 (Or.inr (hw _ (mo 101 rfl))) (ty := (.object sS)) (by decide)
  have F_value_b40 : Fld Z h40 b40 sA "value" "I" (ii 0) := D40 (Or.inr (hw _ (mo 103 rfl))) (ty := .int) (by decide)
  have g_b40 : n0 ≤ b40 := Nat.le_trans (Nat.le_trans (Nat.le_trans (Nat.le_trans (Nat.le_trans (Nat.le_trans Z0 Kc.1) E36.1) E37.1) E38.1) K39.1) (Nat.le_of_eq g40.symm)
  have sz_b40 : h0.size ≤ b40 := Nat.le_trans KK39.1 (Nat.le_of_eq g40.symm)
  have K40 : Keep h0 h40 [] := Keep.ext KK39 E40
  have C40 : CHr Z consts_1 s.vm s.heap T38.vm h40 := CHr.trans C39 (CHr.ext E40 C39.1)
  refine bW T40 (mkF m 165 #[vi sa, vi ia, vi c0, vi c1, vi c2, vi nn, vi bb, vr x0, vr x1, vr x2, vr b30, vi i0, vi i1, vi i2, vr b36, uu, uu, uu, uu, uu, uu, uu, uu] [(.ref b40)]) (fun _ k => st40 _ k) ?_
  refine bW T40 (mkF m 166 #[vi sa, vi ia, vi c0, vi c1, vi c2, vi nn, vi bb, vr x0, vr x1, vr x2, vr b30, vi i0, vi i1, vi i2, vr b36, uu, uu, uu, uu, uu, uu, uu, uu] [(.ref b40), (.ref b40)]) (fun _ k => XS.dup X40.here hx rfl (hb hby at_165) rfl rfl k) ?_
  obtain ⟨a41, T41, h41, k41, b41, kb41, X41, e41, E41, hS41, hk41, hZ41, hown41, Ex41, Fc41, Fv41, V41, la41, lb41, Cq41, Lt41, D41, st41⟩ := ldcCH (s := s) (EL := consts_1) X40 hx hZ38 hown38 (hw _ (mo 88 rfl)) hwS e40 hS38 (Nat.le_trans (Nat.le_trans hk38 K39.1) E40.1) hEL (mo 2 rfl) C40.1 (vs := [(.int (67 : Int32)), (.int (104 : Int32)), (.int (97 : Int32)), (.int (114 : Int32)), (.int (97 : Int32)), (.int (99 : Int32)), (.int (116 : Int32)), (.int (101 : Int32)), (.int (114 : Int32)), (.int (105 : Int32)), (.int (115 : Int32)), (.int (116 : Int32)), (.int (105 : Int32)), (.int (99 : Int32)), (.int (115 : Int32))]) (z := (15 : Int32)) ⟨by decide, by decide⟩ (by decide) (by decide) (g := (mkF m 166 #[vi sa, vi ia, vi c0, vi c1, vi c2, vi nn, vi bb, vr x0, vr x1, vr x2, vr b30, vi i0, vi i1, vi i2, vr b36, uu, uu, uu, uu, uu, uu, uu, uu] [(.ref b40), (.ref b40)])) rfl (hb hby at_166) (n := 60) (by decide) (by decide) (by decide) (by decide)
  have C41 : CHr Z consts_1 s.vm s.heap T41.vm h41 := CHr.trans C40 Cq41
  have K41 : Keep h0 h41 [] := Keep.ext K40 E41
  refine bW T41 (mkF m 168 #[vi sa, vi ia, vi c0, vi c1, vi c2, vi nn, vi bb, vr x0, vr x1, vr x2, vr b30, vi i0, vi i1, vi i2, vr b36, uu, uu, uu, uu, uu, uu, uu, uu] [(.ref a41), (.ref b40), (.ref b40)]) (fun _ k => st41 _ k) ?_
  obtain ⟨a42, T42, h42, k42, b42, kb42, X42, e42, E42, hS42, hk42, hZ42, hown42, Ex42, Fc42, Fv42, V42, la42, lb42, Cq42, Lt42, D42, st42⟩ := ldcCH (s := s) (EL := consts_1) X41 hx hZ41 hown41 (hw _ (mo 104 rfl)) hwS e41 hS41 hk41 hEL (mo 4 rfl) C41.1 (vs := [(.int (98 : Int32))]) (z := (1 : Int32)) ⟨by decide, by decide⟩ (by decide) (by decide) (g := (mkF m 168 #[vi sa, vi ia, vi c0, vi c1, vi c2, vi nn, vi bb, vr x0, vr x1, vr x2, vr b30, vi i0, vi i1, vi i2, vr b36, uu, uu, uu, uu, uu, uu, uu, uu] [(.ref a41), (.ref b40), (.ref b40)])) rfl (hb hby at_168) (n := 4) (by decide) (by decide) (by decide) (by decide)
  have C42 : CHr Z consts_1 s.vm s.heap T42.vm h42 := CHr.trans C41 Cq42
  have K42 : Keep h0 h42 [] := Keep.ext K41 E42
  refine bW T42 (mkF m 170 #[vi sa, vi ia, vi c0, vi c1, vi c2, vi nn, vi bb, vr x0, vr x1, vr x2, vr b30, vi i0, vi i1, vi i2, vr b36, uu, uu, uu, uu, uu, uu, uu, uu] [(.ref a42), (.ref a41), (.ref b40), (.ref b40)]) (fun _ k => st42 _ k) ?_
  refine bW T42 (mkF m 172 #[vi sa, vi ia, vi c0, vi c1, vi c2, vi nn, vi bb, vr x0, vr x1, vr x2, vr b30, vi i0, vi i1, vi i2, vr b36, uu, uu, uu, uu, uu, uu, uu, uu] [(.int i1), (.ref a42), (.ref a41), (.ref b40), (.ref b40)]) (fun _ k => XS.iload X42.here hx rfl (hb hby at_170) rfl k) ?_
  obtain ⟨_, _, ⟨T43, L43, k43, n43⟩, -, X43, ⟨Lc43, hQ43, l43, y43, z43⟩, st43⟩ := X42.specialBack hx (y := yy14) rfl hown42 (mvT hZ42 (hw _ (mo 92 rfl))) (mvT hZ42 (hw _ (mo 93 rfl))) (mvT hZ42 (hw _ (mo 94 rfl))) (by decide) (backOf (W := 1) (coi l Z a0 hw [] b40 a41 a42 i1  h42 n0 (Nat.le_trans (Nat.le_trans (Nat.le_trans (Nat.le_trans (Nat.le_trans (Nat.le_trans (Nat.le_trans (Nat.le_trans Z0 Kc.1) E36.1) E37.1) E38.1) K39.1) E40.1) E41.1) E42.1) (Exa.ext E42 (Exa.ext E41 E_b40)) (Fld.ext E42 (Fld.ext E41 F_unit_b40)) (Fld.ext E42 (Fld.ext E41 F_category_b40)) (Fld.ext E42 (Fld.ext E41 F_type_b40)) (Fld.ext E42 (Fld.ext E41 F_value_b40)) g_b40) hZ42 (hw _ (mo 94 rfl)) (hw _ (mo 87 rfl)) (by decide) (by decide)) (g := (mkF m 172 #[vi sa, vi ia, vi c0, vi c1, vi c2, vi nn, vi bb, vr x0, vr x1, vr x2, vr b30, vi i0, vi i1, vi i2, vr b36, uu, uu, uu, uu, uu, uu, uu, uu] [(.int i1), (.ref a42), (.ref a41), (.ref b40), (.ref b40)])) rfl (by rw [hml]; rfl) (Steps.refl _) (a := b40) (argsL := [(.ref a41), (.ref a42), (.int i1)]) (rest := [(.ref b40)]) (lenOf pd_18 rfl) rfl (Nat.le_of_eq rfl) (hb hby at_172) (fun _ _ => ⟨rfl, e42, (by decide : 18 ≤ _), (by decide : 180 ≤ _)⟩)
  dsimp only [Pt.U, Pt.locs, Pt.cells, Pt.slots] at X43 l43 y43 z43 st43 hQ43
  subst l43 y43 z43
  obtain ⟨rfl, N43q, K43, Fu43, Fv43⟩ := hQ43
  have N43 := Fr.app N39 N43q
  have KK43 : Keep h0 T43.heap [] := Keep.trans K42 K43 (allS (Or.inr sz_b40) all0)
  have C43 : CHr Z consts_1 s.vm s.heap T42.vm T43.heap := CHr.trans C42 (CHr.keep K43 (sfS (Safe.exa (EL := consts_1) (vm := T42.vm) hZ42.alike (Exa.ext E42 (Exa.ext E41 E_b40)) (by decide) (by decide)) sf0) C42.1)
  refine bW T43 (mkF m 175 #[vi sa, vi ia, vi c0, vi c1, vi c2, vi nn, vi bb, vr x0, vr x1, vr x2, vr b30, vi i0, vi i1, vi i2, vr b36, uu, uu, uu, uu, uu, uu, uu, uu] [(.ref b40)]) (fun _ k => st43.trans k) ?_
  refine bW T43 (mkF m 177 #[vi sa, vi ia, vi c0, vi c1, vi c2, vi nn, vi bb, vr x0, vr x1, vr x2, vr b30, vi i0, vi i1, vi i2, vr b36, vr b40, uu, uu, uu, uu, uu, uu, uu] []) (fun _ k => XS.astore X43.here hx rfl (hb hby at_175) rfl rfl rfl k) ?_
  obtain ⟨T44, h44, X44, e44, E44, A44, D44, -, st44⟩ := newO X43 hx hZ42 hown42 (hw _ (mo 85 rfl)) (hw _ (mo 86 rfl)) (hw _ (mo 87 rfl)) rfl (g := (mkF m 177 #[vi sa, vi ia, vi c0, vi c1, vi c2, vi nn, vi bb, vr x0, vr x1, vr x2, vr b30, vi i0, vi i1, vi i2, vr b36, vr b40, uu, uu, uu, uu, uu, uu, uu] [])) rfl (hb hby at_177) (by decide) (by decide)
  obtain ⟨b44, g44⟩ : ∃ z, z = T43.heap.size := ⟨_, rfl⟩
  rw [← g44] at A44 D44 st44
  have E_b44 : Exa Z h44 b44 sA := A44
  have F_unit_b44 : Fld Z h44 b44 sA "unit" "I" (ii 0) := D44 (Or.inl (hw _ (mo 97 rfl))) (ty := .int) (by decide)
  have F_category_b44 : Fld Z h44 b44 sA "category" "Ljava/lang/String;" .null := D44 (Or.inr (hw _ (mo 99 rfl))) (ty := (.object sS)) (by decide)
  have F_type_b44 : Fld Z h44 b44 sA "type" "Ljava/lang/String;" .null := D44 (Or.inr (hw _ (mo 101 rfl))) (ty := (.object sS)) (by decide)
  have F_value_b44 : Fld Z h44 b44 sA "value" "I" (ii 0) := D44 (Or.inr (hw _ (mo 103 rfl))) (ty := .int) (by decide)
  have g_b44 : n0 ≤ b44 := Nat.le_trans (Nat.le_trans (Nat.le_trans (Nat.le_trans (Nat.le_trans (Nat.le_trans (Nat.le_trans (Nat.le_trans (Nat.le_trans (Nat.le_trans Z0 Kc.1) E36.1) E37.1) E38.1) K39.1) E40.1) E41.1) E42.1) K43.1) (Nat.le_of_eq g44.symm)
  have sz_b44 : h0.size ≤ b44 := Nat.le_trans KK43.1 (Nat.le_of_eq g44.symm)
  have K44 : Keep h0 h44 [] := Keep.ext KK43 E44
  have C44 : CHr Z consts_1 s.vm s.heap T42.vm h44 := CHr.trans C43 (CHr.ext E44 C43.1)
  refine bW T44 (mkF m 180 #[vi sa, vi ia, vi c0, vi c1, vi c2, vi nn, vi bb, vr x0, vr x1, vr x2, vr b30, vi i0, vi i1, vi i2, vr b36, vr b40, uu, uu, uu, uu, uu, uu, uu] [(.ref b44)]) (fun _ k => st44 _ k) ?_
  refine bW T44 (mkF m 181 #[vi sa, vi ia, vi c0, vi c1, vi c2, vi nn, vi bb, vr x0, vr x1, vr x2, vr b30, vi i0, vi i1, vi i2, vr b36, vr b40, uu, uu, uu, uu, uu, uu, uu] [(.ref b44), (.ref b44)]) (fun _ k => XS.dup X44.here hx rfl (hb hby at_180) rfl rfl k) ?_
  obtain ⟨a45, T45, h45, k45, b45, kb45, X45, e45, E45, hS45, hk45, hZ45, hown45, Ex45, Fc45, Fv45, V45, la45, lb45, Cq45, Lt45, D45, st45⟩ := ldcCH (s := s) (EL := consts_1) X44 hx hZ42 hown42 (hw _ (mo 105 rfl)) hwS e44 hS42 (Nat.le_trans (Nat.le_trans hk42 K43.1) E44.1) hEL (mo 5 rfl) C44.1 (vs := [(.int (70 : Int32)), (.int (97 : Int32)), (.int (99 : Int32)), (.int (116 : Int32)), (.int (111 : Int32)), (.int (114 : Int32)), (.int (32 : Int32)), (.int (86 : Int32)), (.int (97 : Int32)), (.int (108 : Int32)), (.int (117 : Int32)), (.int (101 : Int32))]) (z := (12 : Int32)) ⟨by decide, by decide⟩ (by decide) (by decide) (g := (mkF m 181 #[vi sa, vi ia, vi c0, vi c1, vi c2, vi nn, vi bb, vr x0, vr x1, vr x2, vr b30, vi i0, vi i1, vi i2, vr b36, vr b40, uu, uu, uu, uu, uu, uu, uu] [(.ref b44), (.ref b44)])) rfl (hb hby at_181) (n := 48) (by decide) (by decide) (by decide) (by decide)
  have C45 : CHr Z consts_1 s.vm s.heap T45.vm h45 := CHr.trans C44 Cq45
  have K45 : Keep h0 h45 [] := Keep.ext K44 E45
  refine bW T45 (mkF m 183 #[vi sa, vi ia, vi c0, vi c1, vi c2, vi nn, vi bb, vr x0, vr x1, vr x2, vr b30, vi i0, vi i1, vi i2, vr b36, vr b40, uu, uu, uu, uu, uu, uu, uu] [(.ref a45), (.ref b44), (.ref b44)]) (fun _ k => st45 _ k) ?_
  obtain ⟨a46, T46, h46, k46, b46, kb46, X46, e46, E46, hS46, hk46, hZ46, hown46, Ex46, Fc46, Fv46, V46, la46, lb46, Cq46, Lt46, D46, st46⟩ := ldcCH (s := s) (EL := consts_1) X45 hx hZ45 hown45 (hw _ (mo 106 rfl)) hwS e45 hS45 hk45 hEL (mo 6 rfl) C45.1 (vs := [(.int (99 : Int32))]) (z := (1 : Int32)) ⟨by decide, by decide⟩ (by decide) (by decide) (g := (mkF m 183 #[vi sa, vi ia, vi c0, vi c1, vi c2, vi nn, vi bb, vr x0, vr x1, vr x2, vr b30, vi i0, vi i1, vi i2, vr b36, vr b40, uu, uu, uu, uu, uu, uu, uu] [(.ref a45), (.ref b44), (.ref b44)])) rfl (hb hby at_183) (n := 4) (by decide) (by decide) (by decide) (by decide)
  have C46 : CHr Z consts_1 s.vm s.heap T46.vm h46 := CHr.trans C45 Cq46
  have K46 : Keep h0 h46 [] := Keep.ext K45 E46
  refine bW T46 (mkF m 185 #[vi sa, vi ia, vi c0, vi c1, vi c2, vi nn, vi bb, vr x0, vr x1, vr x2, vr b30, vi i0, vi i1, vi i2, vr b36, vr b40, uu, uu, uu, uu, uu, uu, uu] [(.ref a46), (.ref a45), (.ref b44), (.ref b44)]) (fun _ k => st46 _ k) ?_
  refine bW T46 (mkF m 187 #[vi sa, vi ia, vi c0, vi c1, vi c2, vi nn, vi bb, vr x0, vr x1, vr x2, vr b30, vi i0, vi i1, vi i2, vr b36, vr b40, uu, uu, uu, uu, uu, uu, uu] [(.int i2), (.ref a46), (.ref a45), (.ref b44), (.ref b44)]) (fun _ k => XS.iload X46.here hx rfl (hb hby at_185) rfl k) ?_
  obtain ⟨_, _, ⟨T47, L47, k47, n47⟩, -, X47, ⟨Lc47, hQ47, l47, y47, z47⟩, st47⟩ := X46.specialBack hx (y := yy14) rfl hown46 (mvT hZ46 (hw _ (mo 92 rfl))) (mvT hZ46 (hw _ (mo 93 rfl))) (mvT hZ46 (hw _ (mo 94 rfl))) (by decide) (backOf (W := 1) (coi l Z a0 hw [] b44 a45 a46 i2  h46 n0 (Nat.le_trans (Nat.le_trans (Nat.le_trans (Nat.le_trans (Nat.le_trans (Nat.le_trans (Nat.le_trans (Nat.le_trans (Nat.le_trans (Nat.le_trans (Nat.le_trans (Nat.le_trans Z0 Kc.1) E36.1) E37.1) E38.1) K39.1) E40.1) E41.1) E42.1) K43.1) E44.1) E45.1) E46.1) (Exa.ext E46 (Exa.ext E45 E_b44)) (Fld.ext E46 (Fld.ext E45 F_unit_b44)) (Fld.ext E46 (Fld.ext E45 F_category_b44)) (Fld.ext E46 (Fld.ext E45 F_type_b44)) (Fld.ext E46 (Fld.ext E45 F_value_b44)) g_b44) hZ46 (hw _ (mo 94 rfl)) (hw _ (mo 87 rfl)) (by decide) (by decide)) (g := (mkF m 187 #[vi sa, vi ia, vi c0, vi c1, vi c2, vi nn, vi bb, vr x0, vr x1, vr x2, vr b30, vi i0, vi i1, vi i2, vr b36, vr b40, uu, uu, uu, uu, uu, uu, uu] [(.int i2), (.ref a46), (.ref a45), (.ref b44), (.ref b44)])) rfl (by rw [hml]; rfl) (Steps.refl _) (a := b44) (argsL := [(.ref a45), (.ref a46), (.int i2)]) (rest := [(.ref b44)]) (lenOf pd_18 rfl) rfl (Nat.le_of_eq rfl) (hb hby at_187) (fun _ _ => ⟨rfl, e46, (by decide : 23 ≤ _), (by decide : 244 ≤ _)⟩)
  dsimp only [Pt.U, Pt.locs, Pt.cells, Pt.slots] at X47 l47 y47 z47 st47 hQ47
  subst l47 y47 z47
  obtain ⟨rfl, N47q, K47, Fu47, Fv47⟩ := hQ47
  have N47 := Fr.app N43 N47q
  have KK47 : Keep h0 T47.heap [] := Keep.trans K46 K47 (allS (Or.inr sz_b44) all0)
  have C47 : CHr Z consts_1 s.vm s.heap T46.vm T47.heap := CHr.trans C46 (CHr.keep K47 (sfS (Safe.exa (EL := consts_1) (vm := T46.vm) hZ46.alike (Exa.ext E46 (Exa.ext E45 E_b44)) (by decide) (by decide)) sf0) C46.1)
  refine bW T47 (mkF m 190 #[vi sa, vi ia, vi c0, vi c1, vi c2, vi nn, vi bb, vr x0, vr x1, vr x2, vr b30, vi i0, vi i1, vi i2, vr b36, vr b40, uu, uu, uu, uu, uu, uu, uu] [(.ref b44)]) (fun _ k => st47.trans k) ?_
  refine bW T47 (mkF m 192 #[vi sa, vi ia, vi c0, vi c1, vi c2, vi nn, vi bb, vr x0, vr x1, vr x2, vr b30, vi i0, vi i1, vi i2, vr b36, vr b40, vr b44, uu, uu, uu, uu, uu, uu] []) (fun _ k => XS.astore X47.here hx rfl (hb hby at_190) rfl rfl rfl k) ?_
  have ne185 : x0 ≠ b36 := (Nat.ne_of_lt (Nat.lt_of_lt_of_le Y3.lt (Nat.le_of_eq g36.symm)))
  have ne186 : x0 ≠ b40 := (Nat.ne_of_lt (Nat.lt_of_lt_of_le (Exa.keep (Exa.ext E38 (Exa.ext E37 (Exa.ext E36 Y3))) K39).lt (Nat.le_of_eq g40.symm)))
  have ne187 : x0 ≠ b44 := (Nat.ne_of_lt (Nat.lt_of_lt_of_le (Exa.keep (Exa.ext E42 (Exa.ext E41 (Exa.ext E40 (Exa.keep (Exa.ext E38 (Exa.ext E37 (Exa.ext E36 Y3))) K39)))) K43).lt (Nat.le_of_eq g44.symm)))
  have ne188 : t0 ≠ b36 := (Nat.ne_of_lt (Nat.lt_of_lt_of_le Y5.lt (Nat.le_of_eq g36.symm)))
  have ne189 : t0 ≠ b40 := (Nat.ne_of_lt (Nat.lt_of_lt_of_le (Arv.keep (Arv.ext (Arv.ext (Arv.ext Y5 E36) E37) E38) K39 (ninS ne188 nin0)).lt (Nat.le_of_eq g40.symm)))
  have ne190 : t0 ≠ b44 := (Nat.ne_of_lt (Nat.lt_of_lt_of_le (Arv.keep (Arv.ext (Arv.ext (Arv.ext (Arv.keep (Arv.ext (Arv.ext (Arv.ext Y5 E36) E37) E38) K39 (ninS ne188 nin0)) E40) E41) E42) K43 (ninS ne189 nin0)).lt (Nat.le_of_eq g44.symm)))
  have ne191 : x1 ≠ b36 := (Nat.ne_of_lt (Nat.lt_of_lt_of_le Y6.lt (Nat.le_of_eq g36.symm)))
  have ne192 : x1 ≠ b40 := (Nat.ne_of_lt (Nat.lt_of_lt_of_le (Exa.keep (Exa.ext E38 (Exa.ext E37 (Exa.ext E36 Y6))) K39).lt (Nat.le_of_eq g40.symm)))
  have ne193 : x1 ≠ b44 := (Nat.ne_of_lt (Nat.lt_of_lt_of_le (Exa.keep (Exa.ext E42 (Exa.ext E41 (Exa.ext E40 (Exa.keep (Exa.ext E38 (Exa.ext E37 (Exa.ext E36 Y6))) K39)))) K43).lt (Nat.le_of_eq g44.symm)))
  have ne194 : t1 ≠ b36 := (Nat.ne_of_lt (Nat.lt_of_lt_of_le Y8.lt (Nat.le_of_eq g36.symm)))
  have ne195 : t1 ≠ b40 := (Nat.ne_of_lt (Nat.lt_of_lt_of_le (Arv.keep (Arv.ext (Arv.ext (Arv.ext Y8 E36) E37) E38) K39 (ninS ne194 nin0)).lt (Nat.le_of_eq g40.symm)))
  have ne196 : t1 ≠ b44 := (Nat.ne_of_lt (Nat.lt_of_lt_of_le (Arv.keep (Arv.ext (Arv.ext (Arv.ext (Arv.keep (Arv.ext (Arv.ext (Arv.ext Y8 E36) E37) E38) K39 (ninS ne194 nin0)) E40) E41) E42) K43 (ninS ne195 nin0)).lt (Nat.le_of_eq g44.symm)))
  have ne197 : x2 ≠ b36 := (Nat.ne_of_lt (Nat.lt_of_lt_of_le Y9.lt (Nat.le_of_eq g36.symm)))
  have ne198 : x2 ≠ b40 := (Nat.ne_of_lt (Nat.lt_of_lt_of_le (Exa.keep (Exa.ext E38 (Exa.ext E37 (Exa.ext E36 Y9))) K39).lt (Nat.le_of_eq g40.symm)))
  have ne199 : x2 ≠ b44 := (Nat.ne_of_lt (Nat.lt_of_lt_of_le (Exa.keep (Exa.ext E42 (Exa.ext E41 (Exa.ext E40 (Exa.keep (Exa.ext E38 (Exa.ext E37 (Exa.ext E36 Y9))) K39)))) K43).lt (Nat.le_of_eq g44.symm)))
  have ne200 : t2 ≠ b36 := (Nat.ne_of_lt (Nat.lt_of_lt_of_le Y11.lt (Nat.le_of_eq g36.symm)))
  have ne201 : t2 ≠ b40 := (Nat.ne_of_lt (Nat.lt_of_lt_of_le (Arv.keep (Arv.ext (Arv.ext (Arv.ext Y11 E36) E37) E38) K39 (ninS ne200 nin0)).lt (Nat.le_of_eq g40.symm)))
  have ne202 : t2 ≠ b44 := (Nat.ne_of_lt (Nat.lt_of_lt_of_le (Arv.keep (Arv.ext (Arv.ext (Arv.ext (Arv.keep (Arv.ext (Arv.ext (Arv.ext Y11 E36) E37) E38) K39 (ninS ne200 nin0)) E40) E41) E42) K43 (ninS ne201 nin0)).lt (Nat.le_of_eq g44.symm)))
  have ne203 : b30 ≠ b36 := (Nat.ne_of_lt (Nat.lt_of_lt_of_le Y12.lt (Nat.le_of_eq g36.symm)))
  have ne204 : b30 ≠ b40 := (Nat.ne_of_lt (Nat.lt_of_lt_of_le (Exa.keep (Exa.ext E38 (Exa.ext E37 (Exa.ext E36 Y12))) K39).lt (Nat.le_of_eq g40.symm)))
  have ne205 : b30 ≠ b44 := (Nat.ne_of_lt (Nat.lt_of_lt_of_le (Exa.keep (Exa.ext E42 (Exa.ext E41 (Exa.ext E40 (Exa.keep (Exa.ext E38 (Exa.ext E37 (Exa.ext E36 Y12))) K39)))) K43).lt (Nat.le_of_eq g44.symm)))
  have ne206 : d32 ≠ b36 := (Nat.ne_of_lt (Nat.lt_of_lt_of_le Y16.lt (Nat.le_of_eq g36.symm)))
  have ne207 : d32 ≠ b40 := (Nat.ne_of_lt (Nat.lt_of_lt_of_le (Arv.keep (Arv.ext (Arv.ext (Arv.ext Y16 E36) E37) E38) K39 (ninS ne206 nin0)).lt (Nat.le_of_eq g40.symm)))
  have ne208 : d32 ≠ b44 := (Nat.ne_of_lt (Nat.lt_of_lt_of_le (Arv.keep (Arv.ext (Arv.ext (Arv.ext (Arv.keep (Arv.ext (Arv.ext (Arv.ext Y16 E36) E37) E38) K39 (ninS ne206 nin0)) E40) E41) E42) K43 (ninS ne207 nin0)).lt (Nat.le_of_eq g44.symm)))
  have ne209 : b36 ≠ b40 := (Nat.ne_of_lt (Nat.lt_of_lt_of_le (Exa.keep (Exa.ext E38 (Exa.ext E37 E_b36)) K39).lt (Nat.le_of_eq g40.symm)))
  have ne210 : b36 ≠ b44 := (Nat.ne_of_lt (Nat.lt_of_lt_of_le (Exa.keep (Exa.ext E42 (Exa.ext E41 (Exa.ext E40 (Exa.keep (Exa.ext E38 (Exa.ext E37 E_b36)) K39)))) K43).lt (Nat.le_of_eq g44.symm)))
  have ne211 : b40 ≠ b44 := (Nat.ne_of_lt (Nat.lt_of_lt_of_le (Exa.keep (Exa.ext E42 (Exa.ext E41 E_b40)) K43).lt (Nat.le_of_eq g44.symm)))
  exact rm0_c5 (h1 := T47.heap) (T1 := T47) (vm1 := T46.vm) hw X47 rfl KK47 N47 Z0 (Old.keep (Old.ext (Old.ext (Old.ext (Old.keep (Old.ext (Old.ext (Old.ext (Old.keep (Old.ext (Old.ext (Old.ext O0 E36) E37) E38) K39 (allS g_b36 all0)) E40) E41) E42) K43 (allS g_b40 all0)) E44) E45) E46) K47 (allS g_b44 all0)) S_DE V_aD hZ46 hown46 hS46 (Nat.le_trans hk46 K47.1) C47 hx hby hml hlk hrt (Exa.keep (Exa.ext E46 (Exa.ext E45 (Exa.ext E44 (Exa.keep (Exa.ext E42 (Exa.ext E41 (Exa.ext E40 (Exa.keep (Exa.ext E38 (Exa.ext E37 (Exa.ext E36 Y3))) K39)))) K43)))) K47) (Fld.keep (Fld.ext E46 (Fld.ext E45 (Fld.ext E44 (Fld.keep (Fld.ext E42 (Fld.ext E41 (Fld.ext E40 (Fld.keep (Fld.ext E38 (Fld.ext E37 (Fld.ext E36 Y4))) K39 (ninS ne185 nin0))))) K43 (ninS ne186 nin0))))) K47 (ninS ne187 nin0)) (Arv.keep (Arv.ext (Arv.ext (Arv.ext (Arv.keep (Arv.ext (Arv.ext (Arv.ext (Arv.keep (Arv.ext (Arv.ext (Arv.ext Y5 E36) E37) E38) K39 (ninS ne188 nin0)) E40) E41) E42) K43 (ninS ne189 nin0)) E44) E45) E46) K47 (ninS ne190 nin0)) (Exa.keep (Exa.ext E46 (Exa.ext E45 (Exa.ext E44 (Exa.keep (Exa.ext E42 (Exa.ext E41 (Exa.ext E40 (Exa.keep (Exa.ext E38 (Exa.ext E37 (Exa.ext E36 Y6))) K39)))) K43)))) K47) (Fld.keep (Fld.ext E46 (Fld.ext E45 (Fld.ext E44 (Fld.keep (Fld.ext E42 (Fld.ext E41 (Fld.ext E40 (Fld.keep (Fld.ext E38 (Fld.ext E37 (Fld.ext E36 Y7))) K39 (ninS ne191 nin0))))) K43 (ninS ne192 nin0))))) K47 (ninS ne193 nin0)) (Arv.keep (Arv.ext (Arv.ext (Arv.ext (Arv.keep (Arv.ext (Arv.ext (Arv.ext (Arv.keep (Arv.ext (Arv.ext (Arv.ext Y8 E36) E37) E38) K39 (ninS ne194 nin0)) E40) E41) E42) K43 (ninS ne195 nin0)) E44) E45) E46) K47 (ninS ne196 nin0)) (Exa.keep (Exa.ext E46 (Exa.ext E45 (Exa.ext E44 (Exa.keep (Exa.ext E42 (Exa.ext E41 (Exa.ext E40 (Exa.keep (Exa.ext E38 (Exa.ext E37 (Exa.ext E36 Y9))) K39)))) K43)))) K47) (Fld.keep (Fld.ext E46 (Fld.ext E45 (Fld.ext E44 (Fld.keep (Fld.ext E42 (Fld.ext E41 (Fld.ext E40 (Fld.keep (Fld.ext E38 (Fld.ext E37 (Fld.ext E36 Y10))) K39 (ninS ne197 nin0))))) K43 (ninS ne198 nin0))))) K47 (ninS ne199 nin0)) (Arv.keep (Arv.ext (Arv.ext (Arv.ext (Arv.keep (Arv.ext (Arv.ext (Arv.ext (Arv.keep (Arv.ext (Arv.ext (Arv.ext Y11 E36) E37) E38) K39 (ninS ne200 nin0)) E40) E41) E42) K43 (ninS ne201 nin0)) E44) E45) E46) K47 (ninS ne202 nin0)) (Exa.keep (Exa.ext E46 (Exa.ext E45 (Exa.ext E44 (Exa.keep (Exa.ext E42 (Exa.ext E41 (Exa.ext E40 (Exa.keep (Exa.ext E38 (Exa.ext E37 (Exa.ext E36 Y12))) K39)))) K43)))) K47) (Fld.keep (Fld.ext E46 (Fld.ext E45 (Fld.ext E44 (Fld.keep (Fld.ext E42 (Fld.ext E41 (Fld.ext E40 (Fld.keep (Fld.ext E38 (Fld.ext E37 (Fld.ext E36 Y14))) K39 (ninS ne203 nin0))))) K43 (ninS ne204 nin0))))) K47 (ninS ne205 nin0)) (Fld.keep (Fld.ext E46 (Fld.ext E45 (Fld.ext E44 (Fld.keep (Fld.ext E42 (Fld.ext E41 (Fld.ext E40 (Fld.keep (Fld.ext E38 (Fld.ext E37 (Fld.ext E36 Y15))) K39 (ninS ne203 nin0))))) K43 (ninS ne204 nin0))))) K47 (ninS ne205 nin0)) (Arv.keep (Arv.ext (Arv.ext (Arv.ext (Arv.keep (Arv.ext (Arv.ext (Arv.ext (Arv.keep (Arv.ext (Arv.ext (Arv.ext Y16 E36) E37) E38) K39 (ninS ne206 nin0)) E40) E41) E42) K43 (ninS ne207 nin0)) E44) E45) E46) K47 (ninS ne208 nin0)) (Exa.keep (Exa.ext E46 (Exa.ext E45 (Exa.ext E44 (Exa.keep (Exa.ext E42 (Exa.ext E41 (Exa.ext E40 (Exa.keep (Exa.ext E38 (Exa.ext E37 E_b36)) K39)))) K43)))) K47) (Fld.keep (Fld.ext E46 (Fld.ext E45 (Fld.ext E44 (Fld.keep (Fld.ext E42 (Fld.ext E41 (Fld.ext E40 Fu39))) K43 (ninS ne209 nin0))))) K47 (ninS ne210 nin0)) (Fld.keep (Fld.ext E46 (Fld.ext E45 (Fld.ext E44 (Fld.keep (Fld.ext E42 (Fld.ext E41 (Fld.ext E40 Fv39))) K43 (ninS ne209 nin0))))) K47 (ninS ne210 nin0)) (Exa.keep (Exa.ext E46 (Exa.ext E45 (Exa.ext E44 (Exa.keep (Exa.ext E42 (Exa.ext E41 E_b40)) K43)))) K47) (Fld.keep (Fld.ext E46 (Fld.ext E45 (Fld.ext E44 Fu43))) K47 (ninS ne211 nin0)) (Fld.keep (Fld.ext E46 (Fld.ext E45 (Fld.ext E44 Fv43))) K47 (ninS ne211 nin0)) (Exa.keep (Exa.ext E46 (Exa.ext E45 E_b44)) K47) Fu47 Fv47 hnn hz0 hz1 hz2 hi0 hi1 hi2
theorem rm0_c3 {l : _} {Z : State} {a0 : Array Value} (hw : HW Z a0) {sa : Int32} {ia : Int32} {c0 : Int32} {c1 : Int32} {c2 : Int32} {cs : Int32} {aD : Addr} {kD : ClassId} {h0 : Heap} {n0 : Nat} {p : _} {e : _} {s : State} {m : _} {below : _} {meth : _} {c : _} {h1 : Heap} {T1 : State} {Lc : List Loc} {vm1 : Vm} {ks1 : Nat} {x0 : Addr} {t0 : Addr} {q0 : ClassId} {z0 : Int32} {v0 : List Value} {x1 : Addr} {t1 : Addr} {q1 : ClassId} {z1 : Int32} {v1 : List Value} {x2 : Addr} {t2 : Addr} {q2 : ClassId} {z2 : Int32} {v2 : List Value} {nn : Int32} {bb : Int32} (X1 : Stand p l e room_1 (s.setVm vm1) m #[(.int sa), (.int ia), (.int c0), (.int c1), (.int c2)] below meth c T1 Lc 6 15) (e1 : T1.heap = h1) (Kc : Keep h0 h1 []) (Nc : Fr n0 Lc) (Z0 : n0 ≤ h0.size) (O0 : Old Z n0 h1) (S_DE : Sta Z Z.heap sL "DEFAULTCAPACITY_EMPTY_ELEMENTDATA" "[Ljava/lang/Object;" (.ref aD)) (V_aD : Arv Z Z.heap aD kD (.object sO) (0 : Int32) [] .null) (hZ1 : Z.Warmed39 (s.setVm vm1).vm) (hown1 : (s.setVm vm1).vm.findClass "com/example/nisaba/nisaba/isatab/ValuesFirstGivenPinLaw" = some m.cls) (hS1 : s.Since vm1 ks1) (hk1 : ks1 ≤ h1.size) (C1 : CHr Z consts_1 s.vm s.heap vm1 h1) (hx : p.tables.exec = Jvm.exec) (hby : c.code = code) (hml : c.maxLocals = 23) (hlk : meth.locks = false) (hrt : meth.sig.returnType = (some .boolean)) (Y3 : Exa Z h1 x0 sS) (Y4 : Fld Z h1 x0 sS "value" "[B" (.ref t0)) (Y5 : Arv Z h1 t0 q0 .byte z0 v0 (ii 0)) (Y6 : Exa Z h1 x1 sS) (Y7 : Fld Z h1 x1 sS "value" "[B" (.ref t1)) (Y8 : Arv Z h1 t1 q1 .byte z1 v1 (ii 0)) (Y9 : Exa Z h1 x2 sS) (Y10 : Fld Z h1 x2 sS "value" "[B" (.ref t2)) (Y11 : Arv Z h1 t2 q2 .byte z2 v2 (ii 0)) (hnn : nn = 0 ∨ nn = 1 ∨ nn = 2 ∨ nn = 3) (hz0 : z0 = own_z bb (0 : Int32)) (hz1 : z1 = own_z bb (1 : Int32)) (hz2 : z2 = own_z bb (2 : Int32)) :
    own_GoW p.tables e below Z consts_1 (Q_rm0 Z sa ia c0 c1 c2 cs aD kD h0 n0) s 64 7488 T1 (mkF m 89 #[vi sa, vi ia, vi c0, vi c1, vi c2, vi nn, vi bb, vr x0, vr x1, vr x2, uu, uu, uu, uu, uu, uu, uu, uu, uu, uu, uu, uu, uu] []) := by
  obtain ⟨T30, h30, X30, e30, E30, A30, D30, -, st30⟩ := newO X1 hx hZ1 hown1 (hw _ (mo 30 rfl)) (hw _ (mo 31 rfl)) (hw _ (mo 32 rfl)) e1 (g := (mkF m 89 #[vi sa, vi ia, vi c0, vi c1, vi c2, vi nn, vi bb, vr x0, vr x1, vr x2, uu, uu, uu, uu, uu, uu, uu, uu, uu, uu, uu, uu, uu] [])) rfl (hb hby at_89) (by decide) (by decide)
  obtain ⟨b30, g30⟩ : ∃ z, z = h1.size := ⟨_, rfl⟩
  rw [← g30] at A30 D30 st30
  have E_b30 : Exa Z h30 b30 sL := A30
  have F_modCount_b30 : Fld Z h30 b30 sB "modCount" "I" (ii 0) := D30 (Or.inl (hw _ (mo 50 rfl))) (ty := .int) (by decide)
  have F_elementData_b30 : Fld Z h30 b30 sL "elementData" sE .null := D30 (Or.inl (hw _ (mo 53 rfl))) (ty := (.array (.object sO))) (by decide)
  have F_size_b30 : Fld Z h30 b30 sL "size" "I" (ii 0) := D30 (Or.inl (hw _ (mo 62 rfl))) (ty := .int) (by decide)
  have g_b30 : n0 ≤ b30 := Nat.le_trans (Nat.le_trans Z0 Kc.1) (Nat.le_of_eq g30.symm)
  have sz_b30 : h0.size ≤ b30 := Nat.le_trans Kc.1 (Nat.le_of_eq g30.symm)
  have K30 : Keep h0 h30 [] := Keep.ext Kc E30
  have C30 : CHr Z consts_1 s.vm s.heap vm1 h30 := CHr.trans C1 (CHr.ext E30 C1.1)
  refine bW T30 (mkF m 92 #[vi sa, vi ia, vi c0, vi c1, vi c2, vi nn, vi bb, vr x0, vr x1, vr x2, uu, uu, uu, uu, uu, uu, uu, uu, uu, uu, uu, uu, uu] [(.ref b30)]) (fun _ k => st30 _ k) ?_
  refine bW T30 (mkF m 93 #[vi sa, vi ia, vi c0, vi c1, vi c2, vi nn, vi bb, vr x0, vr x1, vr x2, uu, uu, uu, uu, uu, uu, uu, uu, uu, uu, uu, uu, uu] [(.ref b30), (.ref b30)]) (fun _ k => XS.dup X30.here hx rfl (hb hby at_92) rfl rfl k) ?_
  obtain ⟨_, _, ⟨T31, L31, k31, n31⟩, -, X31, ⟨Lc31, hQ31, l31, y31, z31⟩, st31⟩ := X30.specialBack hx (y := yy8) rfl hown1 (mvT hZ1 (hw _ (mo 33 rfl))) (mvT hZ1 (hw _ (mo 34 rfl))) (mvT hZ1 (hw _ (mo 35 rfl))) (by decide) (backOf (W := 1) (ali l Z a0 hw [] b30 aD h30 n0 (Nat.le_trans (Nat.le_trans Z0 Kc.1) E30.1) (Old.ext O0 E30) E_b30 F_modCount_b30 F_elementData_b30 F_size_b30 g_b30 S_DE) hZ1 (hw _ (mo 35 rfl)) (hw _ (mo 32 rfl)) (by decide) (by decide)) (g := (mkF m 93 #[vi sa, vi ia, vi c0, vi c1, vi c2, vi nn, vi bb, vr x0, vr x1, vr x2, uu, uu, uu, uu, uu, uu, uu, uu, uu, uu, uu, uu, uu] [(.ref b30), (.ref b30)])) rfl (by rw [hml]; rfl) (Steps.refl _) (a := b30) (argsL := []) (rest := [(.ref b30)]) (lenOf pd_3 rfl) rfl (Nat.le_of_eq rfl) (hb hby at_93) (fun _ _ => ⟨rfl, e30, (by decide : 7 ≤ _), (by decide : 18 ≤ _)⟩)
  dsimp only [Pt.U, Pt.locs, Pt.cells, Pt.slots] at X31 l31 y31 z31 st31 hQ31
  subst l31 y31 z31
  obtain ⟨rfl, N31q, K31, Fm31, Fe31, Fz31⟩ := hQ31
  have N31 := Fr.app Nc N31q
  have KK31 : Keep h0 T31.heap [] := Keep.trans K30 K31 (allS (Or.inr sz_b30) all0)
  have C31 : CHr Z consts_1 s.vm s.heap vm1 T31.heap := CHr.trans C30 (CHr.keep K31 (sfS (Safe.exa (EL := consts_1) (vm := vm1) hZ1.alike E_b30 (by decide) (by decide)) sf0) C30.1)
  refine bW T31 (mkF m 96 #[vi sa, vi ia, vi c0, vi c1, vi c2, vi nn, vi bb, vr x0, vr x1, vr x2, uu, uu, uu, uu, uu, uu, uu, uu, uu, uu, uu, uu, uu] [(.ref b30)]) (fun _ k => st31.trans k) ?_
  refine bW T31 (mkF m 98 #[vi sa, vi ia, vi c0, vi c1, vi c2, vi nn, vi bb, vr x0, vr x1, vr x2, vr b30, uu, uu, uu, uu, uu, uu, uu, uu, uu, uu, uu, uu] []) (fun _ k => XS.astore X31.here hx rfl (hb hby at_96) rfl rfl rfl k) ?_
  refine bW T31 (mkF m 100 #[vi sa, vi ia, vi c0, vi c1, vi c2, vi nn, vi bb, vr x0, vr x1, vr x2, vr b30, uu, uu, uu, uu, uu, uu, uu, uu, uu, uu, uu, uu] [(.ref b30)]) (fun _ k => XS.aload X31.here hx rfl (hb hby at_98) rfl rfl k) ?_
  refine bW T31 (mkF m 102 #[vi sa, vi ia, vi c0, vi c1, vi c2, vi nn, vi bb, vr x0, vr x1, vr x2, vr b30, uu, uu, uu, uu, uu, uu, uu, uu, uu, uu, uu, uu] [(.ref x0), (.ref b30)]) (fun _ k => XS.aload X31.here hx rfl (hb hby at_100) rfl rfl k) ?_
  obtain ⟨cq32, kq32, q32a, q32b, q32c⟩ := isOf hZ1 rfl (Exa.keep E_b30 K31)
  obtain ⟨_, _, ⟨T32, L32, k32, n32⟩, -, X32, ⟨Lc32, hQ32, l32, y32, z32⟩, st32⟩ := X31.virtualBack hx (y := yy13) (z := yy13) hown1 (mvT hZ1 (hw _ (mo 54 rfl))) (mvT hZ1 (hw _ (mo 55 rfl))) (notFace_of_selects (args := #[]) (mvT hZ1 (hw _ (mo 57 rfl)))) (mvT hZ1 (hw _ (mo 57 rfl))) (mvT hZ1 (hw _ (mo 56 rfl))) (by decide) (backOf (W := 0) (ad1s_0 l Z a0 hw [] b30 x0 aD kD sS T31.heap n0 (Nat.le_trans (Nat.le_trans (Nat.le_trans Z0 Kc.1) E30.1) K31.1) (Old.keep (Old.ext O0 E30) K31 (allS g_b30 all0)) (Exa.keep E_b30 K31) Fm31 Fe31 Fz31 g_b30 S_DE V_aD (Exa.keep (Exa.ext E30 Y3) K31) (hw _ (mo 84 rfl))) hZ1 (hw _ (mo 58 rfl)) (hw _ (mo 32 rfl)) (by decide) (by decide)) q32a q32c (g := (mkF m 102 #[vi sa, vi ia, vi c0, vi c1, vi c2, vi nn, vi bb, vr x0, vr x1, vr x2, vr b30, uu, uu, uu, uu, uu, uu, uu, uu, uu, uu, uu, uu] [(.ref x0), (.ref b30)])) rfl (by rw [hml]; rfl) (Steps.refl _) (argsL := [(.ref x0)]) (rest := []) (lenOf pd_15 rfl) rfl (Nat.le_of_eq rfl) (hb hby at_102) (fun _ _ => ⟨rfl, rfl, (by decide : 8 ≤ _), (by decide : 28 ≤ _)⟩)
  dsimp only [Pt.U, Pt.locs, Pt.cells, Pt.slots] at X32 l32 y32 z32 st32 hQ32
  subst l32 y32 z32
  obtain ⟨rfl, N32q, K32, d32, kd32, zd32, Fm32, Fe32, Fz32, V32, O32⟩ := hQ32
  have N32 := Fr.app N31 N32q
  have KK32 : Keep h0 T32.heap [] := Keep.trans KK31 K32 (allS (Or.inr sz_b30) all0)
  have C32 : CHr Z consts_1 s.vm s.heap vm1 T32.heap := CHr.trans C31 (CHr.keep K32 (sfS (Safe.exa (EL := consts_1) (vm := vm1) hZ1.alike (Exa.keep E_b30 K31) (by decide) (by decide)) sf0) C31.1)
  have sz_d32 : h0.size ≤ d32 := Nat.le_trans KK31.1 zd32
  have g_d32 : n0 ≤ d32 := Nat.le_trans Z0 sz_d32
  refine bW T32 (mkF m 105 #[vi sa, vi ia, vi c0, vi c1, vi c2, vi nn, vi bb, vr x0, vr x1, vr x2, vr b30, uu, uu, uu, uu, uu, uu, uu, uu, uu, uu, uu, uu] [(.int (1 : Int32))]) (fun _ k => st32.trans k) ?_
  refine bW T32 (mkF m 106 #[vi sa, vi ia, vi c0, vi c1, vi c2, vi nn, vi bb, vr x0, vr x1, vr x2, vr b30, uu, uu, uu, uu, uu, uu, uu, uu, uu, uu, uu, uu] []) (fun _ k => XS.pop X32.here hx rfl (hb hby at_105) rfl rfl k) ?_
  refine bW T32 (mkF m 108 #[vi sa, vi ia, vi c0, vi c1, vi c2, vi nn, vi bb, vr x0, vr x1, vr x2, vr b30, uu, uu, uu, uu, uu, uu, uu, uu, uu, uu, uu, uu] [(.ref b30)]) (fun _ k => XS.aload X32.here hx rfl (hb hby at_106) rfl rfl k) ?_
  refine bW T32 (mkF m 110 #[vi sa, vi ia, vi c0, vi c1, vi c2, vi nn, vi bb, vr x0, vr x1, vr x2, vr b30, uu, uu, uu, uu, uu, uu, uu, uu, uu, uu, uu, uu] [(.ref x1), (.ref b30)]) (fun _ k => XS.aload X32.here hx rfl (hb hby at_108) rfl rfl k) ?_
  have ne33 : b30 ≠ d32 := (Nat.ne_of_lt (Nat.lt_of_lt_of_le ((Exa.keep E_b30 K31)).lt zd32))
  obtain ⟨cq34, kq34, q34a, q34b, q34c⟩ := isOf hZ1 rfl (Exa.keep (Exa.keep E_b30 K31) K32)
  obtain ⟨_, _, ⟨T34, L34, k34, n34⟩, -, X34, ⟨Lc34, hQ34, l34, y34, z34⟩, st34⟩ := X32.virtualBack hx (y := yy13) (z := yy13) hown1 (mvT hZ1 (hw _ (mo 54 rfl))) (mvT hZ1 (hw _ (mo 55 rfl))) (notFace_of_selects (args := #[]) (mvT hZ1 (hw _ (mo 57 rfl)))) (mvT hZ1 (hw _ (mo 57 rfl))) (mvT hZ1 (hw _ (mo 56 rfl))) (by decide) (backOf (W := 0) (ad1s_1 l Z a0 hw [] b30 x1 d32 kd32 x0 sS T32.heap n0 (Nat.le_trans (Nat.le_trans (Nat.le_trans (Nat.le_trans Z0 Kc.1) E30.1) K31.1) K32.1) (Exa.keep (Exa.keep E_b30 K31) K32) Fm32 Fe32 Fz32 g_b30 V32 O32 g_d32 ne33 (Exa.keep (Exa.keep (Exa.ext E30 Y6) K31) K32) (hw _ (mo 84 rfl))) hZ1 (hw _ (mo 58 rfl)) (hw _ (mo 32 rfl)) (by decide) (by decide)) q34a q34c (g := (mkF m 110 #[vi sa, vi ia, vi c0, vi c1, vi c2, vi nn, vi bb, vr x0, vr x1, vr x2, vr b30, uu, uu, uu, uu, uu, uu, uu, uu, uu, uu, uu, uu] [(.ref x1), (.ref b30)])) rfl (by rw [hml]; rfl) (Steps.refl _) (argsL := [(.ref x1)]) (rest := []) (lenOf pd_15 rfl) rfl (Nat.le_of_eq rfl) (hb hby at_110) (fun _ _ => ⟨rfl, rfl, (by decide : 8 ≤ _), (by decide : 28 ≤ _)⟩)
  dsimp only [Pt.U, Pt.locs, Pt.cells, Pt.slots] at X34 l34 y34 z34 st34 hQ34
  subst l34 y34 z34
  obtain ⟨rfl, N34q, K34, Fm34, Fe34, Fz34, V34⟩ := hQ34
  have N34 := Fr.app N32 N34q
  have KK34 : Keep h0 T34.heap [] := Keep.trans KK32 K34 (allS (Or.inr sz_b30) (allS (Or.inr sz_d32) all0))
  have C34 : CHr Z consts_1 s.vm s.heap vm1 T34.heap := CHr.trans C32 (CHr.keep K34 (sfS (Safe.exa (EL := consts_1) (vm := vm1) hZ1.alike (Exa.keep (Exa.keep E_b30 K31) K32) (by decide) (by decide)) (sfS (Safe.arv (EL := consts_1) (vm := vm1) hZ1.alike V32 (by decide)) sf0)) C32.1)
  refine bW T34 (mkF m 113 #[vi sa, vi ia, vi c0, vi c1, vi c2, vi nn, vi bb, vr x0, vr x1, vr x2, vr b30, uu, uu, uu, uu, uu, uu, uu, uu, uu, uu, uu, uu] [(.int (1 : Int32))]) (fun _ k => st34.trans k) ?_
  refine bW T34 (mkF m 114 #[vi sa, vi ia, vi c0, vi c1, vi c2, vi nn, vi bb, vr x0, vr x1, vr x2, vr b30, uu, uu, uu, uu, uu, uu, uu, uu, uu, uu, uu, uu] []) (fun _ k => XS.pop X34.here hx rfl (hb hby at_113) rfl rfl k) ?_
  refine bW T34 (mkF m 116 #[vi sa, vi ia, vi c0, vi c1, vi c2, vi nn, vi bb, vr x0, vr x1, vr x2, vr b30, uu, uu, uu, uu, uu, uu, uu, uu, uu, uu, uu, uu] [(.ref b30)]) (fun _ k => XS.aload X34.here hx rfl (hb hby at_114) rfl rfl k) ?_
  refine bW T34 (mkF m 118 #[vi sa, vi ia, vi c0, vi c1, vi c2, vi nn, vi bb, vr x0, vr x1, vr x2, vr b30, uu, uu, uu, uu, uu, uu, uu, uu, uu, uu, uu, uu] [(.ref x2), (.ref b30)]) (fun _ k => XS.aload X34.here hx rfl (hb hby at_116) rfl rfl k) ?_
  obtain ⟨cq35, kq35, q35a, q35b, q35c⟩ := isOf hZ1 rfl (Exa.keep (Exa.keep (Exa.keep E_b30 K31) K32) K34)
  obtain ⟨_, _, ⟨T35, L35, k35, n35⟩, -, X35, ⟨Lc35, hQ35, l35, y35, z35⟩, st35⟩ := X34.virtualBack hx (y := yy13) (z := yy13) hown1 (mvT hZ1 (hw _ (mo 54 rfl))) (mvT hZ1 (hw _ (mo 55 rfl))) (notFace_of_selects (args := #[]) (mvT hZ1 (hw _ (mo 57 rfl)))) (mvT hZ1 (hw _ (mo 57 rfl))) (mvT hZ1 (hw _ (mo 56 rfl))) (by decide) (backOf (W := 0) (ad1s_2 l Z a0 hw [] b30 x2 d32 kd32 x0 x1 sS T34.heap n0 (Nat.le_trans (Nat.le_trans (Nat.le_trans (Nat.le_trans (Nat.le_trans Z0 Kc.1) E30.1) K31.1) K32.1) K34.1) (Exa.keep (Exa.keep (Exa.keep E_b30 K31) K32) K34) Fm34 Fe34 Fz34 g_b30 V34 O32 g_d32 ne33 (Exa.keep (Exa.keep (Exa.keep (Exa.ext E30 Y9) K31) K32) K34) (hw _ (mo 84 rfl))) hZ1 (hw _ (mo 58 rfl)) (hw _ (mo 32 rfl)) (by decide) (by decide)) q35a q35c (g := (mkF m 118 #[vi sa, vi ia, vi c0, vi c1, vi c2, vi nn, vi bb, vr x0, vr x1, vr x2, vr b30, uu, uu, uu, uu, uu, uu, uu, uu, uu, uu, uu, uu] [(.ref x2), (.ref b30)])) rfl (by rw [hml]; rfl) (Steps.refl _) (argsL := [(.ref x2)]) (rest := []) (lenOf pd_15 rfl) rfl (Nat.le_of_eq rfl) (hb hby at_118) (fun _ _ => ⟨rfl, rfl, (by decide : 8 ≤ _), (by decide : 28 ≤ _)⟩)
  dsimp only [Pt.U, Pt.locs, Pt.cells, Pt.slots] at X35 l35 y35 z35 st35 hQ35
  subst l35 y35 z35
  obtain ⟨rfl, N35q, K35, Fm35, Fe35, Fz35, V35⟩ := hQ35
  have N35 := Fr.app N34 N35q
  have KK35 : Keep h0 T35.heap [] := Keep.trans KK34 K35 (allS (Or.inr sz_b30) (allS (Or.inr sz_d32) all0))
  have C35 : CHr Z consts_1 s.vm s.heap vm1 T35.heap := CHr.trans C34 (CHr.keep K35 (sfS (Safe.exa (EL := consts_1) (vm := vm1) hZ1.alike (Exa.keep (Exa.keep (Exa.keep E_b30 K31) K32) K34) (by decide) (by decide)) (sfS (Safe.arv (EL := consts_1) (vm := vm1) hZ1.alike V34 (by decide)) sf0)) C34.1)
  refine bW T35 (mkF m 121 #[vi sa, vi ia, vi c0, vi c1, vi c2, vi nn, vi bb, vr x0, vr x1, vr x2, vr b30, uu, uu, uu, uu, uu, uu, uu, uu, uu, uu, uu, uu] [(.int (1 : Int32))]) (fun _ k => st35.trans k) ?_
  refine bW T35 (mkF m 122 #[vi sa, vi ia, vi c0, vi c1, vi c2, vi nn, vi bb, vr x0, vr x1, vr x2, vr b30, uu, uu, uu, uu, uu, uu, uu, uu, uu, uu, uu, uu] []) (fun _ k => XS.pop X35.here hx rfl (hb hby at_121) rfl rfl k) ?_
  refine bW T35 (mkF m 123 #[vi sa, vi ia, vi c0, vi c1, vi c2, vi nn, vi bb, vr x0, vr x1, vr x2, vr b30, uu, uu, uu, uu, uu, uu, uu, uu, uu, uu, uu, uu] [(.int ia)]) (fun _ k => XS.iloadN X35.here hx rfl (hb hby at_122) rfl k) ?_
  refine bW T35 (mkF m 124 #[vi sa, vi ia, vi c0, vi c1, vi c2, vi nn, vi bb, vr x0, vr x1, vr x2, vr b30, uu, uu, uu, uu, uu, uu, uu, uu, uu, uu, uu, uu] [(.int (3 : Int32)), (.int ia)]) (fun _ k => XS.iconst X35.here hx rfl (hb hby at_123) k) ?_
  refine bW T35 (mkF m 125 #[vi sa, vi ia, vi c0, vi c1, vi c2, vi nn, vi bb, vr x0, vr x1, vr x2, vr b30, uu, uu, uu, uu, uu, uu, uu, uu, uu, uu, uu, uu] [(.int (ia &&& (3 : Int32)))]) (fun _ k => XS.iand X35.here hx rfl (hb hby at_124) rfl k) ?_
  refine bW T35 (mkF m 126 #[vi sa, vi ia, vi c0, vi c1, vi c2, vi nn, vi bb, vr x0, vr x1, vr x2, vr b30, uu, uu, uu, uu, uu, uu, uu, uu, uu, uu, uu, uu] [(.int (3 : Int32)), (.int (ia &&& (3 : Int32)))]) (fun _ k => XS.iconst X35.here hx rfl (hb hby at_125) k) ?_
  refine bW T35 (mkF m 127 #[vi sa, vi ia, vi c0, vi c1, vi c2, vi nn, vi bb, vr x0, vr x1, vr x2, vr b30, uu, uu, uu, uu, uu, uu, uu, uu, uu, uu, uu, uu] [(.int ((ia &&& (3 : Int32)) % (3 : Int32)))]) (fun _ k => iremM X35 hx rfl (hb hby at_126) rfl (by decide) k) ?_
  have hi0 := own_r3 ia
  generalize ((ia &&& (3 : Int32)) % (3 : Int32)) = i0 at hi0 ⊢
  refine bW T35 (mkF m 129 #[vi sa, vi ia, vi c0, vi c1, vi c2, vi nn, vi bb, vr x0, vr x1, vr x2, vr b30, vi i0, uu, uu, uu, uu, uu, uu, uu, uu, uu, uu, uu] []) (fun _ k => XS.istore X35.here hx rfl (hb hby at_127) rfl rfl k) ?_
  refine bW T35 (mkF m 130 #[vi sa, vi ia, vi c0, vi c1, vi c2, vi nn, vi bb, vr x0, vr x1, vr x2, vr b30, vi i0, uu, uu, uu, uu, uu, uu, uu, uu, uu, uu, uu] [(.int ia)]) (fun _ k => XS.iloadN X35.here hx rfl (hb hby at_129) rfl k) ?_
  refine bW T35 (mkF m 131 #[vi sa, vi ia, vi c0, vi c1, vi c2, vi nn, vi bb, vr x0, vr x1, vr x2, vr b30, vi i0, uu, uu, uu, uu, uu, uu, uu, uu, uu, uu, uu] [(.int (2 : Int32)), (.int ia)]) (fun _ k => XS.iconst X35.here hx rfl (hb hby at_130) k) ?_
  refine bW T35 (mkF m 132 #[vi sa, vi ia, vi c0, vi c1, vi c2, vi nn, vi bb, vr x0, vr x1, vr x2, vr b30, vi i0, uu, uu, uu, uu, uu, uu, uu, uu, uu, uu, uu] [(.int ((ia.toUInt32 >>> ((2 : Int32) &&& 31).toUInt32).toInt32))]) (fun _ k => XS.iushr X35.here hx rfl (hb hby at_131) rfl k) ?_
  refine bW T35 (mkF m 133 #[vi sa, vi ia, vi c0, vi c1, vi c2, vi nn, vi bb, vr x0, vr x1, vr x2, vr b30, vi i0, uu, uu, uu, uu, uu, uu, uu, uu, uu, uu, uu] [(.int (3 : Int32)), (.int ((ia.toUInt32 >>> ((2 : Int32) &&& 31).toUInt32).toInt32))]) (fun _ k => XS.iconst X35.here hx rfl (hb hby at_132) k) ?_
  refine bW T35 (mkF m 134 #[vi sa, vi ia, vi c0, vi c1, vi c2, vi nn, vi bb, vr x0, vr x1, vr x2, vr b30, vi i0, uu, uu, uu, uu, uu, uu, uu, uu, uu, uu, uu] [(.int (((ia.toUInt32 >>> ((2 : Int32) &&& 31).toUInt32).toInt32) &&& (3 : Int32)))]) (fun _ k => XS.iand X35.here hx rfl (hb hby at_133) rfl k) ?_
  refine bW T35 (mkF m 135 #[vi sa, vi ia, vi c0, vi c1, vi c2, vi nn, vi bb, vr x0, vr x1, vr x2, vr b30, vi i0, uu, uu, uu, uu, uu, uu, uu, uu, uu, uu, uu] [(.int (3 : Int32)), (.int (((ia.toUInt32 >>> ((2 : Int32) &&& 31).toUInt32).toInt32) &&& (3 : Int32)))]) (fun _ k => XS.iconst X35.here hx rfl (hb hby at_134) k) ?_
  refine bW T35 (mkF m 136 #[vi sa, vi ia, vi c0, vi c1, vi c2, vi nn, vi bb, vr x0, vr x1, vr x2, vr b30, vi i0, uu, uu, uu, uu, uu, uu, uu, uu, uu, uu, uu] [(.int ((((ia.toUInt32 >>> ((2 : Int32) &&& 31).toUInt32).toInt32) &&& (3 : Int32)) % (3 : Int32)))]) (fun _ k => iremM X35 hx rfl (hb hby at_135) rfl (by decide) k) ?_
  have hi1 := own_r3 ((ia.toUInt32 >>> ((2 : Int32) &&& 31).toUInt32).toInt32)
  generalize ((((ia.toUInt32 >>> ((2 : Int32) &&& 31).toUInt32).toInt32) &&& (3 : Int32)) % (3 : Int32)) = i1 at hi1 ⊢
  refine bW T35 (mkF m 138 #[vi sa, vi ia, vi c0, vi c1, vi c2, vi nn, vi bb, vr x0, vr x1, vr x2, vr b30, vi i0, vi i1, uu, uu, uu, uu, uu, uu, uu, uu, uu, uu] []) (fun _ k => XS.istore X35.here hx rfl (hb hby at_136) rfl rfl k) ?_
  refine bW T35 (mkF m 139 #[vi sa, vi ia, vi c0, vi c1, vi c2, vi nn, vi bb, vr x0, vr x1, vr x2, vr b30, vi i0, vi i1, uu, uu, uu, uu, uu, uu, uu, uu, uu, uu] [(.int ia)]) (fun _ k => XS.iloadN X35.here hx rfl (hb hby at_138) rfl k) ?_
  refine bW T35 (mkF m 140 #[vi sa, vi ia, vi c0, vi c1, vi c2, vi nn, vi bb, vr x0, vr x1, vr x2, vr b30, vi i0, vi i1, uu, uu, uu, uu, uu, uu, uu, uu, uu, uu] [(.int (4 : Int32)), (.int ia)]) (fun _ k => XS.iconst X35.here hx rfl (hb hby at_139) k) ?_
  refine bW T35 (mkF m 141 #[vi sa, vi ia, vi c0, vi c1, vi c2, vi nn, vi bb, vr x0, vr x1, vr x2, vr b30, vi i0, vi i1, uu, uu, uu, uu, uu, uu, uu, uu, uu, uu] [(.int ((ia.toUInt32 >>> ((4 : Int32) &&& 31).toUInt32).toInt32))]) (fun _ k => XS.iushr X35.here hx rfl (hb hby at_140) rfl k) ?_
  refine bW T35 (mkF m 142 #[vi sa, vi ia, vi c0, vi c1, vi c2, vi nn, vi bb, vr x0, vr x1, vr x2, vr b30, vi i0, vi i1, uu, uu, uu, uu, uu, uu, uu, uu, uu, uu] [(.int (3 : Int32)), (.int ((ia.toUInt32 >>> ((4 : Int32) &&& 31).toUInt32).toInt32))]) (fun _ k => XS.iconst X35.here hx rfl (hb hby at_141) k) ?_
  refine bW T35 (mkF m 143 #[vi sa, vi ia, vi c0, vi c1, vi c2, vi nn, vi bb, vr x0, vr x1, vr x2, vr b30, vi i0, vi i1, uu, uu, uu, uu, uu, uu, uu, uu, uu, uu] [(.int (((ia.toUInt32 >>> ((4 : Int32) &&& 31).toUInt32).toInt32) &&& (3 : Int32)))]) (fun _ k => XS.iand X35.here hx rfl (hb hby at_142) rfl k) ?_
  refine bW T35 (mkF m 144 #[vi sa, vi ia, vi c0, vi c1, vi c2, vi nn, vi bb, vr x0, vr x1, vr x2, vr b30, vi i0, vi i1, uu, uu, uu, uu, uu, uu, uu, uu, uu, uu] [(.int (3 : Int32)), (.int (((ia.toUInt32 >>> ((4 : Int32) &&& 31).toUInt32).toInt32) &&& (3 : Int32)))]) (fun _ k => XS.iconst X35.here hx rfl (hb hby at_143) k) ?_
  refine bW T35 (mkF m 145 #[vi sa, vi ia, vi c0, vi c1, vi c2, vi nn, vi bb, vr x0, vr x1, vr x2, vr b30, vi i0, vi i1, uu, uu, uu, uu, uu, uu, uu, uu, uu, uu] [(.int ((((ia.toUInt32 >>> ((4 : Int32) &&& 31).toUInt32).toInt32) &&& (3 : Int32)) % (3 : Int32)))]) (fun _ k => iremM X35 hx rfl (hb hby at_144) rfl (by decide) k) ?_
  have hi2 := own_r3 ((ia.toUInt32 >>> ((4 : Int32) &&& 31).toUInt32).toInt32)
  generalize ((((ia.toUInt32 >>> ((4 : Int32) &&& 31).toUInt32).toInt32) &&& (3 : Int32)) % (3 : Int32)) = i2 at hi2 ⊢
  refine bW T35 (mkF m 147 #[vi sa, vi ia, vi c0, vi c1, vi c2, vi nn, vi bb, vr x0, vr x1, vr x2, vr b30, vi i0, vi i1, vi i2, uu, uu, uu, uu, uu, uu, uu, uu, uu] []) (fun _ k => XS.istore X35.here hx rfl (hb hby at_145) rfl rfl k) ?_
  have ne212 : x0 ≠ b30 := (Nat.ne_of_lt (Nat.lt_of_lt_of_le Y3.lt (Nat.le_of_eq g30.symm)))
  have ne213 : x0 ≠ d32 := (Nat.ne_of_lt (Nat.lt_of_lt_of_le ((Exa.keep (Exa.ext E30 Y3) K31)).lt zd32))
  have ne214 : t0 ≠ b30 := (Nat.ne_of_lt (Nat.lt_of_lt_of_le Y5.lt (Nat.le_of_eq g30.symm)))
  have ne215 : t0 ≠ d32 := (Nat.ne_of_lt (Nat.lt_of_lt_of_le ((Arv.keep (Arv.ext Y5 E30) K31 (ninS ne214 nin0))).lt zd32))
  have ne216 : x1 ≠ b30 := (Nat.ne_of_lt (Nat.lt_of_lt_of_le Y6.lt (Nat.le_of_eq g30.symm)))
  have ne217 : x1 ≠ d32 := (Nat.ne_of_lt (Nat.lt_of_lt_of_le ((Exa.keep (Exa.ext E30 Y6) K31)).lt zd32))
  have ne218 : t1 ≠ b30 := (Nat.ne_of_lt (Nat.lt_of_lt_of_le Y8.lt (Nat.le_of_eq g30.symm)))
  have ne219 : t1 ≠ d32 := (Nat.ne_of_lt (Nat.lt_of_lt_of_le ((Arv.keep (Arv.ext Y8 E30) K31 (ninS ne218 nin0))).lt zd32))
  have ne220 : x2 ≠ b30 := (Nat.ne_of_lt (Nat.lt_of_lt_of_le Y9.lt (Nat.le_of_eq g30.symm)))
  have ne221 : x2 ≠ d32 := (Nat.ne_of_lt (Nat.lt_of_lt_of_le ((Exa.keep (Exa.ext E30 Y9) K31)).lt zd32))
  have ne222 : t2 ≠ b30 := (Nat.ne_of_lt (Nat.lt_of_lt_of_le Y11.lt (Nat.le_of_eq g30.symm)))
  have ne223 : t2 ≠ d32 := (Nat.ne_of_lt (Nat.lt_of_lt_of_le ((Arv.keep (Arv.ext Y11 E30) K31 (ninS ne222 nin0))).lt zd32))
  exact rm0_c4 (h1 := T35.heap) (T1 := T35) (vm1 := vm1) hw X35 rfl KK35 N35 Z0 (Old.keep (Old.keep (Old.keep (Old.keep (Old.ext O0 E30) K31 (allS g_b30 all0)) K32 (allS g_b30 all0)) K34 (allS g_b30 (allS g_d32 all0))) K35 (allS g_b30 (allS g_d32 all0))) S_DE V_aD hZ1 hown1 hS1 (Nat.le_trans (Nat.le_trans (Nat.le_trans (Nat.le_trans (Nat.le_trans hk1 E30.1) K31.1) K32.1) K34.1) K35.1) C35 hx hby hml hlk hrt (Exa.keep (Exa.keep (Exa.keep (Exa.keep (Exa.ext E30 Y3) K31) K32) K34) K35) (Fld.keep (Fld.keep (Fld.keep (Fld.keep (Fld.ext E30 Y4) K31 (ninS ne212 nin0)) K32 (ninS ne212 nin0)) K34 (ninS ne212 (ninS ne213 nin0))) K35 (ninS ne212 (ninS ne213 nin0))) (Arv.keep (Arv.keep (Arv.keep (Arv.keep (Arv.ext Y5 E30) K31 (ninS ne214 nin0)) K32 (ninS ne214 nin0)) K34 (ninS ne214 (ninS ne215 nin0))) K35 (ninS ne214 (ninS ne215 nin0))) (Exa.keep (Exa.keep (Exa.keep (Exa.keep (Exa.ext E30 Y6) K31) K32) K34) K35) (Fld.keep (Fld.keep (Fld.keep (Fld.keep (Fld.ext E30 Y7) K31 (ninS ne216 nin0)) K32 (ninS ne216 nin0)) K34 (ninS ne216 (ninS ne217 nin0))) K35 (ninS ne216 (ninS ne217 nin0))) (Arv.keep (Arv.keep (Arv.keep (Arv.keep (Arv.ext Y8 E30) K31 (ninS ne218 nin0)) K32 (ninS ne218 nin0)) K34 (ninS ne218 (ninS ne219 nin0))) K35 (ninS ne218 (ninS ne219 nin0))) (Exa.keep (Exa.keep (Exa.keep (Exa.keep (Exa.ext E30 Y9) K31) K32) K34) K35) (Fld.keep (Fld.keep (Fld.keep (Fld.keep (Fld.ext E30 Y10) K31 (ninS ne220 nin0)) K32 (ninS ne220 nin0)) K34 (ninS ne220 (ninS ne221 nin0))) K35 (ninS ne220 (ninS ne221 nin0))) (Arv.keep (Arv.keep (Arv.keep (Arv.keep (Arv.ext Y11 E30) K31 (ninS ne222 nin0)) K32 (ninS ne222 nin0)) K34 (ninS ne222 (ninS ne223 nin0))) K35 (ninS ne222 (ninS ne223 nin0))) (Exa.keep (Exa.keep (Exa.keep (Exa.keep E_b30 K31) K32) K34) K35) Fe35 Fz35 V35 hnn hz0 hz1 hz2 hi0 hi1 hi2
theorem rm0_c2 {l : _} {Z : State} {a0 : Array Value} (hw : HW Z a0) {sa : Int32} {ia : Int32} {c0 : Int32} {c1 : Int32} {c2 : Int32} {cs : Int32} {aD : Addr} {kD : ClassId} {h0 : Heap} {n0 : Nat} {p : _} {e : _} {s : State} {m : _} {below : _} {meth : _} {c : _} {h1 : Heap} {T1 : State} {Lc : List Loc} {vm1 : Vm} {ks1 : Nat} {x0 : Addr} {t0 : Addr} {q0 : ClassId} {z0 : Int32} {v0 : List Value} {x1 : Addr} {t1 : Addr} {q1 : ClassId} {z1 : Int32} {v1 : List Value} {nn : Int32} {bb : Int32} (X1 : Stand p l e room_1 (s.setVm vm1) m #[(.int sa), (.int ia), (.int c0), (.int c1), (.int c2)] below meth c T1 Lc 4 10) (e1 : T1.heap = h1) (Kc : Keep h0 h1 []) (Nc : Fr n0 Lc) (Z0 : n0 ≤ h0.size) (O0 : Old Z n0 h1) (S_CS : Sta Z Z.heap sS "COMPACT_STRINGS" "Z" (.int cs)) (hcs : ¬ cs = (0 : Int32)) (S_DE : Sta Z Z.heap sL "DEFAULTCAPACITY_EMPTY_ELEMENTDATA" "[Ljava/lang/Object;" (.ref aD)) (V_aD : Arv Z Z.heap aD kD (.object sO) (0 : Int32) [] .null) (hZ1 : Z.Warmed39 (s.setVm vm1).vm) (hown1 : (s.setVm vm1).vm.findClass "com/example/nisaba/nisaba/isatab/ValuesFirstGivenPinLaw" = some m.cls) (hS1 : s.Since vm1 ks1) (hk1 : ks1 ≤ h1.size) (C1 : CHr Z consts_1 s.vm s.heap vm1 h1) (hx : p.tables.exec = Jvm.exec) (hby : c.code = code) (hml : c.maxLocals = 23) (hlk : meth.locks = false) (hrt : meth.sig.returnType = (some .boolean)) (Y3 : Exa Z h1 x0 sS) (Y4 : Fld Z h1 x0 sS "value" "[B" (.ref t0)) (Y5 : Arv Z h1 t0 q0 .byte z0 v0 (ii 0)) (Y6 : Exa Z h1 x1 sS) (Y7 : Fld Z h1 x1 sS "value" "[B" (.ref t1)) (Y8 : Arv Z h1 t1 q1 .byte z1 v1 (ii 0)) (hnn : nn = 0 ∨ nn = 1 ∨ nn = 2 ∨ nn = 3) (hz0 : z0 = own_z bb (0 : Int32)) (hz1 : z1 = own_z bb (1 : Int32)) :
    own_GoW p.tables e below Z consts_1 (Q_rm0 Z sa ia c0 c1 c2 cs aD kD h0 n0) s 64 7488 T1 (mkF m 63 #[vi sa, vi ia, vi c0, vi c1, vi c2, vi nn, vi bb, vr x0, vr x1, uu, uu, uu, uu, uu, uu, uu, uu, uu, uu, uu, uu, uu, uu] []) := by
  have hEL : EW Z a0 consts_1 := own_EL hw
  have hwS : ∀ d ∈ Bundle.stringAtoms, d.before a0 Z = true := fun d hd => hw d (own_SA d hd)
  refine bW T1 (mkF m 65 #[vi sa, vi ia, vi c0, vi c1, vi c2, vi nn, vi bb, vr x0, vr x1, uu, uu, uu, uu, uu, uu, uu, uu, uu, uu, uu, uu, uu, uu] [(.int bb)]) (fun _ k => XS.iload X1.here hx rfl (hb hby at_63) rfl k) ?_
  refine bW T1 (mkF m 66 #[vi sa, vi ia, vi c0, vi c1, vi c2, vi nn, vi bb, vr x0, vr x1, uu, uu, uu, uu, uu, uu, uu, uu, uu, uu, uu, uu, uu, uu] [(.int (2 : Int32)), (.int bb)]) (fun _ k => XS.iconst X1.here hx rfl (hb hby at_65) k) ?_
  obtain ⟨_, _, ⟨T27, L27, k27, n27⟩, -, X27, ⟨Lc27, hQ27, l27, y27, z27⟩, st27⟩ := Jvm.LawKit.callS X1 hx (y := yy0) hown1 (mvT hZ1 (hw _ (mo 0 rfl))) (mvT hZ1 (hw _ (mo 1 rfl))) (mvT hZ1 (hw _ (mo 2 rfl))) (mvT hZ1 (hw _ (mo 3 rfl))) (by decide) (backOf (W := 0) (emc l Z a0 hw [] bb (2 : Int32)  h1 n0 (Nat.le_trans Z0 Kc.1) ) hZ1 (hw _ (mo 3 rfl)) (hw _ (mo 2 rfl)) (by decide) (by decide)) (g := (mkF m 66 #[vi sa, vi ia, vi c0, vi c1, vi c2, vi nn, vi bb, vr x0, vr x1, uu, uu, uu, uu, uu, uu, uu, uu, uu, uu, uu, uu, uu, uu] [(.int (2 : Int32)), (.int bb)])) rfl (by rw [hml]; rfl) (argsL := [(.int bb), (.int (2 : Int32))]) (rest := []) (lenOf pd_16 rfl) rfl (Nat.le_of_eq rfl) (hb hby at_66) (fun _ _ => ⟨rfl, e1, (by decide : 4 ≤ _), (by decide : 10 ≤ _)⟩)
  dsimp only [Pt.U, Pt.locs, Pt.cells, Pt.slots] at X27 l27 y27 z27 st27 hQ27
  subst l27 y27 z27
  obtain ⟨rfl, N27q, e27⟩ := hQ27
  have N27 := Fr.app Nc N27q
  refine bW T27 (mkF m 69 #[vi sa, vi ia, vi c0, vi c1, vi c2, vi nn, vi bb, vr x0, vr x1, uu, uu, uu, uu, uu, uu, uu, uu, uu, uu, uu, uu, uu, uu] [(.int (own_e bb (2 : Int32)))]) (fun _ k => st27 _ k) ?_
  by_cases hc69_28 : (own_e bb (2 : Int32)) = (0 : Int32)
  · skip
    refine bW T27 (mkF m 77 #[vi sa, vi ia, vi c0, vi c1, vi c2, vi nn, vi bb, vr x0, vr x1, uu, uu, uu, uu, uu, uu, uu, uu, uu, uu, uu, uu, uu, uu] []) (fun _ k => XS.ifYes X27.here hx rfl (pc0 := 69) (pc' := 77) rfl (hb hby at_69) rfl ((if0 _ _).trans (teq hc69_28).1) (by decide) (by decide) k) ?_
    refine bW T27 (mkF m 79 #[vi sa, vi ia, vi c0, vi c1, vi c2, vi nn, vi bb, vr x0, vr x1, uu, uu, uu, uu, uu, uu, uu, uu, uu, uu, uu, uu, uu, uu] [(.int c2)]) (fun _ k => XS.iload X27.here hx rfl (hb hby at_77) rfl k) ?_
    refine bW T27 (mkF m 82 #[vi sa, vi ia, vi c0, vi c1, vi c2, vi nn, vi bb, vr x0, vr x1, uu, uu, uu, uu, uu, uu, uu, uu, uu, uu, uu, uu, uu, uu] [(.int (255 : Int32)), (.int c2)]) (fun _ k => XS.sipush X27.here hx rfl (hb hby at_79) k) ?_
    refine bW T27 (mkF m 83 #[vi sa, vi ia, vi c0, vi c1, vi c2, vi nn, vi bb, vr x0, vr x1, uu, uu, uu, uu, uu, uu, uu, uu, uu, uu, uu, uu, uu, uu] [(.int (c2 &&& (255 : Int32)))]) (fun _ k => XS.iand X27.here hx rfl (hb hby at_82) rfl k) ?_
    refine bW T27 (mkF m 84 #[vi sa, vi ia, vi c0, vi c1, vi c2, vi nn, vi bb, vr x0, vr x1, uu, uu, uu, uu, uu, uu, uu, uu, uu, uu, uu, uu, uu, uu] [(.int ((c2 &&& (255 : Int32)).toUInt32.toUInt16.toUInt32.toInt32))]) (fun _ k => XS.i2c X27.here hx rfl (hb hby at_83) rfl k) ?_
    obtain ⟨_, _, ⟨T29, L29, k29, n29⟩, -, X29, ⟨Lc29, hQ29, l29, y29, z29⟩, st29⟩ := Jvm.LawKit.callS X27 hx (y := yy4) hown1 (mvT hZ1 (hw _ (mo 4 rfl))) (mvT hZ1 (hw _ (mo 5 rfl))) (mvT hZ1 (hw _ (mo 6 rfl))) (mvT hZ1 (hw _ (mo 7 rfl))) (by decide) (backOf (W := 0) (vof l Z a0 hw [] ((c2 &&& (255 : Int32)).toUInt32.toUInt16.toUInt32.toInt32) cs h1 n0 (Nat.le_trans Z0 Kc.1) (Sta.ext (O0).2 S_CS) hcs (own_c255 c2)) hZ1 (hw _ (mo 7 rfl)) (hw _ (mo 6 rfl)) (by decide) (by decide)) (g := (mkF m 84 #[vi sa, vi ia, vi c0, vi c1, vi c2, vi nn, vi bb, vr x0, vr x1, uu, uu, uu, uu, uu, uu, uu, uu, uu, uu, uu, uu, uu, uu] [(.int ((c2 &&& (255 : Int32)).toUInt32.toUInt16.toUInt32.toInt32))])) rfl (by rw [hml]; rfl) (argsL := [(.int ((c2 &&& (255 : Int32)).toUInt32.toUInt16.toUInt32.toInt32))]) (rest := []) (lenOf pd_17 rfl) rfl (Nat.le_of_eq rfl) (hb hby at_84) (fun _ _ => ⟨rfl, e27, (by decide : 6 ≤ _), (by decide : 15 ≤ _)⟩)
    dsimp only [Pt.U, Pt.locs, Pt.cells, Pt.slots] at X29 l29 y29 z29 st29 hQ29
    subst l29 y29 z29
    obtain ⟨x29, t29, kb29, rfl, N29q, K29, zx29, E29, Fv29, V29⟩ := hQ29
    have N29 := Fr.app N27 N29q
    have KK29 : Keep h0 T29.heap [] := Keep.trans Kc K29 all0
    have C29 : CHr Z consts_1 s.vm s.heap vm1 T29.heap := CHr.trans C1 (CHr.keep K29 sf0 C1.1)
    refine bW T29 (mkF m 87 #[vi sa, vi ia, vi c0, vi c1, vi c2, vi nn, vi bb, vr x0, vr x1, uu, uu, uu, uu, uu, uu, uu, uu, uu, uu, uu, uu, uu, uu] [(.ref x29)]) (fun _ k => st29 _ k) ?_
    refine bW T29 (mkF m 89 #[vi sa, vi ia, vi c0, vi c1, vi c2, vi nn, vi bb, vr x0, vr x1, vr x29, uu, uu, uu, uu, uu, uu, uu, uu, uu, uu, uu, uu, uu] []) (fun _ k => XS.astore X29.here hx rfl (hb hby at_87) rfl rfl rfl k) ?_
    exact rm0_c3 (h1 := T29.heap) (T1 := T29) (vm1 := vm1) hw X29 rfl KK29 N29 Z0 (Old.keep O0 K29 all0) S_DE V_aD hZ1 hown1 hS1 (Nat.le_trans hk1 K29.1) C29 hx hby hml hlk hrt (Exa.keep Y3 K29) (Fld.keep Y4 K29 nin0) (Arv.keep Y5 K29 nin0) (Exa.keep Y6 K29) (Fld.keep Y7 K29 nin0) (Arv.keep Y8 K29 nin0) E29 Fv29 V29 hnn hz0 hz1 (if_pos hc69_28).symm
  · skip
    refine bW T27 (mkF m 72 #[vi sa, vi ia, vi c0, vi c1, vi c2, vi nn, vi bb, vr x0, vr x1, uu, uu, uu, uu, uu, uu, uu, uu, uu, uu, uu, uu, uu, uu] []) (fun _ k => XS.ifNo X27.here hx rfl (hb hby at_69) rfl ((if0 _ _).trans (feq hc69_28).1) k) ?_
    obtain ⟨a224, T224, h224, k224, b224, kb224, X224, e224, E224, hS224, hk224, hZ224, hown224, Ex224, Fc224, Fv224, V224, la224, lb224, Cq224, Lt224, D224, st224⟩ := ldcCH (s := s) (EL := consts_1) X27 hx hZ1 hown1 (hw _ (mo 232 rfl)) hwS e27 hS1 hk1 hEL (mo 1 rfl) C1.1 (vs := []) (z := (0 : Int32)) ⟨by decide, by decide⟩ (by decide) (by decide) (g := (mkF m 72 #[vi sa, vi ia, vi c0, vi c1, vi c2, vi nn, vi bb, vr x0, vr x1, uu, uu, uu, uu, uu, uu, uu, uu, uu, uu, uu, uu, uu, uu] [])) rfl (hb hby at_72) (n := 0) (by decide) (by decide) (by decide) (by decide)
    have C224 : CHr Z consts_1 s.vm s.heap T224.vm h224 := CHr.trans C1 Cq224
    have K224 : Keep h0 h224 [] := Keep.ext Kc E224
    refine bW T224 (mkF m 74 #[vi sa, vi ia, vi c0, vi c1, vi c2, vi nn, vi bb, vr x0, vr x1, uu, uu, uu, uu, uu, uu, uu, uu, uu, uu, uu, uu, uu, uu] [(.ref a224)]) (fun _ k => st224 _ k) ?_
    refine bW T224 (mkF m 87 #[vi sa, vi ia, vi c0, vi c1, vi c2, vi nn, vi bb, vr x0, vr x1, uu, uu, uu, uu, uu, uu, uu, uu, uu, uu, uu, uu, uu, uu] [(.ref a224)]) (fun _ k => XS.goto X224.here hx rfl (pc0 := 74) (pc' := 87) rfl (hb hby at_74) (by decide) (by decide) k) ?_
    refine bW T224 (mkF m 89 #[vi sa, vi ia, vi c0, vi c1, vi c2, vi nn, vi bb, vr x0, vr x1, vr a224, uu, uu, uu, uu, uu, uu, uu, uu, uu, uu, uu, uu, uu] []) (fun _ k => XS.astore X224.here hx rfl (hb hby at_87) rfl rfl rfl k) ?_
    exact rm0_c3 (h1 := h224) (T1 := T224) (vm1 := T224.vm) hw (X224.more (by decide) (by decide)) e224 K224 N27 Z0 (Old.ext O0 E224) S_DE V_aD hZ224 hown224 hS224 hk224 C224 hx hby hml hlk hrt (Exa.ext E224 Y3) (Fld.ext E224 Y4) (Arv.ext Y5 E224) (Exa.ext E224 Y6) (Fld.ext E224 Y7) (Arv.ext Y8 E224) Ex224 Fv224 V224 hnn hz0 hz1 (if_neg hc69_28).symm
theorem rm0_c1 {l : _} {Z : State} {a0 : Array Value} (hw : HW Z a0) {sa : Int32} {ia : Int32} {c0 : Int32} {c1 : Int32} {c2 : Int32} {cs : Int32} {aD : Addr} {kD : ClassId} {h0 : Heap} {n0 : Nat} {p : _} {e : _} {s : State} {m : _} {below : _} {meth : _} {c : _} {h1 : Heap} {T1 : State} {Lc : List Loc} {vm1 : Vm} {ks1 : Nat} {x0 : Addr} {t0 : Addr} {q0 : ClassId} {z0 : Int32} {v0 : List Value} {nn : Int32} {bb : Int32} (X1 : Stand p l e room_1 (s.setVm vm1) m #[(.int sa), (.int ia), (.int c0), (.int c1), (.int c2)] below meth c T1 Lc 2 5) (e1 : T1.heap = h1) (Kc : Keep h0 h1 []) (Nc : Fr n0 Lc) (Z0 : n0 ≤ h0.size) (O0 : Old Z n0 h1) (S_CS : Sta Z Z.heap sS "COMPACT_STRINGS" "Z" (.int cs)) (hcs : ¬ cs = (0 : Int32)) (S_DE : Sta Z Z.heap sL "DEFAULTCAPACITY_EMPTY_ELEMENTDATA" "[Ljava/lang/Object;" (.ref aD)) (V_aD : Arv Z Z.heap aD kD (.object sO) (0 : Int32) [] .null) (hZ1 : Z.Warmed39 (s.setVm vm1).vm) (hown1 : (s.setVm vm1).vm.findClass "com/example/nisaba/nisaba/isatab/ValuesFirstGivenPinLaw" = some m.cls) (hS1 : s.Since vm1 ks1) (hk1 : ks1 ≤ h1.size) (C1 : CHr Z consts_1 s.vm s.heap vm1 h1) (hx : p.tables.exec = Jvm.exec) (hby : c.code = code) (hml : c.maxLocals = 23) (hlk : meth.locks = false) (hrt : meth.sig.returnType = (some .boolean)) (Y3 : Exa Z h1 x0 sS) (Y4 : Fld Z h1 x0 sS "value" "[B" (.ref t0)) (Y5 : Arv Z h1 t0 q0 .byte z0 v0 (ii 0)) (hnn : nn = 0 ∨ nn = 1 ∨ nn = 2 ∨ nn = 3) (hz0 : z0 = own_z bb (0 : Int32)) :
    own_GoW p.tables e below Z consts_1 (Q_rm0 Z sa ia c0 c1 c2 cs aD kD h0 n0) s 64 7488 T1 (mkF m 38 #[vi sa, vi ia, vi c0, vi c1, vi c2, vi nn, vi bb, vr x0, uu, uu, uu, uu, uu, uu, uu, uu, uu, uu, uu, uu, uu, uu, uu] []) := by
  have hEL : EW Z a0 consts_1 := own_EL hw
  have hwS : ∀ d ∈ Bundle.stringAtoms, d.before a0 Z = true := fun d hd => hw d (own_SA d hd)
  refine bW T1 (mkF m 40 #[vi sa, vi ia, vi c0, vi c1, vi c2, vi nn, vi bb, vr x0, uu, uu, uu, uu, uu, uu, uu, uu, uu, uu, uu, uu, uu, uu, uu] [(.int bb)]) (fun _ k => XS.iload X1.here hx rfl (hb hby at_38) rfl k) ?_
  refine bW T1 (mkF m 41 #[vi sa, vi ia, vi c0, vi c1, vi c2, vi nn, vi bb, vr x0, uu, uu, uu, uu, uu, uu, uu, uu, uu, uu, uu, uu, uu, uu, uu] [(.int (1 : Int32)), (.int bb)]) (fun _ k => XS.iconst X1.here hx rfl (hb hby at_40) k) ?_
  obtain ⟨_, _, ⟨T24, L24, k24, n24⟩, -, X24, ⟨Lc24, hQ24, l24, y24, z24⟩, st24⟩ := Jvm.LawKit.callS X1 hx (y := yy0) hown1 (mvT hZ1 (hw _ (mo 0 rfl))) (mvT hZ1 (hw _ (mo 1 rfl))) (mvT hZ1 (hw _ (mo 2 rfl))) (mvT hZ1 (hw _ (mo 3 rfl))) (by decide) (backOf (W := 0) (emc l Z a0 hw [] bb (1 : Int32)  h1 n0 (Nat.le_trans Z0 Kc.1) ) hZ1 (hw _ (mo 3 rfl)) (hw _ (mo 2 rfl)) (by decide) (by decide)) (g := (mkF m 41 #[vi sa, vi ia, vi c0, vi c1, vi c2, vi nn, vi bb, vr x0, uu, uu, uu, uu, uu, uu, uu, uu, uu, uu, uu, uu, uu, uu, uu] [(.int (1 : Int32)), (.int bb)])) rfl (by rw [hml]; rfl) (argsL := [(.int bb), (.int (1 : Int32))]) (rest := []) (lenOf pd_16 rfl) rfl (Nat.le_of_eq rfl) (hb hby at_41) (fun _ _ => ⟨rfl, e1, (by decide : 2 ≤ _), (by decide : 5 ≤ _)⟩)
  dsimp only [Pt.U, Pt.locs, Pt.cells, Pt.slots] at X24 l24 y24 z24 st24 hQ24
  subst l24 y24 z24
  obtain ⟨rfl, N24q, e24⟩ := hQ24
  have N24 := Fr.app Nc N24q
  refine bW T24 (mkF m 44 #[vi sa, vi ia, vi c0, vi c1, vi c2, vi nn, vi bb, vr x0, uu, uu, uu, uu, uu, uu, uu, uu, uu, uu, uu, uu, uu, uu, uu] [(.int (own_e bb (1 : Int32)))]) (fun _ k => st24 _ k) ?_
  by_cases hc44_25 : (own_e bb (1 : Int32)) = (0 : Int32)
  · skip
    refine bW T24 (mkF m 52 #[vi sa, vi ia, vi c0, vi c1, vi c2, vi nn, vi bb, vr x0, uu, uu, uu, uu, uu, uu, uu, uu, uu, uu, uu, uu, uu, uu, uu] []) (fun _ k => XS.ifYes X24.here hx rfl (pc0 := 44) (pc' := 52) rfl (hb hby at_44) rfl ((if0 _ _).trans (teq hc44_25).1) (by decide) (by decide) k) ?_
    refine bW T24 (mkF m 53 #[vi sa, vi ia, vi c0, vi c1, vi c2, vi nn, vi bb, vr x0, uu, uu, uu, uu, uu, uu, uu, uu, uu, uu, uu, uu, uu, uu, uu] [(.int c1)]) (fun _ k => XS.iloadN X24.here hx rfl (hb hby at_52) rfl k) ?_
    refine bW T24 (mkF m 56 #[vi sa, vi ia, vi c0, vi c1, vi c2, vi nn, vi bb, vr x0, uu, uu, uu, uu, uu, uu, uu, uu, uu, uu, uu, uu, uu, uu, uu] [(.int (255 : Int32)), (.int c1)]) (fun _ k => XS.sipush X24.here hx rfl (hb hby at_53) k) ?_
    refine bW T24 (mkF m 57 #[vi sa, vi ia, vi c0, vi c1, vi c2, vi nn, vi bb, vr x0, uu, uu, uu, uu, uu, uu, uu, uu, uu, uu, uu, uu, uu, uu, uu] [(.int (c1 &&& (255 : Int32)))]) (fun _ k => XS.iand X24.here hx rfl (hb hby at_56) rfl k) ?_
    refine bW T24 (mkF m 58 #[vi sa, vi ia, vi c0, vi c1, vi c2, vi nn, vi bb, vr x0, uu, uu, uu, uu, uu, uu, uu, uu, uu, uu, uu, uu, uu, uu, uu] [(.int ((c1 &&& (255 : Int32)).toUInt32.toUInt16.toUInt32.toInt32))]) (fun _ k => XS.i2c X24.here hx rfl (hb hby at_57) rfl k) ?_
    obtain ⟨_, _, ⟨T26, L26, k26, n26⟩, -, X26, ⟨Lc26, hQ26, l26, y26, z26⟩, st26⟩ := Jvm.LawKit.callS X24 hx (y := yy4) hown1 (mvT hZ1 (hw _ (mo 4 rfl))) (mvT hZ1 (hw _ (mo 5 rfl))) (mvT hZ1 (hw _ (mo 6 rfl))) (mvT hZ1 (hw _ (mo 7 rfl))) (by decide) (backOf (W := 0) (vof l Z a0 hw [] ((c1 &&& (255 : Int32)).toUInt32.toUInt16.toUInt32.toInt32) cs h1 n0 (Nat.le_trans Z0 Kc.1) (Sta.ext (O0).2 S_CS) hcs (own_c255 c1)) hZ1 (hw _ (mo 7 rfl)) (hw _ (mo 6 rfl)) (by decide) (by decide)) (g := (mkF m 58 #[vi sa, vi ia, vi c0, vi c1, vi c2, vi nn, vi bb, vr x0, uu, uu, uu, uu, uu, uu, uu, uu, uu, uu, uu, uu, uu, uu, uu] [(.int ((c1 &&& (255 : Int32)).toUInt32.toUInt16.toUInt32.toInt32))])) rfl (by rw [hml]; rfl) (argsL := [(.int ((c1 &&& (255 : Int32)).toUInt32.toUInt16.toUInt32.toInt32))]) (rest := []) (lenOf pd_17 rfl) rfl (Nat.le_of_eq rfl) (hb hby at_58) (fun _ _ => ⟨rfl, e24, (by decide : 4 ≤ _), (by decide : 10 ≤ _)⟩)
    dsimp only [Pt.U, Pt.locs, Pt.cells, Pt.slots] at X26 l26 y26 z26 st26 hQ26
    subst l26 y26 z26
    obtain ⟨x26, t26, kb26, rfl, N26q, K26, zx26, E26, Fv26, V26⟩ := hQ26
    have N26 := Fr.app N24 N26q
    have KK26 : Keep h0 T26.heap [] := Keep.trans Kc K26 all0
    have C26 : CHr Z consts_1 s.vm s.heap vm1 T26.heap := CHr.trans C1 (CHr.keep K26 sf0 C1.1)
    refine bW T26 (mkF m 61 #[vi sa, vi ia, vi c0, vi c1, vi c2, vi nn, vi bb, vr x0, uu, uu, uu, uu, uu, uu, uu, uu, uu, uu, uu, uu, uu, uu, uu] [(.ref x26)]) (fun _ k => st26 _ k) ?_
    refine bW T26 (mkF m 63 #[vi sa, vi ia, vi c0, vi c1, vi c2, vi nn, vi bb, vr x0, vr x26, uu, uu, uu, uu, uu, uu, uu, uu, uu, uu, uu, uu, uu, uu] []) (fun _ k => XS.astore X26.here hx rfl (hb hby at_61) rfl rfl rfl k) ?_
    exact rm0_c2 (h1 := T26.heap) (T1 := T26) (vm1 := vm1) hw X26 rfl KK26 N26 Z0 (Old.keep O0 K26 all0) S_CS hcs S_DE V_aD hZ1 hown1 hS1 (Nat.le_trans hk1 K26.1) C26 hx hby hml hlk hrt (Exa.keep Y3 K26) (Fld.keep Y4 K26 nin0) (Arv.keep Y5 K26 nin0) E26 Fv26 V26 hnn hz0 (if_pos hc44_25).symm
  · skip
    refine bW T24 (mkF m 47 #[vi sa, vi ia, vi c0, vi c1, vi c2, vi nn, vi bb, vr x0, uu, uu, uu, uu, uu, uu, uu, uu, uu, uu, uu, uu, uu, uu, uu] []) (fun _ k => XS.ifNo X24.here hx rfl (hb hby at_44) rfl ((if0 _ _).trans (feq hc44_25).1) k) ?_
    obtain ⟨a225, T225, h225, k225, b225, kb225, X225, e225, E225, hS225, hk225, hZ225, hown225, Ex225, Fc225, Fv225, V225, la225, lb225, Cq225, Lt225, D225, st225⟩ := ldcCH (s := s) (EL := consts_1) X24 hx hZ1 hown1 (hw _ (mo 232 rfl)) hwS e24 hS1 hk1 hEL (mo 1 rfl) C1.1 (vs := []) (z := (0 : Int32)) ⟨by decide, by decide⟩ (by decide) (by decide) (g := (mkF m 47 #[vi sa, vi ia, vi c0, vi c1, vi c2, vi nn, vi bb, vr x0, uu, uu, uu, uu, uu, uu, uu, uu, uu, uu, uu, uu, uu, uu, uu] [])) rfl (hb hby at_47) (n := 0) (by decide) (by decide) (by decide) (by decide)
    have C225 : CHr Z consts_1 s.vm s.heap T225.vm h225 := CHr.trans C1 Cq225
    have K225 : Keep h0 h225 [] := Keep.ext Kc E225
    refine bW T225 (mkF m 49 #[vi sa, vi ia, vi c0, vi c1, vi c2, vi nn, vi bb, vr x0, uu, uu, uu, uu, uu, uu, uu, uu, uu, uu, uu, uu, uu, uu, uu] [(.ref a225)]) (fun _ k => st225 _ k) ?_
    refine bW T225 (mkF m 61 #[vi sa, vi ia, vi c0, vi c1, vi c2, vi nn, vi bb, vr x0, uu, uu, uu, uu, uu, uu, uu, uu, uu, uu, uu, uu, uu, uu, uu] [(.ref a225)]) (fun _ k => XS.goto X225.here hx rfl (pc0 := 49) (pc' := 61) rfl (hb hby at_49) (by decide) (by decide) k) ?_
    refine bW T225 (mkF m 63 #[vi sa, vi ia, vi c0, vi c1, vi c2, vi nn, vi bb, vr x0, vr a225, uu, uu, uu, uu, uu, uu, uu, uu, uu, uu, uu, uu, uu, uu] []) (fun _ k => XS.astore X225.here hx rfl (hb hby at_61) rfl rfl rfl k) ?_
    exact rm0_c2 (h1 := h225) (T1 := T225) (vm1 := T225.vm) hw (X225.more (by decide) (by decide)) e225 K225 N24 Z0 (Old.ext O0 E225) S_CS hcs S_DE V_aD hZ225 hown225 hS225 hk225 C225 hx hby hml hlk hrt (Exa.ext E225 Y3) (Fld.ext E225 Y4) (Arv.ext Y5 E225) Ex225 Fv225 V225 hnn hz0 (if_neg hc44_25).symm
theorem rm0 (l : Launch) (Z : State) (a0 : Array Value) (hw : HW Z a0) (ws : List Jvm.Cond) (sa ia : Int32) (c0 c1 : Int32) (c2 cs : Int32) (aD : Addr) (kD : ClassId) (h0 : Heap) (n0 : Nat) (Z0 : n0 ≤ h0.size) (O0 : Old Z n0 h0) (S_CS : Sta Z Z.heap sS "COMPACT_STRINGS" "Z" (.int cs)) (hcs : ¬ cs = (0 : Int32)) (S_DE : Sta Z Z.heap sL "DEFAULTCAPACITY_EMPTY_ELEMENTDATA" "[Ljava/lang/Object;" (.ref aD)) (V_aD : Arv Z Z.heap aD kD (.object sO) (0 : Int32) [] .null) :
    MetFree l x (head1 (Jvm.Cond.code x code maxLocals ret :: ws) room_1) (fun zz UU => zz = #[(.int sa), (.int ia), (.int c0), (.int c1), (.int c2)] ∧ Z.Warmed39 UU.vm ∧ UU.heap = h0 ∧ CHv Z consts_1 UU.vm h0 ∧ V_rm0 Z sa ia c0 c1 c2 cs aD kD h0 UU.vm) (fun _ _ _ _ _ => True) (fun _ U o U' => ∃ v L, o = .returned v ∧ Q_rm0 Z sa ia c0 c1 c2 cs aD kD h0 n0 v U'.heap L ∧ CHr Z consts_1 U.vm U.heap U'.vm U'.heap ∧ ReturnedEndW U o U' L 64 7488) := by
  refine MetFree.of_bodySF (plainFor_of_name pn_0) hisR ?_
  intro p e s m args below meth c s₁ Bd hml0 hP hK
  obtain ⟨rfl, hZ, hh, hH, hV⟩ := hP
  have hx := Bd.exec
  have hby := Bd.bytes
  have hml : c.maxLocals = 23 := hml0
  have hown : s.vm.findClass "com/example/nisaba/nisaba/isatab/ValuesFirstGivenPinLaw" = some m.cls := findClass_of_methodNamed Bd.named
  have hnm := (name_of_methodNamed Bd.named Bd.method).1
  have hlk : meth.locks = false := BodyLoose.notSynchronized Bd
  have X0 : Stand p l e room_1 (s.setVm s.vm) m #[(.int sa), (.int ia), (.int c0), (.int c1), (.int c2)] below meth c s₁ [] 0 0 := Stand.of_body Bd
  have e0 : s₁.heap = h0 := by rw [← hh, Bd.state]; rfl
  have N0 := Fr.nil n0
  show own_GoW p.tables e below Z consts_1 (Q_rm0 Z sa ia c0 c1 c2 cs aD kD h0 n0) s 64 7488 s₁ (entryFrame m #[(.int sa), (.int ia), (.int c0), (.int c1), (.int c2)] maxLocals)
  rw [ef_rm0 m sa ia c0 c1 c2]
  have hS0 : s.Since s.vm s.heap.size := (State.WarmedH.refl s).since _
  have hk0 : s.heap.size ≤ h0.size := Nat.le_of_eq (congrArg Array.size hh)
  have C0 : CHr Z consts_1 s.vm s.heap s.vm h0 := by rw [hh]; exact CHr.refl hH
  have hEL : EW Z a0 consts_1 := own_EL hw
  have hwS : ∀ d ∈ Bundle.stringAtoms, d.before a0 Z = true := fun d hd => hw d (own_SA d hd)
  refine bW s₁ (mkF m 1 #[vi sa, vi ia, vi c0, vi c1, vi c2, uu, uu, uu, uu, uu, uu, uu, uu, uu, uu, uu, uu, uu, uu, uu, uu, uu, uu] [(.int sa)]) (fun _ k => XS.iloadN X0.here hx rfl (hb hby at_0) rfl k) ?_
  refine bW s₁ (mkF m 2 #[vi sa, vi ia, vi c0, vi c1, vi c2, uu, uu, uu, uu, uu, uu, uu, uu, uu, uu, uu, uu, uu, uu, uu, uu, uu, uu] [(.int (3 : Int32)), (.int sa)]) (fun _ k => XS.iconst X0.here hx rfl (hb hby at_1) k) ?_
  refine bW s₁ (mkF m 3 #[vi sa, vi ia, vi c0, vi c1, vi c2, uu, uu, uu, uu, uu, uu, uu, uu, uu, uu, uu, uu, uu, uu, uu, uu, uu, uu] [(.int (sa &&& (3 : Int32)))]) (fun _ k => XS.iand X0.here hx rfl (hb hby at_2) rfl k) ?_
  have hnn := own_and3 sa
  generalize (sa &&& (3 : Int32)) = nn at hnn ⊢
  refine bW s₁ (mkF m 5 #[vi sa, vi ia, vi c0, vi c1, vi c2, vi nn, uu, uu, uu, uu, uu, uu, uu, uu, uu, uu, uu, uu, uu, uu, uu, uu, uu] []) (fun _ k => XS.istore X0.here hx rfl (hb hby at_3) rfl rfl k) ?_
  refine bW s₁ (mkF m 6 #[vi sa, vi ia, vi c0, vi c1, vi c2, vi nn, uu, uu, uu, uu, uu, uu, uu, uu, uu, uu, uu, uu, uu, uu, uu, uu, uu] [(.int sa)]) (fun _ k => XS.iloadN X0.here hx rfl (hb hby at_5) rfl k) ?_
  refine bW s₁ (mkF m 7 #[vi sa, vi ia, vi c0, vi c1, vi c2, vi nn, uu, uu, uu, uu, uu, uu, uu, uu, uu, uu, uu, uu, uu, uu, uu, uu, uu] [(.int (2 : Int32)), (.int sa)]) (fun _ k => XS.iconst X0.here hx rfl (hb hby at_6) k) ?_
  refine bW s₁ (mkF m 8 #[vi sa, vi ia, vi c0, vi c1, vi c2, vi nn, uu, uu, uu, uu, uu, uu, uu, uu, uu, uu, uu, uu, uu, uu, uu, uu, uu] [(.int ((sa.toUInt32 >>> ((2 : Int32) &&& 31).toUInt32).toInt32))]) (fun _ k => XS.iushr X0.here hx rfl (hb hby at_7) rfl k) ?_
  refine bW s₁ (mkF m 10 #[vi sa, vi ia, vi c0, vi c1, vi c2, vi nn, uu, uu, uu, uu, uu, uu, uu, uu, uu, uu, uu, uu, uu, uu, uu, uu, uu] [(.int (7 : Int32)), (.int ((sa.toUInt32 >>> ((2 : Int32) &&& 31).toUInt32).toInt32))]) (fun _ k => XS.bipush X0.here hx rfl (hb hby at_8) k) ?_
  refine bW s₁ (mkF m 11 #[vi sa, vi ia, vi c0, vi c1, vi c2, vi nn, uu, uu, uu, uu, uu, uu, uu, uu, uu, uu, uu, uu, uu, uu, uu, uu, uu] [(.int (((sa.toUInt32 >>> ((2 : Int32) &&& 31).toUInt32).toInt32) &&& (7 : Int32)))]) (fun _ k => XS.iand X0.here hx rfl (hb hby at_10) rfl k) ?_
  generalize (((sa.toUInt32 >>> ((2 : Int32) &&& 31).toUInt32).toInt32) &&& (7 : Int32)) = bb
  refine bW s₁ (mkF m 13 #[vi sa, vi ia, vi c0, vi c1, vi c2, vi nn, vi bb, uu, uu, uu, uu, uu, uu, uu, uu, uu, uu, uu, uu, uu, uu, uu, uu] []) (fun _ k => XS.istore X0.here hx rfl (hb hby at_11) rfl rfl k) ?_
  refine bW s₁ (mkF m 15 #[vi sa, vi ia, vi c0, vi c1, vi c2, vi nn, vi bb, uu, uu, uu, uu, uu, uu, uu, uu, uu, uu, uu, uu, uu, uu, uu, uu] [(.int bb)]) (fun _ k => XS.iload X0.here hx rfl (hb hby at_13) rfl k) ?_
  refine bW s₁ (mkF m 16 #[vi sa, vi ia, vi c0, vi c1, vi c2, vi nn, vi bb, uu, uu, uu, uu, uu, uu, uu, uu, uu, uu, uu, uu, uu, uu, uu, uu] [(ii 0), (.int bb)]) (fun _ k => XS.iconst X0.here hx rfl (hb hby at_15) k) ?_
  obtain ⟨_, _, ⟨T21, L21, k21, n21⟩, -, X21, ⟨Lc21, hQ21, l21, y21, z21⟩, st21⟩ := Jvm.LawKit.callS X0 hx (y := yy0) hown (mvT hZ (hw _ (mo 0 rfl))) (mvT hZ (hw _ (mo 1 rfl))) (mvT hZ (hw _ (mo 2 rfl))) (mvT hZ (hw _ (mo 3 rfl))) (by decide) (backOf (W := 0) (emc l Z a0 hw [] bb (0 : Int32)  h0 n0 Z0 ) hZ (hw _ (mo 3 rfl)) (hw _ (mo 2 rfl)) (by decide) (by decide)) (g := (mkF m 16 #[vi sa, vi ia, vi c0, vi c1, vi c2, vi nn, vi bb, uu, uu, uu, uu, uu, uu, uu, uu, uu, uu, uu, uu, uu, uu, uu, uu] [(ii 0), (.int bb)])) rfl (by rw [hml]; rfl) (argsL := [(.int bb), (ii 0)]) (rest := []) (lenOf pd_16 rfl) rfl (Nat.le_of_eq rfl) (hb hby at_16) (fun _ _ => ⟨rfl, e0, (by decide : 0 ≤ _), (by decide : 0 ≤ _)⟩)
  dsimp only [Pt.U, Pt.locs, Pt.cells, Pt.slots] at X21 l21 y21 z21 st21 hQ21
  subst l21 y21 z21
  obtain ⟨rfl, N21q, e21⟩ := hQ21
  have N21 := Fr.app (Fr.nil n0) N21q
  refine bW T21 (mkF m 19 #[vi sa, vi ia, vi c0, vi c1, vi c2, vi nn, vi bb, uu, uu, uu, uu, uu, uu, uu, uu, uu, uu, uu, uu, uu, uu, uu, uu] [(.int (own_e bb (0 : Int32)))]) (fun _ k => st21 _ k) ?_
  by_cases hc19_22 : (own_e bb (0 : Int32)) = (0 : Int32)
  · skip
    refine bW T21 (mkF m 27 #[vi sa, vi ia, vi c0, vi c1, vi c2, vi nn, vi bb, uu, uu, uu, uu, uu, uu, uu, uu, uu, uu, uu, uu, uu, uu, uu, uu] []) (fun _ k => XS.ifYes X21.here hx rfl (pc0 := 19) (pc' := 27) rfl (hb hby at_19) rfl ((if0 _ _).trans (teq hc19_22).1) (by decide) (by decide) k) ?_
    refine bW T21 (mkF m 28 #[vi sa, vi ia, vi c0, vi c1, vi c2, vi nn, vi bb, uu, uu, uu, uu, uu, uu, uu, uu, uu, uu, uu, uu, uu, uu, uu, uu] [(.int c0)]) (fun _ k => XS.iloadN X21.here hx rfl (hb hby at_27) rfl k) ?_
    refine bW T21 (mkF m 31 #[vi sa, vi ia, vi c0, vi c1, vi c2, vi nn, vi bb, uu, uu, uu, uu, uu, uu, uu, uu, uu, uu, uu, uu, uu, uu, uu, uu] [(.int (255 : Int32)), (.int c0)]) (fun _ k => XS.sipush X21.here hx rfl (hb hby at_28) k) ?_
    refine bW T21 (mkF m 32 #[vi sa, vi ia, vi c0, vi c1, vi c2, vi nn, vi bb, uu, uu, uu, uu, uu, uu, uu, uu, uu, uu, uu, uu, uu, uu, uu, uu] [(.int (c0 &&& (255 : Int32)))]) (fun _ k => XS.iand X21.here hx rfl (hb hby at_31) rfl k) ?_
    refine bW T21 (mkF m 33 #[vi sa, vi ia, vi c0, vi c1, vi c2, vi nn, vi bb, uu, uu, uu, uu, uu, uu, uu, uu, uu, uu, uu, uu, uu, uu, uu, uu] [(.int ((c0 &&& (255 : Int32)).toUInt32.toUInt16.toUInt32.toInt32))]) (fun _ k => XS.i2c X21.here hx rfl (hb hby at_32) rfl k) ?_
    obtain ⟨_, _, ⟨T23, L23, k23, n23⟩, -, X23, ⟨Lc23, hQ23, l23, y23, z23⟩, st23⟩ := Jvm.LawKit.callS X21 hx (y := yy4) hown (mvT hZ (hw _ (mo 4 rfl))) (mvT hZ (hw _ (mo 5 rfl))) (mvT hZ (hw _ (mo 6 rfl))) (mvT hZ (hw _ (mo 7 rfl))) (by decide) (backOf (W := 0) (vof l Z a0 hw [] ((c0 &&& (255 : Int32)).toUInt32.toUInt16.toUInt32.toInt32) cs h0 n0 Z0 (Sta.ext (O0).2 S_CS) hcs (own_c255 c0)) hZ (hw _ (mo 7 rfl)) (hw _ (mo 6 rfl)) (by decide) (by decide)) (g := (mkF m 33 #[vi sa, vi ia, vi c0, vi c1, vi c2, vi nn, vi bb, uu, uu, uu, uu, uu, uu, uu, uu, uu, uu, uu, uu, uu, uu, uu, uu] [(.int ((c0 &&& (255 : Int32)).toUInt32.toUInt16.toUInt32.toInt32))])) rfl (by rw [hml]; rfl) (argsL := [(.int ((c0 &&& (255 : Int32)).toUInt32.toUInt16.toUInt32.toInt32))]) (rest := []) (lenOf pd_17 rfl) rfl (Nat.le_of_eq rfl) (hb hby at_33) (fun _ _ => ⟨rfl, e21, (by decide : 2 ≤ _), (by decide : 5 ≤ _)⟩)
    dsimp only [Pt.U, Pt.locs, Pt.cells, Pt.slots] at X23 l23 y23 z23 st23 hQ23
    subst l23 y23 z23
    obtain ⟨x23, t23, kb23, rfl, N23q, K23, zx23, E23, Fv23, V23⟩ := hQ23
    have N23 := Fr.app N21 N23q
    have KK23 : Keep h0 T23.heap [] := Keep.trans (Keep.refl h0 []) K23 all0
    have C23 : CHr Z consts_1 s.vm s.heap s.vm T23.heap := CHr.trans C0 (CHr.keep K23 sf0 C0.1)
    refine bW T23 (mkF m 36 #[vi sa, vi ia, vi c0, vi c1, vi c2, vi nn, vi bb, uu, uu, uu, uu, uu, uu, uu, uu, uu, uu, uu, uu, uu, uu, uu, uu] [(.ref x23)]) (fun _ k => st23 _ k) ?_
    refine bW T23 (mkF m 38 #[vi sa, vi ia, vi c0, vi c1, vi c2, vi nn, vi bb, vr x23, uu, uu, uu, uu, uu, uu, uu, uu, uu, uu, uu, uu, uu, uu, uu] []) (fun _ k => XS.astore X23.here hx rfl (hb hby at_36) rfl rfl rfl k) ?_
    exact rm0_c1 (h1 := T23.heap) (T1 := T23) (vm1 := s.vm) hw X23 rfl KK23 N23 Z0 (Old.keep O0 K23 all0) S_CS hcs S_DE V_aD hZ hown hS0 (Nat.le_trans hk0 K23.1) C23 hx hby hml hlk Bd.returns E23 Fv23 V23 hnn (if_pos hc19_22).symm
  · skip
    refine bW T21 (mkF m 22 #[vi sa, vi ia, vi c0, vi c1, vi c2, vi nn, vi bb, uu, uu, uu, uu, uu, uu, uu, uu, uu, uu, uu, uu, uu, uu, uu, uu] []) (fun _ k => XS.ifNo X21.here hx rfl (hb hby at_19) rfl ((if0 _ _).trans (feq hc19_22).1) k) ?_
    obtain ⟨a226, T226, h226, k226, b226, kb226, X226, e226, E226, hS226, hk226, hZ226, hown226, Ex226, Fc226, Fv226, V226, la226, lb226, Cq226, Lt226, D226, st226⟩ := ldcCH (s := s) (EL := consts_1) X21 hx hZ hown (hw _ (mo 232 rfl)) hwS e21 hS0 hk0 hEL (mo 1 rfl) C0.1 (vs := []) (z := (0 : Int32)) ⟨by decide, by decide⟩ (by decide) (by decide) (g := (mkF m 22 #[vi sa, vi ia, vi c0, vi c1, vi c2, vi nn, vi bb, uu, uu, uu, uu, uu, uu, uu, uu, uu, uu, uu, uu, uu, uu, uu, uu] [])) rfl (hb hby at_22) (n := 0) (by decide) (by decide) (by decide) (by decide)
    have C226 : CHr Z consts_1 s.vm s.heap T226.vm h226 := CHr.trans C0 Cq226
    have K226 : Keep h0 h226 [] := Keep.ext (Keep.refl h0 []) E226
    refine bW T226 (mkF m 24 #[vi sa, vi ia, vi c0, vi c1, vi c2, vi nn, vi bb, uu, uu, uu, uu, uu, uu, uu, uu, uu, uu, uu, uu, uu, uu, uu, uu] [(.ref a226)]) (fun _ k => st226 _ k) ?_
    refine bW T226 (mkF m 36 #[vi sa, vi ia, vi c0, vi c1, vi c2, vi nn, vi bb, uu, uu, uu, uu, uu, uu, uu, uu, uu, uu, uu, uu, uu, uu, uu, uu] [(.ref a226)]) (fun _ k => XS.goto X226.here hx rfl (pc0 := 24) (pc' := 36) rfl (hb hby at_24) (by decide) (by decide) k) ?_
    refine bW T226 (mkF m 38 #[vi sa, vi ia, vi c0, vi c1, vi c2, vi nn, vi bb, vr a226, uu, uu, uu, uu, uu, uu, uu, uu, uu, uu, uu, uu, uu, uu, uu] []) (fun _ k => XS.astore X226.here hx rfl (hb hby at_36) rfl rfl rfl k) ?_
    exact rm0_c1 (h1 := h226) (T1 := T226) (vm1 := T226.vm) hw (X226.more (by decide) (by decide)) e226 K226 N21 Z0 (Old.ext O0 E226) S_CS hcs S_DE V_aD hZ226 hown226 hS226 hk226 C226 hx hby hml hlk Bd.returns Ex226 Fv226 V226 hnn (if_neg hc19_22).symm
theorem comes_1 {Post : Tables → Env → Array Value → State → Outcome → State → Prop} (hpost : ∀ tb e args s v u, (limb_1_1.after args s (.returned v) u = true ∧ limb_1_2.after args s (.returned v) u = true ∧ True) → ReturnedEndW s (.returned v) u (Jvm.fieldLocs frame_1_writes args s ++ Jvm.arrayLocs frame_1_arrays args s ++ Jvm.staticLocs frame_1_statics s) 64 7488 → Post tb e args s (.returned v) u) :
    ArmFor flags0 classFile x code maxLocals ret World_1 tables_1 room_1 Calls_1 rest_1 Pre_1 Post := by
  intro l hfl _ _ p e ha hc hk s m args below hf hA hF happ hP
  obtain ⟨hcalls, hrest, hpre⟩ := hP
  obtain ⟨-, -, -, hnamed, -, -, -, hat⟩ := (Spec.applies_iff hf).mp happ
  obtain ⟨hg, hn⟩ := and_e (Cond.before_iff.mp (show (Jvm.Cond.and given_1 narrow_1).before args s = true from hpre))
  obtain ⟨g1, g2⟩ := and_e hg
  obtain ⟨g3, g4⟩ := and_e g2
  obtain ⟨g5, g6⟩ := and_e g4
  obtain ⟨g7, g8⟩ := and_e g6
  obtain ⟨g9, g10⟩ := and_e g8
  obtain ⟨w0, w1, w2, w3, w4, rfl⟩ : ∃ w0 w1 w2 w3 w4 : Value, args = #[w0, w1, w2, w3, w4] := by
    have hs : args.size = 5 := by simpa [Cond.value, given_1] using g1
    obtain ⟨L⟩ := args
    match L, hs with
    | [w0, w1, w2, w3, w4], _ => exact ⟨w0, w1, w2, w3, w4, rfl⟩
  have hw := fun d (hd : d ∈ tables_1) => atoms_spec (ws := Jvm.Cond.code x code maxLocals ret :: tables_1) hat d (List.mem_cons_of_mem _ hd)
  have hfit : Fit s := fun {y c} hc i hi => by
    obtain ⟨ha, rfl⟩ := Array.getElem?_eq_some_iff.mp hc
    have q := List.all_eq_true.mp ((Array.all_eq_true_iff_forall_mem.mp hF) _ (Array.getElem_mem ha)) i (List.mem_range.mpr hi)
    simpa [Array.getElem?_eq_getElem hi] using q
  obtain ⟨hsets, hown0⟩ := atoms_of _ (rest_1_c_eq ▸ (show rest_1_c.before _ s = true from hrest))
  have hr0 := Cond.before_iff.mp hown0
  obtain ⟨i0, ei0⟩ := is_v g3
  obtain rfl : w0 = (.int i0) := Option.some.inj ei0
  obtain ⟨i1, ei1⟩ := is_v g5
  obtain rfl : w1 = (.int i1) := Option.some.inj ei1
  obtain ⟨i2, ei2⟩ := is_v g7
  obtain rfl : w2 = (.int i2) := Option.some.inj ei2
  obtain ⟨i3, ei3⟩ := is_v g9
  obtain rfl : w3 = (.int i3) := Option.some.inj ei3
  obtain ⟨i4, ei4⟩ := is_v g10
  obtain rfl : w4 = (.int i4) := Option.some.inj ei4
  obtain ⟨cs, ecs⟩ := is_v (Cond.before_iff.mp (hsets _ (mo 1 rfl)))
  have S_CS : Sta s s.heap sS "COMPACT_STRINGS" "Z" (.int cs) := Sta.start ecs (Or.inl (hsets _ (mo 0 rfl)))
  have hcs : ¬ cs = (0 : Int32) := own_ne0 ecs (hsets _ (mo 2 rfl))
  obtain ⟨aD, eaD⟩ := exa_v (Cond.before_iff.mp (hsets _ (mo 16 rfl)))
  have S_DE : Sta s s.heap sL "DEFAULTCAPACITY_EMPTY_ELEMENTDATA" "[Ljava/lang/Object;" (.ref aD) := Sta.start eaD (Or.inr ⟨(hw _ (mo 32 rfl)), (hsets _ (mo 11 rfl))⟩)
  obtain ⟨clD, A_D⟩ := Arr.start eaD (Cond.before_iff.mp (hsets _ (mo 15 rfl)))
  have L_D := own_len eaD (Arr.fin (Vm.Alike.refl _) A_D) (Cond.before_iff.mp (hsets _ (mo 17 rfl)))
  have V_aD : Arv s s.heap aD clD.cls (.object sO) (0 : Int32) [] .null := Arv.start hfit A_D L_D.1 L_D.2 (by decide) rfl trivial
  have hCH : CHv s consts_1 s.vm s.heap := CHv.start (own_EL hw) (fun p hp => hcalls.1 p hp) (hsets _ (mo 2 rfl)) (hw _ (mo 18 rfl)) (hw _ (mo 14 rfl))
  obtain ⟨n, o, h1, h2, h3, _, L, rfl, ⟨rfl, N⟩, hCr, hq⟩ := rm0 l s _ hw tables_1 i0 i1 i2 i3 i4 cs aD clD.cls s.heap s.heap.size (Nat.le_refl _) (Old.start s) S_CS hcs S_DE V_aD p e ha hc hk s m _ below hf ((Spec.applies_iff_loose hf).mp happ).1 ⟨rfl, State.Warmed39.refl s, rfl, hCH, trivial⟩ trivial
  refine ⟨n, _, h1, h2, h3, hpost _ _ _ _ _ _ ⟨Cond.after_iff.mpr rfl, Cond.after_iff.mpr (eq_i res_at (Term.int_eval (1)) rfl), trivial⟩ ⟨hq.1, hq.2.1, hq.2.2.1, (hq.2.2.2.sift fun y hy => Or.inr (N y hy)).mono (by decide) (by decide)⟩⟩
theorem main_1_1 : Claimed_1_1 := comes_1 fun _ _ _ _ _ _ h hF => ⟨h.1, hF⟩
theorem main_1_2 : Claimed_1_2 := comes_1 fun _ _ _ _ _ _ h hF => ⟨h.2.1, hF⟩
end Jvm.Pilot.@@N@@
namespace Jvm.Pilot.@@N@@
open Jvm Jvm.ClassFile Sem Op Lib Jvm.Free Jvm.Stand Jvm.Pilot.@@N@@.Jvm.D
/-! MADE BY PROGRAM (witnessworld.py) out of the Statement's table words and the real class files: 31 classes; the members and pool entries that the words name. The judged class is class 1, her method 2. -/
namespace start1
open Jvm.ClassFile
def u (s : String) : CpInfo := .utf8 (stringToUtf16 s)
/-- a pool by its gaps: so many unusable entries, then the entry; so many at the end -/
def gap : Nat → List CpInfo → List CpInfo
  | 0, r => r
  | n + 1, r => .unusable :: gap n r
def poolList (es : List (Nat × CpInfo)) (last : Nat) : List CpInfo := es.foldr (fun e r => gap e.1 (e.2 :: r)) (gap last [])
def pool (es : List (Nat × CpInfo)) (last : Nat) : Array CpInfo := ⟨poolList es last⟩
def fileOf (pool : Array CpInfo) (this : Nat) (attrs : Array Attribute := #[]) (ms : Array MethodInfo := #[]) (fl : Nat := 33) (sup : Nat := 0) (ifs : Array Nat := #[]) (fds : Array FieldInfo := #[]) : ClassFile where
  minorVersion := 0
  majorVersion := 65
  constantPool := pool
  accessFlags := fl
  thisClass := this
  superClass := sup
  interfaces := ifs
  fields := fds
  methods := ms
  attributes := attrs
def plain (name : String) (sup : Option ClassId) : Class where
  name := name
  kind := .ordinary
  loader := none
  accessFlags := 33
  super := sup
  interfaces := #[]
  cf := none
  fields := #[]
  methods := #[]
  instanceTypes := #[]
  staticTypes := #[]
  resolved := #[]
  callSites := []
  init := .initialized
  statics := none
  mirror := none

def pool0 : Array CpInfo := pool [(5, u "<init>"), (0, u "()V"), (1, .class_ 10), (1, u "java/lang/Object")] 113

def k0c0 : Code := { maxStack := 0, maxLocals := 1, code := object_method_1_code, exceptionTable := #[], attributes := #[] }
def k0m0 : Method := { name := "<init>", desc := "()V", sig := { parameters := [], returnType := none }, accessFlags := 1, code := some k0c0 }
/-- java/lang/Object -/
def k0 : Class := { plain "java/lang/Object" none with
  accessFlags := 33
  interfaces := #[]
  cf := some (fileOf pool0 8 #[] #[{ accessFlags := 1, nameIndex := 5, descriptorIndex := 6, attributes := #[] }] 33 0 #[] #[])
  fields := #[]
  methods := #[k0m0]
  instanceTypes := #[]
  staticTypes := #[]
  resolved := Array.replicate 124 none
  statics := none }

def pool1 : Array CpInfo := pool [(2, .class_ 4), (0, .nameAndType 5 6), (0, u "java/lang/Object"), (0, u "<init>"), (0, u "()V"), (0, .methodref 8 9), (0, .class_ 10), (0, .nameAndType 11 12), (0, u "com/example/nisaba/nisaba/isatab/ValuesFirstGivenPinLaw"), (0, u "isEmptyCell"), (0, u "(II)Z"), (0, .string 14), (0, u ""), (0, .methodref 16 17), (0, .class_ 18), (0, .nameAndType 19 20), (0, u "java/lang/String"), (0, u "valueOf"), (0, u "(C)Ljava/lang/String;"), (0, .class_ 22), (0, u "java/util/ArrayList"), (0, .methodref 21 3), (0, .methodref 21 25), (0, .nameAndType 26 27), (0, u "add"), (0, u "(Ljava/lang/Object;)Z"), (0, .class_ 29), (0, u "com/example/nisaba/nisaba/isatab/Header$AnnotationColumn"), (0, .string 31), (0, u "Characteristics"), (0, .string 33), (0, u "a"), (0, .methodref 28 35), (0, .nameAndType 5 36), (0, u "(Ljava/lang/String;Ljava/lang/String;I)V"), (0, .string 38), (0, u "b"), (0, .string 40), (0, u "Factor Value"), (0, .string 42), (0, u "c"), (0, .class_ 44), (0, u "com/example/nisaba/nisaba/isatab/Values"), (0, .methodref 43 46), (0, .nameAndType 5 47), (0, u "(Ljava/util/List;Ljava/util/List;)V"), (0, .methodref 43 49), (0, .nameAndType 50 51), (0, u "firstGiven"), (0, u "()I"), (3, u "law"), (0, u "(IIIII)Z")] 6

def k1m0 : Method := { name := "<init>", desc := "()V", sig := { parameters := [], returnType := none }, accessFlags := 1, code := none }
def k1c1 : Code := { maxStack := 2, maxLocals := 2, code := method_2_code, exceptionTable := #[], attributes := #[] }
def k1m1 : Method := { name := "isEmptyCell", desc := "(II)Z", sig := { parameters := [.int, .int], returnType := some .boolean }, accessFlags := 10, code := some k1c1 }
def k1c2 : Code := { maxStack := 5, maxLocals := 23, code := code, exceptionTable := #[], attributes := #[] }
def k1m2 : Method := { name := "law", desc := "(IIIII)Z", sig := { parameters := [.int, .int, .int, .int, .int], returnType := some .boolean }, accessFlags := 9, code := some k1c2 }
/-- com/example/nisaba/nisaba/isatab/ValuesFirstGivenPinLaw -/
def k1 : Class := { plain "com/example/nisaba/nisaba/isatab/ValuesFirstGivenPinLaw" (some 0) with
  accessFlags := 49
  interfaces := #[]
  cf := some (fileOf pool1 8 #[] #[{ accessFlags := 1, nameIndex := 5, descriptorIndex := 6, attributes := #[] }, { accessFlags := 10, nameIndex := 11, descriptorIndex := 12, attributes := #[] }, { accessFlags := 9, nameIndex := 55, descriptorIndex := 56, attributes := #[] }] 49 2 #[] #[])
  fields := #[]
  methods := #[k1m0, k1m1, k1m2]
  instanceTypes := #[]
  staticTypes := #[]
  resolved := Array.replicate 63 none
  statics := none }

def pool2 : Array CpInfo := pool [(1, .class_ 2), (0, u "java/io/Serializable"), (0, .class_ 4), (0, u "java/lang/Object")] 2

/-- java/io/Serializable -/
def k2 : Class := { plain "java/io/Serializable" (some 0) with
  accessFlags := 1537
  interfaces := #[]
  cf := some (fileOf pool2 1 #[] #[] 1537 3 #[] #[])
  fields := #[]
  methods := #[]
  instanceTypes := #[]
  staticTypes := #[]
  resolved := Array.replicate 7 none
  statics := none }

def pool3 : Array CpInfo := pool [(1, .class_ 2), (0, u "java/lang/Comparable"), (0, .class_ 4), (0, u "java/lang/Object")] 7

/-- java/lang/Comparable -/
def k3 : Class := { plain "java/lang/Comparable" (some 0) with
  accessFlags := 1537
  interfaces := #[]
  cf := some (fileOf pool3 1 #[] #[] 1537 3 #[] #[])
  fields := #[]
  methods := #[]
  instanceTypes := #[]
  staticTypes := #[]
  resolved := Array.replicate 12 none
  statics := none }

def pool4 : Array CpInfo := pool [(2, .class_ 4), (1, u "java/lang/CharSequence"), (42, .class_ 48), (0, u "java/lang/CharSequence$1CodePointIterator"), (10, .class_ 60), (0, u "java/lang/CharSequence$1CharIterator"), (5, .class_ 67), (0, u "java/lang/Object")] 63

/-- java/lang/CharSequence -/
def k4 : Class := { plain "java/lang/CharSequence" (some 0) with
  accessFlags := 1537
  interfaces := #[]
  cf := some (fileOf pool4 2 #[.nestMembers #[47, 59]] #[] 1537 66 #[] #[])
  fields := #[]
  methods := #[]
  instanceTypes := #[]
  staticTypes := #[]
  resolved := Array.replicate 131 none
  statics := none }

def pool5 : Array CpInfo := pool [(1, .class_ 2), (0, u "java/lang/constant/Constable"), (0, .class_ 4), (0, u "java/lang/Object")] 6

/-- java/lang/constant/Constable -/
def k5 : Class := { plain "java/lang/constant/Constable" (some 0) with
  accessFlags := 1537
  interfaces := #[]
  cf := some (fileOf pool5 1 #[] #[] 1537 3 #[] #[])
  fields := #[]
  methods := #[]
  instanceTypes := #[]
  staticTypes := #[]
  resolved := Array.replicate 11 none
  statics := none }

def pool6 : Array CpInfo := pool [(1, .class_ 2), (0, u "java/lang/constant/ConstantDesc"), (0, .class_ 4), (0, u "java/lang/Object")] 32

/-- java/lang/constant/ConstantDesc -/
def k6 : Class := { plain "java/lang/constant/ConstantDesc" (some 0) with
  accessFlags := 1537
  interfaces := #[]
  cf := some (fileOf pool6 1 #[] #[] 1537 3 #[] #[])
  fields := #[]
  methods := #[]
  instanceTypes := #[]
  staticTypes := #[]
  resolved := Array.replicate 37 none
  statics := none }

def pool7 : Array CpInfo := pool [(1, .methodref 2 3), (0, .class_ 4), (0, .nameAndType 5 6), (0, u "java/lang/Object"), (0, u "<init>"), (0, u "()V"), (2, .fieldref 10 11), (0, .class_ 12), (0, .nameAndType 13 14), (0, u "java/lang/String"), (0, u "value"), (0, u "[B"), (0, .fieldref 10 16), (0, .nameAndType 17 18), (0, u "coder"), (0, u "B"), (2, u "hash"), (0, u "I"), (2, u "hashIsZero"), (0, u "Z"), (11, .fieldref 10 39), (0, .nameAndType 40 26), (0, u "COMPACT_STRINGS"), (12, u "toBytes"), (53, .class_ 109), (1, u "java/lang/StringLatin1"), (32, u "()Z"), (66, .methodref 10 210), (0, .nameAndType 5 211), (0, u "([BB)V"), (157, u "(C)Z"), (205, .class_ 576), (0, u "java/lang/CharSequence"), (22, u "CASE_INSENSITIVE_ORDER"), (0, u "Ljava/util/Comparator;"), (91, u "isEmpty"), (89, u "valueOf"), (0, u "(C)Ljava/lang/String;"), (231, .methodref 107 1016), (0, .nameAndType 1017 369), (0, u "canEncode"), (0, .methodref 107 1019), (0, .nameAndType 53 1020), (0, u "(C)[B"), (80, u "serialPersistentFields"), (0, u "[Ljava/io/ObjectStreamField;"), (0, .class_ 1104), (0, u "java/lang/String$CaseInsensitiveComparator"), (1, .class_ 1107), (0, u "java/io/Serializable"), (0, .class_ 1109), (0, u "java/lang/Comparable"), (0, .class_ 1111), (0, u "java/lang/constant/Constable"), (0, .class_ 1113), (0, u "java/lang/constant/ConstantDesc"), (2, u "serialVersionUID"), (0, u "J"), (3, u "REPL"), (0, u "C"), (2, u "LATIN1"), (1, u "UTF16")] 323

def k7m0 : Method := { name := "<init>", desc := "()V", sig := { parameters := [], returnType := none }, accessFlags := 1, code := none }
def k7c1 : Code := { maxStack := 1, maxLocals := 1, code := jdk_42_method_55_code, exceptionTable := #[], attributes := #[] }
def k7m1 : Method := { name := "isEmpty", desc := "()Z", sig := { parameters := [], returnType := some .boolean }, accessFlags := 1, code := some k7c1 }
def k7c2 : Code := { maxStack := 4, maxLocals := 1, code := jdk_42_method_139_code, exceptionTable := #[], attributes := #[] }
def k7m2 : Method := { name := "valueOf", desc := "(C)Ljava/lang/String;", sig := { parameters := [.char], returnType := some (.object "java/lang/String") }, accessFlags := 9, code := some k7c2 }
def k7c3 : Code := { maxStack := 2, maxLocals := 3, code := jdk_42_method_151_code, exceptionTable := #[], attributes := #[] }
def k7m3 : Method := { name := "<init>", desc := "([BB)V", sig := { parameters := [(.array .byte), .byte], returnType := none }, accessFlags := 0, code := some k7c3 }
/-- java/lang/String -/
def k7 : Class := { plain "java/lang/String" (some 0) with
  accessFlags := 49
  interfaces := #[2, 3, 4, 5, 6]
  cf := some (fileOf pool7 10 #[.nestMembers #[1103]] #[{ accessFlags := 1, nameIndex := 5, descriptorIndex := 6, attributes := #[] }, { accessFlags := 1, nameIndex := 692, descriptorIndex := 142, attributes := #[] }, { accessFlags := 9, nameIndex := 782, descriptorIndex := 783, attributes := #[] }, { accessFlags := 0, nameIndex := 5, descriptorIndex := 211, attributes := #[] }] 49 2 #[1106, 1108, 575, 1110, 1112] #[{ accessFlags := 18, nameIndex := 13, descriptorIndex := 14, attributes := #[] }, { accessFlags := 18, nameIndex := 17, descriptorIndex := 18, attributes := #[] }, { accessFlags := 2, nameIndex := 21, descriptorIndex := 22, attributes := #[] }, { accessFlags := 2, nameIndex := 25, descriptorIndex := 26, attributes := #[] }, { accessFlags := 26, nameIndex := 1116, descriptorIndex := 1117, attributes := #[] }, { accessFlags := 24, nameIndex := 40, descriptorIndex := 26, attributes := #[] }, { accessFlags := 26, nameIndex := 1101, descriptorIndex := 1102, attributes := #[] }, { accessFlags := 26, nameIndex := 1121, descriptorIndex := 1122, attributes := #[] }, { accessFlags := 25, nameIndex := 599, descriptorIndex := 600, attributes := #[] }, { accessFlags := 24, nameIndex := 1125, descriptorIndex := 18, attributes := #[] }, { accessFlags := 24, nameIndex := 1127, descriptorIndex := 18, attributes := #[] }])
  fields := #[{ name := "value", type := (.array .byte), accessFlags := 18, slot := 0, constantValue := 0 }, { name := "coder", type := .byte, accessFlags := 18, slot := 1, constantValue := 0 }, { name := "hash", type := .int, accessFlags := 2, slot := 2, constantValue := 0 }, { name := "hashIsZero", type := .boolean, accessFlags := 2, slot := 3, constantValue := 0 }, { name := "serialVersionUID", type := .long, accessFlags := 26, slot := 0, constantValue := 0 }, { name := "COMPACT_STRINGS", type := .boolean, accessFlags := 24, slot := 1, constantValue := 0 }, { name := "serialPersistentFields", type := (.array (.object "java/io/ObjectStreamField")), accessFlags := 26, slot := 2, constantValue := 0 }, { name := "REPL", type := .char, accessFlags := 26, slot := 3, constantValue := 0 }, { name := "CASE_INSENSITIVE_ORDER", type := (.object "java/util/Comparator"), accessFlags := 25, slot := 4, constantValue := 0 }, { name := "LATIN1", type := .byte, accessFlags := 24, slot := 5, constantValue := 0 }, { name := "UTF16", type := .byte, accessFlags := 24, slot := 6, constantValue := 0 }]
  methods := #[k7m0, k7m1, k7m2, k7m3]
  instanceTypes := #[(.array .byte), .byte, .int, .boolean]
  staticTypes := #[.long, .boolean, (.array (.object "java/io/ObjectStreamField")), .char, (.object "java/util/Comparator"), .byte, .byte]
  resolved := Array.replicate 1451 none
  statics := some 0 }

def pool8 : Array CpInfo := pool [(4, .class_ 6), (1, u "java/lang/Object"), (0, u "<init>"), (0, u "()V"), (5, .class_ 16), (1, u "java/lang/StringLatin1"), (73, u "canEncode"), (14, u "(C)Z"), (15, u "$assertionsDisabled"), (0, u "Z"), (98, .class_ 223), (1, u "java/lang/StringLatin1$LinesSpliterator"), (156, u "toBytes"), (1, u "(C)[B"), (7, .class_ 391), (0, u "java/lang/StringLatin1$CharsSpliterator")] 3

def k8m0 : Method := { name := "<init>", desc := "()V", sig := { parameters := [], returnType := none }, accessFlags := 0, code := none }
def k8c1 : Code := { maxStack := 2, maxLocals := 1, code := jdk_43_method_3_code, exceptionTable := #[], attributes := #[] }
def k8m1 : Method := { name := "canEncode", desc := "(C)Z", sig := { parameters := [.char], returnType := some .boolean }, accessFlags := 9, code := some k8c1 }
def k8c2 : Code := { maxStack := 4, maxLocals := 1, code := jdk_43_method_46_code, exceptionTable := #[], attributes := #[] }
def k8m2 : Method := { name := "toBytes", desc := "(C)[B", sig := { parameters := [.char], returnType := some (.array .byte) }, accessFlags := 9, code := some k8c2 }
/-- java/lang/StringLatin1 -/
def k8 : Class := { plain "java/lang/StringLatin1" (some 0) with
  accessFlags := 48
  interfaces := #[]
  cf := some (fileOf pool8 14 #[.nestMembers #[390, 221]] #[{ accessFlags := 0, nameIndex := 7, descriptorIndex := 8, attributes := #[] }, { accessFlags := 9, nameIndex := 90, descriptorIndex := 105, attributes := #[] }, { accessFlags := 9, nameIndex := 380, descriptorIndex := 382, attributes := #[] }] 48 4 #[] #[{ accessFlags := 4120, nameIndex := 121, descriptorIndex := 122, attributes := #[] }])
  fields := #[{ name := "$assertionsDisabled", type := .boolean, accessFlags := 4120, slot := 0, constantValue := 0 }]
  methods := #[k8m0, k8m1, k8m2]
  instanceTypes := #[]
  staticTypes := #[.boolean]
  resolved := Array.replicate 395 none
  statics := none }

def pool9 : Array CpInfo := pool [(8, .class_ 10), (1, u "java/lang/Iterable"), (24, .class_ 36), (0, u "java/lang/Object")] 25

/-- java/lang/Iterable -/
def k9 : Class := { plain "java/lang/Iterable" (some 0) with
  accessFlags := 1537
  interfaces := #[]
  cf := some (fileOf pool9 8 #[] #[] 1537 35 #[] #[])
  fields := #[]
  methods := #[]
  instanceTypes := #[]
  staticTypes := #[]
  resolved := Array.replicate 62 none
  statics := none }

def pool10 : Array CpInfo := pool [(10, .class_ 12), (1, u "java/util/Collection"), (47, .class_ 61), (0, u "java/lang/Object"), (0, .class_ 63), (0, u "java/lang/Iterable")] 51

/-- java/util/Collection -/
def k10 : Class := { plain "java/util/Collection" (some 0) with
  accessFlags := 1537
  interfaces := #[9]
  cf := some (fileOf pool10 10 #[] #[] 1537 60 #[62] #[])
  fields := #[]
  methods := #[]
  instanceTypes := #[]
  staticTypes := #[]
  resolved := Array.replicate 115 none
  statics := none }

def pool11 : Array CpInfo := pool [(1, .methodref 2 3), (0, .class_ 4), (0, .nameAndType 5 6), (0, u "java/lang/Object"), (0, u "<init>"), (0, u "()V"), (1, .class_ 10), (1, u "java/util/AbstractCollection"), (66, .class_ 78), (0, u "java/util/Collection")] 81

def k11c0 : Code := { maxStack := 1, maxLocals := 1, code := jdk_22_method_1_code, exceptionTable := #[], attributes := #[] }
def k11m0 : Method := { name := "<init>", desc := "()V", sig := { parameters := [], returnType := none }, accessFlags := 4, code := some k11c0 }
/-- java/util/AbstractCollection -/
def k11 : Class := { plain "java/util/AbstractCollection" (some 0) with
  accessFlags := 1057
  interfaces := #[10]
  cf := some (fileOf pool11 8 #[] #[{ accessFlags := 4, nameIndex := 5, descriptorIndex := 6, attributes := #[] }] 1057 2 #[77] #[])
  fields := #[]
  methods := #[k11m0]
  instanceTypes := #[]
  staticTypes := #[]
  resolved := Array.replicate 160 none
  statics := none }

def pool12 : Array CpInfo := pool [(8, .class_ 10), (1, u "java/util/SequencedCollection"), (15, .class_ 27), (0, u "java/lang/Object"), (0, .class_ 29), (0, u "java/util/Collection")] 27

/-- java/util/SequencedCollection -/
def k12 : Class := { plain "java/util/SequencedCollection" (some 0) with
  accessFlags := 1537
  interfaces := #[10]
  cf := some (fileOf pool12 8 #[] #[] 1537 26 #[28] #[])
  fields := #[]
  methods := #[]
  instanceTypes := #[]
  staticTypes := #[]
  resolved := Array.replicate 57 none
  statics := none }

def pool13 : Array CpInfo := pool [(8, .class_ 10), (1, u "java/util/List"), (49, u "add"), (3, u "(Ljava/lang/Object;)Z"), (10, u "get"), (0, u "(I)Ljava/lang/Object;"), (2, u "size"), (0, u "()I"), (22, .class_ 104), (0, u "java/lang/Object"), (15, .class_ 121), (0, u "java/util/SequencedCollection"), (1, u "iterator"), (0, u "()Ljava/util/Iterator;")] 126

def k13m0 : Method := { name := "size", desc := "()I", sig := { parameters := [], returnType := some .int }, accessFlags := 1025, code := none }
def k13m1 : Method := { name := "iterator", desc := "()Ljava/util/Iterator;", sig := { parameters := [], returnType := some (.object "java/util/Iterator") }, accessFlags := 1025, code := none }
def k13m2 : Method := { name := "add", desc := "(Ljava/lang/Object;)Z", sig := { parameters := [(.object "java/lang/Object")], returnType := some .boolean }, accessFlags := 1025, code := none }
def k13m3 : Method := { name := "get", desc := "(I)Ljava/lang/Object;", sig := { parameters := [.int], returnType := some (.object "java/lang/Object") }, accessFlags := 1025, code := none }
/-- java/util/List -/
def k13 : Class := { plain "java/util/List" (some 0) with
  accessFlags := 1537
  interfaces := #[12]
  cf := some (fileOf pool13 8 #[] #[{ accessFlags := 1025, nameIndex := 79, descriptorIndex := 80, attributes := #[] }, { accessFlags := 1025, nameIndex := 123, descriptorIndex := 124, attributes := #[] }, { accessFlags := 1025, nameIndex := 60, descriptorIndex := 64, attributes := #[] }, { accessFlags := 1025, nameIndex := 75, descriptorIndex := 76, attributes := #[] }] 1537 103 #[120] #[])
  fields := #[]
  methods := #[k13m0, k13m1, k13m2, k13m3]
  instanceTypes := #[]
  staticTypes := #[]
  resolved := Array.replicate 251 none
  statics := none }

def pool14 : Array CpInfo := pool [(1, .methodref 2 3), (0, .class_ 4), (0, .nameAndType 5 6), (0, u "java/util/AbstractCollection"), (0, u "<init>"), (0, u "()V"), (0, .fieldref 8 9), (0, .class_ 10), (0, .nameAndType 11 12), (0, u "java/util/AbstractList"), (0, u "modCount"), (0, u "I"), (64, .class_ 78), (0, u "java/util/AbstractList$Itr"), (3, .class_ 83), (0, u "java/util/AbstractList$ListItr"), (9, .class_ 94), (0, u "java/util/AbstractList$RandomAccessSubList"), (3, .class_ 99), (0, u "java/util/AbstractList$SubList"), (33, .class_ 134), (0, u "java/util/List"), (73, .class_ 209), (0, u "java/util/AbstractList$SubList$1"), (0, .class_ 211), (0, u "java/util/AbstractList$RandomAccessSpliterator")] 6

def k14c0 : Code := { maxStack := 2, maxLocals := 1, code := jdk_39_method_1_code, exceptionTable := #[], attributes := #[] }
def k14m0 : Method := { name := "<init>", desc := "()V", sig := { parameters := [], returnType := none }, accessFlags := 4, code := some k14c0 }
/-- java/util/AbstractList -/
def k14 : Class := { plain "java/util/AbstractList" (some 11) with
  accessFlags := 1057
  interfaces := #[13]
  cf := some (fileOf pool14 8 #[.nestMembers #[93, 98, 208, 210, 82, 77]] #[{ accessFlags := 4, nameIndex := 5, descriptorIndex := 6, attributes := #[] }] 1057 2 #[133] #[{ accessFlags := 132, nameIndex := 11, descriptorIndex := 12, attributes := #[] }])
  fields := #[{ name := "modCount", type := .int, accessFlags := 132, slot := 0, constantValue := 0 }]
  methods := #[k14m0]
  instanceTypes := #[.int]
  staticTypes := #[]
  resolved := Array.replicate 218 none
  statics := none }

def pool15 : Array CpInfo := pool [(1, .class_ 2), (0, u "java/util/RandomAccess"), (0, .class_ 4), (0, u "java/lang/Object")] 2

/-- java/util/RandomAccess -/
def k15 : Class := { plain "java/util/RandomAccess" (some 0) with
  accessFlags := 1537
  interfaces := #[]
  cf := some (fileOf pool15 1 #[] #[] 1537 3 #[] #[])
  fields := #[]
  methods := #[]
  instanceTypes := #[]
  staticTypes := #[]
  resolved := Array.replicate 7 none
  statics := none }

def pool16 : Array CpInfo := pool [(1, .class_ 2), (0, u "java/lang/Cloneable"), (0, .class_ 4), (0, u "java/lang/Object")] 2

/-- java/lang/Cloneable -/
def k16 : Class := { plain "java/lang/Cloneable" (some 0) with
  accessFlags := 1537
  interfaces := #[]
  cf := some (fileOf pool16 1 #[] #[] 1537 3 #[] #[])
  fields := #[]
  methods := #[]
  instanceTypes := #[]
  staticTypes := #[]
  resolved := Array.replicate 7 none
  statics := none }

def pool17 : Array CpInfo := pool [(1, .methodref 2 3), (0, .class_ 4), (0, .nameAndType 5 6), (0, u "java/util/AbstractList"), (0, u "<init>"), (0, u "()V"), (0, .class_ 8), (0, u "java/lang/Object"), (0, .fieldref 10 11), (0, .class_ 12), (0, .nameAndType 13 14), (0, u "java/util/ArrayList"), (0, u "elementData"), (0, u "[Ljava/lang/Object;"), (2, u "EMPTY_ELEMENTDATA"), (21, .fieldref 10 40), (0, .nameAndType 41 14), (0, u "DEFAULTCAPACITY_EMPTY_ELEMENTDATA"), (5, u "()[Ljava/lang/Object;"), (0, .fieldref 10 49), (0, .nameAndType 50 51), (0, u "size"), (0, u "I"), (11, .fieldref 10 64), (0, .nameAndType 65 51), (0, u "modCount"), (3, .methodref 10 70), (0, .nameAndType 71 72), (0, u "grow"), (0, u "(I)[Ljava/lang/Object;"), (6, .methodref 80 81), (0, .class_ 82), (0, .nameAndType 83 84), (0, u "java/lang/Math"), (0, u "max"), (0, u "(II)I"), (11, u "(Ljava/lang/Object;)Z"), (21, .methodref 119 120), (0, .class_ 121), (0, .nameAndType 122 84), (0, u "java/util/Objects"), (0, u "checkIndex"), (0, .methodref 10 124), (0, .nameAndType 13 125), (0, u "(I)Ljava/lang/Object;"), (3, .methodref 10 130), (0, .nameAndType 71 47), (0, .methodref 10 132), (0, .nameAndType 133 134), (0, u "add"), (0, u "(Ljava/lang/Object;[Ljava/lang/Object;I)V"), (13, .class_ 149), (0, u "java/util/List"), (16, u "iterator"), (0, u "()Ljava/util/Iterator;"), (18, u "()I"), (75, .class_ 263), (0, u "java/util/ArrayList$ListItr"), (3, .class_ 268), (0, u "java/util/ArrayList$Itr"), (0, .methodref 267 270), (0, .nameAndType 5 271), (0, u "(Ljava/util/ArrayList;)V"), (4, .class_ 277), (0, u "java/util/ArrayList$SubList"), (12, .class_ 291), (0, u "java/util/ArrayList$ArrayListSpliterator"), (37, .class_ 330), (0, u "java/util/RandomAccess"), (0, .class_ 332), (0, u "java/lang/Cloneable"), (0, .class_ 334), (0, u "java/io/Serializable"), (0, u "serialVersionUID"), (0, u "J"), (3, u "DEFAULT_CAPACITY"), (40, u "get"), (118, .class_ 501), (0, u "java/util/ArrayList$SubList$2"), (0, .class_ 503), (0, u "java/util/ArrayList$SubList$1")] 5

def k17c0 : Code := { maxStack := 2, maxLocals := 1, code := jdk_38_method_2_code, exceptionTable := #[], attributes := #[] }
def k17m0 : Method := { name := "<init>", desc := "()V", sig := { parameters := [], returnType := none }, accessFlags := 1, code := some k17c0 }
def k17c1 : Code := { maxStack := 4, maxLocals := 4, code := jdk_38_method_6_code, exceptionTable := #[], attributes := #[] }
def k17m1 : Method := { name := "grow", desc := "(I)[Ljava/lang/Object;", sig := { parameters := [.int], returnType := some (.array (.object "java/lang/Object")) }, accessFlags := 2, code := some k17c1 }
def k17c2 : Code := { maxStack := 3, maxLocals := 1, code := jdk_38_method_7_code, exceptionTable := #[], attributes := #[] }
def k17m2 : Method := { name := "grow", desc := "()[Ljava/lang/Object;", sig := { parameters := [], returnType := some (.array (.object "java/lang/Object")) }, accessFlags := 2, code := some k17c2 }
def k17c3 : Code := { maxStack := 1, maxLocals := 1, code := jdk_38_method_8_code, exceptionTable := #[], attributes := #[] }
def k17m3 : Method := { name := "size", desc := "()I", sig := { parameters := [], returnType := some .int }, accessFlags := 1, code := some k17c3 }
def k17c4 : Code := { maxStack := 2, maxLocals := 2, code := jdk_38_method_18_code, exceptionTable := #[], attributes := #[] }
def k17m4 : Method := { name := "elementData", desc := "(I)Ljava/lang/Object;", sig := { parameters := [.int], returnType := some (.object "java/lang/Object") }, accessFlags := 0, code := some k17c4 }
def k17c5 : Code := { maxStack := 2, maxLocals := 2, code := jdk_38_method_20_code, exceptionTable := #[], attributes := #[] }
def k17m5 : Method := { name := "get", desc := "(I)Ljava/lang/Object;", sig := { parameters := [.int], returnType := some (.object "java/lang/Object") }, accessFlags := 1, code := some k17c5 }
def k17c6 : Code := { maxStack := 3, maxLocals := 4, code := jdk_38_method_24_code, exceptionTable := #[], attributes := #[] }
def k17m6 : Method := { name := "add", desc := "(Ljava/lang/Object;[Ljava/lang/Object;I)V", sig := { parameters := [(.object "java/lang/Object"), (.array (.object "java/lang/Object")), .int], returnType := none }, accessFlags := 2, code := some k17c6 }
def k17c7 : Code := { maxStack := 4, maxLocals := 2, code := jdk_38_method_25_code, exceptionTable := #[], attributes := #[] }
def k17m7 : Method := { name := "add", desc := "(Ljava/lang/Object;)Z", sig := { parameters := [(.object "java/lang/Object")], returnType := some .boolean }, accessFlags := 1, code := some k17c7 }
def k17c8 : Code := { maxStack := 3, maxLocals := 1, code := jdk_38_method_55_code, exceptionTable := #[], attributes := #[] }
def k17m8 : Method := { name := "iterator", desc := "()Ljava/util/Iterator;", sig := { parameters := [], returnType := some (.object "java/util/Iterator") }, accessFlags := 1, code := some k17c8 }
/-- java/util/ArrayList -/
def k17 : Class := { plain "java/util/ArrayList" (some 14) with
  accessFlags := 33
  interfaces := #[13, 15, 16, 2]
  cf := some (fileOf pool17 10 #[.nestMembers #[290, 276, 500, 502, 262, 267]] #[{ accessFlags := 1, nameIndex := 5, descriptorIndex := 6, attributes := #[] }, { accessFlags := 2, nameIndex := 71, descriptorIndex := 72, attributes := #[] }, { accessFlags := 2, nameIndex := 71, descriptorIndex := 47, attributes := #[] }, { accessFlags := 1, nameIndex := 50, descriptorIndex := 186, attributes := #[] }, { accessFlags := 0, nameIndex := 13, descriptorIndex := 125, attributes := #[] }, { accessFlags := 1, nameIndex := 381, descriptorIndex := 125, attributes := #[] }, { accessFlags := 2, nameIndex := 133, descriptorIndex := 134, attributes := #[] }, { accessFlags := 1, nameIndex := 133, descriptorIndex := 96, attributes := #[] }, { accessFlags := 1, nameIndex := 166, descriptorIndex := 167, attributes := #[] }] 33 2 #[148, 329, 331, 333] #[{ accessFlags := 26, nameIndex := 335, descriptorIndex := 336, attributes := #[] }, { accessFlags := 26, nameIndex := 340, descriptorIndex := 51, attributes := #[] }, { accessFlags := 26, nameIndex := 17, descriptorIndex := 14, attributes := #[] }, { accessFlags := 26, nameIndex := 41, descriptorIndex := 14, attributes := #[] }, { accessFlags := 128, nameIndex := 13, descriptorIndex := 14, attributes := #[] }, { accessFlags := 2, nameIndex := 50, descriptorIndex := 51, attributes := #[] }])
  fields := #[{ name := "serialVersionUID", type := .long, accessFlags := 26, slot := 0, constantValue := 0 }, { name := "DEFAULT_CAPACITY", type := .int, accessFlags := 26, slot := 1, constantValue := 0 }, { name := "EMPTY_ELEMENTDATA", type := (.array (.object "java/lang/Object")), accessFlags := 26, slot := 2, constantValue := 0 }, { name := "DEFAULTCAPACITY_EMPTY_ELEMENTDATA", type := (.array (.object "java/lang/Object")), accessFlags := 26, slot := 3, constantValue := 0 }, { name := "elementData", type := (.array (.object "java/lang/Object")), accessFlags := 128, slot := 1, constantValue := 0 }, { name := "size", type := .int, accessFlags := 2, slot := 2, constantValue := 0 }]
  methods := #[k17m0, k17m1, k17m2, k17m3, k17m4, k17m5, k17m6, k17m7, k17m8]
  instanceTypes := #[.int, (.array (.object "java/lang/Object")), .int]
  staticTypes := #[.long, .int, (.array (.object "java/lang/Object")), (.array (.object "java/lang/Object"))]
  resolved := Array.replicate 509 none
  statics := some 1 }

def pool18 : Array CpInfo := pool [(1, .class_ 2), (0, u "java/lang/Math"), (1, .class_ 6), (1, u "java/lang/Object"), (0, u "<init>"), (0, u "()V"), (89, .class_ 100), (1, u "java/lang/Math$RandomNumberGeneratorHolder"), (71, u "negativeZeroFloatBits"), (0, u "J"), (2, u "negativeZeroDoubleBits"), (21, u "max"), (46, u "$assertionsDisabled"), (0, u "Z"), (88, u "(II)I"), (2, u "twoToTheDoubleScaleDown"), (0, u "D"), (4, u "twoToTheDoubleScaleUp"), (9, u "E"), (3, u "PI"), (2, u "TAU"), (2, u "DEGREES_TO_RADIANS"), (0, u "RADIANS_TO_DEGREES")] 94

def k18m0 : Method := { name := "<init>", desc := "()V", sig := { parameters := [], returnType := none }, accessFlags := 2, code := none }
def k18c1 : Code := { maxStack := 2, maxLocals := 2, code := jdk_29_method_65_code, exceptionTable := #[], attributes := #[] }
def k18m1 : Method := { name := "max", desc := "(II)I", sig := { parameters := [.int, .int], returnType := some .int }, accessFlags := 9, code := some k18c1 }
/-- java/lang/Math -/
def k18 : Class := { plain "java/lang/Math" (some 0) with
  accessFlags := 49
  interfaces := #[]
  cf := some (fileOf pool18 1 #[.nestMembers #[98]] #[{ accessFlags := 2, nameIndex := 7, descriptorIndex := 8, attributes := #[] }, { accessFlags := 9, nameIndex := 198, descriptorIndex := 335, attributes := #[] }] 49 4 #[] #[{ accessFlags := 25, nameIndex := 354, descriptorIndex := 339, attributes := #[] }, { accessFlags := 25, nameIndex := 358, descriptorIndex := 339, attributes := #[] }, { accessFlags := 25, nameIndex := 361, descriptorIndex := 339, attributes := #[] }, { accessFlags := 26, nameIndex := 364, descriptorIndex := 339, attributes := #[] }, { accessFlags := 26, nameIndex := 365, descriptorIndex := 339, attributes := #[] }, { accessFlags := 26, nameIndex := 172, descriptorIndex := 173, attributes := #[] }, { accessFlags := 26, nameIndex := 176, descriptorIndex := 173, attributes := #[] }, { accessFlags := 8, nameIndex := 344, descriptorIndex := 339, attributes := #[] }, { accessFlags := 8, nameIndex := 338, descriptorIndex := 339, attributes := #[] }, { accessFlags := 4120, nameIndex := 245, descriptorIndex := 246, attributes := #[] }])
  fields := #[{ name := "E", type := .double, accessFlags := 25, slot := 0, constantValue := 0 }, { name := "PI", type := .double, accessFlags := 25, slot := 1, constantValue := 0 }, { name := "TAU", type := .double, accessFlags := 25, slot := 2, constantValue := 0 }, { name := "DEGREES_TO_RADIANS", type := .double, accessFlags := 26, slot := 3, constantValue := 0 }, { name := "RADIANS_TO_DEGREES", type := .double, accessFlags := 26, slot := 4, constantValue := 0 }, { name := "negativeZeroFloatBits", type := .long, accessFlags := 26, slot := 5, constantValue := 0 }, { name := "negativeZeroDoubleBits", type := .long, accessFlags := 26, slot := 6, constantValue := 0 }, { name := "twoToTheDoubleScaleUp", type := .double, accessFlags := 8, slot := 7, constantValue := 0 }, { name := "twoToTheDoubleScaleDown", type := .double, accessFlags := 8, slot := 8, constantValue := 0 }, { name := "$assertionsDisabled", type := .boolean, accessFlags := 4120, slot := 9, constantValue := 0 }]
  methods := #[k18m0, k18m1]
  instanceTypes := #[]
  staticTypes := #[.double, .double, .double, .double, .double, .long, .long, .double, .double, .boolean]
  resolved := Array.replicate 460 none
  statics := none }

def pool19 : Array CpInfo := pool [(1, .methodref 2 3), (0, .class_ 4), (0, .nameAndType 5 6), (0, u "java/lang/Object"), (0, u "<init>"), (0, u "()V"), (0, .fieldref 8 9), (0, .class_ 10), (0, .nameAndType 11 12), (0, u "com/example/nisaba/nisaba/isatab/Header$AnnotationColumn"), (0, u "unit"), (0, u "I"), (0, .fieldref 8 14), (0, .nameAndType 15 16), (0, u "category"), (0, u "Ljava/lang/String;"), (0, .fieldref 8 18), (0, .nameAndType 19 16), (0, u "type"), (0, .fieldref 8 21), (0, .nameAndType 22 12), (0, u "value"), (4, u "(Ljava/lang/String;Ljava/lang/String;I)V"), (3, u "()I"), (4, .class_ 37), (0, u "com/example/nisaba/nisaba/isatab/Header")] 16

def k19c0 : Code := { maxStack := 2, maxLocals := 4, code := prog_7_method_1_code, exceptionTable := #[], attributes := #[] }
def k19m0 : Method := { name := "<init>", desc := "(Ljava/lang/String;Ljava/lang/String;I)V", sig := { parameters := [(.object "java/lang/String"), (.object "java/lang/String"), .int], returnType := none }, accessFlags := 0, code := some k19c0 }
def k19c1 : Code := { maxStack := 1, maxLocals := 1, code := prog_7_method_4_code, exceptionTable := #[], attributes := #[] }
def k19m1 : Method := { name := "value", desc := "()I", sig := { parameters := [], returnType := some .int }, accessFlags := 0, code := some k19c1 }
def k19c2 : Code := { maxStack := 1, maxLocals := 1, code := prog_7_method_5_code, exceptionTable := #[], attributes := #[] }
def k19m2 : Method := { name := "unit", desc := "()I", sig := { parameters := [], returnType := some .int }, accessFlags := 0, code := some k19c2 }
/-- com/example/nisaba/nisaba/isatab/Header$AnnotationColumn -/
def k19 : Class := { plain "com/example/nisaba/nisaba/isatab/Header$AnnotationColumn" (some 0) with
  accessFlags := 32
  interfaces := #[]
  cf := some (fileOf pool19 8 #[.nestHost 36] #[{ accessFlags := 0, nameIndex := 5, descriptorIndex := 27, attributes := #[] }, { accessFlags := 0, nameIndex := 22, descriptorIndex := 31, attributes := #[] }, { accessFlags := 0, nameIndex := 11, descriptorIndex := 31, attributes := #[] }] 32 2 #[] #[{ accessFlags := 18, nameIndex := 15, descriptorIndex := 16, attributes := #[] }, { accessFlags := 18, nameIndex := 19, descriptorIndex := 16, attributes := #[] }, { accessFlags := 18, nameIndex := 22, descriptorIndex := 12, attributes := #[] }, { accessFlags := 2, nameIndex := 11, descriptorIndex := 12, attributes := #[] }])
  fields := #[{ name := "category", type := (.object "java/lang/String"), accessFlags := 18, slot := 0, constantValue := 0 }, { name := "type", type := (.object "java/lang/String"), accessFlags := 18, slot := 1, constantValue := 0 }, { name := "value", type := .int, accessFlags := 18, slot := 2, constantValue := 0 }, { name := "unit", type := .int, accessFlags := 2, slot := 3, constantValue := 0 }]
  methods := #[k19m0, k19m1, k19m2]
  instanceTypes := #[(.object "java/lang/String"), (.object "java/lang/String"), .int, .int]
  staticTypes := #[]
  resolved := Array.replicate 54 none
  statics := none }

def pool20 : Array CpInfo := pool [(1, .methodref 2 3), (0, .class_ 4), (0, .nameAndType 5 6), (0, u "java/lang/Object"), (0, u "<init>"), (0, u "()V"), (0, .class_ 8), (0, u "java/util/ArrayList"), (0, .methodref 7 3), (0, .fieldref 11 12), (0, .class_ 13), (0, .nameAndType 14 15), (0, u "com/example/nisaba/nisaba/isatab/Values"), (0, u "values"), (0, u "Ljava/util/List;"), (0, .fieldref 11 17), (0, .nameAndType 18 15), (0, u "units"), (0, .fieldref 11 20), (0, .nameAndType 21 15), (0, u "columns"), (0, .interfaceMethodref 23 24), (0, .class_ 25), (0, .nameAndType 26 27), (0, u "java/util/List"), (0, u "iterator"), (0, u "()Ljava/util/Iterator;"), (0, .interfaceMethodref 29 30), (0, .class_ 31), (0, .nameAndType 32 33), (0, u "java/util/Iterator"), (0, u "hasNext"), (0, u "()Z"), (0, .interfaceMethodref 29 35), (0, .nameAndType 36 37), (0, u "next"), (0, u "()Ljava/lang/Object;"), (0, .class_ 39), (0, u "com/example/nisaba/nisaba/isatab/Header$AnnotationColumn"), (0, .methodref 38 41), (0, .nameAndType 42 43), (0, u "value"), (0, u "()I"), (0, .interfaceMethodref 23 45), (0, .nameAndType 46 47), (0, u "get"), (0, u "(I)Ljava/lang/Object;"), (0, .class_ 49), (0, u "java/lang/String"), (0, .interfaceMethodref 23 51), (0, .nameAndType 52 53), (0, u "add"), (0, u "(Ljava/lang/Object;)Z"), (0, .methodref 38 55), (0, .nameAndType 56 43), (0, u "unit"), (0, .methodref 48 58), (0, .nameAndType 59 33), (0, u "isEmpty"), (0, .string 61), (0, u ""), (0, .interfaceMethodref 23 63), (0, .nameAndType 64 43), (0, u "size"), (36, u "(Ljava/util/List;Ljava/util/List;)V"), (5, u "firstGiven")] 11

def k20c0 : Code := { maxStack := 3, maxLocals := 6, code := prog_15_method_1_code, exceptionTable := #[], attributes := #[] }
def k20m0 : Method := { name := "<init>", desc := "(Ljava/util/List;Ljava/util/List;)V", sig := { parameters := [(.object "java/util/List"), (.object "java/util/List")], returnType := none }, accessFlags := 0, code := some k20c0 }
def k20c1 : Code := { maxStack := 2, maxLocals := 3, code := prog_15_method_3_code, exceptionTable := #[], attributes := #[] }
def k20m1 : Method := { name := "firstGiven", desc := "()I", sig := { parameters := [], returnType := some .int }, accessFlags := 0, code := some k20c1 }
/-- com/example/nisaba/nisaba/isatab/Values -/
def k20 : Class := { plain "com/example/nisaba/nisaba/isatab/Values" (some 0) with
  accessFlags := 32
  interfaces := #[]
  cf := some (fileOf pool20 11 #[] #[{ accessFlags := 0, nameIndex := 5, descriptorIndex := 101, attributes := #[] }, { accessFlags := 0, nameIndex := 107, descriptorIndex := 43, attributes := #[] }] 32 2 #[] #[{ accessFlags := 18, nameIndex := 21, descriptorIndex := 15, attributes := #[] }, { accessFlags := 18, nameIndex := 14, descriptorIndex := 15, attributes := #[] }, { accessFlags := 18, nameIndex := 18, descriptorIndex := 15, attributes := #[] }])
  fields := #[{ name := "columns", type := (.object "java/util/List"), accessFlags := 18, slot := 0, constantValue := 0 }, { name := "values", type := (.object "java/util/List"), accessFlags := 18, slot := 1, constantValue := 0 }, { name := "units", type := (.object "java/util/List"), accessFlags := 18, slot := 2, constantValue := 0 }]
  methods := #[k20m0, k20m1]
  instanceTypes := #[(.object "java/util/List"), (.object "java/util/List"), (.object "java/util/List")]
  staticTypes := #[]
  resolved := Array.replicate 119 none
  statics := none }

def pool21 : Array CpInfo := pool [(16, .class_ 18), (1, u "java/util/Iterator"), (0, u "hasNext"), (0, u "()Z"), (2, u "next"), (0, u "()Ljava/lang/Object;"), (6, .class_ 32), (0, u "java/lang/Object")] 20

def k21m0 : Method := { name := "hasNext", desc := "()Z", sig := { parameters := [], returnType := some .boolean }, accessFlags := 1025, code := none }
def k21m1 : Method := { name := "next", desc := "()Ljava/lang/Object;", sig := { parameters := [], returnType := some (.object "java/lang/Object") }, accessFlags := 1025, code := none }
/-- java/util/Iterator -/
def k21 : Class := { plain "java/util/Iterator" (some 0) with
  accessFlags := 1537
  interfaces := #[]
  cf := some (fileOf pool21 16 #[] #[{ accessFlags := 1025, nameIndex := 19, descriptorIndex := 20, attributes := #[] }, { accessFlags := 1025, nameIndex := 23, descriptorIndex := 24, attributes := #[] }] 1537 31 #[] #[])
  fields := #[]
  methods := #[k21m0, k21m1]
  instanceTypes := #[]
  staticTypes := #[]
  resolved := Array.replicate 53 none
  statics := none }

def pool22 : Array CpInfo := pool [(1, .fieldref 2 3), (0, .class_ 4), (0, .nameAndType 5 6), (0, u "java/util/ArrayList$Itr"), (0, u "this$0"), (0, u "Ljava/util/ArrayList;"), (0, .methodref 8 9), (0, .class_ 10), (0, .nameAndType 11 12), (0, u "java/lang/Object"), (0, u "<init>"), (0, u "()V"), (0, .fieldref 2 14), (0, .nameAndType 15 16), (0, u "lastRet"), (0, u "I"), (0, .fieldref 18 19), (0, .class_ 20), (0, .nameAndType 21 16), (0, u "java/util/ArrayList"), (0, u "modCount"), (0, .fieldref 2 23), (0, .nameAndType 24 16), (0, u "expectedModCount"), (0, .fieldref 2 26), (0, .nameAndType 27 16), (0, u "cursor"), (0, .fieldref 18 29), (0, .nameAndType 30 16), (0, u "size"), (0, .methodref 2 32), (0, .nameAndType 33 12), (0, u "checkForComodification"), (3, .fieldref 18 38), (0, .nameAndType 39 40), (0, u "elementData"), (0, u "[Ljava/lang/Object;"), (28, .class_ 70), (0, u "java/util/Iterator"), (0, u "(Ljava/util/ArrayList;)V"), (8, u "hasNext"), (0, u "()Z"), (1, u "next"), (0, u "()Ljava/lang/Object;")] 19

def k22c0 : Code := { maxStack := 2, maxLocals := 2, code := jdk_49_method_1_code, exceptionTable := #[], attributes := #[] }
def k22m0 : Method := { name := "<init>", desc := "(Ljava/util/ArrayList;)V", sig := { parameters := [(.object "java/util/ArrayList")], returnType := none }, accessFlags := 0, code := some k22c0 }
def k22c1 : Code := { maxStack := 2, maxLocals := 1, code := jdk_49_method_2_code, exceptionTable := #[], attributes := #[] }
def k22m1 : Method := { name := "hasNext", desc := "()Z", sig := { parameters := [], returnType := some .boolean }, accessFlags := 1, code := some k22c1 }
def k22c2 : Code := { maxStack := 4, maxLocals := 3, code := jdk_49_method_3_code, exceptionTable := #[], attributes := #[] }
def k22m2 : Method := { name := "next", desc := "()Ljava/lang/Object;", sig := { parameters := [], returnType := some (.object "java/lang/Object") }, accessFlags := 1, code := some k22c2 }
def k22c3 : Code := { maxStack := 2, maxLocals := 1, code := jdk_49_method_6_code, exceptionTable := #[], attributes := #[] }
def k22m3 : Method := { name := "checkForComodification", desc := "()V", sig := { parameters := [], returnType := none }, accessFlags := 16, code := some k22c3 }
/-- java/util/ArrayList$Itr -/
def k22 : Class := { plain "java/util/ArrayList$Itr" (some 0) with
  accessFlags := 32
  interfaces := #[21]
  cf := some (fileOf pool22 2 #[.nestHost 18] #[{ accessFlags := 0, nameIndex := 11, descriptorIndex := 71, attributes := #[] }, { accessFlags := 1, nameIndex := 80, descriptorIndex := 81, attributes := #[] }, { accessFlags := 1, nameIndex := 83, descriptorIndex := 84, attributes := #[] }, { accessFlags := 16, nameIndex := 33, descriptorIndex := 12, attributes := #[] }] 32 8 #[69] #[{ accessFlags := 0, nameIndex := 27, descriptorIndex := 16, attributes := #[] }, { accessFlags := 0, nameIndex := 15, descriptorIndex := 16, attributes := #[] }, { accessFlags := 0, nameIndex := 24, descriptorIndex := 16, attributes := #[] }, { accessFlags := 4112, nameIndex := 5, descriptorIndex := 6, attributes := #[] }])
  fields := #[{ name := "cursor", type := .int, accessFlags := 0, slot := 0, constantValue := 0 }, { name := "lastRet", type := .int, accessFlags := 0, slot := 1, constantValue := 0 }, { name := "expectedModCount", type := .int, accessFlags := 0, slot := 2, constantValue := 0 }, { name := "this$0", type := (.object "java/util/ArrayList"), accessFlags := 4112, slot := 3, constantValue := 0 }]
  methods := #[k22m0, k22m1, k22m2, k22m3]
  instanceTypes := #[.int, .int, .int, (.object "java/util/ArrayList")]
  staticTypes := #[]
  resolved := Array.replicate 104 none
  statics := none }

def pool23 : Array CpInfo := pool [(2, .class_ 4), (1, u "java/lang/Object"), (0, u "<init>"), (0, u "()V"), (35, .class_ 44), (1, u "java/util/Objects"), (60, .methodref 106 107), (0, .class_ 108), (0, .nameAndType 109 110), (0, u "jdk/internal/util/Preconditions"), (0, u "checkIndex"), (0, u "(IILjava/util/function/BiFunction;)I"), (60, u "(II)I")] 12

def k23m0 : Method := { name := "<init>", desc := "()V", sig := { parameters := [], returnType := none }, accessFlags := 2, code := none }
def k23c1 : Code := { maxStack := 3, maxLocals := 2, code := jdk_31_method_17_code, exceptionTable := #[], attributes := #[] }
def k23m1 : Method := { name := "checkIndex", desc := "(II)I", sig := { parameters := [.int, .int], returnType := some .int }, accessFlags := 9, code := some k23c1 }
/-- java/util/Objects -/
def k23 : Class := { plain "java/util/Objects" (some 0) with
  accessFlags := 49
  interfaces := #[]
  cf := some (fileOf pool23 42 #[] #[{ accessFlags := 2, nameIndex := 5, descriptorIndex := 6, attributes := #[] }, { accessFlags := 9, nameIndex := 109, descriptorIndex := 171, attributes := #[] }] 49 2 #[] #[])
  fields := #[]
  methods := #[k23m0, k23m1]
  instanceTypes := #[]
  staticTypes := #[]
  resolved := Array.replicate 184 none
  statics := none }

def pool24 : Array CpInfo := pool [(2, .class_ 4), (1, u "java/lang/Object"), (0, u "<init>"), (0, u "()V"), (17, .class_ 26), (1, u "jdk/internal/util/Preconditions"), (6, u "checkIndex"), (21, .class_ 56), (0, u "jdk/internal/util/Preconditions$4"), (57, .class_ 115), (0, u "jdk/internal/util/Preconditions$1"), (7, u "SIOOBE_FORMATTER"), (0, u "Ljava/util/function/BiFunction;"), (0, .class_ 126), (0, u "jdk/internal/util/Preconditions$2"), (3, u "AIOOBE_FORMATTER"), (0, .class_ 132), (0, u "jdk/internal/util/Preconditions$3"), (3, u "IOOBE_FORMATTER"), (41, u "(IILjava/util/function/BiFunction;)I")] 15

def k24m0 : Method := { name := "<init>", desc := "()V", sig := { parameters := [], returnType := none }, accessFlags := 1, code := none }
def k24c1 : Code := { maxStack := 3, maxLocals := 3, code := jdk_41_method_11_code, exceptionTable := #[], attributes := #[] }
def k24m1 : Method := { name := "checkIndex", desc := "(IILjava/util/function/BiFunction;)I", sig := { parameters := [.int, .int, (.object "java/util/function/BiFunction")], returnType := some .int }, accessFlags := 9, code := some k24c1 }
/-- jdk/internal/util/Preconditions -/
def k24 : Class := { plain "jdk/internal/util/Preconditions" (some 0) with
  accessFlags := 33
  interfaces := #[]
  cf := some (fileOf pool24 24 #[.nestMembers #[55, 131, 125, 114]] #[{ accessFlags := 1, nameIndex := 5, descriptorIndex := 6, attributes := #[] }, { accessFlags := 9, nameIndex := 33, descriptorIndex := 178, attributes := #[] }] 33 2 #[] #[{ accessFlags := 25, nameIndex := 123, descriptorIndex := 124, attributes := #[] }, { accessFlags := 25, nameIndex := 130, descriptorIndex := 124, attributes := #[] }, { accessFlags := 25, nameIndex := 136, descriptorIndex := 124, attributes := #[] }])
  fields := #[{ name := "SIOOBE_FORMATTER", type := (.object "java/util/function/BiFunction"), accessFlags := 25, slot := 0, constantValue := 0 }, { name := "AIOOBE_FORMATTER", type := (.object "java/util/function/BiFunction"), accessFlags := 25, slot := 1, constantValue := 0 }, { name := "IOOBE_FORMATTER", type := (.object "java/util/function/BiFunction"), accessFlags := 25, slot := 2, constantValue := 0 }]
  methods := #[k24m0, k24m1]
  instanceTypes := #[]
  staticTypes := #[(.object "java/util/function/BiFunction"), (.object "java/util/function/BiFunction"), (.object "java/util/function/BiFunction")]
  resolved := Array.replicate 194 none
  statics := some 2 }

def pool25 : Array CpInfo := pool [(9, u "<init>"), (6, .class_ 18), (1, u "java/lang/Object"), (0, u "()V"), (1, .class_ 23), (1, u "jdk/internal/util/ArraysSupport"), (0, u "LOG2_ARRAY_LONG_INDEX_SCALE"), (0, u "I"), (2, u "U"), (0, u "Ljdk/internal/misc/Unsafe;"), (8, u "BIG_ENDIAN"), (0, u "Z"), (8, u "LOG2_BYTE_BIT_SIZE"), (4, u "LOG2_ARRAY_INT_INDEX_SCALE"), (54, u "JLA"), (0, u "Ljdk/internal/access/JavaLangAccess;"), (11, u "LOG2_ARRAY_BOOLEAN_INDEX_SCALE"), (9, u "LOG2_ARRAY_BYTE_INDEX_SCALE"), (5, u "LOG2_ARRAY_CHAR_INDEX_SCALE"), (5, u "LOG2_ARRAY_SHORT_INDEX_SCALE"), (18, u "LOG2_ARRAY_FLOAT_INDEX_SCALE"), (24, u "LOG2_ARRAY_DOUBLE_INDEX_SCALE"), (89, u "T_BOOLEAN"), (2, u "T_CHAR"), (1, u "T_FLOAT"), (1, u "T_DOUBLE"), (1, u "T_BYTE"), (1, u "T_SHORT"), (1, u "T_INT"), (1, u "T_LONG"), (1, u "SOFT_MAX_ARRAY_LENGTH")] 83

def k25m0 : Method := { name := "<init>", desc := "()V", sig := { parameters := [], returnType := none }, accessFlags := 2, code := none }
/-- jdk/internal/util/ArraysSupport -/
def k25 : Class := { plain "jdk/internal/util/ArraysSupport" (some 0) with
  accessFlags := 33
  interfaces := #[]
  cf := some (fileOf pool25 21 #[] #[{ accessFlags := 2, nameIndex := 9, descriptorIndex := 19, attributes := #[] }] 33 16 #[] #[{ accessFlags := 24, nameIndex := 28, descriptorIndex := 29, attributes := #[] }, { accessFlags := 26, nameIndex := 38, descriptorIndex := 39, attributes := #[] }, { accessFlags := 25, nameIndex := 121, descriptorIndex := 25, attributes := #[] }, { accessFlags := 25, nameIndex := 131, descriptorIndex := 25, attributes := #[] }, { accessFlags := 25, nameIndex := 137, descriptorIndex := 25, attributes := #[] }, { accessFlags := 25, nameIndex := 143, descriptorIndex := 25, attributes := #[] }, { accessFlags := 25, nameIndex := 53, descriptorIndex := 25, attributes := #[] }, { accessFlags := 25, nameIndex := 24, descriptorIndex := 25, attributes := #[] }, { accessFlags := 25, nameIndex := 162, descriptorIndex := 25, attributes := #[] }, { accessFlags := 25, nameIndex := 187, descriptorIndex := 25, attributes := #[] }, { accessFlags := 26, nameIndex := 48, descriptorIndex := 25, attributes := #[] }, { accessFlags := 25, nameIndex := 277, descriptorIndex := 25, attributes := #[] }, { accessFlags := 25, nameIndex := 280, descriptorIndex := 25, attributes := #[] }, { accessFlags := 25, nameIndex := 282, descriptorIndex := 25, attributes := #[] }, { accessFlags := 25, nameIndex := 284, descriptorIndex := 25, attributes := #[] }, { accessFlags := 25, nameIndex := 286, descriptorIndex := 25, attributes := #[] }, { accessFlags := 25, nameIndex := 288, descriptorIndex := 25, attributes := #[] }, { accessFlags := 25, nameIndex := 290, descriptorIndex := 25, attributes := #[] }, { accessFlags := 25, nameIndex := 292, descriptorIndex := 25, attributes := #[] }, { accessFlags := 26, nameIndex := 108, descriptorIndex := 109, attributes := #[] }, { accessFlags := 25, nameIndex := 294, descriptorIndex := 25, attributes := #[] }])
  fields := #[{ name := "U", type := (.object "jdk/internal/misc/Unsafe"), accessFlags := 24, slot := 0, constantValue := 0 }, { name := "BIG_ENDIAN", type := .boolean, accessFlags := 26, slot := 1, constantValue := 0 }, { name := "LOG2_ARRAY_BOOLEAN_INDEX_SCALE", type := .int, accessFlags := 25, slot := 2, constantValue := 0 }, { name := "LOG2_ARRAY_BYTE_INDEX_SCALE", type := .int, accessFlags := 25, slot := 3, constantValue := 0 }, { name := "LOG2_ARRAY_CHAR_INDEX_SCALE", type := .int, accessFlags := 25, slot := 4, constantValue := 0 }, { name := "LOG2_ARRAY_SHORT_INDEX_SCALE", type := .int, accessFlags := 25, slot := 5, constantValue := 0 }, { name := "LOG2_ARRAY_INT_INDEX_SCALE", type := .int, accessFlags := 25, slot := 6, constantValue := 0 }, { name := "LOG2_ARRAY_LONG_INDEX_SCALE", type := .int, accessFlags := 25, slot := 7, constantValue := 0 }, { name := "LOG2_ARRAY_FLOAT_INDEX_SCALE", type := .int, accessFlags := 25, slot := 8, constantValue := 0 }, { name := "LOG2_ARRAY_DOUBLE_INDEX_SCALE", type := .int, accessFlags := 25, slot := 9, constantValue := 0 }, { name := "LOG2_BYTE_BIT_SIZE", type := .int, accessFlags := 26, slot := 10, constantValue := 0 }, { name := "T_BOOLEAN", type := .int, accessFlags := 25, slot := 11, constantValue := 0 }, { name := "T_CHAR", type := .int, accessFlags := 25, slot := 12, constantValue := 0 }, { name := "T_FLOAT", type := .int, accessFlags := 25, slot := 13, constantValue := 0 }, { name := "T_DOUBLE", type := .int, accessFlags := 25, slot := 14, constantValue := 0 }, { name := "T_BYTE", type := .int, accessFlags := 25, slot := 15, constantValue := 0 }, { name := "T_SHORT", type := .int, accessFlags := 25, slot := 16, constantValue := 0 }, { name := "T_INT", type := .int, accessFlags := 25, slot := 17, constantValue := 0 }, { name := "T_LONG", type := .int, accessFlags := 25, slot := 18, constantValue := 0 }, { name := "JLA", type := (.object "jdk/internal/access/JavaLangAccess"), accessFlags := 26, slot := 19, constantValue := 0 }, { name := "SOFT_MAX_ARRAY_LENGTH", type := .int, accessFlags := 25, slot := 20, constantValue := 0 }]
  methods := #[k25m0]
  instanceTypes := #[]
  staticTypes := #[(.object "jdk/internal/misc/Unsafe"), .boolean, .int, .int, .int, .int, .int, .int, .int, .int, .int, .int, .int, .int, .int, .int, .int, .int, .int, (.object "jdk/internal/access/JavaLangAccess"), .int]
  resolved := Array.replicate 378 none
  statics := none }

/-- the primitive byte -/
def k26 : Class := { plain "byte" none with kind := .primitive 'B', accessFlags := 0x411 }
/-- [B -/
def k27 : Class := { plain "[B" (some 0) with kind := .array 26 .byte, interfaces := #[16, 2], accessFlags := 1041 }

/-- the primitive int -/
def k28 : Class := { plain "int" none with kind := .primitive 'I', accessFlags := 0x411 }
/-- [I -/
def k29 : Class := { plain "[I" (some 0) with kind := .array 28 .int, interfaces := #[16, 2], accessFlags := 1041 }

/-- [Ljava/lang/Object; -/
def k30 : Class := { plain "[Ljava/lang/Object;" (some 0) with kind := .array 0 (.object "java/lang/Object"), interfaces := #[16, 2], accessFlags := 1041 }

def heap : Heap := #[{ cls := 7, slots := #[.long 0, .int 1, .null, .int 0, .null, .int 0, .int 0], vm := .statics 7 },
  { cls := 17, slots := #[.long 0, .int 0, .ref 3, .ref 3], vm := .statics 17 },
  { cls := 24, slots := #[.null, .null, .null], vm := .statics 24 },
  { cls := 30, slots := #[], vm := .none }]
def classes : Array Class := #[k0, k1, k2, k3, k4, k5, k6, k7, k8, k9, k10, k11, k12, k13, k14, k15, k16, k17, k18, k19, k20, k21, k22, k23, k24, k25, k26, k27, k28, k29, k30]
def interned : List (Array UInt16 × Addr) := []
def slotsUsed : Nat := 14
def theMethod : MethodId := ⟨1, 2⟩
def args0 : Array Value := #[.int 7, .int 6, .int 65, .int 66, .int 67]
def aboutOver (below : List Frame) : State where
  vm := { classes := classes, interned := interned.toArray }
  heap := heap
  slotsUsed := slotsUsed
  threads := #[{ frames := .invoking theMethod args0 :: below }]
def below0 : List Frame := [.native { method := ⟨0, 0⟩, args := #[] }]
def about1 : State := aboutOver below0
def p0 : Program := .bare "" "" ""
def e0 : Env := launch0.env 0 0 0
theorem w_frames : about1.frames = Frame.invoking theMethod args0 :: below0 := rfl
set_option maxRecDepth 65536 in
theorem w_args : argsFit about1.vm theMethod args0 = true := by decide +kernel
set_option maxRecDepth 65536 in
theorem w_heap : heapFits about1 = true := by decide +kernel
set_option maxRecDepth 65536 in
theorem w_runnable : about1.curStatus? = some .runnable := by decide +kernel
set_option maxRecDepth 65536 in
theorem w_alone : about1.alone = true := by decide +kernel
set_option maxRecDepth 65536 in
theorem w_named : about1.methodNamed? x = some theMethod := by decide +kernel
set_option maxRecDepth 65536 in
theorem w_hears : about1.hears theMethod below0 = true := by decide +kernel
set_option maxRecDepth 65536 in
theorem w_ripe : about1.ripe theMethod args0 below0 = true := by decide +kernel
theorem w_running : about1.status = .running := rfl
set_option maxRecDepth 65536 in
theorem w_room : about1.hasRoom e0.platform room_1 = true :=
  launch0.hasRoom_least _ room_1 (by decide +kernel) (by decide +kernel) (by decide +kernel) (by decide +kernel) (by decide +kernel) (by decide +kernel)
theorem allAtoms_all (ts : List Jvm.Cond) (a : Array Jvm.Value) (st : Jvm.State) : (allAtoms ts).before a st = ts.all (fun c => c.before a st) := by
  induction ts with
  | nil => rfl
  | cons c t ih =>
    show (Jvm.Cond.and c (allAtoms t)).before a st = _
    rw [Jvm.Cond.before_and, ih, List.all_cons]
def words1 : List Jvm.Cond := Jvm.Cond.code x code maxLocals ret :: tables_1
/-- a 'code' word, met by the world's own term for the bytes: nothing is compared byte by byte -/
theorem code_word {y : MethodName} {bytes : ByteArray} {mx : Nat} {rt : Option FieldType} {a : Array Value} {s : State} {m : MethodId} {meth : Method} {c : Code} (h1 : s.methodNamed? y = some m) (h2 : s.vm.method? m = some meth) (h3 : meth.code = some c) (h4 : c.code = bytes)
    (h5 : (c.maxLocals == mx && c.exceptionTable.isEmpty && decide (c.maxStack ≤ mostOperands) && decide (meth.sig.returnType = rt) && !meth.locks && decide (parseMethodDescriptor y.desc = some meth.sig)) = true) : (Jvm.Cond.code y bytes mx rt).before a s = true := by
  simp only [Bool.and_eq_true, beq_iff_eq, Bool.not_eq_true', decide_eq_true_eq] at h5
  obtain ⟨⟨⟨⟨⟨g1, g2⟩, g3⟩, g4⟩, g5⟩, g6⟩ := h5
  simp [Cond.before, Cond.holds, Cond.value, h1, h2, h3, h4, g1, g2, g3, g4, g5, g6]
def isCode : Jvm.Cond → Bool
  | .code _ _ _ _ => true
  | _ => false
theorem all_split {L : List Jvm.Cond} {P : Jvm.Cond → Bool} (h1 : L.all (fun c => isCode c || P c) = true) (h2 : ∀ c ∈ L.filter isCode, P c = true) : L.all P = true := by
  refine List.all_eq_true.mpr fun c hc => ?_
  have h := List.all_eq_true.mp h1 c hc
  rcases Bool.eq_false_or_eq_true (isCode c) with hi | hi
  · exact h2 c (List.mem_filter.mpr ⟨hc, hi⟩)
  · simpa [hi] using h
set_option maxRecDepth 65536 in
theorem w_c0 : (Jvm.Cond.code x code maxLocals ret).before args0 about1 = true := code_word (m := ⟨1, 2⟩) (meth := k1m2) (c := k1c2) (by decide +kernel) rfl rfl rfl (by decide +kernel)
set_option maxRecDepth 65536 in
theorem w_c1 : (Jvm.Cond.code ({ cls := "com/example/nisaba/nisaba/isatab/ValuesFirstGivenPinLaw", name := "isEmptyCell", desc := "(II)Z" } : Jvm.MethodName) method_2_code (2 : Nat) (Option.some Jvm.ClassFile.FieldType.boolean)).before args0 about1 = true := code_word (m := ⟨1, 1⟩) (meth := k1m1) (c := k1c1) (by decide +kernel) rfl rfl rfl (by decide +kernel)
set_option maxRecDepth 65536 in
theorem w_c2 : (Jvm.Cond.code ({ cls := "java/lang/String", name := "valueOf", desc := "(C)Ljava/lang/String;" } : Jvm.MethodName) jdk_42_method_139_code (1 : Nat) (Option.some (Jvm.ClassFile.FieldType.object "java/lang/String"))).before args0 about1 = true := code_word (m := ⟨7, 2⟩) (meth := k7m2) (c := k7c2) (by decide +kernel) rfl rfl rfl (by decide +kernel)
set_option maxRecDepth 65536 in
theorem w_c3 : (Jvm.Cond.code ({ cls := "java/lang/StringLatin1", name := "canEncode", desc := "(C)Z" } : Jvm.MethodName) jdk_43_method_3_code (1 : Nat) (Option.some Jvm.ClassFile.FieldType.boolean)).before args0 about1 = true := code_word (m := ⟨8, 1⟩) (meth := k8m1) (c := k8c1) (by decide +kernel) rfl rfl rfl (by decide +kernel)
set_option maxRecDepth 65536 in
theorem w_c4 : (Jvm.Cond.code ({ cls := "java/lang/StringLatin1", name := "toBytes", desc := "(C)[B" } : Jvm.MethodName) jdk_43_method_46_code (1 : Nat) (Option.some (Jvm.ClassFile.FieldType.array Jvm.ClassFile.FieldType.byte))).before args0 about1 = true := code_word (m := ⟨8, 2⟩) (meth := k8m2) (c := k8c2) (by decide +kernel) rfl rfl rfl (by decide +kernel)
set_option maxRecDepth 65536 in
theorem w_c5 : (Jvm.Cond.code ({ cls := "java/lang/String", name := "<init>", desc := "([BB)V" } : Jvm.MethodName) jdk_42_method_151_code (3 : Nat) (Option.none : Option Jvm.ClassFile.FieldType)).before args0 about1 = true := code_word (m := ⟨7, 3⟩) (meth := k7m3) (c := k7c3) (by decide +kernel) rfl rfl rfl (by decide +kernel)
set_option maxRecDepth 65536 in
theorem w_c6 : (Jvm.Cond.code ({ cls := "java/lang/Object", name := "<init>", desc := "()V" } : Jvm.MethodName) object_method_1_code (1 : Nat) (Option.none : Option Jvm.ClassFile.FieldType)).before args0 about1 = true := code_word (m := ⟨0, 0⟩) (meth := k0m0) (c := k0c0) (by decide +kernel) rfl rfl rfl (by decide +kernel)
set_option maxRecDepth 65536 in
theorem w_c7 : (Jvm.Cond.code ({ cls := "java/util/ArrayList", name := "<init>", desc := "()V" } : Jvm.MethodName) jdk_38_method_2_code (1 : Nat) (Option.none : Option Jvm.ClassFile.FieldType)).before args0 about1 = true := code_word (m := ⟨17, 0⟩) (meth := k17m0) (c := k17c0) (by decide +kernel) rfl rfl rfl (by decide +kernel)
set_option maxRecDepth 65536 in
theorem w_c8 : (Jvm.Cond.code ({ cls := "java/util/AbstractList", name := "<init>", desc := "()V" } : Jvm.MethodName) jdk_39_method_1_code (1 : Nat) (Option.none : Option Jvm.ClassFile.FieldType)).before args0 about1 = true := code_word (m := ⟨14, 0⟩) (meth := k14m0) (c := k14c0) (by decide +kernel) rfl rfl rfl (by decide +kernel)
set_option maxRecDepth 65536 in
theorem w_c9 : (Jvm.Cond.code ({ cls := "java/util/AbstractCollection", name := "<init>", desc := "()V" } : Jvm.MethodName) jdk_22_method_1_code (1 : Nat) (Option.none : Option Jvm.ClassFile.FieldType)).before args0 about1 = true := code_word (m := ⟨11, 0⟩) (meth := k11m0) (c := k11c0) (by decide +kernel) rfl rfl rfl (by decide +kernel)
set_option maxRecDepth 65536 in
theorem w_c10 : (Jvm.Cond.code ({ cls := "java/util/ArrayList", name := "add", desc := "(Ljava/lang/Object;)Z" } : Jvm.MethodName) jdk_38_method_25_code (2 : Nat) (Option.some Jvm.ClassFile.FieldType.boolean)).before args0 about1 = true := code_word (m := ⟨17, 7⟩) (meth := k17m7) (c := k17c7) (by decide +kernel) rfl rfl rfl (by decide +kernel)
set_option maxRecDepth 65536 in
theorem w_c11 : (Jvm.Cond.code ({ cls := "java/util/ArrayList", name := "add", desc := "(Ljava/lang/Object;[Ljava/lang/Object;I)V" } : Jvm.MethodName) jdk_38_method_24_code (4 : Nat) (Option.none : Option Jvm.ClassFile.FieldType)).before args0 about1 = true := code_word (m := ⟨17, 6⟩) (meth := k17m6) (c := k17c6) (by decide +kernel) rfl rfl rfl (by decide +kernel)
set_option maxRecDepth 65536 in
theorem w_c12 : (Jvm.Cond.code ({ cls := "java/util/ArrayList", name := "grow", desc := "()[Ljava/lang/Object;" } : Jvm.MethodName) jdk_38_method_7_code (1 : Nat) (Option.some (Jvm.ClassFile.FieldType.array (Jvm.ClassFile.FieldType.object "java/lang/Object")))).before args0 about1 = true := code_word (m := ⟨17, 2⟩) (meth := k17m2) (c := k17c2) (by decide +kernel) rfl rfl rfl (by decide +kernel)
set_option maxRecDepth 65536 in
theorem w_c13 : (Jvm.Cond.code ({ cls := "java/util/ArrayList", name := "grow", desc := "(I)[Ljava/lang/Object;" } : Jvm.MethodName) jdk_38_method_6_code (4 : Nat) (Option.some (Jvm.ClassFile.FieldType.array (Jvm.ClassFile.FieldType.object "java/lang/Object")))).before args0 about1 = true := code_word (m := ⟨17, 1⟩) (meth := k17m1) (c := k17c1) (by decide +kernel) rfl rfl rfl (by decide +kernel)
set_option maxRecDepth 65536 in
theorem w_c14 : (Jvm.Cond.code ({ cls := "java/lang/Math", name := "max", desc := "(II)I" } : Jvm.MethodName) jdk_29_method_65_code (2 : Nat) (Option.some Jvm.ClassFile.FieldType.int)).before args0 about1 = true := code_word (m := ⟨18, 1⟩) (meth := k18m1) (c := k18c1) (by decide +kernel) rfl rfl rfl (by decide +kernel)
set_option maxRecDepth 65536 in
theorem w_c15 : (Jvm.Cond.code ({ cls := "com/example/nisaba/nisaba/isatab/Header$AnnotationColumn", name := "<init>", desc := "(Ljava/lang/String;Ljava/lang/String;I)V" } : Jvm.MethodName) prog_7_method_1_code (4 : Nat) (Option.none : Option Jvm.ClassFile.FieldType)).before args0 about1 = true := code_word (m := ⟨19, 0⟩) (meth := k19m0) (c := k19c0) (by decide +kernel) rfl rfl rfl (by decide +kernel)
set_option maxRecDepth 65536 in
theorem w_c16 : (Jvm.Cond.code ({ cls := "com/example/nisaba/nisaba/isatab/Values", name := "<init>", desc := "(Ljava/util/List;Ljava/util/List;)V" } : Jvm.MethodName) prog_15_method_1_code (6 : Nat) (Option.none : Option Jvm.ClassFile.FieldType)).before args0 about1 = true := code_word (m := ⟨20, 0⟩) (meth := k20m0) (c := k20c0) (by decide +kernel) rfl rfl rfl (by decide +kernel)
set_option maxRecDepth 65536 in
theorem w_c17 : (Jvm.Cond.code ({ cls := "java/util/ArrayList", name := "iterator", desc := "()Ljava/util/Iterator;" } : Jvm.MethodName) jdk_38_method_55_code (1 : Nat) (Option.some (Jvm.ClassFile.FieldType.object "java/util/Iterator"))).before args0 about1 = true := code_word (m := ⟨17, 8⟩) (meth := k17m8) (c := k17c8) (by decide +kernel) rfl rfl rfl (by decide +kernel)
set_option maxRecDepth 65536 in
theorem w_c18 : (Jvm.Cond.code ({ cls := "java/util/ArrayList$Itr", name := "<init>", desc := "(Ljava/util/ArrayList;)V" } : Jvm.MethodName) jdk_49_method_1_code (2 : Nat) (Option.none : Option Jvm.ClassFile.FieldType)).before args0 about1 = true := code_word (m := ⟨22, 0⟩) (meth := k22m0) (c := k22c0) (by decide +kernel) rfl rfl rfl (by decide +kernel)
set_option maxRecDepth 65536 in
theorem w_c19 : (Jvm.Cond.code ({ cls := "java/util/ArrayList$Itr", name := "hasNext", desc := "()Z" } : Jvm.MethodName) jdk_49_method_2_code (1 : Nat) (Option.some Jvm.ClassFile.FieldType.boolean)).before args0 about1 = true := code_word (m := ⟨22, 1⟩) (meth := k22m1) (c := k22c1) (by decide +kernel) rfl rfl rfl (by decide +kernel)
set_option maxRecDepth 65536 in
theorem w_c20 : (Jvm.Cond.code ({ cls := "com/example/nisaba/nisaba/isatab/Values", name := "firstGiven", desc := "()I" } : Jvm.MethodName) prog_15_method_3_code (3 : Nat) (Option.some Jvm.ClassFile.FieldType.int)).before args0 about1 = true := code_word (m := ⟨20, 1⟩) (meth := k20m1) (c := k20c1) (by decide +kernel) rfl rfl rfl (by decide +kernel)
set_option maxRecDepth 65536 in
theorem w_c21 : (Jvm.Cond.code ({ cls := "java/util/ArrayList", name := "size", desc := "()I" } : Jvm.MethodName) jdk_38_method_8_code (1 : Nat) (Option.some Jvm.ClassFile.FieldType.int)).before args0 about1 = true := code_word (m := ⟨17, 3⟩) (meth := k17m3) (c := k17c3) (by decide +kernel) rfl rfl rfl (by decide +kernel)
set_option maxRecDepth 65536 in
theorem w_c22 : (Jvm.Cond.code ({ cls := "java/util/ArrayList$Itr", name := "next", desc := "()Ljava/lang/Object;" } : Jvm.MethodName) jdk_49_method_3_code (3 : Nat) (Option.some (Jvm.ClassFile.FieldType.object "java/lang/Object"))).before args0 about1 = true := code_word (m := ⟨22, 2⟩) (meth := k22m2) (c := k22c2) (by decide +kernel) rfl rfl rfl (by decide +kernel)
set_option maxRecDepth 65536 in
theorem w_c23 : (Jvm.Cond.code ({ cls := "java/util/ArrayList$Itr", name := "checkForComodification", desc := "()V" } : Jvm.MethodName) jdk_49_method_6_code (1 : Nat) (Option.none : Option Jvm.ClassFile.FieldType)).before args0 about1 = true := code_word (m := ⟨22, 3⟩) (meth := k22m3) (c := k22c3) (by decide +kernel) rfl rfl rfl (by decide +kernel)
set_option maxRecDepth 65536 in
theorem w_c24 : (Jvm.Cond.code ({ cls := "com/example/nisaba/nisaba/isatab/Header$AnnotationColumn", name := "value", desc := "()I" } : Jvm.MethodName) prog_7_method_4_code (1 : Nat) (Option.some Jvm.ClassFile.FieldType.int)).before args0 about1 = true := code_word (m := ⟨19, 1⟩) (meth := k19m1) (c := k19c1) (by decide +kernel) rfl rfl rfl (by decide +kernel)
set_option maxRecDepth 65536 in
theorem w_c25 : (Jvm.Cond.code ({ cls := "java/util/ArrayList", name := "get", desc := "(I)Ljava/lang/Object;" } : Jvm.MethodName) jdk_38_method_20_code (2 : Nat) (Option.some (Jvm.ClassFile.FieldType.object "java/lang/Object"))).before args0 about1 = true := code_word (m := ⟨17, 5⟩) (meth := k17m5) (c := k17c5) (by decide +kernel) rfl rfl rfl (by decide +kernel)
set_option maxRecDepth 65536 in
theorem w_c26 : (Jvm.Cond.code ({ cls := "java/util/Objects", name := "checkIndex", desc := "(II)I" } : Jvm.MethodName) jdk_31_method_17_code (2 : Nat) (Option.some Jvm.ClassFile.FieldType.int)).before args0 about1 = true := code_word (m := ⟨23, 1⟩) (meth := k23m1) (c := k23c1) (by decide +kernel) rfl rfl rfl (by decide +kernel)
set_option maxRecDepth 65536 in
theorem w_c27 : (Jvm.Cond.code ({ cls := "jdk/internal/util/Preconditions", name := "checkIndex", desc := "(IILjava/util/function/BiFunction;)I" } : Jvm.MethodName) jdk_41_method_11_code (3 : Nat) (Option.some Jvm.ClassFile.FieldType.int)).before args0 about1 = true := code_word (m := ⟨24, 1⟩) (meth := k24m1) (c := k24c1) (by decide +kernel) rfl rfl rfl (by decide +kernel)
set_option maxRecDepth 65536 in
theorem w_c28 : (Jvm.Cond.code ({ cls := "java/util/ArrayList", name := "elementData", desc := "(I)Ljava/lang/Object;" } : Jvm.MethodName) jdk_38_method_18_code (2 : Nat) (Option.some (Jvm.ClassFile.FieldType.object "java/lang/Object"))).before args0 about1 = true := code_word (m := ⟨17, 4⟩) (meth := k17m4) (c := k17c4) (by decide +kernel) rfl rfl rfl (by decide +kernel)
set_option maxRecDepth 65536 in
theorem w_c29 : (Jvm.Cond.code ({ cls := "com/example/nisaba/nisaba/isatab/Header$AnnotationColumn", name := "unit", desc := "()I" } : Jvm.MethodName) prog_7_method_5_code (1 : Nat) (Option.some Jvm.ClassFile.FieldType.int)).before args0 about1 = true := code_word (m := ⟨19, 2⟩) (meth := k19m2) (c := k19c2) (by decide +kernel) rfl rfl rfl (by decide +kernel)
set_option maxRecDepth 65536 in
theorem w_c30 : (Jvm.Cond.code ({ cls := "java/lang/String", name := "isEmpty", desc := "()Z" } : Jvm.MethodName) jdk_42_method_55_code (1 : Nat) (Option.some Jvm.ClassFile.FieldType.boolean)).before args0 about1 = true := code_word (m := ⟨7, 1⟩) (meth := k7m1) (c := k7c1) (by decide +kernel) rfl rfl rfl (by decide +kernel)
def codes1 : List Jvm.Cond := [Jvm.Cond.code x code maxLocals ret, Jvm.Cond.code ({ cls := "com/example/nisaba/nisaba/isatab/ValuesFirstGivenPinLaw", name := "isEmptyCell", desc := "(II)Z" } : Jvm.MethodName) method_2_code (2 : Nat) (Option.some Jvm.ClassFile.FieldType.boolean), Jvm.Cond.code ({ cls := "java/lang/String", name := "valueOf", desc := "(C)Ljava/lang/String;" } : Jvm.MethodName) jdk_42_method_139_code (1 : Nat) (Option.some (Jvm.ClassFile.FieldType.object "java/lang/String")), Jvm.Cond.code ({ cls := "java/lang/StringLatin1", name := "canEncode", desc := "(C)Z" } : Jvm.MethodName) jdk_43_method_3_code (1 : Nat) (Option.some Jvm.ClassFile.FieldType.boolean), Jvm.Cond.code ({ cls := "java/lang/StringLatin1", name := "toBytes", desc := "(C)[B" } : Jvm.MethodName) jdk_43_method_46_code (1 : Nat) (Option.some (Jvm.ClassFile.FieldType.array Jvm.ClassFile.FieldType.byte)), Jvm.Cond.code ({ cls := "java/lang/String", name := "<init>", desc := "([BB)V" } : Jvm.MethodName) jdk_42_method_151_code (3 : Nat) (Option.none : Option Jvm.ClassFile.FieldType), Jvm.Cond.code ({ cls := "java/lang/Object", name := "<init>", desc := "()V" } : Jvm.MethodName) object_method_1_code (1 : Nat) (Option.none : Option Jvm.ClassFile.FieldType), Jvm.Cond.code ({ cls := "java/util/ArrayList", name := "<init>", desc := "()V" } : Jvm.MethodName) jdk_38_method_2_code (1 : Nat) (Option.none : Option Jvm.ClassFile.FieldType), Jvm.Cond.code ({ cls := "java/util/AbstractList", name := "<init>", desc := "()V" } : Jvm.MethodName) jdk_39_method_1_code (1 : Nat) (Option.none : Option Jvm.ClassFile.FieldType), Jvm.Cond.code ({ cls := "java/util/AbstractCollection", name := "<init>", desc := "()V" } : Jvm.MethodName) jdk_22_method_1_code (1 : Nat) (Option.none : Option Jvm.ClassFile.FieldType), Jvm.Cond.code ({ cls := "java/util/ArrayList", name := "add", desc := "(Ljava/lang/Object;)Z" } : Jvm.MethodName) jdk_38_method_25_code (2 : Nat) (Option.some Jvm.ClassFile.FieldType.boolean), Jvm.Cond.code ({ cls := "java/util/ArrayList", name := "add", desc := "(Ljava/lang/Object;[Ljava/lang/Object;I)V" } : Jvm.MethodName) jdk_38_method_24_code (4 : Nat) (Option.none : Option Jvm.ClassFile.FieldType), Jvm.Cond.code ({ cls := "java/util/ArrayList", name := "grow", desc := "()[Ljava/lang/Object;" } : Jvm.MethodName) jdk_38_method_7_code (1 : Nat) (Option.some (Jvm.ClassFile.FieldType.array (Jvm.ClassFile.FieldType.object "java/lang/Object"))), Jvm.Cond.code ({ cls := "java/util/ArrayList", name := "grow", desc := "(I)[Ljava/lang/Object;" } : Jvm.MethodName) jdk_38_method_6_code (4 : Nat) (Option.some (Jvm.ClassFile.FieldType.array (Jvm.ClassFile.FieldType.object "java/lang/Object"))), Jvm.Cond.code ({ cls := "java/lang/Math", name := "max", desc := "(II)I" } : Jvm.MethodName) jdk_29_method_65_code (2 : Nat) (Option.some Jvm.ClassFile.FieldType.int), Jvm.Cond.code ({ cls := "com/example/nisaba/nisaba/isatab/Header$AnnotationColumn", name := "<init>", desc := "(Ljava/lang/String;Ljava/lang/String;I)V" } : Jvm.MethodName) prog_7_method_1_code (4 : Nat) (Option.none : Option Jvm.ClassFile.FieldType), Jvm.Cond.code ({ cls := "com/example/nisaba/nisaba/isatab/Values", name := "<init>", desc := "(Ljava/util/List;Ljava/util/List;)V" } : Jvm.MethodName) prog_15_method_1_code (6 : Nat) (Option.none : Option Jvm.ClassFile.FieldType), Jvm.Cond.code ({ cls := "java/util/ArrayList", name := "iterator", desc := "()Ljava/util/Iterator;" } : Jvm.MethodName) jdk_38_method_55_code (1 : Nat) (Option.some (Jvm.ClassFile.FieldType.object "java/util/Iterator")), Jvm.Cond.code ({ cls := "java/util/ArrayList$Itr", name := "<init>", desc := "(Ljava/util/ArrayList;)V" } : Jvm.MethodName) jdk_49_method_1_code (2 : Nat) (Option.none : Option Jvm.ClassFile.FieldType), Jvm.Cond.code ({ cls := "java/util/ArrayList$Itr", name := "hasNext", desc := "()Z" } : Jvm.MethodName) jdk_49_method_2_code (1 : Nat) (Option.some Jvm.ClassFile.FieldType.boolean), Jvm.Cond.code ({ cls := "com/example/nisaba/nisaba/isatab/Values", name := "firstGiven", desc := "()I" } : Jvm.MethodName) prog_15_method_3_code (3 : Nat) (Option.some Jvm.ClassFile.FieldType.int), Jvm.Cond.code ({ cls := "java/util/ArrayList", name := "size", desc := "()I" } : Jvm.MethodName) jdk_38_method_8_code (1 : Nat) (Option.some Jvm.ClassFile.FieldType.int), Jvm.Cond.code ({ cls := "java/util/ArrayList$Itr", name := "next", desc := "()Ljava/lang/Object;" } : Jvm.MethodName) jdk_49_method_3_code (3 : Nat) (Option.some (Jvm.ClassFile.FieldType.object "java/lang/Object")), Jvm.Cond.code ({ cls := "java/util/ArrayList$Itr", name := "checkForComodification", desc := "()V" } : Jvm.MethodName) jdk_49_method_6_code (1 : Nat) (Option.none : Option Jvm.ClassFile.FieldType), Jvm.Cond.code ({ cls := "com/example/nisaba/nisaba/isatab/Header$AnnotationColumn", name := "value", desc := "()I" } : Jvm.MethodName) prog_7_method_4_code (1 : Nat) (Option.some Jvm.ClassFile.FieldType.int), Jvm.Cond.code ({ cls := "java/util/ArrayList", name := "get", desc := "(I)Ljava/lang/Object;" } : Jvm.MethodName) jdk_38_method_20_code (2 : Nat) (Option.some (Jvm.ClassFile.FieldType.object "java/lang/Object")), Jvm.Cond.code ({ cls := "java/util/Objects", name := "checkIndex", desc := "(II)I" } : Jvm.MethodName) jdk_31_method_17_code (2 : Nat) (Option.some Jvm.ClassFile.FieldType.int), Jvm.Cond.code ({ cls := "jdk/internal/util/Preconditions", name := "checkIndex", desc := "(IILjava/util/function/BiFunction;)I" } : Jvm.MethodName) jdk_41_method_11_code (3 : Nat) (Option.some Jvm.ClassFile.FieldType.int), Jvm.Cond.code ({ cls := "java/util/ArrayList", name := "elementData", desc := "(I)Ljava/lang/Object;" } : Jvm.MethodName) jdk_38_method_18_code (2 : Nat) (Option.some (Jvm.ClassFile.FieldType.object "java/lang/Object")), Jvm.Cond.code ({ cls := "com/example/nisaba/nisaba/isatab/Header$AnnotationColumn", name := "unit", desc := "()I" } : Jvm.MethodName) prog_7_method_5_code (1 : Nat) (Option.some Jvm.ClassFile.FieldType.int), Jvm.Cond.code ({ cls := "java/lang/String", name := "isEmpty", desc := "()Z" } : Jvm.MethodName) jdk_42_method_55_code (1 : Nat) (Option.some Jvm.ClassFile.FieldType.boolean)]
set_option maxRecDepth 65536 in
theorem codes_eq : words1.filter isCode = codes1 := rfl
theorem w_codes : ∀ c ∈ words1.filter isCode, c.before args0 about1 = true := by
  rw [codes_eq]
  intro c hc
  simp only [codes1, List.mem_cons, List.not_mem_nil, or_false] at hc
  rcases hc with rfl | rfl | rfl | rfl | rfl | rfl | rfl | rfl | rfl | rfl | rfl | rfl | rfl | rfl | rfl | rfl | rfl | rfl | rfl | rfl | rfl | rfl | rfl | rfl | rfl | rfl | rfl | rfl | rfl | rfl | rfl
  · exact w_c0
  · exact w_c1
  · exact w_c2
  · exact w_c3
  · exact w_c4
  · exact w_c5
  · exact w_c6
  · exact w_c7
  · exact w_c8
  · exact w_c9
  · exact w_c10
  · exact w_c11
  · exact w_c12
  · exact w_c13
  · exact w_c14
  · exact w_c15
  · exact w_c16
  · exact w_c17
  · exact w_c18
  · exact w_c19
  · exact w_c20
  · exact w_c21
  · exact w_c22
  · exact w_c23
  · exact w_c24
  · exact w_c25
  · exact w_c26
  · exact w_c27
  · exact w_c28
  · exact w_c29
  · exact w_c30
set_option maxRecDepth 65536 in
theorem w_t1 : (words1.take 24).all (fun c => isCode c || c.before args0 about1) = true := by decide +kernel
set_option maxRecDepth 65536 in
theorem w_t2 : ((words1.drop 24).take 24).all (fun c => isCode c || c.before args0 about1) = true := by decide +kernel
set_option maxRecDepth 65536 in
theorem w_t3 : (((words1.drop 24).drop 24).take 24).all (fun c => isCode c || c.before args0 about1) = true := by decide +kernel
set_option maxRecDepth 65536 in
theorem w_t4 : ((((words1.drop 24).drop 24).drop 24).take 24).all (fun c => isCode c || c.before args0 about1) = true := by decide +kernel
set_option maxRecDepth 65536 in
theorem w_t5 : (((((words1.drop 24).drop 24).drop 24).drop 24).take 24).all (fun c => isCode c || c.before args0 about1) = true := by decide +kernel
set_option maxRecDepth 65536 in
theorem w_t6 : ((((((words1.drop 24).drop 24).drop 24).drop 24).drop 24).take 24).all (fun c => isCode c || c.before args0 about1) = true := by decide +kernel
set_option maxRecDepth 65536 in
theorem w_t7 : (((((((words1.drop 24).drop 24).drop 24).drop 24).drop 24).drop 24).take 24).all (fun c => isCode c || c.before args0 about1) = true := by decide +kernel
set_option maxRecDepth 65536 in
theorem w_t8 : ((((((((words1.drop 24).drop 24).drop 24).drop 24).drop 24).drop 24).drop 24).take 24).all (fun c => isCode c || c.before args0 about1) = true := by decide +kernel
set_option maxRecDepth 65536 in
theorem w_t9 : (((((((((words1.drop 24).drop 24).drop 24).drop 24).drop 24).drop 24).drop 24).drop 24).take 24).all (fun c => isCode c || c.before args0 about1) = true := by decide +kernel
set_option maxRecDepth 65536 in
theorem w_t10 : (((((((((words1.drop 24).drop 24).drop 24).drop 24).drop 24).drop 24).drop 24).drop 24).drop 24).all (fun c => isCode c || c.before args0 about1) = true := by decide +kernel
theorem w_tables : (allAtoms (Jvm.Cond.code x code maxLocals ret :: tables_1)).before args0 about1 = true := by
  rw [allAtoms_all]
  show words1.all (fun c => c.before args0 about1) = true
  refine all_split ?_ w_codes
  rw [← List.take_append_drop 24 words1, List.all_append, w_t1, ← List.take_append_drop 24 (words1.drop 24), List.all_append, w_t2, ← List.take_append_drop 24 ((words1.drop 24).drop 24), List.all_append, w_t3, ← List.take_append_drop 24 (((words1.drop 24).drop 24).drop 24), List.all_append, w_t4, ← List.take_append_drop 24 ((((words1.drop 24).drop 24).drop 24).drop 24), List.all_append, w_t5, ← List.take_append_drop 24 (((((words1.drop 24).drop 24).drop 24).drop 24).drop 24), List.all_append, w_t6, ← List.take_append_drop 24 ((((((words1.drop 24).drop 24).drop 24).drop 24).drop 24).drop 24), List.all_append, w_t7, ← List.take_append_drop 24 (((((((words1.drop 24).drop 24).drop 24).drop 24).drop 24).drop 24).drop 24), List.all_append, w_t8, ← List.take_append_drop 24 ((((((((words1.drop 24).drop 24).drop 24).drop 24).drop 24).drop 24).drop 24).drop 24), List.all_append, w_t9, w_t10]
  rfl
set_option maxRecDepth 65536 in
theorem w_rest : rest_1_c.before args0 about1 = true := by decide +kernel
set_option maxRecDepth 65536 in
theorem w_case : (Jvm.Cond.and given_1 narrow_1).before args0 about1 = true := by decide +kernel
set_option maxRecDepth 65536 in
theorem w_consts : constsHeld consts_1 about1 := Jvm.Lit.constsHeldB_iff.mp (by decide +kernel)
theorem w_applies : (headSpec (Jvm.Cond.code x code maxLocals ret :: tables_1) room_1).applies x e0.platform about1 = true :=
  (Spec.applies_iff w_frames).mpr ⟨w_running, w_runnable, w_alone, w_named, w_hears, w_ripe, w_room, w_tables⟩
theorem atStart : AtStart classFile x code maxLocals ret World_1 tables_1 room_1 Calls_1 rest_1 Pre_1 launch0 p0 e0 about1 theMethod args0 below0 :=
  ⟨lists_1, trivial, launch0.admits_env _ _ _, launch0.least_env, fairChoices_fair.cas, fairChoices_fair.clock, w_frames, w_args, w_heap, w_applies, ⟨w_consts, trivial⟩, w_rest, w_case⟩
end start1
theorem witness_1 : WitnessClaimed_1 := ⟨start1.p0, start1.e0, start1.about1, start1.theMethod, start1.args0, start1.below0, start1.atStart⟩
end Jvm.Pilot.@@N@@
