import JvmDerived
import JvmDerived.Pilot.@@N@@Statement
import JvmDerived.Pilot.@@N@@Code
set_option linter.unusedVariables false
set_option linter.unusedSimpArgs false
namespace Jvm.RoadKit
open Sem ClassFile Op Lib Jvm.Stand Jvm.Free Jvm.LawKit
section New
variable {p : Program} {l : Launch} {e : Env} {R : Room} {s : State} {m : MethodId} {args : Array Value} {below : List Frame} {meth : Method} {c : Code} {T : State} {locs : List Loc} {cells slots : Nat}
theorem retI (X : Stand p l e R s m args below meth c T locs cells slots) (hx : p.tables.exec = Jvm.exec) {pc : Nat} {Ls : Array Slot} {z : Int32} {rest : List Value} (hret : meth.sig.returnType = some .int) (hd : decode c.code pc = .ok (.ireturn, 1)) {fs : List Frame}
    (hl : ∀ (f : JFrame) (acts : List Action), f.method = m → f.locked = none → f.entered = [] → (doReturn e (T.setTop f) acts (some (.int z))).1 = T.setFrames fs) : Steps p.tables e below (T.setTop (mkF m pc Ls (.int z :: rest))) (T.setFrames fs) := by
  have hm' : T.vm.method? m = some meth := X.method'
  have hn : narrow .int (.int z) = .int z := rfl
  show Steps p.tables e below (T.setTop { method := m, pc := pc, locals := Ls, stack := _ :: rest, locked := none }) _
  jvm_step X.here [X.here.top, hx, hd, hm', hret, hn]
  first | (intro acts; rw [hl _ acts rfl rfl rfl]) | rw [hl _ _ rfl rfl rfl]
  exact Steps.refl _
/-- from the state T with the frame g on top the run ends, returned, with Q -/
def own_Go (tb : Tables) (e : Env) (below : List Frame) (Q : Option Value → Heap → List Loc → Prop) (s : State) (C S : Nat) (T : State) (g : JFrame) : Prop :=
  ∃ t o, Steps tb e below (T.setTop g) t ∧ t.status = .running ∧ Ended t below o ∧ ∃ v L, o = .returned v ∧ Q v t.heap L ∧ FrameEnd s o t L C S
theorem own_by {tb : Tables} {Q : Option Value → Heap → List Loc → Prop} {C S : Nat} {T T' : State} {g g' : JFrame} (st : ∀ target, Steps tb e below (T'.setTop g') target → Steps tb e below (T.setTop g) target) (k : own_Go tb e below Q s C S T' g') : own_Go tb e below Q s C S T g := by
  obtain ⟨t, o, h1, h2⟩ := k
  exact ⟨t, o, st t h1, h2⟩
theorem bN {tb : Tables} {Q : Option Value → Heap → List Loc → Prop} {C S : Nat} {T : State} {g : JFrame} (T' : State) (g' : JFrame) (st : ∀ target, Steps tb e below (T'.setTop g') target → Steps tb e below (T.setTop g) target) (k : own_Go tb e below Q s C S T' g') : own_Go tb e below Q s C S T g := own_by st k
/-- the contract of a body: from the heap h0, with the arguments A, it returns, with Q -/
abbrev own_M (l : Launch) (y : MethodName) (code : ByteArray) (ml : Nat) (rt : Option FieldType) (ws : List Cond) (R : Room) (Z : State) (A : Array Value) (h0 : Heap) (Q : Option Value → Heap → List Loc → Prop) : Prop :=
  MetFree l y (head1 (Cond.code y code ml rt :: ws) R) (fun a U => a = A ∧ Z.Warmed39 U.vm ∧ U.heap = h0) (fun _ _ _ _ _ => True) (fun _ U o U' => ∃ v L, o = .returned v ∧ Q v U'.heap L ∧ FrameEnd U o U' L R.cells R.slots)
theorem own_bd {y : MethodName} {code : ByteArray} {ml : Nat} {rt : Option FieldType} {ws : List Cond} {Z : State} {A : Array Value} {h0 : Heap} {Q : Option Value → Heap → List Loc → Prop} (hpl : plainFor y = true)
    (k : ∀ p e s m below meth c s₁, BodyLoose p l y (head1 (Cond.code y code ml rt :: ws) R) code ml rt e s m A below meth c s₁ → p.tables.exec = Jvm.exec → c.code = code → c.maxLocals = ml → s.vm.findClass y.cls = some m.cls → meth.name = y.name → meth.locks = false → Z.Warmed39 s.vm → Stand p l e R s m A below meth c s₁ [] 0 0 → s₁.heap = h0 → own_Go p.tables e below Q s R.cells R.slots s₁ (entryFrame m A ml)) : own_M l y code ml rt ws R Z A h0 Q := by
  refine MetFree.of_bodySF hpl hisR ?_
  intro p e s m args below meth c s₁ Bd hml hP hK
  obtain ⟨rfl, hZ, hh⟩ := hP
  exact k p e s m below meth c s₁ Bd Bd.exec Bd.bytes hml (findClass_of_methodNamed Bd.named) (name_of_methodNamed Bd.named Bd.method).1 Bd.notSynchronized hZ (Stand.of_body Bd) (by rw [← hh, Bd.state]; rfl)
theorem own_ret {Q : Option Value → Heap → List Loc → Prop} {C S : Nat} {g : JFrame} (X : Stand p l e R s m args below meth c T locs cells slots) (hlk : meth.locks = false) {v : Option Value} (hv : meth.sig.returnType = none → v = none)
    (st : ∀ fs, (∀ (f : JFrame) (acts : List Action), f.method = m → f.locked = none → f.entered = [] → (doReturn e (T.setTop f) acts v).1 = T.setFrames fs) → Steps p.tables e below (T.setTop g) (T.setFrames fs))
    (hq : Q v T.heap locs) (hc : cells ≤ C) (hs : slots ≤ S) : own_Go p.tables e below Q s C S T g := by
  obtain ⟨fs, hr, hrun, hended, hW, hsame⟩ := X.leave (v := v) hv hlk
  exact ⟨_, _, st fs hr, hrun, hended, v, locs, rfl, hq, ⟨v, rfl⟩, hW, hsame.mono hc hs⟩
end New
section Wide
variable {p : Program} {l : Launch} {e : Env} {R : Room} {s : State} {m : MethodId} {args : Array Value} {below : List Frame} {meth : Method} {c : Code} {T Z : State} {locs : List Loc} {cells slots : Nat} {a0 : Array Value} {h : Heap} {EL : List (String × Nat)} {vm0 : Vm}
/-- as own_Go, of a run that may intern -/
def own_GoW (tb : Tables) (e : Env) (below : List Frame) (Z : State) (EL : List (String × Nat)) (Q : Option Value → Heap → List Loc → Prop) (s : State) (C S : Nat) (T : State) (g : JFrame) : Prop :=
  ∃ t o, Steps tb e below (T.setTop g) t ∧ t.status = .running ∧ Ended t below o ∧ ∃ v L, o = .returned v ∧ Q v t.heap L ∧ CHr Z EL s.vm s.heap t.vm t.heap ∧ ReturnedEndW s o t L C S
theorem own_byW {tb : Tables} {Q : Option Value → Heap → List Loc → Prop} {C S : Nat} {T T' : State} {g g' : JFrame} (st : ∀ target, Steps tb e below (T'.setTop g') target → Steps tb e below (T.setTop g) target) (k : own_GoW tb e below Z EL Q s C S T' g') : own_GoW tb e below Z EL Q s C S T g := by
  obtain ⟨t, o, h1, h2⟩ := k
  exact ⟨t, o, st t h1, h2⟩
theorem bW {tb : Tables} {Q : Option Value → Heap → List Loc → Prop} {C S : Nat} {T : State} {g : JFrame} (T' : State) (g' : JFrame) (st : ∀ target, Steps tb e below (T'.setTop g') target → Steps tb e below (T.setTop g) target) (k : own_GoW tb e below Z EL Q s C S T' g') : own_GoW tb e below Z EL Q s C S T g := own_byW st k
theorem own_retW {Q : Option Value → Heap → List Loc → Prop} {C S : Nat} {g : JFrame} {vm1 : Vm} {n : Nat} (X : Stand p l e R (s.setVm vm1) m args below meth c T locs cells slots) (hlk : meth.locks = false) (hS : s.Since vm1 n) (hn : n ≤ T.heap.size) (hZ : Z.Warmed39 vm1) (hEL : EW Z a0 EL) (hC : CHr Z EL s.vm s.heap vm1 h) (eT : T.heap = h) {v : Option Value} (hv : meth.sig.returnType = none → v = none)
    (st : ∀ fs, (∀ (f : JFrame) (acts : List Action), f.method = m → f.locked = none → f.entered = [] → (doReturn e (T.setTop f) acts v).1 = T.setFrames fs) → Steps p.tables e below (T.setTop g) (T.setFrames fs))
    (hq : Q v T.heap locs) (hc : cells ≤ C) (hs : slots ≤ S) : own_GoW p.tables e below Z EL Q s C S T g := by
  obtain ⟨fs, hr, hrun, hended, q1, q2, q3, q4⟩ := X.leaveW hS hn (v := v) hv hlk
  subst eT
  have q5 : CHr Z EL s.vm s.heap T.vm T.heap := hC.trans (CHv.at X hZ hEL hC.1)
  exact ⟨_, _, st fs hr, hrun, hended, v, locs, rfl, hq, q5, q1, q2, q3, q4.mono hc hs⟩
theorem own_backSH {y : MethodName} {bytes : ByteArray} {maxL : Nat} {ret : Option FieldType} {rm : Room} {len W : Nat} {as' : Array Value} {VP : Vm → Prop} {Q : Option Value → Heap → List Loc → Prop}
    (hM : MetFree l y (head1 [Cond.code y bytes maxL ret] rm) (fun a U => a = as' ∧ Z.Warmed39 U.vm ∧ U.heap = h ∧ CHv Z EL U.vm h ∧ VP U.vm) (fun _ _ _ _ _ => True) (fun _ U o U' => ∃ v L, o = .returned v ∧ Q v U'.heap L ∧ CHr Z EL U.vm U.heap U'.vm U'.heap ∧ ReturnedEndW U o U' L rm.cells rm.slots))
    (hZ : Z.Warmed39 vm0) (wc : (Cond.code y bytes maxL ret).before a0 Z = true) (wz : (Cond.initialized y.cls).before a0 Z = true) (hf : rm.frames + 1 ≤ R.frames) (hl : W + (maxL + 11) + rm.locals ≤ R.locals) (hEL : EW Z a0 EL) (H : CHv Z EL vm0 h) (hVP : ∀ vm, CHr Z EL vm0 h vm h → VP vm) :
    BackS l R p e below (s.setVm vm0) args y len W (fun A a => a = as' ∧ A.U.heap = h ∧ A.cells + rm.cells ≤ R.cells ∧ A.slots + rm.slots ≤ R.slots)
      (fun A _ v B => ∃ L, Q v B.U.heap L ∧ B.locs = A.locs ++ L ∧ B.cells = A.cells + rm.cells ∧ B.slots = A.slots + rm.slots ∧ CHr Z EL vm0 h B.U.vm B.U.heap) :=
  BackS.of_freeW (bytes := bytes) (maxL := maxL) (ret := ret) (E := fun _ first o t L k n => k = rm.cells ∧ n = rm.slots ∧ (∃ v, o = .returned v ∧ Q v t.heap L) ∧ CHr Z EL first.vm first.heap t.vm t.heap) hM hf hl
    (fun m meth c A a Y hp => have hU : Z.Warmed39 A.U.vm := wtrans (s := s.setVm vm0) hZ Y.warmed
      ⟨by show (Cond.and _ .tt).before a A.U = true; rw [Cond.before_and, mv hU wc]; rfl, mv hU wc, mv hU wz, hp.2.2.1, hp.2.2.2⟩)
    (fun m meth c A a g mk Y hp => have q : CHr Z EL vm0 h A.U.vm h := CHv.at Y hZ hEL H
      ⟨hp.1, wtrans (s := s.setVm vm0) hZ Y.warmed, hp.2.1, q.1, hVP A.U.vm q⟩) (fun _ _ _ _ _ _ _ _ _ => trivial)
    (fun _ _ _ _ ⟨v, L, h1, h2, h3, h4⟩ => ⟨L, _, _, h4, rfl, rfl, ⟨v, h1, h2⟩, h3⟩)
    (fun m meth c A a g mk v t L k n Y hp _ _ ⟨e1, e2, ⟨v', e3, e4⟩, e5⟩ => by
      cases e3; subst e1 e2
      refine ⟨L, e4, rfl, rfl, rfl, (CHv.at Y hZ hEL H).trans ?_⟩
      rw [← hp.2.1]; exact e5)
end Wide
end Jvm.RoadKit
namespace Jvm.Pilot.@@N@@
open Jvm Jvm.ClassFile Sem Op Lib Jvm.Free Jvm.Stand Jvm.LawKit Jvm.RoadKit Bundle Jvm.Pilot.@@N@@.Jvm.D
abbrev vi (x : Int32) : Slot := .val (.int x)
abbrev vr (x : Addr) : Slot := .val (.ref x)
abbrev uu : Slot := .unset
abbrev ii (x : Int32) : Value := .int x
abbrev HW (Z : State) (a0 : Array Value) : Prop := ∀ d ∈ tables_1, d.before a0 Z = true
theorem nvr {a : Option FieldType} {t : FieldType} {v : Option Value} (h : a = some t) : a = none → v = none := fun q => by rw [h] at q; cases q
theorem mo {α : Type} {L : List α} {a : α} (i : Nat) (h : L[i]? = some a) : a ∈ L := List.mem_of_getElem? (i := i) h
abbrev yy0 : MethodName := (⟨"com/example/shelfgraph/shelfgraph/ingest/CommandLineTextHasUndecodedBytesPinLaw", "ch", "(I)C"⟩ : MethodName)
abbrev yy1 : MethodName := (⟨"com/example/shelfgraph/shelfgraph/ingest/CommandLineTextHasUndecodedBytesPinLaw", "make", "(I)[C"⟩ : MethodName)
abbrev yy2 : MethodName := (⟨"java/lang/StringUTF16", "compress", "([CI[BII)I"⟩ : MethodName)
abbrev yy3 : MethodName := (⟨"java/lang/StringUTF16", "compress", "([CII)[B"⟩ : MethodName)
abbrev yy4 : MethodName := (⟨"java/lang/StringUTF16", "coderFromArrayLen", "([BI)B"⟩ : MethodName)
abbrev yy5 : MethodName := (⟨"java/lang/String", "<init>", "([CIILjava/lang/Void;)V"⟩ : MethodName)
abbrev yy6 : MethodName := (⟨"java/lang/String", "<init>", "([C)V"⟩ : MethodName)
abbrev yy7 : MethodName := (⟨"java/lang/StringUTF16", "putChar", "([BII)V"⟩ : MethodName)
abbrev yy8 : MethodName := (⟨"java/lang/StringUTF16", "getChar", "([BI)C"⟩ : MethodName)
abbrev yy9 : MethodName := (⟨"java/lang/StringUTF16", "newBytesLength", "(I)I"⟩ : MethodName)
abbrev yy10 : MethodName := (⟨"java/lang/StringUTF16", "newBytesFor", "(I)[B"⟩ : MethodName)
abbrev yy11 : MethodName := (⟨"java/lang/StringUTF16", "toBytes", "([CII)[B"⟩ : MethodName)
abbrev yy12 : MethodName := (⟨"java/lang/String", "isLatin1", "()Z"⟩ : MethodName)
abbrev yy13 : MethodName := (⟨"java/lang/String", "coder", "()B"⟩ : MethodName)
abbrev yy14 : MethodName := (⟨"java/lang/StringLatin1", "canEncode", "(I)Z"⟩ : MethodName)
abbrev yy15 : MethodName := (⟨"java/lang/Math", "max", "(II)I"⟩ : MethodName)
abbrev yy16 : MethodName := (⟨"java/lang/String", "length", "()I"⟩ : MethodName)
abbrev yy17 : MethodName := (⟨"java/lang/Math", "min", "(II)I"⟩ : MethodName)
abbrev yy18 : MethodName := (⟨"java/lang/StringUTF16", "length", "([B)I"⟩ : MethodName)
abbrev yy19 : MethodName := (⟨"jdk/internal/util/Preconditions", "checkFromToIndex", "(IIILjava/util/function/BiFunction;)I"⟩ : MethodName)
abbrev yy20 : MethodName := (⟨"java/lang/String", "checkBoundsBeginEnd", "(III)V"⟩ : MethodName)
abbrev yy21 : MethodName := (⟨"java/lang/StringUTF16", "checkBoundsBeginEnd", "(II[B)V"⟩ : MethodName)
abbrev yy22 : MethodName := (⟨"java/lang/StringUTF16", "indexOfCharUnsafe", "([BIII)I"⟩ : MethodName)
abbrev yy23 : MethodName := (⟨"java/lang/StringUTF16", "indexOfChar", "([BIII)I"⟩ : MethodName)
abbrev yy24 : MethodName := (⟨"java/lang/StringUTF16", "indexOf", "([BIII)I"⟩ : MethodName)
abbrev yy25 : MethodName := (⟨"java/lang/String", "indexOf", "(II)I"⟩ : MethodName)
abbrev yy26 : MethodName := (⟨"java/lang/String", "indexOf", "(I)I"⟩ : MethodName)
abbrev yy27 : MethodName := (⟨"com/example/shelfgraph/shelfgraph/ingest/CommandLineText", "hasUndecodedBytes", "(Ljava/lang/String;)Z"⟩ : MethodName)
abbrev yy28 : MethodName := (⟨"java/lang/StringLatin1", "indexOf", "([BIII)I"⟩ : MethodName)
abbrev rr0 : Room := ({ frames := 0, cells := 0, slots := 0, locals := 0 } : Room)
abbrev rr1 : Room := ({ frames := 0, cells := 1, slots := 0, locals := 0 } : Room)
abbrev rr2 : Room := ({ frames := 0, cells := 1, slots := 1, locals := 0 } : Room)
abbrev rr3 : Room := ({ frames := 0, cells := 1, slots := 2, locals := 0 } : Room)
abbrev rr4 : Room := ({ frames := 0, cells := 1, slots := 3, locals := 0 } : Room)
abbrev rr5 : Room := ({ frames := 0, cells := 1, slots := 4, locals := 0 } : Room)
abbrev rr6 : Room := ({ frames := 1, cells := 1, slots := 1, locals := 18 } : Room)
abbrev rr7 : Room := ({ frames := 2, cells := 1, slots := 1, locals := 35 } : Room)
abbrev rr8 : Room := ({ frames := 3, cells := 1, slots := 1, locals := 52 } : Room)
abbrev rr9 : Room := ({ frames := 1, cells := 1, slots := 2, locals := 18 } : Room)
abbrev rr10 : Room := ({ frames := 2, cells := 1, slots := 2, locals := 35 } : Room)
abbrev rr11 : Room := ({ frames := 3, cells := 1, slots := 2, locals := 52 } : Room)
abbrev rr12 : Room := ({ frames := 1, cells := 1, slots := 3, locals := 18 } : Room)
abbrev rr13 : Room := ({ frames := 2, cells := 1, slots := 3, locals := 35 } : Room)
abbrev rr14 : Room := ({ frames := 3, cells := 1, slots := 3, locals := 52 } : Room)
abbrev rr15 : Room := ({ frames := 1, cells := 1, slots := 4, locals := 18 } : Room)
abbrev rr16 : Room := ({ frames := 2, cells := 1, slots := 4, locals := 35 } : Room)
abbrev rr17 : Room := ({ frames := 3, cells := 1, slots := 4, locals := 52 } : Room)
abbrev rr18 : Room := ({ frames := 1, cells := 4, slots := 8, locals := 12 } : Room)
abbrev rr19 : Room := ({ frames := 2, cells := 4, slots := 8, locals := 29 } : Room)
abbrev rr20 : Room := ({ frames := 1, cells := 1, slots := 2, locals := 12 } : Room)
abbrev rr21 : Room := ({ frames := 1, cells := 1, slots := 4, locals := 12 } : Room)
abbrev rr22 : Room := ({ frames := 1, cells := 1, slots := 6, locals := 12 } : Room)
abbrev rr23 : Room := ({ frames := 1, cells := 1, slots := 8, locals := 12 } : Room)
abbrev rr24 : Room := ({ frames := 2, cells := 1, slots := 2, locals := 24 } : Room)
abbrev rr25 : Room := ({ frames := 3, cells := 2, slots := 3, locals := 40 } : Room)
abbrev rr26 : Room := ({ frames := 4, cells := 2, slots := 3, locals := 57 } : Room)
abbrev rr27 : Room := ({ frames := 5, cells := 2, slots := 3, locals := 74 } : Room)
abbrev rr28 : Room := ({ frames := 2, cells := 1, slots := 4, locals := 24 } : Room)
abbrev rr29 : Room := ({ frames := 3, cells := 2, slots := 6, locals := 40 } : Room)
abbrev rr30 : Room := ({ frames := 4, cells := 2, slots := 6, locals := 57 } : Room)
abbrev rr31 : Room := ({ frames := 5, cells := 2, slots := 6, locals := 74 } : Room)
abbrev rr32 : Room := ({ frames := 2, cells := 1, slots := 6, locals := 24 } : Room)
abbrev rr33 : Room := ({ frames := 3, cells := 2, slots := 9, locals := 40 } : Room)
abbrev rr34 : Room := ({ frames := 4, cells := 2, slots := 9, locals := 57 } : Room)
abbrev rr35 : Room := ({ frames := 5, cells := 2, slots := 9, locals := 74 } : Room)
abbrev rr36 : Room := ({ frames := 2, cells := 1, slots := 8, locals := 24 } : Room)
abbrev rr37 : Room := ({ frames := 3, cells := 2, slots := 12, locals := 40 } : Room)
abbrev rr38 : Room := ({ frames := 4, cells := 2, slots := 12, locals := 57 } : Room)
abbrev rr39 : Room := ({ frames := 5, cells := 2, slots := 12, locals := 74 } : Room)
abbrev rr40 : Room := ({ frames := 1, cells := 0, slots := 0, locals := 13 } : Room)
abbrev rr41 : Room := ({ frames := 1, cells := 0, slots := 0, locals := 15 } : Room)
abbrev rr42 : Room := ({ frames := 2, cells := 0, slots := 0, locals := 29 } : Room)
abbrev rr43 : Room := ({ frames := 3, cells := 0, slots := 0, locals := 43 } : Room)
abbrev rr44 : Room := ({ frames := 4, cells := 0, slots := 0, locals := 58 } : Room)
abbrev rr45 : Room := ({ frames := 5, cells := 0, slots := 0, locals := 73 } : Room)
abbrev rr46 : Room := ({ frames := 6, cells := 0, slots := 0, locals := 87 } : Room)
abbrev rr47 : Room := ({ frames := 7, cells := 0, slots := 0, locals := 100 } : Room)
abbrev rr48 : Room := ({ frames := 1, cells := 0, slots := 0, locals := 12 } : Room)
abbrev rr49 : Room := ({ frames := 2, cells := 0, slots := 0, locals := 28 } : Room)
abbrev rr50 : Room := ({ frames := 3, cells := 0, slots := 0, locals := 42 } : Room)
abbrev rr51 : Room := ({ frames := 4, cells := 0, slots := 0, locals := 55 } : Room)
abbrev b0 (c : Int32) : Int32 := nar .byte ((c >>> ((0 : Int32) &&& 31)).toInt8.toInt32)
abbrev b1 (c : Int32) : Int32 := nar .byte ((c >>> ((8 : Int32) &&& 31)).toInt8.toInt32)
abbrev AD (Z : State) (h : Heap) : Prop := Sta Z h "java/lang/StringUTF16" "$assertionsDisabled" "Z" (.int (1 : Int32))
abbrev HI (Z : State) (h : Heap) : Prop := Sta Z h "java/lang/StringUTF16" "HI_BYTE_SHIFT" "I" (.int (0 : Int32))
abbrev LO (Z : State) (h : Heap) : Prop := Sta Z h "java/lang/StringUTF16" "LO_BYTE_SHIFT" "I" (.int (8 : Int32))
abbrev wb1 (c0 : Int32) : List Value := [(.int (nar .byte ((c0 >>> ((0 : Int32) &&& 31)).toInt8.toInt32))), (.int (nar .byte ((c0 >>> ((8 : Int32) &&& 31)).toInt8.toInt32)))]
abbrev wb2 (c0 c1 : Int32) : List Value := [(.int (nar .byte ((c0 >>> ((0 : Int32) &&& 31)).toInt8.toInt32))), (.int (nar .byte ((c0 >>> ((8 : Int32) &&& 31)).toInt8.toInt32))), (.int (nar .byte ((c1 >>> ((0 : Int32) &&& 31)).toInt8.toInt32))), (.int (nar .byte ((c1 >>> ((8 : Int32) &&& 31)).toInt8.toInt32)))]
abbrev wb3 (c0 c1 c2 : Int32) : List Value := [(.int (nar .byte ((c0 >>> ((0 : Int32) &&& 31)).toInt8.toInt32))), (.int (nar .byte ((c0 >>> ((8 : Int32) &&& 31)).toInt8.toInt32))), (.int (nar .byte ((c1 >>> ((0 : Int32) &&& 31)).toInt8.toInt32))), (.int (nar .byte ((c1 >>> ((8 : Int32) &&& 31)).toInt8.toInt32))), (.int (nar .byte ((c2 >>> ((0 : Int32) &&& 31)).toInt8.toInt32))), (.int (nar .byte ((c2 >>> ((8 : Int32) &&& 31)).toInt8.toInt32)))]
abbrev wb4 (c0 c1 c2 c3 : Int32) : List Value := [(.int (nar .byte ((c0 >>> ((0 : Int32) &&& 31)).toInt8.toInt32))), (.int (nar .byte ((c0 >>> ((8 : Int32) &&& 31)).toInt8.toInt32))), (.int (nar .byte ((c1 >>> ((0 : Int32) &&& 31)).toInt8.toInt32))), (.int (nar .byte ((c1 >>> ((8 : Int32) &&& 31)).toInt8.toInt32))), (.int (nar .byte ((c2 >>> ((0 : Int32) &&& 31)).toInt8.toInt32))), (.int (nar .byte ((c2 >>> ((8 : Int32) &&& 31)).toInt8.toInt32))), (.int (nar .byte ((c3 >>> ((0 : Int32) &&& 31)).toInt8.toInt32))), (.int (nar .byte ((c3 >>> ((8 : Int32) &&& 31)).toInt8.toInt32)))]
set_option maxRecDepth 65536
set_option maxHeartbeats 40000000
theorem pd_0 : parseMethodDescriptor "([CI[BII)I" = some ⟨[(.array .char), .int, (.array .byte), .int, .int], some .int⟩ := by decide +kernel
theorem pd_1 : parseMethodDescriptor "([CII)[B" = some ⟨[(.array .char), .int, .int], some (.array .byte)⟩ := by decide +kernel
theorem pd_2 : parseMethodDescriptor "([BI)B" = some ⟨[(.array .byte), .int], some .byte⟩ := by decide +kernel
theorem pd_3 : parseMethodDescriptor "([CIILjava/lang/Void;)V" = some ⟨[(.array .char), .int, .int, (.object "java/lang/Void")], none⟩ := by decide +kernel
theorem pd_4 : parseMethodDescriptor "(I)I" = some ⟨[.int], some .int⟩ := by decide +kernel
theorem pd_5 : parseMethodDescriptor "(I)[B" = some ⟨[.int], some (.array .byte)⟩ := by decide +kernel
theorem pd_6 : parseMethodDescriptor "([BII)V" = some ⟨[(.array .byte), .int, .int], none⟩ := by decide +kernel
theorem pd_7 : parseMethodDescriptor "([BI)C" = some ⟨[(.array .byte), .int], some .char⟩ := by decide +kernel
theorem pd_8 : parseMethodDescriptor "()B" = some ⟨[], some .byte⟩ := by decide +kernel
theorem pd_9 : parseMethodDescriptor "(IIILjava/util/function/BiFunction;)I" = some ⟨[.int, .int, .int, (.object "java/util/function/BiFunction")], some .int⟩ := by decide +kernel
theorem pd_10 : parseMethodDescriptor "([B)I" = some ⟨[(.array .byte)], some .int⟩ := by decide +kernel
theorem pd_11 : parseMethodDescriptor "(III)V" = some ⟨[.int, .int, .int], none⟩ := by decide +kernel
theorem pd_12 : parseMethodDescriptor "(II[B)V" = some ⟨[.int, .int, (.array .byte)], none⟩ := by decide +kernel
theorem pd_13 : parseMethodDescriptor "([BIII)I" = some ⟨[(.array .byte), .int, .int, .int], some .int⟩ := by decide +kernel
theorem pd_14 : parseMethodDescriptor "(II)I" = some ⟨[.int, .int], some .int⟩ := by decide +kernel
theorem pd_15 : parseMethodDescriptor "()Z" = some ⟨[], some .boolean⟩ := by decide +kernel
theorem pd_16 : parseMethodDescriptor "()I" = some ⟨[], some .int⟩ := by decide +kernel
theorem pd_17 : parseMethodDescriptor "(I)Z" = some ⟨[.int], some .boolean⟩ := by decide +kernel
theorem pd_18 : parseMethodDescriptor "(I)C" = some ⟨[.int], some .char⟩ := by decide +kernel
theorem pd_19 : parseMethodDescriptor "(I)[C" = some ⟨[.int], some (.array .char)⟩ := by decide +kernel
theorem pd_20 : parseMethodDescriptor "([C)V" = some ⟨[(.array .char)], none⟩ := by decide +kernel
theorem pd_21 : parseMethodDescriptor "(Ljava/lang/String;)Z" = some ⟨[(.object "java/lang/String")], some .boolean⟩ := by decide +kernel
theorem own_fld {args : Array Value} {s : State} {t : Term} {C n d : String} {a : Addr} {k : Int32} (ht : t.eval args s none [] s = some (.ref a)) (h : (Jvm.Cond.eq (.field t C n d) (.int k)).value args s none s [] = some true) : Fld s s.heap a C n d (.int k) := by
  refine Fld.start ?_
  rw [← fld_at (args := args) (first := s) (o := none) (idx := []) (s := s) (C := C) (n := n) (dd := d) ht]
  obtain ⟨x, y, e1, e2, -, -⟩ := cmp_v (Or.inl h)
  rw [Term.int_eval k] at e2
  obtain rfl : Value.int k = y := Option.some.inj e2
  cases x <;> simp [Jvm.Cond.value, e1, Term.int_eval] at h
  rw [e1, h]
theorem own_eqi {args : Array Value} {s : State} {a : Term} {k : Int32} (h : (Jvm.Cond.eq a (.int k)).value args s none s [] = some true) : a.eval args s none [] s = some (.int k) := by
  obtain ⟨x, y, e1, e2, -, -⟩ := cmp_v (Or.inl h)
  rw [Term.int_eval k] at e2
  obtain rfl : Value.int k = y := Option.some.inj e2
  cases x <;> simp [Jvm.Cond.value, e1, Term.int_eval] at h
  rw [e1, h]
theorem own_len {args : Array Value} {s : State} {t : Term} {a : Addr} {cl : Cell} {n : Int32} (ht : t.eval args s none [] s = some (.ref a)) (ha : s.arrayAt? a = some cl) (h : (Jvm.Cond.eq (.length t) (.int n)).value args s none s [] = some true) : cl.slots.size < 2 ^ 31 ∧ cl.slots.size.toInt32 = n := by
  have e := own_eqi h
  simp [Term.eval, ht, ha] at e
  exact e
theorem own_ne0 {args : Array Value} {s : State} {a : Term} {x k : Int32} (e : a.eval args s none [] s = some (.int x)) (h : (Jvm.Cond.not (.eq a (.int k))).before args s = true) : ¬ x = k := by
  have h1 := not_v (Cond.before_iff.mp h)
  intro q
  subst q
  simp [Jvm.Cond.value, e, Term.int_eval] at h1
theorem own_eqr {args : Array Value} {s : State} {a b : Term} {x : Addr} (eb : b.eval args s none [] s = some (.ref x)) (h : (Jvm.Cond.eq a b).value args s none s [] = some true) : a.eval args s none [] s = some (.ref x) := by
  obtain ⟨u, y, e1, e2, -, -⟩ := cmp_v (Or.inl h)
  rw [eb] at e2
  obtain rfl : Value.ref x = y := Option.some.inj e2
  cases u <;> simp [Jvm.Cond.value, e1, eb] at h
  rw [e1, h]
theorem own_EL {Z : State} {a0 : Array Value} (hw : HW Z a0) : EW Z a0 consts_1 := (EW.cons (hw _ (mo 23 rfl)) (by decide) EW.nil)
set_option maxRecDepth 65536 in
theorem own_SA : ∀ d ∈ Bundle.stringAtoms, d ∈ tables_1 := by decide +kernel
def own_ch (x : Int32) : Int32 := if (((x.toUInt32 >>> ((16 : Int32) &&& 31).toUInt32).toInt32) &&& (1 : Int32)) = (0 : Int32) then nar .char ((x &&& (65535 : Int32)).toUInt32.toUInt16.toUInt32.toInt32) else (65533 : Int32)
theorem own_chr (x : Int32) : 0 ≤ (own_ch x).toInt ∧ (own_ch x).toInt ≤ 65535 := by
  unfold own_ch
  split
  · have e : ∀ y : Int32, nar .char y = y.toUInt32.toUInt16.toUInt32.toInt32 := fun _ => rfl
    have h := c_i2c ((x &&& (65535 : Int32)).toUInt32.toUInt16.toUInt32.toInt32)
    rw [e]
    omega
  · decide
theorem own_nc {y : Int32} (h : 0 ≤ y.toInt ∧ y.toInt ≤ 65535) : nar .char y = y := by
  have e : nar .char y = y.toUInt32.toUInt16.toUInt32.toInt32 := rfl
  have c := c_i2c y
  rw [← Int32.toInt_inj, e]
  omega
theorem own_pair {c : Int32} (h : 0 ≤ c.toInt ∧ c.toInt ≤ 65535) : (nar .char (((((b0 c) &&& (255 : Int32)) <<< ((0 : Int32) &&& 31)) ||| (((b1 c) &&& (255 : Int32)) <<< ((8 : Int32) &&& 31))).toUInt32.toUInt16.toUInt32.toInt32)) = c := by
  unfold b0 b1
  have eb : ∀ y : Int32, nar .byte y = y.toInt8.toInt32 := fun _ => rfl
  have ec : ∀ y : Int32, nar .char y = y.toUInt32.toUInt16.toUInt32.toInt32 := fun _ => rfl
  rw [eb, eb, ec]
  have a0 := c_ishr c 0 0 (by decide)
  have a1 := c_ishr c 8 8 (by decide)
  generalize c >>> ((0 : Int32) &&& 31) = p0 at *
  generalize c >>> ((8 : Int32) &&& 31) = p1 at *
  have b0 := c_i2b p0
  have b1 := c_i2b p1
  generalize p0.toInt8.toInt32 = q0 at *
  generalize p1.toInt8.toInt32 = q1 at *
  have d0 := c_i2b q0
  have d1 := c_i2b q1
  generalize q0.toInt8.toInt32 = r0 at *
  generalize q1.toInt8.toInt32 = r1 at *
  have m0 := c_mask r0 255 8 (by decide) (by decide)
  have m1 := c_mask r1 255 8 (by decide) (by decide)
  generalize r0 &&& (255 : Int32) = u0 at *
  generalize r1 &&& (255 : Int32) = u1 at *
  have s0 := c_ishl u0 0 0 (by decide)
  have s1 := c_ishl u1 8 8 (by decide)
  generalize u0 <<< ((0 : Int32) &&& 31) = w0 at *
  generalize u1 <<< ((8 : Int32) &&& 31) = w1 at *
  have z0 := rng32 w0
  have z1 := rng32 w1
  have k0 : ((2 ^ 0 : Nat) : Int) = 1 := by decide
  have k8 : ((2 ^ 8 : Nat) : Int) = 256 := by decide
  rw [k0] at a0 s0
  rw [k8] at a1 s1 m0 m1
  have hw0 : 0 ≤ w0.toInt ∧ w0.toInt < 256 := by omega
  have hw1 : w1.toInt % 256 = 0 := by omega
  have o := c_or' w0 w1 8 (by decide) 256 (by decide) hw1 hw0.1 hw0.2
  generalize w0 ||| w1 = y at *
  have zy := rng32 y
  have i1 := c_i2c y
  generalize y.toUInt32.toUInt16.toUInt32.toInt32 = y1 at *
  have i2 := c_i2c y1
  rw [← Int32.toInt_inj]
  omega
theorem own_rem5 (x : Int32) : (x &&& (2147483647 : Int32)) % (5 : Int32) = 0 ∨ (x &&& (2147483647 : Int32)) % (5 : Int32) = 1 ∨ (x &&& (2147483647 : Int32)) % (5 : Int32) = 2 ∨ (x &&& (2147483647 : Int32)) % (5 : Int32) = 3 ∨ (x &&& (2147483647 : Int32)) % (5 : Int32) = 4 := by
  have h := c_and x 2147483647 (by decide)
  have r := (c_irem (x &&& (2147483647 : Int32)) 5 5 (by decide)).1 h.1
  have k0 : (0 : Int32).toInt = 0 := by decide
  have k1 : (1 : Int32).toInt = 1 := by decide
  have k2 : (2 : Int32).toInt = 2 := by decide
  have k3 : (3 : Int32).toInt = 3 := by decide
  have k4 : (4 : Int32).toInt = 4 := by decide
  simp only [← Int32.toInt_inj, k0, k1, k2, k3, k4]
  omega
theorem own_small {c : Int32} (h : ¬ (255 : Int32) < c) : ¬ c = (65533 : Int32) := fun e => h (by rw [e]; decide)
def own_k1 (c0 : Int32) : Int32 := (if (255 : Int32) < c0 then (0 : Int32) else (1 : Int32))
def own_i1 (c0 : Int32) : Int32 := (if c0 = (65533 : Int32) then (0 : Int32) else (-1 : Int32))
theorem own_lu1 (c0 : Int32) : (¬ (255 : Int32) < c0) ∨ (((255 : Int32) < c0)) := by
  by_cases h0 : (255 : Int32) < c0
  · exact Or.inr (h0)
  exact Or.inl h0
theorem own_f1 (c0 : Int32) : (if own_i1 c0 < (0 : Int32) then (0 : Int32) else (1 : Int32)) = (if c0 = (65533 : Int32) then (1 : Int32) else (0 : Int32)) := by
  unfold own_i1
  by_cases h0 : c0 = (65533 : Int32)
  · rw [if_pos h0, if_pos h0]; decide
  rw [if_neg h0, if_neg h0]
  decide
theorem own_g1 {c0 : Int32} (h0 : ¬ (255 : Int32) < c0) : (0 : Int32) = (if c0 = (65533 : Int32) then (1 : Int32) else (0 : Int32)) := ((if_neg (own_small h0))).symm
def own_k2 (c0 c1 : Int32) : Int32 := (if (255 : Int32) < c0 then (0 : Int32) else (if (255 : Int32) < c1 then (1 : Int32) else (2 : Int32)))
def own_i2 (c0 c1 : Int32) : Int32 := (if c0 = (65533 : Int32) then (0 : Int32) else (if c1 = (65533 : Int32) then (1 : Int32) else (-1 : Int32)))
theorem own_lu2 (c0 c1 : Int32) : (¬ (255 : Int32) < c0 ∧ ¬ (255 : Int32) < c1) ∨ (((255 : Int32) < c0) ∨ (¬ (255 : Int32) < c0 ∧ (255 : Int32) < c1)) := by
  by_cases h0 : (255 : Int32) < c0
  · exact Or.inr (Or.inl h0)
  by_cases h1 : (255 : Int32) < c1
  · exact Or.inr (Or.inr (⟨h0, h1⟩))
  exact Or.inl ⟨h0, h1⟩
theorem own_f2 (c0 c1 : Int32) : (if own_i2 c0 c1 < (0 : Int32) then (0 : Int32) else (1 : Int32)) = (if c0 = (65533 : Int32) then (1 : Int32) else (if c1 = (65533 : Int32) then (1 : Int32) else (0 : Int32))) := by
  unfold own_i2
  by_cases h0 : c0 = (65533 : Int32)
  · rw [if_pos h0, if_pos h0]; decide
  rw [if_neg h0, if_neg h0]
  by_cases h1 : c1 = (65533 : Int32)
  · rw [if_pos h1, if_pos h1]; decide
  rw [if_neg h1, if_neg h1]
  decide
theorem own_g2 {c0 c1 : Int32} (h0 : ¬ (255 : Int32) < c0) (h1 : ¬ (255 : Int32) < c1) : (0 : Int32) = (if c0 = (65533 : Int32) then (1 : Int32) else (if c1 = (65533 : Int32) then (1 : Int32) else (0 : Int32))) := (((if_neg (own_small h0)).trans (if_neg (own_small h1)))).symm
def own_k3 (c0 c1 c2 : Int32) : Int32 := (if (255 : Int32) < c0 then (0 : Int32) else (if (255 : Int32) < c1 then (1 : Int32) else (if (255 : Int32) < c2 then (2 : Int32) else (3 : Int32))))
def own_i3 (c0 c1 c2 : Int32) : Int32 := (if c0 = (65533 : Int32) then (0 : Int32) else (if c1 = (65533 : Int32) then (1 : Int32) else (if c2 = (65533 : Int32) then (2 : Int32) else (-1 : Int32))))
theorem own_lu3 (c0 c1 c2 : Int32) : (¬ (255 : Int32) < c0 ∧ ¬ (255 : Int32) < c1 ∧ ¬ (255 : Int32) < c2) ∨ (((255 : Int32) < c0) ∨ (¬ (255 : Int32) < c0 ∧ (255 : Int32) < c1) ∨ (¬ (255 : Int32) < c0 ∧ ¬ (255 : Int32) < c1 ∧ (255 : Int32) < c2)) := by
  by_cases h0 : (255 : Int32) < c0
  · exact Or.inr (Or.inl h0)
  by_cases h1 : (255 : Int32) < c1
  · exact Or.inr (Or.inr (Or.inl ⟨h0, h1⟩))
  by_cases h2 : (255 : Int32) < c2
  · exact Or.inr (Or.inr (Or.inr (⟨h0, h1, h2⟩)))
  exact Or.inl ⟨h0, h1, h2⟩
theorem own_f3 (c0 c1 c2 : Int32) : (if own_i3 c0 c1 c2 < (0 : Int32) then (0 : Int32) else (1 : Int32)) = (if c0 = (65533 : Int32) then (1 : Int32) else (if c1 = (65533 : Int32) then (1 : Int32) else (if c2 = (65533 : Int32) then (1 : Int32) else (0 : Int32)))) := by
  unfold own_i3
  by_cases h0 : c0 = (65533 : Int32)
  · rw [if_pos h0, if_pos h0]; decide
  rw [if_neg h0, if_neg h0]
  by_cases h1 : c1 = (65533 : Int32)
  · rw [if_pos h1, if_pos h1]; decide
  rw [if_neg h1, if_neg h1]
  by_cases h2 : c2 = (65533 : Int32)
  · rw [if_pos h2, if_pos h2]; decide
  rw [if_neg h2, if_neg h2]
  decide
theorem own_g3 {c0 c1 c2 : Int32} (h0 : ¬ (255 : Int32) < c0) (h1 : ¬ (255 : Int32) < c1) (h2 : ¬ (255 : Int32) < c2) : (0 : Int32) = (if c0 = (65533 : Int32) then (1 : Int32) else (if c1 = (65533 : Int32) then (1 : Int32) else (if c2 = (65533 : Int32) then (1 : Int32) else (0 : Int32)))) := ((((if_neg (own_small h0)).trans (if_neg (own_small h1))).trans (if_neg (own_small h2)))).symm
def own_k4 (c0 c1 c2 c3 : Int32) : Int32 := (if (255 : Int32) < c0 then (0 : Int32) else (if (255 : Int32) < c1 then (1 : Int32) else (if (255 : Int32) < c2 then (2 : Int32) else (if (255 : Int32) < c3 then (3 : Int32) else (4 : Int32)))))
def own_i4 (c0 c1 c2 c3 : Int32) : Int32 := (if c0 = (65533 : Int32) then (0 : Int32) else (if c1 = (65533 : Int32) then (1 : Int32) else (if c2 = (65533 : Int32) then (2 : Int32) else (if c3 = (65533 : Int32) then (3 : Int32) else (-1 : Int32)))))
theorem own_lu4 (c0 c1 c2 c3 : Int32) : (¬ (255 : Int32) < c0 ∧ ¬ (255 : Int32) < c1 ∧ ¬ (255 : Int32) < c2 ∧ ¬ (255 : Int32) < c3) ∨ (((255 : Int32) < c0) ∨ (¬ (255 : Int32) < c0 ∧ (255 : Int32) < c1) ∨ (¬ (255 : Int32) < c0 ∧ ¬ (255 : Int32) < c1 ∧ (255 : Int32) < c2) ∨ (¬ (255 : Int32) < c0 ∧ ¬ (255 : Int32) < c1 ∧ ¬ (255 : Int32) < c2 ∧ (255 : Int32) < c3)) := by
  by_cases h0 : (255 : Int32) < c0
  · exact Or.inr (Or.inl h0)
  by_cases h1 : (255 : Int32) < c1
  · exact Or.inr (Or.inr (Or.inl ⟨h0, h1⟩))
  by_cases h2 : (255 : Int32) < c2
  · exact Or.inr (Or.inr (Or.inr (Or.inl ⟨h0, h1, h2⟩)))
  by_cases h3 : (255 : Int32) < c3
  · exact Or.inr (Or.inr (Or.inr (Or.inr (⟨h0, h1, h2, h3⟩))))
  exact Or.inl ⟨h0, h1, h2, h3⟩
theorem own_f4 (c0 c1 c2 c3 : Int32) : (if own_i4 c0 c1 c2 c3 < (0 : Int32) then (0 : Int32) else (1 : Int32)) = (if c0 = (65533 : Int32) then (1 : Int32) else (if c1 = (65533 : Int32) then (1 : Int32) else (if c2 = (65533 : Int32) then (1 : Int32) else (if c3 = (65533 : Int32) then (1 : Int32) else (0 : Int32))))) := by
  unfold own_i4
  by_cases h0 : c0 = (65533 : Int32)
  · rw [if_pos h0, if_pos h0]; decide
  rw [if_neg h0, if_neg h0]
  by_cases h1 : c1 = (65533 : Int32)
  · rw [if_pos h1, if_pos h1]; decide
  rw [if_neg h1, if_neg h1]
  by_cases h2 : c2 = (65533 : Int32)
  · rw [if_pos h2, if_pos h2]; decide
  rw [if_neg h2, if_neg h2]
  by_cases h3 : c3 = (65533 : Int32)
  · rw [if_pos h3, if_pos h3]; decide
  rw [if_neg h3, if_neg h3]
  decide
theorem own_g4 {c0 c1 c2 c3 : Int32} (h0 : ¬ (255 : Int32) < c0) (h1 : ¬ (255 : Int32) < c1) (h2 : ¬ (255 : Int32) < c2) (h3 : ¬ (255 : Int32) < c3) : (0 : Int32) = (if c0 = (65533 : Int32) then (1 : Int32) else (if c1 = (65533 : Int32) then (1 : Int32) else (if c2 = (65533 : Int32) then (1 : Int32) else (if c3 = (65533 : Int32) then (1 : Int32) else (0 : Int32))))) := (((((if_neg (own_small h0)).trans (if_neg (own_small h1))).trans (if_neg (own_small h2))).trans (if_neg (own_small h3)))).symm
theorem d1_0 : decode method_2_code 0 = .ok (.iload_n 0, 1) := by decide +kernel
theorem d1_1 : decode method_2_code 1 = .ok (.bipush 16, 2) := by decide +kernel
theorem d1_3 : decode method_2_code 3 = .ok (.iushr, 1) := by decide +kernel
theorem d1_4 : decode method_2_code 4 = .ok (.iconst 1, 1) := by decide +kernel
theorem d1_5 : decode method_2_code 5 = .ok (.iand, 1) := by decide +kernel
theorem d1_6 : decode method_2_code 6 = .ok (.ifCond .eq 6, 3) := by decide +kernel
theorem d1_9 : decode method_2_code 9 = .ok (.ldc 7, 2) := by decide +kernel
theorem d1_11 : decode method_2_code 11 = .ok (.ireturn, 1) := by decide +kernel
theorem d1_12 : decode method_2_code 12 = .ok (.iload_n 0, 1) := by decide +kernel
theorem d1_13 : decode method_2_code 13 = .ok (.ldc 8, 2) := by decide +kernel
theorem d1_15 : decode method_2_code 15 = .ok (.iand, 1) := by decide +kernel
theorem d1_16 : decode method_2_code 16 = .ok (.i2c, 1) := by decide +kernel
theorem d1_17 : decode method_2_code 17 = .ok (.ireturn, 1) := by decide +kernel
theorem pn_1 : plainName "com/example/shelfgraph/shelfgraph/ingest/CommandLineTextHasUndecodedBytesPinLaw" = true := by first | (simp [plainName, overriddenIn]; done) | decide +kernel
theorem ef_ch (m : MethodId) (x1 : Int32) : entryFrame m #[(.int x1)] 1 = mkF m 0 #[vi x1] [] := rfl
def Q_ch (Z : State) (x1 : Int32) (h0 : Heap) (n0 : Nat) (v : Option Value) (h : Heap) (L : List Loc) : Prop := v = some (.int (own_ch x1)) ∧ Fr n0 L ∧ h = h0
theorem ch (l : Launch) (Z : State) (a0 : Array Value) (hw : HW Z a0) (ws : List Jvm.Cond) (x1 : Int32) (h0 : Heap) (n0 : Nat) (Z0 : n0 ≤ h0.size) :
    own_M l yy0 method_2_code 1 (some .char) ws rr0 Z #[(.int x1)] h0 (Q_ch Z x1 h0 n0) := by
  refine own_bd (plainFor_of_name pn_1) fun p e s m below meth c s₁ Bd hx hby hml hown hnm hlk hZ X0 e0 => ?_
  rw [ef_ch m x1]
  refine bN s₁ (mkF m 1 #[vi x1] [(.int x1)]) (fun _ k => XS.iloadN X0.here hx rfl (hb hby d1_0) rfl k) ?_
  refine bN s₁ (mkF m 3 #[vi x1] [(.int (16 : Int32)), (.int x1)]) (fun _ k => XS.bipush X0.here hx rfl (hb hby d1_1) k) ?_
  refine bN s₁ (mkF m 4 #[vi x1] [(.int ((x1.toUInt32 >>> ((16 : Int32) &&& 31).toUInt32).toInt32))]) (fun _ k => XS.iushr X0.here hx rfl (hb hby d1_3) rfl k) ?_
  refine bN s₁ (mkF m 5 #[vi x1] [(.int (1 : Int32)), (.int ((x1.toUInt32 >>> ((16 : Int32) &&& 31).toUInt32).toInt32))]) (fun _ k => XS.iconst X0.here hx rfl (hb hby d1_4) k) ?_
  refine bN s₁ (mkF m 6 #[vi x1] [(.int (((x1.toUInt32 >>> ((16 : Int32) &&& 31).toUInt32).toInt32) &&& (1 : Int32)))]) (fun _ k => XS.iand X0.here hx rfl (hb hby d1_5) rfl k) ?_
  by_cases hc6_21 : (((x1.toUInt32 >>> ((16 : Int32) &&& 31).toUInt32).toInt32) &&& (1 : Int32)) = (0 : Int32)
  · skip
    refine bN s₁ (mkF m 12 #[vi x1] []) (fun _ k => XS.ifYes X0.here hx rfl (pc0 := 6) (pc' := 12) rfl (hb hby d1_6) rfl ((if0 _ _).trans (teq hc6_21).1) (by decide) (by decide) k) ?_
    refine bN s₁ (mkF m 13 #[vi x1] [(.int x1)]) (fun _ k => XS.iloadN X0.here hx rfl (hb hby d1_12) rfl k) ?_
    refine bN s₁ (mkF m 15 #[vi x1] [(.int (65535 : Int32)), (.int x1)]) (fun _ k => ldcI X0 hx hown (mvT hZ (hw _ (mo 5 rfl))) rfl (hb hby d1_13) k) ?_
    refine bN s₁ (mkF m 16 #[vi x1] [(.int (x1 &&& (65535 : Int32)))]) (fun _ k => XS.iand X0.here hx rfl (hb hby d1_15) rfl k) ?_
    refine bN s₁ (mkF m 17 #[vi x1] [(.int ((x1 &&& (65535 : Int32)).toUInt32.toUInt16.toUInt32.toInt32))]) (fun _ k => XS.i2c X0.here hx rfl (hb hby d1_16) rfl k) ?_
    refine own_ret X0 hlk (v := some (.int (nar .char ((x1 &&& (65535 : Int32)).toUInt32.toUInt16.toUInt32.toInt32)))) (nvr Bd.returns) (fun fs hr => retN X0 hx (t := .char) Bd.returns (by simp) (hb hby d1_17) hr) ?_ (by decide) (by decide)
    rw [e0]
    exact ⟨congrArg (fun z => some (Value.int z)) (if_pos hc6_21).symm, (Fr.nil n0), rfl⟩
  · skip
    refine bN s₁ (mkF m 9 #[vi x1] []) (fun _ k => XS.ifNo X0.here hx rfl (hb hby d1_6) rfl ((if0 _ _).trans (feq hc6_21).1) k) ?_
    refine bN s₁ (mkF m 11 #[vi x1] [(.int (65533 : Int32))]) (fun _ k => ldcI X0 hx hown (mvT hZ (hw _ (mo 79 rfl))) rfl (hb hby d1_9) k) ?_
    refine own_ret X0 hlk (v := some (.int (65533 : Int32))) (nvr Bd.returns) (fun fs hr => retN X0 hx (t := .char) Bd.returns (by simp) (hb hby d1_11) hr) ?_ (by decide) (by decide)
    rw [e0]
    exact ⟨congrArg (fun z => some (Value.int z)) (if_neg hc6_21).symm, (Fr.nil n0), rfl⟩
theorem d2_0 : decode method_3_code 0 = .ok (.iload_n 0, 1) := by decide +kernel
theorem d2_1 : decode method_3_code 1 = .ok (.ifCond .ne 7, 3) := by decide +kernel
theorem d2_4 : decode method_3_code 4 = .ok (.iconst 0, 1) := by decide +kernel
theorem d2_5 : decode method_3_code 5 = .ok (.newarray .char, 2) := by decide +kernel
theorem d2_7 : decode method_3_code 7 = .ok (.areturn, 1) := by decide +kernel
theorem pn_2 : plainName "com/example/shelfgraph/shelfgraph/ingest/CommandLineTextHasUndecodedBytesPinLaw" = true := by first | (simp [plainName, overriddenIn]; done) | decide +kernel
theorem ef_mka_0 (m : MethodId)  : entryFrame m #[(ii 0)] 1 = mkF m 0 #[vi 0] [] := rfl
def Q_mka_0 (Z : State)  (h0 : Heap) (n0 : Nat) (v : Option Value) (h : Heap) (L : List Loc) : Prop := ∃ (t : Addr) (kc : ClassId), v = some (.ref t) ∧ Fr n0 L ∧ Keep h0 h [] ∧ h0.size ≤ t ∧ Arv Z h t kc .char (0 : Int32) [] (ii 0)
theorem mka_0 (l : Launch) (Z : State) (a0 : Array Value) (hw : HW Z a0) (ws : List Jvm.Cond)  (h0 : Heap) (n0 : Nat) (Z0 : n0 ≤ h0.size) :
    own_M l yy1 method_3_code 1 (some (.array .char)) ws rr1 Z #[(ii 0)] h0 (Q_mka_0 Z  h0 n0) := by
  refine own_bd (plainFor_of_name pn_2) fun p e s m below meth c s₁ Bd hx hby hml hown hnm hlk hZ X0 e0 => ?_
  rw [ef_mka_0 m ]
  refine bN s₁ (mkF m 1 #[vi 0] [(ii 0)]) (fun _ k => XS.iloadN X0.here hx rfl (hb hby d2_0) rfl k) ?_
  refine bN s₁ (mkF m 4 #[vi 0] []) (fun _ k => XS.ifNo X0.here hx rfl (hb hby d2_1) rfl ((if0 _ _).trans (teq (by decide)).2) k) ?_
  refine bN s₁ (mkF m 5 #[vi 0] [(ii 0)]) (fun _ k => XS.iconst X0.here hx rfl (hb hby d2_4) k) ?_
  obtain ⟨T21, h21, k21, X21, e21, E21, A21, st21⟩ := newP X0 hx hZ (hw _ (mo 9 rfl)) e0 (g := (mkF m 5 #[vi 0] [(ii 0)])) rfl (hb hby d2_5) rfl (by decide) (cap := 0) (by decide) (by decide) (by decide) (by decide)
  obtain ⟨b21, g21⟩ : ∃ z, z = h0.size := ⟨_, rfl⟩
  rw [← g21] at A21 st21
  have V_b21 : Arv Z h21 b21 k21 .char (0 : Int32) [] (ii 0) := Arv.new A21 (by decide)
  have g_b21 : n0 ≤ b21 := Nat.le_trans Z0 (Nat.le_of_eq g21.symm)
  have sz_b21 : h0.size ≤ b21 := Nat.le_trans (Keep.refl h0 []).1 (Nat.le_of_eq g21.symm)
  have K21 : Keep h0 h21 [] := Keep.ext (Keep.refl h0 []) E21
  refine bN T21 (mkF m 7 #[vi 0] [(.ref b21)]) (fun _ k => st21 _ k) ?_
  refine own_ret X21 hlk (v := some (.ref b21)) (nvr Bd.returns) (fun fs hr => retOut X21 hx Bd.returns rfl (Or.inr (Or.inr (Or.inr (Or.inr ⟨rfl, rfl, rfl⟩)))) (hb hby d2_7) hr) ?_ (by decide) (by decide)
  rw [e21]
  exact ⟨_, _, rfl, (Fr.nil n0), K21, sz_b21, V_b21⟩
theorem d2_8 : decode method_3_code 8 = .ok (.iload_n 0, 1) := by decide +kernel
theorem d2_9 : decode method_3_code 9 = .ok (.iconst 1, 1) := by decide +kernel
theorem d2_10 : decode method_3_code 10 = .ok (.if_icmp .ne 7, 3) := by decide +kernel
theorem d2_13 : decode method_3_code 13 = .ok (.iconst 1, 1) := by decide +kernel
theorem d2_14 : decode method_3_code 14 = .ok (.newarray .char, 2) := by decide +kernel
theorem d2_16 : decode method_3_code 16 = .ok (.areturn, 1) := by decide +kernel
theorem ef_mka_1 (m : MethodId)  : entryFrame m #[(.int (1 : Int32))] 1 = mkF m 0 #[vi 1] [] := rfl
def Q_mka_1 (Z : State)  (h0 : Heap) (n0 : Nat) (v : Option Value) (h : Heap) (L : List Loc) : Prop := ∃ (t : Addr) (kc : ClassId), v = some (.ref t) ∧ Fr n0 L ∧ Keep h0 h [] ∧ h0.size ≤ t ∧ Arv Z h t kc .char (1 : Int32) [(ii 0)] (ii 0)
theorem mka_1 (l : Launch) (Z : State) (a0 : Array Value) (hw : HW Z a0) (ws : List Jvm.Cond)  (h0 : Heap) (n0 : Nat) (Z0 : n0 ≤ h0.size) :
    own_M l yy1 method_3_code 1 (some (.array .char)) ws rr2 Z #[(.int (1 : Int32))] h0 (Q_mka_1 Z  h0 n0) := by
  refine own_bd (plainFor_of_name pn_2) fun p e s m below meth c s₁ Bd hx hby hml hown hnm hlk hZ X0 e0 => ?_
  rw [ef_mka_1 m ]
  refine bN s₁ (mkF m 1 #[vi 1] [(.int (1 : Int32))]) (fun _ k => XS.iloadN X0.here hx rfl (hb hby d2_0) rfl k) ?_
  refine bN s₁ (mkF m 8 #[vi 1] []) (fun _ k => XS.ifYes X0.here hx rfl (pc0 := 1) (pc' := 8) rfl (hb hby d2_1) rfl ((if0 _ _).trans (feq (by decide)).2) (by decide) (by decide) k) ?_
  refine bN s₁ (mkF m 9 #[vi 1] [(.int (1 : Int32))]) (fun _ k => XS.iloadN X0.here hx rfl (hb hby d2_8) rfl k) ?_
  refine bN s₁ (mkF m 10 #[vi 1] [(.int (1 : Int32)), (.int (1 : Int32))]) (fun _ k => XS.iconst X0.here hx rfl (hb hby d2_9) k) ?_
  refine bN s₁ (mkF m 13 #[vi 1] []) (fun _ k => XS.icmpNo X0.here hx rfl (hb hby d2_10) rfl (teq (by decide)).2 k) ?_
  refine bN s₁ (mkF m 14 #[vi 1] [(.int (1 : Int32))]) (fun _ k => XS.iconst X0.here hx rfl (hb hby d2_13) k) ?_
  obtain ⟨T21, h21, k21, X21, e21, E21, A21, st21⟩ := newP X0 hx hZ (hw _ (mo 9 rfl)) e0 (g := (mkF m 14 #[vi 1] [(.int (1 : Int32))])) rfl (hb hby d2_14) rfl (by decide) (cap := 1) (by decide) (by decide) (by decide) (by decide)
  obtain ⟨b21, g21⟩ : ∃ z, z = h0.size := ⟨_, rfl⟩
  rw [← g21] at A21 st21
  have V_b21 : Arv Z h21 b21 k21 .char (1 : Int32) [(ii 0)] (ii 0) := (Arv.new A21 (by decide)).pad (pad_rep [] (ii 0) 1)
  have g_b21 : n0 ≤ b21 := Nat.le_trans Z0 (Nat.le_of_eq g21.symm)
  have sz_b21 : h0.size ≤ b21 := Nat.le_trans (Keep.refl h0 []).1 (Nat.le_of_eq g21.symm)
  have K21 : Keep h0 h21 [] := Keep.ext (Keep.refl h0 []) E21
  refine bN T21 (mkF m 16 #[vi 1] [(.ref b21)]) (fun _ k => st21 _ k) ?_
  refine own_ret X21 hlk (v := some (.ref b21)) (nvr Bd.returns) (fun fs hr => retOut X21 hx Bd.returns rfl (Or.inr (Or.inr (Or.inr (Or.inr ⟨rfl, rfl, rfl⟩)))) (hb hby d2_16) hr) ?_ (by decide) (by decide)
  rw [e21]
  exact ⟨_, _, rfl, (Fr.nil n0), K21, sz_b21, V_b21⟩
theorem d2_17 : decode method_3_code 17 = .ok (.iload_n 0, 1) := by decide +kernel
theorem d2_18 : decode method_3_code 18 = .ok (.iconst 2, 1) := by decide +kernel
theorem d2_19 : decode method_3_code 19 = .ok (.if_icmp .ne 7, 3) := by decide +kernel
theorem d2_22 : decode method_3_code 22 = .ok (.iconst 2, 1) := by decide +kernel
theorem d2_23 : decode method_3_code 23 = .ok (.newarray .char, 2) := by decide +kernel
theorem d2_25 : decode method_3_code 25 = .ok (.areturn, 1) := by decide +kernel
theorem ef_mka_2 (m : MethodId)  : entryFrame m #[(.int (2 : Int32))] 1 = mkF m 0 #[vi 2] [] := rfl
def Q_mka_2 (Z : State)  (h0 : Heap) (n0 : Nat) (v : Option Value) (h : Heap) (L : List Loc) : Prop := ∃ (t : Addr) (kc : ClassId), v = some (.ref t) ∧ Fr n0 L ∧ Keep h0 h [] ∧ h0.size ≤ t ∧ Arv Z h t kc .char (2 : Int32) [(ii 0), (ii 0)] (ii 0)
theorem mka_2 (l : Launch) (Z : State) (a0 : Array Value) (hw : HW Z a0) (ws : List Jvm.Cond)  (h0 : Heap) (n0 : Nat) (Z0 : n0 ≤ h0.size) :
    own_M l yy1 method_3_code 1 (some (.array .char)) ws rr3 Z #[(.int (2 : Int32))] h0 (Q_mka_2 Z  h0 n0) := by
  refine own_bd (plainFor_of_name pn_2) fun p e s m below meth c s₁ Bd hx hby hml hown hnm hlk hZ X0 e0 => ?_
  rw [ef_mka_2 m ]
  refine bN s₁ (mkF m 1 #[vi 2] [(.int (2 : Int32))]) (fun _ k => XS.iloadN X0.here hx rfl (hb hby d2_0) rfl k) ?_
  refine bN s₁ (mkF m 8 #[vi 2] []) (fun _ k => XS.ifYes X0.here hx rfl (pc0 := 1) (pc' := 8) rfl (hb hby d2_1) rfl ((if0 _ _).trans (feq (by decide)).2) (by decide) (by decide) k) ?_
  refine bN s₁ (mkF m 9 #[vi 2] [(.int (2 : Int32))]) (fun _ k => XS.iloadN X0.here hx rfl (hb hby d2_8) rfl k) ?_
  refine bN s₁ (mkF m 10 #[vi 2] [(.int (1 : Int32)), (.int (2 : Int32))]) (fun _ k => XS.iconst X0.here hx rfl (hb hby d2_9) k) ?_
  refine bN s₁ (mkF m 17 #[vi 2] []) (fun _ k => XS.icmpYes X0.here hx rfl (pc0 := 10) (pc' := 17) rfl (hb hby d2_10) rfl (feq (by decide)).2 (by decide) (by decide) k) ?_
  refine bN s₁ (mkF m 18 #[vi 2] [(.int (2 : Int32))]) (fun _ k => XS.iloadN X0.here hx rfl (hb hby d2_17) rfl k) ?_
  refine bN s₁ (mkF m 19 #[vi 2] [(.int (2 : Int32)), (.int (2 : Int32))]) (fun _ k => XS.iconst X0.here hx rfl (hb hby d2_18) k) ?_
  refine bN s₁ (mkF m 22 #[vi 2] []) (fun _ k => XS.icmpNo X0.here hx rfl (hb hby d2_19) rfl (teq (by decide)).2 k) ?_
  refine bN s₁ (mkF m 23 #[vi 2] [(.int (2 : Int32))]) (fun _ k => XS.iconst X0.here hx rfl (hb hby d2_22) k) ?_
  obtain ⟨T21, h21, k21, X21, e21, E21, A21, st21⟩ := newP X0 hx hZ (hw _ (mo 9 rfl)) e0 (g := (mkF m 23 #[vi 2] [(.int (2 : Int32))])) rfl (hb hby d2_23) rfl (by decide) (cap := 2) (by decide) (by decide) (by decide) (by decide)
  obtain ⟨b21, g21⟩ : ∃ z, z = h0.size := ⟨_, rfl⟩
  rw [← g21] at A21 st21
  have V_b21 : Arv Z h21 b21 k21 .char (2 : Int32) [(ii 0), (ii 0)] (ii 0) := (Arv.new A21 (by decide)).pad (pad_rep [] (ii 0) 2)
  have g_b21 : n0 ≤ b21 := Nat.le_trans Z0 (Nat.le_of_eq g21.symm)
  have sz_b21 : h0.size ≤ b21 := Nat.le_trans (Keep.refl h0 []).1 (Nat.le_of_eq g21.symm)
  have K21 : Keep h0 h21 [] := Keep.ext (Keep.refl h0 []) E21
  refine bN T21 (mkF m 25 #[vi 2] [(.ref b21)]) (fun _ k => st21 _ k) ?_
  refine own_ret X21 hlk (v := some (.ref b21)) (nvr Bd.returns) (fun fs hr => retOut X21 hx Bd.returns rfl (Or.inr (Or.inr (Or.inr (Or.inr ⟨rfl, rfl, rfl⟩)))) (hb hby d2_25) hr) ?_ (by decide) (by decide)
  rw [e21]
  exact ⟨_, _, rfl, (Fr.nil n0), K21, sz_b21, V_b21⟩
theorem d2_26 : decode method_3_code 26 = .ok (.iload_n 0, 1) := by decide +kernel
theorem d2_27 : decode method_3_code 27 = .ok (.iconst 3, 1) := by decide +kernel
theorem d2_28 : decode method_3_code 28 = .ok (.if_icmp .ne 7, 3) := by decide +kernel
theorem d2_31 : decode method_3_code 31 = .ok (.iconst 3, 1) := by decide +kernel
theorem d2_32 : decode method_3_code 32 = .ok (.newarray .char, 2) := by decide +kernel
theorem d2_34 : decode method_3_code 34 = .ok (.areturn, 1) := by decide +kernel
theorem ef_mka_3 (m : MethodId)  : entryFrame m #[(.int (3 : Int32))] 1 = mkF m 0 #[vi 3] [] := rfl
def Q_mka_3 (Z : State)  (h0 : Heap) (n0 : Nat) (v : Option Value) (h : Heap) (L : List Loc) : Prop := ∃ (t : Addr) (kc : ClassId), v = some (.ref t) ∧ Fr n0 L ∧ Keep h0 h [] ∧ h0.size ≤ t ∧ Arv Z h t kc .char (3 : Int32) [(ii 0), (ii 0), (ii 0)] (ii 0)
theorem mka_3 (l : Launch) (Z : State) (a0 : Array Value) (hw : HW Z a0) (ws : List Jvm.Cond)  (h0 : Heap) (n0 : Nat) (Z0 : n0 ≤ h0.size) :
    own_M l yy1 method_3_code 1 (some (.array .char)) ws rr4 Z #[(.int (3 : Int32))] h0 (Q_mka_3 Z  h0 n0) := by
  refine own_bd (plainFor_of_name pn_2) fun p e s m below meth c s₁ Bd hx hby hml hown hnm hlk hZ X0 e0 => ?_
  rw [ef_mka_3 m ]
  refine bN s₁ (mkF m 1 #[vi 3] [(.int (3 : Int32))]) (fun _ k => XS.iloadN X0.here hx rfl (hb hby d2_0) rfl k) ?_
  refine bN s₁ (mkF m 8 #[vi 3] []) (fun _ k => XS.ifYes X0.here hx rfl (pc0 := 1) (pc' := 8) rfl (hb hby d2_1) rfl ((if0 _ _).trans (feq (by decide)).2) (by decide) (by decide) k) ?_
  refine bN s₁ (mkF m 9 #[vi 3] [(.int (3 : Int32))]) (fun _ k => XS.iloadN X0.here hx rfl (hb hby d2_8) rfl k) ?_
  refine bN s₁ (mkF m 10 #[vi 3] [(.int (1 : Int32)), (.int (3 : Int32))]) (fun _ k => XS.iconst X0.here hx rfl (hb hby d2_9) k) ?_
  refine bN s₁ (mkF m 17 #[vi 3] []) (fun _ k => XS.icmpYes X0.here hx rfl (pc0 := 10) (pc' := 17) rfl (hb hby d2_10) rfl (feq (by decide)).2 (by decide) (by decide) k) ?_
  refine bN s₁ (mkF m 18 #[vi 3] [(.int (3 : Int32))]) (fun _ k => XS.iloadN X0.here hx rfl (hb hby d2_17) rfl k) ?_
  refine bN s₁ (mkF m 19 #[vi 3] [(.int (2 : Int32)), (.int (3 : Int32))]) (fun _ k => XS.iconst X0.here hx rfl (hb hby d2_18) k) ?_
  refine bN s₁ (mkF m 26 #[vi 3] []) (fun _ k => XS.icmpYes X0.here hx rfl (pc0 := 19) (pc' := 26) rfl (hb hby d2_19) rfl (feq (by decide)).2 (by decide) (by decide) k) ?_
  refine bN s₁ (mkF m 27 #[vi 3] [(.int (3 : Int32))]) (fun _ k => XS.iloadN X0.here hx rfl (hb hby d2_26) rfl k) ?_
  refine bN s₁ (mkF m 28 #[vi 3] [(.int (3 : Int32)), (.int (3 : Int32))]) (fun _ k => XS.iconst X0.here hx rfl (hb hby d2_27) k) ?_
  refine bN s₁ (mkF m 31 #[vi 3] []) (fun _ k => XS.icmpNo X0.here hx rfl (hb hby d2_28) rfl (teq (by decide)).2 k) ?_
  refine bN s₁ (mkF m 32 #[vi 3] [(.int (3 : Int32))]) (fun _ k => XS.iconst X0.here hx rfl (hb hby d2_31) k) ?_
  obtain ⟨T21, h21, k21, X21, e21, E21, A21, st21⟩ := newP X0 hx hZ (hw _ (mo 9 rfl)) e0 (g := (mkF m 32 #[vi 3] [(.int (3 : Int32))])) rfl (hb hby d2_32) rfl (by decide) (cap := 3) (by decide) (by decide) (by decide) (by decide)
  obtain ⟨b21, g21⟩ : ∃ z, z = h0.size := ⟨_, rfl⟩
  rw [← g21] at A21 st21
  have V_b21 : Arv Z h21 b21 k21 .char (3 : Int32) [(ii 0), (ii 0), (ii 0)] (ii 0) := (Arv.new A21 (by decide)).pad (pad_rep [] (ii 0) 3)
  have g_b21 : n0 ≤ b21 := Nat.le_trans Z0 (Nat.le_of_eq g21.symm)
  have sz_b21 : h0.size ≤ b21 := Nat.le_trans (Keep.refl h0 []).1 (Nat.le_of_eq g21.symm)
  have K21 : Keep h0 h21 [] := Keep.ext (Keep.refl h0 []) E21
  refine bN T21 (mkF m 34 #[vi 3] [(.ref b21)]) (fun _ k => st21 _ k) ?_
  refine own_ret X21 hlk (v := some (.ref b21)) (nvr Bd.returns) (fun fs hr => retOut X21 hx Bd.returns rfl (Or.inr (Or.inr (Or.inr (Or.inr ⟨rfl, rfl, rfl⟩)))) (hb hby d2_34) hr) ?_ (by decide) (by decide)
  rw [e21]
  exact ⟨_, _, rfl, (Fr.nil n0), K21, sz_b21, V_b21⟩
theorem d2_35 : decode method_3_code 35 = .ok (.iconst 4, 1) := by decide +kernel
theorem d2_36 : decode method_3_code 36 = .ok (.newarray .char, 2) := by decide +kernel
theorem d2_38 : decode method_3_code 38 = .ok (.areturn, 1) := by decide +kernel
theorem ef_mka_4 (m : MethodId)  : entryFrame m #[(.int (4 : Int32))] 1 = mkF m 0 #[vi 4] [] := rfl
def Q_mka_4 (Z : State)  (h0 : Heap) (n0 : Nat) (v : Option Value) (h : Heap) (L : List Loc) : Prop := ∃ (t : Addr) (kc : ClassId), v = some (.ref t) ∧ Fr n0 L ∧ Keep h0 h [] ∧ h0.size ≤ t ∧ Arv Z h t kc .char (4 : Int32) [(ii 0), (ii 0), (ii 0), (ii 0)] (ii 0)
theorem mka_4 (l : Launch) (Z : State) (a0 : Array Value) (hw : HW Z a0) (ws : List Jvm.Cond)  (h0 : Heap) (n0 : Nat) (Z0 : n0 ≤ h0.size) :
    own_M l yy1 method_3_code 1 (some (.array .char)) ws rr5 Z #[(.int (4 : Int32))] h0 (Q_mka_4 Z  h0 n0) := by
  refine own_bd (plainFor_of_name pn_2) fun p e s m below meth c s₁ Bd hx hby hml hown hnm hlk hZ X0 e0 => ?_
  rw [ef_mka_4 m ]
  refine bN s₁ (mkF m 1 #[vi 4] [(.int (4 : Int32))]) (fun _ k => XS.iloadN X0.here hx rfl (hb hby d2_0) rfl k) ?_
  refine bN s₁ (mkF m 8 #[vi 4] []) (fun _ k => XS.ifYes X0.here hx rfl (pc0 := 1) (pc' := 8) rfl (hb hby d2_1) rfl ((if0 _ _).trans (feq (by decide)).2) (by decide) (by decide) k) ?_
  refine bN s₁ (mkF m 9 #[vi 4] [(.int (4 : Int32))]) (fun _ k => XS.iloadN X0.here hx rfl (hb hby d2_8) rfl k) ?_
  refine bN s₁ (mkF m 10 #[vi 4] [(.int (1 : Int32)), (.int (4 : Int32))]) (fun _ k => XS.iconst X0.here hx rfl (hb hby d2_9) k) ?_
  refine bN s₁ (mkF m 17 #[vi 4] []) (fun _ k => XS.icmpYes X0.here hx rfl (pc0 := 10) (pc' := 17) rfl (hb hby d2_10) rfl (feq (by decide)).2 (by decide) (by decide) k) ?_
  refine bN s₁ (mkF m 18 #[vi 4] [(.int (4 : Int32))]) (fun _ k => XS.iloadN X0.here hx rfl (hb hby d2_17) rfl k) ?_
  refine bN s₁ (mkF m 19 #[vi 4] [(.int (2 : Int32)), (.int (4 : Int32))]) (fun _ k => XS.iconst X0.here hx rfl (hb hby d2_18) k) ?_
  refine bN s₁ (mkF m 26 #[vi 4] []) (fun _ k => XS.icmpYes X0.here hx rfl (pc0 := 19) (pc' := 26) rfl (hb hby d2_19) rfl (feq (by decide)).2 (by decide) (by decide) k) ?_
  refine bN s₁ (mkF m 27 #[vi 4] [(.int (4 : Int32))]) (fun _ k => XS.iloadN X0.here hx rfl (hb hby d2_26) rfl k) ?_
  refine bN s₁ (mkF m 28 #[vi 4] [(.int (3 : Int32)), (.int (4 : Int32))]) (fun _ k => XS.iconst X0.here hx rfl (hb hby d2_27) k) ?_
  refine bN s₁ (mkF m 35 #[vi 4] []) (fun _ k => XS.icmpYes X0.here hx rfl (pc0 := 28) (pc' := 35) rfl (hb hby d2_28) rfl (feq (by decide)).2 (by decide) (by decide) k) ?_
  refine bN s₁ (mkF m 36 #[vi 4] [(.int (4 : Int32))]) (fun _ k => XS.iconst X0.here hx rfl (hb hby d2_35) k) ?_
  obtain ⟨T21, h21, k21, X21, e21, E21, A21, st21⟩ := newP X0 hx hZ (hw _ (mo 9 rfl)) e0 (g := (mkF m 36 #[vi 4] [(.int (4 : Int32))])) rfl (hb hby d2_36) rfl (by decide) (cap := 4) (by decide) (by decide) (by decide) (by decide)
  obtain ⟨b21, g21⟩ : ∃ z, z = h0.size := ⟨_, rfl⟩
  rw [← g21] at A21 st21
  have V_b21 : Arv Z h21 b21 k21 .char (4 : Int32) [(ii 0), (ii 0), (ii 0), (ii 0)] (ii 0) := (Arv.new A21 (by decide)).pad (pad_rep [] (ii 0) 4)
  have g_b21 : n0 ≤ b21 := Nat.le_trans Z0 (Nat.le_of_eq g21.symm)
  have sz_b21 : h0.size ≤ b21 := Nat.le_trans (Keep.refl h0 []).1 (Nat.le_of_eq g21.symm)
  have K21 : Keep h0 h21 [] := Keep.ext (Keep.refl h0 []) E21
  refine bN T21 (mkF m 38 #[vi 4] [(.ref b21)]) (fun _ k => st21 _ k) ?_
  refine own_ret X21 hlk (v := some (.ref b21)) (nvr Bd.returns) (fun fs hr => retOut X21 hx Bd.returns rfl (Or.inr (Or.inr (Or.inr (Or.inr ⟨rfl, rfl, rfl⟩)))) (hb hby d2_38) hr) ?_ (by decide) (by decide)
  rw [e21]
  exact ⟨_, _, rfl, (Fr.nil n0), K21, sz_b21, V_b21⟩
theorem d15_0 : decode jdk_52_method_21_code 0 = .ok (.iconst 0, 1) := by decide +kernel
theorem d15_1 : decode jdk_52_method_21_code 1 = .ok (.istore 5, 2) := by decide +kernel
theorem d15_3 : decode jdk_52_method_21_code 3 = .ok (.iload 5, 2) := by decide +kernel
theorem d15_5 : decode jdk_52_method_21_code 5 = .ok (.iload 4, 2) := by decide +kernel
theorem d15_7 : decode jdk_52_method_21_code 7 = .ok (.if_icmp .ge 37, 3) := by decide +kernel
theorem d15_10 : decode jdk_52_method_21_code 10 = .ok (.aload_n 0, 1) := by decide +kernel
theorem d15_11 : decode jdk_52_method_21_code 11 = .ok (.iload_n 1, 1) := by decide +kernel
theorem d15_12 : decode jdk_52_method_21_code 12 = .ok (.caload, 1) := by decide +kernel
theorem d15_13 : decode jdk_52_method_21_code 13 = .ok (.istore 6, 2) := by decide +kernel
theorem d15_15 : decode jdk_52_method_21_code 15 = .ok (.iload 6, 2) := by decide +kernel
theorem d15_17 : decode jdk_52_method_21_code 17 = .ok (.sipush 255, 3) := by decide +kernel
theorem d15_20 : decode jdk_52_method_21_code 20 = .ok (.if_icmp .le 6, 3) := by decide +kernel
theorem d15_23 : decode jdk_52_method_21_code 23 = .ok (.iload 5, 2) := by decide +kernel
theorem d15_25 : decode jdk_52_method_21_code 25 = .ok (.ireturn, 1) := by decide +kernel
theorem d15_26 : decode jdk_52_method_21_code 26 = .ok (.aload_n 2, 1) := by decide +kernel
theorem d15_27 : decode jdk_52_method_21_code 27 = .ok (.iload_n 3, 1) := by decide +kernel
theorem d15_28 : decode jdk_52_method_21_code 28 = .ok (.iload 6, 2) := by decide +kernel
theorem d15_30 : decode jdk_52_method_21_code 30 = .ok (.i2b, 1) := by decide +kernel
theorem d15_31 : decode jdk_52_method_21_code 31 = .ok (.bastore, 1) := by decide +kernel
theorem d15_32 : decode jdk_52_method_21_code 32 = .ok (.iinc 1 1, 3) := by decide +kernel
theorem d15_35 : decode jdk_52_method_21_code 35 = .ok (.iinc 3 1, 3) := by decide +kernel
theorem d15_38 : decode jdk_52_method_21_code 38 = .ok (.iinc 5 1, 3) := by decide +kernel
theorem d15_41 : decode jdk_52_method_21_code 41 = .ok (.goto (-38), 3) := by decide +kernel
theorem d15_44 : decode jdk_52_method_21_code 44 = .ok (.iload 4, 2) := by decide +kernel
theorem d15_46 : decode jdk_52_method_21_code 46 = .ok (.ireturn, 1) := by decide +kernel
theorem pn_15 : plainName "java/lang/StringUTF16" = true := by first | (simp [plainName, overriddenIn]; done) | decide +kernel
theorem ef_cmpk_1 (m : MethodId) (ca ba : Addr) : entryFrame m #[(.ref ca), (ii 0), (.ref ba), (ii 0), (.int (1 : Int32))] 7 = mkF m 0 #[vr ca, vi 0, vr ba, vi 0, vi 1, uu, uu] [] := rfl
def Q_cmpk_1 (Z : State) (ca ba : Addr) (kc kb : ClassId) (c0 : Int32) (h0 : Heap) (n0 : Nat) (v : Option Value) (h : Heap) (L : List Loc) : Prop := v = some (.int (own_k1 c0)) ∧ Fr n0 L ∧ Keep h0 h [ba] ∧ ((¬ (255 : Int32) < c0) → Arv Z h ba kb .byte (1 : Int32) [(.int (nar .byte (c0.toInt8.toInt32)))] (ii 0))
theorem cmpk_1 (l : Launch) (Z : State) (a0 : Array Value) (hw : HW Z a0) (ws : List Jvm.Cond) (ca ba : Addr) (kc kb : ClassId) (c0 : Int32) (h0 : Heap) (n0 : Nat) (Z0 : n0 ≤ h0.size) (V_ca : Arv Z h0 ca kc .char (1 : Int32) [(.int c0)] (ii 0)) (V_ba : Arv Z h0 ba kb .byte (1 : Int32) [(ii 0)] (ii 0)) (g_ba : n0 ≤ ba) (neab : ca ≠ ba) :
    own_M l yy2 jdk_52_method_21_code 7 (some .int) ws rr0 Z #[(.ref ca), (ii 0), (.ref ba), (ii 0), (.int (1 : Int32))] h0 (Q_cmpk_1 Z ca ba kc kb c0 h0 n0) := by
  refine own_bd (plainFor_of_name pn_15) fun p e s m below meth c s₁ Bd hx hby hml hown hnm hlk hZ X0 e0 => ?_
  rw [ef_cmpk_1 m ca ba]
  refine bN s₁ (mkF m 1 #[vr ca, vi 0, vr ba, vi 0, vi 1, uu, uu] [(ii 0)]) (fun _ k => XS.iconst X0.here hx rfl (hb hby d15_0) k) ?_
  refine bN s₁ (mkF m 3 #[vr ca, vi 0, vr ba, vi 0, vi 1, vi 0, uu] []) (fun _ k => XS.istore X0.here hx rfl (hb hby d15_1) rfl rfl k) ?_
  refine bN s₁ (mkF m 5 #[vr ca, vi 0, vr ba, vi 0, vi 1, vi 0, uu] [(ii 0)]) (fun _ k => XS.iload X0.here hx rfl (hb hby d15_3) rfl k) ?_
  refine bN s₁ (mkF m 7 #[vr ca, vi 0, vr ba, vi 0, vi 1, vi 0, uu] [(.int (1 : Int32)), (ii 0)]) (fun _ k => XS.iload X0.here hx rfl (hb hby d15_5) rfl k) ?_
  refine bN s₁ (mkF m 10 #[vr ca, vi 0, vr ba, vi 0, vi 1, vi 0, uu] []) (fun _ k => XS.icmpNo X0.here hx rfl (hb hby d15_7) rfl (tlt (by decide)).2.1 k) ?_
  refine bN s₁ (mkF m 11 #[vr ca, vi 0, vr ba, vi 0, vi 1, vi 0, uu] [(.ref ca)]) (fun _ k => XS.aloadN X0.here hx rfl (hb hby d15_10) rfl rfl k) ?_
  refine bN s₁ (mkF m 12 #[vr ca, vi 0, vr ba, vi 0, vi 1, vi 0, uu] [(ii 0), (.ref ca)]) (fun _ k => XS.iloadN X0.here hx rfl (hb hby d15_11) rfl k) ?_
  obtain ⟨cl21, Ar21, q21, S21, N_21, H21, G21⟩ := id V_ca
  have hin21 : ¬ ((0 : Int32) < 0 ∨ cl21.slots.size ≤ ((0 : Int32)).toNatClampNeg) := inb_of S21 ⟨by decide, by decide⟩
  refine bN s₁ (mkF m 13 #[vr ca, vi 0, vr ba, vi 0, vi 1, vi 0, uu] [(.int c0)]) (fun _ k => X0.caload hx (j := (0 : Int32)) (v := (.int c0)) (by rw [e0]; exact Ar21.1) (State.isArrayOf_alike hZ.alike Ar21.2.1) Ar21.2.2 hin21 (Has.at H21 hin21 rfl) (g := (mkF m 12 #[vr ca, vi 0, vr ba, vi 0, vi 1, vi 0, uu] [(ii 0), (.ref ca)])) rfl rfl (hb hby d15_12) _ k) ?_
  refine bN s₁ (mkF m 15 #[vr ca, vi 0, vr ba, vi 0, vi 1, vi 0, vi c0] []) (fun _ k => XS.istore X0.here hx rfl (hb hby d15_13) rfl rfl k) ?_
  refine bN s₁ (mkF m 17 #[vr ca, vi 0, vr ba, vi 0, vi 1, vi 0, vi c0] [(.int c0)]) (fun _ k => XS.iload X0.here hx rfl (hb hby d15_15) rfl k) ?_
  refine bN s₁ (mkF m 20 #[vr ca, vi 0, vr ba, vi 0, vi 1, vi 0, vi c0] [(.int (255 : Int32)), (.int c0)]) (fun _ k => XS.sipush X0.here hx rfl (hb hby d15_17) k) ?_
  by_cases hc20_22 : (255 : Int32) < c0
  · skip
    refine bN s₁ (mkF m 23 #[vr ca, vi 0, vr ba, vi 0, vi 1, vi 0, vi c0] []) (fun _ k => XS.icmpNo X0.here hx rfl (hb hby d15_20) rfl (tlt hc20_22).2.2.2 k) ?_
    refine bN s₁ (mkF m 25 #[vr ca, vi 0, vr ba, vi 0, vi 1, vi 0, vi c0] [(ii 0)]) (fun _ k => XS.iload X0.here hx rfl (hb hby d15_23) rfl k) ?_
    refine own_ret X0 hlk (v := some (ii 0)) (nvr Bd.returns) (fun fs hr => retI X0 hx Bd.returns (hb hby d15_25) hr) ?_ (by decide) (by decide)
    rw [e0]
    exact ⟨congrArg (fun z => some (Value.int z)) (if_pos hc20_22).symm, (Fr.nil n0), (Keep.refl h0 [ba]), fun q => absurd hc20_22 q⟩
  · skip
    refine bN s₁ (mkF m 26 #[vr ca, vi 0, vr ba, vi 0, vi 1, vi 0, vi c0] []) (fun _ k => XS.icmpYes X0.here hx rfl (pc0 := 20) (pc' := 26) rfl (hb hby d15_20) rfl (flt hc20_22).2.2.2 (by decide) (by decide) k) ?_
    refine bN s₁ (mkF m 27 #[vr ca, vi 0, vr ba, vi 0, vi 1, vi 0, vi c0] [(.ref ba)]) (fun _ k => XS.aloadN X0.here hx rfl (hb hby d15_26) rfl rfl k) ?_
    refine bN s₁ (mkF m 28 #[vr ca, vi 0, vr ba, vi 0, vi 1, vi 0, vi c0] [(ii 0), (.ref ba)]) (fun _ k => XS.iloadN X0.here hx rfl (hb hby d15_27) rfl k) ?_
    refine bN s₁ (mkF m 30 #[vr ca, vi 0, vr ba, vi 0, vi 1, vi 0, vi c0] [(.int c0), (ii 0), (.ref ba)]) (fun _ k => XS.iload X0.here hx rfl (hb hby d15_28) rfl k) ?_
    refine bN s₁ (mkF m 31 #[vr ca, vi 0, vr ba, vi 0, vi 1, vi 0, vi c0] [(.int (c0.toInt8.toInt32)), (ii 0), (.ref ba)]) (fun _ k => XS.i2b X0.here hx rfl (hb hby d15_30) rfl k) ?_
    obtain ⟨cl23, Ar23, q23, S23, N_23, H23, G23⟩ := id V_ba
    have hin23 : ¬ ((0 : Int32) < 0 ∨ cl23.slots.size ≤ ((0 : Int32)).toNatClampNeg) := inb_of S23 ⟨by decide, by decide⟩
    obtain ⟨T24, h24, X24, e24, W24, st24⟩ := stB X0 hx hZ e0 Ar23 (j := (0 : Int32)) hin23 (g := (mkF m 31 #[vr ca, vi 0, vr ba, vi 0, vi 1, vi 0, vi c0] [(.int (c0.toInt8.toInt32)), (ii 0), (.ref ba)])) rfl rfl (hb hby d15_31)
    have V24 : Arv Z h24 ba kb .byte (1 : Int32) [(.int (nar .byte (c0.toInt8.toInt32)))] (ii 0) := Arv.set Ar23 q23 S23 N_23 H23 G23 (fits_nar_byte _) W24 0 rfl (Nat.le_of_ble_eq_true rfl)
    have K24 : Keep h0 h24 [ba] := Keep.wr (Keep.refl h0 [ba]) W24 (Or.inl (mo 0 rfl))
    have N24 := Fr.snoc X24 (Fr.nil n0) g_ba
    refine bN T24 (mkF m 32 #[vr ca, vi 0, vr ba, vi 0, vi 1, vi 0, vi c0] []) (fun _ k => st24 _ k) ?_
    refine bN T24 (mkF m 35 #[vr ca, vi 1, vr ba, vi 0, vi 1, vi 0, vi c0] []) (fun _ k => XS.iinc X24.here hx rfl (hb hby d15_32) rfl rfl k) ?_
    refine bN T24 (mkF m 38 #[vr ca, vi 1, vr ba, vi 1, vi 1, vi 0, vi c0] []) (fun _ k => XS.iinc X24.here hx rfl (hb hby d15_35) rfl rfl k) ?_
    refine bN T24 (mkF m 41 #[vr ca, vi 1, vr ba, vi 1, vi 1, vi 1, vi c0] []) (fun _ k => XS.iinc X24.here hx rfl (hb hby d15_38) rfl rfl k) ?_
    refine bN T24 (mkF m 3 #[vr ca, vi 1, vr ba, vi 1, vi 1, vi 1, vi c0] []) (fun _ k => XS.goto X24.here hx rfl (pc0 := 41) (pc' := 3) rfl (hb hby d15_41) (by decide) (by decide) k) ?_
    refine bN T24 (mkF m 5 #[vr ca, vi 1, vr ba, vi 1, vi 1, vi 1, vi c0] [(.int (1 : Int32))]) (fun _ k => XS.iload X24.here hx rfl (hb hby d15_3) rfl k) ?_
    refine bN T24 (mkF m 7 #[vr ca, vi 1, vr ba, vi 1, vi 1, vi 1, vi c0] [(.int (1 : Int32)), (.int (1 : Int32))]) (fun _ k => XS.iload X24.here hx rfl (hb hby d15_5) rfl k) ?_
    refine bN T24 (mkF m 44 #[vr ca, vi 1, vr ba, vi 1, vi 1, vi 1, vi c0] []) (fun _ k => XS.icmpYes X24.here hx rfl (pc0 := 7) (pc' := 44) rfl (hb hby d15_7) rfl (flt (by decide)).2.1 (by decide) (by decide) k) ?_
    refine bN T24 (mkF m 46 #[vr ca, vi 1, vr ba, vi 1, vi 1, vi 1, vi c0] [(.int (1 : Int32))]) (fun _ k => XS.iload X24.here hx rfl (hb hby d15_44) rfl k) ?_
    refine own_ret X24 hlk (v := some (.int (1 : Int32))) (nvr Bd.returns) (fun fs hr => retI X24 hx Bd.returns (hb hby d15_46) hr) ?_ (by decide) (by decide)
    rw [e24]
    exact ⟨congrArg (fun z => some (Value.int z)) (if_neg hc20_22).symm, N24, K24, fun _ => V24⟩
theorem d14_0 : decode jdk_52_method_16_code 0 = .ok (.iload_n 2, 1) := by decide +kernel
theorem d14_1 : decode jdk_52_method_16_code 1 = .ok (.newarray .byte, 2) := by decide +kernel
theorem d14_3 : decode jdk_52_method_16_code 3 = .ok (.astore_n 3, 1) := by decide +kernel
theorem d14_4 : decode jdk_52_method_16_code 4 = .ok (.aload_n 0, 1) := by decide +kernel
theorem d14_5 : decode jdk_52_method_16_code 5 = .ok (.iload_n 1, 1) := by decide +kernel
theorem d14_6 : decode jdk_52_method_16_code 6 = .ok (.aload_n 3, 1) := by decide +kernel
theorem d14_7 : decode jdk_52_method_16_code 7 = .ok (.iconst 0, 1) := by decide +kernel
theorem d14_8 : decode jdk_52_method_16_code 8 = .ok (.iload_n 2, 1) := by decide +kernel
theorem d14_9 : decode jdk_52_method_16_code 9 = .ok (.invokestatic 115, 3) := by decide +kernel
theorem d14_12 : decode jdk_52_method_16_code 12 = .ok (.istore 4, 2) := by decide +kernel
theorem d14_14 : decode jdk_52_method_16_code 14 = .ok (.iload 4, 2) := by decide +kernel
theorem d14_16 : decode jdk_52_method_16_code 16 = .ok (.iload_n 2, 1) := by decide +kernel
theorem d14_17 : decode jdk_52_method_16_code 17 = .ok (.if_icmp .eq 40, 3) := by decide +kernel
theorem d14_57 : decode jdk_52_method_16_code 57 = .ok (.aload_n 3, 1) := by decide +kernel
theorem d14_58 : decode jdk_52_method_16_code 58 = .ok (.areturn, 1) := by decide +kernel
theorem pn_14 : plainName "java/lang/StringUTF16" = true := by first | (simp [plainName, overriddenIn]; done) | decide +kernel
theorem ef_cmp3_1 (m : MethodId) (ca : Addr) : entryFrame m #[(.ref ca), (ii 0), (.int (1 : Int32))] 6 = mkF m 0 #[vr ca, vi 0, vi 1, uu, uu, uu] [] := rfl
def Q_cmp3_1 (Z : State) (ca : Addr) (kc : ClassId) (c0 : Int32) (h0 : Heap) (n0 : Nat) (v : Option Value) (h : Heap) (L : List Loc) : Prop := ∃ (t : Addr) (kb : ClassId), v = some (.ref t) ∧ Fr n0 L ∧ Keep h0 h [] ∧ h0.size ≤ t ∧ Arv Z h t kb .byte (1 : Int32) [(.int (nar .byte (c0.toInt8.toInt32)))] (ii 0)
theorem cmp3_1 (l : Launch) (Z : State) (a0 : Array Value) (hw : HW Z a0) (ws : List Jvm.Cond) (ca : Addr) (kc : ClassId) (c0 : Int32) (h0 : Heap) (n0 : Nat) (Z0 : n0 ≤ h0.size) (V_ca : Arv Z h0 ca kc .char (1 : Int32) [(.int c0)] (ii 0)) (hc0 : ¬ (255 : Int32) < c0) :
    own_M l yy3 jdk_52_method_16_code 6 (some (.array .byte)) ws rr6 Z #[(.ref ca), (ii 0), (.int (1 : Int32))] h0 (Q_cmp3_1 Z ca kc c0 h0 n0) := by
  refine own_bd (plainFor_of_name pn_14) fun p e s m below meth c s₁ Bd hx hby hml hown hnm hlk hZ X0 e0 => ?_
  rw [ef_cmp3_1 m ca]
  refine bN s₁ (mkF m 1 #[vr ca, vi 0, vi 1, uu, uu, uu] [(.int (1 : Int32))]) (fun _ k => XS.iloadN X0.here hx rfl (hb hby d14_0) rfl k) ?_
  obtain ⟨T21, h21, k21, X21, e21, E21, A21, st21⟩ := newP X0 hx hZ (hw _ (mo 24 rfl)) e0 (g := (mkF m 1 #[vr ca, vi 0, vi 1, uu, uu, uu] [(.int (1 : Int32))])) rfl (hb hby d14_1) rfl (by decide) (cap := 1) (by decide) (by decide) (by decide) (by decide)
  obtain ⟨b21, g21⟩ : ∃ z, z = h0.size := ⟨_, rfl⟩
  rw [← g21] at A21 st21
  have V_b21 : Arv Z h21 b21 k21 .byte (1 : Int32) [(ii 0)] (ii 0) := (Arv.new A21 (by decide)).pad (pad_rep [] (ii 0) 1)
  have g_b21 : n0 ≤ b21 := Nat.le_trans Z0 (Nat.le_of_eq g21.symm)
  have sz_b21 : h0.size ≤ b21 := Nat.le_trans (Keep.refl h0 []).1 (Nat.le_of_eq g21.symm)
  have K21 : Keep h0 h21 [] := Keep.ext (Keep.refl h0 []) E21
  refine bN T21 (mkF m 3 #[vr ca, vi 0, vi 1, uu, uu, uu] [(.ref b21)]) (fun _ k => st21 _ k) ?_
  refine bN T21 (mkF m 4 #[vr ca, vi 0, vi 1, vr b21, uu, uu] []) (fun _ k => XS.astoreN X21.here hx rfl (hb hby d14_3) rfl rfl rfl k) ?_
  refine bN T21 (mkF m 5 #[vr ca, vi 0, vi 1, vr b21, uu, uu] [(.ref ca)]) (fun _ k => XS.aloadN X21.here hx rfl (hb hby d14_4) rfl rfl k) ?_
  refine bN T21 (mkF m 6 #[vr ca, vi 0, vi 1, vr b21, uu, uu] [(ii 0), (.ref ca)]) (fun _ k => XS.iloadN X21.here hx rfl (hb hby d14_5) rfl k) ?_
  refine bN T21 (mkF m 7 #[vr ca, vi 0, vi 1, vr b21, uu, uu] [(.ref b21), (ii 0), (.ref ca)]) (fun _ k => XS.aloadN X21.here hx rfl (hb hby d14_6) rfl rfl k) ?_
  refine bN T21 (mkF m 8 #[vr ca, vi 0, vi 1, vr b21, uu, uu] [(ii 0), (.ref b21), (ii 0), (.ref ca)]) (fun _ k => XS.iconst X21.here hx rfl (hb hby d14_7) k) ?_
  refine bN T21 (mkF m 9 #[vr ca, vi 0, vi 1, vr b21, uu, uu] [(.int (1 : Int32)), (ii 0), (.ref b21), (ii 0), (.ref ca)]) (fun _ k => XS.iloadN X21.here hx rfl (hb hby d14_8) rfl k) ?_
  obtain ⟨_, _, ⟨T22, L22, k22, n22⟩, -, X22, ⟨Lc22, hQ22, l22, y22, z22⟩, st22⟩ := Jvm.LawKit.callS X21 hx (y := yy2) hown (mvT hZ (hw _ (mo 73 rfl))) (mvT hZ (hw _ (mo 74 rfl))) (mvT hZ (hw _ (mo 71 rfl))) (mvT hZ (hw _ (mo 75 rfl))) (by decide) (backOf (W := 0) (cmpk_1 l Z a0 hw [] ca b21 kc k21 c0 h21 n0 (Nat.le_trans Z0 E21.1) (Arv.ext V_ca E21) V_b21 g_b21 (Nat.ne_of_lt (Nat.lt_of_lt_of_le V_ca.lt (Nat.le_of_eq g21.symm)))) hZ (hw _ (mo 75 rfl)) (hw _ (mo 71 rfl)) (by decide) (by decide)) (g := (mkF m 9 #[vr ca, vi 0, vi 1, vr b21, uu, uu] [(.int (1 : Int32)), (ii 0), (.ref b21), (ii 0), (.ref ca)])) rfl (by rw [hml]; rfl) (argsL := [(.ref ca), (ii 0), (.ref b21), (ii 0), (.int (1 : Int32))]) (rest := []) (lenOf pd_0 rfl) rfl (Nat.le_of_eq rfl) (hb hby d14_9) (fun _ _ => ⟨rfl, e21, (by decide : 1 ≤ _), (by decide : 1 ≤ _)⟩)
  dsimp only [Pt.U, Pt.locs, Pt.cells, Pt.slots] at X22 l22 y22 z22 st22 hQ22
  subst l22 y22 z22
  obtain ⟨vq22, N22q, K22, VI_22⟩ := hQ22
  obtain rfl := vq22.trans (congrArg (fun z => some (Value.int z)) (if_neg hc0))
  have N22 := Fr.app (Fr.nil n0) N22q
  have KK22 : Keep h0 T22.heap [] := Keep.trans K21 K22 (allS (Or.inr sz_b21) all0)
  have V5_22 := VI_22 hc0
  refine bN T22 (mkF m 12 #[vr ca, vi 0, vi 1, vr b21, uu, uu] [(.int (1 : Int32))]) (fun _ k => st22 _ k) ?_
  refine bN T22 (mkF m 14 #[vr ca, vi 0, vi 1, vr b21, vi 1, uu] []) (fun _ k => XS.istore X22.here hx rfl (hb hby d14_12) rfl rfl k) ?_
  refine bN T22 (mkF m 16 #[vr ca, vi 0, vi 1, vr b21, vi 1, uu] [(.int (1 : Int32))]) (fun _ k => XS.iload X22.here hx rfl (hb hby d14_14) rfl k) ?_
  refine bN T22 (mkF m 17 #[vr ca, vi 0, vi 1, vr b21, vi 1, uu] [(.int (1 : Int32)), (.int (1 : Int32))]) (fun _ k => XS.iloadN X22.here hx rfl (hb hby d14_16) rfl k) ?_
  refine bN T22 (mkF m 57 #[vr ca, vi 0, vi 1, vr b21, vi 1, uu] []) (fun _ k => XS.icmpYes X22.here hx rfl (pc0 := 17) (pc' := 57) rfl (hb hby d14_17) rfl (teq (by decide)).1 (by decide) (by decide) k) ?_
  refine bN T22 (mkF m 58 #[vr ca, vi 0, vi 1, vr b21, vi 1, uu] [(.ref b21)]) (fun _ k => XS.aloadN X22.here hx rfl (hb hby d14_57) rfl rfl k) ?_
  refine own_ret X22 hlk (v := some (.ref b21)) (nvr Bd.returns) (fun fs hr => retOut X22 hx Bd.returns rfl (Or.inr (Or.inr (Or.inr (Or.inr ⟨rfl, rfl, rfl⟩)))) (hb hby d14_58) hr) ?_ (by decide) (by decide)
  exact ⟨_, _, rfl, N22, KK22, sz_b21, V5_22⟩
theorem d16_0 : decode jdk_52_method_15_code 0 = .ok (.iload_n 1, 1) := by decide +kernel
theorem d16_1 : decode jdk_52_method_15_code 1 = .ok (.aload_n 0, 1) := by decide +kernel
theorem d16_2 : decode jdk_52_method_15_code 2 = .ok (.arraylength, 1) := by decide +kernel
theorem d16_3 : decode jdk_52_method_15_code 3 = .ok (.isub, 1) := by decide +kernel
theorem d16_4 : decode jdk_52_method_15_code 4 = .ok (.bipush 31, 2) := by decide +kernel
theorem d16_6 : decode jdk_52_method_15_code 6 = .ok (.iushr, 1) := by decide +kernel
theorem d16_7 : decode jdk_52_method_15_code 7 = .ok (.i2b, 1) := by decide +kernel
theorem d16_8 : decode jdk_52_method_15_code 8 = .ok (.ireturn, 1) := by decide +kernel
theorem pn_16 : plainName "java/lang/StringUTF16" = true := by first | (simp [plainName, overriddenIn]; done) | decide +kernel
theorem ef_cod_1 (m : MethodId) (ba : Addr) : entryFrame m #[(.ref ba), (.int (1 : Int32))] 2 = mkF m 0 #[vr ba, vi 1] [] := rfl
def Q_cod_1 (Z : State) (ba : Addr) (kb : ClassId) (c0 : Int32) (h0 : Heap) (n0 : Nat) (v : Option Value) (h : Heap) (L : List Loc) : Prop := v = some (ii 0) ∧ Fr n0 L ∧ h = h0
theorem cod_1 (l : Launch) (Z : State) (a0 : Array Value) (hw : HW Z a0) (ws : List Jvm.Cond) (ba : Addr) (kb : ClassId) (c0 : Int32) (h0 : Heap) (n0 : Nat) (Z0 : n0 ≤ h0.size) (V_ba : Arv Z h0 ba kb .byte (1 : Int32) [(.int (nar .byte (c0.toInt8.toInt32)))] (ii 0)) :
    own_M l yy4 jdk_52_method_15_code 2 (some .byte) ws rr0 Z #[(.ref ba), (.int (1 : Int32))] h0 (Q_cod_1 Z ba kb c0 h0 n0) := by
  refine own_bd (plainFor_of_name pn_16) fun p e s m below meth c s₁ Bd hx hby hml hown hnm hlk hZ X0 e0 => ?_
  rw [ef_cod_1 m ba]
  refine bN s₁ (mkF m 1 #[vr ba, vi 1] [(.int (1 : Int32))]) (fun _ k => XS.iloadN X0.here hx rfl (hb hby d16_0) rfl k) ?_
  refine bN s₁ (mkF m 2 #[vr ba, vi 1] [(.ref ba), (.int (1 : Int32))]) (fun _ k => XS.aloadN X0.here hx rfl (hb hby d16_1) rfl rfl k) ?_
  obtain ⟨cl21, Ar21, q21, S21, N_21, H21, G21⟩ := id V_ba
  refine bN s₁ (mkF m 3 #[vr ba, vi 1] [(.int (1 : Int32)), (.int (1 : Int32))]) (fun _ k => X0.arraylength hx (by rw [e0]; exact Ar21.1) (State.isArrayOf_alike hZ.alike Ar21.2.1) (g := (mkF m 2 #[vr ba, vi 1] [(.ref ba), (.int (1 : Int32))])) rfl rfl (hb hby d16_2) _ (by rw [len_of S21 N_21]; exact k)) ?_
  refine bN s₁ (mkF m 4 #[vr ba, vi 1] [(ii 0)]) (fun _ k => XS.isub X0.here hx rfl (hb hby d16_3) rfl k) ?_
  refine bN s₁ (mkF m 6 #[vr ba, vi 1] [(.int (31 : Int32)), (ii 0)]) (fun _ k => XS.bipush X0.here hx rfl (hb hby d16_4) k) ?_
  refine bN s₁ (mkF m 7 #[vr ba, vi 1] [(ii 0)]) (fun _ k => XS.iushr X0.here hx rfl (hb hby d16_6) rfl k) ?_
  refine bN s₁ (mkF m 8 #[vr ba, vi 1] [(ii 0)]) (fun _ k => XS.i2b X0.here hx rfl (hb hby d16_7) rfl k) ?_
  refine own_ret X0 hlk (v := some (ii 0)) (nvr Bd.returns) (fun fs hr => retN X0 hx (t := .byte) Bd.returns (by simp) (hb hby d16_8) hr) ?_ (by decide) (by decide)
  rw [e0]
  exact ⟨rfl, (Fr.nil n0), rfl⟩
theorem d4_0 : decode jdk_42_method_149_code 0 = .ok (.aload_n 0, 1) := by decide +kernel
theorem d4_1 : decode jdk_42_method_149_code 1 = .ok (.invokespecial 1, 3) := by decide +kernel
theorem d4_4 : decode jdk_42_method_149_code 4 = .ok (.iload_n 3, 1) := by decide +kernel
theorem d4_5 : decode jdk_42_method_149_code 5 = .ok (.ifCond .ne 22, 3) := by decide +kernel
theorem d4_27 : decode jdk_42_method_149_code 27 = .ok (.getstatic 38, 3) := by decide +kernel
theorem d4_30 : decode jdk_42_method_149_code 30 = .ok (.ifCond .eq 28, 3) := by decide +kernel
theorem d4_33 : decode jdk_42_method_149_code 33 = .ok (.aload_n 1, 1) := by decide +kernel
theorem d4_34 : decode jdk_42_method_149_code 34 = .ok (.iload_n 2, 1) := by decide +kernel
theorem d4_35 : decode jdk_42_method_149_code 35 = .ok (.iload_n 3, 1) := by decide +kernel
theorem d4_36 : decode jdk_42_method_149_code 36 = .ok (.invokestatic 177, 3) := by decide +kernel
theorem d4_39 : decode jdk_42_method_149_code 39 = .ok (.astore 5, 2) := by decide +kernel
theorem d4_41 : decode jdk_42_method_149_code 41 = .ok (.aload_n 0, 1) := by decide +kernel
theorem d4_42 : decode jdk_42_method_149_code 42 = .ok (.aload 5, 2) := by decide +kernel
theorem d4_44 : decode jdk_42_method_149_code 44 = .ok (.iload_n 3, 1) := by decide +kernel
theorem d4_45 : decode jdk_42_method_149_code 45 = .ok (.invokestatic 47, 3) := by decide +kernel
theorem d4_48 : decode jdk_42_method_149_code 48 = .ok (.putfield 15, 3) := by decide +kernel
theorem d4_51 : decode jdk_42_method_149_code 51 = .ok (.aload_n 0, 1) := by decide +kernel
theorem d4_52 : decode jdk_42_method_149_code 52 = .ok (.aload 5, 2) := by decide +kernel
theorem d4_54 : decode jdk_42_method_149_code 54 = .ok (.putfield 9, 3) := by decide +kernel
theorem d4_57 : decode jdk_42_method_149_code 57 = .ok (.return_, 1) := by decide +kernel
theorem pn_4 : plainName "java/lang/String" = true := by first | (simp [plainName, overriddenIn]; done) | decide +kernel
theorem ef_sin4_1 (m : MethodId) (a ca : Addr) : entryFrame m #[(.ref a), (.ref ca), (ii 0), (.int (1 : Int32)), .null] 6 = mkF m 0 #[vr a, vr ca, vi 0, vi 1, .val .null, uu] [] := rfl
def Q_sin4_1 (Z : State) (a ca : Addr) (kc : ClassId) (cs c0 : Int32) (h0 : Heap) (n0 : Nat) (v : Option Value) (h : Heap) (L : List Loc) : Prop := v = none ∧ Fr n0 L ∧ Keep h0 h [a] ∧ Fld Z h a "java/lang/String" "coder" "B" (ii 0) ∧ ∃ (t : Addr) (kb : ClassId), h0.size ≤ t ∧ Fld Z h a "java/lang/String" "value" "[B" (.ref t) ∧ Arv Z h t kb .byte (1 : Int32) [(.int (nar .byte (c0.toInt8.toInt32)))] (ii 0)
theorem sin4_1 (l : Launch) (Z : State) (a0 : Array Value) (hw : HW Z a0) (ws : List Jvm.Cond) (a ca : Addr) (kc : ClassId) (cs c0 : Int32) (h0 : Heap) (n0 : Nat) (Z0 : n0 ≤ h0.size) (E_a : Exa Z h0 a "java/lang/String") (F_value_a : Fld Z h0 a "java/lang/String" "value" "[B" .null) (F_coder_a : Fld Z h0 a "java/lang/String" "coder" "B" (ii 0)) (g_a : n0 ≤ a) (V_ca : Arv Z h0 ca kc .char (1 : Int32) [(.int c0)] (ii 0)) (S_CS : Sta Z h0 "java/lang/String" "COMPACT_STRINGS" "Z" (.int cs)) (hcs : ¬ cs = (0 : Int32)) (hc0 : ¬ (255 : Int32) < c0) :
    own_M l yy5 jdk_42_method_149_code 6 none ws rr7 Z #[(.ref a), (.ref ca), (ii 0), (.int (1 : Int32)), .null] h0 (Q_sin4_1 Z a ca kc cs c0 h0 n0) := by
  refine own_bd (plainFor_of_name pn_4) fun p e s m below meth c s₁ Bd hx hby hml hown hnm hlk hZ X0 e0 => ?_
  rw [ef_sin4_1 m a ca]
  refine bN s₁ (mkF m 1 #[vr a, vr ca, vi 0, vi 1, .val .null, uu] [(.ref a)]) (fun _ k => XS.aloadN X0.here hx rfl (hb hby d4_0) rfl rfl k) ?_
  obtain ⟨T21, X21, e21, st21⟩ := initO X0 hx hZ hown (hw _ (mo 20 rfl)) (hw _ (mo 21 rfl)) (hw _ (mo 22 rfl)) e0 (g := (mkF m 1 #[vr a, vr ca, vi 0, vi 1, .val .null, uu] [(.ref a)])) rfl (by rw [hml]; rfl) rfl (hb hby d4_1) (by decide) (W := 0) (Nat.le_of_eq rfl) (by decide)
  refine bN T21 (mkF m 4 #[vr a, vr ca, vi 0, vi 1, .val .null, uu] []) (fun _ k => st21 _ k) ?_
  refine bN T21 (mkF m 5 #[vr a, vr ca, vi 0, vi 1, .val .null, uu] [(.int (1 : Int32))]) (fun _ k => XS.iloadN X21.here hx rfl (hb hby d4_4) rfl k) ?_
  refine bN T21 (mkF m 27 #[vr a, vr ca, vi 0, vi 1, .val .null, uu] []) (fun _ k => XS.ifYes X21.here hx rfl (pc0 := 5) (pc' := 27) rfl (hb hby d4_5) rfl ((if0 _ _).trans (feq (by decide)).2) (by decide) (by decide) k) ?_
  obtain ⟨T22, X22, e22, st22⟩ := getS2 X21 hx hZ hown (host := "") (Or.inl (hw _ (mo 51 rfl))) Via.refl e21 S_CS (g := (mkF m 27 #[vr a, vr ca, vi 0, vi 1, .val .null, uu] [])) rfl (hb hby d4_27)
  refine bN T22 (mkF m 30 #[vr a, vr ca, vi 0, vi 1, .val .null, uu] [(.int cs)]) (fun _ k => st22 _ k) ?_
  refine bN T22 (mkF m 33 #[vr a, vr ca, vi 0, vi 1, .val .null, uu] []) (fun _ k => XS.ifNo X22.here hx rfl (hb hby d4_30) rfl ((if0 _ _).trans (feq hcs).1) k) ?_
  refine bN T22 (mkF m 34 #[vr a, vr ca, vi 0, vi 1, .val .null, uu] [(.ref ca)]) (fun _ k => XS.aloadN X22.here hx rfl (hb hby d4_33) rfl rfl k) ?_
  refine bN T22 (mkF m 35 #[vr a, vr ca, vi 0, vi 1, .val .null, uu] [(ii 0), (.ref ca)]) (fun _ k => XS.iloadN X22.here hx rfl (hb hby d4_34) rfl k) ?_
  refine bN T22 (mkF m 36 #[vr a, vr ca, vi 0, vi 1, .val .null, uu] [(.int (1 : Int32)), (ii 0), (.ref ca)]) (fun _ k => XS.iloadN X22.here hx rfl (hb hby d4_35) rfl k) ?_
  obtain ⟨_, _, ⟨T23, L23, k23, n23⟩, -, X23, ⟨Lc23, hQ23, l23, y23, z23⟩, st23⟩ := Jvm.LawKit.callS X22 hx (y := yy3) hown (mvT hZ (hw _ (mo 69 rfl))) (mvT hZ (hw _ (mo 70 rfl))) (mvT hZ (hw _ (mo 71 rfl))) (mvT hZ (hw _ (mo 72 rfl))) (by decide) (backOf (W := 0) (cmp3_1 l Z a0 hw [] ca kc c0 h0 n0 Z0 V_ca hc0) hZ (hw _ (mo 72 rfl)) (hw _ (mo 71 rfl)) (by decide) (by decide)) (g := (mkF m 36 #[vr a, vr ca, vi 0, vi 1, .val .null, uu] [(.int (1 : Int32)), (ii 0), (.ref ca)])) rfl (by rw [hml]; rfl) (argsL := [(.ref ca), (ii 0), (.int (1 : Int32))]) (rest := []) (lenOf pd_1 rfl) rfl (Nat.le_of_eq rfl) (hb hby d4_36) (fun _ _ => ⟨rfl, e22, (by decide : 1 ≤ _), (by decide : 1 ≤ _)⟩)
  dsimp only [Pt.U, Pt.locs, Pt.cells, Pt.slots] at X23 l23 y23 z23 st23 hQ23
  subst l23 y23 z23
  obtain ⟨t23, kb23, rfl, N23q, K23, zt23, V23⟩ := hQ23
  have N23 := Fr.app (Fr.nil n0) N23q
  have KK23 : Keep h0 T23.heap [a] := Keep.trans (Keep.refl h0 [a]) K23 all0
  have sz_t23 : h0.size ≤ t23 := Nat.le_trans (Keep.refl h0 [a]).1 zt23
  have g_t23 : n0 ≤ t23 := Nat.le_trans Z0 sz_t23
  refine bN T23 (mkF m 39 #[vr a, vr ca, vi 0, vi 1, .val .null, uu] [(.ref t23)]) (fun _ k => st23 _ k) ?_
  refine bN T23 (mkF m 41 #[vr a, vr ca, vi 0, vi 1, .val .null, vr t23] []) (fun _ k => XS.astore X23.here hx rfl (hb hby d4_39) rfl rfl rfl k) ?_
  refine bN T23 (mkF m 42 #[vr a, vr ca, vi 0, vi 1, .val .null, vr t23] [(.ref a)]) (fun _ k => XS.aloadN X23.here hx rfl (hb hby d4_41) rfl rfl k) ?_
  refine bN T23 (mkF m 44 #[vr a, vr ca, vi 0, vi 1, .val .null, vr t23] [(.ref t23), (.ref a)]) (fun _ k => XS.aload X23.here hx rfl (hb hby d4_42) rfl rfl k) ?_
  refine bN T23 (mkF m 45 #[vr a, vr ca, vi 0, vi 1, .val .null, vr t23] [(.int (1 : Int32)), (.ref t23), (.ref a)]) (fun _ k => XS.iloadN X23.here hx rfl (hb hby d4_44) rfl k) ?_
  obtain ⟨_, _, ⟨T24, L24, k24, n24⟩, -, X24, ⟨Lc24, hQ24, l24, y24, z24⟩, st24⟩ := Jvm.LawKit.callS X23 hx (y := yy4) hown (mvT hZ (hw _ (mo 76 rfl))) (mvT hZ (hw _ (mo 77 rfl))) (mvT hZ (hw _ (mo 71 rfl))) (mvT hZ (hw _ (mo 78 rfl))) (by decide) (backOf (W := 1) (cod_1 l Z a0 hw [] t23 kb23 c0 T23.heap n0 (Nat.le_trans Z0 K23.1) V23) hZ (hw _ (mo 78 rfl)) (hw _ (mo 71 rfl)) (by decide) (by decide)) (g := (mkF m 45 #[vr a, vr ca, vi 0, vi 1, .val .null, vr t23] [(.int (1 : Int32)), (.ref t23), (.ref a)])) rfl (by rw [hml]; rfl) (argsL := [(.ref t23), (.int (1 : Int32))]) (rest := [(.ref a)]) (lenOf pd_2 rfl) rfl (Nat.le_of_eq rfl) (hb hby d4_45) (fun _ _ => ⟨rfl, rfl, (by decide : 1 ≤ _), (by decide : 1 ≤ _)⟩)
  dsimp only [Pt.U, Pt.locs, Pt.cells, Pt.slots] at X24 l24 y24 z24 st24 hQ24
  subst l24 y24 z24
  obtain ⟨rfl, N24q, e24⟩ := hQ24
  have N24 := Fr.app N23 N24q
  refine bN T24 (mkF m 48 #[vr a, vr ca, vi 0, vi 1, .val .null, vr t23] [(ii 0), (.ref a)]) (fun _ k => st24 _ k) ?_
  obtain ⟨T25, h25, X25, e25, W25, st25⟩ := putFN X24 hx hZ hown (hw _ (mo 30 rfl)) Via.refl e24 (Fld.keep F_coder_a K23 nin0) (Exa.keep E_a K23) (Or.inr ⟨(hw _ (mo 26 rfl)), rfl, hnm⟩) (hw _ (mo 11 rfl)) (ty := .byte) (v' := (ii 0)) (by decide) rfl (by decide) (g := (mkF m 48 #[vr a, vr ca, vi 0, vi 1, .val .null, vr t23] [(ii 0), (.ref a)])) rfl rfl (hb hby d4_48)
  have Fw25 : Fld Z h25 a "java/lang/String" "coder" "B" (ii 0) := Fld.same W25 (Fld.keep F_coder_a K23 nin0)
  have K25 : Keep h0 h25 [a] := Keep.wr KK23 W25 (Or.inl (mo 0 rfl))
  have N25 := Fr.snoc X25 N24 g_a
  refine bN T25 (mkF m 51 #[vr a, vr ca, vi 0, vi 1, .val .null, vr t23] []) (fun _ k => st25 _ k) ?_
  refine bN T25 (mkF m 52 #[vr a, vr ca, vi 0, vi 1, .val .null, vr t23] [(.ref a)]) (fun _ k => XS.aloadN X25.here hx rfl (hb hby d4_51) rfl rfl k) ?_
  refine bN T25 (mkF m 54 #[vr a, vr ca, vi 0, vi 1, .val .null, vr t23] [(.ref t23), (.ref a)]) (fun _ k => XS.aload X25.here hx rfl (hb hby d4_52) rfl rfl k) ?_
  obtain ⟨T26, h26, X26, e26, W26, st26⟩ := putF X25 hx hZ hown (host := "") (Or.inl (hw _ (mo 29 rfl))) Via.refl e25 (Fld.other W25 (Fld.keep F_value_a K23 nin0) (Or.inr (slot_ne (a0 := a0) (Or.inr (hw _ (mo 25 rfl))) (Or.inr (hw _ (mo 26 rfl))) (by decide) (t := (.array .byte)) (t' := .byte) (by decide) (by decide)))) (Exa.wr W25 (Exa.keep E_a K23)) (Or.inr ⟨(hw _ (mo 25 rfl)), rfl, hnm⟩) (hw _ (mo 11 rfl)) (ty := (.array .byte)) (by decide) rfl rfl (g := (mkF m 54 #[vr a, vr ca, vi 0, vi 1, .val .null, vr t23] [(.ref t23), (.ref a)])) rfl rfl (hb hby d4_54)
  have Fw26 : Fld Z h26 a "java/lang/String" "value" "[B" (.ref t23) := Fld.same W26 (Fld.other W25 (Fld.keep F_value_a K23 nin0) (Or.inr (slot_ne (a0 := a0) (Or.inr (hw _ (mo 25 rfl))) (Or.inr (hw _ (mo 26 rfl))) (by decide) (t := (.array .byte)) (t' := .byte) (by decide) (by decide))))
  have K26 : Keep h0 h26 [a] := Keep.wr K25 W26 (Or.inl (mo 0 rfl))
  have N26 := Fr.snoc X26 N25 g_a
  refine bN T26 (mkF m 57 #[vr a, vr ca, vi 0, vi 1, .val .null, vr t23] []) (fun _ k => st26 _ k) ?_
  refine own_ret X26 hlk (v := none) (fun _ => rfl) (fun fs hr => X26.returnOut hx Bd.returns (hb hby d4_57) hr) ?_ (by decide) (by decide)
  rw [e26]
  exact ⟨rfl, N26, K26, (Fld.other W26 Fw25 (Or.inr (slot_ne (a0 := a0) (Or.inr (hw _ (mo 26 rfl))) (Or.inr (hw _ (mo 25 rfl))) (by decide) (t := .byte) (t' := (.array .byte)) (by decide) (by decide)))), _, _, sz_t23, Fw26, (Arv.other (Arv.other V23 W25 (Ne.symm (Nat.ne_of_lt (Nat.lt_of_lt_of_le (E_a).lt zt23)))) W26 (Ne.symm (Nat.ne_of_lt (Nat.lt_of_lt_of_le (E_a).lt zt23))))⟩
theorem d3_0 : decode jdk_42_method_3_code 0 = .ok (.aload_n 0, 1) := by decide +kernel
theorem d3_1 : decode jdk_42_method_3_code 1 = .ok (.aload_n 1, 1) := by decide +kernel
theorem d3_2 : decode jdk_42_method_3_code 2 = .ok (.iconst 0, 1) := by decide +kernel
theorem d3_3 : decode jdk_42_method_3_code 3 = .ok (.aload_n 1, 1) := by decide +kernel
theorem d3_4 : decode jdk_42_method_3_code 4 = .ok (.arraylength, 1) := by decide +kernel
theorem d3_5 : decode jdk_42_method_3_code 5 = .ok (.aconst_null, 1) := by decide +kernel
theorem d3_6 : decode jdk_42_method_3_code 6 = .ok (.invokespecial 27, 3) := by decide +kernel
theorem d3_9 : decode jdk_42_method_3_code 9 = .ok (.return_, 1) := by decide +kernel
theorem pn_3 : plainName "java/lang/String" = true := by first | (simp [plainName, overriddenIn]; done) | decide +kernel
theorem ef_sin1_1 (m : MethodId) (a ca : Addr) : entryFrame m #[(.ref a), (.ref ca)] 2 = mkF m 0 #[vr a, vr ca] [] := rfl
def Q_sin1_1 (Z : State) (a ca : Addr) (kc : ClassId) (cs c0 : Int32) (h0 : Heap) (n0 : Nat) (v : Option Value) (h : Heap) (L : List Loc) : Prop := v = none ∧ Fr n0 L ∧ Keep h0 h [a] ∧ Fld Z h a "java/lang/String" "coder" "B" (ii 0) ∧ ∃ (t : Addr) (kb : ClassId), h0.size ≤ t ∧ Fld Z h a "java/lang/String" "value" "[B" (.ref t) ∧ Arv Z h t kb .byte (1 : Int32) [(.int (nar .byte (c0.toInt8.toInt32)))] (ii 0)
theorem sin1_1 (l : Launch) (Z : State) (a0 : Array Value) (hw : HW Z a0) (ws : List Jvm.Cond) (a ca : Addr) (kc : ClassId) (cs c0 : Int32) (h0 : Heap) (n0 : Nat) (Z0 : n0 ≤ h0.size) (E_a : Exa Z h0 a "java/lang/String") (F_value_a : Fld Z h0 a "java/lang/String" "value" "[B" .null) (F_coder_a : Fld Z h0 a "java/lang/String" "coder" "B" (ii 0)) (g_a : n0 ≤ a) (V_ca : Arv Z h0 ca kc .char (1 : Int32) [(.int c0)] (ii 0)) (S_CS : Sta Z h0 "java/lang/String" "COMPACT_STRINGS" "Z" (.int cs)) (hcs : ¬ cs = (0 : Int32)) (hc0 : ¬ (255 : Int32) < c0) :
    own_M l yy6 jdk_42_method_3_code 2 none ws rr8 Z #[(.ref a), (.ref ca)] h0 (Q_sin1_1 Z a ca kc cs c0 h0 n0) := by
  refine own_bd (plainFor_of_name pn_3) fun p e s m below meth c s₁ Bd hx hby hml hown hnm hlk hZ X0 e0 => ?_
  rw [ef_sin1_1 m a ca]
  refine bN s₁ (mkF m 1 #[vr a, vr ca] [(.ref a)]) (fun _ k => XS.aloadN X0.here hx rfl (hb hby d3_0) rfl rfl k) ?_
  refine bN s₁ (mkF m 2 #[vr a, vr ca] [(.ref ca), (.ref a)]) (fun _ k => XS.aloadN X0.here hx rfl (hb hby d3_1) rfl rfl k) ?_
  refine bN s₁ (mkF m 3 #[vr a, vr ca] [(ii 0), (.ref ca), (.ref a)]) (fun _ k => XS.iconst X0.here hx rfl (hb hby d3_2) k) ?_
  refine bN s₁ (mkF m 4 #[vr a, vr ca] [(.ref ca), (ii 0), (.ref ca), (.ref a)]) (fun _ k => XS.aloadN X0.here hx rfl (hb hby d3_3) rfl rfl k) ?_
  obtain ⟨cl21, Ar21, q21, S21, N_21, H21, G21⟩ := id V_ca
  refine bN s₁ (mkF m 5 #[vr a, vr ca] [(.int (1 : Int32)), (ii 0), (.ref ca), (.ref a)]) (fun _ k => X0.arraylength hx (by rw [e0]; exact Ar21.1) (State.isArrayOf_alike hZ.alike Ar21.2.1) (g := (mkF m 4 #[vr a, vr ca] [(.ref ca), (ii 0), (.ref ca), (.ref a)])) rfl rfl (hb hby d3_4) _ (by rw [len_of S21 N_21]; exact k)) ?_
  refine bN s₁ (mkF m 6 #[vr a, vr ca] [.null, (.int (1 : Int32)), (ii 0), (.ref ca), (.ref a)]) (fun _ k => XS.aconstNull X0.here hx rfl (hb hby d3_5) k) ?_
  obtain ⟨_, _, ⟨T22, L22, k22, n22⟩, -, X22, ⟨Lc22, hQ22, l22, y22, z22⟩, st22⟩ := X0.specialBack hx (y := yy5) rfl hown (mvT hZ (hw _ (mo 16 rfl))) (mvT hZ (hw _ (mo 17 rfl))) (mvT hZ (hw _ (mo 19 rfl))) (by decide) (backOf (W := 0) (sin4_1 l Z a0 hw [] a ca kc cs c0 h0 n0 Z0 E_a F_value_a F_coder_a g_a V_ca S_CS hcs hc0) hZ (hw _ (mo 19 rfl)) (hw _ (mo 12 rfl)) (by decide) (by decide)) (g := (mkF m 6 #[vr a, vr ca] [.null, (.int (1 : Int32)), (ii 0), (.ref ca), (.ref a)])) rfl (by rw [hml]; rfl) (Steps.refl _) (a := a) (argsL := [(.ref ca), (ii 0), (.int (1 : Int32)), .null]) (rest := []) (lenOf pd_3 rfl) rfl (Nat.le_of_eq rfl) (hb hby d3_6) (fun _ _ => ⟨rfl, e0, (by decide : 1 ≤ _), (by decide : 1 ≤ _)⟩)
  dsimp only [Pt.U, Pt.locs, Pt.cells, Pt.slots] at X22 l22 y22 z22 st22 hQ22
  subst l22 y22 z22
  obtain ⟨rfl, N22q, K22, Fc22, t22, kb22, zt22, Fv22, V22⟩ := hQ22
  have N22 := Fr.app (Fr.nil n0) N22q
  have KK22 : Keep h0 T22.heap [a] := Keep.trans (Keep.refl h0 [a]) K22 (allS (Or.inl (mo 0 rfl)) all0)
  have sz_t22 : h0.size ≤ t22 := zt22
  refine bN T22 (mkF m 9 #[vr a, vr ca] []) (fun _ k => st22.trans k) ?_
  refine own_ret X22 hlk (v := none) (fun _ => rfl) (fun fs hr => X22.returnOut hx Bd.returns (hb hby d3_9) hr) ?_ (by decide) (by decide)
  exact ⟨rfl, N22, KK22, Fc22, _, _, sz_t22, Fv22, V22⟩
theorem ef_cmpk_2 (m : MethodId) (ca ba : Addr) : entryFrame m #[(.ref ca), (ii 0), (.ref ba), (ii 0), (.int (2 : Int32))] 7 = mkF m 0 #[vr ca, vi 0, vr ba, vi 0, vi 2, uu, uu] [] := rfl
def Q_cmpk_2 (Z : State) (ca ba : Addr) (kc kb : ClassId) (c0 c1 : Int32) (h0 : Heap) (n0 : Nat) (v : Option Value) (h : Heap) (L : List Loc) : Prop := v = some (.int (own_k2 c0 c1)) ∧ Fr n0 L ∧ Keep h0 h [ba] ∧ ((¬ (255 : Int32) < c0 ∧ ¬ (255 : Int32) < c1) → Arv Z h ba kb .byte (2 : Int32) [(.int (nar .byte (c0.toInt8.toInt32))), (.int (nar .byte (c1.toInt8.toInt32)))] (ii 0))
theorem cmpk_2 (l : Launch) (Z : State) (a0 : Array Value) (hw : HW Z a0) (ws : List Jvm.Cond) (ca ba : Addr) (kc kb : ClassId) (c0 c1 : Int32) (h0 : Heap) (n0 : Nat) (Z0 : n0 ≤ h0.size) (V_ca : Arv Z h0 ca kc .char (2 : Int32) [(.int c0), (.int c1)] (ii 0)) (V_ba : Arv Z h0 ba kb .byte (2 : Int32) [(ii 0), (ii 0)] (ii 0)) (g_ba : n0 ≤ ba) (neab : ca ≠ ba) :
    own_M l yy2 jdk_52_method_21_code 7 (some .int) ws rr0 Z #[(.ref ca), (ii 0), (.ref ba), (ii 0), (.int (2 : Int32))] h0 (Q_cmpk_2 Z ca ba kc kb c0 c1 h0 n0) := by
  refine own_bd (plainFor_of_name pn_15) fun p e s m below meth c s₁ Bd hx hby hml hown hnm hlk hZ X0 e0 => ?_
  rw [ef_cmpk_2 m ca ba]
  refine bN s₁ (mkF m 1 #[vr ca, vi 0, vr ba, vi 0, vi 2, uu, uu] [(ii 0)]) (fun _ k => XS.iconst X0.here hx rfl (hb hby d15_0) k) ?_
  refine bN s₁ (mkF m 3 #[vr ca, vi 0, vr ba, vi 0, vi 2, vi 0, uu] []) (fun _ k => XS.istore X0.here hx rfl (hb hby d15_1) rfl rfl k) ?_
  refine bN s₁ (mkF m 5 #[vr ca, vi 0, vr ba, vi 0, vi 2, vi 0, uu] [(ii 0)]) (fun _ k => XS.iload X0.here hx rfl (hb hby d15_3) rfl k) ?_
  refine bN s₁ (mkF m 7 #[vr ca, vi 0, vr ba, vi 0, vi 2, vi 0, uu] [(.int (2 : Int32)), (ii 0)]) (fun _ k => XS.iload X0.here hx rfl (hb hby d15_5) rfl k) ?_
  refine bN s₁ (mkF m 10 #[vr ca, vi 0, vr ba, vi 0, vi 2, vi 0, uu] []) (fun _ k => XS.icmpNo X0.here hx rfl (hb hby d15_7) rfl (tlt (by decide)).2.1 k) ?_
  refine bN s₁ (mkF m 11 #[vr ca, vi 0, vr ba, vi 0, vi 2, vi 0, uu] [(.ref ca)]) (fun _ k => XS.aloadN X0.here hx rfl (hb hby d15_10) rfl rfl k) ?_
  refine bN s₁ (mkF m 12 #[vr ca, vi 0, vr ba, vi 0, vi 2, vi 0, uu] [(ii 0), (.ref ca)]) (fun _ k => XS.iloadN X0.here hx rfl (hb hby d15_11) rfl k) ?_
  obtain ⟨cl21, Ar21, q21, S21, N_21, H21, G21⟩ := id V_ca
  have hin21 : ¬ ((0 : Int32) < 0 ∨ cl21.slots.size ≤ ((0 : Int32)).toNatClampNeg) := inb_of S21 ⟨by decide, by decide⟩
  refine bN s₁ (mkF m 13 #[vr ca, vi 0, vr ba, vi 0, vi 2, vi 0, uu] [(.int c0)]) (fun _ k => X0.caload hx (j := (0 : Int32)) (v := (.int c0)) (by rw [e0]; exact Ar21.1) (State.isArrayOf_alike hZ.alike Ar21.2.1) Ar21.2.2 hin21 (Has.at H21 hin21 rfl) (g := (mkF m 12 #[vr ca, vi 0, vr ba, vi 0, vi 2, vi 0, uu] [(ii 0), (.ref ca)])) rfl rfl (hb hby d15_12) _ k) ?_
  refine bN s₁ (mkF m 15 #[vr ca, vi 0, vr ba, vi 0, vi 2, vi 0, vi c0] []) (fun _ k => XS.istore X0.here hx rfl (hb hby d15_13) rfl rfl k) ?_
  refine bN s₁ (mkF m 17 #[vr ca, vi 0, vr ba, vi 0, vi 2, vi 0, vi c0] [(.int c0)]) (fun _ k => XS.iload X0.here hx rfl (hb hby d15_15) rfl k) ?_
  refine bN s₁ (mkF m 20 #[vr ca, vi 0, vr ba, vi 0, vi 2, vi 0, vi c0] [(.int (255 : Int32)), (.int c0)]) (fun _ k => XS.sipush X0.here hx rfl (hb hby d15_17) k) ?_
  by_cases hc20_22 : (255 : Int32) < c0
  · skip
    refine bN s₁ (mkF m 23 #[vr ca, vi 0, vr ba, vi 0, vi 2, vi 0, vi c0] []) (fun _ k => XS.icmpNo X0.here hx rfl (hb hby d15_20) rfl (tlt hc20_22).2.2.2 k) ?_
    refine bN s₁ (mkF m 25 #[vr ca, vi 0, vr ba, vi 0, vi 2, vi 0, vi c0] [(ii 0)]) (fun _ k => XS.iload X0.here hx rfl (hb hby d15_23) rfl k) ?_
    refine own_ret X0 hlk (v := some (ii 0)) (nvr Bd.returns) (fun fs hr => retI X0 hx Bd.returns (hb hby d15_25) hr) ?_ (by decide) (by decide)
    rw [e0]
    exact ⟨congrArg (fun z => some (Value.int z)) (if_pos hc20_22).symm, (Fr.nil n0), (Keep.refl h0 [ba]), fun q => absurd hc20_22 q.1⟩
  · skip
    refine bN s₁ (mkF m 26 #[vr ca, vi 0, vr ba, vi 0, vi 2, vi 0, vi c0] []) (fun _ k => XS.icmpYes X0.here hx rfl (pc0 := 20) (pc' := 26) rfl (hb hby d15_20) rfl (flt hc20_22).2.2.2 (by decide) (by decide) k) ?_
    refine bN s₁ (mkF m 27 #[vr ca, vi 0, vr ba, vi 0, vi 2, vi 0, vi c0] [(.ref ba)]) (fun _ k => XS.aloadN X0.here hx rfl (hb hby d15_26) rfl rfl k) ?_
    refine bN s₁ (mkF m 28 #[vr ca, vi 0, vr ba, vi 0, vi 2, vi 0, vi c0] [(ii 0), (.ref ba)]) (fun _ k => XS.iloadN X0.here hx rfl (hb hby d15_27) rfl k) ?_
    refine bN s₁ (mkF m 30 #[vr ca, vi 0, vr ba, vi 0, vi 2, vi 0, vi c0] [(.int c0), (ii 0), (.ref ba)]) (fun _ k => XS.iload X0.here hx rfl (hb hby d15_28) rfl k) ?_
    refine bN s₁ (mkF m 31 #[vr ca, vi 0, vr ba, vi 0, vi 2, vi 0, vi c0] [(.int (c0.toInt8.toInt32)), (ii 0), (.ref ba)]) (fun _ k => XS.i2b X0.here hx rfl (hb hby d15_30) rfl k) ?_
    obtain ⟨cl23, Ar23, q23, S23, N_23, H23, G23⟩ := id V_ba
    have hin23 : ¬ ((0 : Int32) < 0 ∨ cl23.slots.size ≤ ((0 : Int32)).toNatClampNeg) := inb_of S23 ⟨by decide, by decide⟩
    obtain ⟨T24, h24, X24, e24, W24, st24⟩ := stB X0 hx hZ e0 Ar23 (j := (0 : Int32)) hin23 (g := (mkF m 31 #[vr ca, vi 0, vr ba, vi 0, vi 2, vi 0, vi c0] [(.int (c0.toInt8.toInt32)), (ii 0), (.ref ba)])) rfl rfl (hb hby d15_31)
    have V24 : Arv Z h24 ba kb .byte (2 : Int32) [(.int (nar .byte (c0.toInt8.toInt32))), (ii 0)] (ii 0) := Arv.set Ar23 q23 S23 N_23 H23 G23 (fits_nar_byte _) W24 0 rfl (Nat.le_of_ble_eq_true rfl)
    have K24 : Keep h0 h24 [ba] := Keep.wr (Keep.refl h0 [ba]) W24 (Or.inl (mo 0 rfl))
    have N24 := Fr.snoc X24 (Fr.nil n0) g_ba
    refine bN T24 (mkF m 32 #[vr ca, vi 0, vr ba, vi 0, vi 2, vi 0, vi c0] []) (fun _ k => st24 _ k) ?_
    refine bN T24 (mkF m 35 #[vr ca, vi 1, vr ba, vi 0, vi 2, vi 0, vi c0] []) (fun _ k => XS.iinc X24.here hx rfl (hb hby d15_32) rfl rfl k) ?_
    refine bN T24 (mkF m 38 #[vr ca, vi 1, vr ba, vi 1, vi 2, vi 0, vi c0] []) (fun _ k => XS.iinc X24.here hx rfl (hb hby d15_35) rfl rfl k) ?_
    refine bN T24 (mkF m 41 #[vr ca, vi 1, vr ba, vi 1, vi 2, vi 1, vi c0] []) (fun _ k => XS.iinc X24.here hx rfl (hb hby d15_38) rfl rfl k) ?_
    refine bN T24 (mkF m 3 #[vr ca, vi 1, vr ba, vi 1, vi 2, vi 1, vi c0] []) (fun _ k => XS.goto X24.here hx rfl (pc0 := 41) (pc' := 3) rfl (hb hby d15_41) (by decide) (by decide) k) ?_
    refine bN T24 (mkF m 5 #[vr ca, vi 1, vr ba, vi 1, vi 2, vi 1, vi c0] [(.int (1 : Int32))]) (fun _ k => XS.iload X24.here hx rfl (hb hby d15_3) rfl k) ?_
    refine bN T24 (mkF m 7 #[vr ca, vi 1, vr ba, vi 1, vi 2, vi 1, vi c0] [(.int (2 : Int32)), (.int (1 : Int32))]) (fun _ k => XS.iload X24.here hx rfl (hb hby d15_5) rfl k) ?_
    refine bN T24 (mkF m 10 #[vr ca, vi 1, vr ba, vi 1, vi 2, vi 1, vi c0] []) (fun _ k => XS.icmpNo X24.here hx rfl (hb hby d15_7) rfl (tlt (by decide)).2.1 k) ?_
    refine bN T24 (mkF m 11 #[vr ca, vi 1, vr ba, vi 1, vi 2, vi 1, vi c0] [(.ref ca)]) (fun _ k => XS.aloadN X24.here hx rfl (hb hby d15_10) rfl rfl k) ?_
    refine bN T24 (mkF m 12 #[vr ca, vi 1, vr ba, vi 1, vi 2, vi 1, vi c0] [(.int (1 : Int32)), (.ref ca)]) (fun _ k => XS.iloadN X24.here hx rfl (hb hby d15_11) rfl k) ?_
    obtain ⟨cl25, Ar25, q25, S25, N_25, H25, G25⟩ := id (Arv.other V_ca W24 neab)
    have hin25 : ¬ ((1 : Int32) < 0 ∨ cl25.slots.size ≤ ((1 : Int32)).toNatClampNeg) := inb_of S25 ⟨by decide, by decide⟩
    refine bN T24 (mkF m 13 #[vr ca, vi 1, vr ba, vi 1, vi 2, vi 1, vi c0] [(.int c1)]) (fun _ k => X24.caload hx (j := (1 : Int32)) (v := (.int c1)) (by rw [e24]; exact Ar25.1) (State.isArrayOf_alike hZ.alike Ar25.2.1) Ar25.2.2 hin25 (Has.at H25 hin25 rfl) (g := (mkF m 12 #[vr ca, vi 1, vr ba, vi 1, vi 2, vi 1, vi c0] [(.int (1 : Int32)), (.ref ca)])) rfl rfl (hb hby d15_12) _ k) ?_
    refine bN T24 (mkF m 15 #[vr ca, vi 1, vr ba, vi 1, vi 2, vi 1, vi c1] []) (fun _ k => XS.istore X24.here hx rfl (hb hby d15_13) rfl rfl k) ?_
    refine bN T24 (mkF m 17 #[vr ca, vi 1, vr ba, vi 1, vi 2, vi 1, vi c1] [(.int c1)]) (fun _ k => XS.iload X24.here hx rfl (hb hby d15_15) rfl k) ?_
    refine bN T24 (mkF m 20 #[vr ca, vi 1, vr ba, vi 1, vi 2, vi 1, vi c1] [(.int (255 : Int32)), (.int c1)]) (fun _ k => XS.sipush X24.here hx rfl (hb hby d15_17) k) ?_
    by_cases hc20_26 : (255 : Int32) < c1
    · skip
      refine bN T24 (mkF m 23 #[vr ca, vi 1, vr ba, vi 1, vi 2, vi 1, vi c1] []) (fun _ k => XS.icmpNo X24.here hx rfl (hb hby d15_20) rfl (tlt hc20_26).2.2.2 k) ?_
      refine bN T24 (mkF m 25 #[vr ca, vi 1, vr ba, vi 1, vi 2, vi 1, vi c1] [(.int (1 : Int32))]) (fun _ k => XS.iload X24.here hx rfl (hb hby d15_23) rfl k) ?_
      refine own_ret X24 hlk (v := some (.int (1 : Int32))) (nvr Bd.returns) (fun fs hr => retI X24 hx Bd.returns (hb hby d15_25) hr) ?_ (by decide) (by decide)
      rw [e24]
      exact ⟨congrArg (fun z => some (Value.int z)) ((if_neg hc20_22).trans (if_pos hc20_26)).symm, N24, K24, fun q => absurd hc20_26 q.2⟩
    · skip
      refine bN T24 (mkF m 26 #[vr ca, vi 1, vr ba, vi 1, vi 2, vi 1, vi c1] []) (fun _ k => XS.icmpYes X24.here hx rfl (pc0 := 20) (pc' := 26) rfl (hb hby d15_20) rfl (flt hc20_26).2.2.2 (by decide) (by decide) k) ?_
      refine bN T24 (mkF m 27 #[vr ca, vi 1, vr ba, vi 1, vi 2, vi 1, vi c1] [(.ref ba)]) (fun _ k => XS.aloadN X24.here hx rfl (hb hby d15_26) rfl rfl k) ?_
      refine bN T24 (mkF m 28 #[vr ca, vi 1, vr ba, vi 1, vi 2, vi 1, vi c1] [(.int (1 : Int32)), (.ref ba)]) (fun _ k => XS.iloadN X24.here hx rfl (hb hby d15_27) rfl k) ?_
      refine bN T24 (mkF m 30 #[vr ca, vi 1, vr ba, vi 1, vi 2, vi 1, vi c1] [(.int c1), (.int (1 : Int32)), (.ref ba)]) (fun _ k => XS.iload X24.here hx rfl (hb hby d15_28) rfl k) ?_
      refine bN T24 (mkF m 31 #[vr ca, vi 1, vr ba, vi 1, vi 2, vi 1, vi c1] [(.int (c1.toInt8.toInt32)), (.int (1 : Int32)), (.ref ba)]) (fun _ k => XS.i2b X24.here hx rfl (hb hby d15_30) rfl k) ?_
      obtain ⟨cl27, Ar27, q27, S27, N_27, H27, G27⟩ := id V24
      have hin27 : ¬ ((1 : Int32) < 0 ∨ cl27.slots.size ≤ ((1 : Int32)).toNatClampNeg) := inb_of S27 ⟨by decide, by decide⟩
      obtain ⟨T28, h28, X28, e28, W28, st28⟩ := stB X24 hx hZ e24 Ar27 (j := (1 : Int32)) hin27 (g := (mkF m 31 #[vr ca, vi 1, vr ba, vi 1, vi 2, vi 1, vi c1] [(.int (c1.toInt8.toInt32)), (.int (1 : Int32)), (.ref ba)])) rfl rfl (hb hby d15_31)
      have V28 : Arv Z h28 ba kb .byte (2 : Int32) [(.int (nar .byte (c0.toInt8.toInt32))), (.int (nar .byte (c1.toInt8.toInt32)))] (ii 0) := Arv.set Ar27 q27 S27 N_27 H27 G27 (fits_nar_byte _) W28 1 rfl (Nat.le_of_ble_eq_true rfl)
      have K28 : Keep h0 h28 [ba] := Keep.wr K24 W28 (Or.inl (mo 0 rfl))
      have N28 := Fr.snoc X28 N24 g_ba
      refine bN T28 (mkF m 32 #[vr ca, vi 1, vr ba, vi 1, vi 2, vi 1, vi c1] []) (fun _ k => st28 _ k) ?_
      refine bN T28 (mkF m 35 #[vr ca, vi 2, vr ba, vi 1, vi 2, vi 1, vi c1] []) (fun _ k => XS.iinc X28.here hx rfl (hb hby d15_32) rfl rfl k) ?_
      refine bN T28 (mkF m 38 #[vr ca, vi 2, vr ba, vi 2, vi 2, vi 1, vi c1] []) (fun _ k => XS.iinc X28.here hx rfl (hb hby d15_35) rfl rfl k) ?_
      refine bN T28 (mkF m 41 #[vr ca, vi 2, vr ba, vi 2, vi 2, vi 2, vi c1] []) (fun _ k => XS.iinc X28.here hx rfl (hb hby d15_38) rfl rfl k) ?_
      refine bN T28 (mkF m 3 #[vr ca, vi 2, vr ba, vi 2, vi 2, vi 2, vi c1] []) (fun _ k => XS.goto X28.here hx rfl (pc0 := 41) (pc' := 3) rfl (hb hby d15_41) (by decide) (by decide) k) ?_
      refine bN T28 (mkF m 5 #[vr ca, vi 2, vr ba, vi 2, vi 2, vi 2, vi c1] [(.int (2 : Int32))]) (fun _ k => XS.iload X28.here hx rfl (hb hby d15_3) rfl k) ?_
      refine bN T28 (mkF m 7 #[vr ca, vi 2, vr ba, vi 2, vi 2, vi 2, vi c1] [(.int (2 : Int32)), (.int (2 : Int32))]) (fun _ k => XS.iload X28.here hx rfl (hb hby d15_5) rfl k) ?_
      refine bN T28 (mkF m 44 #[vr ca, vi 2, vr ba, vi 2, vi 2, vi 2, vi c1] []) (fun _ k => XS.icmpYes X28.here hx rfl (pc0 := 7) (pc' := 44) rfl (hb hby d15_7) rfl (flt (by decide)).2.1 (by decide) (by decide) k) ?_
      refine bN T28 (mkF m 46 #[vr ca, vi 2, vr ba, vi 2, vi 2, vi 2, vi c1] [(.int (2 : Int32))]) (fun _ k => XS.iload X28.here hx rfl (hb hby d15_44) rfl k) ?_
      refine own_ret X28 hlk (v := some (.int (2 : Int32))) (nvr Bd.returns) (fun fs hr => retI X28 hx Bd.returns (hb hby d15_46) hr) ?_ (by decide) (by decide)
      rw [e28]
      exact ⟨congrArg (fun z => some (Value.int z)) ((if_neg hc20_22).trans (if_neg hc20_26)).symm, N28, K28, fun _ => V28⟩
theorem ef_cmp3_2 (m : MethodId) (ca : Addr) : entryFrame m #[(.ref ca), (ii 0), (.int (2 : Int32))] 6 = mkF m 0 #[vr ca, vi 0, vi 2, uu, uu, uu] [] := rfl
def Q_cmp3_2 (Z : State) (ca : Addr) (kc : ClassId) (c0 c1 : Int32) (h0 : Heap) (n0 : Nat) (v : Option Value) (h : Heap) (L : List Loc) : Prop := ∃ (t : Addr) (kb : ClassId), v = some (.ref t) ∧ Fr n0 L ∧ Keep h0 h [] ∧ h0.size ≤ t ∧ Arv Z h t kb .byte (2 : Int32) [(.int (nar .byte (c0.toInt8.toInt32))), (.int (nar .byte (c1.toInt8.toInt32)))] (ii 0)
theorem cmp3_2 (l : Launch) (Z : State) (a0 : Array Value) (hw : HW Z a0) (ws : List Jvm.Cond) (ca : Addr) (kc : ClassId) (c0 c1 : Int32) (h0 : Heap) (n0 : Nat) (Z0 : n0 ≤ h0.size) (V_ca : Arv Z h0 ca kc .char (2 : Int32) [(.int c0), (.int c1)] (ii 0)) (hc0 : ¬ (255 : Int32) < c0) (hc1 : ¬ (255 : Int32) < c1) :
    own_M l yy3 jdk_52_method_16_code 6 (some (.array .byte)) ws rr9 Z #[(.ref ca), (ii 0), (.int (2 : Int32))] h0 (Q_cmp3_2 Z ca kc c0 c1 h0 n0) := by
  refine own_bd (plainFor_of_name pn_14) fun p e s m below meth c s₁ Bd hx hby hml hown hnm hlk hZ X0 e0 => ?_
  rw [ef_cmp3_2 m ca]
  refine bN s₁ (mkF m 1 #[vr ca, vi 0, vi 2, uu, uu, uu] [(.int (2 : Int32))]) (fun _ k => XS.iloadN X0.here hx rfl (hb hby d14_0) rfl k) ?_
  obtain ⟨T21, h21, k21, X21, e21, E21, A21, st21⟩ := newP X0 hx hZ (hw _ (mo 24 rfl)) e0 (g := (mkF m 1 #[vr ca, vi 0, vi 2, uu, uu, uu] [(.int (2 : Int32))])) rfl (hb hby d14_1) rfl (by decide) (cap := 2) (by decide) (by decide) (by decide) (by decide)
  obtain ⟨b21, g21⟩ : ∃ z, z = h0.size := ⟨_, rfl⟩
  rw [← g21] at A21 st21
  have V_b21 : Arv Z h21 b21 k21 .byte (2 : Int32) [(ii 0), (ii 0)] (ii 0) := (Arv.new A21 (by decide)).pad (pad_rep [] (ii 0) 2)
  have g_b21 : n0 ≤ b21 := Nat.le_trans Z0 (Nat.le_of_eq g21.symm)
  have sz_b21 : h0.size ≤ b21 := Nat.le_trans (Keep.refl h0 []).1 (Nat.le_of_eq g21.symm)
  have K21 : Keep h0 h21 [] := Keep.ext (Keep.refl h0 []) E21
  refine bN T21 (mkF m 3 #[vr ca, vi 0, vi 2, uu, uu, uu] [(.ref b21)]) (fun _ k => st21 _ k) ?_
  refine bN T21 (mkF m 4 #[vr ca, vi 0, vi 2, vr b21, uu, uu] []) (fun _ k => XS.astoreN X21.here hx rfl (hb hby d14_3) rfl rfl rfl k) ?_
  refine bN T21 (mkF m 5 #[vr ca, vi 0, vi 2, vr b21, uu, uu] [(.ref ca)]) (fun _ k => XS.aloadN X21.here hx rfl (hb hby d14_4) rfl rfl k) ?_
  refine bN T21 (mkF m 6 #[vr ca, vi 0, vi 2, vr b21, uu, uu] [(ii 0), (.ref ca)]) (fun _ k => XS.iloadN X21.here hx rfl (hb hby d14_5) rfl k) ?_
  refine bN T21 (mkF m 7 #[vr ca, vi 0, vi 2, vr b21, uu, uu] [(.ref b21), (ii 0), (.ref ca)]) (fun _ k => XS.aloadN X21.here hx rfl (hb hby d14_6) rfl rfl k) ?_
  refine bN T21 (mkF m 8 #[vr ca, vi 0, vi 2, vr b21, uu, uu] [(ii 0), (.ref b21), (ii 0), (.ref ca)]) (fun _ k => XS.iconst X21.here hx rfl (hb hby d14_7) k) ?_
  refine bN T21 (mkF m 9 #[vr ca, vi 0, vi 2, vr b21, uu, uu] [(.int (2 : Int32)), (ii 0), (.ref b21), (ii 0), (.ref ca)]) (fun _ k => XS.iloadN X21.here hx rfl (hb hby d14_8) rfl k) ?_
  obtain ⟨_, _, ⟨T22, L22, k22, n22⟩, -, X22, ⟨Lc22, hQ22, l22, y22, z22⟩, st22⟩ := Jvm.LawKit.callS X21 hx (y := yy2) hown (mvT hZ (hw _ (mo 73 rfl))) (mvT hZ (hw _ (mo 74 rfl))) (mvT hZ (hw _ (mo 71 rfl))) (mvT hZ (hw _ (mo 75 rfl))) (by decide) (backOf (W := 0) (cmpk_2 l Z a0 hw [] ca b21 kc k21 c0 c1 h21 n0 (Nat.le_trans Z0 E21.1) (Arv.ext V_ca E21) V_b21 g_b21 (Nat.ne_of_lt (Nat.lt_of_lt_of_le V_ca.lt (Nat.le_of_eq g21.symm)))) hZ (hw _ (mo 75 rfl)) (hw _ (mo 71 rfl)) (by decide) (by decide)) (g := (mkF m 9 #[vr ca, vi 0, vi 2, vr b21, uu, uu] [(.int (2 : Int32)), (ii 0), (.ref b21), (ii 0), (.ref ca)])) rfl (by rw [hml]; rfl) (argsL := [(.ref ca), (ii 0), (.ref b21), (ii 0), (.int (2 : Int32))]) (rest := []) (lenOf pd_0 rfl) rfl (Nat.le_of_eq rfl) (hb hby d14_9) (fun _ _ => ⟨rfl, e21, (by decide : 1 ≤ _), (by decide : 2 ≤ _)⟩)
  dsimp only [Pt.U, Pt.locs, Pt.cells, Pt.slots] at X22 l22 y22 z22 st22 hQ22
  subst l22 y22 z22
  obtain ⟨vq22, N22q, K22, VI_22⟩ := hQ22
  obtain rfl := vq22.trans (congrArg (fun z => some (Value.int z)) ((if_neg hc0).trans (if_neg hc1)))
  have N22 := Fr.app (Fr.nil n0) N22q
  have KK22 : Keep h0 T22.heap [] := Keep.trans K21 K22 (allS (Or.inr sz_b21) all0)
  have V5_22 := VI_22 ⟨hc0, hc1⟩
  refine bN T22 (mkF m 12 #[vr ca, vi 0, vi 2, vr b21, uu, uu] [(.int (2 : Int32))]) (fun _ k => st22 _ k) ?_
  refine bN T22 (mkF m 14 #[vr ca, vi 0, vi 2, vr b21, vi 2, uu] []) (fun _ k => XS.istore X22.here hx rfl (hb hby d14_12) rfl rfl k) ?_
  refine bN T22 (mkF m 16 #[vr ca, vi 0, vi 2, vr b21, vi 2, uu] [(.int (2 : Int32))]) (fun _ k => XS.iload X22.here hx rfl (hb hby d14_14) rfl k) ?_
  refine bN T22 (mkF m 17 #[vr ca, vi 0, vi 2, vr b21, vi 2, uu] [(.int (2 : Int32)), (.int (2 : Int32))]) (fun _ k => XS.iloadN X22.here hx rfl (hb hby d14_16) rfl k) ?_
  refine bN T22 (mkF m 57 #[vr ca, vi 0, vi 2, vr b21, vi 2, uu] []) (fun _ k => XS.icmpYes X22.here hx rfl (pc0 := 17) (pc' := 57) rfl (hb hby d14_17) rfl (teq (by decide)).1 (by decide) (by decide) k) ?_
  refine bN T22 (mkF m 58 #[vr ca, vi 0, vi 2, vr b21, vi 2, uu] [(.ref b21)]) (fun _ k => XS.aloadN X22.here hx rfl (hb hby d14_57) rfl rfl k) ?_
  refine own_ret X22 hlk (v := some (.ref b21)) (nvr Bd.returns) (fun fs hr => retOut X22 hx Bd.returns rfl (Or.inr (Or.inr (Or.inr (Or.inr ⟨rfl, rfl, rfl⟩)))) (hb hby d14_58) hr) ?_ (by decide) (by decide)
  exact ⟨_, _, rfl, N22, KK22, sz_b21, V5_22⟩
theorem ef_cod_2 (m : MethodId) (ba : Addr) : entryFrame m #[(.ref ba), (.int (2 : Int32))] 2 = mkF m 0 #[vr ba, vi 2] [] := rfl
def Q_cod_2 (Z : State) (ba : Addr) (kb : ClassId) (c0 c1 : Int32) (h0 : Heap) (n0 : Nat) (v : Option Value) (h : Heap) (L : List Loc) : Prop := v = some (ii 0) ∧ Fr n0 L ∧ h = h0
theorem cod_2 (l : Launch) (Z : State) (a0 : Array Value) (hw : HW Z a0) (ws : List Jvm.Cond) (ba : Addr) (kb : ClassId) (c0 c1 : Int32) (h0 : Heap) (n0 : Nat) (Z0 : n0 ≤ h0.size) (V_ba : Arv Z h0 ba kb .byte (2 : Int32) [(.int (nar .byte (c0.toInt8.toInt32))), (.int (nar .byte (c1.toInt8.toInt32)))] (ii 0)) :
    own_M l yy4 jdk_52_method_15_code 2 (some .byte) ws rr0 Z #[(.ref ba), (.int (2 : Int32))] h0 (Q_cod_2 Z ba kb c0 c1 h0 n0) := by
  refine own_bd (plainFor_of_name pn_16) fun p e s m below meth c s₁ Bd hx hby hml hown hnm hlk hZ X0 e0 => ?_
  rw [ef_cod_2 m ba]
  refine bN s₁ (mkF m 1 #[vr ba, vi 2] [(.int (2 : Int32))]) (fun _ k => XS.iloadN X0.here hx rfl (hb hby d16_0) rfl k) ?_
  refine bN s₁ (mkF m 2 #[vr ba, vi 2] [(.ref ba), (.int (2 : Int32))]) (fun _ k => XS.aloadN X0.here hx rfl (hb hby d16_1) rfl rfl k) ?_
  obtain ⟨cl21, Ar21, q21, S21, N_21, H21, G21⟩ := id V_ba
  refine bN s₁ (mkF m 3 #[vr ba, vi 2] [(.int (2 : Int32)), (.int (2 : Int32))]) (fun _ k => X0.arraylength hx (by rw [e0]; exact Ar21.1) (State.isArrayOf_alike hZ.alike Ar21.2.1) (g := (mkF m 2 #[vr ba, vi 2] [(.ref ba), (.int (2 : Int32))])) rfl rfl (hb hby d16_2) _ (by rw [len_of S21 N_21]; exact k)) ?_
  refine bN s₁ (mkF m 4 #[vr ba, vi 2] [(ii 0)]) (fun _ k => XS.isub X0.here hx rfl (hb hby d16_3) rfl k) ?_
  refine bN s₁ (mkF m 6 #[vr ba, vi 2] [(.int (31 : Int32)), (ii 0)]) (fun _ k => XS.bipush X0.here hx rfl (hb hby d16_4) k) ?_
  refine bN s₁ (mkF m 7 #[vr ba, vi 2] [(ii 0)]) (fun _ k => XS.iushr X0.here hx rfl (hb hby d16_6) rfl k) ?_
  refine bN s₁ (mkF m 8 #[vr ba, vi 2] [(ii 0)]) (fun _ k => XS.i2b X0.here hx rfl (hb hby d16_7) rfl k) ?_
  refine own_ret X0 hlk (v := some (ii 0)) (nvr Bd.returns) (fun fs hr => retN X0 hx (t := .byte) Bd.returns (by simp) (hb hby d16_8) hr) ?_ (by decide) (by decide)
  rw [e0]
  exact ⟨rfl, (Fr.nil n0), rfl⟩
theorem ef_sin4_2 (m : MethodId) (a ca : Addr) : entryFrame m #[(.ref a), (.ref ca), (ii 0), (.int (2 : Int32)), .null] 6 = mkF m 0 #[vr a, vr ca, vi 0, vi 2, .val .null, uu] [] := rfl
def Q_sin4_2 (Z : State) (a ca : Addr) (kc : ClassId) (cs c0 c1 : Int32) (h0 : Heap) (n0 : Nat) (v : Option Value) (h : Heap) (L : List Loc) : Prop := v = none ∧ Fr n0 L ∧ Keep h0 h [a] ∧ Fld Z h a "java/lang/String" "coder" "B" (ii 0) ∧ ∃ (t : Addr) (kb : ClassId), h0.size ≤ t ∧ Fld Z h a "java/lang/String" "value" "[B" (.ref t) ∧ Arv Z h t kb .byte (2 : Int32) [(.int (nar .byte (c0.toInt8.toInt32))), (.int (nar .byte (c1.toInt8.toInt32)))] (ii 0)
theorem sin4_2 (l : Launch) (Z : State) (a0 : Array Value) (hw : HW Z a0) (ws : List Jvm.Cond) (a ca : Addr) (kc : ClassId) (cs c0 c1 : Int32) (h0 : Heap) (n0 : Nat) (Z0 : n0 ≤ h0.size) (E_a : Exa Z h0 a "java/lang/String") (F_value_a : Fld Z h0 a "java/lang/String" "value" "[B" .null) (F_coder_a : Fld Z h0 a "java/lang/String" "coder" "B" (ii 0)) (g_a : n0 ≤ a) (V_ca : Arv Z h0 ca kc .char (2 : Int32) [(.int c0), (.int c1)] (ii 0)) (S_CS : Sta Z h0 "java/lang/String" "COMPACT_STRINGS" "Z" (.int cs)) (hcs : ¬ cs = (0 : Int32)) (hc0 : ¬ (255 : Int32) < c0) (hc1 : ¬ (255 : Int32) < c1) :
    own_M l yy5 jdk_42_method_149_code 6 none ws rr10 Z #[(.ref a), (.ref ca), (ii 0), (.int (2 : Int32)), .null] h0 (Q_sin4_2 Z a ca kc cs c0 c1 h0 n0) := by
  refine own_bd (plainFor_of_name pn_4) fun p e s m below meth c s₁ Bd hx hby hml hown hnm hlk hZ X0 e0 => ?_
  rw [ef_sin4_2 m a ca]
  refine bN s₁ (mkF m 1 #[vr a, vr ca, vi 0, vi 2, .val .null, uu] [(.ref a)]) (fun _ k => XS.aloadN X0.here hx rfl (hb hby d4_0) rfl rfl k) ?_
  obtain ⟨T21, X21, e21, st21⟩ := initO X0 hx hZ hown (hw _ (mo 20 rfl)) (hw _ (mo 21 rfl)) (hw _ (mo 22 rfl)) e0 (g := (mkF m 1 #[vr a, vr ca, vi 0, vi 2, .val .null, uu] [(.ref a)])) rfl (by rw [hml]; rfl) rfl (hb hby d4_1) (by decide) (W := 0) (Nat.le_of_eq rfl) (by decide)
  refine bN T21 (mkF m 4 #[vr a, vr ca, vi 0, vi 2, .val .null, uu] []) (fun _ k => st21 _ k) ?_
  refine bN T21 (mkF m 5 #[vr a, vr ca, vi 0, vi 2, .val .null, uu] [(.int (2 : Int32))]) (fun _ k => XS.iloadN X21.here hx rfl (hb hby d4_4) rfl k) ?_
  refine bN T21 (mkF m 27 #[vr a, vr ca, vi 0, vi 2, .val .null, uu] []) (fun _ k => XS.ifYes X21.here hx rfl (pc0 := 5) (pc' := 27) rfl (hb hby d4_5) rfl ((if0 _ _).trans (feq (by decide)).2) (by decide) (by decide) k) ?_
  obtain ⟨T22, X22, e22, st22⟩ := getS2 X21 hx hZ hown (host := "") (Or.inl (hw _ (mo 51 rfl))) Via.refl e21 S_CS (g := (mkF m 27 #[vr a, vr ca, vi 0, vi 2, .val .null, uu] [])) rfl (hb hby d4_27)
  refine bN T22 (mkF m 30 #[vr a, vr ca, vi 0, vi 2, .val .null, uu] [(.int cs)]) (fun _ k => st22 _ k) ?_
  refine bN T22 (mkF m 33 #[vr a, vr ca, vi 0, vi 2, .val .null, uu] []) (fun _ k => XS.ifNo X22.here hx rfl (hb hby d4_30) rfl ((if0 _ _).trans (feq hcs).1) k) ?_
  refine bN T22 (mkF m 34 #[vr a, vr ca, vi 0, vi 2, .val .null, uu] [(.ref ca)]) (fun _ k => XS.aloadN X22.here hx rfl (hb hby d4_33) rfl rfl k) ?_
  refine bN T22 (mkF m 35 #[vr a, vr ca, vi 0, vi 2, .val .null, uu] [(ii 0), (.ref ca)]) (fun _ k => XS.iloadN X22.here hx rfl (hb hby d4_34) rfl k) ?_
  refine bN T22 (mkF m 36 #[vr a, vr ca, vi 0, vi 2, .val .null, uu] [(.int (2 : Int32)), (ii 0), (.ref ca)]) (fun _ k => XS.iloadN X22.here hx rfl (hb hby d4_35) rfl k) ?_
  obtain ⟨_, _, ⟨T23, L23, k23, n23⟩, -, X23, ⟨Lc23, hQ23, l23, y23, z23⟩, st23⟩ := Jvm.LawKit.callS X22 hx (y := yy3) hown (mvT hZ (hw _ (mo 69 rfl))) (mvT hZ (hw _ (mo 70 rfl))) (mvT hZ (hw _ (mo 71 rfl))) (mvT hZ (hw _ (mo 72 rfl))) (by decide) (backOf (W := 0) (cmp3_2 l Z a0 hw [] ca kc c0 c1 h0 n0 Z0 V_ca hc0 hc1) hZ (hw _ (mo 72 rfl)) (hw _ (mo 71 rfl)) (by decide) (by decide)) (g := (mkF m 36 #[vr a, vr ca, vi 0, vi 2, .val .null, uu] [(.int (2 : Int32)), (ii 0), (.ref ca)])) rfl (by rw [hml]; rfl) (argsL := [(.ref ca), (ii 0), (.int (2 : Int32))]) (rest := []) (lenOf pd_1 rfl) rfl (Nat.le_of_eq rfl) (hb hby d4_36) (fun _ _ => ⟨rfl, e22, (by decide : 1 ≤ _), (by decide : 2 ≤ _)⟩)
  dsimp only [Pt.U, Pt.locs, Pt.cells, Pt.slots] at X23 l23 y23 z23 st23 hQ23
  subst l23 y23 z23
  obtain ⟨t23, kb23, rfl, N23q, K23, zt23, V23⟩ := hQ23
  have N23 := Fr.app (Fr.nil n0) N23q
  have KK23 : Keep h0 T23.heap [a] := Keep.trans (Keep.refl h0 [a]) K23 all0
  have sz_t23 : h0.size ≤ t23 := Nat.le_trans (Keep.refl h0 [a]).1 zt23
  have g_t23 : n0 ≤ t23 := Nat.le_trans Z0 sz_t23
  refine bN T23 (mkF m 39 #[vr a, vr ca, vi 0, vi 2, .val .null, uu] [(.ref t23)]) (fun _ k => st23 _ k) ?_
  refine bN T23 (mkF m 41 #[vr a, vr ca, vi 0, vi 2, .val .null, vr t23] []) (fun _ k => XS.astore X23.here hx rfl (hb hby d4_39) rfl rfl rfl k) ?_
  refine bN T23 (mkF m 42 #[vr a, vr ca, vi 0, vi 2, .val .null, vr t23] [(.ref a)]) (fun _ k => XS.aloadN X23.here hx rfl (hb hby d4_41) rfl rfl k) ?_
  refine bN T23 (mkF m 44 #[vr a, vr ca, vi 0, vi 2, .val .null, vr t23] [(.ref t23), (.ref a)]) (fun _ k => XS.aload X23.here hx rfl (hb hby d4_42) rfl rfl k) ?_
  refine bN T23 (mkF m 45 #[vr a, vr ca, vi 0, vi 2, .val .null, vr t23] [(.int (2 : Int32)), (.ref t23), (.ref a)]) (fun _ k => XS.iloadN X23.here hx rfl (hb hby d4_44) rfl k) ?_
  obtain ⟨_, _, ⟨T24, L24, k24, n24⟩, -, X24, ⟨Lc24, hQ24, l24, y24, z24⟩, st24⟩ := Jvm.LawKit.callS X23 hx (y := yy4) hown (mvT hZ (hw _ (mo 76 rfl))) (mvT hZ (hw _ (mo 77 rfl))) (mvT hZ (hw _ (mo 71 rfl))) (mvT hZ (hw _ (mo 78 rfl))) (by decide) (backOf (W := 1) (cod_2 l Z a0 hw [] t23 kb23 c0 c1 T23.heap n0 (Nat.le_trans Z0 K23.1) V23) hZ (hw _ (mo 78 rfl)) (hw _ (mo 71 rfl)) (by decide) (by decide)) (g := (mkF m 45 #[vr a, vr ca, vi 0, vi 2, .val .null, vr t23] [(.int (2 : Int32)), (.ref t23), (.ref a)])) rfl (by rw [hml]; rfl) (argsL := [(.ref t23), (.int (2 : Int32))]) (rest := [(.ref a)]) (lenOf pd_2 rfl) rfl (Nat.le_of_eq rfl) (hb hby d4_45) (fun _ _ => ⟨rfl, rfl, (by decide : 1 ≤ _), (by decide : 2 ≤ _)⟩)
  dsimp only [Pt.U, Pt.locs, Pt.cells, Pt.slots] at X24 l24 y24 z24 st24 hQ24
  subst l24 y24 z24
  obtain ⟨rfl, N24q, e24⟩ := hQ24
  have N24 := Fr.app N23 N24q
  refine bN T24 (mkF m 48 #[vr a, vr ca, vi 0, vi 2, .val .null, vr t23] [(ii 0), (.ref a)]) (fun _ k => st24 _ k) ?_
  obtain ⟨T25, h25, X25, e25, W25, st25⟩ := putFN X24 hx hZ hown (hw _ (mo 30 rfl)) Via.refl e24 (Fld.keep F_coder_a K23 nin0) (Exa.keep E_a K23) (Or.inr ⟨(hw _ (mo 26 rfl)), rfl, hnm⟩) (hw _ (mo 11 rfl)) (ty := .byte) (v' := (ii 0)) (by decide) rfl (by decide) (g := (mkF m 48 #[vr a, vr ca, vi 0, vi 2, .val .null, vr t23] [(ii 0), (.ref a)])) rfl rfl (hb hby d4_48)
  have Fw25 : Fld Z h25 a "java/lang/String" "coder" "B" (ii 0) := Fld.same W25 (Fld.keep F_coder_a K23 nin0)
  have K25 : Keep h0 h25 [a] := Keep.wr KK23 W25 (Or.inl (mo 0 rfl))
  have N25 := Fr.snoc X25 N24 g_a
  refine bN T25 (mkF m 51 #[vr a, vr ca, vi 0, vi 2, .val .null, vr t23] []) (fun _ k => st25 _ k) ?_
  refine bN T25 (mkF m 52 #[vr a, vr ca, vi 0, vi 2, .val .null, vr t23] [(.ref a)]) (fun _ k => XS.aloadN X25.here hx rfl (hb hby d4_51) rfl rfl k) ?_
  refine bN T25 (mkF m 54 #[vr a, vr ca, vi 0, vi 2, .val .null, vr t23] [(.ref t23), (.ref a)]) (fun _ k => XS.aload X25.here hx rfl (hb hby d4_52) rfl rfl k) ?_
  obtain ⟨T26, h26, X26, e26, W26, st26⟩ := putF X25 hx hZ hown (host := "") (Or.inl (hw _ (mo 29 rfl))) Via.refl e25 (Fld.other W25 (Fld.keep F_value_a K23 nin0) (Or.inr (slot_ne (a0 := a0) (Or.inr (hw _ (mo 25 rfl))) (Or.inr (hw _ (mo 26 rfl))) (by decide) (t := (.array .byte)) (t' := .byte) (by decide) (by decide)))) (Exa.wr W25 (Exa.keep E_a K23)) (Or.inr ⟨(hw _ (mo 25 rfl)), rfl, hnm⟩) (hw _ (mo 11 rfl)) (ty := (.array .byte)) (by decide) rfl rfl (g := (mkF m 54 #[vr a, vr ca, vi 0, vi 2, .val .null, vr t23] [(.ref t23), (.ref a)])) rfl rfl (hb hby d4_54)
  have Fw26 : Fld Z h26 a "java/lang/String" "value" "[B" (.ref t23) := Fld.same W26 (Fld.other W25 (Fld.keep F_value_a K23 nin0) (Or.inr (slot_ne (a0 := a0) (Or.inr (hw _ (mo 25 rfl))) (Or.inr (hw _ (mo 26 rfl))) (by decide) (t := (.array .byte)) (t' := .byte) (by decide) (by decide))))
  have K26 : Keep h0 h26 [a] := Keep.wr K25 W26 (Or.inl (mo 0 rfl))
  have N26 := Fr.snoc X26 N25 g_a
  refine bN T26 (mkF m 57 #[vr a, vr ca, vi 0, vi 2, .val .null, vr t23] []) (fun _ k => st26 _ k) ?_
  refine own_ret X26 hlk (v := none) (fun _ => rfl) (fun fs hr => X26.returnOut hx Bd.returns (hb hby d4_57) hr) ?_ (by decide) (by decide)
  rw [e26]
  exact ⟨rfl, N26, K26, (Fld.other W26 Fw25 (Or.inr (slot_ne (a0 := a0) (Or.inr (hw _ (mo 26 rfl))) (Or.inr (hw _ (mo 25 rfl))) (by decide) (t := .byte) (t' := (.array .byte)) (by decide) (by decide)))), _, _, sz_t23, Fw26, (Arv.other (Arv.other V23 W25 (Ne.symm (Nat.ne_of_lt (Nat.lt_of_lt_of_le (E_a).lt zt23)))) W26 (Ne.symm (Nat.ne_of_lt (Nat.lt_of_lt_of_le (E_a).lt zt23))))⟩
theorem ef_sin1_2 (m : MethodId) (a ca : Addr) : entryFrame m #[(.ref a), (.ref ca)] 2 = mkF m 0 #[vr a, vr ca] [] := rfl
def Q_sin1_2 (Z : State) (a ca : Addr) (kc : ClassId) (cs c0 c1 : Int32) (h0 : Heap) (n0 : Nat) (v : Option Value) (h : Heap) (L : List Loc) : Prop := v = none ∧ Fr n0 L ∧ Keep h0 h [a] ∧ Fld Z h a "java/lang/String" "coder" "B" (ii 0) ∧ ∃ (t : Addr) (kb : ClassId), h0.size ≤ t ∧ Fld Z h a "java/lang/String" "value" "[B" (.ref t) ∧ Arv Z h t kb .byte (2 : Int32) [(.int (nar .byte (c0.toInt8.toInt32))), (.int (nar .byte (c1.toInt8.toInt32)))] (ii 0)
theorem sin1_2 (l : Launch) (Z : State) (a0 : Array Value) (hw : HW Z a0) (ws : List Jvm.Cond) (a ca : Addr) (kc : ClassId) (cs c0 c1 : Int32) (h0 : Heap) (n0 : Nat) (Z0 : n0 ≤ h0.size) (E_a : Exa Z h0 a "java/lang/String") (F_value_a : Fld Z h0 a "java/lang/String" "value" "[B" .null) (F_coder_a : Fld Z h0 a "java/lang/String" "coder" "B" (ii 0)) (g_a : n0 ≤ a) (V_ca : Arv Z h0 ca kc .char (2 : Int32) [(.int c0), (.int c1)] (ii 0)) (S_CS : Sta Z h0 "java/lang/String" "COMPACT_STRINGS" "Z" (.int cs)) (hcs : ¬ cs = (0 : Int32)) (hc0 : ¬ (255 : Int32) < c0) (hc1 : ¬ (255 : Int32) < c1) :
    own_M l yy6 jdk_42_method_3_code 2 none ws rr11 Z #[(.ref a), (.ref ca)] h0 (Q_sin1_2 Z a ca kc cs c0 c1 h0 n0) := by
  refine own_bd (plainFor_of_name pn_3) fun p e s m below meth c s₁ Bd hx hby hml hown hnm hlk hZ X0 e0 => ?_
  rw [ef_sin1_2 m a ca]
  refine bN s₁ (mkF m 1 #[vr a, vr ca] [(.ref a)]) (fun _ k => XS.aloadN X0.here hx rfl (hb hby d3_0) rfl rfl k) ?_
  refine bN s₁ (mkF m 2 #[vr a, vr ca] [(.ref ca), (.ref a)]) (fun _ k => XS.aloadN X0.here hx rfl (hb hby d3_1) rfl rfl k) ?_
  refine bN s₁ (mkF m 3 #[vr a, vr ca] [(ii 0), (.ref ca), (.ref a)]) (fun _ k => XS.iconst X0.here hx rfl (hb hby d3_2) k) ?_
  refine bN s₁ (mkF m 4 #[vr a, vr ca] [(.ref ca), (ii 0), (.ref ca), (.ref a)]) (fun _ k => XS.aloadN X0.here hx rfl (hb hby d3_3) rfl rfl k) ?_
  obtain ⟨cl21, Ar21, q21, S21, N_21, H21, G21⟩ := id V_ca
  refine bN s₁ (mkF m 5 #[vr a, vr ca] [(.int (2 : Int32)), (ii 0), (.ref ca), (.ref a)]) (fun _ k => X0.arraylength hx (by rw [e0]; exact Ar21.1) (State.isArrayOf_alike hZ.alike Ar21.2.1) (g := (mkF m 4 #[vr a, vr ca] [(.ref ca), (ii 0), (.ref ca), (.ref a)])) rfl rfl (hb hby d3_4) _ (by rw [len_of S21 N_21]; exact k)) ?_
  refine bN s₁ (mkF m 6 #[vr a, vr ca] [.null, (.int (2 : Int32)), (ii 0), (.ref ca), (.ref a)]) (fun _ k => XS.aconstNull X0.here hx rfl (hb hby d3_5) k) ?_
  obtain ⟨_, _, ⟨T22, L22, k22, n22⟩, -, X22, ⟨Lc22, hQ22, l22, y22, z22⟩, st22⟩ := X0.specialBack hx (y := yy5) rfl hown (mvT hZ (hw _ (mo 16 rfl))) (mvT hZ (hw _ (mo 17 rfl))) (mvT hZ (hw _ (mo 19 rfl))) (by decide) (backOf (W := 0) (sin4_2 l Z a0 hw [] a ca kc cs c0 c1 h0 n0 Z0 E_a F_value_a F_coder_a g_a V_ca S_CS hcs hc0 hc1) hZ (hw _ (mo 19 rfl)) (hw _ (mo 12 rfl)) (by decide) (by decide)) (g := (mkF m 6 #[vr a, vr ca] [.null, (.int (2 : Int32)), (ii 0), (.ref ca), (.ref a)])) rfl (by rw [hml]; rfl) (Steps.refl _) (a := a) (argsL := [(.ref ca), (ii 0), (.int (2 : Int32)), .null]) (rest := []) (lenOf pd_3 rfl) rfl (Nat.le_of_eq rfl) (hb hby d3_6) (fun _ _ => ⟨rfl, e0, (by decide : 1 ≤ _), (by decide : 2 ≤ _)⟩)
  dsimp only [Pt.U, Pt.locs, Pt.cells, Pt.slots] at X22 l22 y22 z22 st22 hQ22
  subst l22 y22 z22
  obtain ⟨rfl, N22q, K22, Fc22, t22, kb22, zt22, Fv22, V22⟩ := hQ22
  have N22 := Fr.app (Fr.nil n0) N22q
  have KK22 : Keep h0 T22.heap [a] := Keep.trans (Keep.refl h0 [a]) K22 (allS (Or.inl (mo 0 rfl)) all0)
  have sz_t22 : h0.size ≤ t22 := zt22
  refine bN T22 (mkF m 9 #[vr a, vr ca] []) (fun _ k => st22.trans k) ?_
  refine own_ret X22 hlk (v := none) (fun _ => rfl) (fun fs hr => X22.returnOut hx Bd.returns (hb hby d3_9) hr) ?_ (by decide) (by decide)
  exact ⟨rfl, N22, KK22, Fc22, _, _, sz_t22, Fv22, V22⟩
theorem ef_cmpk_3 (m : MethodId) (ca ba : Addr) : entryFrame m #[(.ref ca), (ii 0), (.ref ba), (ii 0), (.int (3 : Int32))] 7 = mkF m 0 #[vr ca, vi 0, vr ba, vi 0, vi 3, uu, uu] [] := rfl
def Q_cmpk_3 (Z : State) (ca ba : Addr) (kc kb : ClassId) (c0 c1 c2 : Int32) (h0 : Heap) (n0 : Nat) (v : Option Value) (h : Heap) (L : List Loc) : Prop := v = some (.int (own_k3 c0 c1 c2)) ∧ Fr n0 L ∧ Keep h0 h [ba] ∧ ((¬ (255 : Int32) < c0 ∧ ¬ (255 : Int32) < c1 ∧ ¬ (255 : Int32) < c2) → Arv Z h ba kb .byte (3 : Int32) [(.int (nar .byte (c0.toInt8.toInt32))), (.int (nar .byte (c1.toInt8.toInt32))), (.int (nar .byte (c2.toInt8.toInt32)))] (ii 0))
theorem cmpk_3 (l : Launch) (Z : State) (a0 : Array Value) (hw : HW Z a0) (ws : List Jvm.Cond) (ca ba : Addr) (kc kb : ClassId) (c0 c1 c2 : Int32) (h0 : Heap) (n0 : Nat) (Z0 : n0 ≤ h0.size) (V_ca : Arv Z h0 ca kc .char (3 : Int32) [(.int c0), (.int c1), (.int c2)] (ii 0)) (V_ba : Arv Z h0 ba kb .byte (3 : Int32) [(ii 0), (ii 0), (ii 0)] (ii 0)) (g_ba : n0 ≤ ba) (neab : ca ≠ ba) :
    own_M l yy2 jdk_52_method_21_code 7 (some .int) ws rr0 Z #[(.ref ca), (ii 0), (.ref ba), (ii 0), (.int (3 : Int32))] h0 (Q_cmpk_3 Z ca ba kc kb c0 c1 c2 h0 n0) := by
  refine own_bd (plainFor_of_name pn_15) fun p e s m below meth c s₁ Bd hx hby hml hown hnm hlk hZ X0 e0 => ?_
  rw [ef_cmpk_3 m ca ba]
  refine bN s₁ (mkF m 1 #[vr ca, vi 0, vr ba, vi 0, vi 3, uu, uu] [(ii 0)]) (fun _ k => XS.iconst X0.here hx rfl (hb hby d15_0) k) ?_
  refine bN s₁ (mkF m 3 #[vr ca, vi 0, vr ba, vi 0, vi 3, vi 0, uu] []) (fun _ k => XS.istore X0.here hx rfl (hb hby d15_1) rfl rfl k) ?_
  refine bN s₁ (mkF m 5 #[vr ca, vi 0, vr ba, vi 0, vi 3, vi 0, uu] [(ii 0)]) (fun _ k => XS.iload X0.here hx rfl (hb hby d15_3) rfl k) ?_
  refine bN s₁ (mkF m 7 #[vr ca, vi 0, vr ba, vi 0, vi 3, vi 0, uu] [(.int (3 : Int32)), (ii 0)]) (fun _ k => XS.iload X0.here hx rfl (hb hby d15_5) rfl k) ?_
  refine bN s₁ (mkF m 10 #[vr ca, vi 0, vr ba, vi 0, vi 3, vi 0, uu] []) (fun _ k => XS.icmpNo X0.here hx rfl (hb hby d15_7) rfl (tlt (by decide)).2.1 k) ?_
  refine bN s₁ (mkF m 11 #[vr ca, vi 0, vr ba, vi 0, vi 3, vi 0, uu] [(.ref ca)]) (fun _ k => XS.aloadN X0.here hx rfl (hb hby d15_10) rfl rfl k) ?_
  refine bN s₁ (mkF m 12 #[vr ca, vi 0, vr ba, vi 0, vi 3, vi 0, uu] [(ii 0), (.ref ca)]) (fun _ k => XS.iloadN X0.here hx rfl (hb hby d15_11) rfl k) ?_
  obtain ⟨cl21, Ar21, q21, S21, N_21, H21, G21⟩ := id V_ca
  have hin21 : ¬ ((0 : Int32) < 0 ∨ cl21.slots.size ≤ ((0 : Int32)).toNatClampNeg) := inb_of S21 ⟨by decide, by decide⟩
  refine bN s₁ (mkF m 13 #[vr ca, vi 0, vr ba, vi 0, vi 3, vi 0, uu] [(.int c0)]) (fun _ k => X0.caload hx (j := (0 : Int32)) (v := (.int c0)) (by rw [e0]; exact Ar21.1) (State.isArrayOf_alike hZ.alike Ar21.2.1) Ar21.2.2 hin21 (Has.at H21 hin21 rfl) (g := (mkF m 12 #[vr ca, vi 0, vr ba, vi 0, vi 3, vi 0, uu] [(ii 0), (.ref ca)])) rfl rfl (hb hby d15_12) _ k) ?_
  refine bN s₁ (mkF m 15 #[vr ca, vi 0, vr ba, vi 0, vi 3, vi 0, vi c0] []) (fun _ k => XS.istore X0.here hx rfl (hb hby d15_13) rfl rfl k) ?_
  refine bN s₁ (mkF m 17 #[vr ca, vi 0, vr ba, vi 0, vi 3, vi 0, vi c0] [(.int c0)]) (fun _ k => XS.iload X0.here hx rfl (hb hby d15_15) rfl k) ?_
  refine bN s₁ (mkF m 20 #[vr ca, vi 0, vr ba, vi 0, vi 3, vi 0, vi c0] [(.int (255 : Int32)), (.int c0)]) (fun _ k => XS.sipush X0.here hx rfl (hb hby d15_17) k) ?_
  by_cases hc20_22 : (255 : Int32) < c0
  · skip
    refine bN s₁ (mkF m 23 #[vr ca, vi 0, vr ba, vi 0, vi 3, vi 0, vi c0] []) (fun _ k => XS.icmpNo X0.here hx rfl (hb hby d15_20) rfl (tlt hc20_22).2.2.2 k) ?_
    refine bN s₁ (mkF m 25 #[vr ca, vi 0, vr ba, vi 0, vi 3, vi 0, vi c0] [(ii 0)]) (fun _ k => XS.iload X0.here hx rfl (hb hby d15_23) rfl k) ?_
    refine own_ret X0 hlk (v := some (ii 0)) (nvr Bd.returns) (fun fs hr => retI X0 hx Bd.returns (hb hby d15_25) hr) ?_ (by decide) (by decide)
    rw [e0]
    exact ⟨congrArg (fun z => some (Value.int z)) (if_pos hc20_22).symm, (Fr.nil n0), (Keep.refl h0 [ba]), fun q => absurd hc20_22 q.1⟩
  · skip
    refine bN s₁ (mkF m 26 #[vr ca, vi 0, vr ba, vi 0, vi 3, vi 0, vi c0] []) (fun _ k => XS.icmpYes X0.here hx rfl (pc0 := 20) (pc' := 26) rfl (hb hby d15_20) rfl (flt hc20_22).2.2.2 (by decide) (by decide) k) ?_
    refine bN s₁ (mkF m 27 #[vr ca, vi 0, vr ba, vi 0, vi 3, vi 0, vi c0] [(.ref ba)]) (fun _ k => XS.aloadN X0.here hx rfl (hb hby d15_26) rfl rfl k) ?_
    refine bN s₁ (mkF m 28 #[vr ca, vi 0, vr ba, vi 0, vi 3, vi 0, vi c0] [(ii 0), (.ref ba)]) (fun _ k => XS.iloadN X0.here hx rfl (hb hby d15_27) rfl k) ?_
    refine bN s₁ (mkF m 30 #[vr ca, vi 0, vr ba, vi 0, vi 3, vi 0, vi c0] [(.int c0), (ii 0), (.ref ba)]) (fun _ k => XS.iload X0.here hx rfl (hb hby d15_28) rfl k) ?_
    refine bN s₁ (mkF m 31 #[vr ca, vi 0, vr ba, vi 0, vi 3, vi 0, vi c0] [(.int (c0.toInt8.toInt32)), (ii 0), (.ref ba)]) (fun _ k => XS.i2b X0.here hx rfl (hb hby d15_30) rfl k) ?_
    obtain ⟨cl23, Ar23, q23, S23, N_23, H23, G23⟩ := id V_ba
    have hin23 : ¬ ((0 : Int32) < 0 ∨ cl23.slots.size ≤ ((0 : Int32)).toNatClampNeg) := inb_of S23 ⟨by decide, by decide⟩
    obtain ⟨T24, h24, X24, e24, W24, st24⟩ := stB X0 hx hZ e0 Ar23 (j := (0 : Int32)) hin23 (g := (mkF m 31 #[vr ca, vi 0, vr ba, vi 0, vi 3, vi 0, vi c0] [(.int (c0.toInt8.toInt32)), (ii 0), (.ref ba)])) rfl rfl (hb hby d15_31)
    have V24 : Arv Z h24 ba kb .byte (3 : Int32) [(.int (nar .byte (c0.toInt8.toInt32))), (ii 0), (ii 0)] (ii 0) := Arv.set Ar23 q23 S23 N_23 H23 G23 (fits_nar_byte _) W24 0 rfl (Nat.le_of_ble_eq_true rfl)
    have K24 : Keep h0 h24 [ba] := Keep.wr (Keep.refl h0 [ba]) W24 (Or.inl (mo 0 rfl))
    have N24 := Fr.snoc X24 (Fr.nil n0) g_ba
    refine bN T24 (mkF m 32 #[vr ca, vi 0, vr ba, vi 0, vi 3, vi 0, vi c0] []) (fun _ k => st24 _ k) ?_
    refine bN T24 (mkF m 35 #[vr ca, vi 1, vr ba, vi 0, vi 3, vi 0, vi c0] []) (fun _ k => XS.iinc X24.here hx rfl (hb hby d15_32) rfl rfl k) ?_
    refine bN T24 (mkF m 38 #[vr ca, vi 1, vr ba, vi 1, vi 3, vi 0, vi c0] []) (fun _ k => XS.iinc X24.here hx rfl (hb hby d15_35) rfl rfl k) ?_
    refine bN T24 (mkF m 41 #[vr ca, vi 1, vr ba, vi 1, vi 3, vi 1, vi c0] []) (fun _ k => XS.iinc X24.here hx rfl (hb hby d15_38) rfl rfl k) ?_
    refine bN T24 (mkF m 3 #[vr ca, vi 1, vr ba, vi 1, vi 3, vi 1, vi c0] []) (fun _ k => XS.goto X24.here hx rfl (pc0 := 41) (pc' := 3) rfl (hb hby d15_41) (by decide) (by decide) k) ?_
    refine bN T24 (mkF m 5 #[vr ca, vi 1, vr ba, vi 1, vi 3, vi 1, vi c0] [(.int (1 : Int32))]) (fun _ k => XS.iload X24.here hx rfl (hb hby d15_3) rfl k) ?_
    refine bN T24 (mkF m 7 #[vr ca, vi 1, vr ba, vi 1, vi 3, vi 1, vi c0] [(.int (3 : Int32)), (.int (1 : Int32))]) (fun _ k => XS.iload X24.here hx rfl (hb hby d15_5) rfl k) ?_
    refine bN T24 (mkF m 10 #[vr ca, vi 1, vr ba, vi 1, vi 3, vi 1, vi c0] []) (fun _ k => XS.icmpNo X24.here hx rfl (hb hby d15_7) rfl (tlt (by decide)).2.1 k) ?_
    refine bN T24 (mkF m 11 #[vr ca, vi 1, vr ba, vi 1, vi 3, vi 1, vi c0] [(.ref ca)]) (fun _ k => XS.aloadN X24.here hx rfl (hb hby d15_10) rfl rfl k) ?_
    refine bN T24 (mkF m 12 #[vr ca, vi 1, vr ba, vi 1, vi 3, vi 1, vi c0] [(.int (1 : Int32)), (.ref ca)]) (fun _ k => XS.iloadN X24.here hx rfl (hb hby d15_11) rfl k) ?_
    obtain ⟨cl25, Ar25, q25, S25, N_25, H25, G25⟩ := id (Arv.other V_ca W24 neab)
    have hin25 : ¬ ((1 : Int32) < 0 ∨ cl25.slots.size ≤ ((1 : Int32)).toNatClampNeg) := inb_of S25 ⟨by decide, by decide⟩
    refine bN T24 (mkF m 13 #[vr ca, vi 1, vr ba, vi 1, vi 3, vi 1, vi c0] [(.int c1)]) (fun _ k => X24.caload hx (j := (1 : Int32)) (v := (.int c1)) (by rw [e24]; exact Ar25.1) (State.isArrayOf_alike hZ.alike Ar25.2.1) Ar25.2.2 hin25 (Has.at H25 hin25 rfl) (g := (mkF m 12 #[vr ca, vi 1, vr ba, vi 1, vi 3, vi 1, vi c0] [(.int (1 : Int32)), (.ref ca)])) rfl rfl (hb hby d15_12) _ k) ?_
    refine bN T24 (mkF m 15 #[vr ca, vi 1, vr ba, vi 1, vi 3, vi 1, vi c1] []) (fun _ k => XS.istore X24.here hx rfl (hb hby d15_13) rfl rfl k) ?_
    refine bN T24 (mkF m 17 #[vr ca, vi 1, vr ba, vi 1, vi 3, vi 1, vi c1] [(.int c1)]) (fun _ k => XS.iload X24.here hx rfl (hb hby d15_15) rfl k) ?_
    refine bN T24 (mkF m 20 #[vr ca, vi 1, vr ba, vi 1, vi 3, vi 1, vi c1] [(.int (255 : Int32)), (.int c1)]) (fun _ k => XS.sipush X24.here hx rfl (hb hby d15_17) k) ?_
    by_cases hc20_26 : (255 : Int32) < c1
    · skip
      refine bN T24 (mkF m 23 #[vr ca, vi 1, vr ba, vi 1, vi 3, vi 1, vi c1] []) (fun _ k => XS.icmpNo X24.here hx rfl (hb hby d15_20) rfl (tlt hc20_26).2.2.2 k) ?_
      refine bN T24 (mkF m 25 #[vr ca, vi 1, vr ba, vi 1, vi 3, vi 1, vi c1] [(.int (1 : Int32))]) (fun _ k => XS.iload X24.here hx rfl (hb hby d15_23) rfl k) ?_
      refine own_ret X24 hlk (v := some (.int (1 : Int32))) (nvr Bd.returns) (fun fs hr => retI X24 hx Bd.returns (hb hby d15_25) hr) ?_ (by decide) (by decide)
      rw [e24]
      exact ⟨congrArg (fun z => some (Value.int z)) ((if_neg hc20_22).trans (if_pos hc20_26)).symm, N24, K24, fun q => absurd hc20_26 q.2.1⟩
    · skip
      refine bN T24 (mkF m 26 #[vr ca, vi 1, vr ba, vi 1, vi 3, vi 1, vi c1] []) (fun _ k => XS.icmpYes X24.here hx rfl (pc0 := 20) (pc' := 26) rfl (hb hby d15_20) rfl (flt hc20_26).2.2.2 (by decide) (by decide) k) ?_
      refine bN T24 (mkF m 27 #[vr ca, vi 1, vr ba, vi 1, vi 3, vi 1, vi c1] [(.ref ba)]) (fun _ k => XS.aloadN X24.here hx rfl (hb hby d15_26) rfl rfl k) ?_
      refine bN T24 (mkF m 28 #[vr ca, vi 1, vr ba, vi 1, vi 3, vi 1, vi c1] [(.int (1 : Int32)), (.ref ba)]) (fun _ k => XS.iloadN X24.here hx rfl (hb hby d15_27) rfl k) ?_
      refine bN T24 (mkF m 30 #[vr ca, vi 1, vr ba, vi 1, vi 3, vi 1, vi c1] [(.int c1), (.int (1 : Int32)), (.ref ba)]) (fun _ k => XS.iload X24.here hx rfl (hb hby d15_28) rfl k) ?_
      refine bN T24 (mkF m 31 #[vr ca, vi 1, vr ba, vi 1, vi 3, vi 1, vi c1] [(.int (c1.toInt8.toInt32)), (.int (1 : Int32)), (.ref ba)]) (fun _ k => XS.i2b X24.here hx rfl (hb hby d15_30) rfl k) ?_
      obtain ⟨cl27, Ar27, q27, S27, N_27, H27, G27⟩ := id V24
      have hin27 : ¬ ((1 : Int32) < 0 ∨ cl27.slots.size ≤ ((1 : Int32)).toNatClampNeg) := inb_of S27 ⟨by decide, by decide⟩
      obtain ⟨T28, h28, X28, e28, W28, st28⟩ := stB X24 hx hZ e24 Ar27 (j := (1 : Int32)) hin27 (g := (mkF m 31 #[vr ca, vi 1, vr ba, vi 1, vi 3, vi 1, vi c1] [(.int (c1.toInt8.toInt32)), (.int (1 : Int32)), (.ref ba)])) rfl rfl (hb hby d15_31)
      have V28 : Arv Z h28 ba kb .byte (3 : Int32) [(.int (nar .byte (c0.toInt8.toInt32))), (.int (nar .byte (c1.toInt8.toInt32))), (ii 0)] (ii 0) := Arv.set Ar27 q27 S27 N_27 H27 G27 (fits_nar_byte _) W28 1 rfl (Nat.le_of_ble_eq_true rfl)
      have K28 : Keep h0 h28 [ba] := Keep.wr K24 W28 (Or.inl (mo 0 rfl))
      have N28 := Fr.snoc X28 N24 g_ba
      refine bN T28 (mkF m 32 #[vr ca, vi 1, vr ba, vi 1, vi 3, vi 1, vi c1] []) (fun _ k => st28 _ k) ?_
      refine bN T28 (mkF m 35 #[vr ca, vi 2, vr ba, vi 1, vi 3, vi 1, vi c1] []) (fun _ k => XS.iinc X28.here hx rfl (hb hby d15_32) rfl rfl k) ?_
      refine bN T28 (mkF m 38 #[vr ca, vi 2, vr ba, vi 2, vi 3, vi 1, vi c1] []) (fun _ k => XS.iinc X28.here hx rfl (hb hby d15_35) rfl rfl k) ?_
      refine bN T28 (mkF m 41 #[vr ca, vi 2, vr ba, vi 2, vi 3, vi 2, vi c1] []) (fun _ k => XS.iinc X28.here hx rfl (hb hby d15_38) rfl rfl k) ?_
      refine bN T28 (mkF m 3 #[vr ca, vi 2, vr ba, vi 2, vi 3, vi 2, vi c1] []) (fun _ k => XS.goto X28.here hx rfl (pc0 := 41) (pc' := 3) rfl (hb hby d15_41) (by decide) (by decide) k) ?_
      refine bN T28 (mkF m 5 #[vr ca, vi 2, vr ba, vi 2, vi 3, vi 2, vi c1] [(.int (2 : Int32))]) (fun _ k => XS.iload X28.here hx rfl (hb hby d15_3) rfl k) ?_
      refine bN T28 (mkF m 7 #[vr ca, vi 2, vr ba, vi 2, vi 3, vi 2, vi c1] [(.int (3 : Int32)), (.int (2 : Int32))]) (fun _ k => XS.iload X28.here hx rfl (hb hby d15_5) rfl k) ?_
      refine bN T28 (mkF m 10 #[vr ca, vi 2, vr ba, vi 2, vi 3, vi 2, vi c1] []) (fun _ k => XS.icmpNo X28.here hx rfl (hb hby d15_7) rfl (tlt (by decide)).2.1 k) ?_
      refine bN T28 (mkF m 11 #[vr ca, vi 2, vr ba, vi 2, vi 3, vi 2, vi c1] [(.ref ca)]) (fun _ k => XS.aloadN X28.here hx rfl (hb hby d15_10) rfl rfl k) ?_
      refine bN T28 (mkF m 12 #[vr ca, vi 2, vr ba, vi 2, vi 3, vi 2, vi c1] [(.int (2 : Int32)), (.ref ca)]) (fun _ k => XS.iloadN X28.here hx rfl (hb hby d15_11) rfl k) ?_
      obtain ⟨cl29, Ar29, q29, S29, N_29, H29, G29⟩ := id (Arv.other (Arv.other V_ca W24 neab) W28 neab)
      have hin29 : ¬ ((2 : Int32) < 0 ∨ cl29.slots.size ≤ ((2 : Int32)).toNatClampNeg) := inb_of S29 ⟨by decide, by decide⟩
      refine bN T28 (mkF m 13 #[vr ca, vi 2, vr ba, vi 2, vi 3, vi 2, vi c1] [(.int c2)]) (fun _ k => X28.caload hx (j := (2 : Int32)) (v := (.int c2)) (by rw [e28]; exact Ar29.1) (State.isArrayOf_alike hZ.alike Ar29.2.1) Ar29.2.2 hin29 (Has.at H29 hin29 rfl) (g := (mkF m 12 #[vr ca, vi 2, vr ba, vi 2, vi 3, vi 2, vi c1] [(.int (2 : Int32)), (.ref ca)])) rfl rfl (hb hby d15_12) _ k) ?_
      refine bN T28 (mkF m 15 #[vr ca, vi 2, vr ba, vi 2, vi 3, vi 2, vi c2] []) (fun _ k => XS.istore X28.here hx rfl (hb hby d15_13) rfl rfl k) ?_
      refine bN T28 (mkF m 17 #[vr ca, vi 2, vr ba, vi 2, vi 3, vi 2, vi c2] [(.int c2)]) (fun _ k => XS.iload X28.here hx rfl (hb hby d15_15) rfl k) ?_
      refine bN T28 (mkF m 20 #[vr ca, vi 2, vr ba, vi 2, vi 3, vi 2, vi c2] [(.int (255 : Int32)), (.int c2)]) (fun _ k => XS.sipush X28.here hx rfl (hb hby d15_17) k) ?_
      by_cases hc20_30 : (255 : Int32) < c2
      · skip
        refine bN T28 (mkF m 23 #[vr ca, vi 2, vr ba, vi 2, vi 3, vi 2, vi c2] []) (fun _ k => XS.icmpNo X28.here hx rfl (hb hby d15_20) rfl (tlt hc20_30).2.2.2 k) ?_
        refine bN T28 (mkF m 25 #[vr ca, vi 2, vr ba, vi 2, vi 3, vi 2, vi c2] [(.int (2 : Int32))]) (fun _ k => XS.iload X28.here hx rfl (hb hby d15_23) rfl k) ?_
        refine own_ret X28 hlk (v := some (.int (2 : Int32))) (nvr Bd.returns) (fun fs hr => retI X28 hx Bd.returns (hb hby d15_25) hr) ?_ (by decide) (by decide)
        rw [e28]
        exact ⟨congrArg (fun z => some (Value.int z)) (((if_neg hc20_22).trans (if_neg hc20_26)).trans (if_pos hc20_30)).symm, N28, K28, fun q => absurd hc20_30 q.2.2⟩
      · skip
        refine bN T28 (mkF m 26 #[vr ca, vi 2, vr ba, vi 2, vi 3, vi 2, vi c2] []) (fun _ k => XS.icmpYes X28.here hx rfl (pc0 := 20) (pc' := 26) rfl (hb hby d15_20) rfl (flt hc20_30).2.2.2 (by decide) (by decide) k) ?_
        refine bN T28 (mkF m 27 #[vr ca, vi 2, vr ba, vi 2, vi 3, vi 2, vi c2] [(.ref ba)]) (fun _ k => XS.aloadN X28.here hx rfl (hb hby d15_26) rfl rfl k) ?_
        refine bN T28 (mkF m 28 #[vr ca, vi 2, vr ba, vi 2, vi 3, vi 2, vi c2] [(.int (2 : Int32)), (.ref ba)]) (fun _ k => XS.iloadN X28.here hx rfl (hb hby d15_27) rfl k) ?_
        refine bN T28 (mkF m 30 #[vr ca, vi 2, vr ba, vi 2, vi 3, vi 2, vi c2] [(.int c2), (.int (2 : Int32)), (.ref ba)]) (fun _ k => XS.iload X28.here hx rfl (hb hby d15_28) rfl k) ?_
        refine bN T28 (mkF m 31 #[vr ca, vi 2, vr ba, vi 2, vi 3, vi 2, vi c2] [(.int (c2.toInt8.toInt32)), (.int (2 : Int32)), (.ref ba)]) (fun _ k => XS.i2b X28.here hx rfl (hb hby d15_30) rfl k) ?_
        obtain ⟨cl31, Ar31, q31, S31, N_31, H31, G31⟩ := id V28
        have hin31 : ¬ ((2 : Int32) < 0 ∨ cl31.slots.size ≤ ((2 : Int32)).toNatClampNeg) := inb_of S31 ⟨by decide, by decide⟩
        obtain ⟨T32, h32, X32, e32, W32, st32⟩ := stB X28 hx hZ e28 Ar31 (j := (2 : Int32)) hin31 (g := (mkF m 31 #[vr ca, vi 2, vr ba, vi 2, vi 3, vi 2, vi c2] [(.int (c2.toInt8.toInt32)), (.int (2 : Int32)), (.ref ba)])) rfl rfl (hb hby d15_31)
        have V32 : Arv Z h32 ba kb .byte (3 : Int32) [(.int (nar .byte (c0.toInt8.toInt32))), (.int (nar .byte (c1.toInt8.toInt32))), (.int (nar .byte (c2.toInt8.toInt32)))] (ii 0) := Arv.set Ar31 q31 S31 N_31 H31 G31 (fits_nar_byte _) W32 2 rfl (Nat.le_of_ble_eq_true rfl)
        have K32 : Keep h0 h32 [ba] := Keep.wr K28 W32 (Or.inl (mo 0 rfl))
        have N32 := Fr.snoc X32 N28 g_ba
        refine bN T32 (mkF m 32 #[vr ca, vi 2, vr ba, vi 2, vi 3, vi 2, vi c2] []) (fun _ k => st32 _ k) ?_
        refine bN T32 (mkF m 35 #[vr ca, vi 3, vr ba, vi 2, vi 3, vi 2, vi c2] []) (fun _ k => XS.iinc X32.here hx rfl (hb hby d15_32) rfl rfl k) ?_
        refine bN T32 (mkF m 38 #[vr ca, vi 3, vr ba, vi 3, vi 3, vi 2, vi c2] []) (fun _ k => XS.iinc X32.here hx rfl (hb hby d15_35) rfl rfl k) ?_
        refine bN T32 (mkF m 41 #[vr ca, vi 3, vr ba, vi 3, vi 3, vi 3, vi c2] []) (fun _ k => XS.iinc X32.here hx rfl (hb hby d15_38) rfl rfl k) ?_
        refine bN T32 (mkF m 3 #[vr ca, vi 3, vr ba, vi 3, vi 3, vi 3, vi c2] []) (fun _ k => XS.goto X32.here hx rfl (pc0 := 41) (pc' := 3) rfl (hb hby d15_41) (by decide) (by decide) k) ?_
        refine bN T32 (mkF m 5 #[vr ca, vi 3, vr ba, vi 3, vi 3, vi 3, vi c2] [(.int (3 : Int32))]) (fun _ k => XS.iload X32.here hx rfl (hb hby d15_3) rfl k) ?_
        refine bN T32 (mkF m 7 #[vr ca, vi 3, vr ba, vi 3, vi 3, vi 3, vi c2] [(.int (3 : Int32)), (.int (3 : Int32))]) (fun _ k => XS.iload X32.here hx rfl (hb hby d15_5) rfl k) ?_
        refine bN T32 (mkF m 44 #[vr ca, vi 3, vr ba, vi 3, vi 3, vi 3, vi c2] []) (fun _ k => XS.icmpYes X32.here hx rfl (pc0 := 7) (pc' := 44) rfl (hb hby d15_7) rfl (flt (by decide)).2.1 (by decide) (by decide) k) ?_
        refine bN T32 (mkF m 46 #[vr ca, vi 3, vr ba, vi 3, vi 3, vi 3, vi c2] [(.int (3 : Int32))]) (fun _ k => XS.iload X32.here hx rfl (hb hby d15_44) rfl k) ?_
        refine own_ret X32 hlk (v := some (.int (3 : Int32))) (nvr Bd.returns) (fun fs hr => retI X32 hx Bd.returns (hb hby d15_46) hr) ?_ (by decide) (by decide)
        rw [e32]
        exact ⟨congrArg (fun z => some (Value.int z)) (((if_neg hc20_22).trans (if_neg hc20_26)).trans (if_neg hc20_30)).symm, N32, K32, fun _ => V32⟩
theorem ef_cmp3_3 (m : MethodId) (ca : Addr) : entryFrame m #[(.ref ca), (ii 0), (.int (3 : Int32))] 6 = mkF m 0 #[vr ca, vi 0, vi 3, uu, uu, uu] [] := rfl
def Q_cmp3_3 (Z : State) (ca : Addr) (kc : ClassId) (c0 c1 c2 : Int32) (h0 : Heap) (n0 : Nat) (v : Option Value) (h : Heap) (L : List Loc) : Prop := ∃ (t : Addr) (kb : ClassId), v = some (.ref t) ∧ Fr n0 L ∧ Keep h0 h [] ∧ h0.size ≤ t ∧ Arv Z h t kb .byte (3 : Int32) [(.int (nar .byte (c0.toInt8.toInt32))), (.int (nar .byte (c1.toInt8.toInt32))), (.int (nar .byte (c2.toInt8.toInt32)))] (ii 0)
theorem cmp3_3 (l : Launch) (Z : State) (a0 : Array Value) (hw : HW Z a0) (ws : List Jvm.Cond) (ca : Addr) (kc : ClassId) (c0 c1 c2 : Int32) (h0 : Heap) (n0 : Nat) (Z0 : n0 ≤ h0.size) (V_ca : Arv Z h0 ca kc .char (3 : Int32) [(.int c0), (.int c1), (.int c2)] (ii 0)) (hc0 : ¬ (255 : Int32) < c0) (hc1 : ¬ (255 : Int32) < c1) (hc2 : ¬ (255 : Int32) < c2) :
    own_M l yy3 jdk_52_method_16_code 6 (some (.array .byte)) ws rr12 Z #[(.ref ca), (ii 0), (.int (3 : Int32))] h0 (Q_cmp3_3 Z ca kc c0 c1 c2 h0 n0) := by
  refine own_bd (plainFor_of_name pn_14) fun p e s m below meth c s₁ Bd hx hby hml hown hnm hlk hZ X0 e0 => ?_
  rw [ef_cmp3_3 m ca]
  refine bN s₁ (mkF m 1 #[vr ca, vi 0, vi 3, uu, uu, uu] [(.int (3 : Int32))]) (fun _ k => XS.iloadN X0.here hx rfl (hb hby d14_0) rfl k) ?_
  obtain ⟨T21, h21, k21, X21, e21, E21, A21, st21⟩ := newP X0 hx hZ (hw _ (mo 24 rfl)) e0 (g := (mkF m 1 #[vr ca, vi 0, vi 3, uu, uu, uu] [(.int (3 : Int32))])) rfl (hb hby d14_1) rfl (by decide) (cap := 3) (by decide) (by decide) (by decide) (by decide)
  obtain ⟨b21, g21⟩ : ∃ z, z = h0.size := ⟨_, rfl⟩
  rw [← g21] at A21 st21
  have V_b21 : Arv Z h21 b21 k21 .byte (3 : Int32) [(ii 0), (ii 0), (ii 0)] (ii 0) := (Arv.new A21 (by decide)).pad (pad_rep [] (ii 0) 3)
  have g_b21 : n0 ≤ b21 := Nat.le_trans Z0 (Nat.le_of_eq g21.symm)
  have sz_b21 : h0.size ≤ b21 := Nat.le_trans (Keep.refl h0 []).1 (Nat.le_of_eq g21.symm)
  have K21 : Keep h0 h21 [] := Keep.ext (Keep.refl h0 []) E21
  refine bN T21 (mkF m 3 #[vr ca, vi 0, vi 3, uu, uu, uu] [(.ref b21)]) (fun _ k => st21 _ k) ?_
  refine bN T21 (mkF m 4 #[vr ca, vi 0, vi 3, vr b21, uu, uu] []) (fun _ k => XS.astoreN X21.here hx rfl (hb hby d14_3) rfl rfl rfl k) ?_
  refine bN T21 (mkF m 5 #[vr ca, vi 0, vi 3, vr b21, uu, uu] [(.ref ca)]) (fun _ k => XS.aloadN X21.here hx rfl (hb hby d14_4) rfl rfl k) ?_
  refine bN T21 (mkF m 6 #[vr ca, vi 0, vi 3, vr b21, uu, uu] [(ii 0), (.ref ca)]) (fun _ k => XS.iloadN X21.here hx rfl (hb hby d14_5) rfl k) ?_
  refine bN T21 (mkF m 7 #[vr ca, vi 0, vi 3, vr b21, uu, uu] [(.ref b21), (ii 0), (.ref ca)]) (fun _ k => XS.aloadN X21.here hx rfl (hb hby d14_6) rfl rfl k) ?_
  refine bN T21 (mkF m 8 #[vr ca, vi 0, vi 3, vr b21, uu, uu] [(ii 0), (.ref b21), (ii 0), (.ref ca)]) (fun _ k => XS.iconst X21.here hx rfl (hb hby d14_7) k) ?_
  refine bN T21 (mkF m 9 #[vr ca, vi 0, vi 3, vr b21, uu, uu] [(.int (3 : Int32)), (ii 0), (.ref b21), (ii 0), (.ref ca)]) (fun _ k => XS.iloadN X21.here hx rfl (hb hby d14_8) rfl k) ?_
  obtain ⟨_, _, ⟨T22, L22, k22, n22⟩, -, X22, ⟨Lc22, hQ22, l22, y22, z22⟩, st22⟩ := Jvm.LawKit.callS X21 hx (y := yy2) hown (mvT hZ (hw _ (mo 73 rfl))) (mvT hZ (hw _ (mo 74 rfl))) (mvT hZ (hw _ (mo 71 rfl))) (mvT hZ (hw _ (mo 75 rfl))) (by decide) (backOf (W := 0) (cmpk_3 l Z a0 hw [] ca b21 kc k21 c0 c1 c2 h21 n0 (Nat.le_trans Z0 E21.1) (Arv.ext V_ca E21) V_b21 g_b21 (Nat.ne_of_lt (Nat.lt_of_lt_of_le V_ca.lt (Nat.le_of_eq g21.symm)))) hZ (hw _ (mo 75 rfl)) (hw _ (mo 71 rfl)) (by decide) (by decide)) (g := (mkF m 9 #[vr ca, vi 0, vi 3, vr b21, uu, uu] [(.int (3 : Int32)), (ii 0), (.ref b21), (ii 0), (.ref ca)])) rfl (by rw [hml]; rfl) (argsL := [(.ref ca), (ii 0), (.ref b21), (ii 0), (.int (3 : Int32))]) (rest := []) (lenOf pd_0 rfl) rfl (Nat.le_of_eq rfl) (hb hby d14_9) (fun _ _ => ⟨rfl, e21, (by decide : 1 ≤ _), (by decide : 3 ≤ _)⟩)
  dsimp only [Pt.U, Pt.locs, Pt.cells, Pt.slots] at X22 l22 y22 z22 st22 hQ22
  subst l22 y22 z22
  obtain ⟨vq22, N22q, K22, VI_22⟩ := hQ22
  obtain rfl := vq22.trans (congrArg (fun z => some (Value.int z)) (((if_neg hc0).trans (if_neg hc1)).trans (if_neg hc2)))
  have N22 := Fr.app (Fr.nil n0) N22q
  have KK22 : Keep h0 T22.heap [] := Keep.trans K21 K22 (allS (Or.inr sz_b21) all0)
  have V5_22 := VI_22 ⟨hc0, hc1, hc2⟩
  refine bN T22 (mkF m 12 #[vr ca, vi 0, vi 3, vr b21, uu, uu] [(.int (3 : Int32))]) (fun _ k => st22 _ k) ?_
  refine bN T22 (mkF m 14 #[vr ca, vi 0, vi 3, vr b21, vi 3, uu] []) (fun _ k => XS.istore X22.here hx rfl (hb hby d14_12) rfl rfl k) ?_
  refine bN T22 (mkF m 16 #[vr ca, vi 0, vi 3, vr b21, vi 3, uu] [(.int (3 : Int32))]) (fun _ k => XS.iload X22.here hx rfl (hb hby d14_14) rfl k) ?_
  refine bN T22 (mkF m 17 #[vr ca, vi 0, vi 3, vr b21, vi 3, uu] [(.int (3 : Int32)), (.int (3 : Int32))]) (fun _ k => XS.iloadN X22.here hx rfl (hb hby d14_16) rfl k) ?_
  refine bN T22 (mkF m 57 #[vr ca, vi 0, vi 3, vr b21, vi 3, uu] []) (fun _ k => XS.icmpYes X22.here hx rfl (pc0 := 17) (pc' := 57) rfl (hb hby d14_17) rfl (teq (by decide)).1 (by decide) (by decide) k) ?_
  refine bN T22 (mkF m 58 #[vr ca, vi 0, vi 3, vr b21, vi 3, uu] [(.ref b21)]) (fun _ k => XS.aloadN X22.here hx rfl (hb hby d14_57) rfl rfl k) ?_
  refine own_ret X22 hlk (v := some (.ref b21)) (nvr Bd.returns) (fun fs hr => retOut X22 hx Bd.returns rfl (Or.inr (Or.inr (Or.inr (Or.inr ⟨rfl, rfl, rfl⟩)))) (hb hby d14_58) hr) ?_ (by decide) (by decide)
  exact ⟨_, _, rfl, N22, KK22, sz_b21, V5_22⟩
theorem ef_cod_3 (m : MethodId) (ba : Addr) : entryFrame m #[(.ref ba), (.int (3 : Int32))] 2 = mkF m 0 #[vr ba, vi 3] [] := rfl
def Q_cod_3 (Z : State) (ba : Addr) (kb : ClassId) (c0 c1 c2 : Int32) (h0 : Heap) (n0 : Nat) (v : Option Value) (h : Heap) (L : List Loc) : Prop := v = some (ii 0) ∧ Fr n0 L ∧ h = h0
theorem cod_3 (l : Launch) (Z : State) (a0 : Array Value) (hw : HW Z a0) (ws : List Jvm.Cond) (ba : Addr) (kb : ClassId) (c0 c1 c2 : Int32) (h0 : Heap) (n0 : Nat) (Z0 : n0 ≤ h0.size) (V_ba : Arv Z h0 ba kb .byte (3 : Int32) [(.int (nar .byte (c0.toInt8.toInt32))), (.int (nar .byte (c1.toInt8.toInt32))), (.int (nar .byte (c2.toInt8.toInt32)))] (ii 0)) :
    own_M l yy4 jdk_52_method_15_code 2 (some .byte) ws rr0 Z #[(.ref ba), (.int (3 : Int32))] h0 (Q_cod_3 Z ba kb c0 c1 c2 h0 n0) := by
  refine own_bd (plainFor_of_name pn_16) fun p e s m below meth c s₁ Bd hx hby hml hown hnm hlk hZ X0 e0 => ?_
  rw [ef_cod_3 m ba]
  refine bN s₁ (mkF m 1 #[vr ba, vi 3] [(.int (3 : Int32))]) (fun _ k => XS.iloadN X0.here hx rfl (hb hby d16_0) rfl k) ?_
  refine bN s₁ (mkF m 2 #[vr ba, vi 3] [(.ref ba), (.int (3 : Int32))]) (fun _ k => XS.aloadN X0.here hx rfl (hb hby d16_1) rfl rfl k) ?_
  obtain ⟨cl21, Ar21, q21, S21, N_21, H21, G21⟩ := id V_ba
  refine bN s₁ (mkF m 3 #[vr ba, vi 3] [(.int (3 : Int32)), (.int (3 : Int32))]) (fun _ k => X0.arraylength hx (by rw [e0]; exact Ar21.1) (State.isArrayOf_alike hZ.alike Ar21.2.1) (g := (mkF m 2 #[vr ba, vi 3] [(.ref ba), (.int (3 : Int32))])) rfl rfl (hb hby d16_2) _ (by rw [len_of S21 N_21]; exact k)) ?_
  refine bN s₁ (mkF m 4 #[vr ba, vi 3] [(ii 0)]) (fun _ k => XS.isub X0.here hx rfl (hb hby d16_3) rfl k) ?_
  refine bN s₁ (mkF m 6 #[vr ba, vi 3] [(.int (31 : Int32)), (ii 0)]) (fun _ k => XS.bipush X0.here hx rfl (hb hby d16_4) k) ?_
  refine bN s₁ (mkF m 7 #[vr ba, vi 3] [(ii 0)]) (fun _ k => XS.iushr X0.here hx rfl (hb hby d16_6) rfl k) ?_
  refine bN s₁ (mkF m 8 #[vr ba, vi 3] [(ii 0)]) (fun _ k => XS.i2b X0.here hx rfl (hb hby d16_7) rfl k) ?_
  refine own_ret X0 hlk (v := some (ii 0)) (nvr Bd.returns) (fun fs hr => retN X0 hx (t := .byte) Bd.returns (by simp) (hb hby d16_8) hr) ?_ (by decide) (by decide)
  rw [e0]
  exact ⟨rfl, (Fr.nil n0), rfl⟩
theorem ef_sin4_3 (m : MethodId) (a ca : Addr) : entryFrame m #[(.ref a), (.ref ca), (ii 0), (.int (3 : Int32)), .null] 6 = mkF m 0 #[vr a, vr ca, vi 0, vi 3, .val .null, uu] [] := rfl
def Q_sin4_3 (Z : State) (a ca : Addr) (kc : ClassId) (cs c0 : Int32) (c1 c2 : Int32) (h0 : Heap) (n0 : Nat) (v : Option Value) (h : Heap) (L : List Loc) : Prop := v = none ∧ Fr n0 L ∧ Keep h0 h [a] ∧ Fld Z h a "java/lang/String" "coder" "B" (ii 0) ∧ ∃ (t : Addr) (kb : ClassId), h0.size ≤ t ∧ Fld Z h a "java/lang/String" "value" "[B" (.ref t) ∧ Arv Z h t kb .byte (3 : Int32) [(.int (nar .byte (c0.toInt8.toInt32))), (.int (nar .byte (c1.toInt8.toInt32))), (.int (nar .byte (c2.toInt8.toInt32)))] (ii 0)
theorem sin4_3 (l : Launch) (Z : State) (a0 : Array Value) (hw : HW Z a0) (ws : List Jvm.Cond) (a ca : Addr) (kc : ClassId) (cs c0 : Int32) (c1 c2 : Int32) (h0 : Heap) (n0 : Nat) (Z0 : n0 ≤ h0.size) (E_a : Exa Z h0 a "java/lang/String") (F_value_a : Fld Z h0 a "java/lang/String" "value" "[B" .null) (F_coder_a : Fld Z h0 a "java/lang/String" "coder" "B" (ii 0)) (g_a : n0 ≤ a) (V_ca : Arv Z h0 ca kc .char (3 : Int32) [(.int c0), (.int c1), (.int c2)] (ii 0)) (S_CS : Sta Z h0 "java/lang/String" "COMPACT_STRINGS" "Z" (.int cs)) (hcs : ¬ cs = (0 : Int32)) (hc0 : ¬ (255 : Int32) < c0) (hc1 : ¬ (255 : Int32) < c1) (hc2 : ¬ (255 : Int32) < c2) :
    own_M l yy5 jdk_42_method_149_code 6 none ws rr13 Z #[(.ref a), (.ref ca), (ii 0), (.int (3 : Int32)), .null] h0 (Q_sin4_3 Z a ca kc cs c0 c1 c2 h0 n0) := by
  refine own_bd (plainFor_of_name pn_4) fun p e s m below meth c s₁ Bd hx hby hml hown hnm hlk hZ X0 e0 => ?_
  rw [ef_sin4_3 m a ca]
  refine bN s₁ (mkF m 1 #[vr a, vr ca, vi 0, vi 3, .val .null, uu] [(.ref a)]) (fun _ k => XS.aloadN X0.here hx rfl (hb hby d4_0) rfl rfl k) ?_
  obtain ⟨T21, X21, e21, st21⟩ := initO X0 hx hZ hown (hw _ (mo 20 rfl)) (hw _ (mo 21 rfl)) (hw _ (mo 22 rfl)) e0 (g := (mkF m 1 #[vr a, vr ca, vi 0, vi 3, .val .null, uu] [(.ref a)])) rfl (by rw [hml]; rfl) rfl (hb hby d4_1) (by decide) (W := 0) (Nat.le_of_eq rfl) (by decide)
  refine bN T21 (mkF m 4 #[vr a, vr ca, vi 0, vi 3, .val .null, uu] []) (fun _ k => st21 _ k) ?_
  refine bN T21 (mkF m 5 #[vr a, vr ca, vi 0, vi 3, .val .null, uu] [(.int (3 : Int32))]) (fun _ k => XS.iloadN X21.here hx rfl (hb hby d4_4) rfl k) ?_
  refine bN T21 (mkF m 27 #[vr a, vr ca, vi 0, vi 3, .val .null, uu] []) (fun _ k => XS.ifYes X21.here hx rfl (pc0 := 5) (pc' := 27) rfl (hb hby d4_5) rfl ((if0 _ _).trans (feq (by decide)).2) (by decide) (by decide) k) ?_
  obtain ⟨T22, X22, e22, st22⟩ := getS2 X21 hx hZ hown (host := "") (Or.inl (hw _ (mo 51 rfl))) Via.refl e21 S_CS (g := (mkF m 27 #[vr a, vr ca, vi 0, vi 3, .val .null, uu] [])) rfl (hb hby d4_27)
  refine bN T22 (mkF m 30 #[vr a, vr ca, vi 0, vi 3, .val .null, uu] [(.int cs)]) (fun _ k => st22 _ k) ?_
  refine bN T22 (mkF m 33 #[vr a, vr ca, vi 0, vi 3, .val .null, uu] []) (fun _ k => XS.ifNo X22.here hx rfl (hb hby d4_30) rfl ((if0 _ _).trans (feq hcs).1) k) ?_
  refine bN T22 (mkF m 34 #[vr a, vr ca, vi 0, vi 3, .val .null, uu] [(.ref ca)]) (fun _ k => XS.aloadN X22.here hx rfl (hb hby d4_33) rfl rfl k) ?_
  refine bN T22 (mkF m 35 #[vr a, vr ca, vi 0, vi 3, .val .null, uu] [(ii 0), (.ref ca)]) (fun _ k => XS.iloadN X22.here hx rfl (hb hby d4_34) rfl k) ?_
  refine bN T22 (mkF m 36 #[vr a, vr ca, vi 0, vi 3, .val .null, uu] [(.int (3 : Int32)), (ii 0), (.ref ca)]) (fun _ k => XS.iloadN X22.here hx rfl (hb hby d4_35) rfl k) ?_
  obtain ⟨_, _, ⟨T23, L23, k23, n23⟩, -, X23, ⟨Lc23, hQ23, l23, y23, z23⟩, st23⟩ := Jvm.LawKit.callS X22 hx (y := yy3) hown (mvT hZ (hw _ (mo 69 rfl))) (mvT hZ (hw _ (mo 70 rfl))) (mvT hZ (hw _ (mo 71 rfl))) (mvT hZ (hw _ (mo 72 rfl))) (by decide) (backOf (W := 0) (cmp3_3 l Z a0 hw [] ca kc c0 c1 c2 h0 n0 Z0 V_ca hc0 hc1 hc2) hZ (hw _ (mo 72 rfl)) (hw _ (mo 71 rfl)) (by decide) (by decide)) (g := (mkF m 36 #[vr a, vr ca, vi 0, vi 3, .val .null, uu] [(.int (3 : Int32)), (ii 0), (.ref ca)])) rfl (by rw [hml]; rfl) (argsL := [(.ref ca), (ii 0), (.int (3 : Int32))]) (rest := []) (lenOf pd_1 rfl) rfl (Nat.le_of_eq rfl) (hb hby d4_36) (fun _ _ => ⟨rfl, e22, (by decide : 1 ≤ _), (by decide : 3 ≤ _)⟩)
  dsimp only [Pt.U, Pt.locs, Pt.cells, Pt.slots] at X23 l23 y23 z23 st23 hQ23
  subst l23 y23 z23
  obtain ⟨t23, kb23, rfl, N23q, K23, zt23, V23⟩ := hQ23
  have N23 := Fr.app (Fr.nil n0) N23q
  have KK23 : Keep h0 T23.heap [a] := Keep.trans (Keep.refl h0 [a]) K23 all0
  have sz_t23 : h0.size ≤ t23 := Nat.le_trans (Keep.refl h0 [a]).1 zt23
  have g_t23 : n0 ≤ t23 := Nat.le_trans Z0 sz_t23
  refine bN T23 (mkF m 39 #[vr a, vr ca, vi 0, vi 3, .val .null, uu] [(.ref t23)]) (fun _ k => st23 _ k) ?_
  refine bN T23 (mkF m 41 #[vr a, vr ca, vi 0, vi 3, .val .null, vr t23] []) (fun _ k => XS.astore X23.here hx rfl (hb hby d4_39) rfl rfl rfl k) ?_
  refine bN T23 (mkF m 42 #[vr a, vr ca, vi 0, vi 3, .val .null, vr t23] [(.ref a)]) (fun _ k => XS.aloadN X23.here hx rfl (hb hby d4_41) rfl rfl k) ?_
  refine bN T23 (mkF m 44 #[vr a, vr ca, vi 0, vi 3, .val .null, vr t23] [(.ref t23), (.ref a)]) (fun _ k => XS.aload X23.here hx rfl (hb hby d4_42) rfl rfl k) ?_
  refine bN T23 (mkF m 45 #[vr a, vr ca, vi 0, vi 3, .val .null, vr t23] [(.int (3 : Int32)), (.ref t23), (.ref a)]) (fun _ k => XS.iloadN X23.here hx rfl (hb hby d4_44) rfl k) ?_
  obtain ⟨_, _, ⟨T24, L24, k24, n24⟩, -, X24, ⟨Lc24, hQ24, l24, y24, z24⟩, st24⟩ := Jvm.LawKit.callS X23 hx (y := yy4) hown (mvT hZ (hw _ (mo 76 rfl))) (mvT hZ (hw _ (mo 77 rfl))) (mvT hZ (hw _ (mo 71 rfl))) (mvT hZ (hw _ (mo 78 rfl))) (by decide) (backOf (W := 1) (cod_3 l Z a0 hw [] t23 kb23 c0 c1 c2 T23.heap n0 (Nat.le_trans Z0 K23.1) V23) hZ (hw _ (mo 78 rfl)) (hw _ (mo 71 rfl)) (by decide) (by decide)) (g := (mkF m 45 #[vr a, vr ca, vi 0, vi 3, .val .null, vr t23] [(.int (3 : Int32)), (.ref t23), (.ref a)])) rfl (by rw [hml]; rfl) (argsL := [(.ref t23), (.int (3 : Int32))]) (rest := [(.ref a)]) (lenOf pd_2 rfl) rfl (Nat.le_of_eq rfl) (hb hby d4_45) (fun _ _ => ⟨rfl, rfl, (by decide : 1 ≤ _), (by decide : 3 ≤ _)⟩)
  dsimp only [Pt.U, Pt.locs, Pt.cells, Pt.slots] at X24 l24 y24 z24 st24 hQ24
  subst l24 y24 z24
  obtain ⟨rfl, N24q, e24⟩ := hQ24
  have N24 := Fr.app N23 N24q
  refine bN T24 (mkF m 48 #[vr a, vr ca, vi 0, vi 3, .val .null, vr t23] [(ii 0), (.ref a)]) (fun _ k => st24 _ k) ?_
  obtain ⟨T25, h25, X25, e25, W25, st25⟩ := putFN X24 hx hZ hown (hw _ (mo 30 rfl)) Via.refl e24 (Fld.keep F_coder_a K23 nin0) (Exa.keep E_a K23) (Or.inr ⟨(hw _ (mo 26 rfl)), rfl, hnm⟩) (hw _ (mo 11 rfl)) (ty := .byte) (v' := (ii 0)) (by decide) rfl (by decide) (g := (mkF m 48 #[vr a, vr ca, vi 0, vi 3, .val .null, vr t23] [(ii 0), (.ref a)])) rfl rfl (hb hby d4_48)
  have Fw25 : Fld Z h25 a "java/lang/String" "coder" "B" (ii 0) := Fld.same W25 (Fld.keep F_coder_a K23 nin0)
  have K25 : Keep h0 h25 [a] := Keep.wr KK23 W25 (Or.inl (mo 0 rfl))
  have N25 := Fr.snoc X25 N24 g_a
  refine bN T25 (mkF m 51 #[vr a, vr ca, vi 0, vi 3, .val .null, vr t23] []) (fun _ k => st25 _ k) ?_
  refine bN T25 (mkF m 52 #[vr a, vr ca, vi 0, vi 3, .val .null, vr t23] [(.ref a)]) (fun _ k => XS.aloadN X25.here hx rfl (hb hby d4_51) rfl rfl k) ?_
  refine bN T25 (mkF m 54 #[vr a, vr ca, vi 0, vi 3, .val .null, vr t23] [(.ref t23), (.ref a)]) (fun _ k => XS.aload X25.here hx rfl (hb hby d4_52) rfl rfl k) ?_
  obtain ⟨T26, h26, X26, e26, W26, st26⟩ := putF X25 hx hZ hown (host := "") (Or.inl (hw _ (mo 29 rfl))) Via.refl e25 (Fld.other W25 (Fld.keep F_value_a K23 nin0) (Or.inr (slot_ne (a0 := a0) (Or.inr (hw _ (mo 25 rfl))) (Or.inr (hw _ (mo 26 rfl))) (by decide) (t := (.array .byte)) (t' := .byte) (by decide) (by decide)))) (Exa.wr W25 (Exa.keep E_a K23)) (Or.inr ⟨(hw _ (mo 25 rfl)), rfl, hnm⟩) (hw _ (mo 11 rfl)) (ty := (.array .byte)) (by decide) rfl rfl (g := (mkF m 54 #[vr a, vr ca, vi 0, vi 3, .val .null, vr t23] [(.ref t23), (.ref a)])) rfl rfl (hb hby d4_54)
  have Fw26 : Fld Z h26 a "java/lang/String" "value" "[B" (.ref t23) := Fld.same W26 (Fld.other W25 (Fld.keep F_value_a K23 nin0) (Or.inr (slot_ne (a0 := a0) (Or.inr (hw _ (mo 25 rfl))) (Or.inr (hw _ (mo 26 rfl))) (by decide) (t := (.array .byte)) (t' := .byte) (by decide) (by decide))))
  have K26 : Keep h0 h26 [a] := Keep.wr K25 W26 (Or.inl (mo 0 rfl))
  have N26 := Fr.snoc X26 N25 g_a
  refine bN T26 (mkF m 57 #[vr a, vr ca, vi 0, vi 3, .val .null, vr t23] []) (fun _ k => st26 _ k) ?_
  refine own_ret X26 hlk (v := none) (fun _ => rfl) (fun fs hr => X26.returnOut hx Bd.returns (hb hby d4_57) hr) ?_ (by decide) (by decide)
  rw [e26]
  exact ⟨rfl, N26, K26, (Fld.other W26 Fw25 (Or.inr (slot_ne (a0 := a0) (Or.inr (hw _ (mo 26 rfl))) (Or.inr (hw _ (mo 25 rfl))) (by decide) (t := .byte) (t' := (.array .byte)) (by decide) (by decide)))), _, _, sz_t23, Fw26, (Arv.other (Arv.other V23 W25 (Ne.symm (Nat.ne_of_lt (Nat.lt_of_lt_of_le (E_a).lt zt23)))) W26 (Ne.symm (Nat.ne_of_lt (Nat.lt_of_lt_of_le (E_a).lt zt23))))⟩
theorem ef_sin1_3 (m : MethodId) (a ca : Addr) : entryFrame m #[(.ref a), (.ref ca)] 2 = mkF m 0 #[vr a, vr ca] [] := rfl
def Q_sin1_3 (Z : State) (a ca : Addr) (kc : ClassId) (cs c0 : Int32) (c1 c2 : Int32) (h0 : Heap) (n0 : Nat) (v : Option Value) (h : Heap) (L : List Loc) : Prop := v = none ∧ Fr n0 L ∧ Keep h0 h [a] ∧ Fld Z h a "java/lang/String" "coder" "B" (ii 0) ∧ ∃ (t : Addr) (kb : ClassId), h0.size ≤ t ∧ Fld Z h a "java/lang/String" "value" "[B" (.ref t) ∧ Arv Z h t kb .byte (3 : Int32) [(.int (nar .byte (c0.toInt8.toInt32))), (.int (nar .byte (c1.toInt8.toInt32))), (.int (nar .byte (c2.toInt8.toInt32)))] (ii 0)
theorem sin1_3 (l : Launch) (Z : State) (a0 : Array Value) (hw : HW Z a0) (ws : List Jvm.Cond) (a ca : Addr) (kc : ClassId) (cs c0 : Int32) (c1 c2 : Int32) (h0 : Heap) (n0 : Nat) (Z0 : n0 ≤ h0.size) (E_a : Exa Z h0 a "java/lang/String") (F_value_a : Fld Z h0 a "java/lang/String" "value" "[B" .null) (F_coder_a : Fld Z h0 a "java/lang/String" "coder" "B" (ii 0)) (g_a : n0 ≤ a) (V_ca : Arv Z h0 ca kc .char (3 : Int32) [(.int c0), (.int c1), (.int c2)] (ii 0)) (S_CS : Sta Z h0 "java/lang/String" "COMPACT_STRINGS" "Z" (.int cs)) (hcs : ¬ cs = (0 : Int32)) (hc0 : ¬ (255 : Int32) < c0) (hc1 : ¬ (255 : Int32) < c1) (hc2 : ¬ (255 : Int32) < c2) :
    own_M l yy6 jdk_42_method_3_code 2 none ws rr14 Z #[(.ref a), (.ref ca)] h0 (Q_sin1_3 Z a ca kc cs c0 c1 c2 h0 n0) := by
  refine own_bd (plainFor_of_name pn_3) fun p e s m below meth c s₁ Bd hx hby hml hown hnm hlk hZ X0 e0 => ?_
  rw [ef_sin1_3 m a ca]
  refine bN s₁ (mkF m 1 #[vr a, vr ca] [(.ref a)]) (fun _ k => XS.aloadN X0.here hx rfl (hb hby d3_0) rfl rfl k) ?_
  refine bN s₁ (mkF m 2 #[vr a, vr ca] [(.ref ca), (.ref a)]) (fun _ k => XS.aloadN X0.here hx rfl (hb hby d3_1) rfl rfl k) ?_
  refine bN s₁ (mkF m 3 #[vr a, vr ca] [(ii 0), (.ref ca), (.ref a)]) (fun _ k => XS.iconst X0.here hx rfl (hb hby d3_2) k) ?_
  refine bN s₁ (mkF m 4 #[vr a, vr ca] [(.ref ca), (ii 0), (.ref ca), (.ref a)]) (fun _ k => XS.aloadN X0.here hx rfl (hb hby d3_3) rfl rfl k) ?_
  obtain ⟨cl21, Ar21, q21, S21, N_21, H21, G21⟩ := id V_ca
  refine bN s₁ (mkF m 5 #[vr a, vr ca] [(.int (3 : Int32)), (ii 0), (.ref ca), (.ref a)]) (fun _ k => X0.arraylength hx (by rw [e0]; exact Ar21.1) (State.isArrayOf_alike hZ.alike Ar21.2.1) (g := (mkF m 4 #[vr a, vr ca] [(.ref ca), (ii 0), (.ref ca), (.ref a)])) rfl rfl (hb hby d3_4) _ (by rw [len_of S21 N_21]; exact k)) ?_
  refine bN s₁ (mkF m 6 #[vr a, vr ca] [.null, (.int (3 : Int32)), (ii 0), (.ref ca), (.ref a)]) (fun _ k => XS.aconstNull X0.here hx rfl (hb hby d3_5) k) ?_
  obtain ⟨_, _, ⟨T22, L22, k22, n22⟩, -, X22, ⟨Lc22, hQ22, l22, y22, z22⟩, st22⟩ := X0.specialBack hx (y := yy5) rfl hown (mvT hZ (hw _ (mo 16 rfl))) (mvT hZ (hw _ (mo 17 rfl))) (mvT hZ (hw _ (mo 19 rfl))) (by decide) (backOf (W := 0) (sin4_3 l Z a0 hw [] a ca kc cs c0 c1 c2 h0 n0 Z0 E_a F_value_a F_coder_a g_a V_ca S_CS hcs hc0 hc1 hc2) hZ (hw _ (mo 19 rfl)) (hw _ (mo 12 rfl)) (by decide) (by decide)) (g := (mkF m 6 #[vr a, vr ca] [.null, (.int (3 : Int32)), (ii 0), (.ref ca), (.ref a)])) rfl (by rw [hml]; rfl) (Steps.refl _) (a := a) (argsL := [(.ref ca), (ii 0), (.int (3 : Int32)), .null]) (rest := []) (lenOf pd_3 rfl) rfl (Nat.le_of_eq rfl) (hb hby d3_6) (fun _ _ => ⟨rfl, e0, (by decide : 1 ≤ _), (by decide : 3 ≤ _)⟩)
  dsimp only [Pt.U, Pt.locs, Pt.cells, Pt.slots] at X22 l22 y22 z22 st22 hQ22
  subst l22 y22 z22
  obtain ⟨rfl, N22q, K22, Fc22, t22, kb22, zt22, Fv22, V22⟩ := hQ22
  have N22 := Fr.app (Fr.nil n0) N22q
  have KK22 : Keep h0 T22.heap [a] := Keep.trans (Keep.refl h0 [a]) K22 (allS (Or.inl (mo 0 rfl)) all0)
  have sz_t22 : h0.size ≤ t22 := zt22
  refine bN T22 (mkF m 9 #[vr a, vr ca] []) (fun _ k => st22.trans k) ?_
  refine own_ret X22 hlk (v := none) (fun _ => rfl) (fun fs hr => X22.returnOut hx Bd.returns (hb hby d3_9) hr) ?_ (by decide) (by decide)
  exact ⟨rfl, N22, KK22, Fc22, _, _, sz_t22, Fv22, V22⟩
theorem ef_cmpk_4 (m : MethodId) (ca ba : Addr) : entryFrame m #[(.ref ca), (ii 0), (.ref ba), (ii 0), (.int (4 : Int32))] 7 = mkF m 0 #[vr ca, vi 0, vr ba, vi 0, vi 4, uu, uu] [] := rfl
def Q_cmpk_4 (Z : State) (ca ba : Addr) (kc kb : ClassId) (c0 c1 : Int32) (c2 c3 : Int32) (h0 : Heap) (n0 : Nat) (v : Option Value) (h : Heap) (L : List Loc) : Prop := v = some (.int (own_k4 c0 c1 c2 c3)) ∧ Fr n0 L ∧ Keep h0 h [ba] ∧ ((¬ (255 : Int32) < c0 ∧ ¬ (255 : Int32) < c1 ∧ ¬ (255 : Int32) < c2 ∧ ¬ (255 : Int32) < c3) → Arv Z h ba kb .byte (4 : Int32) [(.int (nar .byte (c0.toInt8.toInt32))), (.int (nar .byte (c1.toInt8.toInt32))), (.int (nar .byte (c2.toInt8.toInt32))), (.int (nar .byte (c3.toInt8.toInt32)))] (ii 0))
theorem cmpk_4 (l : Launch) (Z : State) (a0 : Array Value) (hw : HW Z a0) (ws : List Jvm.Cond) (ca ba : Addr) (kc kb : ClassId) (c0 c1 : Int32) (c2 c3 : Int32) (h0 : Heap) (n0 : Nat) (Z0 : n0 ≤ h0.size) (V_ca : Arv Z h0 ca kc .char (4 : Int32) [(.int c0), (.int c1), (.int c2), (.int c3)] (ii 0)) (V_ba : Arv Z h0 ba kb .byte (4 : Int32) [(ii 0), (ii 0), (ii 0), (ii 0)] (ii 0)) (g_ba : n0 ≤ ba) (neab : ca ≠ ba) :
    own_M l yy2 jdk_52_method_21_code 7 (some .int) ws rr0 Z #[(.ref ca), (ii 0), (.ref ba), (ii 0), (.int (4 : Int32))] h0 (Q_cmpk_4 Z ca ba kc kb c0 c1 c2 c3 h0 n0) := by
  refine own_bd (plainFor_of_name pn_15) fun p e s m below meth c s₁ Bd hx hby hml hown hnm hlk hZ X0 e0 => ?_
  rw [ef_cmpk_4 m ca ba]
  refine bN s₁ (mkF m 1 #[vr ca, vi 0, vr ba, vi 0, vi 4, uu, uu] [(ii 0)]) (fun _ k => XS.iconst X0.here hx rfl (hb hby d15_0) k) ?_
  refine bN s₁ (mkF m 3 #[vr ca, vi 0, vr ba, vi 0, vi 4, vi 0, uu] []) (fun _ k => XS.istore X0.here hx rfl (hb hby d15_1) rfl rfl k) ?_
  refine bN s₁ (mkF m 5 #[vr ca, vi 0, vr ba, vi 0, vi 4, vi 0, uu] [(ii 0)]) (fun _ k => XS.iload X0.here hx rfl (hb hby d15_3) rfl k) ?_
  refine bN s₁ (mkF m 7 #[vr ca, vi 0, vr ba, vi 0, vi 4, vi 0, uu] [(.int (4 : Int32)), (ii 0)]) (fun _ k => XS.iload X0.here hx rfl (hb hby d15_5) rfl k) ?_
  refine bN s₁ (mkF m 10 #[vr ca, vi 0, vr ba, vi 0, vi 4, vi 0, uu] []) (fun _ k => XS.icmpNo X0.here hx rfl (hb hby d15_7) rfl (tlt (by decide)).2.1 k) ?_
  refine bN s₁ (mkF m 11 #[vr ca, vi 0, vr ba, vi 0, vi 4, vi 0, uu] [(.ref ca)]) (fun _ k => XS.aloadN X0.here hx rfl (hb hby d15_10) rfl rfl k) ?_
  refine bN s₁ (mkF m 12 #[vr ca, vi 0, vr ba, vi 0, vi 4, vi 0, uu] [(ii 0), (.ref ca)]) (fun _ k => XS.iloadN X0.here hx rfl (hb hby d15_11) rfl k) ?_
  obtain ⟨cl21, Ar21, q21, S21, N_21, H21, G21⟩ := id V_ca
  have hin21 : ¬ ((0 : Int32) < 0 ∨ cl21.slots.size ≤ ((0 : Int32)).toNatClampNeg) := inb_of S21 ⟨by decide, by decide⟩
  refine bN s₁ (mkF m 13 #[vr ca, vi 0, vr ba, vi 0, vi 4, vi 0, uu] [(.int c0)]) (fun _ k => X0.caload hx (j := (0 : Int32)) (v := (.int c0)) (by rw [e0]; exact Ar21.1) (State.isArrayOf_alike hZ.alike Ar21.2.1) Ar21.2.2 hin21 (Has.at H21 hin21 rfl) (g := (mkF m 12 #[vr ca, vi 0, vr ba, vi 0, vi 4, vi 0, uu] [(ii 0), (.ref ca)])) rfl rfl (hb hby d15_12) _ k) ?_
  refine bN s₁ (mkF m 15 #[vr ca, vi 0, vr ba, vi 0, vi 4, vi 0, vi c0] []) (fun _ k => XS.istore X0.here hx rfl (hb hby d15_13) rfl rfl k) ?_
  refine bN s₁ (mkF m 17 #[vr ca, vi 0, vr ba, vi 0, vi 4, vi 0, vi c0] [(.int c0)]) (fun _ k => XS.iload X0.here hx rfl (hb hby d15_15) rfl k) ?_
  refine bN s₁ (mkF m 20 #[vr ca, vi 0, vr ba, vi 0, vi 4, vi 0, vi c0] [(.int (255 : Int32)), (.int c0)]) (fun _ k => XS.sipush X0.here hx rfl (hb hby d15_17) k) ?_
  by_cases hc20_22 : (255 : Int32) < c0
  · skip
    refine bN s₁ (mkF m 23 #[vr ca, vi 0, vr ba, vi 0, vi 4, vi 0, vi c0] []) (fun _ k => XS.icmpNo X0.here hx rfl (hb hby d15_20) rfl (tlt hc20_22).2.2.2 k) ?_
    refine bN s₁ (mkF m 25 #[vr ca, vi 0, vr ba, vi 0, vi 4, vi 0, vi c0] [(ii 0)]) (fun _ k => XS.iload X0.here hx rfl (hb hby d15_23) rfl k) ?_
    refine own_ret X0 hlk (v := some (ii 0)) (nvr Bd.returns) (fun fs hr => retI X0 hx Bd.returns (hb hby d15_25) hr) ?_ (by decide) (by decide)
    rw [e0]
    exact ⟨congrArg (fun z => some (Value.int z)) (if_pos hc20_22).symm, (Fr.nil n0), (Keep.refl h0 [ba]), fun q => absurd hc20_22 q.1⟩
  · skip
    refine bN s₁ (mkF m 26 #[vr ca, vi 0, vr ba, vi 0, vi 4, vi 0, vi c0] []) (fun _ k => XS.icmpYes X0.here hx rfl (pc0 := 20) (pc' := 26) rfl (hb hby d15_20) rfl (flt hc20_22).2.2.2 (by decide) (by decide) k) ?_
    refine bN s₁ (mkF m 27 #[vr ca, vi 0, vr ba, vi 0, vi 4, vi 0, vi c0] [(.ref ba)]) (fun _ k => XS.aloadN X0.here hx rfl (hb hby d15_26) rfl rfl k) ?_
    refine bN s₁ (mkF m 28 #[vr ca, vi 0, vr ba, vi 0, vi 4, vi 0, vi c0] [(ii 0), (.ref ba)]) (fun _ k => XS.iloadN X0.here hx rfl (hb hby d15_27) rfl k) ?_
    refine bN s₁ (mkF m 30 #[vr ca, vi 0, vr ba, vi 0, vi 4, vi 0, vi c0] [(.int c0), (ii 0), (.ref ba)]) (fun _ k => XS.iload X0.here hx rfl (hb hby d15_28) rfl k) ?_
    refine bN s₁ (mkF m 31 #[vr ca, vi 0, vr ba, vi 0, vi 4, vi 0, vi c0] [(.int (c0.toInt8.toInt32)), (ii 0), (.ref ba)]) (fun _ k => XS.i2b X0.here hx rfl (hb hby d15_30) rfl k) ?_
    obtain ⟨cl23, Ar23, q23, S23, N_23, H23, G23⟩ := id V_ba
    have hin23 : ¬ ((0 : Int32) < 0 ∨ cl23.slots.size ≤ ((0 : Int32)).toNatClampNeg) := inb_of S23 ⟨by decide, by decide⟩
    obtain ⟨T24, h24, X24, e24, W24, st24⟩ := stB X0 hx hZ e0 Ar23 (j := (0 : Int32)) hin23 (g := (mkF m 31 #[vr ca, vi 0, vr ba, vi 0, vi 4, vi 0, vi c0] [(.int (c0.toInt8.toInt32)), (ii 0), (.ref ba)])) rfl rfl (hb hby d15_31)
    have V24 : Arv Z h24 ba kb .byte (4 : Int32) [(.int (nar .byte (c0.toInt8.toInt32))), (ii 0), (ii 0), (ii 0)] (ii 0) := Arv.set Ar23 q23 S23 N_23 H23 G23 (fits_nar_byte _) W24 0 rfl (Nat.le_of_ble_eq_true rfl)
    have K24 : Keep h0 h24 [ba] := Keep.wr (Keep.refl h0 [ba]) W24 (Or.inl (mo 0 rfl))
    have N24 := Fr.snoc X24 (Fr.nil n0) g_ba
    refine bN T24 (mkF m 32 #[vr ca, vi 0, vr ba, vi 0, vi 4, vi 0, vi c0] []) (fun _ k => st24 _ k) ?_
    refine bN T24 (mkF m 35 #[vr ca, vi 1, vr ba, vi 0, vi 4, vi 0, vi c0] []) (fun _ k => XS.iinc X24.here hx rfl (hb hby d15_32) rfl rfl k) ?_
    refine bN T24 (mkF m 38 #[vr ca, vi 1, vr ba, vi 1, vi 4, vi 0, vi c0] []) (fun _ k => XS.iinc X24.here hx rfl (hb hby d15_35) rfl rfl k) ?_
    refine bN T24 (mkF m 41 #[vr ca, vi 1, vr ba, vi 1, vi 4, vi 1, vi c0] []) (fun _ k => XS.iinc X24.here hx rfl (hb hby d15_38) rfl rfl k) ?_
    refine bN T24 (mkF m 3 #[vr ca, vi 1, vr ba, vi 1, vi 4, vi 1, vi c0] []) (fun _ k => XS.goto X24.here hx rfl (pc0 := 41) (pc' := 3) rfl (hb hby d15_41) (by decide) (by decide) k) ?_
    refine bN T24 (mkF m 5 #[vr ca, vi 1, vr ba, vi 1, vi 4, vi 1, vi c0] [(.int (1 : Int32))]) (fun _ k => XS.iload X24.here hx rfl (hb hby d15_3) rfl k) ?_
    refine bN T24 (mkF m 7 #[vr ca, vi 1, vr ba, vi 1, vi 4, vi 1, vi c0] [(.int (4 : Int32)), (.int (1 : Int32))]) (fun _ k => XS.iload X24.here hx rfl (hb hby d15_5) rfl k) ?_
    refine bN T24 (mkF m 10 #[vr ca, vi 1, vr ba, vi 1, vi 4, vi 1, vi c0] []) (fun _ k => XS.icmpNo X24.here hx rfl (hb hby d15_7) rfl (tlt (by decide)).2.1 k) ?_
    refine bN T24 (mkF m 11 #[vr ca, vi 1, vr ba, vi 1, vi 4, vi 1, vi c0] [(.ref ca)]) (fun _ k => XS.aloadN X24.here hx rfl (hb hby d15_10) rfl rfl k) ?_
    refine bN T24 (mkF m 12 #[vr ca, vi 1, vr ba, vi 1, vi 4, vi 1, vi c0] [(.int (1 : Int32)), (.ref ca)]) (fun _ k => XS.iloadN X24.here hx rfl (hb hby d15_11) rfl k) ?_
    obtain ⟨cl25, Ar25, q25, S25, N_25, H25, G25⟩ := id (Arv.other V_ca W24 neab)
    have hin25 : ¬ ((1 : Int32) < 0 ∨ cl25.slots.size ≤ ((1 : Int32)).toNatClampNeg) := inb_of S25 ⟨by decide, by decide⟩
    refine bN T24 (mkF m 13 #[vr ca, vi 1, vr ba, vi 1, vi 4, vi 1, vi c0] [(.int c1)]) (fun _ k => X24.caload hx (j := (1 : Int32)) (v := (.int c1)) (by rw [e24]; exact Ar25.1) (State.isArrayOf_alike hZ.alike Ar25.2.1) Ar25.2.2 hin25 (Has.at H25 hin25 rfl) (g := (mkF m 12 #[vr ca, vi 1, vr ba, vi 1, vi 4, vi 1, vi c0] [(.int (1 : Int32)), (.ref ca)])) rfl rfl (hb hby d15_12) _ k) ?_
    refine bN T24 (mkF m 15 #[vr ca, vi 1, vr ba, vi 1, vi 4, vi 1, vi c1] []) (fun _ k => XS.istore X24.here hx rfl (hb hby d15_13) rfl rfl k) ?_
    refine bN T24 (mkF m 17 #[vr ca, vi 1, vr ba, vi 1, vi 4, vi 1, vi c1] [(.int c1)]) (fun _ k => XS.iload X24.here hx rfl (hb hby d15_15) rfl k) ?_
    refine bN T24 (mkF m 20 #[vr ca, vi 1, vr ba, vi 1, vi 4, vi 1, vi c1] [(.int (255 : Int32)), (.int c1)]) (fun _ k => XS.sipush X24.here hx rfl (hb hby d15_17) k) ?_
    by_cases hc20_26 : (255 : Int32) < c1
    · skip
      refine bN T24 (mkF m 23 #[vr ca, vi 1, vr ba, vi 1, vi 4, vi 1, vi c1] []) (fun _ k => XS.icmpNo X24.here hx rfl (hb hby d15_20) rfl (tlt hc20_26).2.2.2 k) ?_
      refine bN T24 (mkF m 25 #[vr ca, vi 1, vr ba, vi 1, vi 4, vi 1, vi c1] [(.int (1 : Int32))]) (fun _ k => XS.iload X24.here hx rfl (hb hby d15_23) rfl k) ?_
      refine own_ret X24 hlk (v := some (.int (1 : Int32))) (nvr Bd.returns) (fun fs hr => retI X24 hx Bd.returns (hb hby d15_25) hr) ?_ (by decide) (by decide)
      rw [e24]
      exact ⟨congrArg (fun z => some (Value.int z)) ((if_neg hc20_22).trans (if_pos hc20_26)).symm, N24, K24, fun q => absurd hc20_26 q.2.1⟩
    · skip
      refine bN T24 (mkF m 26 #[vr ca, vi 1, vr ba, vi 1, vi 4, vi 1, vi c1] []) (fun _ k => XS.icmpYes X24.here hx rfl (pc0 := 20) (pc' := 26) rfl (hb hby d15_20) rfl (flt hc20_26).2.2.2 (by decide) (by decide) k) ?_
      refine bN T24 (mkF m 27 #[vr ca, vi 1, vr ba, vi 1, vi 4, vi 1, vi c1] [(.ref ba)]) (fun _ k => XS.aloadN X24.here hx rfl (hb hby d15_26) rfl rfl k) ?_
      refine bN T24 (mkF m 28 #[vr ca, vi 1, vr ba, vi 1, vi 4, vi 1, vi c1] [(.int (1 : Int32)), (.ref ba)]) (fun _ k => XS.iloadN X24.here hx rfl (hb hby d15_27) rfl k) ?_
      refine bN T24 (mkF m 30 #[vr ca, vi 1, vr ba, vi 1, vi 4, vi 1, vi c1] [(.int c1), (.int (1 : Int32)), (.ref ba)]) (fun _ k => XS.iload X24.here hx rfl (hb hby d15_28) rfl k) ?_
      refine bN T24 (mkF m 31 #[vr ca, vi 1, vr ba, vi 1, vi 4, vi 1, vi c1] [(.int (c1.toInt8.toInt32)), (.int (1 : Int32)), (.ref ba)]) (fun _ k => XS.i2b X24.here hx rfl (hb hby d15_30) rfl k) ?_
      obtain ⟨cl27, Ar27, q27, S27, N_27, H27, G27⟩ := id V24
      have hin27 : ¬ ((1 : Int32) < 0 ∨ cl27.slots.size ≤ ((1 : Int32)).toNatClampNeg) := inb_of S27 ⟨by decide, by decide⟩
      obtain ⟨T28, h28, X28, e28, W28, st28⟩ := stB X24 hx hZ e24 Ar27 (j := (1 : Int32)) hin27 (g := (mkF m 31 #[vr ca, vi 1, vr ba, vi 1, vi 4, vi 1, vi c1] [(.int (c1.toInt8.toInt32)), (.int (1 : Int32)), (.ref ba)])) rfl rfl (hb hby d15_31)
      have V28 : Arv Z h28 ba kb .byte (4 : Int32) [(.int (nar .byte (c0.toInt8.toInt32))), (.int (nar .byte (c1.toInt8.toInt32))), (ii 0), (ii 0)] (ii 0) := Arv.set Ar27 q27 S27 N_27 H27 G27 (fits_nar_byte _) W28 1 rfl (Nat.le_of_ble_eq_true rfl)
      have K28 : Keep h0 h28 [ba] := Keep.wr K24 W28 (Or.inl (mo 0 rfl))
      have N28 := Fr.snoc X28 N24 g_ba
      refine bN T28 (mkF m 32 #[vr ca, vi 1, vr ba, vi 1, vi 4, vi 1, vi c1] []) (fun _ k => st28 _ k) ?_
      refine bN T28 (mkF m 35 #[vr ca, vi 2, vr ba, vi 1, vi 4, vi 1, vi c1] []) (fun _ k => XS.iinc X28.here hx rfl (hb hby d15_32) rfl rfl k) ?_
      refine bN T28 (mkF m 38 #[vr ca, vi 2, vr ba, vi 2, vi 4, vi 1, vi c1] []) (fun _ k => XS.iinc X28.here hx rfl (hb hby d15_35) rfl rfl k) ?_
      refine bN T28 (mkF m 41 #[vr ca, vi 2, vr ba, vi 2, vi 4, vi 2, vi c1] []) (fun _ k => XS.iinc X28.here hx rfl (hb hby d15_38) rfl rfl k) ?_
      refine bN T28 (mkF m 3 #[vr ca, vi 2, vr ba, vi 2, vi 4, vi 2, vi c1] []) (fun _ k => XS.goto X28.here hx rfl (pc0 := 41) (pc' := 3) rfl (hb hby d15_41) (by decide) (by decide) k) ?_
      refine bN T28 (mkF m 5 #[vr ca, vi 2, vr ba, vi 2, vi 4, vi 2, vi c1] [(.int (2 : Int32))]) (fun _ k => XS.iload X28.here hx rfl (hb hby d15_3) rfl k) ?_
      refine bN T28 (mkF m 7 #[vr ca, vi 2, vr ba, vi 2, vi 4, vi 2, vi c1] [(.int (4 : Int32)), (.int (2 : Int32))]) (fun _ k => XS.iload X28.here hx rfl (hb hby d15_5) rfl k) ?_
      refine bN T28 (mkF m 10 #[vr ca, vi 2, vr ba, vi 2, vi 4, vi 2, vi c1] []) (fun _ k => XS.icmpNo X28.here hx rfl (hb hby d15_7) rfl (tlt (by decide)).2.1 k) ?_
      refine bN T28 (mkF m 11 #[vr ca, vi 2, vr ba, vi 2, vi 4, vi 2, vi c1] [(.ref ca)]) (fun _ k => XS.aloadN X28.here hx rfl (hb hby d15_10) rfl rfl k) ?_
      refine bN T28 (mkF m 12 #[vr ca, vi 2, vr ba, vi 2, vi 4, vi 2, vi c1] [(.int (2 : Int32)), (.ref ca)]) (fun _ k => XS.iloadN X28.here hx rfl (hb hby d15_11) rfl k) ?_
      obtain ⟨cl29, Ar29, q29, S29, N_29, H29, G29⟩ := id (Arv.other (Arv.other V_ca W24 neab) W28 neab)
      have hin29 : ¬ ((2 : Int32) < 0 ∨ cl29.slots.size ≤ ((2 : Int32)).toNatClampNeg) := inb_of S29 ⟨by decide, by decide⟩
      refine bN T28 (mkF m 13 #[vr ca, vi 2, vr ba, vi 2, vi 4, vi 2, vi c1] [(.int c2)]) (fun _ k => X28.caload hx (j := (2 : Int32)) (v := (.int c2)) (by rw [e28]; exact Ar29.1) (State.isArrayOf_alike hZ.alike Ar29.2.1) Ar29.2.2 hin29 (Has.at H29 hin29 rfl) (g := (mkF m 12 #[vr ca, vi 2, vr ba, vi 2, vi 4, vi 2, vi c1] [(.int (2 : Int32)), (.ref ca)])) rfl rfl (hb hby d15_12) _ k) ?_
      refine bN T28 (mkF m 15 #[vr ca, vi 2, vr ba, vi 2, vi 4, vi 2, vi c2] []) (fun _ k => XS.istore X28.here hx rfl (hb hby d15_13) rfl rfl k) ?_
      refine bN T28 (mkF m 17 #[vr ca, vi 2, vr ba, vi 2, vi 4, vi 2, vi c2] [(.int c2)]) (fun _ k => XS.iload X28.here hx rfl (hb hby d15_15) rfl k) ?_
      refine bN T28 (mkF m 20 #[vr ca, vi 2, vr ba, vi 2, vi 4, vi 2, vi c2] [(.int (255 : Int32)), (.int c2)]) (fun _ k => XS.sipush X28.here hx rfl (hb hby d15_17) k) ?_
      by_cases hc20_30 : (255 : Int32) < c2
      · skip
        refine bN T28 (mkF m 23 #[vr ca, vi 2, vr ba, vi 2, vi 4, vi 2, vi c2] []) (fun _ k => XS.icmpNo X28.here hx rfl (hb hby d15_20) rfl (tlt hc20_30).2.2.2 k) ?_
        refine bN T28 (mkF m 25 #[vr ca, vi 2, vr ba, vi 2, vi 4, vi 2, vi c2] [(.int (2 : Int32))]) (fun _ k => XS.iload X28.here hx rfl (hb hby d15_23) rfl k) ?_
        refine own_ret X28 hlk (v := some (.int (2 : Int32))) (nvr Bd.returns) (fun fs hr => retI X28 hx Bd.returns (hb hby d15_25) hr) ?_ (by decide) (by decide)
        rw [e28]
        exact ⟨congrArg (fun z => some (Value.int z)) (((if_neg hc20_22).trans (if_neg hc20_26)).trans (if_pos hc20_30)).symm, N28, K28, fun q => absurd hc20_30 q.2.2.1⟩
      · skip
        refine bN T28 (mkF m 26 #[vr ca, vi 2, vr ba, vi 2, vi 4, vi 2, vi c2] []) (fun _ k => XS.icmpYes X28.here hx rfl (pc0 := 20) (pc' := 26) rfl (hb hby d15_20) rfl (flt hc20_30).2.2.2 (by decide) (by decide) k) ?_
        refine bN T28 (mkF m 27 #[vr ca, vi 2, vr ba, vi 2, vi 4, vi 2, vi c2] [(.ref ba)]) (fun _ k => XS.aloadN X28.here hx rfl (hb hby d15_26) rfl rfl k) ?_
        refine bN T28 (mkF m 28 #[vr ca, vi 2, vr ba, vi 2, vi 4, vi 2, vi c2] [(.int (2 : Int32)), (.ref ba)]) (fun _ k => XS.iloadN X28.here hx rfl (hb hby d15_27) rfl k) ?_
        refine bN T28 (mkF m 30 #[vr ca, vi 2, vr ba, vi 2, vi 4, vi 2, vi c2] [(.int c2), (.int (2 : Int32)), (.ref ba)]) (fun _ k => XS.iload X28.here hx rfl (hb hby d15_28) rfl k) ?_
        refine bN T28 (mkF m 31 #[vr ca, vi 2, vr ba, vi 2, vi 4, vi 2, vi c2] [(.int (c2.toInt8.toInt32)), (.int (2 : Int32)), (.ref ba)]) (fun _ k => XS.i2b X28.here hx rfl (hb hby d15_30) rfl k) ?_
        obtain ⟨cl31, Ar31, q31, S31, N_31, H31, G31⟩ := id V28
        have hin31 : ¬ ((2 : Int32) < 0 ∨ cl31.slots.size ≤ ((2 : Int32)).toNatClampNeg) := inb_of S31 ⟨by decide, by decide⟩
        obtain ⟨T32, h32, X32, e32, W32, st32⟩ := stB X28 hx hZ e28 Ar31 (j := (2 : Int32)) hin31 (g := (mkF m 31 #[vr ca, vi 2, vr ba, vi 2, vi 4, vi 2, vi c2] [(.int (c2.toInt8.toInt32)), (.int (2 : Int32)), (.ref ba)])) rfl rfl (hb hby d15_31)
        have V32 : Arv Z h32 ba kb .byte (4 : Int32) [(.int (nar .byte (c0.toInt8.toInt32))), (.int (nar .byte (c1.toInt8.toInt32))), (.int (nar .byte (c2.toInt8.toInt32))), (ii 0)] (ii 0) := Arv.set Ar31 q31 S31 N_31 H31 G31 (fits_nar_byte _) W32 2 rfl (Nat.le_of_ble_eq_true rfl)
        have K32 : Keep h0 h32 [ba] := Keep.wr K28 W32 (Or.inl (mo 0 rfl))
        have N32 := Fr.snoc X32 N28 g_ba
        refine bN T32 (mkF m 32 #[vr ca, vi 2, vr ba, vi 2, vi 4, vi 2, vi c2] []) (fun _ k => st32 _ k) ?_
        refine bN T32 (mkF m 35 #[vr ca, vi 3, vr ba, vi 2, vi 4, vi 2, vi c2] []) (fun _ k => XS.iinc X32.here hx rfl (hb hby d15_32) rfl rfl k) ?_
        refine bN T32 (mkF m 38 #[vr ca, vi 3, vr ba, vi 3, vi 4, vi 2, vi c2] []) (fun _ k => XS.iinc X32.here hx rfl (hb hby d15_35) rfl rfl k) ?_
        refine bN T32 (mkF m 41 #[vr ca, vi 3, vr ba, vi 3, vi 4, vi 3, vi c2] []) (fun _ k => XS.iinc X32.here hx rfl (hb hby d15_38) rfl rfl k) ?_
        refine bN T32 (mkF m 3 #[vr ca, vi 3, vr ba, vi 3, vi 4, vi 3, vi c2] []) (fun _ k => XS.goto X32.here hx rfl (pc0 := 41) (pc' := 3) rfl (hb hby d15_41) (by decide) (by decide) k) ?_
        refine bN T32 (mkF m 5 #[vr ca, vi 3, vr ba, vi 3, vi 4, vi 3, vi c2] [(.int (3 : Int32))]) (fun _ k => XS.iload X32.here hx rfl (hb hby d15_3) rfl k) ?_
        refine bN T32 (mkF m 7 #[vr ca, vi 3, vr ba, vi 3, vi 4, vi 3, vi c2] [(.int (4 : Int32)), (.int (3 : Int32))]) (fun _ k => XS.iload X32.here hx rfl (hb hby d15_5) rfl k) ?_
        refine bN T32 (mkF m 10 #[vr ca, vi 3, vr ba, vi 3, vi 4, vi 3, vi c2] []) (fun _ k => XS.icmpNo X32.here hx rfl (hb hby d15_7) rfl (tlt (by decide)).2.1 k) ?_
        refine bN T32 (mkF m 11 #[vr ca, vi 3, vr ba, vi 3, vi 4, vi 3, vi c2] [(.ref ca)]) (fun _ k => XS.aloadN X32.here hx rfl (hb hby d15_10) rfl rfl k) ?_
        refine bN T32 (mkF m 12 #[vr ca, vi 3, vr ba, vi 3, vi 4, vi 3, vi c2] [(.int (3 : Int32)), (.ref ca)]) (fun _ k => XS.iloadN X32.here hx rfl (hb hby d15_11) rfl k) ?_
        obtain ⟨cl33, Ar33, q33, S33, N_33, H33, G33⟩ := id (Arv.other (Arv.other (Arv.other V_ca W24 neab) W28 neab) W32 neab)
        have hin33 : ¬ ((3 : Int32) < 0 ∨ cl33.slots.size ≤ ((3 : Int32)).toNatClampNeg) := inb_of S33 ⟨by decide, by decide⟩
        refine bN T32 (mkF m 13 #[vr ca, vi 3, vr ba, vi 3, vi 4, vi 3, vi c2] [(.int c3)]) (fun _ k => X32.caload hx (j := (3 : Int32)) (v := (.int c3)) (by rw [e32]; exact Ar33.1) (State.isArrayOf_alike hZ.alike Ar33.2.1) Ar33.2.2 hin33 (Has.at H33 hin33 rfl) (g := (mkF m 12 #[vr ca, vi 3, vr ba, vi 3, vi 4, vi 3, vi c2] [(.int (3 : Int32)), (.ref ca)])) rfl rfl (hb hby d15_12) _ k) ?_
        refine bN T32 (mkF m 15 #[vr ca, vi 3, vr ba, vi 3, vi 4, vi 3, vi c3] []) (fun _ k => XS.istore X32.here hx rfl (hb hby d15_13) rfl rfl k) ?_
        refine bN T32 (mkF m 17 #[vr ca, vi 3, vr ba, vi 3, vi 4, vi 3, vi c3] [(.int c3)]) (fun _ k => XS.iload X32.here hx rfl (hb hby d15_15) rfl k) ?_
        refine bN T32 (mkF m 20 #[vr ca, vi 3, vr ba, vi 3, vi 4, vi 3, vi c3] [(.int (255 : Int32)), (.int c3)]) (fun _ k => XS.sipush X32.here hx rfl (hb hby d15_17) k) ?_
        by_cases hc20_34 : (255 : Int32) < c3
        · skip
          refine bN T32 (mkF m 23 #[vr ca, vi 3, vr ba, vi 3, vi 4, vi 3, vi c3] []) (fun _ k => XS.icmpNo X32.here hx rfl (hb hby d15_20) rfl (tlt hc20_34).2.2.2 k) ?_
          refine bN T32 (mkF m 25 #[vr ca, vi 3, vr ba, vi 3, vi 4, vi 3, vi c3] [(.int (3 : Int32))]) (fun _ k => XS.iload X32.here hx rfl (hb hby d15_23) rfl k) ?_
          refine own_ret X32 hlk (v := some (.int (3 : Int32))) (nvr Bd.returns) (fun fs hr => retI X32 hx Bd.returns (hb hby d15_25) hr) ?_ (by decide) (by decide)
          rw [e32]
          exact ⟨congrArg (fun z => some (Value.int z)) ((((if_neg hc20_22).trans (if_neg hc20_26)).trans (if_neg hc20_30)).trans (if_pos hc20_34)).symm, N32, K32, fun q => absurd hc20_34 q.2.2.2⟩
        · skip
          refine bN T32 (mkF m 26 #[vr ca, vi 3, vr ba, vi 3, vi 4, vi 3, vi c3] []) (fun _ k => XS.icmpYes X32.here hx rfl (pc0 := 20) (pc' := 26) rfl (hb hby d15_20) rfl (flt hc20_34).2.2.2 (by decide) (by decide) k) ?_
          refine bN T32 (mkF m 27 #[vr ca, vi 3, vr ba, vi 3, vi 4, vi 3, vi c3] [(.ref ba)]) (fun _ k => XS.aloadN X32.here hx rfl (hb hby d15_26) rfl rfl k) ?_
          refine bN T32 (mkF m 28 #[vr ca, vi 3, vr ba, vi 3, vi 4, vi 3, vi c3] [(.int (3 : Int32)), (.ref ba)]) (fun _ k => XS.iloadN X32.here hx rfl (hb hby d15_27) rfl k) ?_
          refine bN T32 (mkF m 30 #[vr ca, vi 3, vr ba, vi 3, vi 4, vi 3, vi c3] [(.int c3), (.int (3 : Int32)), (.ref ba)]) (fun _ k => XS.iload X32.here hx rfl (hb hby d15_28) rfl k) ?_
          refine bN T32 (mkF m 31 #[vr ca, vi 3, vr ba, vi 3, vi 4, vi 3, vi c3] [(.int (c3.toInt8.toInt32)), (.int (3 : Int32)), (.ref ba)]) (fun _ k => XS.i2b X32.here hx rfl (hb hby d15_30) rfl k) ?_
          obtain ⟨cl35, Ar35, q35, S35, N_35, H35, G35⟩ := id V32
          have hin35 : ¬ ((3 : Int32) < 0 ∨ cl35.slots.size ≤ ((3 : Int32)).toNatClampNeg) := inb_of S35 ⟨by decide, by decide⟩
          obtain ⟨T36, h36, X36, e36, W36, st36⟩ := stB X32 hx hZ e32 Ar35 (j := (3 : Int32)) hin35 (g := (mkF m 31 #[vr ca, vi 3, vr ba, vi 3, vi 4, vi 3, vi c3] [(.int (c3.toInt8.toInt32)), (.int (3 : Int32)), (.ref ba)])) rfl rfl (hb hby d15_31)
          have V36 : Arv Z h36 ba kb .byte (4 : Int32) [(.int (nar .byte (c0.toInt8.toInt32))), (.int (nar .byte (c1.toInt8.toInt32))), (.int (nar .byte (c2.toInt8.toInt32))), (.int (nar .byte (c3.toInt8.toInt32)))] (ii 0) := Arv.set Ar35 q35 S35 N_35 H35 G35 (fits_nar_byte _) W36 3 rfl (Nat.le_of_ble_eq_true rfl)
          have K36 : Keep h0 h36 [ba] := Keep.wr K32 W36 (Or.inl (mo 0 rfl))
          have N36 := Fr.snoc X36 N32 g_ba
          refine bN T36 (mkF m 32 #[vr ca, vi 3, vr ba, vi 3, vi 4, vi 3, vi c3] []) (fun _ k => st36 _ k) ?_
          refine bN T36 (mkF m 35 #[vr ca, vi 4, vr ba, vi 3, vi 4, vi 3, vi c3] []) (fun _ k => XS.iinc X36.here hx rfl (hb hby d15_32) rfl rfl k) ?_
          refine bN T36 (mkF m 38 #[vr ca, vi 4, vr ba, vi 4, vi 4, vi 3, vi c3] []) (fun _ k => XS.iinc X36.here hx rfl (hb hby d15_35) rfl rfl k) ?_
          refine bN T36 (mkF m 41 #[vr ca, vi 4, vr ba, vi 4, vi 4, vi 4, vi c3] []) (fun _ k => XS.iinc X36.here hx rfl (hb hby d15_38) rfl rfl k) ?_
          refine bN T36 (mkF m 3 #[vr ca, vi 4, vr ba, vi 4, vi 4, vi 4, vi c3] []) (fun _ k => XS.goto X36.here hx rfl (pc0 := 41) (pc' := 3) rfl (hb hby d15_41) (by decide) (by decide) k) ?_
          refine bN T36 (mkF m 5 #[vr ca, vi 4, vr ba, vi 4, vi 4, vi 4, vi c3] [(.int (4 : Int32))]) (fun _ k => XS.iload X36.here hx rfl (hb hby d15_3) rfl k) ?_
          refine bN T36 (mkF m 7 #[vr ca, vi 4, vr ba, vi 4, vi 4, vi 4, vi c3] [(.int (4 : Int32)), (.int (4 : Int32))]) (fun _ k => XS.iload X36.here hx rfl (hb hby d15_5) rfl k) ?_
          refine bN T36 (mkF m 44 #[vr ca, vi 4, vr ba, vi 4, vi 4, vi 4, vi c3] []) (fun _ k => XS.icmpYes X36.here hx rfl (pc0 := 7) (pc' := 44) rfl (hb hby d15_7) rfl (flt (by decide)).2.1 (by decide) (by decide) k) ?_
          refine bN T36 (mkF m 46 #[vr ca, vi 4, vr ba, vi 4, vi 4, vi 4, vi c3] [(.int (4 : Int32))]) (fun _ k => XS.iload X36.here hx rfl (hb hby d15_44) rfl k) ?_
          refine own_ret X36 hlk (v := some (.int (4 : Int32))) (nvr Bd.returns) (fun fs hr => retI X36 hx Bd.returns (hb hby d15_46) hr) ?_ (by decide) (by decide)
          rw [e36]
          exact ⟨congrArg (fun z => some (Value.int z)) ((((if_neg hc20_22).trans (if_neg hc20_26)).trans (if_neg hc20_30)).trans (if_neg hc20_34)).symm, N36, K36, fun _ => V36⟩
theorem ef_cmp3_4 (m : MethodId) (ca : Addr) : entryFrame m #[(.ref ca), (ii 0), (.int (4 : Int32))] 6 = mkF m 0 #[vr ca, vi 0, vi 4, uu, uu, uu] [] := rfl
def Q_cmp3_4 (Z : State) (ca : Addr) (kc : ClassId) (c0 c1 : Int32) (c2 c3 : Int32) (h0 : Heap) (n0 : Nat) (v : Option Value) (h : Heap) (L : List Loc) : Prop := ∃ (t : Addr) (kb : ClassId), v = some (.ref t) ∧ Fr n0 L ∧ Keep h0 h [] ∧ h0.size ≤ t ∧ Arv Z h t kb .byte (4 : Int32) [(.int (nar .byte (c0.toInt8.toInt32))), (.int (nar .byte (c1.toInt8.toInt32))), (.int (nar .byte (c2.toInt8.toInt32))), (.int (nar .byte (c3.toInt8.toInt32)))] (ii 0)
theorem cmp3_4 (l : Launch) (Z : State) (a0 : Array Value) (hw : HW Z a0) (ws : List Jvm.Cond) (ca : Addr) (kc : ClassId) (c0 c1 : Int32) (c2 c3 : Int32) (h0 : Heap) (n0 : Nat) (Z0 : n0 ≤ h0.size) (V_ca : Arv Z h0 ca kc .char (4 : Int32) [(.int c0), (.int c1), (.int c2), (.int c3)] (ii 0)) (hc0 : ¬ (255 : Int32) < c0) (hc1 : ¬ (255 : Int32) < c1) (hc2 : ¬ (255 : Int32) < c2) (hc3 : ¬ (255 : Int32) < c3) :
    own_M l yy3 jdk_52_method_16_code 6 (some (.array .byte)) ws rr15 Z #[(.ref ca), (ii 0), (.int (4 : Int32))] h0 (Q_cmp3_4 Z ca kc c0 c1 c2 c3 h0 n0) := by
  refine own_bd (plainFor_of_name pn_14) fun p e s m below meth c s₁ Bd hx hby hml hown hnm hlk hZ X0 e0 => ?_
  rw [ef_cmp3_4 m ca]
  refine bN s₁ (mkF m 1 #[vr ca, vi 0, vi 4, uu, uu, uu] [(.int (4 : Int32))]) (fun _ k => XS.iloadN X0.here hx rfl (hb hby d14_0) rfl k) ?_
  obtain ⟨T21, h21, k21, X21, e21, E21, A21, st21⟩ := newP X0 hx hZ (hw _ (mo 24 rfl)) e0 (g := (mkF m 1 #[vr ca, vi 0, vi 4, uu, uu, uu] [(.int (4 : Int32))])) rfl (hb hby d14_1) rfl (by decide) (cap := 4) (by decide) (by decide) (by decide) (by decide)
  obtain ⟨b21, g21⟩ : ∃ z, z = h0.size := ⟨_, rfl⟩
  rw [← g21] at A21 st21
  have V_b21 : Arv Z h21 b21 k21 .byte (4 : Int32) [(ii 0), (ii 0), (ii 0), (ii 0)] (ii 0) := (Arv.new A21 (by decide)).pad (pad_rep [] (ii 0) 4)
  have g_b21 : n0 ≤ b21 := Nat.le_trans Z0 (Nat.le_of_eq g21.symm)
  have sz_b21 : h0.size ≤ b21 := Nat.le_trans (Keep.refl h0 []).1 (Nat.le_of_eq g21.symm)
  have K21 : Keep h0 h21 [] := Keep.ext (Keep.refl h0 []) E21
  refine bN T21 (mkF m 3 #[vr ca, vi 0, vi 4, uu, uu, uu] [(.ref b21)]) (fun _ k => st21 _ k) ?_
  refine bN T21 (mkF m 4 #[vr ca, vi 0, vi 4, vr b21, uu, uu] []) (fun _ k => XS.astoreN X21.here hx rfl (hb hby d14_3) rfl rfl rfl k) ?_
  refine bN T21 (mkF m 5 #[vr ca, vi 0, vi 4, vr b21, uu, uu] [(.ref ca)]) (fun _ k => XS.aloadN X21.here hx rfl (hb hby d14_4) rfl rfl k) ?_
  refine bN T21 (mkF m 6 #[vr ca, vi 0, vi 4, vr b21, uu, uu] [(ii 0), (.ref ca)]) (fun _ k => XS.iloadN X21.here hx rfl (hb hby d14_5) rfl k) ?_
  refine bN T21 (mkF m 7 #[vr ca, vi 0, vi 4, vr b21, uu, uu] [(.ref b21), (ii 0), (.ref ca)]) (fun _ k => XS.aloadN X21.here hx rfl (hb hby d14_6) rfl rfl k) ?_
  refine bN T21 (mkF m 8 #[vr ca, vi 0, vi 4, vr b21, uu, uu] [(ii 0), (.ref b21), (ii 0), (.ref ca)]) (fun _ k => XS.iconst X21.here hx rfl (hb hby d14_7) k) ?_
  refine bN T21 (mkF m 9 #[vr ca, vi 0, vi 4, vr b21, uu, uu] [(.int (4 : Int32)), (ii 0), (.ref b21), (ii 0), (.ref ca)]) (fun _ k => XS.iloadN X21.here hx rfl (hb hby d14_8) rfl k) ?_
  obtain ⟨_, _, ⟨T22, L22, k22, n22⟩, -, X22, ⟨Lc22, hQ22, l22, y22, z22⟩, st22⟩ := Jvm.LawKit.callS X21 hx (y := yy2) hown (mvT hZ (hw _ (mo 73 rfl))) (mvT hZ (hw _ (mo 74 rfl))) (mvT hZ (hw _ (mo 71 rfl))) (mvT hZ (hw _ (mo 75 rfl))) (by decide) (backOf (W := 0) (cmpk_4 l Z a0 hw [] ca b21 kc k21 c0 c1 c2 c3 h21 n0 (Nat.le_trans Z0 E21.1) (Arv.ext V_ca E21) V_b21 g_b21 (Nat.ne_of_lt (Nat.lt_of_lt_of_le V_ca.lt (Nat.le_of_eq g21.symm)))) hZ (hw _ (mo 75 rfl)) (hw _ (mo 71 rfl)) (by decide) (by decide)) (g := (mkF m 9 #[vr ca, vi 0, vi 4, vr b21, uu, uu] [(.int (4 : Int32)), (ii 0), (.ref b21), (ii 0), (.ref ca)])) rfl (by rw [hml]; rfl) (argsL := [(.ref ca), (ii 0), (.ref b21), (ii 0), (.int (4 : Int32))]) (rest := []) (lenOf pd_0 rfl) rfl (Nat.le_of_eq rfl) (hb hby d14_9) (fun _ _ => ⟨rfl, e21, (by decide : 1 ≤ _), (by decide : 4 ≤ _)⟩)
  dsimp only [Pt.U, Pt.locs, Pt.cells, Pt.slots] at X22 l22 y22 z22 st22 hQ22
  subst l22 y22 z22
  obtain ⟨vq22, N22q, K22, VI_22⟩ := hQ22
  obtain rfl := vq22.trans (congrArg (fun z => some (Value.int z)) ((((if_neg hc0).trans (if_neg hc1)).trans (if_neg hc2)).trans (if_neg hc3)))
  have N22 := Fr.app (Fr.nil n0) N22q
  have KK22 : Keep h0 T22.heap [] := Keep.trans K21 K22 (allS (Or.inr sz_b21) all0)
  have V5_22 := VI_22 ⟨hc0, hc1, hc2, hc3⟩
  refine bN T22 (mkF m 12 #[vr ca, vi 0, vi 4, vr b21, uu, uu] [(.int (4 : Int32))]) (fun _ k => st22 _ k) ?_
  refine bN T22 (mkF m 14 #[vr ca, vi 0, vi 4, vr b21, vi 4, uu] []) (fun _ k => XS.istore X22.here hx rfl (hb hby d14_12) rfl rfl k) ?_
  refine bN T22 (mkF m 16 #[vr ca, vi 0, vi 4, vr b21, vi 4, uu] [(.int (4 : Int32))]) (fun _ k => XS.iload X22.here hx rfl (hb hby d14_14) rfl k) ?_
  refine bN T22 (mkF m 17 #[vr ca, vi 0, vi 4, vr b21, vi 4, uu] [(.int (4 : Int32)), (.int (4 : Int32))]) (fun _ k => XS.iloadN X22.here hx rfl (hb hby d14_16) rfl k) ?_
  refine bN T22 (mkF m 57 #[vr ca, vi 0, vi 4, vr b21, vi 4, uu] []) (fun _ k => XS.icmpYes X22.here hx rfl (pc0 := 17) (pc' := 57) rfl (hb hby d14_17) rfl (teq (by decide)).1 (by decide) (by decide) k) ?_
  refine bN T22 (mkF m 58 #[vr ca, vi 0, vi 4, vr b21, vi 4, uu] [(.ref b21)]) (fun _ k => XS.aloadN X22.here hx rfl (hb hby d14_57) rfl rfl k) ?_
  refine own_ret X22 hlk (v := some (.ref b21)) (nvr Bd.returns) (fun fs hr => retOut X22 hx Bd.returns rfl (Or.inr (Or.inr (Or.inr (Or.inr ⟨rfl, rfl, rfl⟩)))) (hb hby d14_58) hr) ?_ (by decide) (by decide)
  exact ⟨_, _, rfl, N22, KK22, sz_b21, V5_22⟩
theorem ef_cod_4 (m : MethodId) (ba : Addr) : entryFrame m #[(.ref ba), (.int (4 : Int32))] 2 = mkF m 0 #[vr ba, vi 4] [] := rfl
def Q_cod_4 (Z : State) (ba : Addr) (kb : ClassId) (c0 c1 : Int32) (c2 c3 : Int32) (h0 : Heap) (n0 : Nat) (v : Option Value) (h : Heap) (L : List Loc) : Prop := v = some (ii 0) ∧ Fr n0 L ∧ h = h0
theorem cod_4 (l : Launch) (Z : State) (a0 : Array Value) (hw : HW Z a0) (ws : List Jvm.Cond) (ba : Addr) (kb : ClassId) (c0 c1 : Int32) (c2 c3 : Int32) (h0 : Heap) (n0 : Nat) (Z0 : n0 ≤ h0.size) (V_ba : Arv Z h0 ba kb .byte (4 : Int32) [(.int (nar .byte (c0.toInt8.toInt32))), (.int (nar .byte (c1.toInt8.toInt32))), (.int (nar .byte (c2.toInt8.toInt32))), (.int (nar .byte (c3.toInt8.toInt32)))] (ii 0)) :
    own_M l yy4 jdk_52_method_15_code 2 (some .byte) ws rr0 Z #[(.ref ba), (.int (4 : Int32))] h0 (Q_cod_4 Z ba kb c0 c1 c2 c3 h0 n0) := by
  refine own_bd (plainFor_of_name pn_16) fun p e s m below meth c s₁ Bd hx hby hml hown hnm hlk hZ X0 e0 => ?_
  rw [ef_cod_4 m ba]
  refine bN s₁ (mkF m 1 #[vr ba, vi 4] [(.int (4 : Int32))]) (fun _ k => XS.iloadN X0.here hx rfl (hb hby d16_0) rfl k) ?_
  refine bN s₁ (mkF m 2 #[vr ba, vi 4] [(.ref ba), (.int (4 : Int32))]) (fun _ k => XS.aloadN X0.here hx rfl (hb hby d16_1) rfl rfl k) ?_
  obtain ⟨cl21, Ar21, q21, S21, N_21, H21, G21⟩ := id V_ba
  refine bN s₁ (mkF m 3 #[vr ba, vi 4] [(.int (4 : Int32)), (.int (4 : Int32))]) (fun _ k => X0.arraylength hx (by rw [e0]; exact Ar21.1) (State.isArrayOf_alike hZ.alike Ar21.2.1) (g := (mkF m 2 #[vr ba, vi 4] [(.ref ba), (.int (4 : Int32))])) rfl rfl (hb hby d16_2) _ (by rw [len_of S21 N_21]; exact k)) ?_
  refine bN s₁ (mkF m 4 #[vr ba, vi 4] [(ii 0)]) (fun _ k => XS.isub X0.here hx rfl (hb hby d16_3) rfl k) ?_
  refine bN s₁ (mkF m 6 #[vr ba, vi 4] [(.int (31 : Int32)), (ii 0)]) (fun _ k => XS.bipush X0.here hx rfl (hb hby d16_4) k) ?_
  refine bN s₁ (mkF m 7 #[vr ba, vi 4] [(ii 0)]) (fun _ k => XS.iushr X0.here hx rfl (hb hby d16_6) rfl k) ?_
  refine bN s₁ (mkF m 8 #[vr ba, vi 4] [(ii 0)]) (fun _ k => XS.i2b X0.here hx rfl (hb hby d16_7) rfl k) ?_
  refine own_ret X0 hlk (v := some (ii 0)) (nvr Bd.returns) (fun fs hr => retN X0 hx (t := .byte) Bd.returns (by simp) (hb hby d16_8) hr) ?_ (by decide) (by decide)
  rw [e0]
  exact ⟨rfl, (Fr.nil n0), rfl⟩
theorem ef_sin4_4 (m : MethodId) (a ca : Addr) : entryFrame m #[(.ref a), (.ref ca), (ii 0), (.int (4 : Int32)), .null] 6 = mkF m 0 #[vr a, vr ca, vi 0, vi 4, .val .null, uu] [] := rfl
def Q_sin4_4 (Z : State) (a ca : Addr) (kc : ClassId) (cs c0 : Int32) (c1 c2 c3 : Int32) (h0 : Heap) (n0 : Nat) (v : Option Value) (h : Heap) (L : List Loc) : Prop := v = none ∧ Fr n0 L ∧ Keep h0 h [a] ∧ Fld Z h a "java/lang/String" "coder" "B" (ii 0) ∧ ∃ (t : Addr) (kb : ClassId), h0.size ≤ t ∧ Fld Z h a "java/lang/String" "value" "[B" (.ref t) ∧ Arv Z h t kb .byte (4 : Int32) [(.int (nar .byte (c0.toInt8.toInt32))), (.int (nar .byte (c1.toInt8.toInt32))), (.int (nar .byte (c2.toInt8.toInt32))), (.int (nar .byte (c3.toInt8.toInt32)))] (ii 0)
theorem sin4_4 (l : Launch) (Z : State) (a0 : Array Value) (hw : HW Z a0) (ws : List Jvm.Cond) (a ca : Addr) (kc : ClassId) (cs c0 : Int32) (c1 c2 c3 : Int32) (h0 : Heap) (n0 : Nat) (Z0 : n0 ≤ h0.size) (E_a : Exa Z h0 a "java/lang/String") (F_value_a : Fld Z h0 a "java/lang/String" "value" "[B" .null) (F_coder_a : Fld Z h0 a "java/lang/String" "coder" "B" (ii 0)) (g_a : n0 ≤ a) (V_ca : Arv Z h0 ca kc .char (4 : Int32) [(.int c0), (.int c1), (.int c2), (.int c3)] (ii 0)) (S_CS : Sta Z h0 "java/lang/String" "COMPACT_STRINGS" "Z" (.int cs)) (hcs : ¬ cs = (0 : Int32)) (hc0 : ¬ (255 : Int32) < c0) (hc1 : ¬ (255 : Int32) < c1) (hc2 : ¬ (255 : Int32) < c2) (hc3 : ¬ (255 : Int32) < c3) :
    own_M l yy5 jdk_42_method_149_code 6 none ws rr16 Z #[(.ref a), (.ref ca), (ii 0), (.int (4 : Int32)), .null] h0 (Q_sin4_4 Z a ca kc cs c0 c1 c2 c3 h0 n0) := by
  refine own_bd (plainFor_of_name pn_4) fun p e s m below meth c s₁ Bd hx hby hml hown hnm hlk hZ X0 e0 => ?_
  rw [ef_sin4_4 m a ca]
  refine bN s₁ (mkF m 1 #[vr a, vr ca, vi 0, vi 4, .val .null, uu] [(.ref a)]) (fun _ k => XS.aloadN X0.here hx rfl (hb hby d4_0) rfl rfl k) ?_
  obtain ⟨T21, X21, e21, st21⟩ := initO X0 hx hZ hown (hw _ (mo 20 rfl)) (hw _ (mo 21 rfl)) (hw _ (mo 22 rfl)) e0 (g := (mkF m 1 #[vr a, vr ca, vi 0, vi 4, .val .null, uu] [(.ref a)])) rfl (by rw [hml]; rfl) rfl (hb hby d4_1) (by decide) (W := 0) (Nat.le_of_eq rfl) (by decide)
  refine bN T21 (mkF m 4 #[vr a, vr ca, vi 0, vi 4, .val .null, uu] []) (fun _ k => st21 _ k) ?_
  refine bN T21 (mkF m 5 #[vr a, vr ca, vi 0, vi 4, .val .null, uu] [(.int (4 : Int32))]) (fun _ k => XS.iloadN X21.here hx rfl (hb hby d4_4) rfl k) ?_
  refine bN T21 (mkF m 27 #[vr a, vr ca, vi 0, vi 4, .val .null, uu] []) (fun _ k => XS.ifYes X21.here hx rfl (pc0 := 5) (pc' := 27) rfl (hb hby d4_5) rfl ((if0 _ _).trans (feq (by decide)).2) (by decide) (by decide) k) ?_
  obtain ⟨T22, X22, e22, st22⟩ := getS2 X21 hx hZ hown (host := "") (Or.inl (hw _ (mo 51 rfl))) Via.refl e21 S_CS (g := (mkF m 27 #[vr a, vr ca, vi 0, vi 4, .val .null, uu] [])) rfl (hb hby d4_27)
  refine bN T22 (mkF m 30 #[vr a, vr ca, vi 0, vi 4, .val .null, uu] [(.int cs)]) (fun _ k => st22 _ k) ?_
  refine bN T22 (mkF m 33 #[vr a, vr ca, vi 0, vi 4, .val .null, uu] []) (fun _ k => XS.ifNo X22.here hx rfl (hb hby d4_30) rfl ((if0 _ _).trans (feq hcs).1) k) ?_
  refine bN T22 (mkF m 34 #[vr a, vr ca, vi 0, vi 4, .val .null, uu] [(.ref ca)]) (fun _ k => XS.aloadN X22.here hx rfl (hb hby d4_33) rfl rfl k) ?_
  refine bN T22 (mkF m 35 #[vr a, vr ca, vi 0, vi 4, .val .null, uu] [(ii 0), (.ref ca)]) (fun _ k => XS.iloadN X22.here hx rfl (hb hby d4_34) rfl k) ?_
  refine bN T22 (mkF m 36 #[vr a, vr ca, vi 0, vi 4, .val .null, uu] [(.int (4 : Int32)), (ii 0), (.ref ca)]) (fun _ k => XS.iloadN X22.here hx rfl (hb hby d4_35) rfl k) ?_
  obtain ⟨_, _, ⟨T23, L23, k23, n23⟩, -, X23, ⟨Lc23, hQ23, l23, y23, z23⟩, st23⟩ := Jvm.LawKit.callS X22 hx (y := yy3) hown (mvT hZ (hw _ (mo 69 rfl))) (mvT hZ (hw _ (mo 70 rfl))) (mvT hZ (hw _ (mo 71 rfl))) (mvT hZ (hw _ (mo 72 rfl))) (by decide) (backOf (W := 0) (cmp3_4 l Z a0 hw [] ca kc c0 c1 c2 c3 h0 n0 Z0 V_ca hc0 hc1 hc2 hc3) hZ (hw _ (mo 72 rfl)) (hw _ (mo 71 rfl)) (by decide) (by decide)) (g := (mkF m 36 #[vr a, vr ca, vi 0, vi 4, .val .null, uu] [(.int (4 : Int32)), (ii 0), (.ref ca)])) rfl (by rw [hml]; rfl) (argsL := [(.ref ca), (ii 0), (.int (4 : Int32))]) (rest := []) (lenOf pd_1 rfl) rfl (Nat.le_of_eq rfl) (hb hby d4_36) (fun _ _ => ⟨rfl, e22, (by decide : 1 ≤ _), (by decide : 4 ≤ _)⟩)
  dsimp only [Pt.U, Pt.locs, Pt.cells, Pt.slots] at X23 l23 y23 z23 st23 hQ23
  subst l23 y23 z23
  obtain ⟨t23, kb23, rfl, N23q, K23, zt23, V23⟩ := hQ23
  have N23 := Fr.app (Fr.nil n0) N23q
  have KK23 : Keep h0 T23.heap [a] := Keep.trans (Keep.refl h0 [a]) K23 all0
  have sz_t23 : h0.size ≤ t23 := Nat.le_trans (Keep.refl h0 [a]).1 zt23
  have g_t23 : n0 ≤ t23 := Nat.le_trans Z0 sz_t23
  refine bN T23 (mkF m 39 #[vr a, vr ca, vi 0, vi 4, .val .null, uu] [(.ref t23)]) (fun _ k => st23 _ k) ?_
  refine bN T23 (mkF m 41 #[vr a, vr ca, vi 0, vi 4, .val .null, vr t23] []) (fun _ k => XS.astore X23.here hx rfl (hb hby d4_39) rfl rfl rfl k) ?_
  refine bN T23 (mkF m 42 #[vr a, vr ca, vi 0, vi 4, .val .null, vr t23] [(.ref a)]) (fun _ k => XS.aloadN X23.here hx rfl (hb hby d4_41) rfl rfl k) ?_
  refine bN T23 (mkF m 44 #[vr a, vr ca, vi 0, vi 4, .val .null, vr t23] [(.ref t23), (.ref a)]) (fun _ k => XS.aload X23.here hx rfl (hb hby d4_42) rfl rfl k) ?_
  refine bN T23 (mkF m 45 #[vr a, vr ca, vi 0, vi 4, .val .null, vr t23] [(.int (4 : Int32)), (.ref t23), (.ref a)]) (fun _ k => XS.iloadN X23.here hx rfl (hb hby d4_44) rfl k) ?_
  obtain ⟨_, _, ⟨T24, L24, k24, n24⟩, -, X24, ⟨Lc24, hQ24, l24, y24, z24⟩, st24⟩ := Jvm.LawKit.callS X23 hx (y := yy4) hown (mvT hZ (hw _ (mo 76 rfl))) (mvT hZ (hw _ (mo 77 rfl))) (mvT hZ (hw _ (mo 71 rfl))) (mvT hZ (hw _ (mo 78 rfl))) (by decide) (backOf (W := 1) (cod_4 l Z a0 hw [] t23 kb23 c0 c1 c2 c3 T23.heap n0 (Nat.le_trans Z0 K23.1) V23) hZ (hw _ (mo 78 rfl)) (hw _ (mo 71 rfl)) (by decide) (by decide)) (g := (mkF m 45 #[vr a, vr ca, vi 0, vi 4, .val .null, vr t23] [(.int (4 : Int32)), (.ref t23), (.ref a)])) rfl (by rw [hml]; rfl) (argsL := [(.ref t23), (.int (4 : Int32))]) (rest := [(.ref a)]) (lenOf pd_2 rfl) rfl (Nat.le_of_eq rfl) (hb hby d4_45) (fun _ _ => ⟨rfl, rfl, (by decide : 1 ≤ _), (by decide : 4 ≤ _)⟩)
  dsimp only [Pt.U, Pt.locs, Pt.cells, Pt.slots] at X24 l24 y24 z24 st24 hQ24
  subst l24 y24 z24
  obtain ⟨rfl, N24q, e24⟩ := hQ24
  have N24 := Fr.app N23 N24q
  refine bN T24 (mkF m 48 #[vr a, vr ca, vi 0, vi 4, .val .null, vr t23] [(ii 0), (.ref a)]) (fun _ k => st24 _ k) ?_
  obtain ⟨T25, h25, X25, e25, W25, st25⟩ := putFN X24 hx hZ hown (hw _ (mo 30 rfl)) Via.refl e24 (Fld.keep F_coder_a K23 nin0) (Exa.keep E_a K23) (Or.inr ⟨(hw _ (mo 26 rfl)), rfl, hnm⟩) (hw _ (mo 11 rfl)) (ty := .byte) (v' := (ii 0)) (by decide) rfl (by decide) (g := (mkF m 48 #[vr a, vr ca, vi 0, vi 4, .val .null, vr t23] [(ii 0), (.ref a)])) rfl rfl (hb hby d4_48)
  have Fw25 : Fld Z h25 a "java/lang/String" "coder" "B" (ii 0) := Fld.same W25 (Fld.keep F_coder_a K23 nin0)
  have K25 : Keep h0 h25 [a] := Keep.wr KK23 W25 (Or.inl (mo 0 rfl))
  have N25 := Fr.snoc X25 N24 g_a
  refine bN T25 (mkF m 51 #[vr a, vr ca, vi 0, vi 4, .val .null, vr t23] []) (fun _ k => st25 _ k) ?_
  refine bN T25 (mkF m 52 #[vr a, vr ca, vi 0, vi 4, .val .null, vr t23] [(.ref a)]) (fun _ k => XS.aloadN X25.here hx rfl (hb hby d4_51) rfl rfl k) ?_
  refine bN T25 (mkF m 54 #[vr a, vr ca, vi 0, vi 4, .val .null, vr t23] [(.ref t23), (.ref a)]) (fun _ k => XS.aload X25.here hx rfl (hb hby d4_52) rfl rfl k) ?_
  obtain ⟨T26, h26, X26, e26, W26, st26⟩ := putF X25 hx hZ hown (host := "") (Or.inl (hw _ (mo 29 rfl))) Via.refl e25 (Fld.other W25 (Fld.keep F_value_a K23 nin0) (Or.inr (slot_ne (a0 := a0) (Or.inr (hw _ (mo 25 rfl))) (Or.inr (hw _ (mo 26 rfl))) (by decide) (t := (.array .byte)) (t' := .byte) (by decide) (by decide)))) (Exa.wr W25 (Exa.keep E_a K23)) (Or.inr ⟨(hw _ (mo 25 rfl)), rfl, hnm⟩) (hw _ (mo 11 rfl)) (ty := (.array .byte)) (by decide) rfl rfl (g := (mkF m 54 #[vr a, vr ca, vi 0, vi 4, .val .null, vr t23] [(.ref t23), (.ref a)])) rfl rfl (hb hby d4_54)
  have Fw26 : Fld Z h26 a "java/lang/String" "value" "[B" (.ref t23) := Fld.same W26 (Fld.other W25 (Fld.keep F_value_a K23 nin0) (Or.inr (slot_ne (a0 := a0) (Or.inr (hw _ (mo 25 rfl))) (Or.inr (hw _ (mo 26 rfl))) (by decide) (t := (.array .byte)) (t' := .byte) (by decide) (by decide))))
  have K26 : Keep h0 h26 [a] := Keep.wr K25 W26 (Or.inl (mo 0 rfl))
  have N26 := Fr.snoc X26 N25 g_a
  refine bN T26 (mkF m 57 #[vr a, vr ca, vi 0, vi 4, .val .null, vr t23] []) (fun _ k => st26 _ k) ?_
  refine own_ret X26 hlk (v := none) (fun _ => rfl) (fun fs hr => X26.returnOut hx Bd.returns (hb hby d4_57) hr) ?_ (by decide) (by decide)
  rw [e26]
  exact ⟨rfl, N26, K26, (Fld.other W26 Fw25 (Or.inr (slot_ne (a0 := a0) (Or.inr (hw _ (mo 26 rfl))) (Or.inr (hw _ (mo 25 rfl))) (by decide) (t := .byte) (t' := (.array .byte)) (by decide) (by decide)))), _, _, sz_t23, Fw26, (Arv.other (Arv.other V23 W25 (Ne.symm (Nat.ne_of_lt (Nat.lt_of_lt_of_le (E_a).lt zt23)))) W26 (Ne.symm (Nat.ne_of_lt (Nat.lt_of_lt_of_le (E_a).lt zt23))))⟩
theorem ef_sin1_4 (m : MethodId) (a ca : Addr) : entryFrame m #[(.ref a), (.ref ca)] 2 = mkF m 0 #[vr a, vr ca] [] := rfl
def Q_sin1_4 (Z : State) (a ca : Addr) (kc : ClassId) (cs c0 : Int32) (c1 c2 c3 : Int32) (h0 : Heap) (n0 : Nat) (v : Option Value) (h : Heap) (L : List Loc) : Prop := v = none ∧ Fr n0 L ∧ Keep h0 h [a] ∧ Fld Z h a "java/lang/String" "coder" "B" (ii 0) ∧ ∃ (t : Addr) (kb : ClassId), h0.size ≤ t ∧ Fld Z h a "java/lang/String" "value" "[B" (.ref t) ∧ Arv Z h t kb .byte (4 : Int32) [(.int (nar .byte (c0.toInt8.toInt32))), (.int (nar .byte (c1.toInt8.toInt32))), (.int (nar .byte (c2.toInt8.toInt32))), (.int (nar .byte (c3.toInt8.toInt32)))] (ii 0)
theorem sin1_4 (l : Launch) (Z : State) (a0 : Array Value) (hw : HW Z a0) (ws : List Jvm.Cond) (a ca : Addr) (kc : ClassId) (cs c0 : Int32) (c1 c2 c3 : Int32) (h0 : Heap) (n0 : Nat) (Z0 : n0 ≤ h0.size) (E_a : Exa Z h0 a "java/lang/String") (F_value_a : Fld Z h0 a "java/lang/String" "value" "[B" .null) (F_coder_a : Fld Z h0 a "java/lang/String" "coder" "B" (ii 0)) (g_a : n0 ≤ a) (V_ca : Arv Z h0 ca kc .char (4 : Int32) [(.int c0), (.int c1), (.int c2), (.int c3)] (ii 0)) (S_CS : Sta Z h0 "java/lang/String" "COMPACT_STRINGS" "Z" (.int cs)) (hcs : ¬ cs = (0 : Int32)) (hc0 : ¬ (255 : Int32) < c0) (hc1 : ¬ (255 : Int32) < c1) (hc2 : ¬ (255 : Int32) < c2) (hc3 : ¬ (255 : Int32) < c3) :
    own_M l yy6 jdk_42_method_3_code 2 none ws rr17 Z #[(.ref a), (.ref ca)] h0 (Q_sin1_4 Z a ca kc cs c0 c1 c2 c3 h0 n0) := by
  refine own_bd (plainFor_of_name pn_3) fun p e s m below meth c s₁ Bd hx hby hml hown hnm hlk hZ X0 e0 => ?_
  rw [ef_sin1_4 m a ca]
  refine bN s₁ (mkF m 1 #[vr a, vr ca] [(.ref a)]) (fun _ k => XS.aloadN X0.here hx rfl (hb hby d3_0) rfl rfl k) ?_
  refine bN s₁ (mkF m 2 #[vr a, vr ca] [(.ref ca), (.ref a)]) (fun _ k => XS.aloadN X0.here hx rfl (hb hby d3_1) rfl rfl k) ?_
  refine bN s₁ (mkF m 3 #[vr a, vr ca] [(ii 0), (.ref ca), (.ref a)]) (fun _ k => XS.iconst X0.here hx rfl (hb hby d3_2) k) ?_
  refine bN s₁ (mkF m 4 #[vr a, vr ca] [(.ref ca), (ii 0), (.ref ca), (.ref a)]) (fun _ k => XS.aloadN X0.here hx rfl (hb hby d3_3) rfl rfl k) ?_
  obtain ⟨cl21, Ar21, q21, S21, N_21, H21, G21⟩ := id V_ca
  refine bN s₁ (mkF m 5 #[vr a, vr ca] [(.int (4 : Int32)), (ii 0), (.ref ca), (.ref a)]) (fun _ k => X0.arraylength hx (by rw [e0]; exact Ar21.1) (State.isArrayOf_alike hZ.alike Ar21.2.1) (g := (mkF m 4 #[vr a, vr ca] [(.ref ca), (ii 0), (.ref ca), (.ref a)])) rfl rfl (hb hby d3_4) _ (by rw [len_of S21 N_21]; exact k)) ?_
  refine bN s₁ (mkF m 6 #[vr a, vr ca] [.null, (.int (4 : Int32)), (ii 0), (.ref ca), (.ref a)]) (fun _ k => XS.aconstNull X0.here hx rfl (hb hby d3_5) k) ?_
  obtain ⟨_, _, ⟨T22, L22, k22, n22⟩, -, X22, ⟨Lc22, hQ22, l22, y22, z22⟩, st22⟩ := X0.specialBack hx (y := yy5) rfl hown (mvT hZ (hw _ (mo 16 rfl))) (mvT hZ (hw _ (mo 17 rfl))) (mvT hZ (hw _ (mo 19 rfl))) (by decide) (backOf (W := 0) (sin4_4 l Z a0 hw [] a ca kc cs c0 c1 c2 c3 h0 n0 Z0 E_a F_value_a F_coder_a g_a V_ca S_CS hcs hc0 hc1 hc2 hc3) hZ (hw _ (mo 19 rfl)) (hw _ (mo 12 rfl)) (by decide) (by decide)) (g := (mkF m 6 #[vr a, vr ca] [.null, (.int (4 : Int32)), (ii 0), (.ref ca), (.ref a)])) rfl (by rw [hml]; rfl) (Steps.refl _) (a := a) (argsL := [(.ref ca), (ii 0), (.int (4 : Int32)), .null]) (rest := []) (lenOf pd_3 rfl) rfl (Nat.le_of_eq rfl) (hb hby d3_6) (fun _ _ => ⟨rfl, e0, (by decide : 1 ≤ _), (by decide : 4 ≤ _)⟩)
  dsimp only [Pt.U, Pt.locs, Pt.cells, Pt.slots] at X22 l22 y22 z22 st22 hQ22
  subst l22 y22 z22
  obtain ⟨rfl, N22q, K22, Fc22, t22, kb22, zt22, Fv22, V22⟩ := hQ22
  have N22 := Fr.app (Fr.nil n0) N22q
  have KK22 : Keep h0 T22.heap [a] := Keep.trans (Keep.refl h0 [a]) K22 (allS (Or.inl (mo 0 rfl)) all0)
  have sz_t22 : h0.size ≤ t22 := zt22
  refine bN T22 (mkF m 9 #[vr a, vr ca] []) (fun _ k => st22.trans k) ?_
  refine own_ret X22 hlk (v := none) (fun _ => rfl) (fun fs hr => X22.returnOut hx Bd.returns (hb hby d3_9) hr) ?_ (by decide) (by decide)
  exact ⟨rfl, N22, KK22, Fc22, _, _, sz_t22, Fv22, V22⟩
theorem d4_8 : decode jdk_42_method_149_code 8 = .ok (.aload_n 0, 1) := by decide +kernel
theorem d4_9 : decode jdk_42_method_149_code 9 = .ok (.ldc 7, 2) := by decide +kernel
theorem d4_11 : decode jdk_42_method_149_code 11 = .ok (.getfield 9, 3) := by decide +kernel
theorem d4_14 : decode jdk_42_method_149_code 14 = .ok (.putfield 9, 3) := by decide +kernel
theorem d4_17 : decode jdk_42_method_149_code 17 = .ok (.aload_n 0, 1) := by decide +kernel
theorem d4_18 : decode jdk_42_method_149_code 18 = .ok (.ldc 7, 2) := by decide +kernel
theorem d4_20 : decode jdk_42_method_149_code 20 = .ok (.getfield 15, 3) := by decide +kernel
theorem d4_23 : decode jdk_42_method_149_code 23 = .ok (.putfield 15, 3) := by decide +kernel
theorem d4_26 : decode jdk_42_method_149_code 26 = .ok (.return_, 1) := by decide +kernel
theorem ef_sin4_0 (m : MethodId) (a ca : Addr) : entryFrame m #[(.ref a), (.ref ca), (ii 0), (ii 0), .null] 6 = mkF m 0 #[vr a, vr ca, vi 0, vi 0, .val .null, uu] [] := rfl
def V_sin4_0 (Z : State) (a ca : Addr) (h0 : Heap) (vm : Vm) : Prop := Safe Z consts_1 vm h0 a
def Q_sin4_0 (Z : State) (a ca : Addr) (h0 : Heap) (n0 : Nat) (v : Option Value) (h : Heap) (L : List Loc) : Prop := v = none ∧ Fr n0 L ∧ Keep h0 h [a] ∧ Fld Z h a "java/lang/String" "coder" "B" (ii 0) ∧ ∃ (t : Addr) (kb : ClassId), Fld Z h a "java/lang/String" "value" "[B" (.ref t) ∧ Arv Z h t kb .byte (0 : Int32) [] (ii 0)
theorem sin4_0 (l : Launch) (Z : State) (a0 : Array Value) (hw : HW Z a0) (ws : List Jvm.Cond) (a ca : Addr) (h0 : Heap) (n0 : Nat) (Z0 : n0 ≤ h0.size) (E_a : Exa Z h0 a "java/lang/String") (F_value_a : Fld Z h0 a "java/lang/String" "value" "[B" .null) (F_coder_a : Fld Z h0 a "java/lang/String" "coder" "B" (ii 0)) (g_a : n0 ≤ a) :
    MetFree l yy5 (head1 (Jvm.Cond.code yy5 jdk_42_method_149_code 6 none :: ws) rr18) (fun zz UU => zz = #[(.ref a), (.ref ca), (ii 0), (ii 0), .null] ∧ Z.Warmed39 UU.vm ∧ UU.heap = h0 ∧ CHv Z consts_1 UU.vm h0 ∧ V_sin4_0 Z a ca h0 UU.vm) (fun _ _ _ _ _ => True) (fun _ U o U' => ∃ v L, o = .returned v ∧ Q_sin4_0 Z a ca h0 n0 v U'.heap L ∧ CHr Z consts_1 U.vm U.heap U'.vm U'.heap ∧ ReturnedEndW U o U' L rr18.cells rr18.slots) := by
  refine MetFree.of_bodySF (plainFor_of_name pn_4) hisR ?_
  intro p e s m args below meth c s₁ Bd hml0 hP hK
  obtain ⟨rfl, hZ, hh, hH, hV⟩ := hP
  have hx := Bd.exec
  have hby := Bd.bytes
  have hml : c.maxLocals = 6 := hml0
  have hown : s.vm.findClass "java/lang/String" = some m.cls := findClass_of_methodNamed Bd.named
  have hnm := (name_of_methodNamed Bd.named Bd.method).1
  have hlk : meth.locks = false := BodyLoose.notSynchronized Bd
  have X0 : Stand p l e rr18 (s.setVm s.vm) m #[(.ref a), (.ref ca), (ii 0), (ii 0), .null] below meth c s₁ [] 0 0 := Stand.of_body Bd
  have e0 : s₁.heap = h0 := by rw [← hh, Bd.state]; rfl
  have N0 := Fr.nil n0
  show own_GoW p.tables e below Z consts_1 (Q_sin4_0 Z a ca h0 n0) s rr18.cells rr18.slots s₁ (entryFrame m #[(.ref a), (.ref ca), (ii 0), (ii 0), .null] 6)
  rw [ef_sin4_0 m a ca]
  have hS0 : s.Since s.vm s.heap.size := (State.WarmedH.refl s).since _
  have hk0 : s.heap.size ≤ h0.size := Nat.le_of_eq (congrArg Array.size hh)
  have C0 : CHr Z consts_1 s.vm s.heap s.vm h0 := by rw [hh]; exact CHr.refl hH
  have hEL : EW Z a0 consts_1 := own_EL hw
  have hwS : ∀ d ∈ Bundle.stringAtoms, d.before a0 Z = true := fun d hd => hw d (own_SA d hd)
  refine bW s₁ (mkF m 1 #[vr a, vr ca, vi 0, vi 0, .val .null, uu] [(.ref a)]) (fun _ k => XS.aloadN X0.here hx rfl (hb hby d4_0) rfl rfl k) ?_
  obtain ⟨T21, X21, e21, st21⟩ := initO X0 hx hZ hown (hw _ (mo 20 rfl)) (hw _ (mo 21 rfl)) (hw _ (mo 22 rfl)) e0 (g := (mkF m 1 #[vr a, vr ca, vi 0, vi 0, .val .null, uu] [(.ref a)])) rfl (by rw [hml]; rfl) rfl (hb hby d4_1) (by decide) (W := 0) (Nat.le_of_eq rfl) (by decide)
  refine bW T21 (mkF m 4 #[vr a, vr ca, vi 0, vi 0, .val .null, uu] []) (fun _ k => st21 _ k) ?_
  refine bW T21 (mkF m 5 #[vr a, vr ca, vi 0, vi 0, .val .null, uu] [(ii 0)]) (fun _ k => XS.iloadN X21.here hx rfl (hb hby d4_4) rfl k) ?_
  refine bW T21 (mkF m 8 #[vr a, vr ca, vi 0, vi 0, .val .null, uu] []) (fun _ k => XS.ifNo X21.here hx rfl (hb hby d4_5) rfl ((if0 _ _).trans (teq (by decide)).2) k) ?_
  refine bW T21 (mkF m 9 #[vr a, vr ca, vi 0, vi 0, .val .null, uu] [(.ref a)]) (fun _ k => XS.aloadN X21.here hx rfl (hb hby d4_8) rfl rfl k) ?_
  obtain ⟨a22, T22, h22, k22, b22, kb22, X22, e22, E22, hS22, hk22, hZ22, hown22, Ex22, Fc22, Fv22, V22, la22, lb22, Cq22, Lt22, D22, st22⟩ := ldcCH (s := s) (EL := consts_1) X21 hx hZ hown (hw _ (mo 23 rfl)) hwS e21 hS0 hk0 hEL (mo 0 rfl) C0.1 (vs := []) (z := (0 : Int32)) ⟨by decide, by decide⟩ (by decide) (by decide) (g := (mkF m 9 #[vr a, vr ca, vi 0, vi 0, .val .null, uu] [(.ref a)])) rfl (hb hby d4_9) (n := 0) (by decide) (by decide) (by decide) (by decide)
  have Sf22_a : Safe Z consts_1 T22.vm h22 a := CHr.safe Cq22 (E_a).lt hV
  have C22 : CHr Z consts_1 s.vm s.heap T22.vm h22 := CHr.trans C0 Cq22
  have K22 : Keep h0 h22 [a] := Keep.ext (Keep.refl h0 [a]) E22
  refine bW T22 (mkF m 11 #[vr a, vr ca, vi 0, vi 0, .val .null, uu] [(.ref a22), (.ref a)]) (fun _ k => st22 _ k) ?_
  obtain ⟨T23, X23, e23, st23⟩ := getF X22 hx hZ22 hown22 (host := "") (Or.inl (hw _ (mo 29 rfl))) Via.refl e22 Fv22 (g := (mkF m 11 #[vr a, vr ca, vi 0, vi 0, .val .null, uu] [(.ref a22), (.ref a)])) rfl rfl (hb hby d4_11)
  refine bW T23 (mkF m 14 #[vr a, vr ca, vi 0, vi 0, .val .null, uu] [(.ref b22), (.ref a)]) (fun _ k => st23 _ k) ?_
  obtain ⟨T24, h24, X24, e24, W24, st24⟩ := putF X23 hx hZ22 hown22 (host := "") (Or.inl (hw _ (mo 29 rfl))) Via.refl e23 (Fld.ext E22 F_value_a) (Exa.ext E22 E_a) (Or.inr ⟨(hw _ (mo 25 rfl)), rfl, hnm⟩) (hw _ (mo 11 rfl)) (ty := (.array .byte)) (by decide) rfl rfl (g := (mkF m 14 #[vr a, vr ca, vi 0, vi 0, .val .null, uu] [(.ref b22), (.ref a)])) rfl rfl (hb hby d4_14)
  have Fw24 : Fld Z h24 a "java/lang/String" "value" "[B" (.ref b22) := Fld.same W24 (Fld.ext E22 F_value_a)
  have K24 : Keep h0 h24 [a] := Keep.wr K22 W24 (Or.inl (mo 0 rfl))
  have Sf24_a : Safe Z consts_1 T22.vm h24 a := Safe.wr W24 Sf22_a C22.1 Sf22_a
  have C24 : CHr Z consts_1 s.vm s.heap T22.vm h24 := CHr.trans C22 (CHr.wr W24 Sf22_a C22.1)
  have N24 := Fr.snoc X24 (Fr.nil n0) g_a
  refine bW T24 (mkF m 17 #[vr a, vr ca, vi 0, vi 0, .val .null, uu] []) (fun _ k => st24 _ k) ?_
  refine bW T24 (mkF m 18 #[vr a, vr ca, vi 0, vi 0, .val .null, uu] [(.ref a)]) (fun _ k => XS.aloadN X24.here hx rfl (hb hby d4_17) rfl rfl k) ?_
  obtain ⟨a25, T25, h25, k25, b25, kb25, X25, e25, E25, hS25, hk25, hZ25, hown25, Ex25, Fc25, Fv25, V25, la25, lb25, Cq25, Lt25, D25, st25⟩ := ldcCH (s := s) (EL := consts_1) X24 hx hZ22 hown22 (hw _ (mo 23 rfl)) hwS e24 hS22 (Nat.le_trans hk22 (Keep.of_wr W24).1) hEL (mo 0 rfl) C24.1 (vs := []) (z := (0 : Int32)) ⟨by decide, by decide⟩ (by decide) (by decide) (g := (mkF m 18 #[vr a, vr ca, vi 0, vi 0, .val .null, uu] [(.ref a)])) rfl (hb hby d4_18) (n := 0) (by decide) (by decide) (by decide) (by decide)
  have Sf25_a : Safe Z consts_1 T25.vm h25 a := CHr.safe Cq25 ((Exa.wr W24 (Exa.ext E22 E_a))).lt Sf24_a
  have C25 : CHr Z consts_1 s.vm s.heap T25.vm h25 := CHr.trans C24 Cq25
  have K25 : Keep h0 h25 [a] := Keep.ext K24 E25
  refine bW T25 (mkF m 20 #[vr a, vr ca, vi 0, vi 0, .val .null, uu] [(.ref a25), (.ref a)]) (fun _ k => st25 _ k) ?_
  obtain ⟨T26, X26, e26, st26⟩ := getF X25 hx hZ25 hown25 (host := "") (Or.inl (hw _ (mo 30 rfl))) Via.refl e25 Fc25 (g := (mkF m 20 #[vr a, vr ca, vi 0, vi 0, .val .null, uu] [(.ref a25), (.ref a)])) rfl rfl (hb hby d4_20)
  refine bW T26 (mkF m 23 #[vr a, vr ca, vi 0, vi 0, .val .null, uu] [(ii 0), (.ref a)]) (fun _ k => st26 _ k) ?_
  obtain ⟨T27, h27, X27, e27, W27, st27⟩ := putFN X26 hx hZ25 hown25 (hw _ (mo 30 rfl)) Via.refl e26 (Fld.ext E25 (Fld.other W24 (Fld.ext E22 F_coder_a) (Or.inr (slot_ne (a0 := a0) (Or.inr (hw _ (mo 26 rfl))) (Or.inr (hw _ (mo 25 rfl))) (by decide) (t := .byte) (t' := (.array .byte)) (by decide) (by decide))))) (Exa.ext E25 (Exa.wr W24 (Exa.ext E22 E_a))) (Or.inr ⟨(hw _ (mo 26 rfl)), rfl, hnm⟩) (hw _ (mo 11 rfl)) (ty := .byte) (v' := (ii 0)) (by decide) rfl (by decide) (g := (mkF m 23 #[vr a, vr ca, vi 0, vi 0, .val .null, uu] [(ii 0), (.ref a)])) rfl rfl (hb hby d4_23)
  have Fw27 : Fld Z h27 a "java/lang/String" "coder" "B" (ii 0) := Fld.same W27 (Fld.ext E25 (Fld.other W24 (Fld.ext E22 F_coder_a) (Or.inr (slot_ne (a0 := a0) (Or.inr (hw _ (mo 26 rfl))) (Or.inr (hw _ (mo 25 rfl))) (by decide) (t := .byte) (t' := (.array .byte)) (by decide) (by decide)))))
  have K27 : Keep h0 h27 [a] := Keep.wr K25 W27 (Or.inl (mo 0 rfl))
  have Sf27_a : Safe Z consts_1 T25.vm h27 a := Safe.wr W27 Sf25_a C25.1 Sf25_a
  have C27 : CHr Z consts_1 s.vm s.heap T25.vm h27 := CHr.trans C25 (CHr.wr W27 Sf25_a C25.1)
  have N27 := Fr.snoc X27 N24 g_a
  refine bW T27 (mkF m 26 #[vr a, vr ca, vi 0, vi 0, .val .null, uu] []) (fun _ k => st27 _ k) ?_
  refine own_retW (s := s) X27 hlk hS25 (by rw [e27]; exact (Nat.le_trans hk25 (Keep.of_wr W27).1)) hZ25 hEL C27 e27 (v := none) (fun _ => rfl) (fun fs hr => X27.returnOut hx Bd.returns (hb hby d4_26) hr) ?_ (by decide) (by decide)
  rw [e27]
  exact ⟨rfl, N27, K27, Fw27, _, _, (Fld.other W27 (Fld.ext E25 Fw24) (Or.inr (slot_ne (a0 := a0) (Or.inr (hw _ (mo 25 rfl))) (Or.inr (hw _ (mo 26 rfl))) (by decide) (t := (.array .byte)) (t' := .byte) (by decide) (by decide)))), (Arv.other (Arv.ext (Arv.other V22 W24 (Ne.symm (D22 a Sf22_a).2)) E25) W27 (Ne.symm (D22 a Sf22_a).2))⟩
theorem ef_sin1_0 (m : MethodId) (a ca : Addr) : entryFrame m #[(.ref a), (.ref ca)] 2 = mkF m 0 #[vr a, vr ca] [] := rfl
def V_sin1_0 (Z : State) (a ca : Addr) (kc : ClassId) (h0 : Heap) (vm : Vm) : Prop := Safe Z consts_1 vm h0 a
def Q_sin1_0 (Z : State) (a ca : Addr) (kc : ClassId) (h0 : Heap) (n0 : Nat) (v : Option Value) (h : Heap) (L : List Loc) : Prop := v = none ∧ Fr n0 L ∧ Keep h0 h [a] ∧ Fld Z h a "java/lang/String" "coder" "B" (ii 0) ∧ ∃ (t : Addr) (kb : ClassId), Fld Z h a "java/lang/String" "value" "[B" (.ref t) ∧ Arv Z h t kb .byte (0 : Int32) [] (ii 0)
theorem sin1_0 (l : Launch) (Z : State) (a0 : Array Value) (hw : HW Z a0) (ws : List Jvm.Cond) (a ca : Addr) (kc : ClassId) (h0 : Heap) (n0 : Nat) (Z0 : n0 ≤ h0.size) (E_a : Exa Z h0 a "java/lang/String") (F_value_a : Fld Z h0 a "java/lang/String" "value" "[B" .null) (F_coder_a : Fld Z h0 a "java/lang/String" "coder" "B" (ii 0)) (g_a : n0 ≤ a) (V_ca : Arv Z h0 ca kc .char (0 : Int32) [] (ii 0)) :
    MetFree l yy6 (head1 (Jvm.Cond.code yy6 jdk_42_method_3_code 2 none :: ws) rr19) (fun zz UU => zz = #[(.ref a), (.ref ca)] ∧ Z.Warmed39 UU.vm ∧ UU.heap = h0 ∧ CHv Z consts_1 UU.vm h0 ∧ V_sin1_0 Z a ca kc h0 UU.vm) (fun _ _ _ _ _ => True) (fun _ U o U' => ∃ v L, o = .returned v ∧ Q_sin1_0 Z a ca kc h0 n0 v U'.heap L ∧ CHr Z consts_1 U.vm U.heap U'.vm U'.heap ∧ ReturnedEndW U o U' L rr19.cells rr19.slots) := by
  refine MetFree.of_bodySF (plainFor_of_name pn_3) hisR ?_
  intro p e s m args below meth c s₁ Bd hml0 hP hK
  obtain ⟨rfl, hZ, hh, hH, hV⟩ := hP
  have hx := Bd.exec
  have hby := Bd.bytes
  have hml : c.maxLocals = 2 := hml0
  have hown : s.vm.findClass "java/lang/String" = some m.cls := findClass_of_methodNamed Bd.named
  have hnm := (name_of_methodNamed Bd.named Bd.method).1
  have hlk : meth.locks = false := BodyLoose.notSynchronized Bd
  have X0 : Stand p l e rr19 (s.setVm s.vm) m #[(.ref a), (.ref ca)] below meth c s₁ [] 0 0 := Stand.of_body Bd
  have e0 : s₁.heap = h0 := by rw [← hh, Bd.state]; rfl
  have N0 := Fr.nil n0
  show own_GoW p.tables e below Z consts_1 (Q_sin1_0 Z a ca kc h0 n0) s rr19.cells rr19.slots s₁ (entryFrame m #[(.ref a), (.ref ca)] 2)
  rw [ef_sin1_0 m a ca]
  have hS0 : s.Since s.vm s.heap.size := (State.WarmedH.refl s).since _
  have hk0 : s.heap.size ≤ h0.size := Nat.le_of_eq (congrArg Array.size hh)
  have C0 : CHr Z consts_1 s.vm s.heap s.vm h0 := by rw [hh]; exact CHr.refl hH
  have hEL : EW Z a0 consts_1 := own_EL hw
  have hwS : ∀ d ∈ Bundle.stringAtoms, d.before a0 Z = true := fun d hd => hw d (own_SA d hd)
  refine bW s₁ (mkF m 1 #[vr a, vr ca] [(.ref a)]) (fun _ k => XS.aloadN X0.here hx rfl (hb hby d3_0) rfl rfl k) ?_
  refine bW s₁ (mkF m 2 #[vr a, vr ca] [(.ref ca), (.ref a)]) (fun _ k => XS.aloadN X0.here hx rfl (hb hby d3_1) rfl rfl k) ?_
  refine bW s₁ (mkF m 3 #[vr a, vr ca] [(ii 0), (.ref ca), (.ref a)]) (fun _ k => XS.iconst X0.here hx rfl (hb hby d3_2) k) ?_
  refine bW s₁ (mkF m 4 #[vr a, vr ca] [(.ref ca), (ii 0), (.ref ca), (.ref a)]) (fun _ k => XS.aloadN X0.here hx rfl (hb hby d3_3) rfl rfl k) ?_
  obtain ⟨cl21, Ar21, q21, S21, N_21, H21, G21⟩ := id V_ca
  refine bW s₁ (mkF m 5 #[vr a, vr ca] [(ii 0), (ii 0), (.ref ca), (.ref a)]) (fun _ k => X0.arraylength hx (by rw [e0]; exact Ar21.1) (State.isArrayOf_alike hZ.alike Ar21.2.1) (g := (mkF m 4 #[vr a, vr ca] [(.ref ca), (ii 0), (.ref ca), (.ref a)])) rfl rfl (hb hby d3_4) _ (by rw [len_of S21 N_21]; exact k)) ?_
  refine bW s₁ (mkF m 6 #[vr a, vr ca] [.null, (ii 0), (ii 0), (.ref ca), (.ref a)]) (fun _ k => XS.aconstNull X0.here hx rfl (hb hby d3_5) k) ?_
  obtain ⟨_, _, ⟨T22, L22, k22, n22⟩, -, X22, hSq22, hgq22, ⟨Lc22, hQ22, l22, y22, z22, Cq22⟩, st22⟩ := X0.specialBackS hx (y := yy5) rfl hown (mvT hZ (hw _ (mo 16 rfl))) (mvT hZ (hw _ (mo 17 rfl))) (mvT hZ (hw _ (mo 19 rfl))) (by decide) (own_backSH (s := s) (EL := consts_1) (W := 0) (sin4_0 l Z a0 hw [] a ca  h0 n0 Z0 E_a F_value_a F_coder_a g_a) hZ (hw _ (mo 19 rfl)) (hw _ (mo 12 rfl)) (by decide) (by decide) hEL C0.1 (fun vm hC => CHr.safe hC E_a.lt hV)) (g := (mkF m 6 #[vr a, vr ca] [.null, (ii 0), (ii 0), (.ref ca), (.ref a)])) rfl (by rw [hml]; rfl) (Steps.refl _) (a := a) (argsL := [(.ref ca), (ii 0), (ii 0), .null]) (rest := []) (lenOf pd_3 rfl) rfl (Nat.le_of_eq rfl) (hb hby d3_6) (fun _ _ => ⟨rfl, e0, (by decide : 4 ≤ _), (by decide : 8 ≤ _)⟩)
  dsimp only [Pt.U, Pt.locs, Pt.cells, Pt.slots] at X22 l22 y22 z22 st22 hQ22 hSq22 hgq22 Cq22
  subst l22 y22 z22
  obtain ⟨rfl, N22q, K22, Fc22, t22, kb22, Fv22, V22⟩ := hQ22
  have N22 := Fr.app (Fr.nil n0) N22q
  have KK22 : Keep h0 T22.heap [a] := Keep.trans (Keep.refl h0 [a]) K22 (allS (Or.inl (mo 0 rfl)) all0)
  have hS22 := foldS hS0 (T := s₁) (by rw [e0]; exact hk0) hSq22 hgq22
  have hZ22 : Z.Warmed39 (s.setVm T22.vm).vm := State.Warmed39.trans hZ hSq22.1
  have hown22 : (s.setVm T22.vm).vm.findClass "java/lang/String" = some m.cls := by show T22.vm.findClass "java/lang/String" = some m.cls; rw [hSq22.1.alike.findClass]; exact hown
  have X22 : Stand p l e rr19 (s.setVm T22.vm) m #[(.ref a), (.ref ca)] below meth c T22 L22 (0 + 4) (0 + 8) := X22
  have Sf22_a : Safe Z consts_1 T22.vm T22.heap a := CHr.safe Cq22 (E_a).lt hV
  have C22 : CHr Z consts_1 s.vm s.heap T22.vm T22.heap := CHr.trans C0 Cq22
  refine bW T22 (mkF m 9 #[vr a, vr ca] []) (fun _ k => st22.trans k) ?_
  refine own_retW (s := s) X22 hlk hS22 (Nat.le_refl _) hZ22 hEL C22 rfl (v := none) (fun _ => rfl) (fun fs hr => X22.returnOut hx Bd.returns (hb hby d3_9) hr) ?_ (by decide) (by decide)
  exact ⟨rfl, N22, KK22, Fc22, _, _, Fv22, V22⟩
theorem d20_0 : decode jdk_52_method_4_code 0 = .ok (.getstatic 44, 3) := by decide +kernel
theorem d20_3 : decode jdk_52_method_4_code 3 = .ok (.ifCond .ne 25, 3) := by decide +kernel
theorem d20_28 : decode jdk_52_method_4_code 28 = .ok (.iload_n 1, 1) := by decide +kernel
theorem d20_29 : decode jdk_52_method_4_code 29 = .ok (.iconst 1, 1) := by decide +kernel
theorem d20_30 : decode jdk_52_method_4_code 30 = .ok (.ishl, 1) := by decide +kernel
theorem d20_31 : decode jdk_52_method_4_code 31 = .ok (.istore_n 1, 1) := by decide +kernel
theorem d20_32 : decode jdk_52_method_4_code 32 = .ok (.aload_n 0, 1) := by decide +kernel
theorem d20_33 : decode jdk_52_method_4_code 33 = .ok (.iload_n 1, 1) := by decide +kernel
theorem d20_34 : decode jdk_52_method_4_code 34 = .ok (.iinc 1 1, 3) := by decide +kernel
theorem d20_37 : decode jdk_52_method_4_code 37 = .ok (.iload_n 2, 1) := by decide +kernel
theorem d20_38 : decode jdk_52_method_4_code 38 = .ok (.getstatic 59, 3) := by decide +kernel
theorem d20_41 : decode jdk_52_method_4_code 41 = .ok (.ishr, 1) := by decide +kernel
theorem d20_42 : decode jdk_52_method_4_code 42 = .ok (.i2b, 1) := by decide +kernel
theorem d20_43 : decode jdk_52_method_4_code 43 = .ok (.bastore, 1) := by decide +kernel
theorem d20_44 : decode jdk_52_method_4_code 44 = .ok (.aload_n 0, 1) := by decide +kernel
theorem d20_45 : decode jdk_52_method_4_code 45 = .ok (.iload_n 1, 1) := by decide +kernel
theorem d20_46 : decode jdk_52_method_4_code 46 = .ok (.iload_n 2, 1) := by decide +kernel
theorem d20_47 : decode jdk_52_method_4_code 47 = .ok (.getstatic 63, 3) := by decide +kernel
theorem d20_50 : decode jdk_52_method_4_code 50 = .ok (.ishr, 1) := by decide +kernel
theorem d20_51 : decode jdk_52_method_4_code 51 = .ok (.i2b, 1) := by decide +kernel
theorem d20_52 : decode jdk_52_method_4_code 52 = .ok (.bastore, 1) := by decide +kernel
theorem d20_53 : decode jdk_52_method_4_code 53 = .ok (.return_, 1) := by decide +kernel
theorem pn_20 : plainName "java/lang/StringUTF16" = true := by first | (simp [plainName, overriddenIn]; done) | decide +kernel
theorem ef_put_0 (m : MethodId) (ba : Addr) (cc : Int32) : entryFrame m #[(.ref ba), (ii 0), (.int cc)] 3 = mkF m 0 #[vr ba, vi 0, vi cc] [] := rfl
def Q_put_0 (Z : State) (ba : Addr) (cc : Int32) (kb : ClassId) (zl : Int32) (vs : List Value) (h0 : Heap) (n0 : Nat) (v : Option Value) (h : Heap) (L : List Loc) : Prop := v = none ∧ Fr n0 L ∧ Keep h0 h [ba] ∧ Arv Z h ba kb .byte zl ((vs.set 0 (.int (b0 cc))).set 1 (.int (b1 cc))) (ii 0)
theorem put_0 (l : Launch) (Z : State) (a0 : Array Value) (hw : HW Z a0) (ws : List Jvm.Cond) (ba : Addr) (cc : Int32) (kb : ClassId) (zl : Int32) (vs : List Value) (h0 : Heap) (n0 : Nat) (Z0 : n0 ≤ h0.size) (S_AD : AD Z h0) (S_HI : HI Z h0) (S_LO : LO Z h0) (V_ba : Arv Z h0 ba kb .byte zl vs (ii 0)) (hz0 : (0 : Int32) < zl) (hz1 : (1 : Int32) < zl) (hl0 : 0 < vs.length) (hl1 : 1 < vs.length) (g_ba : n0 ≤ ba) :
    own_M l yy7 jdk_52_method_4_code 3 none ws rr0 Z #[(.ref ba), (ii 0), (.int cc)] h0 (Q_put_0 Z ba cc kb zl vs h0 n0) := by
  refine own_bd (plainFor_of_name pn_20) fun p e s m below meth c s₁ Bd hx hby hml hown hnm hlk hZ X0 e0 => ?_
  rw [ef_put_0 m ba cc]
  obtain ⟨T21, X21, e21, st21⟩ := getS2 X0 hx hZ hown (host := "") (Or.inl (hw _ (mo 93 rfl))) Via.refl e0 S_AD (g := (mkF m 0 #[vr ba, vi 0, vi cc] [])) rfl (hb hby d20_0)
  refine bN T21 (mkF m 3 #[vr ba, vi 0, vi cc] [(.int (1 : Int32))]) (fun _ k => st21 _ k) ?_
  refine bN T21 (mkF m 28 #[vr ba, vi 0, vi cc] []) (fun _ k => XS.ifYes X21.here hx rfl (pc0 := 3) (pc' := 28) rfl (hb hby d20_3) rfl ((if0 _ _).trans (feq (by decide)).2) (by decide) (by decide) k) ?_
  refine bN T21 (mkF m 29 #[vr ba, vi 0, vi cc] [(ii 0)]) (fun _ k => XS.iloadN X21.here hx rfl (hb hby d20_28) rfl k) ?_
  refine bN T21 (mkF m 30 #[vr ba, vi 0, vi cc] [(.int (1 : Int32)), (ii 0)]) (fun _ k => XS.iconst X21.here hx rfl (hb hby d20_29) k) ?_
  refine bN T21 (mkF m 31 #[vr ba, vi 0, vi cc] [(ii 0)]) (fun _ k => XS.ishl X21.here hx rfl (hb hby d20_30) rfl k) ?_
  refine bN T21 (mkF m 32 #[vr ba, vi 0, vi cc] []) (fun _ k => XS.istoreN X21.here hx rfl (hb hby d20_31) rfl rfl k) ?_
  refine bN T21 (mkF m 33 #[vr ba, vi 0, vi cc] [(.ref ba)]) (fun _ k => XS.aloadN X21.here hx rfl (hb hby d20_32) rfl rfl k) ?_
  refine bN T21 (mkF m 34 #[vr ba, vi 0, vi cc] [(ii 0), (.ref ba)]) (fun _ k => XS.iloadN X21.here hx rfl (hb hby d20_33) rfl k) ?_
  refine bN T21 (mkF m 37 #[vr ba, vi 1, vi cc] [(ii 0), (.ref ba)]) (fun _ k => XS.iinc X21.here hx rfl (hb hby d20_34) rfl rfl k) ?_
  refine bN T21 (mkF m 38 #[vr ba, vi 1, vi cc] [(.int cc), (ii 0), (.ref ba)]) (fun _ k => XS.iloadN X21.here hx rfl (hb hby d20_37) rfl k) ?_
  obtain ⟨T22, X22, e22, st22⟩ := getS2 X21 hx hZ hown (host := "") (Or.inl (hw _ (mo 94 rfl))) Via.refl e21 S_HI (g := (mkF m 38 #[vr ba, vi 1, vi cc] [(.int cc), (ii 0), (.ref ba)])) rfl (hb hby d20_38)
  refine bN T22 (mkF m 41 #[vr ba, vi 1, vi cc] [(ii 0), (.int cc), (ii 0), (.ref ba)]) (fun _ k => st22 _ k) ?_
  refine bN T22 (mkF m 42 #[vr ba, vi 1, vi cc] [(.int (cc >>> ((0 : Int32) &&& 31))), (ii 0), (.ref ba)]) (fun _ k => XS.ishr X22.here hx rfl (hb hby d20_41) rfl k) ?_
  refine bN T22 (mkF m 43 #[vr ba, vi 1, vi cc] [(.int ((cc >>> ((0 : Int32) &&& 31)).toInt8.toInt32)), (ii 0), (.ref ba)]) (fun _ k => XS.i2b X22.here hx rfl (hb hby d20_42) rfl k) ?_
  obtain ⟨cl23, Ar23, q23, S23, N_23, H23, G23⟩ := id V_ba
  have hin23 : ¬ ((0 : Int32) < 0 ∨ cl23.slots.size ≤ ((0 : Int32)).toNatClampNeg) := inb_of S23 ⟨by decide, hz0⟩
  obtain ⟨T24, h24, X24, e24, W24, st24⟩ := stB X22 hx hZ e22 Ar23 (j := (0 : Int32)) hin23 (g := (mkF m 43 #[vr ba, vi 1, vi cc] [(.int ((cc >>> ((0 : Int32) &&& 31)).toInt8.toInt32)), (ii 0), (.ref ba)])) rfl rfl (hb hby d20_43)
  have V24 : Arv Z h24 ba kb .byte zl (vs.set 0 (.int (b0 cc))) (ii 0) := Arv.set Ar23 q23 S23 N_23 H23 G23 (fits_nar_byte _) W24 0 rfl hl0
  have K24 : Keep h0 h24 [ba] := Keep.wr (Keep.refl h0 [ba]) W24 (Or.inl (mo 0 rfl))
  have N24 := Fr.snoc X24 (Fr.nil n0) g_ba
  refine bN T24 (mkF m 44 #[vr ba, vi 1, vi cc] []) (fun _ k => st24 _ k) ?_
  refine bN T24 (mkF m 45 #[vr ba, vi 1, vi cc] [(.ref ba)]) (fun _ k => XS.aloadN X24.here hx rfl (hb hby d20_44) rfl rfl k) ?_
  refine bN T24 (mkF m 46 #[vr ba, vi 1, vi cc] [(.int (1 : Int32)), (.ref ba)]) (fun _ k => XS.iloadN X24.here hx rfl (hb hby d20_45) rfl k) ?_
  refine bN T24 (mkF m 47 #[vr ba, vi 1, vi cc] [(.int cc), (.int (1 : Int32)), (.ref ba)]) (fun _ k => XS.iloadN X24.here hx rfl (hb hby d20_46) rfl k) ?_
  obtain ⟨T25, X25, e25, st25⟩ := getS2 X24 hx hZ hown (host := "") (Or.inl (hw _ (mo 95 rfl))) Via.refl e24 (Sta.wr W24 S_LO) (g := (mkF m 47 #[vr ba, vi 1, vi cc] [(.int cc), (.int (1 : Int32)), (.ref ba)])) rfl (hb hby d20_47)
  refine bN T25 (mkF m 50 #[vr ba, vi 1, vi cc] [(.int (8 : Int32)), (.int cc), (.int (1 : Int32)), (.ref ba)]) (fun _ k => st25 _ k) ?_
  refine bN T25 (mkF m 51 #[vr ba, vi 1, vi cc] [(.int (cc >>> ((8 : Int32) &&& 31))), (.int (1 : Int32)), (.ref ba)]) (fun _ k => XS.ishr X25.here hx rfl (hb hby d20_50) rfl k) ?_
  refine bN T25 (mkF m 52 #[vr ba, vi 1, vi cc] [(.int ((cc >>> ((8 : Int32) &&& 31)).toInt8.toInt32)), (.int (1 : Int32)), (.ref ba)]) (fun _ k => XS.i2b X25.here hx rfl (hb hby d20_51) rfl k) ?_
  obtain ⟨cl26, Ar26, q26, S26, N_26, H26, G26⟩ := id V24
  have hin26 : ¬ ((1 : Int32) < 0 ∨ cl26.slots.size ≤ ((1 : Int32)).toNatClampNeg) := inb_of S26 ⟨by decide, hz1⟩
  obtain ⟨T27, h27, X27, e27, W27, st27⟩ := stB X25 hx hZ e25 Ar26 (j := (1 : Int32)) hin26 (g := (mkF m 52 #[vr ba, vi 1, vi cc] [(.int ((cc >>> ((8 : Int32) &&& 31)).toInt8.toInt32)), (.int (1 : Int32)), (.ref ba)])) rfl rfl (hb hby d20_52)
  have V27 : Arv Z h27 ba kb .byte zl ((vs.set 0 (.int (b0 cc))).set 1 (.int (b1 cc))) (ii 0) := Arv.set Ar26 q26 S26 N_26 H26 G26 (fits_nar_byte _) W27 1 rfl (by rw [List.length_set]; exact hl1)
  have K27 : Keep h0 h27 [ba] := Keep.wr K24 W27 (Or.inl (mo 0 rfl))
  have N27 := Fr.snoc X27 N24 g_ba
  refine bN T27 (mkF m 53 #[vr ba, vi 1, vi cc] []) (fun _ k => st27 _ k) ?_
  refine own_ret X27 hlk (v := none) (fun _ => rfl) (fun fs hr => X27.returnOut hx Bd.returns (hb hby d20_53) hr) ?_ (by decide) (by decide)
  rw [e27]
  exact ⟨rfl, N27, K27, V27⟩
theorem d21_0 : decode jdk_52_method_5_code 0 = .ok (.getstatic 44, 3) := by decide +kernel
theorem d21_3 : decode jdk_52_method_5_code 3 = .ok (.ifCond .ne 25, 3) := by decide +kernel
theorem d21_28 : decode jdk_52_method_5_code 28 = .ok (.iload_n 1, 1) := by decide +kernel
theorem d21_29 : decode jdk_52_method_5_code 29 = .ok (.iconst 1, 1) := by decide +kernel
theorem d21_30 : decode jdk_52_method_5_code 30 = .ok (.ishl, 1) := by decide +kernel
theorem d21_31 : decode jdk_52_method_5_code 31 = .ok (.istore_n 1, 1) := by decide +kernel
theorem d21_32 : decode jdk_52_method_5_code 32 = .ok (.aload_n 0, 1) := by decide +kernel
theorem d21_33 : decode jdk_52_method_5_code 33 = .ok (.iload_n 1, 1) := by decide +kernel
theorem d21_34 : decode jdk_52_method_5_code 34 = .ok (.iinc 1 1, 3) := by decide +kernel
theorem d21_37 : decode jdk_52_method_5_code 37 = .ok (.baload, 1) := by decide +kernel
theorem d21_38 : decode jdk_52_method_5_code 38 = .ok (.sipush 255, 3) := by decide +kernel
theorem d21_41 : decode jdk_52_method_5_code 41 = .ok (.iand, 1) := by decide +kernel
theorem d21_42 : decode jdk_52_method_5_code 42 = .ok (.getstatic 59, 3) := by decide +kernel
theorem d21_45 : decode jdk_52_method_5_code 45 = .ok (.ishl, 1) := by decide +kernel
theorem d21_46 : decode jdk_52_method_5_code 46 = .ok (.aload_n 0, 1) := by decide +kernel
theorem d21_47 : decode jdk_52_method_5_code 47 = .ok (.iload_n 1, 1) := by decide +kernel
theorem d21_48 : decode jdk_52_method_5_code 48 = .ok (.baload, 1) := by decide +kernel
theorem d21_49 : decode jdk_52_method_5_code 49 = .ok (.sipush 255, 3) := by decide +kernel
theorem d21_52 : decode jdk_52_method_5_code 52 = .ok (.iand, 1) := by decide +kernel
theorem d21_53 : decode jdk_52_method_5_code 53 = .ok (.getstatic 63, 3) := by decide +kernel
theorem d21_56 : decode jdk_52_method_5_code 56 = .ok (.ishl, 1) := by decide +kernel
theorem d21_57 : decode jdk_52_method_5_code 57 = .ok (.ior, 1) := by decide +kernel
theorem d21_58 : decode jdk_52_method_5_code 58 = .ok (.i2c, 1) := by decide +kernel
theorem d21_59 : decode jdk_52_method_5_code 59 = .ok (.ireturn, 1) := by decide +kernel
theorem pn_21 : plainName "java/lang/StringUTF16" = true := by first | (simp [plainName, overriddenIn]; done) | decide +kernel
theorem ef_get_0 (m : MethodId) (ba : Addr) : entryFrame m #[(.ref ba), (ii 0)] 2 = mkF m 0 #[vr ba, vi 0] [] := rfl
def Q_get_0 (Z : State) (ba : Addr) (kb : ClassId) (zl : Int32) (vs : List Value) (xx yx : Int32) (h0 : Heap) (n0 : Nat) (v : Option Value) (h : Heap) (L : List Loc) : Prop := v = some (.int (nar .char ((((xx &&& (255 : Int32)) <<< ((0 : Int32) &&& 31)) ||| ((yx &&& (255 : Int32)) <<< ((8 : Int32) &&& 31))).toUInt32.toUInt16.toUInt32.toInt32))) ∧ Fr n0 L ∧ h = h0
theorem get_0 (l : Launch) (Z : State) (a0 : Array Value) (hw : HW Z a0) (ws : List Jvm.Cond) (ba : Addr) (kb : ClassId) (zl : Int32) (vs : List Value) (xx yx : Int32) (h0 : Heap) (n0 : Nat) (Z0 : n0 ≤ h0.size) (S_AD : AD Z h0) (S_HI : HI Z h0) (S_LO : LO Z h0) (V_ba : Arv Z h0 ba kb .byte zl vs (ii 0)) (hz0 : (0 : Int32) < zl) (hz1 : (1 : Int32) < zl) (hv0 : vs.getD 0 (ii 0) = (.int xx)) (hv1 : vs.getD 1 (ii 0) = (.int yx)) :
    own_M l yy8 jdk_52_method_5_code 2 (some .char) ws rr0 Z #[(.ref ba), (ii 0)] h0 (Q_get_0 Z ba kb zl vs xx yx h0 n0) := by
  refine own_bd (plainFor_of_name pn_21) fun p e s m below meth c s₁ Bd hx hby hml hown hnm hlk hZ X0 e0 => ?_
  rw [ef_get_0 m ba]
  obtain ⟨T21, X21, e21, st21⟩ := getS2 X0 hx hZ hown (host := "") (Or.inl (hw _ (mo 93 rfl))) Via.refl e0 S_AD (g := (mkF m 0 #[vr ba, vi 0] [])) rfl (hb hby d21_0)
  refine bN T21 (mkF m 3 #[vr ba, vi 0] [(.int (1 : Int32))]) (fun _ k => st21 _ k) ?_
  refine bN T21 (mkF m 28 #[vr ba, vi 0] []) (fun _ k => XS.ifYes X21.here hx rfl (pc0 := 3) (pc' := 28) rfl (hb hby d21_3) rfl ((if0 _ _).trans (feq (by decide)).2) (by decide) (by decide) k) ?_
  refine bN T21 (mkF m 29 #[vr ba, vi 0] [(ii 0)]) (fun _ k => XS.iloadN X21.here hx rfl (hb hby d21_28) rfl k) ?_
  refine bN T21 (mkF m 30 #[vr ba, vi 0] [(.int (1 : Int32)), (ii 0)]) (fun _ k => XS.iconst X21.here hx rfl (hb hby d21_29) k) ?_
  refine bN T21 (mkF m 31 #[vr ba, vi 0] [(ii 0)]) (fun _ k => XS.ishl X21.here hx rfl (hb hby d21_30) rfl k) ?_
  refine bN T21 (mkF m 32 #[vr ba, vi 0] []) (fun _ k => XS.istoreN X21.here hx rfl (hb hby d21_31) rfl rfl k) ?_
  refine bN T21 (mkF m 33 #[vr ba, vi 0] [(.ref ba)]) (fun _ k => XS.aloadN X21.here hx rfl (hb hby d21_32) rfl rfl k) ?_
  refine bN T21 (mkF m 34 #[vr ba, vi 0] [(ii 0), (.ref ba)]) (fun _ k => XS.iloadN X21.here hx rfl (hb hby d21_33) rfl k) ?_
  refine bN T21 (mkF m 37 #[vr ba, vi 1] [(ii 0), (.ref ba)]) (fun _ k => XS.iinc X21.here hx rfl (hb hby d21_34) rfl rfl k) ?_
  obtain ⟨cl22, Ar22, q22, S22, N_22, H22, G22⟩ := id V_ba
  have hin22 : ¬ ((0 : Int32) < 0 ∨ cl22.slots.size ≤ ((0 : Int32)).toNatClampNeg) := inb_of S22 ⟨by decide, hz0⟩
  refine bN T21 (mkF m 38 #[vr ba, vi 1] [(.int xx)]) (fun _ k => X21.baloadBytes hx (j := (0 : Int32)) (v := (.int xx)) (by rw [e21]; exact Ar22.1) (State.isArrayOf_alike hZ.alike Ar22.2.1) Ar22.2.2 hin22 (Has.at H22 hin22 hv0) (g := (mkF m 37 #[vr ba, vi 1] [(ii 0), (.ref ba)])) rfl rfl (hb hby d21_37) _ k) ?_
  refine bN T21 (mkF m 41 #[vr ba, vi 1] [(.int (255 : Int32)), (.int xx)]) (fun _ k => XS.sipush X21.here hx rfl (hb hby d21_38) k) ?_
  refine bN T21 (mkF m 42 #[vr ba, vi 1] [(.int (xx &&& (255 : Int32)))]) (fun _ k => XS.iand X21.here hx rfl (hb hby d21_41) rfl k) ?_
  obtain ⟨T23, X23, e23, st23⟩ := getS2 X21 hx hZ hown (host := "") (Or.inl (hw _ (mo 94 rfl))) Via.refl e21 S_HI (g := (mkF m 42 #[vr ba, vi 1] [(.int (xx &&& (255 : Int32)))])) rfl (hb hby d21_42)
  refine bN T23 (mkF m 45 #[vr ba, vi 1] [(ii 0), (.int (xx &&& (255 : Int32)))]) (fun _ k => st23 _ k) ?_
  refine bN T23 (mkF m 46 #[vr ba, vi 1] [(.int ((xx &&& (255 : Int32)) <<< ((0 : Int32) &&& 31)))]) (fun _ k => XS.ishl X23.here hx rfl (hb hby d21_45) rfl k) ?_
  refine bN T23 (mkF m 47 #[vr ba, vi 1] [(.ref ba), (.int ((xx &&& (255 : Int32)) <<< ((0 : Int32) &&& 31)))]) (fun _ k => XS.aloadN X23.here hx rfl (hb hby d21_46) rfl rfl k) ?_
  refine bN T23 (mkF m 48 #[vr ba, vi 1] [(.int (1 : Int32)), (.ref ba), (.int ((xx &&& (255 : Int32)) <<< ((0 : Int32) &&& 31)))]) (fun _ k => XS.iloadN X23.here hx rfl (hb hby d21_47) rfl k) ?_
  obtain ⟨cl24, Ar24, q24, S24, N_24, H24, G24⟩ := id V_ba
  have hin24 : ¬ ((1 : Int32) < 0 ∨ cl24.slots.size ≤ ((1 : Int32)).toNatClampNeg) := inb_of S24 ⟨by decide, hz1⟩
  refine bN T23 (mkF m 49 #[vr ba, vi 1] [(.int yx), (.int ((xx &&& (255 : Int32)) <<< ((0 : Int32) &&& 31)))]) (fun _ k => X23.baloadBytes hx (j := (1 : Int32)) (v := (.int yx)) (by rw [e23]; exact Ar24.1) (State.isArrayOf_alike hZ.alike Ar24.2.1) Ar24.2.2 hin24 (Has.at H24 hin24 hv1) (g := (mkF m 48 #[vr ba, vi 1] [(.int (1 : Int32)), (.ref ba), (.int ((xx &&& (255 : Int32)) <<< ((0 : Int32) &&& 31)))])) rfl rfl (hb hby d21_48) _ k) ?_
  refine bN T23 (mkF m 52 #[vr ba, vi 1] [(.int (255 : Int32)), (.int yx), (.int ((xx &&& (255 : Int32)) <<< ((0 : Int32) &&& 31)))]) (fun _ k => XS.sipush X23.here hx rfl (hb hby d21_49) k) ?_
  refine bN T23 (mkF m 53 #[vr ba, vi 1] [(.int (yx &&& (255 : Int32))), (.int ((xx &&& (255 : Int32)) <<< ((0 : Int32) &&& 31)))]) (fun _ k => XS.iand X23.here hx rfl (hb hby d21_52) rfl k) ?_
  obtain ⟨T25, X25, e25, st25⟩ := getS2 X23 hx hZ hown (host := "") (Or.inl (hw _ (mo 95 rfl))) Via.refl e23 S_LO (g := (mkF m 53 #[vr ba, vi 1] [(.int (yx &&& (255 : Int32))), (.int ((xx &&& (255 : Int32)) <<< ((0 : Int32) &&& 31)))])) rfl (hb hby d21_53)
  refine bN T25 (mkF m 56 #[vr ba, vi 1] [(.int (8 : Int32)), (.int (yx &&& (255 : Int32))), (.int ((xx &&& (255 : Int32)) <<< ((0 : Int32) &&& 31)))]) (fun _ k => st25 _ k) ?_
  refine bN T25 (mkF m 57 #[vr ba, vi 1] [(.int ((yx &&& (255 : Int32)) <<< ((8 : Int32) &&& 31))), (.int ((xx &&& (255 : Int32)) <<< ((0 : Int32) &&& 31)))]) (fun _ k => XS.ishl X25.here hx rfl (hb hby d21_56) rfl k) ?_
  refine bN T25 (mkF m 58 #[vr ba, vi 1] [(.int (((xx &&& (255 : Int32)) <<< ((0 : Int32) &&& 31)) ||| ((yx &&& (255 : Int32)) <<< ((8 : Int32) &&& 31))))]) (fun _ k => XS.ior X25.here hx rfl (hb hby d21_57) rfl k) ?_
  refine bN T25 (mkF m 59 #[vr ba, vi 1] [(.int ((((xx &&& (255 : Int32)) <<< ((0 : Int32) &&& 31)) ||| ((yx &&& (255 : Int32)) <<< ((8 : Int32) &&& 31))).toUInt32.toUInt16.toUInt32.toInt32))]) (fun _ k => XS.i2c X25.here hx rfl (hb hby d21_58) rfl k) ?_
  refine own_ret X25 hlk (v := some (.int (nar .char ((((xx &&& (255 : Int32)) <<< ((0 : Int32) &&& 31)) ||| ((yx &&& (255 : Int32)) <<< ((8 : Int32) &&& 31))).toUInt32.toUInt16.toUInt32.toInt32)))) (nvr Bd.returns) (fun fs hr => retN X25 hx (t := .char) Bd.returns (by simp) (hb hby d21_59) hr) ?_ (by decide) (by decide)
  rw [e25]
  exact ⟨rfl, (Fr.nil n0), rfl⟩
theorem ef_put_1 (m : MethodId) (ba : Addr) (cc : Int32) : entryFrame m #[(.ref ba), (.int (1 : Int32)), (.int cc)] 3 = mkF m 0 #[vr ba, vi 1, vi cc] [] := rfl
def Q_put_1 (Z : State) (ba : Addr) (cc : Int32) (kb : ClassId) (zl : Int32) (vs : List Value) (h0 : Heap) (n0 : Nat) (v : Option Value) (h : Heap) (L : List Loc) : Prop := v = none ∧ Fr n0 L ∧ Keep h0 h [ba] ∧ Arv Z h ba kb .byte zl ((vs.set 2 (.int (b0 cc))).set 3 (.int (b1 cc))) (ii 0)
theorem put_1 (l : Launch) (Z : State) (a0 : Array Value) (hw : HW Z a0) (ws : List Jvm.Cond) (ba : Addr) (cc : Int32) (kb : ClassId) (zl : Int32) (vs : List Value) (h0 : Heap) (n0 : Nat) (Z0 : n0 ≤ h0.size) (S_AD : AD Z h0) (S_HI : HI Z h0) (S_LO : LO Z h0) (V_ba : Arv Z h0 ba kb .byte zl vs (ii 0)) (hz0 : (2 : Int32) < zl) (hz1 : (3 : Int32) < zl) (hl0 : 2 < vs.length) (hl1 : 3 < vs.length) (g_ba : n0 ≤ ba) :
    own_M l yy7 jdk_52_method_4_code 3 none ws rr0 Z #[(.ref ba), (.int (1 : Int32)), (.int cc)] h0 (Q_put_1 Z ba cc kb zl vs h0 n0) := by
  refine own_bd (plainFor_of_name pn_20) fun p e s m below meth c s₁ Bd hx hby hml hown hnm hlk hZ X0 e0 => ?_
  rw [ef_put_1 m ba cc]
  obtain ⟨T21, X21, e21, st21⟩ := getS2 X0 hx hZ hown (host := "") (Or.inl (hw _ (mo 93 rfl))) Via.refl e0 S_AD (g := (mkF m 0 #[vr ba, vi 1, vi cc] [])) rfl (hb hby d20_0)
  refine bN T21 (mkF m 3 #[vr ba, vi 1, vi cc] [(.int (1 : Int32))]) (fun _ k => st21 _ k) ?_
  refine bN T21 (mkF m 28 #[vr ba, vi 1, vi cc] []) (fun _ k => XS.ifYes X21.here hx rfl (pc0 := 3) (pc' := 28) rfl (hb hby d20_3) rfl ((if0 _ _).trans (feq (by decide)).2) (by decide) (by decide) k) ?_
  refine bN T21 (mkF m 29 #[vr ba, vi 1, vi cc] [(.int (1 : Int32))]) (fun _ k => XS.iloadN X21.here hx rfl (hb hby d20_28) rfl k) ?_
  refine bN T21 (mkF m 30 #[vr ba, vi 1, vi cc] [(.int (1 : Int32)), (.int (1 : Int32))]) (fun _ k => XS.iconst X21.here hx rfl (hb hby d20_29) k) ?_
  refine bN T21 (mkF m 31 #[vr ba, vi 1, vi cc] [(.int (2 : Int32))]) (fun _ k => XS.ishl X21.here hx rfl (hb hby d20_30) rfl k) ?_
  refine bN T21 (mkF m 32 #[vr ba, vi 2, vi cc] []) (fun _ k => XS.istoreN X21.here hx rfl (hb hby d20_31) rfl rfl k) ?_
  refine bN T21 (mkF m 33 #[vr ba, vi 2, vi cc] [(.ref ba)]) (fun _ k => XS.aloadN X21.here hx rfl (hb hby d20_32) rfl rfl k) ?_
  refine bN T21 (mkF m 34 #[vr ba, vi 2, vi cc] [(.int (2 : Int32)), (.ref ba)]) (fun _ k => XS.iloadN X21.here hx rfl (hb hby d20_33) rfl k) ?_
  refine bN T21 (mkF m 37 #[vr ba, vi 3, vi cc] [(.int (2 : Int32)), (.ref ba)]) (fun _ k => XS.iinc X21.here hx rfl (hb hby d20_34) rfl rfl k) ?_
  refine bN T21 (mkF m 38 #[vr ba, vi 3, vi cc] [(.int cc), (.int (2 : Int32)), (.ref ba)]) (fun _ k => XS.iloadN X21.here hx rfl (hb hby d20_37) rfl k) ?_
  obtain ⟨T22, X22, e22, st22⟩ := getS2 X21 hx hZ hown (host := "") (Or.inl (hw _ (mo 94 rfl))) Via.refl e21 S_HI (g := (mkF m 38 #[vr ba, vi 3, vi cc] [(.int cc), (.int (2 : Int32)), (.ref ba)])) rfl (hb hby d20_38)
  refine bN T22 (mkF m 41 #[vr ba, vi 3, vi cc] [(ii 0), (.int cc), (.int (2 : Int32)), (.ref ba)]) (fun _ k => st22 _ k) ?_
  refine bN T22 (mkF m 42 #[vr ba, vi 3, vi cc] [(.int (cc >>> ((0 : Int32) &&& 31))), (.int (2 : Int32)), (.ref ba)]) (fun _ k => XS.ishr X22.here hx rfl (hb hby d20_41) rfl k) ?_
  refine bN T22 (mkF m 43 #[vr ba, vi 3, vi cc] [(.int ((cc >>> ((0 : Int32) &&& 31)).toInt8.toInt32)), (.int (2 : Int32)), (.ref ba)]) (fun _ k => XS.i2b X22.here hx rfl (hb hby d20_42) rfl k) ?_
  obtain ⟨cl23, Ar23, q23, S23, N_23, H23, G23⟩ := id V_ba
  have hin23 : ¬ ((2 : Int32) < 0 ∨ cl23.slots.size ≤ ((2 : Int32)).toNatClampNeg) := inb_of S23 ⟨by decide, hz0⟩
  obtain ⟨T24, h24, X24, e24, W24, st24⟩ := stB X22 hx hZ e22 Ar23 (j := (2 : Int32)) hin23 (g := (mkF m 43 #[vr ba, vi 3, vi cc] [(.int ((cc >>> ((0 : Int32) &&& 31)).toInt8.toInt32)), (.int (2 : Int32)), (.ref ba)])) rfl rfl (hb hby d20_43)
  have V24 : Arv Z h24 ba kb .byte zl (vs.set 2 (.int (b0 cc))) (ii 0) := Arv.set Ar23 q23 S23 N_23 H23 G23 (fits_nar_byte _) W24 2 rfl hl0
  have K24 : Keep h0 h24 [ba] := Keep.wr (Keep.refl h0 [ba]) W24 (Or.inl (mo 0 rfl))
  have N24 := Fr.snoc X24 (Fr.nil n0) g_ba
  refine bN T24 (mkF m 44 #[vr ba, vi 3, vi cc] []) (fun _ k => st24 _ k) ?_
  refine bN T24 (mkF m 45 #[vr ba, vi 3, vi cc] [(.ref ba)]) (fun _ k => XS.aloadN X24.here hx rfl (hb hby d20_44) rfl rfl k) ?_
  refine bN T24 (mkF m 46 #[vr ba, vi 3, vi cc] [(.int (3 : Int32)), (.ref ba)]) (fun _ k => XS.iloadN X24.here hx rfl (hb hby d20_45) rfl k) ?_
  refine bN T24 (mkF m 47 #[vr ba, vi 3, vi cc] [(.int cc), (.int (3 : Int32)), (.ref ba)]) (fun _ k => XS.iloadN X24.here hx rfl (hb hby d20_46) rfl k) ?_
  obtain ⟨T25, X25, e25, st25⟩ := getS2 X24 hx hZ hown (host := "") (Or.inl (hw _ (mo 95 rfl))) Via.refl e24 (Sta.wr W24 S_LO) (g := (mkF m 47 #[vr ba, vi 3, vi cc] [(.int cc), (.int (3 : Int32)), (.ref ba)])) rfl (hb hby d20_47)
  refine bN T25 (mkF m 50 #[vr ba, vi 3, vi cc] [(.int (8 : Int32)), (.int cc), (.int (3 : Int32)), (.ref ba)]) (fun _ k => st25 _ k) ?_
  refine bN T25 (mkF m 51 #[vr ba, vi 3, vi cc] [(.int (cc >>> ((8 : Int32) &&& 31))), (.int (3 : Int32)), (.ref ba)]) (fun _ k => XS.ishr X25.here hx rfl (hb hby d20_50) rfl k) ?_
  refine bN T25 (mkF m 52 #[vr ba, vi 3, vi cc] [(.int ((cc >>> ((8 : Int32) &&& 31)).toInt8.toInt32)), (.int (3 : Int32)), (.ref ba)]) (fun _ k => XS.i2b X25.here hx rfl (hb hby d20_51) rfl k) ?_
  obtain ⟨cl26, Ar26, q26, S26, N_26, H26, G26⟩ := id V24
  have hin26 : ¬ ((3 : Int32) < 0 ∨ cl26.slots.size ≤ ((3 : Int32)).toNatClampNeg) := inb_of S26 ⟨by decide, hz1⟩
  obtain ⟨T27, h27, X27, e27, W27, st27⟩ := stB X25 hx hZ e25 Ar26 (j := (3 : Int32)) hin26 (g := (mkF m 52 #[vr ba, vi 3, vi cc] [(.int ((cc >>> ((8 : Int32) &&& 31)).toInt8.toInt32)), (.int (3 : Int32)), (.ref ba)])) rfl rfl (hb hby d20_52)
  have V27 : Arv Z h27 ba kb .byte zl ((vs.set 2 (.int (b0 cc))).set 3 (.int (b1 cc))) (ii 0) := Arv.set Ar26 q26 S26 N_26 H26 G26 (fits_nar_byte _) W27 3 rfl (by rw [List.length_set]; exact hl1)
  have K27 : Keep h0 h27 [ba] := Keep.wr K24 W27 (Or.inl (mo 0 rfl))
  have N27 := Fr.snoc X27 N24 g_ba
  refine bN T27 (mkF m 53 #[vr ba, vi 3, vi cc] []) (fun _ k => st27 _ k) ?_
  refine own_ret X27 hlk (v := none) (fun _ => rfl) (fun fs hr => X27.returnOut hx Bd.returns (hb hby d20_53) hr) ?_ (by decide) (by decide)
  rw [e27]
  exact ⟨rfl, N27, K27, V27⟩
theorem ef_get_1 (m : MethodId) (ba : Addr) : entryFrame m #[(.ref ba), (.int (1 : Int32))] 2 = mkF m 0 #[vr ba, vi 1] [] := rfl
def Q_get_1 (Z : State) (ba : Addr) (kb : ClassId) (zl : Int32) (vs : List Value) (xx yx : Int32) (h0 : Heap) (n0 : Nat) (v : Option Value) (h : Heap) (L : List Loc) : Prop := v = some (.int (nar .char ((((xx &&& (255 : Int32)) <<< ((0 : Int32) &&& 31)) ||| ((yx &&& (255 : Int32)) <<< ((8 : Int32) &&& 31))).toUInt32.toUInt16.toUInt32.toInt32))) ∧ Fr n0 L ∧ h = h0
theorem get_1 (l : Launch) (Z : State) (a0 : Array Value) (hw : HW Z a0) (ws : List Jvm.Cond) (ba : Addr) (kb : ClassId) (zl : Int32) (vs : List Value) (xx yx : Int32) (h0 : Heap) (n0 : Nat) (Z0 : n0 ≤ h0.size) (S_AD : AD Z h0) (S_HI : HI Z h0) (S_LO : LO Z h0) (V_ba : Arv Z h0 ba kb .byte zl vs (ii 0)) (hz0 : (2 : Int32) < zl) (hz1 : (3 : Int32) < zl) (hv0 : vs.getD 2 (ii 0) = (.int xx)) (hv1 : vs.getD 3 (ii 0) = (.int yx)) :
    own_M l yy8 jdk_52_method_5_code 2 (some .char) ws rr0 Z #[(.ref ba), (.int (1 : Int32))] h0 (Q_get_1 Z ba kb zl vs xx yx h0 n0) := by
  refine own_bd (plainFor_of_name pn_21) fun p e s m below meth c s₁ Bd hx hby hml hown hnm hlk hZ X0 e0 => ?_
  rw [ef_get_1 m ba]
  obtain ⟨T21, X21, e21, st21⟩ := getS2 X0 hx hZ hown (host := "") (Or.inl (hw _ (mo 93 rfl))) Via.refl e0 S_AD (g := (mkF m 0 #[vr ba, vi 1] [])) rfl (hb hby d21_0)
  refine bN T21 (mkF m 3 #[vr ba, vi 1] [(.int (1 : Int32))]) (fun _ k => st21 _ k) ?_
  refine bN T21 (mkF m 28 #[vr ba, vi 1] []) (fun _ k => XS.ifYes X21.here hx rfl (pc0 := 3) (pc' := 28) rfl (hb hby d21_3) rfl ((if0 _ _).trans (feq (by decide)).2) (by decide) (by decide) k) ?_
  refine bN T21 (mkF m 29 #[vr ba, vi 1] [(.int (1 : Int32))]) (fun _ k => XS.iloadN X21.here hx rfl (hb hby d21_28) rfl k) ?_
  refine bN T21 (mkF m 30 #[vr ba, vi 1] [(.int (1 : Int32)), (.int (1 : Int32))]) (fun _ k => XS.iconst X21.here hx rfl (hb hby d21_29) k) ?_
  refine bN T21 (mkF m 31 #[vr ba, vi 1] [(.int (2 : Int32))]) (fun _ k => XS.ishl X21.here hx rfl (hb hby d21_30) rfl k) ?_
  refine bN T21 (mkF m 32 #[vr ba, vi 2] []) (fun _ k => XS.istoreN X21.here hx rfl (hb hby d21_31) rfl rfl k) ?_
  refine bN T21 (mkF m 33 #[vr ba, vi 2] [(.ref ba)]) (fun _ k => XS.aloadN X21.here hx rfl (hb hby d21_32) rfl rfl k) ?_
  refine bN T21 (mkF m 34 #[vr ba, vi 2] [(.int (2 : Int32)), (.ref ba)]) (fun _ k => XS.iloadN X21.here hx rfl (hb hby d21_33) rfl k) ?_
  refine bN T21 (mkF m 37 #[vr ba, vi 3] [(.int (2 : Int32)), (.ref ba)]) (fun _ k => XS.iinc X21.here hx rfl (hb hby d21_34) rfl rfl k) ?_
  obtain ⟨cl22, Ar22, q22, S22, N_22, H22, G22⟩ := id V_ba
  have hin22 : ¬ ((2 : Int32) < 0 ∨ cl22.slots.size ≤ ((2 : Int32)).toNatClampNeg) := inb_of S22 ⟨by decide, hz0⟩
  refine bN T21 (mkF m 38 #[vr ba, vi 3] [(.int xx)]) (fun _ k => X21.baloadBytes hx (j := (2 : Int32)) (v := (.int xx)) (by rw [e21]; exact Ar22.1) (State.isArrayOf_alike hZ.alike Ar22.2.1) Ar22.2.2 hin22 (Has.at H22 hin22 hv0) (g := (mkF m 37 #[vr ba, vi 3] [(.int (2 : Int32)), (.ref ba)])) rfl rfl (hb hby d21_37) _ k) ?_
  refine bN T21 (mkF m 41 #[vr ba, vi 3] [(.int (255 : Int32)), (.int xx)]) (fun _ k => XS.sipush X21.here hx rfl (hb hby d21_38) k) ?_
  refine bN T21 (mkF m 42 #[vr ba, vi 3] [(.int (xx &&& (255 : Int32)))]) (fun _ k => XS.iand X21.here hx rfl (hb hby d21_41) rfl k) ?_
  obtain ⟨T23, X23, e23, st23⟩ := getS2 X21 hx hZ hown (host := "") (Or.inl (hw _ (mo 94 rfl))) Via.refl e21 S_HI (g := (mkF m 42 #[vr ba, vi 3] [(.int (xx &&& (255 : Int32)))])) rfl (hb hby d21_42)
  refine bN T23 (mkF m 45 #[vr ba, vi 3] [(ii 0), (.int (xx &&& (255 : Int32)))]) (fun _ k => st23 _ k) ?_
  refine bN T23 (mkF m 46 #[vr ba, vi 3] [(.int ((xx &&& (255 : Int32)) <<< ((0 : Int32) &&& 31)))]) (fun _ k => XS.ishl X23.here hx rfl (hb hby d21_45) rfl k) ?_
  refine bN T23 (mkF m 47 #[vr ba, vi 3] [(.ref ba), (.int ((xx &&& (255 : Int32)) <<< ((0 : Int32) &&& 31)))]) (fun _ k => XS.aloadN X23.here hx rfl (hb hby d21_46) rfl rfl k) ?_
  refine bN T23 (mkF m 48 #[vr ba, vi 3] [(.int (3 : Int32)), (.ref ba), (.int ((xx &&& (255 : Int32)) <<< ((0 : Int32) &&& 31)))]) (fun _ k => XS.iloadN X23.here hx rfl (hb hby d21_47) rfl k) ?_
  obtain ⟨cl24, Ar24, q24, S24, N_24, H24, G24⟩ := id V_ba
  have hin24 : ¬ ((3 : Int32) < 0 ∨ cl24.slots.size ≤ ((3 : Int32)).toNatClampNeg) := inb_of S24 ⟨by decide, hz1⟩
  refine bN T23 (mkF m 49 #[vr ba, vi 3] [(.int yx), (.int ((xx &&& (255 : Int32)) <<< ((0 : Int32) &&& 31)))]) (fun _ k => X23.baloadBytes hx (j := (3 : Int32)) (v := (.int yx)) (by rw [e23]; exact Ar24.1) (State.isArrayOf_alike hZ.alike Ar24.2.1) Ar24.2.2 hin24 (Has.at H24 hin24 hv1) (g := (mkF m 48 #[vr ba, vi 3] [(.int (3 : Int32)), (.ref ba), (.int ((xx &&& (255 : Int32)) <<< ((0 : Int32) &&& 31)))])) rfl rfl (hb hby d21_48) _ k) ?_
  refine bN T23 (mkF m 52 #[vr ba, vi 3] [(.int (255 : Int32)), (.int yx), (.int ((xx &&& (255 : Int32)) <<< ((0 : Int32) &&& 31)))]) (fun _ k => XS.sipush X23.here hx rfl (hb hby d21_49) k) ?_
  refine bN T23 (mkF m 53 #[vr ba, vi 3] [(.int (yx &&& (255 : Int32))), (.int ((xx &&& (255 : Int32)) <<< ((0 : Int32) &&& 31)))]) (fun _ k => XS.iand X23.here hx rfl (hb hby d21_52) rfl k) ?_
  obtain ⟨T25, X25, e25, st25⟩ := getS2 X23 hx hZ hown (host := "") (Or.inl (hw _ (mo 95 rfl))) Via.refl e23 S_LO (g := (mkF m 53 #[vr ba, vi 3] [(.int (yx &&& (255 : Int32))), (.int ((xx &&& (255 : Int32)) <<< ((0 : Int32) &&& 31)))])) rfl (hb hby d21_53)
  refine bN T25 (mkF m 56 #[vr ba, vi 3] [(.int (8 : Int32)), (.int (yx &&& (255 : Int32))), (.int ((xx &&& (255 : Int32)) <<< ((0 : Int32) &&& 31)))]) (fun _ k => st25 _ k) ?_
  refine bN T25 (mkF m 57 #[vr ba, vi 3] [(.int ((yx &&& (255 : Int32)) <<< ((8 : Int32) &&& 31))), (.int ((xx &&& (255 : Int32)) <<< ((0 : Int32) &&& 31)))]) (fun _ k => XS.ishl X25.here hx rfl (hb hby d21_56) rfl k) ?_
  refine bN T25 (mkF m 58 #[vr ba, vi 3] [(.int (((xx &&& (255 : Int32)) <<< ((0 : Int32) &&& 31)) ||| ((yx &&& (255 : Int32)) <<< ((8 : Int32) &&& 31))))]) (fun _ k => XS.ior X25.here hx rfl (hb hby d21_57) rfl k) ?_
  refine bN T25 (mkF m 59 #[vr ba, vi 3] [(.int ((((xx &&& (255 : Int32)) <<< ((0 : Int32) &&& 31)) ||| ((yx &&& (255 : Int32)) <<< ((8 : Int32) &&& 31))).toUInt32.toUInt16.toUInt32.toInt32))]) (fun _ k => XS.i2c X25.here hx rfl (hb hby d21_58) rfl k) ?_
  refine own_ret X25 hlk (v := some (.int (nar .char ((((xx &&& (255 : Int32)) <<< ((0 : Int32) &&& 31)) ||| ((yx &&& (255 : Int32)) <<< ((8 : Int32) &&& 31))).toUInt32.toUInt16.toUInt32.toInt32)))) (nvr Bd.returns) (fun fs hr => retN X25 hx (t := .char) Bd.returns (by simp) (hb hby d21_59) hr) ?_ (by decide) (by decide)
  rw [e25]
  exact ⟨rfl, (Fr.nil n0), rfl⟩
theorem ef_put_2 (m : MethodId) (ba : Addr) (cc : Int32) : entryFrame m #[(.ref ba), (.int (2 : Int32)), (.int cc)] 3 = mkF m 0 #[vr ba, vi 2, vi cc] [] := rfl
def Q_put_2 (Z : State) (ba : Addr) (cc : Int32) (kb : ClassId) (zl : Int32) (vs : List Value) (h0 : Heap) (n0 : Nat) (v : Option Value) (h : Heap) (L : List Loc) : Prop := v = none ∧ Fr n0 L ∧ Keep h0 h [ba] ∧ Arv Z h ba kb .byte zl ((vs.set 4 (.int (b0 cc))).set 5 (.int (b1 cc))) (ii 0)
theorem put_2 (l : Launch) (Z : State) (a0 : Array Value) (hw : HW Z a0) (ws : List Jvm.Cond) (ba : Addr) (cc : Int32) (kb : ClassId) (zl : Int32) (vs : List Value) (h0 : Heap) (n0 : Nat) (Z0 : n0 ≤ h0.size) (S_AD : AD Z h0) (S_HI : HI Z h0) (S_LO : LO Z h0) (V_ba : Arv Z h0 ba kb .byte zl vs (ii 0)) (hz0 : (4 : Int32) < zl) (hz1 : (5 : Int32) < zl) (hl0 : 4 < vs.length) (hl1 : 5 < vs.length) (g_ba : n0 ≤ ba) :
    own_M l yy7 jdk_52_method_4_code 3 none ws rr0 Z #[(.ref ba), (.int (2 : Int32)), (.int cc)] h0 (Q_put_2 Z ba cc kb zl vs h0 n0) := by
  refine own_bd (plainFor_of_name pn_20) fun p e s m below meth c s₁ Bd hx hby hml hown hnm hlk hZ X0 e0 => ?_
  rw [ef_put_2 m ba cc]
  obtain ⟨T21, X21, e21, st21⟩ := getS2 X0 hx hZ hown (host := "") (Or.inl (hw _ (mo 93 rfl))) Via.refl e0 S_AD (g := (mkF m 0 #[vr ba, vi 2, vi cc] [])) rfl (hb hby d20_0)
  refine bN T21 (mkF m 3 #[vr ba, vi 2, vi cc] [(.int (1 : Int32))]) (fun _ k => st21 _ k) ?_
  refine bN T21 (mkF m 28 #[vr ba, vi 2, vi cc] []) (fun _ k => XS.ifYes X21.here hx rfl (pc0 := 3) (pc' := 28) rfl (hb hby d20_3) rfl ((if0 _ _).trans (feq (by decide)).2) (by decide) (by decide) k) ?_
  refine bN T21 (mkF m 29 #[vr ba, vi 2, vi cc] [(.int (2 : Int32))]) (fun _ k => XS.iloadN X21.here hx rfl (hb hby d20_28) rfl k) ?_
  refine bN T21 (mkF m 30 #[vr ba, vi 2, vi cc] [(.int (1 : Int32)), (.int (2 : Int32))]) (fun _ k => XS.iconst X21.here hx rfl (hb hby d20_29) k) ?_
  refine bN T21 (mkF m 31 #[vr ba, vi 2, vi cc] [(.int (4 : Int32))]) (fun _ k => XS.ishl X21.here hx rfl (hb hby d20_30) rfl k) ?_
  refine bN T21 (mkF m 32 #[vr ba, vi 4, vi cc] []) (fun _ k => XS.istoreN X21.here hx rfl (hb hby d20_31) rfl rfl k) ?_
  refine bN T21 (mkF m 33 #[vr ba, vi 4, vi cc] [(.ref ba)]) (fun _ k => XS.aloadN X21.here hx rfl (hb hby d20_32) rfl rfl k) ?_
  refine bN T21 (mkF m 34 #[vr ba, vi 4, vi cc] [(.int (4 : Int32)), (.ref ba)]) (fun _ k => XS.iloadN X21.here hx rfl (hb hby d20_33) rfl k) ?_
  refine bN T21 (mkF m 37 #[vr ba, vi 5, vi cc] [(.int (4 : Int32)), (.ref ba)]) (fun _ k => XS.iinc X21.here hx rfl (hb hby d20_34) rfl rfl k) ?_
  refine bN T21 (mkF m 38 #[vr ba, vi 5, vi cc] [(.int cc), (.int (4 : Int32)), (.ref ba)]) (fun _ k => XS.iloadN X21.here hx rfl (hb hby d20_37) rfl k) ?_
  obtain ⟨T22, X22, e22, st22⟩ := getS2 X21 hx hZ hown (host := "") (Or.inl (hw _ (mo 94 rfl))) Via.refl e21 S_HI (g := (mkF m 38 #[vr ba, vi 5, vi cc] [(.int cc), (.int (4 : Int32)), (.ref ba)])) rfl (hb hby d20_38)
  refine bN T22 (mkF m 41 #[vr ba, vi 5, vi cc] [(ii 0), (.int cc), (.int (4 : Int32)), (.ref ba)]) (fun _ k => st22 _ k) ?_
  refine bN T22 (mkF m 42 #[vr ba, vi 5, vi cc] [(.int (cc >>> ((0 : Int32) &&& 31))), (.int (4 : Int32)), (.ref ba)]) (fun _ k => XS.ishr X22.here hx rfl (hb hby d20_41) rfl k) ?_
  refine bN T22 (mkF m 43 #[vr ba, vi 5, vi cc] [(.int ((cc >>> ((0 : Int32) &&& 31)).toInt8.toInt32)), (.int (4 : Int32)), (.ref ba)]) (fun _ k => XS.i2b X22.here hx rfl (hb hby d20_42) rfl k) ?_
  obtain ⟨cl23, Ar23, q23, S23, N_23, H23, G23⟩ := id V_ba
  have hin23 : ¬ ((4 : Int32) < 0 ∨ cl23.slots.size ≤ ((4 : Int32)).toNatClampNeg) := inb_of S23 ⟨by decide, hz0⟩
  obtain ⟨T24, h24, X24, e24, W24, st24⟩ := stB X22 hx hZ e22 Ar23 (j := (4 : Int32)) hin23 (g := (mkF m 43 #[vr ba, vi 5, vi cc] [(.int ((cc >>> ((0 : Int32) &&& 31)).toInt8.toInt32)), (.int (4 : Int32)), (.ref ba)])) rfl rfl (hb hby d20_43)
  have V24 : Arv Z h24 ba kb .byte zl (vs.set 4 (.int (b0 cc))) (ii 0) := Arv.set Ar23 q23 S23 N_23 H23 G23 (fits_nar_byte _) W24 4 rfl hl0
  have K24 : Keep h0 h24 [ba] := Keep.wr (Keep.refl h0 [ba]) W24 (Or.inl (mo 0 rfl))
  have N24 := Fr.snoc X24 (Fr.nil n0) g_ba
  refine bN T24 (mkF m 44 #[vr ba, vi 5, vi cc] []) (fun _ k => st24 _ k) ?_
  refine bN T24 (mkF m 45 #[vr ba, vi 5, vi cc] [(.ref ba)]) (fun _ k => XS.aloadN X24.here hx rfl (hb hby d20_44) rfl rfl k) ?_
  refine bN T24 (mkF m 46 #[vr ba, vi 5, vi cc] [(.int (5 : Int32)), (.ref ba)]) (fun _ k => XS.iloadN X24.here hx rfl (hb hby d20_45) rfl k) ?_
  refine bN T24 (mkF m 47 #[vr ba, vi 5, vi cc] [(.int cc), (.int (5 : Int32)), (.ref ba)]) (fun _ k => XS.iloadN X24.here hx rfl (hb hby d20_46) rfl k) ?_
  obtain ⟨T25, X25, e25, st25⟩ := getS2 X24 hx hZ hown (host := "") (Or.inl (hw _ (mo 95 rfl))) Via.refl e24 (Sta.wr W24 S_LO) (g := (mkF m 47 #[vr ba, vi 5, vi cc] [(.int cc), (.int (5 : Int32)), (.ref ba)])) rfl (hb hby d20_47)
  refine bN T25 (mkF m 50 #[vr ba, vi 5, vi cc] [(.int (8 : Int32)), (.int cc), (.int (5 : Int32)), (.ref ba)]) (fun _ k => st25 _ k) ?_
  refine bN T25 (mkF m 51 #[vr ba, vi 5, vi cc] [(.int (cc >>> ((8 : Int32) &&& 31))), (.int (5 : Int32)), (.ref ba)]) (fun _ k => XS.ishr X25.here hx rfl (hb hby d20_50) rfl k) ?_
  refine bN T25 (mkF m 52 #[vr ba, vi 5, vi cc] [(.int ((cc >>> ((8 : Int32) &&& 31)).toInt8.toInt32)), (.int (5 : Int32)), (.ref ba)]) (fun _ k => XS.i2b X25.here hx rfl (hb hby d20_51) rfl k) ?_
  obtain ⟨cl26, Ar26, q26, S26, N_26, H26, G26⟩ := id V24
  have hin26 : ¬ ((5 : Int32) < 0 ∨ cl26.slots.size ≤ ((5 : Int32)).toNatClampNeg) := inb_of S26 ⟨by decide, hz1⟩
  obtain ⟨T27, h27, X27, e27, W27, st27⟩ := stB X25 hx hZ e25 Ar26 (j := (5 : Int32)) hin26 (g := (mkF m 52 #[vr ba, vi 5, vi cc] [(.int ((cc >>> ((8 : Int32) &&& 31)).toInt8.toInt32)), (.int (5 : Int32)), (.ref ba)])) rfl rfl (hb hby d20_52)
  have V27 : Arv Z h27 ba kb .byte zl ((vs.set 4 (.int (b0 cc))).set 5 (.int (b1 cc))) (ii 0) := Arv.set Ar26 q26 S26 N_26 H26 G26 (fits_nar_byte _) W27 5 rfl (by rw [List.length_set]; exact hl1)
  have K27 : Keep h0 h27 [ba] := Keep.wr K24 W27 (Or.inl (mo 0 rfl))
  have N27 := Fr.snoc X27 N24 g_ba
  refine bN T27 (mkF m 53 #[vr ba, vi 5, vi cc] []) (fun _ k => st27 _ k) ?_
  refine own_ret X27 hlk (v := none) (fun _ => rfl) (fun fs hr => X27.returnOut hx Bd.returns (hb hby d20_53) hr) ?_ (by decide) (by decide)
  rw [e27]
  exact ⟨rfl, N27, K27, V27⟩
theorem ef_get_2 (m : MethodId) (ba : Addr) : entryFrame m #[(.ref ba), (.int (2 : Int32))] 2 = mkF m 0 #[vr ba, vi 2] [] := rfl
def Q_get_2 (Z : State) (ba : Addr) (kb : ClassId) (zl : Int32) (vs : List Value) (xx yx : Int32) (h0 : Heap) (n0 : Nat) (v : Option Value) (h : Heap) (L : List Loc) : Prop := v = some (.int (nar .char ((((xx &&& (255 : Int32)) <<< ((0 : Int32) &&& 31)) ||| ((yx &&& (255 : Int32)) <<< ((8 : Int32) &&& 31))).toUInt32.toUInt16.toUInt32.toInt32))) ∧ Fr n0 L ∧ h = h0
theorem get_2 (l : Launch) (Z : State) (a0 : Array Value) (hw : HW Z a0) (ws : List Jvm.Cond) (ba : Addr) (kb : ClassId) (zl : Int32) (vs : List Value) (xx yx : Int32) (h0 : Heap) (n0 : Nat) (Z0 : n0 ≤ h0.size) (S_AD : AD Z h0) (S_HI : HI Z h0) (S_LO : LO Z h0) (V_ba : Arv Z h0 ba kb .byte zl vs (ii 0)) (hz0 : (4 : Int32) < zl) (hz1 : (5 : Int32) < zl) (hv0 : vs.getD 4 (ii 0) = (.int xx)) (hv1 : vs.getD 5 (ii 0) = (.int yx)) :
    own_M l yy8 jdk_52_method_5_code 2 (some .char) ws rr0 Z #[(.ref ba), (.int (2 : Int32))] h0 (Q_get_2 Z ba kb zl vs xx yx h0 n0) := by
  refine own_bd (plainFor_of_name pn_21) fun p e s m below meth c s₁ Bd hx hby hml hown hnm hlk hZ X0 e0 => ?_
  rw [ef_get_2 m ba]
  obtain ⟨T21, X21, e21, st21⟩ := getS2 X0 hx hZ hown (host := "") (Or.inl (hw _ (mo 93 rfl))) Via.refl e0 S_AD (g := (mkF m 0 #[vr ba, vi 2] [])) rfl (hb hby d21_0)
  refine bN T21 (mkF m 3 #[vr ba, vi 2] [(.int (1 : Int32))]) (fun _ k => st21 _ k) ?_
  refine bN T21 (mkF m 28 #[vr ba, vi 2] []) (fun _ k => XS.ifYes X21.here hx rfl (pc0 := 3) (pc' := 28) rfl (hb hby d21_3) rfl ((if0 _ _).trans (feq (by decide)).2) (by decide) (by decide) k) ?_
  refine bN T21 (mkF m 29 #[vr ba, vi 2] [(.int (2 : Int32))]) (fun _ k => XS.iloadN X21.here hx rfl (hb hby d21_28) rfl k) ?_
  refine bN T21 (mkF m 30 #[vr ba, vi 2] [(.int (1 : Int32)), (.int (2 : Int32))]) (fun _ k => XS.iconst X21.here hx rfl (hb hby d21_29) k) ?_
  refine bN T21 (mkF m 31 #[vr ba, vi 2] [(.int (4 : Int32))]) (fun _ k => XS.ishl X21.here hx rfl (hb hby d21_30) rfl k) ?_
  refine bN T21 (mkF m 32 #[vr ba, vi 4] []) (fun _ k => XS.istoreN X21.here hx rfl (hb hby d21_31) rfl rfl k) ?_
  refine bN T21 (mkF m 33 #[vr ba, vi 4] [(.ref ba)]) (fun _ k => XS.aloadN X21.here hx rfl (hb hby d21_32) rfl rfl k) ?_
  refine bN T21 (mkF m 34 #[vr ba, vi 4] [(.int (4 : Int32)), (.ref ba)]) (fun _ k => XS.iloadN X21.here hx rfl (hb hby d21_33) rfl k) ?_
  refine bN T21 (mkF m 37 #[vr ba, vi 5] [(.int (4 : Int32)), (.ref ba)]) (fun _ k => XS.iinc X21.here hx rfl (hb hby d21_34) rfl rfl k) ?_
  obtain ⟨cl22, Ar22, q22, S22, N_22, H22, G22⟩ := id V_ba
  have hin22 : ¬ ((4 : Int32) < 0 ∨ cl22.slots.size ≤ ((4 : Int32)).toNatClampNeg) := inb_of S22 ⟨by decide, hz0⟩
  refine bN T21 (mkF m 38 #[vr ba, vi 5] [(.int xx)]) (fun _ k => X21.baloadBytes hx (j := (4 : Int32)) (v := (.int xx)) (by rw [e21]; exact Ar22.1) (State.isArrayOf_alike hZ.alike Ar22.2.1) Ar22.2.2 hin22 (Has.at H22 hin22 hv0) (g := (mkF m 37 #[vr ba, vi 5] [(.int (4 : Int32)), (.ref ba)])) rfl rfl (hb hby d21_37) _ k) ?_
  refine bN T21 (mkF m 41 #[vr ba, vi 5] [(.int (255 : Int32)), (.int xx)]) (fun _ k => XS.sipush X21.here hx rfl (hb hby d21_38) k) ?_
  refine bN T21 (mkF m 42 #[vr ba, vi 5] [(.int (xx &&& (255 : Int32)))]) (fun _ k => XS.iand X21.here hx rfl (hb hby d21_41) rfl k) ?_
  obtain ⟨T23, X23, e23, st23⟩ := getS2 X21 hx hZ hown (host := "") (Or.inl (hw _ (mo 94 rfl))) Via.refl e21 S_HI (g := (mkF m 42 #[vr ba, vi 5] [(.int (xx &&& (255 : Int32)))])) rfl (hb hby d21_42)
  refine bN T23 (mkF m 45 #[vr ba, vi 5] [(ii 0), (.int (xx &&& (255 : Int32)))]) (fun _ k => st23 _ k) ?_
  refine bN T23 (mkF m 46 #[vr ba, vi 5] [(.int ((xx &&& (255 : Int32)) <<< ((0 : Int32) &&& 31)))]) (fun _ k => XS.ishl X23.here hx rfl (hb hby d21_45) rfl k) ?_
  refine bN T23 (mkF m 47 #[vr ba, vi 5] [(.ref ba), (.int ((xx &&& (255 : Int32)) <<< ((0 : Int32) &&& 31)))]) (fun _ k => XS.aloadN X23.here hx rfl (hb hby d21_46) rfl rfl k) ?_
  refine bN T23 (mkF m 48 #[vr ba, vi 5] [(.int (5 : Int32)), (.ref ba), (.int ((xx &&& (255 : Int32)) <<< ((0 : Int32) &&& 31)))]) (fun _ k => XS.iloadN X23.here hx rfl (hb hby d21_47) rfl k) ?_
  obtain ⟨cl24, Ar24, q24, S24, N_24, H24, G24⟩ := id V_ba
  have hin24 : ¬ ((5 : Int32) < 0 ∨ cl24.slots.size ≤ ((5 : Int32)).toNatClampNeg) := inb_of S24 ⟨by decide, hz1⟩
  refine bN T23 (mkF m 49 #[vr ba, vi 5] [(.int yx), (.int ((xx &&& (255 : Int32)) <<< ((0 : Int32) &&& 31)))]) (fun _ k => X23.baloadBytes hx (j := (5 : Int32)) (v := (.int yx)) (by rw [e23]; exact Ar24.1) (State.isArrayOf_alike hZ.alike Ar24.2.1) Ar24.2.2 hin24 (Has.at H24 hin24 hv1) (g := (mkF m 48 #[vr ba, vi 5] [(.int (5 : Int32)), (.ref ba), (.int ((xx &&& (255 : Int32)) <<< ((0 : Int32) &&& 31)))])) rfl rfl (hb hby d21_48) _ k) ?_
  refine bN T23 (mkF m 52 #[vr ba, vi 5] [(.int (255 : Int32)), (.int yx), (.int ((xx &&& (255 : Int32)) <<< ((0 : Int32) &&& 31)))]) (fun _ k => XS.sipush X23.here hx rfl (hb hby d21_49) k) ?_
  refine bN T23 (mkF m 53 #[vr ba, vi 5] [(.int (yx &&& (255 : Int32))), (.int ((xx &&& (255 : Int32)) <<< ((0 : Int32) &&& 31)))]) (fun _ k => XS.iand X23.here hx rfl (hb hby d21_52) rfl k) ?_
  obtain ⟨T25, X25, e25, st25⟩ := getS2 X23 hx hZ hown (host := "") (Or.inl (hw _ (mo 95 rfl))) Via.refl e23 S_LO (g := (mkF m 53 #[vr ba, vi 5] [(.int (yx &&& (255 : Int32))), (.int ((xx &&& (255 : Int32)) <<< ((0 : Int32) &&& 31)))])) rfl (hb hby d21_53)
  refine bN T25 (mkF m 56 #[vr ba, vi 5] [(.int (8 : Int32)), (.int (yx &&& (255 : Int32))), (.int ((xx &&& (255 : Int32)) <<< ((0 : Int32) &&& 31)))]) (fun _ k => st25 _ k) ?_
  refine bN T25 (mkF m 57 #[vr ba, vi 5] [(.int ((yx &&& (255 : Int32)) <<< ((8 : Int32) &&& 31))), (.int ((xx &&& (255 : Int32)) <<< ((0 : Int32) &&& 31)))]) (fun _ k => XS.ishl X25.here hx rfl (hb hby d21_56) rfl k) ?_
  refine bN T25 (mkF m 58 #[vr ba, vi 5] [(.int (((xx &&& (255 : Int32)) <<< ((0 : Int32) &&& 31)) ||| ((yx &&& (255 : Int32)) <<< ((8 : Int32) &&& 31))))]) (fun _ k => XS.ior X25.here hx rfl (hb hby d21_57) rfl k) ?_
  refine bN T25 (mkF m 59 #[vr ba, vi 5] [(.int ((((xx &&& (255 : Int32)) <<< ((0 : Int32) &&& 31)) ||| ((yx &&& (255 : Int32)) <<< ((8 : Int32) &&& 31))).toUInt32.toUInt16.toUInt32.toInt32))]) (fun _ k => XS.i2c X25.here hx rfl (hb hby d21_58) rfl k) ?_
  refine own_ret X25 hlk (v := some (.int (nar .char ((((xx &&& (255 : Int32)) <<< ((0 : Int32) &&& 31)) ||| ((yx &&& (255 : Int32)) <<< ((8 : Int32) &&& 31))).toUInt32.toUInt16.toUInt32.toInt32)))) (nvr Bd.returns) (fun fs hr => retN X25 hx (t := .char) Bd.returns (by simp) (hb hby d21_59) hr) ?_ (by decide) (by decide)
  rw [e25]
  exact ⟨rfl, (Fr.nil n0), rfl⟩
theorem ef_put_3 (m : MethodId) (ba : Addr) (cc : Int32) : entryFrame m #[(.ref ba), (.int (3 : Int32)), (.int cc)] 3 = mkF m 0 #[vr ba, vi 3, vi cc] [] := rfl
def Q_put_3 (Z : State) (ba : Addr) (cc : Int32) (kb : ClassId) (zl : Int32) (vs : List Value) (h0 : Heap) (n0 : Nat) (v : Option Value) (h : Heap) (L : List Loc) : Prop := v = none ∧ Fr n0 L ∧ Keep h0 h [ba] ∧ Arv Z h ba kb .byte zl ((vs.set 6 (.int (b0 cc))).set 7 (.int (b1 cc))) (ii 0)
theorem put_3 (l : Launch) (Z : State) (a0 : Array Value) (hw : HW Z a0) (ws : List Jvm.Cond) (ba : Addr) (cc : Int32) (kb : ClassId) (zl : Int32) (vs : List Value) (h0 : Heap) (n0 : Nat) (Z0 : n0 ≤ h0.size) (S_AD : AD Z h0) (S_HI : HI Z h0) (S_LO : LO Z h0) (V_ba : Arv Z h0 ba kb .byte zl vs (ii 0)) (hz0 : (6 : Int32) < zl) (hz1 : (7 : Int32) < zl) (hl0 : 6 < vs.length) (hl1 : 7 < vs.length) (g_ba : n0 ≤ ba) :
    own_M l yy7 jdk_52_method_4_code 3 none ws rr0 Z #[(.ref ba), (.int (3 : Int32)), (.int cc)] h0 (Q_put_3 Z ba cc kb zl vs h0 n0) := by
  refine own_bd (plainFor_of_name pn_20) fun p e s m below meth c s₁ Bd hx hby hml hown hnm hlk hZ X0 e0 => ?_
  rw [ef_put_3 m ba cc]
  obtain ⟨T21, X21, e21, st21⟩ := getS2 X0 hx hZ hown (host := "") (Or.inl (hw _ (mo 93 rfl))) Via.refl e0 S_AD (g := (mkF m 0 #[vr ba, vi 3, vi cc] [])) rfl (hb hby d20_0)
  refine bN T21 (mkF m 3 #[vr ba, vi 3, vi cc] [(.int (1 : Int32))]) (fun _ k => st21 _ k) ?_
  refine bN T21 (mkF m 28 #[vr ba, vi 3, vi cc] []) (fun _ k => XS.ifYes X21.here hx rfl (pc0 := 3) (pc' := 28) rfl (hb hby d20_3) rfl ((if0 _ _).trans (feq (by decide)).2) (by decide) (by decide) k) ?_
  refine bN T21 (mkF m 29 #[vr ba, vi 3, vi cc] [(.int (3 : Int32))]) (fun _ k => XS.iloadN X21.here hx rfl (hb hby d20_28) rfl k) ?_
  refine bN T21 (mkF m 30 #[vr ba, vi 3, vi cc] [(.int (1 : Int32)), (.int (3 : Int32))]) (fun _ k => XS.iconst X21.here hx rfl (hb hby d20_29) k) ?_
  refine bN T21 (mkF m 31 #[vr ba, vi 3, vi cc] [(.int (6 : Int32))]) (fun _ k => XS.ishl X21.here hx rfl (hb hby d20_30) rfl k) ?_
  refine bN T21 (mkF m 32 #[vr ba, vi 6, vi cc] []) (fun _ k => XS.istoreN X21.here hx rfl (hb hby d20_31) rfl rfl k) ?_
  refine bN T21 (mkF m 33 #[vr ba, vi 6, vi cc] [(.ref ba)]) (fun _ k => XS.aloadN X21.here hx rfl (hb hby d20_32) rfl rfl k) ?_
  refine bN T21 (mkF m 34 #[vr ba, vi 6, vi cc] [(.int (6 : Int32)), (.ref ba)]) (fun _ k => XS.iloadN X21.here hx rfl (hb hby d20_33) rfl k) ?_
  refine bN T21 (mkF m 37 #[vr ba, vi 7, vi cc] [(.int (6 : Int32)), (.ref ba)]) (fun _ k => XS.iinc X21.here hx rfl (hb hby d20_34) rfl rfl k) ?_
  refine bN T21 (mkF m 38 #[vr ba, vi 7, vi cc] [(.int cc), (.int (6 : Int32)), (.ref ba)]) (fun _ k => XS.iloadN X21.here hx rfl (hb hby d20_37) rfl k) ?_
  obtain ⟨T22, X22, e22, st22⟩ := getS2 X21 hx hZ hown (host := "") (Or.inl (hw _ (mo 94 rfl))) Via.refl e21 S_HI (g := (mkF m 38 #[vr ba, vi 7, vi cc] [(.int cc), (.int (6 : Int32)), (.ref ba)])) rfl (hb hby d20_38)
  refine bN T22 (mkF m 41 #[vr ba, vi 7, vi cc] [(ii 0), (.int cc), (.int (6 : Int32)), (.ref ba)]) (fun _ k => st22 _ k) ?_
  refine bN T22 (mkF m 42 #[vr ba, vi 7, vi cc] [(.int (cc >>> ((0 : Int32) &&& 31))), (.int (6 : Int32)), (.ref ba)]) (fun _ k => XS.ishr X22.here hx rfl (hb hby d20_41) rfl k) ?_
  refine bN T22 (mkF m 43 #[vr ba, vi 7, vi cc] [(.int ((cc >>> ((0 : Int32) &&& 31)).toInt8.toInt32)), (.int (6 : Int32)), (.ref ba)]) (fun _ k => XS.i2b X22.here hx rfl (hb hby d20_42) rfl k) ?_
  obtain ⟨cl23, Ar23, q23, S23, N_23, H23, G23⟩ := id V_ba
  have hin23 : ¬ ((6 : Int32) < 0 ∨ cl23.slots.size ≤ ((6 : Int32)).toNatClampNeg) := inb_of S23 ⟨by decide, hz0⟩
  obtain ⟨T24, h24, X24, e24, W24, st24⟩ := stB X22 hx hZ e22 Ar23 (j := (6 : Int32)) hin23 (g := (mkF m 43 #[vr ba, vi 7, vi cc] [(.int ((cc >>> ((0 : Int32) &&& 31)).toInt8.toInt32)), (.int (6 : Int32)), (.ref ba)])) rfl rfl (hb hby d20_43)
  have V24 : Arv Z h24 ba kb .byte zl (vs.set 6 (.int (b0 cc))) (ii 0) := Arv.set Ar23 q23 S23 N_23 H23 G23 (fits_nar_byte _) W24 6 rfl hl0
  have K24 : Keep h0 h24 [ba] := Keep.wr (Keep.refl h0 [ba]) W24 (Or.inl (mo 0 rfl))
  have N24 := Fr.snoc X24 (Fr.nil n0) g_ba
  refine bN T24 (mkF m 44 #[vr ba, vi 7, vi cc] []) (fun _ k => st24 _ k) ?_
  refine bN T24 (mkF m 45 #[vr ba, vi 7, vi cc] [(.ref ba)]) (fun _ k => XS.aloadN X24.here hx rfl (hb hby d20_44) rfl rfl k) ?_
  refine bN T24 (mkF m 46 #[vr ba, vi 7, vi cc] [(.int (7 : Int32)), (.ref ba)]) (fun _ k => XS.iloadN X24.here hx rfl (hb hby d20_45) rfl k) ?_
  refine bN T24 (mkF m 47 #[vr ba, vi 7, vi cc] [(.int cc), (.int (7 : Int32)), (.ref ba)]) (fun _ k => XS.iloadN X24.here hx rfl (hb hby d20_46) rfl k) ?_
  obtain ⟨T25, X25, e25, st25⟩ := getS2 X24 hx hZ hown (host := "") (Or.inl (hw _ (mo 95 rfl))) Via.refl e24 (Sta.wr W24 S_LO) (g := (mkF m 47 #[vr ba, vi 7, vi cc] [(.int cc), (.int (7 : Int32)), (.ref ba)])) rfl (hb hby d20_47)
  refine bN T25 (mkF m 50 #[vr ba, vi 7, vi cc] [(.int (8 : Int32)), (.int cc), (.int (7 : Int32)), (.ref ba)]) (fun _ k => st25 _ k) ?_
  refine bN T25 (mkF m 51 #[vr ba, vi 7, vi cc] [(.int (cc >>> ((8 : Int32) &&& 31))), (.int (7 : Int32)), (.ref ba)]) (fun _ k => XS.ishr X25.here hx rfl (hb hby d20_50) rfl k) ?_
  refine bN T25 (mkF m 52 #[vr ba, vi 7, vi cc] [(.int ((cc >>> ((8 : Int32) &&& 31)).toInt8.toInt32)), (.int (7 : Int32)), (.ref ba)]) (fun _ k => XS.i2b X25.here hx rfl (hb hby d20_51) rfl k) ?_
  obtain ⟨cl26, Ar26, q26, S26, N_26, H26, G26⟩ := id V24
  have hin26 : ¬ ((7 : Int32) < 0 ∨ cl26.slots.size ≤ ((7 : Int32)).toNatClampNeg) := inb_of S26 ⟨by decide, hz1⟩
  obtain ⟨T27, h27, X27, e27, W27, st27⟩ := stB X25 hx hZ e25 Ar26 (j := (7 : Int32)) hin26 (g := (mkF m 52 #[vr ba, vi 7, vi cc] [(.int ((cc >>> ((8 : Int32) &&& 31)).toInt8.toInt32)), (.int (7 : Int32)), (.ref ba)])) rfl rfl (hb hby d20_52)
  have V27 : Arv Z h27 ba kb .byte zl ((vs.set 6 (.int (b0 cc))).set 7 (.int (b1 cc))) (ii 0) := Arv.set Ar26 q26 S26 N_26 H26 G26 (fits_nar_byte _) W27 7 rfl (by rw [List.length_set]; exact hl1)
  have K27 : Keep h0 h27 [ba] := Keep.wr K24 W27 (Or.inl (mo 0 rfl))
  have N27 := Fr.snoc X27 N24 g_ba
  refine bN T27 (mkF m 53 #[vr ba, vi 7, vi cc] []) (fun _ k => st27 _ k) ?_
  refine own_ret X27 hlk (v := none) (fun _ => rfl) (fun fs hr => X27.returnOut hx Bd.returns (hb hby d20_53) hr) ?_ (by decide) (by decide)
  rw [e27]
  exact ⟨rfl, N27, K27, V27⟩
theorem ef_get_3 (m : MethodId) (ba : Addr) : entryFrame m #[(.ref ba), (.int (3 : Int32))] 2 = mkF m 0 #[vr ba, vi 3] [] := rfl
def Q_get_3 (Z : State) (ba : Addr) (kb : ClassId) (zl : Int32) (vs : List Value) (xx yx : Int32) (h0 : Heap) (n0 : Nat) (v : Option Value) (h : Heap) (L : List Loc) : Prop := v = some (.int (nar .char ((((xx &&& (255 : Int32)) <<< ((0 : Int32) &&& 31)) ||| ((yx &&& (255 : Int32)) <<< ((8 : Int32) &&& 31))).toUInt32.toUInt16.toUInt32.toInt32))) ∧ Fr n0 L ∧ h = h0
theorem get_3 (l : Launch) (Z : State) (a0 : Array Value) (hw : HW Z a0) (ws : List Jvm.Cond) (ba : Addr) (kb : ClassId) (zl : Int32) (vs : List Value) (xx yx : Int32) (h0 : Heap) (n0 : Nat) (Z0 : n0 ≤ h0.size) (S_AD : AD Z h0) (S_HI : HI Z h0) (S_LO : LO Z h0) (V_ba : Arv Z h0 ba kb .byte zl vs (ii 0)) (hz0 : (6 : Int32) < zl) (hz1 : (7 : Int32) < zl) (hv0 : vs.getD 6 (ii 0) = (.int xx)) (hv1 : vs.getD 7 (ii 0) = (.int yx)) :
    own_M l yy8 jdk_52_method_5_code 2 (some .char) ws rr0 Z #[(.ref ba), (.int (3 : Int32))] h0 (Q_get_3 Z ba kb zl vs xx yx h0 n0) := by
  refine own_bd (plainFor_of_name pn_21) fun p e s m below meth c s₁ Bd hx hby hml hown hnm hlk hZ X0 e0 => ?_
  rw [ef_get_3 m ba]
  obtain ⟨T21, X21, e21, st21⟩ := getS2 X0 hx hZ hown (host := "") (Or.inl (hw _ (mo 93 rfl))) Via.refl e0 S_AD (g := (mkF m 0 #[vr ba, vi 3] [])) rfl (hb hby d21_0)
  refine bN T21 (mkF m 3 #[vr ba, vi 3] [(.int (1 : Int32))]) (fun _ k => st21 _ k) ?_
  refine bN T21 (mkF m 28 #[vr ba, vi 3] []) (fun _ k => XS.ifYes X21.here hx rfl (pc0 := 3) (pc' := 28) rfl (hb hby d21_3) rfl ((if0 _ _).trans (feq (by decide)).2) (by decide) (by decide) k) ?_
  refine bN T21 (mkF m 29 #[vr ba, vi 3] [(.int (3 : Int32))]) (fun _ k => XS.iloadN X21.here hx rfl (hb hby d21_28) rfl k) ?_
  refine bN T21 (mkF m 30 #[vr ba, vi 3] [(.int (1 : Int32)), (.int (3 : Int32))]) (fun _ k => XS.iconst X21.here hx rfl (hb hby d21_29) k) ?_
  refine bN T21 (mkF m 31 #[vr ba, vi 3] [(.int (6 : Int32))]) (fun _ k => XS.ishl X21.here hx rfl (hb hby d21_30) rfl k) ?_
  refine bN T21 (mkF m 32 #[vr ba, vi 6] []) (fun _ k => XS.istoreN X21.here hx rfl (hb hby d21_31) rfl rfl k) ?_
  refine bN T21 (mkF m 33 #[vr ba, vi 6] [(.ref ba)]) (fun _ k => XS.aloadN X21.here hx rfl (hb hby d21_32) rfl rfl k) ?_
  refine bN T21 (mkF m 34 #[vr ba, vi 6] [(.int (6 : Int32)), (.ref ba)]) (fun _ k => XS.iloadN X21.here hx rfl (hb hby d21_33) rfl k) ?_
  refine bN T21 (mkF m 37 #[vr ba, vi 7] [(.int (6 : Int32)), (.ref ba)]) (fun _ k => XS.iinc X21.here hx rfl (hb hby d21_34) rfl rfl k) ?_
  obtain ⟨cl22, Ar22, q22, S22, N_22, H22, G22⟩ := id V_ba
  have hin22 : ¬ ((6 : Int32) < 0 ∨ cl22.slots.size ≤ ((6 : Int32)).toNatClampNeg) := inb_of S22 ⟨by decide, hz0⟩
  refine bN T21 (mkF m 38 #[vr ba, vi 7] [(.int xx)]) (fun _ k => X21.baloadBytes hx (j := (6 : Int32)) (v := (.int xx)) (by rw [e21]; exact Ar22.1) (State.isArrayOf_alike hZ.alike Ar22.2.1) Ar22.2.2 hin22 (Has.at H22 hin22 hv0) (g := (mkF m 37 #[vr ba, vi 7] [(.int (6 : Int32)), (.ref ba)])) rfl rfl (hb hby d21_37) _ k) ?_
  refine bN T21 (mkF m 41 #[vr ba, vi 7] [(.int (255 : Int32)), (.int xx)]) (fun _ k => XS.sipush X21.here hx rfl (hb hby d21_38) k) ?_
  refine bN T21 (mkF m 42 #[vr ba, vi 7] [(.int (xx &&& (255 : Int32)))]) (fun _ k => XS.iand X21.here hx rfl (hb hby d21_41) rfl k) ?_
  obtain ⟨T23, X23, e23, st23⟩ := getS2 X21 hx hZ hown (host := "") (Or.inl (hw _ (mo 94 rfl))) Via.refl e21 S_HI (g := (mkF m 42 #[vr ba, vi 7] [(.int (xx &&& (255 : Int32)))])) rfl (hb hby d21_42)
  refine bN T23 (mkF m 45 #[vr ba, vi 7] [(ii 0), (.int (xx &&& (255 : Int32)))]) (fun _ k => st23 _ k) ?_
  refine bN T23 (mkF m 46 #[vr ba, vi 7] [(.int ((xx &&& (255 : Int32)) <<< ((0 : Int32) &&& 31)))]) (fun _ k => XS.ishl X23.here hx rfl (hb hby d21_45) rfl k) ?_
  refine bN T23 (mkF m 47 #[vr ba, vi 7] [(.ref ba), (.int ((xx &&& (255 : Int32)) <<< ((0 : Int32) &&& 31)))]) (fun _ k => XS.aloadN X23.here hx rfl (hb hby d21_46) rfl rfl k) ?_
  refine bN T23 (mkF m 48 #[vr ba, vi 7] [(.int (7 : Int32)), (.ref ba), (.int ((xx &&& (255 : Int32)) <<< ((0 : Int32) &&& 31)))]) (fun _ k => XS.iloadN X23.here hx rfl (hb hby d21_47) rfl k) ?_
  obtain ⟨cl24, Ar24, q24, S24, N_24, H24, G24⟩ := id V_ba
  have hin24 : ¬ ((7 : Int32) < 0 ∨ cl24.slots.size ≤ ((7 : Int32)).toNatClampNeg) := inb_of S24 ⟨by decide, hz1⟩
  refine bN T23 (mkF m 49 #[vr ba, vi 7] [(.int yx), (.int ((xx &&& (255 : Int32)) <<< ((0 : Int32) &&& 31)))]) (fun _ k => X23.baloadBytes hx (j := (7 : Int32)) (v := (.int yx)) (by rw [e23]; exact Ar24.1) (State.isArrayOf_alike hZ.alike Ar24.2.1) Ar24.2.2 hin24 (Has.at H24 hin24 hv1) (g := (mkF m 48 #[vr ba, vi 7] [(.int (7 : Int32)), (.ref ba), (.int ((xx &&& (255 : Int32)) <<< ((0 : Int32) &&& 31)))])) rfl rfl (hb hby d21_48) _ k) ?_
  refine bN T23 (mkF m 52 #[vr ba, vi 7] [(.int (255 : Int32)), (.int yx), (.int ((xx &&& (255 : Int32)) <<< ((0 : Int32) &&& 31)))]) (fun _ k => XS.sipush X23.here hx rfl (hb hby d21_49) k) ?_
  refine bN T23 (mkF m 53 #[vr ba, vi 7] [(.int (yx &&& (255 : Int32))), (.int ((xx &&& (255 : Int32)) <<< ((0 : Int32) &&& 31)))]) (fun _ k => XS.iand X23.here hx rfl (hb hby d21_52) rfl k) ?_
  obtain ⟨T25, X25, e25, st25⟩ := getS2 X23 hx hZ hown (host := "") (Or.inl (hw _ (mo 95 rfl))) Via.refl e23 S_LO (g := (mkF m 53 #[vr ba, vi 7] [(.int (yx &&& (255 : Int32))), (.int ((xx &&& (255 : Int32)) <<< ((0 : Int32) &&& 31)))])) rfl (hb hby d21_53)
  refine bN T25 (mkF m 56 #[vr ba, vi 7] [(.int (8 : Int32)), (.int (yx &&& (255 : Int32))), (.int ((xx &&& (255 : Int32)) <<< ((0 : Int32) &&& 31)))]) (fun _ k => st25 _ k) ?_
  refine bN T25 (mkF m 57 #[vr ba, vi 7] [(.int ((yx &&& (255 : Int32)) <<< ((8 : Int32) &&& 31))), (.int ((xx &&& (255 : Int32)) <<< ((0 : Int32) &&& 31)))]) (fun _ k => XS.ishl X25.here hx rfl (hb hby d21_56) rfl k) ?_
  refine bN T25 (mkF m 58 #[vr ba, vi 7] [(.int (((xx &&& (255 : Int32)) <<< ((0 : Int32) &&& 31)) ||| ((yx &&& (255 : Int32)) <<< ((8 : Int32) &&& 31))))]) (fun _ k => XS.ior X25.here hx rfl (hb hby d21_57) rfl k) ?_
  refine bN T25 (mkF m 59 #[vr ba, vi 7] [(.int ((((xx &&& (255 : Int32)) <<< ((0 : Int32) &&& 31)) ||| ((yx &&& (255 : Int32)) <<< ((8 : Int32) &&& 31))).toUInt32.toUInt16.toUInt32.toInt32))]) (fun _ k => XS.i2c X25.here hx rfl (hb hby d21_58) rfl k) ?_
  refine own_ret X25 hlk (v := some (.int (nar .char ((((xx &&& (255 : Int32)) <<< ((0 : Int32) &&& 31)) ||| ((yx &&& (255 : Int32)) <<< ((8 : Int32) &&& 31))).toUInt32.toUInt16.toUInt32.toInt32)))) (nvr Bd.returns) (fun fs hr => retN X25 hx (t := .char) Bd.returns (by simp) (hb hby d21_59) hr) ?_ (by decide) (by decide)
  rw [e25]
  exact ⟨rfl, (Fr.nil n0), rfl⟩
theorem d19_0 : decode jdk_52_method_3_code 0 = .ok (.iload_n 0, 1) := by decide +kernel
theorem d19_1 : decode jdk_52_method_3_code 1 = .ok (.ifCond .ge 11, 3) := by decide +kernel
theorem d19_12 : decode jdk_52_method_3_code 12 = .ok (.iload_n 0, 1) := by decide +kernel
theorem d19_13 : decode jdk_52_method_3_code 13 = .ok (.ldc 20, 2) := by decide +kernel
theorem d19_15 : decode jdk_52_method_3_code 15 = .ok (.if_icmp .lt 40, 3) := by decide +kernel
theorem d19_55 : decode jdk_52_method_3_code 55 = .ok (.iload_n 0, 1) := by decide +kernel
theorem d19_56 : decode jdk_52_method_3_code 56 = .ok (.iconst 1, 1) := by decide +kernel
theorem d19_57 : decode jdk_52_method_3_code 57 = .ok (.ishl, 1) := by decide +kernel
theorem d19_58 : decode jdk_52_method_3_code 58 = .ok (.ireturn, 1) := by decide +kernel
theorem pn_19 : plainName "java/lang/StringUTF16" = true := by first | (simp [plainName, overriddenIn]; done) | decide +kernel
theorem ef_nbl_1 (m : MethodId)  : entryFrame m #[(.int (1 : Int32))] 1 = mkF m 0 #[vi 1] [] := rfl
def Q_nbl_1 (Z : State)  (h0 : Heap) (n0 : Nat) (v : Option Value) (h : Heap) (L : List Loc) : Prop := v = some (.int (2 : Int32)) ∧ Fr n0 L ∧ h = h0
theorem nbl_1 (l : Launch) (Z : State) (a0 : Array Value) (hw : HW Z a0) (ws : List Jvm.Cond)  (h0 : Heap) (n0 : Nat) (Z0 : n0 ≤ h0.size) :
    own_M l yy9 jdk_52_method_3_code 1 (some .int) ws rr0 Z #[(.int (1 : Int32))] h0 (Q_nbl_1 Z  h0 n0) := by
  refine own_bd (plainFor_of_name pn_19) fun p e s m below meth c s₁ Bd hx hby hml hown hnm hlk hZ X0 e0 => ?_
  rw [ef_nbl_1 m ]
  refine bN s₁ (mkF m 1 #[vi 1] [(.int (1 : Int32))]) (fun _ k => XS.iloadN X0.here hx rfl (hb hby d19_0) rfl k) ?_
  refine bN s₁ (mkF m 12 #[vi 1] []) (fun _ k => XS.ifYes X0.here hx rfl (pc0 := 1) (pc' := 12) rfl (hb hby d19_1) rfl ((if0 _ _).trans (flt (by decide)).2.1) (by decide) (by decide) k) ?_
  refine bN s₁ (mkF m 13 #[vi 1] [(.int (1 : Int32))]) (fun _ k => XS.iloadN X0.here hx rfl (hb hby d19_12) rfl k) ?_
  refine bN s₁ (mkF m 15 #[vi 1] [(.int (1073741823 : Int32)), (.int (1 : Int32))]) (fun _ k => ldcI X0 hx hown (mvT hZ (hw _ (mo 89 rfl))) rfl (hb hby d19_13) k) ?_
  refine bN s₁ (mkF m 55 #[vi 1] []) (fun _ k => XS.icmpYes X0.here hx rfl (pc0 := 15) (pc' := 55) rfl (hb hby d19_15) rfl (tlt (by decide)).1 (by decide) (by decide) k) ?_
  refine bN s₁ (mkF m 56 #[vi 1] [(.int (1 : Int32))]) (fun _ k => XS.iloadN X0.here hx rfl (hb hby d19_55) rfl k) ?_
  refine bN s₁ (mkF m 57 #[vi 1] [(.int (1 : Int32)), (.int (1 : Int32))]) (fun _ k => XS.iconst X0.here hx rfl (hb hby d19_56) k) ?_
  refine bN s₁ (mkF m 58 #[vi 1] [(.int (2 : Int32))]) (fun _ k => XS.ishl X0.here hx rfl (hb hby d19_57) rfl k) ?_
  refine own_ret X0 hlk (v := some (.int (2 : Int32))) (nvr Bd.returns) (fun fs hr => retI X0 hx Bd.returns (hb hby d19_58) hr) ?_ (by decide) (by decide)
  rw [e0]
  exact ⟨rfl, (Fr.nil n0), rfl⟩
theorem d18_0 : decode jdk_52_method_2_code 0 = .ok (.iload_n 0, 1) := by decide +kernel
theorem d18_1 : decode jdk_52_method_2_code 1 = .ok (.invokestatic 11, 3) := by decide +kernel
theorem d18_4 : decode jdk_52_method_2_code 4 = .ok (.newarray .byte, 2) := by decide +kernel
theorem d18_6 : decode jdk_52_method_2_code 6 = .ok (.areturn, 1) := by decide +kernel
theorem pn_18 : plainName "java/lang/StringUTF16" = true := by first | (simp [plainName, overriddenIn]; done) | decide +kernel
theorem ef_nbf_1 (m : MethodId)  : entryFrame m #[(.int (1 : Int32))] 1 = mkF m 0 #[vi 1] [] := rfl
def Q_nbf_1 (Z : State)  (h0 : Heap) (n0 : Nat) (v : Option Value) (h : Heap) (L : List Loc) : Prop := ∃ (t : Addr) (kb : ClassId), v = some (.ref t) ∧ Fr n0 L ∧ Keep h0 h [] ∧ h0.size ≤ t ∧ Arv Z h t kb .byte (2 : Int32) [(ii 0), (ii 0)] (ii 0)
theorem nbf_1 (l : Launch) (Z : State) (a0 : Array Value) (hw : HW Z a0) (ws : List Jvm.Cond)  (h0 : Heap) (n0 : Nat) (Z0 : n0 ≤ h0.size) :
    own_M l yy10 jdk_52_method_2_code 1 (some (.array .byte)) ws rr20 Z #[(.int (1 : Int32))] h0 (Q_nbf_1 Z  h0 n0) := by
  refine own_bd (plainFor_of_name pn_18) fun p e s m below meth c s₁ Bd hx hby hml hown hnm hlk hZ X0 e0 => ?_
  rw [ef_nbf_1 m ]
  refine bN s₁ (mkF m 1 #[vi 1] [(.int (1 : Int32))]) (fun _ k => XS.iloadN X0.here hx rfl (hb hby d18_0) rfl k) ?_
  obtain ⟨_, _, ⟨T21, L21, k21, n21⟩, -, X21, ⟨Lc21, hQ21, l21, y21, z21⟩, st21⟩ := Jvm.LawKit.callS X0 hx (y := yy9) hown (mvT hZ (hw _ (mo 86 rfl))) (mvT hZ (hw _ (mo 87 rfl))) (mvT hZ (hw _ (mo 71 rfl))) (mvT hZ (hw _ (mo 88 rfl))) (by decide) (backOf (W := 0) (nbl_1 l Z a0 hw []   h0 n0 Z0 ) hZ (hw _ (mo 88 rfl)) (hw _ (mo 71 rfl)) (by decide) (by decide)) (g := (mkF m 1 #[vi 1] [(.int (1 : Int32))])) rfl (by rw [hml]; rfl) (argsL := [(.int (1 : Int32))]) (rest := []) (lenOf pd_4 rfl) rfl (Nat.le_of_eq rfl) (hb hby d18_1) (fun _ _ => ⟨rfl, e0, (by decide : 0 ≤ _), (by decide : 0 ≤ _)⟩)
  dsimp only [Pt.U, Pt.locs, Pt.cells, Pt.slots] at X21 l21 y21 z21 st21 hQ21
  subst l21 y21 z21
  obtain ⟨rfl, N21q, e21⟩ := hQ21
  have N21 := Fr.app (Fr.nil n0) N21q
  refine bN T21 (mkF m 4 #[vi 1] [(.int (2 : Int32))]) (fun _ k => st21 _ k) ?_
  obtain ⟨T22, h22, k22, X22, e22, E22, A22, st22⟩ := newP X21 hx hZ (hw _ (mo 24 rfl)) e21 (g := (mkF m 4 #[vi 1] [(.int (2 : Int32))])) rfl (hb hby d18_4) rfl (by decide) (cap := 2) (by decide) (by decide) (by decide) (by decide)
  obtain ⟨b22, g22⟩ : ∃ z, z = h0.size := ⟨_, rfl⟩
  rw [← g22] at A22 st22
  have V_b22 : Arv Z h22 b22 k22 .byte (2 : Int32) [(ii 0), (ii 0)] (ii 0) := (Arv.new A22 (by decide)).pad (pad_rep [] (ii 0) 2)
  have g_b22 : n0 ≤ b22 := Nat.le_trans Z0 (Nat.le_of_eq g22.symm)
  have sz_b22 : h0.size ≤ b22 := Nat.le_trans (Keep.refl h0 []).1 (Nat.le_of_eq g22.symm)
  have K22 : Keep h0 h22 [] := Keep.ext (Keep.refl h0 []) E22
  refine bN T22 (mkF m 6 #[vi 1] [(.ref b22)]) (fun _ k => st22 _ k) ?_
  refine own_ret X22 hlk (v := some (.ref b22)) (nvr Bd.returns) (fun fs hr => retOut X22 hx Bd.returns rfl (Or.inr (Or.inr (Or.inr (Or.inr ⟨rfl, rfl, rfl⟩)))) (hb hby d18_6) hr) ?_ (by decide) (by decide)
  rw [e22]
  exact ⟨_, _, rfl, N21, K22, sz_b22, V_b22⟩
theorem ef_nbl_2 (m : MethodId)  : entryFrame m #[(.int (2 : Int32))] 1 = mkF m 0 #[vi 2] [] := rfl
def Q_nbl_2 (Z : State)  (h0 : Heap) (n0 : Nat) (v : Option Value) (h : Heap) (L : List Loc) : Prop := v = some (.int (4 : Int32)) ∧ Fr n0 L ∧ h = h0
theorem nbl_2 (l : Launch) (Z : State) (a0 : Array Value) (hw : HW Z a0) (ws : List Jvm.Cond)  (h0 : Heap) (n0 : Nat) (Z0 : n0 ≤ h0.size) :
    own_M l yy9 jdk_52_method_3_code 1 (some .int) ws rr0 Z #[(.int (2 : Int32))] h0 (Q_nbl_2 Z  h0 n0) := by
  refine own_bd (plainFor_of_name pn_19) fun p e s m below meth c s₁ Bd hx hby hml hown hnm hlk hZ X0 e0 => ?_
  rw [ef_nbl_2 m ]
  refine bN s₁ (mkF m 1 #[vi 2] [(.int (2 : Int32))]) (fun _ k => XS.iloadN X0.here hx rfl (hb hby d19_0) rfl k) ?_
  refine bN s₁ (mkF m 12 #[vi 2] []) (fun _ k => XS.ifYes X0.here hx rfl (pc0 := 1) (pc' := 12) rfl (hb hby d19_1) rfl ((if0 _ _).trans (flt (by decide)).2.1) (by decide) (by decide) k) ?_
  refine bN s₁ (mkF m 13 #[vi 2] [(.int (2 : Int32))]) (fun _ k => XS.iloadN X0.here hx rfl (hb hby d19_12) rfl k) ?_
  refine bN s₁ (mkF m 15 #[vi 2] [(.int (1073741823 : Int32)), (.int (2 : Int32))]) (fun _ k => ldcI X0 hx hown (mvT hZ (hw _ (mo 89 rfl))) rfl (hb hby d19_13) k) ?_
  refine bN s₁ (mkF m 55 #[vi 2] []) (fun _ k => XS.icmpYes X0.here hx rfl (pc0 := 15) (pc' := 55) rfl (hb hby d19_15) rfl (tlt (by decide)).1 (by decide) (by decide) k) ?_
  refine bN s₁ (mkF m 56 #[vi 2] [(.int (2 : Int32))]) (fun _ k => XS.iloadN X0.here hx rfl (hb hby d19_55) rfl k) ?_
  refine bN s₁ (mkF m 57 #[vi 2] [(.int (1 : Int32)), (.int (2 : Int32))]) (fun _ k => XS.iconst X0.here hx rfl (hb hby d19_56) k) ?_
  refine bN s₁ (mkF m 58 #[vi 2] [(.int (4 : Int32))]) (fun _ k => XS.ishl X0.here hx rfl (hb hby d19_57) rfl k) ?_
  refine own_ret X0 hlk (v := some (.int (4 : Int32))) (nvr Bd.returns) (fun fs hr => retI X0 hx Bd.returns (hb hby d19_58) hr) ?_ (by decide) (by decide)
  rw [e0]
  exact ⟨rfl, (Fr.nil n0), rfl⟩
theorem ef_nbf_2 (m : MethodId)  : entryFrame m #[(.int (2 : Int32))] 1 = mkF m 0 #[vi 2] [] := rfl
def Q_nbf_2 (Z : State)  (h0 : Heap) (n0 : Nat) (v : Option Value) (h : Heap) (L : List Loc) : Prop := ∃ (t : Addr) (kb : ClassId), v = some (.ref t) ∧ Fr n0 L ∧ Keep h0 h [] ∧ h0.size ≤ t ∧ Arv Z h t kb .byte (4 : Int32) [(ii 0), (ii 0), (ii 0), (ii 0)] (ii 0)
theorem nbf_2 (l : Launch) (Z : State) (a0 : Array Value) (hw : HW Z a0) (ws : List Jvm.Cond)  (h0 : Heap) (n0 : Nat) (Z0 : n0 ≤ h0.size) :
    own_M l yy10 jdk_52_method_2_code 1 (some (.array .byte)) ws rr21 Z #[(.int (2 : Int32))] h0 (Q_nbf_2 Z  h0 n0) := by
  refine own_bd (plainFor_of_name pn_18) fun p e s m below meth c s₁ Bd hx hby hml hown hnm hlk hZ X0 e0 => ?_
  rw [ef_nbf_2 m ]
  refine bN s₁ (mkF m 1 #[vi 2] [(.int (2 : Int32))]) (fun _ k => XS.iloadN X0.here hx rfl (hb hby d18_0) rfl k) ?_
  obtain ⟨_, _, ⟨T21, L21, k21, n21⟩, -, X21, ⟨Lc21, hQ21, l21, y21, z21⟩, st21⟩ := Jvm.LawKit.callS X0 hx (y := yy9) hown (mvT hZ (hw _ (mo 86 rfl))) (mvT hZ (hw _ (mo 87 rfl))) (mvT hZ (hw _ (mo 71 rfl))) (mvT hZ (hw _ (mo 88 rfl))) (by decide) (backOf (W := 0) (nbl_2 l Z a0 hw []   h0 n0 Z0 ) hZ (hw _ (mo 88 rfl)) (hw _ (mo 71 rfl)) (by decide) (by decide)) (g := (mkF m 1 #[vi 2] [(.int (2 : Int32))])) rfl (by rw [hml]; rfl) (argsL := [(.int (2 : Int32))]) (rest := []) (lenOf pd_4 rfl) rfl (Nat.le_of_eq rfl) (hb hby d18_1) (fun _ _ => ⟨rfl, e0, (by decide : 0 ≤ _), (by decide : 0 ≤ _)⟩)
  dsimp only [Pt.U, Pt.locs, Pt.cells, Pt.slots] at X21 l21 y21 z21 st21 hQ21
  subst l21 y21 z21
  obtain ⟨rfl, N21q, e21⟩ := hQ21
  have N21 := Fr.app (Fr.nil n0) N21q
  refine bN T21 (mkF m 4 #[vi 2] [(.int (4 : Int32))]) (fun _ k => st21 _ k) ?_
  obtain ⟨T22, h22, k22, X22, e22, E22, A22, st22⟩ := newP X21 hx hZ (hw _ (mo 24 rfl)) e21 (g := (mkF m 4 #[vi 2] [(.int (4 : Int32))])) rfl (hb hby d18_4) rfl (by decide) (cap := 4) (by decide) (by decide) (by decide) (by decide)
  obtain ⟨b22, g22⟩ : ∃ z, z = h0.size := ⟨_, rfl⟩
  rw [← g22] at A22 st22
  have V_b22 : Arv Z h22 b22 k22 .byte (4 : Int32) [(ii 0), (ii 0), (ii 0), (ii 0)] (ii 0) := (Arv.new A22 (by decide)).pad (pad_rep [] (ii 0) 4)
  have g_b22 : n0 ≤ b22 := Nat.le_trans Z0 (Nat.le_of_eq g22.symm)
  have sz_b22 : h0.size ≤ b22 := Nat.le_trans (Keep.refl h0 []).1 (Nat.le_of_eq g22.symm)
  have K22 : Keep h0 h22 [] := Keep.ext (Keep.refl h0 []) E22
  refine bN T22 (mkF m 6 #[vi 2] [(.ref b22)]) (fun _ k => st22 _ k) ?_
  refine own_ret X22 hlk (v := some (.ref b22)) (nvr Bd.returns) (fun fs hr => retOut X22 hx Bd.returns rfl (Or.inr (Or.inr (Or.inr (Or.inr ⟨rfl, rfl, rfl⟩)))) (hb hby d18_6) hr) ?_ (by decide) (by decide)
  rw [e22]
  exact ⟨_, _, rfl, N21, K22, sz_b22, V_b22⟩
theorem ef_nbl_3 (m : MethodId)  : entryFrame m #[(.int (3 : Int32))] 1 = mkF m 0 #[vi 3] [] := rfl
def Q_nbl_3 (Z : State)  (h0 : Heap) (n0 : Nat) (v : Option Value) (h : Heap) (L : List Loc) : Prop := v = some (.int (6 : Int32)) ∧ Fr n0 L ∧ h = h0
theorem nbl_3 (l : Launch) (Z : State) (a0 : Array Value) (hw : HW Z a0) (ws : List Jvm.Cond)  (h0 : Heap) (n0 : Nat) (Z0 : n0 ≤ h0.size) :
    own_M l yy9 jdk_52_method_3_code 1 (some .int) ws rr0 Z #[(.int (3 : Int32))] h0 (Q_nbl_3 Z  h0 n0) := by
  refine own_bd (plainFor_of_name pn_19) fun p e s m below meth c s₁ Bd hx hby hml hown hnm hlk hZ X0 e0 => ?_
  rw [ef_nbl_3 m ]
  refine bN s₁ (mkF m 1 #[vi 3] [(.int (3 : Int32))]) (fun _ k => XS.iloadN X0.here hx rfl (hb hby d19_0) rfl k) ?_
  refine bN s₁ (mkF m 12 #[vi 3] []) (fun _ k => XS.ifYes X0.here hx rfl (pc0 := 1) (pc' := 12) rfl (hb hby d19_1) rfl ((if0 _ _).trans (flt (by decide)).2.1) (by decide) (by decide) k) ?_
  refine bN s₁ (mkF m 13 #[vi 3] [(.int (3 : Int32))]) (fun _ k => XS.iloadN X0.here hx rfl (hb hby d19_12) rfl k) ?_
  refine bN s₁ (mkF m 15 #[vi 3] [(.int (1073741823 : Int32)), (.int (3 : Int32))]) (fun _ k => ldcI X0 hx hown (mvT hZ (hw _ (mo 89 rfl))) rfl (hb hby d19_13) k) ?_
  refine bN s₁ (mkF m 55 #[vi 3] []) (fun _ k => XS.icmpYes X0.here hx rfl (pc0 := 15) (pc' := 55) rfl (hb hby d19_15) rfl (tlt (by decide)).1 (by decide) (by decide) k) ?_
  refine bN s₁ (mkF m 56 #[vi 3] [(.int (3 : Int32))]) (fun _ k => XS.iloadN X0.here hx rfl (hb hby d19_55) rfl k) ?_
  refine bN s₁ (mkF m 57 #[vi 3] [(.int (1 : Int32)), (.int (3 : Int32))]) (fun _ k => XS.iconst X0.here hx rfl (hb hby d19_56) k) ?_
  refine bN s₁ (mkF m 58 #[vi 3] [(.int (6 : Int32))]) (fun _ k => XS.ishl X0.here hx rfl (hb hby d19_57) rfl k) ?_
  refine own_ret X0 hlk (v := some (.int (6 : Int32))) (nvr Bd.returns) (fun fs hr => retI X0 hx Bd.returns (hb hby d19_58) hr) ?_ (by decide) (by decide)
  rw [e0]
  exact ⟨rfl, (Fr.nil n0), rfl⟩
theorem ef_nbf_3 (m : MethodId)  : entryFrame m #[(.int (3 : Int32))] 1 = mkF m 0 #[vi 3] [] := rfl
def Q_nbf_3 (Z : State)  (h0 : Heap) (n0 : Nat) (v : Option Value) (h : Heap) (L : List Loc) : Prop := ∃ (t : Addr) (kb : ClassId), v = some (.ref t) ∧ Fr n0 L ∧ Keep h0 h [] ∧ h0.size ≤ t ∧ Arv Z h t kb .byte (6 : Int32) [(ii 0), (ii 0), (ii 0), (ii 0), (ii 0), (ii 0)] (ii 0)
theorem nbf_3 (l : Launch) (Z : State) (a0 : Array Value) (hw : HW Z a0) (ws : List Jvm.Cond)  (h0 : Heap) (n0 : Nat) (Z0 : n0 ≤ h0.size) :
    own_M l yy10 jdk_52_method_2_code 1 (some (.array .byte)) ws rr22 Z #[(.int (3 : Int32))] h0 (Q_nbf_3 Z  h0 n0) := by
  refine own_bd (plainFor_of_name pn_18) fun p e s m below meth c s₁ Bd hx hby hml hown hnm hlk hZ X0 e0 => ?_
  rw [ef_nbf_3 m ]
  refine bN s₁ (mkF m 1 #[vi 3] [(.int (3 : Int32))]) (fun _ k => XS.iloadN X0.here hx rfl (hb hby d18_0) rfl k) ?_
  obtain ⟨_, _, ⟨T21, L21, k21, n21⟩, -, X21, ⟨Lc21, hQ21, l21, y21, z21⟩, st21⟩ := Jvm.LawKit.callS X0 hx (y := yy9) hown (mvT hZ (hw _ (mo 86 rfl))) (mvT hZ (hw _ (mo 87 rfl))) (mvT hZ (hw _ (mo 71 rfl))) (mvT hZ (hw _ (mo 88 rfl))) (by decide) (backOf (W := 0) (nbl_3 l Z a0 hw []   h0 n0 Z0 ) hZ (hw _ (mo 88 rfl)) (hw _ (mo 71 rfl)) (by decide) (by decide)) (g := (mkF m 1 #[vi 3] [(.int (3 : Int32))])) rfl (by rw [hml]; rfl) (argsL := [(.int (3 : Int32))]) (rest := []) (lenOf pd_4 rfl) rfl (Nat.le_of_eq rfl) (hb hby d18_1) (fun _ _ => ⟨rfl, e0, (by decide : 0 ≤ _), (by decide : 0 ≤ _)⟩)
  dsimp only [Pt.U, Pt.locs, Pt.cells, Pt.slots] at X21 l21 y21 z21 st21 hQ21
  subst l21 y21 z21
  obtain ⟨rfl, N21q, e21⟩ := hQ21
  have N21 := Fr.app (Fr.nil n0) N21q
  refine bN T21 (mkF m 4 #[vi 3] [(.int (6 : Int32))]) (fun _ k => st21 _ k) ?_
  obtain ⟨T22, h22, k22, X22, e22, E22, A22, st22⟩ := newP X21 hx hZ (hw _ (mo 24 rfl)) e21 (g := (mkF m 4 #[vi 3] [(.int (6 : Int32))])) rfl (hb hby d18_4) rfl (by decide) (cap := 6) (by decide) (by decide) (by decide) (by decide)
  obtain ⟨b22, g22⟩ : ∃ z, z = h0.size := ⟨_, rfl⟩
  rw [← g22] at A22 st22
  have V_b22 : Arv Z h22 b22 k22 .byte (6 : Int32) [(ii 0), (ii 0), (ii 0), (ii 0), (ii 0), (ii 0)] (ii 0) := (Arv.new A22 (by decide)).pad (pad_rep [] (ii 0) 6)
  have g_b22 : n0 ≤ b22 := Nat.le_trans Z0 (Nat.le_of_eq g22.symm)
  have sz_b22 : h0.size ≤ b22 := Nat.le_trans (Keep.refl h0 []).1 (Nat.le_of_eq g22.symm)
  have K22 : Keep h0 h22 [] := Keep.ext (Keep.refl h0 []) E22
  refine bN T22 (mkF m 6 #[vi 3] [(.ref b22)]) (fun _ k => st22 _ k) ?_
  refine own_ret X22 hlk (v := some (.ref b22)) (nvr Bd.returns) (fun fs hr => retOut X22 hx Bd.returns rfl (Or.inr (Or.inr (Or.inr (Or.inr ⟨rfl, rfl, rfl⟩)))) (hb hby d18_6) hr) ?_ (by decide) (by decide)
  rw [e22]
  exact ⟨_, _, rfl, N21, K22, sz_b22, V_b22⟩
theorem ef_nbl_4 (m : MethodId)  : entryFrame m #[(.int (4 : Int32))] 1 = mkF m 0 #[vi 4] [] := rfl
def Q_nbl_4 (Z : State)  (h0 : Heap) (n0 : Nat) (v : Option Value) (h : Heap) (L : List Loc) : Prop := v = some (.int (8 : Int32)) ∧ Fr n0 L ∧ h = h0
theorem nbl_4 (l : Launch) (Z : State) (a0 : Array Value) (hw : HW Z a0) (ws : List Jvm.Cond)  (h0 : Heap) (n0 : Nat) (Z0 : n0 ≤ h0.size) :
    own_M l yy9 jdk_52_method_3_code 1 (some .int) ws rr0 Z #[(.int (4 : Int32))] h0 (Q_nbl_4 Z  h0 n0) := by
  refine own_bd (plainFor_of_name pn_19) fun p e s m below meth c s₁ Bd hx hby hml hown hnm hlk hZ X0 e0 => ?_
  rw [ef_nbl_4 m ]
  refine bN s₁ (mkF m 1 #[vi 4] [(.int (4 : Int32))]) (fun _ k => XS.iloadN X0.here hx rfl (hb hby d19_0) rfl k) ?_
  refine bN s₁ (mkF m 12 #[vi 4] []) (fun _ k => XS.ifYes X0.here hx rfl (pc0 := 1) (pc' := 12) rfl (hb hby d19_1) rfl ((if0 _ _).trans (flt (by decide)).2.1) (by decide) (by decide) k) ?_
  refine bN s₁ (mkF m 13 #[vi 4] [(.int (4 : Int32))]) (fun _ k => XS.iloadN X0.here hx rfl (hb hby d19_12) rfl k) ?_
  refine bN s₁ (mkF m 15 #[vi 4] [(.int (1073741823 : Int32)), (.int (4 : Int32))]) (fun _ k => ldcI X0 hx hown (mvT hZ (hw _ (mo 89 rfl))) rfl (hb hby d19_13) k) ?_
  refine bN s₁ (mkF m 55 #[vi 4] []) (fun _ k => XS.icmpYes X0.here hx rfl (pc0 := 15) (pc' := 55) rfl (hb hby d19_15) rfl (tlt (by decide)).1 (by decide) (by decide) k) ?_
  refine bN s₁ (mkF m 56 #[vi 4] [(.int (4 : Int32))]) (fun _ k => XS.iloadN X0.here hx rfl (hb hby d19_55) rfl k) ?_
  refine bN s₁ (mkF m 57 #[vi 4] [(.int (1 : Int32)), (.int (4 : Int32))]) (fun _ k => XS.iconst X0.here hx rfl (hb hby d19_56) k) ?_
  refine bN s₁ (mkF m 58 #[vi 4] [(.int (8 : Int32))]) (fun _ k => XS.ishl X0.here hx rfl (hb hby d19_57) rfl k) ?_
  refine own_ret X0 hlk (v := some (.int (8 : Int32))) (nvr Bd.returns) (fun fs hr => retI X0 hx Bd.returns (hb hby d19_58) hr) ?_ (by decide) (by decide)
  rw [e0]
  exact ⟨rfl, (Fr.nil n0), rfl⟩
theorem ef_nbf_4 (m : MethodId)  : entryFrame m #[(.int (4 : Int32))] 1 = mkF m 0 #[vi 4] [] := rfl
def Q_nbf_4 (Z : State)  (h0 : Heap) (n0 : Nat) (v : Option Value) (h : Heap) (L : List Loc) : Prop := ∃ (t : Addr) (kb : ClassId), v = some (.ref t) ∧ Fr n0 L ∧ Keep h0 h [] ∧ h0.size ≤ t ∧ Arv Z h t kb .byte (8 : Int32) [(ii 0), (ii 0), (ii 0), (ii 0), (ii 0), (ii 0), (ii 0), (ii 0)] (ii 0)
theorem nbf_4 (l : Launch) (Z : State) (a0 : Array Value) (hw : HW Z a0) (ws : List Jvm.Cond)  (h0 : Heap) (n0 : Nat) (Z0 : n0 ≤ h0.size) :
    own_M l yy10 jdk_52_method_2_code 1 (some (.array .byte)) ws rr23 Z #[(.int (4 : Int32))] h0 (Q_nbf_4 Z  h0 n0) := by
  refine own_bd (plainFor_of_name pn_18) fun p e s m below meth c s₁ Bd hx hby hml hown hnm hlk hZ X0 e0 => ?_
  rw [ef_nbf_4 m ]
  refine bN s₁ (mkF m 1 #[vi 4] [(.int (4 : Int32))]) (fun _ k => XS.iloadN X0.here hx rfl (hb hby d18_0) rfl k) ?_
  obtain ⟨_, _, ⟨T21, L21, k21, n21⟩, -, X21, ⟨Lc21, hQ21, l21, y21, z21⟩, st21⟩ := Jvm.LawKit.callS X0 hx (y := yy9) hown (mvT hZ (hw _ (mo 86 rfl))) (mvT hZ (hw _ (mo 87 rfl))) (mvT hZ (hw _ (mo 71 rfl))) (mvT hZ (hw _ (mo 88 rfl))) (by decide) (backOf (W := 0) (nbl_4 l Z a0 hw []   h0 n0 Z0 ) hZ (hw _ (mo 88 rfl)) (hw _ (mo 71 rfl)) (by decide) (by decide)) (g := (mkF m 1 #[vi 4] [(.int (4 : Int32))])) rfl (by rw [hml]; rfl) (argsL := [(.int (4 : Int32))]) (rest := []) (lenOf pd_4 rfl) rfl (Nat.le_of_eq rfl) (hb hby d18_1) (fun _ _ => ⟨rfl, e0, (by decide : 0 ≤ _), (by decide : 0 ≤ _)⟩)
  dsimp only [Pt.U, Pt.locs, Pt.cells, Pt.slots] at X21 l21 y21 z21 st21 hQ21
  subst l21 y21 z21
  obtain ⟨rfl, N21q, e21⟩ := hQ21
  have N21 := Fr.app (Fr.nil n0) N21q
  refine bN T21 (mkF m 4 #[vi 4] [(.int (8 : Int32))]) (fun _ k => st21 _ k) ?_
  obtain ⟨T22, h22, k22, X22, e22, E22, A22, st22⟩ := newP X21 hx hZ (hw _ (mo 24 rfl)) e21 (g := (mkF m 4 #[vi 4] [(.int (8 : Int32))])) rfl (hb hby d18_4) rfl (by decide) (cap := 8) (by decide) (by decide) (by decide) (by decide)
  obtain ⟨b22, g22⟩ : ∃ z, z = h0.size := ⟨_, rfl⟩
  rw [← g22] at A22 st22
  have V_b22 : Arv Z h22 b22 k22 .byte (8 : Int32) [(ii 0), (ii 0), (ii 0), (ii 0), (ii 0), (ii 0), (ii 0), (ii 0)] (ii 0) := (Arv.new A22 (by decide)).pad (pad_rep [] (ii 0) 8)
  have g_b22 : n0 ≤ b22 := Nat.le_trans Z0 (Nat.le_of_eq g22.symm)
  have sz_b22 : h0.size ≤ b22 := Nat.le_trans (Keep.refl h0 []).1 (Nat.le_of_eq g22.symm)
  have K22 : Keep h0 h22 [] := Keep.ext (Keep.refl h0 []) E22
  refine bN T22 (mkF m 6 #[vi 4] [(.ref b22)]) (fun _ k => st22 _ k) ?_
  refine own_ret X22 hlk (v := some (.ref b22)) (nvr Bd.returns) (fun fs hr => retOut X22 hx Bd.returns rfl (Or.inr (Or.inr (Or.inr (Or.inr ⟨rfl, rfl, rfl⟩)))) (hb hby d18_6) hr) ?_ (by decide) (by decide)
  rw [e22]
  exact ⟨_, _, rfl, N21, K22, sz_b22, V_b22⟩
theorem d17_0 : decode jdk_52_method_14_code 0 = .ok (.iload_n 2, 1) := by decide +kernel
theorem d17_1 : decode jdk_52_method_14_code 1 = .ok (.invokestatic 107, 3) := by decide +kernel
theorem d17_4 : decode jdk_52_method_14_code 4 = .ok (.astore_n 3, 1) := by decide +kernel
theorem d17_5 : decode jdk_52_method_14_code 5 = .ok (.iconst 0, 1) := by decide +kernel
theorem d17_6 : decode jdk_52_method_14_code 6 = .ok (.istore 4, 2) := by decide +kernel
theorem d17_8 : decode jdk_52_method_14_code 8 = .ok (.iload 4, 2) := by decide +kernel
theorem d17_10 : decode jdk_52_method_14_code 10 = .ok (.iload_n 2, 1) := by decide +kernel
theorem d17_11 : decode jdk_52_method_14_code 11 = .ok (.if_icmp .ge 21, 3) := by decide +kernel
theorem d17_14 : decode jdk_52_method_14_code 14 = .ok (.aload_n 3, 1) := by decide +kernel
theorem d17_15 : decode jdk_52_method_14_code 15 = .ok (.iload 4, 2) := by decide +kernel
theorem d17_17 : decode jdk_52_method_14_code 17 = .ok (.aload_n 0, 1) := by decide +kernel
theorem d17_18 : decode jdk_52_method_14_code 18 = .ok (.iload_n 1, 1) := by decide +kernel
theorem d17_19 : decode jdk_52_method_14_code 19 = .ok (.caload, 1) := by decide +kernel
theorem d17_20 : decode jdk_52_method_14_code 20 = .ok (.invokestatic 111, 3) := by decide +kernel
theorem d17_23 : decode jdk_52_method_14_code 23 = .ok (.iinc 1 1, 3) := by decide +kernel
theorem d17_26 : decode jdk_52_method_14_code 26 = .ok (.iinc 4 1, 3) := by decide +kernel
theorem d17_29 : decode jdk_52_method_14_code 29 = .ok (.goto (-21), 3) := by decide +kernel
theorem d17_32 : decode jdk_52_method_14_code 32 = .ok (.aload_n 3, 1) := by decide +kernel
theorem d17_33 : decode jdk_52_method_14_code 33 = .ok (.areturn, 1) := by decide +kernel
theorem pn_17 : plainName "java/lang/StringUTF16" = true := by first | (simp [plainName, overriddenIn]; done) | decide +kernel
theorem ef_tby_1 (m : MethodId) (ca : Addr) : entryFrame m #[(.ref ca), (ii 0), (.int (1 : Int32))] 5 = mkF m 0 #[vr ca, vi 0, vi 1, uu, uu] [] := rfl
def Q_tby_1 (Z : State) (ca : Addr) (kc : ClassId) (c0 : Int32) (h0 : Heap) (n0 : Nat) (v : Option Value) (h : Heap) (L : List Loc) : Prop := ∃ (t : Addr) (kb : ClassId), v = some (.ref t) ∧ Fr n0 L ∧ Keep h0 h [] ∧ h0.size ≤ t ∧ Arv Z h t kb .byte (2 : Int32) (wb1 c0) (ii 0)
theorem tby_1 (l : Launch) (Z : State) (a0 : Array Value) (hw : HW Z a0) (ws : List Jvm.Cond) (ca : Addr) (kc : ClassId) (c0 : Int32) (h0 : Heap) (n0 : Nat) (Z0 : n0 ≤ h0.size) (V_ca : Arv Z h0 ca kc .char (1 : Int32) [(.int c0)] (ii 0)) (O0 : Old Z n0 h0) (S_AD : Sta Z Z.heap "java/lang/StringUTF16" "$assertionsDisabled" "Z" (.int (1 : Int32))) (S_HI : Sta Z Z.heap "java/lang/StringUTF16" "HI_BYTE_SHIFT" "I" (ii 0)) (S_LO : Sta Z Z.heap "java/lang/StringUTF16" "LO_BYTE_SHIFT" "I" (.int (8 : Int32))) :
    own_M l yy11 jdk_52_method_14_code 5 (some (.array .byte)) ws rr24 Z #[(.ref ca), (ii 0), (.int (1 : Int32))] h0 (Q_tby_1 Z ca kc c0 h0 n0) := by
  refine own_bd (plainFor_of_name pn_17) fun p e s m below meth c s₁ Bd hx hby hml hown hnm hlk hZ X0 e0 => ?_
  rw [ef_tby_1 m ca]
  refine bN s₁ (mkF m 1 #[vr ca, vi 0, vi 1, uu, uu] [(.int (1 : Int32))]) (fun _ k => XS.iloadN X0.here hx rfl (hb hby d17_0) rfl k) ?_
  obtain ⟨_, _, ⟨T21, L21, k21, n21⟩, -, X21, ⟨Lc21, hQ21, l21, y21, z21⟩, st21⟩ := Jvm.LawKit.callS X0 hx (y := yy10) hown (mvT hZ (hw _ (mo 83 rfl))) (mvT hZ (hw _ (mo 84 rfl))) (mvT hZ (hw _ (mo 71 rfl))) (mvT hZ (hw _ (mo 85 rfl))) (by decide) (backOf (W := 0) (nbf_1 l Z a0 hw []   h0 n0 Z0 ) hZ (hw _ (mo 85 rfl)) (hw _ (mo 71 rfl)) (by decide) (by decide)) (g := (mkF m 1 #[vr ca, vi 0, vi 1, uu, uu] [(.int (1 : Int32))])) rfl (by rw [hml]; rfl) (argsL := [(.int (1 : Int32))]) (rest := []) (lenOf pd_5 rfl) rfl (Nat.le_of_eq rfl) (hb hby d17_1) (fun _ _ => ⟨rfl, e0, (by decide : 1 ≤ _), (by decide : 2 ≤ _)⟩)
  dsimp only [Pt.U, Pt.locs, Pt.cells, Pt.slots] at X21 l21 y21 z21 st21 hQ21
  subst l21 y21 z21
  obtain ⟨t21, kb21, rfl, N21q, K21, zt21, V21⟩ := hQ21
  have N21 := Fr.app (Fr.nil n0) N21q
  have KK21 : Keep h0 T21.heap [] := Keep.trans (Keep.refl h0 []) K21 all0
  have sz_t21 : h0.size ≤ t21 := Nat.le_trans (Keep.refl h0 []).1 zt21
  have g_t21 : n0 ≤ t21 := Nat.le_trans Z0 sz_t21
  refine bN T21 (mkF m 4 #[vr ca, vi 0, vi 1, uu, uu] [(.ref t21)]) (fun _ k => st21 _ k) ?_
  refine bN T21 (mkF m 5 #[vr ca, vi 0, vi 1, vr t21, uu] []) (fun _ k => XS.astoreN X21.here hx rfl (hb hby d17_4) rfl rfl rfl k) ?_
  refine bN T21 (mkF m 6 #[vr ca, vi 0, vi 1, vr t21, uu] [(ii 0)]) (fun _ k => XS.iconst X21.here hx rfl (hb hby d17_5) k) ?_
  refine bN T21 (mkF m 8 #[vr ca, vi 0, vi 1, vr t21, vi 0] []) (fun _ k => XS.istore X21.here hx rfl (hb hby d17_6) rfl rfl k) ?_
  refine bN T21 (mkF m 10 #[vr ca, vi 0, vi 1, vr t21, vi 0] [(ii 0)]) (fun _ k => XS.iload X21.here hx rfl (hb hby d17_8) rfl k) ?_
  refine bN T21 (mkF m 11 #[vr ca, vi 0, vi 1, vr t21, vi 0] [(.int (1 : Int32)), (ii 0)]) (fun _ k => XS.iloadN X21.here hx rfl (hb hby d17_10) rfl k) ?_
  refine bN T21 (mkF m 14 #[vr ca, vi 0, vi 1, vr t21, vi 0] []) (fun _ k => XS.icmpNo X21.here hx rfl (hb hby d17_11) rfl (tlt (by decide)).2.1 k) ?_
  refine bN T21 (mkF m 15 #[vr ca, vi 0, vi 1, vr t21, vi 0] [(.ref t21)]) (fun _ k => XS.aloadN X21.here hx rfl (hb hby d17_14) rfl rfl k) ?_
  refine bN T21 (mkF m 17 #[vr ca, vi 0, vi 1, vr t21, vi 0] [(ii 0), (.ref t21)]) (fun _ k => XS.iload X21.here hx rfl (hb hby d17_15) rfl k) ?_
  refine bN T21 (mkF m 18 #[vr ca, vi 0, vi 1, vr t21, vi 0] [(.ref ca), (ii 0), (.ref t21)]) (fun _ k => XS.aloadN X21.here hx rfl (hb hby d17_17) rfl rfl k) ?_
  refine bN T21 (mkF m 19 #[vr ca, vi 0, vi 1, vr t21, vi 0] [(ii 0), (.ref ca), (ii 0), (.ref t21)]) (fun _ k => XS.iloadN X21.here hx rfl (hb hby d17_18) rfl k) ?_
  obtain ⟨cl22, Ar22, q22, S22, N_22, H22, G22⟩ := id (Arv.keep V_ca K21 nin0)
  have hin22 : ¬ ((0 : Int32) < 0 ∨ cl22.slots.size ≤ ((0 : Int32)).toNatClampNeg) := inb_of S22 ⟨by decide, by decide⟩
  refine bN T21 (mkF m 20 #[vr ca, vi 0, vi 1, vr t21, vi 0] [(.int c0), (ii 0), (.ref t21)]) (fun _ k => X21.caload hx (j := (0 : Int32)) (v := (.int c0)) Ar22.1 (State.isArrayOf_alike hZ.alike Ar22.2.1) Ar22.2.2 hin22 (Has.at H22 hin22 rfl) (g := (mkF m 19 #[vr ca, vi 0, vi 1, vr t21, vi 0] [(ii 0), (.ref ca), (ii 0), (.ref t21)])) rfl rfl (hb hby d17_19) _ k) ?_
  obtain ⟨_, _, ⟨T23, L23, k23, n23⟩, -, X23, ⟨Lc23, hQ23, l23, y23, z23⟩, st23⟩ := Jvm.LawKit.callS X21 hx (y := yy7) hown (mvT hZ (hw _ (mo 90 rfl))) (mvT hZ (hw _ (mo 91 rfl))) (mvT hZ (hw _ (mo 71 rfl))) (mvT hZ (hw _ (mo 92 rfl))) (by decide) (backOf (W := 0) (put_0 l Z a0 hw [] t21 c0 kb21 (2 : Int32) [(ii 0), (ii 0)] T21.heap n0 (Nat.le_trans Z0 K21.1) (Sta.ext ((Old.keep O0 K21 all0)).2 S_AD) (Sta.ext ((Old.keep O0 K21 all0)).2 S_HI) (Sta.ext ((Old.keep O0 K21 all0)).2 S_LO) V21 (by decide) (by decide) (Nat.le_of_ble_eq_true rfl) (Nat.le_of_ble_eq_true rfl) g_t21) hZ (hw _ (mo 92 rfl)) (hw _ (mo 71 rfl)) (by decide) (by decide)) (g := (mkF m 20 #[vr ca, vi 0, vi 1, vr t21, vi 0] [(.int c0), (ii 0), (.ref t21)])) rfl (by rw [hml]; rfl) (argsL := [(.ref t21), (ii 0), (.int c0)]) (rest := []) (lenOf pd_6 rfl) rfl (Nat.le_of_eq rfl) (hb hby d17_20) (fun _ _ => ⟨rfl, rfl, (by decide : 1 ≤ _), (by decide : 2 ≤ _)⟩)
  dsimp only [Pt.U, Pt.locs, Pt.cells, Pt.slots] at X23 l23 y23 z23 st23 hQ23
  subst l23 y23 z23
  obtain ⟨rfl, N23q, K23, Vq23⟩ := hQ23
  have N23 := Fr.app N21 N23q
  have KK23 : Keep h0 T23.heap [] := Keep.trans KK21 K23 (allS (Or.inr sz_t21) all0)
  have Vp23 : Arv Z T23.heap t21 kb21 .byte (2 : Int32) (wb1 c0) (ii 0) := Vq23
  refine bN T23 (mkF m 23 #[vr ca, vi 0, vi 1, vr t21, vi 0] []) (fun _ k => st23 _ k) ?_
  refine bN T23 (mkF m 26 #[vr ca, vi 1, vi 1, vr t21, vi 0] []) (fun _ k => XS.iinc X23.here hx rfl (hb hby d17_23) rfl rfl k) ?_
  refine bN T23 (mkF m 29 #[vr ca, vi 1, vi 1, vr t21, vi 1] []) (fun _ k => XS.iinc X23.here hx rfl (hb hby d17_26) rfl rfl k) ?_
  refine bN T23 (mkF m 8 #[vr ca, vi 1, vi 1, vr t21, vi 1] []) (fun _ k => XS.goto X23.here hx rfl (pc0 := 29) (pc' := 8) rfl (hb hby d17_29) (by decide) (by decide) k) ?_
  refine bN T23 (mkF m 10 #[vr ca, vi 1, vi 1, vr t21, vi 1] [(.int (1 : Int32))]) (fun _ k => XS.iload X23.here hx rfl (hb hby d17_8) rfl k) ?_
  refine bN T23 (mkF m 11 #[vr ca, vi 1, vi 1, vr t21, vi 1] [(.int (1 : Int32)), (.int (1 : Int32))]) (fun _ k => XS.iloadN X23.here hx rfl (hb hby d17_10) rfl k) ?_
  refine bN T23 (mkF m 32 #[vr ca, vi 1, vi 1, vr t21, vi 1] []) (fun _ k => XS.icmpYes X23.here hx rfl (pc0 := 11) (pc' := 32) rfl (hb hby d17_11) rfl (flt (by decide)).2.1 (by decide) (by decide) k) ?_
  refine bN T23 (mkF m 33 #[vr ca, vi 1, vi 1, vr t21, vi 1] [(.ref t21)]) (fun _ k => XS.aloadN X23.here hx rfl (hb hby d17_32) rfl rfl k) ?_
  refine own_ret X23 hlk (v := some (.ref t21)) (nvr Bd.returns) (fun fs hr => retOut X23 hx Bd.returns rfl (Or.inr (Or.inr (Or.inr (Or.inr ⟨rfl, rfl, rfl⟩)))) (hb hby d17_33) hr) ?_ (by decide) (by decide)
  exact ⟨_, _, rfl, N23, KK23, sz_t21, Vp23⟩
theorem d14_20 : decode jdk_52_method_16_code 20 = .ok (.aload_n 0, 1) := by decide +kernel
theorem d14_21 : decode jdk_52_method_16_code 21 = .ok (.iload_n 1, 1) := by decide +kernel
theorem d14_22 : decode jdk_52_method_16_code 22 = .ok (.iload_n 2, 1) := by decide +kernel
theorem d14_23 : decode jdk_52_method_16_code 23 = .ok (.invokestatic 119, 3) := by decide +kernel
theorem d14_26 : decode jdk_52_method_16_code 26 = .ok (.astore 5, 2) := by decide +kernel
theorem d14_28 : decode jdk_52_method_16_code 28 = .ok (.aload 5, 2) := by decide +kernel
theorem d14_30 : decode jdk_52_method_16_code 30 = .ok (.iload 4, 2) := by decide +kernel
theorem d14_32 : decode jdk_52_method_16_code 32 = .ok (.invokestatic 71, 3) := by decide +kernel
theorem d14_35 : decode jdk_52_method_16_code 35 = .ok (.sipush 255, 3) := by decide +kernel
theorem d14_38 : decode jdk_52_method_16_code 38 = .ok (.if_icmp .gt 16, 3) := by decide +kernel
theorem d14_54 : decode jdk_52_method_16_code 54 = .ok (.aload 5, 2) := by decide +kernel
theorem d14_56 : decode jdk_52_method_16_code 56 = .ok (.areturn, 1) := by decide +kernel
theorem ef_cmu_1 (m : MethodId) (ca : Addr) : entryFrame m #[(.ref ca), (ii 0), (.int (1 : Int32))] 6 = mkF m 0 #[vr ca, vi 0, vi 1, uu, uu, uu] [] := rfl
def Q_cmu_1 (Z : State) (ca : Addr) (kc : ClassId) (c0 : Int32) (h0 : Heap) (n0 : Nat) (v : Option Value) (h : Heap) (L : List Loc) : Prop := ∃ (t : Addr) (kb : ClassId), v = some (.ref t) ∧ Fr n0 L ∧ Keep h0 h [] ∧ h0.size ≤ t ∧ Arv Z h t kb .byte (2 : Int32) (wb1 c0) (ii 0)
theorem cmu_1 (l : Launch) (Z : State) (a0 : Array Value) (hw : HW Z a0) (ws : List Jvm.Cond) (ca : Addr) (kc : ClassId) (c0 : Int32) (h0 : Heap) (n0 : Nat) (Z0 : n0 ≤ h0.size) (V_ca : Arv Z h0 ca kc .char (1 : Int32) [(.int c0)] (ii 0)) (O0 : Old Z n0 h0) (S_AD : Sta Z Z.heap "java/lang/StringUTF16" "$assertionsDisabled" "Z" (.int (1 : Int32))) (S_HI : Sta Z Z.heap "java/lang/StringUTF16" "HI_BYTE_SHIFT" "I" (ii 0)) (S_LO : Sta Z Z.heap "java/lang/StringUTF16" "LO_BYTE_SHIFT" "I" (.int (8 : Int32))) (hr0 : 0 ≤ c0.toInt ∧ c0.toInt ≤ 65535) (hU : ((255 : Int32) < c0)) :
    own_M l yy3 jdk_52_method_16_code 6 (some (.array .byte)) ws rr25 Z #[(.ref ca), (ii 0), (.int (1 : Int32))] h0 (Q_cmu_1 Z ca kc c0 h0 n0) := by
  refine own_bd (plainFor_of_name pn_14) fun p e s m below meth c s₁ Bd hx hby hml hown hnm hlk hZ X0 e0 => ?_
  rw [ef_cmu_1 m ca]
  refine bN s₁ (mkF m 1 #[vr ca, vi 0, vi 1, uu, uu, uu] [(.int (1 : Int32))]) (fun _ k => XS.iloadN X0.here hx rfl (hb hby d14_0) rfl k) ?_
  obtain ⟨T21, h21, k21, X21, e21, E21, A21, st21⟩ := newP X0 hx hZ (hw _ (mo 24 rfl)) e0 (g := (mkF m 1 #[vr ca, vi 0, vi 1, uu, uu, uu] [(.int (1 : Int32))])) rfl (hb hby d14_1) rfl (by decide) (cap := 1) (by decide) (by decide) (by decide) (by decide)
  obtain ⟨b21, g21⟩ : ∃ z, z = h0.size := ⟨_, rfl⟩
  rw [← g21] at A21 st21
  have V_b21 : Arv Z h21 b21 k21 .byte (1 : Int32) [(ii 0)] (ii 0) := (Arv.new A21 (by decide)).pad (pad_rep [] (ii 0) 1)
  have g_b21 : n0 ≤ b21 := Nat.le_trans Z0 (Nat.le_of_eq g21.symm)
  have sz_b21 : h0.size ≤ b21 := Nat.le_trans (Keep.refl h0 []).1 (Nat.le_of_eq g21.symm)
  have K21 : Keep h0 h21 [] := Keep.ext (Keep.refl h0 []) E21
  refine bN T21 (mkF m 3 #[vr ca, vi 0, vi 1, uu, uu, uu] [(.ref b21)]) (fun _ k => st21 _ k) ?_
  refine bN T21 (mkF m 4 #[vr ca, vi 0, vi 1, vr b21, uu, uu] []) (fun _ k => XS.astoreN X21.here hx rfl (hb hby d14_3) rfl rfl rfl k) ?_
  refine bN T21 (mkF m 5 #[vr ca, vi 0, vi 1, vr b21, uu, uu] [(.ref ca)]) (fun _ k => XS.aloadN X21.here hx rfl (hb hby d14_4) rfl rfl k) ?_
  refine bN T21 (mkF m 6 #[vr ca, vi 0, vi 1, vr b21, uu, uu] [(ii 0), (.ref ca)]) (fun _ k => XS.iloadN X21.here hx rfl (hb hby d14_5) rfl k) ?_
  refine bN T21 (mkF m 7 #[vr ca, vi 0, vi 1, vr b21, uu, uu] [(.ref b21), (ii 0), (.ref ca)]) (fun _ k => XS.aloadN X21.here hx rfl (hb hby d14_6) rfl rfl k) ?_
  refine bN T21 (mkF m 8 #[vr ca, vi 0, vi 1, vr b21, uu, uu] [(ii 0), (.ref b21), (ii 0), (.ref ca)]) (fun _ k => XS.iconst X21.here hx rfl (hb hby d14_7) k) ?_
  refine bN T21 (mkF m 9 #[vr ca, vi 0, vi 1, vr b21, uu, uu] [(.int (1 : Int32)), (ii 0), (.ref b21), (ii 0), (.ref ca)]) (fun _ k => XS.iloadN X21.here hx rfl (hb hby d14_8) rfl k) ?_
  obtain ⟨_, _, ⟨T22, L22, k22, n22⟩, -, X22, ⟨Lc22, hQ22, l22, y22, z22⟩, st22⟩ := Jvm.LawKit.callS X21 hx (y := yy2) hown (mvT hZ (hw _ (mo 73 rfl))) (mvT hZ (hw _ (mo 74 rfl))) (mvT hZ (hw _ (mo 71 rfl))) (mvT hZ (hw _ (mo 75 rfl))) (by decide) (backOf (W := 0) (cmpk_1 l Z a0 hw [] ca b21 kc k21 c0 h21 n0 (Nat.le_trans Z0 E21.1) (Arv.ext V_ca E21) V_b21 g_b21 (Nat.ne_of_lt (Nat.lt_of_lt_of_le V_ca.lt (Nat.le_of_eq g21.symm)))) hZ (hw _ (mo 75 rfl)) (hw _ (mo 71 rfl)) (by decide) (by decide)) (g := (mkF m 9 #[vr ca, vi 0, vi 1, vr b21, uu, uu] [(.int (1 : Int32)), (ii 0), (.ref b21), (ii 0), (.ref ca)])) rfl (by rw [hml]; rfl) (argsL := [(.ref ca), (ii 0), (.ref b21), (ii 0), (.int (1 : Int32))]) (rest := []) (lenOf pd_0 rfl) rfl (Nat.le_of_eq rfl) (hb hby d14_9) (fun _ _ => ⟨rfl, e21, (by decide : 1 ≤ _), (by decide : 1 ≤ _)⟩)
  dsimp only [Pt.U, Pt.locs, Pt.cells, Pt.slots] at X22 l22 y22 z22 st22 hQ22
  subst l22 y22 z22
  obtain ⟨rfl, N22q, K22, -⟩ := hQ22
  have N22 := Fr.app (Fr.nil n0) N22q
  have KK22 : Keep h0 T22.heap [] := Keep.trans K21 K22 (allS (Or.inr sz_b21) all0)
  refine bN T22 (mkF m 12 #[vr ca, vi 0, vi 1, vr b21, uu, uu] [(.int (own_k1 c0))]) (fun _ k => st22 _ k) ?_
  have u0 := hU
  have hk23 : own_k1 c0 = (0 : Int32) := (if_pos u0)
  rw [hk23]
  refine bN T22 (mkF m 14 #[vr ca, vi 0, vi 1, vr b21, vi 0, uu] []) (fun _ k => XS.istore X22.here hx rfl (hb hby d14_12) rfl rfl k) ?_
  refine bN T22 (mkF m 16 #[vr ca, vi 0, vi 1, vr b21, vi 0, uu] [(ii 0)]) (fun _ k => XS.iload X22.here hx rfl (hb hby d14_14) rfl k) ?_
  refine bN T22 (mkF m 17 #[vr ca, vi 0, vi 1, vr b21, vi 0, uu] [(.int (1 : Int32)), (ii 0)]) (fun _ k => XS.iloadN X22.here hx rfl (hb hby d14_16) rfl k) ?_
  refine bN T22 (mkF m 20 #[vr ca, vi 0, vi 1, vr b21, vi 0, uu] []) (fun _ k => XS.icmpNo X22.here hx rfl (hb hby d14_17) rfl (feq (by decide)).1 k) ?_
  refine bN T22 (mkF m 21 #[vr ca, vi 0, vi 1, vr b21, vi 0, uu] [(.ref ca)]) (fun _ k => XS.aloadN X22.here hx rfl (hb hby d14_20) rfl rfl k) ?_
  refine bN T22 (mkF m 22 #[vr ca, vi 0, vi 1, vr b21, vi 0, uu] [(ii 0), (.ref ca)]) (fun _ k => XS.iloadN X22.here hx rfl (hb hby d14_21) rfl k) ?_
  refine bN T22 (mkF m 23 #[vr ca, vi 0, vi 1, vr b21, vi 0, uu] [(.int (1 : Int32)), (ii 0), (.ref ca)]) (fun _ k => XS.iloadN X22.here hx rfl (hb hby d14_22) rfl k) ?_
  obtain ⟨_, _, ⟨T24, L24, k24, n24⟩, -, X24, ⟨Lc24, hQ24, l24, y24, z24⟩, st24⟩ := Jvm.LawKit.callS X22 hx (y := yy11) hown (mvT hZ (hw _ (mo 80 rfl))) (mvT hZ (hw _ (mo 81 rfl))) (mvT hZ (hw _ (mo 71 rfl))) (mvT hZ (hw _ (mo 82 rfl))) (by decide) (backOf (W := 0) (tby_1 l Z a0 hw [] ca kc c0 T22.heap n0 (Nat.le_trans (Nat.le_trans Z0 E21.1) K22.1) (Arv.keep (Arv.ext V_ca E21) K22 (ninS (Nat.ne_of_lt (Nat.lt_of_lt_of_le V_ca.lt (Nat.le_of_eq g21.symm))) nin0)) (Old.keep (Old.ext O0 E21) K22 (allS g_b21 all0)) S_AD S_HI S_LO) hZ (hw _ (mo 82 rfl)) (hw _ (mo 71 rfl)) (by decide) (by decide)) (g := (mkF m 23 #[vr ca, vi 0, vi 1, vr b21, vi 0, uu] [(.int (1 : Int32)), (ii 0), (.ref ca)])) rfl (by rw [hml]; rfl) (argsL := [(.ref ca), (ii 0), (.int (1 : Int32))]) (rest := []) (lenOf pd_1 rfl) rfl (Nat.le_of_eq rfl) (hb hby d14_23) (fun _ _ => ⟨rfl, rfl, (by decide : 2 ≤ _), (by decide : 3 ≤ _)⟩)
  dsimp only [Pt.U, Pt.locs, Pt.cells, Pt.slots] at X24 l24 y24 z24 st24 hQ24
  subst l24 y24 z24
  obtain ⟨t24, kb24, rfl, N24q, K24, zt24, V24⟩ := hQ24
  have N24 := Fr.app N22 N24q
  have KK24 : Keep h0 T24.heap [] := Keep.trans KK22 K24 all0
  have sz_t24 : h0.size ≤ t24 := Nat.le_trans KK22.1 zt24
  have g_t24 : n0 ≤ t24 := Nat.le_trans Z0 sz_t24
  refine bN T24 (mkF m 26 #[vr ca, vi 0, vi 1, vr b21, vi 0, uu] [(.ref t24)]) (fun _ k => st24 _ k) ?_
  refine bN T24 (mkF m 28 #[vr ca, vi 0, vi 1, vr b21, vi 0, vr t24] []) (fun _ k => XS.astore X24.here hx rfl (hb hby d14_26) rfl rfl rfl k) ?_
  refine bN T24 (mkF m 30 #[vr ca, vi 0, vi 1, vr b21, vi 0, vr t24] [(.ref t24)]) (fun _ k => XS.aload X24.here hx rfl (hb hby d14_28) rfl rfl k) ?_
  refine bN T24 (mkF m 32 #[vr ca, vi 0, vi 1, vr b21, vi 0, vr t24] [(ii 0), (.ref t24)]) (fun _ k => XS.iload X24.here hx rfl (hb hby d14_30) rfl k) ?_
  obtain ⟨_, _, ⟨T25, L25, k25, n25⟩, -, X25, ⟨Lc25, hQ25, l25, y25, z25⟩, st25⟩ := Jvm.LawKit.callS X24 hx (y := yy8) hown (mvT hZ (hw _ (mo 96 rfl))) (mvT hZ (hw _ (mo 97 rfl))) (mvT hZ (hw _ (mo 71 rfl))) (mvT hZ (hw _ (mo 98 rfl))) (by decide) (backOf (W := 0) (get_0 l Z a0 hw [] t24 kb24 (2 : Int32) (wb1 c0) (b0 c0) (b1 c0) T24.heap n0 (Nat.le_trans (Nat.le_trans (Nat.le_trans Z0 E21.1) K22.1) K24.1) (Sta.ext ((Old.keep (Old.keep (Old.ext O0 E21) K22 (allS g_b21 all0)) K24 all0)).2 S_AD) (Sta.ext ((Old.keep (Old.keep (Old.ext O0 E21) K22 (allS g_b21 all0)) K24 all0)).2 S_HI) (Sta.ext ((Old.keep (Old.keep (Old.ext O0 E21) K22 (allS g_b21 all0)) K24 all0)).2 S_LO) V24 (by decide) (by decide) rfl rfl) hZ (hw _ (mo 98 rfl)) (hw _ (mo 71 rfl)) (by decide) (by decide)) (g := (mkF m 32 #[vr ca, vi 0, vi 1, vr b21, vi 0, vr t24] [(ii 0), (.ref t24)])) rfl (by rw [hml]; rfl) (argsL := [(.ref t24), (ii 0)]) (rest := []) (lenOf pd_7 rfl) rfl (Nat.le_of_eq rfl) (hb hby d14_32) (fun _ _ => ⟨rfl, rfl, (by decide : 2 ≤ _), (by decide : 3 ≤ _)⟩)
  dsimp only [Pt.U, Pt.locs, Pt.cells, Pt.slots] at X25 l25 y25 z25 st25 hQ25
  subst l25 y25 z25
  obtain ⟨vq25, N25q, e25⟩ := hQ25
  obtain rfl := vq25.trans (congrArg (fun z => some (Value.int z)) (own_pair hr0))
  have N25 := Fr.app N24 N25q
  refine bN T25 (mkF m 35 #[vr ca, vi 0, vi 1, vr b21, vi 0, vr t24] [(.int c0)]) (fun _ k => st25 _ k) ?_
  refine bN T25 (mkF m 38 #[vr ca, vi 0, vi 1, vr b21, vi 0, vr t24] [(.int (255 : Int32)), (.int c0)]) (fun _ k => XS.sipush X25.here hx rfl (hb hby d14_35) k) ?_
  refine bN T25 (mkF m 54 #[vr ca, vi 0, vi 1, vr b21, vi 0, vr t24] []) (fun _ k => XS.icmpYes X25.here hx rfl (pc0 := 38) (pc' := 54) rfl (hb hby d14_38) rfl (tlt u0).2.2.1 (by decide) (by decide) k) ?_
  refine bN T25 (mkF m 56 #[vr ca, vi 0, vi 1, vr b21, vi 0, vr t24] [(.ref t24)]) (fun _ k => XS.aload X25.here hx rfl (hb hby d14_54) rfl rfl k) ?_
  refine own_ret X25 hlk (v := some (.ref t24)) (nvr Bd.returns) (fun fs hr => retOut X25 hx Bd.returns rfl (Or.inr (Or.inr (Or.inr (Or.inr ⟨rfl, rfl, rfl⟩)))) (hb hby d14_56) hr) ?_ (by decide) (by decide)
  rw [e25]
  exact ⟨_, _, rfl, N25, KK24, sz_t24, V24⟩
theorem ef_cou_1 (m : MethodId) (ba : Addr) : entryFrame m #[(.ref ba), (.int (1 : Int32))] 2 = mkF m 0 #[vr ba, vi 1] [] := rfl
def Q_cou_1 (Z : State) (ba : Addr) (kb : ClassId) (c0 : Int32) (h0 : Heap) (n0 : Nat) (v : Option Value) (h : Heap) (L : List Loc) : Prop := v = some (.int (1 : Int32)) ∧ Fr n0 L ∧ h = h0
theorem cou_1 (l : Launch) (Z : State) (a0 : Array Value) (hw : HW Z a0) (ws : List Jvm.Cond) (ba : Addr) (kb : ClassId) (c0 : Int32) (h0 : Heap) (n0 : Nat) (Z0 : n0 ≤ h0.size) (V_ba : Arv Z h0 ba kb .byte (2 : Int32) (wb1 c0) (ii 0)) :
    own_M l yy4 jdk_52_method_15_code 2 (some .byte) ws rr0 Z #[(.ref ba), (.int (1 : Int32))] h0 (Q_cou_1 Z ba kb c0 h0 n0) := by
  refine own_bd (plainFor_of_name pn_16) fun p e s m below meth c s₁ Bd hx hby hml hown hnm hlk hZ X0 e0 => ?_
  rw [ef_cou_1 m ba]
  refine bN s₁ (mkF m 1 #[vr ba, vi 1] [(.int (1 : Int32))]) (fun _ k => XS.iloadN X0.here hx rfl (hb hby d16_0) rfl k) ?_
  refine bN s₁ (mkF m 2 #[vr ba, vi 1] [(.ref ba), (.int (1 : Int32))]) (fun _ k => XS.aloadN X0.here hx rfl (hb hby d16_1) rfl rfl k) ?_
  obtain ⟨cl21, Ar21, q21, S21, N_21, H21, G21⟩ := id V_ba
  refine bN s₁ (mkF m 3 #[vr ba, vi 1] [(.int (2 : Int32)), (.int (1 : Int32))]) (fun _ k => X0.arraylength hx (by rw [e0]; exact Ar21.1) (State.isArrayOf_alike hZ.alike Ar21.2.1) (g := (mkF m 2 #[vr ba, vi 1] [(.ref ba), (.int (1 : Int32))])) rfl rfl (hb hby d16_2) _ (by rw [len_of S21 N_21]; exact k)) ?_
  refine bN s₁ (mkF m 4 #[vr ba, vi 1] [(.int (-1 : Int32))]) (fun _ k => XS.isub X0.here hx rfl (hb hby d16_3) rfl k) ?_
  refine bN s₁ (mkF m 6 #[vr ba, vi 1] [(.int (31 : Int32)), (.int (-1 : Int32))]) (fun _ k => XS.bipush X0.here hx rfl (hb hby d16_4) k) ?_
  refine bN s₁ (mkF m 7 #[vr ba, vi 1] [(.int (1 : Int32))]) (fun _ k => XS.iushr X0.here hx rfl (hb hby d16_6) rfl k) ?_
  refine bN s₁ (mkF m 8 #[vr ba, vi 1] [(.int (1 : Int32))]) (fun _ k => XS.i2b X0.here hx rfl (hb hby d16_7) rfl k) ?_
  refine own_ret X0 hlk (v := some (.int (1 : Int32))) (nvr Bd.returns) (fun fs hr => retN X0 hx (t := .byte) Bd.returns (by simp) (hb hby d16_8) hr) ?_ (by decide) (by decide)
  rw [e0]
  exact ⟨rfl, (Fr.nil n0), rfl⟩
theorem ef_siu4_1 (m : MethodId) (a ca : Addr) : entryFrame m #[(.ref a), (.ref ca), (ii 0), (.int (1 : Int32)), .null] 6 = mkF m 0 #[vr a, vr ca, vi 0, vi 1, .val .null, uu] [] := rfl
def Q_siu4_1 (Z : State) (a ca : Addr) (kc : ClassId) (cs c0 : Int32) (h0 : Heap) (n0 : Nat) (v : Option Value) (h : Heap) (L : List Loc) : Prop := v = none ∧ Fr n0 L ∧ Keep h0 h [a] ∧ Fld Z h a "java/lang/String" "coder" "B" (.int (1 : Int32)) ∧ ∃ (t : Addr) (kb : ClassId), h0.size ≤ t ∧ Fld Z h a "java/lang/String" "value" "[B" (.ref t) ∧ Arv Z h t kb .byte (2 : Int32) (wb1 c0) (ii 0)
theorem siu4_1 (l : Launch) (Z : State) (a0 : Array Value) (hw : HW Z a0) (ws : List Jvm.Cond) (a ca : Addr) (kc : ClassId) (cs c0 : Int32) (h0 : Heap) (n0 : Nat) (Z0 : n0 ≤ h0.size) (E_a : Exa Z h0 a "java/lang/String") (F_value_a : Fld Z h0 a "java/lang/String" "value" "[B" .null) (F_coder_a : Fld Z h0 a "java/lang/String" "coder" "B" (ii 0)) (g_a : n0 ≤ a) (V_ca : Arv Z h0 ca kc .char (1 : Int32) [(.int c0)] (ii 0)) (S_CS : Sta Z h0 "java/lang/String" "COMPACT_STRINGS" "Z" (.int cs)) (hcs : ¬ cs = (0 : Int32)) (O0 : Old Z n0 h0) (S_AD : Sta Z Z.heap "java/lang/StringUTF16" "$assertionsDisabled" "Z" (.int (1 : Int32))) (S_HI : Sta Z Z.heap "java/lang/StringUTF16" "HI_BYTE_SHIFT" "I" (ii 0)) (S_LO : Sta Z Z.heap "java/lang/StringUTF16" "LO_BYTE_SHIFT" "I" (.int (8 : Int32))) (hr0 : 0 ≤ c0.toInt ∧ c0.toInt ≤ 65535) (hU : ((255 : Int32) < c0)) :
    own_M l yy5 jdk_42_method_149_code 6 none ws rr26 Z #[(.ref a), (.ref ca), (ii 0), (.int (1 : Int32)), .null] h0 (Q_siu4_1 Z a ca kc cs c0 h0 n0) := by
  refine own_bd (plainFor_of_name pn_4) fun p e s m below meth c s₁ Bd hx hby hml hown hnm hlk hZ X0 e0 => ?_
  rw [ef_siu4_1 m a ca]
  refine bN s₁ (mkF m 1 #[vr a, vr ca, vi 0, vi 1, .val .null, uu] [(.ref a)]) (fun _ k => XS.aloadN X0.here hx rfl (hb hby d4_0) rfl rfl k) ?_
  obtain ⟨T21, X21, e21, st21⟩ := initO X0 hx hZ hown (hw _ (mo 20 rfl)) (hw _ (mo 21 rfl)) (hw _ (mo 22 rfl)) e0 (g := (mkF m 1 #[vr a, vr ca, vi 0, vi 1, .val .null, uu] [(.ref a)])) rfl (by rw [hml]; rfl) rfl (hb hby d4_1) (by decide) (W := 0) (Nat.le_of_eq rfl) (by decide)
  refine bN T21 (mkF m 4 #[vr a, vr ca, vi 0, vi 1, .val .null, uu] []) (fun _ k => st21 _ k) ?_
  refine bN T21 (mkF m 5 #[vr a, vr ca, vi 0, vi 1, .val .null, uu] [(.int (1 : Int32))]) (fun _ k => XS.iloadN X21.here hx rfl (hb hby d4_4) rfl k) ?_
  refine bN T21 (mkF m 27 #[vr a, vr ca, vi 0, vi 1, .val .null, uu] []) (fun _ k => XS.ifYes X21.here hx rfl (pc0 := 5) (pc' := 27) rfl (hb hby d4_5) rfl ((if0 _ _).trans (feq (by decide)).2) (by decide) (by decide) k) ?_
  obtain ⟨T22, X22, e22, st22⟩ := getS2 X21 hx hZ hown (host := "") (Or.inl (hw _ (mo 51 rfl))) Via.refl e21 S_CS (g := (mkF m 27 #[vr a, vr ca, vi 0, vi 1, .val .null, uu] [])) rfl (hb hby d4_27)
  refine bN T22 (mkF m 30 #[vr a, vr ca, vi 0, vi 1, .val .null, uu] [(.int cs)]) (fun _ k => st22 _ k) ?_
  refine bN T22 (mkF m 33 #[vr a, vr ca, vi 0, vi 1, .val .null, uu] []) (fun _ k => XS.ifNo X22.here hx rfl (hb hby d4_30) rfl ((if0 _ _).trans (feq hcs).1) k) ?_
  refine bN T22 (mkF m 34 #[vr a, vr ca, vi 0, vi 1, .val .null, uu] [(.ref ca)]) (fun _ k => XS.aloadN X22.here hx rfl (hb hby d4_33) rfl rfl k) ?_
  refine bN T22 (mkF m 35 #[vr a, vr ca, vi 0, vi 1, .val .null, uu] [(ii 0), (.ref ca)]) (fun _ k => XS.iloadN X22.here hx rfl (hb hby d4_34) rfl k) ?_
  refine bN T22 (mkF m 36 #[vr a, vr ca, vi 0, vi 1, .val .null, uu] [(.int (1 : Int32)), (ii 0), (.ref ca)]) (fun _ k => XS.iloadN X22.here hx rfl (hb hby d4_35) rfl k) ?_
  obtain ⟨_, _, ⟨T23, L23, k23, n23⟩, -, X23, ⟨Lc23, hQ23, l23, y23, z23⟩, st23⟩ := Jvm.LawKit.callS X22 hx (y := yy3) hown (mvT hZ (hw _ (mo 69 rfl))) (mvT hZ (hw _ (mo 70 rfl))) (mvT hZ (hw _ (mo 71 rfl))) (mvT hZ (hw _ (mo 72 rfl))) (by decide) (backOf (W := 0) (cmu_1 l Z a0 hw [] ca kc c0 h0 n0 Z0 V_ca O0 S_AD S_HI S_LO hr0 hU) hZ (hw _ (mo 72 rfl)) (hw _ (mo 71 rfl)) (by decide) (by decide)) (g := (mkF m 36 #[vr a, vr ca, vi 0, vi 1, .val .null, uu] [(.int (1 : Int32)), (ii 0), (.ref ca)])) rfl (by rw [hml]; rfl) (argsL := [(.ref ca), (ii 0), (.int (1 : Int32))]) (rest := []) (lenOf pd_1 rfl) rfl (Nat.le_of_eq rfl) (hb hby d4_36) (fun _ _ => ⟨rfl, e22, (by decide : 2 ≤ _), (by decide : 3 ≤ _)⟩)
  dsimp only [Pt.U, Pt.locs, Pt.cells, Pt.slots] at X23 l23 y23 z23 st23 hQ23
  subst l23 y23 z23
  obtain ⟨t23, kb23, rfl, N23q, K23, zt23, V23⟩ := hQ23
  have N23 := Fr.app (Fr.nil n0) N23q
  have KK23 : Keep h0 T23.heap [a] := Keep.trans (Keep.refl h0 [a]) K23 all0
  have sz_t23 : h0.size ≤ t23 := Nat.le_trans (Keep.refl h0 [a]).1 zt23
  have g_t23 : n0 ≤ t23 := Nat.le_trans Z0 sz_t23
  refine bN T23 (mkF m 39 #[vr a, vr ca, vi 0, vi 1, .val .null, uu] [(.ref t23)]) (fun _ k => st23 _ k) ?_
  refine bN T23 (mkF m 41 #[vr a, vr ca, vi 0, vi 1, .val .null, vr t23] []) (fun _ k => XS.astore X23.here hx rfl (hb hby d4_39) rfl rfl rfl k) ?_
  refine bN T23 (mkF m 42 #[vr a, vr ca, vi 0, vi 1, .val .null, vr t23] [(.ref a)]) (fun _ k => XS.aloadN X23.here hx rfl (hb hby d4_41) rfl rfl k) ?_
  refine bN T23 (mkF m 44 #[vr a, vr ca, vi 0, vi 1, .val .null, vr t23] [(.ref t23), (.ref a)]) (fun _ k => XS.aload X23.here hx rfl (hb hby d4_42) rfl rfl k) ?_
  refine bN T23 (mkF m 45 #[vr a, vr ca, vi 0, vi 1, .val .null, vr t23] [(.int (1 : Int32)), (.ref t23), (.ref a)]) (fun _ k => XS.iloadN X23.here hx rfl (hb hby d4_44) rfl k) ?_
  obtain ⟨_, _, ⟨T24, L24, k24, n24⟩, -, X24, ⟨Lc24, hQ24, l24, y24, z24⟩, st24⟩ := Jvm.LawKit.callS X23 hx (y := yy4) hown (mvT hZ (hw _ (mo 76 rfl))) (mvT hZ (hw _ (mo 77 rfl))) (mvT hZ (hw _ (mo 71 rfl))) (mvT hZ (hw _ (mo 78 rfl))) (by decide) (backOf (W := 1) (cou_1 l Z a0 hw [] t23 kb23 c0 T23.heap n0 (Nat.le_trans Z0 K23.1) V23) hZ (hw _ (mo 78 rfl)) (hw _ (mo 71 rfl)) (by decide) (by decide)) (g := (mkF m 45 #[vr a, vr ca, vi 0, vi 1, .val .null, vr t23] [(.int (1 : Int32)), (.ref t23), (.ref a)])) rfl (by rw [hml]; rfl) (argsL := [(.ref t23), (.int (1 : Int32))]) (rest := [(.ref a)]) (lenOf pd_2 rfl) rfl (Nat.le_of_eq rfl) (hb hby d4_45) (fun _ _ => ⟨rfl, rfl, (by decide : 2 ≤ _), (by decide : 3 ≤ _)⟩)
  dsimp only [Pt.U, Pt.locs, Pt.cells, Pt.slots] at X24 l24 y24 z24 st24 hQ24
  subst l24 y24 z24
  obtain ⟨rfl, N24q, e24⟩ := hQ24
  have N24 := Fr.app N23 N24q
  refine bN T24 (mkF m 48 #[vr a, vr ca, vi 0, vi 1, .val .null, vr t23] [(.int (1 : Int32)), (.ref a)]) (fun _ k => st24 _ k) ?_
  obtain ⟨T25, h25, X25, e25, W25, st25⟩ := putFN X24 hx hZ hown (hw _ (mo 30 rfl)) Via.refl e24 (Fld.keep F_coder_a K23 nin0) (Exa.keep E_a K23) (Or.inr ⟨(hw _ (mo 26 rfl)), rfl, hnm⟩) (hw _ (mo 11 rfl)) (ty := .byte) (v' := (.int (1 : Int32))) (by decide) rfl (by decide) (g := (mkF m 48 #[vr a, vr ca, vi 0, vi 1, .val .null, vr t23] [(.int (1 : Int32)), (.ref a)])) rfl rfl (hb hby d4_48)
  have Fw25 : Fld Z h25 a "java/lang/String" "coder" "B" (.int (1 : Int32)) := Fld.same W25 (Fld.keep F_coder_a K23 nin0)
  have K25 : Keep h0 h25 [a] := Keep.wr KK23 W25 (Or.inl (mo 0 rfl))
  have N25 := Fr.snoc X25 N24 g_a
  refine bN T25 (mkF m 51 #[vr a, vr ca, vi 0, vi 1, .val .null, vr t23] []) (fun _ k => st25 _ k) ?_
  refine bN T25 (mkF m 52 #[vr a, vr ca, vi 0, vi 1, .val .null, vr t23] [(.ref a)]) (fun _ k => XS.aloadN X25.here hx rfl (hb hby d4_51) rfl rfl k) ?_
  refine bN T25 (mkF m 54 #[vr a, vr ca, vi 0, vi 1, .val .null, vr t23] [(.ref t23), (.ref a)]) (fun _ k => XS.aload X25.here hx rfl (hb hby d4_52) rfl rfl k) ?_
  obtain ⟨T26, h26, X26, e26, W26, st26⟩ := putF X25 hx hZ hown (host := "") (Or.inl (hw _ (mo 29 rfl))) Via.refl e25 (Fld.other W25 (Fld.keep F_value_a K23 nin0) (Or.inr (slot_ne (a0 := a0) (Or.inr (hw _ (mo 25 rfl))) (Or.inr (hw _ (mo 26 rfl))) (by decide) (t := (.array .byte)) (t' := .byte) (by decide) (by decide)))) (Exa.wr W25 (Exa.keep E_a K23)) (Or.inr ⟨(hw _ (mo 25 rfl)), rfl, hnm⟩) (hw _ (mo 11 rfl)) (ty := (.array .byte)) (by decide) rfl rfl (g := (mkF m 54 #[vr a, vr ca, vi 0, vi 1, .val .null, vr t23] [(.ref t23), (.ref a)])) rfl rfl (hb hby d4_54)
  have Fw26 : Fld Z h26 a "java/lang/String" "value" "[B" (.ref t23) := Fld.same W26 (Fld.other W25 (Fld.keep F_value_a K23 nin0) (Or.inr (slot_ne (a0 := a0) (Or.inr (hw _ (mo 25 rfl))) (Or.inr (hw _ (mo 26 rfl))) (by decide) (t := (.array .byte)) (t' := .byte) (by decide) (by decide))))
  have K26 : Keep h0 h26 [a] := Keep.wr K25 W26 (Or.inl (mo 0 rfl))
  have N26 := Fr.snoc X26 N25 g_a
  refine bN T26 (mkF m 57 #[vr a, vr ca, vi 0, vi 1, .val .null, vr t23] []) (fun _ k => st26 _ k) ?_
  refine own_ret X26 hlk (v := none) (fun _ => rfl) (fun fs hr => X26.returnOut hx Bd.returns (hb hby d4_57) hr) ?_ (by decide) (by decide)
  rw [e26]
  exact ⟨rfl, N26, K26, (Fld.other W26 Fw25 (Or.inr (slot_ne (a0 := a0) (Or.inr (hw _ (mo 26 rfl))) (Or.inr (hw _ (mo 25 rfl))) (by decide) (t := .byte) (t' := (.array .byte)) (by decide) (by decide)))), _, _, sz_t23, Fw26, (Arv.other (Arv.other V23 W25 (Ne.symm (Nat.ne_of_lt (Nat.lt_of_lt_of_le (E_a).lt zt23)))) W26 (Ne.symm (Nat.ne_of_lt (Nat.lt_of_lt_of_le (E_a).lt zt23))))⟩
theorem ef_siu1_1 (m : MethodId) (a ca : Addr) : entryFrame m #[(.ref a), (.ref ca)] 2 = mkF m 0 #[vr a, vr ca] [] := rfl
def Q_siu1_1 (Z : State) (a ca : Addr) (kc : ClassId) (cs c0 : Int32) (h0 : Heap) (n0 : Nat) (v : Option Value) (h : Heap) (L : List Loc) : Prop := v = none ∧ Fr n0 L ∧ Keep h0 h [a] ∧ Fld Z h a "java/lang/String" "coder" "B" (.int (1 : Int32)) ∧ ∃ (t : Addr) (kb : ClassId), h0.size ≤ t ∧ Fld Z h a "java/lang/String" "value" "[B" (.ref t) ∧ Arv Z h t kb .byte (2 : Int32) (wb1 c0) (ii 0)
theorem siu1_1 (l : Launch) (Z : State) (a0 : Array Value) (hw : HW Z a0) (ws : List Jvm.Cond) (a ca : Addr) (kc : ClassId) (cs c0 : Int32) (h0 : Heap) (n0 : Nat) (Z0 : n0 ≤ h0.size) (E_a : Exa Z h0 a "java/lang/String") (F_value_a : Fld Z h0 a "java/lang/String" "value" "[B" .null) (F_coder_a : Fld Z h0 a "java/lang/String" "coder" "B" (ii 0)) (g_a : n0 ≤ a) (V_ca : Arv Z h0 ca kc .char (1 : Int32) [(.int c0)] (ii 0)) (S_CS : Sta Z h0 "java/lang/String" "COMPACT_STRINGS" "Z" (.int cs)) (hcs : ¬ cs = (0 : Int32)) (O0 : Old Z n0 h0) (S_AD : Sta Z Z.heap "java/lang/StringUTF16" "$assertionsDisabled" "Z" (.int (1 : Int32))) (S_HI : Sta Z Z.heap "java/lang/StringUTF16" "HI_BYTE_SHIFT" "I" (ii 0)) (S_LO : Sta Z Z.heap "java/lang/StringUTF16" "LO_BYTE_SHIFT" "I" (.int (8 : Int32))) (hr0 : 0 ≤ c0.toInt ∧ c0.toInt ≤ 65535) (hU : ((255 : Int32) < c0)) :
    own_M l yy6 jdk_42_method_3_code 2 none ws rr27 Z #[(.ref a), (.ref ca)] h0 (Q_siu1_1 Z a ca kc cs c0 h0 n0) := by
  refine own_bd (plainFor_of_name pn_3) fun p e s m below meth c s₁ Bd hx hby hml hown hnm hlk hZ X0 e0 => ?_
  rw [ef_siu1_1 m a ca]
  refine bN s₁ (mkF m 1 #[vr a, vr ca] [(.ref a)]) (fun _ k => XS.aloadN X0.here hx rfl (hb hby d3_0) rfl rfl k) ?_
  refine bN s₁ (mkF m 2 #[vr a, vr ca] [(.ref ca), (.ref a)]) (fun _ k => XS.aloadN X0.here hx rfl (hb hby d3_1) rfl rfl k) ?_
  refine bN s₁ (mkF m 3 #[vr a, vr ca] [(ii 0), (.ref ca), (.ref a)]) (fun _ k => XS.iconst X0.here hx rfl (hb hby d3_2) k) ?_
  refine bN s₁ (mkF m 4 #[vr a, vr ca] [(.ref ca), (ii 0), (.ref ca), (.ref a)]) (fun _ k => XS.aloadN X0.here hx rfl (hb hby d3_3) rfl rfl k) ?_
  obtain ⟨cl21, Ar21, q21, S21, N_21, H21, G21⟩ := id V_ca
  refine bN s₁ (mkF m 5 #[vr a, vr ca] [(.int (1 : Int32)), (ii 0), (.ref ca), (.ref a)]) (fun _ k => X0.arraylength hx (by rw [e0]; exact Ar21.1) (State.isArrayOf_alike hZ.alike Ar21.2.1) (g := (mkF m 4 #[vr a, vr ca] [(.ref ca), (ii 0), (.ref ca), (.ref a)])) rfl rfl (hb hby d3_4) _ (by rw [len_of S21 N_21]; exact k)) ?_
  refine bN s₁ (mkF m 6 #[vr a, vr ca] [.null, (.int (1 : Int32)), (ii 0), (.ref ca), (.ref a)]) (fun _ k => XS.aconstNull X0.here hx rfl (hb hby d3_5) k) ?_
  obtain ⟨_, _, ⟨T22, L22, k22, n22⟩, -, X22, ⟨Lc22, hQ22, l22, y22, z22⟩, st22⟩ := X0.specialBack hx (y := yy5) rfl hown (mvT hZ (hw _ (mo 16 rfl))) (mvT hZ (hw _ (mo 17 rfl))) (mvT hZ (hw _ (mo 19 rfl))) (by decide) (backOf (W := 0) (siu4_1 l Z a0 hw [] a ca kc cs c0 h0 n0 Z0 E_a F_value_a F_coder_a g_a V_ca S_CS hcs O0 S_AD S_HI S_LO hr0 hU) hZ (hw _ (mo 19 rfl)) (hw _ (mo 12 rfl)) (by decide) (by decide)) (g := (mkF m 6 #[vr a, vr ca] [.null, (.int (1 : Int32)), (ii 0), (.ref ca), (.ref a)])) rfl (by rw [hml]; rfl) (Steps.refl _) (a := a) (argsL := [(.ref ca), (ii 0), (.int (1 : Int32)), .null]) (rest := []) (lenOf pd_3 rfl) rfl (Nat.le_of_eq rfl) (hb hby d3_6) (fun _ _ => ⟨rfl, e0, (by decide : 2 ≤ _), (by decide : 3 ≤ _)⟩)
  dsimp only [Pt.U, Pt.locs, Pt.cells, Pt.slots] at X22 l22 y22 z22 st22 hQ22
  subst l22 y22 z22
  obtain ⟨rfl, N22q, K22, Fc22, t22, kb22, zt22, Fv22, V22⟩ := hQ22
  have N22 := Fr.app (Fr.nil n0) N22q
  have KK22 : Keep h0 T22.heap [a] := Keep.trans (Keep.refl h0 [a]) K22 (allS (Or.inl (mo 0 rfl)) all0)
  have sz_t22 : h0.size ≤ t22 := zt22
  refine bN T22 (mkF m 9 #[vr a, vr ca] []) (fun _ k => st22.trans k) ?_
  refine own_ret X22 hlk (v := none) (fun _ => rfl) (fun fs hr => X22.returnOut hx Bd.returns (hb hby d3_9) hr) ?_ (by decide) (by decide)
  exact ⟨rfl, N22, KK22, Fc22, _, _, sz_t22, Fv22, V22⟩
theorem ef_tby_2 (m : MethodId) (ca : Addr) : entryFrame m #[(.ref ca), (ii 0), (.int (2 : Int32))] 5 = mkF m 0 #[vr ca, vi 0, vi 2, uu, uu] [] := rfl
def Q_tby_2 (Z : State) (ca : Addr) (kc : ClassId) (c0 c1 : Int32) (h0 : Heap) (n0 : Nat) (v : Option Value) (h : Heap) (L : List Loc) : Prop := ∃ (t : Addr) (kb : ClassId), v = some (.ref t) ∧ Fr n0 L ∧ Keep h0 h [] ∧ h0.size ≤ t ∧ Arv Z h t kb .byte (4 : Int32) (wb2 c0 c1) (ii 0)
theorem tby_2 (l : Launch) (Z : State) (a0 : Array Value) (hw : HW Z a0) (ws : List Jvm.Cond) (ca : Addr) (kc : ClassId) (c0 c1 : Int32) (h0 : Heap) (n0 : Nat) (Z0 : n0 ≤ h0.size) (V_ca : Arv Z h0 ca kc .char (2 : Int32) [(.int c0), (.int c1)] (ii 0)) (O0 : Old Z n0 h0) (S_AD : Sta Z Z.heap "java/lang/StringUTF16" "$assertionsDisabled" "Z" (.int (1 : Int32))) (S_HI : Sta Z Z.heap "java/lang/StringUTF16" "HI_BYTE_SHIFT" "I" (ii 0)) (S_LO : Sta Z Z.heap "java/lang/StringUTF16" "LO_BYTE_SHIFT" "I" (.int (8 : Int32))) :
    own_M l yy11 jdk_52_method_14_code 5 (some (.array .byte)) ws rr28 Z #[(.ref ca), (ii 0), (.int (2 : Int32))] h0 (Q_tby_2 Z ca kc c0 c1 h0 n0) := by
  refine own_bd (plainFor_of_name pn_17) fun p e s m below meth c s₁ Bd hx hby hml hown hnm hlk hZ X0 e0 => ?_
  rw [ef_tby_2 m ca]
  refine bN s₁ (mkF m 1 #[vr ca, vi 0, vi 2, uu, uu] [(.int (2 : Int32))]) (fun _ k => XS.iloadN X0.here hx rfl (hb hby d17_0) rfl k) ?_
  obtain ⟨_, _, ⟨T21, L21, k21, n21⟩, -, X21, ⟨Lc21, hQ21, l21, y21, z21⟩, st21⟩ := Jvm.LawKit.callS X0 hx (y := yy10) hown (mvT hZ (hw _ (mo 83 rfl))) (mvT hZ (hw _ (mo 84 rfl))) (mvT hZ (hw _ (mo 71 rfl))) (mvT hZ (hw _ (mo 85 rfl))) (by decide) (backOf (W := 0) (nbf_2 l Z a0 hw []   h0 n0 Z0 ) hZ (hw _ (mo 85 rfl)) (hw _ (mo 71 rfl)) (by decide) (by decide)) (g := (mkF m 1 #[vr ca, vi 0, vi 2, uu, uu] [(.int (2 : Int32))])) rfl (by rw [hml]; rfl) (argsL := [(.int (2 : Int32))]) (rest := []) (lenOf pd_5 rfl) rfl (Nat.le_of_eq rfl) (hb hby d17_1) (fun _ _ => ⟨rfl, e0, (by decide : 1 ≤ _), (by decide : 4 ≤ _)⟩)
  dsimp only [Pt.U, Pt.locs, Pt.cells, Pt.slots] at X21 l21 y21 z21 st21 hQ21
  subst l21 y21 z21
  obtain ⟨t21, kb21, rfl, N21q, K21, zt21, V21⟩ := hQ21
  have N21 := Fr.app (Fr.nil n0) N21q
  have KK21 : Keep h0 T21.heap [] := Keep.trans (Keep.refl h0 []) K21 all0
  have sz_t21 : h0.size ≤ t21 := Nat.le_trans (Keep.refl h0 []).1 zt21
  have g_t21 : n0 ≤ t21 := Nat.le_trans Z0 sz_t21
  refine bN T21 (mkF m 4 #[vr ca, vi 0, vi 2, uu, uu] [(.ref t21)]) (fun _ k => st21 _ k) ?_
  refine bN T21 (mkF m 5 #[vr ca, vi 0, vi 2, vr t21, uu] []) (fun _ k => XS.astoreN X21.here hx rfl (hb hby d17_4) rfl rfl rfl k) ?_
  refine bN T21 (mkF m 6 #[vr ca, vi 0, vi 2, vr t21, uu] [(ii 0)]) (fun _ k => XS.iconst X21.here hx rfl (hb hby d17_5) k) ?_
  refine bN T21 (mkF m 8 #[vr ca, vi 0, vi 2, vr t21, vi 0] []) (fun _ k => XS.istore X21.here hx rfl (hb hby d17_6) rfl rfl k) ?_
  refine bN T21 (mkF m 10 #[vr ca, vi 0, vi 2, vr t21, vi 0] [(ii 0)]) (fun _ k => XS.iload X21.here hx rfl (hb hby d17_8) rfl k) ?_
  refine bN T21 (mkF m 11 #[vr ca, vi 0, vi 2, vr t21, vi 0] [(.int (2 : Int32)), (ii 0)]) (fun _ k => XS.iloadN X21.here hx rfl (hb hby d17_10) rfl k) ?_
  refine bN T21 (mkF m 14 #[vr ca, vi 0, vi 2, vr t21, vi 0] []) (fun _ k => XS.icmpNo X21.here hx rfl (hb hby d17_11) rfl (tlt (by decide)).2.1 k) ?_
  refine bN T21 (mkF m 15 #[vr ca, vi 0, vi 2, vr t21, vi 0] [(.ref t21)]) (fun _ k => XS.aloadN X21.here hx rfl (hb hby d17_14) rfl rfl k) ?_
  refine bN T21 (mkF m 17 #[vr ca, vi 0, vi 2, vr t21, vi 0] [(ii 0), (.ref t21)]) (fun _ k => XS.iload X21.here hx rfl (hb hby d17_15) rfl k) ?_
  refine bN T21 (mkF m 18 #[vr ca, vi 0, vi 2, vr t21, vi 0] [(.ref ca), (ii 0), (.ref t21)]) (fun _ k => XS.aloadN X21.here hx rfl (hb hby d17_17) rfl rfl k) ?_
  refine bN T21 (mkF m 19 #[vr ca, vi 0, vi 2, vr t21, vi 0] [(ii 0), (.ref ca), (ii 0), (.ref t21)]) (fun _ k => XS.iloadN X21.here hx rfl (hb hby d17_18) rfl k) ?_
  obtain ⟨cl22, Ar22, q22, S22, N_22, H22, G22⟩ := id (Arv.keep V_ca K21 nin0)
  have hin22 : ¬ ((0 : Int32) < 0 ∨ cl22.slots.size ≤ ((0 : Int32)).toNatClampNeg) := inb_of S22 ⟨by decide, by decide⟩
  refine bN T21 (mkF m 20 #[vr ca, vi 0, vi 2, vr t21, vi 0] [(.int c0), (ii 0), (.ref t21)]) (fun _ k => X21.caload hx (j := (0 : Int32)) (v := (.int c0)) Ar22.1 (State.isArrayOf_alike hZ.alike Ar22.2.1) Ar22.2.2 hin22 (Has.at H22 hin22 rfl) (g := (mkF m 19 #[vr ca, vi 0, vi 2, vr t21, vi 0] [(ii 0), (.ref ca), (ii 0), (.ref t21)])) rfl rfl (hb hby d17_19) _ k) ?_
  obtain ⟨_, _, ⟨T23, L23, k23, n23⟩, -, X23, ⟨Lc23, hQ23, l23, y23, z23⟩, st23⟩ := Jvm.LawKit.callS X21 hx (y := yy7) hown (mvT hZ (hw _ (mo 90 rfl))) (mvT hZ (hw _ (mo 91 rfl))) (mvT hZ (hw _ (mo 71 rfl))) (mvT hZ (hw _ (mo 92 rfl))) (by decide) (backOf (W := 0) (put_0 l Z a0 hw [] t21 c0 kb21 (4 : Int32) [(ii 0), (ii 0), (ii 0), (ii 0)] T21.heap n0 (Nat.le_trans Z0 K21.1) (Sta.ext ((Old.keep O0 K21 all0)).2 S_AD) (Sta.ext ((Old.keep O0 K21 all0)).2 S_HI) (Sta.ext ((Old.keep O0 K21 all0)).2 S_LO) V21 (by decide) (by decide) (Nat.le_of_ble_eq_true rfl) (Nat.le_of_ble_eq_true rfl) g_t21) hZ (hw _ (mo 92 rfl)) (hw _ (mo 71 rfl)) (by decide) (by decide)) (g := (mkF m 20 #[vr ca, vi 0, vi 2, vr t21, vi 0] [(.int c0), (ii 0), (.ref t21)])) rfl (by rw [hml]; rfl) (argsL := [(.ref t21), (ii 0), (.int c0)]) (rest := []) (lenOf pd_6 rfl) rfl (Nat.le_of_eq rfl) (hb hby d17_20) (fun _ _ => ⟨rfl, rfl, (by decide : 1 ≤ _), (by decide : 4 ≤ _)⟩)
  dsimp only [Pt.U, Pt.locs, Pt.cells, Pt.slots] at X23 l23 y23 z23 st23 hQ23
  subst l23 y23 z23
  obtain ⟨rfl, N23q, K23, Vq23⟩ := hQ23
  have N23 := Fr.app N21 N23q
  have KK23 : Keep h0 T23.heap [] := Keep.trans KK21 K23 (allS (Or.inr sz_t21) all0)
  have Vp23 : Arv Z T23.heap t21 kb21 .byte (4 : Int32) [(.int (b0 c0)), (.int (b1 c0)), (ii 0), (ii 0)] (ii 0) := Vq23
  refine bN T23 (mkF m 23 #[vr ca, vi 0, vi 2, vr t21, vi 0] []) (fun _ k => st23 _ k) ?_
  refine bN T23 (mkF m 26 #[vr ca, vi 1, vi 2, vr t21, vi 0] []) (fun _ k => XS.iinc X23.here hx rfl (hb hby d17_23) rfl rfl k) ?_
  refine bN T23 (mkF m 29 #[vr ca, vi 1, vi 2, vr t21, vi 1] []) (fun _ k => XS.iinc X23.here hx rfl (hb hby d17_26) rfl rfl k) ?_
  refine bN T23 (mkF m 8 #[vr ca, vi 1, vi 2, vr t21, vi 1] []) (fun _ k => XS.goto X23.here hx rfl (pc0 := 29) (pc' := 8) rfl (hb hby d17_29) (by decide) (by decide) k) ?_
  refine bN T23 (mkF m 10 #[vr ca, vi 1, vi 2, vr t21, vi 1] [(.int (1 : Int32))]) (fun _ k => XS.iload X23.here hx rfl (hb hby d17_8) rfl k) ?_
  refine bN T23 (mkF m 11 #[vr ca, vi 1, vi 2, vr t21, vi 1] [(.int (2 : Int32)), (.int (1 : Int32))]) (fun _ k => XS.iloadN X23.here hx rfl (hb hby d17_10) rfl k) ?_
  refine bN T23 (mkF m 14 #[vr ca, vi 1, vi 2, vr t21, vi 1] []) (fun _ k => XS.icmpNo X23.here hx rfl (hb hby d17_11) rfl (tlt (by decide)).2.1 k) ?_
  refine bN T23 (mkF m 15 #[vr ca, vi 1, vi 2, vr t21, vi 1] [(.ref t21)]) (fun _ k => XS.aloadN X23.here hx rfl (hb hby d17_14) rfl rfl k) ?_
  refine bN T23 (mkF m 17 #[vr ca, vi 1, vi 2, vr t21, vi 1] [(.int (1 : Int32)), (.ref t21)]) (fun _ k => XS.iload X23.here hx rfl (hb hby d17_15) rfl k) ?_
  refine bN T23 (mkF m 18 #[vr ca, vi 1, vi 2, vr t21, vi 1] [(.ref ca), (.int (1 : Int32)), (.ref t21)]) (fun _ k => XS.aloadN X23.here hx rfl (hb hby d17_17) rfl rfl k) ?_
  refine bN T23 (mkF m 19 #[vr ca, vi 1, vi 2, vr t21, vi 1] [(.int (1 : Int32)), (.ref ca), (.int (1 : Int32)), (.ref t21)]) (fun _ k => XS.iloadN X23.here hx rfl (hb hby d17_18) rfl k) ?_
  obtain ⟨cl24, Ar24, q24, S24, N_24, H24, G24⟩ := id (Arv.keep (Arv.keep V_ca K21 nin0) K23 (ninS (Nat.ne_of_lt (Nat.lt_of_lt_of_le (V_ca).lt zt21)) nin0))
  have hin24 : ¬ ((1 : Int32) < 0 ∨ cl24.slots.size ≤ ((1 : Int32)).toNatClampNeg) := inb_of S24 ⟨by decide, by decide⟩
  refine bN T23 (mkF m 20 #[vr ca, vi 1, vi 2, vr t21, vi 1] [(.int c1), (.int (1 : Int32)), (.ref t21)]) (fun _ k => X23.caload hx (j := (1 : Int32)) (v := (.int c1)) Ar24.1 (State.isArrayOf_alike hZ.alike Ar24.2.1) Ar24.2.2 hin24 (Has.at H24 hin24 rfl) (g := (mkF m 19 #[vr ca, vi 1, vi 2, vr t21, vi 1] [(.int (1 : Int32)), (.ref ca), (.int (1 : Int32)), (.ref t21)])) rfl rfl (hb hby d17_19) _ k) ?_
  obtain ⟨_, _, ⟨T25, L25, k25, n25⟩, -, X25, ⟨Lc25, hQ25, l25, y25, z25⟩, st25⟩ := Jvm.LawKit.callS X23 hx (y := yy7) hown (mvT hZ (hw _ (mo 90 rfl))) (mvT hZ (hw _ (mo 91 rfl))) (mvT hZ (hw _ (mo 71 rfl))) (mvT hZ (hw _ (mo 92 rfl))) (by decide) (backOf (W := 0) (put_1 l Z a0 hw [] t21 c1 kb21 (4 : Int32) [(.int (b0 c0)), (.int (b1 c0)), (ii 0), (ii 0)] T23.heap n0 (Nat.le_trans (Nat.le_trans Z0 K21.1) K23.1) (Sta.ext ((Old.keep (Old.keep O0 K21 all0) K23 (allS g_t21 all0))).2 S_AD) (Sta.ext ((Old.keep (Old.keep O0 K21 all0) K23 (allS g_t21 all0))).2 S_HI) (Sta.ext ((Old.keep (Old.keep O0 K21 all0) K23 (allS g_t21 all0))).2 S_LO) Vp23 (by decide) (by decide) (Nat.le_of_ble_eq_true rfl) (Nat.le_of_ble_eq_true rfl) g_t21) hZ (hw _ (mo 92 rfl)) (hw _ (mo 71 rfl)) (by decide) (by decide)) (g := (mkF m 20 #[vr ca, vi 1, vi 2, vr t21, vi 1] [(.int c1), (.int (1 : Int32)), (.ref t21)])) rfl (by rw [hml]; rfl) (argsL := [(.ref t21), (.int (1 : Int32)), (.int c1)]) (rest := []) (lenOf pd_6 rfl) rfl (Nat.le_of_eq rfl) (hb hby d17_20) (fun _ _ => ⟨rfl, rfl, (by decide : 1 ≤ _), (by decide : 4 ≤ _)⟩)
  dsimp only [Pt.U, Pt.locs, Pt.cells, Pt.slots] at X25 l25 y25 z25 st25 hQ25
  subst l25 y25 z25
  obtain ⟨rfl, N25q, K25, Vq25⟩ := hQ25
  have N25 := Fr.app N23 N25q
  have KK25 : Keep h0 T25.heap [] := Keep.trans KK23 K25 (allS (Or.inr sz_t21) all0)
  have Vp25 : Arv Z T25.heap t21 kb21 .byte (4 : Int32) (wb2 c0 c1) (ii 0) := Vq25
  refine bN T25 (mkF m 23 #[vr ca, vi 1, vi 2, vr t21, vi 1] []) (fun _ k => st25 _ k) ?_
  refine bN T25 (mkF m 26 #[vr ca, vi 2, vi 2, vr t21, vi 1] []) (fun _ k => XS.iinc X25.here hx rfl (hb hby d17_23) rfl rfl k) ?_
  refine bN T25 (mkF m 29 #[vr ca, vi 2, vi 2, vr t21, vi 2] []) (fun _ k => XS.iinc X25.here hx rfl (hb hby d17_26) rfl rfl k) ?_
  refine bN T25 (mkF m 8 #[vr ca, vi 2, vi 2, vr t21, vi 2] []) (fun _ k => XS.goto X25.here hx rfl (pc0 := 29) (pc' := 8) rfl (hb hby d17_29) (by decide) (by decide) k) ?_
  refine bN T25 (mkF m 10 #[vr ca, vi 2, vi 2, vr t21, vi 2] [(.int (2 : Int32))]) (fun _ k => XS.iload X25.here hx rfl (hb hby d17_8) rfl k) ?_
  refine bN T25 (mkF m 11 #[vr ca, vi 2, vi 2, vr t21, vi 2] [(.int (2 : Int32)), (.int (2 : Int32))]) (fun _ k => XS.iloadN X25.here hx rfl (hb hby d17_10) rfl k) ?_
  refine bN T25 (mkF m 32 #[vr ca, vi 2, vi 2, vr t21, vi 2] []) (fun _ k => XS.icmpYes X25.here hx rfl (pc0 := 11) (pc' := 32) rfl (hb hby d17_11) rfl (flt (by decide)).2.1 (by decide) (by decide) k) ?_
  refine bN T25 (mkF m 33 #[vr ca, vi 2, vi 2, vr t21, vi 2] [(.ref t21)]) (fun _ k => XS.aloadN X25.here hx rfl (hb hby d17_32) rfl rfl k) ?_
  refine own_ret X25 hlk (v := some (.ref t21)) (nvr Bd.returns) (fun fs hr => retOut X25 hx Bd.returns rfl (Or.inr (Or.inr (Or.inr (Or.inr ⟨rfl, rfl, rfl⟩)))) (hb hby d17_33) hr) ?_ (by decide) (by decide)
  exact ⟨_, _, rfl, N25, KK25, sz_t21, Vp25⟩
theorem ef_cmu_2 (m : MethodId) (ca : Addr) : entryFrame m #[(.ref ca), (ii 0), (.int (2 : Int32))] 6 = mkF m 0 #[vr ca, vi 0, vi 2, uu, uu, uu] [] := rfl
def Q_cmu_2 (Z : State) (ca : Addr) (kc : ClassId) (c0 c1 : Int32) (h0 : Heap) (n0 : Nat) (v : Option Value) (h : Heap) (L : List Loc) : Prop := ∃ (t : Addr) (kb : ClassId), v = some (.ref t) ∧ Fr n0 L ∧ Keep h0 h [] ∧ h0.size ≤ t ∧ Arv Z h t kb .byte (4 : Int32) (wb2 c0 c1) (ii 0)
theorem cmu_2 (l : Launch) (Z : State) (a0 : Array Value) (hw : HW Z a0) (ws : List Jvm.Cond) (ca : Addr) (kc : ClassId) (c0 c1 : Int32) (h0 : Heap) (n0 : Nat) (Z0 : n0 ≤ h0.size) (V_ca : Arv Z h0 ca kc .char (2 : Int32) [(.int c0), (.int c1)] (ii 0)) (O0 : Old Z n0 h0) (S_AD : Sta Z Z.heap "java/lang/StringUTF16" "$assertionsDisabled" "Z" (.int (1 : Int32))) (S_HI : Sta Z Z.heap "java/lang/StringUTF16" "HI_BYTE_SHIFT" "I" (ii 0)) (S_LO : Sta Z Z.heap "java/lang/StringUTF16" "LO_BYTE_SHIFT" "I" (.int (8 : Int32))) (hr0 : 0 ≤ c0.toInt ∧ c0.toInt ≤ 65535) (hr1 : 0 ≤ c1.toInt ∧ c1.toInt ≤ 65535) (hU : ((255 : Int32) < c0) ∨ (¬ (255 : Int32) < c0 ∧ (255 : Int32) < c1)) :
    own_M l yy3 jdk_52_method_16_code 6 (some (.array .byte)) ws rr29 Z #[(.ref ca), (ii 0), (.int (2 : Int32))] h0 (Q_cmu_2 Z ca kc c0 c1 h0 n0) := by
  refine own_bd (plainFor_of_name pn_14) fun p e s m below meth c s₁ Bd hx hby hml hown hnm hlk hZ X0 e0 => ?_
  rw [ef_cmu_2 m ca]
  refine bN s₁ (mkF m 1 #[vr ca, vi 0, vi 2, uu, uu, uu] [(.int (2 : Int32))]) (fun _ k => XS.iloadN X0.here hx rfl (hb hby d14_0) rfl k) ?_
  obtain ⟨T21, h21, k21, X21, e21, E21, A21, st21⟩ := newP X0 hx hZ (hw _ (mo 24 rfl)) e0 (g := (mkF m 1 #[vr ca, vi 0, vi 2, uu, uu, uu] [(.int (2 : Int32))])) rfl (hb hby d14_1) rfl (by decide) (cap := 2) (by decide) (by decide) (by decide) (by decide)
  obtain ⟨b21, g21⟩ : ∃ z, z = h0.size := ⟨_, rfl⟩
  rw [← g21] at A21 st21
  have V_b21 : Arv Z h21 b21 k21 .byte (2 : Int32) [(ii 0), (ii 0)] (ii 0) := (Arv.new A21 (by decide)).pad (pad_rep [] (ii 0) 2)
  have g_b21 : n0 ≤ b21 := Nat.le_trans Z0 (Nat.le_of_eq g21.symm)
  have sz_b21 : h0.size ≤ b21 := Nat.le_trans (Keep.refl h0 []).1 (Nat.le_of_eq g21.symm)
  have K21 : Keep h0 h21 [] := Keep.ext (Keep.refl h0 []) E21
  refine bN T21 (mkF m 3 #[vr ca, vi 0, vi 2, uu, uu, uu] [(.ref b21)]) (fun _ k => st21 _ k) ?_
  refine bN T21 (mkF m 4 #[vr ca, vi 0, vi 2, vr b21, uu, uu] []) (fun _ k => XS.astoreN X21.here hx rfl (hb hby d14_3) rfl rfl rfl k) ?_
  refine bN T21 (mkF m 5 #[vr ca, vi 0, vi 2, vr b21, uu, uu] [(.ref ca)]) (fun _ k => XS.aloadN X21.here hx rfl (hb hby d14_4) rfl rfl k) ?_
  refine bN T21 (mkF m 6 #[vr ca, vi 0, vi 2, vr b21, uu, uu] [(ii 0), (.ref ca)]) (fun _ k => XS.iloadN X21.here hx rfl (hb hby d14_5) rfl k) ?_
  refine bN T21 (mkF m 7 #[vr ca, vi 0, vi 2, vr b21, uu, uu] [(.ref b21), (ii 0), (.ref ca)]) (fun _ k => XS.aloadN X21.here hx rfl (hb hby d14_6) rfl rfl k) ?_
  refine bN T21 (mkF m 8 #[vr ca, vi 0, vi 2, vr b21, uu, uu] [(ii 0), (.ref b21), (ii 0), (.ref ca)]) (fun _ k => XS.iconst X21.here hx rfl (hb hby d14_7) k) ?_
  refine bN T21 (mkF m 9 #[vr ca, vi 0, vi 2, vr b21, uu, uu] [(.int (2 : Int32)), (ii 0), (.ref b21), (ii 0), (.ref ca)]) (fun _ k => XS.iloadN X21.here hx rfl (hb hby d14_8) rfl k) ?_
  obtain ⟨_, _, ⟨T22, L22, k22, n22⟩, -, X22, ⟨Lc22, hQ22, l22, y22, z22⟩, st22⟩ := Jvm.LawKit.callS X21 hx (y := yy2) hown (mvT hZ (hw _ (mo 73 rfl))) (mvT hZ (hw _ (mo 74 rfl))) (mvT hZ (hw _ (mo 71 rfl))) (mvT hZ (hw _ (mo 75 rfl))) (by decide) (backOf (W := 0) (cmpk_2 l Z a0 hw [] ca b21 kc k21 c0 c1 h21 n0 (Nat.le_trans Z0 E21.1) (Arv.ext V_ca E21) V_b21 g_b21 (Nat.ne_of_lt (Nat.lt_of_lt_of_le V_ca.lt (Nat.le_of_eq g21.symm)))) hZ (hw _ (mo 75 rfl)) (hw _ (mo 71 rfl)) (by decide) (by decide)) (g := (mkF m 9 #[vr ca, vi 0, vi 2, vr b21, uu, uu] [(.int (2 : Int32)), (ii 0), (.ref b21), (ii 0), (.ref ca)])) rfl (by rw [hml]; rfl) (argsL := [(.ref ca), (ii 0), (.ref b21), (ii 0), (.int (2 : Int32))]) (rest := []) (lenOf pd_0 rfl) rfl (Nat.le_of_eq rfl) (hb hby d14_9) (fun _ _ => ⟨rfl, e21, (by decide : 1 ≤ _), (by decide : 2 ≤ _)⟩)
  dsimp only [Pt.U, Pt.locs, Pt.cells, Pt.slots] at X22 l22 y22 z22 st22 hQ22
  subst l22 y22 z22
  obtain ⟨rfl, N22q, K22, -⟩ := hQ22
  have N22 := Fr.app (Fr.nil n0) N22q
  have KK22 : Keep h0 T22.heap [] := Keep.trans K21 K22 (allS (Or.inr sz_b21) all0)
  refine bN T22 (mkF m 12 #[vr ca, vi 0, vi 2, vr b21, uu, uu] [(.int (own_k2 c0 c1))]) (fun _ k => st22 _ k) ?_
  rcases hU with u0 | ⟨u0, u1⟩
  · skip
    have hk23 : own_k2 c0 c1 = (0 : Int32) := (if_pos u0)
    rw [hk23]
    refine bN T22 (mkF m 14 #[vr ca, vi 0, vi 2, vr b21, vi 0, uu] []) (fun _ k => XS.istore X22.here hx rfl (hb hby d14_12) rfl rfl k) ?_
    refine bN T22 (mkF m 16 #[vr ca, vi 0, vi 2, vr b21, vi 0, uu] [(ii 0)]) (fun _ k => XS.iload X22.here hx rfl (hb hby d14_14) rfl k) ?_
    refine bN T22 (mkF m 17 #[vr ca, vi 0, vi 2, vr b21, vi 0, uu] [(.int (2 : Int32)), (ii 0)]) (fun _ k => XS.iloadN X22.here hx rfl (hb hby d14_16) rfl k) ?_
    refine bN T22 (mkF m 20 #[vr ca, vi 0, vi 2, vr b21, vi 0, uu] []) (fun _ k => XS.icmpNo X22.here hx rfl (hb hby d14_17) rfl (feq (by decide)).1 k) ?_
    refine bN T22 (mkF m 21 #[vr ca, vi 0, vi 2, vr b21, vi 0, uu] [(.ref ca)]) (fun _ k => XS.aloadN X22.here hx rfl (hb hby d14_20) rfl rfl k) ?_
    refine bN T22 (mkF m 22 #[vr ca, vi 0, vi 2, vr b21, vi 0, uu] [(ii 0), (.ref ca)]) (fun _ k => XS.iloadN X22.here hx rfl (hb hby d14_21) rfl k) ?_
    refine bN T22 (mkF m 23 #[vr ca, vi 0, vi 2, vr b21, vi 0, uu] [(.int (2 : Int32)), (ii 0), (.ref ca)]) (fun _ k => XS.iloadN X22.here hx rfl (hb hby d14_22) rfl k) ?_
    obtain ⟨_, _, ⟨T24, L24, k24, n24⟩, -, X24, ⟨Lc24, hQ24, l24, y24, z24⟩, st24⟩ := Jvm.LawKit.callS X22 hx (y := yy11) hown (mvT hZ (hw _ (mo 80 rfl))) (mvT hZ (hw _ (mo 81 rfl))) (mvT hZ (hw _ (mo 71 rfl))) (mvT hZ (hw _ (mo 82 rfl))) (by decide) (backOf (W := 0) (tby_2 l Z a0 hw [] ca kc c0 c1 T22.heap n0 (Nat.le_trans (Nat.le_trans Z0 E21.1) K22.1) (Arv.keep (Arv.ext V_ca E21) K22 (ninS (Nat.ne_of_lt (Nat.lt_of_lt_of_le V_ca.lt (Nat.le_of_eq g21.symm))) nin0)) (Old.keep (Old.ext O0 E21) K22 (allS g_b21 all0)) S_AD S_HI S_LO) hZ (hw _ (mo 82 rfl)) (hw _ (mo 71 rfl)) (by decide) (by decide)) (g := (mkF m 23 #[vr ca, vi 0, vi 2, vr b21, vi 0, uu] [(.int (2 : Int32)), (ii 0), (.ref ca)])) rfl (by rw [hml]; rfl) (argsL := [(.ref ca), (ii 0), (.int (2 : Int32))]) (rest := []) (lenOf pd_1 rfl) rfl (Nat.le_of_eq rfl) (hb hby d14_23) (fun _ _ => ⟨rfl, rfl, (by decide : 2 ≤ _), (by decide : 6 ≤ _)⟩)
    dsimp only [Pt.U, Pt.locs, Pt.cells, Pt.slots] at X24 l24 y24 z24 st24 hQ24
    subst l24 y24 z24
    obtain ⟨t24, kb24, rfl, N24q, K24, zt24, V24⟩ := hQ24
    have N24 := Fr.app N22 N24q
    have KK24 : Keep h0 T24.heap [] := Keep.trans KK22 K24 all0
    have sz_t24 : h0.size ≤ t24 := Nat.le_trans KK22.1 zt24
    have g_t24 : n0 ≤ t24 := Nat.le_trans Z0 sz_t24
    refine bN T24 (mkF m 26 #[vr ca, vi 0, vi 2, vr b21, vi 0, uu] [(.ref t24)]) (fun _ k => st24 _ k) ?_
    refine bN T24 (mkF m 28 #[vr ca, vi 0, vi 2, vr b21, vi 0, vr t24] []) (fun _ k => XS.astore X24.here hx rfl (hb hby d14_26) rfl rfl rfl k) ?_
    refine bN T24 (mkF m 30 #[vr ca, vi 0, vi 2, vr b21, vi 0, vr t24] [(.ref t24)]) (fun _ k => XS.aload X24.here hx rfl (hb hby d14_28) rfl rfl k) ?_
    refine bN T24 (mkF m 32 #[vr ca, vi 0, vi 2, vr b21, vi 0, vr t24] [(ii 0), (.ref t24)]) (fun _ k => XS.iload X24.here hx rfl (hb hby d14_30) rfl k) ?_
    obtain ⟨_, _, ⟨T25, L25, k25, n25⟩, -, X25, ⟨Lc25, hQ25, l25, y25, z25⟩, st25⟩ := Jvm.LawKit.callS X24 hx (y := yy8) hown (mvT hZ (hw _ (mo 96 rfl))) (mvT hZ (hw _ (mo 97 rfl))) (mvT hZ (hw _ (mo 71 rfl))) (mvT hZ (hw _ (mo 98 rfl))) (by decide) (backOf (W := 0) (get_0 l Z a0 hw [] t24 kb24 (4 : Int32) (wb2 c0 c1) (b0 c0) (b1 c0) T24.heap n0 (Nat.le_trans (Nat.le_trans (Nat.le_trans Z0 E21.1) K22.1) K24.1) (Sta.ext ((Old.keep (Old.keep (Old.ext O0 E21) K22 (allS g_b21 all0)) K24 all0)).2 S_AD) (Sta.ext ((Old.keep (Old.keep (Old.ext O0 E21) K22 (allS g_b21 all0)) K24 all0)).2 S_HI) (Sta.ext ((Old.keep (Old.keep (Old.ext O0 E21) K22 (allS g_b21 all0)) K24 all0)).2 S_LO) V24 (by decide) (by decide) rfl rfl) hZ (hw _ (mo 98 rfl)) (hw _ (mo 71 rfl)) (by decide) (by decide)) (g := (mkF m 32 #[vr ca, vi 0, vi 2, vr b21, vi 0, vr t24] [(ii 0), (.ref t24)])) rfl (by rw [hml]; rfl) (argsL := [(.ref t24), (ii 0)]) (rest := []) (lenOf pd_7 rfl) rfl (Nat.le_of_eq rfl) (hb hby d14_32) (fun _ _ => ⟨rfl, rfl, (by decide : 2 ≤ _), (by decide : 6 ≤ _)⟩)
    dsimp only [Pt.U, Pt.locs, Pt.cells, Pt.slots] at X25 l25 y25 z25 st25 hQ25
    subst l25 y25 z25
    obtain ⟨vq25, N25q, e25⟩ := hQ25
    obtain rfl := vq25.trans (congrArg (fun z => some (Value.int z)) (own_pair hr0))
    have N25 := Fr.app N24 N25q
    refine bN T25 (mkF m 35 #[vr ca, vi 0, vi 2, vr b21, vi 0, vr t24] [(.int c0)]) (fun _ k => st25 _ k) ?_
    refine bN T25 (mkF m 38 #[vr ca, vi 0, vi 2, vr b21, vi 0, vr t24] [(.int (255 : Int32)), (.int c0)]) (fun _ k => XS.sipush X25.here hx rfl (hb hby d14_35) k) ?_
    refine bN T25 (mkF m 54 #[vr ca, vi 0, vi 2, vr b21, vi 0, vr t24] []) (fun _ k => XS.icmpYes X25.here hx rfl (pc0 := 38) (pc' := 54) rfl (hb hby d14_38) rfl (tlt u0).2.2.1 (by decide) (by decide) k) ?_
    refine bN T25 (mkF m 56 #[vr ca, vi 0, vi 2, vr b21, vi 0, vr t24] [(.ref t24)]) (fun _ k => XS.aload X25.here hx rfl (hb hby d14_54) rfl rfl k) ?_
    refine own_ret X25 hlk (v := some (.ref t24)) (nvr Bd.returns) (fun fs hr => retOut X25 hx Bd.returns rfl (Or.inr (Or.inr (Or.inr (Or.inr ⟨rfl, rfl, rfl⟩)))) (hb hby d14_56) hr) ?_ (by decide) (by decide)
    rw [e25]
    exact ⟨_, _, rfl, N25, KK24, sz_t24, V24⟩
  · skip
    have hk26 : own_k2 c0 c1 = (1 : Int32) := ((if_neg u0).trans (if_pos u1))
    rw [hk26]
    refine bN T22 (mkF m 14 #[vr ca, vi 0, vi 2, vr b21, vi 1, uu] []) (fun _ k => XS.istore X22.here hx rfl (hb hby d14_12) rfl rfl k) ?_
    refine bN T22 (mkF m 16 #[vr ca, vi 0, vi 2, vr b21, vi 1, uu] [(.int (1 : Int32))]) (fun _ k => XS.iload X22.here hx rfl (hb hby d14_14) rfl k) ?_
    refine bN T22 (mkF m 17 #[vr ca, vi 0, vi 2, vr b21, vi 1, uu] [(.int (2 : Int32)), (.int (1 : Int32))]) (fun _ k => XS.iloadN X22.here hx rfl (hb hby d14_16) rfl k) ?_
    refine bN T22 (mkF m 20 #[vr ca, vi 0, vi 2, vr b21, vi 1, uu] []) (fun _ k => XS.icmpNo X22.here hx rfl (hb hby d14_17) rfl (feq (by decide)).1 k) ?_
    refine bN T22 (mkF m 21 #[vr ca, vi 0, vi 2, vr b21, vi 1, uu] [(.ref ca)]) (fun _ k => XS.aloadN X22.here hx rfl (hb hby d14_20) rfl rfl k) ?_
    refine bN T22 (mkF m 22 #[vr ca, vi 0, vi 2, vr b21, vi 1, uu] [(ii 0), (.ref ca)]) (fun _ k => XS.iloadN X22.here hx rfl (hb hby d14_21) rfl k) ?_
    refine bN T22 (mkF m 23 #[vr ca, vi 0, vi 2, vr b21, vi 1, uu] [(.int (2 : Int32)), (ii 0), (.ref ca)]) (fun _ k => XS.iloadN X22.here hx rfl (hb hby d14_22) rfl k) ?_
    obtain ⟨_, _, ⟨T27, L27, k27, n27⟩, -, X27, ⟨Lc27, hQ27, l27, y27, z27⟩, st27⟩ := Jvm.LawKit.callS X22 hx (y := yy11) hown (mvT hZ (hw _ (mo 80 rfl))) (mvT hZ (hw _ (mo 81 rfl))) (mvT hZ (hw _ (mo 71 rfl))) (mvT hZ (hw _ (mo 82 rfl))) (by decide) (backOf (W := 0) (tby_2 l Z a0 hw [] ca kc c0 c1 T22.heap n0 (Nat.le_trans (Nat.le_trans Z0 E21.1) K22.1) (Arv.keep (Arv.ext V_ca E21) K22 (ninS (Nat.ne_of_lt (Nat.lt_of_lt_of_le V_ca.lt (Nat.le_of_eq g21.symm))) nin0)) (Old.keep (Old.ext O0 E21) K22 (allS g_b21 all0)) S_AD S_HI S_LO) hZ (hw _ (mo 82 rfl)) (hw _ (mo 71 rfl)) (by decide) (by decide)) (g := (mkF m 23 #[vr ca, vi 0, vi 2, vr b21, vi 1, uu] [(.int (2 : Int32)), (ii 0), (.ref ca)])) rfl (by rw [hml]; rfl) (argsL := [(.ref ca), (ii 0), (.int (2 : Int32))]) (rest := []) (lenOf pd_1 rfl) rfl (Nat.le_of_eq rfl) (hb hby d14_23) (fun _ _ => ⟨rfl, rfl, (by decide : 2 ≤ _), (by decide : 6 ≤ _)⟩)
    dsimp only [Pt.U, Pt.locs, Pt.cells, Pt.slots] at X27 l27 y27 z27 st27 hQ27
    subst l27 y27 z27
    obtain ⟨t27, kb27, rfl, N27q, K27, zt27, V27⟩ := hQ27
    have N27 := Fr.app N22 N27q
    have KK27 : Keep h0 T27.heap [] := Keep.trans KK22 K27 all0
    have sz_t27 : h0.size ≤ t27 := Nat.le_trans KK22.1 zt27
    have g_t27 : n0 ≤ t27 := Nat.le_trans Z0 sz_t27
    refine bN T27 (mkF m 26 #[vr ca, vi 0, vi 2, vr b21, vi 1, uu] [(.ref t27)]) (fun _ k => st27 _ k) ?_
    refine bN T27 (mkF m 28 #[vr ca, vi 0, vi 2, vr b21, vi 1, vr t27] []) (fun _ k => XS.astore X27.here hx rfl (hb hby d14_26) rfl rfl rfl k) ?_
    refine bN T27 (mkF m 30 #[vr ca, vi 0, vi 2, vr b21, vi 1, vr t27] [(.ref t27)]) (fun _ k => XS.aload X27.here hx rfl (hb hby d14_28) rfl rfl k) ?_
    refine bN T27 (mkF m 32 #[vr ca, vi 0, vi 2, vr b21, vi 1, vr t27] [(.int (1 : Int32)), (.ref t27)]) (fun _ k => XS.iload X27.here hx rfl (hb hby d14_30) rfl k) ?_
    obtain ⟨_, _, ⟨T28, L28, k28, n28⟩, -, X28, ⟨Lc28, hQ28, l28, y28, z28⟩, st28⟩ := Jvm.LawKit.callS X27 hx (y := yy8) hown (mvT hZ (hw _ (mo 96 rfl))) (mvT hZ (hw _ (mo 97 rfl))) (mvT hZ (hw _ (mo 71 rfl))) (mvT hZ (hw _ (mo 98 rfl))) (by decide) (backOf (W := 0) (get_1 l Z a0 hw [] t27 kb27 (4 : Int32) (wb2 c0 c1) (b0 c1) (b1 c1) T27.heap n0 (Nat.le_trans (Nat.le_trans (Nat.le_trans Z0 E21.1) K22.1) K27.1) (Sta.ext ((Old.keep (Old.keep (Old.ext O0 E21) K22 (allS g_b21 all0)) K27 all0)).2 S_AD) (Sta.ext ((Old.keep (Old.keep (Old.ext O0 E21) K22 (allS g_b21 all0)) K27 all0)).2 S_HI) (Sta.ext ((Old.keep (Old.keep (Old.ext O0 E21) K22 (allS g_b21 all0)) K27 all0)).2 S_LO) V27 (by decide) (by decide) rfl rfl) hZ (hw _ (mo 98 rfl)) (hw _ (mo 71 rfl)) (by decide) (by decide)) (g := (mkF m 32 #[vr ca, vi 0, vi 2, vr b21, vi 1, vr t27] [(.int (1 : Int32)), (.ref t27)])) rfl (by rw [hml]; rfl) (argsL := [(.ref t27), (.int (1 : Int32))]) (rest := []) (lenOf pd_7 rfl) rfl (Nat.le_of_eq rfl) (hb hby d14_32) (fun _ _ => ⟨rfl, rfl, (by decide : 2 ≤ _), (by decide : 6 ≤ _)⟩)
    dsimp only [Pt.U, Pt.locs, Pt.cells, Pt.slots] at X28 l28 y28 z28 st28 hQ28
    subst l28 y28 z28
    obtain ⟨vq28, N28q, e28⟩ := hQ28
    obtain rfl := vq28.trans (congrArg (fun z => some (Value.int z)) (own_pair hr1))
    have N28 := Fr.app N27 N28q
    refine bN T28 (mkF m 35 #[vr ca, vi 0, vi 2, vr b21, vi 1, vr t27] [(.int c1)]) (fun _ k => st28 _ k) ?_
    refine bN T28 (mkF m 38 #[vr ca, vi 0, vi 2, vr b21, vi 1, vr t27] [(.int (255 : Int32)), (.int c1)]) (fun _ k => XS.sipush X28.here hx rfl (hb hby d14_35) k) ?_
    refine bN T28 (mkF m 54 #[vr ca, vi 0, vi 2, vr b21, vi 1, vr t27] []) (fun _ k => XS.icmpYes X28.here hx rfl (pc0 := 38) (pc' := 54) rfl (hb hby d14_38) rfl (tlt u1).2.2.1 (by decide) (by decide) k) ?_
    refine bN T28 (mkF m 56 #[vr ca, vi 0, vi 2, vr b21, vi 1, vr t27] [(.ref t27)]) (fun _ k => XS.aload X28.here hx rfl (hb hby d14_54) rfl rfl k) ?_
    refine own_ret X28 hlk (v := some (.ref t27)) (nvr Bd.returns) (fun fs hr => retOut X28 hx Bd.returns rfl (Or.inr (Or.inr (Or.inr (Or.inr ⟨rfl, rfl, rfl⟩)))) (hb hby d14_56) hr) ?_ (by decide) (by decide)
    rw [e28]
    exact ⟨_, _, rfl, N28, KK27, sz_t27, V27⟩
theorem ef_cou_2 (m : MethodId) (ba : Addr) : entryFrame m #[(.ref ba), (.int (2 : Int32))] 2 = mkF m 0 #[vr ba, vi 2] [] := rfl
def Q_cou_2 (Z : State) (ba : Addr) (kb : ClassId) (c0 c1 : Int32) (h0 : Heap) (n0 : Nat) (v : Option Value) (h : Heap) (L : List Loc) : Prop := v = some (.int (1 : Int32)) ∧ Fr n0 L ∧ h = h0
theorem cou_2 (l : Launch) (Z : State) (a0 : Array Value) (hw : HW Z a0) (ws : List Jvm.Cond) (ba : Addr) (kb : ClassId) (c0 c1 : Int32) (h0 : Heap) (n0 : Nat) (Z0 : n0 ≤ h0.size) (V_ba : Arv Z h0 ba kb .byte (4 : Int32) (wb2 c0 c1) (ii 0)) :
    own_M l yy4 jdk_52_method_15_code 2 (some .byte) ws rr0 Z #[(.ref ba), (.int (2 : Int32))] h0 (Q_cou_2 Z ba kb c0 c1 h0 n0) := by
  refine own_bd (plainFor_of_name pn_16) fun p e s m below meth c s₁ Bd hx hby hml hown hnm hlk hZ X0 e0 => ?_
  rw [ef_cou_2 m ba]
  refine bN s₁ (mkF m 1 #[vr ba, vi 2] [(.int (2 : Int32))]) (fun _ k => XS.iloadN X0.here hx rfl (hb hby d16_0) rfl k) ?_
  refine bN s₁ (mkF m 2 #[vr ba, vi 2] [(.ref ba), (.int (2 : Int32))]) (fun _ k => XS.aloadN X0.here hx rfl (hb hby d16_1) rfl rfl k) ?_
  obtain ⟨cl21, Ar21, q21, S21, N_21, H21, G21⟩ := id V_ba
  refine bN s₁ (mkF m 3 #[vr ba, vi 2] [(.int (4 : Int32)), (.int (2 : Int32))]) (fun _ k => X0.arraylength hx (by rw [e0]; exact Ar21.1) (State.isArrayOf_alike hZ.alike Ar21.2.1) (g := (mkF m 2 #[vr ba, vi 2] [(.ref ba), (.int (2 : Int32))])) rfl rfl (hb hby d16_2) _ (by rw [len_of S21 N_21]; exact k)) ?_
  refine bN s₁ (mkF m 4 #[vr ba, vi 2] [(.int (-2 : Int32))]) (fun _ k => XS.isub X0.here hx rfl (hb hby d16_3) rfl k) ?_
  refine bN s₁ (mkF m 6 #[vr ba, vi 2] [(.int (31 : Int32)), (.int (-2 : Int32))]) (fun _ k => XS.bipush X0.here hx rfl (hb hby d16_4) k) ?_
  refine bN s₁ (mkF m 7 #[vr ba, vi 2] [(.int (1 : Int32))]) (fun _ k => XS.iushr X0.here hx rfl (hb hby d16_6) rfl k) ?_
  refine bN s₁ (mkF m 8 #[vr ba, vi 2] [(.int (1 : Int32))]) (fun _ k => XS.i2b X0.here hx rfl (hb hby d16_7) rfl k) ?_
  refine own_ret X0 hlk (v := some (.int (1 : Int32))) (nvr Bd.returns) (fun fs hr => retN X0 hx (t := .byte) Bd.returns (by simp) (hb hby d16_8) hr) ?_ (by decide) (by decide)
  rw [e0]
  exact ⟨rfl, (Fr.nil n0), rfl⟩
theorem ef_siu4_2 (m : MethodId) (a ca : Addr) : entryFrame m #[(.ref a), (.ref ca), (ii 0), (.int (2 : Int32)), .null] 6 = mkF m 0 #[vr a, vr ca, vi 0, vi 2, .val .null, uu] [] := rfl
def Q_siu4_2 (Z : State) (a ca : Addr) (kc : ClassId) (cs c0 c1 : Int32) (h0 : Heap) (n0 : Nat) (v : Option Value) (h : Heap) (L : List Loc) : Prop := v = none ∧ Fr n0 L ∧ Keep h0 h [a] ∧ Fld Z h a "java/lang/String" "coder" "B" (.int (1 : Int32)) ∧ ∃ (t : Addr) (kb : ClassId), h0.size ≤ t ∧ Fld Z h a "java/lang/String" "value" "[B" (.ref t) ∧ Arv Z h t kb .byte (4 : Int32) (wb2 c0 c1) (ii 0)
theorem siu4_2 (l : Launch) (Z : State) (a0 : Array Value) (hw : HW Z a0) (ws : List Jvm.Cond) (a ca : Addr) (kc : ClassId) (cs c0 c1 : Int32) (h0 : Heap) (n0 : Nat) (Z0 : n0 ≤ h0.size) (E_a : Exa Z h0 a "java/lang/String") (F_value_a : Fld Z h0 a "java/lang/String" "value" "[B" .null) (F_coder_a : Fld Z h0 a "java/lang/String" "coder" "B" (ii 0)) (g_a : n0 ≤ a) (V_ca : Arv Z h0 ca kc .char (2 : Int32) [(.int c0), (.int c1)] (ii 0)) (S_CS : Sta Z h0 "java/lang/String" "COMPACT_STRINGS" "Z" (.int cs)) (hcs : ¬ cs = (0 : Int32)) (O0 : Old Z n0 h0) (S_AD : Sta Z Z.heap "java/lang/StringUTF16" "$assertionsDisabled" "Z" (.int (1 : Int32))) (S_HI : Sta Z Z.heap "java/lang/StringUTF16" "HI_BYTE_SHIFT" "I" (ii 0)) (S_LO : Sta Z Z.heap "java/lang/StringUTF16" "LO_BYTE_SHIFT" "I" (.int (8 : Int32))) (hr0 : 0 ≤ c0.toInt ∧ c0.toInt ≤ 65535) (hr1 : 0 ≤ c1.toInt ∧ c1.toInt ≤ 65535) (hU : ((255 : Int32) < c0) ∨ (¬ (255 : Int32) < c0 ∧ (255 : Int32) < c1)) :
    own_M l yy5 jdk_42_method_149_code 6 none ws rr30 Z #[(.ref a), (.ref ca), (ii 0), (.int (2 : Int32)), .null] h0 (Q_siu4_2 Z a ca kc cs c0 c1 h0 n0) := by
  refine own_bd (plainFor_of_name pn_4) fun p e s m below meth c s₁ Bd hx hby hml hown hnm hlk hZ X0 e0 => ?_
  rw [ef_siu4_2 m a ca]
  refine bN s₁ (mkF m 1 #[vr a, vr ca, vi 0, vi 2, .val .null, uu] [(.ref a)]) (fun _ k => XS.aloadN X0.here hx rfl (hb hby d4_0) rfl rfl k) ?_
  obtain ⟨T21, X21, e21, st21⟩ := initO X0 hx hZ hown (hw _ (mo 20 rfl)) (hw _ (mo 21 rfl)) (hw _ (mo 22 rfl)) e0 (g := (mkF m 1 #[vr a, vr ca, vi 0, vi 2, .val .null, uu] [(.ref a)])) rfl (by rw [hml]; rfl) rfl (hb hby d4_1) (by decide) (W := 0) (Nat.le_of_eq rfl) (by decide)
  refine bN T21 (mkF m 4 #[vr a, vr ca, vi 0, vi 2, .val .null, uu] []) (fun _ k => st21 _ k) ?_
  refine bN T21 (mkF m 5 #[vr a, vr ca, vi 0, vi 2, .val .null, uu] [(.int (2 : Int32))]) (fun _ k => XS.iloadN X21.here hx rfl (hb hby d4_4) rfl k) ?_
  refine bN T21 (mkF m 27 #[vr a, vr ca, vi 0, vi 2, .val .null, uu] []) (fun _ k => XS.ifYes X21.here hx rfl (pc0 := 5) (pc' := 27) rfl (hb hby d4_5) rfl ((if0 _ _).trans (feq (by decide)).2) (by decide) (by decide) k) ?_
  obtain ⟨T22, X22, e22, st22⟩ := getS2 X21 hx hZ hown (host := "") (Or.inl (hw _ (mo 51 rfl))) Via.refl e21 S_CS (g := (mkF m 27 #[vr a, vr ca, vi 0, vi 2, .val .null, uu] [])) rfl (hb hby d4_27)
  refine bN T22 (mkF m 30 #[vr a, vr ca, vi 0, vi 2, .val .null, uu] [(.int cs)]) (fun _ k => st22 _ k) ?_
  refine bN T22 (mkF m 33 #[vr a, vr ca, vi 0, vi 2, .val .null, uu] []) (fun _ k => XS.ifNo X22.here hx rfl (hb hby d4_30) rfl ((if0 _ _).trans (feq hcs).1) k) ?_
  refine bN T22 (mkF m 34 #[vr a, vr ca, vi 0, vi 2, .val .null, uu] [(.ref ca)]) (fun _ k => XS.aloadN X22.here hx rfl (hb hby d4_33) rfl rfl k) ?_
  refine bN T22 (mkF m 35 #[vr a, vr ca, vi 0, vi 2, .val .null, uu] [(ii 0), (.ref ca)]) (fun _ k => XS.iloadN X22.here hx rfl (hb hby d4_34) rfl k) ?_
  refine bN T22 (mkF m 36 #[vr a, vr ca, vi 0, vi 2, .val .null, uu] [(.int (2 : Int32)), (ii 0), (.ref ca)]) (fun _ k => XS.iloadN X22.here hx rfl (hb hby d4_35) rfl k) ?_
  obtain ⟨_, _, ⟨T23, L23, k23, n23⟩, -, X23, ⟨Lc23, hQ23, l23, y23, z23⟩, st23⟩ := Jvm.LawKit.callS X22 hx (y := yy3) hown (mvT hZ (hw _ (mo 69 rfl))) (mvT hZ (hw _ (mo 70 rfl))) (mvT hZ (hw _ (mo 71 rfl))) (mvT hZ (hw _ (mo 72 rfl))) (by decide) (backOf (W := 0) (cmu_2 l Z a0 hw [] ca kc c0 c1 h0 n0 Z0 V_ca O0 S_AD S_HI S_LO hr0 hr1 hU) hZ (hw _ (mo 72 rfl)) (hw _ (mo 71 rfl)) (by decide) (by decide)) (g := (mkF m 36 #[vr a, vr ca, vi 0, vi 2, .val .null, uu] [(.int (2 : Int32)), (ii 0), (.ref ca)])) rfl (by rw [hml]; rfl) (argsL := [(.ref ca), (ii 0), (.int (2 : Int32))]) (rest := []) (lenOf pd_1 rfl) rfl (Nat.le_of_eq rfl) (hb hby d4_36) (fun _ _ => ⟨rfl, e22, (by decide : 2 ≤ _), (by decide : 6 ≤ _)⟩)
  dsimp only [Pt.U, Pt.locs, Pt.cells, Pt.slots] at X23 l23 y23 z23 st23 hQ23
  subst l23 y23 z23
  obtain ⟨t23, kb23, rfl, N23q, K23, zt23, V23⟩ := hQ23
  have N23 := Fr.app (Fr.nil n0) N23q
  have KK23 : Keep h0 T23.heap [a] := Keep.trans (Keep.refl h0 [a]) K23 all0
  have sz_t23 : h0.size ≤ t23 := Nat.le_trans (Keep.refl h0 [a]).1 zt23
  have g_t23 : n0 ≤ t23 := Nat.le_trans Z0 sz_t23
  refine bN T23 (mkF m 39 #[vr a, vr ca, vi 0, vi 2, .val .null, uu] [(.ref t23)]) (fun _ k => st23 _ k) ?_
  refine bN T23 (mkF m 41 #[vr a, vr ca, vi 0, vi 2, .val .null, vr t23] []) (fun _ k => XS.astore X23.here hx rfl (hb hby d4_39) rfl rfl rfl k) ?_
  refine bN T23 (mkF m 42 #[vr a, vr ca, vi 0, vi 2, .val .null, vr t23] [(.ref a)]) (fun _ k => XS.aloadN X23.here hx rfl (hb hby d4_41) rfl rfl k) ?_
  refine bN T23 (mkF m 44 #[vr a, vr ca, vi 0, vi 2, .val .null, vr t23] [(.ref t23), (.ref a)]) (fun _ k => XS.aload X23.here hx rfl (hb hby d4_42) rfl rfl k) ?_
  refine bN T23 (mkF m 45 #[vr a, vr ca, vi 0, vi 2, .val .null, vr t23] [(.int (2 : Int32)), (.ref t23), (.ref a)]) (fun _ k => XS.iloadN X23.here hx rfl (hb hby d4_44) rfl k) ?_
  obtain ⟨_, _, ⟨T24, L24, k24, n24⟩, -, X24, ⟨Lc24, hQ24, l24, y24, z24⟩, st24⟩ := Jvm.LawKit.callS X23 hx (y := yy4) hown (mvT hZ (hw _ (mo 76 rfl))) (mvT hZ (hw _ (mo 77 rfl))) (mvT hZ (hw _ (mo 71 rfl))) (mvT hZ (hw _ (mo 78 rfl))) (by decide) (backOf (W := 1) (cou_2 l Z a0 hw [] t23 kb23 c0 c1 T23.heap n0 (Nat.le_trans Z0 K23.1) V23) hZ (hw _ (mo 78 rfl)) (hw _ (mo 71 rfl)) (by decide) (by decide)) (g := (mkF m 45 #[vr a, vr ca, vi 0, vi 2, .val .null, vr t23] [(.int (2 : Int32)), (.ref t23), (.ref a)])) rfl (by rw [hml]; rfl) (argsL := [(.ref t23), (.int (2 : Int32))]) (rest := [(.ref a)]) (lenOf pd_2 rfl) rfl (Nat.le_of_eq rfl) (hb hby d4_45) (fun _ _ => ⟨rfl, rfl, (by decide : 2 ≤ _), (by decide : 6 ≤ _)⟩)
  dsimp only [Pt.U, Pt.locs, Pt.cells, Pt.slots] at X24 l24 y24 z24 st24 hQ24
  subst l24 y24 z24
  obtain ⟨rfl, N24q, e24⟩ := hQ24
  have N24 := Fr.app N23 N24q
  refine bN T24 (mkF m 48 #[vr a, vr ca, vi 0, vi 2, .val .null, vr t23] [(.int (1 : Int32)), (.ref a)]) (fun _ k => st24 _ k) ?_
  obtain ⟨T25, h25, X25, e25, W25, st25⟩ := putFN X24 hx hZ hown (hw _ (mo 30 rfl)) Via.refl e24 (Fld.keep F_coder_a K23 nin0) (Exa.keep E_a K23) (Or.inr ⟨(hw _ (mo 26 rfl)), rfl, hnm⟩) (hw _ (mo 11 rfl)) (ty := .byte) (v' := (.int (1 : Int32))) (by decide) rfl (by decide) (g := (mkF m 48 #[vr a, vr ca, vi 0, vi 2, .val .null, vr t23] [(.int (1 : Int32)), (.ref a)])) rfl rfl (hb hby d4_48)
  have Fw25 : Fld Z h25 a "java/lang/String" "coder" "B" (.int (1 : Int32)) := Fld.same W25 (Fld.keep F_coder_a K23 nin0)
  have K25 : Keep h0 h25 [a] := Keep.wr KK23 W25 (Or.inl (mo 0 rfl))
  have N25 := Fr.snoc X25 N24 g_a
  refine bN T25 (mkF m 51 #[vr a, vr ca, vi 0, vi 2, .val .null, vr t23] []) (fun _ k => st25 _ k) ?_
  refine bN T25 (mkF m 52 #[vr a, vr ca, vi 0, vi 2, .val .null, vr t23] [(.ref a)]) (fun _ k => XS.aloadN X25.here hx rfl (hb hby d4_51) rfl rfl k) ?_
  refine bN T25 (mkF m 54 #[vr a, vr ca, vi 0, vi 2, .val .null, vr t23] [(.ref t23), (.ref a)]) (fun _ k => XS.aload X25.here hx rfl (hb hby d4_52) rfl rfl k) ?_
  obtain ⟨T26, h26, X26, e26, W26, st26⟩ := putF X25 hx hZ hown (host := "") (Or.inl (hw _ (mo 29 rfl))) Via.refl e25 (Fld.other W25 (Fld.keep F_value_a K23 nin0) (Or.inr (slot_ne (a0 := a0) (Or.inr (hw _ (mo 25 rfl))) (Or.inr (hw _ (mo 26 rfl))) (by decide) (t := (.array .byte)) (t' := .byte) (by decide) (by decide)))) (Exa.wr W25 (Exa.keep E_a K23)) (Or.inr ⟨(hw _ (mo 25 rfl)), rfl, hnm⟩) (hw _ (mo 11 rfl)) (ty := (.array .byte)) (by decide) rfl rfl (g := (mkF m 54 #[vr a, vr ca, vi 0, vi 2, .val .null, vr t23] [(.ref t23), (.ref a)])) rfl rfl (hb hby d4_54)
  have Fw26 : Fld Z h26 a "java/lang/String" "value" "[B" (.ref t23) := Fld.same W26 (Fld.other W25 (Fld.keep F_value_a K23 nin0) (Or.inr (slot_ne (a0 := a0) (Or.inr (hw _ (mo 25 rfl))) (Or.inr (hw _ (mo 26 rfl))) (by decide) (t := (.array .byte)) (t' := .byte) (by decide) (by decide))))
  have K26 : Keep h0 h26 [a] := Keep.wr K25 W26 (Or.inl (mo 0 rfl))
  have N26 := Fr.snoc X26 N25 g_a
  refine bN T26 (mkF m 57 #[vr a, vr ca, vi 0, vi 2, .val .null, vr t23] []) (fun _ k => st26 _ k) ?_
  refine own_ret X26 hlk (v := none) (fun _ => rfl) (fun fs hr => X26.returnOut hx Bd.returns (hb hby d4_57) hr) ?_ (by decide) (by decide)
  rw [e26]
  exact ⟨rfl, N26, K26, (Fld.other W26 Fw25 (Or.inr (slot_ne (a0 := a0) (Or.inr (hw _ (mo 26 rfl))) (Or.inr (hw _ (mo 25 rfl))) (by decide) (t := .byte) (t' := (.array .byte)) (by decide) (by decide)))), _, _, sz_t23, Fw26, (Arv.other (Arv.other V23 W25 (Ne.symm (Nat.ne_of_lt (Nat.lt_of_lt_of_le (E_a).lt zt23)))) W26 (Ne.symm (Nat.ne_of_lt (Nat.lt_of_lt_of_le (E_a).lt zt23))))⟩
theorem ef_siu1_2 (m : MethodId) (a ca : Addr) : entryFrame m #[(.ref a), (.ref ca)] 2 = mkF m 0 #[vr a, vr ca] [] := rfl
def Q_siu1_2 (Z : State) (a ca : Addr) (kc : ClassId) (cs c0 c1 : Int32) (h0 : Heap) (n0 : Nat) (v : Option Value) (h : Heap) (L : List Loc) : Prop := v = none ∧ Fr n0 L ∧ Keep h0 h [a] ∧ Fld Z h a "java/lang/String" "coder" "B" (.int (1 : Int32)) ∧ ∃ (t : Addr) (kb : ClassId), h0.size ≤ t ∧ Fld Z h a "java/lang/String" "value" "[B" (.ref t) ∧ Arv Z h t kb .byte (4 : Int32) (wb2 c0 c1) (ii 0)
theorem siu1_2 (l : Launch) (Z : State) (a0 : Array Value) (hw : HW Z a0) (ws : List Jvm.Cond) (a ca : Addr) (kc : ClassId) (cs c0 c1 : Int32) (h0 : Heap) (n0 : Nat) (Z0 : n0 ≤ h0.size) (E_a : Exa Z h0 a "java/lang/String") (F_value_a : Fld Z h0 a "java/lang/String" "value" "[B" .null) (F_coder_a : Fld Z h0 a "java/lang/String" "coder" "B" (ii 0)) (g_a : n0 ≤ a) (V_ca : Arv Z h0 ca kc .char (2 : Int32) [(.int c0), (.int c1)] (ii 0)) (S_CS : Sta Z h0 "java/lang/String" "COMPACT_STRINGS" "Z" (.int cs)) (hcs : ¬ cs = (0 : Int32)) (O0 : Old Z n0 h0) (S_AD : Sta Z Z.heap "java/lang/StringUTF16" "$assertionsDisabled" "Z" (.int (1 : Int32))) (S_HI : Sta Z Z.heap "java/lang/StringUTF16" "HI_BYTE_SHIFT" "I" (ii 0)) (S_LO : Sta Z Z.heap "java/lang/StringUTF16" "LO_BYTE_SHIFT" "I" (.int (8 : Int32))) (hr0 : 0 ≤ c0.toInt ∧ c0.toInt ≤ 65535) (hr1 : 0 ≤ c1.toInt ∧ c1.toInt ≤ 65535) (hU : ((255 : Int32) < c0) ∨ (¬ (255 : Int32) < c0 ∧ (255 : Int32) < c1)) :
    own_M l yy6 jdk_42_method_3_code 2 none ws rr31 Z #[(.ref a), (.ref ca)] h0 (Q_siu1_2 Z a ca kc cs c0 c1 h0 n0) := by
  refine own_bd (plainFor_of_name pn_3) fun p e s m below meth c s₁ Bd hx hby hml hown hnm hlk hZ X0 e0 => ?_
  rw [ef_siu1_2 m a ca]
  refine bN s₁ (mkF m 1 #[vr a, vr ca] [(.ref a)]) (fun _ k => XS.aloadN X0.here hx rfl (hb hby d3_0) rfl rfl k) ?_
  refine bN s₁ (mkF m 2 #[vr a, vr ca] [(.ref ca), (.ref a)]) (fun _ k => XS.aloadN X0.here hx rfl (hb hby d3_1) rfl rfl k) ?_
  refine bN s₁ (mkF m 3 #[vr a, vr ca] [(ii 0), (.ref ca), (.ref a)]) (fun _ k => XS.iconst X0.here hx rfl (hb hby d3_2) k) ?_
  refine bN s₁ (mkF m 4 #[vr a, vr ca] [(.ref ca), (ii 0), (.ref ca), (.ref a)]) (fun _ k => XS.aloadN X0.here hx rfl (hb hby d3_3) rfl rfl k) ?_
  obtain ⟨cl21, Ar21, q21, S21, N_21, H21, G21⟩ := id V_ca
  refine bN s₁ (mkF m 5 #[vr a, vr ca] [(.int (2 : Int32)), (ii 0), (.ref ca), (.ref a)]) (fun _ k => X0.arraylength hx (by rw [e0]; exact Ar21.1) (State.isArrayOf_alike hZ.alike Ar21.2.1) (g := (mkF m 4 #[vr a, vr ca] [(.ref ca), (ii 0), (.ref ca), (.ref a)])) rfl rfl (hb hby d3_4) _ (by rw [len_of S21 N_21]; exact k)) ?_
  refine bN s₁ (mkF m 6 #[vr a, vr ca] [.null, (.int (2 : Int32)), (ii 0), (.ref ca), (.ref a)]) (fun _ k => XS.aconstNull X0.here hx rfl (hb hby d3_5) k) ?_
  obtain ⟨_, _, ⟨T22, L22, k22, n22⟩, -, X22, ⟨Lc22, hQ22, l22, y22, z22⟩, st22⟩ := X0.specialBack hx (y := yy5) rfl hown (mvT hZ (hw _ (mo 16 rfl))) (mvT hZ (hw _ (mo 17 rfl))) (mvT hZ (hw _ (mo 19 rfl))) (by decide) (backOf (W := 0) (siu4_2 l Z a0 hw [] a ca kc cs c0 c1 h0 n0 Z0 E_a F_value_a F_coder_a g_a V_ca S_CS hcs O0 S_AD S_HI S_LO hr0 hr1 hU) hZ (hw _ (mo 19 rfl)) (hw _ (mo 12 rfl)) (by decide) (by decide)) (g := (mkF m 6 #[vr a, vr ca] [.null, (.int (2 : Int32)), (ii 0), (.ref ca), (.ref a)])) rfl (by rw [hml]; rfl) (Steps.refl _) (a := a) (argsL := [(.ref ca), (ii 0), (.int (2 : Int32)), .null]) (rest := []) (lenOf pd_3 rfl) rfl (Nat.le_of_eq rfl) (hb hby d3_6) (fun _ _ => ⟨rfl, e0, (by decide : 2 ≤ _), (by decide : 6 ≤ _)⟩)
  dsimp only [Pt.U, Pt.locs, Pt.cells, Pt.slots] at X22 l22 y22 z22 st22 hQ22
  subst l22 y22 z22
  obtain ⟨rfl, N22q, K22, Fc22, t22, kb22, zt22, Fv22, V22⟩ := hQ22
  have N22 := Fr.app (Fr.nil n0) N22q
  have KK22 : Keep h0 T22.heap [a] := Keep.trans (Keep.refl h0 [a]) K22 (allS (Or.inl (mo 0 rfl)) all0)
  have sz_t22 : h0.size ≤ t22 := zt22
  refine bN T22 (mkF m 9 #[vr a, vr ca] []) (fun _ k => st22.trans k) ?_
  refine own_ret X22 hlk (v := none) (fun _ => rfl) (fun fs hr => X22.returnOut hx Bd.returns (hb hby d3_9) hr) ?_ (by decide) (by decide)
  exact ⟨rfl, N22, KK22, Fc22, _, _, sz_t22, Fv22, V22⟩
theorem ef_tby_3 (m : MethodId) (ca : Addr) : entryFrame m #[(.ref ca), (ii 0), (.int (3 : Int32))] 5 = mkF m 0 #[vr ca, vi 0, vi 3, uu, uu] [] := rfl
def Q_tby_3 (Z : State) (ca : Addr) (kc : ClassId) (c0 c1 c2 : Int32) (h0 : Heap) (n0 : Nat) (v : Option Value) (h : Heap) (L : List Loc) : Prop := ∃ (t : Addr) (kb : ClassId), v = some (.ref t) ∧ Fr n0 L ∧ Keep h0 h [] ∧ h0.size ≤ t ∧ Arv Z h t kb .byte (6 : Int32) (wb3 c0 c1 c2) (ii 0)
theorem tby_3 (l : Launch) (Z : State) (a0 : Array Value) (hw : HW Z a0) (ws : List Jvm.Cond) (ca : Addr) (kc : ClassId) (c0 c1 c2 : Int32) (h0 : Heap) (n0 : Nat) (Z0 : n0 ≤ h0.size) (V_ca : Arv Z h0 ca kc .char (3 : Int32) [(.int c0), (.int c1), (.int c2)] (ii 0)) (O0 : Old Z n0 h0) (S_AD : Sta Z Z.heap "java/lang/StringUTF16" "$assertionsDisabled" "Z" (.int (1 : Int32))) (S_HI : Sta Z Z.heap "java/lang/StringUTF16" "HI_BYTE_SHIFT" "I" (ii 0)) (S_LO : Sta Z Z.heap "java/lang/StringUTF16" "LO_BYTE_SHIFT" "I" (.int (8 : Int32))) :
    own_M l yy11 jdk_52_method_14_code 5 (some (.array .byte)) ws rr32 Z #[(.ref ca), (ii 0), (.int (3 : Int32))] h0 (Q_tby_3 Z ca kc c0 c1 c2 h0 n0) := by
  refine own_bd (plainFor_of_name pn_17) fun p e s m below meth c s₁ Bd hx hby hml hown hnm hlk hZ X0 e0 => ?_
  rw [ef_tby_3 m ca]
  refine bN s₁ (mkF m 1 #[vr ca, vi 0, vi 3, uu, uu] [(.int (3 : Int32))]) (fun _ k => XS.iloadN X0.here hx rfl (hb hby d17_0) rfl k) ?_
  obtain ⟨_, _, ⟨T21, L21, k21, n21⟩, -, X21, ⟨Lc21, hQ21, l21, y21, z21⟩, st21⟩ := Jvm.LawKit.callS X0 hx (y := yy10) hown (mvT hZ (hw _ (mo 83 rfl))) (mvT hZ (hw _ (mo 84 rfl))) (mvT hZ (hw _ (mo 71 rfl))) (mvT hZ (hw _ (mo 85 rfl))) (by decide) (backOf (W := 0) (nbf_3 l Z a0 hw []   h0 n0 Z0 ) hZ (hw _ (mo 85 rfl)) (hw _ (mo 71 rfl)) (by decide) (by decide)) (g := (mkF m 1 #[vr ca, vi 0, vi 3, uu, uu] [(.int (3 : Int32))])) rfl (by rw [hml]; rfl) (argsL := [(.int (3 : Int32))]) (rest := []) (lenOf pd_5 rfl) rfl (Nat.le_of_eq rfl) (hb hby d17_1) (fun _ _ => ⟨rfl, e0, (by decide : 1 ≤ _), (by decide : 6 ≤ _)⟩)
  dsimp only [Pt.U, Pt.locs, Pt.cells, Pt.slots] at X21 l21 y21 z21 st21 hQ21
  subst l21 y21 z21
  obtain ⟨t21, kb21, rfl, N21q, K21, zt21, V21⟩ := hQ21
  have N21 := Fr.app (Fr.nil n0) N21q
  have KK21 : Keep h0 T21.heap [] := Keep.trans (Keep.refl h0 []) K21 all0
  have sz_t21 : h0.size ≤ t21 := Nat.le_trans (Keep.refl h0 []).1 zt21
  have g_t21 : n0 ≤ t21 := Nat.le_trans Z0 sz_t21
  refine bN T21 (mkF m 4 #[vr ca, vi 0, vi 3, uu, uu] [(.ref t21)]) (fun _ k => st21 _ k) ?_
  refine bN T21 (mkF m 5 #[vr ca, vi 0, vi 3, vr t21, uu] []) (fun _ k => XS.astoreN X21.here hx rfl (hb hby d17_4) rfl rfl rfl k) ?_
  refine bN T21 (mkF m 6 #[vr ca, vi 0, vi 3, vr t21, uu] [(ii 0)]) (fun _ k => XS.iconst X21.here hx rfl (hb hby d17_5) k) ?_
  refine bN T21 (mkF m 8 #[vr ca, vi 0, vi 3, vr t21, vi 0] []) (fun _ k => XS.istore X21.here hx rfl (hb hby d17_6) rfl rfl k) ?_
  refine bN T21 (mkF m 10 #[vr ca, vi 0, vi 3, vr t21, vi 0] [(ii 0)]) (fun _ k => XS.iload X21.here hx rfl (hb hby d17_8) rfl k) ?_
  refine bN T21 (mkF m 11 #[vr ca, vi 0, vi 3, vr t21, vi 0] [(.int (3 : Int32)), (ii 0)]) (fun _ k => XS.iloadN X21.here hx rfl (hb hby d17_10) rfl k) ?_
  refine bN T21 (mkF m 14 #[vr ca, vi 0, vi 3, vr t21, vi 0] []) (fun _ k => XS.icmpNo X21.here hx rfl (hb hby d17_11) rfl (tlt (by decide)).2.1 k) ?_
  refine bN T21 (mkF m 15 #[vr ca, vi 0, vi 3, vr t21, vi 0] [(.ref t21)]) (fun _ k => XS.aloadN X21.here hx rfl (hb hby d17_14) rfl rfl k) ?_
  refine bN T21 (mkF m 17 #[vr ca, vi 0, vi 3, vr t21, vi 0] [(ii 0), (.ref t21)]) (fun _ k => XS.iload X21.here hx rfl (hb hby d17_15) rfl k) ?_
  refine bN T21 (mkF m 18 #[vr ca, vi 0, vi 3, vr t21, vi 0] [(.ref ca), (ii 0), (.ref t21)]) (fun _ k => XS.aloadN X21.here hx rfl (hb hby d17_17) rfl rfl k) ?_
  refine bN T21 (mkF m 19 #[vr ca, vi 0, vi 3, vr t21, vi 0] [(ii 0), (.ref ca), (ii 0), (.ref t21)]) (fun _ k => XS.iloadN X21.here hx rfl (hb hby d17_18) rfl k) ?_
  obtain ⟨cl22, Ar22, q22, S22, N_22, H22, G22⟩ := id (Arv.keep V_ca K21 nin0)
  have hin22 : ¬ ((0 : Int32) < 0 ∨ cl22.slots.size ≤ ((0 : Int32)).toNatClampNeg) := inb_of S22 ⟨by decide, by decide⟩
  refine bN T21 (mkF m 20 #[vr ca, vi 0, vi 3, vr t21, vi 0] [(.int c0), (ii 0), (.ref t21)]) (fun _ k => X21.caload hx (j := (0 : Int32)) (v := (.int c0)) Ar22.1 (State.isArrayOf_alike hZ.alike Ar22.2.1) Ar22.2.2 hin22 (Has.at H22 hin22 rfl) (g := (mkF m 19 #[vr ca, vi 0, vi 3, vr t21, vi 0] [(ii 0), (.ref ca), (ii 0), (.ref t21)])) rfl rfl (hb hby d17_19) _ k) ?_
  obtain ⟨_, _, ⟨T23, L23, k23, n23⟩, -, X23, ⟨Lc23, hQ23, l23, y23, z23⟩, st23⟩ := Jvm.LawKit.callS X21 hx (y := yy7) hown (mvT hZ (hw _ (mo 90 rfl))) (mvT hZ (hw _ (mo 91 rfl))) (mvT hZ (hw _ (mo 71 rfl))) (mvT hZ (hw _ (mo 92 rfl))) (by decide) (backOf (W := 0) (put_0 l Z a0 hw [] t21 c0 kb21 (6 : Int32) [(ii 0), (ii 0), (ii 0), (ii 0), (ii 0), (ii 0)] T21.heap n0 (Nat.le_trans Z0 K21.1) (Sta.ext ((Old.keep O0 K21 all0)).2 S_AD) (Sta.ext ((Old.keep O0 K21 all0)).2 S_HI) (Sta.ext ((Old.keep O0 K21 all0)).2 S_LO) V21 (by decide) (by decide) (Nat.le_of_ble_eq_true rfl) (Nat.le_of_ble_eq_true rfl) g_t21) hZ (hw _ (mo 92 rfl)) (hw _ (mo 71 rfl)) (by decide) (by decide)) (g := (mkF m 20 #[vr ca, vi 0, vi 3, vr t21, vi 0] [(.int c0), (ii 0), (.ref t21)])) rfl (by rw [hml]; rfl) (argsL := [(.ref t21), (ii 0), (.int c0)]) (rest := []) (lenOf pd_6 rfl) rfl (Nat.le_of_eq rfl) (hb hby d17_20) (fun _ _ => ⟨rfl, rfl, (by decide : 1 ≤ _), (by decide : 6 ≤ _)⟩)
  dsimp only [Pt.U, Pt.locs, Pt.cells, Pt.slots] at X23 l23 y23 z23 st23 hQ23
  subst l23 y23 z23
  obtain ⟨rfl, N23q, K23, Vq23⟩ := hQ23
  have N23 := Fr.app N21 N23q
  have KK23 : Keep h0 T23.heap [] := Keep.trans KK21 K23 (allS (Or.inr sz_t21) all0)
  have Vp23 : Arv Z T23.heap t21 kb21 .byte (6 : Int32) [(.int (b0 c0)), (.int (b1 c0)), (ii 0), (ii 0), (ii 0), (ii 0)] (ii 0) := Vq23
  refine bN T23 (mkF m 23 #[vr ca, vi 0, vi 3, vr t21, vi 0] []) (fun _ k => st23 _ k) ?_
  refine bN T23 (mkF m 26 #[vr ca, vi 1, vi 3, vr t21, vi 0] []) (fun _ k => XS.iinc X23.here hx rfl (hb hby d17_23) rfl rfl k) ?_
  refine bN T23 (mkF m 29 #[vr ca, vi 1, vi 3, vr t21, vi 1] []) (fun _ k => XS.iinc X23.here hx rfl (hb hby d17_26) rfl rfl k) ?_
  refine bN T23 (mkF m 8 #[vr ca, vi 1, vi 3, vr t21, vi 1] []) (fun _ k => XS.goto X23.here hx rfl (pc0 := 29) (pc' := 8) rfl (hb hby d17_29) (by decide) (by decide) k) ?_
  refine bN T23 (mkF m 10 #[vr ca, vi 1, vi 3, vr t21, vi 1] [(.int (1 : Int32))]) (fun _ k => XS.iload X23.here hx rfl (hb hby d17_8) rfl k) ?_
  refine bN T23 (mkF m 11 #[vr ca, vi 1, vi 3, vr t21, vi 1] [(.int (3 : Int32)), (.int (1 : Int32))]) (fun _ k => XS.iloadN X23.here hx rfl (hb hby d17_10) rfl k) ?_
  refine bN T23 (mkF m 14 #[vr ca, vi 1, vi 3, vr t21, vi 1] []) (fun _ k => XS.icmpNo X23.here hx rfl (hb hby d17_11) rfl (tlt (by decide)).2.1 k) ?_
  refine bN T23 (mkF m 15 #[vr ca, vi 1, vi 3, vr t21, vi 1] [(.ref t21)]) (fun _ k => XS.aloadN X23.here hx rfl (hb hby d17_14) rfl rfl k) ?_
  refine bN T23 (mkF m 17 #[vr ca, vi 1, vi 3, vr t21, vi 1] [(.int (1 : Int32)), (.ref t21)]) (fun _ k => XS.iload X23.here hx rfl (hb hby d17_15) rfl k) ?_
  refine bN T23 (mkF m 18 #[vr ca, vi 1, vi 3, vr t21, vi 1] [(.ref ca), (.int (1 : Int32)), (.ref t21)]) (fun _ k => XS.aloadN X23.here hx rfl (hb hby d17_17) rfl rfl k) ?_
  refine bN T23 (mkF m 19 #[vr ca, vi 1, vi 3, vr t21, vi 1] [(.int (1 : Int32)), (.ref ca), (.int (1 : Int32)), (.ref t21)]) (fun _ k => XS.iloadN X23.here hx rfl (hb hby d17_18) rfl k) ?_
  obtain ⟨cl24, Ar24, q24, S24, N_24, H24, G24⟩ := id (Arv.keep (Arv.keep V_ca K21 nin0) K23 (ninS (Nat.ne_of_lt (Nat.lt_of_lt_of_le (V_ca).lt zt21)) nin0))
  have hin24 : ¬ ((1 : Int32) < 0 ∨ cl24.slots.size ≤ ((1 : Int32)).toNatClampNeg) := inb_of S24 ⟨by decide, by decide⟩
  refine bN T23 (mkF m 20 #[vr ca, vi 1, vi 3, vr t21, vi 1] [(.int c1), (.int (1 : Int32)), (.ref t21)]) (fun _ k => X23.caload hx (j := (1 : Int32)) (v := (.int c1)) Ar24.1 (State.isArrayOf_alike hZ.alike Ar24.2.1) Ar24.2.2 hin24 (Has.at H24 hin24 rfl) (g := (mkF m 19 #[vr ca, vi 1, vi 3, vr t21, vi 1] [(.int (1 : Int32)), (.ref ca), (.int (1 : Int32)), (.ref t21)])) rfl rfl (hb hby d17_19) _ k) ?_
  obtain ⟨_, _, ⟨T25, L25, k25, n25⟩, -, X25, ⟨Lc25, hQ25, l25, y25, z25⟩, st25⟩ := Jvm.LawKit.callS X23 hx (y := yy7) hown (mvT hZ (hw _ (mo 90 rfl))) (mvT hZ (hw _ (mo 91 rfl))) (mvT hZ (hw _ (mo 71 rfl))) (mvT hZ (hw _ (mo 92 rfl))) (by decide) (backOf (W := 0) (put_1 l Z a0 hw [] t21 c1 kb21 (6 : Int32) [(.int (b0 c0)), (.int (b1 c0)), (ii 0), (ii 0), (ii 0), (ii 0)] T23.heap n0 (Nat.le_trans (Nat.le_trans Z0 K21.1) K23.1) (Sta.ext ((Old.keep (Old.keep O0 K21 all0) K23 (allS g_t21 all0))).2 S_AD) (Sta.ext ((Old.keep (Old.keep O0 K21 all0) K23 (allS g_t21 all0))).2 S_HI) (Sta.ext ((Old.keep (Old.keep O0 K21 all0) K23 (allS g_t21 all0))).2 S_LO) Vp23 (by decide) (by decide) (Nat.le_of_ble_eq_true rfl) (Nat.le_of_ble_eq_true rfl) g_t21) hZ (hw _ (mo 92 rfl)) (hw _ (mo 71 rfl)) (by decide) (by decide)) (g := (mkF m 20 #[vr ca, vi 1, vi 3, vr t21, vi 1] [(.int c1), (.int (1 : Int32)), (.ref t21)])) rfl (by rw [hml]; rfl) (argsL := [(.ref t21), (.int (1 : Int32)), (.int c1)]) (rest := []) (lenOf pd_6 rfl) rfl (Nat.le_of_eq rfl) (hb hby d17_20) (fun _ _ => ⟨rfl, rfl, (by decide : 1 ≤ _), (by decide : 6 ≤ _)⟩)
  dsimp only [Pt.U, Pt.locs, Pt.cells, Pt.slots] at X25 l25 y25 z25 st25 hQ25
  subst l25 y25 z25
  obtain ⟨rfl, N25q, K25, Vq25⟩ := hQ25
  have N25 := Fr.app N23 N25q
  have KK25 : Keep h0 T25.heap [] := Keep.trans KK23 K25 (allS (Or.inr sz_t21) all0)
  have Vp25 : Arv Z T25.heap t21 kb21 .byte (6 : Int32) [(.int (b0 c0)), (.int (b1 c0)), (.int (b0 c1)), (.int (b1 c1)), (ii 0), (ii 0)] (ii 0) := Vq25
  refine bN T25 (mkF m 23 #[vr ca, vi 1, vi 3, vr t21, vi 1] []) (fun _ k => st25 _ k) ?_
  refine bN T25 (mkF m 26 #[vr ca, vi 2, vi 3, vr t21, vi 1] []) (fun _ k => XS.iinc X25.here hx rfl (hb hby d17_23) rfl rfl k) ?_
  refine bN T25 (mkF m 29 #[vr ca, vi 2, vi 3, vr t21, vi 2] []) (fun _ k => XS.iinc X25.here hx rfl (hb hby d17_26) rfl rfl k) ?_
  refine bN T25 (mkF m 8 #[vr ca, vi 2, vi 3, vr t21, vi 2] []) (fun _ k => XS.goto X25.here hx rfl (pc0 := 29) (pc' := 8) rfl (hb hby d17_29) (by decide) (by decide) k) ?_
  refine bN T25 (mkF m 10 #[vr ca, vi 2, vi 3, vr t21, vi 2] [(.int (2 : Int32))]) (fun _ k => XS.iload X25.here hx rfl (hb hby d17_8) rfl k) ?_
  refine bN T25 (mkF m 11 #[vr ca, vi 2, vi 3, vr t21, vi 2] [(.int (3 : Int32)), (.int (2 : Int32))]) (fun _ k => XS.iloadN X25.here hx rfl (hb hby d17_10) rfl k) ?_
  refine bN T25 (mkF m 14 #[vr ca, vi 2, vi 3, vr t21, vi 2] []) (fun _ k => XS.icmpNo X25.here hx rfl (hb hby d17_11) rfl (tlt (by decide)).2.1 k) ?_
  refine bN T25 (mkF m 15 #[vr ca, vi 2, vi 3, vr t21, vi 2] [(.ref t21)]) (fun _ k => XS.aloadN X25.here hx rfl (hb hby d17_14) rfl rfl k) ?_
  refine bN T25 (mkF m 17 #[vr ca, vi 2, vi 3, vr t21, vi 2] [(.int (2 : Int32)), (.ref t21)]) (fun _ k => XS.iload X25.here hx rfl (hb hby d17_15) rfl k) ?_
  refine bN T25 (mkF m 18 #[vr ca, vi 2, vi 3, vr t21, vi 2] [(.ref ca), (.int (2 : Int32)), (.ref t21)]) (fun _ k => XS.aloadN X25.here hx rfl (hb hby d17_17) rfl rfl k) ?_
  refine bN T25 (mkF m 19 #[vr ca, vi 2, vi 3, vr t21, vi 2] [(.int (2 : Int32)), (.ref ca), (.int (2 : Int32)), (.ref t21)]) (fun _ k => XS.iloadN X25.here hx rfl (hb hby d17_18) rfl k) ?_
  obtain ⟨cl26, Ar26, q26, S26, N_26, H26, G26⟩ := id (Arv.keep (Arv.keep (Arv.keep V_ca K21 nin0) K23 (ninS (Nat.ne_of_lt (Nat.lt_of_lt_of_le (V_ca).lt zt21)) nin0)) K25 (ninS (Nat.ne_of_lt (Nat.lt_of_lt_of_le (V_ca).lt zt21)) nin0))
  have hin26 : ¬ ((2 : Int32) < 0 ∨ cl26.slots.size ≤ ((2 : Int32)).toNatClampNeg) := inb_of S26 ⟨by decide, by decide⟩
  refine bN T25 (mkF m 20 #[vr ca, vi 2, vi 3, vr t21, vi 2] [(.int c2), (.int (2 : Int32)), (.ref t21)]) (fun _ k => X25.caload hx (j := (2 : Int32)) (v := (.int c2)) Ar26.1 (State.isArrayOf_alike hZ.alike Ar26.2.1) Ar26.2.2 hin26 (Has.at H26 hin26 rfl) (g := (mkF m 19 #[vr ca, vi 2, vi 3, vr t21, vi 2] [(.int (2 : Int32)), (.ref ca), (.int (2 : Int32)), (.ref t21)])) rfl rfl (hb hby d17_19) _ k) ?_
  obtain ⟨_, _, ⟨T27, L27, k27, n27⟩, -, X27, ⟨Lc27, hQ27, l27, y27, z27⟩, st27⟩ := Jvm.LawKit.callS X25 hx (y := yy7) hown (mvT hZ (hw _ (mo 90 rfl))) (mvT hZ (hw _ (mo 91 rfl))) (mvT hZ (hw _ (mo 71 rfl))) (mvT hZ (hw _ (mo 92 rfl))) (by decide) (backOf (W := 0) (put_2 l Z a0 hw [] t21 c2 kb21 (6 : Int32) [(.int (b0 c0)), (.int (b1 c0)), (.int (b0 c1)), (.int (b1 c1)), (ii 0), (ii 0)] T25.heap n0 (Nat.le_trans (Nat.le_trans (Nat.le_trans Z0 K21.1) K23.1) K25.1) (Sta.ext ((Old.keep (Old.keep (Old.keep O0 K21 all0) K23 (allS g_t21 all0)) K25 (allS g_t21 all0))).2 S_AD) (Sta.ext ((Old.keep (Old.keep (Old.keep O0 K21 all0) K23 (allS g_t21 all0)) K25 (allS g_t21 all0))).2 S_HI) (Sta.ext ((Old.keep (Old.keep (Old.keep O0 K21 all0) K23 (allS g_t21 all0)) K25 (allS g_t21 all0))).2 S_LO) Vp25 (by decide) (by decide) (Nat.le_of_ble_eq_true rfl) (Nat.le_of_ble_eq_true rfl) g_t21) hZ (hw _ (mo 92 rfl)) (hw _ (mo 71 rfl)) (by decide) (by decide)) (g := (mkF m 20 #[vr ca, vi 2, vi 3, vr t21, vi 2] [(.int c2), (.int (2 : Int32)), (.ref t21)])) rfl (by rw [hml]; rfl) (argsL := [(.ref t21), (.int (2 : Int32)), (.int c2)]) (rest := []) (lenOf pd_6 rfl) rfl (Nat.le_of_eq rfl) (hb hby d17_20) (fun _ _ => ⟨rfl, rfl, (by decide : 1 ≤ _), (by decide : 6 ≤ _)⟩)
  dsimp only [Pt.U, Pt.locs, Pt.cells, Pt.slots] at X27 l27 y27 z27 st27 hQ27
  subst l27 y27 z27
  obtain ⟨rfl, N27q, K27, Vq27⟩ := hQ27
  have N27 := Fr.app N25 N27q
  have KK27 : Keep h0 T27.heap [] := Keep.trans KK25 K27 (allS (Or.inr sz_t21) all0)
  have Vp27 : Arv Z T27.heap t21 kb21 .byte (6 : Int32) (wb3 c0 c1 c2) (ii 0) := Vq27
  refine bN T27 (mkF m 23 #[vr ca, vi 2, vi 3, vr t21, vi 2] []) (fun _ k => st27 _ k) ?_
  refine bN T27 (mkF m 26 #[vr ca, vi 3, vi 3, vr t21, vi 2] []) (fun _ k => XS.iinc X27.here hx rfl (hb hby d17_23) rfl rfl k) ?_
  refine bN T27 (mkF m 29 #[vr ca, vi 3, vi 3, vr t21, vi 3] []) (fun _ k => XS.iinc X27.here hx rfl (hb hby d17_26) rfl rfl k) ?_
  refine bN T27 (mkF m 8 #[vr ca, vi 3, vi 3, vr t21, vi 3] []) (fun _ k => XS.goto X27.here hx rfl (pc0 := 29) (pc' := 8) rfl (hb hby d17_29) (by decide) (by decide) k) ?_
  refine bN T27 (mkF m 10 #[vr ca, vi 3, vi 3, vr t21, vi 3] [(.int (3 : Int32))]) (fun _ k => XS.iload X27.here hx rfl (hb hby d17_8) rfl k) ?_
  refine bN T27 (mkF m 11 #[vr ca, vi 3, vi 3, vr t21, vi 3] [(.int (3 : Int32)), (.int (3 : Int32))]) (fun _ k => XS.iloadN X27.here hx rfl (hb hby d17_10) rfl k) ?_
  refine bN T27 (mkF m 32 #[vr ca, vi 3, vi 3, vr t21, vi 3] []) (fun _ k => XS.icmpYes X27.here hx rfl (pc0 := 11) (pc' := 32) rfl (hb hby d17_11) rfl (flt (by decide)).2.1 (by decide) (by decide) k) ?_
  refine bN T27 (mkF m 33 #[vr ca, vi 3, vi 3, vr t21, vi 3] [(.ref t21)]) (fun _ k => XS.aloadN X27.here hx rfl (hb hby d17_32) rfl rfl k) ?_
  refine own_ret X27 hlk (v := some (.ref t21)) (nvr Bd.returns) (fun fs hr => retOut X27 hx Bd.returns rfl (Or.inr (Or.inr (Or.inr (Or.inr ⟨rfl, rfl, rfl⟩)))) (hb hby d17_33) hr) ?_ (by decide) (by decide)
  exact ⟨_, _, rfl, N27, KK27, sz_t21, Vp27⟩
theorem ef_cmu_3 (m : MethodId) (ca : Addr) : entryFrame m #[(.ref ca), (ii 0), (.int (3 : Int32))] 6 = mkF m 0 #[vr ca, vi 0, vi 3, uu, uu, uu] [] := rfl
def Q_cmu_3 (Z : State) (ca : Addr) (kc : ClassId) (c0 c1 c2 : Int32) (h0 : Heap) (n0 : Nat) (v : Option Value) (h : Heap) (L : List Loc) : Prop := ∃ (t : Addr) (kb : ClassId), v = some (.ref t) ∧ Fr n0 L ∧ Keep h0 h [] ∧ h0.size ≤ t ∧ Arv Z h t kb .byte (6 : Int32) (wb3 c0 c1 c2) (ii 0)
theorem cmu_3 (l : Launch) (Z : State) (a0 : Array Value) (hw : HW Z a0) (ws : List Jvm.Cond) (ca : Addr) (kc : ClassId) (c0 c1 c2 : Int32) (h0 : Heap) (n0 : Nat) (Z0 : n0 ≤ h0.size) (V_ca : Arv Z h0 ca kc .char (3 : Int32) [(.int c0), (.int c1), (.int c2)] (ii 0)) (O0 : Old Z n0 h0) (S_AD : Sta Z Z.heap "java/lang/StringUTF16" "$assertionsDisabled" "Z" (.int (1 : Int32))) (S_HI : Sta Z Z.heap "java/lang/StringUTF16" "HI_BYTE_SHIFT" "I" (ii 0)) (S_LO : Sta Z Z.heap "java/lang/StringUTF16" "LO_BYTE_SHIFT" "I" (.int (8 : Int32))) (hr0 : 0 ≤ c0.toInt ∧ c0.toInt ≤ 65535) (hr1 : 0 ≤ c1.toInt ∧ c1.toInt ≤ 65535) (hr2 : 0 ≤ c2.toInt ∧ c2.toInt ≤ 65535) (hU : ((255 : Int32) < c0) ∨ (¬ (255 : Int32) < c0 ∧ (255 : Int32) < c1) ∨ (¬ (255 : Int32) < c0 ∧ ¬ (255 : Int32) < c1 ∧ (255 : Int32) < c2)) :
    own_M l yy3 jdk_52_method_16_code 6 (some (.array .byte)) ws rr33 Z #[(.ref ca), (ii 0), (.int (3 : Int32))] h0 (Q_cmu_3 Z ca kc c0 c1 c2 h0 n0) := by
  refine own_bd (plainFor_of_name pn_14) fun p e s m below meth c s₁ Bd hx hby hml hown hnm hlk hZ X0 e0 => ?_
  rw [ef_cmu_3 m ca]
  refine bN s₁ (mkF m 1 #[vr ca, vi 0, vi 3, uu, uu, uu] [(.int (3 : Int32))]) (fun _ k => XS.iloadN X0.here hx rfl (hb hby d14_0) rfl k) ?_
  obtain ⟨T21, h21, k21, X21, e21, E21, A21, st21⟩ := newP X0 hx hZ (hw _ (mo 24 rfl)) e0 (g := (mkF m 1 #[vr ca, vi 0, vi 3, uu, uu, uu] [(.int (3 : Int32))])) rfl (hb hby d14_1) rfl (by decide) (cap := 3) (by decide) (by decide) (by decide) (by decide)
  obtain ⟨b21, g21⟩ : ∃ z, z = h0.size := ⟨_, rfl⟩
  rw [← g21] at A21 st21
  have V_b21 : Arv Z h21 b21 k21 .byte (3 : Int32) [(ii 0), (ii 0), (ii 0)] (ii 0) := (Arv.new A21 (by decide)).pad (pad_rep [] (ii 0) 3)
  have g_b21 : n0 ≤ b21 := Nat.le_trans Z0 (Nat.le_of_eq g21.symm)
  have sz_b21 : h0.size ≤ b21 := Nat.le_trans (Keep.refl h0 []).1 (Nat.le_of_eq g21.symm)
  have K21 : Keep h0 h21 [] := Keep.ext (Keep.refl h0 []) E21
  refine bN T21 (mkF m 3 #[vr ca, vi 0, vi 3, uu, uu, uu] [(.ref b21)]) (fun _ k => st21 _ k) ?_
  refine bN T21 (mkF m 4 #[vr ca, vi 0, vi 3, vr b21, uu, uu] []) (fun _ k => XS.astoreN X21.here hx rfl (hb hby d14_3) rfl rfl rfl k) ?_
  refine bN T21 (mkF m 5 #[vr ca, vi 0, vi 3, vr b21, uu, uu] [(.ref ca)]) (fun _ k => XS.aloadN X21.here hx rfl (hb hby d14_4) rfl rfl k) ?_
  refine bN T21 (mkF m 6 #[vr ca, vi 0, vi 3, vr b21, uu, uu] [(ii 0), (.ref ca)]) (fun _ k => XS.iloadN X21.here hx rfl (hb hby d14_5) rfl k) ?_
  refine bN T21 (mkF m 7 #[vr ca, vi 0, vi 3, vr b21, uu, uu] [(.ref b21), (ii 0), (.ref ca)]) (fun _ k => XS.aloadN X21.here hx rfl (hb hby d14_6) rfl rfl k) ?_
  refine bN T21 (mkF m 8 #[vr ca, vi 0, vi 3, vr b21, uu, uu] [(ii 0), (.ref b21), (ii 0), (.ref ca)]) (fun _ k => XS.iconst X21.here hx rfl (hb hby d14_7) k) ?_
  refine bN T21 (mkF m 9 #[vr ca, vi 0, vi 3, vr b21, uu, uu] [(.int (3 : Int32)), (ii 0), (.ref b21), (ii 0), (.ref ca)]) (fun _ k => XS.iloadN X21.here hx rfl (hb hby d14_8) rfl k) ?_
  obtain ⟨_, _, ⟨T22, L22, k22, n22⟩, -, X22, ⟨Lc22, hQ22, l22, y22, z22⟩, st22⟩ := Jvm.LawKit.callS X21 hx (y := yy2) hown (mvT hZ (hw _ (mo 73 rfl))) (mvT hZ (hw _ (mo 74 rfl))) (mvT hZ (hw _ (mo 71 rfl))) (mvT hZ (hw _ (mo 75 rfl))) (by decide) (backOf (W := 0) (cmpk_3 l Z a0 hw [] ca b21 kc k21 c0 c1 c2 h21 n0 (Nat.le_trans Z0 E21.1) (Arv.ext V_ca E21) V_b21 g_b21 (Nat.ne_of_lt (Nat.lt_of_lt_of_le V_ca.lt (Nat.le_of_eq g21.symm)))) hZ (hw _ (mo 75 rfl)) (hw _ (mo 71 rfl)) (by decide) (by decide)) (g := (mkF m 9 #[vr ca, vi 0, vi 3, vr b21, uu, uu] [(.int (3 : Int32)), (ii 0), (.ref b21), (ii 0), (.ref ca)])) rfl (by rw [hml]; rfl) (argsL := [(.ref ca), (ii 0), (.ref b21), (ii 0), (.int (3 : Int32))]) (rest := []) (lenOf pd_0 rfl) rfl (Nat.le_of_eq rfl) (hb hby d14_9) (fun _ _ => ⟨rfl, e21, (by decide : 1 ≤ _), (by decide : 3 ≤ _)⟩)
  dsimp only [Pt.U, Pt.locs, Pt.cells, Pt.slots] at X22 l22 y22 z22 st22 hQ22
  subst l22 y22 z22
  obtain ⟨rfl, N22q, K22, -⟩ := hQ22
  have N22 := Fr.app (Fr.nil n0) N22q
  have KK22 : Keep h0 T22.heap [] := Keep.trans K21 K22 (allS (Or.inr sz_b21) all0)
  refine bN T22 (mkF m 12 #[vr ca, vi 0, vi 3, vr b21, uu, uu] [(.int (own_k3 c0 c1 c2))]) (fun _ k => st22 _ k) ?_
  rcases hU with u0 | ⟨u0, u1⟩ | ⟨u0, u1, u2⟩
  · skip
    have hk23 : own_k3 c0 c1 c2 = (0 : Int32) := (if_pos u0)
    rw [hk23]
    refine bN T22 (mkF m 14 #[vr ca, vi 0, vi 3, vr b21, vi 0, uu] []) (fun _ k => XS.istore X22.here hx rfl (hb hby d14_12) rfl rfl k) ?_
    refine bN T22 (mkF m 16 #[vr ca, vi 0, vi 3, vr b21, vi 0, uu] [(ii 0)]) (fun _ k => XS.iload X22.here hx rfl (hb hby d14_14) rfl k) ?_
    refine bN T22 (mkF m 17 #[vr ca, vi 0, vi 3, vr b21, vi 0, uu] [(.int (3 : Int32)), (ii 0)]) (fun _ k => XS.iloadN X22.here hx rfl (hb hby d14_16) rfl k) ?_
    refine bN T22 (mkF m 20 #[vr ca, vi 0, vi 3, vr b21, vi 0, uu] []) (fun _ k => XS.icmpNo X22.here hx rfl (hb hby d14_17) rfl (feq (by decide)).1 k) ?_
    refine bN T22 (mkF m 21 #[vr ca, vi 0, vi 3, vr b21, vi 0, uu] [(.ref ca)]) (fun _ k => XS.aloadN X22.here hx rfl (hb hby d14_20) rfl rfl k) ?_
    refine bN T22 (mkF m 22 #[vr ca, vi 0, vi 3, vr b21, vi 0, uu] [(ii 0), (.ref ca)]) (fun _ k => XS.iloadN X22.here hx rfl (hb hby d14_21) rfl k) ?_
    refine bN T22 (mkF m 23 #[vr ca, vi 0, vi 3, vr b21, vi 0, uu] [(.int (3 : Int32)), (ii 0), (.ref ca)]) (fun _ k => XS.iloadN X22.here hx rfl (hb hby d14_22) rfl k) ?_
    obtain ⟨_, _, ⟨T24, L24, k24, n24⟩, -, X24, ⟨Lc24, hQ24, l24, y24, z24⟩, st24⟩ := Jvm.LawKit.callS X22 hx (y := yy11) hown (mvT hZ (hw _ (mo 80 rfl))) (mvT hZ (hw _ (mo 81 rfl))) (mvT hZ (hw _ (mo 71 rfl))) (mvT hZ (hw _ (mo 82 rfl))) (by decide) (backOf (W := 0) (tby_3 l Z a0 hw [] ca kc c0 c1 c2 T22.heap n0 (Nat.le_trans (Nat.le_trans Z0 E21.1) K22.1) (Arv.keep (Arv.ext V_ca E21) K22 (ninS (Nat.ne_of_lt (Nat.lt_of_lt_of_le V_ca.lt (Nat.le_of_eq g21.symm))) nin0)) (Old.keep (Old.ext O0 E21) K22 (allS g_b21 all0)) S_AD S_HI S_LO) hZ (hw _ (mo 82 rfl)) (hw _ (mo 71 rfl)) (by decide) (by decide)) (g := (mkF m 23 #[vr ca, vi 0, vi 3, vr b21, vi 0, uu] [(.int (3 : Int32)), (ii 0), (.ref ca)])) rfl (by rw [hml]; rfl) (argsL := [(.ref ca), (ii 0), (.int (3 : Int32))]) (rest := []) (lenOf pd_1 rfl) rfl (Nat.le_of_eq rfl) (hb hby d14_23) (fun _ _ => ⟨rfl, rfl, (by decide : 2 ≤ _), (by decide : 9 ≤ _)⟩)
    dsimp only [Pt.U, Pt.locs, Pt.cells, Pt.slots] at X24 l24 y24 z24 st24 hQ24
    subst l24 y24 z24
    obtain ⟨t24, kb24, rfl, N24q, K24, zt24, V24⟩ := hQ24
    have N24 := Fr.app N22 N24q
    have KK24 : Keep h0 T24.heap [] := Keep.trans KK22 K24 all0
    have sz_t24 : h0.size ≤ t24 := Nat.le_trans KK22.1 zt24
    have g_t24 : n0 ≤ t24 := Nat.le_trans Z0 sz_t24
    refine bN T24 (mkF m 26 #[vr ca, vi 0, vi 3, vr b21, vi 0, uu] [(.ref t24)]) (fun _ k => st24 _ k) ?_
    refine bN T24 (mkF m 28 #[vr ca, vi 0, vi 3, vr b21, vi 0, vr t24] []) (fun _ k => XS.astore X24.here hx rfl (hb hby d14_26) rfl rfl rfl k) ?_
    refine bN T24 (mkF m 30 #[vr ca, vi 0, vi 3, vr b21, vi 0, vr t24] [(.ref t24)]) (fun _ k => XS.aload X24.here hx rfl (hb hby d14_28) rfl rfl k) ?_
    refine bN T24 (mkF m 32 #[vr ca, vi 0, vi 3, vr b21, vi 0, vr t24] [(ii 0), (.ref t24)]) (fun _ k => XS.iload X24.here hx rfl (hb hby d14_30) rfl k) ?_
    obtain ⟨_, _, ⟨T25, L25, k25, n25⟩, -, X25, ⟨Lc25, hQ25, l25, y25, z25⟩, st25⟩ := Jvm.LawKit.callS X24 hx (y := yy8) hown (mvT hZ (hw _ (mo 96 rfl))) (mvT hZ (hw _ (mo 97 rfl))) (mvT hZ (hw _ (mo 71 rfl))) (mvT hZ (hw _ (mo 98 rfl))) (by decide) (backOf (W := 0) (get_0 l Z a0 hw [] t24 kb24 (6 : Int32) (wb3 c0 c1 c2) (b0 c0) (b1 c0) T24.heap n0 (Nat.le_trans (Nat.le_trans (Nat.le_trans Z0 E21.1) K22.1) K24.1) (Sta.ext ((Old.keep (Old.keep (Old.ext O0 E21) K22 (allS g_b21 all0)) K24 all0)).2 S_AD) (Sta.ext ((Old.keep (Old.keep (Old.ext O0 E21) K22 (allS g_b21 all0)) K24 all0)).2 S_HI) (Sta.ext ((Old.keep (Old.keep (Old.ext O0 E21) K22 (allS g_b21 all0)) K24 all0)).2 S_LO) V24 (by decide) (by decide) rfl rfl) hZ (hw _ (mo 98 rfl)) (hw _ (mo 71 rfl)) (by decide) (by decide)) (g := (mkF m 32 #[vr ca, vi 0, vi 3, vr b21, vi 0, vr t24] [(ii 0), (.ref t24)])) rfl (by rw [hml]; rfl) (argsL := [(.ref t24), (ii 0)]) (rest := []) (lenOf pd_7 rfl) rfl (Nat.le_of_eq rfl) (hb hby d14_32) (fun _ _ => ⟨rfl, rfl, (by decide : 2 ≤ _), (by decide : 9 ≤ _)⟩)
    dsimp only [Pt.U, Pt.locs, Pt.cells, Pt.slots] at X25 l25 y25 z25 st25 hQ25
    subst l25 y25 z25
    obtain ⟨vq25, N25q, e25⟩ := hQ25
    obtain rfl := vq25.trans (congrArg (fun z => some (Value.int z)) (own_pair hr0))
    have N25 := Fr.app N24 N25q
    refine bN T25 (mkF m 35 #[vr ca, vi 0, vi 3, vr b21, vi 0, vr t24] [(.int c0)]) (fun _ k => st25 _ k) ?_
    refine bN T25 (mkF m 38 #[vr ca, vi 0, vi 3, vr b21, vi 0, vr t24] [(.int (255 : Int32)), (.int c0)]) (fun _ k => XS.sipush X25.here hx rfl (hb hby d14_35) k) ?_
    refine bN T25 (mkF m 54 #[vr ca, vi 0, vi 3, vr b21, vi 0, vr t24] []) (fun _ k => XS.icmpYes X25.here hx rfl (pc0 := 38) (pc' := 54) rfl (hb hby d14_38) rfl (tlt u0).2.2.1 (by decide) (by decide) k) ?_
    refine bN T25 (mkF m 56 #[vr ca, vi 0, vi 3, vr b21, vi 0, vr t24] [(.ref t24)]) (fun _ k => XS.aload X25.here hx rfl (hb hby d14_54) rfl rfl k) ?_
    refine own_ret X25 hlk (v := some (.ref t24)) (nvr Bd.returns) (fun fs hr => retOut X25 hx Bd.returns rfl (Or.inr (Or.inr (Or.inr (Or.inr ⟨rfl, rfl, rfl⟩)))) (hb hby d14_56) hr) ?_ (by decide) (by decide)
    rw [e25]
    exact ⟨_, _, rfl, N25, KK24, sz_t24, V24⟩
  · skip
    have hk26 : own_k3 c0 c1 c2 = (1 : Int32) := ((if_neg u0).trans (if_pos u1))
    rw [hk26]
    refine bN T22 (mkF m 14 #[vr ca, vi 0, vi 3, vr b21, vi 1, uu] []) (fun _ k => XS.istore X22.here hx rfl (hb hby d14_12) rfl rfl k) ?_
    refine bN T22 (mkF m 16 #[vr ca, vi 0, vi 3, vr b21, vi 1, uu] [(.int (1 : Int32))]) (fun _ k => XS.iload X22.here hx rfl (hb hby d14_14) rfl k) ?_
    refine bN T22 (mkF m 17 #[vr ca, vi 0, vi 3, vr b21, vi 1, uu] [(.int (3 : Int32)), (.int (1 : Int32))]) (fun _ k => XS.iloadN X22.here hx rfl (hb hby d14_16) rfl k) ?_
    refine bN T22 (mkF m 20 #[vr ca, vi 0, vi 3, vr b21, vi 1, uu] []) (fun _ k => XS.icmpNo X22.here hx rfl (hb hby d14_17) rfl (feq (by decide)).1 k) ?_
    refine bN T22 (mkF m 21 #[vr ca, vi 0, vi 3, vr b21, vi 1, uu] [(.ref ca)]) (fun _ k => XS.aloadN X22.here hx rfl (hb hby d14_20) rfl rfl k) ?_
    refine bN T22 (mkF m 22 #[vr ca, vi 0, vi 3, vr b21, vi 1, uu] [(ii 0), (.ref ca)]) (fun _ k => XS.iloadN X22.here hx rfl (hb hby d14_21) rfl k) ?_
    refine bN T22 (mkF m 23 #[vr ca, vi 0, vi 3, vr b21, vi 1, uu] [(.int (3 : Int32)), (ii 0), (.ref ca)]) (fun _ k => XS.iloadN X22.here hx rfl (hb hby d14_22) rfl k) ?_
    obtain ⟨_, _, ⟨T27, L27, k27, n27⟩, -, X27, ⟨Lc27, hQ27, l27, y27, z27⟩, st27⟩ := Jvm.LawKit.callS X22 hx (y := yy11) hown (mvT hZ (hw _ (mo 80 rfl))) (mvT hZ (hw _ (mo 81 rfl))) (mvT hZ (hw _ (mo 71 rfl))) (mvT hZ (hw _ (mo 82 rfl))) (by decide) (backOf (W := 0) (tby_3 l Z a0 hw [] ca kc c0 c1 c2 T22.heap n0 (Nat.le_trans (Nat.le_trans Z0 E21.1) K22.1) (Arv.keep (Arv.ext V_ca E21) K22 (ninS (Nat.ne_of_lt (Nat.lt_of_lt_of_le V_ca.lt (Nat.le_of_eq g21.symm))) nin0)) (Old.keep (Old.ext O0 E21) K22 (allS g_b21 all0)) S_AD S_HI S_LO) hZ (hw _ (mo 82 rfl)) (hw _ (mo 71 rfl)) (by decide) (by decide)) (g := (mkF m 23 #[vr ca, vi 0, vi 3, vr b21, vi 1, uu] [(.int (3 : Int32)), (ii 0), (.ref ca)])) rfl (by rw [hml]; rfl) (argsL := [(.ref ca), (ii 0), (.int (3 : Int32))]) (rest := []) (lenOf pd_1 rfl) rfl (Nat.le_of_eq rfl) (hb hby d14_23) (fun _ _ => ⟨rfl, rfl, (by decide : 2 ≤ _), (by decide : 9 ≤ _)⟩)
    dsimp only [Pt.U, Pt.locs, Pt.cells, Pt.slots] at X27 l27 y27 z27 st27 hQ27
    subst l27 y27 z27
    obtain ⟨t27, kb27, rfl, N27q, K27, zt27, V27⟩ := hQ27
    have N27 := Fr.app N22 N27q
    have KK27 : Keep h0 T27.heap [] := Keep.trans KK22 K27 all0
    have sz_t27 : h0.size ≤ t27 := Nat.le_trans KK22.1 zt27
    have g_t27 : n0 ≤ t27 := Nat.le_trans Z0 sz_t27
    refine bN T27 (mkF m 26 #[vr ca, vi 0, vi 3, vr b21, vi 1, uu] [(.ref t27)]) (fun _ k => st27 _ k) ?_
    refine bN T27 (mkF m 28 #[vr ca, vi 0, vi 3, vr b21, vi 1, vr t27] []) (fun _ k => XS.astore X27.here hx rfl (hb hby d14_26) rfl rfl rfl k) ?_
    refine bN T27 (mkF m 30 #[vr ca, vi 0, vi 3, vr b21, vi 1, vr t27] [(.ref t27)]) (fun _ k => XS.aload X27.here hx rfl (hb hby d14_28) rfl rfl k) ?_
    refine bN T27 (mkF m 32 #[vr ca, vi 0, vi 3, vr b21, vi 1, vr t27] [(.int (1 : Int32)), (.ref t27)]) (fun _ k => XS.iload X27.here hx rfl (hb hby d14_30) rfl k) ?_
    obtain ⟨_, _, ⟨T28, L28, k28, n28⟩, -, X28, ⟨Lc28, hQ28, l28, y28, z28⟩, st28⟩ := Jvm.LawKit.callS X27 hx (y := yy8) hown (mvT hZ (hw _ (mo 96 rfl))) (mvT hZ (hw _ (mo 97 rfl))) (mvT hZ (hw _ (mo 71 rfl))) (mvT hZ (hw _ (mo 98 rfl))) (by decide) (backOf (W := 0) (get_1 l Z a0 hw [] t27 kb27 (6 : Int32) (wb3 c0 c1 c2) (b0 c1) (b1 c1) T27.heap n0 (Nat.le_trans (Nat.le_trans (Nat.le_trans Z0 E21.1) K22.1) K27.1) (Sta.ext ((Old.keep (Old.keep (Old.ext O0 E21) K22 (allS g_b21 all0)) K27 all0)).2 S_AD) (Sta.ext ((Old.keep (Old.keep (Old.ext O0 E21) K22 (allS g_b21 all0)) K27 all0)).2 S_HI) (Sta.ext ((Old.keep (Old.keep (Old.ext O0 E21) K22 (allS g_b21 all0)) K27 all0)).2 S_LO) V27 (by decide) (by decide) rfl rfl) hZ (hw _ (mo 98 rfl)) (hw _ (mo 71 rfl)) (by decide) (by decide)) (g := (mkF m 32 #[vr ca, vi 0, vi 3, vr b21, vi 1, vr t27] [(.int (1 : Int32)), (.ref t27)])) rfl (by rw [hml]; rfl) (argsL := [(.ref t27), (.int (1 : Int32))]) (rest := []) (lenOf pd_7 rfl) rfl (Nat.le_of_eq rfl) (hb hby d14_32) (fun _ _ => ⟨rfl, rfl, (by decide : 2 ≤ _), (by decide : 9 ≤ _)⟩)
    dsimp only [Pt.U, Pt.locs, Pt.cells, Pt.slots] at X28 l28 y28 z28 st28 hQ28
    subst l28 y28 z28
    obtain ⟨vq28, N28q, e28⟩ := hQ28
    obtain rfl := vq28.trans (congrArg (fun z => some (Value.int z)) (own_pair hr1))
    have N28 := Fr.app N27 N28q
    refine bN T28 (mkF m 35 #[vr ca, vi 0, vi 3, vr b21, vi 1, vr t27] [(.int c1)]) (fun _ k => st28 _ k) ?_
    refine bN T28 (mkF m 38 #[vr ca, vi 0, vi 3, vr b21, vi 1, vr t27] [(.int (255 : Int32)), (.int c1)]) (fun _ k => XS.sipush X28.here hx rfl (hb hby d14_35) k) ?_
    refine bN T28 (mkF m 54 #[vr ca, vi 0, vi 3, vr b21, vi 1, vr t27] []) (fun _ k => XS.icmpYes X28.here hx rfl (pc0 := 38) (pc' := 54) rfl (hb hby d14_38) rfl (tlt u1).2.2.1 (by decide) (by decide) k) ?_
    refine bN T28 (mkF m 56 #[vr ca, vi 0, vi 3, vr b21, vi 1, vr t27] [(.ref t27)]) (fun _ k => XS.aload X28.here hx rfl (hb hby d14_54) rfl rfl k) ?_
    refine own_ret X28 hlk (v := some (.ref t27)) (nvr Bd.returns) (fun fs hr => retOut X28 hx Bd.returns rfl (Or.inr (Or.inr (Or.inr (Or.inr ⟨rfl, rfl, rfl⟩)))) (hb hby d14_56) hr) ?_ (by decide) (by decide)
    rw [e28]
    exact ⟨_, _, rfl, N28, KK27, sz_t27, V27⟩
  · skip
    have hk29 : own_k3 c0 c1 c2 = (2 : Int32) := (((if_neg u0).trans (if_neg u1)).trans (if_pos u2))
    rw [hk29]
    refine bN T22 (mkF m 14 #[vr ca, vi 0, vi 3, vr b21, vi 2, uu] []) (fun _ k => XS.istore X22.here hx rfl (hb hby d14_12) rfl rfl k) ?_
    refine bN T22 (mkF m 16 #[vr ca, vi 0, vi 3, vr b21, vi 2, uu] [(.int (2 : Int32))]) (fun _ k => XS.iload X22.here hx rfl (hb hby d14_14) rfl k) ?_
    refine bN T22 (mkF m 17 #[vr ca, vi 0, vi 3, vr b21, vi 2, uu] [(.int (3 : Int32)), (.int (2 : Int32))]) (fun _ k => XS.iloadN X22.here hx rfl (hb hby d14_16) rfl k) ?_
    refine bN T22 (mkF m 20 #[vr ca, vi 0, vi 3, vr b21, vi 2, uu] []) (fun _ k => XS.icmpNo X22.here hx rfl (hb hby d14_17) rfl (feq (by decide)).1 k) ?_
    refine bN T22 (mkF m 21 #[vr ca, vi 0, vi 3, vr b21, vi 2, uu] [(.ref ca)]) (fun _ k => XS.aloadN X22.here hx rfl (hb hby d14_20) rfl rfl k) ?_
    refine bN T22 (mkF m 22 #[vr ca, vi 0, vi 3, vr b21, vi 2, uu] [(ii 0), (.ref ca)]) (fun _ k => XS.iloadN X22.here hx rfl (hb hby d14_21) rfl k) ?_
    refine bN T22 (mkF m 23 #[vr ca, vi 0, vi 3, vr b21, vi 2, uu] [(.int (3 : Int32)), (ii 0), (.ref ca)]) (fun _ k => XS.iloadN X22.here hx rfl (hb hby d14_22) rfl k) ?_
    obtain ⟨_, _, ⟨T30, L30, k30, n30⟩, -, X30, ⟨Lc30, hQ30, l30, y30, z30⟩, st30⟩ := Jvm.LawKit.callS X22 hx (y := yy11) hown (mvT hZ (hw _ (mo 80 rfl))) (mvT hZ (hw _ (mo 81 rfl))) (mvT hZ (hw _ (mo 71 rfl))) (mvT hZ (hw _ (mo 82 rfl))) (by decide) (backOf (W := 0) (tby_3 l Z a0 hw [] ca kc c0 c1 c2 T22.heap n0 (Nat.le_trans (Nat.le_trans Z0 E21.1) K22.1) (Arv.keep (Arv.ext V_ca E21) K22 (ninS (Nat.ne_of_lt (Nat.lt_of_lt_of_le V_ca.lt (Nat.le_of_eq g21.symm))) nin0)) (Old.keep (Old.ext O0 E21) K22 (allS g_b21 all0)) S_AD S_HI S_LO) hZ (hw _ (mo 82 rfl)) (hw _ (mo 71 rfl)) (by decide) (by decide)) (g := (mkF m 23 #[vr ca, vi 0, vi 3, vr b21, vi 2, uu] [(.int (3 : Int32)), (ii 0), (.ref ca)])) rfl (by rw [hml]; rfl) (argsL := [(.ref ca), (ii 0), (.int (3 : Int32))]) (rest := []) (lenOf pd_1 rfl) rfl (Nat.le_of_eq rfl) (hb hby d14_23) (fun _ _ => ⟨rfl, rfl, (by decide : 2 ≤ _), (by decide : 9 ≤ _)⟩)
    dsimp only [Pt.U, Pt.locs, Pt.cells, Pt.slots] at X30 l30 y30 z30 st30 hQ30
    subst l30 y30 z30
    obtain ⟨t30, kb30, rfl, N30q, K30, zt30, V30⟩ := hQ30
    have N30 := Fr.app N22 N30q
    have KK30 : Keep h0 T30.heap [] := Keep.trans KK22 K30 all0
    have sz_t30 : h0.size ≤ t30 := Nat.le_trans KK22.1 zt30
    have g_t30 : n0 ≤ t30 := Nat.le_trans Z0 sz_t30
    refine bN T30 (mkF m 26 #[vr ca, vi 0, vi 3, vr b21, vi 2, uu] [(.ref t30)]) (fun _ k => st30 _ k) ?_
    refine bN T30 (mkF m 28 #[vr ca, vi 0, vi 3, vr b21, vi 2, vr t30] []) (fun _ k => XS.astore X30.here hx rfl (hb hby d14_26) rfl rfl rfl k) ?_
    refine bN T30 (mkF m 30 #[vr ca, vi 0, vi 3, vr b21, vi 2, vr t30] [(.ref t30)]) (fun _ k => XS.aload X30.here hx rfl (hb hby d14_28) rfl rfl k) ?_
    refine bN T30 (mkF m 32 #[vr ca, vi 0, vi 3, vr b21, vi 2, vr t30] [(.int (2 : Int32)), (.ref t30)]) (fun _ k => XS.iload X30.here hx rfl (hb hby d14_30) rfl k) ?_
    obtain ⟨_, _, ⟨T31, L31, k31, n31⟩, -, X31, ⟨Lc31, hQ31, l31, y31, z31⟩, st31⟩ := Jvm.LawKit.callS X30 hx (y := yy8) hown (mvT hZ (hw _ (mo 96 rfl))) (mvT hZ (hw _ (mo 97 rfl))) (mvT hZ (hw _ (mo 71 rfl))) (mvT hZ (hw _ (mo 98 rfl))) (by decide) (backOf (W := 0) (get_2 l Z a0 hw [] t30 kb30 (6 : Int32) (wb3 c0 c1 c2) (b0 c2) (b1 c2) T30.heap n0 (Nat.le_trans (Nat.le_trans (Nat.le_trans Z0 E21.1) K22.1) K30.1) (Sta.ext ((Old.keep (Old.keep (Old.ext O0 E21) K22 (allS g_b21 all0)) K30 all0)).2 S_AD) (Sta.ext ((Old.keep (Old.keep (Old.ext O0 E21) K22 (allS g_b21 all0)) K30 all0)).2 S_HI) (Sta.ext ((Old.keep (Old.keep (Old.ext O0 E21) K22 (allS g_b21 all0)) K30 all0)).2 S_LO) V30 (by decide) (by decide) rfl rfl) hZ (hw _ (mo 98 rfl)) (hw _ (mo 71 rfl)) (by decide) (by decide)) (g := (mkF m 32 #[vr ca, vi 0, vi 3, vr b21, vi 2, vr t30] [(.int (2 : Int32)), (.ref t30)])) rfl (by rw [hml]; rfl) (argsL := [(.ref t30), (.int (2 : Int32))]) (rest := []) (lenOf pd_7 rfl) rfl (Nat.le_of_eq rfl) (hb hby d14_32) (fun _ _ => ⟨rfl, rfl, (by decide : 2 ≤ _), (by decide : 9 ≤ _)⟩)
    dsimp only [Pt.U, Pt.locs, Pt.cells, Pt.slots] at X31 l31 y31 z31 st31 hQ31
    subst l31 y31 z31
    obtain ⟨vq31, N31q, e31⟩ := hQ31
    obtain rfl := vq31.trans (congrArg (fun z => some (Value.int z)) (own_pair hr2))
    have N31 := Fr.app N30 N31q
    refine bN T31 (mkF m 35 #[vr ca, vi 0, vi 3, vr b21, vi 2, vr t30] [(.int c2)]) (fun _ k => st31 _ k) ?_
    refine bN T31 (mkF m 38 #[vr ca, vi 0, vi 3, vr b21, vi 2, vr t30] [(.int (255 : Int32)), (.int c2)]) (fun _ k => XS.sipush X31.here hx rfl (hb hby d14_35) k) ?_
    refine bN T31 (mkF m 54 #[vr ca, vi 0, vi 3, vr b21, vi 2, vr t30] []) (fun _ k => XS.icmpYes X31.here hx rfl (pc0 := 38) (pc' := 54) rfl (hb hby d14_38) rfl (tlt u2).2.2.1 (by decide) (by decide) k) ?_
    refine bN T31 (mkF m 56 #[vr ca, vi 0, vi 3, vr b21, vi 2, vr t30] [(.ref t30)]) (fun _ k => XS.aload X31.here hx rfl (hb hby d14_54) rfl rfl k) ?_
    refine own_ret X31 hlk (v := some (.ref t30)) (nvr Bd.returns) (fun fs hr => retOut X31 hx Bd.returns rfl (Or.inr (Or.inr (Or.inr (Or.inr ⟨rfl, rfl, rfl⟩)))) (hb hby d14_56) hr) ?_ (by decide) (by decide)
    rw [e31]
    exact ⟨_, _, rfl, N31, KK30, sz_t30, V30⟩
theorem ef_cou_3 (m : MethodId) (ba : Addr) : entryFrame m #[(.ref ba), (.int (3 : Int32))] 2 = mkF m 0 #[vr ba, vi 3] [] := rfl
def Q_cou_3 (Z : State) (ba : Addr) (kb : ClassId) (c0 c1 c2 : Int32) (h0 : Heap) (n0 : Nat) (v : Option Value) (h : Heap) (L : List Loc) : Prop := v = some (.int (1 : Int32)) ∧ Fr n0 L ∧ h = h0
theorem cou_3 (l : Launch) (Z : State) (a0 : Array Value) (hw : HW Z a0) (ws : List Jvm.Cond) (ba : Addr) (kb : ClassId) (c0 c1 c2 : Int32) (h0 : Heap) (n0 : Nat) (Z0 : n0 ≤ h0.size) (V_ba : Arv Z h0 ba kb .byte (6 : Int32) (wb3 c0 c1 c2) (ii 0)) :
    own_M l yy4 jdk_52_method_15_code 2 (some .byte) ws rr0 Z #[(.ref ba), (.int (3 : Int32))] h0 (Q_cou_3 Z ba kb c0 c1 c2 h0 n0) := by
  refine own_bd (plainFor_of_name pn_16) fun p e s m below meth c s₁ Bd hx hby hml hown hnm hlk hZ X0 e0 => ?_
  rw [ef_cou_3 m ba]
  refine bN s₁ (mkF m 1 #[vr ba, vi 3] [(.int (3 : Int32))]) (fun _ k => XS.iloadN X0.here hx rfl (hb hby d16_0) rfl k) ?_
  refine bN s₁ (mkF m 2 #[vr ba, vi 3] [(.ref ba), (.int (3 : Int32))]) (fun _ k => XS.aloadN X0.here hx rfl (hb hby d16_1) rfl rfl k) ?_
  obtain ⟨cl21, Ar21, q21, S21, N_21, H21, G21⟩ := id V_ba
  refine bN s₁ (mkF m 3 #[vr ba, vi 3] [(.int (6 : Int32)), (.int (3 : Int32))]) (fun _ k => X0.arraylength hx (by rw [e0]; exact Ar21.1) (State.isArrayOf_alike hZ.alike Ar21.2.1) (g := (mkF m 2 #[vr ba, vi 3] [(.ref ba), (.int (3 : Int32))])) rfl rfl (hb hby d16_2) _ (by rw [len_of S21 N_21]; exact k)) ?_
  refine bN s₁ (mkF m 4 #[vr ba, vi 3] [(.int (-3 : Int32))]) (fun _ k => XS.isub X0.here hx rfl (hb hby d16_3) rfl k) ?_
  refine bN s₁ (mkF m 6 #[vr ba, vi 3] [(.int (31 : Int32)), (.int (-3 : Int32))]) (fun _ k => XS.bipush X0.here hx rfl (hb hby d16_4) k) ?_
  refine bN s₁ (mkF m 7 #[vr ba, vi 3] [(.int (1 : Int32))]) (fun _ k => XS.iushr X0.here hx rfl (hb hby d16_6) rfl k) ?_
  refine bN s₁ (mkF m 8 #[vr ba, vi 3] [(.int (1 : Int32))]) (fun _ k => XS.i2b X0.here hx rfl (hb hby d16_7) rfl k) ?_
  refine own_ret X0 hlk (v := some (.int (1 : Int32))) (nvr Bd.returns) (fun fs hr => retN X0 hx (t := .byte) Bd.returns (by simp) (hb hby d16_8) hr) ?_ (by decide) (by decide)
  rw [e0]
  exact ⟨rfl, (Fr.nil n0), rfl⟩
theorem ef_siu4_3 (m : MethodId) (a ca : Addr) : entryFrame m #[(.ref a), (.ref ca), (ii 0), (.int (3 : Int32)), .null] 6 = mkF m 0 #[vr a, vr ca, vi 0, vi 3, .val .null, uu] [] := rfl
def Q_siu4_3 (Z : State) (a ca : Addr) (kc : ClassId) (cs c0 : Int32) (c1 c2 : Int32) (h0 : Heap) (n0 : Nat) (v : Option Value) (h : Heap) (L : List Loc) : Prop := v = none ∧ Fr n0 L ∧ Keep h0 h [a] ∧ Fld Z h a "java/lang/String" "coder" "B" (.int (1 : Int32)) ∧ ∃ (t : Addr) (kb : ClassId), h0.size ≤ t ∧ Fld Z h a "java/lang/String" "value" "[B" (.ref t) ∧ Arv Z h t kb .byte (6 : Int32) (wb3 c0 c1 c2) (ii 0)
theorem siu4_3 (l : Launch) (Z : State) (a0 : Array Value) (hw : HW Z a0) (ws : List Jvm.Cond) (a ca : Addr) (kc : ClassId) (cs c0 : Int32) (c1 c2 : Int32) (h0 : Heap) (n0 : Nat) (Z0 : n0 ≤ h0.size) (E_a : Exa Z h0 a "java/lang/String") (F_value_a : Fld Z h0 a "java/lang/String" "value" "[B" .null) (F_coder_a : Fld Z h0 a "java/lang/String" "coder" "B" (ii 0)) (g_a : n0 ≤ a) (V_ca : Arv Z h0 ca kc .char (3 : Int32) [(.int c0), (.int c1), (.int c2)] (ii 0)) (S_CS : Sta Z h0 "java/lang/String" "COMPACT_STRINGS" "Z" (.int cs)) (hcs : ¬ cs = (0 : Int32)) (O0 : Old Z n0 h0) (S_AD : Sta Z Z.heap "java/lang/StringUTF16" "$assertionsDisabled" "Z" (.int (1 : Int32))) (S_HI : Sta Z Z.heap "java/lang/StringUTF16" "HI_BYTE_SHIFT" "I" (ii 0)) (S_LO : Sta Z Z.heap "java/lang/StringUTF16" "LO_BYTE_SHIFT" "I" (.int (8 : Int32))) (hr0 : 0 ≤ c0.toInt ∧ c0.toInt ≤ 65535) (hr1 : 0 ≤ c1.toInt ∧ c1.toInt ≤ 65535) (hr2 : 0 ≤ c2.toInt ∧ c2.toInt ≤ 65535) (hU : ((255 : Int32) < c0) ∨ (¬ (255 : Int32) < c0 ∧ (255 : Int32) < c1) ∨ (¬ (255 : Int32) < c0 ∧ ¬ (255 : Int32) < c1 ∧ (255 : Int32) < c2)) :
    own_M l yy5 jdk_42_method_149_code 6 none ws rr34 Z #[(.ref a), (.ref ca), (ii 0), (.int (3 : Int32)), .null] h0 (Q_siu4_3 Z a ca kc cs c0 c1 c2 h0 n0) := by
  refine own_bd (plainFor_of_name pn_4) fun p e s m below meth c s₁ Bd hx hby hml hown hnm hlk hZ X0 e0 => ?_
  rw [ef_siu4_3 m a ca]
  refine bN s₁ (mkF m 1 #[vr a, vr ca, vi 0, vi 3, .val .null, uu] [(.ref a)]) (fun _ k => XS.aloadN X0.here hx rfl (hb hby d4_0) rfl rfl k) ?_
  obtain ⟨T21, X21, e21, st21⟩ := initO X0 hx hZ hown (hw _ (mo 20 rfl)) (hw _ (mo 21 rfl)) (hw _ (mo 22 rfl)) e0 (g := (mkF m 1 #[vr a, vr ca, vi 0, vi 3, .val .null, uu] [(.ref a)])) rfl (by rw [hml]; rfl) rfl (hb hby d4_1) (by decide) (W := 0) (Nat.le_of_eq rfl) (by decide)
  refine bN T21 (mkF m 4 #[vr a, vr ca, vi 0, vi 3, .val .null, uu] []) (fun _ k => st21 _ k) ?_
  refine bN T21 (mkF m 5 #[vr a, vr ca, vi 0, vi 3, .val .null, uu] [(.int (3 : Int32))]) (fun _ k => XS.iloadN X21.here hx rfl (hb hby d4_4) rfl k) ?_
  refine bN T21 (mkF m 27 #[vr a, vr ca, vi 0, vi 3, .val .null, uu] []) (fun _ k => XS.ifYes X21.here hx rfl (pc0 := 5) (pc' := 27) rfl (hb hby d4_5) rfl ((if0 _ _).trans (feq (by decide)).2) (by decide) (by decide) k) ?_
  obtain ⟨T22, X22, e22, st22⟩ := getS2 X21 hx hZ hown (host := "") (Or.inl (hw _ (mo 51 rfl))) Via.refl e21 S_CS (g := (mkF m 27 #[vr a, vr ca, vi 0, vi 3, .val .null, uu] [])) rfl (hb hby d4_27)
  refine bN T22 (mkF m 30 #[vr a, vr ca, vi 0, vi 3, .val .null, uu] [(.int cs)]) (fun _ k => st22 _ k) ?_
  refine bN T22 (mkF m 33 #[vr a, vr ca, vi 0, vi 3, .val .null, uu] []) (fun _ k => XS.ifNo X22.here hx rfl (hb hby d4_30) rfl ((if0 _ _).trans (feq hcs).1) k) ?_
  refine bN T22 (mkF m 34 #[vr a, vr ca, vi 0, vi 3, .val .null, uu] [(.ref ca)]) (fun _ k => XS.aloadN X22.here hx rfl (hb hby d4_33) rfl rfl k) ?_
  refine bN T22 (mkF m 35 #[vr a, vr ca, vi 0, vi 3, .val .null, uu] [(ii 0), (.ref ca)]) (fun _ k => XS.iloadN X22.here hx rfl (hb hby d4_34) rfl k) ?_
  refine bN T22 (mkF m 36 #[vr a, vr ca, vi 0, vi 3, .val .null, uu] [(.int (3 : Int32)), (ii 0), (.ref ca)]) (fun _ k => XS.iloadN X22.here hx rfl (hb hby d4_35) rfl k) ?_
  obtain ⟨_, _, ⟨T23, L23, k23, n23⟩, -, X23, ⟨Lc23, hQ23, l23, y23, z23⟩, st23⟩ := Jvm.LawKit.callS X22 hx (y := yy3) hown (mvT hZ (hw _ (mo 69 rfl))) (mvT hZ (hw _ (mo 70 rfl))) (mvT hZ (hw _ (mo 71 rfl))) (mvT hZ (hw _ (mo 72 rfl))) (by decide) (backOf (W := 0) (cmu_3 l Z a0 hw [] ca kc c0 c1 c2 h0 n0 Z0 V_ca O0 S_AD S_HI S_LO hr0 hr1 hr2 hU) hZ (hw _ (mo 72 rfl)) (hw _ (mo 71 rfl)) (by decide) (by decide)) (g := (mkF m 36 #[vr a, vr ca, vi 0, vi 3, .val .null, uu] [(.int (3 : Int32)), (ii 0), (.ref ca)])) rfl (by rw [hml]; rfl) (argsL := [(.ref ca), (ii 0), (.int (3 : Int32))]) (rest := []) (lenOf pd_1 rfl) rfl (Nat.le_of_eq rfl) (hb hby d4_36) (fun _ _ => ⟨rfl, e22, (by decide : 2 ≤ _), (by decide : 9 ≤ _)⟩)
  dsimp only [Pt.U, Pt.locs, Pt.cells, Pt.slots] at X23 l23 y23 z23 st23 hQ23
  subst l23 y23 z23
  obtain ⟨t23, kb23, rfl, N23q, K23, zt23, V23⟩ := hQ23
  have N23 := Fr.app (Fr.nil n0) N23q
  have KK23 : Keep h0 T23.heap [a] := Keep.trans (Keep.refl h0 [a]) K23 all0
  have sz_t23 : h0.size ≤ t23 := Nat.le_trans (Keep.refl h0 [a]).1 zt23
  have g_t23 : n0 ≤ t23 := Nat.le_trans Z0 sz_t23
  refine bN T23 (mkF m 39 #[vr a, vr ca, vi 0, vi 3, .val .null, uu] [(.ref t23)]) (fun _ k => st23 _ k) ?_
  refine bN T23 (mkF m 41 #[vr a, vr ca, vi 0, vi 3, .val .null, vr t23] []) (fun _ k => XS.astore X23.here hx rfl (hb hby d4_39) rfl rfl rfl k) ?_
  refine bN T23 (mkF m 42 #[vr a, vr ca, vi 0, vi 3, .val .null, vr t23] [(.ref a)]) (fun _ k => XS.aloadN X23.here hx rfl (hb hby d4_41) rfl rfl k) ?_
  refine bN T23 (mkF m 44 #[vr a, vr ca, vi 0, vi 3, .val .null, vr t23] [(.ref t23), (.ref a)]) (fun _ k => XS.aload X23.here hx rfl (hb hby d4_42) rfl rfl k) ?_
  refine bN T23 (mkF m 45 #[vr a, vr ca, vi 0, vi 3, .val .null, vr t23] [(.int (3 : Int32)), (.ref t23), (.ref a)]) (fun _ k => XS.iloadN X23.here hx rfl (hb hby d4_44) rfl k) ?_
  obtain ⟨_, _, ⟨T24, L24, k24, n24⟩, -, X24, ⟨Lc24, hQ24, l24, y24, z24⟩, st24⟩ := Jvm.LawKit.callS X23 hx (y := yy4) hown (mvT hZ (hw _ (mo 76 rfl))) (mvT hZ (hw _ (mo 77 rfl))) (mvT hZ (hw _ (mo 71 rfl))) (mvT hZ (hw _ (mo 78 rfl))) (by decide) (backOf (W := 1) (cou_3 l Z a0 hw [] t23 kb23 c0 c1 c2 T23.heap n0 (Nat.le_trans Z0 K23.1) V23) hZ (hw _ (mo 78 rfl)) (hw _ (mo 71 rfl)) (by decide) (by decide)) (g := (mkF m 45 #[vr a, vr ca, vi 0, vi 3, .val .null, vr t23] [(.int (3 : Int32)), (.ref t23), (.ref a)])) rfl (by rw [hml]; rfl) (argsL := [(.ref t23), (.int (3 : Int32))]) (rest := [(.ref a)]) (lenOf pd_2 rfl) rfl (Nat.le_of_eq rfl) (hb hby d4_45) (fun _ _ => ⟨rfl, rfl, (by decide : 2 ≤ _), (by decide : 9 ≤ _)⟩)
  dsimp only [Pt.U, Pt.locs, Pt.cells, Pt.slots] at X24 l24 y24 z24 st24 hQ24
  subst l24 y24 z24
  obtain ⟨rfl, N24q, e24⟩ := hQ24
  have N24 := Fr.app N23 N24q
  refine bN T24 (mkF m 48 #[vr a, vr ca, vi 0, vi 3, .val .null, vr t23] [(.int (1 : Int32)), (.ref a)]) (fun _ k => st24 _ k) ?_
  obtain ⟨T25, h25, X25, e25, W25, st25⟩ := putFN X24 hx hZ hown (hw _ (mo 30 rfl)) Via.refl e24 (Fld.keep F_coder_a K23 nin0) (Exa.keep E_a K23) (Or.inr ⟨(hw _ (mo 26 rfl)), rfl, hnm⟩) (hw _ (mo 11 rfl)) (ty := .byte) (v' := (.int (1 : Int32))) (by decide) rfl (by decide) (g := (mkF m 48 #[vr a, vr ca, vi 0, vi 3, .val .null, vr t23] [(.int (1 : Int32)), (.ref a)])) rfl rfl (hb hby d4_48)
  have Fw25 : Fld Z h25 a "java/lang/String" "coder" "B" (.int (1 : Int32)) := Fld.same W25 (Fld.keep F_coder_a K23 nin0)
  have K25 : Keep h0 h25 [a] := Keep.wr KK23 W25 (Or.inl (mo 0 rfl))
  have N25 := Fr.snoc X25 N24 g_a
  refine bN T25 (mkF m 51 #[vr a, vr ca, vi 0, vi 3, .val .null, vr t23] []) (fun _ k => st25 _ k) ?_
  refine bN T25 (mkF m 52 #[vr a, vr ca, vi 0, vi 3, .val .null, vr t23] [(.ref a)]) (fun _ k => XS.aloadN X25.here hx rfl (hb hby d4_51) rfl rfl k) ?_
  refine bN T25 (mkF m 54 #[vr a, vr ca, vi 0, vi 3, .val .null, vr t23] [(.ref t23), (.ref a)]) (fun _ k => XS.aload X25.here hx rfl (hb hby d4_52) rfl rfl k) ?_
  obtain ⟨T26, h26, X26, e26, W26, st26⟩ := putF X25 hx hZ hown (host := "") (Or.inl (hw _ (mo 29 rfl))) Via.refl e25 (Fld.other W25 (Fld.keep F_value_a K23 nin0) (Or.inr (slot_ne (a0 := a0) (Or.inr (hw _ (mo 25 rfl))) (Or.inr (hw _ (mo 26 rfl))) (by decide) (t := (.array .byte)) (t' := .byte) (by decide) (by decide)))) (Exa.wr W25 (Exa.keep E_a K23)) (Or.inr ⟨(hw _ (mo 25 rfl)), rfl, hnm⟩) (hw _ (mo 11 rfl)) (ty := (.array .byte)) (by decide) rfl rfl (g := (mkF m 54 #[vr a, vr ca, vi 0, vi 3, .val .null, vr t23] [(.ref t23), (.ref a)])) rfl rfl (hb hby d4_54)
  have Fw26 : Fld Z h26 a "java/lang/String" "value" "[B" (.ref t23) := Fld.same W26 (Fld.other W25 (Fld.keep F_value_a K23 nin0) (Or.inr (slot_ne (a0 := a0) (Or.inr (hw _ (mo 25 rfl))) (Or.inr (hw _ (mo 26 rfl))) (by decide) (t := (.array .byte)) (t' := .byte) (by decide) (by decide))))
  have K26 : Keep h0 h26 [a] := Keep.wr K25 W26 (Or.inl (mo 0 rfl))
  have N26 := Fr.snoc X26 N25 g_a
  refine bN T26 (mkF m 57 #[vr a, vr ca, vi 0, vi 3, .val .null, vr t23] []) (fun _ k => st26 _ k) ?_
  refine own_ret X26 hlk (v := none) (fun _ => rfl) (fun fs hr => X26.returnOut hx Bd.returns (hb hby d4_57) hr) ?_ (by decide) (by decide)
  rw [e26]
  exact ⟨rfl, N26, K26, (Fld.other W26 Fw25 (Or.inr (slot_ne (a0 := a0) (Or.inr (hw _ (mo 26 rfl))) (Or.inr (hw _ (mo 25 rfl))) (by decide) (t := .byte) (t' := (.array .byte)) (by decide) (by decide)))), _, _, sz_t23, Fw26, (Arv.other (Arv.other V23 W25 (Ne.symm (Nat.ne_of_lt (Nat.lt_of_lt_of_le (E_a).lt zt23)))) W26 (Ne.symm (Nat.ne_of_lt (Nat.lt_of_lt_of_le (E_a).lt zt23))))⟩
theorem ef_siu1_3 (m : MethodId) (a ca : Addr) : entryFrame m #[(.ref a), (.ref ca)] 2 = mkF m 0 #[vr a, vr ca] [] := rfl
def Q_siu1_3 (Z : State) (a ca : Addr) (kc : ClassId) (cs c0 : Int32) (c1 c2 : Int32) (h0 : Heap) (n0 : Nat) (v : Option Value) (h : Heap) (L : List Loc) : Prop := v = none ∧ Fr n0 L ∧ Keep h0 h [a] ∧ Fld Z h a "java/lang/String" "coder" "B" (.int (1 : Int32)) ∧ ∃ (t : Addr) (kb : ClassId), h0.size ≤ t ∧ Fld Z h a "java/lang/String" "value" "[B" (.ref t) ∧ Arv Z h t kb .byte (6 : Int32) (wb3 c0 c1 c2) (ii 0)
theorem siu1_3 (l : Launch) (Z : State) (a0 : Array Value) (hw : HW Z a0) (ws : List Jvm.Cond) (a ca : Addr) (kc : ClassId) (cs c0 : Int32) (c1 c2 : Int32) (h0 : Heap) (n0 : Nat) (Z0 : n0 ≤ h0.size) (E_a : Exa Z h0 a "java/lang/String") (F_value_a : Fld Z h0 a "java/lang/String" "value" "[B" .null) (F_coder_a : Fld Z h0 a "java/lang/String" "coder" "B" (ii 0)) (g_a : n0 ≤ a) (V_ca : Arv Z h0 ca kc .char (3 : Int32) [(.int c0), (.int c1), (.int c2)] (ii 0)) (S_CS : Sta Z h0 "java/lang/String" "COMPACT_STRINGS" "Z" (.int cs)) (hcs : ¬ cs = (0 : Int32)) (O0 : Old Z n0 h0) (S_AD : Sta Z Z.heap "java/lang/StringUTF16" "$assertionsDisabled" "Z" (.int (1 : Int32))) (S_HI : Sta Z Z.heap "java/lang/StringUTF16" "HI_BYTE_SHIFT" "I" (ii 0)) (S_LO : Sta Z Z.heap "java/lang/StringUTF16" "LO_BYTE_SHIFT" "I" (.int (8 : Int32))) (hr0 : 0 ≤ c0.toInt ∧ c0.toInt ≤ 65535) (hr1 : 0 ≤ c1.toInt ∧ c1.toInt ≤ 65535) (hr2 : 0 ≤ c2.toInt ∧ c2.toInt ≤ 65535) (hU : ((255 : Int32) < c0) ∨ (¬ (255 : Int32) < c0 ∧ (255 : Int32) < c1) ∨ (¬ (255 : Int32) < c0 ∧ ¬ (255 : Int32) < c1 ∧ (255 : Int32) < c2)) :
    own_M l yy6 jdk_42_method_3_code 2 none ws rr35 Z #[(.ref a), (.ref ca)] h0 (Q_siu1_3 Z a ca kc cs c0 c1 c2 h0 n0) := by
  refine own_bd (plainFor_of_name pn_3) fun p e s m below meth c s₁ Bd hx hby hml hown hnm hlk hZ X0 e0 => ?_
  rw [ef_siu1_3 m a ca]
  refine bN s₁ (mkF m 1 #[vr a, vr ca] [(.ref a)]) (fun _ k => XS.aloadN X0.here hx rfl (hb hby d3_0) rfl rfl k) ?_
  refine bN s₁ (mkF m 2 #[vr a, vr ca] [(.ref ca), (.ref a)]) (fun _ k => XS.aloadN X0.here hx rfl (hb hby d3_1) rfl rfl k) ?_
  refine bN s₁ (mkF m 3 #[vr a, vr ca] [(ii 0), (.ref ca), (.ref a)]) (fun _ k => XS.iconst X0.here hx rfl (hb hby d3_2) k) ?_
  refine bN s₁ (mkF m 4 #[vr a, vr ca] [(.ref ca), (ii 0), (.ref ca), (.ref a)]) (fun _ k => XS.aloadN X0.here hx rfl (hb hby d3_3) rfl rfl k) ?_
  obtain ⟨cl21, Ar21, q21, S21, N_21, H21, G21⟩ := id V_ca
  refine bN s₁ (mkF m 5 #[vr a, vr ca] [(.int (3 : Int32)), (ii 0), (.ref ca), (.ref a)]) (fun _ k => X0.arraylength hx (by rw [e0]; exact Ar21.1) (State.isArrayOf_alike hZ.alike Ar21.2.1) (g := (mkF m 4 #[vr a, vr ca] [(.ref ca), (ii 0), (.ref ca), (.ref a)])) rfl rfl (hb hby d3_4) _ (by rw [len_of S21 N_21]; exact k)) ?_
  refine bN s₁ (mkF m 6 #[vr a, vr ca] [.null, (.int (3 : Int32)), (ii 0), (.ref ca), (.ref a)]) (fun _ k => XS.aconstNull X0.here hx rfl (hb hby d3_5) k) ?_
  obtain ⟨_, _, ⟨T22, L22, k22, n22⟩, -, X22, ⟨Lc22, hQ22, l22, y22, z22⟩, st22⟩ := X0.specialBack hx (y := yy5) rfl hown (mvT hZ (hw _ (mo 16 rfl))) (mvT hZ (hw _ (mo 17 rfl))) (mvT hZ (hw _ (mo 19 rfl))) (by decide) (backOf (W := 0) (siu4_3 l Z a0 hw [] a ca kc cs c0 c1 c2 h0 n0 Z0 E_a F_value_a F_coder_a g_a V_ca S_CS hcs O0 S_AD S_HI S_LO hr0 hr1 hr2 hU) hZ (hw _ (mo 19 rfl)) (hw _ (mo 12 rfl)) (by decide) (by decide)) (g := (mkF m 6 #[vr a, vr ca] [.null, (.int (3 : Int32)), (ii 0), (.ref ca), (.ref a)])) rfl (by rw [hml]; rfl) (Steps.refl _) (a := a) (argsL := [(.ref ca), (ii 0), (.int (3 : Int32)), .null]) (rest := []) (lenOf pd_3 rfl) rfl (Nat.le_of_eq rfl) (hb hby d3_6) (fun _ _ => ⟨rfl, e0, (by decide : 2 ≤ _), (by decide : 9 ≤ _)⟩)
  dsimp only [Pt.U, Pt.locs, Pt.cells, Pt.slots] at X22 l22 y22 z22 st22 hQ22
  subst l22 y22 z22
  obtain ⟨rfl, N22q, K22, Fc22, t22, kb22, zt22, Fv22, V22⟩ := hQ22
  have N22 := Fr.app (Fr.nil n0) N22q
  have KK22 : Keep h0 T22.heap [a] := Keep.trans (Keep.refl h0 [a]) K22 (allS (Or.inl (mo 0 rfl)) all0)
  have sz_t22 : h0.size ≤ t22 := zt22
  refine bN T22 (mkF m 9 #[vr a, vr ca] []) (fun _ k => st22.trans k) ?_
  refine own_ret X22 hlk (v := none) (fun _ => rfl) (fun fs hr => X22.returnOut hx Bd.returns (hb hby d3_9) hr) ?_ (by decide) (by decide)
  exact ⟨rfl, N22, KK22, Fc22, _, _, sz_t22, Fv22, V22⟩
theorem ef_tby_4 (m : MethodId) (ca : Addr) : entryFrame m #[(.ref ca), (ii 0), (.int (4 : Int32))] 5 = mkF m 0 #[vr ca, vi 0, vi 4, uu, uu] [] := rfl
def Q_tby_4 (Z : State) (ca : Addr) (kc : ClassId) (c0 c1 : Int32) (c2 c3 : Int32) (h0 : Heap) (n0 : Nat) (v : Option Value) (h : Heap) (L : List Loc) : Prop := ∃ (t : Addr) (kb : ClassId), v = some (.ref t) ∧ Fr n0 L ∧ Keep h0 h [] ∧ h0.size ≤ t ∧ Arv Z h t kb .byte (8 : Int32) (wb4 c0 c1 c2 c3) (ii 0)
theorem tby_4 (l : Launch) (Z : State) (a0 : Array Value) (hw : HW Z a0) (ws : List Jvm.Cond) (ca : Addr) (kc : ClassId) (c0 c1 : Int32) (c2 c3 : Int32) (h0 : Heap) (n0 : Nat) (Z0 : n0 ≤ h0.size) (V_ca : Arv Z h0 ca kc .char (4 : Int32) [(.int c0), (.int c1), (.int c2), (.int c3)] (ii 0)) (O0 : Old Z n0 h0) (S_AD : Sta Z Z.heap "java/lang/StringUTF16" "$assertionsDisabled" "Z" (.int (1 : Int32))) (S_HI : Sta Z Z.heap "java/lang/StringUTF16" "HI_BYTE_SHIFT" "I" (ii 0)) (S_LO : Sta Z Z.heap "java/lang/StringUTF16" "LO_BYTE_SHIFT" "I" (.int (8 : Int32))) :
    own_M l yy11 jdk_52_method_14_code 5 (some (.array .byte)) ws rr36 Z #[(.ref ca), (ii 0), (.int (4 : Int32))] h0 (Q_tby_4 Z ca kc c0 c1 c2 c3 h0 n0) := by
  refine own_bd (plainFor_of_name pn_17) fun p e s m below meth c s₁ Bd hx hby hml hown hnm hlk hZ X0 e0 => ?_
  rw [ef_tby_4 m ca]
  refine bN s₁ (mkF m 1 #[vr ca, vi 0, vi 4, uu, uu] [(.int (4 : Int32))]) (fun _ k => XS.iloadN X0.here hx rfl (hb hby d17_0) rfl k) ?_
  obtain ⟨_, _, ⟨T21, L21, k21, n21⟩, -, X21, ⟨Lc21, hQ21, l21, y21, z21⟩, st21⟩ := Jvm.LawKit.callS X0 hx (y := yy10) hown (mvT hZ (hw _ (mo 83 rfl))) (mvT hZ (hw _ (mo 84 rfl))) (mvT hZ (hw _ (mo 71 rfl))) (mvT hZ (hw _ (mo 85 rfl))) (by decide) (backOf (W := 0) (nbf_4 l Z a0 hw []   h0 n0 Z0 ) hZ (hw _ (mo 85 rfl)) (hw _ (mo 71 rfl)) (by decide) (by decide)) (g := (mkF m 1 #[vr ca, vi 0, vi 4, uu, uu] [(.int (4 : Int32))])) rfl (by rw [hml]; rfl) (argsL := [(.int (4 : Int32))]) (rest := []) (lenOf pd_5 rfl) rfl (Nat.le_of_eq rfl) (hb hby d17_1) (fun _ _ => ⟨rfl, e0, (by decide : 1 ≤ _), (by decide : 8 ≤ _)⟩)
  dsimp only [Pt.U, Pt.locs, Pt.cells, Pt.slots] at X21 l21 y21 z21 st21 hQ21
  subst l21 y21 z21
  obtain ⟨t21, kb21, rfl, N21q, K21, zt21, V21⟩ := hQ21
  have N21 := Fr.app (Fr.nil n0) N21q
  have KK21 : Keep h0 T21.heap [] := Keep.trans (Keep.refl h0 []) K21 all0
  have sz_t21 : h0.size ≤ t21 := Nat.le_trans (Keep.refl h0 []).1 zt21
  have g_t21 : n0 ≤ t21 := Nat.le_trans Z0 sz_t21
  refine bN T21 (mkF m 4 #[vr ca, vi 0, vi 4, uu, uu] [(.ref t21)]) (fun _ k => st21 _ k) ?_
  refine bN T21 (mkF m 5 #[vr ca, vi 0, vi 4, vr t21, uu] []) (fun _ k => XS.astoreN X21.here hx rfl (hb hby d17_4) rfl rfl rfl k) ?_
  refine bN T21 (mkF m 6 #[vr ca, vi 0, vi 4, vr t21, uu] [(ii 0)]) (fun _ k => XS.iconst X21.here hx rfl (hb hby d17_5) k) ?_
  refine bN T21 (mkF m 8 #[vr ca, vi 0, vi 4, vr t21, vi 0] []) (fun _ k => XS.istore X21.here hx rfl (hb hby d17_6) rfl rfl k) ?_
  refine bN T21 (mkF m 10 #[vr ca, vi 0, vi 4, vr t21, vi 0] [(ii 0)]) (fun _ k => XS.iload X21.here hx rfl (hb hby d17_8) rfl k) ?_
  refine bN T21 (mkF m 11 #[vr ca, vi 0, vi 4, vr t21, vi 0] [(.int (4 : Int32)), (ii 0)]) (fun _ k => XS.iloadN X21.here hx rfl (hb hby d17_10) rfl k) ?_
  refine bN T21 (mkF m 14 #[vr ca, vi 0, vi 4, vr t21, vi 0] []) (fun _ k => XS.icmpNo X21.here hx rfl (hb hby d17_11) rfl (tlt (by decide)).2.1 k) ?_
  refine bN T21 (mkF m 15 #[vr ca, vi 0, vi 4, vr t21, vi 0] [(.ref t21)]) (fun _ k => XS.aloadN X21.here hx rfl (hb hby d17_14) rfl rfl k) ?_
  refine bN T21 (mkF m 17 #[vr ca, vi 0, vi 4, vr t21, vi 0] [(ii 0), (.ref t21)]) (fun _ k => XS.iload X21.here hx rfl (hb hby d17_15) rfl k) ?_
  refine bN T21 (mkF m 18 #[vr ca, vi 0, vi 4, vr t21, vi 0] [(.ref ca), (ii 0), (.ref t21)]) (fun _ k => XS.aloadN X21.here hx rfl (hb hby d17_17) rfl rfl k) ?_
  refine bN T21 (mkF m 19 #[vr ca, vi 0, vi 4, vr t21, vi 0] [(ii 0), (.ref ca), (ii 0), (.ref t21)]) (fun _ k => XS.iloadN X21.here hx rfl (hb hby d17_18) rfl k) ?_
  obtain ⟨cl22, Ar22, q22, S22, N_22, H22, G22⟩ := id (Arv.keep V_ca K21 nin0)
  have hin22 : ¬ ((0 : Int32) < 0 ∨ cl22.slots.size ≤ ((0 : Int32)).toNatClampNeg) := inb_of S22 ⟨by decide, by decide⟩
  refine bN T21 (mkF m 20 #[vr ca, vi 0, vi 4, vr t21, vi 0] [(.int c0), (ii 0), (.ref t21)]) (fun _ k => X21.caload hx (j := (0 : Int32)) (v := (.int c0)) Ar22.1 (State.isArrayOf_alike hZ.alike Ar22.2.1) Ar22.2.2 hin22 (Has.at H22 hin22 rfl) (g := (mkF m 19 #[vr ca, vi 0, vi 4, vr t21, vi 0] [(ii 0), (.ref ca), (ii 0), (.ref t21)])) rfl rfl (hb hby d17_19) _ k) ?_
  obtain ⟨_, _, ⟨T23, L23, k23, n23⟩, -, X23, ⟨Lc23, hQ23, l23, y23, z23⟩, st23⟩ := Jvm.LawKit.callS X21 hx (y := yy7) hown (mvT hZ (hw _ (mo 90 rfl))) (mvT hZ (hw _ (mo 91 rfl))) (mvT hZ (hw _ (mo 71 rfl))) (mvT hZ (hw _ (mo 92 rfl))) (by decide) (backOf (W := 0) (put_0 l Z a0 hw [] t21 c0 kb21 (8 : Int32) [(ii 0), (ii 0), (ii 0), (ii 0), (ii 0), (ii 0), (ii 0), (ii 0)] T21.heap n0 (Nat.le_trans Z0 K21.1) (Sta.ext ((Old.keep O0 K21 all0)).2 S_AD) (Sta.ext ((Old.keep O0 K21 all0)).2 S_HI) (Sta.ext ((Old.keep O0 K21 all0)).2 S_LO) V21 (by decide) (by decide) (Nat.le_of_ble_eq_true rfl) (Nat.le_of_ble_eq_true rfl) g_t21) hZ (hw _ (mo 92 rfl)) (hw _ (mo 71 rfl)) (by decide) (by decide)) (g := (mkF m 20 #[vr ca, vi 0, vi 4, vr t21, vi 0] [(.int c0), (ii 0), (.ref t21)])) rfl (by rw [hml]; rfl) (argsL := [(.ref t21), (ii 0), (.int c0)]) (rest := []) (lenOf pd_6 rfl) rfl (Nat.le_of_eq rfl) (hb hby d17_20) (fun _ _ => ⟨rfl, rfl, (by decide : 1 ≤ _), (by decide : 8 ≤ _)⟩)
  dsimp only [Pt.U, Pt.locs, Pt.cells, Pt.slots] at X23 l23 y23 z23 st23 hQ23
  subst l23 y23 z23
  obtain ⟨rfl, N23q, K23, Vq23⟩ := hQ23
  have N23 := Fr.app N21 N23q
  have KK23 : Keep h0 T23.heap [] := Keep.trans KK21 K23 (allS (Or.inr sz_t21) all0)
  have Vp23 : Arv Z T23.heap t21 kb21 .byte (8 : Int32) [(.int (b0 c0)), (.int (b1 c0)), (ii 0), (ii 0), (ii 0), (ii 0), (ii 0), (ii 0)] (ii 0) := Vq23
  refine bN T23 (mkF m 23 #[vr ca, vi 0, vi 4, vr t21, vi 0] []) (fun _ k => st23 _ k) ?_
  refine bN T23 (mkF m 26 #[vr ca, vi 1, vi 4, vr t21, vi 0] []) (fun _ k => XS.iinc X23.here hx rfl (hb hby d17_23) rfl rfl k) ?_
  refine bN T23 (mkF m 29 #[vr ca, vi 1, vi 4, vr t21, vi 1] []) (fun _ k => XS.iinc X23.here hx rfl (hb hby d17_26) rfl rfl k) ?_
  refine bN T23 (mkF m 8 #[vr ca, vi 1, vi 4, vr t21, vi 1] []) (fun _ k => XS.goto X23.here hx rfl (pc0 := 29) (pc' := 8) rfl (hb hby d17_29) (by decide) (by decide) k) ?_
  refine bN T23 (mkF m 10 #[vr ca, vi 1, vi 4, vr t21, vi 1] [(.int (1 : Int32))]) (fun _ k => XS.iload X23.here hx rfl (hb hby d17_8) rfl k) ?_
  refine bN T23 (mkF m 11 #[vr ca, vi 1, vi 4, vr t21, vi 1] [(.int (4 : Int32)), (.int (1 : Int32))]) (fun _ k => XS.iloadN X23.here hx rfl (hb hby d17_10) rfl k) ?_
  refine bN T23 (mkF m 14 #[vr ca, vi 1, vi 4, vr t21, vi 1] []) (fun _ k => XS.icmpNo X23.here hx rfl (hb hby d17_11) rfl (tlt (by decide)).2.1 k) ?_
  refine bN T23 (mkF m 15 #[vr ca, vi 1, vi 4, vr t21, vi 1] [(.ref t21)]) (fun _ k => XS.aloadN X23.here hx rfl (hb hby d17_14) rfl rfl k) ?_
  refine bN T23 (mkF m 17 #[vr ca, vi 1, vi 4, vr t21, vi 1] [(.int (1 : Int32)), (.ref t21)]) (fun _ k => XS.iload X23.here hx rfl (hb hby d17_15) rfl k) ?_
  refine bN T23 (mkF m 18 #[vr ca, vi 1, vi 4, vr t21, vi 1] [(.ref ca), (.int (1 : Int32)), (.ref t21)]) (fun _ k => XS.aloadN X23.here hx rfl (hb hby d17_17) rfl rfl k) ?_
  refine bN T23 (mkF m 19 #[vr ca, vi 1, vi 4, vr t21, vi 1] [(.int (1 : Int32)), (.ref ca), (.int (1 : Int32)), (.ref t21)]) (fun _ k => XS.iloadN X23.here hx rfl (hb hby d17_18) rfl k) ?_
  obtain ⟨cl24, Ar24, q24, S24, N_24, H24, G24⟩ := id (Arv.keep (Arv.keep V_ca K21 nin0) K23 (ninS (Nat.ne_of_lt (Nat.lt_of_lt_of_le (V_ca).lt zt21)) nin0))
  have hin24 : ¬ ((1 : Int32) < 0 ∨ cl24.slots.size ≤ ((1 : Int32)).toNatClampNeg) := inb_of S24 ⟨by decide, by decide⟩
  refine bN T23 (mkF m 20 #[vr ca, vi 1, vi 4, vr t21, vi 1] [(.int c1), (.int (1 : Int32)), (.ref t21)]) (fun _ k => X23.caload hx (j := (1 : Int32)) (v := (.int c1)) Ar24.1 (State.isArrayOf_alike hZ.alike Ar24.2.1) Ar24.2.2 hin24 (Has.at H24 hin24 rfl) (g := (mkF m 19 #[vr ca, vi 1, vi 4, vr t21, vi 1] [(.int (1 : Int32)), (.ref ca), (.int (1 : Int32)), (.ref t21)])) rfl rfl (hb hby d17_19) _ k) ?_
  obtain ⟨_, _, ⟨T25, L25, k25, n25⟩, -, X25, ⟨Lc25, hQ25, l25, y25, z25⟩, st25⟩ := Jvm.LawKit.callS X23 hx (y := yy7) hown (mvT hZ (hw _ (mo 90 rfl))) (mvT hZ (hw _ (mo 91 rfl))) (mvT hZ (hw _ (mo 71 rfl))) (mvT hZ (hw _ (mo 92 rfl))) (by decide) (backOf (W := 0) (put_1 l Z a0 hw [] t21 c1 kb21 (8 : Int32) [(.int (b0 c0)), (.int (b1 c0)), (ii 0), (ii 0), (ii 0), (ii 0), (ii 0), (ii 0)] T23.heap n0 (Nat.le_trans (Nat.le_trans Z0 K21.1) K23.1) (Sta.ext ((Old.keep (Old.keep O0 K21 all0) K23 (allS g_t21 all0))).2 S_AD) (Sta.ext ((Old.keep (Old.keep O0 K21 all0) K23 (allS g_t21 all0))).2 S_HI) (Sta.ext ((Old.keep (Old.keep O0 K21 all0) K23 (allS g_t21 all0))).2 S_LO) Vp23 (by decide) (by decide) (Nat.le_of_ble_eq_true rfl) (Nat.le_of_ble_eq_true rfl) g_t21) hZ (hw _ (mo 92 rfl)) (hw _ (mo 71 rfl)) (by decide) (by decide)) (g := (mkF m 20 #[vr ca, vi 1, vi 4, vr t21, vi 1] [(.int c1), (.int (1 : Int32)), (.ref t21)])) rfl (by rw [hml]; rfl) (argsL := [(.ref t21), (.int (1 : Int32)), (.int c1)]) (rest := []) (lenOf pd_6 rfl) rfl (Nat.le_of_eq rfl) (hb hby d17_20) (fun _ _ => ⟨rfl, rfl, (by decide : 1 ≤ _), (by decide : 8 ≤ _)⟩)
  dsimp only [Pt.U, Pt.locs, Pt.cells, Pt.slots] at X25 l25 y25 z25 st25 hQ25
  subst l25 y25 z25
  obtain ⟨rfl, N25q, K25, Vq25⟩ := hQ25
  have N25 := Fr.app N23 N25q
  have KK25 : Keep h0 T25.heap [] := Keep.trans KK23 K25 (allS (Or.inr sz_t21) all0)
  have Vp25 : Arv Z T25.heap t21 kb21 .byte (8 : Int32) [(.int (b0 c0)), (.int (b1 c0)), (.int (b0 c1)), (.int (b1 c1)), (ii 0), (ii 0), (ii 0), (ii 0)] (ii 0) := Vq25
  refine bN T25 (mkF m 23 #[vr ca, vi 1, vi 4, vr t21, vi 1] []) (fun _ k => st25 _ k) ?_
  refine bN T25 (mkF m 26 #[vr ca, vi 2, vi 4, vr t21, vi 1] []) (fun _ k => XS.iinc X25.here hx rfl (hb hby d17_23) rfl rfl k) ?_
  refine bN T25 (mkF m 29 #[vr ca, vi 2, vi 4, vr t21, vi 2] []) (fun _ k => XS.iinc X25.here hx rfl (hb hby d17_26) rfl rfl k) ?_
  refine bN T25 (mkF m 8 #[vr ca, vi 2, vi 4, vr t21, vi 2] []) (fun _ k => XS.goto X25.here hx rfl (pc0 := 29) (pc' := 8) rfl (hb hby d17_29) (by decide) (by decide) k) ?_
  refine bN T25 (mkF m 10 #[vr ca, vi 2, vi 4, vr t21, vi 2] [(.int (2 : Int32))]) (fun _ k => XS.iload X25.here hx rfl (hb hby d17_8) rfl k) ?_
  refine bN T25 (mkF m 11 #[vr ca, vi 2, vi 4, vr t21, vi 2] [(.int (4 : Int32)), (.int (2 : Int32))]) (fun _ k => XS.iloadN X25.here hx rfl (hb hby d17_10) rfl k) ?_
  refine bN T25 (mkF m 14 #[vr ca, vi 2, vi 4, vr t21, vi 2] []) (fun _ k => XS.icmpNo X25.here hx rfl (hb hby d17_11) rfl (tlt (by decide)).2.1 k) ?_
  refine bN T25 (mkF m 15 #[vr ca, vi 2, vi 4, vr t21, vi 2] [(.ref t21)]) (fun _ k => XS.aloadN X25.here hx rfl (hb hby d17_14) rfl rfl k) ?_
  refine bN T25 (mkF m 17 #[vr ca, vi 2, vi 4, vr t21, vi 2] [(.int (2 : Int32)), (.ref t21)]) (fun _ k => XS.iload X25.here hx rfl (hb hby d17_15) rfl k) ?_
  refine bN T25 (mkF m 18 #[vr ca, vi 2, vi 4, vr t21, vi 2] [(.ref ca), (.int (2 : Int32)), (.ref t21)]) (fun _ k => XS.aloadN X25.here hx rfl (hb hby d17_17) rfl rfl k) ?_
  refine bN T25 (mkF m 19 #[vr ca, vi 2, vi 4, vr t21, vi 2] [(.int (2 : Int32)), (.ref ca), (.int (2 : Int32)), (.ref t21)]) (fun _ k => XS.iloadN X25.here hx rfl (hb hby d17_18) rfl k) ?_
  obtain ⟨cl26, Ar26, q26, S26, N_26, H26, G26⟩ := id (Arv.keep (Arv.keep (Arv.keep V_ca K21 nin0) K23 (ninS (Nat.ne_of_lt (Nat.lt_of_lt_of_le (V_ca).lt zt21)) nin0)) K25 (ninS (Nat.ne_of_lt (Nat.lt_of_lt_of_le (V_ca).lt zt21)) nin0))
  have hin26 : ¬ ((2 : Int32) < 0 ∨ cl26.slots.size ≤ ((2 : Int32)).toNatClampNeg) := inb_of S26 ⟨by decide, by decide⟩
  refine bN T25 (mkF m 20 #[vr ca, vi 2, vi 4, vr t21, vi 2] [(.int c2), (.int (2 : Int32)), (.ref t21)]) (fun _ k => X25.caload hx (j := (2 : Int32)) (v := (.int c2)) Ar26.1 (State.isArrayOf_alike hZ.alike Ar26.2.1) Ar26.2.2 hin26 (Has.at H26 hin26 rfl) (g := (mkF m 19 #[vr ca, vi 2, vi 4, vr t21, vi 2] [(.int (2 : Int32)), (.ref ca), (.int (2 : Int32)), (.ref t21)])) rfl rfl (hb hby d17_19) _ k) ?_
  obtain ⟨_, _, ⟨T27, L27, k27, n27⟩, -, X27, ⟨Lc27, hQ27, l27, y27, z27⟩, st27⟩ := Jvm.LawKit.callS X25 hx (y := yy7) hown (mvT hZ (hw _ (mo 90 rfl))) (mvT hZ (hw _ (mo 91 rfl))) (mvT hZ (hw _ (mo 71 rfl))) (mvT hZ (hw _ (mo 92 rfl))) (by decide) (backOf (W := 0) (put_2 l Z a0 hw [] t21 c2 kb21 (8 : Int32) [(.int (b0 c0)), (.int (b1 c0)), (.int (b0 c1)), (.int (b1 c1)), (ii 0), (ii 0), (ii 0), (ii 0)] T25.heap n0 (Nat.le_trans (Nat.le_trans (Nat.le_trans Z0 K21.1) K23.1) K25.1) (Sta.ext ((Old.keep (Old.keep (Old.keep O0 K21 all0) K23 (allS g_t21 all0)) K25 (allS g_t21 all0))).2 S_AD) (Sta.ext ((Old.keep (Old.keep (Old.keep O0 K21 all0) K23 (allS g_t21 all0)) K25 (allS g_t21 all0))).2 S_HI) (Sta.ext ((Old.keep (Old.keep (Old.keep O0 K21 all0) K23 (allS g_t21 all0)) K25 (allS g_t21 all0))).2 S_LO) Vp25 (by decide) (by decide) (Nat.le_of_ble_eq_true rfl) (Nat.le_of_ble_eq_true rfl) g_t21) hZ (hw _ (mo 92 rfl)) (hw _ (mo 71 rfl)) (by decide) (by decide)) (g := (mkF m 20 #[vr ca, vi 2, vi 4, vr t21, vi 2] [(.int c2), (.int (2 : Int32)), (.ref t21)])) rfl (by rw [hml]; rfl) (argsL := [(.ref t21), (.int (2 : Int32)), (.int c2)]) (rest := []) (lenOf pd_6 rfl) rfl (Nat.le_of_eq rfl) (hb hby d17_20) (fun _ _ => ⟨rfl, rfl, (by decide : 1 ≤ _), (by decide : 8 ≤ _)⟩)
  dsimp only [Pt.U, Pt.locs, Pt.cells, Pt.slots] at X27 l27 y27 z27 st27 hQ27
  subst l27 y27 z27
  obtain ⟨rfl, N27q, K27, Vq27⟩ := hQ27
  have N27 := Fr.app N25 N27q
  have KK27 : Keep h0 T27.heap [] := Keep.trans KK25 K27 (allS (Or.inr sz_t21) all0)
  have Vp27 : Arv Z T27.heap t21 kb21 .byte (8 : Int32) [(.int (b0 c0)), (.int (b1 c0)), (.int (b0 c1)), (.int (b1 c1)), (.int (b0 c2)), (.int (b1 c2)), (ii 0), (ii 0)] (ii 0) := Vq27
  refine bN T27 (mkF m 23 #[vr ca, vi 2, vi 4, vr t21, vi 2] []) (fun _ k => st27 _ k) ?_
  refine bN T27 (mkF m 26 #[vr ca, vi 3, vi 4, vr t21, vi 2] []) (fun _ k => XS.iinc X27.here hx rfl (hb hby d17_23) rfl rfl k) ?_
  refine bN T27 (mkF m 29 #[vr ca, vi 3, vi 4, vr t21, vi 3] []) (fun _ k => XS.iinc X27.here hx rfl (hb hby d17_26) rfl rfl k) ?_
  refine bN T27 (mkF m 8 #[vr ca, vi 3, vi 4, vr t21, vi 3] []) (fun _ k => XS.goto X27.here hx rfl (pc0 := 29) (pc' := 8) rfl (hb hby d17_29) (by decide) (by decide) k) ?_
  refine bN T27 (mkF m 10 #[vr ca, vi 3, vi 4, vr t21, vi 3] [(.int (3 : Int32))]) (fun _ k => XS.iload X27.here hx rfl (hb hby d17_8) rfl k) ?_
  refine bN T27 (mkF m 11 #[vr ca, vi 3, vi 4, vr t21, vi 3] [(.int (4 : Int32)), (.int (3 : Int32))]) (fun _ k => XS.iloadN X27.here hx rfl (hb hby d17_10) rfl k) ?_
  refine bN T27 (mkF m 14 #[vr ca, vi 3, vi 4, vr t21, vi 3] []) (fun _ k => XS.icmpNo X27.here hx rfl (hb hby d17_11) rfl (tlt (by decide)).2.1 k) ?_
  refine bN T27 (mkF m 15 #[vr ca, vi 3, vi 4, vr t21, vi 3] [(.ref t21)]) (fun _ k => XS.aloadN X27.here hx rfl (hb hby d17_14) rfl rfl k) ?_
  refine bN T27 (mkF m 17 #[vr ca, vi 3, vi 4, vr t21, vi 3] [(.int (3 : Int32)), (.ref t21)]) (fun _ k => XS.iload X27.here hx rfl (hb hby d17_15) rfl k) ?_
  refine bN T27 (mkF m 18 #[vr ca, vi 3, vi 4, vr t21, vi 3] [(.ref ca), (.int (3 : Int32)), (.ref t21)]) (fun _ k => XS.aloadN X27.here hx rfl (hb hby d17_17) rfl rfl k) ?_
  refine bN T27 (mkF m 19 #[vr ca, vi 3, vi 4, vr t21, vi 3] [(.int (3 : Int32)), (.ref ca), (.int (3 : Int32)), (.ref t21)]) (fun _ k => XS.iloadN X27.here hx rfl (hb hby d17_18) rfl k) ?_
  obtain ⟨cl28, Ar28, q28, S28, N_28, H28, G28⟩ := id (Arv.keep (Arv.keep (Arv.keep (Arv.keep V_ca K21 nin0) K23 (ninS (Nat.ne_of_lt (Nat.lt_of_lt_of_le (V_ca).lt zt21)) nin0)) K25 (ninS (Nat.ne_of_lt (Nat.lt_of_lt_of_le (V_ca).lt zt21)) nin0)) K27 (ninS (Nat.ne_of_lt (Nat.lt_of_lt_of_le (V_ca).lt zt21)) nin0))
  have hin28 : ¬ ((3 : Int32) < 0 ∨ cl28.slots.size ≤ ((3 : Int32)).toNatClampNeg) := inb_of S28 ⟨by decide, by decide⟩
  refine bN T27 (mkF m 20 #[vr ca, vi 3, vi 4, vr t21, vi 3] [(.int c3), (.int (3 : Int32)), (.ref t21)]) (fun _ k => X27.caload hx (j := (3 : Int32)) (v := (.int c3)) Ar28.1 (State.isArrayOf_alike hZ.alike Ar28.2.1) Ar28.2.2 hin28 (Has.at H28 hin28 rfl) (g := (mkF m 19 #[vr ca, vi 3, vi 4, vr t21, vi 3] [(.int (3 : Int32)), (.ref ca), (.int (3 : Int32)), (.ref t21)])) rfl rfl (hb hby d17_19) _ k) ?_
  obtain ⟨_, _, ⟨T29, L29, k29, n29⟩, -, X29, ⟨Lc29, hQ29, l29, y29, z29⟩, st29⟩ := Jvm.LawKit.callS X27 hx (y := yy7) hown (mvT hZ (hw _ (mo 90 rfl))) (mvT hZ (hw _ (mo 91 rfl))) (mvT hZ (hw _ (mo 71 rfl))) (mvT hZ (hw _ (mo 92 rfl))) (by decide) (backOf (W := 0) (put_3 l Z a0 hw [] t21 c3 kb21 (8 : Int32) [(.int (b0 c0)), (.int (b1 c0)), (.int (b0 c1)), (.int (b1 c1)), (.int (b0 c2)), (.int (b1 c2)), (ii 0), (ii 0)] T27.heap n0 (Nat.le_trans (Nat.le_trans (Nat.le_trans (Nat.le_trans Z0 K21.1) K23.1) K25.1) K27.1) (Sta.ext ((Old.keep (Old.keep (Old.keep (Old.keep O0 K21 all0) K23 (allS g_t21 all0)) K25 (allS g_t21 all0)) K27 (allS g_t21 all0))).2 S_AD) (Sta.ext ((Old.keep (Old.keep (Old.keep (Old.keep O0 K21 all0) K23 (allS g_t21 all0)) K25 (allS g_t21 all0)) K27 (allS g_t21 all0))).2 S_HI) (Sta.ext ((Old.keep (Old.keep (Old.keep (Old.keep O0 K21 all0) K23 (allS g_t21 all0)) K25 (allS g_t21 all0)) K27 (allS g_t21 all0))).2 S_LO) Vp27 (by decide) (by decide) (Nat.le_of_ble_eq_true rfl) (Nat.le_of_ble_eq_true rfl) g_t21) hZ (hw _ (mo 92 rfl)) (hw _ (mo 71 rfl)) (by decide) (by decide)) (g := (mkF m 20 #[vr ca, vi 3, vi 4, vr t21, vi 3] [(.int c3), (.int (3 : Int32)), (.ref t21)])) rfl (by rw [hml]; rfl) (argsL := [(.ref t21), (.int (3 : Int32)), (.int c3)]) (rest := []) (lenOf pd_6 rfl) rfl (Nat.le_of_eq rfl) (hb hby d17_20) (fun _ _ => ⟨rfl, rfl, (by decide : 1 ≤ _), (by decide : 8 ≤ _)⟩)
  dsimp only [Pt.U, Pt.locs, Pt.cells, Pt.slots] at X29 l29 y29 z29 st29 hQ29
  subst l29 y29 z29
  obtain ⟨rfl, N29q, K29, Vq29⟩ := hQ29
  have N29 := Fr.app N27 N29q
  have KK29 : Keep h0 T29.heap [] := Keep.trans KK27 K29 (allS (Or.inr sz_t21) all0)
  have Vp29 : Arv Z T29.heap t21 kb21 .byte (8 : Int32) (wb4 c0 c1 c2 c3) (ii 0) := Vq29
  refine bN T29 (mkF m 23 #[vr ca, vi 3, vi 4, vr t21, vi 3] []) (fun _ k => st29 _ k) ?_
  refine bN T29 (mkF m 26 #[vr ca, vi 4, vi 4, vr t21, vi 3] []) (fun _ k => XS.iinc X29.here hx rfl (hb hby d17_23) rfl rfl k) ?_
  refine bN T29 (mkF m 29 #[vr ca, vi 4, vi 4, vr t21, vi 4] []) (fun _ k => XS.iinc X29.here hx rfl (hb hby d17_26) rfl rfl k) ?_
  refine bN T29 (mkF m 8 #[vr ca, vi 4, vi 4, vr t21, vi 4] []) (fun _ k => XS.goto X29.here hx rfl (pc0 := 29) (pc' := 8) rfl (hb hby d17_29) (by decide) (by decide) k) ?_
  refine bN T29 (mkF m 10 #[vr ca, vi 4, vi 4, vr t21, vi 4] [(.int (4 : Int32))]) (fun _ k => XS.iload X29.here hx rfl (hb hby d17_8) rfl k) ?_
  refine bN T29 (mkF m 11 #[vr ca, vi 4, vi 4, vr t21, vi 4] [(.int (4 : Int32)), (.int (4 : Int32))]) (fun _ k => XS.iloadN X29.here hx rfl (hb hby d17_10) rfl k) ?_
  refine bN T29 (mkF m 32 #[vr ca, vi 4, vi 4, vr t21, vi 4] []) (fun _ k => XS.icmpYes X29.here hx rfl (pc0 := 11) (pc' := 32) rfl (hb hby d17_11) rfl (flt (by decide)).2.1 (by decide) (by decide) k) ?_
  refine bN T29 (mkF m 33 #[vr ca, vi 4, vi 4, vr t21, vi 4] [(.ref t21)]) (fun _ k => XS.aloadN X29.here hx rfl (hb hby d17_32) rfl rfl k) ?_
  refine own_ret X29 hlk (v := some (.ref t21)) (nvr Bd.returns) (fun fs hr => retOut X29 hx Bd.returns rfl (Or.inr (Or.inr (Or.inr (Or.inr ⟨rfl, rfl, rfl⟩)))) (hb hby d17_33) hr) ?_ (by decide) (by decide)
  exact ⟨_, _, rfl, N29, KK29, sz_t21, Vp29⟩
theorem ef_cmu_4 (m : MethodId) (ca : Addr) : entryFrame m #[(.ref ca), (ii 0), (.int (4 : Int32))] 6 = mkF m 0 #[vr ca, vi 0, vi 4, uu, uu, uu] [] := rfl
def Q_cmu_4 (Z : State) (ca : Addr) (kc : ClassId) (c0 c1 : Int32) (c2 c3 : Int32) (h0 : Heap) (n0 : Nat) (v : Option Value) (h : Heap) (L : List Loc) : Prop := ∃ (t : Addr) (kb : ClassId), v = some (.ref t) ∧ Fr n0 L ∧ Keep h0 h [] ∧ h0.size ≤ t ∧ Arv Z h t kb .byte (8 : Int32) (wb4 c0 c1 c2 c3) (ii 0)
theorem cmu_4 (l : Launch) (Z : State) (a0 : Array Value) (hw : HW Z a0) (ws : List Jvm.Cond) (ca : Addr) (kc : ClassId) (c0 c1 : Int32) (c2 c3 : Int32) (h0 : Heap) (n0 : Nat) (Z0 : n0 ≤ h0.size) (V_ca : Arv Z h0 ca kc .char (4 : Int32) [(.int c0), (.int c1), (.int c2), (.int c3)] (ii 0)) (O0 : Old Z n0 h0) (S_AD : Sta Z Z.heap "java/lang/StringUTF16" "$assertionsDisabled" "Z" (.int (1 : Int32))) (S_HI : Sta Z Z.heap "java/lang/StringUTF16" "HI_BYTE_SHIFT" "I" (ii 0)) (S_LO : Sta Z Z.heap "java/lang/StringUTF16" "LO_BYTE_SHIFT" "I" (.int (8 : Int32))) (hr0 : 0 ≤ c0.toInt ∧ c0.toInt ≤ 65535) (hr1 : 0 ≤ c1.toInt ∧ c1.toInt ≤ 65535) (hr2 : 0 ≤ c2.toInt ∧ c2.toInt ≤ 65535) (hr3 : 0 ≤ c3.toInt ∧ c3.toInt ≤ 65535) (hU : ((255 : Int32) < c0) ∨ (¬ (255 : Int32) < c0 ∧ (255 : Int32) < c1) ∨ (¬ (255 : Int32) < c0 ∧ ¬ (255 : Int32) < c1 ∧ (255 : Int32) < c2) ∨ (¬ (255 : Int32) < c0 ∧ ¬ (255 : Int32) < c1 ∧ ¬ (255 : Int32) < c2 ∧ (255 : Int32) < c3)) :
    own_M l yy3 jdk_52_method_16_code 6 (some (.array .byte)) ws rr37 Z #[(.ref ca), (ii 0), (.int (4 : Int32))] h0 (Q_cmu_4 Z ca kc c0 c1 c2 c3 h0 n0) := by
  refine own_bd (plainFor_of_name pn_14) fun p e s m below meth c s₁ Bd hx hby hml hown hnm hlk hZ X0 e0 => ?_
  rw [ef_cmu_4 m ca]
  refine bN s₁ (mkF m 1 #[vr ca, vi 0, vi 4, uu, uu, uu] [(.int (4 : Int32))]) (fun _ k => XS.iloadN X0.here hx rfl (hb hby d14_0) rfl k) ?_
  obtain ⟨T21, h21, k21, X21, e21, E21, A21, st21⟩ := newP X0 hx hZ (hw _ (mo 24 rfl)) e0 (g := (mkF m 1 #[vr ca, vi 0, vi 4, uu, uu, uu] [(.int (4 : Int32))])) rfl (hb hby d14_1) rfl (by decide) (cap := 4) (by decide) (by decide) (by decide) (by decide)
  obtain ⟨b21, g21⟩ : ∃ z, z = h0.size := ⟨_, rfl⟩
  rw [← g21] at A21 st21
  have V_b21 : Arv Z h21 b21 k21 .byte (4 : Int32) [(ii 0), (ii 0), (ii 0), (ii 0)] (ii 0) := (Arv.new A21 (by decide)).pad (pad_rep [] (ii 0) 4)
  have g_b21 : n0 ≤ b21 := Nat.le_trans Z0 (Nat.le_of_eq g21.symm)
  have sz_b21 : h0.size ≤ b21 := Nat.le_trans (Keep.refl h0 []).1 (Nat.le_of_eq g21.symm)
  have K21 : Keep h0 h21 [] := Keep.ext (Keep.refl h0 []) E21
  refine bN T21 (mkF m 3 #[vr ca, vi 0, vi 4, uu, uu, uu] [(.ref b21)]) (fun _ k => st21 _ k) ?_
  refine bN T21 (mkF m 4 #[vr ca, vi 0, vi 4, vr b21, uu, uu] []) (fun _ k => XS.astoreN X21.here hx rfl (hb hby d14_3) rfl rfl rfl k) ?_
  refine bN T21 (mkF m 5 #[vr ca, vi 0, vi 4, vr b21, uu, uu] [(.ref ca)]) (fun _ k => XS.aloadN X21.here hx rfl (hb hby d14_4) rfl rfl k) ?_
  refine bN T21 (mkF m 6 #[vr ca, vi 0, vi 4, vr b21, uu, uu] [(ii 0), (.ref ca)]) (fun _ k => XS.iloadN X21.here hx rfl (hb hby d14_5) rfl k) ?_
  refine bN T21 (mkF m 7 #[vr ca, vi 0, vi 4, vr b21, uu, uu] [(.ref b21), (ii 0), (.ref ca)]) (fun _ k => XS.aloadN X21.here hx rfl (hb hby d14_6) rfl rfl k) ?_
  refine bN T21 (mkF m 8 #[vr ca, vi 0, vi 4, vr b21, uu, uu] [(ii 0), (.ref b21), (ii 0), (.ref ca)]) (fun _ k => XS.iconst X21.here hx rfl (hb hby d14_7) k) ?_
  refine bN T21 (mkF m 9 #[vr ca, vi 0, vi 4, vr b21, uu, uu] [(.int (4 : Int32)), (ii 0), (.ref b21), (ii 0), (.ref ca)]) (fun _ k => XS.iloadN X21.here hx rfl (hb hby d14_8) rfl k) ?_
  obtain ⟨_, _, ⟨T22, L22, k22, n22⟩, -, X22, ⟨Lc22, hQ22, l22, y22, z22⟩, st22⟩ := Jvm.LawKit.callS X21 hx (y := yy2) hown (mvT hZ (hw _ (mo 73 rfl))) (mvT hZ (hw _ (mo 74 rfl))) (mvT hZ (hw _ (mo 71 rfl))) (mvT hZ (hw _ (mo 75 rfl))) (by decide) (backOf (W := 0) (cmpk_4 l Z a0 hw [] ca b21 kc k21 c0 c1 c2 c3 h21 n0 (Nat.le_trans Z0 E21.1) (Arv.ext V_ca E21) V_b21 g_b21 (Nat.ne_of_lt (Nat.lt_of_lt_of_le V_ca.lt (Nat.le_of_eq g21.symm)))) hZ (hw _ (mo 75 rfl)) (hw _ (mo 71 rfl)) (by decide) (by decide)) (g := (mkF m 9 #[vr ca, vi 0, vi 4, vr b21, uu, uu] [(.int (4 : Int32)), (ii 0), (.ref b21), (ii 0), (.ref ca)])) rfl (by rw [hml]; rfl) (argsL := [(.ref ca), (ii 0), (.ref b21), (ii 0), (.int (4 : Int32))]) (rest := []) (lenOf pd_0 rfl) rfl (Nat.le_of_eq rfl) (hb hby d14_9) (fun _ _ => ⟨rfl, e21, (by decide : 1 ≤ _), (by decide : 4 ≤ _)⟩)
  dsimp only [Pt.U, Pt.locs, Pt.cells, Pt.slots] at X22 l22 y22 z22 st22 hQ22
  subst l22 y22 z22
  obtain ⟨rfl, N22q, K22, -⟩ := hQ22
  have N22 := Fr.app (Fr.nil n0) N22q
  have KK22 : Keep h0 T22.heap [] := Keep.trans K21 K22 (allS (Or.inr sz_b21) all0)
  refine bN T22 (mkF m 12 #[vr ca, vi 0, vi 4, vr b21, uu, uu] [(.int (own_k4 c0 c1 c2 c3))]) (fun _ k => st22 _ k) ?_
  rcases hU with u0 | ⟨u0, u1⟩ | ⟨u0, u1, u2⟩ | ⟨u0, u1, u2, u3⟩
  · skip
    have hk23 : own_k4 c0 c1 c2 c3 = (0 : Int32) := (if_pos u0)
    rw [hk23]
    refine bN T22 (mkF m 14 #[vr ca, vi 0, vi 4, vr b21, vi 0, uu] []) (fun _ k => XS.istore X22.here hx rfl (hb hby d14_12) rfl rfl k) ?_
    refine bN T22 (mkF m 16 #[vr ca, vi 0, vi 4, vr b21, vi 0, uu] [(ii 0)]) (fun _ k => XS.iload X22.here hx rfl (hb hby d14_14) rfl k) ?_
    refine bN T22 (mkF m 17 #[vr ca, vi 0, vi 4, vr b21, vi 0, uu] [(.int (4 : Int32)), (ii 0)]) (fun _ k => XS.iloadN X22.here hx rfl (hb hby d14_16) rfl k) ?_
    refine bN T22 (mkF m 20 #[vr ca, vi 0, vi 4, vr b21, vi 0, uu] []) (fun _ k => XS.icmpNo X22.here hx rfl (hb hby d14_17) rfl (feq (by decide)).1 k) ?_
    refine bN T22 (mkF m 21 #[vr ca, vi 0, vi 4, vr b21, vi 0, uu] [(.ref ca)]) (fun _ k => XS.aloadN X22.here hx rfl (hb hby d14_20) rfl rfl k) ?_
    refine bN T22 (mkF m 22 #[vr ca, vi 0, vi 4, vr b21, vi 0, uu] [(ii 0), (.ref ca)]) (fun _ k => XS.iloadN X22.here hx rfl (hb hby d14_21) rfl k) ?_
    refine bN T22 (mkF m 23 #[vr ca, vi 0, vi 4, vr b21, vi 0, uu] [(.int (4 : Int32)), (ii 0), (.ref ca)]) (fun _ k => XS.iloadN X22.here hx rfl (hb hby d14_22) rfl k) ?_
    obtain ⟨_, _, ⟨T24, L24, k24, n24⟩, -, X24, ⟨Lc24, hQ24, l24, y24, z24⟩, st24⟩ := Jvm.LawKit.callS X22 hx (y := yy11) hown (mvT hZ (hw _ (mo 80 rfl))) (mvT hZ (hw _ (mo 81 rfl))) (mvT hZ (hw _ (mo 71 rfl))) (mvT hZ (hw _ (mo 82 rfl))) (by decide) (backOf (W := 0) (tby_4 l Z a0 hw [] ca kc c0 c1 c2 c3 T22.heap n0 (Nat.le_trans (Nat.le_trans Z0 E21.1) K22.1) (Arv.keep (Arv.ext V_ca E21) K22 (ninS (Nat.ne_of_lt (Nat.lt_of_lt_of_le V_ca.lt (Nat.le_of_eq g21.symm))) nin0)) (Old.keep (Old.ext O0 E21) K22 (allS g_b21 all0)) S_AD S_HI S_LO) hZ (hw _ (mo 82 rfl)) (hw _ (mo 71 rfl)) (by decide) (by decide)) (g := (mkF m 23 #[vr ca, vi 0, vi 4, vr b21, vi 0, uu] [(.int (4 : Int32)), (ii 0), (.ref ca)])) rfl (by rw [hml]; rfl) (argsL := [(.ref ca), (ii 0), (.int (4 : Int32))]) (rest := []) (lenOf pd_1 rfl) rfl (Nat.le_of_eq rfl) (hb hby d14_23) (fun _ _ => ⟨rfl, rfl, (by decide : 2 ≤ _), (by decide : 12 ≤ _)⟩)
    dsimp only [Pt.U, Pt.locs, Pt.cells, Pt.slots] at X24 l24 y24 z24 st24 hQ24
    subst l24 y24 z24
    obtain ⟨t24, kb24, rfl, N24q, K24, zt24, V24⟩ := hQ24
    have N24 := Fr.app N22 N24q
    have KK24 : Keep h0 T24.heap [] := Keep.trans KK22 K24 all0
    have sz_t24 : h0.size ≤ t24 := Nat.le_trans KK22.1 zt24
    have g_t24 : n0 ≤ t24 := Nat.le_trans Z0 sz_t24
    refine bN T24 (mkF m 26 #[vr ca, vi 0, vi 4, vr b21, vi 0, uu] [(.ref t24)]) (fun _ k => st24 _ k) ?_
    refine bN T24 (mkF m 28 #[vr ca, vi 0, vi 4, vr b21, vi 0, vr t24] []) (fun _ k => XS.astore X24.here hx rfl (hb hby d14_26) rfl rfl rfl k) ?_
    refine bN T24 (mkF m 30 #[vr ca, vi 0, vi 4, vr b21, vi 0, vr t24] [(.ref t24)]) (fun _ k => XS.aload X24.here hx rfl (hb hby d14_28) rfl rfl k) ?_
    refine bN T24 (mkF m 32 #[vr ca, vi 0, vi 4, vr b21, vi 0, vr t24] [(ii 0), (.ref t24)]) (fun _ k => XS.iload X24.here hx rfl (hb hby d14_30) rfl k) ?_
    obtain ⟨_, _, ⟨T25, L25, k25, n25⟩, -, X25, ⟨Lc25, hQ25, l25, y25, z25⟩, st25⟩ := Jvm.LawKit.callS X24 hx (y := yy8) hown (mvT hZ (hw _ (mo 96 rfl))) (mvT hZ (hw _ (mo 97 rfl))) (mvT hZ (hw _ (mo 71 rfl))) (mvT hZ (hw _ (mo 98 rfl))) (by decide) (backOf (W := 0) (get_0 l Z a0 hw [] t24 kb24 (8 : Int32) (wb4 c0 c1 c2 c3) (b0 c0) (b1 c0) T24.heap n0 (Nat.le_trans (Nat.le_trans (Nat.le_trans Z0 E21.1) K22.1) K24.1) (Sta.ext ((Old.keep (Old.keep (Old.ext O0 E21) K22 (allS g_b21 all0)) K24 all0)).2 S_AD) (Sta.ext ((Old.keep (Old.keep (Old.ext O0 E21) K22 (allS g_b21 all0)) K24 all0)).2 S_HI) (Sta.ext ((Old.keep (Old.keep (Old.ext O0 E21) K22 (allS g_b21 all0)) K24 all0)).2 S_LO) V24 (by decide) (by decide) rfl rfl) hZ (hw _ (mo 98 rfl)) (hw _ (mo 71 rfl)) (by decide) (by decide)) (g := (mkF m 32 #[vr ca, vi 0, vi 4, vr b21, vi 0, vr t24] [(ii 0), (.ref t24)])) rfl (by rw [hml]; rfl) (argsL := [(.ref t24), (ii 0)]) (rest := []) (lenOf pd_7 rfl) rfl (Nat.le_of_eq rfl) (hb hby d14_32) (fun _ _ => ⟨rfl, rfl, (by decide : 2 ≤ _), (by decide : 12 ≤ _)⟩)
    dsimp only [Pt.U, Pt.locs, Pt.cells, Pt.slots] at X25 l25 y25 z25 st25 hQ25
    subst l25 y25 z25
    obtain ⟨vq25, N25q, e25⟩ := hQ25
    obtain rfl := vq25.trans (congrArg (fun z => some (Value.int z)) (own_pair hr0))
    have N25 := Fr.app N24 N25q
    refine bN T25 (mkF m 35 #[vr ca, vi 0, vi 4, vr b21, vi 0, vr t24] [(.int c0)]) (fun _ k => st25 _ k) ?_
    refine bN T25 (mkF m 38 #[vr ca, vi 0, vi 4, vr b21, vi 0, vr t24] [(.int (255 : Int32)), (.int c0)]) (fun _ k => XS.sipush X25.here hx rfl (hb hby d14_35) k) ?_
    refine bN T25 (mkF m 54 #[vr ca, vi 0, vi 4, vr b21, vi 0, vr t24] []) (fun _ k => XS.icmpYes X25.here hx rfl (pc0 := 38) (pc' := 54) rfl (hb hby d14_38) rfl (tlt u0).2.2.1 (by decide) (by decide) k) ?_
    refine bN T25 (mkF m 56 #[vr ca, vi 0, vi 4, vr b21, vi 0, vr t24] [(.ref t24)]) (fun _ k => XS.aload X25.here hx rfl (hb hby d14_54) rfl rfl k) ?_
    refine own_ret X25 hlk (v := some (.ref t24)) (nvr Bd.returns) (fun fs hr => retOut X25 hx Bd.returns rfl (Or.inr (Or.inr (Or.inr (Or.inr ⟨rfl, rfl, rfl⟩)))) (hb hby d14_56) hr) ?_ (by decide) (by decide)
    rw [e25]
    exact ⟨_, _, rfl, N25, KK24, sz_t24, V24⟩
  · skip
    have hk26 : own_k4 c0 c1 c2 c3 = (1 : Int32) := ((if_neg u0).trans (if_pos u1))
    rw [hk26]
    refine bN T22 (mkF m 14 #[vr ca, vi 0, vi 4, vr b21, vi 1, uu] []) (fun _ k => XS.istore X22.here hx rfl (hb hby d14_12) rfl rfl k) ?_
    refine bN T22 (mkF m 16 #[vr ca, vi 0, vi 4, vr b21, vi 1, uu] [(.int (1 : Int32))]) (fun _ k => XS.iload X22.here hx rfl (hb hby d14_14) rfl k) ?_
    refine bN T22 (mkF m 17 #[vr ca, vi 0, vi 4, vr b21, vi 1, uu] [(.int (4 : Int32)), (.int (1 : Int32))]) (fun _ k => XS.iloadN X22.here hx rfl (hb hby d14_16) rfl k) ?_
    refine bN T22 (mkF m 20 #[vr ca, vi 0, vi 4, vr b21, vi 1, uu] []) (fun _ k => XS.icmpNo X22.here hx rfl (hb hby d14_17) rfl (feq (by decide)).1 k) ?_
    refine bN T22 (mkF m 21 #[vr ca, vi 0, vi 4, vr b21, vi 1, uu] [(.ref ca)]) (fun _ k => XS.aloadN X22.here hx rfl (hb hby d14_20) rfl rfl k) ?_
    refine bN T22 (mkF m 22 #[vr ca, vi 0, vi 4, vr b21, vi 1, uu] [(ii 0), (.ref ca)]) (fun _ k => XS.iloadN X22.here hx rfl (hb hby d14_21) rfl k) ?_
    refine bN T22 (mkF m 23 #[vr ca, vi 0, vi 4, vr b21, vi 1, uu] [(.int (4 : Int32)), (ii 0), (.ref ca)]) (fun _ k => XS.iloadN X22.here hx rfl (hb hby d14_22) rfl k) ?_
    obtain ⟨_, _, ⟨T27, L27, k27, n27⟩, -, X27, ⟨Lc27, hQ27, l27, y27, z27⟩, st27⟩ := Jvm.LawKit.callS X22 hx (y := yy11) hown (mvT hZ (hw _ (mo 80 rfl))) (mvT hZ (hw _ (mo 81 rfl))) (mvT hZ (hw _ (mo 71 rfl))) (mvT hZ (hw _ (mo 82 rfl))) (by decide) (backOf (W := 0) (tby_4 l Z a0 hw [] ca kc c0 c1 c2 c3 T22.heap n0 (Nat.le_trans (Nat.le_trans Z0 E21.1) K22.1) (Arv.keep (Arv.ext V_ca E21) K22 (ninS (Nat.ne_of_lt (Nat.lt_of_lt_of_le V_ca.lt (Nat.le_of_eq g21.symm))) nin0)) (Old.keep (Old.ext O0 E21) K22 (allS g_b21 all0)) S_AD S_HI S_LO) hZ (hw _ (mo 82 rfl)) (hw _ (mo 71 rfl)) (by decide) (by decide)) (g := (mkF m 23 #[vr ca, vi 0, vi 4, vr b21, vi 1, uu] [(.int (4 : Int32)), (ii 0), (.ref ca)])) rfl (by rw [hml]; rfl) (argsL := [(.ref ca), (ii 0), (.int (4 : Int32))]) (rest := []) (lenOf pd_1 rfl) rfl (Nat.le_of_eq rfl) (hb hby d14_23) (fun _ _ => ⟨rfl, rfl, (by decide : 2 ≤ _), (by decide : 12 ≤ _)⟩)
    dsimp only [Pt.U, Pt.locs, Pt.cells, Pt.slots] at X27 l27 y27 z27 st27 hQ27
    subst l27 y27 z27
    obtain ⟨t27, kb27, rfl, N27q, K27, zt27, V27⟩ := hQ27
    have N27 := Fr.app N22 N27q
    have KK27 : Keep h0 T27.heap [] := Keep.trans KK22 K27 all0
    have sz_t27 : h0.size ≤ t27 := Nat.le_trans KK22.1 zt27
    have g_t27 : n0 ≤ t27 := Nat.le_trans Z0 sz_t27
    refine bN T27 (mkF m 26 #[vr ca, vi 0, vi 4, vr b21, vi 1, uu] [(.ref t27)]) (fun _ k => st27 _ k) ?_
    refine bN T27 (mkF m 28 #[vr ca, vi 0, vi 4, vr b21, vi 1, vr t27] []) (fun _ k => XS.astore X27.here hx rfl (hb hby d14_26) rfl rfl rfl k) ?_
    refine bN T27 (mkF m 30 #[vr ca, vi 0, vi 4, vr b21, vi 1, vr t27] [(.ref t27)]) (fun _ k => XS.aload X27.here hx rfl (hb hby d14_28) rfl rfl k) ?_
    refine bN T27 (mkF m 32 #[vr ca, vi 0, vi 4, vr b21, vi 1, vr t27] [(.int (1 : Int32)), (.ref t27)]) (fun _ k => XS.iload X27.here hx rfl (hb hby d14_30) rfl k) ?_
    obtain ⟨_, _, ⟨T28, L28, k28, n28⟩, -, X28, ⟨Lc28, hQ28, l28, y28, z28⟩, st28⟩ := Jvm.LawKit.callS X27 hx (y := yy8) hown (mvT hZ (hw _ (mo 96 rfl))) (mvT hZ (hw _ (mo 97 rfl))) (mvT hZ (hw _ (mo 71 rfl))) (mvT hZ (hw _ (mo 98 rfl))) (by decide) (backOf (W := 0) (get_1 l Z a0 hw [] t27 kb27 (8 : Int32) (wb4 c0 c1 c2 c3) (b0 c1) (b1 c1) T27.heap n0 (Nat.le_trans (Nat.le_trans (Nat.le_trans Z0 E21.1) K22.1) K27.1) (Sta.ext ((Old.keep (Old.keep (Old.ext O0 E21) K22 (allS g_b21 all0)) K27 all0)).2 S_AD) (Sta.ext ((Old.keep (Old.keep (Old.ext O0 E21) K22 (allS g_b21 all0)) K27 all0)).2 S_HI) (Sta.ext ((Old.keep (Old.keep (Old.ext O0 E21) K22 (allS g_b21 all0)) K27 all0)).2 S_LO) V27 (by decide) (by decide) rfl rfl) hZ (hw _ (mo 98 rfl)) (hw _ (mo 71 rfl)) (by decide) (by decide)) (g := (mkF m 32 #[vr ca, vi 0, vi 4, vr b21, vi 1, vr t27] [(.int (1 : Int32)), (.ref t27)])) rfl (by rw [hml]; rfl) (argsL := [(.ref t27), (.int (1 : Int32))]) (rest := []) (lenOf pd_7 rfl) rfl (Nat.le_of_eq rfl) (hb hby d14_32) (fun _ _ => ⟨rfl, rfl, (by decide : 2 ≤ _), (by decide : 12 ≤ _)⟩)
    dsimp only [Pt.U, Pt.locs, Pt.cells, Pt.slots] at X28 l28 y28 z28 st28 hQ28
    subst l28 y28 z28
    obtain ⟨vq28, N28q, e28⟩ := hQ28
    obtain rfl := vq28.trans (congrArg (fun z => some (Value.int z)) (own_pair hr1))
    have N28 := Fr.app N27 N28q
    refine bN T28 (mkF m 35 #[vr ca, vi 0, vi 4, vr b21, vi 1, vr t27] [(.int c1)]) (fun _ k => st28 _ k) ?_
    refine bN T28 (mkF m 38 #[vr ca, vi 0, vi 4, vr b21, vi 1, vr t27] [(.int (255 : Int32)), (.int c1)]) (fun _ k => XS.sipush X28.here hx rfl (hb hby d14_35) k) ?_
    refine bN T28 (mkF m 54 #[vr ca, vi 0, vi 4, vr b21, vi 1, vr t27] []) (fun _ k => XS.icmpYes X28.here hx rfl (pc0 := 38) (pc' := 54) rfl (hb hby d14_38) rfl (tlt u1).2.2.1 (by decide) (by decide) k) ?_
    refine bN T28 (mkF m 56 #[vr ca, vi 0, vi 4, vr b21, vi 1, vr t27] [(.ref t27)]) (fun _ k => XS.aload X28.here hx rfl (hb hby d14_54) rfl rfl k) ?_
    refine own_ret X28 hlk (v := some (.ref t27)) (nvr Bd.returns) (fun fs hr => retOut X28 hx Bd.returns rfl (Or.inr (Or.inr (Or.inr (Or.inr ⟨rfl, rfl, rfl⟩)))) (hb hby d14_56) hr) ?_ (by decide) (by decide)
    rw [e28]
    exact ⟨_, _, rfl, N28, KK27, sz_t27, V27⟩
  · skip
    have hk29 : own_k4 c0 c1 c2 c3 = (2 : Int32) := (((if_neg u0).trans (if_neg u1)).trans (if_pos u2))
    rw [hk29]
    refine bN T22 (mkF m 14 #[vr ca, vi 0, vi 4, vr b21, vi 2, uu] []) (fun _ k => XS.istore X22.here hx rfl (hb hby d14_12) rfl rfl k) ?_
    refine bN T22 (mkF m 16 #[vr ca, vi 0, vi 4, vr b21, vi 2, uu] [(.int (2 : Int32))]) (fun _ k => XS.iload X22.here hx rfl (hb hby d14_14) rfl k) ?_
    refine bN T22 (mkF m 17 #[vr ca, vi 0, vi 4, vr b21, vi 2, uu] [(.int (4 : Int32)), (.int (2 : Int32))]) (fun _ k => XS.iloadN X22.here hx rfl (hb hby d14_16) rfl k) ?_
    refine bN T22 (mkF m 20 #[vr ca, vi 0, vi 4, vr b21, vi 2, uu] []) (fun _ k => XS.icmpNo X22.here hx rfl (hb hby d14_17) rfl (feq (by decide)).1 k) ?_
    refine bN T22 (mkF m 21 #[vr ca, vi 0, vi 4, vr b21, vi 2, uu] [(.ref ca)]) (fun _ k => XS.aloadN X22.here hx rfl (hb hby d14_20) rfl rfl k) ?_
    refine bN T22 (mkF m 22 #[vr ca, vi 0, vi 4, vr b21, vi 2, uu] [(ii 0), (.ref ca)]) (fun _ k => XS.iloadN X22.here hx rfl (hb hby d14_21) rfl k) ?_
    refine bN T22 (mkF m 23 #[vr ca, vi 0, vi 4, vr b21, vi 2, uu] [(.int (4 : Int32)), (ii 0), (.ref ca)]) (fun _ k => XS.iloadN X22.here hx rfl (hb hby d14_22) rfl k) ?_
    obtain ⟨_, _, ⟨T30, L30, k30, n30⟩, -, X30, ⟨Lc30, hQ30, l30, y30, z30⟩, st30⟩ := Jvm.LawKit.callS X22 hx (y := yy11) hown (mvT hZ (hw _ (mo 80 rfl))) (mvT hZ (hw _ (mo 81 rfl))) (mvT hZ (hw _ (mo 71 rfl))) (mvT hZ (hw _ (mo 82 rfl))) (by decide) (backOf (W := 0) (tby_4 l Z a0 hw [] ca kc c0 c1 c2 c3 T22.heap n0 (Nat.le_trans (Nat.le_trans Z0 E21.1) K22.1) (Arv.keep (Arv.ext V_ca E21) K22 (ninS (Nat.ne_of_lt (Nat.lt_of_lt_of_le V_ca.lt (Nat.le_of_eq g21.symm))) nin0)) (Old.keep (Old.ext O0 E21) K22 (allS g_b21 all0)) S_AD S_HI S_LO) hZ (hw _ (mo 82 rfl)) (hw _ (mo 71 rfl)) (by decide) (by decide)) (g := (mkF m 23 #[vr ca, vi 0, vi 4, vr b21, vi 2, uu] [(.int (4 : Int32)), (ii 0), (.ref ca)])) rfl (by rw [hml]; rfl) (argsL := [(.ref ca), (ii 0), (.int (4 : Int32))]) (rest := []) (lenOf pd_1 rfl) rfl (Nat.le_of_eq rfl) (hb hby d14_23) (fun _ _ => ⟨rfl, rfl, (by decide : 2 ≤ _), (by decide : 12 ≤ _)⟩)
    dsimp only [Pt.U, Pt.locs, Pt.cells, Pt.slots] at X30 l30 y30 z30 st30 hQ30
    subst l30 y30 z30
    obtain ⟨t30, kb30, rfl, N30q, K30, zt30, V30⟩ := hQ30
    have N30 := Fr.app N22 N30q
    have KK30 : Keep h0 T30.heap [] := Keep.trans KK22 K30 all0
    have sz_t30 : h0.size ≤ t30 := Nat.le_trans KK22.1 zt30
    have g_t30 : n0 ≤ t30 := Nat.le_trans Z0 sz_t30
    refine bN T30 (mkF m 26 #[vr ca, vi 0, vi 4, vr b21, vi 2, uu] [(.ref t30)]) (fun _ k => st30 _ k) ?_
    refine bN T30 (mkF m 28 #[vr ca, vi 0, vi 4, vr b21, vi 2, vr t30] []) (fun _ k => XS.astore X30.here hx rfl (hb hby d14_26) rfl rfl rfl k) ?_
    refine bN T30 (mkF m 30 #[vr ca, vi 0, vi 4, vr b21, vi 2, vr t30] [(.ref t30)]) (fun _ k => XS.aload X30.here hx rfl (hb hby d14_28) rfl rfl k) ?_
    refine bN T30 (mkF m 32 #[vr ca, vi 0, vi 4, vr b21, vi 2, vr t30] [(.int (2 : Int32)), (.ref t30)]) (fun _ k => XS.iload X30.here hx rfl (hb hby d14_30) rfl k) ?_
    obtain ⟨_, _, ⟨T31, L31, k31, n31⟩, -, X31, ⟨Lc31, hQ31, l31, y31, z31⟩, st31⟩ := Jvm.LawKit.callS X30 hx (y := yy8) hown (mvT hZ (hw _ (mo 96 rfl))) (mvT hZ (hw _ (mo 97 rfl))) (mvT hZ (hw _ (mo 71 rfl))) (mvT hZ (hw _ (mo 98 rfl))) (by decide) (backOf (W := 0) (get_2 l Z a0 hw [] t30 kb30 (8 : Int32) (wb4 c0 c1 c2 c3) (b0 c2) (b1 c2) T30.heap n0 (Nat.le_trans (Nat.le_trans (Nat.le_trans Z0 E21.1) K22.1) K30.1) (Sta.ext ((Old.keep (Old.keep (Old.ext O0 E21) K22 (allS g_b21 all0)) K30 all0)).2 S_AD) (Sta.ext ((Old.keep (Old.keep (Old.ext O0 E21) K22 (allS g_b21 all0)) K30 all0)).2 S_HI) (Sta.ext ((Old.keep (Old.keep (Old.ext O0 E21) K22 (allS g_b21 all0)) K30 all0)).2 S_LO) V30 (by decide) (by decide) rfl rfl) hZ (hw _ (mo 98 rfl)) (hw _ (mo 71 rfl)) (by decide) (by decide)) (g := (mkF m 32 #[vr ca, vi 0, vi 4, vr b21, vi 2, vr t30] [(.int (2 : Int32)), (.ref t30)])) rfl (by rw [hml]; rfl) (argsL := [(.ref t30), (.int (2 : Int32))]) (rest := []) (lenOf pd_7 rfl) rfl (Nat.le_of_eq rfl) (hb hby d14_32) (fun _ _ => ⟨rfl, rfl, (by decide : 2 ≤ _), (by decide : 12 ≤ _)⟩)
    dsimp only [Pt.U, Pt.locs, Pt.cells, Pt.slots] at X31 l31 y31 z31 st31 hQ31
    subst l31 y31 z31
    obtain ⟨vq31, N31q, e31⟩ := hQ31
    obtain rfl := vq31.trans (congrArg (fun z => some (Value.int z)) (own_pair hr2))
    have N31 := Fr.app N30 N31q
    refine bN T31 (mkF m 35 #[vr ca, vi 0, vi 4, vr b21, vi 2, vr t30] [(.int c2)]) (fun _ k => st31 _ k) ?_
    refine bN T31 (mkF m 38 #[vr ca, vi 0, vi 4, vr b21, vi 2, vr t30] [(.int (255 : Int32)), (.int c2)]) (fun _ k => XS.sipush X31.here hx rfl (hb hby d14_35) k) ?_
    refine bN T31 (mkF m 54 #[vr ca, vi 0, vi 4, vr b21, vi 2, vr t30] []) (fun _ k => XS.icmpYes X31.here hx rfl (pc0 := 38) (pc' := 54) rfl (hb hby d14_38) rfl (tlt u2).2.2.1 (by decide) (by decide) k) ?_
    refine bN T31 (mkF m 56 #[vr ca, vi 0, vi 4, vr b21, vi 2, vr t30] [(.ref t30)]) (fun _ k => XS.aload X31.here hx rfl (hb hby d14_54) rfl rfl k) ?_
    refine own_ret X31 hlk (v := some (.ref t30)) (nvr Bd.returns) (fun fs hr => retOut X31 hx Bd.returns rfl (Or.inr (Or.inr (Or.inr (Or.inr ⟨rfl, rfl, rfl⟩)))) (hb hby d14_56) hr) ?_ (by decide) (by decide)
    rw [e31]
    exact ⟨_, _, rfl, N31, KK30, sz_t30, V30⟩
  · skip
    have hk32 : own_k4 c0 c1 c2 c3 = (3 : Int32) := ((((if_neg u0).trans (if_neg u1)).trans (if_neg u2)).trans (if_pos u3))
    rw [hk32]
    refine bN T22 (mkF m 14 #[vr ca, vi 0, vi 4, vr b21, vi 3, uu] []) (fun _ k => XS.istore X22.here hx rfl (hb hby d14_12) rfl rfl k) ?_
    refine bN T22 (mkF m 16 #[vr ca, vi 0, vi 4, vr b21, vi 3, uu] [(.int (3 : Int32))]) (fun _ k => XS.iload X22.here hx rfl (hb hby d14_14) rfl k) ?_
    refine bN T22 (mkF m 17 #[vr ca, vi 0, vi 4, vr b21, vi 3, uu] [(.int (4 : Int32)), (.int (3 : Int32))]) (fun _ k => XS.iloadN X22.here hx rfl (hb hby d14_16) rfl k) ?_
    refine bN T22 (mkF m 20 #[vr ca, vi 0, vi 4, vr b21, vi 3, uu] []) (fun _ k => XS.icmpNo X22.here hx rfl (hb hby d14_17) rfl (feq (by decide)).1 k) ?_
    refine bN T22 (mkF m 21 #[vr ca, vi 0, vi 4, vr b21, vi 3, uu] [(.ref ca)]) (fun _ k => XS.aloadN X22.here hx rfl (hb hby d14_20) rfl rfl k) ?_
    refine bN T22 (mkF m 22 #[vr ca, vi 0, vi 4, vr b21, vi 3, uu] [(ii 0), (.ref ca)]) (fun _ k => XS.iloadN X22.here hx rfl (hb hby d14_21) rfl k) ?_
    refine bN T22 (mkF m 23 #[vr ca, vi 0, vi 4, vr b21, vi 3, uu] [(.int (4 : Int32)), (ii 0), (.ref ca)]) (fun _ k => XS.iloadN X22.here hx rfl (hb hby d14_22) rfl k) ?_
    obtain ⟨_, _, ⟨T33, L33, k33, n33⟩, -, X33, ⟨Lc33, hQ33, l33, y33, z33⟩, st33⟩ := Jvm.LawKit.callS X22 hx (y := yy11) hown (mvT hZ (hw _ (mo 80 rfl))) (mvT hZ (hw _ (mo 81 rfl))) (mvT hZ (hw _ (mo 71 rfl))) (mvT hZ (hw _ (mo 82 rfl))) (by decide) (backOf (W := 0) (tby_4 l Z a0 hw [] ca kc c0 c1 c2 c3 T22.heap n0 (Nat.le_trans (Nat.le_trans Z0 E21.1) K22.1) (Arv.keep (Arv.ext V_ca E21) K22 (ninS (Nat.ne_of_lt (Nat.lt_of_lt_of_le V_ca.lt (Nat.le_of_eq g21.symm))) nin0)) (Old.keep (Old.ext O0 E21) K22 (allS g_b21 all0)) S_AD S_HI S_LO) hZ (hw _ (mo 82 rfl)) (hw _ (mo 71 rfl)) (by decide) (by decide)) (g := (mkF m 23 #[vr ca, vi 0, vi 4, vr b21, vi 3, uu] [(.int (4 : Int32)), (ii 0), (.ref ca)])) rfl (by rw [hml]; rfl) (argsL := [(.ref ca), (ii 0), (.int (4 : Int32))]) (rest := []) (lenOf pd_1 rfl) rfl (Nat.le_of_eq rfl) (hb hby d14_23) (fun _ _ => ⟨rfl, rfl, (by decide : 2 ≤ _), (by decide : 12 ≤ _)⟩)
    dsimp only [Pt.U, Pt.locs, Pt.cells, Pt.slots] at X33 l33 y33 z33 st33 hQ33
    subst l33 y33 z33
    obtain ⟨t33, kb33, rfl, N33q, K33, zt33, V33⟩ := hQ33
    have N33 := Fr.app N22 N33q
    have KK33 : Keep h0 T33.heap [] := Keep.trans KK22 K33 all0
    have sz_t33 : h0.size ≤ t33 := Nat.le_trans KK22.1 zt33
    have g_t33 : n0 ≤ t33 := Nat.le_trans Z0 sz_t33
    refine bN T33 (mkF m 26 #[vr ca, vi 0, vi 4, vr b21, vi 3, uu] [(.ref t33)]) (fun _ k => st33 _ k) ?_
    refine bN T33 (mkF m 28 #[vr ca, vi 0, vi 4, vr b21, vi 3, vr t33] []) (fun _ k => XS.astore X33.here hx rfl (hb hby d14_26) rfl rfl rfl k) ?_
    refine bN T33 (mkF m 30 #[vr ca, vi 0, vi 4, vr b21, vi 3, vr t33] [(.ref t33)]) (fun _ k => XS.aload X33.here hx rfl (hb hby d14_28) rfl rfl k) ?_
    refine bN T33 (mkF m 32 #[vr ca, vi 0, vi 4, vr b21, vi 3, vr t33] [(.int (3 : Int32)), (.ref t33)]) (fun _ k => XS.iload X33.here hx rfl (hb hby d14_30) rfl k) ?_
    obtain ⟨_, _, ⟨T34, L34, k34, n34⟩, -, X34, ⟨Lc34, hQ34, l34, y34, z34⟩, st34⟩ := Jvm.LawKit.callS X33 hx (y := yy8) hown (mvT hZ (hw _ (mo 96 rfl))) (mvT hZ (hw _ (mo 97 rfl))) (mvT hZ (hw _ (mo 71 rfl))) (mvT hZ (hw _ (mo 98 rfl))) (by decide) (backOf (W := 0) (get_3 l Z a0 hw [] t33 kb33 (8 : Int32) (wb4 c0 c1 c2 c3) (b0 c3) (b1 c3) T33.heap n0 (Nat.le_trans (Nat.le_trans (Nat.le_trans Z0 E21.1) K22.1) K33.1) (Sta.ext ((Old.keep (Old.keep (Old.ext O0 E21) K22 (allS g_b21 all0)) K33 all0)).2 S_AD) (Sta.ext ((Old.keep (Old.keep (Old.ext O0 E21) K22 (allS g_b21 all0)) K33 all0)).2 S_HI) (Sta.ext ((Old.keep (Old.keep (Old.ext O0 E21) K22 (allS g_b21 all0)) K33 all0)).2 S_LO) V33 (by decide) (by decide) rfl rfl) hZ (hw _ (mo 98 rfl)) (hw _ (mo 71 rfl)) (by decide) (by decide)) (g := (mkF m 32 #[vr ca, vi 0, vi 4, vr b21, vi 3, vr t33] [(.int (3 : Int32)), (.ref t33)])) rfl (by rw [hml]; rfl) (argsL := [(.ref t33), (.int (3 : Int32))]) (rest := []) (lenOf pd_7 rfl) rfl (Nat.le_of_eq rfl) (hb hby d14_32) (fun _ _ => ⟨rfl, rfl, (by decide : 2 ≤ _), (by decide : 12 ≤ _)⟩)
    dsimp only [Pt.U, Pt.locs, Pt.cells, Pt.slots] at X34 l34 y34 z34 st34 hQ34
    subst l34 y34 z34
    obtain ⟨vq34, N34q, e34⟩ := hQ34
    obtain rfl := vq34.trans (congrArg (fun z => some (Value.int z)) (own_pair hr3))
    have N34 := Fr.app N33 N34q
    refine bN T34 (mkF m 35 #[vr ca, vi 0, vi 4, vr b21, vi 3, vr t33] [(.int c3)]) (fun _ k => st34 _ k) ?_
    refine bN T34 (mkF m 38 #[vr ca, vi 0, vi 4, vr b21, vi 3, vr t33] [(.int (255 : Int32)), (.int c3)]) (fun _ k => XS.sipush X34.here hx rfl (hb hby d14_35) k) ?_
    refine bN T34 (mkF m 54 #[vr ca, vi 0, vi 4, vr b21, vi 3, vr t33] []) (fun _ k => XS.icmpYes X34.here hx rfl (pc0 := 38) (pc' := 54) rfl (hb hby d14_38) rfl (tlt u3).2.2.1 (by decide) (by decide) k) ?_
    refine bN T34 (mkF m 56 #[vr ca, vi 0, vi 4, vr b21, vi 3, vr t33] [(.ref t33)]) (fun _ k => XS.aload X34.here hx rfl (hb hby d14_54) rfl rfl k) ?_
    refine own_ret X34 hlk (v := some (.ref t33)) (nvr Bd.returns) (fun fs hr => retOut X34 hx Bd.returns rfl (Or.inr (Or.inr (Or.inr (Or.inr ⟨rfl, rfl, rfl⟩)))) (hb hby d14_56) hr) ?_ (by decide) (by decide)
    rw [e34]
    exact ⟨_, _, rfl, N34, KK33, sz_t33, V33⟩
theorem ef_cou_4 (m : MethodId) (ba : Addr) : entryFrame m #[(.ref ba), (.int (4 : Int32))] 2 = mkF m 0 #[vr ba, vi 4] [] := rfl
def Q_cou_4 (Z : State) (ba : Addr) (kb : ClassId) (c0 c1 : Int32) (c2 c3 : Int32) (h0 : Heap) (n0 : Nat) (v : Option Value) (h : Heap) (L : List Loc) : Prop := v = some (.int (1 : Int32)) ∧ Fr n0 L ∧ h = h0
theorem cou_4 (l : Launch) (Z : State) (a0 : Array Value) (hw : HW Z a0) (ws : List Jvm.Cond) (ba : Addr) (kb : ClassId) (c0 c1 : Int32) (c2 c3 : Int32) (h0 : Heap) (n0 : Nat) (Z0 : n0 ≤ h0.size) (V_ba : Arv Z h0 ba kb .byte (8 : Int32) (wb4 c0 c1 c2 c3) (ii 0)) :
    own_M l yy4 jdk_52_method_15_code 2 (some .byte) ws rr0 Z #[(.ref ba), (.int (4 : Int32))] h0 (Q_cou_4 Z ba kb c0 c1 c2 c3 h0 n0) := by
  refine own_bd (plainFor_of_name pn_16) fun p e s m below meth c s₁ Bd hx hby hml hown hnm hlk hZ X0 e0 => ?_
  rw [ef_cou_4 m ba]
  refine bN s₁ (mkF m 1 #[vr ba, vi 4] [(.int (4 : Int32))]) (fun _ k => XS.iloadN X0.here hx rfl (hb hby d16_0) rfl k) ?_
  refine bN s₁ (mkF m 2 #[vr ba, vi 4] [(.ref ba), (.int (4 : Int32))]) (fun _ k => XS.aloadN X0.here hx rfl (hb hby d16_1) rfl rfl k) ?_
  obtain ⟨cl21, Ar21, q21, S21, N_21, H21, G21⟩ := id V_ba
  refine bN s₁ (mkF m 3 #[vr ba, vi 4] [(.int (8 : Int32)), (.int (4 : Int32))]) (fun _ k => X0.arraylength hx (by rw [e0]; exact Ar21.1) (State.isArrayOf_alike hZ.alike Ar21.2.1) (g := (mkF m 2 #[vr ba, vi 4] [(.ref ba), (.int (4 : Int32))])) rfl rfl (hb hby d16_2) _ (by rw [len_of S21 N_21]; exact k)) ?_
  refine bN s₁ (mkF m 4 #[vr ba, vi 4] [(.int (-4 : Int32))]) (fun _ k => XS.isub X0.here hx rfl (hb hby d16_3) rfl k) ?_
  refine bN s₁ (mkF m 6 #[vr ba, vi 4] [(.int (31 : Int32)), (.int (-4 : Int32))]) (fun _ k => XS.bipush X0.here hx rfl (hb hby d16_4) k) ?_
  refine bN s₁ (mkF m 7 #[vr ba, vi 4] [(.int (1 : Int32))]) (fun _ k => XS.iushr X0.here hx rfl (hb hby d16_6) rfl k) ?_
  refine bN s₁ (mkF m 8 #[vr ba, vi 4] [(.int (1 : Int32))]) (fun _ k => XS.i2b X0.here hx rfl (hb hby d16_7) rfl k) ?_
  refine own_ret X0 hlk (v := some (.int (1 : Int32))) (nvr Bd.returns) (fun fs hr => retN X0 hx (t := .byte) Bd.returns (by simp) (hb hby d16_8) hr) ?_ (by decide) (by decide)
  rw [e0]
  exact ⟨rfl, (Fr.nil n0), rfl⟩
theorem ef_siu4_4 (m : MethodId) (a ca : Addr) : entryFrame m #[(.ref a), (.ref ca), (ii 0), (.int (4 : Int32)), .null] 6 = mkF m 0 #[vr a, vr ca, vi 0, vi 4, .val .null, uu] [] := rfl
def Q_siu4_4 (Z : State) (a ca : Addr) (kc : ClassId) (cs c0 : Int32) (c1 c2 c3 : Int32) (h0 : Heap) (n0 : Nat) (v : Option Value) (h : Heap) (L : List Loc) : Prop := v = none ∧ Fr n0 L ∧ Keep h0 h [a] ∧ Fld Z h a "java/lang/String" "coder" "B" (.int (1 : Int32)) ∧ ∃ (t : Addr) (kb : ClassId), h0.size ≤ t ∧ Fld Z h a "java/lang/String" "value" "[B" (.ref t) ∧ Arv Z h t kb .byte (8 : Int32) (wb4 c0 c1 c2 c3) (ii 0)
theorem siu4_4 (l : Launch) (Z : State) (a0 : Array Value) (hw : HW Z a0) (ws : List Jvm.Cond) (a ca : Addr) (kc : ClassId) (cs c0 : Int32) (c1 c2 c3 : Int32) (h0 : Heap) (n0 : Nat) (Z0 : n0 ≤ h0.size) (E_a : Exa Z h0 a "java/lang/String") (F_value_a : Fld Z h0 a "java/lang/String" "value" "[B" .null) (F_coder_a : Fld Z h0 a "java/lang/String" "coder" "B" (ii 0)) (g_a : n0 ≤ a) (V_ca : Arv Z h0 ca kc .char (4 : Int32) [(.int c0), (.int c1), (.int c2), (.int c3)] (ii 0)) (S_CS : Sta Z h0 "java/lang/String" "COMPACT_STRINGS" "Z" (.int cs)) (hcs : ¬ cs = (0 : Int32)) (O0 : Old Z n0 h0) (S_AD : Sta Z Z.heap "java/lang/StringUTF16" "$assertionsDisabled" "Z" (.int (1 : Int32))) (S_HI : Sta Z Z.heap "java/lang/StringUTF16" "HI_BYTE_SHIFT" "I" (ii 0)) (S_LO : Sta Z Z.heap "java/lang/StringUTF16" "LO_BYTE_SHIFT" "I" (.int (8 : Int32))) (hr0 : 0 ≤ c0.toInt ∧ c0.toInt ≤ 65535) (hr1 : 0 ≤ c1.toInt ∧ c1.toInt ≤ 65535) (hr2 : 0 ≤ c2.toInt ∧ c2.toInt ≤ 65535) (hr3 : 0 ≤ c3.toInt ∧ c3.toInt ≤ 65535) (hU : ((255 : Int32) < c0) ∨ (¬ (255 : Int32) < c0 ∧ (255 : Int32) < c1) ∨ (¬ (255 : Int32) < c0 ∧ ¬ (255 : Int32) < c1 ∧ (255 : Int32) < c2) ∨ (¬ (255 : Int32) < c0 ∧ ¬ (255 : Int32) < c1 ∧ ¬ (255 : Int32) < c2 ∧ (255 : Int32) < c3)) :
    own_M l yy5 jdk_42_method_149_code 6 none ws rr38 Z #[(.ref a), (.ref ca), (ii 0), (.int (4 : Int32)), .null] h0 (Q_siu4_4 Z a ca kc cs c0 c1 c2 c3 h0 n0) := by
  refine own_bd (plainFor_of_name pn_4) fun p e s m below meth c s₁ Bd hx hby hml hown hnm hlk hZ X0 e0 => ?_
  rw [ef_siu4_4 m a ca]
  refine bN s₁ (mkF m 1 #[vr a, vr ca, vi 0, vi 4, .val .null, uu] [(.ref a)]) (fun _ k => XS.aloadN X0.here hx rfl (hb hby d4_0) rfl rfl k) ?_
  obtain ⟨T21, X21, e21, st21⟩ := initO X0 hx hZ hown (hw _ (mo 20 rfl)) (hw _ (mo 21 rfl)) (hw _ (mo 22 rfl)) e0 (g := (mkF m 1 #[vr a, vr ca, vi 0, vi 4, .val .null, uu] [(.ref a)])) rfl (by rw [hml]; rfl) rfl (hb hby d4_1) (by decide) (W := 0) (Nat.le_of_eq rfl) (by decide)
  refine bN T21 (mkF m 4 #[vr a, vr ca, vi 0, vi 4, .val .null, uu] []) (fun _ k => st21 _ k) ?_
  refine bN T21 (mkF m 5 #[vr a, vr ca, vi 0, vi 4, .val .null, uu] [(.int (4 : Int32))]) (fun _ k => XS.iloadN X21.here hx rfl (hb hby d4_4) rfl k) ?_
  refine bN T21 (mkF m 27 #[vr a, vr ca, vi 0, vi 4, .val .null, uu] []) (fun _ k => XS.ifYes X21.here hx rfl (pc0 := 5) (pc' := 27) rfl (hb hby d4_5) rfl ((if0 _ _).trans (feq (by decide)).2) (by decide) (by decide) k) ?_
  obtain ⟨T22, X22, e22, st22⟩ := getS2 X21 hx hZ hown (host := "") (Or.inl (hw _ (mo 51 rfl))) Via.refl e21 S_CS (g := (mkF m 27 #[vr a, vr ca, vi 0, vi 4, .val .null, uu] [])) rfl (hb hby d4_27)
  refine bN T22 (mkF m 30 #[vr a, vr ca, vi 0, vi 4, .val .null, uu] [(.int cs)]) (fun _ k => st22 _ k) ?_
  refine bN T22 (mkF m 33 #[vr a, vr ca, vi 0, vi 4, .val .null, uu] []) (fun _ k => XS.ifNo X22.here hx rfl (hb hby d4_30) rfl ((if0 _ _).trans (feq hcs).1) k) ?_
  refine bN T22 (mkF m 34 #[vr a, vr ca, vi 0, vi 4, .val .null, uu] [(.ref ca)]) (fun _ k => XS.aloadN X22.here hx rfl (hb hby d4_33) rfl rfl k) ?_
  refine bN T22 (mkF m 35 #[vr a, vr ca, vi 0, vi 4, .val .null, uu] [(ii 0), (.ref ca)]) (fun _ k => XS.iloadN X22.here hx rfl (hb hby d4_34) rfl k) ?_
  refine bN T22 (mkF m 36 #[vr a, vr ca, vi 0, vi 4, .val .null, uu] [(.int (4 : Int32)), (ii 0), (.ref ca)]) (fun _ k => XS.iloadN X22.here hx rfl (hb hby d4_35) rfl k) ?_
  obtain ⟨_, _, ⟨T23, L23, k23, n23⟩, -, X23, ⟨Lc23, hQ23, l23, y23, z23⟩, st23⟩ := Jvm.LawKit.callS X22 hx (y := yy3) hown (mvT hZ (hw _ (mo 69 rfl))) (mvT hZ (hw _ (mo 70 rfl))) (mvT hZ (hw _ (mo 71 rfl))) (mvT hZ (hw _ (mo 72 rfl))) (by decide) (backOf (W := 0) (cmu_4 l Z a0 hw [] ca kc c0 c1 c2 c3 h0 n0 Z0 V_ca O0 S_AD S_HI S_LO hr0 hr1 hr2 hr3 hU) hZ (hw _ (mo 72 rfl)) (hw _ (mo 71 rfl)) (by decide) (by decide)) (g := (mkF m 36 #[vr a, vr ca, vi 0, vi 4, .val .null, uu] [(.int (4 : Int32)), (ii 0), (.ref ca)])) rfl (by rw [hml]; rfl) (argsL := [(.ref ca), (ii 0), (.int (4 : Int32))]) (rest := []) (lenOf pd_1 rfl) rfl (Nat.le_of_eq rfl) (hb hby d4_36) (fun _ _ => ⟨rfl, e22, (by decide : 2 ≤ _), (by decide : 12 ≤ _)⟩)
  dsimp only [Pt.U, Pt.locs, Pt.cells, Pt.slots] at X23 l23 y23 z23 st23 hQ23
  subst l23 y23 z23
  obtain ⟨t23, kb23, rfl, N23q, K23, zt23, V23⟩ := hQ23
  have N23 := Fr.app (Fr.nil n0) N23q
  have KK23 : Keep h0 T23.heap [a] := Keep.trans (Keep.refl h0 [a]) K23 all0
  have sz_t23 : h0.size ≤ t23 := Nat.le_trans (Keep.refl h0 [a]).1 zt23
  have g_t23 : n0 ≤ t23 := Nat.le_trans Z0 sz_t23
  refine bN T23 (mkF m 39 #[vr a, vr ca, vi 0, vi 4, .val .null, uu] [(.ref t23)]) (fun _ k => st23 _ k) ?_
  refine bN T23 (mkF m 41 #[vr a, vr ca, vi 0, vi 4, .val .null, vr t23] []) (fun _ k => XS.astore X23.here hx rfl (hb hby d4_39) rfl rfl rfl k) ?_
  refine bN T23 (mkF m 42 #[vr a, vr ca, vi 0, vi 4, .val .null, vr t23] [(.ref a)]) (fun _ k => XS.aloadN X23.here hx rfl (hb hby d4_41) rfl rfl k) ?_
  refine bN T23 (mkF m 44 #[vr a, vr ca, vi 0, vi 4, .val .null, vr t23] [(.ref t23), (.ref a)]) (fun _ k => XS.aload X23.here hx rfl (hb hby d4_42) rfl rfl k) ?_
  refine bN T23 (mkF m 45 #[vr a, vr ca, vi 0, vi 4, .val .null, vr t23] [(.int (4 : Int32)), (.ref t23), (.ref a)]) (fun _ k => XS.iloadN X23.here hx rfl (hb hby d4_44) rfl k) ?_
  obtain ⟨_, _, ⟨T24, L24, k24, n24⟩, -, X24, ⟨Lc24, hQ24, l24, y24, z24⟩, st24⟩ := Jvm.LawKit.callS X23 hx (y := yy4) hown (mvT hZ (hw _ (mo 76 rfl))) (mvT hZ (hw _ (mo 77 rfl))) (mvT hZ (hw _ (mo 71 rfl))) (mvT hZ (hw _ (mo 78 rfl))) (by decide) (backOf (W := 1) (cou_4 l Z a0 hw [] t23 kb23 c0 c1 c2 c3 T23.heap n0 (Nat.le_trans Z0 K23.1) V23) hZ (hw _ (mo 78 rfl)) (hw _ (mo 71 rfl)) (by decide) (by decide)) (g := (mkF m 45 #[vr a, vr ca, vi 0, vi 4, .val .null, vr t23] [(.int (4 : Int32)), (.ref t23), (.ref a)])) rfl (by rw [hml]; rfl) (argsL := [(.ref t23), (.int (4 : Int32))]) (rest := [(.ref a)]) (lenOf pd_2 rfl) rfl (Nat.le_of_eq rfl) (hb hby d4_45) (fun _ _ => ⟨rfl, rfl, (by decide : 2 ≤ _), (by decide : 12 ≤ _)⟩)
  dsimp only [Pt.U, Pt.locs, Pt.cells, Pt.slots] at X24 l24 y24 z24 st24 hQ24
  subst l24 y24 z24
  obtain ⟨rfl, N24q, e24⟩ := hQ24
  have N24 := Fr.app N23 N24q
  refine bN T24 (mkF m 48 #[vr a, vr ca, vi 0, vi 4, .val .null, vr t23] [(.int (1 : Int32)), (.ref a)]) (fun _ k => st24 _ k) ?_
  obtain ⟨T25, h25, X25, e25, W25, st25⟩ := putFN X24 hx hZ hown (hw _ (mo 30 rfl)) Via.refl e24 (Fld.keep F_coder_a K23 nin0) (Exa.keep E_a K23) (Or.inr ⟨(hw _ (mo 26 rfl)), rfl, hnm⟩) (hw _ (mo 11 rfl)) (ty := .byte) (v' := (.int (1 : Int32))) (by decide) rfl (by decide) (g := (mkF m 48 #[vr a, vr ca, vi 0, vi 4, .val .null, vr t23] [(.int (1 : Int32)), (.ref a)])) rfl rfl (hb hby d4_48)
  have Fw25 : Fld Z h25 a "java/lang/String" "coder" "B" (.int (1 : Int32)) := Fld.same W25 (Fld.keep F_coder_a K23 nin0)
  have K25 : Keep h0 h25 [a] := Keep.wr KK23 W25 (Or.inl (mo 0 rfl))
  have N25 := Fr.snoc X25 N24 g_a
  refine bN T25 (mkF m 51 #[vr a, vr ca, vi 0, vi 4, .val .null, vr t23] []) (fun _ k => st25 _ k) ?_
  refine bN T25 (mkF m 52 #[vr a, vr ca, vi 0, vi 4, .val .null, vr t23] [(.ref a)]) (fun _ k => XS.aloadN X25.here hx rfl (hb hby d4_51) rfl rfl k) ?_
  refine bN T25 (mkF m 54 #[vr a, vr ca, vi 0, vi 4, .val .null, vr t23] [(.ref t23), (.ref a)]) (fun _ k => XS.aload X25.here hx rfl (hb hby d4_52) rfl rfl k) ?_
  obtain ⟨T26, h26, X26, e26, W26, st26⟩ := putF X25 hx hZ hown (host := "") (Or.inl (hw _ (mo 29 rfl))) Via.refl e25 (Fld.other W25 (Fld.keep F_value_a K23 nin0) (Or.inr (slot_ne (a0 := a0) (Or.inr (hw _ (mo 25 rfl))) (Or.inr (hw _ (mo 26 rfl))) (by decide) (t := (.array .byte)) (t' := .byte) (by decide) (by decide)))) (Exa.wr W25 (Exa.keep E_a K23)) (Or.inr ⟨(hw _ (mo 25 rfl)), rfl, hnm⟩) (hw _ (mo 11 rfl)) (ty := (.array .byte)) (by decide) rfl rfl (g := (mkF m 54 #[vr a, vr ca, vi 0, vi 4, .val .null, vr t23] [(.ref t23), (.ref a)])) rfl rfl (hb hby d4_54)
  have Fw26 : Fld Z h26 a "java/lang/String" "value" "[B" (.ref t23) := Fld.same W26 (Fld.other W25 (Fld.keep F_value_a K23 nin0) (Or.inr (slot_ne (a0 := a0) (Or.inr (hw _ (mo 25 rfl))) (Or.inr (hw _ (mo 26 rfl))) (by decide) (t := (.array .byte)) (t' := .byte) (by decide) (by decide))))
  have K26 : Keep h0 h26 [a] := Keep.wr K25 W26 (Or.inl (mo 0 rfl))
  have N26 := Fr.snoc X26 N25 g_a
  refine bN T26 (mkF m 57 #[vr a, vr ca, vi 0, vi 4, .val .null, vr t23] []) (fun _ k => st26 _ k) ?_
  refine own_ret X26 hlk (v := none) (fun _ => rfl) (fun fs hr => X26.returnOut hx Bd.returns (hb hby d4_57) hr) ?_ (by decide) (by decide)
  rw [e26]
  exact ⟨rfl, N26, K26, (Fld.other W26 Fw25 (Or.inr (slot_ne (a0 := a0) (Or.inr (hw _ (mo 26 rfl))) (Or.inr (hw _ (mo 25 rfl))) (by decide) (t := .byte) (t' := (.array .byte)) (by decide) (by decide)))), _, _, sz_t23, Fw26, (Arv.other (Arv.other V23 W25 (Ne.symm (Nat.ne_of_lt (Nat.lt_of_lt_of_le (E_a).lt zt23)))) W26 (Ne.symm (Nat.ne_of_lt (Nat.lt_of_lt_of_le (E_a).lt zt23))))⟩
theorem ef_siu1_4 (m : MethodId) (a ca : Addr) : entryFrame m #[(.ref a), (.ref ca)] 2 = mkF m 0 #[vr a, vr ca] [] := rfl
def Q_siu1_4 (Z : State) (a ca : Addr) (kc : ClassId) (cs c0 : Int32) (c1 c2 c3 : Int32) (h0 : Heap) (n0 : Nat) (v : Option Value) (h : Heap) (L : List Loc) : Prop := v = none ∧ Fr n0 L ∧ Keep h0 h [a] ∧ Fld Z h a "java/lang/String" "coder" "B" (.int (1 : Int32)) ∧ ∃ (t : Addr) (kb : ClassId), h0.size ≤ t ∧ Fld Z h a "java/lang/String" "value" "[B" (.ref t) ∧ Arv Z h t kb .byte (8 : Int32) (wb4 c0 c1 c2 c3) (ii 0)
theorem siu1_4 (l : Launch) (Z : State) (a0 : Array Value) (hw : HW Z a0) (ws : List Jvm.Cond) (a ca : Addr) (kc : ClassId) (cs c0 : Int32) (c1 c2 c3 : Int32) (h0 : Heap) (n0 : Nat) (Z0 : n0 ≤ h0.size) (E_a : Exa Z h0 a "java/lang/String") (F_value_a : Fld Z h0 a "java/lang/String" "value" "[B" .null) (F_coder_a : Fld Z h0 a "java/lang/String" "coder" "B" (ii 0)) (g_a : n0 ≤ a) (V_ca : Arv Z h0 ca kc .char (4 : Int32) [(.int c0), (.int c1), (.int c2), (.int c3)] (ii 0)) (S_CS : Sta Z h0 "java/lang/String" "COMPACT_STRINGS" "Z" (.int cs)) (hcs : ¬ cs = (0 : Int32)) (O0 : Old Z n0 h0) (S_AD : Sta Z Z.heap "java/lang/StringUTF16" "$assertionsDisabled" "Z" (.int (1 : Int32))) (S_HI : Sta Z Z.heap "java/lang/StringUTF16" "HI_BYTE_SHIFT" "I" (ii 0)) (S_LO : Sta Z Z.heap "java/lang/StringUTF16" "LO_BYTE_SHIFT" "I" (.int (8 : Int32))) (hr0 : 0 ≤ c0.toInt ∧ c0.toInt ≤ 65535) (hr1 : 0 ≤ c1.toInt ∧ c1.toInt ≤ 65535) (hr2 : 0 ≤ c2.toInt ∧ c2.toInt ≤ 65535) (hr3 : 0 ≤ c3.toInt ∧ c3.toInt ≤ 65535) (hU : ((255 : Int32) < c0) ∨ (¬ (255 : Int32) < c0 ∧ (255 : Int32) < c1) ∨ (¬ (255 : Int32) < c0 ∧ ¬ (255 : Int32) < c1 ∧ (255 : Int32) < c2) ∨ (¬ (255 : Int32) < c0 ∧ ¬ (255 : Int32) < c1 ∧ ¬ (255 : Int32) < c2 ∧ (255 : Int32) < c3)) :
    own_M l yy6 jdk_42_method_3_code 2 none ws rr39 Z #[(.ref a), (.ref ca)] h0 (Q_siu1_4 Z a ca kc cs c0 c1 c2 c3 h0 n0) := by
  refine own_bd (plainFor_of_name pn_3) fun p e s m below meth c s₁ Bd hx hby hml hown hnm hlk hZ X0 e0 => ?_
  rw [ef_siu1_4 m a ca]
  refine bN s₁ (mkF m 1 #[vr a, vr ca] [(.ref a)]) (fun _ k => XS.aloadN X0.here hx rfl (hb hby d3_0) rfl rfl k) ?_
  refine bN s₁ (mkF m 2 #[vr a, vr ca] [(.ref ca), (.ref a)]) (fun _ k => XS.aloadN X0.here hx rfl (hb hby d3_1) rfl rfl k) ?_
  refine bN s₁ (mkF m 3 #[vr a, vr ca] [(ii 0), (.ref ca), (.ref a)]) (fun _ k => XS.iconst X0.here hx rfl (hb hby d3_2) k) ?_
  refine bN s₁ (mkF m 4 #[vr a, vr ca] [(.ref ca), (ii 0), (.ref ca), (.ref a)]) (fun _ k => XS.aloadN X0.here hx rfl (hb hby d3_3) rfl rfl k) ?_
  obtain ⟨cl21, Ar21, q21, S21, N_21, H21, G21⟩ := id V_ca
  refine bN s₁ (mkF m 5 #[vr a, vr ca] [(.int (4 : Int32)), (ii 0), (.ref ca), (.ref a)]) (fun _ k => X0.arraylength hx (by rw [e0]; exact Ar21.1) (State.isArrayOf_alike hZ.alike Ar21.2.1) (g := (mkF m 4 #[vr a, vr ca] [(.ref ca), (ii 0), (.ref ca), (.ref a)])) rfl rfl (hb hby d3_4) _ (by rw [len_of S21 N_21]; exact k)) ?_
  refine bN s₁ (mkF m 6 #[vr a, vr ca] [.null, (.int (4 : Int32)), (ii 0), (.ref ca), (.ref a)]) (fun _ k => XS.aconstNull X0.here hx rfl (hb hby d3_5) k) ?_
  obtain ⟨_, _, ⟨T22, L22, k22, n22⟩, -, X22, ⟨Lc22, hQ22, l22, y22, z22⟩, st22⟩ := X0.specialBack hx (y := yy5) rfl hown (mvT hZ (hw _ (mo 16 rfl))) (mvT hZ (hw _ (mo 17 rfl))) (mvT hZ (hw _ (mo 19 rfl))) (by decide) (backOf (W := 0) (siu4_4 l Z a0 hw [] a ca kc cs c0 c1 c2 c3 h0 n0 Z0 E_a F_value_a F_coder_a g_a V_ca S_CS hcs O0 S_AD S_HI S_LO hr0 hr1 hr2 hr3 hU) hZ (hw _ (mo 19 rfl)) (hw _ (mo 12 rfl)) (by decide) (by decide)) (g := (mkF m 6 #[vr a, vr ca] [.null, (.int (4 : Int32)), (ii 0), (.ref ca), (.ref a)])) rfl (by rw [hml]; rfl) (Steps.refl _) (a := a) (argsL := [(.ref ca), (ii 0), (.int (4 : Int32)), .null]) (rest := []) (lenOf pd_3 rfl) rfl (Nat.le_of_eq rfl) (hb hby d3_6) (fun _ _ => ⟨rfl, e0, (by decide : 2 ≤ _), (by decide : 12 ≤ _)⟩)
  dsimp only [Pt.U, Pt.locs, Pt.cells, Pt.slots] at X22 l22 y22 z22 st22 hQ22
  subst l22 y22 z22
  obtain ⟨rfl, N22q, K22, Fc22, t22, kb22, zt22, Fv22, V22⟩ := hQ22
  have N22 := Fr.app (Fr.nil n0) N22q
  have KK22 : Keep h0 T22.heap [a] := Keep.trans (Keep.refl h0 [a]) K22 (allS (Or.inl (mo 0 rfl)) all0)
  have sz_t22 : h0.size ≤ t22 := zt22
  refine bN T22 (mkF m 9 #[vr a, vr ca] []) (fun _ k => st22.trans k) ?_
  refine own_ret X22 hlk (v := none) (fun _ => rfl) (fun fs hr => X22.returnOut hx Bd.returns (hb hby d3_9) hr) ?_ (by decide) (by decide)
  exact ⟨rfl, N22, KK22, Fc22, _, _, sz_t22, Fv22, V22⟩
theorem d9_0 : decode jdk_42_method_154_code 0 = .ok (.getstatic 38, 3) := by decide +kernel
theorem d9_3 : decode jdk_42_method_154_code 3 = .ok (.ifCond .eq 14, 3) := by decide +kernel
theorem d9_6 : decode jdk_42_method_154_code 6 = .ok (.aload_n 0, 1) := by decide +kernel
theorem d9_7 : decode jdk_42_method_154_code 7 = .ok (.getfield 15, 3) := by decide +kernel
theorem d9_10 : decode jdk_42_method_154_code 10 = .ok (.ifCond .ne 7, 3) := by decide +kernel
theorem d9_13 : decode jdk_42_method_154_code 13 = .ok (.iconst 1, 1) := by decide +kernel
theorem d9_14 : decode jdk_42_method_154_code 14 = .ok (.goto 4, 3) := by decide +kernel
theorem d9_18 : decode jdk_42_method_154_code 18 = .ok (.ireturn, 1) := by decide +kernel
theorem pn_9 : plainName "java/lang/String" = true := by first | (simp [plainName, overriddenIn]; done) | decide +kernel
theorem ef_isl_0 (m : MethodId) (a : Addr) : entryFrame m #[(.ref a)] 1 = mkF m 0 #[vr a] [] := rfl
def Q_isl_0 (Z : State) (a : Addr) (cs : Int32) (h0 : Heap) (n0 : Nat) (v : Option Value) (h : Heap) (L : List Loc) : Prop := v = some (.int (1 : Int32)) ∧ Fr n0 L ∧ h = h0
theorem isl_0 (l : Launch) (Z : State) (a0 : Array Value) (hw : HW Z a0) (ws : List Jvm.Cond) (a : Addr) (cs : Int32) (h0 : Heap) (n0 : Nat) (Z0 : n0 ≤ h0.size) (F_coder_a : Fld Z h0 a "java/lang/String" "coder" "B" (ii 0)) (S_CS : Sta Z h0 "java/lang/String" "COMPACT_STRINGS" "Z" (.int cs)) (hcs : ¬ cs = (0 : Int32)) :
    own_M l yy12 jdk_42_method_154_code 1 (some .boolean) ws rr0 Z #[(.ref a)] h0 (Q_isl_0 Z a cs h0 n0) := by
  refine own_bd (plainFor_of_name pn_9) fun p e s m below meth c s₁ Bd hx hby hml hown hnm hlk hZ X0 e0 => ?_
  rw [ef_isl_0 m a]
  obtain ⟨T21, X21, e21, st21⟩ := getS2 X0 hx hZ hown (host := "") (Or.inl (hw _ (mo 51 rfl))) Via.refl e0 S_CS (g := (mkF m 0 #[vr a] [])) rfl (hb hby d9_0)
  refine bN T21 (mkF m 3 #[vr a] [(.int cs)]) (fun _ k => st21 _ k) ?_
  refine bN T21 (mkF m 6 #[vr a] []) (fun _ k => XS.ifNo X21.here hx rfl (hb hby d9_3) rfl ((if0 _ _).trans (feq hcs).1) k) ?_
  refine bN T21 (mkF m 7 #[vr a] [(.ref a)]) (fun _ k => XS.aloadN X21.here hx rfl (hb hby d9_6) rfl rfl k) ?_
  obtain ⟨T22, X22, e22, st22⟩ := getF X21 hx hZ hown (host := "") (Or.inl (hw _ (mo 30 rfl))) Via.refl e21 F_coder_a (g := (mkF m 7 #[vr a] [(.ref a)])) rfl rfl (hb hby d9_7)
  refine bN T22 (mkF m 10 #[vr a] [(ii 0)]) (fun _ k => st22 _ k) ?_
  refine bN T22 (mkF m 13 #[vr a] []) (fun _ k => XS.ifNo X22.here hx rfl (hb hby d9_10) rfl ((if0 _ _).trans (teq (by decide)).2) k) ?_
  refine bN T22 (mkF m 14 #[vr a] [(.int (1 : Int32))]) (fun _ k => XS.iconst X22.here hx rfl (hb hby d9_13) k) ?_
  refine bN T22 (mkF m 18 #[vr a] [(.int (1 : Int32))]) (fun _ k => XS.goto X22.here hx rfl (pc0 := 14) (pc' := 18) rfl (hb hby d9_14) (by decide) (by decide) k) ?_
  refine own_ret X22 hlk (v := some (.int (1 : Int32))) (nvr Bd.returns) (fun fs hr => retN X22 hx (t := .boolean) Bd.returns (by simp) (hb hby d9_18) hr) ?_ (by decide) (by decide)
  rw [e22]
  exact ⟨rfl, (Fr.nil n0), rfl⟩
theorem d11_0 : decode jdk_42_method_152_code 0 = .ok (.getstatic 38, 3) := by decide +kernel
theorem d11_3 : decode jdk_42_method_152_code 3 = .ok (.ifCond .eq 10, 3) := by decide +kernel
theorem d11_6 : decode jdk_42_method_152_code 6 = .ok (.aload_n 0, 1) := by decide +kernel
theorem d11_7 : decode jdk_42_method_152_code 7 = .ok (.getfield 15, 3) := by decide +kernel
theorem d11_10 : decode jdk_42_method_152_code 10 = .ok (.goto 4, 3) := by decide +kernel
theorem d11_14 : decode jdk_42_method_152_code 14 = .ok (.ireturn, 1) := by decide +kernel
theorem pn_11 : plainName "java/lang/String" = true := by first | (simp [plainName, overriddenIn]; done) | decide +kernel
theorem ef_cdr_0 (m : MethodId) (a : Addr) : entryFrame m #[(.ref a)] 1 = mkF m 0 #[vr a] [] := rfl
def Q_cdr_0 (Z : State) (a : Addr) (cs : Int32) (h0 : Heap) (n0 : Nat) (v : Option Value) (h : Heap) (L : List Loc) : Prop := v = some (ii 0) ∧ Fr n0 L ∧ h = h0
theorem cdr_0 (l : Launch) (Z : State) (a0 : Array Value) (hw : HW Z a0) (ws : List Jvm.Cond) (a : Addr) (cs : Int32) (h0 : Heap) (n0 : Nat) (Z0 : n0 ≤ h0.size) (F_coder_a : Fld Z h0 a "java/lang/String" "coder" "B" (ii 0)) (S_CS : Sta Z h0 "java/lang/String" "COMPACT_STRINGS" "Z" (.int cs)) (hcs : ¬ cs = (0 : Int32)) :
    own_M l yy13 jdk_42_method_152_code 1 (some .byte) ws rr0 Z #[(.ref a)] h0 (Q_cdr_0 Z a cs h0 n0) := by
  refine own_bd (plainFor_of_name pn_11) fun p e s m below meth c s₁ Bd hx hby hml hown hnm hlk hZ X0 e0 => ?_
  rw [ef_cdr_0 m a]
  obtain ⟨T21, X21, e21, st21⟩ := getS2 X0 hx hZ hown (host := "") (Or.inl (hw _ (mo 51 rfl))) Via.refl e0 S_CS (g := (mkF m 0 #[vr a] [])) rfl (hb hby d11_0)
  refine bN T21 (mkF m 3 #[vr a] [(.int cs)]) (fun _ k => st21 _ k) ?_
  refine bN T21 (mkF m 6 #[vr a] []) (fun _ k => XS.ifNo X21.here hx rfl (hb hby d11_3) rfl ((if0 _ _).trans (feq hcs).1) k) ?_
  refine bN T21 (mkF m 7 #[vr a] [(.ref a)]) (fun _ k => XS.aloadN X21.here hx rfl (hb hby d11_6) rfl rfl k) ?_
  obtain ⟨T22, X22, e22, st22⟩ := getF X21 hx hZ hown (host := "") (Or.inl (hw _ (mo 30 rfl))) Via.refl e21 F_coder_a (g := (mkF m 7 #[vr a] [(.ref a)])) rfl rfl (hb hby d11_7)
  refine bN T22 (mkF m 10 #[vr a] [(ii 0)]) (fun _ k => st22 _ k) ?_
  refine bN T22 (mkF m 14 #[vr a] [(ii 0)]) (fun _ k => XS.goto X22.here hx rfl (pc0 := 10) (pc' := 14) rfl (hb hby d11_10) (by decide) (by decide) k) ?_
  refine own_ret X22 hlk (v := some (ii 0)) (nvr Bd.returns) (fun fs hr => retN X22 hx (t := .byte) Bd.returns (by simp) (hb hby d11_14) hr) ?_ (by decide) (by decide)
  rw [e22]
  exact ⟨rfl, (Fr.nil n0), rfl⟩
theorem d9_17 : decode jdk_42_method_154_code 17 = .ok (.iconst 0, 1) := by decide +kernel
theorem ef_isl_1 (m : MethodId) (a : Addr) : entryFrame m #[(.ref a)] 1 = mkF m 0 #[vr a] [] := rfl
def Q_isl_1 (Z : State) (a : Addr) (cs : Int32) (h0 : Heap) (n0 : Nat) (v : Option Value) (h : Heap) (L : List Loc) : Prop := v = some (ii 0) ∧ Fr n0 L ∧ h = h0
theorem isl_1 (l : Launch) (Z : State) (a0 : Array Value) (hw : HW Z a0) (ws : List Jvm.Cond) (a : Addr) (cs : Int32) (h0 : Heap) (n0 : Nat) (Z0 : n0 ≤ h0.size) (F_coder_a : Fld Z h0 a "java/lang/String" "coder" "B" (.int (1 : Int32))) (S_CS : Sta Z h0 "java/lang/String" "COMPACT_STRINGS" "Z" (.int cs)) (hcs : ¬ cs = (0 : Int32)) :
    own_M l yy12 jdk_42_method_154_code 1 (some .boolean) ws rr0 Z #[(.ref a)] h0 (Q_isl_1 Z a cs h0 n0) := by
  refine own_bd (plainFor_of_name pn_9) fun p e s m below meth c s₁ Bd hx hby hml hown hnm hlk hZ X0 e0 => ?_
  rw [ef_isl_1 m a]
  obtain ⟨T21, X21, e21, st21⟩ := getS2 X0 hx hZ hown (host := "") (Or.inl (hw _ (mo 51 rfl))) Via.refl e0 S_CS (g := (mkF m 0 #[vr a] [])) rfl (hb hby d9_0)
  refine bN T21 (mkF m 3 #[vr a] [(.int cs)]) (fun _ k => st21 _ k) ?_
  refine bN T21 (mkF m 6 #[vr a] []) (fun _ k => XS.ifNo X21.here hx rfl (hb hby d9_3) rfl ((if0 _ _).trans (feq hcs).1) k) ?_
  refine bN T21 (mkF m 7 #[vr a] [(.ref a)]) (fun _ k => XS.aloadN X21.here hx rfl (hb hby d9_6) rfl rfl k) ?_
  obtain ⟨T22, X22, e22, st22⟩ := getF X21 hx hZ hown (host := "") (Or.inl (hw _ (mo 30 rfl))) Via.refl e21 F_coder_a (g := (mkF m 7 #[vr a] [(.ref a)])) rfl rfl (hb hby d9_7)
  refine bN T22 (mkF m 10 #[vr a] [(.int (1 : Int32))]) (fun _ k => st22 _ k) ?_
  refine bN T22 (mkF m 17 #[vr a] []) (fun _ k => XS.ifYes X22.here hx rfl (pc0 := 10) (pc' := 17) rfl (hb hby d9_10) rfl ((if0 _ _).trans (feq (by decide)).2) (by decide) (by decide) k) ?_
  refine bN T22 (mkF m 18 #[vr a] [(ii 0)]) (fun _ k => XS.iconst X22.here hx rfl (hb hby d9_17) k) ?_
  refine own_ret X22 hlk (v := some (ii 0)) (nvr Bd.returns) (fun fs hr => retN X22 hx (t := .boolean) Bd.returns (by simp) (hb hby d9_18) hr) ?_ (by decide) (by decide)
  rw [e22]
  exact ⟨rfl, (Fr.nil n0), rfl⟩
theorem ef_cdr_1 (m : MethodId) (a : Addr) : entryFrame m #[(.ref a)] 1 = mkF m 0 #[vr a] [] := rfl
def Q_cdr_1 (Z : State) (a : Addr) (cs : Int32) (h0 : Heap) (n0 : Nat) (v : Option Value) (h : Heap) (L : List Loc) : Prop := v = some (.int (1 : Int32)) ∧ Fr n0 L ∧ h = h0
theorem cdr_1 (l : Launch) (Z : State) (a0 : Array Value) (hw : HW Z a0) (ws : List Jvm.Cond) (a : Addr) (cs : Int32) (h0 : Heap) (n0 : Nat) (Z0 : n0 ≤ h0.size) (F_coder_a : Fld Z h0 a "java/lang/String" "coder" "B" (.int (1 : Int32))) (S_CS : Sta Z h0 "java/lang/String" "COMPACT_STRINGS" "Z" (.int cs)) (hcs : ¬ cs = (0 : Int32)) :
    own_M l yy13 jdk_42_method_152_code 1 (some .byte) ws rr0 Z #[(.ref a)] h0 (Q_cdr_1 Z a cs h0 n0) := by
  refine own_bd (plainFor_of_name pn_11) fun p e s m below meth c s₁ Bd hx hby hml hown hnm hlk hZ X0 e0 => ?_
  rw [ef_cdr_1 m a]
  obtain ⟨T21, X21, e21, st21⟩ := getS2 X0 hx hZ hown (host := "") (Or.inl (hw _ (mo 51 rfl))) Via.refl e0 S_CS (g := (mkF m 0 #[vr a] [])) rfl (hb hby d11_0)
  refine bN T21 (mkF m 3 #[vr a] [(.int cs)]) (fun _ k => st21 _ k) ?_
  refine bN T21 (mkF m 6 #[vr a] []) (fun _ k => XS.ifNo X21.here hx rfl (hb hby d11_3) rfl ((if0 _ _).trans (feq hcs).1) k) ?_
  refine bN T21 (mkF m 7 #[vr a] [(.ref a)]) (fun _ k => XS.aloadN X21.here hx rfl (hb hby d11_6) rfl rfl k) ?_
  obtain ⟨T22, X22, e22, st22⟩ := getF X21 hx hZ hown (host := "") (Or.inl (hw _ (mo 30 rfl))) Via.refl e21 F_coder_a (g := (mkF m 7 #[vr a] [(.ref a)])) rfl rfl (hb hby d11_7)
  refine bN T22 (mkF m 10 #[vr a] [(.int (1 : Int32))]) (fun _ k => st22 _ k) ?_
  refine bN T22 (mkF m 14 #[vr a] [(.int (1 : Int32))]) (fun _ k => XS.goto X22.here hx rfl (pc0 := 10) (pc' := 14) rfl (hb hby d11_10) (by decide) (by decide) k) ?_
  refine own_ret X22 hlk (v := some (.int (1 : Int32))) (nvr Bd.returns) (fun fs hr => retN X22 hx (t := .byte) Bd.returns (by simp) (hb hby d11_14) hr) ?_ (by decide) (by decide)
  rw [e22]
  exact ⟨rfl, (Fr.nil n0), rfl⟩
theorem d13_0 : decode jdk_43_method_4_code 0 = .ok (.iload_n 0, 1) := by decide +kernel
theorem d13_1 : decode jdk_43_method_4_code 1 = .ok (.ifCond .lt 14, 3) := by decide +kernel
theorem d13_4 : decode jdk_43_method_4_code 4 = .ok (.iload_n 0, 1) := by decide +kernel
theorem d13_5 : decode jdk_43_method_4_code 5 = .ok (.sipush 255, 3) := by decide +kernel
theorem d13_8 : decode jdk_43_method_4_code 8 = .ok (.if_icmp .gt 7, 3) := by decide +kernel
theorem d13_15 : decode jdk_43_method_4_code 15 = .ok (.iconst 0, 1) := by decide +kernel
theorem d13_16 : decode jdk_43_method_4_code 16 = .ok (.ireturn, 1) := by decide +kernel
theorem pn_13 : plainName "java/lang/StringLatin1" = true := by first | (simp [plainName, overriddenIn]; done) | decide +kernel
theorem ef_cen (m : MethodId)  : entryFrame m #[(.int (65533 : Int32))] 1 = mkF m 0 #[vi 65533] [] := rfl
def Q_cen (Z : State)  (h0 : Heap) (n0 : Nat) (v : Option Value) (h : Heap) (L : List Loc) : Prop := v = some (ii 0) ∧ Fr n0 L ∧ h = h0
theorem cen (l : Launch) (Z : State) (a0 : Array Value) (hw : HW Z a0) (ws : List Jvm.Cond)  (h0 : Heap) (n0 : Nat) (Z0 : n0 ≤ h0.size) :
    own_M l yy14 jdk_43_method_4_code 1 (some .boolean) ws rr0 Z #[(.int (65533 : Int32))] h0 (Q_cen Z  h0 n0) := by
  refine own_bd (plainFor_of_name pn_13) fun p e s m below meth c s₁ Bd hx hby hml hown hnm hlk hZ X0 e0 => ?_
  rw [ef_cen m ]
  refine bN s₁ (mkF m 1 #[vi 65533] [(.int (65533 : Int32))]) (fun _ k => XS.iloadN X0.here hx rfl (hb hby d13_0) rfl k) ?_
  refine bN s₁ (mkF m 4 #[vi 65533] []) (fun _ k => XS.ifNo X0.here hx rfl (hb hby d13_1) rfl ((if0 _ _).trans (flt (by decide)).1) k) ?_
  refine bN s₁ (mkF m 5 #[vi 65533] [(.int (65533 : Int32))]) (fun _ k => XS.iloadN X0.here hx rfl (hb hby d13_4) rfl k) ?_
  refine bN s₁ (mkF m 8 #[vi 65533] [(.int (255 : Int32)), (.int (65533 : Int32))]) (fun _ k => XS.sipush X0.here hx rfl (hb hby d13_5) k) ?_
  refine bN s₁ (mkF m 15 #[vi 65533] []) (fun _ k => XS.icmpYes X0.here hx rfl (pc0 := 8) (pc' := 15) rfl (hb hby d13_8) rfl (tlt (by decide)).2.2.1 (by decide) (by decide) k) ?_
  refine bN s₁ (mkF m 16 #[vi 65533] [(ii 0)]) (fun _ k => XS.iconst X0.here hx rfl (hb hby d13_15) k) ?_
  refine own_ret X0 hlk (v := some (ii 0)) (nvr Bd.returns) (fun fs hr => retN X0 hx (t := .boolean) Bd.returns (by simp) (hb hby d13_16) hr) ?_ (by decide) (by decide)
  rw [e0]
  exact ⟨rfl, (Fr.nil n0), rfl⟩
theorem d23_0 : decode jdk_29_method_65_code 0 = .ok (.iload_n 0, 1) := by decide +kernel
theorem d23_1 : decode jdk_29_method_65_code 1 = .ok (.iload_n 1, 1) := by decide +kernel
theorem d23_2 : decode jdk_29_method_65_code 2 = .ok (.if_icmp .lt 7, 3) := by decide +kernel
theorem d23_5 : decode jdk_29_method_65_code 5 = .ok (.iload_n 0, 1) := by decide +kernel
theorem d23_6 : decode jdk_29_method_65_code 6 = .ok (.goto 4, 3) := by decide +kernel
theorem d23_10 : decode jdk_29_method_65_code 10 = .ok (.ireturn, 1) := by decide +kernel
theorem ef_max00 (m : MethodId)  : entryFrame m #[(ii 0), (ii 0)] 2 = mkF m 0 #[vi 0, vi 0] [] := rfl
def Q_max00 (Z : State)  (h0 : Heap) (n0 : Nat) (v : Option Value) (h : Heap) (L : List Loc) : Prop := v = some (ii 0) ∧ Fr n0 L ∧ h = h0
theorem max00 (l : Launch) (Z : State) (a0 : Array Value) (hw : HW Z a0) (ws : List Jvm.Cond)  (h0 : Heap) (n0 : Nat) (Z0 : n0 ≤ h0.size) :
    own_M l yy15 jdk_29_method_65_code 2 (some .int) ws rr0 Z #[(ii 0), (ii 0)] h0 (Q_max00 Z  h0 n0) := by
  refine own_bd (Jvm.Free.JP.mathPlain rfl (by decide +kernel)) fun p e s m below meth c s₁ Bd hx hby hml hown hnm hlk hZ X0 e0 => ?_
  rw [ef_max00 m ]
  refine bN s₁ (mkF m 1 #[vi 0, vi 0] [(ii 0)]) (fun _ k => XS.iloadN X0.here hx rfl (hb hby d23_0) rfl k) ?_
  refine bN s₁ (mkF m 2 #[vi 0, vi 0] [(ii 0), (ii 0)]) (fun _ k => XS.iloadN X0.here hx rfl (hb hby d23_1) rfl k) ?_
  refine bN s₁ (mkF m 5 #[vi 0, vi 0] []) (fun _ k => XS.icmpNo X0.here hx rfl (hb hby d23_2) rfl (flt (by decide)).1 k) ?_
  refine bN s₁ (mkF m 6 #[vi 0, vi 0] [(ii 0)]) (fun _ k => XS.iloadN X0.here hx rfl (hb hby d23_5) rfl k) ?_
  refine bN s₁ (mkF m 10 #[vi 0, vi 0] [(ii 0)]) (fun _ k => XS.goto X0.here hx rfl (pc0 := 6) (pc' := 10) rfl (hb hby d23_6) (by decide) (by decide) k) ?_
  refine own_ret X0 hlk (v := some (ii 0)) (nvr Bd.returns) (fun fs hr => retI X0 hx Bd.returns (hb hby d23_10) hr) ?_ (by decide) (by decide)
  rw [e0]
  exact ⟨rfl, (Fr.nil n0), rfl⟩
theorem d10_0 : decode jdk_42_method_54_code 0 = .ok (.aload_n 0, 1) := by decide +kernel
theorem d10_1 : decode jdk_42_method_54_code 1 = .ok (.getfield 9, 3) := by decide +kernel
theorem d10_4 : decode jdk_42_method_54_code 4 = .ok (.arraylength, 1) := by decide +kernel
theorem d10_5 : decode jdk_42_method_54_code 5 = .ok (.aload_n 0, 1) := by decide +kernel
theorem d10_6 : decode jdk_42_method_54_code 6 = .ok (.invokevirtual 335, 3) := by decide +kernel
theorem d10_9 : decode jdk_42_method_54_code 9 = .ok (.ishr, 1) := by decide +kernel
theorem d10_10 : decode jdk_42_method_54_code 10 = .ok (.ireturn, 1) := by decide +kernel
theorem pn_10 : plainName "java/lang/String" = true := by first | (simp [plainName, overriddenIn]; done) | decide +kernel
theorem ef_len_u_1 (m : MethodId) (a : Addr) : entryFrame m #[(.ref a)] 1 = mkF m 0 #[vr a] [] := rfl
def Q_len_u_1 (Z : State) (a t1 : Addr) (k1 : ClassId) (cs c0 : Int32) (h0 : Heap) (n0 : Nat) (v : Option Value) (h : Heap) (L : List Loc) : Prop := v = some (.int (1 : Int32)) ∧ Fr n0 L ∧ h = h0
theorem len_u_1 (l : Launch) (Z : State) (a0 : Array Value) (hw : HW Z a0) (ws : List Jvm.Cond) (a t1 : Addr) (k1 : ClassId) (cs c0 : Int32) (h0 : Heap) (n0 : Nat) (Z0 : n0 ≤ h0.size) (E_a : Exa Z h0 a "java/lang/String") (F_coder_a : Fld Z h0 a "java/lang/String" "coder" "B" (.int (1 : Int32))) (F_value_a : Fld Z h0 a "java/lang/String" "value" "[B" (.ref t1)) (V_t1 : Arv Z h0 t1 k1 .byte (2 : Int32) (wb1 c0) (ii 0)) (S_CS : Sta Z h0 "java/lang/String" "COMPACT_STRINGS" "Z" (.int cs)) (hcs : ¬ cs = (0 : Int32)) :
    own_M l yy16 jdk_42_method_54_code 1 (some .int) ws rr40 Z #[(.ref a)] h0 (Q_len_u_1 Z a t1 k1 cs c0 h0 n0) := by
  refine own_bd (plainFor_of_name pn_10) fun p e s m below meth c s₁ Bd hx hby hml hown hnm hlk hZ X0 e0 => ?_
  rw [ef_len_u_1 m a]
  refine bN s₁ (mkF m 1 #[vr a] [(.ref a)]) (fun _ k => XS.aloadN X0.here hx rfl (hb hby d10_0) rfl rfl k) ?_
  obtain ⟨T21, X21, e21, st21⟩ := getF X0 hx hZ hown (host := "") (Or.inl (hw _ (mo 29 rfl))) Via.refl e0 F_value_a (g := (mkF m 1 #[vr a] [(.ref a)])) rfl rfl (hb hby d10_1)
  refine bN T21 (mkF m 4 #[vr a] [(.ref t1)]) (fun _ k => st21 _ k) ?_
  obtain ⟨cl22, Ar22, q22, S22, N_22, H22, G22⟩ := id V_t1
  refine bN T21 (mkF m 5 #[vr a] [(.int (2 : Int32))]) (fun _ k => X21.arraylength hx (by rw [e21]; exact Ar22.1) (State.isArrayOf_alike hZ.alike Ar22.2.1) (g := (mkF m 4 #[vr a] [(.ref t1)])) rfl rfl (hb hby d10_4) _ (by rw [len_of S22 N_22]; exact k)) ?_
  refine bN T21 (mkF m 6 #[vr a] [(.ref a), (.int (2 : Int32))]) (fun _ k => XS.aloadN X21.here hx rfl (hb hby d10_5) rfl rfl k) ?_
  obtain ⟨cq23, kq23, q23a, q23b, q23c⟩ := isOf hZ e21 E_a
  obtain ⟨_, _, ⟨T23, L23, k23, n23⟩, -, X23, ⟨Lc23, hQ23, l23, y23, z23⟩, st23⟩ := X21.virtualBack hx (y := yy13) (z := yy13) hown (mvT hZ (hw _ (mo 57 rfl))) (mvT hZ (hw _ (mo 58 rfl))) (notFace_of_selects (args := #[]) (mvT hZ (hw _ (mo 60 rfl)))) (mvT hZ (hw _ (mo 60 rfl))) (mvT hZ (hw _ (mo 59 rfl))) (by decide) (backOf (W := 1) (cdr_1 l Z a0 hw [] a cs h0 n0 Z0 F_coder_a S_CS hcs) hZ (hw _ (mo 61 rfl)) (hw _ (mo 12 rfl)) (by decide) (by decide)) q23a q23c (g := (mkF m 6 #[vr a] [(.ref a), (.int (2 : Int32))])) rfl (by rw [hml]; rfl) (Steps.refl _) (argsL := []) (rest := [(.int (2 : Int32))]) (lenOf pd_8 rfl) rfl (Nat.le_of_eq rfl) (hb hby d10_6) (fun _ _ => ⟨rfl, e21, (by decide : 0 ≤ _), (by decide : 0 ≤ _)⟩)
  dsimp only [Pt.U, Pt.locs, Pt.cells, Pt.slots] at X23 l23 y23 z23 st23 hQ23
  subst l23 y23 z23
  obtain ⟨rfl, N23q, e23⟩ := hQ23
  have N23 := Fr.app (Fr.nil n0) N23q
  refine bN T23 (mkF m 9 #[vr a] [(.int (1 : Int32)), (.int (2 : Int32))]) (fun _ k => st23.trans k) ?_
  refine bN T23 (mkF m 10 #[vr a] [(.int (1 : Int32))]) (fun _ k => XS.ishr X23.here hx rfl (hb hby d10_9) rfl k) ?_
  refine own_ret X23 hlk (v := some (.int (1 : Int32))) (nvr Bd.returns) (fun fs hr => retI X23 hx Bd.returns (hb hby d10_10) hr) ?_ (by decide) (by decide)
  rw [e23]
  exact ⟨rfl, N23, rfl⟩
theorem d24_0 : decode jdk_29_method_69_code 0 = .ok (.iload_n 0, 1) := by decide +kernel
theorem d24_1 : decode jdk_29_method_69_code 1 = .ok (.iload_n 1, 1) := by decide +kernel
theorem d24_2 : decode jdk_29_method_69_code 2 = .ok (.if_icmp .gt 7, 3) := by decide +kernel
theorem d24_5 : decode jdk_29_method_69_code 5 = .ok (.iload_n 0, 1) := by decide +kernel
theorem d24_6 : decode jdk_29_method_69_code 6 = .ok (.goto 4, 3) := by decide +kernel
theorem d24_10 : decode jdk_29_method_69_code 10 = .ok (.ireturn, 1) := by decide +kernel
theorem ef_min_u_1 (m : MethodId)  : entryFrame m #[(.int (1 : Int32)), (.int (1 : Int32))] 2 = mkF m 0 #[vi 1, vi 1] [] := rfl
def Q_min_u_1 (Z : State)  (h0 : Heap) (n0 : Nat) (v : Option Value) (h : Heap) (L : List Loc) : Prop := v = some (.int (1 : Int32)) ∧ Fr n0 L ∧ h = h0
theorem min_u_1 (l : Launch) (Z : State) (a0 : Array Value) (hw : HW Z a0) (ws : List Jvm.Cond)  (h0 : Heap) (n0 : Nat) (Z0 : n0 ≤ h0.size) :
    own_M l yy17 jdk_29_method_69_code 2 (some .int) ws rr0 Z #[(.int (1 : Int32)), (.int (1 : Int32))] h0 (Q_min_u_1 Z  h0 n0) := by
  refine own_bd (Jvm.Free.JP.mathPlain rfl (by decide +kernel)) fun p e s m below meth c s₁ Bd hx hby hml hown hnm hlk hZ X0 e0 => ?_
  rw [ef_min_u_1 m ]
  refine bN s₁ (mkF m 1 #[vi 1, vi 1] [(.int (1 : Int32))]) (fun _ k => XS.iloadN X0.here hx rfl (hb hby d24_0) rfl k) ?_
  refine bN s₁ (mkF m 2 #[vi 1, vi 1] [(.int (1 : Int32)), (.int (1 : Int32))]) (fun _ k => XS.iloadN X0.here hx rfl (hb hby d24_1) rfl k) ?_
  refine bN s₁ (mkF m 5 #[vi 1, vi 1] []) (fun _ k => XS.icmpNo X0.here hx rfl (hb hby d24_2) rfl (flt (by decide)).2.2.1 k) ?_
  refine bN s₁ (mkF m 6 #[vi 1, vi 1] [(.int (1 : Int32))]) (fun _ k => XS.iloadN X0.here hx rfl (hb hby d24_5) rfl k) ?_
  refine bN s₁ (mkF m 10 #[vi 1, vi 1] [(.int (1 : Int32))]) (fun _ k => XS.goto X0.here hx rfl (pc0 := 6) (pc' := 10) rfl (hb hby d24_6) (by decide) (by decide) k) ?_
  refine own_ret X0 hlk (v := some (.int (1 : Int32))) (nvr Bd.returns) (fun fs hr => retI X0 hx Bd.returns (hb hby d24_10) hr) ?_ (by decide) (by decide)
  rw [e0]
  exact ⟨rfl, (Fr.nil n0), rfl⟩
theorem d27_0 : decode jdk_52_method_6_code 0 = .ok (.aload_n 0, 1) := by decide +kernel
theorem d27_1 : decode jdk_52_method_6_code 1 = .ok (.arraylength, 1) := by decide +kernel
theorem d27_2 : decode jdk_52_method_6_code 2 = .ok (.iconst 1, 1) := by decide +kernel
theorem d27_3 : decode jdk_52_method_6_code 3 = .ok (.ishr, 1) := by decide +kernel
theorem d27_4 : decode jdk_52_method_6_code 4 = .ok (.ireturn, 1) := by decide +kernel
theorem pn_27 : plainName "java/lang/StringUTF16" = true := by first | (simp [plainName, overriddenIn]; done) | decide +kernel
theorem ef_ule_u_1 (m : MethodId) (t1 : Addr) : entryFrame m #[(.ref t1)] 1 = mkF m 0 #[vr t1] [] := rfl
def Q_ule_u_1 (Z : State) (t1 : Addr) (k1 : ClassId) (c0 : Int32) (h0 : Heap) (n0 : Nat) (v : Option Value) (h : Heap) (L : List Loc) : Prop := v = some (.int (1 : Int32)) ∧ Fr n0 L ∧ h = h0
theorem ule_u_1 (l : Launch) (Z : State) (a0 : Array Value) (hw : HW Z a0) (ws : List Jvm.Cond) (t1 : Addr) (k1 : ClassId) (c0 : Int32) (h0 : Heap) (n0 : Nat) (Z0 : n0 ≤ h0.size) (V_t1 : Arv Z h0 t1 k1 .byte (2 : Int32) (wb1 c0) (ii 0)) :
    own_M l yy18 jdk_52_method_6_code 1 (some .int) ws rr0 Z #[(.ref t1)] h0 (Q_ule_u_1 Z t1 k1 c0 h0 n0) := by
  refine own_bd (plainFor_of_name pn_27) fun p e s m below meth c s₁ Bd hx hby hml hown hnm hlk hZ X0 e0 => ?_
  rw [ef_ule_u_1 m t1]
  refine bN s₁ (mkF m 1 #[vr t1] [(.ref t1)]) (fun _ k => XS.aloadN X0.here hx rfl (hb hby d27_0) rfl rfl k) ?_
  obtain ⟨cl21, Ar21, q21, S21, N_21, H21, G21⟩ := id V_t1
  refine bN s₁ (mkF m 2 #[vr t1] [(.int (2 : Int32))]) (fun _ k => X0.arraylength hx (by rw [e0]; exact Ar21.1) (State.isArrayOf_alike hZ.alike Ar21.2.1) (g := (mkF m 1 #[vr t1] [(.ref t1)])) rfl rfl (hb hby d27_1) _ (by rw [len_of S21 N_21]; exact k)) ?_
  refine bN s₁ (mkF m 3 #[vr t1] [(.int (1 : Int32)), (.int (2 : Int32))]) (fun _ k => XS.iconst X0.here hx rfl (hb hby d27_2) k) ?_
  refine bN s₁ (mkF m 4 #[vr t1] [(.int (1 : Int32))]) (fun _ k => XS.ishr X0.here hx rfl (hb hby d27_3) rfl k) ?_
  refine own_ret X0 hlk (v := some (.int (1 : Int32))) (nvr Bd.returns) (fun fs hr => retI X0 hx Bd.returns (hb hby d27_4) hr) ?_ (by decide) (by decide)
  rw [e0]
  exact ⟨rfl, (Fr.nil n0), rfl⟩
theorem d29_0 : decode jdk_41_method_12_code 0 = .ok (.iload_n 0, 1) := by decide +kernel
theorem d29_1 : decode jdk_41_method_12_code 1 = .ok (.ifCond .lt 13, 3) := by decide +kernel
theorem d29_4 : decode jdk_41_method_12_code 4 = .ok (.iload_n 0, 1) := by decide +kernel
theorem d29_5 : decode jdk_41_method_12_code 5 = .ok (.iload_n 1, 1) := by decide +kernel
theorem d29_6 : decode jdk_41_method_12_code 6 = .ok (.if_icmp .gt 8, 3) := by decide +kernel
theorem d29_9 : decode jdk_41_method_12_code 9 = .ok (.iload_n 1, 1) := by decide +kernel
theorem d29_10 : decode jdk_41_method_12_code 10 = .ok (.iload_n 2, 1) := by decide +kernel
theorem d29_11 : decode jdk_41_method_12_code 11 = .ok (.if_icmp .le 11, 3) := by decide +kernel
theorem d29_22 : decode jdk_41_method_12_code 22 = .ok (.iload_n 0, 1) := by decide +kernel
theorem d29_23 : decode jdk_41_method_12_code 23 = .ok (.ireturn, 1) := by decide +kernel
theorem pn_29 : plainName "jdk/internal/util/Preconditions" = true := by first | (simp [plainName, overriddenIn]; done) | decide +kernel
theorem ef_cft_u_1 (m : MethodId) (sf : Value) (hsf : sf.isRef = true) : entryFrame m #[(ii 0), (.int (1 : Int32)), (.int (1 : Int32)), sf] 4 = mkF m 0 #[vi 0, vi 1, vi 1, .val sf] [] := by
  rcases ref_cases hsf with rfl | ⟨_, rfl⟩ <;> rfl
def Q_cft_u_1 (Z : State) (sf : Value) (h0 : Heap) (n0 : Nat) (v : Option Value) (h : Heap) (L : List Loc) : Prop := v = some (ii 0) ∧ Fr n0 L ∧ h = h0
theorem cft_u_1 (l : Launch) (Z : State) (a0 : Array Value) (hw : HW Z a0) (ws : List Jvm.Cond) (sf : Value) (h0 : Heap) (n0 : Nat) (Z0 : n0 ≤ h0.size) (hsf : sf.isRef = true) :
    own_M l yy19 jdk_41_method_12_code 4 (some .int) ws rr0 Z #[(ii 0), (.int (1 : Int32)), (.int (1 : Int32)), sf] h0 (Q_cft_u_1 Z sf h0 n0) := by
  refine own_bd (plainFor_of_name pn_29) fun p e s m below meth c s₁ Bd hx hby hml hown hnm hlk hZ X0 e0 => ?_
  rw [ef_cft_u_1 m sf hsf]
  refine bN s₁ (mkF m 1 #[vi 0, vi 1, vi 1, .val sf] [(ii 0)]) (fun _ k => XS.iloadN X0.here hx rfl (hb hby d29_0) rfl k) ?_
  refine bN s₁ (mkF m 4 #[vi 0, vi 1, vi 1, .val sf] []) (fun _ k => XS.ifNo X0.here hx rfl (hb hby d29_1) rfl ((if0 _ _).trans (flt (by decide)).1) k) ?_
  refine bN s₁ (mkF m 5 #[vi 0, vi 1, vi 1, .val sf] [(ii 0)]) (fun _ k => XS.iloadN X0.here hx rfl (hb hby d29_4) rfl k) ?_
  refine bN s₁ (mkF m 6 #[vi 0, vi 1, vi 1, .val sf] [(.int (1 : Int32)), (ii 0)]) (fun _ k => XS.iloadN X0.here hx rfl (hb hby d29_5) rfl k) ?_
  refine bN s₁ (mkF m 9 #[vi 0, vi 1, vi 1, .val sf] []) (fun _ k => XS.icmpNo X0.here hx rfl (hb hby d29_6) rfl (flt (by decide)).2.2.1 k) ?_
  refine bN s₁ (mkF m 10 #[vi 0, vi 1, vi 1, .val sf] [(.int (1 : Int32))]) (fun _ k => XS.iloadN X0.here hx rfl (hb hby d29_9) rfl k) ?_
  refine bN s₁ (mkF m 11 #[vi 0, vi 1, vi 1, .val sf] [(.int (1 : Int32)), (.int (1 : Int32))]) (fun _ k => XS.iloadN X0.here hx rfl (hb hby d29_10) rfl k) ?_
  refine bN s₁ (mkF m 22 #[vi 0, vi 1, vi 1, .val sf] []) (fun _ k => XS.icmpYes X0.here hx rfl (pc0 := 11) (pc' := 22) rfl (hb hby d29_11) rfl (flt (by decide)).2.2.2 (by decide) (by decide) k) ?_
  refine bN s₁ (mkF m 23 #[vi 0, vi 1, vi 1, .val sf] [(ii 0)]) (fun _ k => XS.iloadN X0.here hx rfl (hb hby d29_22) rfl k) ?_
  refine own_ret X0 hlk (v := some (ii 0)) (nvr Bd.returns) (fun fs hr => retI X0 hx Bd.returns (hb hby d29_23) hr) ?_ (by decide) (by decide)
  rw [e0]
  exact ⟨rfl, (Fr.nil n0), rfl⟩
theorem d28_0 : decode jdk_42_method_158_code 0 = .ok (.iload_n 0, 1) := by decide +kernel
theorem d28_1 : decode jdk_42_method_158_code 1 = .ok (.iload_n 1, 1) := by decide +kernel
theorem d28_2 : decode jdk_42_method_158_code 2 = .ok (.iload_n 2, 1) := by decide +kernel
theorem d28_3 : decode jdk_42_method_158_code 3 = .ok (.getstatic 1053, 3) := by decide +kernel
theorem d28_6 : decode jdk_42_method_158_code 6 = .ok (.invokestatic 1062, 3) := by decide +kernel
theorem d28_9 : decode jdk_42_method_158_code 9 = .ok (.pop, 1) := by decide +kernel
theorem d28_10 : decode jdk_42_method_158_code 10 = .ok (.return_, 1) := by decide +kernel
theorem pn_28 : plainName "java/lang/String" = true := by first | (simp [plainName, overriddenIn]; done) | decide +kernel
theorem ef_cbs_u_1 (m : MethodId)  : entryFrame m #[(ii 0), (.int (1 : Int32)), (.int (1 : Int32))] 3 = mkF m 0 #[vi 0, vi 1, vi 1] [] := rfl
def Q_cbs_u_1 (Z : State) (sf : Value) (h0 : Heap) (n0 : Nat) (v : Option Value) (h : Heap) (L : List Loc) : Prop := v = none ∧ Fr n0 L ∧ h = h0
theorem cbs_u_1 (l : Launch) (Z : State) (a0 : Array Value) (hw : HW Z a0) (ws : List Jvm.Cond) (sf : Value) (h0 : Heap) (n0 : Nat) (Z0 : n0 ≤ h0.size) (hsf : sf.isRef = true) (S_SF : Sta Z h0 "jdk/internal/util/Preconditions" "SIOOBE_FORMATTER" "Ljava/util/function/BiFunction;" sf) :
    own_M l yy20 jdk_42_method_158_code 3 none ws rr41 Z #[(ii 0), (.int (1 : Int32)), (.int (1 : Int32))] h0 (Q_cbs_u_1 Z sf h0 n0) := by
  refine own_bd (plainFor_of_name pn_28) fun p e s m below meth c s₁ Bd hx hby hml hown hnm hlk hZ X0 e0 => ?_
  rw [ef_cbs_u_1 m ]
  refine bN s₁ (mkF m 1 #[vi 0, vi 1, vi 1] [(ii 0)]) (fun _ k => XS.iloadN X0.here hx rfl (hb hby d28_0) rfl k) ?_
  refine bN s₁ (mkF m 2 #[vi 0, vi 1, vi 1] [(.int (1 : Int32)), (ii 0)]) (fun _ k => XS.iloadN X0.here hx rfl (hb hby d28_1) rfl k) ?_
  refine bN s₁ (mkF m 3 #[vi 0, vi 1, vi 1] [(.int (1 : Int32)), (.int (1 : Int32)), (ii 0)]) (fun _ k => XS.iloadN X0.here hx rfl (hb hby d28_2) rfl k) ?_
  obtain ⟨T21, X21, e21, st21⟩ := getS2 X0 hx hZ hown (host := "") (Or.inl (hw _ (mo 122 rfl))) Via.refl e0 S_SF (g := (mkF m 3 #[vi 0, vi 1, vi 1] [(.int (1 : Int32)), (.int (1 : Int32)), (ii 0)])) rfl (hb hby d28_3)
  refine bN T21 (mkF m 6 #[vi 0, vi 1, vi 1] [sf, (.int (1 : Int32)), (.int (1 : Int32)), (ii 0)]) (fun _ k => st21 _ k) ?_
  obtain ⟨_, _, ⟨T22, L22, k22, n22⟩, -, X22, ⟨Lc22, hQ22, l22, y22, z22⟩, st22⟩ := Jvm.LawKit.callS X21 hx (y := yy19) hown (mvT hZ (hw _ (mo 124 rfl))) (mvT hZ (hw _ (mo 125 rfl))) (mvT hZ (hw _ (mo 123 rfl))) (mvT hZ (hw _ (mo 126 rfl))) (by decide) (backOf (W := 0) (cft_u_1 l Z a0 hw [] sf  h0 n0 Z0 hsf) hZ (hw _ (mo 126 rfl)) (hw _ (mo 123 rfl)) (by decide) (by decide)) (g := (mkF m 6 #[vi 0, vi 1, vi 1] [sf, (.int (1 : Int32)), (.int (1 : Int32)), (ii 0)])) rfl (by rw [hml]; rfl) (argsL := [(ii 0), (.int (1 : Int32)), (.int (1 : Int32)), sf]) (rest := []) (lenOf pd_9 rfl) rfl (Nat.le_of_eq rfl) (hb hby d28_6) (fun _ _ => ⟨rfl, e21, (by decide : 0 ≤ _), (by decide : 0 ≤ _)⟩)
  dsimp only [Pt.U, Pt.locs, Pt.cells, Pt.slots] at X22 l22 y22 z22 st22 hQ22
  subst l22 y22 z22
  obtain ⟨rfl, N22q, e22⟩ := hQ22
  have N22 := Fr.app (Fr.nil n0) N22q
  refine bN T22 (mkF m 9 #[vi 0, vi 1, vi 1] [(ii 0)]) (fun _ k => st22 _ k) ?_
  refine bN T22 (mkF m 10 #[vi 0, vi 1, vi 1] []) (fun _ k => XS.pop X22.here hx rfl (hb hby d28_9) rfl rfl k) ?_
  refine own_ret X22 hlk (v := none) (fun _ => rfl) (fun fs hr => X22.returnOut hx Bd.returns (hb hby d28_10) hr) ?_ (by decide) (by decide)
  rw [e22]
  exact ⟨rfl, N22, rfl⟩
theorem d26_0 : decode jdk_52_method_93_code 0 = .ok (.iload_n 0, 1) := by decide +kernel
theorem d26_1 : decode jdk_52_method_93_code 1 = .ok (.iload_n 1, 1) := by decide +kernel
theorem d26_2 : decode jdk_52_method_93_code 2 = .ok (.aload_n 2, 1) := by decide +kernel
theorem d26_3 : decode jdk_52_method_93_code 3 = .ok (.invokestatic 48, 3) := by decide +kernel
theorem d26_6 : decode jdk_52_method_93_code 6 = .ok (.invokestatic 241, 3) := by decide +kernel
theorem d26_9 : decode jdk_52_method_93_code 9 = .ok (.return_, 1) := by decide +kernel
theorem pn_26 : plainName "java/lang/StringUTF16" = true := by first | (simp [plainName, overriddenIn]; done) | decide +kernel
theorem ef_cbu_u_1 (m : MethodId) (t1 : Addr) : entryFrame m #[(ii 0), (.int (1 : Int32)), (.ref t1)] 3 = mkF m 0 #[vi 0, vi 1, vr t1] [] := rfl
def Q_cbu_u_1 (Z : State) (t1 : Addr) (k1 : ClassId) (sf : Value) (c0 : Int32) (h0 : Heap) (n0 : Nat) (v : Option Value) (h : Heap) (L : List Loc) : Prop := v = none ∧ Fr n0 L ∧ h = h0
theorem cbu_u_1 (l : Launch) (Z : State) (a0 : Array Value) (hw : HW Z a0) (ws : List Jvm.Cond) (t1 : Addr) (k1 : ClassId) (sf : Value) (c0 : Int32) (h0 : Heap) (n0 : Nat) (Z0 : n0 ≤ h0.size) (hsf : sf.isRef = true) (S_SF : Sta Z h0 "jdk/internal/util/Preconditions" "SIOOBE_FORMATTER" "Ljava/util/function/BiFunction;" sf) (V_t1 : Arv Z h0 t1 k1 .byte (2 : Int32) (wb1 c0) (ii 0)) :
    own_M l yy21 jdk_52_method_93_code 3 none ws rr42 Z #[(ii 0), (.int (1 : Int32)), (.ref t1)] h0 (Q_cbu_u_1 Z t1 k1 sf c0 h0 n0) := by
  refine own_bd (plainFor_of_name pn_26) fun p e s m below meth c s₁ Bd hx hby hml hown hnm hlk hZ X0 e0 => ?_
  rw [ef_cbu_u_1 m t1]
  refine bN s₁ (mkF m 1 #[vi 0, vi 1, vr t1] [(ii 0)]) (fun _ k => XS.iloadN X0.here hx rfl (hb hby d26_0) rfl k) ?_
  refine bN s₁ (mkF m 2 #[vi 0, vi 1, vr t1] [(.int (1 : Int32)), (ii 0)]) (fun _ k => XS.iloadN X0.here hx rfl (hb hby d26_1) rfl k) ?_
  refine bN s₁ (mkF m 3 #[vi 0, vi 1, vr t1] [(.ref t1), (.int (1 : Int32)), (ii 0)]) (fun _ k => XS.aloadN X0.here hx rfl (hb hby d26_2) rfl rfl k) ?_
  obtain ⟨_, _, ⟨T21, L21, k21, n21⟩, -, X21, ⟨Lc21, hQ21, l21, y21, z21⟩, st21⟩ := Jvm.LawKit.callS X0 hx (y := yy18) hown (mvT hZ (hw _ (mo 116 rfl))) (mvT hZ (hw _ (mo 117 rfl))) (mvT hZ (hw _ (mo 71 rfl))) (mvT hZ (hw _ (mo 118 rfl))) (by decide) (backOf (W := 2) (ule_u_1 l Z a0 hw [] t1 k1 c0 h0 n0 Z0 V_t1) hZ (hw _ (mo 118 rfl)) (hw _ (mo 71 rfl)) (by decide) (by decide)) (g := (mkF m 3 #[vi 0, vi 1, vr t1] [(.ref t1), (.int (1 : Int32)), (ii 0)])) rfl (by rw [hml]; rfl) (argsL := [(.ref t1)]) (rest := [(.int (1 : Int32)), (ii 0)]) (lenOf pd_10 rfl) rfl (Nat.le_of_eq rfl) (hb hby d26_3) (fun _ _ => ⟨rfl, e0, (by decide : 0 ≤ _), (by decide : 0 ≤ _)⟩)
  dsimp only [Pt.U, Pt.locs, Pt.cells, Pt.slots] at X21 l21 y21 z21 st21 hQ21
  subst l21 y21 z21
  obtain ⟨rfl, N21q, e21⟩ := hQ21
  have N21 := Fr.app (Fr.nil n0) N21q
  refine bN T21 (mkF m 6 #[vi 0, vi 1, vr t1] [(.int (1 : Int32)), (.int (1 : Int32)), (ii 0)]) (fun _ k => st21 _ k) ?_
  obtain ⟨_, _, ⟨T22, L22, k22, n22⟩, -, X22, ⟨Lc22, hQ22, l22, y22, z22⟩, st22⟩ := Jvm.LawKit.callS X21 hx (y := yy20) hown (mvT hZ (hw _ (mo 119 rfl))) (mvT hZ (hw _ (mo 120 rfl))) (mvT hZ (hw _ (mo 12 rfl))) (mvT hZ (hw _ (mo 121 rfl))) (by decide) (backOf (W := 0) (cbs_u_1 l Z a0 hw []  sf h0 n0 Z0 hsf S_SF) hZ (hw _ (mo 121 rfl)) (hw _ (mo 12 rfl)) (by decide) (by decide)) (g := (mkF m 6 #[vi 0, vi 1, vr t1] [(.int (1 : Int32)), (.int (1 : Int32)), (ii 0)])) rfl (by rw [hml]; rfl) (argsL := [(ii 0), (.int (1 : Int32)), (.int (1 : Int32))]) (rest := []) (lenOf pd_11 rfl) rfl (Nat.le_of_eq rfl) (hb hby d26_6) (fun _ _ => ⟨rfl, e21, (by decide : 0 ≤ _), (by decide : 0 ≤ _)⟩)
  dsimp only [Pt.U, Pt.locs, Pt.cells, Pt.slots] at X22 l22 y22 z22 st22 hQ22
  subst l22 y22 z22
  obtain ⟨rfl, N22q, e22⟩ := hQ22
  have N22 := Fr.app N21 N22q
  refine bN T22 (mkF m 9 #[vi 0, vi 1, vr t1] []) (fun _ k => st22 _ k) ?_
  refine own_ret X22 hlk (v := none) (fun _ => rfl) (fun fs hr => X22.returnOut hx Bd.returns (hb hby d26_9) hr) ?_ (by decide) (by decide)
  rw [e22]
  exact ⟨rfl, N22, rfl⟩
theorem d30_0 : decode jdk_52_method_48_code 0 = .ok (.iload_n 2, 1) := by decide +kernel
theorem d30_1 : decode jdk_52_method_48_code 1 = .ok (.istore 4, 2) := by decide +kernel
theorem d30_3 : decode jdk_52_method_48_code 3 = .ok (.iload 4, 2) := by decide +kernel
theorem d30_5 : decode jdk_52_method_48_code 5 = .ok (.iload_n 3, 1) := by decide +kernel
theorem d30_6 : decode jdk_52_method_48_code 6 = .ok (.if_icmp .ge 22, 3) := by decide +kernel
theorem d30_9 : decode jdk_52_method_48_code 9 = .ok (.aload_n 0, 1) := by decide +kernel
theorem d30_10 : decode jdk_52_method_48_code 10 = .ok (.iload 4, 2) := by decide +kernel
theorem d30_12 : decode jdk_52_method_48_code 12 = .ok (.invokestatic 71, 3) := by decide +kernel
theorem d30_15 : decode jdk_52_method_48_code 15 = .ok (.iload_n 1, 1) := by decide +kernel
theorem d30_16 : decode jdk_52_method_48_code 16 = .ok (.if_icmp .ne 6, 3) := by decide +kernel
theorem d30_19 : decode jdk_52_method_48_code 19 = .ok (.iload 4, 2) := by decide +kernel
theorem d30_21 : decode jdk_52_method_48_code 21 = .ok (.ireturn, 1) := by decide +kernel
theorem d30_22 : decode jdk_52_method_48_code 22 = .ok (.iinc 4 1, 3) := by decide +kernel
theorem d30_25 : decode jdk_52_method_48_code 25 = .ok (.goto (-22), 3) := by decide +kernel
theorem d30_28 : decode jdk_52_method_48_code 28 = .ok (.iconst (-1), 1) := by decide +kernel
theorem d30_29 : decode jdk_52_method_48_code 29 = .ok (.ireturn, 1) := by decide +kernel
theorem pn_30 : plainName "java/lang/StringUTF16" = true := by first | (simp [plainName, overriddenIn]; done) | decide +kernel
theorem ef_icu_u_1 (m : MethodId) (t1 : Addr) : entryFrame m #[(.ref t1), (.int (65533 : Int32)), (ii 0), (.int (1 : Int32))] 5 = mkF m 0 #[vr t1, vi 65533, vi 0, vi 1, uu] [] := rfl
def Q_icu_u_1 (Z : State) (t1 : Addr) (k1 : ClassId) (sf : Value) (c0 : Int32) (h0 : Heap) (n0 : Nat) (v : Option Value) (h : Heap) (L : List Loc) : Prop := v = some (.int (own_i1 c0)) ∧ Fr n0 L ∧ h = h0
theorem icu_u_1 (l : Launch) (Z : State) (a0 : Array Value) (hw : HW Z a0) (ws : List Jvm.Cond) (t1 : Addr) (k1 : ClassId) (sf : Value) (c0 : Int32) (h0 : Heap) (n0 : Nat) (Z0 : n0 ≤ h0.size) (S_AD : AD Z h0) (S_HI : HI Z h0) (S_LO : LO Z h0) (hsf : sf.isRef = true) (S_SF : Sta Z h0 "jdk/internal/util/Preconditions" "SIOOBE_FORMATTER" "Ljava/util/function/BiFunction;" sf) (hr0 : 0 ≤ c0.toInt ∧ c0.toInt ≤ 65535) (V_t1 : Arv Z h0 t1 k1 .byte (2 : Int32) (wb1 c0) (ii 0)) :
    own_M l yy22 jdk_52_method_48_code 5 (some .int) ws rr40 Z #[(.ref t1), (.int (65533 : Int32)), (ii 0), (.int (1 : Int32))] h0 (Q_icu_u_1 Z t1 k1 sf c0 h0 n0) := by
  refine own_bd (plainFor_of_name pn_30) fun p e s m below meth c s₁ Bd hx hby hml hown hnm hlk hZ X0 e0 => ?_
  rw [ef_icu_u_1 m t1]
  refine bN s₁ (mkF m 1 #[vr t1, vi 65533, vi 0, vi 1, uu] [(ii 0)]) (fun _ k => XS.iloadN X0.here hx rfl (hb hby d30_0) rfl k) ?_
  refine bN s₁ (mkF m 3 #[vr t1, vi 65533, vi 0, vi 1, vi 0] []) (fun _ k => XS.istore X0.here hx rfl (hb hby d30_1) rfl rfl k) ?_
  refine bN s₁ (mkF m 5 #[vr t1, vi 65533, vi 0, vi 1, vi 0] [(ii 0)]) (fun _ k => XS.iload X0.here hx rfl (hb hby d30_3) rfl k) ?_
  refine bN s₁ (mkF m 6 #[vr t1, vi 65533, vi 0, vi 1, vi 0] [(.int (1 : Int32)), (ii 0)]) (fun _ k => XS.iloadN X0.here hx rfl (hb hby d30_5) rfl k) ?_
  refine bN s₁ (mkF m 9 #[vr t1, vi 65533, vi 0, vi 1, vi 0] []) (fun _ k => XS.icmpNo X0.here hx rfl (hb hby d30_6) rfl (tlt (by decide)).2.1 k) ?_
  refine bN s₁ (mkF m 10 #[vr t1, vi 65533, vi 0, vi 1, vi 0] [(.ref t1)]) (fun _ k => XS.aloadN X0.here hx rfl (hb hby d30_9) rfl rfl k) ?_
  refine bN s₁ (mkF m 12 #[vr t1, vi 65533, vi 0, vi 1, vi 0] [(ii 0), (.ref t1)]) (fun _ k => XS.iload X0.here hx rfl (hb hby d30_10) rfl k) ?_
  obtain ⟨_, _, ⟨T21, L21, k21, n21⟩, -, X21, ⟨Lc21, hQ21, l21, y21, z21⟩, st21⟩ := Jvm.LawKit.callS X0 hx (y := yy8) hown (mvT hZ (hw _ (mo 96 rfl))) (mvT hZ (hw _ (mo 97 rfl))) (mvT hZ (hw _ (mo 71 rfl))) (mvT hZ (hw _ (mo 98 rfl))) (by decide) (backOf (W := 0) (get_0 l Z a0 hw [] t1 k1 (2 : Int32) (wb1 c0) (b0 c0) (b1 c0) h0 n0 Z0 S_AD S_HI S_LO V_t1 (by decide) (by decide) rfl rfl) hZ (hw _ (mo 98 rfl)) (hw _ (mo 71 rfl)) (by decide) (by decide)) (g := (mkF m 12 #[vr t1, vi 65533, vi 0, vi 1, vi 0] [(ii 0), (.ref t1)])) rfl (by rw [hml]; rfl) (argsL := [(.ref t1), (ii 0)]) (rest := []) (lenOf pd_7 rfl) rfl (Nat.le_of_eq rfl) (hb hby d30_12) (fun _ _ => ⟨rfl, e0, (by decide : 0 ≤ _), (by decide : 0 ≤ _)⟩)
  dsimp only [Pt.U, Pt.locs, Pt.cells, Pt.slots] at X21 l21 y21 z21 st21 hQ21
  subst l21 y21 z21
  obtain ⟨vq21, N21q, e21⟩ := hQ21
  obtain rfl := vq21.trans (congrArg (fun z => some (Value.int z)) (own_pair hr0))
  have N21 := Fr.app (Fr.nil n0) N21q
  refine bN T21 (mkF m 15 #[vr t1, vi 65533, vi 0, vi 1, vi 0] [(.int c0)]) (fun _ k => st21 _ k) ?_
  refine bN T21 (mkF m 16 #[vr t1, vi 65533, vi 0, vi 1, vi 0] [(.int (65533 : Int32)), (.int c0)]) (fun _ k => XS.iloadN X21.here hx rfl (hb hby d30_15) rfl k) ?_
  by_cases hc16_22 : c0 = (65533 : Int32)
  · skip
    refine bN T21 (mkF m 19 #[vr t1, vi 65533, vi 0, vi 1, vi 0] []) (fun _ k => XS.icmpNo X21.here hx rfl (hb hby d30_16) rfl (teq hc16_22).2 k) ?_
    refine bN T21 (mkF m 21 #[vr t1, vi 65533, vi 0, vi 1, vi 0] [(ii 0)]) (fun _ k => XS.iload X21.here hx rfl (hb hby d30_19) rfl k) ?_
    refine own_ret X21 hlk (v := some (ii 0)) (nvr Bd.returns) (fun fs hr => retI X21 hx Bd.returns (hb hby d30_21) hr) ?_ (by decide) (by decide)
    rw [e21]
    exact ⟨congrArg (fun z => some (Value.int z)) (if_pos hc16_22).symm, N21, rfl⟩
  · skip
    refine bN T21 (mkF m 22 #[vr t1, vi 65533, vi 0, vi 1, vi 0] []) (fun _ k => XS.icmpYes X21.here hx rfl (pc0 := 16) (pc' := 22) rfl (hb hby d30_16) rfl (feq hc16_22).2 (by decide) (by decide) k) ?_
    refine bN T21 (mkF m 25 #[vr t1, vi 65533, vi 0, vi 1, vi 1] []) (fun _ k => XS.iinc X21.here hx rfl (hb hby d30_22) rfl rfl k) ?_
    refine bN T21 (mkF m 3 #[vr t1, vi 65533, vi 0, vi 1, vi 1] []) (fun _ k => XS.goto X21.here hx rfl (pc0 := 25) (pc' := 3) rfl (hb hby d30_25) (by decide) (by decide) k) ?_
    refine bN T21 (mkF m 5 #[vr t1, vi 65533, vi 0, vi 1, vi 1] [(.int (1 : Int32))]) (fun _ k => XS.iload X21.here hx rfl (hb hby d30_3) rfl k) ?_
    refine bN T21 (mkF m 6 #[vr t1, vi 65533, vi 0, vi 1, vi 1] [(.int (1 : Int32)), (.int (1 : Int32))]) (fun _ k => XS.iloadN X21.here hx rfl (hb hby d30_5) rfl k) ?_
    refine bN T21 (mkF m 28 #[vr t1, vi 65533, vi 0, vi 1, vi 1] []) (fun _ k => XS.icmpYes X21.here hx rfl (pc0 := 6) (pc' := 28) rfl (hb hby d30_6) rfl (flt (by decide)).2.1 (by decide) (by decide) k) ?_
    refine bN T21 (mkF m 29 #[vr t1, vi 65533, vi 0, vi 1, vi 1] [(.int (-1 : Int32))]) (fun _ k => XS.iconst X21.here hx rfl (hb hby d30_28) k) ?_
    refine own_ret X21 hlk (v := some (.int (-1 : Int32))) (nvr Bd.returns) (fun fs hr => retI X21 hx Bd.returns (hb hby d30_29) hr) ?_ (by decide) (by decide)
    rw [e21]
    exact ⟨congrArg (fun z => some (Value.int z)) (if_neg hc16_22).symm, N21, rfl⟩
theorem d25_0 : decode jdk_52_method_47_code 0 = .ok (.iload_n 2, 1) := by decide +kernel
theorem d25_1 : decode jdk_52_method_47_code 1 = .ok (.iload_n 3, 1) := by decide +kernel
theorem d25_2 : decode jdk_52_method_47_code 2 = .ok (.aload_n 0, 1) := by decide +kernel
theorem d25_3 : decode jdk_52_method_47_code 3 = .ok (.invokestatic 96, 3) := by decide +kernel
theorem d25_6 : decode jdk_52_method_47_code 6 = .ok (.aload_n 0, 1) := by decide +kernel
theorem d25_7 : decode jdk_52_method_47_code 7 = .ok (.iload_n 1, 1) := by decide +kernel
theorem d25_8 : decode jdk_52_method_47_code 8 = .ok (.iload_n 2, 1) := by decide +kernel
theorem d25_9 : decode jdk_52_method_47_code 9 = .ok (.iload_n 3, 1) := by decide +kernel
theorem d25_10 : decode jdk_52_method_47_code 10 = .ok (.invokestatic 244, 3) := by decide +kernel
theorem d25_13 : decode jdk_52_method_47_code 13 = .ok (.ireturn, 1) := by decide +kernel
theorem pn_25 : plainName "java/lang/StringUTF16" = true := by first | (simp [plainName, overriddenIn]; done) | decide +kernel
theorem ef_ich_u_1 (m : MethodId) (t1 : Addr) : entryFrame m #[(.ref t1), (.int (65533 : Int32)), (ii 0), (.int (1 : Int32))] 4 = mkF m 0 #[vr t1, vi 65533, vi 0, vi 1] [] := rfl
def Q_ich_u_1 (Z : State) (t1 : Addr) (k1 : ClassId) (sf : Value) (c0 : Int32) (h0 : Heap) (n0 : Nat) (v : Option Value) (h : Heap) (L : List Loc) : Prop := v = some (.int (own_i1 c0)) ∧ Fr n0 L ∧ h = h0
theorem ich_u_1 (l : Launch) (Z : State) (a0 : Array Value) (hw : HW Z a0) (ws : List Jvm.Cond) (t1 : Addr) (k1 : ClassId) (sf : Value) (c0 : Int32) (h0 : Heap) (n0 : Nat) (Z0 : n0 ≤ h0.size) (S_AD : AD Z h0) (S_HI : HI Z h0) (S_LO : LO Z h0) (hsf : sf.isRef = true) (S_SF : Sta Z h0 "jdk/internal/util/Preconditions" "SIOOBE_FORMATTER" "Ljava/util/function/BiFunction;" sf) (hr0 : 0 ≤ c0.toInt ∧ c0.toInt ≤ 65535) (V_t1 : Arv Z h0 t1 k1 .byte (2 : Int32) (wb1 c0) (ii 0)) :
    own_M l yy23 jdk_52_method_47_code 4 (some .int) ws rr43 Z #[(.ref t1), (.int (65533 : Int32)), (ii 0), (.int (1 : Int32))] h0 (Q_ich_u_1 Z t1 k1 sf c0 h0 n0) := by
  refine own_bd (plainFor_of_name pn_25) fun p e s m below meth c s₁ Bd hx hby hml hown hnm hlk hZ X0 e0 => ?_
  rw [ef_ich_u_1 m t1]
  refine bN s₁ (mkF m 1 #[vr t1, vi 65533, vi 0, vi 1] [(ii 0)]) (fun _ k => XS.iloadN X0.here hx rfl (hb hby d25_0) rfl k) ?_
  refine bN s₁ (mkF m 2 #[vr t1, vi 65533, vi 0, vi 1] [(.int (1 : Int32)), (ii 0)]) (fun _ k => XS.iloadN X0.here hx rfl (hb hby d25_1) rfl k) ?_
  refine bN s₁ (mkF m 3 #[vr t1, vi 65533, vi 0, vi 1] [(.ref t1), (.int (1 : Int32)), (ii 0)]) (fun _ k => XS.aloadN X0.here hx rfl (hb hby d25_2) rfl rfl k) ?_
  obtain ⟨_, _, ⟨T21, L21, k21, n21⟩, -, X21, ⟨Lc21, hQ21, l21, y21, z21⟩, st21⟩ := Jvm.LawKit.callS X0 hx (y := yy21) hown (mvT hZ (hw _ (mo 113 rfl))) (mvT hZ (hw _ (mo 114 rfl))) (mvT hZ (hw _ (mo 71 rfl))) (mvT hZ (hw _ (mo 115 rfl))) (by decide) (backOf (W := 0) (cbu_u_1 l Z a0 hw [] t1 k1 sf c0 h0 n0 Z0 hsf S_SF V_t1) hZ (hw _ (mo 115 rfl)) (hw _ (mo 71 rfl)) (by decide) (by decide)) (g := (mkF m 3 #[vr t1, vi 65533, vi 0, vi 1] [(.ref t1), (.int (1 : Int32)), (ii 0)])) rfl (by rw [hml]; rfl) (argsL := [(ii 0), (.int (1 : Int32)), (.ref t1)]) (rest := []) (lenOf pd_12 rfl) rfl (Nat.le_of_eq rfl) (hb hby d25_3) (fun _ _ => ⟨rfl, e0, (by decide : 0 ≤ _), (by decide : 0 ≤ _)⟩)
  dsimp only [Pt.U, Pt.locs, Pt.cells, Pt.slots] at X21 l21 y21 z21 st21 hQ21
  subst l21 y21 z21
  obtain ⟨rfl, N21q, e21⟩ := hQ21
  have N21 := Fr.app (Fr.nil n0) N21q
  refine bN T21 (mkF m 6 #[vr t1, vi 65533, vi 0, vi 1] []) (fun _ k => st21 _ k) ?_
  refine bN T21 (mkF m 7 #[vr t1, vi 65533, vi 0, vi 1] [(.ref t1)]) (fun _ k => XS.aloadN X21.here hx rfl (hb hby d25_6) rfl rfl k) ?_
  refine bN T21 (mkF m 8 #[vr t1, vi 65533, vi 0, vi 1] [(.int (65533 : Int32)), (.ref t1)]) (fun _ k => XS.iloadN X21.here hx rfl (hb hby d25_7) rfl k) ?_
  refine bN T21 (mkF m 9 #[vr t1, vi 65533, vi 0, vi 1] [(ii 0), (.int (65533 : Int32)), (.ref t1)]) (fun _ k => XS.iloadN X21.here hx rfl (hb hby d25_8) rfl k) ?_
  refine bN T21 (mkF m 10 #[vr t1, vi 65533, vi 0, vi 1] [(.int (1 : Int32)), (ii 0), (.int (65533 : Int32)), (.ref t1)]) (fun _ k => XS.iloadN X21.here hx rfl (hb hby d25_9) rfl k) ?_
  obtain ⟨_, _, ⟨T22, L22, k22, n22⟩, -, X22, ⟨Lc22, hQ22, l22, y22, z22⟩, st22⟩ := Jvm.LawKit.callS X21 hx (y := yy22) hown (mvT hZ (hw _ (mo 127 rfl))) (mvT hZ (hw _ (mo 128 rfl))) (mvT hZ (hw _ (mo 71 rfl))) (mvT hZ (hw _ (mo 129 rfl))) (by decide) (backOf (W := 0) (icu_u_1 l Z a0 hw [] t1 k1 sf c0 h0 n0 Z0 S_AD S_HI S_LO hsf S_SF hr0 V_t1) hZ (hw _ (mo 129 rfl)) (hw _ (mo 71 rfl)) (by decide) (by decide)) (g := (mkF m 10 #[vr t1, vi 65533, vi 0, vi 1] [(.int (1 : Int32)), (ii 0), (.int (65533 : Int32)), (.ref t1)])) rfl (by rw [hml]; rfl) (argsL := [(.ref t1), (.int (65533 : Int32)), (ii 0), (.int (1 : Int32))]) (rest := []) (lenOf pd_13 rfl) rfl (Nat.le_of_eq rfl) (hb hby d25_10) (fun _ _ => ⟨rfl, e21, (by decide : 0 ≤ _), (by decide : 0 ≤ _)⟩)
  dsimp only [Pt.U, Pt.locs, Pt.cells, Pt.slots] at X22 l22 y22 z22 st22 hQ22
  subst l22 y22 z22
  obtain ⟨rfl, N22q, e22⟩ := hQ22
  have N22 := Fr.app N21 N22q
  refine bN T22 (mkF m 13 #[vr t1, vi 65533, vi 0, vi 1] [(.int (own_i1 c0))]) (fun _ k => st22 _ k) ?_
  refine own_ret X22 hlk (v := some (.int (own_i1 c0))) (nvr Bd.returns) (fun fs hr => retI X22 hx Bd.returns (hb hby d25_13) hr) ?_ (by decide) (by decide)
  rw [e22]
  exact ⟨rfl, N22, rfl⟩
theorem d22_0 : decode jdk_52_method_40_code 0 = .ok (.iload_n 2, 1) := by decide +kernel
theorem d22_1 : decode jdk_52_method_40_code 1 = .ok (.iconst 0, 1) := by decide +kernel
theorem d22_2 : decode jdk_52_method_40_code 2 = .ok (.invokestatic 224, 3) := by decide +kernel
theorem d22_5 : decode jdk_52_method_40_code 5 = .ok (.istore_n 2, 1) := by decide +kernel
theorem d22_6 : decode jdk_52_method_40_code 6 = .ok (.iload_n 3, 1) := by decide +kernel
theorem d22_7 : decode jdk_52_method_40_code 7 = .ok (.aload_n 0, 1) := by decide +kernel
theorem d22_8 : decode jdk_52_method_40_code 8 = .ok (.arraylength, 1) := by decide +kernel
theorem d22_9 : decode jdk_52_method_40_code 9 = .ok (.iconst 1, 1) := by decide +kernel
theorem d22_10 : decode jdk_52_method_40_code 10 = .ok (.ishr, 1) := by decide +kernel
theorem d22_11 : decode jdk_52_method_40_code 11 = .ok (.invokestatic 183, 3) := by decide +kernel
theorem d22_14 : decode jdk_52_method_40_code 14 = .ok (.istore_n 3, 1) := by decide +kernel
theorem d22_15 : decode jdk_52_method_40_code 15 = .ok (.iload_n 2, 1) := by decide +kernel
theorem d22_16 : decode jdk_52_method_40_code 16 = .ok (.iload_n 3, 1) := by decide +kernel
theorem d22_17 : decode jdk_52_method_40_code 17 = .ok (.if_icmp .lt 5, 3) := by decide +kernel
theorem d22_22 : decode jdk_52_method_40_code 22 = .ok (.iload_n 1, 1) := by decide +kernel
theorem d22_23 : decode jdk_52_method_40_code 23 = .ok (.ldc 227, 2) := by decide +kernel
theorem d22_25 : decode jdk_52_method_40_code 25 = .ok (.if_icmp .ge 11, 3) := by decide +kernel
theorem d22_28 : decode jdk_52_method_40_code 28 = .ok (.aload_n 0, 1) := by decide +kernel
theorem d22_29 : decode jdk_52_method_40_code 29 = .ok (.iload_n 1, 1) := by decide +kernel
theorem d22_30 : decode jdk_52_method_40_code 30 = .ok (.iload_n 2, 1) := by decide +kernel
theorem d22_31 : decode jdk_52_method_40_code 31 = .ok (.iload_n 3, 1) := by decide +kernel
theorem d22_32 : decode jdk_52_method_40_code 32 = .ok (.invokestatic 228, 3) := by decide +kernel
theorem d22_35 : decode jdk_52_method_40_code 35 = .ok (.ireturn, 1) := by decide +kernel
theorem pn_22 : plainName "java/lang/StringUTF16" = true := by first | (simp [plainName, overriddenIn]; done) | decide +kernel
theorem ef_iof_u_1 (m : MethodId) (t1 : Addr) : entryFrame m #[(.ref t1), (.int (65533 : Int32)), (ii 0), (.int (1 : Int32))] 4 = mkF m 0 #[vr t1, vi 65533, vi 0, vi 1] [] := rfl
def Q_iof_u_1 (Z : State) (t1 : Addr) (k1 : ClassId) (sf : Value) (c0 : Int32) (h0 : Heap) (n0 : Nat) (v : Option Value) (h : Heap) (L : List Loc) : Prop := v = some (.int (own_i1 c0)) ∧ Fr n0 L ∧ h = h0
theorem iof_u_1 (l : Launch) (Z : State) (a0 : Array Value) (hw : HW Z a0) (ws : List Jvm.Cond) (t1 : Addr) (k1 : ClassId) (sf : Value) (c0 : Int32) (h0 : Heap) (n0 : Nat) (Z0 : n0 ≤ h0.size) (S_AD : AD Z h0) (S_HI : HI Z h0) (S_LO : LO Z h0) (hsf : sf.isRef = true) (S_SF : Sta Z h0 "jdk/internal/util/Preconditions" "SIOOBE_FORMATTER" "Ljava/util/function/BiFunction;" sf) (hr0 : 0 ≤ c0.toInt ∧ c0.toInt ≤ 65535) (V_t1 : Arv Z h0 t1 k1 .byte (2 : Int32) (wb1 c0) (ii 0)) :
    own_M l yy24 jdk_52_method_40_code 4 (some .int) ws rr44 Z #[(.ref t1), (.int (65533 : Int32)), (ii 0), (.int (1 : Int32))] h0 (Q_iof_u_1 Z t1 k1 sf c0 h0 n0) := by
  refine own_bd (plainFor_of_name pn_22) fun p e s m below meth c s₁ Bd hx hby hml hown hnm hlk hZ X0 e0 => ?_
  rw [ef_iof_u_1 m t1]
  refine bN s₁ (mkF m 1 #[vr t1, vi 65533, vi 0, vi 1] [(ii 0)]) (fun _ k => XS.iloadN X0.here hx rfl (hb hby d22_0) rfl k) ?_
  refine bN s₁ (mkF m 2 #[vr t1, vi 65533, vi 0, vi 1] [(ii 0), (ii 0)]) (fun _ k => XS.iconst X0.here hx rfl (hb hby d22_1) k) ?_
  obtain ⟨_, _, ⟨T21, L21, k21, n21⟩, -, X21, ⟨Lc21, hQ21, l21, y21, z21⟩, st21⟩ := Jvm.LawKit.callS X0 hx (y := yy15) hown (mvT hZ (hw _ (mo 102 rfl))) (mvT hZ (hw _ (mo 103 rfl))) (mvT hZ (hw _ (mo 104 rfl))) (mvT hZ (hw _ (mo 105 rfl))) (by decide) (backOf (W := 0) (max00 l Z a0 hw []   h0 n0 Z0 ) hZ (hw _ (mo 105 rfl)) (hw _ (mo 104 rfl)) (by decide) (by decide)) (g := (mkF m 2 #[vr t1, vi 65533, vi 0, vi 1] [(ii 0), (ii 0)])) rfl (by rw [hml]; rfl) (argsL := [(ii 0), (ii 0)]) (rest := []) (lenOf pd_14 rfl) rfl (Nat.le_of_eq rfl) (hb hby d22_2) (fun _ _ => ⟨rfl, e0, (by decide : 0 ≤ _), (by decide : 0 ≤ _)⟩)
  dsimp only [Pt.U, Pt.locs, Pt.cells, Pt.slots] at X21 l21 y21 z21 st21 hQ21
  subst l21 y21 z21
  obtain ⟨rfl, N21q, e21⟩ := hQ21
  have N21 := Fr.app (Fr.nil n0) N21q
  refine bN T21 (mkF m 5 #[vr t1, vi 65533, vi 0, vi 1] [(ii 0)]) (fun _ k => st21 _ k) ?_
  refine bN T21 (mkF m 6 #[vr t1, vi 65533, vi 0, vi 1] []) (fun _ k => XS.istoreN X21.here hx rfl (hb hby d22_5) rfl rfl k) ?_
  refine bN T21 (mkF m 7 #[vr t1, vi 65533, vi 0, vi 1] [(.int (1 : Int32))]) (fun _ k => XS.iloadN X21.here hx rfl (hb hby d22_6) rfl k) ?_
  refine bN T21 (mkF m 8 #[vr t1, vi 65533, vi 0, vi 1] [(.ref t1), (.int (1 : Int32))]) (fun _ k => XS.aloadN X21.here hx rfl (hb hby d22_7) rfl rfl k) ?_
  obtain ⟨cl22, Ar22, q22, S22, N_22, H22, G22⟩ := id V_t1
  refine bN T21 (mkF m 9 #[vr t1, vi 65533, vi 0, vi 1] [(.int (2 : Int32)), (.int (1 : Int32))]) (fun _ k => X21.arraylength hx (by rw [e21]; exact Ar22.1) (State.isArrayOf_alike hZ.alike Ar22.2.1) (g := (mkF m 8 #[vr t1, vi 65533, vi 0, vi 1] [(.ref t1), (.int (1 : Int32))])) rfl rfl (hb hby d22_8) _ (by rw [len_of S22 N_22]; exact k)) ?_
  refine bN T21 (mkF m 10 #[vr t1, vi 65533, vi 0, vi 1] [(.int (1 : Int32)), (.int (2 : Int32)), (.int (1 : Int32))]) (fun _ k => XS.iconst X21.here hx rfl (hb hby d22_9) k) ?_
  refine bN T21 (mkF m 11 #[vr t1, vi 65533, vi 0, vi 1] [(.int (1 : Int32)), (.int (1 : Int32))]) (fun _ k => XS.ishr X21.here hx rfl (hb hby d22_10) rfl k) ?_
  obtain ⟨_, _, ⟨T23, L23, k23, n23⟩, -, X23, ⟨Lc23, hQ23, l23, y23, z23⟩, st23⟩ := Jvm.LawKit.callS X21 hx (y := yy17) hown (mvT hZ (hw _ (mo 106 rfl))) (mvT hZ (hw _ (mo 107 rfl))) (mvT hZ (hw _ (mo 104 rfl))) (mvT hZ (hw _ (mo 108 rfl))) (by decide) (backOf (W := 0) (min_u_1 l Z a0 hw []   h0 n0 Z0 ) hZ (hw _ (mo 108 rfl)) (hw _ (mo 104 rfl)) (by decide) (by decide)) (g := (mkF m 11 #[vr t1, vi 65533, vi 0, vi 1] [(.int (1 : Int32)), (.int (1 : Int32))])) rfl (by rw [hml]; rfl) (argsL := [(.int (1 : Int32)), (.int (1 : Int32))]) (rest := []) (lenOf pd_14 rfl) rfl (Nat.le_of_eq rfl) (hb hby d22_11) (fun _ _ => ⟨rfl, e21, (by decide : 0 ≤ _), (by decide : 0 ≤ _)⟩)
  dsimp only [Pt.U, Pt.locs, Pt.cells, Pt.slots] at X23 l23 y23 z23 st23 hQ23
  subst l23 y23 z23
  obtain ⟨rfl, N23q, e23⟩ := hQ23
  have N23 := Fr.app N21 N23q
  refine bN T23 (mkF m 14 #[vr t1, vi 65533, vi 0, vi 1] [(.int (1 : Int32))]) (fun _ k => st23 _ k) ?_
  refine bN T23 (mkF m 15 #[vr t1, vi 65533, vi 0, vi 1] []) (fun _ k => XS.istoreN X23.here hx rfl (hb hby d22_14) rfl rfl k) ?_
  refine bN T23 (mkF m 16 #[vr t1, vi 65533, vi 0, vi 1] [(ii 0)]) (fun _ k => XS.iloadN X23.here hx rfl (hb hby d22_15) rfl k) ?_
  refine bN T23 (mkF m 17 #[vr t1, vi 65533, vi 0, vi 1] [(.int (1 : Int32)), (ii 0)]) (fun _ k => XS.iloadN X23.here hx rfl (hb hby d22_16) rfl k) ?_
  refine bN T23 (mkF m 22 #[vr t1, vi 65533, vi 0, vi 1] []) (fun _ k => XS.icmpYes X23.here hx rfl (pc0 := 17) (pc' := 22) rfl (hb hby d22_17) rfl (tlt (by decide)).1 (by decide) (by decide) k) ?_
  refine bN T23 (mkF m 23 #[vr t1, vi 65533, vi 0, vi 1] [(.int (65533 : Int32))]) (fun _ k => XS.iloadN X23.here hx rfl (hb hby d22_22) rfl k) ?_
  refine bN T23 (mkF m 25 #[vr t1, vi 65533, vi 0, vi 1] [(.int (65536 : Int32)), (.int (65533 : Int32))]) (fun _ k => ldcI X23 hx hown (mvT hZ (hw _ (mo 109 rfl))) rfl (hb hby d22_23) k) ?_
  refine bN T23 (mkF m 28 #[vr t1, vi 65533, vi 0, vi 1] []) (fun _ k => XS.icmpNo X23.here hx rfl (hb hby d22_25) rfl (tlt (by decide)).2.1 k) ?_
  refine bN T23 (mkF m 29 #[vr t1, vi 65533, vi 0, vi 1] [(.ref t1)]) (fun _ k => XS.aloadN X23.here hx rfl (hb hby d22_28) rfl rfl k) ?_
  refine bN T23 (mkF m 30 #[vr t1, vi 65533, vi 0, vi 1] [(.int (65533 : Int32)), (.ref t1)]) (fun _ k => XS.iloadN X23.here hx rfl (hb hby d22_29) rfl k) ?_
  refine bN T23 (mkF m 31 #[vr t1, vi 65533, vi 0, vi 1] [(ii 0), (.int (65533 : Int32)), (.ref t1)]) (fun _ k => XS.iloadN X23.here hx rfl (hb hby d22_30) rfl k) ?_
  refine bN T23 (mkF m 32 #[vr t1, vi 65533, vi 0, vi 1] [(.int (1 : Int32)), (ii 0), (.int (65533 : Int32)), (.ref t1)]) (fun _ k => XS.iloadN X23.here hx rfl (hb hby d22_31) rfl k) ?_
  obtain ⟨_, _, ⟨T24, L24, k24, n24⟩, -, X24, ⟨Lc24, hQ24, l24, y24, z24⟩, st24⟩ := Jvm.LawKit.callS X23 hx (y := yy23) hown (mvT hZ (hw _ (mo 110 rfl))) (mvT hZ (hw _ (mo 111 rfl))) (mvT hZ (hw _ (mo 71 rfl))) (mvT hZ (hw _ (mo 112 rfl))) (by decide) (backOf (W := 0) (ich_u_1 l Z a0 hw [] t1 k1 sf c0 h0 n0 Z0 S_AD S_HI S_LO hsf S_SF hr0 V_t1) hZ (hw _ (mo 112 rfl)) (hw _ (mo 71 rfl)) (by decide) (by decide)) (g := (mkF m 32 #[vr t1, vi 65533, vi 0, vi 1] [(.int (1 : Int32)), (ii 0), (.int (65533 : Int32)), (.ref t1)])) rfl (by rw [hml]; rfl) (argsL := [(.ref t1), (.int (65533 : Int32)), (ii 0), (.int (1 : Int32))]) (rest := []) (lenOf pd_13 rfl) rfl (Nat.le_of_eq rfl) (hb hby d22_32) (fun _ _ => ⟨rfl, e23, (by decide : 0 ≤ _), (by decide : 0 ≤ _)⟩)
  dsimp only [Pt.U, Pt.locs, Pt.cells, Pt.slots] at X24 l24 y24 z24 st24 hQ24
  subst l24 y24 z24
  obtain ⟨rfl, N24q, e24⟩ := hQ24
  have N24 := Fr.app N23 N24q
  refine bN T24 (mkF m 35 #[vr t1, vi 65533, vi 0, vi 1] [(.int (own_i1 c0))]) (fun _ k => st24 _ k) ?_
  refine own_ret X24 hlk (v := some (.int (own_i1 c0))) (nvr Bd.returns) (fun fs hr => retI X24 hx Bd.returns (hb hby d22_35) hr) ?_ (by decide) (by decide)
  rw [e24]
  exact ⟨rfl, N24, rfl⟩
theorem d8_0 : decode jdk_42_method_80_code 0 = .ok (.aload_n 0, 1) := by decide +kernel
theorem d8_1 : decode jdk_42_method_80_code 1 = .ok (.invokevirtual 492, 3) := by decide +kernel
theorem d8_4 : decode jdk_42_method_80_code 4 = .ok (.ifCond .eq 19, 3) := by decide +kernel
theorem d8_23 : decode jdk_42_method_80_code 23 = .ok (.aload_n 0, 1) := by decide +kernel
theorem d8_24 : decode jdk_42_method_80_code 24 = .ok (.getfield 9, 3) := by decide +kernel
theorem d8_27 : decode jdk_42_method_80_code 27 = .ok (.iload_n 1, 1) := by decide +kernel
theorem d8_28 : decode jdk_42_method_80_code 28 = .ok (.iload_n 2, 1) := by decide +kernel
theorem d8_29 : decode jdk_42_method_80_code 29 = .ok (.aload_n 0, 1) := by decide +kernel
theorem d8_30 : decode jdk_42_method_80_code 30 = .ok (.invokevirtual 505, 3) := by decide +kernel
theorem d8_33 : decode jdk_42_method_80_code 33 = .ok (.invokestatic 640, 3) := by decide +kernel
theorem d8_36 : decode jdk_42_method_80_code 36 = .ok (.ireturn, 1) := by decide +kernel
theorem pn_8 : plainName "java/lang/String" = true := by first | (simp [plainName, overriddenIn]; done) | decide +kernel
theorem ef_ix2_u_1 (m : MethodId) (a : Addr) : entryFrame m #[(.ref a), (.int (65533 : Int32)), (ii 0)] 3 = mkF m 0 #[vr a, vi 65533, vi 0] [] := rfl
def Q_ix2_u_1 (Z : State) (a t1 : Addr) (k1 : ClassId) (cs c0 : Int32) (sf : Value) (h0 : Heap) (n0 : Nat) (v : Option Value) (h : Heap) (L : List Loc) : Prop := v = some (.int (own_i1 c0)) ∧ Fr n0 L ∧ h = h0
theorem ix2_u_1 (l : Launch) (Z : State) (a0 : Array Value) (hw : HW Z a0) (ws : List Jvm.Cond) (a t1 : Addr) (k1 : ClassId) (cs c0 : Int32) (sf : Value) (h0 : Heap) (n0 : Nat) (Z0 : n0 ≤ h0.size) (E_a : Exa Z h0 a "java/lang/String") (F_coder_a : Fld Z h0 a "java/lang/String" "coder" "B" (.int (1 : Int32))) (F_value_a : Fld Z h0 a "java/lang/String" "value" "[B" (.ref t1)) (V_t1 : Arv Z h0 t1 k1 .byte (2 : Int32) (wb1 c0) (ii 0)) (S_CS : Sta Z h0 "java/lang/String" "COMPACT_STRINGS" "Z" (.int cs)) (hcs : ¬ cs = (0 : Int32)) (S_AD : AD Z h0) (S_HI : HI Z h0) (S_LO : LO Z h0) (hsf : sf.isRef = true) (S_SF : Sta Z h0 "jdk/internal/util/Preconditions" "SIOOBE_FORMATTER" "Ljava/util/function/BiFunction;" sf) (hr0 : 0 ≤ c0.toInt ∧ c0.toInt ≤ 65535) :
    own_M l yy25 jdk_42_method_80_code 3 (some .int) ws rr45 Z #[(.ref a), (.int (65533 : Int32)), (ii 0)] h0 (Q_ix2_u_1 Z a t1 k1 cs c0 sf h0 n0) := by
  refine own_bd (plainFor_of_name pn_8) fun p e s m below meth c s₁ Bd hx hby hml hown hnm hlk hZ X0 e0 => ?_
  rw [ef_ix2_u_1 m a]
  refine bN s₁ (mkF m 1 #[vr a, vi 65533, vi 0] [(.ref a)]) (fun _ k => XS.aloadN X0.here hx rfl (hb hby d8_0) rfl rfl k) ?_
  obtain ⟨cq21, kq21, q21a, q21b, q21c⟩ := isOf hZ e0 E_a
  obtain ⟨_, _, ⟨T21, L21, k21, n21⟩, -, X21, ⟨Lc21, hQ21, l21, y21, z21⟩, st21⟩ := X0.virtualBack hx (y := yy12) (z := yy12) hown (mvT hZ (hw _ (mo 46 rfl))) (mvT hZ (hw _ (mo 47 rfl))) (notFace_of_selects (args := #[]) (mvT hZ (hw _ (mo 49 rfl)))) (mvT hZ (hw _ (mo 49 rfl))) (mvT hZ (hw _ (mo 48 rfl))) (by decide) (backOf (W := 0) (isl_1 l Z a0 hw [] a cs h0 n0 Z0 F_coder_a S_CS hcs) hZ (hw _ (mo 50 rfl)) (hw _ (mo 12 rfl)) (by decide) (by decide)) q21a q21c (g := (mkF m 1 #[vr a, vi 65533, vi 0] [(.ref a)])) rfl (by rw [hml]; rfl) (Steps.refl _) (argsL := []) (rest := []) (lenOf pd_15 rfl) rfl (Nat.le_of_eq rfl) (hb hby d8_1) (fun _ _ => ⟨rfl, e0, (by decide : 0 ≤ _), (by decide : 0 ≤ _)⟩)
  dsimp only [Pt.U, Pt.locs, Pt.cells, Pt.slots] at X21 l21 y21 z21 st21 hQ21
  subst l21 y21 z21
  obtain ⟨rfl, N21q, e21⟩ := hQ21
  have N21 := Fr.app (Fr.nil n0) N21q
  refine bN T21 (mkF m 4 #[vr a, vi 65533, vi 0] [(ii 0)]) (fun _ k => st21.trans k) ?_
  refine bN T21 (mkF m 23 #[vr a, vi 65533, vi 0] []) (fun _ k => XS.ifYes X21.here hx rfl (pc0 := 4) (pc' := 23) rfl (hb hby d8_4) rfl ((if0 _ _).trans (teq (by decide)).1) (by decide) (by decide) k) ?_
  refine bN T21 (mkF m 24 #[vr a, vi 65533, vi 0] [(.ref a)]) (fun _ k => XS.aloadN X21.here hx rfl (hb hby d8_23) rfl rfl k) ?_
  obtain ⟨T22, X22, e22, st22⟩ := getF X21 hx hZ hown (host := "") (Or.inl (hw _ (mo 29 rfl))) Via.refl e21 F_value_a (g := (mkF m 24 #[vr a, vi 65533, vi 0] [(.ref a)])) rfl rfl (hb hby d8_24)
  refine bN T22 (mkF m 27 #[vr a, vi 65533, vi 0] [(.ref t1)]) (fun _ k => st22 _ k) ?_
  refine bN T22 (mkF m 28 #[vr a, vi 65533, vi 0] [(.int (65533 : Int32)), (.ref t1)]) (fun _ k => XS.iloadN X22.here hx rfl (hb hby d8_27) rfl k) ?_
  refine bN T22 (mkF m 29 #[vr a, vi 65533, vi 0] [(ii 0), (.int (65533 : Int32)), (.ref t1)]) (fun _ k => XS.iloadN X22.here hx rfl (hb hby d8_28) rfl k) ?_
  refine bN T22 (mkF m 30 #[vr a, vi 65533, vi 0] [(.ref a), (ii 0), (.int (65533 : Int32)), (.ref t1)]) (fun _ k => XS.aloadN X22.here hx rfl (hb hby d8_29) rfl rfl k) ?_
  obtain ⟨cq23, kq23, q23a, q23b, q23c⟩ := isOf hZ e22 E_a
  obtain ⟨_, _, ⟨T23, L23, k23, n23⟩, -, X23, ⟨Lc23, hQ23, l23, y23, z23⟩, st23⟩ := X22.virtualBack hx (y := yy16) (z := yy16) hown (mvT hZ (hw _ (mo 52 rfl))) (mvT hZ (hw _ (mo 53 rfl))) (notFace_of_selects (args := #[]) (mvT hZ (hw _ (mo 55 rfl)))) (mvT hZ (hw _ (mo 55 rfl))) (mvT hZ (hw _ (mo 54 rfl))) (by decide) (backOf (W := 3) (len_u_1 l Z a0 hw [] a t1 k1 cs c0 h0 n0 Z0 E_a F_coder_a F_value_a V_t1 S_CS hcs) hZ (hw _ (mo 56 rfl)) (hw _ (mo 12 rfl)) (by decide) (by decide)) q23a q23c (g := (mkF m 30 #[vr a, vi 65533, vi 0] [(.ref a), (ii 0), (.int (65533 : Int32)), (.ref t1)])) rfl (by rw [hml]; rfl) (Steps.refl _) (argsL := []) (rest := [(ii 0), (.int (65533 : Int32)), (.ref t1)]) (lenOf pd_16 rfl) rfl (Nat.le_of_eq rfl) (hb hby d8_30) (fun _ _ => ⟨rfl, e22, (by decide : 0 ≤ _), (by decide : 0 ≤ _)⟩)
  dsimp only [Pt.U, Pt.locs, Pt.cells, Pt.slots] at X23 l23 y23 z23 st23 hQ23
  subst l23 y23 z23
  obtain ⟨rfl, N23q, e23⟩ := hQ23
  have N23 := Fr.app N21 N23q
  refine bN T23 (mkF m 33 #[vr a, vi 65533, vi 0] [(.int (1 : Int32)), (ii 0), (.int (65533 : Int32)), (.ref t1)]) (fun _ k => st23.trans k) ?_
  obtain ⟨_, _, ⟨T24, L24, k24, n24⟩, -, X24, ⟨Lc24, hQ24, l24, y24, z24⟩, st24⟩ := Jvm.LawKit.callS X23 hx (y := yy24) hown (mvT hZ (hw _ (mo 99 rfl))) (mvT hZ (hw _ (mo 100 rfl))) (mvT hZ (hw _ (mo 71 rfl))) (mvT hZ (hw _ (mo 101 rfl))) (by decide) (backOf (W := 0) (iof_u_1 l Z a0 hw [] t1 k1 sf c0 h0 n0 Z0 S_AD S_HI S_LO hsf S_SF hr0 V_t1) hZ (hw _ (mo 101 rfl)) (hw _ (mo 71 rfl)) (by decide) (by decide)) (g := (mkF m 33 #[vr a, vi 65533, vi 0] [(.int (1 : Int32)), (ii 0), (.int (65533 : Int32)), (.ref t1)])) rfl (by rw [hml]; rfl) (argsL := [(.ref t1), (.int (65533 : Int32)), (ii 0), (.int (1 : Int32))]) (rest := []) (lenOf pd_13 rfl) rfl (Nat.le_of_eq rfl) (hb hby d8_33) (fun _ _ => ⟨rfl, e23, (by decide : 0 ≤ _), (by decide : 0 ≤ _)⟩)
  dsimp only [Pt.U, Pt.locs, Pt.cells, Pt.slots] at X24 l24 y24 z24 st24 hQ24
  subst l24 y24 z24
  obtain ⟨rfl, N24q, e24⟩ := hQ24
  have N24 := Fr.app N23 N24q
  refine bN T24 (mkF m 36 #[vr a, vi 65533, vi 0] [(.int (own_i1 c0))]) (fun _ k => st24 _ k) ?_
  refine own_ret X24 hlk (v := some (.int (own_i1 c0))) (nvr Bd.returns) (fun fs hr => retI X24 hx Bd.returns (hb hby d8_36) hr) ?_ (by decide) (by decide)
  rw [e24]
  exact ⟨rfl, N24, rfl⟩
theorem d7_0 : decode jdk_42_method_79_code 0 = .ok (.aload_n 0, 1) := by decide +kernel
theorem d7_1 : decode jdk_42_method_79_code 1 = .ok (.iload_n 1, 1) := by decide +kernel
theorem d7_2 : decode jdk_42_method_79_code 2 = .ok (.iconst 0, 1) := by decide +kernel
theorem d7_3 : decode jdk_42_method_79_code 3 = .ok (.invokevirtual 633, 3) := by decide +kernel
theorem d7_6 : decode jdk_42_method_79_code 6 = .ok (.ireturn, 1) := by decide +kernel
theorem pn_7 : plainName "java/lang/String" = true := by first | (simp [plainName, overriddenIn]; done) | decide +kernel
theorem ef_ix1_u_1 (m : MethodId) (a : Addr) : entryFrame m #[(.ref a), (.int (65533 : Int32))] 2 = mkF m 0 #[vr a, vi 65533] [] := rfl
def Q_ix1_u_1 (Z : State) (a t1 : Addr) (k1 : ClassId) (cs c0 : Int32) (sf : Value) (h0 : Heap) (n0 : Nat) (v : Option Value) (h : Heap) (L : List Loc) : Prop := v = some (.int (own_i1 c0)) ∧ Fr n0 L ∧ h = h0
theorem ix1_u_1 (l : Launch) (Z : State) (a0 : Array Value) (hw : HW Z a0) (ws : List Jvm.Cond) (a t1 : Addr) (k1 : ClassId) (cs c0 : Int32) (sf : Value) (h0 : Heap) (n0 : Nat) (Z0 : n0 ≤ h0.size) (E_a : Exa Z h0 a "java/lang/String") (F_coder_a : Fld Z h0 a "java/lang/String" "coder" "B" (.int (1 : Int32))) (F_value_a : Fld Z h0 a "java/lang/String" "value" "[B" (.ref t1)) (V_t1 : Arv Z h0 t1 k1 .byte (2 : Int32) (wb1 c0) (ii 0)) (S_CS : Sta Z h0 "java/lang/String" "COMPACT_STRINGS" "Z" (.int cs)) (hcs : ¬ cs = (0 : Int32)) (S_AD : AD Z h0) (S_HI : HI Z h0) (S_LO : LO Z h0) (hsf : sf.isRef = true) (S_SF : Sta Z h0 "jdk/internal/util/Preconditions" "SIOOBE_FORMATTER" "Ljava/util/function/BiFunction;" sf) (hr0 : 0 ≤ c0.toInt ∧ c0.toInt ≤ 65535) :
    own_M l yy26 jdk_42_method_79_code 2 (some .int) ws rr46 Z #[(.ref a), (.int (65533 : Int32))] h0 (Q_ix1_u_1 Z a t1 k1 cs c0 sf h0 n0) := by
  refine own_bd (plainFor_of_name pn_7) fun p e s m below meth c s₁ Bd hx hby hml hown hnm hlk hZ X0 e0 => ?_
  rw [ef_ix1_u_1 m a]
  refine bN s₁ (mkF m 1 #[vr a, vi 65533] [(.ref a)]) (fun _ k => XS.aloadN X0.here hx rfl (hb hby d7_0) rfl rfl k) ?_
  refine bN s₁ (mkF m 2 #[vr a, vi 65533] [(.int (65533 : Int32)), (.ref a)]) (fun _ k => XS.iloadN X0.here hx rfl (hb hby d7_1) rfl k) ?_
  refine bN s₁ (mkF m 3 #[vr a, vi 65533] [(ii 0), (.int (65533 : Int32)), (.ref a)]) (fun _ k => XS.iconst X0.here hx rfl (hb hby d7_2) k) ?_
  obtain ⟨cq21, kq21, q21a, q21b, q21c⟩ := isOf hZ e0 E_a
  obtain ⟨_, _, ⟨T21, L21, k21, n21⟩, -, X21, ⟨Lc21, hQ21, l21, y21, z21⟩, st21⟩ := X0.virtualBack hx (y := yy25) (z := yy25) hown (mvT hZ (hw _ (mo 41 rfl))) (mvT hZ (hw _ (mo 42 rfl))) (notFace_of_selects (args := #[]) (mvT hZ (hw _ (mo 44 rfl)))) (mvT hZ (hw _ (mo 44 rfl))) (mvT hZ (hw _ (mo 43 rfl))) (by decide) (backOf (W := 0) (ix2_u_1 l Z a0 hw [] a t1 k1 cs c0 sf h0 n0 Z0 E_a F_coder_a F_value_a V_t1 S_CS hcs S_AD S_HI S_LO hsf S_SF hr0) hZ (hw _ (mo 45 rfl)) (hw _ (mo 12 rfl)) (by decide) (by decide)) q21a q21c (g := (mkF m 3 #[vr a, vi 65533] [(ii 0), (.int (65533 : Int32)), (.ref a)])) rfl (by rw [hml]; rfl) (Steps.refl _) (argsL := [(.int (65533 : Int32)), (ii 0)]) (rest := []) (lenOf pd_14 rfl) rfl (Nat.le_of_eq rfl) (hb hby d7_3) (fun _ _ => ⟨rfl, e0, (by decide : 0 ≤ _), (by decide : 0 ≤ _)⟩)
  dsimp only [Pt.U, Pt.locs, Pt.cells, Pt.slots] at X21 l21 y21 z21 st21 hQ21
  subst l21 y21 z21
  obtain ⟨rfl, N21q, e21⟩ := hQ21
  have N21 := Fr.app (Fr.nil n0) N21q
  refine bN T21 (mkF m 6 #[vr a, vi 65533] [(.int (own_i1 c0))]) (fun _ k => st21.trans k) ?_
  refine own_ret X21 hlk (v := some (.int (own_i1 c0))) (nvr Bd.returns) (fun fs hr => retI X21 hx Bd.returns (hb hby d7_6) hr) ?_ (by decide) (by decide)
  rw [e21]
  exact ⟨rfl, N21, rfl⟩
theorem d6_0 : decode prog_8_method_2_code 0 = .ok (.aload_n 0, 1) := by decide +kernel
theorem d6_1 : decode prog_8_method_2_code 1 = .ok (.ldc 7, 2) := by decide +kernel
theorem d6_3 : decode prog_8_method_2_code 3 = .ok (.invokevirtual 8, 3) := by decide +kernel
theorem d6_6 : decode prog_8_method_2_code 6 = .ok (.ifCond .lt 7, 3) := by decide +kernel
theorem d6_9 : decode prog_8_method_2_code 9 = .ok (.iconst 1, 1) := by decide +kernel
theorem d6_10 : decode prog_8_method_2_code 10 = .ok (.goto 4, 3) := by decide +kernel
theorem d6_13 : decode prog_8_method_2_code 13 = .ok (.iconst 0, 1) := by decide +kernel
theorem d6_14 : decode prog_8_method_2_code 14 = .ok (.ireturn, 1) := by decide +kernel
theorem pn_6 : plainName "com/example/shelfgraph/shelfgraph/ingest/CommandLineText" = true := by first | (simp [plainName, overriddenIn]; done) | decide +kernel
theorem ef_hub_u_1 (m : MethodId) (a : Addr) : entryFrame m #[(.ref a)] 1 = mkF m 0 #[vr a] [] := rfl
def Q_hub_u_1 (Z : State) (a t1 : Addr) (k1 : ClassId) (cs c0 : Int32) (sf : Value) (h0 : Heap) (n0 : Nat) (v : Option Value) (h : Heap) (L : List Loc) : Prop := v = some (.int (if (own_i1 c0) < (0 : Int32) then (0 : Int32) else (1 : Int32))) ∧ Fr n0 L ∧ h = h0
theorem hub_u_1 (l : Launch) (Z : State) (a0 : Array Value) (hw : HW Z a0) (ws : List Jvm.Cond) (a t1 : Addr) (k1 : ClassId) (cs c0 : Int32) (sf : Value) (h0 : Heap) (n0 : Nat) (Z0 : n0 ≤ h0.size) (E_a : Exa Z h0 a "java/lang/String") (F_coder_a : Fld Z h0 a "java/lang/String" "coder" "B" (.int (1 : Int32))) (F_value_a : Fld Z h0 a "java/lang/String" "value" "[B" (.ref t1)) (V_t1 : Arv Z h0 t1 k1 .byte (2 : Int32) (wb1 c0) (ii 0)) (S_CS : Sta Z h0 "java/lang/String" "COMPACT_STRINGS" "Z" (.int cs)) (hcs : ¬ cs = (0 : Int32)) (S_AD : AD Z h0) (S_HI : HI Z h0) (S_LO : LO Z h0) (hsf : sf.isRef = true) (S_SF : Sta Z h0 "jdk/internal/util/Preconditions" "SIOOBE_FORMATTER" "Ljava/util/function/BiFunction;" sf) (hr0 : 0 ≤ c0.toInt ∧ c0.toInt ≤ 65535) :
    own_M l yy27 prog_8_method_2_code 1 (some .boolean) ws rr47 Z #[(.ref a)] h0 (Q_hub_u_1 Z a t1 k1 cs c0 sf h0 n0) := by
  refine own_bd (plainFor_of_name pn_6) fun p e s m below meth c s₁ Bd hx hby hml hown hnm hlk hZ X0 e0 => ?_
  rw [ef_hub_u_1 m a]
  refine bN s₁ (mkF m 1 #[vr a] [(.ref a)]) (fun _ k => XS.aloadN X0.here hx rfl (hb hby d6_0) rfl rfl k) ?_
  refine bN s₁ (mkF m 3 #[vr a] [(.int (65533 : Int32)), (.ref a)]) (fun _ k => ldcI X0 hx hown (mvT hZ (hw _ (mo 35 rfl))) rfl (hb hby d6_1) k) ?_
  obtain ⟨cq21, kq21, q21a, q21b, q21c⟩ := isOf hZ e0 E_a
  obtain ⟨_, _, ⟨T21, L21, k21, n21⟩, -, X21, ⟨Lc21, hQ21, l21, y21, z21⟩, st21⟩ := X0.virtualBack hx (y := yy26) (z := yy26) hown (mvT hZ (hw _ (mo 36 rfl))) (mvT hZ (hw _ (mo 37 rfl))) (notFace_of_selects (args := #[]) (mvT hZ (hw _ (mo 39 rfl)))) (mvT hZ (hw _ (mo 39 rfl))) (mvT hZ (hw _ (mo 38 rfl))) (by decide) (backOf (W := 0) (ix1_u_1 l Z a0 hw [] a t1 k1 cs c0 sf h0 n0 Z0 E_a F_coder_a F_value_a V_t1 S_CS hcs S_AD S_HI S_LO hsf S_SF hr0) hZ (hw _ (mo 40 rfl)) (hw _ (mo 12 rfl)) (by decide) (by decide)) q21a q21c (g := (mkF m 3 #[vr a] [(.int (65533 : Int32)), (.ref a)])) rfl (by rw [hml]; rfl) (Steps.refl _) (argsL := [(.int (65533 : Int32))]) (rest := []) (lenOf pd_4 rfl) rfl (Nat.le_of_eq rfl) (hb hby d6_3) (fun _ _ => ⟨rfl, e0, (by decide : 0 ≤ _), (by decide : 0 ≤ _)⟩)
  dsimp only [Pt.U, Pt.locs, Pt.cells, Pt.slots] at X21 l21 y21 z21 st21 hQ21
  subst l21 y21 z21
  obtain ⟨rfl, N21q, e21⟩ := hQ21
  have N21 := Fr.app (Fr.nil n0) N21q
  refine bN T21 (mkF m 6 #[vr a] [(.int (own_i1 c0))]) (fun _ k => st21.trans k) ?_
  by_cases hc6_22 : (own_i1 c0) < (0 : Int32)
  · skip
    refine bN T21 (mkF m 13 #[vr a] []) (fun _ k => XS.ifYes X21.here hx rfl (pc0 := 6) (pc' := 13) rfl (hb hby d6_6) rfl ((if0 _ _).trans (tlt hc6_22).1) (by decide) (by decide) k) ?_
    refine bN T21 (mkF m 14 #[vr a] [(ii 0)]) (fun _ k => XS.iconst X21.here hx rfl (hb hby d6_13) k) ?_
    refine own_ret X21 hlk (v := some (ii 0)) (nvr Bd.returns) (fun fs hr => retN X21 hx (t := .boolean) Bd.returns (by simp) (hb hby d6_14) hr) ?_ (by decide) (by decide)
    rw [e21]
    exact ⟨congrArg (fun z => some (Value.int z)) (if_pos hc6_22).symm, N21, rfl⟩
  · skip
    refine bN T21 (mkF m 9 #[vr a] []) (fun _ k => XS.ifNo X21.here hx rfl (hb hby d6_6) rfl ((if0 _ _).trans (flt hc6_22).1) k) ?_
    refine bN T21 (mkF m 10 #[vr a] [(.int (1 : Int32))]) (fun _ k => XS.iconst X21.here hx rfl (hb hby d6_9) k) ?_
    refine bN T21 (mkF m 14 #[vr a] [(.int (1 : Int32))]) (fun _ k => XS.goto X21.here hx rfl (pc0 := 10) (pc' := 14) rfl (hb hby d6_10) (by decide) (by decide) k) ?_
    refine own_ret X21 hlk (v := some (.int (1 : Int32))) (nvr Bd.returns) (fun fs hr => retN X21 hx (t := .boolean) Bd.returns (by simp) (hb hby d6_14) hr) ?_ (by decide) (by decide)
    rw [e21]
    exact ⟨congrArg (fun z => some (Value.int z)) (if_neg hc6_22).symm, N21, rfl⟩
theorem ef_len_u_2 (m : MethodId) (a : Addr) : entryFrame m #[(.ref a)] 1 = mkF m 0 #[vr a] [] := rfl
def Q_len_u_2 (Z : State) (a t1 : Addr) (k1 : ClassId) (cs c0 c1 : Int32) (h0 : Heap) (n0 : Nat) (v : Option Value) (h : Heap) (L : List Loc) : Prop := v = some (.int (2 : Int32)) ∧ Fr n0 L ∧ h = h0
theorem len_u_2 (l : Launch) (Z : State) (a0 : Array Value) (hw : HW Z a0) (ws : List Jvm.Cond) (a t1 : Addr) (k1 : ClassId) (cs c0 c1 : Int32) (h0 : Heap) (n0 : Nat) (Z0 : n0 ≤ h0.size) (E_a : Exa Z h0 a "java/lang/String") (F_coder_a : Fld Z h0 a "java/lang/String" "coder" "B" (.int (1 : Int32))) (F_value_a : Fld Z h0 a "java/lang/String" "value" "[B" (.ref t1)) (V_t1 : Arv Z h0 t1 k1 .byte (4 : Int32) (wb2 c0 c1) (ii 0)) (S_CS : Sta Z h0 "java/lang/String" "COMPACT_STRINGS" "Z" (.int cs)) (hcs : ¬ cs = (0 : Int32)) :
    own_M l yy16 jdk_42_method_54_code 1 (some .int) ws rr40 Z #[(.ref a)] h0 (Q_len_u_2 Z a t1 k1 cs c0 c1 h0 n0) := by
  refine own_bd (plainFor_of_name pn_10) fun p e s m below meth c s₁ Bd hx hby hml hown hnm hlk hZ X0 e0 => ?_
  rw [ef_len_u_2 m a]
  refine bN s₁ (mkF m 1 #[vr a] [(.ref a)]) (fun _ k => XS.aloadN X0.here hx rfl (hb hby d10_0) rfl rfl k) ?_
  obtain ⟨T21, X21, e21, st21⟩ := getF X0 hx hZ hown (host := "") (Or.inl (hw _ (mo 29 rfl))) Via.refl e0 F_value_a (g := (mkF m 1 #[vr a] [(.ref a)])) rfl rfl (hb hby d10_1)
  refine bN T21 (mkF m 4 #[vr a] [(.ref t1)]) (fun _ k => st21 _ k) ?_
  obtain ⟨cl22, Ar22, q22, S22, N_22, H22, G22⟩ := id V_t1
  refine bN T21 (mkF m 5 #[vr a] [(.int (4 : Int32))]) (fun _ k => X21.arraylength hx (by rw [e21]; exact Ar22.1) (State.isArrayOf_alike hZ.alike Ar22.2.1) (g := (mkF m 4 #[vr a] [(.ref t1)])) rfl rfl (hb hby d10_4) _ (by rw [len_of S22 N_22]; exact k)) ?_
  refine bN T21 (mkF m 6 #[vr a] [(.ref a), (.int (4 : Int32))]) (fun _ k => XS.aloadN X21.here hx rfl (hb hby d10_5) rfl rfl k) ?_
  obtain ⟨cq23, kq23, q23a, q23b, q23c⟩ := isOf hZ e21 E_a
  obtain ⟨_, _, ⟨T23, L23, k23, n23⟩, -, X23, ⟨Lc23, hQ23, l23, y23, z23⟩, st23⟩ := X21.virtualBack hx (y := yy13) (z := yy13) hown (mvT hZ (hw _ (mo 57 rfl))) (mvT hZ (hw _ (mo 58 rfl))) (notFace_of_selects (args := #[]) (mvT hZ (hw _ (mo 60 rfl)))) (mvT hZ (hw _ (mo 60 rfl))) (mvT hZ (hw _ (mo 59 rfl))) (by decide) (backOf (W := 1) (cdr_1 l Z a0 hw [] a cs h0 n0 Z0 F_coder_a S_CS hcs) hZ (hw _ (mo 61 rfl)) (hw _ (mo 12 rfl)) (by decide) (by decide)) q23a q23c (g := (mkF m 6 #[vr a] [(.ref a), (.int (4 : Int32))])) rfl (by rw [hml]; rfl) (Steps.refl _) (argsL := []) (rest := [(.int (4 : Int32))]) (lenOf pd_8 rfl) rfl (Nat.le_of_eq rfl) (hb hby d10_6) (fun _ _ => ⟨rfl, e21, (by decide : 0 ≤ _), (by decide : 0 ≤ _)⟩)
  dsimp only [Pt.U, Pt.locs, Pt.cells, Pt.slots] at X23 l23 y23 z23 st23 hQ23
  subst l23 y23 z23
  obtain ⟨rfl, N23q, e23⟩ := hQ23
  have N23 := Fr.app (Fr.nil n0) N23q
  refine bN T23 (mkF m 9 #[vr a] [(.int (1 : Int32)), (.int (4 : Int32))]) (fun _ k => st23.trans k) ?_
  refine bN T23 (mkF m 10 #[vr a] [(.int (2 : Int32))]) (fun _ k => XS.ishr X23.here hx rfl (hb hby d10_9) rfl k) ?_
  refine own_ret X23 hlk (v := some (.int (2 : Int32))) (nvr Bd.returns) (fun fs hr => retI X23 hx Bd.returns (hb hby d10_10) hr) ?_ (by decide) (by decide)
  rw [e23]
  exact ⟨rfl, N23, rfl⟩
theorem ef_min_u_2 (m : MethodId)  : entryFrame m #[(.int (2 : Int32)), (.int (2 : Int32))] 2 = mkF m 0 #[vi 2, vi 2] [] := rfl
def Q_min_u_2 (Z : State)  (h0 : Heap) (n0 : Nat) (v : Option Value) (h : Heap) (L : List Loc) : Prop := v = some (.int (2 : Int32)) ∧ Fr n0 L ∧ h = h0
theorem min_u_2 (l : Launch) (Z : State) (a0 : Array Value) (hw : HW Z a0) (ws : List Jvm.Cond)  (h0 : Heap) (n0 : Nat) (Z0 : n0 ≤ h0.size) :
    own_M l yy17 jdk_29_method_69_code 2 (some .int) ws rr0 Z #[(.int (2 : Int32)), (.int (2 : Int32))] h0 (Q_min_u_2 Z  h0 n0) := by
  refine own_bd (Jvm.Free.JP.mathPlain rfl (by decide +kernel)) fun p e s m below meth c s₁ Bd hx hby hml hown hnm hlk hZ X0 e0 => ?_
  rw [ef_min_u_2 m ]
  refine bN s₁ (mkF m 1 #[vi 2, vi 2] [(.int (2 : Int32))]) (fun _ k => XS.iloadN X0.here hx rfl (hb hby d24_0) rfl k) ?_
  refine bN s₁ (mkF m 2 #[vi 2, vi 2] [(.int (2 : Int32)), (.int (2 : Int32))]) (fun _ k => XS.iloadN X0.here hx rfl (hb hby d24_1) rfl k) ?_
  refine bN s₁ (mkF m 5 #[vi 2, vi 2] []) (fun _ k => XS.icmpNo X0.here hx rfl (hb hby d24_2) rfl (flt (by decide)).2.2.1 k) ?_
  refine bN s₁ (mkF m 6 #[vi 2, vi 2] [(.int (2 : Int32))]) (fun _ k => XS.iloadN X0.here hx rfl (hb hby d24_5) rfl k) ?_
  refine bN s₁ (mkF m 10 #[vi 2, vi 2] [(.int (2 : Int32))]) (fun _ k => XS.goto X0.here hx rfl (pc0 := 6) (pc' := 10) rfl (hb hby d24_6) (by decide) (by decide) k) ?_
  refine own_ret X0 hlk (v := some (.int (2 : Int32))) (nvr Bd.returns) (fun fs hr => retI X0 hx Bd.returns (hb hby d24_10) hr) ?_ (by decide) (by decide)
  rw [e0]
  exact ⟨rfl, (Fr.nil n0), rfl⟩
theorem ef_ule_u_2 (m : MethodId) (t1 : Addr) : entryFrame m #[(.ref t1)] 1 = mkF m 0 #[vr t1] [] := rfl
def Q_ule_u_2 (Z : State) (t1 : Addr) (k1 : ClassId) (c0 c1 : Int32) (h0 : Heap) (n0 : Nat) (v : Option Value) (h : Heap) (L : List Loc) : Prop := v = some (.int (2 : Int32)) ∧ Fr n0 L ∧ h = h0
theorem ule_u_2 (l : Launch) (Z : State) (a0 : Array Value) (hw : HW Z a0) (ws : List Jvm.Cond) (t1 : Addr) (k1 : ClassId) (c0 c1 : Int32) (h0 : Heap) (n0 : Nat) (Z0 : n0 ≤ h0.size) (V_t1 : Arv Z h0 t1 k1 .byte (4 : Int32) (wb2 c0 c1) (ii 0)) :
    own_M l yy18 jdk_52_method_6_code 1 (some .int) ws rr0 Z #[(.ref t1)] h0 (Q_ule_u_2 Z t1 k1 c0 c1 h0 n0) := by
  refine own_bd (plainFor_of_name pn_27) fun p e s m below meth c s₁ Bd hx hby hml hown hnm hlk hZ X0 e0 => ?_
  rw [ef_ule_u_2 m t1]
  refine bN s₁ (mkF m 1 #[vr t1] [(.ref t1)]) (fun _ k => XS.aloadN X0.here hx rfl (hb hby d27_0) rfl rfl k) ?_
  obtain ⟨cl21, Ar21, q21, S21, N_21, H21, G21⟩ := id V_t1
  refine bN s₁ (mkF m 2 #[vr t1] [(.int (4 : Int32))]) (fun _ k => X0.arraylength hx (by rw [e0]; exact Ar21.1) (State.isArrayOf_alike hZ.alike Ar21.2.1) (g := (mkF m 1 #[vr t1] [(.ref t1)])) rfl rfl (hb hby d27_1) _ (by rw [len_of S21 N_21]; exact k)) ?_
  refine bN s₁ (mkF m 3 #[vr t1] [(.int (1 : Int32)), (.int (4 : Int32))]) (fun _ k => XS.iconst X0.here hx rfl (hb hby d27_2) k) ?_
  refine bN s₁ (mkF m 4 #[vr t1] [(.int (2 : Int32))]) (fun _ k => XS.ishr X0.here hx rfl (hb hby d27_3) rfl k) ?_
  refine own_ret X0 hlk (v := some (.int (2 : Int32))) (nvr Bd.returns) (fun fs hr => retI X0 hx Bd.returns (hb hby d27_4) hr) ?_ (by decide) (by decide)
  rw [e0]
  exact ⟨rfl, (Fr.nil n0), rfl⟩
theorem ef_cft_u_2 (m : MethodId) (sf : Value) (hsf : sf.isRef = true) : entryFrame m #[(ii 0), (.int (2 : Int32)), (.int (2 : Int32)), sf] 4 = mkF m 0 #[vi 0, vi 2, vi 2, .val sf] [] := by
  rcases ref_cases hsf with rfl | ⟨_, rfl⟩ <;> rfl
def Q_cft_u_2 (Z : State) (sf : Value) (h0 : Heap) (n0 : Nat) (v : Option Value) (h : Heap) (L : List Loc) : Prop := v = some (ii 0) ∧ Fr n0 L ∧ h = h0
theorem cft_u_2 (l : Launch) (Z : State) (a0 : Array Value) (hw : HW Z a0) (ws : List Jvm.Cond) (sf : Value) (h0 : Heap) (n0 : Nat) (Z0 : n0 ≤ h0.size) (hsf : sf.isRef = true) :
    own_M l yy19 jdk_41_method_12_code 4 (some .int) ws rr0 Z #[(ii 0), (.int (2 : Int32)), (.int (2 : Int32)), sf] h0 (Q_cft_u_2 Z sf h0 n0) := by
  refine own_bd (plainFor_of_name pn_29) fun p e s m below meth c s₁ Bd hx hby hml hown hnm hlk hZ X0 e0 => ?_
  rw [ef_cft_u_2 m sf hsf]
  refine bN s₁ (mkF m 1 #[vi 0, vi 2, vi 2, .val sf] [(ii 0)]) (fun _ k => XS.iloadN X0.here hx rfl (hb hby d29_0) rfl k) ?_
  refine bN s₁ (mkF m 4 #[vi 0, vi 2, vi 2, .val sf] []) (fun _ k => XS.ifNo X0.here hx rfl (hb hby d29_1) rfl ((if0 _ _).trans (flt (by decide)).1) k) ?_
  refine bN s₁ (mkF m 5 #[vi 0, vi 2, vi 2, .val sf] [(ii 0)]) (fun _ k => XS.iloadN X0.here hx rfl (hb hby d29_4) rfl k) ?_
  refine bN s₁ (mkF m 6 #[vi 0, vi 2, vi 2, .val sf] [(.int (2 : Int32)), (ii 0)]) (fun _ k => XS.iloadN X0.here hx rfl (hb hby d29_5) rfl k) ?_
  refine bN s₁ (mkF m 9 #[vi 0, vi 2, vi 2, .val sf] []) (fun _ k => XS.icmpNo X0.here hx rfl (hb hby d29_6) rfl (flt (by decide)).2.2.1 k) ?_
  refine bN s₁ (mkF m 10 #[vi 0, vi 2, vi 2, .val sf] [(.int (2 : Int32))]) (fun _ k => XS.iloadN X0.here hx rfl (hb hby d29_9) rfl k) ?_
  refine bN s₁ (mkF m 11 #[vi 0, vi 2, vi 2, .val sf] [(.int (2 : Int32)), (.int (2 : Int32))]) (fun _ k => XS.iloadN X0.here hx rfl (hb hby d29_10) rfl k) ?_
  refine bN s₁ (mkF m 22 #[vi 0, vi 2, vi 2, .val sf] []) (fun _ k => XS.icmpYes X0.here hx rfl (pc0 := 11) (pc' := 22) rfl (hb hby d29_11) rfl (flt (by decide)).2.2.2 (by decide) (by decide) k) ?_
  refine bN s₁ (mkF m 23 #[vi 0, vi 2, vi 2, .val sf] [(ii 0)]) (fun _ k => XS.iloadN X0.here hx rfl (hb hby d29_22) rfl k) ?_
  refine own_ret X0 hlk (v := some (ii 0)) (nvr Bd.returns) (fun fs hr => retI X0 hx Bd.returns (hb hby d29_23) hr) ?_ (by decide) (by decide)
  rw [e0]
  exact ⟨rfl, (Fr.nil n0), rfl⟩
theorem ef_cbs_u_2 (m : MethodId)  : entryFrame m #[(ii 0), (.int (2 : Int32)), (.int (2 : Int32))] 3 = mkF m 0 #[vi 0, vi 2, vi 2] [] := rfl
def Q_cbs_u_2 (Z : State) (sf : Value) (h0 : Heap) (n0 : Nat) (v : Option Value) (h : Heap) (L : List Loc) : Prop := v = none ∧ Fr n0 L ∧ h = h0
theorem cbs_u_2 (l : Launch) (Z : State) (a0 : Array Value) (hw : HW Z a0) (ws : List Jvm.Cond) (sf : Value) (h0 : Heap) (n0 : Nat) (Z0 : n0 ≤ h0.size) (hsf : sf.isRef = true) (S_SF : Sta Z h0 "jdk/internal/util/Preconditions" "SIOOBE_FORMATTER" "Ljava/util/function/BiFunction;" sf) :
    own_M l yy20 jdk_42_method_158_code 3 none ws rr41 Z #[(ii 0), (.int (2 : Int32)), (.int (2 : Int32))] h0 (Q_cbs_u_2 Z sf h0 n0) := by
  refine own_bd (plainFor_of_name pn_28) fun p e s m below meth c s₁ Bd hx hby hml hown hnm hlk hZ X0 e0 => ?_
  rw [ef_cbs_u_2 m ]
  refine bN s₁ (mkF m 1 #[vi 0, vi 2, vi 2] [(ii 0)]) (fun _ k => XS.iloadN X0.here hx rfl (hb hby d28_0) rfl k) ?_
  refine bN s₁ (mkF m 2 #[vi 0, vi 2, vi 2] [(.int (2 : Int32)), (ii 0)]) (fun _ k => XS.iloadN X0.here hx rfl (hb hby d28_1) rfl k) ?_
  refine bN s₁ (mkF m 3 #[vi 0, vi 2, vi 2] [(.int (2 : Int32)), (.int (2 : Int32)), (ii 0)]) (fun _ k => XS.iloadN X0.here hx rfl (hb hby d28_2) rfl k) ?_
  obtain ⟨T21, X21, e21, st21⟩ := getS2 X0 hx hZ hown (host := "") (Or.inl (hw _ (mo 122 rfl))) Via.refl e0 S_SF (g := (mkF m 3 #[vi 0, vi 2, vi 2] [(.int (2 : Int32)), (.int (2 : Int32)), (ii 0)])) rfl (hb hby d28_3)
  refine bN T21 (mkF m 6 #[vi 0, vi 2, vi 2] [sf, (.int (2 : Int32)), (.int (2 : Int32)), (ii 0)]) (fun _ k => st21 _ k) ?_
  obtain ⟨_, _, ⟨T22, L22, k22, n22⟩, -, X22, ⟨Lc22, hQ22, l22, y22, z22⟩, st22⟩ := Jvm.LawKit.callS X21 hx (y := yy19) hown (mvT hZ (hw _ (mo 124 rfl))) (mvT hZ (hw _ (mo 125 rfl))) (mvT hZ (hw _ (mo 123 rfl))) (mvT hZ (hw _ (mo 126 rfl))) (by decide) (backOf (W := 0) (cft_u_2 l Z a0 hw [] sf  h0 n0 Z0 hsf) hZ (hw _ (mo 126 rfl)) (hw _ (mo 123 rfl)) (by decide) (by decide)) (g := (mkF m 6 #[vi 0, vi 2, vi 2] [sf, (.int (2 : Int32)), (.int (2 : Int32)), (ii 0)])) rfl (by rw [hml]; rfl) (argsL := [(ii 0), (.int (2 : Int32)), (.int (2 : Int32)), sf]) (rest := []) (lenOf pd_9 rfl) rfl (Nat.le_of_eq rfl) (hb hby d28_6) (fun _ _ => ⟨rfl, e21, (by decide : 0 ≤ _), (by decide : 0 ≤ _)⟩)
  dsimp only [Pt.U, Pt.locs, Pt.cells, Pt.slots] at X22 l22 y22 z22 st22 hQ22
  subst l22 y22 z22
  obtain ⟨rfl, N22q, e22⟩ := hQ22
  have N22 := Fr.app (Fr.nil n0) N22q
  refine bN T22 (mkF m 9 #[vi 0, vi 2, vi 2] [(ii 0)]) (fun _ k => st22 _ k) ?_
  refine bN T22 (mkF m 10 #[vi 0, vi 2, vi 2] []) (fun _ k => XS.pop X22.here hx rfl (hb hby d28_9) rfl rfl k) ?_
  refine own_ret X22 hlk (v := none) (fun _ => rfl) (fun fs hr => X22.returnOut hx Bd.returns (hb hby d28_10) hr) ?_ (by decide) (by decide)
  rw [e22]
  exact ⟨rfl, N22, rfl⟩
theorem ef_cbu_u_2 (m : MethodId) (t1 : Addr) : entryFrame m #[(ii 0), (.int (2 : Int32)), (.ref t1)] 3 = mkF m 0 #[vi 0, vi 2, vr t1] [] := rfl
def Q_cbu_u_2 (Z : State) (t1 : Addr) (k1 : ClassId) (sf : Value) (c0 c1 : Int32) (h0 : Heap) (n0 : Nat) (v : Option Value) (h : Heap) (L : List Loc) : Prop := v = none ∧ Fr n0 L ∧ h = h0
theorem cbu_u_2 (l : Launch) (Z : State) (a0 : Array Value) (hw : HW Z a0) (ws : List Jvm.Cond) (t1 : Addr) (k1 : ClassId) (sf : Value) (c0 c1 : Int32) (h0 : Heap) (n0 : Nat) (Z0 : n0 ≤ h0.size) (hsf : sf.isRef = true) (S_SF : Sta Z h0 "jdk/internal/util/Preconditions" "SIOOBE_FORMATTER" "Ljava/util/function/BiFunction;" sf) (V_t1 : Arv Z h0 t1 k1 .byte (4 : Int32) (wb2 c0 c1) (ii 0)) :
    own_M l yy21 jdk_52_method_93_code 3 none ws rr42 Z #[(ii 0), (.int (2 : Int32)), (.ref t1)] h0 (Q_cbu_u_2 Z t1 k1 sf c0 c1 h0 n0) := by
  refine own_bd (plainFor_of_name pn_26) fun p e s m below meth c s₁ Bd hx hby hml hown hnm hlk hZ X0 e0 => ?_
  rw [ef_cbu_u_2 m t1]
  refine bN s₁ (mkF m 1 #[vi 0, vi 2, vr t1] [(ii 0)]) (fun _ k => XS.iloadN X0.here hx rfl (hb hby d26_0) rfl k) ?_
  refine bN s₁ (mkF m 2 #[vi 0, vi 2, vr t1] [(.int (2 : Int32)), (ii 0)]) (fun _ k => XS.iloadN X0.here hx rfl (hb hby d26_1) rfl k) ?_
  refine bN s₁ (mkF m 3 #[vi 0, vi 2, vr t1] [(.ref t1), (.int (2 : Int32)), (ii 0)]) (fun _ k => XS.aloadN X0.here hx rfl (hb hby d26_2) rfl rfl k) ?_
  obtain ⟨_, _, ⟨T21, L21, k21, n21⟩, -, X21, ⟨Lc21, hQ21, l21, y21, z21⟩, st21⟩ := Jvm.LawKit.callS X0 hx (y := yy18) hown (mvT hZ (hw _ (mo 116 rfl))) (mvT hZ (hw _ (mo 117 rfl))) (mvT hZ (hw _ (mo 71 rfl))) (mvT hZ (hw _ (mo 118 rfl))) (by decide) (backOf (W := 2) (ule_u_2 l Z a0 hw [] t1 k1 c0 c1 h0 n0 Z0 V_t1) hZ (hw _ (mo 118 rfl)) (hw _ (mo 71 rfl)) (by decide) (by decide)) (g := (mkF m 3 #[vi 0, vi 2, vr t1] [(.ref t1), (.int (2 : Int32)), (ii 0)])) rfl (by rw [hml]; rfl) (argsL := [(.ref t1)]) (rest := [(.int (2 : Int32)), (ii 0)]) (lenOf pd_10 rfl) rfl (Nat.le_of_eq rfl) (hb hby d26_3) (fun _ _ => ⟨rfl, e0, (by decide : 0 ≤ _), (by decide : 0 ≤ _)⟩)
  dsimp only [Pt.U, Pt.locs, Pt.cells, Pt.slots] at X21 l21 y21 z21 st21 hQ21
  subst l21 y21 z21
  obtain ⟨rfl, N21q, e21⟩ := hQ21
  have N21 := Fr.app (Fr.nil n0) N21q
  refine bN T21 (mkF m 6 #[vi 0, vi 2, vr t1] [(.int (2 : Int32)), (.int (2 : Int32)), (ii 0)]) (fun _ k => st21 _ k) ?_
  obtain ⟨_, _, ⟨T22, L22, k22, n22⟩, -, X22, ⟨Lc22, hQ22, l22, y22, z22⟩, st22⟩ := Jvm.LawKit.callS X21 hx (y := yy20) hown (mvT hZ (hw _ (mo 119 rfl))) (mvT hZ (hw _ (mo 120 rfl))) (mvT hZ (hw _ (mo 12 rfl))) (mvT hZ (hw _ (mo 121 rfl))) (by decide) (backOf (W := 0) (cbs_u_2 l Z a0 hw []  sf h0 n0 Z0 hsf S_SF) hZ (hw _ (mo 121 rfl)) (hw _ (mo 12 rfl)) (by decide) (by decide)) (g := (mkF m 6 #[vi 0, vi 2, vr t1] [(.int (2 : Int32)), (.int (2 : Int32)), (ii 0)])) rfl (by rw [hml]; rfl) (argsL := [(ii 0), (.int (2 : Int32)), (.int (2 : Int32))]) (rest := []) (lenOf pd_11 rfl) rfl (Nat.le_of_eq rfl) (hb hby d26_6) (fun _ _ => ⟨rfl, e21, (by decide : 0 ≤ _), (by decide : 0 ≤ _)⟩)
  dsimp only [Pt.U, Pt.locs, Pt.cells, Pt.slots] at X22 l22 y22 z22 st22 hQ22
  subst l22 y22 z22
  obtain ⟨rfl, N22q, e22⟩ := hQ22
  have N22 := Fr.app N21 N22q
  refine bN T22 (mkF m 9 #[vi 0, vi 2, vr t1] []) (fun _ k => st22 _ k) ?_
  refine own_ret X22 hlk (v := none) (fun _ => rfl) (fun fs hr => X22.returnOut hx Bd.returns (hb hby d26_9) hr) ?_ (by decide) (by decide)
  rw [e22]
  exact ⟨rfl, N22, rfl⟩
theorem ef_icu_u_2 (m : MethodId) (t1 : Addr) : entryFrame m #[(.ref t1), (.int (65533 : Int32)), (ii 0), (.int (2 : Int32))] 5 = mkF m 0 #[vr t1, vi 65533, vi 0, vi 2, uu] [] := rfl
def Q_icu_u_2 (Z : State) (t1 : Addr) (k1 : ClassId) (sf : Value) (c0 c1 : Int32) (h0 : Heap) (n0 : Nat) (v : Option Value) (h : Heap) (L : List Loc) : Prop := v = some (.int (own_i2 c0 c1)) ∧ Fr n0 L ∧ h = h0
theorem icu_u_2 (l : Launch) (Z : State) (a0 : Array Value) (hw : HW Z a0) (ws : List Jvm.Cond) (t1 : Addr) (k1 : ClassId) (sf : Value) (c0 c1 : Int32) (h0 : Heap) (n0 : Nat) (Z0 : n0 ≤ h0.size) (S_AD : AD Z h0) (S_HI : HI Z h0) (S_LO : LO Z h0) (hsf : sf.isRef = true) (S_SF : Sta Z h0 "jdk/internal/util/Preconditions" "SIOOBE_FORMATTER" "Ljava/util/function/BiFunction;" sf) (hr0 : 0 ≤ c0.toInt ∧ c0.toInt ≤ 65535) (hr1 : 0 ≤ c1.toInt ∧ c1.toInt ≤ 65535) (V_t1 : Arv Z h0 t1 k1 .byte (4 : Int32) (wb2 c0 c1) (ii 0)) :
    own_M l yy22 jdk_52_method_48_code 5 (some .int) ws rr40 Z #[(.ref t1), (.int (65533 : Int32)), (ii 0), (.int (2 : Int32))] h0 (Q_icu_u_2 Z t1 k1 sf c0 c1 h0 n0) := by
  refine own_bd (plainFor_of_name pn_30) fun p e s m below meth c s₁ Bd hx hby hml hown hnm hlk hZ X0 e0 => ?_
  rw [ef_icu_u_2 m t1]
  refine bN s₁ (mkF m 1 #[vr t1, vi 65533, vi 0, vi 2, uu] [(ii 0)]) (fun _ k => XS.iloadN X0.here hx rfl (hb hby d30_0) rfl k) ?_
  refine bN s₁ (mkF m 3 #[vr t1, vi 65533, vi 0, vi 2, vi 0] []) (fun _ k => XS.istore X0.here hx rfl (hb hby d30_1) rfl rfl k) ?_
  refine bN s₁ (mkF m 5 #[vr t1, vi 65533, vi 0, vi 2, vi 0] [(ii 0)]) (fun _ k => XS.iload X0.here hx rfl (hb hby d30_3) rfl k) ?_
  refine bN s₁ (mkF m 6 #[vr t1, vi 65533, vi 0, vi 2, vi 0] [(.int (2 : Int32)), (ii 0)]) (fun _ k => XS.iloadN X0.here hx rfl (hb hby d30_5) rfl k) ?_
  refine bN s₁ (mkF m 9 #[vr t1, vi 65533, vi 0, vi 2, vi 0] []) (fun _ k => XS.icmpNo X0.here hx rfl (hb hby d30_6) rfl (tlt (by decide)).2.1 k) ?_
  refine bN s₁ (mkF m 10 #[vr t1, vi 65533, vi 0, vi 2, vi 0] [(.ref t1)]) (fun _ k => XS.aloadN X0.here hx rfl (hb hby d30_9) rfl rfl k) ?_
  refine bN s₁ (mkF m 12 #[vr t1, vi 65533, vi 0, vi 2, vi 0] [(ii 0), (.ref t1)]) (fun _ k => XS.iload X0.here hx rfl (hb hby d30_10) rfl k) ?_
  obtain ⟨_, _, ⟨T21, L21, k21, n21⟩, -, X21, ⟨Lc21, hQ21, l21, y21, z21⟩, st21⟩ := Jvm.LawKit.callS X0 hx (y := yy8) hown (mvT hZ (hw _ (mo 96 rfl))) (mvT hZ (hw _ (mo 97 rfl))) (mvT hZ (hw _ (mo 71 rfl))) (mvT hZ (hw _ (mo 98 rfl))) (by decide) (backOf (W := 0) (get_0 l Z a0 hw [] t1 k1 (4 : Int32) (wb2 c0 c1) (b0 c0) (b1 c0) h0 n0 Z0 S_AD S_HI S_LO V_t1 (by decide) (by decide) rfl rfl) hZ (hw _ (mo 98 rfl)) (hw _ (mo 71 rfl)) (by decide) (by decide)) (g := (mkF m 12 #[vr t1, vi 65533, vi 0, vi 2, vi 0] [(ii 0), (.ref t1)])) rfl (by rw [hml]; rfl) (argsL := [(.ref t1), (ii 0)]) (rest := []) (lenOf pd_7 rfl) rfl (Nat.le_of_eq rfl) (hb hby d30_12) (fun _ _ => ⟨rfl, e0, (by decide : 0 ≤ _), (by decide : 0 ≤ _)⟩)
  dsimp only [Pt.U, Pt.locs, Pt.cells, Pt.slots] at X21 l21 y21 z21 st21 hQ21
  subst l21 y21 z21
  obtain ⟨vq21, N21q, e21⟩ := hQ21
  obtain rfl := vq21.trans (congrArg (fun z => some (Value.int z)) (own_pair hr0))
  have N21 := Fr.app (Fr.nil n0) N21q
  refine bN T21 (mkF m 15 #[vr t1, vi 65533, vi 0, vi 2, vi 0] [(.int c0)]) (fun _ k => st21 _ k) ?_
  refine bN T21 (mkF m 16 #[vr t1, vi 65533, vi 0, vi 2, vi 0] [(.int (65533 : Int32)), (.int c0)]) (fun _ k => XS.iloadN X21.here hx rfl (hb hby d30_15) rfl k) ?_
  by_cases hc16_22 : c0 = (65533 : Int32)
  · skip
    refine bN T21 (mkF m 19 #[vr t1, vi 65533, vi 0, vi 2, vi 0] []) (fun _ k => XS.icmpNo X21.here hx rfl (hb hby d30_16) rfl (teq hc16_22).2 k) ?_
    refine bN T21 (mkF m 21 #[vr t1, vi 65533, vi 0, vi 2, vi 0] [(ii 0)]) (fun _ k => XS.iload X21.here hx rfl (hb hby d30_19) rfl k) ?_
    refine own_ret X21 hlk (v := some (ii 0)) (nvr Bd.returns) (fun fs hr => retI X21 hx Bd.returns (hb hby d30_21) hr) ?_ (by decide) (by decide)
    rw [e21]
    exact ⟨congrArg (fun z => some (Value.int z)) (if_pos hc16_22).symm, N21, rfl⟩
  · skip
    refine bN T21 (mkF m 22 #[vr t1, vi 65533, vi 0, vi 2, vi 0] []) (fun _ k => XS.icmpYes X21.here hx rfl (pc0 := 16) (pc' := 22) rfl (hb hby d30_16) rfl (feq hc16_22).2 (by decide) (by decide) k) ?_
    refine bN T21 (mkF m 25 #[vr t1, vi 65533, vi 0, vi 2, vi 1] []) (fun _ k => XS.iinc X21.here hx rfl (hb hby d30_22) rfl rfl k) ?_
    refine bN T21 (mkF m 3 #[vr t1, vi 65533, vi 0, vi 2, vi 1] []) (fun _ k => XS.goto X21.here hx rfl (pc0 := 25) (pc' := 3) rfl (hb hby d30_25) (by decide) (by decide) k) ?_
    refine bN T21 (mkF m 5 #[vr t1, vi 65533, vi 0, vi 2, vi 1] [(.int (1 : Int32))]) (fun _ k => XS.iload X21.here hx rfl (hb hby d30_3) rfl k) ?_
    refine bN T21 (mkF m 6 #[vr t1, vi 65533, vi 0, vi 2, vi 1] [(.int (2 : Int32)), (.int (1 : Int32))]) (fun _ k => XS.iloadN X21.here hx rfl (hb hby d30_5) rfl k) ?_
    refine bN T21 (mkF m 9 #[vr t1, vi 65533, vi 0, vi 2, vi 1] []) (fun _ k => XS.icmpNo X21.here hx rfl (hb hby d30_6) rfl (tlt (by decide)).2.1 k) ?_
    refine bN T21 (mkF m 10 #[vr t1, vi 65533, vi 0, vi 2, vi 1] [(.ref t1)]) (fun _ k => XS.aloadN X21.here hx rfl (hb hby d30_9) rfl rfl k) ?_
    refine bN T21 (mkF m 12 #[vr t1, vi 65533, vi 0, vi 2, vi 1] [(.int (1 : Int32)), (.ref t1)]) (fun _ k => XS.iload X21.here hx rfl (hb hby d30_10) rfl k) ?_
    obtain ⟨_, _, ⟨T23, L23, k23, n23⟩, -, X23, ⟨Lc23, hQ23, l23, y23, z23⟩, st23⟩ := Jvm.LawKit.callS X21 hx (y := yy8) hown (mvT hZ (hw _ (mo 96 rfl))) (mvT hZ (hw _ (mo 97 rfl))) (mvT hZ (hw _ (mo 71 rfl))) (mvT hZ (hw _ (mo 98 rfl))) (by decide) (backOf (W := 0) (get_1 l Z a0 hw [] t1 k1 (4 : Int32) (wb2 c0 c1) (b0 c1) (b1 c1) h0 n0 Z0 S_AD S_HI S_LO V_t1 (by decide) (by decide) rfl rfl) hZ (hw _ (mo 98 rfl)) (hw _ (mo 71 rfl)) (by decide) (by decide)) (g := (mkF m 12 #[vr t1, vi 65533, vi 0, vi 2, vi 1] [(.int (1 : Int32)), (.ref t1)])) rfl (by rw [hml]; rfl) (argsL := [(.ref t1), (.int (1 : Int32))]) (rest := []) (lenOf pd_7 rfl) rfl (Nat.le_of_eq rfl) (hb hby d30_12) (fun _ _ => ⟨rfl, e21, (by decide : 0 ≤ _), (by decide : 0 ≤ _)⟩)
    dsimp only [Pt.U, Pt.locs, Pt.cells, Pt.slots] at X23 l23 y23 z23 st23 hQ23
    subst l23 y23 z23
    obtain ⟨vq23, N23q, e23⟩ := hQ23
    obtain rfl := vq23.trans (congrArg (fun z => some (Value.int z)) (own_pair hr1))
    have N23 := Fr.app N21 N23q
    refine bN T23 (mkF m 15 #[vr t1, vi 65533, vi 0, vi 2, vi 1] [(.int c1)]) (fun _ k => st23 _ k) ?_
    refine bN T23 (mkF m 16 #[vr t1, vi 65533, vi 0, vi 2, vi 1] [(.int (65533 : Int32)), (.int c1)]) (fun _ k => XS.iloadN X23.here hx rfl (hb hby d30_15) rfl k) ?_
    by_cases hc16_24 : c1 = (65533 : Int32)
    · skip
      refine bN T23 (mkF m 19 #[vr t1, vi 65533, vi 0, vi 2, vi 1] []) (fun _ k => XS.icmpNo X23.here hx rfl (hb hby d30_16) rfl (teq hc16_24).2 k) ?_
      refine bN T23 (mkF m 21 #[vr t1, vi 65533, vi 0, vi 2, vi 1] [(.int (1 : Int32))]) (fun _ k => XS.iload X23.here hx rfl (hb hby d30_19) rfl k) ?_
      refine own_ret X23 hlk (v := some (.int (1 : Int32))) (nvr Bd.returns) (fun fs hr => retI X23 hx Bd.returns (hb hby d30_21) hr) ?_ (by decide) (by decide)
      rw [e23]
      exact ⟨congrArg (fun z => some (Value.int z)) ((if_neg hc16_22).trans (if_pos hc16_24)).symm, N23, rfl⟩
    · skip
      refine bN T23 (mkF m 22 #[vr t1, vi 65533, vi 0, vi 2, vi 1] []) (fun _ k => XS.icmpYes X23.here hx rfl (pc0 := 16) (pc' := 22) rfl (hb hby d30_16) rfl (feq hc16_24).2 (by decide) (by decide) k) ?_
      refine bN T23 (mkF m 25 #[vr t1, vi 65533, vi 0, vi 2, vi 2] []) (fun _ k => XS.iinc X23.here hx rfl (hb hby d30_22) rfl rfl k) ?_
      refine bN T23 (mkF m 3 #[vr t1, vi 65533, vi 0, vi 2, vi 2] []) (fun _ k => XS.goto X23.here hx rfl (pc0 := 25) (pc' := 3) rfl (hb hby d30_25) (by decide) (by decide) k) ?_
      refine bN T23 (mkF m 5 #[vr t1, vi 65533, vi 0, vi 2, vi 2] [(.int (2 : Int32))]) (fun _ k => XS.iload X23.here hx rfl (hb hby d30_3) rfl k) ?_
      refine bN T23 (mkF m 6 #[vr t1, vi 65533, vi 0, vi 2, vi 2] [(.int (2 : Int32)), (.int (2 : Int32))]) (fun _ k => XS.iloadN X23.here hx rfl (hb hby d30_5) rfl k) ?_
      refine bN T23 (mkF m 28 #[vr t1, vi 65533, vi 0, vi 2, vi 2] []) (fun _ k => XS.icmpYes X23.here hx rfl (pc0 := 6) (pc' := 28) rfl (hb hby d30_6) rfl (flt (by decide)).2.1 (by decide) (by decide) k) ?_
      refine bN T23 (mkF m 29 #[vr t1, vi 65533, vi 0, vi 2, vi 2] [(.int (-1 : Int32))]) (fun _ k => XS.iconst X23.here hx rfl (hb hby d30_28) k) ?_
      refine own_ret X23 hlk (v := some (.int (-1 : Int32))) (nvr Bd.returns) (fun fs hr => retI X23 hx Bd.returns (hb hby d30_29) hr) ?_ (by decide) (by decide)
      rw [e23]
      exact ⟨congrArg (fun z => some (Value.int z)) ((if_neg hc16_22).trans (if_neg hc16_24)).symm, N23, rfl⟩
theorem ef_ich_u_2 (m : MethodId) (t1 : Addr) : entryFrame m #[(.ref t1), (.int (65533 : Int32)), (ii 0), (.int (2 : Int32))] 4 = mkF m 0 #[vr t1, vi 65533, vi 0, vi 2] [] := rfl
def Q_ich_u_2 (Z : State) (t1 : Addr) (k1 : ClassId) (sf : Value) (c0 c1 : Int32) (h0 : Heap) (n0 : Nat) (v : Option Value) (h : Heap) (L : List Loc) : Prop := v = some (.int (own_i2 c0 c1)) ∧ Fr n0 L ∧ h = h0
theorem ich_u_2 (l : Launch) (Z : State) (a0 : Array Value) (hw : HW Z a0) (ws : List Jvm.Cond) (t1 : Addr) (k1 : ClassId) (sf : Value) (c0 c1 : Int32) (h0 : Heap) (n0 : Nat) (Z0 : n0 ≤ h0.size) (S_AD : AD Z h0) (S_HI : HI Z h0) (S_LO : LO Z h0) (hsf : sf.isRef = true) (S_SF : Sta Z h0 "jdk/internal/util/Preconditions" "SIOOBE_FORMATTER" "Ljava/util/function/BiFunction;" sf) (hr0 : 0 ≤ c0.toInt ∧ c0.toInt ≤ 65535) (hr1 : 0 ≤ c1.toInt ∧ c1.toInt ≤ 65535) (V_t1 : Arv Z h0 t1 k1 .byte (4 : Int32) (wb2 c0 c1) (ii 0)) :
    own_M l yy23 jdk_52_method_47_code 4 (some .int) ws rr43 Z #[(.ref t1), (.int (65533 : Int32)), (ii 0), (.int (2 : Int32))] h0 (Q_ich_u_2 Z t1 k1 sf c0 c1 h0 n0) := by
  refine own_bd (plainFor_of_name pn_25) fun p e s m below meth c s₁ Bd hx hby hml hown hnm hlk hZ X0 e0 => ?_
  rw [ef_ich_u_2 m t1]
  refine bN s₁ (mkF m 1 #[vr t1, vi 65533, vi 0, vi 2] [(ii 0)]) (fun _ k => XS.iloadN X0.here hx rfl (hb hby d25_0) rfl k) ?_
  refine bN s₁ (mkF m 2 #[vr t1, vi 65533, vi 0, vi 2] [(.int (2 : Int32)), (ii 0)]) (fun _ k => XS.iloadN X0.here hx rfl (hb hby d25_1) rfl k) ?_
  refine bN s₁ (mkF m 3 #[vr t1, vi 65533, vi 0, vi 2] [(.ref t1), (.int (2 : Int32)), (ii 0)]) (fun _ k => XS.aloadN X0.here hx rfl (hb hby d25_2) rfl rfl k) ?_
  obtain ⟨_, _, ⟨T21, L21, k21, n21⟩, -, X21, ⟨Lc21, hQ21, l21, y21, z21⟩, st21⟩ := Jvm.LawKit.callS X0 hx (y := yy21) hown (mvT hZ (hw _ (mo 113 rfl))) (mvT hZ (hw _ (mo 114 rfl))) (mvT hZ (hw _ (mo 71 rfl))) (mvT hZ (hw _ (mo 115 rfl))) (by decide) (backOf (W := 0) (cbu_u_2 l Z a0 hw [] t1 k1 sf c0 c1 h0 n0 Z0 hsf S_SF V_t1) hZ (hw _ (mo 115 rfl)) (hw _ (mo 71 rfl)) (by decide) (by decide)) (g := (mkF m 3 #[vr t1, vi 65533, vi 0, vi 2] [(.ref t1), (.int (2 : Int32)), (ii 0)])) rfl (by rw [hml]; rfl) (argsL := [(ii 0), (.int (2 : Int32)), (.ref t1)]) (rest := []) (lenOf pd_12 rfl) rfl (Nat.le_of_eq rfl) (hb hby d25_3) (fun _ _ => ⟨rfl, e0, (by decide : 0 ≤ _), (by decide : 0 ≤ _)⟩)
  dsimp only [Pt.U, Pt.locs, Pt.cells, Pt.slots] at X21 l21 y21 z21 st21 hQ21
  subst l21 y21 z21
  obtain ⟨rfl, N21q, e21⟩ := hQ21
  have N21 := Fr.app (Fr.nil n0) N21q
  refine bN T21 (mkF m 6 #[vr t1, vi 65533, vi 0, vi 2] []) (fun _ k => st21 _ k) ?_
  refine bN T21 (mkF m 7 #[vr t1, vi 65533, vi 0, vi 2] [(.ref t1)]) (fun _ k => XS.aloadN X21.here hx rfl (hb hby d25_6) rfl rfl k) ?_
  refine bN T21 (mkF m 8 #[vr t1, vi 65533, vi 0, vi 2] [(.int (65533 : Int32)), (.ref t1)]) (fun _ k => XS.iloadN X21.here hx rfl (hb hby d25_7) rfl k) ?_
  refine bN T21 (mkF m 9 #[vr t1, vi 65533, vi 0, vi 2] [(ii 0), (.int (65533 : Int32)), (.ref t1)]) (fun _ k => XS.iloadN X21.here hx rfl (hb hby d25_8) rfl k) ?_
  refine bN T21 (mkF m 10 #[vr t1, vi 65533, vi 0, vi 2] [(.int (2 : Int32)), (ii 0), (.int (65533 : Int32)), (.ref t1)]) (fun _ k => XS.iloadN X21.here hx rfl (hb hby d25_9) rfl k) ?_
  obtain ⟨_, _, ⟨T22, L22, k22, n22⟩, -, X22, ⟨Lc22, hQ22, l22, y22, z22⟩, st22⟩ := Jvm.LawKit.callS X21 hx (y := yy22) hown (mvT hZ (hw _ (mo 127 rfl))) (mvT hZ (hw _ (mo 128 rfl))) (mvT hZ (hw _ (mo 71 rfl))) (mvT hZ (hw _ (mo 129 rfl))) (by decide) (backOf (W := 0) (icu_u_2 l Z a0 hw [] t1 k1 sf c0 c1 h0 n0 Z0 S_AD S_HI S_LO hsf S_SF hr0 hr1 V_t1) hZ (hw _ (mo 129 rfl)) (hw _ (mo 71 rfl)) (by decide) (by decide)) (g := (mkF m 10 #[vr t1, vi 65533, vi 0, vi 2] [(.int (2 : Int32)), (ii 0), (.int (65533 : Int32)), (.ref t1)])) rfl (by rw [hml]; rfl) (argsL := [(.ref t1), (.int (65533 : Int32)), (ii 0), (.int (2 : Int32))]) (rest := []) (lenOf pd_13 rfl) rfl (Nat.le_of_eq rfl) (hb hby d25_10) (fun _ _ => ⟨rfl, e21, (by decide : 0 ≤ _), (by decide : 0 ≤ _)⟩)
  dsimp only [Pt.U, Pt.locs, Pt.cells, Pt.slots] at X22 l22 y22 z22 st22 hQ22
  subst l22 y22 z22
  obtain ⟨rfl, N22q, e22⟩ := hQ22
  have N22 := Fr.app N21 N22q
  refine bN T22 (mkF m 13 #[vr t1, vi 65533, vi 0, vi 2] [(.int (own_i2 c0 c1))]) (fun _ k => st22 _ k) ?_
  refine own_ret X22 hlk (v := some (.int (own_i2 c0 c1))) (nvr Bd.returns) (fun fs hr => retI X22 hx Bd.returns (hb hby d25_13) hr) ?_ (by decide) (by decide)
  rw [e22]
  exact ⟨rfl, N22, rfl⟩
theorem ef_iof_u_2 (m : MethodId) (t1 : Addr) : entryFrame m #[(.ref t1), (.int (65533 : Int32)), (ii 0), (.int (2 : Int32))] 4 = mkF m 0 #[vr t1, vi 65533, vi 0, vi 2] [] := rfl
def Q_iof_u_2 (Z : State) (t1 : Addr) (k1 : ClassId) (sf : Value) (c0 c1 : Int32) (h0 : Heap) (n0 : Nat) (v : Option Value) (h : Heap) (L : List Loc) : Prop := v = some (.int (own_i2 c0 c1)) ∧ Fr n0 L ∧ h = h0
theorem iof_u_2 (l : Launch) (Z : State) (a0 : Array Value) (hw : HW Z a0) (ws : List Jvm.Cond) (t1 : Addr) (k1 : ClassId) (sf : Value) (c0 c1 : Int32) (h0 : Heap) (n0 : Nat) (Z0 : n0 ≤ h0.size) (S_AD : AD Z h0) (S_HI : HI Z h0) (S_LO : LO Z h0) (hsf : sf.isRef = true) (S_SF : Sta Z h0 "jdk/internal/util/Preconditions" "SIOOBE_FORMATTER" "Ljava/util/function/BiFunction;" sf) (hr0 : 0 ≤ c0.toInt ∧ c0.toInt ≤ 65535) (hr1 : 0 ≤ c1.toInt ∧ c1.toInt ≤ 65535) (V_t1 : Arv Z h0 t1 k1 .byte (4 : Int32) (wb2 c0 c1) (ii 0)) :
    own_M l yy24 jdk_52_method_40_code 4 (some .int) ws rr44 Z #[(.ref t1), (.int (65533 : Int32)), (ii 0), (.int (2 : Int32))] h0 (Q_iof_u_2 Z t1 k1 sf c0 c1 h0 n0) := by
  refine own_bd (plainFor_of_name pn_22) fun p e s m below meth c s₁ Bd hx hby hml hown hnm hlk hZ X0 e0 => ?_
  rw [ef_iof_u_2 m t1]
  refine bN s₁ (mkF m 1 #[vr t1, vi 65533, vi 0, vi 2] [(ii 0)]) (fun _ k => XS.iloadN X0.here hx rfl (hb hby d22_0) rfl k) ?_
  refine bN s₁ (mkF m 2 #[vr t1, vi 65533, vi 0, vi 2] [(ii 0), (ii 0)]) (fun _ k => XS.iconst X0.here hx rfl (hb hby d22_1) k) ?_
  obtain ⟨_, _, ⟨T21, L21, k21, n21⟩, -, X21, ⟨Lc21, hQ21, l21, y21, z21⟩, st21⟩ := Jvm.LawKit.callS X0 hx (y := yy15) hown (mvT hZ (hw _ (mo 102 rfl))) (mvT hZ (hw _ (mo 103 rfl))) (mvT hZ (hw _ (mo 104 rfl))) (mvT hZ (hw _ (mo 105 rfl))) (by decide) (backOf (W := 0) (max00 l Z a0 hw []   h0 n0 Z0 ) hZ (hw _ (mo 105 rfl)) (hw _ (mo 104 rfl)) (by decide) (by decide)) (g := (mkF m 2 #[vr t1, vi 65533, vi 0, vi 2] [(ii 0), (ii 0)])) rfl (by rw [hml]; rfl) (argsL := [(ii 0), (ii 0)]) (rest := []) (lenOf pd_14 rfl) rfl (Nat.le_of_eq rfl) (hb hby d22_2) (fun _ _ => ⟨rfl, e0, (by decide : 0 ≤ _), (by decide : 0 ≤ _)⟩)
  dsimp only [Pt.U, Pt.locs, Pt.cells, Pt.slots] at X21 l21 y21 z21 st21 hQ21
  subst l21 y21 z21
  obtain ⟨rfl, N21q, e21⟩ := hQ21
  have N21 := Fr.app (Fr.nil n0) N21q
  refine bN T21 (mkF m 5 #[vr t1, vi 65533, vi 0, vi 2] [(ii 0)]) (fun _ k => st21 _ k) ?_
  refine bN T21 (mkF m 6 #[vr t1, vi 65533, vi 0, vi 2] []) (fun _ k => XS.istoreN X21.here hx rfl (hb hby d22_5) rfl rfl k) ?_
  refine bN T21 (mkF m 7 #[vr t1, vi 65533, vi 0, vi 2] [(.int (2 : Int32))]) (fun _ k => XS.iloadN X21.here hx rfl (hb hby d22_6) rfl k) ?_
  refine bN T21 (mkF m 8 #[vr t1, vi 65533, vi 0, vi 2] [(.ref t1), (.int (2 : Int32))]) (fun _ k => XS.aloadN X21.here hx rfl (hb hby d22_7) rfl rfl k) ?_
  obtain ⟨cl22, Ar22, q22, S22, N_22, H22, G22⟩ := id V_t1
  refine bN T21 (mkF m 9 #[vr t1, vi 65533, vi 0, vi 2] [(.int (4 : Int32)), (.int (2 : Int32))]) (fun _ k => X21.arraylength hx (by rw [e21]; exact Ar22.1) (State.isArrayOf_alike hZ.alike Ar22.2.1) (g := (mkF m 8 #[vr t1, vi 65533, vi 0, vi 2] [(.ref t1), (.int (2 : Int32))])) rfl rfl (hb hby d22_8) _ (by rw [len_of S22 N_22]; exact k)) ?_
  refine bN T21 (mkF m 10 #[vr t1, vi 65533, vi 0, vi 2] [(.int (1 : Int32)), (.int (4 : Int32)), (.int (2 : Int32))]) (fun _ k => XS.iconst X21.here hx rfl (hb hby d22_9) k) ?_
  refine bN T21 (mkF m 11 #[vr t1, vi 65533, vi 0, vi 2] [(.int (2 : Int32)), (.int (2 : Int32))]) (fun _ k => XS.ishr X21.here hx rfl (hb hby d22_10) rfl k) ?_
  obtain ⟨_, _, ⟨T23, L23, k23, n23⟩, -, X23, ⟨Lc23, hQ23, l23, y23, z23⟩, st23⟩ := Jvm.LawKit.callS X21 hx (y := yy17) hown (mvT hZ (hw _ (mo 106 rfl))) (mvT hZ (hw _ (mo 107 rfl))) (mvT hZ (hw _ (mo 104 rfl))) (mvT hZ (hw _ (mo 108 rfl))) (by decide) (backOf (W := 0) (min_u_2 l Z a0 hw []   h0 n0 Z0 ) hZ (hw _ (mo 108 rfl)) (hw _ (mo 104 rfl)) (by decide) (by decide)) (g := (mkF m 11 #[vr t1, vi 65533, vi 0, vi 2] [(.int (2 : Int32)), (.int (2 : Int32))])) rfl (by rw [hml]; rfl) (argsL := [(.int (2 : Int32)), (.int (2 : Int32))]) (rest := []) (lenOf pd_14 rfl) rfl (Nat.le_of_eq rfl) (hb hby d22_11) (fun _ _ => ⟨rfl, e21, (by decide : 0 ≤ _), (by decide : 0 ≤ _)⟩)
  dsimp only [Pt.U, Pt.locs, Pt.cells, Pt.slots] at X23 l23 y23 z23 st23 hQ23
  subst l23 y23 z23
  obtain ⟨rfl, N23q, e23⟩ := hQ23
  have N23 := Fr.app N21 N23q
  refine bN T23 (mkF m 14 #[vr t1, vi 65533, vi 0, vi 2] [(.int (2 : Int32))]) (fun _ k => st23 _ k) ?_
  refine bN T23 (mkF m 15 #[vr t1, vi 65533, vi 0, vi 2] []) (fun _ k => XS.istoreN X23.here hx rfl (hb hby d22_14) rfl rfl k) ?_
  refine bN T23 (mkF m 16 #[vr t1, vi 65533, vi 0, vi 2] [(ii 0)]) (fun _ k => XS.iloadN X23.here hx rfl (hb hby d22_15) rfl k) ?_
  refine bN T23 (mkF m 17 #[vr t1, vi 65533, vi 0, vi 2] [(.int (2 : Int32)), (ii 0)]) (fun _ k => XS.iloadN X23.here hx rfl (hb hby d22_16) rfl k) ?_
  refine bN T23 (mkF m 22 #[vr t1, vi 65533, vi 0, vi 2] []) (fun _ k => XS.icmpYes X23.here hx rfl (pc0 := 17) (pc' := 22) rfl (hb hby d22_17) rfl (tlt (by decide)).1 (by decide) (by decide) k) ?_
  refine bN T23 (mkF m 23 #[vr t1, vi 65533, vi 0, vi 2] [(.int (65533 : Int32))]) (fun _ k => XS.iloadN X23.here hx rfl (hb hby d22_22) rfl k) ?_
  refine bN T23 (mkF m 25 #[vr t1, vi 65533, vi 0, vi 2] [(.int (65536 : Int32)), (.int (65533 : Int32))]) (fun _ k => ldcI X23 hx hown (mvT hZ (hw _ (mo 109 rfl))) rfl (hb hby d22_23) k) ?_
  refine bN T23 (mkF m 28 #[vr t1, vi 65533, vi 0, vi 2] []) (fun _ k => XS.icmpNo X23.here hx rfl (hb hby d22_25) rfl (tlt (by decide)).2.1 k) ?_
  refine bN T23 (mkF m 29 #[vr t1, vi 65533, vi 0, vi 2] [(.ref t1)]) (fun _ k => XS.aloadN X23.here hx rfl (hb hby d22_28) rfl rfl k) ?_
  refine bN T23 (mkF m 30 #[vr t1, vi 65533, vi 0, vi 2] [(.int (65533 : Int32)), (.ref t1)]) (fun _ k => XS.iloadN X23.here hx rfl (hb hby d22_29) rfl k) ?_
  refine bN T23 (mkF m 31 #[vr t1, vi 65533, vi 0, vi 2] [(ii 0), (.int (65533 : Int32)), (.ref t1)]) (fun _ k => XS.iloadN X23.here hx rfl (hb hby d22_30) rfl k) ?_
  refine bN T23 (mkF m 32 #[vr t1, vi 65533, vi 0, vi 2] [(.int (2 : Int32)), (ii 0), (.int (65533 : Int32)), (.ref t1)]) (fun _ k => XS.iloadN X23.here hx rfl (hb hby d22_31) rfl k) ?_
  obtain ⟨_, _, ⟨T24, L24, k24, n24⟩, -, X24, ⟨Lc24, hQ24, l24, y24, z24⟩, st24⟩ := Jvm.LawKit.callS X23 hx (y := yy23) hown (mvT hZ (hw _ (mo 110 rfl))) (mvT hZ (hw _ (mo 111 rfl))) (mvT hZ (hw _ (mo 71 rfl))) (mvT hZ (hw _ (mo 112 rfl))) (by decide) (backOf (W := 0) (ich_u_2 l Z a0 hw [] t1 k1 sf c0 c1 h0 n0 Z0 S_AD S_HI S_LO hsf S_SF hr0 hr1 V_t1) hZ (hw _ (mo 112 rfl)) (hw _ (mo 71 rfl)) (by decide) (by decide)) (g := (mkF m 32 #[vr t1, vi 65533, vi 0, vi 2] [(.int (2 : Int32)), (ii 0), (.int (65533 : Int32)), (.ref t1)])) rfl (by rw [hml]; rfl) (argsL := [(.ref t1), (.int (65533 : Int32)), (ii 0), (.int (2 : Int32))]) (rest := []) (lenOf pd_13 rfl) rfl (Nat.le_of_eq rfl) (hb hby d22_32) (fun _ _ => ⟨rfl, e23, (by decide : 0 ≤ _), (by decide : 0 ≤ _)⟩)
  dsimp only [Pt.U, Pt.locs, Pt.cells, Pt.slots] at X24 l24 y24 z24 st24 hQ24
  subst l24 y24 z24
  obtain ⟨rfl, N24q, e24⟩ := hQ24
  have N24 := Fr.app N23 N24q
  refine bN T24 (mkF m 35 #[vr t1, vi 65533, vi 0, vi 2] [(.int (own_i2 c0 c1))]) (fun _ k => st24 _ k) ?_
  refine own_ret X24 hlk (v := some (.int (own_i2 c0 c1))) (nvr Bd.returns) (fun fs hr => retI X24 hx Bd.returns (hb hby d22_35) hr) ?_ (by decide) (by decide)
  rw [e24]
  exact ⟨rfl, N24, rfl⟩
theorem ef_ix2_u_2 (m : MethodId) (a : Addr) : entryFrame m #[(.ref a), (.int (65533 : Int32)), (ii 0)] 3 = mkF m 0 #[vr a, vi 65533, vi 0] [] := rfl
def Q_ix2_u_2 (Z : State) (a t1 : Addr) (k1 : ClassId) (cs c0 c1 : Int32) (sf : Value) (h0 : Heap) (n0 : Nat) (v : Option Value) (h : Heap) (L : List Loc) : Prop := v = some (.int (own_i2 c0 c1)) ∧ Fr n0 L ∧ h = h0
theorem ix2_u_2 (l : Launch) (Z : State) (a0 : Array Value) (hw : HW Z a0) (ws : List Jvm.Cond) (a t1 : Addr) (k1 : ClassId) (cs c0 c1 : Int32) (sf : Value) (h0 : Heap) (n0 : Nat) (Z0 : n0 ≤ h0.size) (E_a : Exa Z h0 a "java/lang/String") (F_coder_a : Fld Z h0 a "java/lang/String" "coder" "B" (.int (1 : Int32))) (F_value_a : Fld Z h0 a "java/lang/String" "value" "[B" (.ref t1)) (V_t1 : Arv Z h0 t1 k1 .byte (4 : Int32) (wb2 c0 c1) (ii 0)) (S_CS : Sta Z h0 "java/lang/String" "COMPACT_STRINGS" "Z" (.int cs)) (hcs : ¬ cs = (0 : Int32)) (S_AD : AD Z h0) (S_HI : HI Z h0) (S_LO : LO Z h0) (hsf : sf.isRef = true) (S_SF : Sta Z h0 "jdk/internal/util/Preconditions" "SIOOBE_FORMATTER" "Ljava/util/function/BiFunction;" sf) (hr0 : 0 ≤ c0.toInt ∧ c0.toInt ≤ 65535) (hr1 : 0 ≤ c1.toInt ∧ c1.toInt ≤ 65535) :
    own_M l yy25 jdk_42_method_80_code 3 (some .int) ws rr45 Z #[(.ref a), (.int (65533 : Int32)), (ii 0)] h0 (Q_ix2_u_2 Z a t1 k1 cs c0 c1 sf h0 n0) := by
  refine own_bd (plainFor_of_name pn_8) fun p e s m below meth c s₁ Bd hx hby hml hown hnm hlk hZ X0 e0 => ?_
  rw [ef_ix2_u_2 m a]
  refine bN s₁ (mkF m 1 #[vr a, vi 65533, vi 0] [(.ref a)]) (fun _ k => XS.aloadN X0.here hx rfl (hb hby d8_0) rfl rfl k) ?_
  obtain ⟨cq21, kq21, q21a, q21b, q21c⟩ := isOf hZ e0 E_a
  obtain ⟨_, _, ⟨T21, L21, k21, n21⟩, -, X21, ⟨Lc21, hQ21, l21, y21, z21⟩, st21⟩ := X0.virtualBack hx (y := yy12) (z := yy12) hown (mvT hZ (hw _ (mo 46 rfl))) (mvT hZ (hw _ (mo 47 rfl))) (notFace_of_selects (args := #[]) (mvT hZ (hw _ (mo 49 rfl)))) (mvT hZ (hw _ (mo 49 rfl))) (mvT hZ (hw _ (mo 48 rfl))) (by decide) (backOf (W := 0) (isl_1 l Z a0 hw [] a cs h0 n0 Z0 F_coder_a S_CS hcs) hZ (hw _ (mo 50 rfl)) (hw _ (mo 12 rfl)) (by decide) (by decide)) q21a q21c (g := (mkF m 1 #[vr a, vi 65533, vi 0] [(.ref a)])) rfl (by rw [hml]; rfl) (Steps.refl _) (argsL := []) (rest := []) (lenOf pd_15 rfl) rfl (Nat.le_of_eq rfl) (hb hby d8_1) (fun _ _ => ⟨rfl, e0, (by decide : 0 ≤ _), (by decide : 0 ≤ _)⟩)
  dsimp only [Pt.U, Pt.locs, Pt.cells, Pt.slots] at X21 l21 y21 z21 st21 hQ21
  subst l21 y21 z21
  obtain ⟨rfl, N21q, e21⟩ := hQ21
  have N21 := Fr.app (Fr.nil n0) N21q
  refine bN T21 (mkF m 4 #[vr a, vi 65533, vi 0] [(ii 0)]) (fun _ k => st21.trans k) ?_
  refine bN T21 (mkF m 23 #[vr a, vi 65533, vi 0] []) (fun _ k => XS.ifYes X21.here hx rfl (pc0 := 4) (pc' := 23) rfl (hb hby d8_4) rfl ((if0 _ _).trans (teq (by decide)).1) (by decide) (by decide) k) ?_
  refine bN T21 (mkF m 24 #[vr a, vi 65533, vi 0] [(.ref a)]) (fun _ k => XS.aloadN X21.here hx rfl (hb hby d8_23) rfl rfl k) ?_
  obtain ⟨T22, X22, e22, st22⟩ := getF X21 hx hZ hown (host := "") (Or.inl (hw _ (mo 29 rfl))) Via.refl e21 F_value_a (g := (mkF m 24 #[vr a, vi 65533, vi 0] [(.ref a)])) rfl rfl (hb hby d8_24)
  refine bN T22 (mkF m 27 #[vr a, vi 65533, vi 0] [(.ref t1)]) (fun _ k => st22 _ k) ?_
  refine bN T22 (mkF m 28 #[vr a, vi 65533, vi 0] [(.int (65533 : Int32)), (.ref t1)]) (fun _ k => XS.iloadN X22.here hx rfl (hb hby d8_27) rfl k) ?_
  refine bN T22 (mkF m 29 #[vr a, vi 65533, vi 0] [(ii 0), (.int (65533 : Int32)), (.ref t1)]) (fun _ k => XS.iloadN X22.here hx rfl (hb hby d8_28) rfl k) ?_
  refine bN T22 (mkF m 30 #[vr a, vi 65533, vi 0] [(.ref a), (ii 0), (.int (65533 : Int32)), (.ref t1)]) (fun _ k => XS.aloadN X22.here hx rfl (hb hby d8_29) rfl rfl k) ?_
  obtain ⟨cq23, kq23, q23a, q23b, q23c⟩ := isOf hZ e22 E_a
  obtain ⟨_, _, ⟨T23, L23, k23, n23⟩, -, X23, ⟨Lc23, hQ23, l23, y23, z23⟩, st23⟩ := X22.virtualBack hx (y := yy16) (z := yy16) hown (mvT hZ (hw _ (mo 52 rfl))) (mvT hZ (hw _ (mo 53 rfl))) (notFace_of_selects (args := #[]) (mvT hZ (hw _ (mo 55 rfl)))) (mvT hZ (hw _ (mo 55 rfl))) (mvT hZ (hw _ (mo 54 rfl))) (by decide) (backOf (W := 3) (len_u_2 l Z a0 hw [] a t1 k1 cs c0 c1 h0 n0 Z0 E_a F_coder_a F_value_a V_t1 S_CS hcs) hZ (hw _ (mo 56 rfl)) (hw _ (mo 12 rfl)) (by decide) (by decide)) q23a q23c (g := (mkF m 30 #[vr a, vi 65533, vi 0] [(.ref a), (ii 0), (.int (65533 : Int32)), (.ref t1)])) rfl (by rw [hml]; rfl) (Steps.refl _) (argsL := []) (rest := [(ii 0), (.int (65533 : Int32)), (.ref t1)]) (lenOf pd_16 rfl) rfl (Nat.le_of_eq rfl) (hb hby d8_30) (fun _ _ => ⟨rfl, e22, (by decide : 0 ≤ _), (by decide : 0 ≤ _)⟩)
  dsimp only [Pt.U, Pt.locs, Pt.cells, Pt.slots] at X23 l23 y23 z23 st23 hQ23
  subst l23 y23 z23
  obtain ⟨rfl, N23q, e23⟩ := hQ23
  have N23 := Fr.app N21 N23q
  refine bN T23 (mkF m 33 #[vr a, vi 65533, vi 0] [(.int (2 : Int32)), (ii 0), (.int (65533 : Int32)), (.ref t1)]) (fun _ k => st23.trans k) ?_
  obtain ⟨_, _, ⟨T24, L24, k24, n24⟩, -, X24, ⟨Lc24, hQ24, l24, y24, z24⟩, st24⟩ := Jvm.LawKit.callS X23 hx (y := yy24) hown (mvT hZ (hw _ (mo 99 rfl))) (mvT hZ (hw _ (mo 100 rfl))) (mvT hZ (hw _ (mo 71 rfl))) (mvT hZ (hw _ (mo 101 rfl))) (by decide) (backOf (W := 0) (iof_u_2 l Z a0 hw [] t1 k1 sf c0 c1 h0 n0 Z0 S_AD S_HI S_LO hsf S_SF hr0 hr1 V_t1) hZ (hw _ (mo 101 rfl)) (hw _ (mo 71 rfl)) (by decide) (by decide)) (g := (mkF m 33 #[vr a, vi 65533, vi 0] [(.int (2 : Int32)), (ii 0), (.int (65533 : Int32)), (.ref t1)])) rfl (by rw [hml]; rfl) (argsL := [(.ref t1), (.int (65533 : Int32)), (ii 0), (.int (2 : Int32))]) (rest := []) (lenOf pd_13 rfl) rfl (Nat.le_of_eq rfl) (hb hby d8_33) (fun _ _ => ⟨rfl, e23, (by decide : 0 ≤ _), (by decide : 0 ≤ _)⟩)
  dsimp only [Pt.U, Pt.locs, Pt.cells, Pt.slots] at X24 l24 y24 z24 st24 hQ24
  subst l24 y24 z24
  obtain ⟨rfl, N24q, e24⟩ := hQ24
  have N24 := Fr.app N23 N24q
  refine bN T24 (mkF m 36 #[vr a, vi 65533, vi 0] [(.int (own_i2 c0 c1))]) (fun _ k => st24 _ k) ?_
  refine own_ret X24 hlk (v := some (.int (own_i2 c0 c1))) (nvr Bd.returns) (fun fs hr => retI X24 hx Bd.returns (hb hby d8_36) hr) ?_ (by decide) (by decide)
  rw [e24]
  exact ⟨rfl, N24, rfl⟩
theorem ef_ix1_u_2 (m : MethodId) (a : Addr) : entryFrame m #[(.ref a), (.int (65533 : Int32))] 2 = mkF m 0 #[vr a, vi 65533] [] := rfl
def Q_ix1_u_2 (Z : State) (a t1 : Addr) (k1 : ClassId) (cs c0 c1 : Int32) (sf : Value) (h0 : Heap) (n0 : Nat) (v : Option Value) (h : Heap) (L : List Loc) : Prop := v = some (.int (own_i2 c0 c1)) ∧ Fr n0 L ∧ h = h0
theorem ix1_u_2 (l : Launch) (Z : State) (a0 : Array Value) (hw : HW Z a0) (ws : List Jvm.Cond) (a t1 : Addr) (k1 : ClassId) (cs c0 c1 : Int32) (sf : Value) (h0 : Heap) (n0 : Nat) (Z0 : n0 ≤ h0.size) (E_a : Exa Z h0 a "java/lang/String") (F_coder_a : Fld Z h0 a "java/lang/String" "coder" "B" (.int (1 : Int32))) (F_value_a : Fld Z h0 a "java/lang/String" "value" "[B" (.ref t1)) (V_t1 : Arv Z h0 t1 k1 .byte (4 : Int32) (wb2 c0 c1) (ii 0)) (S_CS : Sta Z h0 "java/lang/String" "COMPACT_STRINGS" "Z" (.int cs)) (hcs : ¬ cs = (0 : Int32)) (S_AD : AD Z h0) (S_HI : HI Z h0) (S_LO : LO Z h0) (hsf : sf.isRef = true) (S_SF : Sta Z h0 "jdk/internal/util/Preconditions" "SIOOBE_FORMATTER" "Ljava/util/function/BiFunction;" sf) (hr0 : 0 ≤ c0.toInt ∧ c0.toInt ≤ 65535) (hr1 : 0 ≤ c1.toInt ∧ c1.toInt ≤ 65535) :
    own_M l yy26 jdk_42_method_79_code 2 (some .int) ws rr46 Z #[(.ref a), (.int (65533 : Int32))] h0 (Q_ix1_u_2 Z a t1 k1 cs c0 c1 sf h0 n0) := by
  refine own_bd (plainFor_of_name pn_7) fun p e s m below meth c s₁ Bd hx hby hml hown hnm hlk hZ X0 e0 => ?_
  rw [ef_ix1_u_2 m a]
  refine bN s₁ (mkF m 1 #[vr a, vi 65533] [(.ref a)]) (fun _ k => XS.aloadN X0.here hx rfl (hb hby d7_0) rfl rfl k) ?_
  refine bN s₁ (mkF m 2 #[vr a, vi 65533] [(.int (65533 : Int32)), (.ref a)]) (fun _ k => XS.iloadN X0.here hx rfl (hb hby d7_1) rfl k) ?_
  refine bN s₁ (mkF m 3 #[vr a, vi 65533] [(ii 0), (.int (65533 : Int32)), (.ref a)]) (fun _ k => XS.iconst X0.here hx rfl (hb hby d7_2) k) ?_
  obtain ⟨cq21, kq21, q21a, q21b, q21c⟩ := isOf hZ e0 E_a
  obtain ⟨_, _, ⟨T21, L21, k21, n21⟩, -, X21, ⟨Lc21, hQ21, l21, y21, z21⟩, st21⟩ := X0.virtualBack hx (y := yy25) (z := yy25) hown (mvT hZ (hw _ (mo 41 rfl))) (mvT hZ (hw _ (mo 42 rfl))) (notFace_of_selects (args := #[]) (mvT hZ (hw _ (mo 44 rfl)))) (mvT hZ (hw _ (mo 44 rfl))) (mvT hZ (hw _ (mo 43 rfl))) (by decide) (backOf (W := 0) (ix2_u_2 l Z a0 hw [] a t1 k1 cs c0 c1 sf h0 n0 Z0 E_a F_coder_a F_value_a V_t1 S_CS hcs S_AD S_HI S_LO hsf S_SF hr0 hr1) hZ (hw _ (mo 45 rfl)) (hw _ (mo 12 rfl)) (by decide) (by decide)) q21a q21c (g := (mkF m 3 #[vr a, vi 65533] [(ii 0), (.int (65533 : Int32)), (.ref a)])) rfl (by rw [hml]; rfl) (Steps.refl _) (argsL := [(.int (65533 : Int32)), (ii 0)]) (rest := []) (lenOf pd_14 rfl) rfl (Nat.le_of_eq rfl) (hb hby d7_3) (fun _ _ => ⟨rfl, e0, (by decide : 0 ≤ _), (by decide : 0 ≤ _)⟩)
  dsimp only [Pt.U, Pt.locs, Pt.cells, Pt.slots] at X21 l21 y21 z21 st21 hQ21
  subst l21 y21 z21
  obtain ⟨rfl, N21q, e21⟩ := hQ21
  have N21 := Fr.app (Fr.nil n0) N21q
  refine bN T21 (mkF m 6 #[vr a, vi 65533] [(.int (own_i2 c0 c1))]) (fun _ k => st21.trans k) ?_
  refine own_ret X21 hlk (v := some (.int (own_i2 c0 c1))) (nvr Bd.returns) (fun fs hr => retI X21 hx Bd.returns (hb hby d7_6) hr) ?_ (by decide) (by decide)
  rw [e21]
  exact ⟨rfl, N21, rfl⟩
theorem ef_hub_u_2 (m : MethodId) (a : Addr) : entryFrame m #[(.ref a)] 1 = mkF m 0 #[vr a] [] := rfl
def Q_hub_u_2 (Z : State) (a t1 : Addr) (k1 : ClassId) (cs c0 c1 : Int32) (sf : Value) (h0 : Heap) (n0 : Nat) (v : Option Value) (h : Heap) (L : List Loc) : Prop := v = some (.int (if (own_i2 c0 c1) < (0 : Int32) then (0 : Int32) else (1 : Int32))) ∧ Fr n0 L ∧ h = h0
theorem hub_u_2 (l : Launch) (Z : State) (a0 : Array Value) (hw : HW Z a0) (ws : List Jvm.Cond) (a t1 : Addr) (k1 : ClassId) (cs c0 c1 : Int32) (sf : Value) (h0 : Heap) (n0 : Nat) (Z0 : n0 ≤ h0.size) (E_a : Exa Z h0 a "java/lang/String") (F_coder_a : Fld Z h0 a "java/lang/String" "coder" "B" (.int (1 : Int32))) (F_value_a : Fld Z h0 a "java/lang/String" "value" "[B" (.ref t1)) (V_t1 : Arv Z h0 t1 k1 .byte (4 : Int32) (wb2 c0 c1) (ii 0)) (S_CS : Sta Z h0 "java/lang/String" "COMPACT_STRINGS" "Z" (.int cs)) (hcs : ¬ cs = (0 : Int32)) (S_AD : AD Z h0) (S_HI : HI Z h0) (S_LO : LO Z h0) (hsf : sf.isRef = true) (S_SF : Sta Z h0 "jdk/internal/util/Preconditions" "SIOOBE_FORMATTER" "Ljava/util/function/BiFunction;" sf) (hr0 : 0 ≤ c0.toInt ∧ c0.toInt ≤ 65535) (hr1 : 0 ≤ c1.toInt ∧ c1.toInt ≤ 65535) :
    own_M l yy27 prog_8_method_2_code 1 (some .boolean) ws rr47 Z #[(.ref a)] h0 (Q_hub_u_2 Z a t1 k1 cs c0 c1 sf h0 n0) := by
  refine own_bd (plainFor_of_name pn_6) fun p e s m below meth c s₁ Bd hx hby hml hown hnm hlk hZ X0 e0 => ?_
  rw [ef_hub_u_2 m a]
  refine bN s₁ (mkF m 1 #[vr a] [(.ref a)]) (fun _ k => XS.aloadN X0.here hx rfl (hb hby d6_0) rfl rfl k) ?_
  refine bN s₁ (mkF m 3 #[vr a] [(.int (65533 : Int32)), (.ref a)]) (fun _ k => ldcI X0 hx hown (mvT hZ (hw _ (mo 35 rfl))) rfl (hb hby d6_1) k) ?_
  obtain ⟨cq21, kq21, q21a, q21b, q21c⟩ := isOf hZ e0 E_a
  obtain ⟨_, _, ⟨T21, L21, k21, n21⟩, -, X21, ⟨Lc21, hQ21, l21, y21, z21⟩, st21⟩ := X0.virtualBack hx (y := yy26) (z := yy26) hown (mvT hZ (hw _ (mo 36 rfl))) (mvT hZ (hw _ (mo 37 rfl))) (notFace_of_selects (args := #[]) (mvT hZ (hw _ (mo 39 rfl)))) (mvT hZ (hw _ (mo 39 rfl))) (mvT hZ (hw _ (mo 38 rfl))) (by decide) (backOf (W := 0) (ix1_u_2 l Z a0 hw [] a t1 k1 cs c0 c1 sf h0 n0 Z0 E_a F_coder_a F_value_a V_t1 S_CS hcs S_AD S_HI S_LO hsf S_SF hr0 hr1) hZ (hw _ (mo 40 rfl)) (hw _ (mo 12 rfl)) (by decide) (by decide)) q21a q21c (g := (mkF m 3 #[vr a] [(.int (65533 : Int32)), (.ref a)])) rfl (by rw [hml]; rfl) (Steps.refl _) (argsL := [(.int (65533 : Int32))]) (rest := []) (lenOf pd_4 rfl) rfl (Nat.le_of_eq rfl) (hb hby d6_3) (fun _ _ => ⟨rfl, e0, (by decide : 0 ≤ _), (by decide : 0 ≤ _)⟩)
  dsimp only [Pt.U, Pt.locs, Pt.cells, Pt.slots] at X21 l21 y21 z21 st21 hQ21
  subst l21 y21 z21
  obtain ⟨rfl, N21q, e21⟩ := hQ21
  have N21 := Fr.app (Fr.nil n0) N21q
  refine bN T21 (mkF m 6 #[vr a] [(.int (own_i2 c0 c1))]) (fun _ k => st21.trans k) ?_
  by_cases hc6_22 : (own_i2 c0 c1) < (0 : Int32)
  · skip
    refine bN T21 (mkF m 13 #[vr a] []) (fun _ k => XS.ifYes X21.here hx rfl (pc0 := 6) (pc' := 13) rfl (hb hby d6_6) rfl ((if0 _ _).trans (tlt hc6_22).1) (by decide) (by decide) k) ?_
    refine bN T21 (mkF m 14 #[vr a] [(ii 0)]) (fun _ k => XS.iconst X21.here hx rfl (hb hby d6_13) k) ?_
    refine own_ret X21 hlk (v := some (ii 0)) (nvr Bd.returns) (fun fs hr => retN X21 hx (t := .boolean) Bd.returns (by simp) (hb hby d6_14) hr) ?_ (by decide) (by decide)
    rw [e21]
    exact ⟨congrArg (fun z => some (Value.int z)) (if_pos hc6_22).symm, N21, rfl⟩
  · skip
    refine bN T21 (mkF m 9 #[vr a] []) (fun _ k => XS.ifNo X21.here hx rfl (hb hby d6_6) rfl ((if0 _ _).trans (flt hc6_22).1) k) ?_
    refine bN T21 (mkF m 10 #[vr a] [(.int (1 : Int32))]) (fun _ k => XS.iconst X21.here hx rfl (hb hby d6_9) k) ?_
    refine bN T21 (mkF m 14 #[vr a] [(.int (1 : Int32))]) (fun _ k => XS.goto X21.here hx rfl (pc0 := 10) (pc' := 14) rfl (hb hby d6_10) (by decide) (by decide) k) ?_
    refine own_ret X21 hlk (v := some (.int (1 : Int32))) (nvr Bd.returns) (fun fs hr => retN X21 hx (t := .boolean) Bd.returns (by simp) (hb hby d6_14) hr) ?_ (by decide) (by decide)
    rw [e21]
    exact ⟨congrArg (fun z => some (Value.int z)) (if_neg hc6_22).symm, N21, rfl⟩
theorem ef_len_u_3 (m : MethodId) (a : Addr) : entryFrame m #[(.ref a)] 1 = mkF m 0 #[vr a] [] := rfl
def Q_len_u_3 (Z : State) (a t1 : Addr) (k1 : ClassId) (cs c0 : Int32) (c1 c2 : Int32) (h0 : Heap) (n0 : Nat) (v : Option Value) (h : Heap) (L : List Loc) : Prop := v = some (.int (3 : Int32)) ∧ Fr n0 L ∧ h = h0
theorem len_u_3 (l : Launch) (Z : State) (a0 : Array Value) (hw : HW Z a0) (ws : List Jvm.Cond) (a t1 : Addr) (k1 : ClassId) (cs c0 : Int32) (c1 c2 : Int32) (h0 : Heap) (n0 : Nat) (Z0 : n0 ≤ h0.size) (E_a : Exa Z h0 a "java/lang/String") (F_coder_a : Fld Z h0 a "java/lang/String" "coder" "B" (.int (1 : Int32))) (F_value_a : Fld Z h0 a "java/lang/String" "value" "[B" (.ref t1)) (V_t1 : Arv Z h0 t1 k1 .byte (6 : Int32) (wb3 c0 c1 c2) (ii 0)) (S_CS : Sta Z h0 "java/lang/String" "COMPACT_STRINGS" "Z" (.int cs)) (hcs : ¬ cs = (0 : Int32)) :
    own_M l yy16 jdk_42_method_54_code 1 (some .int) ws rr40 Z #[(.ref a)] h0 (Q_len_u_3 Z a t1 k1 cs c0 c1 c2 h0 n0) := by
  refine own_bd (plainFor_of_name pn_10) fun p e s m below meth c s₁ Bd hx hby hml hown hnm hlk hZ X0 e0 => ?_
  rw [ef_len_u_3 m a]
  refine bN s₁ (mkF m 1 #[vr a] [(.ref a)]) (fun _ k => XS.aloadN X0.here hx rfl (hb hby d10_0) rfl rfl k) ?_
  obtain ⟨T21, X21, e21, st21⟩ := getF X0 hx hZ hown (host := "") (Or.inl (hw _ (mo 29 rfl))) Via.refl e0 F_value_a (g := (mkF m 1 #[vr a] [(.ref a)])) rfl rfl (hb hby d10_1)
  refine bN T21 (mkF m 4 #[vr a] [(.ref t1)]) (fun _ k => st21 _ k) ?_
  obtain ⟨cl22, Ar22, q22, S22, N_22, H22, G22⟩ := id V_t1
  refine bN T21 (mkF m 5 #[vr a] [(.int (6 : Int32))]) (fun _ k => X21.arraylength hx (by rw [e21]; exact Ar22.1) (State.isArrayOf_alike hZ.alike Ar22.2.1) (g := (mkF m 4 #[vr a] [(.ref t1)])) rfl rfl (hb hby d10_4) _ (by rw [len_of S22 N_22]; exact k)) ?_
  refine bN T21 (mkF m 6 #[vr a] [(.ref a), (.int (6 : Int32))]) (fun _ k => XS.aloadN X21.here hx rfl (hb hby d10_5) rfl rfl k) ?_
  obtain ⟨cq23, kq23, q23a, q23b, q23c⟩ := isOf hZ e21 E_a
  obtain ⟨_, _, ⟨T23, L23, k23, n23⟩, -, X23, ⟨Lc23, hQ23, l23, y23, z23⟩, st23⟩ := X21.virtualBack hx (y := yy13) (z := yy13) hown (mvT hZ (hw _ (mo 57 rfl))) (mvT hZ (hw _ (mo 58 rfl))) (notFace_of_selects (args := #[]) (mvT hZ (hw _ (mo 60 rfl)))) (mvT hZ (hw _ (mo 60 rfl))) (mvT hZ (hw _ (mo 59 rfl))) (by decide) (backOf (W := 1) (cdr_1 l Z a0 hw [] a cs h0 n0 Z0 F_coder_a S_CS hcs) hZ (hw _ (mo 61 rfl)) (hw _ (mo 12 rfl)) (by decide) (by decide)) q23a q23c (g := (mkF m 6 #[vr a] [(.ref a), (.int (6 : Int32))])) rfl (by rw [hml]; rfl) (Steps.refl _) (argsL := []) (rest := [(.int (6 : Int32))]) (lenOf pd_8 rfl) rfl (Nat.le_of_eq rfl) (hb hby d10_6) (fun _ _ => ⟨rfl, e21, (by decide : 0 ≤ _), (by decide : 0 ≤ _)⟩)
  dsimp only [Pt.U, Pt.locs, Pt.cells, Pt.slots] at X23 l23 y23 z23 st23 hQ23
  subst l23 y23 z23
  obtain ⟨rfl, N23q, e23⟩ := hQ23
  have N23 := Fr.app (Fr.nil n0) N23q
  refine bN T23 (mkF m 9 #[vr a] [(.int (1 : Int32)), (.int (6 : Int32))]) (fun _ k => st23.trans k) ?_
  refine bN T23 (mkF m 10 #[vr a] [(.int (3 : Int32))]) (fun _ k => XS.ishr X23.here hx rfl (hb hby d10_9) rfl k) ?_
  refine own_ret X23 hlk (v := some (.int (3 : Int32))) (nvr Bd.returns) (fun fs hr => retI X23 hx Bd.returns (hb hby d10_10) hr) ?_ (by decide) (by decide)
  rw [e23]
  exact ⟨rfl, N23, rfl⟩
theorem ef_min_u_3 (m : MethodId)  : entryFrame m #[(.int (3 : Int32)), (.int (3 : Int32))] 2 = mkF m 0 #[vi 3, vi 3] [] := rfl
def Q_min_u_3 (Z : State)  (h0 : Heap) (n0 : Nat) (v : Option Value) (h : Heap) (L : List Loc) : Prop := v = some (.int (3 : Int32)) ∧ Fr n0 L ∧ h = h0
theorem min_u_3 (l : Launch) (Z : State) (a0 : Array Value) (hw : HW Z a0) (ws : List Jvm.Cond)  (h0 : Heap) (n0 : Nat) (Z0 : n0 ≤ h0.size) :
    own_M l yy17 jdk_29_method_69_code 2 (some .int) ws rr0 Z #[(.int (3 : Int32)), (.int (3 : Int32))] h0 (Q_min_u_3 Z  h0 n0) := by
  refine own_bd (Jvm.Free.JP.mathPlain rfl (by decide +kernel)) fun p e s m below meth c s₁ Bd hx hby hml hown hnm hlk hZ X0 e0 => ?_
  rw [ef_min_u_3 m ]
  refine bN s₁ (mkF m 1 #[vi 3, vi 3] [(.int (3 : Int32))]) (fun _ k => XS.iloadN X0.here hx rfl (hb hby d24_0) rfl k) ?_
  refine bN s₁ (mkF m 2 #[vi 3, vi 3] [(.int (3 : Int32)), (.int (3 : Int32))]) (fun _ k => XS.iloadN X0.here hx rfl (hb hby d24_1) rfl k) ?_
  refine bN s₁ (mkF m 5 #[vi 3, vi 3] []) (fun _ k => XS.icmpNo X0.here hx rfl (hb hby d24_2) rfl (flt (by decide)).2.2.1 k) ?_
  refine bN s₁ (mkF m 6 #[vi 3, vi 3] [(.int (3 : Int32))]) (fun _ k => XS.iloadN X0.here hx rfl (hb hby d24_5) rfl k) ?_
  refine bN s₁ (mkF m 10 #[vi 3, vi 3] [(.int (3 : Int32))]) (fun _ k => XS.goto X0.here hx rfl (pc0 := 6) (pc' := 10) rfl (hb hby d24_6) (by decide) (by decide) k) ?_
  refine own_ret X0 hlk (v := some (.int (3 : Int32))) (nvr Bd.returns) (fun fs hr => retI X0 hx Bd.returns (hb hby d24_10) hr) ?_ (by decide) (by decide)
  rw [e0]
  exact ⟨rfl, (Fr.nil n0), rfl⟩
theorem ef_ule_u_3 (m : MethodId) (t1 : Addr) : entryFrame m #[(.ref t1)] 1 = mkF m 0 #[vr t1] [] := rfl
def Q_ule_u_3 (Z : State) (t1 : Addr) (k1 : ClassId) (c0 c1 c2 : Int32) (h0 : Heap) (n0 : Nat) (v : Option Value) (h : Heap) (L : List Loc) : Prop := v = some (.int (3 : Int32)) ∧ Fr n0 L ∧ h = h0
theorem ule_u_3 (l : Launch) (Z : State) (a0 : Array Value) (hw : HW Z a0) (ws : List Jvm.Cond) (t1 : Addr) (k1 : ClassId) (c0 c1 c2 : Int32) (h0 : Heap) (n0 : Nat) (Z0 : n0 ≤ h0.size) (V_t1 : Arv Z h0 t1 k1 .byte (6 : Int32) (wb3 c0 c1 c2) (ii 0)) :
    own_M l yy18 jdk_52_method_6_code 1 (some .int) ws rr0 Z #[(.ref t1)] h0 (Q_ule_u_3 Z t1 k1 c0 c1 c2 h0 n0) := by
  refine own_bd (plainFor_of_name pn_27) fun p e s m below meth c s₁ Bd hx hby hml hown hnm hlk hZ X0 e0 => ?_
  rw [ef_ule_u_3 m t1]
  refine bN s₁ (mkF m 1 #[vr t1] [(.ref t1)]) (fun _ k => XS.aloadN X0.here hx rfl (hb hby d27_0) rfl rfl k) ?_
  obtain ⟨cl21, Ar21, q21, S21, N_21, H21, G21⟩ := id V_t1
  refine bN s₁ (mkF m 2 #[vr t1] [(.int (6 : Int32))]) (fun _ k => X0.arraylength hx (by rw [e0]; exact Ar21.1) (State.isArrayOf_alike hZ.alike Ar21.2.1) (g := (mkF m 1 #[vr t1] [(.ref t1)])) rfl rfl (hb hby d27_1) _ (by rw [len_of S21 N_21]; exact k)) ?_
  refine bN s₁ (mkF m 3 #[vr t1] [(.int (1 : Int32)), (.int (6 : Int32))]) (fun _ k => XS.iconst X0.here hx rfl (hb hby d27_2) k) ?_
  refine bN s₁ (mkF m 4 #[vr t1] [(.int (3 : Int32))]) (fun _ k => XS.ishr X0.here hx rfl (hb hby d27_3) rfl k) ?_
  refine own_ret X0 hlk (v := some (.int (3 : Int32))) (nvr Bd.returns) (fun fs hr => retI X0 hx Bd.returns (hb hby d27_4) hr) ?_ (by decide) (by decide)
  rw [e0]
  exact ⟨rfl, (Fr.nil n0), rfl⟩
theorem ef_cft_u_3 (m : MethodId) (sf : Value) (hsf : sf.isRef = true) : entryFrame m #[(ii 0), (.int (3 : Int32)), (.int (3 : Int32)), sf] 4 = mkF m 0 #[vi 0, vi 3, vi 3, .val sf] [] := by
  rcases ref_cases hsf with rfl | ⟨_, rfl⟩ <;> rfl
def Q_cft_u_3 (Z : State) (sf : Value) (h0 : Heap) (n0 : Nat) (v : Option Value) (h : Heap) (L : List Loc) : Prop := v = some (ii 0) ∧ Fr n0 L ∧ h = h0
theorem cft_u_3 (l : Launch) (Z : State) (a0 : Array Value) (hw : HW Z a0) (ws : List Jvm.Cond) (sf : Value) (h0 : Heap) (n0 : Nat) (Z0 : n0 ≤ h0.size) (hsf : sf.isRef = true) :
    own_M l yy19 jdk_41_method_12_code 4 (some .int) ws rr0 Z #[(ii 0), (.int (3 : Int32)), (.int (3 : Int32)), sf] h0 (Q_cft_u_3 Z sf h0 n0) := by
  refine own_bd (plainFor_of_name pn_29) fun p e s m below meth c s₁ Bd hx hby hml hown hnm hlk hZ X0 e0 => ?_
  rw [ef_cft_u_3 m sf hsf]
  refine bN s₁ (mkF m 1 #[vi 0, vi 3, vi 3, .val sf] [(ii 0)]) (fun _ k => XS.iloadN X0.here hx rfl (hb hby d29_0) rfl k) ?_
  refine bN s₁ (mkF m 4 #[vi 0, vi 3, vi 3, .val sf] []) (fun _ k => XS.ifNo X0.here hx rfl (hb hby d29_1) rfl ((if0 _ _).trans (flt (by decide)).1) k) ?_
  refine bN s₁ (mkF m 5 #[vi 0, vi 3, vi 3, .val sf] [(ii 0)]) (fun _ k => XS.iloadN X0.here hx rfl (hb hby d29_4) rfl k) ?_
  refine bN s₁ (mkF m 6 #[vi 0, vi 3, vi 3, .val sf] [(.int (3 : Int32)), (ii 0)]) (fun _ k => XS.iloadN X0.here hx rfl (hb hby d29_5) rfl k) ?_
  refine bN s₁ (mkF m 9 #[vi 0, vi 3, vi 3, .val sf] []) (fun _ k => XS.icmpNo X0.here hx rfl (hb hby d29_6) rfl (flt (by decide)).2.2.1 k) ?_
  refine bN s₁ (mkF m 10 #[vi 0, vi 3, vi 3, .val sf] [(.int (3 : Int32))]) (fun _ k => XS.iloadN X0.here hx rfl (hb hby d29_9) rfl k) ?_
  refine bN s₁ (mkF m 11 #[vi 0, vi 3, vi 3, .val sf] [(.int (3 : Int32)), (.int (3 : Int32))]) (fun _ k => XS.iloadN X0.here hx rfl (hb hby d29_10) rfl k) ?_
  refine bN s₁ (mkF m 22 #[vi 0, vi 3, vi 3, .val sf] []) (fun _ k => XS.icmpYes X0.here hx rfl (pc0 := 11) (pc' := 22) rfl (hb hby d29_11) rfl (flt (by decide)).2.2.2 (by decide) (by decide) k) ?_
  refine bN s₁ (mkF m 23 #[vi 0, vi 3, vi 3, .val sf] [(ii 0)]) (fun _ k => XS.iloadN X0.here hx rfl (hb hby d29_22) rfl k) ?_
  refine own_ret X0 hlk (v := some (ii 0)) (nvr Bd.returns) (fun fs hr => retI X0 hx Bd.returns (hb hby d29_23) hr) ?_ (by decide) (by decide)
  rw [e0]
  exact ⟨rfl, (Fr.nil n0), rfl⟩
theorem ef_cbs_u_3 (m : MethodId)  : entryFrame m #[(ii 0), (.int (3 : Int32)), (.int (3 : Int32))] 3 = mkF m 0 #[vi 0, vi 3, vi 3] [] := rfl
def Q_cbs_u_3 (Z : State) (sf : Value) (h0 : Heap) (n0 : Nat) (v : Option Value) (h : Heap) (L : List Loc) : Prop := v = none ∧ Fr n0 L ∧ h = h0
theorem cbs_u_3 (l : Launch) (Z : State) (a0 : Array Value) (hw : HW Z a0) (ws : List Jvm.Cond) (sf : Value) (h0 : Heap) (n0 : Nat) (Z0 : n0 ≤ h0.size) (hsf : sf.isRef = true) (S_SF : Sta Z h0 "jdk/internal/util/Preconditions" "SIOOBE_FORMATTER" "Ljava/util/function/BiFunction;" sf) :
    own_M l yy20 jdk_42_method_158_code 3 none ws rr41 Z #[(ii 0), (.int (3 : Int32)), (.int (3 : Int32))] h0 (Q_cbs_u_3 Z sf h0 n0) := by
  refine own_bd (plainFor_of_name pn_28) fun p e s m below meth c s₁ Bd hx hby hml hown hnm hlk hZ X0 e0 => ?_
  rw [ef_cbs_u_3 m ]
  refine bN s₁ (mkF m 1 #[vi 0, vi 3, vi 3] [(ii 0)]) (fun _ k => XS.iloadN X0.here hx rfl (hb hby d28_0) rfl k) ?_
  refine bN s₁ (mkF m 2 #[vi 0, vi 3, vi 3] [(.int (3 : Int32)), (ii 0)]) (fun _ k => XS.iloadN X0.here hx rfl (hb hby d28_1) rfl k) ?_
  refine bN s₁ (mkF m 3 #[vi 0, vi 3, vi 3] [(.int (3 : Int32)), (.int (3 : Int32)), (ii 0)]) (fun _ k => XS.iloadN X0.here hx rfl (hb hby d28_2) rfl k) ?_
  obtain ⟨T21, X21, e21, st21⟩ := getS2 X0 hx hZ hown (host := "") (Or.inl (hw _ (mo 122 rfl))) Via.refl e0 S_SF (g := (mkF m 3 #[vi 0, vi 3, vi 3] [(.int (3 : Int32)), (.int (3 : Int32)), (ii 0)])) rfl (hb hby d28_3)
  refine bN T21 (mkF m 6 #[vi 0, vi 3, vi 3] [sf, (.int (3 : Int32)), (.int (3 : Int32)), (ii 0)]) (fun _ k => st21 _ k) ?_
  obtain ⟨_, _, ⟨T22, L22, k22, n22⟩, -, X22, ⟨Lc22, hQ22, l22, y22, z22⟩, st22⟩ := Jvm.LawKit.callS X21 hx (y := yy19) hown (mvT hZ (hw _ (mo 124 rfl))) (mvT hZ (hw _ (mo 125 rfl))) (mvT hZ (hw _ (mo 123 rfl))) (mvT hZ (hw _ (mo 126 rfl))) (by decide) (backOf (W := 0) (cft_u_3 l Z a0 hw [] sf  h0 n0 Z0 hsf) hZ (hw _ (mo 126 rfl)) (hw _ (mo 123 rfl)) (by decide) (by decide)) (g := (mkF m 6 #[vi 0, vi 3, vi 3] [sf, (.int (3 : Int32)), (.int (3 : Int32)), (ii 0)])) rfl (by rw [hml]; rfl) (argsL := [(ii 0), (.int (3 : Int32)), (.int (3 : Int32)), sf]) (rest := []) (lenOf pd_9 rfl) rfl (Nat.le_of_eq rfl) (hb hby d28_6) (fun _ _ => ⟨rfl, e21, (by decide : 0 ≤ _), (by decide : 0 ≤ _)⟩)
  dsimp only [Pt.U, Pt.locs, Pt.cells, Pt.slots] at X22 l22 y22 z22 st22 hQ22
  subst l22 y22 z22
  obtain ⟨rfl, N22q, e22⟩ := hQ22
  have N22 := Fr.app (Fr.nil n0) N22q
  refine bN T22 (mkF m 9 #[vi 0, vi 3, vi 3] [(ii 0)]) (fun _ k => st22 _ k) ?_
  refine bN T22 (mkF m 10 #[vi 0, vi 3, vi 3] []) (fun _ k => XS.pop X22.here hx rfl (hb hby d28_9) rfl rfl k) ?_
  refine own_ret X22 hlk (v := none) (fun _ => rfl) (fun fs hr => X22.returnOut hx Bd.returns (hb hby d28_10) hr) ?_ (by decide) (by decide)
  rw [e22]
  exact ⟨rfl, N22, rfl⟩
theorem ef_cbu_u_3 (m : MethodId) (t1 : Addr) : entryFrame m #[(ii 0), (.int (3 : Int32)), (.ref t1)] 3 = mkF m 0 #[vi 0, vi 3, vr t1] [] := rfl
def Q_cbu_u_3 (Z : State) (t1 : Addr) (k1 : ClassId) (sf : Value) (c0 c1 c2 : Int32) (h0 : Heap) (n0 : Nat) (v : Option Value) (h : Heap) (L : List Loc) : Prop := v = none ∧ Fr n0 L ∧ h = h0
theorem cbu_u_3 (l : Launch) (Z : State) (a0 : Array Value) (hw : HW Z a0) (ws : List Jvm.Cond) (t1 : Addr) (k1 : ClassId) (sf : Value) (c0 c1 c2 : Int32) (h0 : Heap) (n0 : Nat) (Z0 : n0 ≤ h0.size) (hsf : sf.isRef = true) (S_SF : Sta Z h0 "jdk/internal/util/Preconditions" "SIOOBE_FORMATTER" "Ljava/util/function/BiFunction;" sf) (V_t1 : Arv Z h0 t1 k1 .byte (6 : Int32) (wb3 c0 c1 c2) (ii 0)) :
    own_M l yy21 jdk_52_method_93_code 3 none ws rr42 Z #[(ii 0), (.int (3 : Int32)), (.ref t1)] h0 (Q_cbu_u_3 Z t1 k1 sf c0 c1 c2 h0 n0) := by
  refine own_bd (plainFor_of_name pn_26) fun p e s m below meth c s₁ Bd hx hby hml hown hnm hlk hZ X0 e0 => ?_
  rw [ef_cbu_u_3 m t1]
  refine bN s₁ (mkF m 1 #[vi 0, vi 3, vr t1] [(ii 0)]) (fun _ k => XS.iloadN X0.here hx rfl (hb hby d26_0) rfl k) ?_
  refine bN s₁ (mkF m 2 #[vi 0, vi 3, vr t1] [(.int (3 : Int32)), (ii 0)]) (fun _ k => XS.iloadN X0.here hx rfl (hb hby d26_1) rfl k) ?_
  refine bN s₁ (mkF m 3 #[vi 0, vi 3, vr t1] [(.ref t1), (.int (3 : Int32)), (ii 0)]) (fun _ k => XS.aloadN X0.here hx rfl (hb hby d26_2) rfl rfl k) ?_
  obtain ⟨_, _, ⟨T21, L21, k21, n21⟩, -, X21, ⟨Lc21, hQ21, l21, y21, z21⟩, st21⟩ := Jvm.LawKit.callS X0 hx (y := yy18) hown (mvT hZ (hw _ (mo 116 rfl))) (mvT hZ (hw _ (mo 117 rfl))) (mvT hZ (hw _ (mo 71 rfl))) (mvT hZ (hw _ (mo 118 rfl))) (by decide) (backOf (W := 2) (ule_u_3 l Z a0 hw [] t1 k1 c0 c1 c2 h0 n0 Z0 V_t1) hZ (hw _ (mo 118 rfl)) (hw _ (mo 71 rfl)) (by decide) (by decide)) (g := (mkF m 3 #[vi 0, vi 3, vr t1] [(.ref t1), (.int (3 : Int32)), (ii 0)])) rfl (by rw [hml]; rfl) (argsL := [(.ref t1)]) (rest := [(.int (3 : Int32)), (ii 0)]) (lenOf pd_10 rfl) rfl (Nat.le_of_eq rfl) (hb hby d26_3) (fun _ _ => ⟨rfl, e0, (by decide : 0 ≤ _), (by decide : 0 ≤ _)⟩)
  dsimp only [Pt.U, Pt.locs, Pt.cells, Pt.slots] at X21 l21 y21 z21 st21 hQ21
  subst l21 y21 z21
  obtain ⟨rfl, N21q, e21⟩ := hQ21
  have N21 := Fr.app (Fr.nil n0) N21q
  refine bN T21 (mkF m 6 #[vi 0, vi 3, vr t1] [(.int (3 : Int32)), (.int (3 : Int32)), (ii 0)]) (fun _ k => st21 _ k) ?_
  obtain ⟨_, _, ⟨T22, L22, k22, n22⟩, -, X22, ⟨Lc22, hQ22, l22, y22, z22⟩, st22⟩ := Jvm.LawKit.callS X21 hx (y := yy20) hown (mvT hZ (hw _ (mo 119 rfl))) (mvT hZ (hw _ (mo 120 rfl))) (mvT hZ (hw _ (mo 12 rfl))) (mvT hZ (hw _ (mo 121 rfl))) (by decide) (backOf (W := 0) (cbs_u_3 l Z a0 hw []  sf h0 n0 Z0 hsf S_SF) hZ (hw _ (mo 121 rfl)) (hw _ (mo 12 rfl)) (by decide) (by decide)) (g := (mkF m 6 #[vi 0, vi 3, vr t1] [(.int (3 : Int32)), (.int (3 : Int32)), (ii 0)])) rfl (by rw [hml]; rfl) (argsL := [(ii 0), (.int (3 : Int32)), (.int (3 : Int32))]) (rest := []) (lenOf pd_11 rfl) rfl (Nat.le_of_eq rfl) (hb hby d26_6) (fun _ _ => ⟨rfl, e21, (by decide : 0 ≤ _), (by decide : 0 ≤ _)⟩)
  dsimp only [Pt.U, Pt.locs, Pt.cells, Pt.slots] at X22 l22 y22 z22 st22 hQ22
  subst l22 y22 z22
  obtain ⟨rfl, N22q, e22⟩ := hQ22
  have N22 := Fr.app N21 N22q
  refine bN T22 (mkF m 9 #[vi 0, vi 3, vr t1] []) (fun _ k => st22 _ k) ?_
  refine own_ret X22 hlk (v := none) (fun _ => rfl) (fun fs hr => X22.returnOut hx Bd.returns (hb hby d26_9) hr) ?_ (by decide) (by decide)
  rw [e22]
  exact ⟨rfl, N22, rfl⟩
theorem ef_icu_u_3 (m : MethodId) (t1 : Addr) : entryFrame m #[(.ref t1), (.int (65533 : Int32)), (ii 0), (.int (3 : Int32))] 5 = mkF m 0 #[vr t1, vi 65533, vi 0, vi 3, uu] [] := rfl
def Q_icu_u_3 (Z : State) (t1 : Addr) (k1 : ClassId) (sf : Value) (c0 c1 c2 : Int32) (h0 : Heap) (n0 : Nat) (v : Option Value) (h : Heap) (L : List Loc) : Prop := v = some (.int (own_i3 c0 c1 c2)) ∧ Fr n0 L ∧ h = h0
theorem icu_u_3 (l : Launch) (Z : State) (a0 : Array Value) (hw : HW Z a0) (ws : List Jvm.Cond) (t1 : Addr) (k1 : ClassId) (sf : Value) (c0 c1 c2 : Int32) (h0 : Heap) (n0 : Nat) (Z0 : n0 ≤ h0.size) (S_AD : AD Z h0) (S_HI : HI Z h0) (S_LO : LO Z h0) (hsf : sf.isRef = true) (S_SF : Sta Z h0 "jdk/internal/util/Preconditions" "SIOOBE_FORMATTER" "Ljava/util/function/BiFunction;" sf) (hr0 : 0 ≤ c0.toInt ∧ c0.toInt ≤ 65535) (hr1 : 0 ≤ c1.toInt ∧ c1.toInt ≤ 65535) (hr2 : 0 ≤ c2.toInt ∧ c2.toInt ≤ 65535) (V_t1 : Arv Z h0 t1 k1 .byte (6 : Int32) (wb3 c0 c1 c2) (ii 0)) :
    own_M l yy22 jdk_52_method_48_code 5 (some .int) ws rr40 Z #[(.ref t1), (.int (65533 : Int32)), (ii 0), (.int (3 : Int32))] h0 (Q_icu_u_3 Z t1 k1 sf c0 c1 c2 h0 n0) := by
  refine own_bd (plainFor_of_name pn_30) fun p e s m below meth c s₁ Bd hx hby hml hown hnm hlk hZ X0 e0 => ?_
  rw [ef_icu_u_3 m t1]
  refine bN s₁ (mkF m 1 #[vr t1, vi 65533, vi 0, vi 3, uu] [(ii 0)]) (fun _ k => XS.iloadN X0.here hx rfl (hb hby d30_0) rfl k) ?_
  refine bN s₁ (mkF m 3 #[vr t1, vi 65533, vi 0, vi 3, vi 0] []) (fun _ k => XS.istore X0.here hx rfl (hb hby d30_1) rfl rfl k) ?_
  refine bN s₁ (mkF m 5 #[vr t1, vi 65533, vi 0, vi 3, vi 0] [(ii 0)]) (fun _ k => XS.iload X0.here hx rfl (hb hby d30_3) rfl k) ?_
  refine bN s₁ (mkF m 6 #[vr t1, vi 65533, vi 0, vi 3, vi 0] [(.int (3 : Int32)), (ii 0)]) (fun _ k => XS.iloadN X0.here hx rfl (hb hby d30_5) rfl k) ?_
  refine bN s₁ (mkF m 9 #[vr t1, vi 65533, vi 0, vi 3, vi 0] []) (fun _ k => XS.icmpNo X0.here hx rfl (hb hby d30_6) rfl (tlt (by decide)).2.1 k) ?_
  refine bN s₁ (mkF m 10 #[vr t1, vi 65533, vi 0, vi 3, vi 0] [(.ref t1)]) (fun _ k => XS.aloadN X0.here hx rfl (hb hby d30_9) rfl rfl k) ?_
  refine bN s₁ (mkF m 12 #[vr t1, vi 65533, vi 0, vi 3, vi 0] [(ii 0), (.ref t1)]) (fun _ k => XS.iload X0.here hx rfl (hb hby d30_10) rfl k) ?_
  obtain ⟨_, _, ⟨T21, L21, k21, n21⟩, -, X21, ⟨Lc21, hQ21, l21, y21, z21⟩, st21⟩ := Jvm.LawKit.callS X0 hx (y := yy8) hown (mvT hZ (hw _ (mo 96 rfl))) (mvT hZ (hw _ (mo 97 rfl))) (mvT hZ (hw _ (mo 71 rfl))) (mvT hZ (hw _ (mo 98 rfl))) (by decide) (backOf (W := 0) (get_0 l Z a0 hw [] t1 k1 (6 : Int32) (wb3 c0 c1 c2) (b0 c0) (b1 c0) h0 n0 Z0 S_AD S_HI S_LO V_t1 (by decide) (by decide) rfl rfl) hZ (hw _ (mo 98 rfl)) (hw _ (mo 71 rfl)) (by decide) (by decide)) (g := (mkF m 12 #[vr t1, vi 65533, vi 0, vi 3, vi 0] [(ii 0), (.ref t1)])) rfl (by rw [hml]; rfl) (argsL := [(.ref t1), (ii 0)]) (rest := []) (lenOf pd_7 rfl) rfl (Nat.le_of_eq rfl) (hb hby d30_12) (fun _ _ => ⟨rfl, e0, (by decide : 0 ≤ _), (by decide : 0 ≤ _)⟩)
  dsimp only [Pt.U, Pt.locs, Pt.cells, Pt.slots] at X21 l21 y21 z21 st21 hQ21
  subst l21 y21 z21
  obtain ⟨vq21, N21q, e21⟩ := hQ21
  obtain rfl := vq21.trans (congrArg (fun z => some (Value.int z)) (own_pair hr0))
  have N21 := Fr.app (Fr.nil n0) N21q
  refine bN T21 (mkF m 15 #[vr t1, vi 65533, vi 0, vi 3, vi 0] [(.int c0)]) (fun _ k => st21 _ k) ?_
  refine bN T21 (mkF m 16 #[vr t1, vi 65533, vi 0, vi 3, vi 0] [(.int (65533 : Int32)), (.int c0)]) (fun _ k => XS.iloadN X21.here hx rfl (hb hby d30_15) rfl k) ?_
  by_cases hc16_22 : c0 = (65533 : Int32)
  · skip
    refine bN T21 (mkF m 19 #[vr t1, vi 65533, vi 0, vi 3, vi 0] []) (fun _ k => XS.icmpNo X21.here hx rfl (hb hby d30_16) rfl (teq hc16_22).2 k) ?_
    refine bN T21 (mkF m 21 #[vr t1, vi 65533, vi 0, vi 3, vi 0] [(ii 0)]) (fun _ k => XS.iload X21.here hx rfl (hb hby d30_19) rfl k) ?_
    refine own_ret X21 hlk (v := some (ii 0)) (nvr Bd.returns) (fun fs hr => retI X21 hx Bd.returns (hb hby d30_21) hr) ?_ (by decide) (by decide)
    rw [e21]
    exact ⟨congrArg (fun z => some (Value.int z)) (if_pos hc16_22).symm, N21, rfl⟩
  · skip
    refine bN T21 (mkF m 22 #[vr t1, vi 65533, vi 0, vi 3, vi 0] []) (fun _ k => XS.icmpYes X21.here hx rfl (pc0 := 16) (pc' := 22) rfl (hb hby d30_16) rfl (feq hc16_22).2 (by decide) (by decide) k) ?_
    refine bN T21 (mkF m 25 #[vr t1, vi 65533, vi 0, vi 3, vi 1] []) (fun _ k => XS.iinc X21.here hx rfl (hb hby d30_22) rfl rfl k) ?_
    refine bN T21 (mkF m 3 #[vr t1, vi 65533, vi 0, vi 3, vi 1] []) (fun _ k => XS.goto X21.here hx rfl (pc0 := 25) (pc' := 3) rfl (hb hby d30_25) (by decide) (by decide) k) ?_
    refine bN T21 (mkF m 5 #[vr t1, vi 65533, vi 0, vi 3, vi 1] [(.int (1 : Int32))]) (fun _ k => XS.iload X21.here hx rfl (hb hby d30_3) rfl k) ?_
    refine bN T21 (mkF m 6 #[vr t1, vi 65533, vi 0, vi 3, vi 1] [(.int (3 : Int32)), (.int (1 : Int32))]) (fun _ k => XS.iloadN X21.here hx rfl (hb hby d30_5) rfl k) ?_
    refine bN T21 (mkF m 9 #[vr t1, vi 65533, vi 0, vi 3, vi 1] []) (fun _ k => XS.icmpNo X21.here hx rfl (hb hby d30_6) rfl (tlt (by decide)).2.1 k) ?_
    refine bN T21 (mkF m 10 #[vr t1, vi 65533, vi 0, vi 3, vi 1] [(.ref t1)]) (fun _ k => XS.aloadN X21.here hx rfl (hb hby d30_9) rfl rfl k) ?_
    refine bN T21 (mkF m 12 #[vr t1, vi 65533, vi 0, vi 3, vi 1] [(.int (1 : Int32)), (.ref t1)]) (fun _ k => XS.iload X21.here hx rfl (hb hby d30_10) rfl k) ?_
    obtain ⟨_, _, ⟨T23, L23, k23, n23⟩, -, X23, ⟨Lc23, hQ23, l23, y23, z23⟩, st23⟩ := Jvm.LawKit.callS X21 hx (y := yy8) hown (mvT hZ (hw _ (mo 96 rfl))) (mvT hZ (hw _ (mo 97 rfl))) (mvT hZ (hw _ (mo 71 rfl))) (mvT hZ (hw _ (mo 98 rfl))) (by decide) (backOf (W := 0) (get_1 l Z a0 hw [] t1 k1 (6 : Int32) (wb3 c0 c1 c2) (b0 c1) (b1 c1) h0 n0 Z0 S_AD S_HI S_LO V_t1 (by decide) (by decide) rfl rfl) hZ (hw _ (mo 98 rfl)) (hw _ (mo 71 rfl)) (by decide) (by decide)) (g := (mkF m 12 #[vr t1, vi 65533, vi 0, vi 3, vi 1] [(.int (1 : Int32)), (.ref t1)])) rfl (by rw [hml]; rfl) (argsL := [(.ref t1), (.int (1 : Int32))]) (rest := []) (lenOf pd_7 rfl) rfl (Nat.le_of_eq rfl) (hb hby d30_12) (fun _ _ => ⟨rfl, e21, (by decide : 0 ≤ _), (by decide : 0 ≤ _)⟩)
    dsimp only [Pt.U, Pt.locs, Pt.cells, Pt.slots] at X23 l23 y23 z23 st23 hQ23
    subst l23 y23 z23
    obtain ⟨vq23, N23q, e23⟩ := hQ23
    obtain rfl := vq23.trans (congrArg (fun z => some (Value.int z)) (own_pair hr1))
    have N23 := Fr.app N21 N23q
    refine bN T23 (mkF m 15 #[vr t1, vi 65533, vi 0, vi 3, vi 1] [(.int c1)]) (fun _ k => st23 _ k) ?_
    refine bN T23 (mkF m 16 #[vr t1, vi 65533, vi 0, vi 3, vi 1] [(.int (65533 : Int32)), (.int c1)]) (fun _ k => XS.iloadN X23.here hx rfl (hb hby d30_15) rfl k) ?_
    by_cases hc16_24 : c1 = (65533 : Int32)
    · skip
      refine bN T23 (mkF m 19 #[vr t1, vi 65533, vi 0, vi 3, vi 1] []) (fun _ k => XS.icmpNo X23.here hx rfl (hb hby d30_16) rfl (teq hc16_24).2 k) ?_
      refine bN T23 (mkF m 21 #[vr t1, vi 65533, vi 0, vi 3, vi 1] [(.int (1 : Int32))]) (fun _ k => XS.iload X23.here hx rfl (hb hby d30_19) rfl k) ?_
      refine own_ret X23 hlk (v := some (.int (1 : Int32))) (nvr Bd.returns) (fun fs hr => retI X23 hx Bd.returns (hb hby d30_21) hr) ?_ (by decide) (by decide)
      rw [e23]
      exact ⟨congrArg (fun z => some (Value.int z)) ((if_neg hc16_22).trans (if_pos hc16_24)).symm, N23, rfl⟩
    · skip
      refine bN T23 (mkF m 22 #[vr t1, vi 65533, vi 0, vi 3, vi 1] []) (fun _ k => XS.icmpYes X23.here hx rfl (pc0 := 16) (pc' := 22) rfl (hb hby d30_16) rfl (feq hc16_24).2 (by decide) (by decide) k) ?_
      refine bN T23 (mkF m 25 #[vr t1, vi 65533, vi 0, vi 3, vi 2] []) (fun _ k => XS.iinc X23.here hx rfl (hb hby d30_22) rfl rfl k) ?_
      refine bN T23 (mkF m 3 #[vr t1, vi 65533, vi 0, vi 3, vi 2] []) (fun _ k => XS.goto X23.here hx rfl (pc0 := 25) (pc' := 3) rfl (hb hby d30_25) (by decide) (by decide) k) ?_
      refine bN T23 (mkF m 5 #[vr t1, vi 65533, vi 0, vi 3, vi 2] [(.int (2 : Int32))]) (fun _ k => XS.iload X23.here hx rfl (hb hby d30_3) rfl k) ?_
      refine bN T23 (mkF m 6 #[vr t1, vi 65533, vi 0, vi 3, vi 2] [(.int (3 : Int32)), (.int (2 : Int32))]) (fun _ k => XS.iloadN X23.here hx rfl (hb hby d30_5) rfl k) ?_
      refine bN T23 (mkF m 9 #[vr t1, vi 65533, vi 0, vi 3, vi 2] []) (fun _ k => XS.icmpNo X23.here hx rfl (hb hby d30_6) rfl (tlt (by decide)).2.1 k) ?_
      refine bN T23 (mkF m 10 #[vr t1, vi 65533, vi 0, vi 3, vi 2] [(.ref t1)]) (fun _ k => XS.aloadN X23.here hx rfl (hb hby d30_9) rfl rfl k) ?_
      refine bN T23 (mkF m 12 #[vr t1, vi 65533, vi 0, vi 3, vi 2] [(.int (2 : Int32)), (.ref t1)]) (fun _ k => XS.iload X23.here hx rfl (hb hby d30_10) rfl k) ?_
      obtain ⟨_, _, ⟨T25, L25, k25, n25⟩, -, X25, ⟨Lc25, hQ25, l25, y25, z25⟩, st25⟩ := Jvm.LawKit.callS X23 hx (y := yy8) hown (mvT hZ (hw _ (mo 96 rfl))) (mvT hZ (hw _ (mo 97 rfl))) (mvT hZ (hw _ (mo 71 rfl))) (mvT hZ (hw _ (mo 98 rfl))) (by decide) (backOf (W := 0) (get_2 l Z a0 hw [] t1 k1 (6 : Int32) (wb3 c0 c1 c2) (b0 c2) (b1 c2) h0 n0 Z0 S_AD S_HI S_LO V_t1 (by decide) (by decide) rfl rfl) hZ (hw _ (mo 98 rfl)) (hw _ (mo 71 rfl)) (by decide) (by decide)) (g := (mkF m 12 #[vr t1, vi 65533, vi 0, vi 3, vi 2] [(.int (2 : Int32)), (.ref t1)])) rfl (by rw [hml]; rfl) (argsL := [(.ref t1), (.int (2 : Int32))]) (rest := []) (lenOf pd_7 rfl) rfl (Nat.le_of_eq rfl) (hb hby d30_12) (fun _ _ => ⟨rfl, e23, (by decide : 0 ≤ _), (by decide : 0 ≤ _)⟩)
      dsimp only [Pt.U, Pt.locs, Pt.cells, Pt.slots] at X25 l25 y25 z25 st25 hQ25
      subst l25 y25 z25
      obtain ⟨vq25, N25q, e25⟩ := hQ25
      obtain rfl := vq25.trans (congrArg (fun z => some (Value.int z)) (own_pair hr2))
      have N25 := Fr.app N23 N25q
      refine bN T25 (mkF m 15 #[vr t1, vi 65533, vi 0, vi 3, vi 2] [(.int c2)]) (fun _ k => st25 _ k) ?_
      refine bN T25 (mkF m 16 #[vr t1, vi 65533, vi 0, vi 3, vi 2] [(.int (65533 : Int32)), (.int c2)]) (fun _ k => XS.iloadN X25.here hx rfl (hb hby d30_15) rfl k) ?_
      by_cases hc16_26 : c2 = (65533 : Int32)
      · skip
        refine bN T25 (mkF m 19 #[vr t1, vi 65533, vi 0, vi 3, vi 2] []) (fun _ k => XS.icmpNo X25.here hx rfl (hb hby d30_16) rfl (teq hc16_26).2 k) ?_
        refine bN T25 (mkF m 21 #[vr t1, vi 65533, vi 0, vi 3, vi 2] [(.int (2 : Int32))]) (fun _ k => XS.iload X25.here hx rfl (hb hby d30_19) rfl k) ?_
        refine own_ret X25 hlk (v := some (.int (2 : Int32))) (nvr Bd.returns) (fun fs hr => retI X25 hx Bd.returns (hb hby d30_21) hr) ?_ (by decide) (by decide)
        rw [e25]
        exact ⟨congrArg (fun z => some (Value.int z)) (((if_neg hc16_22).trans (if_neg hc16_24)).trans (if_pos hc16_26)).symm, N25, rfl⟩
      · skip
        refine bN T25 (mkF m 22 #[vr t1, vi 65533, vi 0, vi 3, vi 2] []) (fun _ k => XS.icmpYes X25.here hx rfl (pc0 := 16) (pc' := 22) rfl (hb hby d30_16) rfl (feq hc16_26).2 (by decide) (by decide) k) ?_
        refine bN T25 (mkF m 25 #[vr t1, vi 65533, vi 0, vi 3, vi 3] []) (fun _ k => XS.iinc X25.here hx rfl (hb hby d30_22) rfl rfl k) ?_
        refine bN T25 (mkF m 3 #[vr t1, vi 65533, vi 0, vi 3, vi 3] []) (fun _ k => XS.goto X25.here hx rfl (pc0 := 25) (pc' := 3) rfl (hb hby d30_25) (by decide) (by decide) k) ?_
        refine bN T25 (mkF m 5 #[vr t1, vi 65533, vi 0, vi 3, vi 3] [(.int (3 : Int32))]) (fun _ k => XS.iload X25.here hx rfl (hb hby d30_3) rfl k) ?_
        refine bN T25 (mkF m 6 #[vr t1, vi 65533, vi 0, vi 3, vi 3] [(.int (3 : Int32)), (.int (3 : Int32))]) (fun _ k => XS.iloadN X25.here hx rfl (hb hby d30_5) rfl k) ?_
        refine bN T25 (mkF m 28 #[vr t1, vi 65533, vi 0, vi 3, vi 3] []) (fun _ k => XS.icmpYes X25.here hx rfl (pc0 := 6) (pc' := 28) rfl (hb hby d30_6) rfl (flt (by decide)).2.1 (by decide) (by decide) k) ?_
        refine bN T25 (mkF m 29 #[vr t1, vi 65533, vi 0, vi 3, vi 3] [(.int (-1 : Int32))]) (fun _ k => XS.iconst X25.here hx rfl (hb hby d30_28) k) ?_
        refine own_ret X25 hlk (v := some (.int (-1 : Int32))) (nvr Bd.returns) (fun fs hr => retI X25 hx Bd.returns (hb hby d30_29) hr) ?_ (by decide) (by decide)
        rw [e25]
        exact ⟨congrArg (fun z => some (Value.int z)) (((if_neg hc16_22).trans (if_neg hc16_24)).trans (if_neg hc16_26)).symm, N25, rfl⟩
theorem ef_ich_u_3 (m : MethodId) (t1 : Addr) : entryFrame m #[(.ref t1), (.int (65533 : Int32)), (ii 0), (.int (3 : Int32))] 4 = mkF m 0 #[vr t1, vi 65533, vi 0, vi 3] [] := rfl
def Q_ich_u_3 (Z : State) (t1 : Addr) (k1 : ClassId) (sf : Value) (c0 c1 c2 : Int32) (h0 : Heap) (n0 : Nat) (v : Option Value) (h : Heap) (L : List Loc) : Prop := v = some (.int (own_i3 c0 c1 c2)) ∧ Fr n0 L ∧ h = h0
theorem ich_u_3 (l : Launch) (Z : State) (a0 : Array Value) (hw : HW Z a0) (ws : List Jvm.Cond) (t1 : Addr) (k1 : ClassId) (sf : Value) (c0 c1 c2 : Int32) (h0 : Heap) (n0 : Nat) (Z0 : n0 ≤ h0.size) (S_AD : AD Z h0) (S_HI : HI Z h0) (S_LO : LO Z h0) (hsf : sf.isRef = true) (S_SF : Sta Z h0 "jdk/internal/util/Preconditions" "SIOOBE_FORMATTER" "Ljava/util/function/BiFunction;" sf) (hr0 : 0 ≤ c0.toInt ∧ c0.toInt ≤ 65535) (hr1 : 0 ≤ c1.toInt ∧ c1.toInt ≤ 65535) (hr2 : 0 ≤ c2.toInt ∧ c2.toInt ≤ 65535) (V_t1 : Arv Z h0 t1 k1 .byte (6 : Int32) (wb3 c0 c1 c2) (ii 0)) :
    own_M l yy23 jdk_52_method_47_code 4 (some .int) ws rr43 Z #[(.ref t1), (.int (65533 : Int32)), (ii 0), (.int (3 : Int32))] h0 (Q_ich_u_3 Z t1 k1 sf c0 c1 c2 h0 n0) := by
  refine own_bd (plainFor_of_name pn_25) fun p e s m below meth c s₁ Bd hx hby hml hown hnm hlk hZ X0 e0 => ?_
  rw [ef_ich_u_3 m t1]
  refine bN s₁ (mkF m 1 #[vr t1, vi 65533, vi 0, vi 3] [(ii 0)]) (fun _ k => XS.iloadN X0.here hx rfl (hb hby d25_0) rfl k) ?_
  refine bN s₁ (mkF m 2 #[vr t1, vi 65533, vi 0, vi 3] [(.int (3 : Int32)), (ii 0)]) (fun _ k => XS.iloadN X0.here hx rfl (hb hby d25_1) rfl k) ?_
  refine bN s₁ (mkF m 3 #[vr t1, vi 65533, vi 0, vi 3] [(.ref t1), (.int (3 : Int32)), (ii 0)]) (fun _ k => XS.aloadN X0.here hx rfl (hb hby d25_2) rfl rfl k) ?_
  obtain ⟨_, _, ⟨T21, L21, k21, n21⟩, -, X21, ⟨Lc21, hQ21, l21, y21, z21⟩, st21⟩ := Jvm.LawKit.callS X0 hx (y := yy21) hown (mvT hZ (hw _ (mo 113 rfl))) (mvT hZ (hw _ (mo 114 rfl))) (mvT hZ (hw _ (mo 71 rfl))) (mvT hZ (hw _ (mo 115 rfl))) (by decide) (backOf (W := 0) (cbu_u_3 l Z a0 hw [] t1 k1 sf c0 c1 c2 h0 n0 Z0 hsf S_SF V_t1) hZ (hw _ (mo 115 rfl)) (hw _ (mo 71 rfl)) (by decide) (by decide)) (g := (mkF m 3 #[vr t1, vi 65533, vi 0, vi 3] [(.ref t1), (.int (3 : Int32)), (ii 0)])) rfl (by rw [hml]; rfl) (argsL := [(ii 0), (.int (3 : Int32)), (.ref t1)]) (rest := []) (lenOf pd_12 rfl) rfl (Nat.le_of_eq rfl) (hb hby d25_3) (fun _ _ => ⟨rfl, e0, (by decide : 0 ≤ _), (by decide : 0 ≤ _)⟩)
  dsimp only [Pt.U, Pt.locs, Pt.cells, Pt.slots] at X21 l21 y21 z21 st21 hQ21
  subst l21 y21 z21
  obtain ⟨rfl, N21q, e21⟩ := hQ21
  have N21 := Fr.app (Fr.nil n0) N21q
  refine bN T21 (mkF m 6 #[vr t1, vi 65533, vi 0, vi 3] []) (fun _ k => st21 _ k) ?_
  refine bN T21 (mkF m 7 #[vr t1, vi 65533, vi 0, vi 3] [(.ref t1)]) (fun _ k => XS.aloadN X21.here hx rfl (hb hby d25_6) rfl rfl k) ?_
  refine bN T21 (mkF m 8 #[vr t1, vi 65533, vi 0, vi 3] [(.int (65533 : Int32)), (.ref t1)]) (fun _ k => XS.iloadN X21.here hx rfl (hb hby d25_7) rfl k) ?_
  refine bN T21 (mkF m 9 #[vr t1, vi 65533, vi 0, vi 3] [(ii 0), (.int (65533 : Int32)), (.ref t1)]) (fun _ k => XS.iloadN X21.here hx rfl (hb hby d25_8) rfl k) ?_
  refine bN T21 (mkF m 10 #[vr t1, vi 65533, vi 0, vi 3] [(.int (3 : Int32)), (ii 0), (.int (65533 : Int32)), (.ref t1)]) (fun _ k => XS.iloadN X21.here hx rfl (hb hby d25_9) rfl k) ?_
  obtain ⟨_, _, ⟨T22, L22, k22, n22⟩, -, X22, ⟨Lc22, hQ22, l22, y22, z22⟩, st22⟩ := Jvm.LawKit.callS X21 hx (y := yy22) hown (mvT hZ (hw _ (mo 127 rfl))) (mvT hZ (hw _ (mo 128 rfl))) (mvT hZ (hw _ (mo 71 rfl))) (mvT hZ (hw _ (mo 129 rfl))) (by decide) (backOf (W := 0) (icu_u_3 l Z a0 hw [] t1 k1 sf c0 c1 c2 h0 n0 Z0 S_AD S_HI S_LO hsf S_SF hr0 hr1 hr2 V_t1) hZ (hw _ (mo 129 rfl)) (hw _ (mo 71 rfl)) (by decide) (by decide)) (g := (mkF m 10 #[vr t1, vi 65533, vi 0, vi 3] [(.int (3 : Int32)), (ii 0), (.int (65533 : Int32)), (.ref t1)])) rfl (by rw [hml]; rfl) (argsL := [(.ref t1), (.int (65533 : Int32)), (ii 0), (.int (3 : Int32))]) (rest := []) (lenOf pd_13 rfl) rfl (Nat.le_of_eq rfl) (hb hby d25_10) (fun _ _ => ⟨rfl, e21, (by decide : 0 ≤ _), (by decide : 0 ≤ _)⟩)
  dsimp only [Pt.U, Pt.locs, Pt.cells, Pt.slots] at X22 l22 y22 z22 st22 hQ22
  subst l22 y22 z22
  obtain ⟨rfl, N22q, e22⟩ := hQ22
  have N22 := Fr.app N21 N22q
  refine bN T22 (mkF m 13 #[vr t1, vi 65533, vi 0, vi 3] [(.int (own_i3 c0 c1 c2))]) (fun _ k => st22 _ k) ?_
  refine own_ret X22 hlk (v := some (.int (own_i3 c0 c1 c2))) (nvr Bd.returns) (fun fs hr => retI X22 hx Bd.returns (hb hby d25_13) hr) ?_ (by decide) (by decide)
  rw [e22]
  exact ⟨rfl, N22, rfl⟩
theorem ef_iof_u_3 (m : MethodId) (t1 : Addr) : entryFrame m #[(.ref t1), (.int (65533 : Int32)), (ii 0), (.int (3 : Int32))] 4 = mkF m 0 #[vr t1, vi 65533, vi 0, vi 3] [] := rfl
def Q_iof_u_3 (Z : State) (t1 : Addr) (k1 : ClassId) (sf : Value) (c0 c1 c2 : Int32) (h0 : Heap) (n0 : Nat) (v : Option Value) (h : Heap) (L : List Loc) : Prop := v = some (.int (own_i3 c0 c1 c2)) ∧ Fr n0 L ∧ h = h0
theorem iof_u_3 (l : Launch) (Z : State) (a0 : Array Value) (hw : HW Z a0) (ws : List Jvm.Cond) (t1 : Addr) (k1 : ClassId) (sf : Value) (c0 c1 c2 : Int32) (h0 : Heap) (n0 : Nat) (Z0 : n0 ≤ h0.size) (S_AD : AD Z h0) (S_HI : HI Z h0) (S_LO : LO Z h0) (hsf : sf.isRef = true) (S_SF : Sta Z h0 "jdk/internal/util/Preconditions" "SIOOBE_FORMATTER" "Ljava/util/function/BiFunction;" sf) (hr0 : 0 ≤ c0.toInt ∧ c0.toInt ≤ 65535) (hr1 : 0 ≤ c1.toInt ∧ c1.toInt ≤ 65535) (hr2 : 0 ≤ c2.toInt ∧ c2.toInt ≤ 65535) (V_t1 : Arv Z h0 t1 k1 .byte (6 : Int32) (wb3 c0 c1 c2) (ii 0)) :
    own_M l yy24 jdk_52_method_40_code 4 (some .int) ws rr44 Z #[(.ref t1), (.int (65533 : Int32)), (ii 0), (.int (3 : Int32))] h0 (Q_iof_u_3 Z t1 k1 sf c0 c1 c2 h0 n0) := by
  refine own_bd (plainFor_of_name pn_22) fun p e s m below meth c s₁ Bd hx hby hml hown hnm hlk hZ X0 e0 => ?_
  rw [ef_iof_u_3 m t1]
  refine bN s₁ (mkF m 1 #[vr t1, vi 65533, vi 0, vi 3] [(ii 0)]) (fun _ k => XS.iloadN X0.here hx rfl (hb hby d22_0) rfl k) ?_
  refine bN s₁ (mkF m 2 #[vr t1, vi 65533, vi 0, vi 3] [(ii 0), (ii 0)]) (fun _ k => XS.iconst X0.here hx rfl (hb hby d22_1) k) ?_
  obtain ⟨_, _, ⟨T21, L21, k21, n21⟩, -, X21, ⟨Lc21, hQ21, l21, y21, z21⟩, st21⟩ := Jvm.LawKit.callS X0 hx (y := yy15) hown (mvT hZ (hw _ (mo 102 rfl))) (mvT hZ (hw _ (mo 103 rfl))) (mvT hZ (hw _ (mo 104 rfl))) (mvT hZ (hw _ (mo 105 rfl))) (by decide) (backOf (W := 0) (max00 l Z a0 hw []   h0 n0 Z0 ) hZ (hw _ (mo 105 rfl)) (hw _ (mo 104 rfl)) (by decide) (by decide)) (g := (mkF m 2 #[vr t1, vi 65533, vi 0, vi 3] [(ii 0), (ii 0)])) rfl (by rw [hml]; rfl) (argsL := [(ii 0), (ii 0)]) (rest := []) (lenOf pd_14 rfl) rfl (Nat.le_of_eq rfl) (hb hby d22_2) (fun _ _ => ⟨rfl, e0, (by decide : 0 ≤ _), (by decide : 0 ≤ _)⟩)
  dsimp only [Pt.U, Pt.locs, Pt.cells, Pt.slots] at X21 l21 y21 z21 st21 hQ21
  subst l21 y21 z21
  obtain ⟨rfl, N21q, e21⟩ := hQ21
  have N21 := Fr.app (Fr.nil n0) N21q
  refine bN T21 (mkF m 5 #[vr t1, vi 65533, vi 0, vi 3] [(ii 0)]) (fun _ k => st21 _ k) ?_
  refine bN T21 (mkF m 6 #[vr t1, vi 65533, vi 0, vi 3] []) (fun _ k => XS.istoreN X21.here hx rfl (hb hby d22_5) rfl rfl k) ?_
  refine bN T21 (mkF m 7 #[vr t1, vi 65533, vi 0, vi 3] [(.int (3 : Int32))]) (fun _ k => XS.iloadN X21.here hx rfl (hb hby d22_6) rfl k) ?_
  refine bN T21 (mkF m 8 #[vr t1, vi 65533, vi 0, vi 3] [(.ref t1), (.int (3 : Int32))]) (fun _ k => XS.aloadN X21.here hx rfl (hb hby d22_7) rfl rfl k) ?_
  obtain ⟨cl22, Ar22, q22, S22, N_22, H22, G22⟩ := id V_t1
  refine bN T21 (mkF m 9 #[vr t1, vi 65533, vi 0, vi 3] [(.int (6 : Int32)), (.int (3 : Int32))]) (fun _ k => X21.arraylength hx (by rw [e21]; exact Ar22.1) (State.isArrayOf_alike hZ.alike Ar22.2.1) (g := (mkF m 8 #[vr t1, vi 65533, vi 0, vi 3] [(.ref t1), (.int (3 : Int32))])) rfl rfl (hb hby d22_8) _ (by rw [len_of S22 N_22]; exact k)) ?_
  refine bN T21 (mkF m 10 #[vr t1, vi 65533, vi 0, vi 3] [(.int (1 : Int32)), (.int (6 : Int32)), (.int (3 : Int32))]) (fun _ k => XS.iconst X21.here hx rfl (hb hby d22_9) k) ?_
  refine bN T21 (mkF m 11 #[vr t1, vi 65533, vi 0, vi 3] [(.int (3 : Int32)), (.int (3 : Int32))]) (fun _ k => XS.ishr X21.here hx rfl (hb hby d22_10) rfl k) ?_
  obtain ⟨_, _, ⟨T23, L23, k23, n23⟩, -, X23, ⟨Lc23, hQ23, l23, y23, z23⟩, st23⟩ := Jvm.LawKit.callS X21 hx (y := yy17) hown (mvT hZ (hw _ (mo 106 rfl))) (mvT hZ (hw _ (mo 107 rfl))) (mvT hZ (hw _ (mo 104 rfl))) (mvT hZ (hw _ (mo 108 rfl))) (by decide) (backOf (W := 0) (min_u_3 l Z a0 hw []   h0 n0 Z0 ) hZ (hw _ (mo 108 rfl)) (hw _ (mo 104 rfl)) (by decide) (by decide)) (g := (mkF m 11 #[vr t1, vi 65533, vi 0, vi 3] [(.int (3 : Int32)), (.int (3 : Int32))])) rfl (by rw [hml]; rfl) (argsL := [(.int (3 : Int32)), (.int (3 : Int32))]) (rest := []) (lenOf pd_14 rfl) rfl (Nat.le_of_eq rfl) (hb hby d22_11) (fun _ _ => ⟨rfl, e21, (by decide : 0 ≤ _), (by decide : 0 ≤ _)⟩)
  dsimp only [Pt.U, Pt.locs, Pt.cells, Pt.slots] at X23 l23 y23 z23 st23 hQ23
  subst l23 y23 z23
  obtain ⟨rfl, N23q, e23⟩ := hQ23
  have N23 := Fr.app N21 N23q
  refine bN T23 (mkF m 14 #[vr t1, vi 65533, vi 0, vi 3] [(.int (3 : Int32))]) (fun _ k => st23 _ k) ?_
  refine bN T23 (mkF m 15 #[vr t1, vi 65533, vi 0, vi 3] []) (fun _ k => XS.istoreN X23.here hx rfl (hb hby d22_14) rfl rfl k) ?_
  refine bN T23 (mkF m 16 #[vr t1, vi 65533, vi 0, vi 3] [(ii 0)]) (fun _ k => XS.iloadN X23.here hx rfl (hb hby d22_15) rfl k) ?_
  refine bN T23 (mkF m 17 #[vr t1, vi 65533, vi 0, vi 3] [(.int (3 : Int32)), (ii 0)]) (fun _ k => XS.iloadN X23.here hx rfl (hb hby d22_16) rfl k) ?_
  refine bN T23 (mkF m 22 #[vr t1, vi 65533, vi 0, vi 3] []) (fun _ k => XS.icmpYes X23.here hx rfl (pc0 := 17) (pc' := 22) rfl (hb hby d22_17) rfl (tlt (by decide)).1 (by decide) (by decide) k) ?_
  refine bN T23 (mkF m 23 #[vr t1, vi 65533, vi 0, vi 3] [(.int (65533 : Int32))]) (fun _ k => XS.iloadN X23.here hx rfl (hb hby d22_22) rfl k) ?_
  refine bN T23 (mkF m 25 #[vr t1, vi 65533, vi 0, vi 3] [(.int (65536 : Int32)), (.int (65533 : Int32))]) (fun _ k => ldcI X23 hx hown (mvT hZ (hw _ (mo 109 rfl))) rfl (hb hby d22_23) k) ?_
  refine bN T23 (mkF m 28 #[vr t1, vi 65533, vi 0, vi 3] []) (fun _ k => XS.icmpNo X23.here hx rfl (hb hby d22_25) rfl (tlt (by decide)).2.1 k) ?_
  refine bN T23 (mkF m 29 #[vr t1, vi 65533, vi 0, vi 3] [(.ref t1)]) (fun _ k => XS.aloadN X23.here hx rfl (hb hby d22_28) rfl rfl k) ?_
  refine bN T23 (mkF m 30 #[vr t1, vi 65533, vi 0, vi 3] [(.int (65533 : Int32)), (.ref t1)]) (fun _ k => XS.iloadN X23.here hx rfl (hb hby d22_29) rfl k) ?_
  refine bN T23 (mkF m 31 #[vr t1, vi 65533, vi 0, vi 3] [(ii 0), (.int (65533 : Int32)), (.ref t1)]) (fun _ k => XS.iloadN X23.here hx rfl (hb hby d22_30) rfl k) ?_
  refine bN T23 (mkF m 32 #[vr t1, vi 65533, vi 0, vi 3] [(.int (3 : Int32)), (ii 0), (.int (65533 : Int32)), (.ref t1)]) (fun _ k => XS.iloadN X23.here hx rfl (hb hby d22_31) rfl k) ?_
  obtain ⟨_, _, ⟨T24, L24, k24, n24⟩, -, X24, ⟨Lc24, hQ24, l24, y24, z24⟩, st24⟩ := Jvm.LawKit.callS X23 hx (y := yy23) hown (mvT hZ (hw _ (mo 110 rfl))) (mvT hZ (hw _ (mo 111 rfl))) (mvT hZ (hw _ (mo 71 rfl))) (mvT hZ (hw _ (mo 112 rfl))) (by decide) (backOf (W := 0) (ich_u_3 l Z a0 hw [] t1 k1 sf c0 c1 c2 h0 n0 Z0 S_AD S_HI S_LO hsf S_SF hr0 hr1 hr2 V_t1) hZ (hw _ (mo 112 rfl)) (hw _ (mo 71 rfl)) (by decide) (by decide)) (g := (mkF m 32 #[vr t1, vi 65533, vi 0, vi 3] [(.int (3 : Int32)), (ii 0), (.int (65533 : Int32)), (.ref t1)])) rfl (by rw [hml]; rfl) (argsL := [(.ref t1), (.int (65533 : Int32)), (ii 0), (.int (3 : Int32))]) (rest := []) (lenOf pd_13 rfl) rfl (Nat.le_of_eq rfl) (hb hby d22_32) (fun _ _ => ⟨rfl, e23, (by decide : 0 ≤ _), (by decide : 0 ≤ _)⟩)
  dsimp only [Pt.U, Pt.locs, Pt.cells, Pt.slots] at X24 l24 y24 z24 st24 hQ24
  subst l24 y24 z24
  obtain ⟨rfl, N24q, e24⟩ := hQ24
  have N24 := Fr.app N23 N24q
  refine bN T24 (mkF m 35 #[vr t1, vi 65533, vi 0, vi 3] [(.int (own_i3 c0 c1 c2))]) (fun _ k => st24 _ k) ?_
  refine own_ret X24 hlk (v := some (.int (own_i3 c0 c1 c2))) (nvr Bd.returns) (fun fs hr => retI X24 hx Bd.returns (hb hby d22_35) hr) ?_ (by decide) (by decide)
  rw [e24]
  exact ⟨rfl, N24, rfl⟩
theorem ef_ix2_u_3 (m : MethodId) (a : Addr) : entryFrame m #[(.ref a), (.int (65533 : Int32)), (ii 0)] 3 = mkF m 0 #[vr a, vi 65533, vi 0] [] := rfl
def Q_ix2_u_3 (Z : State) (a t1 : Addr) (k1 : ClassId) (cs c0 : Int32) (c1 c2 : Int32) (sf : Value) (h0 : Heap) (n0 : Nat) (v : Option Value) (h : Heap) (L : List Loc) : Prop := v = some (.int (own_i3 c0 c1 c2)) ∧ Fr n0 L ∧ h = h0
theorem ix2_u_3 (l : Launch) (Z : State) (a0 : Array Value) (hw : HW Z a0) (ws : List Jvm.Cond) (a t1 : Addr) (k1 : ClassId) (cs c0 : Int32) (c1 c2 : Int32) (sf : Value) (h0 : Heap) (n0 : Nat) (Z0 : n0 ≤ h0.size) (E_a : Exa Z h0 a "java/lang/String") (F_coder_a : Fld Z h0 a "java/lang/String" "coder" "B" (.int (1 : Int32))) (F_value_a : Fld Z h0 a "java/lang/String" "value" "[B" (.ref t1)) (V_t1 : Arv Z h0 t1 k1 .byte (6 : Int32) (wb3 c0 c1 c2) (ii 0)) (S_CS : Sta Z h0 "java/lang/String" "COMPACT_STRINGS" "Z" (.int cs)) (hcs : ¬ cs = (0 : Int32)) (S_AD : AD Z h0) (S_HI : HI Z h0) (S_LO : LO Z h0) (hsf : sf.isRef = true) (S_SF : Sta Z h0 "jdk/internal/util/Preconditions" "SIOOBE_FORMATTER" "Ljava/util/function/BiFunction;" sf) (hr0 : 0 ≤ c0.toInt ∧ c0.toInt ≤ 65535) (hr1 : 0 ≤ c1.toInt ∧ c1.toInt ≤ 65535) (hr2 : 0 ≤ c2.toInt ∧ c2.toInt ≤ 65535) :
    own_M l yy25 jdk_42_method_80_code 3 (some .int) ws rr45 Z #[(.ref a), (.int (65533 : Int32)), (ii 0)] h0 (Q_ix2_u_3 Z a t1 k1 cs c0 c1 c2 sf h0 n0) := by
  refine own_bd (plainFor_of_name pn_8) fun p e s m below meth c s₁ Bd hx hby hml hown hnm hlk hZ X0 e0 => ?_
  rw [ef_ix2_u_3 m a]
  refine bN s₁ (mkF m 1 #[vr a, vi 65533, vi 0] [(.ref a)]) (fun _ k => XS.aloadN X0.here hx rfl (hb hby d8_0) rfl rfl k) ?_
  obtain ⟨cq21, kq21, q21a, q21b, q21c⟩ := isOf hZ e0 E_a
  obtain ⟨_, _, ⟨T21, L21, k21, n21⟩, -, X21, ⟨Lc21, hQ21, l21, y21, z21⟩, st21⟩ := X0.virtualBack hx (y := yy12) (z := yy12) hown (mvT hZ (hw _ (mo 46 rfl))) (mvT hZ (hw _ (mo 47 rfl))) (notFace_of_selects (args := #[]) (mvT hZ (hw _ (mo 49 rfl)))) (mvT hZ (hw _ (mo 49 rfl))) (mvT hZ (hw _ (mo 48 rfl))) (by decide) (backOf (W := 0) (isl_1 l Z a0 hw [] a cs h0 n0 Z0 F_coder_a S_CS hcs) hZ (hw _ (mo 50 rfl)) (hw _ (mo 12 rfl)) (by decide) (by decide)) q21a q21c (g := (mkF m 1 #[vr a, vi 65533, vi 0] [(.ref a)])) rfl (by rw [hml]; rfl) (Steps.refl _) (argsL := []) (rest := []) (lenOf pd_15 rfl) rfl (Nat.le_of_eq rfl) (hb hby d8_1) (fun _ _ => ⟨rfl, e0, (by decide : 0 ≤ _), (by decide : 0 ≤ _)⟩)
  dsimp only [Pt.U, Pt.locs, Pt.cells, Pt.slots] at X21 l21 y21 z21 st21 hQ21
  subst l21 y21 z21
  obtain ⟨rfl, N21q, e21⟩ := hQ21
  have N21 := Fr.app (Fr.nil n0) N21q
  refine bN T21 (mkF m 4 #[vr a, vi 65533, vi 0] [(ii 0)]) (fun _ k => st21.trans k) ?_
  refine bN T21 (mkF m 23 #[vr a, vi 65533, vi 0] []) (fun _ k => XS.ifYes X21.here hx rfl (pc0 := 4) (pc' := 23) rfl (hb hby d8_4) rfl ((if0 _ _).trans (teq (by decide)).1) (by decide) (by decide) k) ?_
  refine bN T21 (mkF m 24 #[vr a, vi 65533, vi 0] [(.ref a)]) (fun _ k => XS.aloadN X21.here hx rfl (hb hby d8_23) rfl rfl k) ?_
  obtain ⟨T22, X22, e22, st22⟩ := getF X21 hx hZ hown (host := "") (Or.inl (hw _ (mo 29 rfl))) Via.refl e21 F_value_a (g := (mkF m 24 #[vr a, vi 65533, vi 0] [(.ref a)])) rfl rfl (hb hby d8_24)
  refine bN T22 (mkF m 27 #[vr a, vi 65533, vi 0] [(.ref t1)]) (fun _ k => st22 _ k) ?_
  refine bN T22 (mkF m 28 #[vr a, vi 65533, vi 0] [(.int (65533 : Int32)), (.ref t1)]) (fun _ k => XS.iloadN X22.here hx rfl (hb hby d8_27) rfl k) ?_
  refine bN T22 (mkF m 29 #[vr a, vi 65533, vi 0] [(ii 0), (.int (65533 : Int32)), (.ref t1)]) (fun _ k => XS.iloadN X22.here hx rfl (hb hby d8_28) rfl k) ?_
  refine bN T22 (mkF m 30 #[vr a, vi 65533, vi 0] [(.ref a), (ii 0), (.int (65533 : Int32)), (.ref t1)]) (fun _ k => XS.aloadN X22.here hx rfl (hb hby d8_29) rfl rfl k) ?_
  obtain ⟨cq23, kq23, q23a, q23b, q23c⟩ := isOf hZ e22 E_a
  obtain ⟨_, _, ⟨T23, L23, k23, n23⟩, -, X23, ⟨Lc23, hQ23, l23, y23, z23⟩, st23⟩ := X22.virtualBack hx (y := yy16) (z := yy16) hown (mvT hZ (hw _ (mo 52 rfl))) (mvT hZ (hw _ (mo 53 rfl))) (notFace_of_selects (args := #[]) (mvT hZ (hw _ (mo 55 rfl)))) (mvT hZ (hw _ (mo 55 rfl))) (mvT hZ (hw _ (mo 54 rfl))) (by decide) (backOf (W := 3) (len_u_3 l Z a0 hw [] a t1 k1 cs c0 c1 c2 h0 n0 Z0 E_a F_coder_a F_value_a V_t1 S_CS hcs) hZ (hw _ (mo 56 rfl)) (hw _ (mo 12 rfl)) (by decide) (by decide)) q23a q23c (g := (mkF m 30 #[vr a, vi 65533, vi 0] [(.ref a), (ii 0), (.int (65533 : Int32)), (.ref t1)])) rfl (by rw [hml]; rfl) (Steps.refl _) (argsL := []) (rest := [(ii 0), (.int (65533 : Int32)), (.ref t1)]) (lenOf pd_16 rfl) rfl (Nat.le_of_eq rfl) (hb hby d8_30) (fun _ _ => ⟨rfl, e22, (by decide : 0 ≤ _), (by decide : 0 ≤ _)⟩)
  dsimp only [Pt.U, Pt.locs, Pt.cells, Pt.slots] at X23 l23 y23 z23 st23 hQ23
  subst l23 y23 z23
  obtain ⟨rfl, N23q, e23⟩ := hQ23
  have N23 := Fr.app N21 N23q
  refine bN T23 (mkF m 33 #[vr a, vi 65533, vi 0] [(.int (3 : Int32)), (ii 0), (.int (65533 : Int32)), (.ref t1)]) (fun _ k => st23.trans k) ?_
  obtain ⟨_, _, ⟨T24, L24, k24, n24⟩, -, X24, ⟨Lc24, hQ24, l24, y24, z24⟩, st24⟩ := Jvm.LawKit.callS X23 hx (y := yy24) hown (mvT hZ (hw _ (mo 99 rfl))) (mvT hZ (hw _ (mo 100 rfl))) (mvT hZ (hw _ (mo 71 rfl))) (mvT hZ (hw _ (mo 101 rfl))) (by decide) (backOf (W := 0) (iof_u_3 l Z a0 hw [] t1 k1 sf c0 c1 c2 h0 n0 Z0 S_AD S_HI S_LO hsf S_SF hr0 hr1 hr2 V_t1) hZ (hw _ (mo 101 rfl)) (hw _ (mo 71 rfl)) (by decide) (by decide)) (g := (mkF m 33 #[vr a, vi 65533, vi 0] [(.int (3 : Int32)), (ii 0), (.int (65533 : Int32)), (.ref t1)])) rfl (by rw [hml]; rfl) (argsL := [(.ref t1), (.int (65533 : Int32)), (ii 0), (.int (3 : Int32))]) (rest := []) (lenOf pd_13 rfl) rfl (Nat.le_of_eq rfl) (hb hby d8_33) (fun _ _ => ⟨rfl, e23, (by decide : 0 ≤ _), (by decide : 0 ≤ _)⟩)
  dsimp only [Pt.U, Pt.locs, Pt.cells, Pt.slots] at X24 l24 y24 z24 st24 hQ24
  subst l24 y24 z24
  obtain ⟨rfl, N24q, e24⟩ := hQ24
  have N24 := Fr.app N23 N24q
  refine bN T24 (mkF m 36 #[vr a, vi 65533, vi 0] [(.int (own_i3 c0 c1 c2))]) (fun _ k => st24 _ k) ?_
  refine own_ret X24 hlk (v := some (.int (own_i3 c0 c1 c2))) (nvr Bd.returns) (fun fs hr => retI X24 hx Bd.returns (hb hby d8_36) hr) ?_ (by decide) (by decide)
  rw [e24]
  exact ⟨rfl, N24, rfl⟩
theorem ef_ix1_u_3 (m : MethodId) (a : Addr) : entryFrame m #[(.ref a), (.int (65533 : Int32))] 2 = mkF m 0 #[vr a, vi 65533] [] := rfl
def Q_ix1_u_3 (Z : State) (a t1 : Addr) (k1 : ClassId) (cs c0 : Int32) (c1 c2 : Int32) (sf : Value) (h0 : Heap) (n0 : Nat) (v : Option Value) (h : Heap) (L : List Loc) : Prop := v = some (.int (own_i3 c0 c1 c2)) ∧ Fr n0 L ∧ h = h0
theorem ix1_u_3 (l : Launch) (Z : State) (a0 : Array Value) (hw : HW Z a0) (ws : List Jvm.Cond) (a t1 : Addr) (k1 : ClassId) (cs c0 : Int32) (c1 c2 : Int32) (sf : Value) (h0 : Heap) (n0 : Nat) (Z0 : n0 ≤ h0.size) (E_a : Exa Z h0 a "java/lang/String") (F_coder_a : Fld Z h0 a "java/lang/String" "coder" "B" (.int (1 : Int32))) (F_value_a : Fld Z h0 a "java/lang/String" "value" "[B" (.ref t1)) (V_t1 : Arv Z h0 t1 k1 .byte (6 : Int32) (wb3 c0 c1 c2) (ii 0)) (S_CS : Sta Z h0 "java/lang/String" "COMPACT_STRINGS" "Z" (.int cs)) (hcs : ¬ cs = (0 : Int32)) (S_AD : AD Z h0) (S_HI : HI Z h0) (S_LO : LO Z h0) (hsf : sf.isRef = true) (S_SF : Sta Z h0 "jdk/internal/util/Preconditions" "SIOOBE_FORMATTER" "Ljava/util/function/BiFunction;" sf) (hr0 : 0 ≤ c0.toInt ∧ c0.toInt ≤ 65535) (hr1 : 0 ≤ c1.toInt ∧ c1.toInt ≤ 65535) (hr2 : 0 ≤ c2.toInt ∧ c2.toInt ≤ 65535) :
    own_M l yy26 jdk_42_method_79_code 2 (some .int) ws rr46 Z #[(.ref a), (.int (65533 : Int32))] h0 (Q_ix1_u_3 Z a t1 k1 cs c0 c1 c2 sf h0 n0) := by
  refine own_bd (plainFor_of_name pn_7) fun p e s m below meth c s₁ Bd hx hby hml hown hnm hlk hZ X0 e0 => ?_
  rw [ef_ix1_u_3 m a]
  refine bN s₁ (mkF m 1 #[vr a, vi 65533] [(.ref a)]) (fun _ k => XS.aloadN X0.here hx rfl (hb hby d7_0) rfl rfl k) ?_
  refine bN s₁ (mkF m 2 #[vr a, vi 65533] [(.int (65533 : Int32)), (.ref a)]) (fun _ k => XS.iloadN X0.here hx rfl (hb hby d7_1) rfl k) ?_
  refine bN s₁ (mkF m 3 #[vr a, vi 65533] [(ii 0), (.int (65533 : Int32)), (.ref a)]) (fun _ k => XS.iconst X0.here hx rfl (hb hby d7_2) k) ?_
  obtain ⟨cq21, kq21, q21a, q21b, q21c⟩ := isOf hZ e0 E_a
  obtain ⟨_, _, ⟨T21, L21, k21, n21⟩, -, X21, ⟨Lc21, hQ21, l21, y21, z21⟩, st21⟩ := X0.virtualBack hx (y := yy25) (z := yy25) hown (mvT hZ (hw _ (mo 41 rfl))) (mvT hZ (hw _ (mo 42 rfl))) (notFace_of_selects (args := #[]) (mvT hZ (hw _ (mo 44 rfl)))) (mvT hZ (hw _ (mo 44 rfl))) (mvT hZ (hw _ (mo 43 rfl))) (by decide) (backOf (W := 0) (ix2_u_3 l Z a0 hw [] a t1 k1 cs c0 c1 c2 sf h0 n0 Z0 E_a F_coder_a F_value_a V_t1 S_CS hcs S_AD S_HI S_LO hsf S_SF hr0 hr1 hr2) hZ (hw _ (mo 45 rfl)) (hw _ (mo 12 rfl)) (by decide) (by decide)) q21a q21c (g := (mkF m 3 #[vr a, vi 65533] [(ii 0), (.int (65533 : Int32)), (.ref a)])) rfl (by rw [hml]; rfl) (Steps.refl _) (argsL := [(.int (65533 : Int32)), (ii 0)]) (rest := []) (lenOf pd_14 rfl) rfl (Nat.le_of_eq rfl) (hb hby d7_3) (fun _ _ => ⟨rfl, e0, (by decide : 0 ≤ _), (by decide : 0 ≤ _)⟩)
  dsimp only [Pt.U, Pt.locs, Pt.cells, Pt.slots] at X21 l21 y21 z21 st21 hQ21
  subst l21 y21 z21
  obtain ⟨rfl, N21q, e21⟩ := hQ21
  have N21 := Fr.app (Fr.nil n0) N21q
  refine bN T21 (mkF m 6 #[vr a, vi 65533] [(.int (own_i3 c0 c1 c2))]) (fun _ k => st21.trans k) ?_
  refine own_ret X21 hlk (v := some (.int (own_i3 c0 c1 c2))) (nvr Bd.returns) (fun fs hr => retI X21 hx Bd.returns (hb hby d7_6) hr) ?_ (by decide) (by decide)
  rw [e21]
  exact ⟨rfl, N21, rfl⟩
theorem ef_hub_u_3 (m : MethodId) (a : Addr) : entryFrame m #[(.ref a)] 1 = mkF m 0 #[vr a] [] := rfl
def Q_hub_u_3 (Z : State) (a t1 : Addr) (k1 : ClassId) (cs c0 : Int32) (c1 c2 : Int32) (sf : Value) (h0 : Heap) (n0 : Nat) (v : Option Value) (h : Heap) (L : List Loc) : Prop := v = some (.int (if (own_i3 c0 c1 c2) < (0 : Int32) then (0 : Int32) else (1 : Int32))) ∧ Fr n0 L ∧ h = h0
theorem hub_u_3 (l : Launch) (Z : State) (a0 : Array Value) (hw : HW Z a0) (ws : List Jvm.Cond) (a t1 : Addr) (k1 : ClassId) (cs c0 : Int32) (c1 c2 : Int32) (sf : Value) (h0 : Heap) (n0 : Nat) (Z0 : n0 ≤ h0.size) (E_a : Exa Z h0 a "java/lang/String") (F_coder_a : Fld Z h0 a "java/lang/String" "coder" "B" (.int (1 : Int32))) (F_value_a : Fld Z h0 a "java/lang/String" "value" "[B" (.ref t1)) (V_t1 : Arv Z h0 t1 k1 .byte (6 : Int32) (wb3 c0 c1 c2) (ii 0)) (S_CS : Sta Z h0 "java/lang/String" "COMPACT_STRINGS" "Z" (.int cs)) (hcs : ¬ cs = (0 : Int32)) (S_AD : AD Z h0) (S_HI : HI Z h0) (S_LO : LO Z h0) (hsf : sf.isRef = true) (S_SF : Sta Z h0 "jdk/internal/util/Preconditions" "SIOOBE_FORMATTER" "Ljava/util/function/BiFunction;" sf) (hr0 : 0 ≤ c0.toInt ∧ c0.toInt ≤ 65535) (hr1 : 0 ≤ c1.toInt ∧ c1.toInt ≤ 65535) (hr2 : 0 ≤ c2.toInt ∧ c2.toInt ≤ 65535) :
    own_M l yy27 prog_8_method_2_code 1 (some .boolean) ws rr47 Z #[(.ref a)] h0 (Q_hub_u_3 Z a t1 k1 cs c0 c1 c2 sf h0 n0) := by
  refine own_bd (plainFor_of_name pn_6) fun p e s m below meth c s₁ Bd hx hby hml hown hnm hlk hZ X0 e0 => ?_
  rw [ef_hub_u_3 m a]
  refine bN s₁ (mkF m 1 #[vr a] [(.ref a)]) (fun _ k => XS.aloadN X0.here hx rfl (hb hby d6_0) rfl rfl k) ?_
  refine bN s₁ (mkF m 3 #[vr a] [(.int (65533 : Int32)), (.ref a)]) (fun _ k => ldcI X0 hx hown (mvT hZ (hw _ (mo 35 rfl))) rfl (hb hby d6_1) k) ?_
  obtain ⟨cq21, kq21, q21a, q21b, q21c⟩ := isOf hZ e0 E_a
  obtain ⟨_, _, ⟨T21, L21, k21, n21⟩, -, X21, ⟨Lc21, hQ21, l21, y21, z21⟩, st21⟩ := X0.virtualBack hx (y := yy26) (z := yy26) hown (mvT hZ (hw _ (mo 36 rfl))) (mvT hZ (hw _ (mo 37 rfl))) (notFace_of_selects (args := #[]) (mvT hZ (hw _ (mo 39 rfl)))) (mvT hZ (hw _ (mo 39 rfl))) (mvT hZ (hw _ (mo 38 rfl))) (by decide) (backOf (W := 0) (ix1_u_3 l Z a0 hw [] a t1 k1 cs c0 c1 c2 sf h0 n0 Z0 E_a F_coder_a F_value_a V_t1 S_CS hcs S_AD S_HI S_LO hsf S_SF hr0 hr1 hr2) hZ (hw _ (mo 40 rfl)) (hw _ (mo 12 rfl)) (by decide) (by decide)) q21a q21c (g := (mkF m 3 #[vr a] [(.int (65533 : Int32)), (.ref a)])) rfl (by rw [hml]; rfl) (Steps.refl _) (argsL := [(.int (65533 : Int32))]) (rest := []) (lenOf pd_4 rfl) rfl (Nat.le_of_eq rfl) (hb hby d6_3) (fun _ _ => ⟨rfl, e0, (by decide : 0 ≤ _), (by decide : 0 ≤ _)⟩)
  dsimp only [Pt.U, Pt.locs, Pt.cells, Pt.slots] at X21 l21 y21 z21 st21 hQ21
  subst l21 y21 z21
  obtain ⟨rfl, N21q, e21⟩ := hQ21
  have N21 := Fr.app (Fr.nil n0) N21q
  refine bN T21 (mkF m 6 #[vr a] [(.int (own_i3 c0 c1 c2))]) (fun _ k => st21.trans k) ?_
  by_cases hc6_22 : (own_i3 c0 c1 c2) < (0 : Int32)
  · skip
    refine bN T21 (mkF m 13 #[vr a] []) (fun _ k => XS.ifYes X21.here hx rfl (pc0 := 6) (pc' := 13) rfl (hb hby d6_6) rfl ((if0 _ _).trans (tlt hc6_22).1) (by decide) (by decide) k) ?_
    refine bN T21 (mkF m 14 #[vr a] [(ii 0)]) (fun _ k => XS.iconst X21.here hx rfl (hb hby d6_13) k) ?_
    refine own_ret X21 hlk (v := some (ii 0)) (nvr Bd.returns) (fun fs hr => retN X21 hx (t := .boolean) Bd.returns (by simp) (hb hby d6_14) hr) ?_ (by decide) (by decide)
    rw [e21]
    exact ⟨congrArg (fun z => some (Value.int z)) (if_pos hc6_22).symm, N21, rfl⟩
  · skip
    refine bN T21 (mkF m 9 #[vr a] []) (fun _ k => XS.ifNo X21.here hx rfl (hb hby d6_6) rfl ((if0 _ _).trans (flt hc6_22).1) k) ?_
    refine bN T21 (mkF m 10 #[vr a] [(.int (1 : Int32))]) (fun _ k => XS.iconst X21.here hx rfl (hb hby d6_9) k) ?_
    refine bN T21 (mkF m 14 #[vr a] [(.int (1 : Int32))]) (fun _ k => XS.goto X21.here hx rfl (pc0 := 10) (pc' := 14) rfl (hb hby d6_10) (by decide) (by decide) k) ?_
    refine own_ret X21 hlk (v := some (.int (1 : Int32))) (nvr Bd.returns) (fun fs hr => retN X21 hx (t := .boolean) Bd.returns (by simp) (hb hby d6_14) hr) ?_ (by decide) (by decide)
    rw [e21]
    exact ⟨congrArg (fun z => some (Value.int z)) (if_neg hc6_22).symm, N21, rfl⟩
theorem ef_len_u_4 (m : MethodId) (a : Addr) : entryFrame m #[(.ref a)] 1 = mkF m 0 #[vr a] [] := rfl
def Q_len_u_4 (Z : State) (a t1 : Addr) (k1 : ClassId) (cs c0 : Int32) (c1 c2 c3 : Int32) (h0 : Heap) (n0 : Nat) (v : Option Value) (h : Heap) (L : List Loc) : Prop := v = some (.int (4 : Int32)) ∧ Fr n0 L ∧ h = h0
theorem len_u_4 (l : Launch) (Z : State) (a0 : Array Value) (hw : HW Z a0) (ws : List Jvm.Cond) (a t1 : Addr) (k1 : ClassId) (cs c0 : Int32) (c1 c2 c3 : Int32) (h0 : Heap) (n0 : Nat) (Z0 : n0 ≤ h0.size) (E_a : Exa Z h0 a "java/lang/String") (F_coder_a : Fld Z h0 a "java/lang/String" "coder" "B" (.int (1 : Int32))) (F_value_a : Fld Z h0 a "java/lang/String" "value" "[B" (.ref t1)) (V_t1 : Arv Z h0 t1 k1 .byte (8 : Int32) (wb4 c0 c1 c2 c3) (ii 0)) (S_CS : Sta Z h0 "java/lang/String" "COMPACT_STRINGS" "Z" (.int cs)) (hcs : ¬ cs = (0 : Int32)) :
    own_M l yy16 jdk_42_method_54_code 1 (some .int) ws rr40 Z #[(.ref a)] h0 (Q_len_u_4 Z a t1 k1 cs c0 c1 c2 c3 h0 n0) := by
  refine own_bd (plainFor_of_name pn_10) fun p e s m below meth c s₁ Bd hx hby hml hown hnm hlk hZ X0 e0 => ?_
  rw [ef_len_u_4 m a]
  refine bN s₁ (mkF m 1 #[vr a] [(.ref a)]) (fun _ k => XS.aloadN X0.here hx rfl (hb hby d10_0) rfl rfl k) ?_
  obtain ⟨T21, X21, e21, st21⟩ := getF X0 hx hZ hown (host := "") (Or.inl (hw _ (mo 29 rfl))) Via.refl e0 F_value_a (g := (mkF m 1 #[vr a] [(.ref a)])) rfl rfl (hb hby d10_1)
  refine bN T21 (mkF m 4 #[vr a] [(.ref t1)]) (fun _ k => st21 _ k) ?_
  obtain ⟨cl22, Ar22, q22, S22, N_22, H22, G22⟩ := id V_t1
  refine bN T21 (mkF m 5 #[vr a] [(.int (8 : Int32))]) (fun _ k => X21.arraylength hx (by rw [e21]; exact Ar22.1) (State.isArrayOf_alike hZ.alike Ar22.2.1) (g := (mkF m 4 #[vr a] [(.ref t1)])) rfl rfl (hb hby d10_4) _ (by rw [len_of S22 N_22]; exact k)) ?_
  refine bN T21 (mkF m 6 #[vr a] [(.ref a), (.int (8 : Int32))]) (fun _ k => XS.aloadN X21.here hx rfl (hb hby d10_5) rfl rfl k) ?_
  obtain ⟨cq23, kq23, q23a, q23b, q23c⟩ := isOf hZ e21 E_a
  obtain ⟨_, _, ⟨T23, L23, k23, n23⟩, -, X23, ⟨Lc23, hQ23, l23, y23, z23⟩, st23⟩ := X21.virtualBack hx (y := yy13) (z := yy13) hown (mvT hZ (hw _ (mo 57 rfl))) (mvT hZ (hw _ (mo 58 rfl))) (notFace_of_selects (args := #[]) (mvT hZ (hw _ (mo 60 rfl)))) (mvT hZ (hw _ (mo 60 rfl))) (mvT hZ (hw _ (mo 59 rfl))) (by decide) (backOf (W := 1) (cdr_1 l Z a0 hw [] a cs h0 n0 Z0 F_coder_a S_CS hcs) hZ (hw _ (mo 61 rfl)) (hw _ (mo 12 rfl)) (by decide) (by decide)) q23a q23c (g := (mkF m 6 #[vr a] [(.ref a), (.int (8 : Int32))])) rfl (by rw [hml]; rfl) (Steps.refl _) (argsL := []) (rest := [(.int (8 : Int32))]) (lenOf pd_8 rfl) rfl (Nat.le_of_eq rfl) (hb hby d10_6) (fun _ _ => ⟨rfl, e21, (by decide : 0 ≤ _), (by decide : 0 ≤ _)⟩)
  dsimp only [Pt.U, Pt.locs, Pt.cells, Pt.slots] at X23 l23 y23 z23 st23 hQ23
  subst l23 y23 z23
  obtain ⟨rfl, N23q, e23⟩ := hQ23
  have N23 := Fr.app (Fr.nil n0) N23q
  refine bN T23 (mkF m 9 #[vr a] [(.int (1 : Int32)), (.int (8 : Int32))]) (fun _ k => st23.trans k) ?_
  refine bN T23 (mkF m 10 #[vr a] [(.int (4 : Int32))]) (fun _ k => XS.ishr X23.here hx rfl (hb hby d10_9) rfl k) ?_
  refine own_ret X23 hlk (v := some (.int (4 : Int32))) (nvr Bd.returns) (fun fs hr => retI X23 hx Bd.returns (hb hby d10_10) hr) ?_ (by decide) (by decide)
  rw [e23]
  exact ⟨rfl, N23, rfl⟩
theorem ef_min_u_4 (m : MethodId)  : entryFrame m #[(.int (4 : Int32)), (.int (4 : Int32))] 2 = mkF m 0 #[vi 4, vi 4] [] := rfl
def Q_min_u_4 (Z : State)  (h0 : Heap) (n0 : Nat) (v : Option Value) (h : Heap) (L : List Loc) : Prop := v = some (.int (4 : Int32)) ∧ Fr n0 L ∧ h = h0
theorem min_u_4 (l : Launch) (Z : State) (a0 : Array Value) (hw : HW Z a0) (ws : List Jvm.Cond)  (h0 : Heap) (n0 : Nat) (Z0 : n0 ≤ h0.size) :
    own_M l yy17 jdk_29_method_69_code 2 (some .int) ws rr0 Z #[(.int (4 : Int32)), (.int (4 : Int32))] h0 (Q_min_u_4 Z  h0 n0) := by
  refine own_bd (Jvm.Free.JP.mathPlain rfl (by decide +kernel)) fun p e s m below meth c s₁ Bd hx hby hml hown hnm hlk hZ X0 e0 => ?_
  rw [ef_min_u_4 m ]
  refine bN s₁ (mkF m 1 #[vi 4, vi 4] [(.int (4 : Int32))]) (fun _ k => XS.iloadN X0.here hx rfl (hb hby d24_0) rfl k) ?_
  refine bN s₁ (mkF m 2 #[vi 4, vi 4] [(.int (4 : Int32)), (.int (4 : Int32))]) (fun _ k => XS.iloadN X0.here hx rfl (hb hby d24_1) rfl k) ?_
  refine bN s₁ (mkF m 5 #[vi 4, vi 4] []) (fun _ k => XS.icmpNo X0.here hx rfl (hb hby d24_2) rfl (flt (by decide)).2.2.1 k) ?_
  refine bN s₁ (mkF m 6 #[vi 4, vi 4] [(.int (4 : Int32))]) (fun _ k => XS.iloadN X0.here hx rfl (hb hby d24_5) rfl k) ?_
  refine bN s₁ (mkF m 10 #[vi 4, vi 4] [(.int (4 : Int32))]) (fun _ k => XS.goto X0.here hx rfl (pc0 := 6) (pc' := 10) rfl (hb hby d24_6) (by decide) (by decide) k) ?_
  refine own_ret X0 hlk (v := some (.int (4 : Int32))) (nvr Bd.returns) (fun fs hr => retI X0 hx Bd.returns (hb hby d24_10) hr) ?_ (by decide) (by decide)
  rw [e0]
  exact ⟨rfl, (Fr.nil n0), rfl⟩
theorem ef_ule_u_4 (m : MethodId) (t1 : Addr) : entryFrame m #[(.ref t1)] 1 = mkF m 0 #[vr t1] [] := rfl
def Q_ule_u_4 (Z : State) (t1 : Addr) (k1 : ClassId) (c0 c1 : Int32) (c2 c3 : Int32) (h0 : Heap) (n0 : Nat) (v : Option Value) (h : Heap) (L : List Loc) : Prop := v = some (.int (4 : Int32)) ∧ Fr n0 L ∧ h = h0
theorem ule_u_4 (l : Launch) (Z : State) (a0 : Array Value) (hw : HW Z a0) (ws : List Jvm.Cond) (t1 : Addr) (k1 : ClassId) (c0 c1 : Int32) (c2 c3 : Int32) (h0 : Heap) (n0 : Nat) (Z0 : n0 ≤ h0.size) (V_t1 : Arv Z h0 t1 k1 .byte (8 : Int32) (wb4 c0 c1 c2 c3) (ii 0)) :
    own_M l yy18 jdk_52_method_6_code 1 (some .int) ws rr0 Z #[(.ref t1)] h0 (Q_ule_u_4 Z t1 k1 c0 c1 c2 c3 h0 n0) := by
  refine own_bd (plainFor_of_name pn_27) fun p e s m below meth c s₁ Bd hx hby hml hown hnm hlk hZ X0 e0 => ?_
  rw [ef_ule_u_4 m t1]
  refine bN s₁ (mkF m 1 #[vr t1] [(.ref t1)]) (fun _ k => XS.aloadN X0.here hx rfl (hb hby d27_0) rfl rfl k) ?_
  obtain ⟨cl21, Ar21, q21, S21, N_21, H21, G21⟩ := id V_t1
  refine bN s₁ (mkF m 2 #[vr t1] [(.int (8 : Int32))]) (fun _ k => X0.arraylength hx (by rw [e0]; exact Ar21.1) (State.isArrayOf_alike hZ.alike Ar21.2.1) (g := (mkF m 1 #[vr t1] [(.ref t1)])) rfl rfl (hb hby d27_1) _ (by rw [len_of S21 N_21]; exact k)) ?_
  refine bN s₁ (mkF m 3 #[vr t1] [(.int (1 : Int32)), (.int (8 : Int32))]) (fun _ k => XS.iconst X0.here hx rfl (hb hby d27_2) k) ?_
  refine bN s₁ (mkF m 4 #[vr t1] [(.int (4 : Int32))]) (fun _ k => XS.ishr X0.here hx rfl (hb hby d27_3) rfl k) ?_
  refine own_ret X0 hlk (v := some (.int (4 : Int32))) (nvr Bd.returns) (fun fs hr => retI X0 hx Bd.returns (hb hby d27_4) hr) ?_ (by decide) (by decide)
  rw [e0]
  exact ⟨rfl, (Fr.nil n0), rfl⟩
theorem ef_cft_u_4 (m : MethodId) (sf : Value) (hsf : sf.isRef = true) : entryFrame m #[(ii 0), (.int (4 : Int32)), (.int (4 : Int32)), sf] 4 = mkF m 0 #[vi 0, vi 4, vi 4, .val sf] [] := by
  rcases ref_cases hsf with rfl | ⟨_, rfl⟩ <;> rfl
def Q_cft_u_4 (Z : State) (sf : Value) (h0 : Heap) (n0 : Nat) (v : Option Value) (h : Heap) (L : List Loc) : Prop := v = some (ii 0) ∧ Fr n0 L ∧ h = h0
theorem cft_u_4 (l : Launch) (Z : State) (a0 : Array Value) (hw : HW Z a0) (ws : List Jvm.Cond) (sf : Value) (h0 : Heap) (n0 : Nat) (Z0 : n0 ≤ h0.size) (hsf : sf.isRef = true) :
    own_M l yy19 jdk_41_method_12_code 4 (some .int) ws rr0 Z #[(ii 0), (.int (4 : Int32)), (.int (4 : Int32)), sf] h0 (Q_cft_u_4 Z sf h0 n0) := by
  refine own_bd (plainFor_of_name pn_29) fun p e s m below meth c s₁ Bd hx hby hml hown hnm hlk hZ X0 e0 => ?_
  rw [ef_cft_u_4 m sf hsf]
  refine bN s₁ (mkF m 1 #[vi 0, vi 4, vi 4, .val sf] [(ii 0)]) (fun _ k => XS.iloadN X0.here hx rfl (hb hby d29_0) rfl k) ?_
  refine bN s₁ (mkF m 4 #[vi 0, vi 4, vi 4, .val sf] []) (fun _ k => XS.ifNo X0.here hx rfl (hb hby d29_1) rfl ((if0 _ _).trans (flt (by decide)).1) k) ?_
  refine bN s₁ (mkF m 5 #[vi 0, vi 4, vi 4, .val sf] [(ii 0)]) (fun _ k => XS.iloadN X0.here hx rfl (hb hby d29_4) rfl k) ?_
  refine bN s₁ (mkF m 6 #[vi 0, vi 4, vi 4, .val sf] [(.int (4 : Int32)), (ii 0)]) (fun _ k => XS.iloadN X0.here hx rfl (hb hby d29_5) rfl k) ?_
  refine bN s₁ (mkF m 9 #[vi 0, vi 4, vi 4, .val sf] []) (fun _ k => XS.icmpNo X0.here hx rfl (hb hby d29_6) rfl (flt (by decide)).2.2.1 k) ?_
  refine bN s₁ (mkF m 10 #[vi 0, vi 4, vi 4, .val sf] [(.int (4 : Int32))]) (fun _ k => XS.iloadN X0.here hx rfl (hb hby d29_9) rfl k) ?_
  refine bN s₁ (mkF m 11 #[vi 0, vi 4, vi 4, .val sf] [(.int (4 : Int32)), (.int (4 : Int32))]) (fun _ k => XS.iloadN X0.here hx rfl (hb hby d29_10) rfl k) ?_
  refine bN s₁ (mkF m 22 #[vi 0, vi 4, vi 4, .val sf] []) (fun _ k => XS.icmpYes X0.here hx rfl (pc0 := 11) (pc' := 22) rfl (hb hby d29_11) rfl (flt (by decide)).2.2.2 (by decide) (by decide) k) ?_
  refine bN s₁ (mkF m 23 #[vi 0, vi 4, vi 4, .val sf] [(ii 0)]) (fun _ k => XS.iloadN X0.here hx rfl (hb hby d29_22) rfl k) ?_
  refine own_ret X0 hlk (v := some (ii 0)) (nvr Bd.returns) (fun fs hr => retI X0 hx Bd.returns (hb hby d29_23) hr) ?_ (by decide) (by decide)
  rw [e0]
  exact ⟨rfl, (Fr.nil n0), rfl⟩
theorem ef_cbs_u_4 (m : MethodId)  : entryFrame m #[(ii 0), (.int (4 : Int32)), (.int (4 : Int32))] 3 = mkF m 0 #[vi 0, vi 4, vi 4] [] := rfl
def Q_cbs_u_4 (Z : State) (sf : Value) (h0 : Heap) (n0 : Nat) (v : Option Value) (h : Heap) (L : List Loc) : Prop := v = none ∧ Fr n0 L ∧ h = h0
theorem cbs_u_4 (l : Launch) (Z : State) (a0 : Array Value) (hw : HW Z a0) (ws : List Jvm.Cond) (sf : Value) (h0 : Heap) (n0 : Nat) (Z0 : n0 ≤ h0.size) (hsf : sf.isRef = true) (S_SF : Sta Z h0 "jdk/internal/util/Preconditions" "SIOOBE_FORMATTER" "Ljava/util/function/BiFunction;" sf) :
    own_M l yy20 jdk_42_method_158_code 3 none ws rr41 Z #[(ii 0), (.int (4 : Int32)), (.int (4 : Int32))] h0 (Q_cbs_u_4 Z sf h0 n0) := by
  refine own_bd (plainFor_of_name pn_28) fun p e s m below meth c s₁ Bd hx hby hml hown hnm hlk hZ X0 e0 => ?_
  rw [ef_cbs_u_4 m ]
  refine bN s₁ (mkF m 1 #[vi 0, vi 4, vi 4] [(ii 0)]) (fun _ k => XS.iloadN X0.here hx rfl (hb hby d28_0) rfl k) ?_
  refine bN s₁ (mkF m 2 #[vi 0, vi 4, vi 4] [(.int (4 : Int32)), (ii 0)]) (fun _ k => XS.iloadN X0.here hx rfl (hb hby d28_1) rfl k) ?_
  refine bN s₁ (mkF m 3 #[vi 0, vi 4, vi 4] [(.int (4 : Int32)), (.int (4 : Int32)), (ii 0)]) (fun _ k => XS.iloadN X0.here hx rfl (hb hby d28_2) rfl k) ?_
  obtain ⟨T21, X21, e21, st21⟩ := getS2 X0 hx hZ hown (host := "") (Or.inl (hw _ (mo 122 rfl))) Via.refl e0 S_SF (g := (mkF m 3 #[vi 0, vi 4, vi 4] [(.int (4 : Int32)), (.int (4 : Int32)), (ii 0)])) rfl (hb hby d28_3)
  refine bN T21 (mkF m 6 #[vi 0, vi 4, vi 4] [sf, (.int (4 : Int32)), (.int (4 : Int32)), (ii 0)]) (fun _ k => st21 _ k) ?_
  obtain ⟨_, _, ⟨T22, L22, k22, n22⟩, -, X22, ⟨Lc22, hQ22, l22, y22, z22⟩, st22⟩ := Jvm.LawKit.callS X21 hx (y := yy19) hown (mvT hZ (hw _ (mo 124 rfl))) (mvT hZ (hw _ (mo 125 rfl))) (mvT hZ (hw _ (mo 123 rfl))) (mvT hZ (hw _ (mo 126 rfl))) (by decide) (backOf (W := 0) (cft_u_4 l Z a0 hw [] sf  h0 n0 Z0 hsf) hZ (hw _ (mo 126 rfl)) (hw _ (mo 123 rfl)) (by decide) (by decide)) (g := (mkF m 6 #[vi 0, vi 4, vi 4] [sf, (.int (4 : Int32)), (.int (4 : Int32)), (ii 0)])) rfl (by rw [hml]; rfl) (argsL := [(ii 0), (.int (4 : Int32)), (.int (4 : Int32)), sf]) (rest := []) (lenOf pd_9 rfl) rfl (Nat.le_of_eq rfl) (hb hby d28_6) (fun _ _ => ⟨rfl, e21, (by decide : 0 ≤ _), (by decide : 0 ≤ _)⟩)
  dsimp only [Pt.U, Pt.locs, Pt.cells, Pt.slots] at X22 l22 y22 z22 st22 hQ22
  subst l22 y22 z22
  obtain ⟨rfl, N22q, e22⟩ := hQ22
  have N22 := Fr.app (Fr.nil n0) N22q
  refine bN T22 (mkF m 9 #[vi 0, vi 4, vi 4] [(ii 0)]) (fun _ k => st22 _ k) ?_
  refine bN T22 (mkF m 10 #[vi 0, vi 4, vi 4] []) (fun _ k => XS.pop X22.here hx rfl (hb hby d28_9) rfl rfl k) ?_
  refine own_ret X22 hlk (v := none) (fun _ => rfl) (fun fs hr => X22.returnOut hx Bd.returns (hb hby d28_10) hr) ?_ (by decide) (by decide)
  rw [e22]
  exact ⟨rfl, N22, rfl⟩
theorem ef_cbu_u_4 (m : MethodId) (t1 : Addr) : entryFrame m #[(ii 0), (.int (4 : Int32)), (.ref t1)] 3 = mkF m 0 #[vi 0, vi 4, vr t1] [] := rfl
def Q_cbu_u_4 (Z : State) (t1 : Addr) (k1 : ClassId) (sf : Value) (c0 c1 : Int32) (c2 c3 : Int32) (h0 : Heap) (n0 : Nat) (v : Option Value) (h : Heap) (L : List Loc) : Prop := v = none ∧ Fr n0 L ∧ h = h0
theorem cbu_u_4 (l : Launch) (Z : State) (a0 : Array Value) (hw : HW Z a0) (ws : List Jvm.Cond) (t1 : Addr) (k1 : ClassId) (sf : Value) (c0 c1 : Int32) (c2 c3 : Int32) (h0 : Heap) (n0 : Nat) (Z0 : n0 ≤ h0.size) (hsf : sf.isRef = true) (S_SF : Sta Z h0 "jdk/internal/util/Preconditions" "SIOOBE_FORMATTER" "Ljava/util/function/BiFunction;" sf) (V_t1 : Arv Z h0 t1 k1 .byte (8 : Int32) (wb4 c0 c1 c2 c3) (ii 0)) :
    own_M l yy21 jdk_52_method_93_code 3 none ws rr42 Z #[(ii 0), (.int (4 : Int32)), (.ref t1)] h0 (Q_cbu_u_4 Z t1 k1 sf c0 c1 c2 c3 h0 n0) := by
  refine own_bd (plainFor_of_name pn_26) fun p e s m below meth c s₁ Bd hx hby hml hown hnm hlk hZ X0 e0 => ?_
  rw [ef_cbu_u_4 m t1]
  refine bN s₁ (mkF m 1 #[vi 0, vi 4, vr t1] [(ii 0)]) (fun _ k => XS.iloadN X0.here hx rfl (hb hby d26_0) rfl k) ?_
  refine bN s₁ (mkF m 2 #[vi 0, vi 4, vr t1] [(.int (4 : Int32)), (ii 0)]) (fun _ k => XS.iloadN X0.here hx rfl (hb hby d26_1) rfl k) ?_
  refine bN s₁ (mkF m 3 #[vi 0, vi 4, vr t1] [(.ref t1), (.int (4 : Int32)), (ii 0)]) (fun _ k => XS.aloadN X0.here hx rfl (hb hby d26_2) rfl rfl k) ?_
  obtain ⟨_, _, ⟨T21, L21, k21, n21⟩, -, X21, ⟨Lc21, hQ21, l21, y21, z21⟩, st21⟩ := Jvm.LawKit.callS X0 hx (y := yy18) hown (mvT hZ (hw _ (mo 116 rfl))) (mvT hZ (hw _ (mo 117 rfl))) (mvT hZ (hw _ (mo 71 rfl))) (mvT hZ (hw _ (mo 118 rfl))) (by decide) (backOf (W := 2) (ule_u_4 l Z a0 hw [] t1 k1 c0 c1 c2 c3 h0 n0 Z0 V_t1) hZ (hw _ (mo 118 rfl)) (hw _ (mo 71 rfl)) (by decide) (by decide)) (g := (mkF m 3 #[vi 0, vi 4, vr t1] [(.ref t1), (.int (4 : Int32)), (ii 0)])) rfl (by rw [hml]; rfl) (argsL := [(.ref t1)]) (rest := [(.int (4 : Int32)), (ii 0)]) (lenOf pd_10 rfl) rfl (Nat.le_of_eq rfl) (hb hby d26_3) (fun _ _ => ⟨rfl, e0, (by decide : 0 ≤ _), (by decide : 0 ≤ _)⟩)
  dsimp only [Pt.U, Pt.locs, Pt.cells, Pt.slots] at X21 l21 y21 z21 st21 hQ21
  subst l21 y21 z21
  obtain ⟨rfl, N21q, e21⟩ := hQ21
  have N21 := Fr.app (Fr.nil n0) N21q
  refine bN T21 (mkF m 6 #[vi 0, vi 4, vr t1] [(.int (4 : Int32)), (.int (4 : Int32)), (ii 0)]) (fun _ k => st21 _ k) ?_
  obtain ⟨_, _, ⟨T22, L22, k22, n22⟩, -, X22, ⟨Lc22, hQ22, l22, y22, z22⟩, st22⟩ := Jvm.LawKit.callS X21 hx (y := yy20) hown (mvT hZ (hw _ (mo 119 rfl))) (mvT hZ (hw _ (mo 120 rfl))) (mvT hZ (hw _ (mo 12 rfl))) (mvT hZ (hw _ (mo 121 rfl))) (by decide) (backOf (W := 0) (cbs_u_4 l Z a0 hw []  sf h0 n0 Z0 hsf S_SF) hZ (hw _ (mo 121 rfl)) (hw _ (mo 12 rfl)) (by decide) (by decide)) (g := (mkF m 6 #[vi 0, vi 4, vr t1] [(.int (4 : Int32)), (.int (4 : Int32)), (ii 0)])) rfl (by rw [hml]; rfl) (argsL := [(ii 0), (.int (4 : Int32)), (.int (4 : Int32))]) (rest := []) (lenOf pd_11 rfl) rfl (Nat.le_of_eq rfl) (hb hby d26_6) (fun _ _ => ⟨rfl, e21, (by decide : 0 ≤ _), (by decide : 0 ≤ _)⟩)
  dsimp only [Pt.U, Pt.locs, Pt.cells, Pt.slots] at X22 l22 y22 z22 st22 hQ22
  subst l22 y22 z22
  obtain ⟨rfl, N22q, e22⟩ := hQ22
  have N22 := Fr.app N21 N22q
  refine bN T22 (mkF m 9 #[vi 0, vi 4, vr t1] []) (fun _ k => st22 _ k) ?_
  refine own_ret X22 hlk (v := none) (fun _ => rfl) (fun fs hr => X22.returnOut hx Bd.returns (hb hby d26_9) hr) ?_ (by decide) (by decide)
  rw [e22]
  exact ⟨rfl, N22, rfl⟩
theorem ef_icu_u_4 (m : MethodId) (t1 : Addr) : entryFrame m #[(.ref t1), (.int (65533 : Int32)), (ii 0), (.int (4 : Int32))] 5 = mkF m 0 #[vr t1, vi 65533, vi 0, vi 4, uu] [] := rfl
def Q_icu_u_4 (Z : State) (t1 : Addr) (k1 : ClassId) (sf : Value) (c0 c1 : Int32) (c2 c3 : Int32) (h0 : Heap) (n0 : Nat) (v : Option Value) (h : Heap) (L : List Loc) : Prop := v = some (.int (own_i4 c0 c1 c2 c3)) ∧ Fr n0 L ∧ h = h0
theorem icu_u_4 (l : Launch) (Z : State) (a0 : Array Value) (hw : HW Z a0) (ws : List Jvm.Cond) (t1 : Addr) (k1 : ClassId) (sf : Value) (c0 c1 : Int32) (c2 c3 : Int32) (h0 : Heap) (n0 : Nat) (Z0 : n0 ≤ h0.size) (S_AD : AD Z h0) (S_HI : HI Z h0) (S_LO : LO Z h0) (hsf : sf.isRef = true) (S_SF : Sta Z h0 "jdk/internal/util/Preconditions" "SIOOBE_FORMATTER" "Ljava/util/function/BiFunction;" sf) (hr0 : 0 ≤ c0.toInt ∧ c0.toInt ≤ 65535) (hr1 : 0 ≤ c1.toInt ∧ c1.toInt ≤ 65535) (hr2 : 0 ≤ c2.toInt ∧ c2.toInt ≤ 65535) (hr3 : 0 ≤ c3.toInt ∧ c3.toInt ≤ 65535) (V_t1 : Arv Z h0 t1 k1 .byte (8 : Int32) (wb4 c0 c1 c2 c3) (ii 0)) :
    own_M l yy22 jdk_52_method_48_code 5 (some .int) ws rr40 Z #[(.ref t1), (.int (65533 : Int32)), (ii 0), (.int (4 : Int32))] h0 (Q_icu_u_4 Z t1 k1 sf c0 c1 c2 c3 h0 n0) := by
  refine own_bd (plainFor_of_name pn_30) fun p e s m below meth c s₁ Bd hx hby hml hown hnm hlk hZ X0 e0 => ?_
  rw [ef_icu_u_4 m t1]
  refine bN s₁ (mkF m 1 #[vr t1, vi 65533, vi 0, vi 4, uu] [(ii 0)]) (fun _ k => XS.iloadN X0.here hx rfl (hb hby d30_0) rfl k) ?_
  refine bN s₁ (mkF m 3 #[vr t1, vi 65533, vi 0, vi 4, vi 0] []) (fun _ k => XS.istore X0.here hx rfl (hb hby d30_1) rfl rfl k) ?_
  refine bN s₁ (mkF m 5 #[vr t1, vi 65533, vi 0, vi 4, vi 0] [(ii 0)]) (fun _ k => XS.iload X0.here hx rfl (hb hby d30_3) rfl k) ?_
  refine bN s₁ (mkF m 6 #[vr t1, vi 65533, vi 0, vi 4, vi 0] [(.int (4 : Int32)), (ii 0)]) (fun _ k => XS.iloadN X0.here hx rfl (hb hby d30_5) rfl k) ?_
  refine bN s₁ (mkF m 9 #[vr t1, vi 65533, vi 0, vi 4, vi 0] []) (fun _ k => XS.icmpNo X0.here hx rfl (hb hby d30_6) rfl (tlt (by decide)).2.1 k) ?_
  refine bN s₁ (mkF m 10 #[vr t1, vi 65533, vi 0, vi 4, vi 0] [(.ref t1)]) (fun _ k => XS.aloadN X0.here hx rfl (hb hby d30_9) rfl rfl k) ?_
  refine bN s₁ (mkF m 12 #[vr t1, vi 65533, vi 0, vi 4, vi 0] [(ii 0), (.ref t1)]) (fun _ k => XS.iload X0.here hx rfl (hb hby d30_10) rfl k) ?_
  obtain ⟨_, _, ⟨T21, L21, k21, n21⟩, -, X21, ⟨Lc21, hQ21, l21, y21, z21⟩, st21⟩ := Jvm.LawKit.callS X0 hx (y := yy8) hown (mvT hZ (hw _ (mo 96 rfl))) (mvT hZ (hw _ (mo 97 rfl))) (mvT hZ (hw _ (mo 71 rfl))) (mvT hZ (hw _ (mo 98 rfl))) (by decide) (backOf (W := 0) (get_0 l Z a0 hw [] t1 k1 (8 : Int32) (wb4 c0 c1 c2 c3) (b0 c0) (b1 c0) h0 n0 Z0 S_AD S_HI S_LO V_t1 (by decide) (by decide) rfl rfl) hZ (hw _ (mo 98 rfl)) (hw _ (mo 71 rfl)) (by decide) (by decide)) (g := (mkF m 12 #[vr t1, vi 65533, vi 0, vi 4, vi 0] [(ii 0), (.ref t1)])) rfl (by rw [hml]; rfl) (argsL := [(.ref t1), (ii 0)]) (rest := []) (lenOf pd_7 rfl) rfl (Nat.le_of_eq rfl) (hb hby d30_12) (fun _ _ => ⟨rfl, e0, (by decide : 0 ≤ _), (by decide : 0 ≤ _)⟩)
  dsimp only [Pt.U, Pt.locs, Pt.cells, Pt.slots] at X21 l21 y21 z21 st21 hQ21
  subst l21 y21 z21
  obtain ⟨vq21, N21q, e21⟩ := hQ21
  obtain rfl := vq21.trans (congrArg (fun z => some (Value.int z)) (own_pair hr0))
  have N21 := Fr.app (Fr.nil n0) N21q
  refine bN T21 (mkF m 15 #[vr t1, vi 65533, vi 0, vi 4, vi 0] [(.int c0)]) (fun _ k => st21 _ k) ?_
  refine bN T21 (mkF m 16 #[vr t1, vi 65533, vi 0, vi 4, vi 0] [(.int (65533 : Int32)), (.int c0)]) (fun _ k => XS.iloadN X21.here hx rfl (hb hby d30_15) rfl k) ?_
  by_cases hc16_22 : c0 = (65533 : Int32)
  · skip
    refine bN T21 (mkF m 19 #[vr t1, vi 65533, vi 0, vi 4, vi 0] []) (fun _ k => XS.icmpNo X21.here hx rfl (hb hby d30_16) rfl (teq hc16_22).2 k) ?_
    refine bN T21 (mkF m 21 #[vr t1, vi 65533, vi 0, vi 4, vi 0] [(ii 0)]) (fun _ k => XS.iload X21.here hx rfl (hb hby d30_19) rfl k) ?_
    refine own_ret X21 hlk (v := some (ii 0)) (nvr Bd.returns) (fun fs hr => retI X21 hx Bd.returns (hb hby d30_21) hr) ?_ (by decide) (by decide)
    rw [e21]
    exact ⟨congrArg (fun z => some (Value.int z)) (if_pos hc16_22).symm, N21, rfl⟩
  · skip
    refine bN T21 (mkF m 22 #[vr t1, vi 65533, vi 0, vi 4, vi 0] []) (fun _ k => XS.icmpYes X21.here hx rfl (pc0 := 16) (pc' := 22) rfl (hb hby d30_16) rfl (feq hc16_22).2 (by decide) (by decide) k) ?_
    refine bN T21 (mkF m 25 #[vr t1, vi 65533, vi 0, vi 4, vi 1] []) (fun _ k => XS.iinc X21.here hx rfl (hb hby d30_22) rfl rfl k) ?_
    refine bN T21 (mkF m 3 #[vr t1, vi 65533, vi 0, vi 4, vi 1] []) (fun _ k => XS.goto X21.here hx rfl (pc0 := 25) (pc' := 3) rfl (hb hby d30_25) (by decide) (by decide) k) ?_
    refine bN T21 (mkF m 5 #[vr t1, vi 65533, vi 0, vi 4, vi 1] [(.int (1 : Int32))]) (fun _ k => XS.iload X21.here hx rfl (hb hby d30_3) rfl k) ?_
    refine bN T21 (mkF m 6 #[vr t1, vi 65533, vi 0, vi 4, vi 1] [(.int (4 : Int32)), (.int (1 : Int32))]) (fun _ k => XS.iloadN X21.here hx rfl (hb hby d30_5) rfl k) ?_
    refine bN T21 (mkF m 9 #[vr t1, vi 65533, vi 0, vi 4, vi 1] []) (fun _ k => XS.icmpNo X21.here hx rfl (hb hby d30_6) rfl (tlt (by decide)).2.1 k) ?_
    refine bN T21 (mkF m 10 #[vr t1, vi 65533, vi 0, vi 4, vi 1] [(.ref t1)]) (fun _ k => XS.aloadN X21.here hx rfl (hb hby d30_9) rfl rfl k) ?_
    refine bN T21 (mkF m 12 #[vr t1, vi 65533, vi 0, vi 4, vi 1] [(.int (1 : Int32)), (.ref t1)]) (fun _ k => XS.iload X21.here hx rfl (hb hby d30_10) rfl k) ?_
    obtain ⟨_, _, ⟨T23, L23, k23, n23⟩, -, X23, ⟨Lc23, hQ23, l23, y23, z23⟩, st23⟩ := Jvm.LawKit.callS X21 hx (y := yy8) hown (mvT hZ (hw _ (mo 96 rfl))) (mvT hZ (hw _ (mo 97 rfl))) (mvT hZ (hw _ (mo 71 rfl))) (mvT hZ (hw _ (mo 98 rfl))) (by decide) (backOf (W := 0) (get_1 l Z a0 hw [] t1 k1 (8 : Int32) (wb4 c0 c1 c2 c3) (b0 c1) (b1 c1) h0 n0 Z0 S_AD S_HI S_LO V_t1 (by decide) (by decide) rfl rfl) hZ (hw _ (mo 98 rfl)) (hw _ (mo 71 rfl)) (by decide) (by decide)) (g := (mkF m 12 #[vr t1, vi 65533, vi 0, vi 4, vi 1] [(.int (1 : Int32)), (.ref t1)])) rfl (by rw [hml]; rfl) (argsL := [(.ref t1), (.int (1 : Int32))]) (rest := []) (lenOf pd_7 rfl) rfl (Nat.le_of_eq rfl) (hb hby d30_12) (fun _ _ => ⟨rfl, e21, (by decide : 0 ≤ _), (by decide : 0 ≤ _)⟩)
    dsimp only [Pt.U, Pt.locs, Pt.cells, Pt.slots] at X23 l23 y23 z23 st23 hQ23
    subst l23 y23 z23
    obtain ⟨vq23, N23q, e23⟩ := hQ23
    obtain rfl := vq23.trans (congrArg (fun z => some (Value.int z)) (own_pair hr1))
    have N23 := Fr.app N21 N23q
    refine bN T23 (mkF m 15 #[vr t1, vi 65533, vi 0, vi 4, vi 1] [(.int c1)]) (fun _ k => st23 _ k) ?_
    refine bN T23 (mkF m 16 #[vr t1, vi 65533, vi 0, vi 4, vi 1] [(.int (65533 : Int32)), (.int c1)]) (fun _ k => XS.iloadN X23.here hx rfl (hb hby d30_15) rfl k) ?_
    by_cases hc16_24 : c1 = (65533 : Int32)
    · skip
      refine bN T23 (mkF m 19 #[vr t1, vi 65533, vi 0, vi 4, vi 1] []) (fun _ k => XS.icmpNo X23.here hx rfl (hb hby d30_16) rfl (teq hc16_24).2 k) ?_
      refine bN T23 (mkF m 21 #[vr t1, vi 65533, vi 0, vi 4, vi 1] [(.int (1 : Int32))]) (fun _ k => XS.iload X23.here hx rfl (hb hby d30_19) rfl k) ?_
      refine own_ret X23 hlk (v := some (.int (1 : Int32))) (nvr Bd.returns) (fun fs hr => retI X23 hx Bd.returns (hb hby d30_21) hr) ?_ (by decide) (by decide)
      rw [e23]
      exact ⟨congrArg (fun z => some (Value.int z)) ((if_neg hc16_22).trans (if_pos hc16_24)).symm, N23, rfl⟩
    · skip
      refine bN T23 (mkF m 22 #[vr t1, vi 65533, vi 0, vi 4, vi 1] []) (fun _ k => XS.icmpYes X23.here hx rfl (pc0 := 16) (pc' := 22) rfl (hb hby d30_16) rfl (feq hc16_24).2 (by decide) (by decide) k) ?_
      refine bN T23 (mkF m 25 #[vr t1, vi 65533, vi 0, vi 4, vi 2] []) (fun _ k => XS.iinc X23.here hx rfl (hb hby d30_22) rfl rfl k) ?_
      refine bN T23 (mkF m 3 #[vr t1, vi 65533, vi 0, vi 4, vi 2] []) (fun _ k => XS.goto X23.here hx rfl (pc0 := 25) (pc' := 3) rfl (hb hby d30_25) (by decide) (by decide) k) ?_
      refine bN T23 (mkF m 5 #[vr t1, vi 65533, vi 0, vi 4, vi 2] [(.int (2 : Int32))]) (fun _ k => XS.iload X23.here hx rfl (hb hby d30_3) rfl k) ?_
      refine bN T23 (mkF m 6 #[vr t1, vi 65533, vi 0, vi 4, vi 2] [(.int (4 : Int32)), (.int (2 : Int32))]) (fun _ k => XS.iloadN X23.here hx rfl (hb hby d30_5) rfl k) ?_
      refine bN T23 (mkF m 9 #[vr t1, vi 65533, vi 0, vi 4, vi 2] []) (fun _ k => XS.icmpNo X23.here hx rfl (hb hby d30_6) rfl (tlt (by decide)).2.1 k) ?_
      refine bN T23 (mkF m 10 #[vr t1, vi 65533, vi 0, vi 4, vi 2] [(.ref t1)]) (fun _ k => XS.aloadN X23.here hx rfl (hb hby d30_9) rfl rfl k) ?_
      refine bN T23 (mkF m 12 #[vr t1, vi 65533, vi 0, vi 4, vi 2] [(.int (2 : Int32)), (.ref t1)]) (fun _ k => XS.iload X23.here hx rfl (hb hby d30_10) rfl k) ?_
      obtain ⟨_, _, ⟨T25, L25, k25, n25⟩, -, X25, ⟨Lc25, hQ25, l25, y25, z25⟩, st25⟩ := Jvm.LawKit.callS X23 hx (y := yy8) hown (mvT hZ (hw _ (mo 96 rfl))) (mvT hZ (hw _ (mo 97 rfl))) (mvT hZ (hw _ (mo 71 rfl))) (mvT hZ (hw _ (mo 98 rfl))) (by decide) (backOf (W := 0) (get_2 l Z a0 hw [] t1 k1 (8 : Int32) (wb4 c0 c1 c2 c3) (b0 c2) (b1 c2) h0 n0 Z0 S_AD S_HI S_LO V_t1 (by decide) (by decide) rfl rfl) hZ (hw _ (mo 98 rfl)) (hw _ (mo 71 rfl)) (by decide) (by decide)) (g := (mkF m 12 #[vr t1, vi 65533, vi 0, vi 4, vi 2] [(.int (2 : Int32)), (.ref t1)])) rfl (by rw [hml]; rfl) (argsL := [(.ref t1), (.int (2 : Int32))]) (rest := []) (lenOf pd_7 rfl) rfl (Nat.le_of_eq rfl) (hb hby d30_12) (fun _ _ => ⟨rfl, e23, (by decide : 0 ≤ _), (by decide : 0 ≤ _)⟩)
      dsimp only [Pt.U, Pt.locs, Pt.cells, Pt.slots] at X25 l25 y25 z25 st25 hQ25
      subst l25 y25 z25
      obtain ⟨vq25, N25q, e25⟩ := hQ25
      obtain rfl := vq25.trans (congrArg (fun z => some (Value.int z)) (own_pair hr2))
      have N25 := Fr.app N23 N25q
      refine bN T25 (mkF m 15 #[vr t1, vi 65533, vi 0, vi 4, vi 2] [(.int c2)]) (fun _ k => st25 _ k) ?_
      refine bN T25 (mkF m 16 #[vr t1, vi 65533, vi 0, vi 4, vi 2] [(.int (65533 : Int32)), (.int c2)]) (fun _ k => XS.iloadN X25.here hx rfl (hb hby d30_15) rfl k) ?_
      by_cases hc16_26 : c2 = (65533 : Int32)
      · skip
        refine bN T25 (mkF m 19 #[vr t1, vi 65533, vi 0, vi 4, vi 2] []) (fun _ k => XS.icmpNo X25.here hx rfl (hb hby d30_16) rfl (teq hc16_26).2 k) ?_
        refine bN T25 (mkF m 21 #[vr t1, vi 65533, vi 0, vi 4, vi 2] [(.int (2 : Int32))]) (fun _ k => XS.iload X25.here hx rfl (hb hby d30_19) rfl k) ?_
        refine own_ret X25 hlk (v := some (.int (2 : Int32))) (nvr Bd.returns) (fun fs hr => retI X25 hx Bd.returns (hb hby d30_21) hr) ?_ (by decide) (by decide)
        rw [e25]
        exact ⟨congrArg (fun z => some (Value.int z)) (((if_neg hc16_22).trans (if_neg hc16_24)).trans (if_pos hc16_26)).symm, N25, rfl⟩
      · skip
        refine bN T25 (mkF m 22 #[vr t1, vi 65533, vi 0, vi 4, vi 2] []) (fun _ k => XS.icmpYes X25.here hx rfl (pc0 := 16) (pc' := 22) rfl (hb hby d30_16) rfl (feq hc16_26).2 (by decide) (by decide) k) ?_
        refine bN T25 (mkF m 25 #[vr t1, vi 65533, vi 0, vi 4, vi 3] []) (fun _ k => XS.iinc X25.here hx rfl (hb hby d30_22) rfl rfl k) ?_
        refine bN T25 (mkF m 3 #[vr t1, vi 65533, vi 0, vi 4, vi 3] []) (fun _ k => XS.goto X25.here hx rfl (pc0 := 25) (pc' := 3) rfl (hb hby d30_25) (by decide) (by decide) k) ?_
        refine bN T25 (mkF m 5 #[vr t1, vi 65533, vi 0, vi 4, vi 3] [(.int (3 : Int32))]) (fun _ k => XS.iload X25.here hx rfl (hb hby d30_3) rfl k) ?_
        refine bN T25 (mkF m 6 #[vr t1, vi 65533, vi 0, vi 4, vi 3] [(.int (4 : Int32)), (.int (3 : Int32))]) (fun _ k => XS.iloadN X25.here hx rfl (hb hby d30_5) rfl k) ?_
        refine bN T25 (mkF m 9 #[vr t1, vi 65533, vi 0, vi 4, vi 3] []) (fun _ k => XS.icmpNo X25.here hx rfl (hb hby d30_6) rfl (tlt (by decide)).2.1 k) ?_
        refine bN T25 (mkF m 10 #[vr t1, vi 65533, vi 0, vi 4, vi 3] [(.ref t1)]) (fun _ k => XS.aloadN X25.here hx rfl (hb hby d30_9) rfl rfl k) ?_
        refine bN T25 (mkF m 12 #[vr t1, vi 65533, vi 0, vi 4, vi 3] [(.int (3 : Int32)), (.ref t1)]) (fun _ k => XS.iload X25.here hx rfl (hb hby d30_10) rfl k) ?_
        obtain ⟨_, _, ⟨T27, L27, k27, n27⟩, -, X27, ⟨Lc27, hQ27, l27, y27, z27⟩, st27⟩ := Jvm.LawKit.callS X25 hx (y := yy8) hown (mvT hZ (hw _ (mo 96 rfl))) (mvT hZ (hw _ (mo 97 rfl))) (mvT hZ (hw _ (mo 71 rfl))) (mvT hZ (hw _ (mo 98 rfl))) (by decide) (backOf (W := 0) (get_3 l Z a0 hw [] t1 k1 (8 : Int32) (wb4 c0 c1 c2 c3) (b0 c3) (b1 c3) h0 n0 Z0 S_AD S_HI S_LO V_t1 (by decide) (by decide) rfl rfl) hZ (hw _ (mo 98 rfl)) (hw _ (mo 71 rfl)) (by decide) (by decide)) (g := (mkF m 12 #[vr t1, vi 65533, vi 0, vi 4, vi 3] [(.int (3 : Int32)), (.ref t1)])) rfl (by rw [hml]; rfl) (argsL := [(.ref t1), (.int (3 : Int32))]) (rest := []) (lenOf pd_7 rfl) rfl (Nat.le_of_eq rfl) (hb hby d30_12) (fun _ _ => ⟨rfl, e25, (by decide : 0 ≤ _), (by decide : 0 ≤ _)⟩)
        dsimp only [Pt.U, Pt.locs, Pt.cells, Pt.slots] at X27 l27 y27 z27 st27 hQ27
        subst l27 y27 z27
        obtain ⟨vq27, N27q, e27⟩ := hQ27
        obtain rfl := vq27.trans (congrArg (fun z => some (Value.int z)) (own_pair hr3))
        have N27 := Fr.app N25 N27q
        refine bN T27 (mkF m 15 #[vr t1, vi 65533, vi 0, vi 4, vi 3] [(.int c3)]) (fun _ k => st27 _ k) ?_
        refine bN T27 (mkF m 16 #[vr t1, vi 65533, vi 0, vi 4, vi 3] [(.int (65533 : Int32)), (.int c3)]) (fun _ k => XS.iloadN X27.here hx rfl (hb hby d30_15) rfl k) ?_
        by_cases hc16_28 : c3 = (65533 : Int32)
        · skip
          refine bN T27 (mkF m 19 #[vr t1, vi 65533, vi 0, vi 4, vi 3] []) (fun _ k => XS.icmpNo X27.here hx rfl (hb hby d30_16) rfl (teq hc16_28).2 k) ?_
          refine bN T27 (mkF m 21 #[vr t1, vi 65533, vi 0, vi 4, vi 3] [(.int (3 : Int32))]) (fun _ k => XS.iload X27.here hx rfl (hb hby d30_19) rfl k) ?_
          refine own_ret X27 hlk (v := some (.int (3 : Int32))) (nvr Bd.returns) (fun fs hr => retI X27 hx Bd.returns (hb hby d30_21) hr) ?_ (by decide) (by decide)
          rw [e27]
          exact ⟨congrArg (fun z => some (Value.int z)) ((((if_neg hc16_22).trans (if_neg hc16_24)).trans (if_neg hc16_26)).trans (if_pos hc16_28)).symm, N27, rfl⟩
        · skip
          refine bN T27 (mkF m 22 #[vr t1, vi 65533, vi 0, vi 4, vi 3] []) (fun _ k => XS.icmpYes X27.here hx rfl (pc0 := 16) (pc' := 22) rfl (hb hby d30_16) rfl (feq hc16_28).2 (by decide) (by decide) k) ?_
          refine bN T27 (mkF m 25 #[vr t1, vi 65533, vi 0, vi 4, vi 4] []) (fun _ k => XS.iinc X27.here hx rfl (hb hby d30_22) rfl rfl k) ?_
          refine bN T27 (mkF m 3 #[vr t1, vi 65533, vi 0, vi 4, vi 4] []) (fun _ k => XS.goto X27.here hx rfl (pc0 := 25) (pc' := 3) rfl (hb hby d30_25) (by decide) (by decide) k) ?_
          refine bN T27 (mkF m 5 #[vr t1, vi 65533, vi 0, vi 4, vi 4] [(.int (4 : Int32))]) (fun _ k => XS.iload X27.here hx rfl (hb hby d30_3) rfl k) ?_
          refine bN T27 (mkF m 6 #[vr t1, vi 65533, vi 0, vi 4, vi 4] [(.int (4 : Int32)), (.int (4 : Int32))]) (fun _ k => XS.iloadN X27.here hx rfl (hb hby d30_5) rfl k) ?_
          refine bN T27 (mkF m 28 #[vr t1, vi 65533, vi 0, vi 4, vi 4] []) (fun _ k => XS.icmpYes X27.here hx rfl (pc0 := 6) (pc' := 28) rfl (hb hby d30_6) rfl (flt (by decide)).2.1 (by decide) (by decide) k) ?_
          refine bN T27 (mkF m 29 #[vr t1, vi 65533, vi 0, vi 4, vi 4] [(.int (-1 : Int32))]) (fun _ k => XS.iconst X27.here hx rfl (hb hby d30_28) k) ?_
          refine own_ret X27 hlk (v := some (.int (-1 : Int32))) (nvr Bd.returns) (fun fs hr => retI X27 hx Bd.returns (hb hby d30_29) hr) ?_ (by decide) (by decide)
          rw [e27]
          exact ⟨congrArg (fun z => some (Value.int z)) ((((if_neg hc16_22).trans (if_neg hc16_24)).trans (if_neg hc16_26)).trans (if_neg hc16_28)).symm, N27, rfl⟩
theorem ef_ich_u_4 (m : MethodId) (t1 : Addr) : entryFrame m #[(.ref t1), (.int (65533 : Int32)), (ii 0), (.int (4 : Int32))] 4 = mkF m 0 #[vr t1, vi 65533, vi 0, vi 4] [] := rfl
def Q_ich_u_4 (Z : State) (t1 : Addr) (k1 : ClassId) (sf : Value) (c0 c1 : Int32) (c2 c3 : Int32) (h0 : Heap) (n0 : Nat) (v : Option Value) (h : Heap) (L : List Loc) : Prop := v = some (.int (own_i4 c0 c1 c2 c3)) ∧ Fr n0 L ∧ h = h0
theorem ich_u_4 (l : Launch) (Z : State) (a0 : Array Value) (hw : HW Z a0) (ws : List Jvm.Cond) (t1 : Addr) (k1 : ClassId) (sf : Value) (c0 c1 : Int32) (c2 c3 : Int32) (h0 : Heap) (n0 : Nat) (Z0 : n0 ≤ h0.size) (S_AD : AD Z h0) (S_HI : HI Z h0) (S_LO : LO Z h0) (hsf : sf.isRef = true) (S_SF : Sta Z h0 "jdk/internal/util/Preconditions" "SIOOBE_FORMATTER" "Ljava/util/function/BiFunction;" sf) (hr0 : 0 ≤ c0.toInt ∧ c0.toInt ≤ 65535) (hr1 : 0 ≤ c1.toInt ∧ c1.toInt ≤ 65535) (hr2 : 0 ≤ c2.toInt ∧ c2.toInt ≤ 65535) (hr3 : 0 ≤ c3.toInt ∧ c3.toInt ≤ 65535) (V_t1 : Arv Z h0 t1 k1 .byte (8 : Int32) (wb4 c0 c1 c2 c3) (ii 0)) :
    own_M l yy23 jdk_52_method_47_code 4 (some .int) ws rr43 Z #[(.ref t1), (.int (65533 : Int32)), (ii 0), (.int (4 : Int32))] h0 (Q_ich_u_4 Z t1 k1 sf c0 c1 c2 c3 h0 n0) := by
  refine own_bd (plainFor_of_name pn_25) fun p e s m below meth c s₁ Bd hx hby hml hown hnm hlk hZ X0 e0 => ?_
  rw [ef_ich_u_4 m t1]
  refine bN s₁ (mkF m 1 #[vr t1, vi 65533, vi 0, vi 4] [(ii 0)]) (fun _ k => XS.iloadN X0.here hx rfl (hb hby d25_0) rfl k) ?_
  refine bN s₁ (mkF m 2 #[vr t1, vi 65533, vi 0, vi 4] [(.int (4 : Int32)), (ii 0)]) (fun _ k => XS.iloadN X0.here hx rfl (hb hby d25_1) rfl k) ?_
  refine bN s₁ (mkF m 3 #[vr t1, vi 65533, vi 0, vi 4] [(.ref t1), (.int (4 : Int32)), (ii 0)]) (fun _ k => XS.aloadN X0.here hx rfl (hb hby d25_2) rfl rfl k) ?_
  obtain ⟨_, _, ⟨T21, L21, k21, n21⟩, -, X21, ⟨Lc21, hQ21, l21, y21, z21⟩, st21⟩ := Jvm.LawKit.callS X0 hx (y := yy21) hown (mvT hZ (hw _ (mo 113 rfl))) (mvT hZ (hw _ (mo 114 rfl))) (mvT hZ (hw _ (mo 71 rfl))) (mvT hZ (hw _ (mo 115 rfl))) (by decide) (backOf (W := 0) (cbu_u_4 l Z a0 hw [] t1 k1 sf c0 c1 c2 c3 h0 n0 Z0 hsf S_SF V_t1) hZ (hw _ (mo 115 rfl)) (hw _ (mo 71 rfl)) (by decide) (by decide)) (g := (mkF m 3 #[vr t1, vi 65533, vi 0, vi 4] [(.ref t1), (.int (4 : Int32)), (ii 0)])) rfl (by rw [hml]; rfl) (argsL := [(ii 0), (.int (4 : Int32)), (.ref t1)]) (rest := []) (lenOf pd_12 rfl) rfl (Nat.le_of_eq rfl) (hb hby d25_3) (fun _ _ => ⟨rfl, e0, (by decide : 0 ≤ _), (by decide : 0 ≤ _)⟩)
  dsimp only [Pt.U, Pt.locs, Pt.cells, Pt.slots] at X21 l21 y21 z21 st21 hQ21
  subst l21 y21 z21
  obtain ⟨rfl, N21q, e21⟩ := hQ21
  have N21 := Fr.app (Fr.nil n0) N21q
  refine bN T21 (mkF m 6 #[vr t1, vi 65533, vi 0, vi 4] []) (fun _ k => st21 _ k) ?_
  refine bN T21 (mkF m 7 #[vr t1, vi 65533, vi 0, vi 4] [(.ref t1)]) (fun _ k => XS.aloadN X21.here hx rfl (hb hby d25_6) rfl rfl k) ?_
  refine bN T21 (mkF m 8 #[vr t1, vi 65533, vi 0, vi 4] [(.int (65533 : Int32)), (.ref t1)]) (fun _ k => XS.iloadN X21.here hx rfl (hb hby d25_7) rfl k) ?_
  refine bN T21 (mkF m 9 #[vr t1, vi 65533, vi 0, vi 4] [(ii 0), (.int (65533 : Int32)), (.ref t1)]) (fun _ k => XS.iloadN X21.here hx rfl (hb hby d25_8) rfl k) ?_
  refine bN T21 (mkF m 10 #[vr t1, vi 65533, vi 0, vi 4] [(.int (4 : Int32)), (ii 0), (.int (65533 : Int32)), (.ref t1)]) (fun _ k => XS.iloadN X21.here hx rfl (hb hby d25_9) rfl k) ?_
  obtain ⟨_, _, ⟨T22, L22, k22, n22⟩, -, X22, ⟨Lc22, hQ22, l22, y22, z22⟩, st22⟩ := Jvm.LawKit.callS X21 hx (y := yy22) hown (mvT hZ (hw _ (mo 127 rfl))) (mvT hZ (hw _ (mo 128 rfl))) (mvT hZ (hw _ (mo 71 rfl))) (mvT hZ (hw _ (mo 129 rfl))) (by decide) (backOf (W := 0) (icu_u_4 l Z a0 hw [] t1 k1 sf c0 c1 c2 c3 h0 n0 Z0 S_AD S_HI S_LO hsf S_SF hr0 hr1 hr2 hr3 V_t1) hZ (hw _ (mo 129 rfl)) (hw _ (mo 71 rfl)) (by decide) (by decide)) (g := (mkF m 10 #[vr t1, vi 65533, vi 0, vi 4] [(.int (4 : Int32)), (ii 0), (.int (65533 : Int32)), (.ref t1)])) rfl (by rw [hml]; rfl) (argsL := [(.ref t1), (.int (65533 : Int32)), (ii 0), (.int (4 : Int32))]) (rest := []) (lenOf pd_13 rfl) rfl (Nat.le_of_eq rfl) (hb hby d25_10) (fun _ _ => ⟨rfl, e21, (by decide : 0 ≤ _), (by decide : 0 ≤ _)⟩)
  dsimp only [Pt.U, Pt.locs, Pt.cells, Pt.slots] at X22 l22 y22 z22 st22 hQ22
  subst l22 y22 z22
  obtain ⟨rfl, N22q, e22⟩ := hQ22
  have N22 := Fr.app N21 N22q
  refine bN T22 (mkF m 13 #[vr t1, vi 65533, vi 0, vi 4] [(.int (own_i4 c0 c1 c2 c3))]) (fun _ k => st22 _ k) ?_
  refine own_ret X22 hlk (v := some (.int (own_i4 c0 c1 c2 c3))) (nvr Bd.returns) (fun fs hr => retI X22 hx Bd.returns (hb hby d25_13) hr) ?_ (by decide) (by decide)
  rw [e22]
  exact ⟨rfl, N22, rfl⟩
theorem ef_iof_u_4 (m : MethodId) (t1 : Addr) : entryFrame m #[(.ref t1), (.int (65533 : Int32)), (ii 0), (.int (4 : Int32))] 4 = mkF m 0 #[vr t1, vi 65533, vi 0, vi 4] [] := rfl
def Q_iof_u_4 (Z : State) (t1 : Addr) (k1 : ClassId) (sf : Value) (c0 c1 : Int32) (c2 c3 : Int32) (h0 : Heap) (n0 : Nat) (v : Option Value) (h : Heap) (L : List Loc) : Prop := v = some (.int (own_i4 c0 c1 c2 c3)) ∧ Fr n0 L ∧ h = h0
theorem iof_u_4 (l : Launch) (Z : State) (a0 : Array Value) (hw : HW Z a0) (ws : List Jvm.Cond) (t1 : Addr) (k1 : ClassId) (sf : Value) (c0 c1 : Int32) (c2 c3 : Int32) (h0 : Heap) (n0 : Nat) (Z0 : n0 ≤ h0.size) (S_AD : AD Z h0) (S_HI : HI Z h0) (S_LO : LO Z h0) (hsf : sf.isRef = true) (S_SF : Sta Z h0 "jdk/internal/util/Preconditions" "SIOOBE_FORMATTER" "Ljava/util/function/BiFunction;" sf) (hr0 : 0 ≤ c0.toInt ∧ c0.toInt ≤ 65535) (hr1 : 0 ≤ c1.toInt ∧ c1.toInt ≤ 65535) (hr2 : 0 ≤ c2.toInt ∧ c2.toInt ≤ 65535) (hr3 : 0 ≤ c3.toInt ∧ c3.toInt ≤ 65535) (V_t1 : Arv Z h0 t1 k1 .byte (8 : Int32) (wb4 c0 c1 c2 c3) (ii 0)) :
    own_M l yy24 jdk_52_method_40_code 4 (some .int) ws rr44 Z #[(.ref t1), (.int (65533 : Int32)), (ii 0), (.int (4 : Int32))] h0 (Q_iof_u_4 Z t1 k1 sf c0 c1 c2 c3 h0 n0) := by
  refine own_bd (plainFor_of_name pn_22) fun p e s m below meth c s₁ Bd hx hby hml hown hnm hlk hZ X0 e0 => ?_
  rw [ef_iof_u_4 m t1]
  refine bN s₁ (mkF m 1 #[vr t1, vi 65533, vi 0, vi 4] [(ii 0)]) (fun _ k => XS.iloadN X0.here hx rfl (hb hby d22_0) rfl k) ?_
  refine bN s₁ (mkF m 2 #[vr t1, vi 65533, vi 0, vi 4] [(ii 0), (ii 0)]) (fun _ k => XS.iconst X0.here hx rfl (hb hby d22_1) k) ?_
  obtain ⟨_, _, ⟨T21, L21, k21, n21⟩, -, X21, ⟨Lc21, hQ21, l21, y21, z21⟩, st21⟩ := Jvm.LawKit.callS X0 hx (y := yy15) hown (mvT hZ (hw _ (mo 102 rfl))) (mvT hZ (hw _ (mo 103 rfl))) (mvT hZ (hw _ (mo 104 rfl))) (mvT hZ (hw _ (mo 105 rfl))) (by decide) (backOf (W := 0) (max00 l Z a0 hw []   h0 n0 Z0 ) hZ (hw _ (mo 105 rfl)) (hw _ (mo 104 rfl)) (by decide) (by decide)) (g := (mkF m 2 #[vr t1, vi 65533, vi 0, vi 4] [(ii 0), (ii 0)])) rfl (by rw [hml]; rfl) (argsL := [(ii 0), (ii 0)]) (rest := []) (lenOf pd_14 rfl) rfl (Nat.le_of_eq rfl) (hb hby d22_2) (fun _ _ => ⟨rfl, e0, (by decide : 0 ≤ _), (by decide : 0 ≤ _)⟩)
  dsimp only [Pt.U, Pt.locs, Pt.cells, Pt.slots] at X21 l21 y21 z21 st21 hQ21
  subst l21 y21 z21
  obtain ⟨rfl, N21q, e21⟩ := hQ21
  have N21 := Fr.app (Fr.nil n0) N21q
  refine bN T21 (mkF m 5 #[vr t1, vi 65533, vi 0, vi 4] [(ii 0)]) (fun _ k => st21 _ k) ?_
  refine bN T21 (mkF m 6 #[vr t1, vi 65533, vi 0, vi 4] []) (fun _ k => XS.istoreN X21.here hx rfl (hb hby d22_5) rfl rfl k) ?_
  refine bN T21 (mkF m 7 #[vr t1, vi 65533, vi 0, vi 4] [(.int (4 : Int32))]) (fun _ k => XS.iloadN X21.here hx rfl (hb hby d22_6) rfl k) ?_
  refine bN T21 (mkF m 8 #[vr t1, vi 65533, vi 0, vi 4] [(.ref t1), (.int (4 : Int32))]) (fun _ k => XS.aloadN X21.here hx rfl (hb hby d22_7) rfl rfl k) ?_
  obtain ⟨cl22, Ar22, q22, S22, N_22, H22, G22⟩ := id V_t1
  refine bN T21 (mkF m 9 #[vr t1, vi 65533, vi 0, vi 4] [(.int (8 : Int32)), (.int (4 : Int32))]) (fun _ k => X21.arraylength hx (by rw [e21]; exact Ar22.1) (State.isArrayOf_alike hZ.alike Ar22.2.1) (g := (mkF m 8 #[vr t1, vi 65533, vi 0, vi 4] [(.ref t1), (.int (4 : Int32))])) rfl rfl (hb hby d22_8) _ (by rw [len_of S22 N_22]; exact k)) ?_
  refine bN T21 (mkF m 10 #[vr t1, vi 65533, vi 0, vi 4] [(.int (1 : Int32)), (.int (8 : Int32)), (.int (4 : Int32))]) (fun _ k => XS.iconst X21.here hx rfl (hb hby d22_9) k) ?_
  refine bN T21 (mkF m 11 #[vr t1, vi 65533, vi 0, vi 4] [(.int (4 : Int32)), (.int (4 : Int32))]) (fun _ k => XS.ishr X21.here hx rfl (hb hby d22_10) rfl k) ?_
  obtain ⟨_, _, ⟨T23, L23, k23, n23⟩, -, X23, ⟨Lc23, hQ23, l23, y23, z23⟩, st23⟩ := Jvm.LawKit.callS X21 hx (y := yy17) hown (mvT hZ (hw _ (mo 106 rfl))) (mvT hZ (hw _ (mo 107 rfl))) (mvT hZ (hw _ (mo 104 rfl))) (mvT hZ (hw _ (mo 108 rfl))) (by decide) (backOf (W := 0) (min_u_4 l Z a0 hw []   h0 n0 Z0 ) hZ (hw _ (mo 108 rfl)) (hw _ (mo 104 rfl)) (by decide) (by decide)) (g := (mkF m 11 #[vr t1, vi 65533, vi 0, vi 4] [(.int (4 : Int32)), (.int (4 : Int32))])) rfl (by rw [hml]; rfl) (argsL := [(.int (4 : Int32)), (.int (4 : Int32))]) (rest := []) (lenOf pd_14 rfl) rfl (Nat.le_of_eq rfl) (hb hby d22_11) (fun _ _ => ⟨rfl, e21, (by decide : 0 ≤ _), (by decide : 0 ≤ _)⟩)
  dsimp only [Pt.U, Pt.locs, Pt.cells, Pt.slots] at X23 l23 y23 z23 st23 hQ23
  subst l23 y23 z23
  obtain ⟨rfl, N23q, e23⟩ := hQ23
  have N23 := Fr.app N21 N23q
  refine bN T23 (mkF m 14 #[vr t1, vi 65533, vi 0, vi 4] [(.int (4 : Int32))]) (fun _ k => st23 _ k) ?_
  refine bN T23 (mkF m 15 #[vr t1, vi 65533, vi 0, vi 4] []) (fun _ k => XS.istoreN X23.here hx rfl (hb hby d22_14) rfl rfl k) ?_
  refine bN T23 (mkF m 16 #[vr t1, vi 65533, vi 0, vi 4] [(ii 0)]) (fun _ k => XS.iloadN X23.here hx rfl (hb hby d22_15) rfl k) ?_
  refine bN T23 (mkF m 17 #[vr t1, vi 65533, vi 0, vi 4] [(.int (4 : Int32)), (ii 0)]) (fun _ k => XS.iloadN X23.here hx rfl (hb hby d22_16) rfl k) ?_
  refine bN T23 (mkF m 22 #[vr t1, vi 65533, vi 0, vi 4] []) (fun _ k => XS.icmpYes X23.here hx rfl (pc0 := 17) (pc' := 22) rfl (hb hby d22_17) rfl (tlt (by decide)).1 (by decide) (by decide) k) ?_
  refine bN T23 (mkF m 23 #[vr t1, vi 65533, vi 0, vi 4] [(.int (65533 : Int32))]) (fun _ k => XS.iloadN X23.here hx rfl (hb hby d22_22) rfl k) ?_
  refine bN T23 (mkF m 25 #[vr t1, vi 65533, vi 0, vi 4] [(.int (65536 : Int32)), (.int (65533 : Int32))]) (fun _ k => ldcI X23 hx hown (mvT hZ (hw _ (mo 109 rfl))) rfl (hb hby d22_23) k) ?_
  refine bN T23 (mkF m 28 #[vr t1, vi 65533, vi 0, vi 4] []) (fun _ k => XS.icmpNo X23.here hx rfl (hb hby d22_25) rfl (tlt (by decide)).2.1 k) ?_
  refine bN T23 (mkF m 29 #[vr t1, vi 65533, vi 0, vi 4] [(.ref t1)]) (fun _ k => XS.aloadN X23.here hx rfl (hb hby d22_28) rfl rfl k) ?_
  refine bN T23 (mkF m 30 #[vr t1, vi 65533, vi 0, vi 4] [(.int (65533 : Int32)), (.ref t1)]) (fun _ k => XS.iloadN X23.here hx rfl (hb hby d22_29) rfl k) ?_
  refine bN T23 (mkF m 31 #[vr t1, vi 65533, vi 0, vi 4] [(ii 0), (.int (65533 : Int32)), (.ref t1)]) (fun _ k => XS.iloadN X23.here hx rfl (hb hby d22_30) rfl k) ?_
  refine bN T23 (mkF m 32 #[vr t1, vi 65533, vi 0, vi 4] [(.int (4 : Int32)), (ii 0), (.int (65533 : Int32)), (.ref t1)]) (fun _ k => XS.iloadN X23.here hx rfl (hb hby d22_31) rfl k) ?_
  obtain ⟨_, _, ⟨T24, L24, k24, n24⟩, -, X24, ⟨Lc24, hQ24, l24, y24, z24⟩, st24⟩ := Jvm.LawKit.callS X23 hx (y := yy23) hown (mvT hZ (hw _ (mo 110 rfl))) (mvT hZ (hw _ (mo 111 rfl))) (mvT hZ (hw _ (mo 71 rfl))) (mvT hZ (hw _ (mo 112 rfl))) (by decide) (backOf (W := 0) (ich_u_4 l Z a0 hw [] t1 k1 sf c0 c1 c2 c3 h0 n0 Z0 S_AD S_HI S_LO hsf S_SF hr0 hr1 hr2 hr3 V_t1) hZ (hw _ (mo 112 rfl)) (hw _ (mo 71 rfl)) (by decide) (by decide)) (g := (mkF m 32 #[vr t1, vi 65533, vi 0, vi 4] [(.int (4 : Int32)), (ii 0), (.int (65533 : Int32)), (.ref t1)])) rfl (by rw [hml]; rfl) (argsL := [(.ref t1), (.int (65533 : Int32)), (ii 0), (.int (4 : Int32))]) (rest := []) (lenOf pd_13 rfl) rfl (Nat.le_of_eq rfl) (hb hby d22_32) (fun _ _ => ⟨rfl, e23, (by decide : 0 ≤ _), (by decide : 0 ≤ _)⟩)
  dsimp only [Pt.U, Pt.locs, Pt.cells, Pt.slots] at X24 l24 y24 z24 st24 hQ24
  subst l24 y24 z24
  obtain ⟨rfl, N24q, e24⟩ := hQ24
  have N24 := Fr.app N23 N24q
  refine bN T24 (mkF m 35 #[vr t1, vi 65533, vi 0, vi 4] [(.int (own_i4 c0 c1 c2 c3))]) (fun _ k => st24 _ k) ?_
  refine own_ret X24 hlk (v := some (.int (own_i4 c0 c1 c2 c3))) (nvr Bd.returns) (fun fs hr => retI X24 hx Bd.returns (hb hby d22_35) hr) ?_ (by decide) (by decide)
  rw [e24]
  exact ⟨rfl, N24, rfl⟩
theorem ef_ix2_u_4 (m : MethodId) (a : Addr) : entryFrame m #[(.ref a), (.int (65533 : Int32)), (ii 0)] 3 = mkF m 0 #[vr a, vi 65533, vi 0] [] := rfl
def Q_ix2_u_4 (Z : State) (a t1 : Addr) (k1 : ClassId) (cs c0 : Int32) (c1 c2 c3 : Int32) (sf : Value) (h0 : Heap) (n0 : Nat) (v : Option Value) (h : Heap) (L : List Loc) : Prop := v = some (.int (own_i4 c0 c1 c2 c3)) ∧ Fr n0 L ∧ h = h0
theorem ix2_u_4 (l : Launch) (Z : State) (a0 : Array Value) (hw : HW Z a0) (ws : List Jvm.Cond) (a t1 : Addr) (k1 : ClassId) (cs c0 : Int32) (c1 c2 c3 : Int32) (sf : Value) (h0 : Heap) (n0 : Nat) (Z0 : n0 ≤ h0.size) (E_a : Exa Z h0 a "java/lang/String") (F_coder_a : Fld Z h0 a "java/lang/String" "coder" "B" (.int (1 : Int32))) (F_value_a : Fld Z h0 a "java/lang/String" "value" "[B" (.ref t1)) (V_t1 : Arv Z h0 t1 k1 .byte (8 : Int32) (wb4 c0 c1 c2 c3) (ii 0)) (S_CS : Sta Z h0 "java/lang/String" "COMPACT_STRINGS" "Z" (.int cs)) (hcs : ¬ cs = (0 : Int32)) (S_AD : AD Z h0) (S_HI : HI Z h0) (S_LO : LO Z h0) (hsf : sf.isRef = true) (S_SF : Sta Z h0 "jdk/internal/util/Preconditions" "SIOOBE_FORMATTER" "Ljava/util/function/BiFunction;" sf) (hr0 : 0 ≤ c0.toInt ∧ c0.toInt ≤ 65535) (hr1 : 0 ≤ c1.toInt ∧ c1.toInt ≤ 65535) (hr2 : 0 ≤ c2.toInt ∧ c2.toInt ≤ 65535) (hr3 : 0 ≤ c3.toInt ∧ c3.toInt ≤ 65535) :
    own_M l yy25 jdk_42_method_80_code 3 (some .int) ws rr45 Z #[(.ref a), (.int (65533 : Int32)), (ii 0)] h0 (Q_ix2_u_4 Z a t1 k1 cs c0 c1 c2 c3 sf h0 n0) := by
  refine own_bd (plainFor_of_name pn_8) fun p e s m below meth c s₁ Bd hx hby hml hown hnm hlk hZ X0 e0 => ?_
  rw [ef_ix2_u_4 m a]
  refine bN s₁ (mkF m 1 #[vr a, vi 65533, vi 0] [(.ref a)]) (fun _ k => XS.aloadN X0.here hx rfl (hb hby d8_0) rfl rfl k) ?_
  obtain ⟨cq21, kq21, q21a, q21b, q21c⟩ := isOf hZ e0 E_a
  obtain ⟨_, _, ⟨T21, L21, k21, n21⟩, -, X21, ⟨Lc21, hQ21, l21, y21, z21⟩, st21⟩ := X0.virtualBack hx (y := yy12) (z := yy12) hown (mvT hZ (hw _ (mo 46 rfl))) (mvT hZ (hw _ (mo 47 rfl))) (notFace_of_selects (args := #[]) (mvT hZ (hw _ (mo 49 rfl)))) (mvT hZ (hw _ (mo 49 rfl))) (mvT hZ (hw _ (mo 48 rfl))) (by decide) (backOf (W := 0) (isl_1 l Z a0 hw [] a cs h0 n0 Z0 F_coder_a S_CS hcs) hZ (hw _ (mo 50 rfl)) (hw _ (mo 12 rfl)) (by decide) (by decide)) q21a q21c (g := (mkF m 1 #[vr a, vi 65533, vi 0] [(.ref a)])) rfl (by rw [hml]; rfl) (Steps.refl _) (argsL := []) (rest := []) (lenOf pd_15 rfl) rfl (Nat.le_of_eq rfl) (hb hby d8_1) (fun _ _ => ⟨rfl, e0, (by decide : 0 ≤ _), (by decide : 0 ≤ _)⟩)
  dsimp only [Pt.U, Pt.locs, Pt.cells, Pt.slots] at X21 l21 y21 z21 st21 hQ21
  subst l21 y21 z21
  obtain ⟨rfl, N21q, e21⟩ := hQ21
  have N21 := Fr.app (Fr.nil n0) N21q
  refine bN T21 (mkF m 4 #[vr a, vi 65533, vi 0] [(ii 0)]) (fun _ k => st21.trans k) ?_
  refine bN T21 (mkF m 23 #[vr a, vi 65533, vi 0] []) (fun _ k => XS.ifYes X21.here hx rfl (pc0 := 4) (pc' := 23) rfl (hb hby d8_4) rfl ((if0 _ _).trans (teq (by decide)).1) (by decide) (by decide) k) ?_
  refine bN T21 (mkF m 24 #[vr a, vi 65533, vi 0] [(.ref a)]) (fun _ k => XS.aloadN X21.here hx rfl (hb hby d8_23) rfl rfl k) ?_
  obtain ⟨T22, X22, e22, st22⟩ := getF X21 hx hZ hown (host := "") (Or.inl (hw _ (mo 29 rfl))) Via.refl e21 F_value_a (g := (mkF m 24 #[vr a, vi 65533, vi 0] [(.ref a)])) rfl rfl (hb hby d8_24)
  refine bN T22 (mkF m 27 #[vr a, vi 65533, vi 0] [(.ref t1)]) (fun _ k => st22 _ k) ?_
  refine bN T22 (mkF m 28 #[vr a, vi 65533, vi 0] [(.int (65533 : Int32)), (.ref t1)]) (fun _ k => XS.iloadN X22.here hx rfl (hb hby d8_27) rfl k) ?_
  refine bN T22 (mkF m 29 #[vr a, vi 65533, vi 0] [(ii 0), (.int (65533 : Int32)), (.ref t1)]) (fun _ k => XS.iloadN X22.here hx rfl (hb hby d8_28) rfl k) ?_
  refine bN T22 (mkF m 30 #[vr a, vi 65533, vi 0] [(.ref a), (ii 0), (.int (65533 : Int32)), (.ref t1)]) (fun _ k => XS.aloadN X22.here hx rfl (hb hby d8_29) rfl rfl k) ?_
  obtain ⟨cq23, kq23, q23a, q23b, q23c⟩ := isOf hZ e22 E_a
  obtain ⟨_, _, ⟨T23, L23, k23, n23⟩, -, X23, ⟨Lc23, hQ23, l23, y23, z23⟩, st23⟩ := X22.virtualBack hx (y := yy16) (z := yy16) hown (mvT hZ (hw _ (mo 52 rfl))) (mvT hZ (hw _ (mo 53 rfl))) (notFace_of_selects (args := #[]) (mvT hZ (hw _ (mo 55 rfl)))) (mvT hZ (hw _ (mo 55 rfl))) (mvT hZ (hw _ (mo 54 rfl))) (by decide) (backOf (W := 3) (len_u_4 l Z a0 hw [] a t1 k1 cs c0 c1 c2 c3 h0 n0 Z0 E_a F_coder_a F_value_a V_t1 S_CS hcs) hZ (hw _ (mo 56 rfl)) (hw _ (mo 12 rfl)) (by decide) (by decide)) q23a q23c (g := (mkF m 30 #[vr a, vi 65533, vi 0] [(.ref a), (ii 0), (.int (65533 : Int32)), (.ref t1)])) rfl (by rw [hml]; rfl) (Steps.refl _) (argsL := []) (rest := [(ii 0), (.int (65533 : Int32)), (.ref t1)]) (lenOf pd_16 rfl) rfl (Nat.le_of_eq rfl) (hb hby d8_30) (fun _ _ => ⟨rfl, e22, (by decide : 0 ≤ _), (by decide : 0 ≤ _)⟩)
  dsimp only [Pt.U, Pt.locs, Pt.cells, Pt.slots] at X23 l23 y23 z23 st23 hQ23
  subst l23 y23 z23
  obtain ⟨rfl, N23q, e23⟩ := hQ23
  have N23 := Fr.app N21 N23q
  refine bN T23 (mkF m 33 #[vr a, vi 65533, vi 0] [(.int (4 : Int32)), (ii 0), (.int (65533 : Int32)), (.ref t1)]) (fun _ k => st23.trans k) ?_
  obtain ⟨_, _, ⟨T24, L24, k24, n24⟩, -, X24, ⟨Lc24, hQ24, l24, y24, z24⟩, st24⟩ := Jvm.LawKit.callS X23 hx (y := yy24) hown (mvT hZ (hw _ (mo 99 rfl))) (mvT hZ (hw _ (mo 100 rfl))) (mvT hZ (hw _ (mo 71 rfl))) (mvT hZ (hw _ (mo 101 rfl))) (by decide) (backOf (W := 0) (iof_u_4 l Z a0 hw [] t1 k1 sf c0 c1 c2 c3 h0 n0 Z0 S_AD S_HI S_LO hsf S_SF hr0 hr1 hr2 hr3 V_t1) hZ (hw _ (mo 101 rfl)) (hw _ (mo 71 rfl)) (by decide) (by decide)) (g := (mkF m 33 #[vr a, vi 65533, vi 0] [(.int (4 : Int32)), (ii 0), (.int (65533 : Int32)), (.ref t1)])) rfl (by rw [hml]; rfl) (argsL := [(.ref t1), (.int (65533 : Int32)), (ii 0), (.int (4 : Int32))]) (rest := []) (lenOf pd_13 rfl) rfl (Nat.le_of_eq rfl) (hb hby d8_33) (fun _ _ => ⟨rfl, e23, (by decide : 0 ≤ _), (by decide : 0 ≤ _)⟩)
  dsimp only [Pt.U, Pt.locs, Pt.cells, Pt.slots] at X24 l24 y24 z24 st24 hQ24
  subst l24 y24 z24
  obtain ⟨rfl, N24q, e24⟩ := hQ24
  have N24 := Fr.app N23 N24q
  refine bN T24 (mkF m 36 #[vr a, vi 65533, vi 0] [(.int (own_i4 c0 c1 c2 c3))]) (fun _ k => st24 _ k) ?_
  refine own_ret X24 hlk (v := some (.int (own_i4 c0 c1 c2 c3))) (nvr Bd.returns) (fun fs hr => retI X24 hx Bd.returns (hb hby d8_36) hr) ?_ (by decide) (by decide)
  rw [e24]
  exact ⟨rfl, N24, rfl⟩
theorem ef_ix1_u_4 (m : MethodId) (a : Addr) : entryFrame m #[(.ref a), (.int (65533 : Int32))] 2 = mkF m 0 #[vr a, vi 65533] [] := rfl
def Q_ix1_u_4 (Z : State) (a t1 : Addr) (k1 : ClassId) (cs c0 : Int32) (c1 c2 c3 : Int32) (sf : Value) (h0 : Heap) (n0 : Nat) (v : Option Value) (h : Heap) (L : List Loc) : Prop := v = some (.int (own_i4 c0 c1 c2 c3)) ∧ Fr n0 L ∧ h = h0
theorem ix1_u_4 (l : Launch) (Z : State) (a0 : Array Value) (hw : HW Z a0) (ws : List Jvm.Cond) (a t1 : Addr) (k1 : ClassId) (cs c0 : Int32) (c1 c2 c3 : Int32) (sf : Value) (h0 : Heap) (n0 : Nat) (Z0 : n0 ≤ h0.size) (E_a : Exa Z h0 a "java/lang/String") (F_coder_a : Fld Z h0 a "java/lang/String" "coder" "B" (.int (1 : Int32))) (F_value_a : Fld Z h0 a "java/lang/String" "value" "[B" (.ref t1)) (V_t1 : Arv Z h0 t1 k1 .byte (8 : Int32) (wb4 c0 c1 c2 c3) (ii 0)) (S_CS : Sta Z h0 "java/lang/String" "COMPACT_STRINGS" "Z" (.int cs)) (hcs : ¬ cs = (0 : Int32)) (S_AD : AD Z h0) (S_HI : HI Z h0) (S_LO : LO Z h0) (hsf : sf.isRef = true) (S_SF : Sta Z h0 "jdk/internal/util/Preconditions" "SIOOBE_FORMATTER" "Ljava/util/function/BiFunction;" sf) (hr0 : 0 ≤ c0.toInt ∧ c0.toInt ≤ 65535) (hr1 : 0 ≤ c1.toInt ∧ c1.toInt ≤ 65535) (hr2 : 0 ≤ c2.toInt ∧ c2.toInt ≤ 65535) (hr3 : 0 ≤ c3.toInt ∧ c3.toInt ≤ 65535) :
    own_M l yy26 jdk_42_method_79_code 2 (some .int) ws rr46 Z #[(.ref a), (.int (65533 : Int32))] h0 (Q_ix1_u_4 Z a t1 k1 cs c0 c1 c2 c3 sf h0 n0) := by
  refine own_bd (plainFor_of_name pn_7) fun p e s m below meth c s₁ Bd hx hby hml hown hnm hlk hZ X0 e0 => ?_
  rw [ef_ix1_u_4 m a]
  refine bN s₁ (mkF m 1 #[vr a, vi 65533] [(.ref a)]) (fun _ k => XS.aloadN X0.here hx rfl (hb hby d7_0) rfl rfl k) ?_
  refine bN s₁ (mkF m 2 #[vr a, vi 65533] [(.int (65533 : Int32)), (.ref a)]) (fun _ k => XS.iloadN X0.here hx rfl (hb hby d7_1) rfl k) ?_
  refine bN s₁ (mkF m 3 #[vr a, vi 65533] [(ii 0), (.int (65533 : Int32)), (.ref a)]) (fun _ k => XS.iconst X0.here hx rfl (hb hby d7_2) k) ?_
  obtain ⟨cq21, kq21, q21a, q21b, q21c⟩ := isOf hZ e0 E_a
  obtain ⟨_, _, ⟨T21, L21, k21, n21⟩, -, X21, ⟨Lc21, hQ21, l21, y21, z21⟩, st21⟩ := X0.virtualBack hx (y := yy25) (z := yy25) hown (mvT hZ (hw _ (mo 41 rfl))) (mvT hZ (hw _ (mo 42 rfl))) (notFace_of_selects (args := #[]) (mvT hZ (hw _ (mo 44 rfl)))) (mvT hZ (hw _ (mo 44 rfl))) (mvT hZ (hw _ (mo 43 rfl))) (by decide) (backOf (W := 0) (ix2_u_4 l Z a0 hw [] a t1 k1 cs c0 c1 c2 c3 sf h0 n0 Z0 E_a F_coder_a F_value_a V_t1 S_CS hcs S_AD S_HI S_LO hsf S_SF hr0 hr1 hr2 hr3) hZ (hw _ (mo 45 rfl)) (hw _ (mo 12 rfl)) (by decide) (by decide)) q21a q21c (g := (mkF m 3 #[vr a, vi 65533] [(ii 0), (.int (65533 : Int32)), (.ref a)])) rfl (by rw [hml]; rfl) (Steps.refl _) (argsL := [(.int (65533 : Int32)), (ii 0)]) (rest := []) (lenOf pd_14 rfl) rfl (Nat.le_of_eq rfl) (hb hby d7_3) (fun _ _ => ⟨rfl, e0, (by decide : 0 ≤ _), (by decide : 0 ≤ _)⟩)
  dsimp only [Pt.U, Pt.locs, Pt.cells, Pt.slots] at X21 l21 y21 z21 st21 hQ21
  subst l21 y21 z21
  obtain ⟨rfl, N21q, e21⟩ := hQ21
  have N21 := Fr.app (Fr.nil n0) N21q
  refine bN T21 (mkF m 6 #[vr a, vi 65533] [(.int (own_i4 c0 c1 c2 c3))]) (fun _ k => st21.trans k) ?_
  refine own_ret X21 hlk (v := some (.int (own_i4 c0 c1 c2 c3))) (nvr Bd.returns) (fun fs hr => retI X21 hx Bd.returns (hb hby d7_6) hr) ?_ (by decide) (by decide)
  rw [e21]
  exact ⟨rfl, N21, rfl⟩
theorem ef_hub_u_4 (m : MethodId) (a : Addr) : entryFrame m #[(.ref a)] 1 = mkF m 0 #[vr a] [] := rfl
def Q_hub_u_4 (Z : State) (a t1 : Addr) (k1 : ClassId) (cs c0 : Int32) (c1 c2 c3 : Int32) (sf : Value) (h0 : Heap) (n0 : Nat) (v : Option Value) (h : Heap) (L : List Loc) : Prop := v = some (.int (if (own_i4 c0 c1 c2 c3) < (0 : Int32) then (0 : Int32) else (1 : Int32))) ∧ Fr n0 L ∧ h = h0
theorem hub_u_4 (l : Launch) (Z : State) (a0 : Array Value) (hw : HW Z a0) (ws : List Jvm.Cond) (a t1 : Addr) (k1 : ClassId) (cs c0 : Int32) (c1 c2 c3 : Int32) (sf : Value) (h0 : Heap) (n0 : Nat) (Z0 : n0 ≤ h0.size) (E_a : Exa Z h0 a "java/lang/String") (F_coder_a : Fld Z h0 a "java/lang/String" "coder" "B" (.int (1 : Int32))) (F_value_a : Fld Z h0 a "java/lang/String" "value" "[B" (.ref t1)) (V_t1 : Arv Z h0 t1 k1 .byte (8 : Int32) (wb4 c0 c1 c2 c3) (ii 0)) (S_CS : Sta Z h0 "java/lang/String" "COMPACT_STRINGS" "Z" (.int cs)) (hcs : ¬ cs = (0 : Int32)) (S_AD : AD Z h0) (S_HI : HI Z h0) (S_LO : LO Z h0) (hsf : sf.isRef = true) (S_SF : Sta Z h0 "jdk/internal/util/Preconditions" "SIOOBE_FORMATTER" "Ljava/util/function/BiFunction;" sf) (hr0 : 0 ≤ c0.toInt ∧ c0.toInt ≤ 65535) (hr1 : 0 ≤ c1.toInt ∧ c1.toInt ≤ 65535) (hr2 : 0 ≤ c2.toInt ∧ c2.toInt ≤ 65535) (hr3 : 0 ≤ c3.toInt ∧ c3.toInt ≤ 65535) :
    own_M l yy27 prog_8_method_2_code 1 (some .boolean) ws rr47 Z #[(.ref a)] h0 (Q_hub_u_4 Z a t1 k1 cs c0 c1 c2 c3 sf h0 n0) := by
  refine own_bd (plainFor_of_name pn_6) fun p e s m below meth c s₁ Bd hx hby hml hown hnm hlk hZ X0 e0 => ?_
  rw [ef_hub_u_4 m a]
  refine bN s₁ (mkF m 1 #[vr a] [(.ref a)]) (fun _ k => XS.aloadN X0.here hx rfl (hb hby d6_0) rfl rfl k) ?_
  refine bN s₁ (mkF m 3 #[vr a] [(.int (65533 : Int32)), (.ref a)]) (fun _ k => ldcI X0 hx hown (mvT hZ (hw _ (mo 35 rfl))) rfl (hb hby d6_1) k) ?_
  obtain ⟨cq21, kq21, q21a, q21b, q21c⟩ := isOf hZ e0 E_a
  obtain ⟨_, _, ⟨T21, L21, k21, n21⟩, -, X21, ⟨Lc21, hQ21, l21, y21, z21⟩, st21⟩ := X0.virtualBack hx (y := yy26) (z := yy26) hown (mvT hZ (hw _ (mo 36 rfl))) (mvT hZ (hw _ (mo 37 rfl))) (notFace_of_selects (args := #[]) (mvT hZ (hw _ (mo 39 rfl)))) (mvT hZ (hw _ (mo 39 rfl))) (mvT hZ (hw _ (mo 38 rfl))) (by decide) (backOf (W := 0) (ix1_u_4 l Z a0 hw [] a t1 k1 cs c0 c1 c2 c3 sf h0 n0 Z0 E_a F_coder_a F_value_a V_t1 S_CS hcs S_AD S_HI S_LO hsf S_SF hr0 hr1 hr2 hr3) hZ (hw _ (mo 40 rfl)) (hw _ (mo 12 rfl)) (by decide) (by decide)) q21a q21c (g := (mkF m 3 #[vr a] [(.int (65533 : Int32)), (.ref a)])) rfl (by rw [hml]; rfl) (Steps.refl _) (argsL := [(.int (65533 : Int32))]) (rest := []) (lenOf pd_4 rfl) rfl (Nat.le_of_eq rfl) (hb hby d6_3) (fun _ _ => ⟨rfl, e0, (by decide : 0 ≤ _), (by decide : 0 ≤ _)⟩)
  dsimp only [Pt.U, Pt.locs, Pt.cells, Pt.slots] at X21 l21 y21 z21 st21 hQ21
  subst l21 y21 z21
  obtain ⟨rfl, N21q, e21⟩ := hQ21
  have N21 := Fr.app (Fr.nil n0) N21q
  refine bN T21 (mkF m 6 #[vr a] [(.int (own_i4 c0 c1 c2 c3))]) (fun _ k => st21.trans k) ?_
  by_cases hc6_22 : (own_i4 c0 c1 c2 c3) < (0 : Int32)
  · skip
    refine bN T21 (mkF m 13 #[vr a] []) (fun _ k => XS.ifYes X21.here hx rfl (pc0 := 6) (pc' := 13) rfl (hb hby d6_6) rfl ((if0 _ _).trans (tlt hc6_22).1) (by decide) (by decide) k) ?_
    refine bN T21 (mkF m 14 #[vr a] [(ii 0)]) (fun _ k => XS.iconst X21.here hx rfl (hb hby d6_13) k) ?_
    refine own_ret X21 hlk (v := some (ii 0)) (nvr Bd.returns) (fun fs hr => retN X21 hx (t := .boolean) Bd.returns (by simp) (hb hby d6_14) hr) ?_ (by decide) (by decide)
    rw [e21]
    exact ⟨congrArg (fun z => some (Value.int z)) (if_pos hc6_22).symm, N21, rfl⟩
  · skip
    refine bN T21 (mkF m 9 #[vr a] []) (fun _ k => XS.ifNo X21.here hx rfl (hb hby d6_6) rfl ((if0 _ _).trans (flt hc6_22).1) k) ?_
    refine bN T21 (mkF m 10 #[vr a] [(.int (1 : Int32))]) (fun _ k => XS.iconst X21.here hx rfl (hb hby d6_9) k) ?_
    refine bN T21 (mkF m 14 #[vr a] [(.int (1 : Int32))]) (fun _ k => XS.goto X21.here hx rfl (pc0 := 10) (pc' := 14) rfl (hb hby d6_10) (by decide) (by decide) k) ?_
    refine own_ret X21 hlk (v := some (.int (1 : Int32))) (nvr Bd.returns) (fun fs hr => retN X21 hx (t := .boolean) Bd.returns (by simp) (hb hby d6_14) hr) ?_ (by decide) (by decide)
    rw [e21]
    exact ⟨congrArg (fun z => some (Value.int z)) (if_neg hc6_22).symm, N21, rfl⟩
theorem ef_len_l_0 (m : MethodId) (a : Addr) : entryFrame m #[(.ref a)] 1 = mkF m 0 #[vr a] [] := rfl
def Q_len_l_0 (Z : State) (a t1 : Addr) (k1 : ClassId) (cs zl : Int32) (vs : List Value) (h0 : Heap) (n0 : Nat) (v : Option Value) (h : Heap) (L : List Loc) : Prop := v = some (.int (zl >>> ((0 : Int32) &&& 31))) ∧ Fr n0 L ∧ h = h0
theorem len_l_0 (l : Launch) (Z : State) (a0 : Array Value) (hw : HW Z a0) (ws : List Jvm.Cond) (a t1 : Addr) (k1 : ClassId) (cs zl : Int32) (vs : List Value) (h0 : Heap) (n0 : Nat) (Z0 : n0 ≤ h0.size) (E_a : Exa Z h0 a "java/lang/String") (F_coder_a : Fld Z h0 a "java/lang/String" "coder" "B" (ii 0)) (F_value_a : Fld Z h0 a "java/lang/String" "value" "[B" (.ref t1)) (V_t1 : Arv Z h0 t1 k1 .byte zl vs (ii 0)) (S_CS : Sta Z h0 "java/lang/String" "COMPACT_STRINGS" "Z" (.int cs)) (hcs : ¬ cs = (0 : Int32)) :
    own_M l yy16 jdk_42_method_54_code 1 (some .int) ws rr40 Z #[(.ref a)] h0 (Q_len_l_0 Z a t1 k1 cs zl vs h0 n0) := by
  refine own_bd (plainFor_of_name pn_10) fun p e s m below meth c s₁ Bd hx hby hml hown hnm hlk hZ X0 e0 => ?_
  rw [ef_len_l_0 m a]
  refine bN s₁ (mkF m 1 #[vr a] [(.ref a)]) (fun _ k => XS.aloadN X0.here hx rfl (hb hby d10_0) rfl rfl k) ?_
  obtain ⟨T21, X21, e21, st21⟩ := getF X0 hx hZ hown (host := "") (Or.inl (hw _ (mo 29 rfl))) Via.refl e0 F_value_a (g := (mkF m 1 #[vr a] [(.ref a)])) rfl rfl (hb hby d10_1)
  refine bN T21 (mkF m 4 #[vr a] [(.ref t1)]) (fun _ k => st21 _ k) ?_
  obtain ⟨cl22, Ar22, q22, S22, N_22, H22, G22⟩ := id V_t1
  refine bN T21 (mkF m 5 #[vr a] [(.int zl)]) (fun _ k => X21.arraylength hx (by rw [e21]; exact Ar22.1) (State.isArrayOf_alike hZ.alike Ar22.2.1) (g := (mkF m 4 #[vr a] [(.ref t1)])) rfl rfl (hb hby d10_4) _ (by rw [len_of S22 N_22]; exact k)) ?_
  refine bN T21 (mkF m 6 #[vr a] [(.ref a), (.int zl)]) (fun _ k => XS.aloadN X21.here hx rfl (hb hby d10_5) rfl rfl k) ?_
  obtain ⟨cq23, kq23, q23a, q23b, q23c⟩ := isOf hZ e21 E_a
  obtain ⟨_, _, ⟨T23, L23, k23, n23⟩, -, X23, ⟨Lc23, hQ23, l23, y23, z23⟩, st23⟩ := X21.virtualBack hx (y := yy13) (z := yy13) hown (mvT hZ (hw _ (mo 57 rfl))) (mvT hZ (hw _ (mo 58 rfl))) (notFace_of_selects (args := #[]) (mvT hZ (hw _ (mo 60 rfl)))) (mvT hZ (hw _ (mo 60 rfl))) (mvT hZ (hw _ (mo 59 rfl))) (by decide) (backOf (W := 1) (cdr_0 l Z a0 hw [] a cs h0 n0 Z0 F_coder_a S_CS hcs) hZ (hw _ (mo 61 rfl)) (hw _ (mo 12 rfl)) (by decide) (by decide)) q23a q23c (g := (mkF m 6 #[vr a] [(.ref a), (.int zl)])) rfl (by rw [hml]; rfl) (Steps.refl _) (argsL := []) (rest := [(.int zl)]) (lenOf pd_8 rfl) rfl (Nat.le_of_eq rfl) (hb hby d10_6) (fun _ _ => ⟨rfl, e21, (by decide : 0 ≤ _), (by decide : 0 ≤ _)⟩)
  dsimp only [Pt.U, Pt.locs, Pt.cells, Pt.slots] at X23 l23 y23 z23 st23 hQ23
  subst l23 y23 z23
  obtain ⟨rfl, N23q, e23⟩ := hQ23
  have N23 := Fr.app (Fr.nil n0) N23q
  refine bN T23 (mkF m 9 #[vr a] [(ii 0), (.int zl)]) (fun _ k => st23.trans k) ?_
  refine bN T23 (mkF m 10 #[vr a] [(.int (zl >>> ((0 : Int32) &&& 31)))]) (fun _ k => XS.ishr X23.here hx rfl (hb hby d10_9) rfl k) ?_
  refine own_ret X23 hlk (v := some (.int (zl >>> ((0 : Int32) &&& 31)))) (nvr Bd.returns) (fun fs hr => retI X23 hx Bd.returns (hb hby d10_10) hr) ?_ (by decide) (by decide)
  rw [e23]
  exact ⟨rfl, N23, rfl⟩
theorem d12_0 : decode jdk_43_method_22_code 0 = .ok (.iload_n 1, 1) := by decide +kernel
theorem d12_1 : decode jdk_43_method_22_code 1 = .ok (.invokestatic 88, 3) := by decide +kernel
theorem d12_4 : decode jdk_43_method_22_code 4 = .ok (.ifCond .ne 5, 3) := by decide +kernel
theorem d12_7 : decode jdk_43_method_22_code 7 = .ok (.iconst (-1), 1) := by decide +kernel
theorem d12_8 : decode jdk_43_method_22_code 8 = .ok (.ireturn, 1) := by decide +kernel
theorem pn_12 : plainName "java/lang/StringLatin1" = true := by first | (simp [plainName, overriddenIn]; done) | decide +kernel
theorem ef_iof_l_0 (m : MethodId) (t1 : Addr) (zl : Int32) : entryFrame m #[(.ref t1), (.int (65533 : Int32)), (ii 0), (.int zl)] 4 = mkF m 0 #[vr t1, vi 65533, vi 0, vi zl] [] := rfl
def Q_iof_l_0 (Z : State) (t1 : Addr) (zl : Int32) (h0 : Heap) (n0 : Nat) (v : Option Value) (h : Heap) (L : List Loc) : Prop := v = some (.int (-1 : Int32)) ∧ Fr n0 L ∧ h = h0
theorem iof_l_0 (l : Launch) (Z : State) (a0 : Array Value) (hw : HW Z a0) (ws : List Jvm.Cond) (t1 : Addr) (zl : Int32) (h0 : Heap) (n0 : Nat) (Z0 : n0 ≤ h0.size) :
    own_M l yy28 jdk_43_method_22_code 4 (some .int) ws rr48 Z #[(.ref t1), (.int (65533 : Int32)), (ii 0), (.int zl)] h0 (Q_iof_l_0 Z t1 zl h0 n0) := by
  refine own_bd (plainFor_of_name pn_12) fun p e s m below meth c s₁ Bd hx hby hml hown hnm hlk hZ X0 e0 => ?_
  rw [ef_iof_l_0 m t1 zl]
  refine bN s₁ (mkF m 1 #[vr t1, vi 65533, vi 0, vi zl] [(.int (65533 : Int32))]) (fun _ k => XS.iloadN X0.here hx rfl (hb hby d12_0) rfl k) ?_
  obtain ⟨_, _, ⟨T21, L21, k21, n21⟩, -, X21, ⟨Lc21, hQ21, l21, y21, z21⟩, st21⟩ := Jvm.LawKit.callS X0 hx (y := yy14) hown (mvT hZ (hw _ (mo 66 rfl))) (mvT hZ (hw _ (mo 67 rfl))) (mvT hZ (hw _ (mo 64 rfl))) (mvT hZ (hw _ (mo 68 rfl))) (by decide) (backOf (W := 0) (cen l Z a0 hw []   h0 n0 Z0 ) hZ (hw _ (mo 68 rfl)) (hw _ (mo 64 rfl)) (by decide) (by decide)) (g := (mkF m 1 #[vr t1, vi 65533, vi 0, vi zl] [(.int (65533 : Int32))])) rfl (by rw [hml]; rfl) (argsL := [(.int (65533 : Int32))]) (rest := []) (lenOf pd_17 rfl) rfl (Nat.le_of_eq rfl) (hb hby d12_1) (fun _ _ => ⟨rfl, e0, (by decide : 0 ≤ _), (by decide : 0 ≤ _)⟩)
  dsimp only [Pt.U, Pt.locs, Pt.cells, Pt.slots] at X21 l21 y21 z21 st21 hQ21
  subst l21 y21 z21
  obtain ⟨rfl, N21q, e21⟩ := hQ21
  have N21 := Fr.app (Fr.nil n0) N21q
  refine bN T21 (mkF m 4 #[vr t1, vi 65533, vi 0, vi zl] [(ii 0)]) (fun _ k => st21 _ k) ?_
  refine bN T21 (mkF m 7 #[vr t1, vi 65533, vi 0, vi zl] []) (fun _ k => XS.ifNo X21.here hx rfl (hb hby d12_4) rfl ((if0 _ _).trans (teq (by decide)).2) k) ?_
  refine bN T21 (mkF m 8 #[vr t1, vi 65533, vi 0, vi zl] [(.int (-1 : Int32))]) (fun _ k => XS.iconst X21.here hx rfl (hb hby d12_7) k) ?_
  refine own_ret X21 hlk (v := some (.int (-1 : Int32))) (nvr Bd.returns) (fun fs hr => retI X21 hx Bd.returns (hb hby d12_8) hr) ?_ (by decide) (by decide)
  rw [e21]
  exact ⟨rfl, N21, rfl⟩
theorem d8_7 : decode jdk_42_method_80_code 7 = .ok (.aload_n 0, 1) := by decide +kernel
theorem d8_8 : decode jdk_42_method_80_code 8 = .ok (.getfield 9, 3) := by decide +kernel
theorem d8_11 : decode jdk_42_method_80_code 11 = .ok (.iload_n 1, 1) := by decide +kernel
theorem d8_12 : decode jdk_42_method_80_code 12 = .ok (.iload_n 2, 1) := by decide +kernel
theorem d8_13 : decode jdk_42_method_80_code 13 = .ok (.aload_n 0, 1) := by decide +kernel
theorem d8_14 : decode jdk_42_method_80_code 14 = .ok (.invokevirtual 505, 3) := by decide +kernel
theorem d8_17 : decode jdk_42_method_80_code 17 = .ok (.invokestatic 637, 3) := by decide +kernel
theorem d8_20 : decode jdk_42_method_80_code 20 = .ok (.goto 16, 3) := by decide +kernel
theorem ef_ix2_l_0 (m : MethodId) (a : Addr) : entryFrame m #[(.ref a), (.int (65533 : Int32)), (ii 0)] 3 = mkF m 0 #[vr a, vi 65533, vi 0] [] := rfl
def Q_ix2_l_0 (Z : State) (a t1 : Addr) (k1 : ClassId) (cs zl : Int32) (vs : List Value) (h0 : Heap) (n0 : Nat) (v : Option Value) (h : Heap) (L : List Loc) : Prop := v = some (.int (-1 : Int32)) ∧ Fr n0 L ∧ h = h0
theorem ix2_l_0 (l : Launch) (Z : State) (a0 : Array Value) (hw : HW Z a0) (ws : List Jvm.Cond) (a t1 : Addr) (k1 : ClassId) (cs zl : Int32) (vs : List Value) (h0 : Heap) (n0 : Nat) (Z0 : n0 ≤ h0.size) (E_a : Exa Z h0 a "java/lang/String") (F_coder_a : Fld Z h0 a "java/lang/String" "coder" "B" (ii 0)) (F_value_a : Fld Z h0 a "java/lang/String" "value" "[B" (.ref t1)) (V_t1 : Arv Z h0 t1 k1 .byte zl vs (ii 0)) (S_CS : Sta Z h0 "java/lang/String" "COMPACT_STRINGS" "Z" (.int cs)) (hcs : ¬ cs = (0 : Int32)) :
    own_M l yy25 jdk_42_method_80_code 3 (some .int) ws rr49 Z #[(.ref a), (.int (65533 : Int32)), (ii 0)] h0 (Q_ix2_l_0 Z a t1 k1 cs zl vs h0 n0) := by
  refine own_bd (plainFor_of_name pn_8) fun p e s m below meth c s₁ Bd hx hby hml hown hnm hlk hZ X0 e0 => ?_
  rw [ef_ix2_l_0 m a]
  refine bN s₁ (mkF m 1 #[vr a, vi 65533, vi 0] [(.ref a)]) (fun _ k => XS.aloadN X0.here hx rfl (hb hby d8_0) rfl rfl k) ?_
  obtain ⟨cq21, kq21, q21a, q21b, q21c⟩ := isOf hZ e0 E_a
  obtain ⟨_, _, ⟨T21, L21, k21, n21⟩, -, X21, ⟨Lc21, hQ21, l21, y21, z21⟩, st21⟩ := X0.virtualBack hx (y := yy12) (z := yy12) hown (mvT hZ (hw _ (mo 46 rfl))) (mvT hZ (hw _ (mo 47 rfl))) (notFace_of_selects (args := #[]) (mvT hZ (hw _ (mo 49 rfl)))) (mvT hZ (hw _ (mo 49 rfl))) (mvT hZ (hw _ (mo 48 rfl))) (by decide) (backOf (W := 0) (isl_0 l Z a0 hw [] a cs h0 n0 Z0 F_coder_a S_CS hcs) hZ (hw _ (mo 50 rfl)) (hw _ (mo 12 rfl)) (by decide) (by decide)) q21a q21c (g := (mkF m 1 #[vr a, vi 65533, vi 0] [(.ref a)])) rfl (by rw [hml]; rfl) (Steps.refl _) (argsL := []) (rest := []) (lenOf pd_15 rfl) rfl (Nat.le_of_eq rfl) (hb hby d8_1) (fun _ _ => ⟨rfl, e0, (by decide : 0 ≤ _), (by decide : 0 ≤ _)⟩)
  dsimp only [Pt.U, Pt.locs, Pt.cells, Pt.slots] at X21 l21 y21 z21 st21 hQ21
  subst l21 y21 z21
  obtain ⟨rfl, N21q, e21⟩ := hQ21
  have N21 := Fr.app (Fr.nil n0) N21q
  refine bN T21 (mkF m 4 #[vr a, vi 65533, vi 0] [(.int (1 : Int32))]) (fun _ k => st21.trans k) ?_
  refine bN T21 (mkF m 7 #[vr a, vi 65533, vi 0] []) (fun _ k => XS.ifNo X21.here hx rfl (hb hby d8_4) rfl ((if0 _ _).trans (feq (by decide)).1) k) ?_
  refine bN T21 (mkF m 8 #[vr a, vi 65533, vi 0] [(.ref a)]) (fun _ k => XS.aloadN X21.here hx rfl (hb hby d8_7) rfl rfl k) ?_
  obtain ⟨T22, X22, e22, st22⟩ := getF X21 hx hZ hown (host := "") (Or.inl (hw _ (mo 29 rfl))) Via.refl e21 F_value_a (g := (mkF m 8 #[vr a, vi 65533, vi 0] [(.ref a)])) rfl rfl (hb hby d8_8)
  refine bN T22 (mkF m 11 #[vr a, vi 65533, vi 0] [(.ref t1)]) (fun _ k => st22 _ k) ?_
  refine bN T22 (mkF m 12 #[vr a, vi 65533, vi 0] [(.int (65533 : Int32)), (.ref t1)]) (fun _ k => XS.iloadN X22.here hx rfl (hb hby d8_11) rfl k) ?_
  refine bN T22 (mkF m 13 #[vr a, vi 65533, vi 0] [(ii 0), (.int (65533 : Int32)), (.ref t1)]) (fun _ k => XS.iloadN X22.here hx rfl (hb hby d8_12) rfl k) ?_
  refine bN T22 (mkF m 14 #[vr a, vi 65533, vi 0] [(.ref a), (ii 0), (.int (65533 : Int32)), (.ref t1)]) (fun _ k => XS.aloadN X22.here hx rfl (hb hby d8_13) rfl rfl k) ?_
  obtain ⟨cq23, kq23, q23a, q23b, q23c⟩ := isOf hZ e22 E_a
  obtain ⟨_, _, ⟨T23, L23, k23, n23⟩, -, X23, ⟨Lc23, hQ23, l23, y23, z23⟩, st23⟩ := X22.virtualBack hx (y := yy16) (z := yy16) hown (mvT hZ (hw _ (mo 52 rfl))) (mvT hZ (hw _ (mo 53 rfl))) (notFace_of_selects (args := #[]) (mvT hZ (hw _ (mo 55 rfl)))) (mvT hZ (hw _ (mo 55 rfl))) (mvT hZ (hw _ (mo 54 rfl))) (by decide) (backOf (W := 3) (len_l_0 l Z a0 hw [] a t1 k1 cs zl vs h0 n0 Z0 E_a F_coder_a F_value_a V_t1 S_CS hcs) hZ (hw _ (mo 56 rfl)) (hw _ (mo 12 rfl)) (by decide) (by decide)) q23a q23c (g := (mkF m 14 #[vr a, vi 65533, vi 0] [(.ref a), (ii 0), (.int (65533 : Int32)), (.ref t1)])) rfl (by rw [hml]; rfl) (Steps.refl _) (argsL := []) (rest := [(ii 0), (.int (65533 : Int32)), (.ref t1)]) (lenOf pd_16 rfl) rfl (Nat.le_of_eq rfl) (hb hby d8_14) (fun _ _ => ⟨rfl, e22, (by decide : 0 ≤ _), (by decide : 0 ≤ _)⟩)
  dsimp only [Pt.U, Pt.locs, Pt.cells, Pt.slots] at X23 l23 y23 z23 st23 hQ23
  subst l23 y23 z23
  obtain ⟨rfl, N23q, e23⟩ := hQ23
  have N23 := Fr.app N21 N23q
  refine bN T23 (mkF m 17 #[vr a, vi 65533, vi 0] [(.int (zl >>> ((0 : Int32) &&& 31))), (ii 0), (.int (65533 : Int32)), (.ref t1)]) (fun _ k => st23.trans k) ?_
  obtain ⟨_, _, ⟨T24, L24, k24, n24⟩, -, X24, ⟨Lc24, hQ24, l24, y24, z24⟩, st24⟩ := Jvm.LawKit.callS X23 hx (y := yy28) hown (mvT hZ (hw _ (mo 62 rfl))) (mvT hZ (hw _ (mo 63 rfl))) (mvT hZ (hw _ (mo 64 rfl))) (mvT hZ (hw _ (mo 65 rfl))) (by decide) (backOf (W := 0) (iof_l_0 l Z a0 hw [] t1 (zl >>> ((0 : Int32) &&& 31))  h0 n0 Z0 ) hZ (hw _ (mo 65 rfl)) (hw _ (mo 64 rfl)) (by decide) (by decide)) (g := (mkF m 17 #[vr a, vi 65533, vi 0] [(.int (zl >>> ((0 : Int32) &&& 31))), (ii 0), (.int (65533 : Int32)), (.ref t1)])) rfl (by rw [hml]; rfl) (argsL := [(.ref t1), (.int (65533 : Int32)), (ii 0), (.int (zl >>> ((0 : Int32) &&& 31)))]) (rest := []) (lenOf pd_13 rfl) rfl (Nat.le_of_eq rfl) (hb hby d8_17) (fun _ _ => ⟨rfl, e23, (by decide : 0 ≤ _), (by decide : 0 ≤ _)⟩)
  dsimp only [Pt.U, Pt.locs, Pt.cells, Pt.slots] at X24 l24 y24 z24 st24 hQ24
  subst l24 y24 z24
  obtain ⟨rfl, N24q, e24⟩ := hQ24
  have N24 := Fr.app N23 N24q
  refine bN T24 (mkF m 20 #[vr a, vi 65533, vi 0] [(.int (-1 : Int32))]) (fun _ k => st24 _ k) ?_
  refine bN T24 (mkF m 36 #[vr a, vi 65533, vi 0] [(.int (-1 : Int32))]) (fun _ k => XS.goto X24.here hx rfl (pc0 := 20) (pc' := 36) rfl (hb hby d8_20) (by decide) (by decide) k) ?_
  refine own_ret X24 hlk (v := some (.int (-1 : Int32))) (nvr Bd.returns) (fun fs hr => retI X24 hx Bd.returns (hb hby d8_36) hr) ?_ (by decide) (by decide)
  rw [e24]
  exact ⟨rfl, N24, rfl⟩
theorem ef_ix1_l_0 (m : MethodId) (a : Addr) : entryFrame m #[(.ref a), (.int (65533 : Int32))] 2 = mkF m 0 #[vr a, vi 65533] [] := rfl
def Q_ix1_l_0 (Z : State) (a t1 : Addr) (k1 : ClassId) (cs zl : Int32) (vs : List Value) (h0 : Heap) (n0 : Nat) (v : Option Value) (h : Heap) (L : List Loc) : Prop := v = some (.int (-1 : Int32)) ∧ Fr n0 L ∧ h = h0
theorem ix1_l_0 (l : Launch) (Z : State) (a0 : Array Value) (hw : HW Z a0) (ws : List Jvm.Cond) (a t1 : Addr) (k1 : ClassId) (cs zl : Int32) (vs : List Value) (h0 : Heap) (n0 : Nat) (Z0 : n0 ≤ h0.size) (E_a : Exa Z h0 a "java/lang/String") (F_coder_a : Fld Z h0 a "java/lang/String" "coder" "B" (ii 0)) (F_value_a : Fld Z h0 a "java/lang/String" "value" "[B" (.ref t1)) (V_t1 : Arv Z h0 t1 k1 .byte zl vs (ii 0)) (S_CS : Sta Z h0 "java/lang/String" "COMPACT_STRINGS" "Z" (.int cs)) (hcs : ¬ cs = (0 : Int32)) :
    own_M l yy26 jdk_42_method_79_code 2 (some .int) ws rr50 Z #[(.ref a), (.int (65533 : Int32))] h0 (Q_ix1_l_0 Z a t1 k1 cs zl vs h0 n0) := by
  refine own_bd (plainFor_of_name pn_7) fun p e s m below meth c s₁ Bd hx hby hml hown hnm hlk hZ X0 e0 => ?_
  rw [ef_ix1_l_0 m a]
  refine bN s₁ (mkF m 1 #[vr a, vi 65533] [(.ref a)]) (fun _ k => XS.aloadN X0.here hx rfl (hb hby d7_0) rfl rfl k) ?_
  refine bN s₁ (mkF m 2 #[vr a, vi 65533] [(.int (65533 : Int32)), (.ref a)]) (fun _ k => XS.iloadN X0.here hx rfl (hb hby d7_1) rfl k) ?_
  refine bN s₁ (mkF m 3 #[vr a, vi 65533] [(ii 0), (.int (65533 : Int32)), (.ref a)]) (fun _ k => XS.iconst X0.here hx rfl (hb hby d7_2) k) ?_
  obtain ⟨cq21, kq21, q21a, q21b, q21c⟩ := isOf hZ e0 E_a
  obtain ⟨_, _, ⟨T21, L21, k21, n21⟩, -, X21, ⟨Lc21, hQ21, l21, y21, z21⟩, st21⟩ := X0.virtualBack hx (y := yy25) (z := yy25) hown (mvT hZ (hw _ (mo 41 rfl))) (mvT hZ (hw _ (mo 42 rfl))) (notFace_of_selects (args := #[]) (mvT hZ (hw _ (mo 44 rfl)))) (mvT hZ (hw _ (mo 44 rfl))) (mvT hZ (hw _ (mo 43 rfl))) (by decide) (backOf (W := 0) (ix2_l_0 l Z a0 hw [] a t1 k1 cs zl vs h0 n0 Z0 E_a F_coder_a F_value_a V_t1 S_CS hcs) hZ (hw _ (mo 45 rfl)) (hw _ (mo 12 rfl)) (by decide) (by decide)) q21a q21c (g := (mkF m 3 #[vr a, vi 65533] [(ii 0), (.int (65533 : Int32)), (.ref a)])) rfl (by rw [hml]; rfl) (Steps.refl _) (argsL := [(.int (65533 : Int32)), (ii 0)]) (rest := []) (lenOf pd_14 rfl) rfl (Nat.le_of_eq rfl) (hb hby d7_3) (fun _ _ => ⟨rfl, e0, (by decide : 0 ≤ _), (by decide : 0 ≤ _)⟩)
  dsimp only [Pt.U, Pt.locs, Pt.cells, Pt.slots] at X21 l21 y21 z21 st21 hQ21
  subst l21 y21 z21
  obtain ⟨rfl, N21q, e21⟩ := hQ21
  have N21 := Fr.app (Fr.nil n0) N21q
  refine bN T21 (mkF m 6 #[vr a, vi 65533] [(.int (-1 : Int32))]) (fun _ k => st21.trans k) ?_
  refine own_ret X21 hlk (v := some (.int (-1 : Int32))) (nvr Bd.returns) (fun fs hr => retI X21 hx Bd.returns (hb hby d7_6) hr) ?_ (by decide) (by decide)
  rw [e21]
  exact ⟨rfl, N21, rfl⟩
theorem ef_hub_l_0 (m : MethodId) (a : Addr) : entryFrame m #[(.ref a)] 1 = mkF m 0 #[vr a] [] := rfl
def Q_hub_l_0 (Z : State) (a t1 : Addr) (k1 : ClassId) (cs zl : Int32) (vs : List Value) (h0 : Heap) (n0 : Nat) (v : Option Value) (h : Heap) (L : List Loc) : Prop := v = some (ii 0) ∧ Fr n0 L ∧ h = h0
theorem hub_l_0 (l : Launch) (Z : State) (a0 : Array Value) (hw : HW Z a0) (ws : List Jvm.Cond) (a t1 : Addr) (k1 : ClassId) (cs zl : Int32) (vs : List Value) (h0 : Heap) (n0 : Nat) (Z0 : n0 ≤ h0.size) (E_a : Exa Z h0 a "java/lang/String") (F_coder_a : Fld Z h0 a "java/lang/String" "coder" "B" (ii 0)) (F_value_a : Fld Z h0 a "java/lang/String" "value" "[B" (.ref t1)) (V_t1 : Arv Z h0 t1 k1 .byte zl vs (ii 0)) (S_CS : Sta Z h0 "java/lang/String" "COMPACT_STRINGS" "Z" (.int cs)) (hcs : ¬ cs = (0 : Int32)) :
    own_M l yy27 prog_8_method_2_code 1 (some .boolean) ws rr51 Z #[(.ref a)] h0 (Q_hub_l_0 Z a t1 k1 cs zl vs h0 n0) := by
  refine own_bd (plainFor_of_name pn_6) fun p e s m below meth c s₁ Bd hx hby hml hown hnm hlk hZ X0 e0 => ?_
  rw [ef_hub_l_0 m a]
  refine bN s₁ (mkF m 1 #[vr a] [(.ref a)]) (fun _ k => XS.aloadN X0.here hx rfl (hb hby d6_0) rfl rfl k) ?_
  refine bN s₁ (mkF m 3 #[vr a] [(.int (65533 : Int32)), (.ref a)]) (fun _ k => ldcI X0 hx hown (mvT hZ (hw _ (mo 35 rfl))) rfl (hb hby d6_1) k) ?_
  obtain ⟨cq21, kq21, q21a, q21b, q21c⟩ := isOf hZ e0 E_a
  obtain ⟨_, _, ⟨T21, L21, k21, n21⟩, -, X21, ⟨Lc21, hQ21, l21, y21, z21⟩, st21⟩ := X0.virtualBack hx (y := yy26) (z := yy26) hown (mvT hZ (hw _ (mo 36 rfl))) (mvT hZ (hw _ (mo 37 rfl))) (notFace_of_selects (args := #[]) (mvT hZ (hw _ (mo 39 rfl)))) (mvT hZ (hw _ (mo 39 rfl))) (mvT hZ (hw _ (mo 38 rfl))) (by decide) (backOf (W := 0) (ix1_l_0 l Z a0 hw [] a t1 k1 cs zl vs h0 n0 Z0 E_a F_coder_a F_value_a V_t1 S_CS hcs) hZ (hw _ (mo 40 rfl)) (hw _ (mo 12 rfl)) (by decide) (by decide)) q21a q21c (g := (mkF m 3 #[vr a] [(.int (65533 : Int32)), (.ref a)])) rfl (by rw [hml]; rfl) (Steps.refl _) (argsL := [(.int (65533 : Int32))]) (rest := []) (lenOf pd_4 rfl) rfl (Nat.le_of_eq rfl) (hb hby d6_3) (fun _ _ => ⟨rfl, e0, (by decide : 0 ≤ _), (by decide : 0 ≤ _)⟩)
  dsimp only [Pt.U, Pt.locs, Pt.cells, Pt.slots] at X21 l21 y21 z21 st21 hQ21
  subst l21 y21 z21
  obtain ⟨rfl, N21q, e21⟩ := hQ21
  have N21 := Fr.app (Fr.nil n0) N21q
  refine bN T21 (mkF m 6 #[vr a] [(.int (-1 : Int32))]) (fun _ k => st21.trans k) ?_
  refine bN T21 (mkF m 13 #[vr a] []) (fun _ k => XS.ifYes X21.here hx rfl (pc0 := 6) (pc' := 13) rfl (hb hby d6_6) rfl ((if0 _ _).trans (tlt (by decide)).1) (by decide) (by decide) k) ?_
  refine bN T21 (mkF m 14 #[vr a] [(ii 0)]) (fun _ k => XS.iconst X21.here hx rfl (hb hby d6_13) k) ?_
  refine own_ret X21 hlk (v := some (ii 0)) (nvr Bd.returns) (fun fs hr => retN X21 hx (t := .boolean) Bd.returns (by simp) (hb hby d6_14) hr) ?_ (by decide) (by decide)
  rw [e21]
  exact ⟨congrArg (fun z => some (Value.int z)) rfl, N21, rfl⟩
theorem pn_0 : plainName "com/example/shelfgraph/shelfgraph/ingest/CommandLineTextHasUndecodedBytesPinLaw" = true := by first | (simp [plainName, overriddenIn]; done) | decide +kernel
theorem ef_rm0 (m : MethodId) (len x1 : Int32) (x2 x3 x4 : Int32) : entryFrame m #[(.int len), (.int x1), (.int x2), (.int x3), (.int x4)] maxLocals = mkF m 0 #[vi len, vi x1, vi x2, vi x3, vi x4, uu, uu, uu, uu, uu, uu, uu, uu] [] := rfl
def V_rm0 (Z : State) (len x1 : Int32) (x2 x3 : Int32) (x4 cs : Int32) (sf : Value) (h0 : Heap) (vm : Vm) : Prop := True
def Q_rm0 (Z : State) (len x1 : Int32) (x2 x3 : Int32) (x4 cs : Int32) (sf : Value) (h0 : Heap) (n0 : Nat) (v : Option Value) (h : Heap) (L : List Loc) : Prop := v = some (.int 1) ∧ Fr n0 L
theorem rm0 (l : Launch) (Z : State) (a0 : Array Value) (hw : HW Z a0) (ws : List Jvm.Cond) (len x1 : Int32) (x2 x3 : Int32) (x4 cs : Int32) (sf : Value) (h0 : Heap) (n0 : Nat) (Z0 : n0 ≤ h0.size) (O0 : Old Z n0 h0) (S_CS : Sta Z Z.heap "java/lang/String" "COMPACT_STRINGS" "Z" (.int cs)) (hcs : ¬ cs = (0 : Int32)) (hsf : sf.isRef = true) (S_SF : Sta Z Z.heap "jdk/internal/util/Preconditions" "SIOOBE_FORMATTER" "Ljava/util/function/BiFunction;" sf) (S_AD : Sta Z Z.heap "java/lang/StringUTF16" "$assertionsDisabled" "Z" (.int (1 : Int32))) (S_HI : Sta Z Z.heap "java/lang/StringUTF16" "HI_BYTE_SHIFT" "I" (ii 0)) (S_LO : Sta Z Z.heap "java/lang/StringUTF16" "LO_BYTE_SHIFT" "I" (.int (8 : Int32))) :
    MetFree l x (head1 (Jvm.Cond.code x code maxLocals ret :: ws) room_1) (fun zz UU => zz = #[(.int len), (.int x1), (.int x2), (.int x3), (.int x4)] ∧ Z.Warmed39 UU.vm ∧ UU.heap = h0 ∧ CHv Z consts_1 UU.vm h0 ∧ V_rm0 Z len x1 x2 x3 x4 cs sf h0 UU.vm) (fun _ _ _ _ _ => True) (fun _ U o U' => ∃ v L, o = .returned v ∧ Q_rm0 Z len x1 x2 x3 x4 cs sf h0 n0 v U'.heap L ∧ CHr Z consts_1 U.vm U.heap U'.vm U'.heap ∧ ReturnedEndW U o U' L 24 1152) := by
  refine MetFree.of_bodySF (plainFor_of_name pn_0) hisR ?_
  intro p e s m args below meth c s₁ Bd hml0 hP hK
  obtain ⟨rfl, hZ, hh, hH, hV⟩ := hP
  have hx := Bd.exec
  have hby := Bd.bytes
  have hml : c.maxLocals = 13 := hml0
  have hown : s.vm.findClass "com/example/shelfgraph/shelfgraph/ingest/CommandLineTextHasUndecodedBytesPinLaw" = some m.cls := findClass_of_methodNamed Bd.named
  have hnm := (name_of_methodNamed Bd.named Bd.method).1
  have hlk : meth.locks = false := BodyLoose.notSynchronized Bd
  have X0 : Stand p l e room_1 (s.setVm s.vm) m #[(.int len), (.int x1), (.int x2), (.int x3), (.int x4)] below meth c s₁ [] 0 0 := Stand.of_body Bd
  have e0 : s₁.heap = h0 := by rw [← hh, Bd.state]; rfl
  have N0 := Fr.nil n0
  show own_GoW p.tables e below Z consts_1 (Q_rm0 Z len x1 x2 x3 x4 cs sf h0 n0) s 24 1152 s₁ (entryFrame m #[(.int len), (.int x1), (.int x2), (.int x3), (.int x4)] maxLocals)
  rw [ef_rm0 m len x1 x2 x3 x4]
  have hS0 : s.Since s.vm s.heap.size := (State.WarmedH.refl s).since _
  have hk0 : s.heap.size ≤ h0.size := Nat.le_of_eq (congrArg Array.size hh)
  have C0 : CHr Z consts_1 s.vm s.heap s.vm h0 := by rw [hh]; exact CHr.refl hH
  have hEL : EW Z a0 consts_1 := own_EL hw
  have hwS : ∀ d ∈ Bundle.stringAtoms, d.before a0 Z = true := fun d hd => hw d (own_SA d hd)
  refine bW s₁ (mkF m 1 #[vi len, vi x1, vi x2, vi x3, vi x4, uu, uu, uu, uu, uu, uu, uu, uu] [(.int len)]) (fun _ k => XS.iloadN X0.here hx rfl (hb hby at_0) rfl k) ?_
  refine bW s₁ (mkF m 3 #[vi len, vi x1, vi x2, vi x3, vi x4, uu, uu, uu, uu, uu, uu, uu, uu] [(.int (2147483647 : Int32)), (.int len)]) (fun _ k => ldcI X0 hx hown (mvT hZ (hw _ (mo 0 rfl))) rfl (hb hby at_1) k) ?_
  refine bW s₁ (mkF m 4 #[vi len, vi x1, vi x2, vi x3, vi x4, uu, uu, uu, uu, uu, uu, uu, uu] [(.int (len &&& (2147483647 : Int32)))]) (fun _ k => XS.iand X0.here hx rfl (hb hby at_3) rfl k) ?_
  refine bW s₁ (mkF m 5 #[vi len, vi x1, vi x2, vi x3, vi x4, uu, uu, uu, uu, uu, uu, uu, uu] [(.int (5 : Int32)), (.int (len &&& (2147483647 : Int32)))]) (fun _ k => XS.iconst X0.here hx rfl (hb hby at_4) k) ?_
  refine bW s₁ (mkF m 6 #[vi len, vi x1, vi x2, vi x3, vi x4, uu, uu, uu, uu, uu, uu, uu, uu] [(.int ((len &&& (2147483647 : Int32)) % (5 : Int32)))]) (fun _ k => iremM X0 hx rfl (hb hby at_5) rfl (by decide) k) ?_
  refine bW s₁ (mkF m 8 #[vi len, vi x1, vi x2, vi x3, vi x4, vi ((len &&& (2147483647 : Int32)) % (5 : Int32)), uu, uu, uu, uu, uu, uu, uu] []) (fun _ k => XS.istore X0.here hx rfl (hb hby at_6) rfl rfl k) ?_
  refine bW s₁ (mkF m 9 #[vi len, vi x1, vi x2, vi x3, vi x4, vi ((len &&& (2147483647 : Int32)) % (5 : Int32)), uu, uu, uu, uu, uu, uu, uu] [(.int x1)]) (fun _ k => XS.iloadN X0.here hx rfl (hb hby at_8) rfl k) ?_
  obtain ⟨_, _, ⟨T21, L21, k21, n21⟩, -, X21, ⟨Lc21, hQ21, l21, y21, z21⟩, st21⟩ := Jvm.LawKit.callS X0 hx (y := yy0) hown (mvT hZ (hw _ (mo 1 rfl))) (mvT hZ (hw _ (mo 2 rfl))) (mvT hZ (hw _ (mo 3 rfl))) (mvT hZ (hw _ (mo 4 rfl))) (by decide) (backOf (W := 0) (ch l Z a0 hw [] x1  h0 n0 Z0 ) hZ (hw _ (mo 4 rfl)) (hw _ (mo 3 rfl)) (by decide) (by decide)) (g := (mkF m 9 #[vi len, vi x1, vi x2, vi x3, vi x4, vi ((len &&& (2147483647 : Int32)) % (5 : Int32)), uu, uu, uu, uu, uu, uu, uu] [(.int x1)])) rfl (by rw [hml]; rfl) (argsL := [(.int x1)]) (rest := []) (lenOf pd_18 rfl) rfl (Nat.le_of_eq rfl) (hb hby at_9) (fun _ _ => ⟨rfl, e0, (by decide : 0 ≤ _), (by decide : 0 ≤ _)⟩)
  dsimp only [Pt.U, Pt.locs, Pt.cells, Pt.slots] at X21 l21 y21 z21 st21 hQ21
  subst l21 y21 z21
  obtain ⟨rfl, N21q, e21⟩ := hQ21
  have N21 := Fr.app (Fr.nil n0) N21q
  refine bW T21 (mkF m 12 #[vi len, vi x1, vi x2, vi x3, vi x4, vi ((len &&& (2147483647 : Int32)) % (5 : Int32)), uu, uu, uu, uu, uu, uu, uu] [(.int (own_ch x1))]) (fun _ k => st21 _ k) ?_
  refine bW T21 (mkF m 14 #[vi len, vi x1, vi x2, vi x3, vi x4, vi ((len &&& (2147483647 : Int32)) % (5 : Int32)), vi (own_ch x1), uu, uu, uu, uu, uu, uu] []) (fun _ k => XS.istore X21.here hx rfl (hb hby at_12) rfl rfl k) ?_
  refine bW T21 (mkF m 15 #[vi len, vi x1, vi x2, vi x3, vi x4, vi ((len &&& (2147483647 : Int32)) % (5 : Int32)), vi (own_ch x1), uu, uu, uu, uu, uu, uu] [(.int x2)]) (fun _ k => XS.iloadN X21.here hx rfl (hb hby at_14) rfl k) ?_
  obtain ⟨_, _, ⟨T22, L22, k22, n22⟩, -, X22, ⟨Lc22, hQ22, l22, y22, z22⟩, st22⟩ := Jvm.LawKit.callS X21 hx (y := yy0) hown (mvT hZ (hw _ (mo 1 rfl))) (mvT hZ (hw _ (mo 2 rfl))) (mvT hZ (hw _ (mo 3 rfl))) (mvT hZ (hw _ (mo 4 rfl))) (by decide) (backOf (W := 0) (ch l Z a0 hw [] x2  h0 n0 Z0 ) hZ (hw _ (mo 4 rfl)) (hw _ (mo 3 rfl)) (by decide) (by decide)) (g := (mkF m 15 #[vi len, vi x1, vi x2, vi x3, vi x4, vi ((len &&& (2147483647 : Int32)) % (5 : Int32)), vi (own_ch x1), uu, uu, uu, uu, uu, uu] [(.int x2)])) rfl (by rw [hml]; rfl) (argsL := [(.int x2)]) (rest := []) (lenOf pd_18 rfl) rfl (Nat.le_of_eq rfl) (hb hby at_15) (fun _ _ => ⟨rfl, e21, (by decide : 0 ≤ _), (by decide : 0 ≤ _)⟩)
  dsimp only [Pt.U, Pt.locs, Pt.cells, Pt.slots] at X22 l22 y22 z22 st22 hQ22
  subst l22 y22 z22
  obtain ⟨rfl, N22q, e22⟩ := hQ22
  have N22 := Fr.app N21 N22q
  refine bW T22 (mkF m 18 #[vi len, vi x1, vi x2, vi x3, vi x4, vi ((len &&& (2147483647 : Int32)) % (5 : Int32)), vi (own_ch x1), uu, uu, uu, uu, uu, uu] [(.int (own_ch x2))]) (fun _ k => st22 _ k) ?_
  refine bW T22 (mkF m 20 #[vi len, vi x1, vi x2, vi x3, vi x4, vi ((len &&& (2147483647 : Int32)) % (5 : Int32)), vi (own_ch x1), vi (own_ch x2), uu, uu, uu, uu, uu] []) (fun _ k => XS.istore X22.here hx rfl (hb hby at_18) rfl rfl k) ?_
  refine bW T22 (mkF m 21 #[vi len, vi x1, vi x2, vi x3, vi x4, vi ((len &&& (2147483647 : Int32)) % (5 : Int32)), vi (own_ch x1), vi (own_ch x2), uu, uu, uu, uu, uu] [(.int x3)]) (fun _ k => XS.iloadN X22.here hx rfl (hb hby at_20) rfl k) ?_
  obtain ⟨_, _, ⟨T23, L23, k23, n23⟩, -, X23, ⟨Lc23, hQ23, l23, y23, z23⟩, st23⟩ := Jvm.LawKit.callS X22 hx (y := yy0) hown (mvT hZ (hw _ (mo 1 rfl))) (mvT hZ (hw _ (mo 2 rfl))) (mvT hZ (hw _ (mo 3 rfl))) (mvT hZ (hw _ (mo 4 rfl))) (by decide) (backOf (W := 0) (ch l Z a0 hw [] x3  h0 n0 Z0 ) hZ (hw _ (mo 4 rfl)) (hw _ (mo 3 rfl)) (by decide) (by decide)) (g := (mkF m 21 #[vi len, vi x1, vi x2, vi x3, vi x4, vi ((len &&& (2147483647 : Int32)) % (5 : Int32)), vi (own_ch x1), vi (own_ch x2), uu, uu, uu, uu, uu] [(.int x3)])) rfl (by rw [hml]; rfl) (argsL := [(.int x3)]) (rest := []) (lenOf pd_18 rfl) rfl (Nat.le_of_eq rfl) (hb hby at_21) (fun _ _ => ⟨rfl, e22, (by decide : 0 ≤ _), (by decide : 0 ≤ _)⟩)
  dsimp only [Pt.U, Pt.locs, Pt.cells, Pt.slots] at X23 l23 y23 z23 st23 hQ23
  subst l23 y23 z23
  obtain ⟨rfl, N23q, e23⟩ := hQ23
  have N23 := Fr.app N22 N23q
  refine bW T23 (mkF m 24 #[vi len, vi x1, vi x2, vi x3, vi x4, vi ((len &&& (2147483647 : Int32)) % (5 : Int32)), vi (own_ch x1), vi (own_ch x2), uu, uu, uu, uu, uu] [(.int (own_ch x3))]) (fun _ k => st23 _ k) ?_
  refine bW T23 (mkF m 26 #[vi len, vi x1, vi x2, vi x3, vi x4, vi ((len &&& (2147483647 : Int32)) % (5 : Int32)), vi (own_ch x1), vi (own_ch x2), vi (own_ch x3), uu, uu, uu, uu] []) (fun _ k => XS.istore X23.here hx rfl (hb hby at_24) rfl rfl k) ?_
  refine bW T23 (mkF m 28 #[vi len, vi x1, vi x2, vi x3, vi x4, vi ((len &&& (2147483647 : Int32)) % (5 : Int32)), vi (own_ch x1), vi (own_ch x2), vi (own_ch x3), uu, uu, uu, uu] [(.int x4)]) (fun _ k => XS.iload X23.here hx rfl (hb hby at_26) rfl k) ?_
  obtain ⟨_, _, ⟨T24, L24, k24, n24⟩, -, X24, ⟨Lc24, hQ24, l24, y24, z24⟩, st24⟩ := Jvm.LawKit.callS X23 hx (y := yy0) hown (mvT hZ (hw _ (mo 1 rfl))) (mvT hZ (hw _ (mo 2 rfl))) (mvT hZ (hw _ (mo 3 rfl))) (mvT hZ (hw _ (mo 4 rfl))) (by decide) (backOf (W := 0) (ch l Z a0 hw [] x4  h0 n0 Z0 ) hZ (hw _ (mo 4 rfl)) (hw _ (mo 3 rfl)) (by decide) (by decide)) (g := (mkF m 28 #[vi len, vi x1, vi x2, vi x3, vi x4, vi ((len &&& (2147483647 : Int32)) % (5 : Int32)), vi (own_ch x1), vi (own_ch x2), vi (own_ch x3), uu, uu, uu, uu] [(.int x4)])) rfl (by rw [hml]; rfl) (argsL := [(.int x4)]) (rest := []) (lenOf pd_18 rfl) rfl (Nat.le_of_eq rfl) (hb hby at_28) (fun _ _ => ⟨rfl, e23, (by decide : 0 ≤ _), (by decide : 0 ≤ _)⟩)
  dsimp only [Pt.U, Pt.locs, Pt.cells, Pt.slots] at X24 l24 y24 z24 st24 hQ24
  subst l24 y24 z24
  obtain ⟨rfl, N24q, e24⟩ := hQ24
  have N24 := Fr.app N23 N24q
  refine bW T24 (mkF m 31 #[vi len, vi x1, vi x2, vi x3, vi x4, vi ((len &&& (2147483647 : Int32)) % (5 : Int32)), vi (own_ch x1), vi (own_ch x2), vi (own_ch x3), uu, uu, uu, uu] [(.int (own_ch x4))]) (fun _ k => st24 _ k) ?_
  refine bW T24 (mkF m 33 #[vi len, vi x1, vi x2, vi x3, vi x4, vi ((len &&& (2147483647 : Int32)) % (5 : Int32)), vi (own_ch x1), vi (own_ch x2), vi (own_ch x3), vi (own_ch x4), uu, uu, uu] []) (fun _ k => XS.istore X24.here hx rfl (hb hby at_31) rfl rfl k) ?_
  have hr0 := own_chr x1
  generalize own_ch x1 = c0 at *
  have hr1 := own_chr x2
  generalize own_ch x2 = c1 at *
  have hr2 := own_chr x3
  generalize own_ch x3 = c2 at *
  have hr3 := own_chr x4
  generalize own_ch x4 = c3 at *
  rcases own_rem5 len with hq25 | hq25 | hq25 | hq25 | hq25
  · skip
    rw [hq25]
    refine bW T24 (mkF m 35 #[vi len, vi x1, vi x2, vi x3, vi x4, vi 0, vi c0, vi c1, vi c2, vi c3, uu, uu, uu] [(ii 0)]) (fun _ k => XS.iload X24.here hx rfl (hb hby at_33) rfl k) ?_
    obtain ⟨_, _, ⟨T26, L26, k26, n26⟩, -, X26, ⟨Lc26, hQ26, l26, y26, z26⟩, st26⟩ := Jvm.LawKit.callS X24 hx (y := yy1) hown (mvT hZ (hw _ (mo 6 rfl))) (mvT hZ (hw _ (mo 7 rfl))) (mvT hZ (hw _ (mo 3 rfl))) (mvT hZ (hw _ (mo 8 rfl))) (by decide) (backOf (W := 0) (mka_0 l Z a0 hw []   h0 n0 Z0 ) hZ (hw _ (mo 8 rfl)) (hw _ (mo 3 rfl)) (by decide) (by decide)) (g := (mkF m 35 #[vi len, vi x1, vi x2, vi x3, vi x4, vi 0, vi c0, vi c1, vi c2, vi c3, uu, uu, uu] [(ii 0)])) rfl (by rw [hml]; rfl) (argsL := [(ii 0)]) (rest := []) (lenOf pd_19 rfl) rfl (Nat.le_of_eq rfl) (hb hby at_35) (fun _ _ => ⟨rfl, e24, (by decide : 1 ≤ _), (by decide : 0 ≤ _)⟩)
    dsimp only [Pt.U, Pt.locs, Pt.cells, Pt.slots] at X26 l26 y26 z26 st26 hQ26
    subst l26 y26 z26
    obtain ⟨t26, kb26, rfl, N26q, K26, zt26, V26⟩ := hQ26
    have N26 := Fr.app N24 N26q
    have KK26 : Keep h0 T26.heap [] := Keep.trans (Keep.refl h0 []) K26 all0
    have C26 : CHr Z consts_1 s.vm s.heap s.vm T26.heap := CHr.trans C0 (CHr.keep K26 sf0 C0.1)
    have sz_t26 : h0.size ≤ t26 := Nat.le_trans (Keep.refl h0 []).1 zt26
    have g_t26 : n0 ≤ t26 := Nat.le_trans Z0 sz_t26
    refine bW T26 (mkF m 38 #[vi len, vi x1, vi x2, vi x3, vi x4, vi 0, vi c0, vi c1, vi c2, vi c3, uu, uu, uu] [(.ref t26)]) (fun _ k => st26 _ k) ?_
    refine bW T26 (mkF m 40 #[vi len, vi x1, vi x2, vi x3, vi x4, vi 0, vi c0, vi c1, vi c2, vi c3, vr t26, uu, uu] []) (fun _ k => XS.astore X26.here hx rfl (hb hby at_38) rfl rfl rfl k) ?_
    refine bW T26 (mkF m 42 #[vi len, vi x1, vi x2, vi x3, vi x4, vi 0, vi c0, vi c1, vi c2, vi c3, vr t26, uu, uu] [(ii 0)]) (fun _ k => XS.iload X26.here hx rfl (hb hby at_40) rfl k) ?_
    refine bW T26 (mkF m 51 #[vi len, vi x1, vi x2, vi x3, vi x4, vi 0, vi c0, vi c1, vi c2, vi c3, vr t26, uu, uu] []) (fun _ k => XS.ifYes X26.here hx rfl (pc0 := 42) (pc' := 51) rfl (hb hby at_42) rfl ((if0 _ _).trans (flt (by decide)).2.2.2) (by decide) (by decide) k) ?_
    refine bW T26 (mkF m 53 #[vi len, vi x1, vi x2, vi x3, vi x4, vi 0, vi c0, vi c1, vi c2, vi c3, vr t26, uu, uu] [(ii 0)]) (fun _ k => XS.iload X26.here hx rfl (hb hby at_51) rfl k) ?_
    refine bW T26 (mkF m 54 #[vi len, vi x1, vi x2, vi x3, vi x4, vi 0, vi c0, vi c1, vi c2, vi c3, vr t26, uu, uu] [(.int (1 : Int32)), (ii 0)]) (fun _ k => XS.iconst X26.here hx rfl (hb hby at_53) k) ?_
    refine bW T26 (mkF m 63 #[vi len, vi x1, vi x2, vi x3, vi x4, vi 0, vi c0, vi c1, vi c2, vi c3, vr t26, uu, uu] []) (fun _ k => XS.icmpYes X26.here hx rfl (pc0 := 54) (pc' := 63) rfl (hb hby at_54) rfl (flt (by decide)).2.2.2 (by decide) (by decide) k) ?_
    refine bW T26 (mkF m 65 #[vi len, vi x1, vi x2, vi x3, vi x4, vi 0, vi c0, vi c1, vi c2, vi c3, vr t26, uu, uu] [(ii 0)]) (fun _ k => XS.iload X26.here hx rfl (hb hby at_63) rfl k) ?_
    refine bW T26 (mkF m 66 #[vi len, vi x1, vi x2, vi x3, vi x4, vi 0, vi c0, vi c1, vi c2, vi c3, vr t26, uu, uu] [(.int (2 : Int32)), (ii 0)]) (fun _ k => XS.iconst X26.here hx rfl (hb hby at_65) k) ?_
    refine bW T26 (mkF m 75 #[vi len, vi x1, vi x2, vi x3, vi x4, vi 0, vi c0, vi c1, vi c2, vi c3, vr t26, uu, uu] []) (fun _ k => XS.icmpYes X26.here hx rfl (pc0 := 66) (pc' := 75) rfl (hb hby at_66) rfl (flt (by decide)).2.2.2 (by decide) (by decide) k) ?_
    refine bW T26 (mkF m 77 #[vi len, vi x1, vi x2, vi x3, vi x4, vi 0, vi c0, vi c1, vi c2, vi c3, vr t26, uu, uu] [(ii 0)]) (fun _ k => XS.iload X26.here hx rfl (hb hby at_75) rfl k) ?_
    refine bW T26 (mkF m 78 #[vi len, vi x1, vi x2, vi x3, vi x4, vi 0, vi c0, vi c1, vi c2, vi c3, vr t26, uu, uu] [(.int (3 : Int32)), (ii 0)]) (fun _ k => XS.iconst X26.here hx rfl (hb hby at_77) k) ?_
    refine bW T26 (mkF m 87 #[vi len, vi x1, vi x2, vi x3, vi x4, vi 0, vi c0, vi c1, vi c2, vi c3, vr t26, uu, uu] []) (fun _ k => XS.icmpYes X26.here hx rfl (pc0 := 78) (pc' := 87) rfl (hb hby at_78) rfl (flt (by decide)).2.2.2 (by decide) (by decide) k) ?_
    obtain ⟨T27, h27, X27, e27, E27, A27, D27, -, st27⟩ := newO X26 hx hZ hown (hw _ (mo 10 rfl)) (hw _ (mo 11 rfl)) (hw _ (mo 12 rfl)) rfl (g := (mkF m 87 #[vi len, vi x1, vi x2, vi x3, vi x4, vi 0, vi c0, vi c1, vi c2, vi c3, vr t26, uu, uu] [])) rfl (hb hby at_87) (by decide) (by decide)
    obtain ⟨b27, g27⟩ : ∃ z, z = T26.heap.size := ⟨_, rfl⟩
    rw [← g27] at A27 D27 st27
    have E_b27 : Exa Z h27 b27 "java/lang/String" := A27
    have F_value_b27 : Fld Z h27 b27 "java/lang/String" "value" "[B" .null := D27 (Or.inr (hw _ (mo 25 rfl))) (ty := (.array .byte)) (by decide)
    have F_coder_b27 : Fld Z h27 b27 "java/lang/String" "coder" "B" (ii 0) := D27 (Or.inr (hw _ (mo 26 rfl))) (ty := .byte) (by decide)
    have g_b27 : n0 ≤ b27 := Nat.le_trans (Nat.le_trans Z0 K26.1) (Nat.le_of_eq g27.symm)
    have sz_b27 : h0.size ≤ b27 := Nat.le_trans KK26.1 (Nat.le_of_eq g27.symm)
    have K27 : Keep h0 h27 [] := Keep.ext KK26 E27
    have Sf27_b27 : Safe Z consts_1 s.vm h27 b27 := Safe.ext E27 C26.1 (Safe.new (Nat.le_of_eq g27.symm))
    have C27 : CHr Z consts_1 s.vm s.heap s.vm h27 := CHr.trans C26 (CHr.ext E27 C26.1)
    refine bW T27 (mkF m 90 #[vi len, vi x1, vi x2, vi x3, vi x4, vi 0, vi c0, vi c1, vi c2, vi c3, vr t26, uu, uu] [(.ref b27)]) (fun _ k => st27 _ k) ?_
    refine bW T27 (mkF m 91 #[vi len, vi x1, vi x2, vi x3, vi x4, vi 0, vi c0, vi c1, vi c2, vi c3, vr t26, uu, uu] [(.ref b27), (.ref b27)]) (fun _ k => XS.dup X27.here hx rfl (hb hby at_90) rfl rfl k) ?_
    refine bW T27 (mkF m 93 #[vi len, vi x1, vi x2, vi x3, vi x4, vi 0, vi c0, vi c1, vi c2, vi c3, vr t26, uu, uu] [(.ref t26), (.ref b27), (.ref b27)]) (fun _ k => XS.aload X27.here hx rfl (hb hby at_91) rfl rfl k) ?_
    obtain ⟨_, _, ⟨T28, L28, k28, n28⟩, -, X28, hSq28, hgq28, ⟨Lc28, hQ28, l28, y28, z28, Cq28⟩, st28⟩ := X27.specialBackS hx (y := yy6) rfl hown (mvT hZ (hw _ (mo 13 rfl))) (mvT hZ (hw _ (mo 14 rfl))) (mvT hZ (hw _ (mo 15 rfl))) (by decide) (own_backSH (s := s) (EL := consts_1) (W := 1) (sin1_0 l Z a0 hw [] b27 t26 kb26 h27 n0 (Nat.le_trans (Nat.le_trans Z0 K26.1) E27.1) E_b27 F_value_b27 F_coder_b27 g_b27 (Arv.ext V26 E27)) hZ (hw _ (mo 15 rfl)) (hw _ (mo 12 rfl)) (by decide) (by decide) hEL C27.1 (fun vm hC => CHr.safe hC (E_b27).lt Sf27_b27)) (g := (mkF m 93 #[vi len, vi x1, vi x2, vi x3, vi x4, vi 0, vi c0, vi c1, vi c2, vi c3, vr t26, uu, uu] [(.ref t26), (.ref b27), (.ref b27)])) rfl (by rw [hml]; rfl) (Steps.refl _) (a := b27) (argsL := [(.ref t26)]) (rest := [(.ref b27)]) (lenOf pd_20 rfl) rfl (Nat.le_of_eq rfl) (hb hby at_93) (fun _ _ => ⟨rfl, e27, (by decide : 6 ≤ _), (by decide : 12 ≤ _)⟩)
    dsimp only [Pt.U, Pt.locs, Pt.cells, Pt.slots] at X28 l28 y28 z28 st28 hQ28 hSq28 hgq28 Cq28
    subst l28 y28 z28
    obtain ⟨rfl, N28q, K28, Fc28, t28, kb28, Fv28, V28⟩ := hQ28
    have N28 := Fr.app N26 N28q
    have KK28 : Keep h0 T28.heap [] := Keep.trans K27 K28 (allS (Or.inr sz_b27) all0)
    have hS28 := foldS hS0 (T := T27) (by rw [e27]; exact (Nat.le_trans (Nat.le_trans hk0 K26.1) E27.1)) hSq28 hgq28
    have hZ28 : Z.Warmed39 (s.setVm T28.vm).vm := State.Warmed39.trans hZ hSq28.1
    have hown28 : (s.setVm T28.vm).vm.findClass "com/example/shelfgraph/shelfgraph/ingest/CommandLineTextHasUndecodedBytesPinLaw" = some m.cls := by show T28.vm.findClass "com/example/shelfgraph/shelfgraph/ingest/CommandLineTextHasUndecodedBytesPinLaw" = some m.cls; rw [hSq28.1.alike.findClass]; exact hown
    have X28 : Stand p l e room_1 (s.setVm T28.vm) m #[(.int len), (.int x1), (.int x2), (.int x3), (.int x4)] below meth c T28 (((((L21 ++ Lc22) ++ Lc23) ++ Lc24) ++ Lc26) ++ Lc28) (((((((0 + 0) + 0) + 0) + 0) + 1) + 1) + 4) (((((((0 + 0) + 0) + 0) + 0) + 0) + 4) + 8) := X28
    have Sf28_b27 : Safe Z consts_1 T28.vm T28.heap b27 := CHr.safe Cq28 (E_b27).lt Sf27_b27
    have C28 : CHr Z consts_1 s.vm s.heap T28.vm T28.heap := CHr.trans C27 Cq28
    refine bW T28 (mkF m 96 #[vi len, vi x1, vi x2, vi x3, vi x4, vi 0, vi c0, vi c1, vi c2, vi c3, vr t26, uu, uu] [(.ref b27)]) (fun _ k => st28.trans k) ?_
    refine bW T28 (mkF m 98 #[vi len, vi x1, vi x2, vi x3, vi x4, vi 0, vi c0, vi c1, vi c2, vi c3, vr t26, vr b27, uu] []) (fun _ k => XS.astore X28.here hx rfl (hb hby at_96) rfl rfl rfl k) ?_
    refine bW T28 (mkF m 100 #[vi len, vi x1, vi x2, vi x3, vi x4, vi 0, vi c0, vi c1, vi c2, vi c3, vr t26, vr b27, uu] [(ii 0)]) (fun _ k => XS.iload X28.here hx rfl (hb hby at_98) rfl k) ?_
    refine bW T28 (mkF m 110 #[vi len, vi x1, vi x2, vi x3, vi x4, vi 0, vi c0, vi c1, vi c2, vi c3, vr t26, vr b27, uu] []) (fun _ k => XS.ifYes X28.here hx rfl (pc0 := 100) (pc' := 110) rfl (hb hby at_100) rfl ((if0 _ _).trans (flt (by decide)).2.2.2) (by decide) (by decide) k) ?_
    refine bW T28 (mkF m 112 #[vi len, vi x1, vi x2, vi x3, vi x4, vi 0, vi c0, vi c1, vi c2, vi c3, vr t26, vr b27, uu] [(ii 0)]) (fun _ k => XS.iload X28.here hx rfl (hb hby at_110) rfl k) ?_
    refine bW T28 (mkF m 113 #[vi len, vi x1, vi x2, vi x3, vi x4, vi 0, vi c0, vi c1, vi c2, vi c3, vr t26, vr b27, uu] [(.int (1 : Int32)), (ii 0)]) (fun _ k => XS.iconst X28.here hx rfl (hb hby at_112) k) ?_
    refine bW T28 (mkF m 123 #[vi len, vi x1, vi x2, vi x3, vi x4, vi 0, vi c0, vi c1, vi c2, vi c3, vr t26, vr b27, uu] []) (fun _ k => XS.icmpYes X28.here hx rfl (pc0 := 113) (pc' := 123) rfl (hb hby at_113) rfl (flt (by decide)).2.2.2 (by decide) (by decide) k) ?_
    refine bW T28 (mkF m 125 #[vi len, vi x1, vi x2, vi x3, vi x4, vi 0, vi c0, vi c1, vi c2, vi c3, vr t26, vr b27, uu] [(ii 0)]) (fun _ k => XS.iload X28.here hx rfl (hb hby at_123) rfl k) ?_
    refine bW T28 (mkF m 126 #[vi len, vi x1, vi x2, vi x3, vi x4, vi 0, vi c0, vi c1, vi c2, vi c3, vr t26, vr b27, uu] [(.int (2 : Int32)), (ii 0)]) (fun _ k => XS.iconst X28.here hx rfl (hb hby at_125) k) ?_
    refine bW T28 (mkF m 136 #[vi len, vi x1, vi x2, vi x3, vi x4, vi 0, vi c0, vi c1, vi c2, vi c3, vr t26, vr b27, uu] []) (fun _ k => XS.icmpYes X28.here hx rfl (pc0 := 126) (pc' := 136) rfl (hb hby at_126) rfl (flt (by decide)).2.2.2 (by decide) (by decide) k) ?_
    refine bW T28 (mkF m 138 #[vi len, vi x1, vi x2, vi x3, vi x4, vi 0, vi c0, vi c1, vi c2, vi c3, vr t26, vr b27, uu] [(ii 0)]) (fun _ k => XS.iload X28.here hx rfl (hb hby at_136) rfl k) ?_
    refine bW T28 (mkF m 139 #[vi len, vi x1, vi x2, vi x3, vi x4, vi 0, vi c0, vi c1, vi c2, vi c3, vr t26, vr b27, uu] [(.int (3 : Int32)), (ii 0)]) (fun _ k => XS.iconst X28.here hx rfl (hb hby at_138) k) ?_
    refine bW T28 (mkF m 153 #[vi len, vi x1, vi x2, vi x3, vi x4, vi 0, vi c0, vi c1, vi c2, vi c3, vr t26, vr b27, uu] []) (fun _ k => XS.icmpYes X28.here hx rfl (pc0 := 139) (pc' := 153) rfl (hb hby at_139) rfl (flt (by decide)).2.2.2 (by decide) (by decide) k) ?_
    refine bW T28 (mkF m 154 #[vi len, vi x1, vi x2, vi x3, vi x4, vi 0, vi c0, vi c1, vi c2, vi c3, vr t26, vr b27, uu] [(ii 0)]) (fun _ k => XS.iconst X28.here hx rfl (hb hby at_153) k) ?_
    refine bW T28 (mkF m 156 #[vi len, vi x1, vi x2, vi x3, vi x4, vi 0, vi c0, vi c1, vi c2, vi c3, vr t26, vr b27, vi 0] []) (fun _ k => XS.istore X28.here hx rfl (hb hby at_154) rfl rfl k) ?_
    refine bW T28 (mkF m 158 #[vi len, vi x1, vi x2, vi x3, vi x4, vi 0, vi c0, vi c1, vi c2, vi c3, vr t26, vr b27, vi 0] [(.ref b27)]) (fun _ k => XS.aload X28.here hx rfl (hb hby at_156) rfl rfl k) ?_
    obtain ⟨_, _, ⟨T29, L29, k29, n29⟩, -, X29, ⟨Lc29, hQ29, l29, y29, z29⟩, st29⟩ := Jvm.LawKit.callS X28 hx (y := yy27) hown28 (mvT hZ28 (hw _ (mo 31 rfl))) (mvT hZ28 (hw _ (mo 32 rfl))) (mvT hZ28 (hw _ (mo 33 rfl))) (mvT hZ28 (hw _ (mo 34 rfl))) (by decide) (backOf (W := 0) (hub_l_0 l Z a0 hw [] b27 t28 kb28 cs (0 : Int32) [] T28.heap n0 (Nat.le_trans (Nat.le_trans (Nat.le_trans Z0 K26.1) E27.1) K28.1) (Exa.keep E_b27 K28) Fc28 Fv28 V28 (Sta.ext ((Old.keep (Old.ext (Old.keep O0 K26 all0) E27) K28 (allS g_b27 all0))).2 S_CS) hcs) hZ28 (hw _ (mo 34 rfl)) (hw _ (mo 33 rfl)) (by decide) (by decide)) (g := (mkF m 158 #[vi len, vi x1, vi x2, vi x3, vi x4, vi 0, vi c0, vi c1, vi c2, vi c3, vr t26, vr b27, vi 0] [(.ref b27)])) rfl (by rw [hml]; rfl) (argsL := [(.ref b27)]) (rest := []) (lenOf pd_21 rfl) rfl (Nat.le_of_eq rfl) (hb hby at_158) (fun _ _ => ⟨rfl, rfl, (by decide : 6 ≤ _), (by decide : 12 ≤ _)⟩)
    dsimp only [Pt.U, Pt.locs, Pt.cells, Pt.slots] at X29 l29 y29 z29 st29 hQ29
    subst l29 y29 z29
    obtain ⟨rfl, N29q, e29⟩ := hQ29
    have N29 := Fr.app N28 N29q
    refine bW T29 (mkF m 161 #[vi len, vi x1, vi x2, vi x3, vi x4, vi 0, vi c0, vi c1, vi c2, vi c3, vr t26, vr b27, vi 0] [(ii 0)]) (fun _ k => st29 _ k) ?_
    refine bW T29 (mkF m 163 #[vi len, vi x1, vi x2, vi x3, vi x4, vi 0, vi c0, vi c1, vi c2, vi c3, vr t26, vr b27, vi 0] [(ii 0), (ii 0)]) (fun _ k => XS.iload X29.here hx rfl (hb hby at_161) rfl k) ?_
    refine bW T29 (mkF m 166 #[vi len, vi x1, vi x2, vi x3, vi x4, vi 0, vi c0, vi c1, vi c2, vi c3, vr t26, vr b27, vi 0] []) (fun _ k => XS.icmpNo X29.here hx rfl (hb hby at_163) rfl (teq (by decide)).2 k) ?_
    refine bW T29 (mkF m 167 #[vi len, vi x1, vi x2, vi x3, vi x4, vi 0, vi c0, vi c1, vi c2, vi c3, vr t26, vr b27, vi 0] [(.int (1 : Int32))]) (fun _ k => XS.iconst X29.here hx rfl (hb hby at_166) k) ?_
    refine bW T29 (mkF m 171 #[vi len, vi x1, vi x2, vi x3, vi x4, vi 0, vi c0, vi c1, vi c2, vi c3, vr t26, vr b27, vi 0] [(.int (1 : Int32))]) (fun _ k => XS.goto X29.here hx rfl (pc0 := 167) (pc' := 171) rfl (hb hby at_167) (by decide) (by decide) k) ?_
    refine own_retW (s := s) X29 hlk hS28 (by rw [e29]; exact (Nat.le_refl _)) hZ28 hEL C28 e29 (v := some (.int (1 : Int32))) (nvr Bd.returns) (fun fs hr => retN X29 hx (t := .boolean) Bd.returns (by simp) (hb hby at_171) hr) ?_ (by decide) (by decide)
    rw [e29]
    exact ⟨rfl, N29⟩
  · skip
    rw [hq25]
    refine bW T24 (mkF m 35 #[vi len, vi x1, vi x2, vi x3, vi x4, vi 1, vi c0, vi c1, vi c2, vi c3, uu, uu, uu] [(.int (1 : Int32))]) (fun _ k => XS.iload X24.here hx rfl (hb hby at_33) rfl k) ?_
    obtain ⟨_, _, ⟨T30, L30, k30, n30⟩, -, X30, ⟨Lc30, hQ30, l30, y30, z30⟩, st30⟩ := Jvm.LawKit.callS X24 hx (y := yy1) hown (mvT hZ (hw _ (mo 6 rfl))) (mvT hZ (hw _ (mo 7 rfl))) (mvT hZ (hw _ (mo 3 rfl))) (mvT hZ (hw _ (mo 8 rfl))) (by decide) (backOf (W := 0) (mka_1 l Z a0 hw []   h0 n0 Z0 ) hZ (hw _ (mo 8 rfl)) (hw _ (mo 3 rfl)) (by decide) (by decide)) (g := (mkF m 35 #[vi len, vi x1, vi x2, vi x3, vi x4, vi 1, vi c0, vi c1, vi c2, vi c3, uu, uu, uu] [(.int (1 : Int32))])) rfl (by rw [hml]; rfl) (argsL := [(.int (1 : Int32))]) (rest := []) (lenOf pd_19 rfl) rfl (Nat.le_of_eq rfl) (hb hby at_35) (fun _ _ => ⟨rfl, e24, (by decide : 1 ≤ _), (by decide : 1 ≤ _)⟩)
    dsimp only [Pt.U, Pt.locs, Pt.cells, Pt.slots] at X30 l30 y30 z30 st30 hQ30
    subst l30 y30 z30
    obtain ⟨t30, kb30, rfl, N30q, K30, zt30, V30⟩ := hQ30
    have N30 := Fr.app N24 N30q
    have KK30 : Keep h0 T30.heap [] := Keep.trans (Keep.refl h0 []) K30 all0
    have C30 : CHr Z consts_1 s.vm s.heap s.vm T30.heap := CHr.trans C0 (CHr.keep K30 sf0 C0.1)
    have sz_t30 : h0.size ≤ t30 := Nat.le_trans (Keep.refl h0 []).1 zt30
    have g_t30 : n0 ≤ t30 := Nat.le_trans Z0 sz_t30
    refine bW T30 (mkF m 38 #[vi len, vi x1, vi x2, vi x3, vi x4, vi 1, vi c0, vi c1, vi c2, vi c3, uu, uu, uu] [(.ref t30)]) (fun _ k => st30 _ k) ?_
    refine bW T30 (mkF m 40 #[vi len, vi x1, vi x2, vi x3, vi x4, vi 1, vi c0, vi c1, vi c2, vi c3, vr t30, uu, uu] []) (fun _ k => XS.astore X30.here hx rfl (hb hby at_38) rfl rfl rfl k) ?_
    refine bW T30 (mkF m 42 #[vi len, vi x1, vi x2, vi x3, vi x4, vi 1, vi c0, vi c1, vi c2, vi c3, vr t30, uu, uu] [(.int (1 : Int32))]) (fun _ k => XS.iload X30.here hx rfl (hb hby at_40) rfl k) ?_
    refine bW T30 (mkF m 45 #[vi len, vi x1, vi x2, vi x3, vi x4, vi 1, vi c0, vi c1, vi c2, vi c3, vr t30, uu, uu] []) (fun _ k => XS.ifNo X30.here hx rfl (hb hby at_42) rfl ((if0 _ _).trans (tlt (by decide)).2.2.2) k) ?_
    refine bW T30 (mkF m 47 #[vi len, vi x1, vi x2, vi x3, vi x4, vi 1, vi c0, vi c1, vi c2, vi c3, vr t30, uu, uu] [(.ref t30)]) (fun _ k => XS.aload X30.here hx rfl (hb hby at_45) rfl rfl k) ?_
    refine bW T30 (mkF m 48 #[vi len, vi x1, vi x2, vi x3, vi x4, vi 1, vi c0, vi c1, vi c2, vi c3, vr t30, uu, uu] [(ii 0), (.ref t30)]) (fun _ k => XS.iconst X30.here hx rfl (hb hby at_47) k) ?_
    refine bW T30 (mkF m 50 #[vi len, vi x1, vi x2, vi x3, vi x4, vi 1, vi c0, vi c1, vi c2, vi c3, vr t30, uu, uu] [(.int c0), (ii 0), (.ref t30)]) (fun _ k => XS.iload X30.here hx rfl (hb hby at_48) rfl k) ?_
    obtain ⟨cl31, Ar31, q31, S31, N_31, H31, G31⟩ := id V30
    have hin31 : ¬ ((0 : Int32) < 0 ∨ cl31.slots.size ≤ ((0 : Int32)).toNatClampNeg) := inb_of S31 ⟨by decide, by decide⟩
    obtain ⟨T32, h32, X32, e32, W32, st32⟩ := stC X30 hx hZ rfl Ar31 (j := (0 : Int32)) hin31 (g := (mkF m 50 #[vi len, vi x1, vi x2, vi x3, vi x4, vi 1, vi c0, vi c1, vi c2, vi c3, vr t30, uu, uu] [(.int c0), (ii 0), (.ref t30)])) rfl rfl (hb hby at_50)
    have V32 : Arv Z h32 t30 kb30 .char (1 : Int32) [(.int (nar .char c0))] (ii 0) := Arv.set Ar31 q31 S31 N_31 H31 G31 (fits_nar_char _) W32 0 rfl (Nat.le_of_ble_eq_true rfl)
    have K32 : Keep h0 h32 [] := Keep.wr KK30 W32 (Or.inr sz_t30)
    have C32 : CHr Z consts_1 s.vm s.heap s.vm h32 := CHr.trans C30 (CHr.wr W32 (Safe.arv (EL := consts_1) (vm := s.vm) hZ.alike V30 (by decide)) C30.1)
    have N32 := Fr.snoc X32 N30 g_t30
    refine bW T32 (mkF m 51 #[vi len, vi x1, vi x2, vi x3, vi x4, vi 1, vi c0, vi c1, vi c2, vi c3, vr t30, uu, uu] []) (fun _ k => st32 _ k) ?_
    refine bW T32 (mkF m 53 #[vi len, vi x1, vi x2, vi x3, vi x4, vi 1, vi c0, vi c1, vi c2, vi c3, vr t30, uu, uu] [(.int (1 : Int32))]) (fun _ k => XS.iload X32.here hx rfl (hb hby at_51) rfl k) ?_
    refine bW T32 (mkF m 54 #[vi len, vi x1, vi x2, vi x3, vi x4, vi 1, vi c0, vi c1, vi c2, vi c3, vr t30, uu, uu] [(.int (1 : Int32)), (.int (1 : Int32))]) (fun _ k => XS.iconst X32.here hx rfl (hb hby at_53) k) ?_
    refine bW T32 (mkF m 63 #[vi len, vi x1, vi x2, vi x3, vi x4, vi 1, vi c0, vi c1, vi c2, vi c3, vr t30, uu, uu] []) (fun _ k => XS.icmpYes X32.here hx rfl (pc0 := 54) (pc' := 63) rfl (hb hby at_54) rfl (flt (by decide)).2.2.2 (by decide) (by decide) k) ?_
    refine bW T32 (mkF m 65 #[vi len, vi x1, vi x2, vi x3, vi x4, vi 1, vi c0, vi c1, vi c2, vi c3, vr t30, uu, uu] [(.int (1 : Int32))]) (fun _ k => XS.iload X32.here hx rfl (hb hby at_63) rfl k) ?_
    refine bW T32 (mkF m 66 #[vi len, vi x1, vi x2, vi x3, vi x4, vi 1, vi c0, vi c1, vi c2, vi c3, vr t30, uu, uu] [(.int (2 : Int32)), (.int (1 : Int32))]) (fun _ k => XS.iconst X32.here hx rfl (hb hby at_65) k) ?_
    refine bW T32 (mkF m 75 #[vi len, vi x1, vi x2, vi x3, vi x4, vi 1, vi c0, vi c1, vi c2, vi c3, vr t30, uu, uu] []) (fun _ k => XS.icmpYes X32.here hx rfl (pc0 := 66) (pc' := 75) rfl (hb hby at_66) rfl (flt (by decide)).2.2.2 (by decide) (by decide) k) ?_
    refine bW T32 (mkF m 77 #[vi len, vi x1, vi x2, vi x3, vi x4, vi 1, vi c0, vi c1, vi c2, vi c3, vr t30, uu, uu] [(.int (1 : Int32))]) (fun _ k => XS.iload X32.here hx rfl (hb hby at_75) rfl k) ?_
    refine bW T32 (mkF m 78 #[vi len, vi x1, vi x2, vi x3, vi x4, vi 1, vi c0, vi c1, vi c2, vi c3, vr t30, uu, uu] [(.int (3 : Int32)), (.int (1 : Int32))]) (fun _ k => XS.iconst X32.here hx rfl (hb hby at_77) k) ?_
    refine bW T32 (mkF m 87 #[vi len, vi x1, vi x2, vi x3, vi x4, vi 1, vi c0, vi c1, vi c2, vi c3, vr t30, uu, uu] []) (fun _ k => XS.icmpYes X32.here hx rfl (pc0 := 78) (pc' := 87) rfl (hb hby at_78) rfl (flt (by decide)).2.2.2 (by decide) (by decide) k) ?_
    have VC : Arv Z h32 t30 kb30 .char (1 : Int32) [(.int c0)] (ii 0) := by have q := V32; rw [own_nc hr0] at q; exact q
    rcases own_lu1 c0 with hc0 | hU
    · skip
      obtain ⟨T33, h33, X33, e33, E33, A33, D33, -, st33⟩ := newO X32 hx hZ hown (hw _ (mo 10 rfl)) (hw _ (mo 11 rfl)) (hw _ (mo 12 rfl)) e32 (g := (mkF m 87 #[vi len, vi x1, vi x2, vi x3, vi x4, vi 1, vi c0, vi c1, vi c2, vi c3, vr t30, uu, uu] [])) rfl (hb hby at_87) (by decide) (by decide)
      obtain ⟨b33, g33⟩ : ∃ z, z = h32.size := ⟨_, rfl⟩
      rw [← g33] at A33 D33 st33
      have E_b33 : Exa Z h33 b33 "java/lang/String" := A33
      have F_value_b33 : Fld Z h33 b33 "java/lang/String" "value" "[B" .null := D33 (Or.inr (hw _ (mo 25 rfl))) (ty := (.array .byte)) (by decide)
      have F_coder_b33 : Fld Z h33 b33 "java/lang/String" "coder" "B" (ii 0) := D33 (Or.inr (hw _ (mo 26 rfl))) (ty := .byte) (by decide)
      have g_b33 : n0 ≤ b33 := Nat.le_trans (Nat.le_trans (Nat.le_trans Z0 K30.1) (Keep.of_wr W32).1) (Nat.le_of_eq g33.symm)
      have sz_b33 : h0.size ≤ b33 := Nat.le_trans K32.1 (Nat.le_of_eq g33.symm)
      have K33 : Keep h0 h33 [] := Keep.ext K32 E33
      have Sf33_b33 : Safe Z consts_1 s.vm h33 b33 := Safe.ext E33 C32.1 (Safe.new (Nat.le_of_eq g33.symm))
      have C33 : CHr Z consts_1 s.vm s.heap s.vm h33 := CHr.trans C32 (CHr.ext E33 C32.1)
      refine bW T33 (mkF m 90 #[vi len, vi x1, vi x2, vi x3, vi x4, vi 1, vi c0, vi c1, vi c2, vi c3, vr t30, uu, uu] [(.ref b33)]) (fun _ k => st33 _ k) ?_
      refine bW T33 (mkF m 91 #[vi len, vi x1, vi x2, vi x3, vi x4, vi 1, vi c0, vi c1, vi c2, vi c3, vr t30, uu, uu] [(.ref b33), (.ref b33)]) (fun _ k => XS.dup X33.here hx rfl (hb hby at_90) rfl rfl k) ?_
      refine bW T33 (mkF m 93 #[vi len, vi x1, vi x2, vi x3, vi x4, vi 1, vi c0, vi c1, vi c2, vi c3, vr t30, uu, uu] [(.ref t30), (.ref b33), (.ref b33)]) (fun _ k => XS.aload X33.here hx rfl (hb hby at_91) rfl rfl k) ?_
      obtain ⟨_, _, ⟨T34, L34, k34, n34⟩, -, X34, ⟨Lc34, hQ34, l34, y34, z34⟩, st34⟩ := X33.specialBack hx (y := yy6) rfl hown (mvT hZ (hw _ (mo 13 rfl))) (mvT hZ (hw _ (mo 14 rfl))) (mvT hZ (hw _ (mo 15 rfl))) (by decide) (backOf (W := 1) (sin1_1 l Z a0 hw [] b33 t30 kb30 cs c0 h33 n0 (Nat.le_trans (Nat.le_trans (Nat.le_trans Z0 K30.1) (Keep.of_wr W32).1) E33.1) E_b33 F_value_b33 F_coder_b33 g_b33 (Arv.ext VC E33) (Sta.ext ((Old.ext (Old.wr (Old.keep O0 K30 all0) W32 g_t30) E33)).2 S_CS) hcs hc0) hZ (hw _ (mo 15 rfl)) (hw _ (mo 12 rfl)) (by decide) (by decide)) (g := (mkF m 93 #[vi len, vi x1, vi x2, vi x3, vi x4, vi 1, vi c0, vi c1, vi c2, vi c3, vr t30, uu, uu] [(.ref t30), (.ref b33), (.ref b33)])) rfl (by rw [hml]; rfl) (Steps.refl _) (a := b33) (argsL := [(.ref t30)]) (rest := [(.ref b33)]) (lenOf pd_20 rfl) rfl (Nat.le_of_eq rfl) (hb hby at_93) (fun _ _ => ⟨rfl, e33, (by decide : 3 ≤ _), (by decide : 6 ≤ _)⟩)
      dsimp only [Pt.U, Pt.locs, Pt.cells, Pt.slots] at X34 l34 y34 z34 st34 hQ34
      subst l34 y34 z34
      obtain ⟨rfl, N34q, K34, Fc34, t34, kb34, zt34, Fv34, V34⟩ := hQ34
      have N34 := Fr.app N32 N34q
      have KK34 : Keep h0 T34.heap [] := Keep.trans K33 K34 (allS (Or.inr sz_b33) all0)
      have Sf34_b33 : Safe Z consts_1 s.vm T34.heap b33 := Safe.keep K34 (sfS Sf33_b33 sf0) C33.1 Sf33_b33
      have C34 : CHr Z consts_1 s.vm s.heap s.vm T34.heap := CHr.trans C33 (CHr.keep K34 (sfS Sf33_b33 sf0) C33.1)
      have sz_t34 : h0.size ≤ t34 := Nat.le_trans K33.1 zt34
      have g_t34 : n0 ≤ t34 := Nat.le_trans Z0 sz_t34
      refine bW T34 (mkF m 96 #[vi len, vi x1, vi x2, vi x3, vi x4, vi 1, vi c0, vi c1, vi c2, vi c3, vr t30, uu, uu] [(.ref b33)]) (fun _ k => st34.trans k) ?_
      refine bW T34 (mkF m 98 #[vi len, vi x1, vi x2, vi x3, vi x4, vi 1, vi c0, vi c1, vi c2, vi c3, vr t30, vr b33, uu] []) (fun _ k => XS.astore X34.here hx rfl (hb hby at_96) rfl rfl rfl k) ?_
      refine bW T34 (mkF m 100 #[vi len, vi x1, vi x2, vi x3, vi x4, vi 1, vi c0, vi c1, vi c2, vi c3, vr t30, vr b33, uu] [(.int (1 : Int32))]) (fun _ k => XS.iload X34.here hx rfl (hb hby at_98) rfl k) ?_
      refine bW T34 (mkF m 103 #[vi len, vi x1, vi x2, vi x3, vi x4, vi 1, vi c0, vi c1, vi c2, vi c3, vr t30, vr b33, uu] []) (fun _ k => XS.ifNo X34.here hx rfl (hb hby at_100) rfl ((if0 _ _).trans (tlt (by decide)).2.2.2) k) ?_
      refine bW T34 (mkF m 105 #[vi len, vi x1, vi x2, vi x3, vi x4, vi 1, vi c0, vi c1, vi c2, vi c3, vr t30, vr b33, uu] [(.int c0)]) (fun _ k => XS.iload X34.here hx rfl (hb hby at_103) rfl k) ?_
      refine bW T34 (mkF m 107 #[vi len, vi x1, vi x2, vi x3, vi x4, vi 1, vi c0, vi c1, vi c2, vi c3, vr t30, vr b33, uu] [(.int (65533 : Int32)), (.int c0)]) (fun _ k => ldcI X34 hx hown (mvT hZ (hw _ (mo 79 rfl))) rfl (hb hby at_105) k) ?_
      have J36 : ∀ (j35 : Int32) (hv_j35 : j35 = (if c0 = (65533 : Int32) then (1 : Int32) else (0 : Int32))) (T37 : State) (_ : Stand p l e room_1 (s.setVm s.vm) m #[(.int len), (.int x1), (.int x2), (.int x3), (.int x4)] below meth c T37 ((((((L21 ++ Lc22) ++ Lc23) ++ Lc24) ++ Lc30) ++ [⟨t30, ((0 : Int32)).toNatClampNeg⟩]) ++ Lc34) (((((((0 + 0) + 0) + 0) + 0) + 1) + 1) + 1) (((((((0 + 0) + 0) + 0) + 0) + 1) + 4) + 1)) (_ : T37.heap = T34.heap), own_GoW p.tables e below Z consts_1 (Q_rm0 Z len x1 x2 x3 x4 cs sf h0 n0) s 24 1152 T37 (mkF m 154 #[vi len, vi x1, vi x2, vi x3, vi x4, vi 1, vi c0, vi c1, vi c2, vi c3, vr t30, vr b33, uu] [(.int j35)]) := by
        intro j35 hv_j35 T37 X37 e37
        refine bW T37 (mkF m 156 #[vi len, vi x1, vi x2, vi x3, vi x4, vi 1, vi c0, vi c1, vi c2, vi c3, vr t30, vr b33, vi j35] []) (fun _ k => XS.istore X37.here hx rfl (hb hby at_154) rfl rfl k) ?_
        refine bW T37 (mkF m 158 #[vi len, vi x1, vi x2, vi x3, vi x4, vi 1, vi c0, vi c1, vi c2, vi c3, vr t30, vr b33, vi j35] [(.ref b33)]) (fun _ k => XS.aload X37.here hx rfl (hb hby at_156) rfl rfl k) ?_
        obtain ⟨_, _, ⟨T38, L38, k38, n38⟩, -, X38, ⟨Lc38, hQ38, l38, y38, z38⟩, st38⟩ := Jvm.LawKit.callS X37 hx (y := yy27) hown (mvT hZ (hw _ (mo 31 rfl))) (mvT hZ (hw _ (mo 32 rfl))) (mvT hZ (hw _ (mo 33 rfl))) (mvT hZ (hw _ (mo 34 rfl))) (by decide) (backOf (W := 0) (hub_l_0 l Z a0 hw [] b33 t34 kb34 cs (1 : Int32) [(.int (nar .byte (c0.toInt8.toInt32)))] T34.heap n0 (Nat.le_trans (Nat.le_trans (Nat.le_trans (Nat.le_trans Z0 K30.1) (Keep.of_wr W32).1) E33.1) K34.1) (Exa.keep E_b33 K34) Fc34 Fv34 V34 (Sta.ext ((Old.keep (Old.ext (Old.wr (Old.keep O0 K30 all0) W32 g_t30) E33) K34 (allS g_b33 all0))).2 S_CS) hcs) hZ (hw _ (mo 34 rfl)) (hw _ (mo 33 rfl)) (by decide) (by decide)) (g := (mkF m 158 #[vi len, vi x1, vi x2, vi x3, vi x4, vi 1, vi c0, vi c1, vi c2, vi c3, vr t30, vr b33, vi j35] [(.ref b33)])) rfl (by rw [hml]; rfl) (argsL := [(.ref b33)]) (rest := []) (lenOf pd_21 rfl) rfl (Nat.le_of_eq rfl) (hb hby at_158) (fun _ _ => ⟨rfl, e37, (by decide : 3 ≤ _), (by decide : 6 ≤ _)⟩)
        dsimp only [Pt.U, Pt.locs, Pt.cells, Pt.slots] at X38 l38 y38 z38 st38 hQ38
        subst l38 y38 z38
        obtain ⟨rfl, N38q, e38⟩ := hQ38
        have N38 := Fr.app N34 N38q
        refine bW T38 (mkF m 161 #[vi len, vi x1, vi x2, vi x3, vi x4, vi 1, vi c0, vi c1, vi c2, vi c3, vr t30, vr b33, vi j35] [(ii 0)]) (fun _ k => st38 _ k) ?_
        refine bW T38 (mkF m 163 #[vi len, vi x1, vi x2, vi x3, vi x4, vi 1, vi c0, vi c1, vi c2, vi c3, vr t30, vr b33, vi j35] [(.int j35), (ii 0)]) (fun _ k => XS.iload X38.here hx rfl (hb hby at_161) rfl k) ?_
        refine bW T38 (mkF m 166 #[vi len, vi x1, vi x2, vi x3, vi x4, vi 1, vi c0, vi c1, vi c2, vi c3, vr t30, vr b33, vi j35] []) (fun _ k => XS.icmpNo X38.here hx rfl (hb hby at_163) rfl (teq (by rw [hv_j35]; exact own_g1 hc0)).2 k) ?_
        refine bW T38 (mkF m 167 #[vi len, vi x1, vi x2, vi x3, vi x4, vi 1, vi c0, vi c1, vi c2, vi c3, vr t30, vr b33, vi j35] [(.int (1 : Int32))]) (fun _ k => XS.iconst X38.here hx rfl (hb hby at_166) k) ?_
        refine bW T38 (mkF m 171 #[vi len, vi x1, vi x2, vi x3, vi x4, vi 1, vi c0, vi c1, vi c2, vi c3, vr t30, vr b33, vi j35] [(.int (1 : Int32))]) (fun _ k => XS.goto X38.here hx rfl (pc0 := 167) (pc' := 171) rfl (hb hby at_167) (by decide) (by decide) k) ?_
        refine own_retW (s := s) X38 hlk hS0 (by rw [e38]; exact (Nat.le_trans (Nat.le_trans (Nat.le_trans (Nat.le_trans hk0 K30.1) (Keep.of_wr W32).1) E33.1) K34.1)) hZ hEL C34 e38 (v := some (.int (1 : Int32))) (nvr Bd.returns) (fun fs hr => retN X38 hx (t := .boolean) Bd.returns (by simp) (hb hby at_171) hr) ?_ (by decide) (by decide)
        rw [e38]
        exact ⟨rfl, N38⟩
      by_cases hc107_39 : c0 = (65533 : Int32)
      · skip
        refine bW T34 (mkF m 149 #[vi len, vi x1, vi x2, vi x3, vi x4, vi 1, vi c0, vi c1, vi c2, vi c3, vr t30, vr b33, uu] []) (fun _ k => XS.icmpYes X34.here hx rfl (pc0 := 107) (pc' := 149) rfl (hb hby at_107) rfl (teq hc107_39).1 (by decide) (by decide) k) ?_
        refine bW T34 (mkF m 150 #[vi len, vi x1, vi x2, vi x3, vi x4, vi 1, vi c0, vi c1, vi c2, vi c3, vr t30, vr b33, uu] [(.int (1 : Int32))]) (fun _ k => XS.iconst X34.here hx rfl (hb hby at_149) k) ?_
        refine bW T34 (mkF m 154 #[vi len, vi x1, vi x2, vi x3, vi x4, vi 1, vi c0, vi c1, vi c2, vi c3, vr t30, vr b33, uu] [(.int (1 : Int32))]) (fun _ k => XS.goto X34.here hx rfl (pc0 := 150) (pc' := 154) rfl (hb hby at_150) (by decide) (by decide) k) ?_
        exact J36 _ (if_pos hc107_39).symm T34 X34 rfl
      · skip
        refine bW T34 (mkF m 110 #[vi len, vi x1, vi x2, vi x3, vi x4, vi 1, vi c0, vi c1, vi c2, vi c3, vr t30, vr b33, uu] []) (fun _ k => XS.icmpNo X34.here hx rfl (hb hby at_107) rfl (feq hc107_39).1 k) ?_
        refine bW T34 (mkF m 112 #[vi len, vi x1, vi x2, vi x3, vi x4, vi 1, vi c0, vi c1, vi c2, vi c3, vr t30, vr b33, uu] [(.int (1 : Int32))]) (fun _ k => XS.iload X34.here hx rfl (hb hby at_110) rfl k) ?_
        refine bW T34 (mkF m 113 #[vi len, vi x1, vi x2, vi x3, vi x4, vi 1, vi c0, vi c1, vi c2, vi c3, vr t30, vr b33, uu] [(.int (1 : Int32)), (.int (1 : Int32))]) (fun _ k => XS.iconst X34.here hx rfl (hb hby at_112) k) ?_
        refine bW T34 (mkF m 123 #[vi len, vi x1, vi x2, vi x3, vi x4, vi 1, vi c0, vi c1, vi c2, vi c3, vr t30, vr b33, uu] []) (fun _ k => XS.icmpYes X34.here hx rfl (pc0 := 113) (pc' := 123) rfl (hb hby at_113) rfl (flt (by decide)).2.2.2 (by decide) (by decide) k) ?_
        refine bW T34 (mkF m 125 #[vi len, vi x1, vi x2, vi x3, vi x4, vi 1, vi c0, vi c1, vi c2, vi c3, vr t30, vr b33, uu] [(.int (1 : Int32))]) (fun _ k => XS.iload X34.here hx rfl (hb hby at_123) rfl k) ?_
        refine bW T34 (mkF m 126 #[vi len, vi x1, vi x2, vi x3, vi x4, vi 1, vi c0, vi c1, vi c2, vi c3, vr t30, vr b33, uu] [(.int (2 : Int32)), (.int (1 : Int32))]) (fun _ k => XS.iconst X34.here hx rfl (hb hby at_125) k) ?_
        refine bW T34 (mkF m 136 #[vi len, vi x1, vi x2, vi x3, vi x4, vi 1, vi c0, vi c1, vi c2, vi c3, vr t30, vr b33, uu] []) (fun _ k => XS.icmpYes X34.here hx rfl (pc0 := 126) (pc' := 136) rfl (hb hby at_126) rfl (flt (by decide)).2.2.2 (by decide) (by decide) k) ?_
        refine bW T34 (mkF m 138 #[vi len, vi x1, vi x2, vi x3, vi x4, vi 1, vi c0, vi c1, vi c2, vi c3, vr t30, vr b33, uu] [(.int (1 : Int32))]) (fun _ k => XS.iload X34.here hx rfl (hb hby at_136) rfl k) ?_
        refine bW T34 (mkF m 139 #[vi len, vi x1, vi x2, vi x3, vi x4, vi 1, vi c0, vi c1, vi c2, vi c3, vr t30, vr b33, uu] [(.int (3 : Int32)), (.int (1 : Int32))]) (fun _ k => XS.iconst X34.here hx rfl (hb hby at_138) k) ?_
        refine bW T34 (mkF m 153 #[vi len, vi x1, vi x2, vi x3, vi x4, vi 1, vi c0, vi c1, vi c2, vi c3, vr t30, vr b33, uu] []) (fun _ k => XS.icmpYes X34.here hx rfl (pc0 := 139) (pc' := 153) rfl (hb hby at_139) rfl (flt (by decide)).2.2.2 (by decide) (by decide) k) ?_
        refine bW T34 (mkF m 154 #[vi len, vi x1, vi x2, vi x3, vi x4, vi 1, vi c0, vi c1, vi c2, vi c3, vr t30, vr b33, uu] [(ii 0)]) (fun _ k => XS.iconst X34.here hx rfl (hb hby at_153) k) ?_
        exact J36 _ (if_neg hc107_39).symm T34 X34 rfl
    · skip
      obtain ⟨T40, h40, X40, e40, E40, A40, D40, -, st40⟩ := newO X32 hx hZ hown (hw _ (mo 10 rfl)) (hw _ (mo 11 rfl)) (hw _ (mo 12 rfl)) e32 (g := (mkF m 87 #[vi len, vi x1, vi x2, vi x3, vi x4, vi 1, vi c0, vi c1, vi c2, vi c3, vr t30, uu, uu] [])) rfl (hb hby at_87) (by decide) (by decide)
      obtain ⟨b40, g40⟩ : ∃ z, z = h32.size := ⟨_, rfl⟩
      rw [← g40] at A40 D40 st40
      have E_b40 : Exa Z h40 b40 "java/lang/String" := A40
      have F_value_b40 : Fld Z h40 b40 "java/lang/String" "value" "[B" .null := D40 (Or.inr (hw _ (mo 25 rfl))) (ty := (.array .byte)) (by decide)
      have F_coder_b40 : Fld Z h40 b40 "java/lang/String" "coder" "B" (ii 0) := D40 (Or.inr (hw _ (mo 26 rfl))) (ty := .byte) (by decide)
      have g_b40 : n0 ≤ b40 := Nat.le_trans (Nat.le_trans (Nat.le_trans Z0 K30.1) (Keep.of_wr W32).1) (Nat.le_of_eq g40.symm)
      have sz_b40 : h0.size ≤ b40 := Nat.le_trans K32.1 (Nat.le_of_eq g40.symm)
      have K40 : Keep h0 h40 [] := Keep.ext K32 E40
      have Sf40_b40 : Safe Z consts_1 s.vm h40 b40 := Safe.ext E40 C32.1 (Safe.new (Nat.le_of_eq g40.symm))
      have C40 : CHr Z consts_1 s.vm s.heap s.vm h40 := CHr.trans C32 (CHr.ext E40 C32.1)
      refine bW T40 (mkF m 90 #[vi len, vi x1, vi x2, vi x3, vi x4, vi 1, vi c0, vi c1, vi c2, vi c3, vr t30, uu, uu] [(.ref b40)]) (fun _ k => st40 _ k) ?_
      refine bW T40 (mkF m 91 #[vi len, vi x1, vi x2, vi x3, vi x4, vi 1, vi c0, vi c1, vi c2, vi c3, vr t30, uu, uu] [(.ref b40), (.ref b40)]) (fun _ k => XS.dup X40.here hx rfl (hb hby at_90) rfl rfl k) ?_
      refine bW T40 (mkF m 93 #[vi len, vi x1, vi x2, vi x3, vi x4, vi 1, vi c0, vi c1, vi c2, vi c3, vr t30, uu, uu] [(.ref t30), (.ref b40), (.ref b40)]) (fun _ k => XS.aload X40.here hx rfl (hb hby at_91) rfl rfl k) ?_
      obtain ⟨_, _, ⟨T41, L41, k41, n41⟩, -, X41, ⟨Lc41, hQ41, l41, y41, z41⟩, st41⟩ := X40.specialBack hx (y := yy6) rfl hown (mvT hZ (hw _ (mo 13 rfl))) (mvT hZ (hw _ (mo 14 rfl))) (mvT hZ (hw _ (mo 15 rfl))) (by decide) (backOf (W := 1) (siu1_1 l Z a0 hw [] b40 t30 kb30 cs c0 h40 n0 (Nat.le_trans (Nat.le_trans (Nat.le_trans Z0 K30.1) (Keep.of_wr W32).1) E40.1) E_b40 F_value_b40 F_coder_b40 g_b40 (Arv.ext VC E40) (Sta.ext ((Old.ext (Old.wr (Old.keep O0 K30 all0) W32 g_t30) E40)).2 S_CS) hcs (Old.ext (Old.wr (Old.keep O0 K30 all0) W32 g_t30) E40) S_AD S_HI S_LO hr0 hU) hZ (hw _ (mo 15 rfl)) (hw _ (mo 12 rfl)) (by decide) (by decide)) (g := (mkF m 93 #[vi len, vi x1, vi x2, vi x3, vi x4, vi 1, vi c0, vi c1, vi c2, vi c3, vr t30, uu, uu] [(.ref t30), (.ref b40), (.ref b40)])) rfl (by rw [hml]; rfl) (Steps.refl _) (a := b40) (argsL := [(.ref t30)]) (rest := [(.ref b40)]) (lenOf pd_20 rfl) rfl (Nat.le_of_eq rfl) (hb hby at_93) (fun _ _ => ⟨rfl, e40, (by decide : 4 ≤ _), (by decide : 8 ≤ _)⟩)
      dsimp only [Pt.U, Pt.locs, Pt.cells, Pt.slots] at X41 l41 y41 z41 st41 hQ41
      subst l41 y41 z41
      obtain ⟨rfl, N41q, K41, Fc41, t41, kb41, zt41, Fv41, V41⟩ := hQ41
      have N41 := Fr.app N32 N41q
      have KK41 : Keep h0 T41.heap [] := Keep.trans K40 K41 (allS (Or.inr sz_b40) all0)
      have Sf41_b40 : Safe Z consts_1 s.vm T41.heap b40 := Safe.keep K41 (sfS Sf40_b40 sf0) C40.1 Sf40_b40
      have C41 : CHr Z consts_1 s.vm s.heap s.vm T41.heap := CHr.trans C40 (CHr.keep K41 (sfS Sf40_b40 sf0) C40.1)
      have sz_t41 : h0.size ≤ t41 := Nat.le_trans K40.1 zt41
      have g_t41 : n0 ≤ t41 := Nat.le_trans Z0 sz_t41
      refine bW T41 (mkF m 96 #[vi len, vi x1, vi x2, vi x3, vi x4, vi 1, vi c0, vi c1, vi c2, vi c3, vr t30, uu, uu] [(.ref b40)]) (fun _ k => st41.trans k) ?_
      refine bW T41 (mkF m 98 #[vi len, vi x1, vi x2, vi x3, vi x4, vi 1, vi c0, vi c1, vi c2, vi c3, vr t30, vr b40, uu] []) (fun _ k => XS.astore X41.here hx rfl (hb hby at_96) rfl rfl rfl k) ?_
      refine bW T41 (mkF m 100 #[vi len, vi x1, vi x2, vi x3, vi x4, vi 1, vi c0, vi c1, vi c2, vi c3, vr t30, vr b40, uu] [(.int (1 : Int32))]) (fun _ k => XS.iload X41.here hx rfl (hb hby at_98) rfl k) ?_
      refine bW T41 (mkF m 103 #[vi len, vi x1, vi x2, vi x3, vi x4, vi 1, vi c0, vi c1, vi c2, vi c3, vr t30, vr b40, uu] []) (fun _ k => XS.ifNo X41.here hx rfl (hb hby at_100) rfl ((if0 _ _).trans (tlt (by decide)).2.2.2) k) ?_
      refine bW T41 (mkF m 105 #[vi len, vi x1, vi x2, vi x3, vi x4, vi 1, vi c0, vi c1, vi c2, vi c3, vr t30, vr b40, uu] [(.int c0)]) (fun _ k => XS.iload X41.here hx rfl (hb hby at_103) rfl k) ?_
      refine bW T41 (mkF m 107 #[vi len, vi x1, vi x2, vi x3, vi x4, vi 1, vi c0, vi c1, vi c2, vi c3, vr t30, vr b40, uu] [(.int (65533 : Int32)), (.int c0)]) (fun _ k => ldcI X41 hx hown (mvT hZ (hw _ (mo 79 rfl))) rfl (hb hby at_105) k) ?_
      have J43 : ∀ (j42 : Int32) (hv_j42 : j42 = (if c0 = (65533 : Int32) then (1 : Int32) else (0 : Int32))) (T44 : State) (_ : Stand p l e room_1 (s.setVm s.vm) m #[(.int len), (.int x1), (.int x2), (.int x3), (.int x4)] below meth c T44 ((((((L21 ++ Lc22) ++ Lc23) ++ Lc24) ++ Lc30) ++ [⟨t30, ((0 : Int32)).toNatClampNeg⟩]) ++ Lc41) (((((((0 + 0) + 0) + 0) + 0) + 1) + 1) + 2) (((((((0 + 0) + 0) + 0) + 0) + 1) + 4) + 3)) (_ : T44.heap = T41.heap), own_GoW p.tables e below Z consts_1 (Q_rm0 Z len x1 x2 x3 x4 cs sf h0 n0) s 24 1152 T44 (mkF m 154 #[vi len, vi x1, vi x2, vi x3, vi x4, vi 1, vi c0, vi c1, vi c2, vi c3, vr t30, vr b40, uu] [(.int j42)]) := by
        intro j42 hv_j42 T44 X44 e44
        refine bW T44 (mkF m 156 #[vi len, vi x1, vi x2, vi x3, vi x4, vi 1, vi c0, vi c1, vi c2, vi c3, vr t30, vr b40, vi j42] []) (fun _ k => XS.istore X44.here hx rfl (hb hby at_154) rfl rfl k) ?_
        refine bW T44 (mkF m 158 #[vi len, vi x1, vi x2, vi x3, vi x4, vi 1, vi c0, vi c1, vi c2, vi c3, vr t30, vr b40, vi j42] [(.ref b40)]) (fun _ k => XS.aload X44.here hx rfl (hb hby at_156) rfl rfl k) ?_
        obtain ⟨_, _, ⟨T45, L45, k45, n45⟩, -, X45, ⟨Lc45, hQ45, l45, y45, z45⟩, st45⟩ := Jvm.LawKit.callS X44 hx (y := yy27) hown (mvT hZ (hw _ (mo 31 rfl))) (mvT hZ (hw _ (mo 32 rfl))) (mvT hZ (hw _ (mo 33 rfl))) (mvT hZ (hw _ (mo 34 rfl))) (by decide) (backOf (W := 0) (hub_u_1 l Z a0 hw [] b40 t41 kb41 cs c0 sf T41.heap n0 (Nat.le_trans (Nat.le_trans (Nat.le_trans (Nat.le_trans Z0 K30.1) (Keep.of_wr W32).1) E40.1) K41.1) (Exa.keep E_b40 K41) Fc41 Fv41 V41 (Sta.ext ((Old.keep (Old.ext (Old.wr (Old.keep O0 K30 all0) W32 g_t30) E40) K41 (allS g_b40 all0))).2 S_CS) hcs (Sta.ext ((Old.keep (Old.ext (Old.wr (Old.keep O0 K30 all0) W32 g_t30) E40) K41 (allS g_b40 all0))).2 S_AD) (Sta.ext ((Old.keep (Old.ext (Old.wr (Old.keep O0 K30 all0) W32 g_t30) E40) K41 (allS g_b40 all0))).2 S_HI) (Sta.ext ((Old.keep (Old.ext (Old.wr (Old.keep O0 K30 all0) W32 g_t30) E40) K41 (allS g_b40 all0))).2 S_LO) hsf (Sta.ext ((Old.keep (Old.ext (Old.wr (Old.keep O0 K30 all0) W32 g_t30) E40) K41 (allS g_b40 all0))).2 S_SF) hr0) hZ (hw _ (mo 34 rfl)) (hw _ (mo 33 rfl)) (by decide) (by decide)) (g := (mkF m 158 #[vi len, vi x1, vi x2, vi x3, vi x4, vi 1, vi c0, vi c1, vi c2, vi c3, vr t30, vr b40, vi j42] [(.ref b40)])) rfl (by rw [hml]; rfl) (argsL := [(.ref b40)]) (rest := []) (lenOf pd_21 rfl) rfl (Nat.le_of_eq rfl) (hb hby at_158) (fun _ _ => ⟨rfl, e44, (by decide : 4 ≤ _), (by decide : 8 ≤ _)⟩)
        dsimp only [Pt.U, Pt.locs, Pt.cells, Pt.slots] at X45 l45 y45 z45 st45 hQ45
        subst l45 y45 z45
        obtain ⟨rfl, N45q, e45⟩ := hQ45
        have N45 := Fr.app N41 N45q
        refine bW T45 (mkF m 161 #[vi len, vi x1, vi x2, vi x3, vi x4, vi 1, vi c0, vi c1, vi c2, vi c3, vr t30, vr b40, vi j42] [(.int (if (own_i1 c0) < (0 : Int32) then (0 : Int32) else (1 : Int32)))]) (fun _ k => st45 _ k) ?_
        refine bW T45 (mkF m 163 #[vi len, vi x1, vi x2, vi x3, vi x4, vi 1, vi c0, vi c1, vi c2, vi c3, vr t30, vr b40, vi j42] [(.int j42), (.int (if (own_i1 c0) < (0 : Int32) then (0 : Int32) else (1 : Int32)))]) (fun _ k => XS.iload X45.here hx rfl (hb hby at_161) rfl k) ?_
        refine bW T45 (mkF m 166 #[vi len, vi x1, vi x2, vi x3, vi x4, vi 1, vi c0, vi c1, vi c2, vi c3, vr t30, vr b40, vi j42] []) (fun _ k => XS.icmpNo X45.here hx rfl (hb hby at_163) rfl (teq (by rw [hv_j42]; exact own_f1 c0)).2 k) ?_
        refine bW T45 (mkF m 167 #[vi len, vi x1, vi x2, vi x3, vi x4, vi 1, vi c0, vi c1, vi c2, vi c3, vr t30, vr b40, vi j42] [(.int (1 : Int32))]) (fun _ k => XS.iconst X45.here hx rfl (hb hby at_166) k) ?_
        refine bW T45 (mkF m 171 #[vi len, vi x1, vi x2, vi x3, vi x4, vi 1, vi c0, vi c1, vi c2, vi c3, vr t30, vr b40, vi j42] [(.int (1 : Int32))]) (fun _ k => XS.goto X45.here hx rfl (pc0 := 167) (pc' := 171) rfl (hb hby at_167) (by decide) (by decide) k) ?_
        refine own_retW (s := s) X45 hlk hS0 (by rw [e45]; exact (Nat.le_trans (Nat.le_trans (Nat.le_trans (Nat.le_trans hk0 K30.1) (Keep.of_wr W32).1) E40.1) K41.1)) hZ hEL C41 e45 (v := some (.int (1 : Int32))) (nvr Bd.returns) (fun fs hr => retN X45 hx (t := .boolean) Bd.returns (by simp) (hb hby at_171) hr) ?_ (by decide) (by decide)
        rw [e45]
        exact ⟨rfl, N45⟩
      by_cases hc107_46 : c0 = (65533 : Int32)
      · skip
        refine bW T41 (mkF m 149 #[vi len, vi x1, vi x2, vi x3, vi x4, vi 1, vi c0, vi c1, vi c2, vi c3, vr t30, vr b40, uu] []) (fun _ k => XS.icmpYes X41.here hx rfl (pc0 := 107) (pc' := 149) rfl (hb hby at_107) rfl (teq hc107_46).1 (by decide) (by decide) k) ?_
        refine bW T41 (mkF m 150 #[vi len, vi x1, vi x2, vi x3, vi x4, vi 1, vi c0, vi c1, vi c2, vi c3, vr t30, vr b40, uu] [(.int (1 : Int32))]) (fun _ k => XS.iconst X41.here hx rfl (hb hby at_149) k) ?_
        refine bW T41 (mkF m 154 #[vi len, vi x1, vi x2, vi x3, vi x4, vi 1, vi c0, vi c1, vi c2, vi c3, vr t30, vr b40, uu] [(.int (1 : Int32))]) (fun _ k => XS.goto X41.here hx rfl (pc0 := 150) (pc' := 154) rfl (hb hby at_150) (by decide) (by decide) k) ?_
        exact J43 _ (if_pos hc107_46).symm T41 X41 rfl
      · skip
        refine bW T41 (mkF m 110 #[vi len, vi x1, vi x2, vi x3, vi x4, vi 1, vi c0, vi c1, vi c2, vi c3, vr t30, vr b40, uu] []) (fun _ k => XS.icmpNo X41.here hx rfl (hb hby at_107) rfl (feq hc107_46).1 k) ?_
        refine bW T41 (mkF m 112 #[vi len, vi x1, vi x2, vi x3, vi x4, vi 1, vi c0, vi c1, vi c2, vi c3, vr t30, vr b40, uu] [(.int (1 : Int32))]) (fun _ k => XS.iload X41.here hx rfl (hb hby at_110) rfl k) ?_
        refine bW T41 (mkF m 113 #[vi len, vi x1, vi x2, vi x3, vi x4, vi 1, vi c0, vi c1, vi c2, vi c3, vr t30, vr b40, uu] [(.int (1 : Int32)), (.int (1 : Int32))]) (fun _ k => XS.iconst X41.here hx rfl (hb hby at_112) k) ?_
        refine bW T41 (mkF m 123 #[vi len, vi x1, vi x2, vi x3, vi x4, vi 1, vi c0, vi c1, vi c2, vi c3, vr t30, vr b40, uu] []) (fun _ k => XS.icmpYes X41.here hx rfl (pc0 := 113) (pc' := 123) rfl (hb hby at_113) rfl (flt (by decide)).2.2.2 (by decide) (by decide) k) ?_
        refine bW T41 (mkF m 125 #[vi len, vi x1, vi x2, vi x3, vi x4, vi 1, vi c0, vi c1, vi c2, vi c3, vr t30, vr b40, uu] [(.int (1 : Int32))]) (fun _ k => XS.iload X41.here hx rfl (hb hby at_123) rfl k) ?_
        refine bW T41 (mkF m 126 #[vi len, vi x1, vi x2, vi x3, vi x4, vi 1, vi c0, vi c1, vi c2, vi c3, vr t30, vr b40, uu] [(.int (2 : Int32)), (.int (1 : Int32))]) (fun _ k => XS.iconst X41.here hx rfl (hb hby at_125) k) ?_
        refine bW T41 (mkF m 136 #[vi len, vi x1, vi x2, vi x3, vi x4, vi 1, vi c0, vi c1, vi c2, vi c3, vr t30, vr b40, uu] []) (fun _ k => XS.icmpYes X41.here hx rfl (pc0 := 126) (pc' := 136) rfl (hb hby at_126) rfl (flt (by decide)).2.2.2 (by decide) (by decide) k) ?_
        refine bW T41 (mkF m 138 #[vi len, vi x1, vi x2, vi x3, vi x4, vi 1, vi c0, vi c1, vi c2, vi c3, vr t30, vr b40, uu] [(.int (1 : Int32))]) (fun _ k => XS.iload X41.here hx rfl (hb hby at_136) rfl k) ?_
        refine bW T41 (mkF m 139 #[vi len, vi x1, vi x2, vi x3, vi x4, vi 1, vi c0, vi c1, vi c2, vi c3, vr t30, vr b40, uu] [(.int (3 : Int32)), (.int (1 : Int32))]) (fun _ k => XS.iconst X41.here hx rfl (hb hby at_138) k) ?_
        refine bW T41 (mkF m 153 #[vi len, vi x1, vi x2, vi x3, vi x4, vi 1, vi c0, vi c1, vi c2, vi c3, vr t30, vr b40, uu] []) (fun _ k => XS.icmpYes X41.here hx rfl (pc0 := 139) (pc' := 153) rfl (hb hby at_139) rfl (flt (by decide)).2.2.2 (by decide) (by decide) k) ?_
        refine bW T41 (mkF m 154 #[vi len, vi x1, vi x2, vi x3, vi x4, vi 1, vi c0, vi c1, vi c2, vi c3, vr t30, vr b40, uu] [(ii 0)]) (fun _ k => XS.iconst X41.here hx rfl (hb hby at_153) k) ?_
        exact J43 _ (if_neg hc107_46).symm T41 X41 rfl
  · skip
    rw [hq25]
    refine bW T24 (mkF m 35 #[vi len, vi x1, vi x2, vi x3, vi x4, vi 2, vi c0, vi c1, vi c2, vi c3, uu, uu, uu] [(.int (2 : Int32))]) (fun _ k => XS.iload X24.here hx rfl (hb hby at_33) rfl k) ?_
    obtain ⟨_, _, ⟨T47, L47, k47, n47⟩, -, X47, ⟨Lc47, hQ47, l47, y47, z47⟩, st47⟩ := Jvm.LawKit.callS X24 hx (y := yy1) hown (mvT hZ (hw _ (mo 6 rfl))) (mvT hZ (hw _ (mo 7 rfl))) (mvT hZ (hw _ (mo 3 rfl))) (mvT hZ (hw _ (mo 8 rfl))) (by decide) (backOf (W := 0) (mka_2 l Z a0 hw []   h0 n0 Z0 ) hZ (hw _ (mo 8 rfl)) (hw _ (mo 3 rfl)) (by decide) (by decide)) (g := (mkF m 35 #[vi len, vi x1, vi x2, vi x3, vi x4, vi 2, vi c0, vi c1, vi c2, vi c3, uu, uu, uu] [(.int (2 : Int32))])) rfl (by rw [hml]; rfl) (argsL := [(.int (2 : Int32))]) (rest := []) (lenOf pd_19 rfl) rfl (Nat.le_of_eq rfl) (hb hby at_35) (fun _ _ => ⟨rfl, e24, (by decide : 1 ≤ _), (by decide : 2 ≤ _)⟩)
    dsimp only [Pt.U, Pt.locs, Pt.cells, Pt.slots] at X47 l47 y47 z47 st47 hQ47
    subst l47 y47 z47
    obtain ⟨t47, kb47, rfl, N47q, K47, zt47, V47⟩ := hQ47
    have N47 := Fr.app N24 N47q
    have KK47 : Keep h0 T47.heap [] := Keep.trans (Keep.refl h0 []) K47 all0
    have C47 : CHr Z consts_1 s.vm s.heap s.vm T47.heap := CHr.trans C0 (CHr.keep K47 sf0 C0.1)
    have sz_t47 : h0.size ≤ t47 := Nat.le_trans (Keep.refl h0 []).1 zt47
    have g_t47 : n0 ≤ t47 := Nat.le_trans Z0 sz_t47
    refine bW T47 (mkF m 38 #[vi len, vi x1, vi x2, vi x3, vi x4, vi 2, vi c0, vi c1, vi c2, vi c3, uu, uu, uu] [(.ref t47)]) (fun _ k => st47 _ k) ?_
    refine bW T47 (mkF m 40 #[vi len, vi x1, vi x2, vi x3, vi x4, vi 2, vi c0, vi c1, vi c2, vi c3, vr t47, uu, uu] []) (fun _ k => XS.astore X47.here hx rfl (hb hby at_38) rfl rfl rfl k) ?_
    refine bW T47 (mkF m 42 #[vi len, vi x1, vi x2, vi x3, vi x4, vi 2, vi c0, vi c1, vi c2, vi c3, vr t47, uu, uu] [(.int (2 : Int32))]) (fun _ k => XS.iload X47.here hx rfl (hb hby at_40) rfl k) ?_
    refine bW T47 (mkF m 45 #[vi len, vi x1, vi x2, vi x3, vi x4, vi 2, vi c0, vi c1, vi c2, vi c3, vr t47, uu, uu] []) (fun _ k => XS.ifNo X47.here hx rfl (hb hby at_42) rfl ((if0 _ _).trans (tlt (by decide)).2.2.2) k) ?_
    refine bW T47 (mkF m 47 #[vi len, vi x1, vi x2, vi x3, vi x4, vi 2, vi c0, vi c1, vi c2, vi c3, vr t47, uu, uu] [(.ref t47)]) (fun _ k => XS.aload X47.here hx rfl (hb hby at_45) rfl rfl k) ?_
    refine bW T47 (mkF m 48 #[vi len, vi x1, vi x2, vi x3, vi x4, vi 2, vi c0, vi c1, vi c2, vi c3, vr t47, uu, uu] [(ii 0), (.ref t47)]) (fun _ k => XS.iconst X47.here hx rfl (hb hby at_47) k) ?_
    refine bW T47 (mkF m 50 #[vi len, vi x1, vi x2, vi x3, vi x4, vi 2, vi c0, vi c1, vi c2, vi c3, vr t47, uu, uu] [(.int c0), (ii 0), (.ref t47)]) (fun _ k => XS.iload X47.here hx rfl (hb hby at_48) rfl k) ?_
    obtain ⟨cl48, Ar48, q48, S48, N_48, H48, G48⟩ := id V47
    have hin48 : ¬ ((0 : Int32) < 0 ∨ cl48.slots.size ≤ ((0 : Int32)).toNatClampNeg) := inb_of S48 ⟨by decide, by decide⟩
    obtain ⟨T49, h49, X49, e49, W49, st49⟩ := stC X47 hx hZ rfl Ar48 (j := (0 : Int32)) hin48 (g := (mkF m 50 #[vi len, vi x1, vi x2, vi x3, vi x4, vi 2, vi c0, vi c1, vi c2, vi c3, vr t47, uu, uu] [(.int c0), (ii 0), (.ref t47)])) rfl rfl (hb hby at_50)
    have V49 : Arv Z h49 t47 kb47 .char (2 : Int32) [(.int (nar .char c0)), (ii 0)] (ii 0) := Arv.set Ar48 q48 S48 N_48 H48 G48 (fits_nar_char _) W49 0 rfl (Nat.le_of_ble_eq_true rfl)
    have K49 : Keep h0 h49 [] := Keep.wr KK47 W49 (Or.inr sz_t47)
    have C49 : CHr Z consts_1 s.vm s.heap s.vm h49 := CHr.trans C47 (CHr.wr W49 (Safe.arv (EL := consts_1) (vm := s.vm) hZ.alike V47 (by decide)) C47.1)
    have N49 := Fr.snoc X49 N47 g_t47
    refine bW T49 (mkF m 51 #[vi len, vi x1, vi x2, vi x3, vi x4, vi 2, vi c0, vi c1, vi c2, vi c3, vr t47, uu, uu] []) (fun _ k => st49 _ k) ?_
    refine bW T49 (mkF m 53 #[vi len, vi x1, vi x2, vi x3, vi x4, vi 2, vi c0, vi c1, vi c2, vi c3, vr t47, uu, uu] [(.int (2 : Int32))]) (fun _ k => XS.iload X49.here hx rfl (hb hby at_51) rfl k) ?_
    refine bW T49 (mkF m 54 #[vi len, vi x1, vi x2, vi x3, vi x4, vi 2, vi c0, vi c1, vi c2, vi c3, vr t47, uu, uu] [(.int (1 : Int32)), (.int (2 : Int32))]) (fun _ k => XS.iconst X49.here hx rfl (hb hby at_53) k) ?_
    refine bW T49 (mkF m 57 #[vi len, vi x1, vi x2, vi x3, vi x4, vi 2, vi c0, vi c1, vi c2, vi c3, vr t47, uu, uu] []) (fun _ k => XS.icmpNo X49.here hx rfl (hb hby at_54) rfl (tlt (by decide)).2.2.2 k) ?_
    refine bW T49 (mkF m 59 #[vi len, vi x1, vi x2, vi x3, vi x4, vi 2, vi c0, vi c1, vi c2, vi c3, vr t47, uu, uu] [(.ref t47)]) (fun _ k => XS.aload X49.here hx rfl (hb hby at_57) rfl rfl k) ?_
    refine bW T49 (mkF m 60 #[vi len, vi x1, vi x2, vi x3, vi x4, vi 2, vi c0, vi c1, vi c2, vi c3, vr t47, uu, uu] [(.int (1 : Int32)), (.ref t47)]) (fun _ k => XS.iconst X49.here hx rfl (hb hby at_59) k) ?_
    refine bW T49 (mkF m 62 #[vi len, vi x1, vi x2, vi x3, vi x4, vi 2, vi c0, vi c1, vi c2, vi c3, vr t47, uu, uu] [(.int c1), (.int (1 : Int32)), (.ref t47)]) (fun _ k => XS.iload X49.here hx rfl (hb hby at_60) rfl k) ?_
    obtain ⟨cl50, Ar50, q50, S50, N_50, H50, G50⟩ := id V49
    have hin50 : ¬ ((1 : Int32) < 0 ∨ cl50.slots.size ≤ ((1 : Int32)).toNatClampNeg) := inb_of S50 ⟨by decide, by decide⟩
    obtain ⟨T51, h51, X51, e51, W51, st51⟩ := stC X49 hx hZ e49 Ar50 (j := (1 : Int32)) hin50 (g := (mkF m 62 #[vi len, vi x1, vi x2, vi x3, vi x4, vi 2, vi c0, vi c1, vi c2, vi c3, vr t47, uu, uu] [(.int c1), (.int (1 : Int32)), (.ref t47)])) rfl rfl (hb hby at_62)
    have V51 : Arv Z h51 t47 kb47 .char (2 : Int32) [(.int (nar .char c0)), (.int (nar .char c1))] (ii 0) := Arv.set Ar50 q50 S50 N_50 H50 G50 (fits_nar_char _) W51 1 rfl (Nat.le_of_ble_eq_true rfl)
    have K51 : Keep h0 h51 [] := Keep.wr K49 W51 (Or.inr sz_t47)
    have C51 : CHr Z consts_1 s.vm s.heap s.vm h51 := CHr.trans C49 (CHr.wr W51 (Safe.arv (EL := consts_1) (vm := s.vm) hZ.alike V49 (by decide)) C49.1)
    have N51 := Fr.snoc X51 N49 g_t47
    refine bW T51 (mkF m 63 #[vi len, vi x1, vi x2, vi x3, vi x4, vi 2, vi c0, vi c1, vi c2, vi c3, vr t47, uu, uu] []) (fun _ k => st51 _ k) ?_
    refine bW T51 (mkF m 65 #[vi len, vi x1, vi x2, vi x3, vi x4, vi 2, vi c0, vi c1, vi c2, vi c3, vr t47, uu, uu] [(.int (2 : Int32))]) (fun _ k => XS.iload X51.here hx rfl (hb hby at_63) rfl k) ?_
    refine bW T51 (mkF m 66 #[vi len, vi x1, vi x2, vi x3, vi x4, vi 2, vi c0, vi c1, vi c2, vi c3, vr t47, uu, uu] [(.int (2 : Int32)), (.int (2 : Int32))]) (fun _ k => XS.iconst X51.here hx rfl (hb hby at_65) k) ?_
    refine bW T51 (mkF m 75 #[vi len, vi x1, vi x2, vi x3, vi x4, vi 2, vi c0, vi c1, vi c2, vi c3, vr t47, uu, uu] []) (fun _ k => XS.icmpYes X51.here hx rfl (pc0 := 66) (pc' := 75) rfl (hb hby at_66) rfl (flt (by decide)).2.2.2 (by decide) (by decide) k) ?_
    refine bW T51 (mkF m 77 #[vi len, vi x1, vi x2, vi x3, vi x4, vi 2, vi c0, vi c1, vi c2, vi c3, vr t47, uu, uu] [(.int (2 : Int32))]) (fun _ k => XS.iload X51.here hx rfl (hb hby at_75) rfl k) ?_
    refine bW T51 (mkF m 78 #[vi len, vi x1, vi x2, vi x3, vi x4, vi 2, vi c0, vi c1, vi c2, vi c3, vr t47, uu, uu] [(.int (3 : Int32)), (.int (2 : Int32))]) (fun _ k => XS.iconst X51.here hx rfl (hb hby at_77) k) ?_
    refine bW T51 (mkF m 87 #[vi len, vi x1, vi x2, vi x3, vi x4, vi 2, vi c0, vi c1, vi c2, vi c3, vr t47, uu, uu] []) (fun _ k => XS.icmpYes X51.here hx rfl (pc0 := 78) (pc' := 87) rfl (hb hby at_78) rfl (flt (by decide)).2.2.2 (by decide) (by decide) k) ?_
    have VC : Arv Z h51 t47 kb47 .char (2 : Int32) [(.int c0), (.int c1)] (ii 0) := by have q := V51; rw [own_nc hr0, own_nc hr1] at q; exact q
    rcases own_lu2 c0 c1 with ⟨hc0, hc1⟩ | hU
    · skip
      obtain ⟨T52, h52, X52, e52, E52, A52, D52, -, st52⟩ := newO X51 hx hZ hown (hw _ (mo 10 rfl)) (hw _ (mo 11 rfl)) (hw _ (mo 12 rfl)) e51 (g := (mkF m 87 #[vi len, vi x1, vi x2, vi x3, vi x4, vi 2, vi c0, vi c1, vi c2, vi c3, vr t47, uu, uu] [])) rfl (hb hby at_87) (by decide) (by decide)
      obtain ⟨b52, g52⟩ : ∃ z, z = h51.size := ⟨_, rfl⟩
      rw [← g52] at A52 D52 st52
      have E_b52 : Exa Z h52 b52 "java/lang/String" := A52
      have F_value_b52 : Fld Z h52 b52 "java/lang/String" "value" "[B" .null := D52 (Or.inr (hw _ (mo 25 rfl))) (ty := (.array .byte)) (by decide)
      have F_coder_b52 : Fld Z h52 b52 "java/lang/String" "coder" "B" (ii 0) := D52 (Or.inr (hw _ (mo 26 rfl))) (ty := .byte) (by decide)
      have g_b52 : n0 ≤ b52 := Nat.le_trans (Nat.le_trans (Nat.le_trans (Nat.le_trans Z0 K47.1) (Keep.of_wr W49).1) (Keep.of_wr W51).1) (Nat.le_of_eq g52.symm)
      have sz_b52 : h0.size ≤ b52 := Nat.le_trans K51.1 (Nat.le_of_eq g52.symm)
      have K52 : Keep h0 h52 [] := Keep.ext K51 E52
      have Sf52_b52 : Safe Z consts_1 s.vm h52 b52 := Safe.ext E52 C51.1 (Safe.new (Nat.le_of_eq g52.symm))
      have C52 : CHr Z consts_1 s.vm s.heap s.vm h52 := CHr.trans C51 (CHr.ext E52 C51.1)
      refine bW T52 (mkF m 90 #[vi len, vi x1, vi x2, vi x3, vi x4, vi 2, vi c0, vi c1, vi c2, vi c3, vr t47, uu, uu] [(.ref b52)]) (fun _ k => st52 _ k) ?_
      refine bW T52 (mkF m 91 #[vi len, vi x1, vi x2, vi x3, vi x4, vi 2, vi c0, vi c1, vi c2, vi c3, vr t47, uu, uu] [(.ref b52), (.ref b52)]) (fun _ k => XS.dup X52.here hx rfl (hb hby at_90) rfl rfl k) ?_
      refine bW T52 (mkF m 93 #[vi len, vi x1, vi x2, vi x3, vi x4, vi 2, vi c0, vi c1, vi c2, vi c3, vr t47, uu, uu] [(.ref t47), (.ref b52), (.ref b52)]) (fun _ k => XS.aload X52.here hx rfl (hb hby at_91) rfl rfl k) ?_
      obtain ⟨_, _, ⟨T53, L53, k53, n53⟩, -, X53, ⟨Lc53, hQ53, l53, y53, z53⟩, st53⟩ := X52.specialBack hx (y := yy6) rfl hown (mvT hZ (hw _ (mo 13 rfl))) (mvT hZ (hw _ (mo 14 rfl))) (mvT hZ (hw _ (mo 15 rfl))) (by decide) (backOf (W := 1) (sin1_2 l Z a0 hw [] b52 t47 kb47 cs c0 c1 h52 n0 (Nat.le_trans (Nat.le_trans (Nat.le_trans (Nat.le_trans Z0 K47.1) (Keep.of_wr W49).1) (Keep.of_wr W51).1) E52.1) E_b52 F_value_b52 F_coder_b52 g_b52 (Arv.ext VC E52) (Sta.ext ((Old.ext (Old.wr (Old.wr (Old.keep O0 K47 all0) W49 g_t47) W51 g_t47) E52)).2 S_CS) hcs hc0 hc1) hZ (hw _ (mo 15 rfl)) (hw _ (mo 12 rfl)) (by decide) (by decide)) (g := (mkF m 93 #[vi len, vi x1, vi x2, vi x3, vi x4, vi 2, vi c0, vi c1, vi c2, vi c3, vr t47, uu, uu] [(.ref t47), (.ref b52), (.ref b52)])) rfl (by rw [hml]; rfl) (Steps.refl _) (a := b52) (argsL := [(.ref t47)]) (rest := [(.ref b52)]) (lenOf pd_20 rfl) rfl (Nat.le_of_eq rfl) (hb hby at_93) (fun _ _ => ⟨rfl, e52, (by decide : 3 ≤ _), (by decide : 8 ≤ _)⟩)
      dsimp only [Pt.U, Pt.locs, Pt.cells, Pt.slots] at X53 l53 y53 z53 st53 hQ53
      subst l53 y53 z53
      obtain ⟨rfl, N53q, K53, Fc53, t53, kb53, zt53, Fv53, V53⟩ := hQ53
      have N53 := Fr.app N51 N53q
      have KK53 : Keep h0 T53.heap [] := Keep.trans K52 K53 (allS (Or.inr sz_b52) all0)
      have Sf53_b52 : Safe Z consts_1 s.vm T53.heap b52 := Safe.keep K53 (sfS Sf52_b52 sf0) C52.1 Sf52_b52
      have C53 : CHr Z consts_1 s.vm s.heap s.vm T53.heap := CHr.trans C52 (CHr.keep K53 (sfS Sf52_b52 sf0) C52.1)
      have sz_t53 : h0.size ≤ t53 := Nat.le_trans K52.1 zt53
      have g_t53 : n0 ≤ t53 := Nat.le_trans Z0 sz_t53
      refine bW T53 (mkF m 96 #[vi len, vi x1, vi x2, vi x3, vi x4, vi 2, vi c0, vi c1, vi c2, vi c3, vr t47, uu, uu] [(.ref b52)]) (fun _ k => st53.trans k) ?_
      refine bW T53 (mkF m 98 #[vi len, vi x1, vi x2, vi x3, vi x4, vi 2, vi c0, vi c1, vi c2, vi c3, vr t47, vr b52, uu] []) (fun _ k => XS.astore X53.here hx rfl (hb hby at_96) rfl rfl rfl k) ?_
      refine bW T53 (mkF m 100 #[vi len, vi x1, vi x2, vi x3, vi x4, vi 2, vi c0, vi c1, vi c2, vi c3, vr t47, vr b52, uu] [(.int (2 : Int32))]) (fun _ k => XS.iload X53.here hx rfl (hb hby at_98) rfl k) ?_
      refine bW T53 (mkF m 103 #[vi len, vi x1, vi x2, vi x3, vi x4, vi 2, vi c0, vi c1, vi c2, vi c3, vr t47, vr b52, uu] []) (fun _ k => XS.ifNo X53.here hx rfl (hb hby at_100) rfl ((if0 _ _).trans (tlt (by decide)).2.2.2) k) ?_
      refine bW T53 (mkF m 105 #[vi len, vi x1, vi x2, vi x3, vi x4, vi 2, vi c0, vi c1, vi c2, vi c3, vr t47, vr b52, uu] [(.int c0)]) (fun _ k => XS.iload X53.here hx rfl (hb hby at_103) rfl k) ?_
      refine bW T53 (mkF m 107 #[vi len, vi x1, vi x2, vi x3, vi x4, vi 2, vi c0, vi c1, vi c2, vi c3, vr t47, vr b52, uu] [(.int (65533 : Int32)), (.int c0)]) (fun _ k => ldcI X53 hx hown (mvT hZ (hw _ (mo 79 rfl))) rfl (hb hby at_105) k) ?_
      have J55 : ∀ (j54 : Int32) (hv_j54 : j54 = (if c0 = (65533 : Int32) then (1 : Int32) else (if c1 = (65533 : Int32) then (1 : Int32) else (0 : Int32)))) (T56 : State) (_ : Stand p l e room_1 (s.setVm s.vm) m #[(.int len), (.int x1), (.int x2), (.int x3), (.int x4)] below meth c T56 (((((((L21 ++ Lc22) ++ Lc23) ++ Lc24) ++ Lc47) ++ [⟨t47, ((0 : Int32)).toNatClampNeg⟩]) ++ [⟨t47, ((1 : Int32)).toNatClampNeg⟩]) ++ Lc53) (((((((0 + 0) + 0) + 0) + 0) + 1) + 1) + 1) (((((((0 + 0) + 0) + 0) + 0) + 2) + 4) + 2)) (_ : T56.heap = T53.heap), own_GoW p.tables e below Z consts_1 (Q_rm0 Z len x1 x2 x3 x4 cs sf h0 n0) s 24 1152 T56 (mkF m 154 #[vi len, vi x1, vi x2, vi x3, vi x4, vi 2, vi c0, vi c1, vi c2, vi c3, vr t47, vr b52, uu] [(.int j54)]) := by
        intro j54 hv_j54 T56 X56 e56
        refine bW T56 (mkF m 156 #[vi len, vi x1, vi x2, vi x3, vi x4, vi 2, vi c0, vi c1, vi c2, vi c3, vr t47, vr b52, vi j54] []) (fun _ k => XS.istore X56.here hx rfl (hb hby at_154) rfl rfl k) ?_
        refine bW T56 (mkF m 158 #[vi len, vi x1, vi x2, vi x3, vi x4, vi 2, vi c0, vi c1, vi c2, vi c3, vr t47, vr b52, vi j54] [(.ref b52)]) (fun _ k => XS.aload X56.here hx rfl (hb hby at_156) rfl rfl k) ?_
        obtain ⟨_, _, ⟨T57, L57, k57, n57⟩, -, X57, ⟨Lc57, hQ57, l57, y57, z57⟩, st57⟩ := Jvm.LawKit.callS X56 hx (y := yy27) hown (mvT hZ (hw _ (mo 31 rfl))) (mvT hZ (hw _ (mo 32 rfl))) (mvT hZ (hw _ (mo 33 rfl))) (mvT hZ (hw _ (mo 34 rfl))) (by decide) (backOf (W := 0) (hub_l_0 l Z a0 hw [] b52 t53 kb53 cs (2 : Int32) [(.int (nar .byte (c0.toInt8.toInt32))), (.int (nar .byte (c1.toInt8.toInt32)))] T53.heap n0 (Nat.le_trans (Nat.le_trans (Nat.le_trans (Nat.le_trans (Nat.le_trans Z0 K47.1) (Keep.of_wr W49).1) (Keep.of_wr W51).1) E52.1) K53.1) (Exa.keep E_b52 K53) Fc53 Fv53 V53 (Sta.ext ((Old.keep (Old.ext (Old.wr (Old.wr (Old.keep O0 K47 all0) W49 g_t47) W51 g_t47) E52) K53 (allS g_b52 all0))).2 S_CS) hcs) hZ (hw _ (mo 34 rfl)) (hw _ (mo 33 rfl)) (by decide) (by decide)) (g := (mkF m 158 #[vi len, vi x1, vi x2, vi x3, vi x4, vi 2, vi c0, vi c1, vi c2, vi c3, vr t47, vr b52, vi j54] [(.ref b52)])) rfl (by rw [hml]; rfl) (argsL := [(.ref b52)]) (rest := []) (lenOf pd_21 rfl) rfl (Nat.le_of_eq rfl) (hb hby at_158) (fun _ _ => ⟨rfl, e56, (by decide : 3 ≤ _), (by decide : 8 ≤ _)⟩)
        dsimp only [Pt.U, Pt.locs, Pt.cells, Pt.slots] at X57 l57 y57 z57 st57 hQ57
        subst l57 y57 z57
        obtain ⟨rfl, N57q, e57⟩ := hQ57
        have N57 := Fr.app N53 N57q
        refine bW T57 (mkF m 161 #[vi len, vi x1, vi x2, vi x3, vi x4, vi 2, vi c0, vi c1, vi c2, vi c3, vr t47, vr b52, vi j54] [(ii 0)]) (fun _ k => st57 _ k) ?_
        refine bW T57 (mkF m 163 #[vi len, vi x1, vi x2, vi x3, vi x4, vi 2, vi c0, vi c1, vi c2, vi c3, vr t47, vr b52, vi j54] [(.int j54), (ii 0)]) (fun _ k => XS.iload X57.here hx rfl (hb hby at_161) rfl k) ?_
        refine bW T57 (mkF m 166 #[vi len, vi x1, vi x2, vi x3, vi x4, vi 2, vi c0, vi c1, vi c2, vi c3, vr t47, vr b52, vi j54] []) (fun _ k => XS.icmpNo X57.here hx rfl (hb hby at_163) rfl (teq (by rw [hv_j54]; exact own_g2 hc0 hc1)).2 k) ?_
        refine bW T57 (mkF m 167 #[vi len, vi x1, vi x2, vi x3, vi x4, vi 2, vi c0, vi c1, vi c2, vi c3, vr t47, vr b52, vi j54] [(.int (1 : Int32))]) (fun _ k => XS.iconst X57.here hx rfl (hb hby at_166) k) ?_
        refine bW T57 (mkF m 171 #[vi len, vi x1, vi x2, vi x3, vi x4, vi 2, vi c0, vi c1, vi c2, vi c3, vr t47, vr b52, vi j54] [(.int (1 : Int32))]) (fun _ k => XS.goto X57.here hx rfl (pc0 := 167) (pc' := 171) rfl (hb hby at_167) (by decide) (by decide) k) ?_
        refine own_retW (s := s) X57 hlk hS0 (by rw [e57]; exact (Nat.le_trans (Nat.le_trans (Nat.le_trans (Nat.le_trans (Nat.le_trans hk0 K47.1) (Keep.of_wr W49).1) (Keep.of_wr W51).1) E52.1) K53.1)) hZ hEL C53 e57 (v := some (.int (1 : Int32))) (nvr Bd.returns) (fun fs hr => retN X57 hx (t := .boolean) Bd.returns (by simp) (hb hby at_171) hr) ?_ (by decide) (by decide)
        rw [e57]
        exact ⟨rfl, N57⟩
      by_cases hc107_58 : c0 = (65533 : Int32)
      · skip
        refine bW T53 (mkF m 149 #[vi len, vi x1, vi x2, vi x3, vi x4, vi 2, vi c0, vi c1, vi c2, vi c3, vr t47, vr b52, uu] []) (fun _ k => XS.icmpYes X53.here hx rfl (pc0 := 107) (pc' := 149) rfl (hb hby at_107) rfl (teq hc107_58).1 (by decide) (by decide) k) ?_
        refine bW T53 (mkF m 150 #[vi len, vi x1, vi x2, vi x3, vi x4, vi 2, vi c0, vi c1, vi c2, vi c3, vr t47, vr b52, uu] [(.int (1 : Int32))]) (fun _ k => XS.iconst X53.here hx rfl (hb hby at_149) k) ?_
        refine bW T53 (mkF m 154 #[vi len, vi x1, vi x2, vi x3, vi x4, vi 2, vi c0, vi c1, vi c2, vi c3, vr t47, vr b52, uu] [(.int (1 : Int32))]) (fun _ k => XS.goto X53.here hx rfl (pc0 := 150) (pc' := 154) rfl (hb hby at_150) (by decide) (by decide) k) ?_
        exact J55 _ (if_pos hc107_58).symm T53 X53 rfl
      · skip
        refine bW T53 (mkF m 110 #[vi len, vi x1, vi x2, vi x3, vi x4, vi 2, vi c0, vi c1, vi c2, vi c3, vr t47, vr b52, uu] []) (fun _ k => XS.icmpNo X53.here hx rfl (hb hby at_107) rfl (feq hc107_58).1 k) ?_
        refine bW T53 (mkF m 112 #[vi len, vi x1, vi x2, vi x3, vi x4, vi 2, vi c0, vi c1, vi c2, vi c3, vr t47, vr b52, uu] [(.int (2 : Int32))]) (fun _ k => XS.iload X53.here hx rfl (hb hby at_110) rfl k) ?_
        refine bW T53 (mkF m 113 #[vi len, vi x1, vi x2, vi x3, vi x4, vi 2, vi c0, vi c1, vi c2, vi c3, vr t47, vr b52, uu] [(.int (1 : Int32)), (.int (2 : Int32))]) (fun _ k => XS.iconst X53.here hx rfl (hb hby at_112) k) ?_
        refine bW T53 (mkF m 116 #[vi len, vi x1, vi x2, vi x3, vi x4, vi 2, vi c0, vi c1, vi c2, vi c3, vr t47, vr b52, uu] []) (fun _ k => XS.icmpNo X53.here hx rfl (hb hby at_113) rfl (tlt (by decide)).2.2.2 k) ?_
        refine bW T53 (mkF m 118 #[vi len, vi x1, vi x2, vi x3, vi x4, vi 2, vi c0, vi c1, vi c2, vi c3, vr t47, vr b52, uu] [(.int c1)]) (fun _ k => XS.iload X53.here hx rfl (hb hby at_116) rfl k) ?_
        refine bW T53 (mkF m 120 #[vi len, vi x1, vi x2, vi x3, vi x4, vi 2, vi c0, vi c1, vi c2, vi c3, vr t47, vr b52, uu] [(.int (65533 : Int32)), (.int c1)]) (fun _ k => ldcI X53 hx hown (mvT hZ (hw _ (mo 79 rfl))) rfl (hb hby at_118) k) ?_
        by_cases hc120_59 : c1 = (65533 : Int32)
        · skip
          refine bW T53 (mkF m 149 #[vi len, vi x1, vi x2, vi x3, vi x4, vi 2, vi c0, vi c1, vi c2, vi c3, vr t47, vr b52, uu] []) (fun _ k => XS.icmpYes X53.here hx rfl (pc0 := 120) (pc' := 149) rfl (hb hby at_120) rfl (teq hc120_59).1 (by decide) (by decide) k) ?_
          refine bW T53 (mkF m 150 #[vi len, vi x1, vi x2, vi x3, vi x4, vi 2, vi c0, vi c1, vi c2, vi c3, vr t47, vr b52, uu] [(.int (1 : Int32))]) (fun _ k => XS.iconst X53.here hx rfl (hb hby at_149) k) ?_
          refine bW T53 (mkF m 154 #[vi len, vi x1, vi x2, vi x3, vi x4, vi 2, vi c0, vi c1, vi c2, vi c3, vr t47, vr b52, uu] [(.int (1 : Int32))]) (fun _ k => XS.goto X53.here hx rfl (pc0 := 150) (pc' := 154) rfl (hb hby at_150) (by decide) (by decide) k) ?_
          exact J55 _ ((if_neg hc107_58).trans (if_pos hc120_59)).symm T53 X53 rfl
        · skip
          refine bW T53 (mkF m 123 #[vi len, vi x1, vi x2, vi x3, vi x4, vi 2, vi c0, vi c1, vi c2, vi c3, vr t47, vr b52, uu] []) (fun _ k => XS.icmpNo X53.here hx rfl (hb hby at_120) rfl (feq hc120_59).1 k) ?_
          refine bW T53 (mkF m 125 #[vi len, vi x1, vi x2, vi x3, vi x4, vi 2, vi c0, vi c1, vi c2, vi c3, vr t47, vr b52, uu] [(.int (2 : Int32))]) (fun _ k => XS.iload X53.here hx rfl (hb hby at_123) rfl k) ?_
          refine bW T53 (mkF m 126 #[vi len, vi x1, vi x2, vi x3, vi x4, vi 2, vi c0, vi c1, vi c2, vi c3, vr t47, vr b52, uu] [(.int (2 : Int32)), (.int (2 : Int32))]) (fun _ k => XS.iconst X53.here hx rfl (hb hby at_125) k) ?_
          refine bW T53 (mkF m 136 #[vi len, vi x1, vi x2, vi x3, vi x4, vi 2, vi c0, vi c1, vi c2, vi c3, vr t47, vr b52, uu] []) (fun _ k => XS.icmpYes X53.here hx rfl (pc0 := 126) (pc' := 136) rfl (hb hby at_126) rfl (flt (by decide)).2.2.2 (by decide) (by decide) k) ?_
          refine bW T53 (mkF m 138 #[vi len, vi x1, vi x2, vi x3, vi x4, vi 2, vi c0, vi c1, vi c2, vi c3, vr t47, vr b52, uu] [(.int (2 : Int32))]) (fun _ k => XS.iload X53.here hx rfl (hb hby at_136) rfl k) ?_
          refine bW T53 (mkF m 139 #[vi len, vi x1, vi x2, vi x3, vi x4, vi 2, vi c0, vi c1, vi c2, vi c3, vr t47, vr b52, uu] [(.int (3 : Int32)), (.int (2 : Int32))]) (fun _ k => XS.iconst X53.here hx rfl (hb hby at_138) k) ?_
          refine bW T53 (mkF m 153 #[vi len, vi x1, vi x2, vi x3, vi x4, vi 2, vi c0, vi c1, vi c2, vi c3, vr t47, vr b52, uu] []) (fun _ k => XS.icmpYes X53.here hx rfl (pc0 := 139) (pc' := 153) rfl (hb hby at_139) rfl (flt (by decide)).2.2.2 (by decide) (by decide) k) ?_
          refine bW T53 (mkF m 154 #[vi len, vi x1, vi x2, vi x3, vi x4, vi 2, vi c0, vi c1, vi c2, vi c3, vr t47, vr b52, uu] [(ii 0)]) (fun _ k => XS.iconst X53.here hx rfl (hb hby at_153) k) ?_
          exact J55 _ ((if_neg hc107_58).trans (if_neg hc120_59)).symm T53 X53 rfl
    · skip
      obtain ⟨T60, h60, X60, e60, E60, A60, D60, -, st60⟩ := newO X51 hx hZ hown (hw _ (mo 10 rfl)) (hw _ (mo 11 rfl)) (hw _ (mo 12 rfl)) e51 (g := (mkF m 87 #[vi len, vi x1, vi x2, vi x3, vi x4, vi 2, vi c0, vi c1, vi c2, vi c3, vr t47, uu, uu] [])) rfl (hb hby at_87) (by decide) (by decide)
      obtain ⟨b60, g60⟩ : ∃ z, z = h51.size := ⟨_, rfl⟩
      rw [← g60] at A60 D60 st60
      have E_b60 : Exa Z h60 b60 "java/lang/String" := A60
      have F_value_b60 : Fld Z h60 b60 "java/lang/String" "value" "[B" .null := D60 (Or.inr (hw _ (mo 25 rfl))) (ty := (.array .byte)) (by decide)
      have F_coder_b60 : Fld Z h60 b60 "java/lang/String" "coder" "B" (ii 0) := D60 (Or.inr (hw _ (mo 26 rfl))) (ty := .byte) (by decide)
      have g_b60 : n0 ≤ b60 := Nat.le_trans (Nat.le_trans (Nat.le_trans (Nat.le_trans Z0 K47.1) (Keep.of_wr W49).1) (Keep.of_wr W51).1) (Nat.le_of_eq g60.symm)
      have sz_b60 : h0.size ≤ b60 := Nat.le_trans K51.1 (Nat.le_of_eq g60.symm)
      have K60 : Keep h0 h60 [] := Keep.ext K51 E60
      have Sf60_b60 : Safe Z consts_1 s.vm h60 b60 := Safe.ext E60 C51.1 (Safe.new (Nat.le_of_eq g60.symm))
      have C60 : CHr Z consts_1 s.vm s.heap s.vm h60 := CHr.trans C51 (CHr.ext E60 C51.1)
      refine bW T60 (mkF m 90 #[vi len, vi x1, vi x2, vi x3, vi x4, vi 2, vi c0, vi c1, vi c2, vi c3, vr t47, uu, uu] [(.ref b60)]) (fun _ k => st60 _ k) ?_
      refine bW T60 (mkF m 91 #[vi len, vi x1, vi x2, vi x3, vi x4, vi 2, vi c0, vi c1, vi c2, vi c3, vr t47, uu, uu] [(.ref b60), (.ref b60)]) (fun _ k => XS.dup X60.here hx rfl (hb hby at_90) rfl rfl k) ?_
      refine bW T60 (mkF m 93 #[vi len, vi x1, vi x2, vi x3, vi x4, vi 2, vi c0, vi c1, vi c2, vi c3, vr t47, uu, uu] [(.ref t47), (.ref b60), (.ref b60)]) (fun _ k => XS.aload X60.here hx rfl (hb hby at_91) rfl rfl k) ?_
      obtain ⟨_, _, ⟨T61, L61, k61, n61⟩, -, X61, ⟨Lc61, hQ61, l61, y61, z61⟩, st61⟩ := X60.specialBack hx (y := yy6) rfl hown (mvT hZ (hw _ (mo 13 rfl))) (mvT hZ (hw _ (mo 14 rfl))) (mvT hZ (hw _ (mo 15 rfl))) (by decide) (backOf (W := 1) (siu1_2 l Z a0 hw [] b60 t47 kb47 cs c0 c1 h60 n0 (Nat.le_trans (Nat.le_trans (Nat.le_trans (Nat.le_trans Z0 K47.1) (Keep.of_wr W49).1) (Keep.of_wr W51).1) E60.1) E_b60 F_value_b60 F_coder_b60 g_b60 (Arv.ext VC E60) (Sta.ext ((Old.ext (Old.wr (Old.wr (Old.keep O0 K47 all0) W49 g_t47) W51 g_t47) E60)).2 S_CS) hcs (Old.ext (Old.wr (Old.wr (Old.keep O0 K47 all0) W49 g_t47) W51 g_t47) E60) S_AD S_HI S_LO hr0 hr1 hU) hZ (hw _ (mo 15 rfl)) (hw _ (mo 12 rfl)) (by decide) (by decide)) (g := (mkF m 93 #[vi len, vi x1, vi x2, vi x3, vi x4, vi 2, vi c0, vi c1, vi c2, vi c3, vr t47, uu, uu] [(.ref t47), (.ref b60), (.ref b60)])) rfl (by rw [hml]; rfl) (Steps.refl _) (a := b60) (argsL := [(.ref t47)]) (rest := [(.ref b60)]) (lenOf pd_20 rfl) rfl (Nat.le_of_eq rfl) (hb hby at_93) (fun _ _ => ⟨rfl, e60, (by decide : 4 ≤ _), (by decide : 12 ≤ _)⟩)
      dsimp only [Pt.U, Pt.locs, Pt.cells, Pt.slots] at X61 l61 y61 z61 st61 hQ61
      subst l61 y61 z61
      obtain ⟨rfl, N61q, K61, Fc61, t61, kb61, zt61, Fv61, V61⟩ := hQ61
      have N61 := Fr.app N51 N61q
      have KK61 : Keep h0 T61.heap [] := Keep.trans K60 K61 (allS (Or.inr sz_b60) all0)
      have Sf61_b60 : Safe Z consts_1 s.vm T61.heap b60 := Safe.keep K61 (sfS Sf60_b60 sf0) C60.1 Sf60_b60
      have C61 : CHr Z consts_1 s.vm s.heap s.vm T61.heap := CHr.trans C60 (CHr.keep K61 (sfS Sf60_b60 sf0) C60.1)
      have sz_t61 : h0.size ≤ t61 := Nat.le_trans K60.1 zt61
      have g_t61 : n0 ≤ t61 := Nat.le_trans Z0 sz_t61
      refine bW T61 (mkF m 96 #[vi len, vi x1, vi x2, vi x3, vi x4, vi 2, vi c0, vi c1, vi c2, vi c3, vr t47, uu, uu] [(.ref b60)]) (fun _ k => st61.trans k) ?_
      refine bW T61 (mkF m 98 #[vi len, vi x1, vi x2, vi x3, vi x4, vi 2, vi c0, vi c1, vi c2, vi c3, vr t47, vr b60, uu] []) (fun _ k => XS.astore X61.here hx rfl (hb hby at_96) rfl rfl rfl k) ?_
      refine bW T61 (mkF m 100 #[vi len, vi x1, vi x2, vi x3, vi x4, vi 2, vi c0, vi c1, vi c2, vi c3, vr t47, vr b60, uu] [(.int (2 : Int32))]) (fun _ k => XS.iload X61.here hx rfl (hb hby at_98) rfl k) ?_
      refine bW T61 (mkF m 103 #[vi len, vi x1, vi x2, vi x3, vi x4, vi 2, vi c0, vi c1, vi c2, vi c3, vr t47, vr b60, uu] []) (fun _ k => XS.ifNo X61.here hx rfl (hb hby at_100) rfl ((if0 _ _).trans (tlt (by decide)).2.2.2) k) ?_
      refine bW T61 (mkF m 105 #[vi len, vi x1, vi x2, vi x3, vi x4, vi 2, vi c0, vi c1, vi c2, vi c3, vr t47, vr b60, uu] [(.int c0)]) (fun _ k => XS.iload X61.here hx rfl (hb hby at_103) rfl k) ?_
      refine bW T61 (mkF m 107 #[vi len, vi x1, vi x2, vi x3, vi x4, vi 2, vi c0, vi c1, vi c2, vi c3, vr t47, vr b60, uu] [(.int (65533 : Int32)), (.int c0)]) (fun _ k => ldcI X61 hx hown (mvT hZ (hw _ (mo 79 rfl))) rfl (hb hby at_105) k) ?_
      have J63 : ∀ (j62 : Int32) (hv_j62 : j62 = (if c0 = (65533 : Int32) then (1 : Int32) else (if c1 = (65533 : Int32) then (1 : Int32) else (0 : Int32)))) (T64 : State) (_ : Stand p l e room_1 (s.setVm s.vm) m #[(.int len), (.int x1), (.int x2), (.int x3), (.int x4)] below meth c T64 (((((((L21 ++ Lc22) ++ Lc23) ++ Lc24) ++ Lc47) ++ [⟨t47, ((0 : Int32)).toNatClampNeg⟩]) ++ [⟨t47, ((1 : Int32)).toNatClampNeg⟩]) ++ Lc61) (((((((0 + 0) + 0) + 0) + 0) + 1) + 1) + 2) (((((((0 + 0) + 0) + 0) + 0) + 2) + 4) + 6)) (_ : T64.heap = T61.heap), own_GoW p.tables e below Z consts_1 (Q_rm0 Z len x1 x2 x3 x4 cs sf h0 n0) s 24 1152 T64 (mkF m 154 #[vi len, vi x1, vi x2, vi x3, vi x4, vi 2, vi c0, vi c1, vi c2, vi c3, vr t47, vr b60, uu] [(.int j62)]) := by
        intro j62 hv_j62 T64 X64 e64
        refine bW T64 (mkF m 156 #[vi len, vi x1, vi x2, vi x3, vi x4, vi 2, vi c0, vi c1, vi c2, vi c3, vr t47, vr b60, vi j62] []) (fun _ k => XS.istore X64.here hx rfl (hb hby at_154) rfl rfl k) ?_
        refine bW T64 (mkF m 158 #[vi len, vi x1, vi x2, vi x3, vi x4, vi 2, vi c0, vi c1, vi c2, vi c3, vr t47, vr b60, vi j62] [(.ref b60)]) (fun _ k => XS.aload X64.here hx rfl (hb hby at_156) rfl rfl k) ?_
        obtain ⟨_, _, ⟨T65, L65, k65, n65⟩, -, X65, ⟨Lc65, hQ65, l65, y65, z65⟩, st65⟩ := Jvm.LawKit.callS X64 hx (y := yy27) hown (mvT hZ (hw _ (mo 31 rfl))) (mvT hZ (hw _ (mo 32 rfl))) (mvT hZ (hw _ (mo 33 rfl))) (mvT hZ (hw _ (mo 34 rfl))) (by decide) (backOf (W := 0) (hub_u_2 l Z a0 hw [] b60 t61 kb61 cs c0 c1 sf T61.heap n0 (Nat.le_trans (Nat.le_trans (Nat.le_trans (Nat.le_trans (Nat.le_trans Z0 K47.1) (Keep.of_wr W49).1) (Keep.of_wr W51).1) E60.1) K61.1) (Exa.keep E_b60 K61) Fc61 Fv61 V61 (Sta.ext ((Old.keep (Old.ext (Old.wr (Old.wr (Old.keep O0 K47 all0) W49 g_t47) W51 g_t47) E60) K61 (allS g_b60 all0))).2 S_CS) hcs (Sta.ext ((Old.keep (Old.ext (Old.wr (Old.wr (Old.keep O0 K47 all0) W49 g_t47) W51 g_t47) E60) K61 (allS g_b60 all0))).2 S_AD) (Sta.ext ((Old.keep (Old.ext (Old.wr (Old.wr (Old.keep O0 K47 all0) W49 g_t47) W51 g_t47) E60) K61 (allS g_b60 all0))).2 S_HI) (Sta.ext ((Old.keep (Old.ext (Old.wr (Old.wr (Old.keep O0 K47 all0) W49 g_t47) W51 g_t47) E60) K61 (allS g_b60 all0))).2 S_LO) hsf (Sta.ext ((Old.keep (Old.ext (Old.wr (Old.wr (Old.keep O0 K47 all0) W49 g_t47) W51 g_t47) E60) K61 (allS g_b60 all0))).2 S_SF) hr0 hr1) hZ (hw _ (mo 34 rfl)) (hw _ (mo 33 rfl)) (by decide) (by decide)) (g := (mkF m 158 #[vi len, vi x1, vi x2, vi x3, vi x4, vi 2, vi c0, vi c1, vi c2, vi c3, vr t47, vr b60, vi j62] [(.ref b60)])) rfl (by rw [hml]; rfl) (argsL := [(.ref b60)]) (rest := []) (lenOf pd_21 rfl) rfl (Nat.le_of_eq rfl) (hb hby at_158) (fun _ _ => ⟨rfl, e64, (by decide : 4 ≤ _), (by decide : 12 ≤ _)⟩)
        dsimp only [Pt.U, Pt.locs, Pt.cells, Pt.slots] at X65 l65 y65 z65 st65 hQ65
        subst l65 y65 z65
        obtain ⟨rfl, N65q, e65⟩ := hQ65
        have N65 := Fr.app N61 N65q
        refine bW T65 (mkF m 161 #[vi len, vi x1, vi x2, vi x3, vi x4, vi 2, vi c0, vi c1, vi c2, vi c3, vr t47, vr b60, vi j62] [(.int (if (own_i2 c0 c1) < (0 : Int32) then (0 : Int32) else (1 : Int32)))]) (fun _ k => st65 _ k) ?_
        refine bW T65 (mkF m 163 #[vi len, vi x1, vi x2, vi x3, vi x4, vi 2, vi c0, vi c1, vi c2, vi c3, vr t47, vr b60, vi j62] [(.int j62), (.int (if (own_i2 c0 c1) < (0 : Int32) then (0 : Int32) else (1 : Int32)))]) (fun _ k => XS.iload X65.here hx rfl (hb hby at_161) rfl k) ?_
        refine bW T65 (mkF m 166 #[vi len, vi x1, vi x2, vi x3, vi x4, vi 2, vi c0, vi c1, vi c2, vi c3, vr t47, vr b60, vi j62] []) (fun _ k => XS.icmpNo X65.here hx rfl (hb hby at_163) rfl (teq (by rw [hv_j62]; exact own_f2 c0 c1)).2 k) ?_
        refine bW T65 (mkF m 167 #[vi len, vi x1, vi x2, vi x3, vi x4, vi 2, vi c0, vi c1, vi c2, vi c3, vr t47, vr b60, vi j62] [(.int (1 : Int32))]) (fun _ k => XS.iconst X65.here hx rfl (hb hby at_166) k) ?_
        refine bW T65 (mkF m 171 #[vi len, vi x1, vi x2, vi x3, vi x4, vi 2, vi c0, vi c1, vi c2, vi c3, vr t47, vr b60, vi j62] [(.int (1 : Int32))]) (fun _ k => XS.goto X65.here hx rfl (pc0 := 167) (pc' := 171) rfl (hb hby at_167) (by decide) (by decide) k) ?_
        refine own_retW (s := s) X65 hlk hS0 (by rw [e65]; exact (Nat.le_trans (Nat.le_trans (Nat.le_trans (Nat.le_trans (Nat.le_trans hk0 K47.1) (Keep.of_wr W49).1) (Keep.of_wr W51).1) E60.1) K61.1)) hZ hEL C61 e65 (v := some (.int (1 : Int32))) (nvr Bd.returns) (fun fs hr => retN X65 hx (t := .boolean) Bd.returns (by simp) (hb hby at_171) hr) ?_ (by decide) (by decide)
        rw [e65]
        exact ⟨rfl, N65⟩
      by_cases hc107_66 : c0 = (65533 : Int32)
      · skip
        refine bW T61 (mkF m 149 #[vi len, vi x1, vi x2, vi x3, vi x4, vi 2, vi c0, vi c1, vi c2, vi c3, vr t47, vr b60, uu] []) (fun _ k => XS.icmpYes X61.here hx rfl (pc0 := 107) (pc' := 149) rfl (hb hby at_107) rfl (teq hc107_66).1 (by decide) (by decide) k) ?_
        refine bW T61 (mkF m 150 #[vi len, vi x1, vi x2, vi x3, vi x4, vi 2, vi c0, vi c1, vi c2, vi c3, vr t47, vr b60, uu] [(.int (1 : Int32))]) (fun _ k => XS.iconst X61.here hx rfl (hb hby at_149) k) ?_
        refine bW T61 (mkF m 154 #[vi len, vi x1, vi x2, vi x3, vi x4, vi 2, vi c0, vi c1, vi c2, vi c3, vr t47, vr b60, uu] [(.int (1 : Int32))]) (fun _ k => XS.goto X61.here hx rfl (pc0 := 150) (pc' := 154) rfl (hb hby at_150) (by decide) (by decide) k) ?_
        exact J63 _ (if_pos hc107_66).symm T61 X61 rfl
      · skip
        refine bW T61 (mkF m 110 #[vi len, vi x1, vi x2, vi x3, vi x4, vi 2, vi c0, vi c1, vi c2, vi c3, vr t47, vr b60, uu] []) (fun _ k => XS.icmpNo X61.here hx rfl (hb hby at_107) rfl (feq hc107_66).1 k) ?_
        refine bW T61 (mkF m 112 #[vi len, vi x1, vi x2, vi x3, vi x4, vi 2, vi c0, vi c1, vi c2, vi c3, vr t47, vr b60, uu] [(.int (2 : Int32))]) (fun _ k => XS.iload X61.here hx rfl (hb hby at_110) rfl k) ?_
        refine bW T61 (mkF m 113 #[vi len, vi x1, vi x2, vi x3, vi x4, vi 2, vi c0, vi c1, vi c2, vi c3, vr t47, vr b60, uu] [(.int (1 : Int32)), (.int (2 : Int32))]) (fun _ k => XS.iconst X61.here hx rfl (hb hby at_112) k) ?_
        refine bW T61 (mkF m 116 #[vi len, vi x1, vi x2, vi x3, vi x4, vi 2, vi c0, vi c1, vi c2, vi c3, vr t47, vr b60, uu] []) (fun _ k => XS.icmpNo X61.here hx rfl (hb hby at_113) rfl (tlt (by decide)).2.2.2 k) ?_
        refine bW T61 (mkF m 118 #[vi len, vi x1, vi x2, vi x3, vi x4, vi 2, vi c0, vi c1, vi c2, vi c3, vr t47, vr b60, uu] [(.int c1)]) (fun _ k => XS.iload X61.here hx rfl (hb hby at_116) rfl k) ?_
        refine bW T61 (mkF m 120 #[vi len, vi x1, vi x2, vi x3, vi x4, vi 2, vi c0, vi c1, vi c2, vi c3, vr t47, vr b60, uu] [(.int (65533 : Int32)), (.int c1)]) (fun _ k => ldcI X61 hx hown (mvT hZ (hw _ (mo 79 rfl))) rfl (hb hby at_118) k) ?_
        by_cases hc120_67 : c1 = (65533 : Int32)
        · skip
          refine bW T61 (mkF m 149 #[vi len, vi x1, vi x2, vi x3, vi x4, vi 2, vi c0, vi c1, vi c2, vi c3, vr t47, vr b60, uu] []) (fun _ k => XS.icmpYes X61.here hx rfl (pc0 := 120) (pc' := 149) rfl (hb hby at_120) rfl (teq hc120_67).1 (by decide) (by decide) k) ?_
          refine bW T61 (mkF m 150 #[vi len, vi x1, vi x2, vi x3, vi x4, vi 2, vi c0, vi c1, vi c2, vi c3, vr t47, vr b60, uu] [(.int (1 : Int32))]) (fun _ k => XS.iconst X61.here hx rfl (hb hby at_149) k) ?_
          refine bW T61 (mkF m 154 #[vi len, vi x1, vi x2, vi x3, vi x4, vi 2, vi c0, vi c1, vi c2, vi c3, vr t47, vr b60, uu] [(.int (1 : Int32))]) (fun _ k => XS.goto X61.here hx rfl (pc0 := 150) (pc' := 154) rfl (hb hby at_150) (by decide) (by decide) k) ?_
          exact J63 _ ((if_neg hc107_66).trans (if_pos hc120_67)).symm T61 X61 rfl
        · skip
          refine bW T61 (mkF m 123 #[vi len, vi x1, vi x2, vi x3, vi x4, vi 2, vi c0, vi c1, vi c2, vi c3, vr t47, vr b60, uu] []) (fun _ k => XS.icmpNo X61.here hx rfl (hb hby at_120) rfl (feq hc120_67).1 k) ?_
          refine bW T61 (mkF m 125 #[vi len, vi x1, vi x2, vi x3, vi x4, vi 2, vi c0, vi c1, vi c2, vi c3, vr t47, vr b60, uu] [(.int (2 : Int32))]) (fun _ k => XS.iload X61.here hx rfl (hb hby at_123) rfl k) ?_
          refine bW T61 (mkF m 126 #[vi len, vi x1, vi x2, vi x3, vi x4, vi 2, vi c0, vi c1, vi c2, vi c3, vr t47, vr b60, uu] [(.int (2 : Int32)), (.int (2 : Int32))]) (fun _ k => XS.iconst X61.here hx rfl (hb hby at_125) k) ?_
          refine bW T61 (mkF m 136 #[vi len, vi x1, vi x2, vi x3, vi x4, vi 2, vi c0, vi c1, vi c2, vi c3, vr t47, vr b60, uu] []) (fun _ k => XS.icmpYes X61.here hx rfl (pc0 := 126) (pc' := 136) rfl (hb hby at_126) rfl (flt (by decide)).2.2.2 (by decide) (by decide) k) ?_
          refine bW T61 (mkF m 138 #[vi len, vi x1, vi x2, vi x3, vi x4, vi 2, vi c0, vi c1, vi c2, vi c3, vr t47, vr b60, uu] [(.int (2 : Int32))]) (fun _ k => XS.iload X61.here hx rfl (hb hby at_136) rfl k) ?_
          refine bW T61 (mkF m 139 #[vi len, vi x1, vi x2, vi x3, vi x4, vi 2, vi c0, vi c1, vi c2, vi c3, vr t47, vr b60, uu] [(.int (3 : Int32)), (.int (2 : Int32))]) (fun _ k => XS.iconst X61.here hx rfl (hb hby at_138) k) ?_
          refine bW T61 (mkF m 153 #[vi len, vi x1, vi x2, vi x3, vi x4, vi 2, vi c0, vi c1, vi c2, vi c3, vr t47, vr b60, uu] []) (fun _ k => XS.icmpYes X61.here hx rfl (pc0 := 139) (pc' := 153) rfl (hb hby at_139) rfl (flt (by decide)).2.2.2 (by decide) (by decide) k) ?_
          refine bW T61 (mkF m 154 #[vi len, vi x1, vi x2, vi x3, vi x4, vi 2, vi c0, vi c1, vi c2, vi c3, vr t47, vr b60, uu] [(ii 0)]) (fun _ k => XS.iconst X61.here hx rfl (hb hby at_153) k) ?_
          exact J63 _ ((if_neg hc107_66).trans (if_neg hc120_67)).symm T61 X61 rfl
  · skip
    rw [hq25]
    refine bW T24 (mkF m 35 #[vi len, vi x1, vi x2, vi x3, vi x4, vi 3, vi c0, vi c1, vi c2, vi c3, uu, uu, uu] [(.int (3 : Int32))]) (fun _ k => XS.iload X24.here hx rfl (hb hby at_33) rfl k) ?_
    obtain ⟨_, _, ⟨T68, L68, k68, n68⟩, -, X68, ⟨Lc68, hQ68, l68, y68, z68⟩, st68⟩ := Jvm.LawKit.callS X24 hx (y := yy1) hown (mvT hZ (hw _ (mo 6 rfl))) (mvT hZ (hw _ (mo 7 rfl))) (mvT hZ (hw _ (mo 3 rfl))) (mvT hZ (hw _ (mo 8 rfl))) (by decide) (backOf (W := 0) (mka_3 l Z a0 hw []   h0 n0 Z0 ) hZ (hw _ (mo 8 rfl)) (hw _ (mo 3 rfl)) (by decide) (by decide)) (g := (mkF m 35 #[vi len, vi x1, vi x2, vi x3, vi x4, vi 3, vi c0, vi c1, vi c2, vi c3, uu, uu, uu] [(.int (3 : Int32))])) rfl (by rw [hml]; rfl) (argsL := [(.int (3 : Int32))]) (rest := []) (lenOf pd_19 rfl) rfl (Nat.le_of_eq rfl) (hb hby at_35) (fun _ _ => ⟨rfl, e24, (by decide : 1 ≤ _), (by decide : 3 ≤ _)⟩)
    dsimp only [Pt.U, Pt.locs, Pt.cells, Pt.slots] at X68 l68 y68 z68 st68 hQ68
    subst l68 y68 z68
    obtain ⟨t68, kb68, rfl, N68q, K68, zt68, V68⟩ := hQ68
    have N68 := Fr.app N24 N68q
    have KK68 : Keep h0 T68.heap [] := Keep.trans (Keep.refl h0 []) K68 all0
    have C68 : CHr Z consts_1 s.vm s.heap s.vm T68.heap := CHr.trans C0 (CHr.keep K68 sf0 C0.1)
    have sz_t68 : h0.size ≤ t68 := Nat.le_trans (Keep.refl h0 []).1 zt68
    have g_t68 : n0 ≤ t68 := Nat.le_trans Z0 sz_t68
    refine bW T68 (mkF m 38 #[vi len, vi x1, vi x2, vi x3, vi x4, vi 3, vi c0, vi c1, vi c2, vi c3, uu, uu, uu] [(.ref t68)]) (fun _ k => st68 _ k) ?_
    refine bW T68 (mkF m 40 #[vi len, vi x1, vi x2, vi x3, vi x4, vi 3, vi c0, vi c1, vi c2, vi c3, vr t68, uu, uu] []) (fun _ k => XS.astore X68.here hx rfl (hb hby at_38) rfl rfl rfl k) ?_
    refine bW T68 (mkF m 42 #[vi len, vi x1, vi x2, vi x3, vi x4, vi 3, vi c0, vi c1, vi c2, vi c3, vr t68, uu, uu] [(.int (3 : Int32))]) (fun _ k => XS.iload X68.here hx rfl (hb hby at_40) rfl k) ?_
    refine bW T68 (mkF m 45 #[vi len, vi x1, vi x2, vi x3, vi x4, vi 3, vi c0, vi c1, vi c2, vi c3, vr t68, uu, uu] []) (fun _ k => XS.ifNo X68.here hx rfl (hb hby at_42) rfl ((if0 _ _).trans (tlt (by decide)).2.2.2) k) ?_
    refine bW T68 (mkF m 47 #[vi len, vi x1, vi x2, vi x3, vi x4, vi 3, vi c0, vi c1, vi c2, vi c3, vr t68, uu, uu] [(.ref t68)]) (fun _ k => XS.aload X68.here hx rfl (hb hby at_45) rfl rfl k) ?_
    refine bW T68 (mkF m 48 #[vi len, vi x1, vi x2, vi x3, vi x4, vi 3, vi c0, vi c1, vi c2, vi c3, vr t68, uu, uu] [(ii 0), (.ref t68)]) (fun _ k => XS.iconst X68.here hx rfl (hb hby at_47) k) ?_
    refine bW T68 (mkF m 50 #[vi len, vi x1, vi x2, vi x3, vi x4, vi 3, vi c0, vi c1, vi c2, vi c3, vr t68, uu, uu] [(.int c0), (ii 0), (.ref t68)]) (fun _ k => XS.iload X68.here hx rfl (hb hby at_48) rfl k) ?_
    obtain ⟨cl69, Ar69, q69, S69, N_69, H69, G69⟩ := id V68
    have hin69 : ¬ ((0 : Int32) < 0 ∨ cl69.slots.size ≤ ((0 : Int32)).toNatClampNeg) := inb_of S69 ⟨by decide, by decide⟩
    obtain ⟨T70, h70, X70, e70, W70, st70⟩ := stC X68 hx hZ rfl Ar69 (j := (0 : Int32)) hin69 (g := (mkF m 50 #[vi len, vi x1, vi x2, vi x3, vi x4, vi 3, vi c0, vi c1, vi c2, vi c3, vr t68, uu, uu] [(.int c0), (ii 0), (.ref t68)])) rfl rfl (hb hby at_50)
    have V70 : Arv Z h70 t68 kb68 .char (3 : Int32) [(.int (nar .char c0)), (ii 0), (ii 0)] (ii 0) := Arv.set Ar69 q69 S69 N_69 H69 G69 (fits_nar_char _) W70 0 rfl (Nat.le_of_ble_eq_true rfl)
    have K70 : Keep h0 h70 [] := Keep.wr KK68 W70 (Or.inr sz_t68)
    have C70 : CHr Z consts_1 s.vm s.heap s.vm h70 := CHr.trans C68 (CHr.wr W70 (Safe.arv (EL := consts_1) (vm := s.vm) hZ.alike V68 (by decide)) C68.1)
    have N70 := Fr.snoc X70 N68 g_t68
    refine bW T70 (mkF m 51 #[vi len, vi x1, vi x2, vi x3, vi x4, vi 3, vi c0, vi c1, vi c2, vi c3, vr t68, uu, uu] []) (fun _ k => st70 _ k) ?_
    refine bW T70 (mkF m 53 #[vi len, vi x1, vi x2, vi x3, vi x4, vi 3, vi c0, vi c1, vi c2, vi c3, vr t68, uu, uu] [(.int (3 : Int32))]) (fun _ k => XS.iload X70.here hx rfl (hb hby at_51) rfl k) ?_
    refine bW T70 (mkF m 54 #[vi len, vi x1, vi x2, vi x3, vi x4, vi 3, vi c0, vi c1, vi c2, vi c3, vr t68, uu, uu] [(.int (1 : Int32)), (.int (3 : Int32))]) (fun _ k => XS.iconst X70.here hx rfl (hb hby at_53) k) ?_
    refine bW T70 (mkF m 57 #[vi len, vi x1, vi x2, vi x3, vi x4, vi 3, vi c0, vi c1, vi c2, vi c3, vr t68, uu, uu] []) (fun _ k => XS.icmpNo X70.here hx rfl (hb hby at_54) rfl (tlt (by decide)).2.2.2 k) ?_
    refine bW T70 (mkF m 59 #[vi len, vi x1, vi x2, vi x3, vi x4, vi 3, vi c0, vi c1, vi c2, vi c3, vr t68, uu, uu] [(.ref t68)]) (fun _ k => XS.aload X70.here hx rfl (hb hby at_57) rfl rfl k) ?_
    refine bW T70 (mkF m 60 #[vi len, vi x1, vi x2, vi x3, vi x4, vi 3, vi c0, vi c1, vi c2, vi c3, vr t68, uu, uu] [(.int (1 : Int32)), (.ref t68)]) (fun _ k => XS.iconst X70.here hx rfl (hb hby at_59) k) ?_
    refine bW T70 (mkF m 62 #[vi len, vi x1, vi x2, vi x3, vi x4, vi 3, vi c0, vi c1, vi c2, vi c3, vr t68, uu, uu] [(.int c1), (.int (1 : Int32)), (.ref t68)]) (fun _ k => XS.iload X70.here hx rfl (hb hby at_60) rfl k) ?_
    obtain ⟨cl71, Ar71, q71, S71, N_71, H71, G71⟩ := id V70
    have hin71 : ¬ ((1 : Int32) < 0 ∨ cl71.slots.size ≤ ((1 : Int32)).toNatClampNeg) := inb_of S71 ⟨by decide, by decide⟩
    obtain ⟨T72, h72, X72, e72, W72, st72⟩ := stC X70 hx hZ e70 Ar71 (j := (1 : Int32)) hin71 (g := (mkF m 62 #[vi len, vi x1, vi x2, vi x3, vi x4, vi 3, vi c0, vi c1, vi c2, vi c3, vr t68, uu, uu] [(.int c1), (.int (1 : Int32)), (.ref t68)])) rfl rfl (hb hby at_62)
    have V72 : Arv Z h72 t68 kb68 .char (3 : Int32) [(.int (nar .char c0)), (.int (nar .char c1)), (ii 0)] (ii 0) := Arv.set Ar71 q71 S71 N_71 H71 G71 (fits_nar_char _) W72 1 rfl (Nat.le_of_ble_eq_true rfl)
    have K72 : Keep h0 h72 [] := Keep.wr K70 W72 (Or.inr sz_t68)
    have C72 : CHr Z consts_1 s.vm s.heap s.vm h72 := CHr.trans C70 (CHr.wr W72 (Safe.arv (EL := consts_1) (vm := s.vm) hZ.alike V70 (by decide)) C70.1)
    have N72 := Fr.snoc X72 N70 g_t68
    refine bW T72 (mkF m 63 #[vi len, vi x1, vi x2, vi x3, vi x4, vi 3, vi c0, vi c1, vi c2, vi c3, vr t68, uu, uu] []) (fun _ k => st72 _ k) ?_
    refine bW T72 (mkF m 65 #[vi len, vi x1, vi x2, vi x3, vi x4, vi 3, vi c0, vi c1, vi c2, vi c3, vr t68, uu, uu] [(.int (3 : Int32))]) (fun _ k => XS.iload X72.here hx rfl (hb hby at_63) rfl k) ?_
    refine bW T72 (mkF m 66 #[vi len, vi x1, vi x2, vi x3, vi x4, vi 3, vi c0, vi c1, vi c2, vi c3, vr t68, uu, uu] [(.int (2 : Int32)), (.int (3 : Int32))]) (fun _ k => XS.iconst X72.here hx rfl (hb hby at_65) k) ?_
    refine bW T72 (mkF m 69 #[vi len, vi x1, vi x2, vi x3, vi x4, vi 3, vi c0, vi c1, vi c2, vi c3, vr t68, uu, uu] []) (fun _ k => XS.icmpNo X72.here hx rfl (hb hby at_66) rfl (tlt (by decide)).2.2.2 k) ?_
    refine bW T72 (mkF m 71 #[vi len, vi x1, vi x2, vi x3, vi x4, vi 3, vi c0, vi c1, vi c2, vi c3, vr t68, uu, uu] [(.ref t68)]) (fun _ k => XS.aload X72.here hx rfl (hb hby at_69) rfl rfl k) ?_
    refine bW T72 (mkF m 72 #[vi len, vi x1, vi x2, vi x3, vi x4, vi 3, vi c0, vi c1, vi c2, vi c3, vr t68, uu, uu] [(.int (2 : Int32)), (.ref t68)]) (fun _ k => XS.iconst X72.here hx rfl (hb hby at_71) k) ?_
    refine bW T72 (mkF m 74 #[vi len, vi x1, vi x2, vi x3, vi x4, vi 3, vi c0, vi c1, vi c2, vi c3, vr t68, uu, uu] [(.int c2), (.int (2 : Int32)), (.ref t68)]) (fun _ k => XS.iload X72.here hx rfl (hb hby at_72) rfl k) ?_
    obtain ⟨cl73, Ar73, q73, S73, N_73, H73, G73⟩ := id V72
    have hin73 : ¬ ((2 : Int32) < 0 ∨ cl73.slots.size ≤ ((2 : Int32)).toNatClampNeg) := inb_of S73 ⟨by decide, by decide⟩
    obtain ⟨T74, h74, X74, e74, W74, st74⟩ := stC X72 hx hZ e72 Ar73 (j := (2 : Int32)) hin73 (g := (mkF m 74 #[vi len, vi x1, vi x2, vi x3, vi x4, vi 3, vi c0, vi c1, vi c2, vi c3, vr t68, uu, uu] [(.int c2), (.int (2 : Int32)), (.ref t68)])) rfl rfl (hb hby at_74)
    have V74 : Arv Z h74 t68 kb68 .char (3 : Int32) [(.int (nar .char c0)), (.int (nar .char c1)), (.int (nar .char c2))] (ii 0) := Arv.set Ar73 q73 S73 N_73 H73 G73 (fits_nar_char _) W74 2 rfl (Nat.le_of_ble_eq_true rfl)
    have K74 : Keep h0 h74 [] := Keep.wr K72 W74 (Or.inr sz_t68)
    have C74 : CHr Z consts_1 s.vm s.heap s.vm h74 := CHr.trans C72 (CHr.wr W74 (Safe.arv (EL := consts_1) (vm := s.vm) hZ.alike V72 (by decide)) C72.1)
    have N74 := Fr.snoc X74 N72 g_t68
    refine bW T74 (mkF m 75 #[vi len, vi x1, vi x2, vi x3, vi x4, vi 3, vi c0, vi c1, vi c2, vi c3, vr t68, uu, uu] []) (fun _ k => st74 _ k) ?_
    refine bW T74 (mkF m 77 #[vi len, vi x1, vi x2, vi x3, vi x4, vi 3, vi c0, vi c1, vi c2, vi c3, vr t68, uu, uu] [(.int (3 : Int32))]) (fun _ k => XS.iload X74.here hx rfl (hb hby at_75) rfl k) ?_
    refine bW T74 (mkF m 78 #[vi len, vi x1, vi x2, vi x3, vi x4, vi 3, vi c0, vi c1, vi c2, vi c3, vr t68, uu, uu] [(.int (3 : Int32)), (.int (3 : Int32))]) (fun _ k => XS.iconst X74.here hx rfl (hb hby at_77) k) ?_
    refine bW T74 (mkF m 87 #[vi len, vi x1, vi x2, vi x3, vi x4, vi 3, vi c0, vi c1, vi c2, vi c3, vr t68, uu, uu] []) (fun _ k => XS.icmpYes X74.here hx rfl (pc0 := 78) (pc' := 87) rfl (hb hby at_78) rfl (flt (by decide)).2.2.2 (by decide) (by decide) k) ?_
    have VC : Arv Z h74 t68 kb68 .char (3 : Int32) [(.int c0), (.int c1), (.int c2)] (ii 0) := by have q := V74; rw [own_nc hr0, own_nc hr1, own_nc hr2] at q; exact q
    rcases own_lu3 c0 c1 c2 with ⟨hc0, hc1, hc2⟩ | hU
    · skip
      obtain ⟨T75, h75, X75, e75, E75, A75, D75, -, st75⟩ := newO X74 hx hZ hown (hw _ (mo 10 rfl)) (hw _ (mo 11 rfl)) (hw _ (mo 12 rfl)) e74 (g := (mkF m 87 #[vi len, vi x1, vi x2, vi x3, vi x4, vi 3, vi c0, vi c1, vi c2, vi c3, vr t68, uu, uu] [])) rfl (hb hby at_87) (by decide) (by decide)
      obtain ⟨b75, g75⟩ : ∃ z, z = h74.size := ⟨_, rfl⟩
      rw [← g75] at A75 D75 st75
      have E_b75 : Exa Z h75 b75 "java/lang/String" := A75
      have F_value_b75 : Fld Z h75 b75 "java/lang/String" "value" "[B" .null := D75 (Or.inr (hw _ (mo 25 rfl))) (ty := (.array .byte)) (by decide)
      have F_coder_b75 : Fld Z h75 b75 "java/lang/String" "coder" "B" (ii 0) := D75 (Or.inr (hw _ (mo 26 rfl))) (ty := .byte) (by decide)
      have g_b75 : n0 ≤ b75 := Nat.le_trans (Nat.le_trans (Nat.le_trans (Nat.le_trans (Nat.le_trans Z0 K68.1) (Keep.of_wr W70).1) (Keep.of_wr W72).1) (Keep.of_wr W74).1) (Nat.le_of_eq g75.symm)
      have sz_b75 : h0.size ≤ b75 := Nat.le_trans K74.1 (Nat.le_of_eq g75.symm)
      have K75 : Keep h0 h75 [] := Keep.ext K74 E75
      have Sf75_b75 : Safe Z consts_1 s.vm h75 b75 := Safe.ext E75 C74.1 (Safe.new (Nat.le_of_eq g75.symm))
      have C75 : CHr Z consts_1 s.vm s.heap s.vm h75 := CHr.trans C74 (CHr.ext E75 C74.1)
      refine bW T75 (mkF m 90 #[vi len, vi x1, vi x2, vi x3, vi x4, vi 3, vi c0, vi c1, vi c2, vi c3, vr t68, uu, uu] [(.ref b75)]) (fun _ k => st75 _ k) ?_
      refine bW T75 (mkF m 91 #[vi len, vi x1, vi x2, vi x3, vi x4, vi 3, vi c0, vi c1, vi c2, vi c3, vr t68, uu, uu] [(.ref b75), (.ref b75)]) (fun _ k => XS.dup X75.here hx rfl (hb hby at_90) rfl rfl k) ?_
      refine bW T75 (mkF m 93 #[vi len, vi x1, vi x2, vi x3, vi x4, vi 3, vi c0, vi c1, vi c2, vi c3, vr t68, uu, uu] [(.ref t68), (.ref b75), (.ref b75)]) (fun _ k => XS.aload X75.here hx rfl (hb hby at_91) rfl rfl k) ?_
      obtain ⟨_, _, ⟨T76, L76, k76, n76⟩, -, X76, ⟨Lc76, hQ76, l76, y76, z76⟩, st76⟩ := X75.specialBack hx (y := yy6) rfl hown (mvT hZ (hw _ (mo 13 rfl))) (mvT hZ (hw _ (mo 14 rfl))) (mvT hZ (hw _ (mo 15 rfl))) (by decide) (backOf (W := 1) (sin1_3 l Z a0 hw [] b75 t68 kb68 cs c0 c1 c2 h75 n0 (Nat.le_trans (Nat.le_trans (Nat.le_trans (Nat.le_trans (Nat.le_trans Z0 K68.1) (Keep.of_wr W70).1) (Keep.of_wr W72).1) (Keep.of_wr W74).1) E75.1) E_b75 F_value_b75 F_coder_b75 g_b75 (Arv.ext VC E75) (Sta.ext ((Old.ext (Old.wr (Old.wr (Old.wr (Old.keep O0 K68 all0) W70 g_t68) W72 g_t68) W74 g_t68) E75)).2 S_CS) hcs hc0 hc1 hc2) hZ (hw _ (mo 15 rfl)) (hw _ (mo 12 rfl)) (by decide) (by decide)) (g := (mkF m 93 #[vi len, vi x1, vi x2, vi x3, vi x4, vi 3, vi c0, vi c1, vi c2, vi c3, vr t68, uu, uu] [(.ref t68), (.ref b75), (.ref b75)])) rfl (by rw [hml]; rfl) (Steps.refl _) (a := b75) (argsL := [(.ref t68)]) (rest := [(.ref b75)]) (lenOf pd_20 rfl) rfl (Nat.le_of_eq rfl) (hb hby at_93) (fun _ _ => ⟨rfl, e75, (by decide : 3 ≤ _), (by decide : 10 ≤ _)⟩)
      dsimp only [Pt.U, Pt.locs, Pt.cells, Pt.slots] at X76 l76 y76 z76 st76 hQ76
      subst l76 y76 z76
      obtain ⟨rfl, N76q, K76, Fc76, t76, kb76, zt76, Fv76, V76⟩ := hQ76
      have N76 := Fr.app N74 N76q
      have KK76 : Keep h0 T76.heap [] := Keep.trans K75 K76 (allS (Or.inr sz_b75) all0)
      have Sf76_b75 : Safe Z consts_1 s.vm T76.heap b75 := Safe.keep K76 (sfS Sf75_b75 sf0) C75.1 Sf75_b75
      have C76 : CHr Z consts_1 s.vm s.heap s.vm T76.heap := CHr.trans C75 (CHr.keep K76 (sfS Sf75_b75 sf0) C75.1)
      have sz_t76 : h0.size ≤ t76 := Nat.le_trans K75.1 zt76
      have g_t76 : n0 ≤ t76 := Nat.le_trans Z0 sz_t76
      refine bW T76 (mkF m 96 #[vi len, vi x1, vi x2, vi x3, vi x4, vi 3, vi c0, vi c1, vi c2, vi c3, vr t68, uu, uu] [(.ref b75)]) (fun _ k => st76.trans k) ?_
      refine bW T76 (mkF m 98 #[vi len, vi x1, vi x2, vi x3, vi x4, vi 3, vi c0, vi c1, vi c2, vi c3, vr t68, vr b75, uu] []) (fun _ k => XS.astore X76.here hx rfl (hb hby at_96) rfl rfl rfl k) ?_
      refine bW T76 (mkF m 100 #[vi len, vi x1, vi x2, vi x3, vi x4, vi 3, vi c0, vi c1, vi c2, vi c3, vr t68, vr b75, uu] [(.int (3 : Int32))]) (fun _ k => XS.iload X76.here hx rfl (hb hby at_98) rfl k) ?_
      refine bW T76 (mkF m 103 #[vi len, vi x1, vi x2, vi x3, vi x4, vi 3, vi c0, vi c1, vi c2, vi c3, vr t68, vr b75, uu] []) (fun _ k => XS.ifNo X76.here hx rfl (hb hby at_100) rfl ((if0 _ _).trans (tlt (by decide)).2.2.2) k) ?_
      refine bW T76 (mkF m 105 #[vi len, vi x1, vi x2, vi x3, vi x4, vi 3, vi c0, vi c1, vi c2, vi c3, vr t68, vr b75, uu] [(.int c0)]) (fun _ k => XS.iload X76.here hx rfl (hb hby at_103) rfl k) ?_
      refine bW T76 (mkF m 107 #[vi len, vi x1, vi x2, vi x3, vi x4, vi 3, vi c0, vi c1, vi c2, vi c3, vr t68, vr b75, uu] [(.int (65533 : Int32)), (.int c0)]) (fun _ k => ldcI X76 hx hown (mvT hZ (hw _ (mo 79 rfl))) rfl (hb hby at_105) k) ?_
      have J78 : ∀ (j77 : Int32) (hv_j77 : j77 = (if c0 = (65533 : Int32) then (1 : Int32) else (if c1 = (65533 : Int32) then (1 : Int32) else (if c2 = (65533 : Int32) then (1 : Int32) else (0 : Int32))))) (T79 : State) (_ : Stand p l e room_1 (s.setVm s.vm) m #[(.int len), (.int x1), (.int x2), (.int x3), (.int x4)] below meth c T79 ((((((((L21 ++ Lc22) ++ Lc23) ++ Lc24) ++ Lc68) ++ [⟨t68, ((0 : Int32)).toNatClampNeg⟩]) ++ [⟨t68, ((1 : Int32)).toNatClampNeg⟩]) ++ [⟨t68, ((2 : Int32)).toNatClampNeg⟩]) ++ Lc76) (((((((0 + 0) + 0) + 0) + 0) + 1) + 1) + 1) (((((((0 + 0) + 0) + 0) + 0) + 3) + 4) + 3)) (_ : T79.heap = T76.heap), own_GoW p.tables e below Z consts_1 (Q_rm0 Z len x1 x2 x3 x4 cs sf h0 n0) s 24 1152 T79 (mkF m 154 #[vi len, vi x1, vi x2, vi x3, vi x4, vi 3, vi c0, vi c1, vi c2, vi c3, vr t68, vr b75, uu] [(.int j77)]) := by
        intro j77 hv_j77 T79 X79 e79
        refine bW T79 (mkF m 156 #[vi len, vi x1, vi x2, vi x3, vi x4, vi 3, vi c0, vi c1, vi c2, vi c3, vr t68, vr b75, vi j77] []) (fun _ k => XS.istore X79.here hx rfl (hb hby at_154) rfl rfl k) ?_
        refine bW T79 (mkF m 158 #[vi len, vi x1, vi x2, vi x3, vi x4, vi 3, vi c0, vi c1, vi c2, vi c3, vr t68, vr b75, vi j77] [(.ref b75)]) (fun _ k => XS.aload X79.here hx rfl (hb hby at_156) rfl rfl k) ?_
        obtain ⟨_, _, ⟨T80, L80, k80, n80⟩, -, X80, ⟨Lc80, hQ80, l80, y80, z80⟩, st80⟩ := Jvm.LawKit.callS X79 hx (y := yy27) hown (mvT hZ (hw _ (mo 31 rfl))) (mvT hZ (hw _ (mo 32 rfl))) (mvT hZ (hw _ (mo 33 rfl))) (mvT hZ (hw _ (mo 34 rfl))) (by decide) (backOf (W := 0) (hub_l_0 l Z a0 hw [] b75 t76 kb76 cs (3 : Int32) [(.int (nar .byte (c0.toInt8.toInt32))), (.int (nar .byte (c1.toInt8.toInt32))), (.int (nar .byte (c2.toInt8.toInt32)))] T76.heap n0 (Nat.le_trans (Nat.le_trans (Nat.le_trans (Nat.le_trans (Nat.le_trans (Nat.le_trans Z0 K68.1) (Keep.of_wr W70).1) (Keep.of_wr W72).1) (Keep.of_wr W74).1) E75.1) K76.1) (Exa.keep E_b75 K76) Fc76 Fv76 V76 (Sta.ext ((Old.keep (Old.ext (Old.wr (Old.wr (Old.wr (Old.keep O0 K68 all0) W70 g_t68) W72 g_t68) W74 g_t68) E75) K76 (allS g_b75 all0))).2 S_CS) hcs) hZ (hw _ (mo 34 rfl)) (hw _ (mo 33 rfl)) (by decide) (by decide)) (g := (mkF m 158 #[vi len, vi x1, vi x2, vi x3, vi x4, vi 3, vi c0, vi c1, vi c2, vi c3, vr t68, vr b75, vi j77] [(.ref b75)])) rfl (by rw [hml]; rfl) (argsL := [(.ref b75)]) (rest := []) (lenOf pd_21 rfl) rfl (Nat.le_of_eq rfl) (hb hby at_158) (fun _ _ => ⟨rfl, e79, (by decide : 3 ≤ _), (by decide : 10 ≤ _)⟩)
        dsimp only [Pt.U, Pt.locs, Pt.cells, Pt.slots] at X80 l80 y80 z80 st80 hQ80
        subst l80 y80 z80
        obtain ⟨rfl, N80q, e80⟩ := hQ80
        have N80 := Fr.app N76 N80q
        refine bW T80 (mkF m 161 #[vi len, vi x1, vi x2, vi x3, vi x4, vi 3, vi c0, vi c1, vi c2, vi c3, vr t68, vr b75, vi j77] [(ii 0)]) (fun _ k => st80 _ k) ?_
        refine bW T80 (mkF m 163 #[vi len, vi x1, vi x2, vi x3, vi x4, vi 3, vi c0, vi c1, vi c2, vi c3, vr t68, vr b75, vi j77] [(.int j77), (ii 0)]) (fun _ k => XS.iload X80.here hx rfl (hb hby at_161) rfl k) ?_
        refine bW T80 (mkF m 166 #[vi len, vi x1, vi x2, vi x3, vi x4, vi 3, vi c0, vi c1, vi c2, vi c3, vr t68, vr b75, vi j77] []) (fun _ k => XS.icmpNo X80.here hx rfl (hb hby at_163) rfl (teq (by rw [hv_j77]; exact own_g3 hc0 hc1 hc2)).2 k) ?_
        refine bW T80 (mkF m 167 #[vi len, vi x1, vi x2, vi x3, vi x4, vi 3, vi c0, vi c1, vi c2, vi c3, vr t68, vr b75, vi j77] [(.int (1 : Int32))]) (fun _ k => XS.iconst X80.here hx rfl (hb hby at_166) k) ?_
        refine bW T80 (mkF m 171 #[vi len, vi x1, vi x2, vi x3, vi x4, vi 3, vi c0, vi c1, vi c2, vi c3, vr t68, vr b75, vi j77] [(.int (1 : Int32))]) (fun _ k => XS.goto X80.here hx rfl (pc0 := 167) (pc' := 171) rfl (hb hby at_167) (by decide) (by decide) k) ?_
        refine own_retW (s := s) X80 hlk hS0 (by rw [e80]; exact (Nat.le_trans (Nat.le_trans (Nat.le_trans (Nat.le_trans (Nat.le_trans (Nat.le_trans hk0 K68.1) (Keep.of_wr W70).1) (Keep.of_wr W72).1) (Keep.of_wr W74).1) E75.1) K76.1)) hZ hEL C76 e80 (v := some (.int (1 : Int32))) (nvr Bd.returns) (fun fs hr => retN X80 hx (t := .boolean) Bd.returns (by simp) (hb hby at_171) hr) ?_ (by decide) (by decide)
        rw [e80]
        exact ⟨rfl, N80⟩
      by_cases hc107_81 : c0 = (65533 : Int32)
      · skip
        refine bW T76 (mkF m 149 #[vi len, vi x1, vi x2, vi x3, vi x4, vi 3, vi c0, vi c1, vi c2, vi c3, vr t68, vr b75, uu] []) (fun _ k => XS.icmpYes X76.here hx rfl (pc0 := 107) (pc' := 149) rfl (hb hby at_107) rfl (teq hc107_81).1 (by decide) (by decide) k) ?_
        refine bW T76 (mkF m 150 #[vi len, vi x1, vi x2, vi x3, vi x4, vi 3, vi c0, vi c1, vi c2, vi c3, vr t68, vr b75, uu] [(.int (1 : Int32))]) (fun _ k => XS.iconst X76.here hx rfl (hb hby at_149) k) ?_
        refine bW T76 (mkF m 154 #[vi len, vi x1, vi x2, vi x3, vi x4, vi 3, vi c0, vi c1, vi c2, vi c3, vr t68, vr b75, uu] [(.int (1 : Int32))]) (fun _ k => XS.goto X76.here hx rfl (pc0 := 150) (pc' := 154) rfl (hb hby at_150) (by decide) (by decide) k) ?_
        exact J78 _ (if_pos hc107_81).symm T76 X76 rfl
      · skip
        refine bW T76 (mkF m 110 #[vi len, vi x1, vi x2, vi x3, vi x4, vi 3, vi c0, vi c1, vi c2, vi c3, vr t68, vr b75, uu] []) (fun _ k => XS.icmpNo X76.here hx rfl (hb hby at_107) rfl (feq hc107_81).1 k) ?_
        refine bW T76 (mkF m 112 #[vi len, vi x1, vi x2, vi x3, vi x4, vi 3, vi c0, vi c1, vi c2, vi c3, vr t68, vr b75, uu] [(.int (3 : Int32))]) (fun _ k => XS.iload X76.here hx rfl (hb hby at_110) rfl k) ?_
        refine bW T76 (mkF m 113 #[vi len, vi x1, vi x2, vi x3, vi x4, vi 3, vi c0, vi c1, vi c2, vi c3, vr t68, vr b75, uu] [(.int (1 : Int32)), (.int (3 : Int32))]) (fun _ k => XS.iconst X76.here hx rfl (hb hby at_112) k) ?_
        refine bW T76 (mkF m 116 #[vi len, vi x1, vi x2, vi x3, vi x4, vi 3, vi c0, vi c1, vi c2, vi c3, vr t68, vr b75, uu] []) (fun _ k => XS.icmpNo X76.here hx rfl (hb hby at_113) rfl (tlt (by decide)).2.2.2 k) ?_
        refine bW T76 (mkF m 118 #[vi len, vi x1, vi x2, vi x3, vi x4, vi 3, vi c0, vi c1, vi c2, vi c3, vr t68, vr b75, uu] [(.int c1)]) (fun _ k => XS.iload X76.here hx rfl (hb hby at_116) rfl k) ?_
        refine bW T76 (mkF m 120 #[vi len, vi x1, vi x2, vi x3, vi x4, vi 3, vi c0, vi c1, vi c2, vi c3, vr t68, vr b75, uu] [(.int (65533 : Int32)), (.int c1)]) (fun _ k => ldcI X76 hx hown (mvT hZ (hw _ (mo 79 rfl))) rfl (hb hby at_118) k) ?_
        by_cases hc120_82 : c1 = (65533 : Int32)
        · skip
          refine bW T76 (mkF m 149 #[vi len, vi x1, vi x2, vi x3, vi x4, vi 3, vi c0, vi c1, vi c2, vi c3, vr t68, vr b75, uu] []) (fun _ k => XS.icmpYes X76.here hx rfl (pc0 := 120) (pc' := 149) rfl (hb hby at_120) rfl (teq hc120_82).1 (by decide) (by decide) k) ?_
          refine bW T76 (mkF m 150 #[vi len, vi x1, vi x2, vi x3, vi x4, vi 3, vi c0, vi c1, vi c2, vi c3, vr t68, vr b75, uu] [(.int (1 : Int32))]) (fun _ k => XS.iconst X76.here hx rfl (hb hby at_149) k) ?_
          refine bW T76 (mkF m 154 #[vi len, vi x1, vi x2, vi x3, vi x4, vi 3, vi c0, vi c1, vi c2, vi c3, vr t68, vr b75, uu] [(.int (1 : Int32))]) (fun _ k => XS.goto X76.here hx rfl (pc0 := 150) (pc' := 154) rfl (hb hby at_150) (by decide) (by decide) k) ?_
          exact J78 _ ((if_neg hc107_81).trans (if_pos hc120_82)).symm T76 X76 rfl
        · skip
          refine bW T76 (mkF m 123 #[vi len, vi x1, vi x2, vi x3, vi x4, vi 3, vi c0, vi c1, vi c2, vi c3, vr t68, vr b75, uu] []) (fun _ k => XS.icmpNo X76.here hx rfl (hb hby at_120) rfl (feq hc120_82).1 k) ?_
          refine bW T76 (mkF m 125 #[vi len, vi x1, vi x2, vi x3, vi x4, vi 3, vi c0, vi c1, vi c2, vi c3, vr t68, vr b75, uu] [(.int (3 : Int32))]) (fun _ k => XS.iload X76.here hx rfl (hb hby at_123) rfl k) ?_
          refine bW T76 (mkF m 126 #[vi len, vi x1, vi x2, vi x3, vi x4, vi 3, vi c0, vi c1, vi c2, vi c3, vr t68, vr b75, uu] [(.int (2 : Int32)), (.int (3 : Int32))]) (fun _ k => XS.iconst X76.here hx rfl (hb hby at_125) k) ?_
          refine bW T76 (mkF m 129 #[vi len, vi x1, vi x2, vi x3, vi x4, vi 3, vi c0, vi c1, vi c2, vi c3, vr t68, vr b75, uu] []) (fun _ k => XS.icmpNo X76.here hx rfl (hb hby at_126) rfl (tlt (by decide)).2.2.2 k) ?_
          refine bW T76 (mkF m 131 #[vi len, vi x1, vi x2, vi x3, vi x4, vi 3, vi c0, vi c1, vi c2, vi c3, vr t68, vr b75, uu] [(.int c2)]) (fun _ k => XS.iload X76.here hx rfl (hb hby at_129) rfl k) ?_
          refine bW T76 (mkF m 133 #[vi len, vi x1, vi x2, vi x3, vi x4, vi 3, vi c0, vi c1, vi c2, vi c3, vr t68, vr b75, uu] [(.int (65533 : Int32)), (.int c2)]) (fun _ k => ldcI X76 hx hown (mvT hZ (hw _ (mo 79 rfl))) rfl (hb hby at_131) k) ?_
          by_cases hc133_83 : c2 = (65533 : Int32)
          · skip
            refine bW T76 (mkF m 149 #[vi len, vi x1, vi x2, vi x3, vi x4, vi 3, vi c0, vi c1, vi c2, vi c3, vr t68, vr b75, uu] []) (fun _ k => XS.icmpYes X76.here hx rfl (pc0 := 133) (pc' := 149) rfl (hb hby at_133) rfl (teq hc133_83).1 (by decide) (by decide) k) ?_
            refine bW T76 (mkF m 150 #[vi len, vi x1, vi x2, vi x3, vi x4, vi 3, vi c0, vi c1, vi c2, vi c3, vr t68, vr b75, uu] [(.int (1 : Int32))]) (fun _ k => XS.iconst X76.here hx rfl (hb hby at_149) k) ?_
            refine bW T76 (mkF m 154 #[vi len, vi x1, vi x2, vi x3, vi x4, vi 3, vi c0, vi c1, vi c2, vi c3, vr t68, vr b75, uu] [(.int (1 : Int32))]) (fun _ k => XS.goto X76.here hx rfl (pc0 := 150) (pc' := 154) rfl (hb hby at_150) (by decide) (by decide) k) ?_
            exact J78 _ (((if_neg hc107_81).trans (if_neg hc120_82)).trans (if_pos hc133_83)).symm T76 X76 rfl
          · skip
            refine bW T76 (mkF m 136 #[vi len, vi x1, vi x2, vi x3, vi x4, vi 3, vi c0, vi c1, vi c2, vi c3, vr t68, vr b75, uu] []) (fun _ k => XS.icmpNo X76.here hx rfl (hb hby at_133) rfl (feq hc133_83).1 k) ?_
            refine bW T76 (mkF m 138 #[vi len, vi x1, vi x2, vi x3, vi x4, vi 3, vi c0, vi c1, vi c2, vi c3, vr t68, vr b75, uu] [(.int (3 : Int32))]) (fun _ k => XS.iload X76.here hx rfl (hb hby at_136) rfl k) ?_
            refine bW T76 (mkF m 139 #[vi len, vi x1, vi x2, vi x3, vi x4, vi 3, vi c0, vi c1, vi c2, vi c3, vr t68, vr b75, uu] [(.int (3 : Int32)), (.int (3 : Int32))]) (fun _ k => XS.iconst X76.here hx rfl (hb hby at_138) k) ?_
            refine bW T76 (mkF m 153 #[vi len, vi x1, vi x2, vi x3, vi x4, vi 3, vi c0, vi c1, vi c2, vi c3, vr t68, vr b75, uu] []) (fun _ k => XS.icmpYes X76.here hx rfl (pc0 := 139) (pc' := 153) rfl (hb hby at_139) rfl (flt (by decide)).2.2.2 (by decide) (by decide) k) ?_
            refine bW T76 (mkF m 154 #[vi len, vi x1, vi x2, vi x3, vi x4, vi 3, vi c0, vi c1, vi c2, vi c3, vr t68, vr b75, uu] [(ii 0)]) (fun _ k => XS.iconst X76.here hx rfl (hb hby at_153) k) ?_
            exact J78 _ (((if_neg hc107_81).trans (if_neg hc120_82)).trans (if_neg hc133_83)).symm T76 X76 rfl
    · skip
      obtain ⟨T84, h84, X84, e84, E84, A84, D84, -, st84⟩ := newO X74 hx hZ hown (hw _ (mo 10 rfl)) (hw _ (mo 11 rfl)) (hw _ (mo 12 rfl)) e74 (g := (mkF m 87 #[vi len, vi x1, vi x2, vi x3, vi x4, vi 3, vi c0, vi c1, vi c2, vi c3, vr t68, uu, uu] [])) rfl (hb hby at_87) (by decide) (by decide)
      obtain ⟨b84, g84⟩ : ∃ z, z = h74.size := ⟨_, rfl⟩
      rw [← g84] at A84 D84 st84
      have E_b84 : Exa Z h84 b84 "java/lang/String" := A84
      have F_value_b84 : Fld Z h84 b84 "java/lang/String" "value" "[B" .null := D84 (Or.inr (hw _ (mo 25 rfl))) (ty := (.array .byte)) (by decide)
      have F_coder_b84 : Fld Z h84 b84 "java/lang/String" "coder" "B" (ii 0) := D84 (Or.inr (hw _ (mo 26 rfl))) (ty := .byte) (by decide)
      have g_b84 : n0 ≤ b84 := Nat.le_trans (Nat.le_trans (Nat.le_trans (Nat.le_trans (Nat.le_trans Z0 K68.1) (Keep.of_wr W70).1) (Keep.of_wr W72).1) (Keep.of_wr W74).1) (Nat.le_of_eq g84.symm)
      have sz_b84 : h0.size ≤ b84 := Nat.le_trans K74.1 (Nat.le_of_eq g84.symm)
      have K84 : Keep h0 h84 [] := Keep.ext K74 E84
      have Sf84_b84 : Safe Z consts_1 s.vm h84 b84 := Safe.ext E84 C74.1 (Safe.new (Nat.le_of_eq g84.symm))
      have C84 : CHr Z consts_1 s.vm s.heap s.vm h84 := CHr.trans C74 (CHr.ext E84 C74.1)
      refine bW T84 (mkF m 90 #[vi len, vi x1, vi x2, vi x3, vi x4, vi 3, vi c0, vi c1, vi c2, vi c3, vr t68, uu, uu] [(.ref b84)]) (fun _ k => st84 _ k) ?_
      refine bW T84 (mkF m 91 #[vi len, vi x1, vi x2, vi x3, vi x4, vi 3, vi c0, vi c1, vi c2, vi c3, vr t68, uu, uu] [(.ref b84), (.ref b84)]) (fun _ k => XS.dup X84.here hx rfl (hb hby at_90) rfl rfl k) ?_
      refine bW T84 (mkF m 93 #[vi len, vi x1, vi x2, vi x3, vi x4, vi 3, vi c0, vi c1, vi c2, vi c3, vr t68, uu, uu] [(.ref t68), (.ref b84), (.ref b84)]) (fun _ k => XS.aload X84.here hx rfl (hb hby at_91) rfl rfl k) ?_
      obtain ⟨_, _, ⟨T85, L85, k85, n85⟩, -, X85, ⟨Lc85, hQ85, l85, y85, z85⟩, st85⟩ := X84.specialBack hx (y := yy6) rfl hown (mvT hZ (hw _ (mo 13 rfl))) (mvT hZ (hw _ (mo 14 rfl))) (mvT hZ (hw _ (mo 15 rfl))) (by decide) (backOf (W := 1) (siu1_3 l Z a0 hw [] b84 t68 kb68 cs c0 c1 c2 h84 n0 (Nat.le_trans (Nat.le_trans (Nat.le_trans (Nat.le_trans (Nat.le_trans Z0 K68.1) (Keep.of_wr W70).1) (Keep.of_wr W72).1) (Keep.of_wr W74).1) E84.1) E_b84 F_value_b84 F_coder_b84 g_b84 (Arv.ext VC E84) (Sta.ext ((Old.ext (Old.wr (Old.wr (Old.wr (Old.keep O0 K68 all0) W70 g_t68) W72 g_t68) W74 g_t68) E84)).2 S_CS) hcs (Old.ext (Old.wr (Old.wr (Old.wr (Old.keep O0 K68 all0) W70 g_t68) W72 g_t68) W74 g_t68) E84) S_AD S_HI S_LO hr0 hr1 hr2 hU) hZ (hw _ (mo 15 rfl)) (hw _ (mo 12 rfl)) (by decide) (by decide)) (g := (mkF m 93 #[vi len, vi x1, vi x2, vi x3, vi x4, vi 3, vi c0, vi c1, vi c2, vi c3, vr t68, uu, uu] [(.ref t68), (.ref b84), (.ref b84)])) rfl (by rw [hml]; rfl) (Steps.refl _) (a := b84) (argsL := [(.ref t68)]) (rest := [(.ref b84)]) (lenOf pd_20 rfl) rfl (Nat.le_of_eq rfl) (hb hby at_93) (fun _ _ => ⟨rfl, e84, (by decide : 4 ≤ _), (by decide : 16 ≤ _)⟩)
      dsimp only [Pt.U, Pt.locs, Pt.cells, Pt.slots] at X85 l85 y85 z85 st85 hQ85
      subst l85 y85 z85
      obtain ⟨rfl, N85q, K85, Fc85, t85, kb85, zt85, Fv85, V85⟩ := hQ85
      have N85 := Fr.app N74 N85q
      have KK85 : Keep h0 T85.heap [] := Keep.trans K84 K85 (allS (Or.inr sz_b84) all0)
      have Sf85_b84 : Safe Z consts_1 s.vm T85.heap b84 := Safe.keep K85 (sfS Sf84_b84 sf0) C84.1 Sf84_b84
      have C85 : CHr Z consts_1 s.vm s.heap s.vm T85.heap := CHr.trans C84 (CHr.keep K85 (sfS Sf84_b84 sf0) C84.1)
      have sz_t85 : h0.size ≤ t85 := Nat.le_trans K84.1 zt85
      have g_t85 : n0 ≤ t85 := Nat.le_trans Z0 sz_t85
      refine bW T85 (mkF m 96 #[vi len, vi x1, vi x2, vi x3, vi x4, vi 3, vi c0, vi c1, vi c2, vi c3, vr t68, uu, uu] [(.ref b84)]) (fun _ k => st85.trans k) ?_
      refine bW T85 (mkF m 98 #[vi len, vi x1, vi x2, vi x3, vi x4, vi 3, vi c0, vi c1, vi c2, vi c3, vr t68, vr b84, uu] []) (fun _ k => XS.astore X85.here hx rfl (hb hby at_96) rfl rfl rfl k) ?_
      refine bW T85 (mkF m 100 #[vi len, vi x1, vi x2, vi x3, vi x4, vi 3, vi c0, vi c1, vi c2, vi c3, vr t68, vr b84, uu] [(.int (3 : Int32))]) (fun _ k => XS.iload X85.here hx rfl (hb hby at_98) rfl k) ?_
      refine bW T85 (mkF m 103 #[vi len, vi x1, vi x2, vi x3, vi x4, vi 3, vi c0, vi c1, vi c2, vi c3, vr t68, vr b84, uu] []) (fun _ k => XS.ifNo X85.here hx rfl (hb hby at_100) rfl ((if0 _ _).trans (tlt (by decide)).2.2.2) k) ?_
      refine bW T85 (mkF m 105 #[vi len, vi x1, vi x2, vi x3, vi x4, vi 3, vi c0, vi c1, vi c2, vi c3, vr t68, vr b84, uu] [(.int c0)]) (fun _ k => XS.iload X85.here hx rfl (hb hby at_103) rfl k) ?_
      refine bW T85 (mkF m 107 #[vi len, vi x1, vi x2, vi x3, vi x4, vi 3, vi c0, vi c1, vi c2, vi c3, vr t68, vr b84, uu] [(.int (65533 : Int32)), (.int c0)]) (fun _ k => ldcI X85 hx hown (mvT hZ (hw _ (mo 79 rfl))) rfl (hb hby at_105) k) ?_
      have J87 : ∀ (j86 : Int32) (hv_j86 : j86 = (if c0 = (65533 : Int32) then (1 : Int32) else (if c1 = (65533 : Int32) then (1 : Int32) else (if c2 = (65533 : Int32) then (1 : Int32) else (0 : Int32))))) (T88 : State) (_ : Stand p l e room_1 (s.setVm s.vm) m #[(.int len), (.int x1), (.int x2), (.int x3), (.int x4)] below meth c T88 ((((((((L21 ++ Lc22) ++ Lc23) ++ Lc24) ++ Lc68) ++ [⟨t68, ((0 : Int32)).toNatClampNeg⟩]) ++ [⟨t68, ((1 : Int32)).toNatClampNeg⟩]) ++ [⟨t68, ((2 : Int32)).toNatClampNeg⟩]) ++ Lc85) (((((((0 + 0) + 0) + 0) + 0) + 1) + 1) + 2) (((((((0 + 0) + 0) + 0) + 0) + 3) + 4) + 9)) (_ : T88.heap = T85.heap), own_GoW p.tables e below Z consts_1 (Q_rm0 Z len x1 x2 x3 x4 cs sf h0 n0) s 24 1152 T88 (mkF m 154 #[vi len, vi x1, vi x2, vi x3, vi x4, vi 3, vi c0, vi c1, vi c2, vi c3, vr t68, vr b84, uu] [(.int j86)]) := by
        intro j86 hv_j86 T88 X88 e88
        refine bW T88 (mkF m 156 #[vi len, vi x1, vi x2, vi x3, vi x4, vi 3, vi c0, vi c1, vi c2, vi c3, vr t68, vr b84, vi j86] []) (fun _ k => XS.istore X88.here hx rfl (hb hby at_154) rfl rfl k) ?_
        refine bW T88 (mkF m 158 #[vi len, vi x1, vi x2, vi x3, vi x4, vi 3, vi c0, vi c1, vi c2, vi c3, vr t68, vr b84, vi j86] [(.ref b84)]) (fun _ k => XS.aload X88.here hx rfl (hb hby at_156) rfl rfl k) ?_
        obtain ⟨_, _, ⟨T89, L89, k89, n89⟩, -, X89, ⟨Lc89, hQ89, l89, y89, z89⟩, st89⟩ := Jvm.LawKit.callS X88 hx (y := yy27) hown (mvT hZ (hw _ (mo 31 rfl))) (mvT hZ (hw _ (mo 32 rfl))) (mvT hZ (hw _ (mo 33 rfl))) (mvT hZ (hw _ (mo 34 rfl))) (by decide) (backOf (W := 0) (hub_u_3 l Z a0 hw [] b84 t85 kb85 cs c0 c1 c2 sf T85.heap n0 (Nat.le_trans (Nat.le_trans (Nat.le_trans (Nat.le_trans (Nat.le_trans (Nat.le_trans Z0 K68.1) (Keep.of_wr W70).1) (Keep.of_wr W72).1) (Keep.of_wr W74).1) E84.1) K85.1) (Exa.keep E_b84 K85) Fc85 Fv85 V85 (Sta.ext ((Old.keep (Old.ext (Old.wr (Old.wr (Old.wr (Old.keep O0 K68 all0) W70 g_t68) W72 g_t68) W74 g_t68) E84) K85 (allS g_b84 all0))).2 S_CS) hcs (Sta.ext ((Old.keep (Old.ext (Old.wr (Old.wr (Old.wr (Old.keep O0 K68 all0) W70 g_t68) W72 g_t68) W74 g_t68) E84) K85 (allS g_b84 all0))).2 S_AD) (Sta.ext ((Old.keep (Old.ext (Old.wr (Old.wr (Old.wr (Old.keep O0 K68 all0) W70 g_t68) W72 g_t68) W74 g_t68) E84) K85 (allS g_b84 all0))).2 S_HI) (Sta.ext ((Old.keep (Old.ext (Old.wr (Old.wr (Old.wr (Old.keep O0 K68 all0) W70 g_t68) W72 g_t68) W74 g_t68) E84) K85 (allS g_b84 all0))).2 S_LO) hsf (Sta.ext ((Old.keep (Old.ext (Old.wr (Old.wr (Old.wr (Old.keep O0 K68 all0) W70 g_t68) W72 g_t68) W74 g_t68) E84) K85 (allS g_b84 all0))).2 S_SF) hr0 hr1 hr2) hZ (hw _ (mo 34 rfl)) (hw _ (mo 33 rfl)) (by decide) (by decide)) (g := (mkF m 158 #[vi len, vi x1, vi x2, vi x3, vi x4, vi 3, vi c0, vi c1, vi c2, vi c3, vr t68, vr b84, vi j86] [(.ref b84)])) rfl (by rw [hml]; rfl) (argsL := [(.ref b84)]) (rest := []) (lenOf pd_21 rfl) rfl (Nat.le_of_eq rfl) (hb hby at_158) (fun _ _ => ⟨rfl, e88, (by decide : 4 ≤ _), (by decide : 16 ≤ _)⟩)
        dsimp only [Pt.U, Pt.locs, Pt.cells, Pt.slots] at X89 l89 y89 z89 st89 hQ89
        subst l89 y89 z89
        obtain ⟨rfl, N89q, e89⟩ := hQ89
        have N89 := Fr.app N85 N89q
        refine bW T89 (mkF m 161 #[vi len, vi x1, vi x2, vi x3, vi x4, vi 3, vi c0, vi c1, vi c2, vi c3, vr t68, vr b84, vi j86] [(.int (if (own_i3 c0 c1 c2) < (0 : Int32) then (0 : Int32) else (1 : Int32)))]) (fun _ k => st89 _ k) ?_
        refine bW T89 (mkF m 163 #[vi len, vi x1, vi x2, vi x3, vi x4, vi 3, vi c0, vi c1, vi c2, vi c3, vr t68, vr b84, vi j86] [(.int j86), (.int (if (own_i3 c0 c1 c2) < (0 : Int32) then (0 : Int32) else (1 : Int32)))]) (fun _ k => XS.iload X89.here hx rfl (hb hby at_161) rfl k) ?_
        refine bW T89 (mkF m 166 #[vi len, vi x1, vi x2, vi x3, vi x4, vi 3, vi c0, vi c1, vi c2, vi c3, vr t68, vr b84, vi j86] []) (fun _ k => XS.icmpNo X89.here hx rfl (hb hby at_163) rfl (teq (by rw [hv_j86]; exact own_f3 c0 c1 c2)).2 k) ?_
        refine bW T89 (mkF m 167 #[vi len, vi x1, vi x2, vi x3, vi x4, vi 3, vi c0, vi c1, vi c2, vi c3, vr t68, vr b84, vi j86] [(.int (1 : Int32))]) (fun _ k => XS.iconst X89.here hx rfl (hb hby at_166) k) ?_
        refine bW T89 (mkF m 171 #[vi len, vi x1, vi x2, vi x3, vi x4, vi 3, vi c0, vi c1, vi c2, vi c3, vr t68, vr b84, vi j86] [(.int (1 : Int32))]) (fun _ k => XS.goto X89.here hx rfl (pc0 := 167) (pc' := 171) rfl (hb hby at_167) (by decide) (by decide) k) ?_
        refine own_retW (s := s) X89 hlk hS0 (by rw [e89]; exact (Nat.le_trans (Nat.le_trans (Nat.le_trans (Nat.le_trans (Nat.le_trans (Nat.le_trans hk0 K68.1) (Keep.of_wr W70).1) (Keep.of_wr W72).1) (Keep.of_wr W74).1) E84.1) K85.1)) hZ hEL C85 e89 (v := some (.int (1 : Int32))) (nvr Bd.returns) (fun fs hr => retN X89 hx (t := .boolean) Bd.returns (by simp) (hb hby at_171) hr) ?_ (by decide) (by decide)
        rw [e89]
        exact ⟨rfl, N89⟩
      by_cases hc107_90 : c0 = (65533 : Int32)
      · skip
        refine bW T85 (mkF m 149 #[vi len, vi x1, vi x2, vi x3, vi x4, vi 3, vi c0, vi c1, vi c2, vi c3, vr t68, vr b84, uu] []) (fun _ k => XS.icmpYes X85.here hx rfl (pc0 := 107) (pc' := 149) rfl (hb hby at_107) rfl (teq hc107_90).1 (by decide) (by decide) k) ?_
        refine bW T85 (mkF m 150 #[vi len, vi x1, vi x2, vi x3, vi x4, vi 3, vi c0, vi c1, vi c2, vi c3, vr t68, vr b84, uu] [(.int (1 : Int32))]) (fun _ k => XS.iconst X85.here hx rfl (hb hby at_149) k) ?_
        refine bW T85 (mkF m 154 #[vi len, vi x1, vi x2, vi x3, vi x4, vi 3, vi c0, vi c1, vi c2, vi c3, vr t68, vr b84, uu] [(.int (1 : Int32))]) (fun _ k => XS.goto X85.here hx rfl (pc0 := 150) (pc' := 154) rfl (hb hby at_150) (by decide) (by decide) k) ?_
        exact J87 _ (if_pos hc107_90).symm T85 X85 rfl
      · skip
        refine bW T85 (mkF m 110 #[vi len, vi x1, vi x2, vi x3, vi x4, vi 3, vi c0, vi c1, vi c2, vi c3, vr t68, vr b84, uu] []) (fun _ k => XS.icmpNo X85.here hx rfl (hb hby at_107) rfl (feq hc107_90).1 k) ?_
        refine bW T85 (mkF m 112 #[vi len, vi x1, vi x2, vi x3, vi x4, vi 3, vi c0, vi c1, vi c2, vi c3, vr t68, vr b84, uu] [(.int (3 : Int32))]) (fun _ k => XS.iload X85.here hx rfl (hb hby at_110) rfl k) ?_
        refine bW T85 (mkF m 113 #[vi len, vi x1, vi x2, vi x3, vi x4, vi 3, vi c0, vi c1, vi c2, vi c3, vr t68, vr b84, uu] [(.int (1 : Int32)), (.int (3 : Int32))]) (fun _ k => XS.iconst X85.here hx rfl (hb hby at_112) k) ?_
        refine bW T85 (mkF m 116 #[vi len, vi x1, vi x2, vi x3, vi x4, vi 3, vi c0, vi c1, vi c2, vi c3, vr t68, vr b84, uu] []) (fun _ k => XS.icmpNo X85.here hx rfl (hb hby at_113) rfl (tlt (by decide)).2.2.2 k) ?_
        refine bW T85 (mkF m 118 #[vi len, vi x1, vi x2, vi x3, vi x4, vi 3, vi c0, vi c1, vi c2, vi c3, vr t68, vr b84, uu] [(.int c1)]) (fun _ k => XS.iload X85.here hx rfl (hb hby at_116) rfl k) ?_
        refine bW T85 (mkF m 120 #[vi len, vi x1, vi x2, vi x3, vi x4, vi 3, vi c0, vi c1, vi c2, vi c3, vr t68, vr b84, uu] [(.int (65533 : Int32)), (.int c1)]) (fun _ k => ldcI X85 hx hown (mvT hZ (hw _ (mo 79 rfl))) rfl (hb hby at_118) k) ?_
        by_cases hc120_91 : c1 = (65533 : Int32)
        · skip
          refine bW T85 (mkF m 149 #[vi len, vi x1, vi x2, vi x3, vi x4, vi 3, vi c0, vi c1, vi c2, vi c3, vr t68, vr b84, uu] []) (fun _ k => XS.icmpYes X85.here hx rfl (pc0 := 120) (pc' := 149) rfl (hb hby at_120) rfl (teq hc120_91).1 (by decide) (by decide) k) ?_
          refine bW T85 (mkF m 150 #[vi len, vi x1, vi x2, vi x3, vi x4, vi 3, vi c0, vi c1, vi c2, vi c3, vr t68, vr b84, uu] [(.int (1 : Int32))]) (fun _ k => XS.iconst X85.here hx rfl (hb hby at_149) k) ?_
          refine bW T85 (mkF m 154 #[vi len, vi x1, vi x2, vi x3, vi x4, vi 3, vi c0, vi c1, vi c2, vi c3, vr t68, vr b84, uu] [(.int (1 : Int32))]) (fun _ k => XS.goto X85.here hx rfl (pc0 := 150) (pc' := 154) rfl (hb hby at_150) (by decide) (by decide) k) ?_
          exact J87 _ ((if_neg hc107_90).trans (if_pos hc120_91)).symm T85 X85 rfl
        · skip
          refine bW T85 (mkF m 123 #[vi len, vi x1, vi x2, vi x3, vi x4, vi 3, vi c0, vi c1, vi c2, vi c3, vr t68, vr b84, uu] []) (fun _ k => XS.icmpNo X85.here hx rfl (hb hby at_120) rfl (feq hc120_91).1 k) ?_
          refine bW T85 (mkF m 125 #[vi len, vi x1, vi x2, vi x3, vi x4, vi 3, vi c0, vi c1, vi c2, vi c3, vr t68, vr b84, uu] [(.int (3 : Int32))]) (fun _ k => XS.iload X85.here hx rfl (hb hby at_123) rfl k) ?_
          refine bW T85 (mkF m 126 #[vi len, vi x1, vi x2, vi x3, vi x4, vi 3, vi c0, vi c1, vi c2, vi c3, vr t68, vr b84, uu] [(.int (2 : Int32)), (.int (3 : Int32))]) (fun _ k => XS.iconst X85.here hx rfl (hb hby at_125) k) ?_
          refine bW T85 (mkF m 129 #[vi len, vi x1, vi x2, vi x3, vi x4, vi 3, vi c0, vi c1, vi c2, vi c3, vr t68, vr b84, uu] []) (fun _ k => XS.icmpNo X85.here hx rfl (hb hby at_126) rfl (tlt (by decide)).2.2.2 k) ?_
          refine bW T85 (mkF m 131 #[vi len, vi x1, vi x2, vi x3, vi x4, vi 3, vi c0, vi c1, vi c2, vi c3, vr t68, vr b84, uu] [(.int c2)]) (fun _ k => XS.iload X85.here hx rfl (hb hby at_129) rfl k) ?_
          refine bW T85 (mkF m 133 #[vi len, vi x1, vi x2, vi x3, vi x4, vi 3, vi c0, vi c1, vi c2, vi c3, vr t68, vr b84, uu] [(.int (65533 : Int32)), (.int c2)]) (fun _ k => ldcI X85 hx hown (mvT hZ (hw _ (mo 79 rfl))) rfl (hb hby at_131) k) ?_
          by_cases hc133_92 : c2 = (65533 : Int32)
          · skip
            refine bW T85 (mkF m 149 #[vi len, vi x1, vi x2, vi x3, vi x4, vi 3, vi c0, vi c1, vi c2, vi c3, vr t68, vr b84, uu] []) (fun _ k => XS.icmpYes X85.here hx rfl (pc0 := 133) (pc' := 149) rfl (hb hby at_133) rfl (teq hc133_92).1 (by decide) (by decide) k) ?_
            refine bW T85 (mkF m 150 #[vi len, vi x1, vi x2, vi x3, vi x4, vi 3, vi c0, vi c1, vi c2, vi c3, vr t68, vr b84, uu] [(.int (1 : Int32))]) (fun _ k => XS.iconst X85.here hx rfl (hb hby at_149) k) ?_
            refine bW T85 (mkF m 154 #[vi len, vi x1, vi x2, vi x3, vi x4, vi 3, vi c0, vi c1, vi c2, vi c3, vr t68, vr b84, uu] [(.int (1 : Int32))]) (fun _ k => XS.goto X85.here hx rfl (pc0 := 150) (pc' := 154) rfl (hb hby at_150) (by decide) (by decide) k) ?_
            exact J87 _ (((if_neg hc107_90).trans (if_neg hc120_91)).trans (if_pos hc133_92)).symm T85 X85 rfl
          · skip
            refine bW T85 (mkF m 136 #[vi len, vi x1, vi x2, vi x3, vi x4, vi 3, vi c0, vi c1, vi c2, vi c3, vr t68, vr b84, uu] []) (fun _ k => XS.icmpNo X85.here hx rfl (hb hby at_133) rfl (feq hc133_92).1 k) ?_
            refine bW T85 (mkF m 138 #[vi len, vi x1, vi x2, vi x3, vi x4, vi 3, vi c0, vi c1, vi c2, vi c3, vr t68, vr b84, uu] [(.int (3 : Int32))]) (fun _ k => XS.iload X85.here hx rfl (hb hby at_136) rfl k) ?_
            refine bW T85 (mkF m 139 #[vi len, vi x1, vi x2, vi x3, vi x4, vi 3, vi c0, vi c1, vi c2, vi c3, vr t68, vr b84, uu] [(.int (3 : Int32)), (.int (3 : Int32))]) (fun _ k => XS.iconst X85.here hx rfl (hb hby at_138) k) ?_
            refine bW T85 (mkF m 153 #[vi len, vi x1, vi x2, vi x3, vi x4, vi 3, vi c0, vi c1, vi c2, vi c3, vr t68, vr b84, uu] []) (fun _ k => XS.icmpYes X85.here hx rfl (pc0 := 139) (pc' := 153) rfl (hb hby at_139) rfl (flt (by decide)).2.2.2 (by decide) (by decide) k) ?_
            refine bW T85 (mkF m 154 #[vi len, vi x1, vi x2, vi x3, vi x4, vi 3, vi c0, vi c1, vi c2, vi c3, vr t68, vr b84, uu] [(ii 0)]) (fun _ k => XS.iconst X85.here hx rfl (hb hby at_153) k) ?_
            exact J87 _ (((if_neg hc107_90).trans (if_neg hc120_91)).trans (if_neg hc133_92)).symm T85 X85 rfl
  · skip
    rw [hq25]
    refine bW T24 (mkF m 35 #[vi len, vi x1, vi x2, vi x3, vi x4, vi 4, vi c0, vi c1, vi c2, vi c3, uu, uu, uu] [(.int (4 : Int32))]) (fun _ k => XS.iload X24.here hx rfl (hb hby at_33) rfl k) ?_
    obtain ⟨_, _, ⟨T93, L93, k93, n93⟩, -, X93, ⟨Lc93, hQ93, l93, y93, z93⟩, st93⟩ := Jvm.LawKit.callS X24 hx (y := yy1) hown (mvT hZ (hw _ (mo 6 rfl))) (mvT hZ (hw _ (mo 7 rfl))) (mvT hZ (hw _ (mo 3 rfl))) (mvT hZ (hw _ (mo 8 rfl))) (by decide) (backOf (W := 0) (mka_4 l Z a0 hw []   h0 n0 Z0 ) hZ (hw _ (mo 8 rfl)) (hw _ (mo 3 rfl)) (by decide) (by decide)) (g := (mkF m 35 #[vi len, vi x1, vi x2, vi x3, vi x4, vi 4, vi c0, vi c1, vi c2, vi c3, uu, uu, uu] [(.int (4 : Int32))])) rfl (by rw [hml]; rfl) (argsL := [(.int (4 : Int32))]) (rest := []) (lenOf pd_19 rfl) rfl (Nat.le_of_eq rfl) (hb hby at_35) (fun _ _ => ⟨rfl, e24, (by decide : 1 ≤ _), (by decide : 4 ≤ _)⟩)
    dsimp only [Pt.U, Pt.locs, Pt.cells, Pt.slots] at X93 l93 y93 z93 st93 hQ93
    subst l93 y93 z93
    obtain ⟨t93, kb93, rfl, N93q, K93, zt93, V93⟩ := hQ93
    have N93 := Fr.app N24 N93q
    have KK93 : Keep h0 T93.heap [] := Keep.trans (Keep.refl h0 []) K93 all0
    have C93 : CHr Z consts_1 s.vm s.heap s.vm T93.heap := CHr.trans C0 (CHr.keep K93 sf0 C0.1)
    have sz_t93 : h0.size ≤ t93 := Nat.le_trans (Keep.refl h0 []).1 zt93
    have g_t93 : n0 ≤ t93 := Nat.le_trans Z0 sz_t93
    refine bW T93 (mkF m 38 #[vi len, vi x1, vi x2, vi x3, vi x4, vi 4, vi c0, vi c1, vi c2, vi c3, uu, uu, uu] [(.ref t93)]) (fun _ k => st93 _ k) ?_
    refine bW T93 (mkF m 40 #[vi len, vi x1, vi x2, vi x3, vi x4, vi 4, vi c0, vi c1, vi c2, vi c3, vr t93, uu, uu] []) (fun _ k => XS.astore X93.here hx rfl (hb hby at_38) rfl rfl rfl k) ?_
    refine bW T93 (mkF m 42 #[vi len, vi x1, vi x2, vi x3, vi x4, vi 4, vi c0, vi c1, vi c2, vi c3, vr t93, uu, uu] [(.int (4 : Int32))]) (fun _ k => XS.iload X93.here hx rfl (hb hby at_40) rfl k) ?_
    refine bW T93 (mkF m 45 #[vi len, vi x1, vi x2, vi x3, vi x4, vi 4, vi c0, vi c1, vi c2, vi c3, vr t93, uu, uu] []) (fun _ k => XS.ifNo X93.here hx rfl (hb hby at_42) rfl ((if0 _ _).trans (tlt (by decide)).2.2.2) k) ?_
    refine bW T93 (mkF m 47 #[vi len, vi x1, vi x2, vi x3, vi x4, vi 4, vi c0, vi c1, vi c2, vi c3, vr t93, uu, uu] [(.ref t93)]) (fun _ k => XS.aload X93.here hx rfl (hb hby at_45) rfl rfl k) ?_
    refine bW T93 (mkF m 48 #[vi len, vi x1, vi x2, vi x3, vi x4, vi 4, vi c0, vi c1, vi c2, vi c3, vr t93, uu, uu] [(ii 0), (.ref t93)]) (fun _ k => XS.iconst X93.here hx rfl (hb hby at_47) k) ?_
    refine bW T93 (mkF m 50 #[vi len, vi x1, vi x2, vi x3, vi x4, vi 4, vi c0, vi c1, vi c2, vi c3, vr t93, uu, uu] [(.int c0), (ii 0), (.ref t93)]) (fun _ k => XS.iload X93.here hx rfl (hb hby at_48) rfl k) ?_
    obtain ⟨cl94, Ar94, q94, S94, N_94, H94, G94⟩ := id V93
    have hin94 : ¬ ((0 : Int32) < 0 ∨ cl94.slots.size ≤ ((0 : Int32)).toNatClampNeg) := inb_of S94 ⟨by decide, by decide⟩
    obtain ⟨T95, h95, X95, e95, W95, st95⟩ := stC X93 hx hZ rfl Ar94 (j := (0 : Int32)) hin94 (g := (mkF m 50 #[vi len, vi x1, vi x2, vi x3, vi x4, vi 4, vi c0, vi c1, vi c2, vi c3, vr t93, uu, uu] [(.int c0), (ii 0), (.ref t93)])) rfl rfl (hb hby at_50)
    have V95 : Arv Z h95 t93 kb93 .char (4 : Int32) [(.int (nar .char c0)), (ii 0), (ii 0), (ii 0)] (ii 0) := Arv.set Ar94 q94 S94 N_94 H94 G94 (fits_nar_char _) W95 0 rfl (Nat.le_of_ble_eq_true rfl)
    have K95 : Keep h0 h95 [] := Keep.wr KK93 W95 (Or.inr sz_t93)
    have C95 : CHr Z consts_1 s.vm s.heap s.vm h95 := CHr.trans C93 (CHr.wr W95 (Safe.arv (EL := consts_1) (vm := s.vm) hZ.alike V93 (by decide)) C93.1)
    have N95 := Fr.snoc X95 N93 g_t93
    refine bW T95 (mkF m 51 #[vi len, vi x1, vi x2, vi x3, vi x4, vi 4, vi c0, vi c1, vi c2, vi c3, vr t93, uu, uu] []) (fun _ k => st95 _ k) ?_
    refine bW T95 (mkF m 53 #[vi len, vi x1, vi x2, vi x3, vi x4, vi 4, vi c0, vi c1, vi c2, vi c3, vr t93, uu, uu] [(.int (4 : Int32))]) (fun _ k => XS.iload X95.here hx rfl (hb hby at_51) rfl k) ?_
    refine bW T95 (mkF m 54 #[vi len, vi x1, vi x2, vi x3, vi x4, vi 4, vi c0, vi c1, vi c2, vi c3, vr t93, uu, uu] [(.int (1 : Int32)), (.int (4 : Int32))]) (fun _ k => XS.iconst X95.here hx rfl (hb hby at_53) k) ?_
    refine bW T95 (mkF m 57 #[vi len, vi x1, vi x2, vi x3, vi x4, vi 4, vi c0, vi c1, vi c2, vi c3, vr t93, uu, uu] []) (fun _ k => XS.icmpNo X95.here hx rfl (hb hby at_54) rfl (tlt (by decide)).2.2.2 k) ?_
    refine bW T95 (mkF m 59 #[vi len, vi x1, vi x2, vi x3, vi x4, vi 4, vi c0, vi c1, vi c2, vi c3, vr t93, uu, uu] [(.ref t93)]) (fun _ k => XS.aload X95.here hx rfl (hb hby at_57) rfl rfl k) ?_
    refine bW T95 (mkF m 60 #[vi len, vi x1, vi x2, vi x3, vi x4, vi 4, vi c0, vi c1, vi c2, vi c3, vr t93, uu, uu] [(.int (1 : Int32)), (.ref t93)]) (fun _ k => XS.iconst X95.here hx rfl (hb hby at_59) k) ?_
    refine bW T95 (mkF m 62 #[vi len, vi x1, vi x2, vi x3, vi x4, vi 4, vi c0, vi c1, vi c2, vi c3, vr t93, uu, uu] [(.int c1), (.int (1 : Int32)), (.ref t93)]) (fun _ k => XS.iload X95.here hx rfl (hb hby at_60) rfl k) ?_
    obtain ⟨cl96, Ar96, q96, S96, N_96, H96, G96⟩ := id V95
    have hin96 : ¬ ((1 : Int32) < 0 ∨ cl96.slots.size ≤ ((1 : Int32)).toNatClampNeg) := inb_of S96 ⟨by decide, by decide⟩
    obtain ⟨T97, h97, X97, e97, W97, st97⟩ := stC X95 hx hZ e95 Ar96 (j := (1 : Int32)) hin96 (g := (mkF m 62 #[vi len, vi x1, vi x2, vi x3, vi x4, vi 4, vi c0, vi c1, vi c2, vi c3, vr t93, uu, uu] [(.int c1), (.int (1 : Int32)), (.ref t93)])) rfl rfl (hb hby at_62)
    have V97 : Arv Z h97 t93 kb93 .char (4 : Int32) [(.int (nar .char c0)), (.int (nar .char c1)), (ii 0), (ii 0)] (ii 0) := Arv.set Ar96 q96 S96 N_96 H96 G96 (fits_nar_char _) W97 1 rfl (Nat.le_of_ble_eq_true rfl)
    have K97 : Keep h0 h97 [] := Keep.wr K95 W97 (Or.inr sz_t93)
    have C97 : CHr Z consts_1 s.vm s.heap s.vm h97 := CHr.trans C95 (CHr.wr W97 (Safe.arv (EL := consts_1) (vm := s.vm) hZ.alike V95 (by decide)) C95.1)
    have N97 := Fr.snoc X97 N95 g_t93
    refine bW T97 (mkF m 63 #[vi len, vi x1, vi x2, vi x3, vi x4, vi 4, vi c0, vi c1, vi c2, vi c3, vr t93, uu, uu] []) (fun _ k => st97 _ k) ?_
    refine bW T97 (mkF m 65 #[vi len, vi x1, vi x2, vi x3, vi x4, vi 4, vi c0, vi c1, vi c2, vi c3, vr t93, uu, uu] [(.int (4 : Int32))]) (fun _ k => XS.iload X97.here hx rfl (hb hby at_63) rfl k) ?_
    refine bW T97 (mkF m 66 #[vi len, vi x1, vi x2, vi x3, vi x4, vi 4, vi c0, vi c1, vi c2, vi c3, vr t93, uu, uu] [(.int (2 : Int32)), (.int (4 : Int32))]) (fun _ k => XS.iconst X97.here hx rfl (hb hby at_65) k) ?_
    refine bW T97 (mkF m 69 #[vi len, vi x1, vi x2, vi x3, vi x4, vi 4, vi c0, vi c1, vi c2, vi c3, vr t93, uu, uu] []) (fun _ k => XS.icmpNo X97.here hx rfl (hb hby at_66) rfl (tlt (by decide)).2.2.2 k) ?_
    refine bW T97 (mkF m 71 #[vi len, vi x1, vi x2, vi x3, vi x4, vi 4, vi c0, vi c1, vi c2, vi c3, vr t93, uu, uu] [(.ref t93)]) (fun _ k => XS.aload X97.here hx rfl (hb hby at_69) rfl rfl k) ?_
    refine bW T97 (mkF m 72 #[vi len, vi x1, vi x2, vi x3, vi x4, vi 4, vi c0, vi c1, vi c2, vi c3, vr t93, uu, uu] [(.int (2 : Int32)), (.ref t93)]) (fun _ k => XS.iconst X97.here hx rfl (hb hby at_71) k) ?_
    refine bW T97 (mkF m 74 #[vi len, vi x1, vi x2, vi x3, vi x4, vi 4, vi c0, vi c1, vi c2, vi c3, vr t93, uu, uu] [(.int c2), (.int (2 : Int32)), (.ref t93)]) (fun _ k => XS.iload X97.here hx rfl (hb hby at_72) rfl k) ?_
    obtain ⟨cl98, Ar98, q98, S98, N_98, H98, G98⟩ := id V97
    have hin98 : ¬ ((2 : Int32) < 0 ∨ cl98.slots.size ≤ ((2 : Int32)).toNatClampNeg) := inb_of S98 ⟨by decide, by decide⟩
    obtain ⟨T99, h99, X99, e99, W99, st99⟩ := stC X97 hx hZ e97 Ar98 (j := (2 : Int32)) hin98 (g := (mkF m 74 #[vi len, vi x1, vi x2, vi x3, vi x4, vi 4, vi c0, vi c1, vi c2, vi c3, vr t93, uu, uu] [(.int c2), (.int (2 : Int32)), (.ref t93)])) rfl rfl (hb hby at_74)
    have V99 : Arv Z h99 t93 kb93 .char (4 : Int32) [(.int (nar .char c0)), (.int (nar .char c1)), (.int (nar .char c2)), (ii 0)] (ii 0) := Arv.set Ar98 q98 S98 N_98 H98 G98 (fits_nar_char _) W99 2 rfl (Nat.le_of_ble_eq_true rfl)
    have K99 : Keep h0 h99 [] := Keep.wr K97 W99 (Or.inr sz_t93)
    have C99 : CHr Z consts_1 s.vm s.heap s.vm h99 := CHr.trans C97 (CHr.wr W99 (Safe.arv (EL := consts_1) (vm := s.vm) hZ.alike V97 (by decide)) C97.1)
    have N99 := Fr.snoc X99 N97 g_t93
    refine bW T99 (mkF m 75 #[vi len, vi x1, vi x2, vi x3, vi x4, vi 4, vi c0, vi c1, vi c2, vi c3, vr t93, uu, uu] []) (fun _ k => st99 _ k) ?_
    refine bW T99 (mkF m 77 #[vi len, vi x1, vi x2, vi x3, vi x4, vi 4, vi c0, vi c1, vi c2, vi c3, vr t93, uu, uu] [(.int (4 : Int32))]) (fun _ k => XS.iload X99.here hx rfl (hb hby at_75) rfl k) ?_
    refine bW T99 (mkF m 78 #[vi len, vi x1, vi x2, vi x3, vi x4, vi 4, vi c0, vi c1, vi c2, vi c3, vr t93, uu, uu] [(.int (3 : Int32)), (.int (4 : Int32))]) (fun _ k => XS.iconst X99.here hx rfl (hb hby at_77) k) ?_
    refine bW T99 (mkF m 81 #[vi len, vi x1, vi x2, vi x3, vi x4, vi 4, vi c0, vi c1, vi c2, vi c3, vr t93, uu, uu] []) (fun _ k => XS.icmpNo X99.here hx rfl (hb hby at_78) rfl (tlt (by decide)).2.2.2 k) ?_
    refine bW T99 (mkF m 83 #[vi len, vi x1, vi x2, vi x3, vi x4, vi 4, vi c0, vi c1, vi c2, vi c3, vr t93, uu, uu] [(.ref t93)]) (fun _ k => XS.aload X99.here hx rfl (hb hby at_81) rfl rfl k) ?_
    refine bW T99 (mkF m 84 #[vi len, vi x1, vi x2, vi x3, vi x4, vi 4, vi c0, vi c1, vi c2, vi c3, vr t93, uu, uu] [(.int (3 : Int32)), (.ref t93)]) (fun _ k => XS.iconst X99.here hx rfl (hb hby at_83) k) ?_
    refine bW T99 (mkF m 86 #[vi len, vi x1, vi x2, vi x3, vi x4, vi 4, vi c0, vi c1, vi c2, vi c3, vr t93, uu, uu] [(.int c3), (.int (3 : Int32)), (.ref t93)]) (fun _ k => XS.iload X99.here hx rfl (hb hby at_84) rfl k) ?_
    obtain ⟨cl100, Ar100, q100, S100, N_100, H100, G100⟩ := id V99
    have hin100 : ¬ ((3 : Int32) < 0 ∨ cl100.slots.size ≤ ((3 : Int32)).toNatClampNeg) := inb_of S100 ⟨by decide, by decide⟩
    obtain ⟨T101, h101, X101, e101, W101, st101⟩ := stC X99 hx hZ e99 Ar100 (j := (3 : Int32)) hin100 (g := (mkF m 86 #[vi len, vi x1, vi x2, vi x3, vi x4, vi 4, vi c0, vi c1, vi c2, vi c3, vr t93, uu, uu] [(.int c3), (.int (3 : Int32)), (.ref t93)])) rfl rfl (hb hby at_86)
    have V101 : Arv Z h101 t93 kb93 .char (4 : Int32) [(.int (nar .char c0)), (.int (nar .char c1)), (.int (nar .char c2)), (.int (nar .char c3))] (ii 0) := Arv.set Ar100 q100 S100 N_100 H100 G100 (fits_nar_char _) W101 3 rfl (Nat.le_of_ble_eq_true rfl)
    have K101 : Keep h0 h101 [] := Keep.wr K99 W101 (Or.inr sz_t93)
    have C101 : CHr Z consts_1 s.vm s.heap s.vm h101 := CHr.trans C99 (CHr.wr W101 (Safe.arv (EL := consts_1) (vm := s.vm) hZ.alike V99 (by decide)) C99.1)
    have N101 := Fr.snoc X101 N99 g_t93
    refine bW T101 (mkF m 87 #[vi len, vi x1, vi x2, vi x3, vi x4, vi 4, vi c0, vi c1, vi c2, vi c3, vr t93, uu, uu] []) (fun _ k => st101 _ k) ?_
    have VC : Arv Z h101 t93 kb93 .char (4 : Int32) [(.int c0), (.int c1), (.int c2), (.int c3)] (ii 0) := by have q := V101; rw [own_nc hr0, own_nc hr1, own_nc hr2, own_nc hr3] at q; exact q
    rcases own_lu4 c0 c1 c2 c3 with ⟨hc0, hc1, hc2, hc3⟩ | hU
    · skip
      obtain ⟨T102, h102, X102, e102, E102, A102, D102, -, st102⟩ := newO X101 hx hZ hown (hw _ (mo 10 rfl)) (hw _ (mo 11 rfl)) (hw _ (mo 12 rfl)) e101 (g := (mkF m 87 #[vi len, vi x1, vi x2, vi x3, vi x4, vi 4, vi c0, vi c1, vi c2, vi c3, vr t93, uu, uu] [])) rfl (hb hby at_87) (by decide) (by decide)
      obtain ⟨b102, g102⟩ : ∃ z, z = h101.size := ⟨_, rfl⟩
      rw [← g102] at A102 D102 st102
      have E_b102 : Exa Z h102 b102 "java/lang/String" := A102
      have F_value_b102 : Fld Z h102 b102 "java/lang/String" "value" "[B" .null := D102 (Or.inr (hw _ (mo 25 rfl))) (ty := (.array .byte)) (by decide)
      have F_coder_b102 : Fld Z h102 b102 "java/lang/String" "coder" "B" (ii 0) := D102 (Or.inr (hw _ (mo 26 rfl))) (ty := .byte) (by decide)
      have g_b102 : n0 ≤ b102 := Nat.le_trans (Nat.le_trans (Nat.le_trans (Nat.le_trans (Nat.le_trans (Nat.le_trans Z0 K93.1) (Keep.of_wr W95).1) (Keep.of_wr W97).1) (Keep.of_wr W99).1) (Keep.of_wr W101).1) (Nat.le_of_eq g102.symm)
      have sz_b102 : h0.size ≤ b102 := Nat.le_trans K101.1 (Nat.le_of_eq g102.symm)
      have K102 : Keep h0 h102 [] := Keep.ext K101 E102
      have Sf102_b102 : Safe Z consts_1 s.vm h102 b102 := Safe.ext E102 C101.1 (Safe.new (Nat.le_of_eq g102.symm))
      have C102 : CHr Z consts_1 s.vm s.heap s.vm h102 := CHr.trans C101 (CHr.ext E102 C101.1)
      refine bW T102 (mkF m 90 #[vi len, vi x1, vi x2, vi x3, vi x4, vi 4, vi c0, vi c1, vi c2, vi c3, vr t93, uu, uu] [(.ref b102)]) (fun _ k => st102 _ k) ?_
      refine bW T102 (mkF m 91 #[vi len, vi x1, vi x2, vi x3, vi x4, vi 4, vi c0, vi c1, vi c2, vi c3, vr t93, uu, uu] [(.ref b102), (.ref b102)]) (fun _ k => XS.dup X102.here hx rfl (hb hby at_90) rfl rfl k) ?_
      refine bW T102 (mkF m 93 #[vi len, vi x1, vi x2, vi x3, vi x4, vi 4, vi c0, vi c1, vi c2, vi c3, vr t93, uu, uu] [(.ref t93), (.ref b102), (.ref b102)]) (fun _ k => XS.aload X102.here hx rfl (hb hby at_91) rfl rfl k) ?_
      obtain ⟨_, _, ⟨T103, L103, k103, n103⟩, -, X103, ⟨Lc103, hQ103, l103, y103, z103⟩, st103⟩ := X102.specialBack hx (y := yy6) rfl hown (mvT hZ (hw _ (mo 13 rfl))) (mvT hZ (hw _ (mo 14 rfl))) (mvT hZ (hw _ (mo 15 rfl))) (by decide) (backOf (W := 1) (sin1_4 l Z a0 hw [] b102 t93 kb93 cs c0 c1 c2 c3 h102 n0 (Nat.le_trans (Nat.le_trans (Nat.le_trans (Nat.le_trans (Nat.le_trans (Nat.le_trans Z0 K93.1) (Keep.of_wr W95).1) (Keep.of_wr W97).1) (Keep.of_wr W99).1) (Keep.of_wr W101).1) E102.1) E_b102 F_value_b102 F_coder_b102 g_b102 (Arv.ext VC E102) (Sta.ext ((Old.ext (Old.wr (Old.wr (Old.wr (Old.wr (Old.keep O0 K93 all0) W95 g_t93) W97 g_t93) W99 g_t93) W101 g_t93) E102)).2 S_CS) hcs hc0 hc1 hc2 hc3) hZ (hw _ (mo 15 rfl)) (hw _ (mo 12 rfl)) (by decide) (by decide)) (g := (mkF m 93 #[vi len, vi x1, vi x2, vi x3, vi x4, vi 4, vi c0, vi c1, vi c2, vi c3, vr t93, uu, uu] [(.ref t93), (.ref b102), (.ref b102)])) rfl (by rw [hml]; rfl) (Steps.refl _) (a := b102) (argsL := [(.ref t93)]) (rest := [(.ref b102)]) (lenOf pd_20 rfl) rfl (Nat.le_of_eq rfl) (hb hby at_93) (fun _ _ => ⟨rfl, e102, (by decide : 3 ≤ _), (by decide : 12 ≤ _)⟩)
      dsimp only [Pt.U, Pt.locs, Pt.cells, Pt.slots] at X103 l103 y103 z103 st103 hQ103
      subst l103 y103 z103
      obtain ⟨rfl, N103q, K103, Fc103, t103, kb103, zt103, Fv103, V103⟩ := hQ103
      have N103 := Fr.app N101 N103q
      have KK103 : Keep h0 T103.heap [] := Keep.trans K102 K103 (allS (Or.inr sz_b102) all0)
      have Sf103_b102 : Safe Z consts_1 s.vm T103.heap b102 := Safe.keep K103 (sfS Sf102_b102 sf0) C102.1 Sf102_b102
      have C103 : CHr Z consts_1 s.vm s.heap s.vm T103.heap := CHr.trans C102 (CHr.keep K103 (sfS Sf102_b102 sf0) C102.1)
      have sz_t103 : h0.size ≤ t103 := Nat.le_trans K102.1 zt103
      have g_t103 : n0 ≤ t103 := Nat.le_trans Z0 sz_t103
      refine bW T103 (mkF m 96 #[vi len, vi x1, vi x2, vi x3, vi x4, vi 4, vi c0, vi c1, vi c2, vi c3, vr t93, uu, uu] [(.ref b102)]) (fun _ k => st103.trans k) ?_
      refine bW T103 (mkF m 98 #[vi len, vi x1, vi x2, vi x3, vi x4, vi 4, vi c0, vi c1, vi c2, vi c3, vr t93, vr b102, uu] []) (fun _ k => XS.astore X103.here hx rfl (hb hby at_96) rfl rfl rfl k) ?_
      refine bW T103 (mkF m 100 #[vi len, vi x1, vi x2, vi x3, vi x4, vi 4, vi c0, vi c1, vi c2, vi c3, vr t93, vr b102, uu] [(.int (4 : Int32))]) (fun _ k => XS.iload X103.here hx rfl (hb hby at_98) rfl k) ?_
      refine bW T103 (mkF m 103 #[vi len, vi x1, vi x2, vi x3, vi x4, vi 4, vi c0, vi c1, vi c2, vi c3, vr t93, vr b102, uu] []) (fun _ k => XS.ifNo X103.here hx rfl (hb hby at_100) rfl ((if0 _ _).trans (tlt (by decide)).2.2.2) k) ?_
      refine bW T103 (mkF m 105 #[vi len, vi x1, vi x2, vi x3, vi x4, vi 4, vi c0, vi c1, vi c2, vi c3, vr t93, vr b102, uu] [(.int c0)]) (fun _ k => XS.iload X103.here hx rfl (hb hby at_103) rfl k) ?_
      refine bW T103 (mkF m 107 #[vi len, vi x1, vi x2, vi x3, vi x4, vi 4, vi c0, vi c1, vi c2, vi c3, vr t93, vr b102, uu] [(.int (65533 : Int32)), (.int c0)]) (fun _ k => ldcI X103 hx hown (mvT hZ (hw _ (mo 79 rfl))) rfl (hb hby at_105) k) ?_
      have J105 : ∀ (j104 : Int32) (hv_j104 : j104 = (if c0 = (65533 : Int32) then (1 : Int32) else (if c1 = (65533 : Int32) then (1 : Int32) else (if c2 = (65533 : Int32) then (1 : Int32) else (if c3 = (65533 : Int32) then (1 : Int32) else (0 : Int32)))))) (T106 : State) (_ : Stand p l e room_1 (s.setVm s.vm) m #[(.int len), (.int x1), (.int x2), (.int x3), (.int x4)] below meth c T106 (((((((((L21 ++ Lc22) ++ Lc23) ++ Lc24) ++ Lc93) ++ [⟨t93, ((0 : Int32)).toNatClampNeg⟩]) ++ [⟨t93, ((1 : Int32)).toNatClampNeg⟩]) ++ [⟨t93, ((2 : Int32)).toNatClampNeg⟩]) ++ [⟨t93, ((3 : Int32)).toNatClampNeg⟩]) ++ Lc103) (((((((0 + 0) + 0) + 0) + 0) + 1) + 1) + 1) (((((((0 + 0) + 0) + 0) + 0) + 4) + 4) + 4)) (_ : T106.heap = T103.heap), own_GoW p.tables e below Z consts_1 (Q_rm0 Z len x1 x2 x3 x4 cs sf h0 n0) s 24 1152 T106 (mkF m 154 #[vi len, vi x1, vi x2, vi x3, vi x4, vi 4, vi c0, vi c1, vi c2, vi c3, vr t93, vr b102, uu] [(.int j104)]) := by
        intro j104 hv_j104 T106 X106 e106
        refine bW T106 (mkF m 156 #[vi len, vi x1, vi x2, vi x3, vi x4, vi 4, vi c0, vi c1, vi c2, vi c3, vr t93, vr b102, vi j104] []) (fun _ k => XS.istore X106.here hx rfl (hb hby at_154) rfl rfl k) ?_
        refine bW T106 (mkF m 158 #[vi len, vi x1, vi x2, vi x3, vi x4, vi 4, vi c0, vi c1, vi c2, vi c3, vr t93, vr b102, vi j104] [(.ref b102)]) (fun _ k => XS.aload X106.here hx rfl (hb hby at_156) rfl rfl k) ?_
        obtain ⟨_, _, ⟨T107, L107, k107, n107⟩, -, X107, ⟨Lc107, hQ107, l107, y107, z107⟩, st107⟩ := Jvm.LawKit.callS X106 hx (y := yy27) hown (mvT hZ (hw _ (mo 31 rfl))) (mvT hZ (hw _ (mo 32 rfl))) (mvT hZ (hw _ (mo 33 rfl))) (mvT hZ (hw _ (mo 34 rfl))) (by decide) (backOf (W := 0) (hub_l_0 l Z a0 hw [] b102 t103 kb103 cs (4 : Int32) [(.int (nar .byte (c0.toInt8.toInt32))), (.int (nar .byte (c1.toInt8.toInt32))), (.int (nar .byte (c2.toInt8.toInt32))), (.int (nar .byte (c3.toInt8.toInt32)))] T103.heap n0 (Nat.le_trans (Nat.le_trans (Nat.le_trans (Nat.le_trans (Nat.le_trans (Nat.le_trans (Nat.le_trans Z0 K93.1) (Keep.of_wr W95).1) (Keep.of_wr W97).1) (Keep.of_wr W99).1) (Keep.of_wr W101).1) E102.1) K103.1) (Exa.keep E_b102 K103) Fc103 Fv103 V103 (Sta.ext ((Old.keep (Old.ext (Old.wr (Old.wr (Old.wr (Old.wr (Old.keep O0 K93 all0) W95 g_t93) W97 g_t93) W99 g_t93) W101 g_t93) E102) K103 (allS g_b102 all0))).2 S_CS) hcs) hZ (hw _ (mo 34 rfl)) (hw _ (mo 33 rfl)) (by decide) (by decide)) (g := (mkF m 158 #[vi len, vi x1, vi x2, vi x3, vi x4, vi 4, vi c0, vi c1, vi c2, vi c3, vr t93, vr b102, vi j104] [(.ref b102)])) rfl (by rw [hml]; rfl) (argsL := [(.ref b102)]) (rest := []) (lenOf pd_21 rfl) rfl (Nat.le_of_eq rfl) (hb hby at_158) (fun _ _ => ⟨rfl, e106, (by decide : 3 ≤ _), (by decide : 12 ≤ _)⟩)
        dsimp only [Pt.U, Pt.locs, Pt.cells, Pt.slots] at X107 l107 y107 z107 st107 hQ107
        subst l107 y107 z107
        obtain ⟨rfl, N107q, e107⟩ := hQ107
        have N107 := Fr.app N103 N107q
        refine bW T107 (mkF m 161 #[vi len, vi x1, vi x2, vi x3, vi x4, vi 4, vi c0, vi c1, vi c2, vi c3, vr t93, vr b102, vi j104] [(ii 0)]) (fun _ k => st107 _ k) ?_
        refine bW T107 (mkF m 163 #[vi len, vi x1, vi x2, vi x3, vi x4, vi 4, vi c0, vi c1, vi c2, vi c3, vr t93, vr b102, vi j104] [(.int j104), (ii 0)]) (fun _ k => XS.iload X107.here hx rfl (hb hby at_161) rfl k) ?_
        refine bW T107 (mkF m 166 #[vi len, vi x1, vi x2, vi x3, vi x4, vi 4, vi c0, vi c1, vi c2, vi c3, vr t93, vr b102, vi j104] []) (fun _ k => XS.icmpNo X107.here hx rfl (hb hby at_163) rfl (teq (by rw [hv_j104]; exact own_g4 hc0 hc1 hc2 hc3)).2 k) ?_
        refine bW T107 (mkF m 167 #[vi len, vi x1, vi x2, vi x3, vi x4, vi 4, vi c0, vi c1, vi c2, vi c3, vr t93, vr b102, vi j104] [(.int (1 : Int32))]) (fun _ k => XS.iconst X107.here hx rfl (hb hby at_166) k) ?_
        refine bW T107 (mkF m 171 #[vi len, vi x1, vi x2, vi x3, vi x4, vi 4, vi c0, vi c1, vi c2, vi c3, vr t93, vr b102, vi j104] [(.int (1 : Int32))]) (fun _ k => XS.goto X107.here hx rfl (pc0 := 167) (pc' := 171) rfl (hb hby at_167) (by decide) (by decide) k) ?_
        refine own_retW (s := s) X107 hlk hS0 (by rw [e107]; exact (Nat.le_trans (Nat.le_trans (Nat.le_trans (Nat.le_trans (Nat.le_trans (Nat.le_trans (Nat.le_trans hk0 K93.1) (Keep.of_wr W95).1) (Keep.of_wr W97).1) (Keep.of_wr W99).1) (Keep.of_wr W101).1) E102.1) K103.1)) hZ hEL C103 e107 (v := some (.int (1 : Int32))) (nvr Bd.returns) (fun fs hr => retN X107 hx (t := .boolean) Bd.returns (by simp) (hb hby at_171) hr) ?_ (by decide) (by decide)
        rw [e107]
        exact ⟨rfl, N107⟩
      by_cases hc107_108 : c0 = (65533 : Int32)
      · skip
        refine bW T103 (mkF m 149 #[vi len, vi x1, vi x2, vi x3, vi x4, vi 4, vi c0, vi c1, vi c2, vi c3, vr t93, vr b102, uu] []) (fun _ k => XS.icmpYes X103.here hx rfl (pc0 := 107) (pc' := 149) rfl (hb hby at_107) rfl (teq hc107_108).1 (by decide) (by decide) k) ?_
        refine bW T103 (mkF m 150 #[vi len, vi x1, vi x2, vi x3, vi x4, vi 4, vi c0, vi c1, vi c2, vi c3, vr t93, vr b102, uu] [(.int (1 : Int32))]) (fun _ k => XS.iconst X103.here hx rfl (hb hby at_149) k) ?_
        refine bW T103 (mkF m 154 #[vi len, vi x1, vi x2, vi x3, vi x4, vi 4, vi c0, vi c1, vi c2, vi c3, vr t93, vr b102, uu] [(.int (1 : Int32))]) (fun _ k => XS.goto X103.here hx rfl (pc0 := 150) (pc' := 154) rfl (hb hby at_150) (by decide) (by decide) k) ?_
        exact J105 _ (if_pos hc107_108).symm T103 X103 rfl
      · skip
        refine bW T103 (mkF m 110 #[vi len, vi x1, vi x2, vi x3, vi x4, vi 4, vi c0, vi c1, vi c2, vi c3, vr t93, vr b102, uu] []) (fun _ k => XS.icmpNo X103.here hx rfl (hb hby at_107) rfl (feq hc107_108).1 k) ?_
        refine bW T103 (mkF m 112 #[vi len, vi x1, vi x2, vi x3, vi x4, vi 4, vi c0, vi c1, vi c2, vi c3, vr t93, vr b102, uu] [(.int (4 : Int32))]) (fun _ k => XS.iload X103.here hx rfl (hb hby at_110) rfl k) ?_
        refine bW T103 (mkF m 113 #[vi len, vi x1, vi x2, vi x3, vi x4, vi 4, vi c0, vi c1, vi c2, vi c3, vr t93, vr b102, uu] [(.int (1 : Int32)), (.int (4 : Int32))]) (fun _ k => XS.iconst X103.here hx rfl (hb hby at_112) k) ?_
        refine bW T103 (mkF m 116 #[vi len, vi x1, vi x2, vi x3, vi x4, vi 4, vi c0, vi c1, vi c2, vi c3, vr t93, vr b102, uu] []) (fun _ k => XS.icmpNo X103.here hx rfl (hb hby at_113) rfl (tlt (by decide)).2.2.2 k) ?_
        refine bW T103 (mkF m 118 #[vi len, vi x1, vi x2, vi x3, vi x4, vi 4, vi c0, vi c1, vi c2, vi c3, vr t93, vr b102, uu] [(.int c1)]) (fun _ k => XS.iload X103.here hx rfl (hb hby at_116) rfl k) ?_
        refine bW T103 (mkF m 120 #[vi len, vi x1, vi x2, vi x3, vi x4, vi 4, vi c0, vi c1, vi c2, vi c3, vr t93, vr b102, uu] [(.int (65533 : Int32)), (.int c1)]) (fun _ k => ldcI X103 hx hown (mvT hZ (hw _ (mo 79 rfl))) rfl (hb hby at_118) k) ?_
        by_cases hc120_109 : c1 = (65533 : Int32)
        · skip
          refine bW T103 (mkF m 149 #[vi len, vi x1, vi x2, vi x3, vi x4, vi 4, vi c0, vi c1, vi c2, vi c3, vr t93, vr b102, uu] []) (fun _ k => XS.icmpYes X103.here hx rfl (pc0 := 120) (pc' := 149) rfl (hb hby at_120) rfl (teq hc120_109).1 (by decide) (by decide) k) ?_
          refine bW T103 (mkF m 150 #[vi len, vi x1, vi x2, vi x3, vi x4, vi 4, vi c0, vi c1, vi c2, vi c3, vr t93, vr b102, uu] [(.int (1 : Int32))]) (fun _ k => XS.iconst X103.here hx rfl (hb hby at_149) k) ?_
          refine bW T103 (mkF m 154 #[vi len, vi x1, vi x2, vi x3, vi x4, vi 4, vi c0, vi c1, vi c2, vi c3, vr t93, vr b102, uu] [(.int (1 : Int32))]) (fun _ k => XS.goto X103.here hx rfl (pc0 := 150) (pc' := 154) rfl (hb hby at_150) (by decide) (by decide) k) ?_
          exact J105 _ ((if_neg hc107_108).trans (if_pos hc120_109)).symm T103 X103 rfl
        · skip
          refine bW T103 (mkF m 123 #[vi len, vi x1, vi x2, vi x3, vi x4, vi 4, vi c0, vi c1, vi c2, vi c3, vr t93, vr b102, uu] []) (fun _ k => XS.icmpNo X103.here hx rfl (hb hby at_120) rfl (feq hc120_109).1 k) ?_
          refine bW T103 (mkF m 125 #[vi len, vi x1, vi x2, vi x3, vi x4, vi 4, vi c0, vi c1, vi c2, vi c3, vr t93, vr b102, uu] [(.int (4 : Int32))]) (fun _ k => XS.iload X103.here hx rfl (hb hby at_123) rfl k) ?_
          refine bW T103 (mkF m 126 #[vi len, vi x1, vi x2, vi x3, vi x4, vi 4, vi c0, vi c1, vi c2, vi c3, vr t93, vr b102, uu] [(.int (2 : Int32)), (.int (4 : Int32))]) (fun _ k => XS.iconst X103.here hx rfl (hb hby at_125) k) ?_
          refine bW T103 (mkF m 129 #[vi len, vi x1, vi x2, vi x3, vi x4, vi 4, vi c0, vi c1, vi c2, vi c3, vr t93, vr b102, uu] []) (fun _ k => XS.icmpNo X103.here hx rfl (hb hby at_126) rfl (tlt (by decide)).2.2.2 k) ?_
          refine bW T103 (mkF m 131 #[vi len, vi x1, vi x2, vi x3, vi x4, vi 4, vi c0, vi c1, vi c2, vi c3, vr t93, vr b102, uu] [(.int c2)]) (fun _ k => XS.iload X103.here hx rfl (hb hby at_129) rfl k) ?_
          refine bW T103 (mkF m 133 #[vi len, vi x1, vi x2, vi x3, vi x4, vi 4, vi c0, vi c1, vi c2, vi c3, vr t93, vr b102, uu] [(.int (65533 : Int32)), (.int c2)]) (fun _ k => ldcI X103 hx hown (mvT hZ (hw _ (mo 79 rfl))) rfl (hb hby at_131) k) ?_
          by_cases hc133_110 : c2 = (65533 : Int32)
          · skip
            refine bW T103 (mkF m 149 #[vi len, vi x1, vi x2, vi x3, vi x4, vi 4, vi c0, vi c1, vi c2, vi c3, vr t93, vr b102, uu] []) (fun _ k => XS.icmpYes X103.here hx rfl (pc0 := 133) (pc' := 149) rfl (hb hby at_133) rfl (teq hc133_110).1 (by decide) (by decide) k) ?_
            refine bW T103 (mkF m 150 #[vi len, vi x1, vi x2, vi x3, vi x4, vi 4, vi c0, vi c1, vi c2, vi c3, vr t93, vr b102, uu] [(.int (1 : Int32))]) (fun _ k => XS.iconst X103.here hx rfl (hb hby at_149) k) ?_
            refine bW T103 (mkF m 154 #[vi len, vi x1, vi x2, vi x3, vi x4, vi 4, vi c0, vi c1, vi c2, vi c3, vr t93, vr b102, uu] [(.int (1 : Int32))]) (fun _ k => XS.goto X103.here hx rfl (pc0 := 150) (pc' := 154) rfl (hb hby at_150) (by decide) (by decide) k) ?_
            exact J105 _ (((if_neg hc107_108).trans (if_neg hc120_109)).trans (if_pos hc133_110)).symm T103 X103 rfl
          · skip
            refine bW T103 (mkF m 136 #[vi len, vi x1, vi x2, vi x3, vi x4, vi 4, vi c0, vi c1, vi c2, vi c3, vr t93, vr b102, uu] []) (fun _ k => XS.icmpNo X103.here hx rfl (hb hby at_133) rfl (feq hc133_110).1 k) ?_
            refine bW T103 (mkF m 138 #[vi len, vi x1, vi x2, vi x3, vi x4, vi 4, vi c0, vi c1, vi c2, vi c3, vr t93, vr b102, uu] [(.int (4 : Int32))]) (fun _ k => XS.iload X103.here hx rfl (hb hby at_136) rfl k) ?_
            refine bW T103 (mkF m 139 #[vi len, vi x1, vi x2, vi x3, vi x4, vi 4, vi c0, vi c1, vi c2, vi c3, vr t93, vr b102, uu] [(.int (3 : Int32)), (.int (4 : Int32))]) (fun _ k => XS.iconst X103.here hx rfl (hb hby at_138) k) ?_
            refine bW T103 (mkF m 142 #[vi len, vi x1, vi x2, vi x3, vi x4, vi 4, vi c0, vi c1, vi c2, vi c3, vr t93, vr b102, uu] []) (fun _ k => XS.icmpNo X103.here hx rfl (hb hby at_139) rfl (tlt (by decide)).2.2.2 k) ?_
            refine bW T103 (mkF m 144 #[vi len, vi x1, vi x2, vi x3, vi x4, vi 4, vi c0, vi c1, vi c2, vi c3, vr t93, vr b102, uu] [(.int c3)]) (fun _ k => XS.iload X103.here hx rfl (hb hby at_142) rfl k) ?_
            refine bW T103 (mkF m 146 #[vi len, vi x1, vi x2, vi x3, vi x4, vi 4, vi c0, vi c1, vi c2, vi c3, vr t93, vr b102, uu] [(.int (65533 : Int32)), (.int c3)]) (fun _ k => ldcI X103 hx hown (mvT hZ (hw _ (mo 79 rfl))) rfl (hb hby at_144) k) ?_
            by_cases hc146_111 : c3 = (65533 : Int32)
            · skip
              refine bW T103 (mkF m 149 #[vi len, vi x1, vi x2, vi x3, vi x4, vi 4, vi c0, vi c1, vi c2, vi c3, vr t93, vr b102, uu] []) (fun _ k => XS.icmpNo X103.here hx rfl (hb hby at_146) rfl (teq hc146_111).2 k) ?_
              refine bW T103 (mkF m 150 #[vi len, vi x1, vi x2, vi x3, vi x4, vi 4, vi c0, vi c1, vi c2, vi c3, vr t93, vr b102, uu] [(.int (1 : Int32))]) (fun _ k => XS.iconst X103.here hx rfl (hb hby at_149) k) ?_
              refine bW T103 (mkF m 154 #[vi len, vi x1, vi x2, vi x3, vi x4, vi 4, vi c0, vi c1, vi c2, vi c3, vr t93, vr b102, uu] [(.int (1 : Int32))]) (fun _ k => XS.goto X103.here hx rfl (pc0 := 150) (pc' := 154) rfl (hb hby at_150) (by decide) (by decide) k) ?_
              exact J105 _ ((((if_neg hc107_108).trans (if_neg hc120_109)).trans (if_neg hc133_110)).trans (if_pos hc146_111)).symm T103 X103 rfl
            · skip
              refine bW T103 (mkF m 153 #[vi len, vi x1, vi x2, vi x3, vi x4, vi 4, vi c0, vi c1, vi c2, vi c3, vr t93, vr b102, uu] []) (fun _ k => XS.icmpYes X103.here hx rfl (pc0 := 146) (pc' := 153) rfl (hb hby at_146) rfl (feq hc146_111).2 (by decide) (by decide) k) ?_
              refine bW T103 (mkF m 154 #[vi len, vi x1, vi x2, vi x3, vi x4, vi 4, vi c0, vi c1, vi c2, vi c3, vr t93, vr b102, uu] [(ii 0)]) (fun _ k => XS.iconst X103.here hx rfl (hb hby at_153) k) ?_
              exact J105 _ ((((if_neg hc107_108).trans (if_neg hc120_109)).trans (if_neg hc133_110)).trans (if_neg hc146_111)).symm T103 X103 rfl
    · skip
      obtain ⟨T112, h112, X112, e112, E112, A112, D112, -, st112⟩ := newO X101 hx hZ hown (hw _ (mo 10 rfl)) (hw _ (mo 11 rfl)) (hw _ (mo 12 rfl)) e101 (g := (mkF m 87 #[vi len, vi x1, vi x2, vi x3, vi x4, vi 4, vi c0, vi c1, vi c2, vi c3, vr t93, uu, uu] [])) rfl (hb hby at_87) (by decide) (by decide)
      obtain ⟨b112, g112⟩ : ∃ z, z = h101.size := ⟨_, rfl⟩
      rw [← g112] at A112 D112 st112
      have E_b112 : Exa Z h112 b112 "java/lang/String" := A112
      have F_value_b112 : Fld Z h112 b112 "java/lang/String" "value" "[B" .null := D112 (Or.inr (hw _ (mo 25 rfl))) (ty := (.array .byte)) (by decide)
      have F_coder_b112 : Fld Z h112 b112 "java/lang/String" "coder" "B" (ii 0) := D112 (Or.inr (hw _ (mo 26 rfl))) (ty := .byte) (by decide)
      have g_b112 : n0 ≤ b112 := Nat.le_trans (Nat.le_trans (Nat.le_trans (Nat.le_trans (Nat.le_trans (Nat.le_trans Z0 K93.1) (Keep.of_wr W95).1) (Keep.of_wr W97).1) (Keep.of_wr W99).1) (Keep.of_wr W101).1) (Nat.le_of_eq g112.symm)
      have sz_b112 : h0.size ≤ b112 := Nat.le_trans K101.1 (Nat.le_of_eq g112.symm)
      have K112 : Keep h0 h112 [] := Keep.ext K101 E112
      have Sf112_b112 : Safe Z consts_1 s.vm h112 b112 := Safe.ext E112 C101.1 (Safe.new (Nat.le_of_eq g112.symm))
      have C112 : CHr Z consts_1 s.vm s.heap s.vm h112 := CHr.trans C101 (CHr.ext E112 C101.1)
      refine bW T112 (mkF m 90 #[vi len, vi x1, vi x2, vi x3, vi x4, vi 4, vi c0, vi c1, vi c2, vi c3, vr t93, uu, uu] [(.ref b112)]) (fun _ k => st112 _ k) ?_
      refine bW T112 (mkF m 91 #[vi len, vi x1, vi x2, vi x3, vi x4, vi 4, vi c0, vi c1, vi c2, vi c3, vr t93, uu, uu] [(.ref b112), (.ref b112)]) (fun _ k => XS.dup X112.here hx rfl (hb hby at_90) rfl rfl k) ?_
      refine bW T112 (mkF m 93 #[vi len, vi x1, vi x2, vi x3, vi x4, vi 4, vi c0, vi c1, vi c2, vi c3, vr t93, uu, uu] [(.ref t93), (.ref b112), (.ref b112)]) (fun _ k => XS.aload X112.here hx rfl (hb hby at_91) rfl rfl k) ?_
      obtain ⟨_, _, ⟨T113, L113, k113, n113⟩, -, X113, ⟨Lc113, hQ113, l113, y113, z113⟩, st113⟩ := X112.specialBack hx (y := yy6) rfl hown (mvT hZ (hw _ (mo 13 rfl))) (mvT hZ (hw _ (mo 14 rfl))) (mvT hZ (hw _ (mo 15 rfl))) (by decide) (backOf (W := 1) (siu1_4 l Z a0 hw [] b112 t93 kb93 cs c0 c1 c2 c3 h112 n0 (Nat.le_trans (Nat.le_trans (Nat.le_trans (Nat.le_trans (Nat.le_trans (Nat.le_trans Z0 K93.1) (Keep.of_wr W95).1) (Keep.of_wr W97).1) (Keep.of_wr W99).1) (Keep.of_wr W101).1) E112.1) E_b112 F_value_b112 F_coder_b112 g_b112 (Arv.ext VC E112) (Sta.ext ((Old.ext (Old.wr (Old.wr (Old.wr (Old.wr (Old.keep O0 K93 all0) W95 g_t93) W97 g_t93) W99 g_t93) W101 g_t93) E112)).2 S_CS) hcs (Old.ext (Old.wr (Old.wr (Old.wr (Old.wr (Old.keep O0 K93 all0) W95 g_t93) W97 g_t93) W99 g_t93) W101 g_t93) E112) S_AD S_HI S_LO hr0 hr1 hr2 hr3 hU) hZ (hw _ (mo 15 rfl)) (hw _ (mo 12 rfl)) (by decide) (by decide)) (g := (mkF m 93 #[vi len, vi x1, vi x2, vi x3, vi x4, vi 4, vi c0, vi c1, vi c2, vi c3, vr t93, uu, uu] [(.ref t93), (.ref b112), (.ref b112)])) rfl (by rw [hml]; rfl) (Steps.refl _) (a := b112) (argsL := [(.ref t93)]) (rest := [(.ref b112)]) (lenOf pd_20 rfl) rfl (Nat.le_of_eq rfl) (hb hby at_93) (fun _ _ => ⟨rfl, e112, (by decide : 4 ≤ _), (by decide : 20 ≤ _)⟩)
      dsimp only [Pt.U, Pt.locs, Pt.cells, Pt.slots] at X113 l113 y113 z113 st113 hQ113
      subst l113 y113 z113
      obtain ⟨rfl, N113q, K113, Fc113, t113, kb113, zt113, Fv113, V113⟩ := hQ113
      have N113 := Fr.app N101 N113q
      have KK113 : Keep h0 T113.heap [] := Keep.trans K112 K113 (allS (Or.inr sz_b112) all0)
      have Sf113_b112 : Safe Z consts_1 s.vm T113.heap b112 := Safe.keep K113 (sfS Sf112_b112 sf0) C112.1 Sf112_b112
      have C113 : CHr Z consts_1 s.vm s.heap s.vm T113.heap := CHr.trans C112 (CHr.keep K113 (sfS Sf112_b112 sf0) C112.1)
      have sz_t113 : h0.size ≤ t113 := Nat.le_trans K112.1 zt113
      have g_t113 : n0 ≤ t113 := Nat.le_trans Z0 sz_t113
      refine bW T113 (mkF m 96 #[vi len, vi x1, vi x2, vi x3, vi x4, vi 4, vi c0, vi c1, vi c2, vi c3, vr t93, uu, uu] [(.ref b112)]) (fun _ k => st113.trans k) ?_
      refine bW T113 (mkF m 98 #[vi len, vi x1, vi x2, vi x3, vi x4, vi 4, vi c0, vi c1, vi c2, vi c3, vr t93, vr b112, uu] []) (fun _ k => XS.astore X113.here hx rfl (hb hby at_96) rfl rfl rfl k) ?_
      refine bW T113 (mkF m 100 #[vi len, vi x1, vi x2, vi x3, vi x4, vi 4, vi c0, vi c1, vi c2, vi c3, vr t93, vr b112, uu] [(.int (4 : Int32))]) (fun _ k => XS.iload X113.here hx rfl (hb hby at_98) rfl k) ?_
      refine bW T113 (mkF m 103 #[vi len, vi x1, vi x2, vi x3, vi x4, vi 4, vi c0, vi c1, vi c2, vi c3, vr t93, vr b112, uu] []) (fun _ k => XS.ifNo X113.here hx rfl (hb hby at_100) rfl ((if0 _ _).trans (tlt (by decide)).2.2.2) k) ?_
      refine bW T113 (mkF m 105 #[vi len, vi x1, vi x2, vi x3, vi x4, vi 4, vi c0, vi c1, vi c2, vi c3, vr t93, vr b112, uu] [(.int c0)]) (fun _ k => XS.iload X113.here hx rfl (hb hby at_103) rfl k) ?_
      refine bW T113 (mkF m 107 #[vi len, vi x1, vi x2, vi x3, vi x4, vi 4, vi c0, vi c1, vi c2, vi c3, vr t93, vr b112, uu] [(.int (65533 : Int32)), (.int c0)]) (fun _ k => ldcI X113 hx hown (mvT hZ (hw _ (mo 79 rfl))) rfl (hb hby at_105) k) ?_
      have J115 : ∀ (j114 : Int32) (hv_j114 : j114 = (if c0 = (65533 : Int32) then (1 : Int32) else (if c1 = (65533 : Int32) then (1 : Int32) else (if c2 = (65533 : Int32) then (1 : Int32) else (if c3 = (65533 : Int32) then (1 : Int32) else (0 : Int32)))))) (T116 : State) (_ : Stand p l e room_1 (s.setVm s.vm) m #[(.int len), (.int x1), (.int x2), (.int x3), (.int x4)] below meth c T116 (((((((((L21 ++ Lc22) ++ Lc23) ++ Lc24) ++ Lc93) ++ [⟨t93, ((0 : Int32)).toNatClampNeg⟩]) ++ [⟨t93, ((1 : Int32)).toNatClampNeg⟩]) ++ [⟨t93, ((2 : Int32)).toNatClampNeg⟩]) ++ [⟨t93, ((3 : Int32)).toNatClampNeg⟩]) ++ Lc113) (((((((0 + 0) + 0) + 0) + 0) + 1) + 1) + 2) (((((((0 + 0) + 0) + 0) + 0) + 4) + 4) + 12)) (_ : T116.heap = T113.heap), own_GoW p.tables e below Z consts_1 (Q_rm0 Z len x1 x2 x3 x4 cs sf h0 n0) s 24 1152 T116 (mkF m 154 #[vi len, vi x1, vi x2, vi x3, vi x4, vi 4, vi c0, vi c1, vi c2, vi c3, vr t93, vr b112, uu] [(.int j114)]) := by
        intro j114 hv_j114 T116 X116 e116
        refine bW T116 (mkF m 156 #[vi len, vi x1, vi x2, vi x3, vi x4, vi 4, vi c0, vi c1, vi c2, vi c3, vr t93, vr b112, vi j114] []) (fun _ k => XS.istore X116.here hx rfl (hb hby at_154) rfl rfl k) ?_
        refine bW T116 (mkF m 158 #[vi len, vi x1, vi x2, vi x3, vi x4, vi 4, vi c0, vi c1, vi c2, vi c3, vr t93, vr b112, vi j114] [(.ref b112)]) (fun _ k => XS.aload X116.here hx rfl (hb hby at_156) rfl rfl k) ?_
        obtain ⟨_, _, ⟨T117, L117, k117, n117⟩, -, X117, ⟨Lc117, hQ117, l117, y117, z117⟩, st117⟩ := Jvm.LawKit.callS X116 hx (y := yy27) hown (mvT hZ (hw _ (mo 31 rfl))) (mvT hZ (hw _ (mo 32 rfl))) (mvT hZ (hw _ (mo 33 rfl))) (mvT hZ (hw _ (mo 34 rfl))) (by decide) (backOf (W := 0) (hub_u_4 l Z a0 hw [] b112 t113 kb113 cs c0 c1 c2 c3 sf T113.heap n0 (Nat.le_trans (Nat.le_trans (Nat.le_trans (Nat.le_trans (Nat.le_trans (Nat.le_trans (Nat.le_trans Z0 K93.1) (Keep.of_wr W95).1) (Keep.of_wr W97).1) (Keep.of_wr W99).1) (Keep.of_wr W101).1) E112.1) K113.1) (Exa.keep E_b112 K113) Fc113 Fv113 V113 (Sta.ext ((Old.keep (Old.ext (Old.wr (Old.wr (Old.wr (Old.wr (Old.keep O0 K93 all0) W95 g_t93) W97 g_t93) W99 g_t93) W101 g_t93) E112) K113 (allS g_b112 all0))).2 S_CS) hcs (Sta.ext ((Old.keep (Old.ext (Old.wr (Old.wr (Old.wr (Old.wr (Old.keep O0 K93 all0) W95 g_t93) W97 g_t93) W99 g_t93) W101 g_t93) E112) K113 (allS g_b112 all0))).2 S_AD) (Sta.ext ((Old.keep (Old.ext (Old.wr (Old.wr (Old.wr (Old.wr (Old.keep O0 K93 all0) W95 g_t93) W97 g_t93) W99 g_t93) W101 g_t93) E112) K113 (allS g_b112 all0))).2 S_HI) (Sta.ext ((Old.keep (Old.ext (Old.wr (Old.wr (Old.wr (Old.wr (Old.keep O0 K93 all0) W95 g_t93) W97 g_t93) W99 g_t93) W101 g_t93) E112) K113 (allS g_b112 all0))).2 S_LO) hsf (Sta.ext ((Old.keep (Old.ext (Old.wr (Old.wr (Old.wr (Old.wr (Old.keep O0 K93 all0) W95 g_t93) W97 g_t93) W99 g_t93) W101 g_t93) E112) K113 (allS g_b112 all0))).2 S_SF) hr0 hr1 hr2 hr3) hZ (hw _ (mo 34 rfl)) (hw _ (mo 33 rfl)) (by decide) (by decide)) (g := (mkF m 158 #[vi len, vi x1, vi x2, vi x3, vi x4, vi 4, vi c0, vi c1, vi c2, vi c3, vr t93, vr b112, vi j114] [(.ref b112)])) rfl (by rw [hml]; rfl) (argsL := [(.ref b112)]) (rest := []) (lenOf pd_21 rfl) rfl (Nat.le_of_eq rfl) (hb hby at_158) (fun _ _ => ⟨rfl, e116, (by decide : 4 ≤ _), (by decide : 20 ≤ _)⟩)
        dsimp only [Pt.U, Pt.locs, Pt.cells, Pt.slots] at X117 l117 y117 z117 st117 hQ117
        subst l117 y117 z117
        obtain ⟨rfl, N117q, e117⟩ := hQ117
        have N117 := Fr.app N113 N117q
        refine bW T117 (mkF m 161 #[vi len, vi x1, vi x2, vi x3, vi x4, vi 4, vi c0, vi c1, vi c2, vi c3, vr t93, vr b112, vi j114] [(.int (if (own_i4 c0 c1 c2 c3) < (0 : Int32) then (0 : Int32) else (1 : Int32)))]) (fun _ k => st117 _ k) ?_
        refine bW T117 (mkF m 163 #[vi len, vi x1, vi x2, vi x3, vi x4, vi 4, vi c0, vi c1, vi c2, vi c3, vr t93, vr b112, vi j114] [(.int j114), (.int (if (own_i4 c0 c1 c2 c3) < (0 : Int32) then (0 : Int32) else (1 : Int32)))]) (fun _ k => XS.iload X117.here hx rfl (hb hby at_161) rfl k) ?_
        refine bW T117 (mkF m 166 #[vi len, vi x1, vi x2, vi x3, vi x4, vi 4, vi c0, vi c1, vi c2, vi c3, vr t93, vr b112, vi j114] []) (fun _ k => XS.icmpNo X117.here hx rfl (hb hby at_163) rfl (teq (by rw [hv_j114]; exact own_f4 c0 c1 c2 c3)).2 k) ?_
        refine bW T117 (mkF m 167 #[vi len, vi x1, vi x2, vi x3, vi x4, vi 4, vi c0, vi c1, vi c2, vi c3, vr t93, vr b112, vi j114] [(.int (1 : Int32))]) (fun _ k => XS.iconst X117.here hx rfl (hb hby at_166) k) ?_
        refine bW T117 (mkF m 171 #[vi len, vi x1, vi x2, vi x3, vi x4, vi 4, vi c0, vi c1, vi c2, vi c3, vr t93, vr b112, vi j114] [(.int (1 : Int32))]) (fun _ k => XS.goto X117.here hx rfl (pc0 := 167) (pc' := 171) rfl (hb hby at_167) (by decide) (by decide) k) ?_
        refine own_retW (s := s) X117 hlk hS0 (by rw [e117]; exact (Nat.le_trans (Nat.le_trans (Nat.le_trans (Nat.le_trans (Nat.le_trans (Nat.le_trans (Nat.le_trans hk0 K93.1) (Keep.of_wr W95).1) (Keep.of_wr W97).1) (Keep.of_wr W99).1) (Keep.of_wr W101).1) E112.1) K113.1)) hZ hEL C113 e117 (v := some (.int (1 : Int32))) (nvr Bd.returns) (fun fs hr => retN X117 hx (t := .boolean) Bd.returns (by simp) (hb hby at_171) hr) ?_ (by decide) (by decide)
        rw [e117]
        exact ⟨rfl, N117⟩
      by_cases hc107_118 : c0 = (65533 : Int32)
      · skip
        refine bW T113 (mkF m 149 #[vi len, vi x1, vi x2, vi x3, vi x4, vi 4, vi c0, vi c1, vi c2, vi c3, vr t93, vr b112, uu] []) (fun _ k => XS.icmpYes X113.here hx rfl (pc0 := 107) (pc' := 149) rfl (hb hby at_107) rfl (teq hc107_118).1 (by decide) (by decide) k) ?_
        refine bW T113 (mkF m 150 #[vi len, vi x1, vi x2, vi x3, vi x4, vi 4, vi c0, vi c1, vi c2, vi c3, vr t93, vr b112, uu] [(.int (1 : Int32))]) (fun _ k => XS.iconst X113.here hx rfl (hb hby at_149) k) ?_
        refine bW T113 (mkF m 154 #[vi len, vi x1, vi x2, vi x3, vi x4, vi 4, vi c0, vi c1, vi c2, vi c3, vr t93, vr b112, uu] [(.int (1 : Int32))]) (fun _ k => XS.goto X113.here hx rfl (pc0 := 150) (pc' := 154) rfl (hb hby at_150) (by decide) (by decide) k) ?_
        exact J115 _ (if_pos hc107_118).symm T113 X113 rfl
      · skip
        refine bW T113 (mkF m 110 #[vi len, vi x1, vi x2, vi x3, vi x4, vi 4, vi c0, vi c1, vi c2, vi c3, vr t93, vr b112, uu] []) (fun _ k => XS.icmpNo X113.here hx rfl (hb hby at_107) rfl (feq hc107_118).1 k) ?_
        refine bW T113 (mkF m 112 #[vi len, vi x1, vi x2, vi x3, vi x4, vi 4, vi c0, vi c1, vi c2, vi c3, vr t93, vr b112, uu] [(.int (4 : Int32))]) (fun _ k => XS.iload X113.here hx rfl (hb hby at_110) rfl k) ?_
        refine bW T113 (mkF m 113 #[vi len, vi x1, vi x2, vi x3, vi x4, vi 4, vi c0, vi c1, vi c2, vi c3, vr t93, vr b112, uu] [(.int (1 : Int32)), (.int (4 : Int32))]) (fun _ k => XS.iconst X113.here hx rfl (hb hby at_112) k) ?_
        refine bW T113 (mkF m 116 #[vi len, vi x1, vi x2, vi x3, vi x4, vi 4, vi c0, vi c1, vi c2, vi c3, vr t93, vr b112, uu] []) (fun _ k => XS.icmpNo X113.here hx rfl (hb hby at_113) rfl (tlt (by decide)).2.2.2 k) ?_
        refine bW T113 (mkF m 118 #[vi len, vi x1, vi x2, vi x3, vi x4, vi 4, vi c0, vi c1, vi c2, vi c3, vr t93, vr b112, uu] [(.int c1)]) (fun _ k => XS.iload X113.here hx rfl (hb hby at_116) rfl k) ?_
        refine bW T113 (mkF m 120 #[vi len, vi x1, vi x2, vi x3, vi x4, vi 4, vi c0, vi c1, vi c2, vi c3, vr t93, vr b112, uu] [(.int (65533 : Int32)), (.int c1)]) (fun _ k => ldcI X113 hx hown (mvT hZ (hw _ (mo 79 rfl))) rfl (hb hby at_118) k) ?_
        by_cases hc120_119 : c1 = (65533 : Int32)
        · skip
          refine bW T113 (mkF m 149 #[vi len, vi x1, vi x2, vi x3, vi x4, vi 4, vi c0, vi c1, vi c2, vi c3, vr t93, vr b112, uu] []) (fun _ k => XS.icmpYes X113.here hx rfl (pc0 := 120) (pc' := 149) rfl (hb hby at_120) rfl (teq hc120_119).1 (by decide) (by decide) k) ?_
          refine bW T113 (mkF m 150 #[vi len, vi x1, vi x2, vi x3, vi x4, vi 4, vi c0, vi c1, vi c2, vi c3, vr t93, vr b112, uu] [(.int (1 : Int32))]) (fun _ k => XS.iconst X113.here hx rfl (hb hby at_149) k) ?_
          refine bW T113 (mkF m 154 #[vi len, vi x1, vi x2, vi x3, vi x4, vi 4, vi c0, vi c1, vi c2, vi c3, vr t93, vr b112, uu] [(.int (1 : Int32))]) (fun _ k => XS.goto X113.here hx rfl (pc0 := 150) (pc' := 154) rfl (hb hby at_150) (by decide) (by decide) k) ?_
          exact J115 _ ((if_neg hc107_118).trans (if_pos hc120_119)).symm T113 X113 rfl
        · skip
          refine bW T113 (mkF m 123 #[vi len, vi x1, vi x2, vi x3, vi x4, vi 4, vi c0, vi c1, vi c2, vi c3, vr t93, vr b112, uu] []) (fun _ k => XS.icmpNo X113.here hx rfl (hb hby at_120) rfl (feq hc120_119).1 k) ?_
          refine bW T113 (mkF m 125 #[vi len, vi x1, vi x2, vi x3, vi x4, vi 4, vi c0, vi c1, vi c2, vi c3, vr t93, vr b112, uu] [(.int (4 : Int32))]) (fun _ k => XS.iload X113.here hx rfl (hb hby at_123) rfl k) ?_
          refine bW T113 (mkF m 126 #[vi len, vi x1, vi x2, vi x3, vi x4, vi 4, vi c0, vi c1, vi c2, vi c3, vr t93, vr b112, uu] [(.int (2 : Int32)), (.int (4 : Int32))]) (fun _ k => XS.iconst X113.here hx rfl (hb hby at_125) k) ?_
          refine bW T113 (mkF m 129 #[vi len, vi x1, vi x2, vi x3, vi x4, vi 4, vi c0, vi c1, vi c2, vi c3, vr t93, vr b112, uu] []) (fun _ k => XS.icmpNo X113.here hx rfl (hb hby at_126) rfl (tlt (by decide)).2.2.2 k) ?_
          refine bW T113 (mkF m 131 #[vi len, vi x1, vi x2, vi x3, vi x4, vi 4, vi c0, vi c1, vi c2, vi c3, vr t93, vr b112, uu] [(.int c2)]) (fun _ k => XS.iload X113.here hx rfl (hb hby at_129) rfl k) ?_
          refine bW T113 (mkF m 133 #[vi len, vi x1, vi x2, vi x3, vi x4, vi 4, vi c0, vi c1, vi c2, vi c3, vr t93, vr b112, uu] [(.int (65533 : Int32)), (.int c2)]) (fun _ k => ldcI X113 hx hown (mvT hZ (hw _ (mo 79 rfl))) rfl (hb hby at_131) k) ?_
          by_cases hc133_120 : c2 = (65533 : Int32)
          · skip
            refine bW T113 (mkF m 149 #[vi len, vi x1, vi x2, vi x3, vi x4, vi 4, vi c0, vi c1, vi c2, vi c3, vr t93, vr b112, uu] []) (fun _ k => XS.icmpYes X113.here hx rfl (pc0 := 133) (pc' := 149) rfl (hb hby at_133) rfl (teq hc133_120).1 (by decide) (by decide) k) ?_
            refine bW T113 (mkF m 150 #[vi len, vi x1, vi x2, vi x3, vi x4, vi 4, vi c0, vi c1, vi c2, vi c3, vr t93, vr b112, uu] [(.int (1 : Int32))]) (fun _ k => XS.iconst X113.here hx rfl (hb hby at_149) k) ?_
            refine bW T113 (mkF m 154 #[vi len, vi x1, vi x2, vi x3, vi x4, vi 4, vi c0, vi c1, vi c2, vi c3, vr t93, vr b112, uu] [(.int (1 : Int32))]) (fun _ k => XS.goto X113.here hx rfl (pc0 := 150) (pc' := 154) rfl (hb hby at_150) (by decide) (by decide) k) ?_
            exact J115 _ (((if_neg hc107_118).trans (if_neg hc120_119)).trans (if_pos hc133_120)).symm T113 X113 rfl
          · skip
            refine bW T113 (mkF m 136 #[vi len, vi x1, vi x2, vi x3, vi x4, vi 4, vi c0, vi c1, vi c2, vi c3, vr t93, vr b112, uu] []) (fun _ k => XS.icmpNo X113.here hx rfl (hb hby at_133) rfl (feq hc133_120).1 k) ?_
            refine bW T113 (mkF m 138 #[vi len, vi x1, vi x2, vi x3, vi x4, vi 4, vi c0, vi c1, vi c2, vi c3, vr t93, vr b112, uu] [(.int (4 : Int32))]) (fun _ k => XS.iload X113.here hx rfl (hb hby at_136) rfl k) ?_
            refine bW T113 (mkF m 139 #[vi len, vi x1, vi x2, vi x3, vi x4, vi 4, vi c0, vi c1, vi c2, vi c3, vr t93, vr b112, uu] [(.int (3 : Int32)), (.int (4 : Int32))]) (fun _ k => XS.iconst X113.here hx rfl (hb hby at_138) k) ?_
            refine bW T113 (mkF m 142 #[vi len, vi x1, vi x2, vi x3, vi x4, vi 4, vi c0, vi c1, vi c2, vi c3, vr t93, vr b112, uu] []) (fun _ k => XS.icmpNo X113.here hx rfl (hb hby at_139) rfl (tlt (by decide)).2.2.2 k) ?_
            refine bW T113 (mkF m 144 #[vi len, vi x1, vi x2, vi x3, vi x4, vi 4, vi c0, vi c1, vi c2, vi c3, vr t93, vr b112, uu] [(.int c3)]) (fun _ k => XS.iload X113.here hx rfl (hb hby at_142) rfl k) ?_
            refine bW T113 (mkF m 146 #[vi len, vi x1, vi x2, vi x3, vi x4, vi 4, vi c0, vi c1, vi c2, vi c3, vr t93, vr b112, uu] [(.int (65533 : Int32)), (.int c3)]) (fun _ k => ldcI X113 hx hown (mvT hZ (hw _ (mo 79 rfl))) rfl (hb hby at_144) k) ?_
            by_cases hc146_121 : c3 = (65533 : Int32)
            · skip
              refine bW T113 (mkF m 149 #[vi len, vi x1, vi x2, vi x3, vi x4, vi 4, vi c0, vi c1, vi c2, vi c3, vr t93, vr b112, uu] []) (fun _ k => XS.icmpNo X113.here hx rfl (hb hby at_146) rfl (teq hc146_121).2 k) ?_
              refine bW T113 (mkF m 150 #[vi len, vi x1, vi x2, vi x3, vi x4, vi 4, vi c0, vi c1, vi c2, vi c3, vr t93, vr b112, uu] [(.int (1 : Int32))]) (fun _ k => XS.iconst X113.here hx rfl (hb hby at_149) k) ?_
              refine bW T113 (mkF m 154 #[vi len, vi x1, vi x2, vi x3, vi x4, vi 4, vi c0, vi c1, vi c2, vi c3, vr t93, vr b112, uu] [(.int (1 : Int32))]) (fun _ k => XS.goto X113.here hx rfl (pc0 := 150) (pc' := 154) rfl (hb hby at_150) (by decide) (by decide) k) ?_
              exact J115 _ ((((if_neg hc107_118).trans (if_neg hc120_119)).trans (if_neg hc133_120)).trans (if_pos hc146_121)).symm T113 X113 rfl
            · skip
              refine bW T113 (mkF m 153 #[vi len, vi x1, vi x2, vi x3, vi x4, vi 4, vi c0, vi c1, vi c2, vi c3, vr t93, vr b112, uu] []) (fun _ k => XS.icmpYes X113.here hx rfl (pc0 := 146) (pc' := 153) rfl (hb hby at_146) rfl (feq hc146_121).2 (by decide) (by decide) k) ?_
              refine bW T113 (mkF m 154 #[vi len, vi x1, vi x2, vi x3, vi x4, vi 4, vi c0, vi c1, vi c2, vi c3, vr t93, vr b112, uu] [(ii 0)]) (fun _ k => XS.iconst X113.here hx rfl (hb hby at_153) k) ?_
              exact J115 _ ((((if_neg hc107_118).trans (if_neg hc120_119)).trans (if_neg hc133_120)).trans (if_neg hc146_121)).symm T113 X113 rfl
theorem comes_1 {Post : Tables → Env → Array Value → State → Outcome → State → Prop} (hpost : ∀ tb e args s v u, (limb_1_1.after args s (.returned v) u = true ∧ limb_1_2.after args s (.returned v) u = true ∧ True) → ReturnedEndW s (.returned v) u (Jvm.fieldLocs frame_1_writes args s ++ Jvm.arrayLocs frame_1_arrays args s ++ Jvm.staticLocs frame_1_statics s) 24 1152 → Post tb e args s (.returned v) u) :
    ArmFor flags0 classFile x code maxLocals ret World_1 tables_1 room_1 Calls_1 rest_1 Pre_1 Post := by
  intro l hfl _ _ p e ha hc hk s m args below hf hA hF happ hP
  obtain ⟨hcalls, hrest, hpre⟩ := hP
  obtain ⟨-, -, -, hnamed, -, -, -, hat⟩ := (Spec.applies_iff hf).mp happ
  obtain ⟨hg, hn⟩ := and_e (Cond.before_iff.mp (show (Jvm.Cond.and given_1 narrow_1).before args s = true from hpre))
  obtain ⟨g1, g2⟩ := and_e hg
  obtain ⟨g3, g4⟩ := and_e g2
  obtain ⟨g5, g6⟩ := and_e g4
  obtain ⟨g7, g8⟩ := and_e g6
  obtain ⟨g9, g10⟩ := and_e g8
  obtain ⟨w0, w1, w2, w3, w4, rfl⟩ : ∃ w0 w1 w2 w3 w4 : Value, args = #[w0, w1, w2, w3, w4] := by
    have hs : args.size = 5 := by simpa [Cond.value, given_1] using g1
    obtain ⟨L⟩ := args
    match L, hs with
    | [w0, w1, w2, w3, w4], _ => exact ⟨w0, w1, w2, w3, w4, rfl⟩
  have hw := fun d (hd : d ∈ tables_1) => atoms_spec (ws := Jvm.Cond.code x code maxLocals ret :: tables_1) hat d (List.mem_cons_of_mem _ hd)
  have hfit : Fit s := fun {y c} hc i hi => by
    obtain ⟨ha, rfl⟩ := Array.getElem?_eq_some_iff.mp hc
    have q := List.all_eq_true.mp ((Array.all_eq_true_iff_forall_mem.mp hF) _ (Array.getElem_mem ha)) i (List.mem_range.mpr hi)
    simpa [Array.getElem?_eq_getElem hi] using q
  obtain ⟨hsets, hown0⟩ := atoms_of _ (rest_1_c_eq ▸ (show rest_1_c.before _ s = true from hrest))
  have hr0 := Cond.before_iff.mp hown0
  obtain ⟨i0, ei0⟩ := is_v g3
  obtain rfl : w0 = (.int i0) := Option.some.inj ei0
  obtain ⟨i1, ei1⟩ := is_v g5
  obtain rfl : w1 = (.int i1) := Option.some.inj ei1
  obtain ⟨i2, ei2⟩ := is_v g7
  obtain rfl : w2 = (.int i2) := Option.some.inj ei2
  obtain ⟨i3, ei3⟩ := is_v g9
  obtain rfl : w3 = (.int i3) := Option.some.inj ei3
  obtain ⟨i4, ei4⟩ := is_v g10
  obtain rfl : w4 = (.int i4) := Option.some.inj ei4
  obtain ⟨cs, ecs⟩ := is_v (Cond.before_iff.mp (hsets _ (mo 1 rfl)))
  have S_CS : Sta s s.heap "java/lang/String" "COMPACT_STRINGS" "Z" (.int cs) := Sta.start ecs (Or.inl (hsets _ (mo 0 rfl)))
  have hcs : ¬ cs = (0 : Int32) := own_ne0 ecs (hsets _ (mo 2 rfl))
  obtain ⟨sf, esf, hsf⟩ := isR_v (Cond.before_iff.mp (hsets _ (mo 8 rfl)))
  have S_SF : Sta s s.heap "jdk/internal/util/Preconditions" "SIOOBE_FORMATTER" "Ljava/util/function/BiFunction;" sf := Sta.start esf (Or.inl (hsets _ (mo 7 rfl)))
  have S_AD : Sta s s.heap "java/lang/StringUTF16" "$assertionsDisabled" "Z" (.int (1 : Int32)) := Sta.start (own_eqi (Cond.before_iff.mp (hsets _ (mo 12 rfl)))) (Or.inl (hsets _ (mo 11 rfl)))
  have S_HI : Sta s s.heap "java/lang/StringUTF16" "HI_BYTE_SHIFT" "I" (ii 0) := Sta.start (own_eqi (Cond.before_iff.mp (hsets _ (mo 15 rfl)))) (Or.inl (hsets _ (mo 14 rfl)))
  have S_LO : Sta s s.heap "java/lang/StringUTF16" "LO_BYTE_SHIFT" "I" (.int (8 : Int32)) := Sta.start (own_eqi (Cond.before_iff.mp (hsets _ (mo 18 rfl)))) (Or.inl (hsets _ (mo 17 rfl)))
  have hCH : CHv s consts_1 s.vm s.heap := CHv.start (own_EL hw) (fun p hp => hcalls.1 p hp) (hsets _ (mo 2 rfl)) (hw _ (mo 24 rfl)) (hw _ (mo 11 rfl))
  obtain ⟨n, o, h1, h2, h3, _, L, rfl, ⟨rfl, N⟩, hCr, hq⟩ := rm0 l s _ hw tables_1 i0 i1 i2 i3 i4 cs sf s.heap s.heap.size (Nat.le_refl _) (Old.start s) S_CS hcs hsf S_SF S_AD S_HI S_LO p e ha hc hk s m _ below hf ((Spec.applies_iff_loose hf).mp happ).1 ⟨rfl, State.Warmed39.refl s, rfl, hCH, trivial⟩ trivial
  refine ⟨n, _, h1, h2, h3, hpost _ _ _ _ _ _ ⟨Cond.after_iff.mpr rfl, Cond.after_iff.mpr (eq_i res_at (Term.int_eval (1)) rfl), trivial⟩ ⟨hq.1, hq.2.1, hq.2.2.1, (hq.2.2.2.sift fun y hy => Or.inr (N y hy)).mono (by decide) (by decide)⟩⟩
theorem main_1_1 : Claimed_1_1 := comes_1 fun _ _ _ _ _ _ h hF => ⟨h.1, hF⟩
theorem main_1_2 : Claimed_1_2 := comes_1 fun _ _ _ _ _ _ h hF => ⟨h.2.1, hF⟩
end Jvm.Pilot.@@N@@
namespace Jvm.Pilot.@@N@@
open Jvm Jvm.ClassFile Sem Op Lib Jvm.Free Jvm.Stand Jvm.Pilot.@@N@@.Jvm.D
/-! MADE BY PROGRAM (witnessworld.py) out of the Statement's table words and the real class files: 21 classes; the members and pool entries that the words name. The judged class is class 1, her method 3. -/
namespace start1
open Jvm.ClassFile
def u (s : String) : CpInfo := .utf8 (stringToUtf16 s)
/-- a pool by its gaps: so many unusable entries, then the entry; so many at the end -/
def gap : Nat → List CpInfo → List CpInfo
  | 0, r => r
  | n + 1, r => .unusable :: gap n r
def poolList (es : List (Nat × CpInfo)) (last : Nat) : List CpInfo := es.foldr (fun e r => gap e.1 (e.2 :: r)) (gap last [])
def pool (es : List (Nat × CpInfo)) (last : Nat) : Array CpInfo := ⟨poolList es last⟩
def fileOf (pool : Array CpInfo) (this : Nat) (attrs : Array Attribute := #[]) (ms : Array MethodInfo := #[]) (fl : Nat := 33) (sup : Nat := 0) (ifs : Array Nat := #[]) (fds : Array FieldInfo := #[]) : ClassFile where
  minorVersion := 0
  majorVersion := 65
  constantPool := pool
  accessFlags := fl
  thisClass := this
  superClass := sup
  interfaces := ifs
  fields := fds
  methods := ms
  attributes := attrs
def plain (name : String) (sup : Option ClassId) : Class where
  name := name
  kind := .ordinary
  loader := none
  accessFlags := 33
  super := sup
  interfaces := #[]
  cf := none
  fields := #[]
  methods := #[]
  instanceTypes := #[]
  staticTypes := #[]
  resolved := #[]
  callSites := []
  init := .initialized
  statics := none
  mirror := none

def pool0 : Array CpInfo := pool [(5, u "<init>"), (0, u "()V"), (1, .class_ 10), (1, u "java/lang/Object")] 113

def k0c0 : Code := { maxStack := 0, maxLocals := 1, code := object_method_1_code, exceptionTable := #[], attributes := #[] }
def k0m0 : Method := { name := "<init>", desc := "()V", sig := { parameters := [], returnType := none }, accessFlags := 1, code := some k0c0 }
/-- java/lang/Object -/
def k0 : Class := { plain "java/lang/Object" none with
  accessFlags := 33
  interfaces := #[]
  cf := some (fileOf pool0 8 #[] #[{ accessFlags := 1, nameIndex := 5, descriptorIndex := 6, attributes := #[] }] 33 0 #[] #[])
  fields := #[]
  methods := #[k0m0]
  instanceTypes := #[]
  staticTypes := #[]
  resolved := Array.replicate 124 none
  statics := none }

def pool1 : Array CpInfo := pool [(2, .class_ 4), (1, u "java/lang/Object"), (0, u "<init>"), (0, u "()V"), (0, .integer 65533), (0, .integer 65535), (0, .integer 2147483647), (0, .methodref 11 12), (0, .class_ 13), (0, .nameAndType 14 15), (0, u "com/example/shelfgraph/shelfgraph/ingest/CommandLineTextHasUndecodedBytesPinLaw"), (0, u "ch"), (0, u "(I)C"), (0, .methodref 11 17), (0, .nameAndType 18 19), (0, u "make"), (0, u "(I)[C"), (0, .class_ 21), (0, u "java/lang/String"), (0, .methodref 20 23), (0, .nameAndType 5 24), (0, u "([C)V"), (0, .methodref 26 27), (0, .class_ 28), (0, .nameAndType 29 30), (0, u "com/example/shelfgraph/shelfgraph/ingest/CommandLineText"), (0, u "hasUndecodedBytes"), (0, u "(Ljava/lang/String;)Z"), (3, u "law"), (0, u "(IIIII)Z")] 4

def k1m0 : Method := { name := "<init>", desc := "()V", sig := { parameters := [], returnType := none }, accessFlags := 2, code := none }
def k1c1 : Code := { maxStack := 2, maxLocals := 1, code := method_2_code, exceptionTable := #[], attributes := #[] }
def k1m1 : Method := { name := "ch", desc := "(I)C", sig := { parameters := [.int], returnType := some .char }, accessFlags := 10, code := some k1c1 }
def k1c2 : Code := { maxStack := 2, maxLocals := 1, code := method_3_code, exceptionTable := #[], attributes := #[] }
def k1m2 : Method := { name := "make", desc := "(I)[C", sig := { parameters := [.int], returnType := some (.array .char) }, accessFlags := 10, code := some k1c2 }
def k1c3 : Code := { maxStack := 3, maxLocals := 13, code := code, exceptionTable := #[], attributes := #[] }
def k1m3 : Method := { name := "law", desc := "(IIIII)Z", sig := { parameters := [.int, .int, .int, .int, .int], returnType := some .boolean }, accessFlags := 9, code := some k1c3 }
/-- com/example/shelfgraph/shelfgraph/ingest/CommandLineTextHasUndecodedBytesPinLaw -/
def k1 : Class := { plain "com/example/shelfgraph/shelfgraph/ingest/CommandLineTextHasUndecodedBytesPinLaw" (some 0) with
  accessFlags := 49
  interfaces := #[]
  cf := some (fileOf pool1 11 #[] #[{ accessFlags := 2, nameIndex := 5, descriptorIndex := 6, attributes := #[] }, { accessFlags := 10, nameIndex := 14, descriptorIndex := 15, attributes := #[] }, { accessFlags := 10, nameIndex := 18, descriptorIndex := 19, attributes := #[] }, { accessFlags := 9, nameIndex := 34, descriptorIndex := 35, attributes := #[] }] 49 2 #[] #[])
  fields := #[]
  methods := #[k1m0, k1m1, k1m2, k1m3]
  instanceTypes := #[]
  staticTypes := #[]
  resolved := Array.replicate 40 none
  statics := none }

def pool2 : Array CpInfo := pool [(1, .class_ 2), (0, u "java/io/Serializable"), (0, .class_ 4), (0, u "java/lang/Object")] 2

/-- java/io/Serializable -/
def k2 : Class := { plain "java/io/Serializable" (some 0) with
  accessFlags := 1537
  interfaces := #[]
  cf := some (fileOf pool2 1 #[] #[] 1537 3 #[] #[])
  fields := #[]
  methods := #[]
  instanceTypes := #[]
  staticTypes := #[]
  resolved := Array.replicate 7 none
  statics := none }

def pool3 : Array CpInfo := pool [(1, .class_ 2), (0, u "java/lang/Comparable"), (0, .class_ 4), (0, u "java/lang/Object")] 7

/-- java/lang/Comparable -/
def k3 : Class := { plain "java/lang/Comparable" (some 0) with
  accessFlags := 1537
  interfaces := #[]
  cf := some (fileOf pool3 1 #[] #[] 1537 3 #[] #[])
  fields := #[]
  methods := #[]
  instanceTypes := #[]
  staticTypes := #[]
  resolved := Array.replicate 12 none
  statics := none }

def pool4 : Array CpInfo := pool [(2, .class_ 4), (1, u "java/lang/CharSequence"), (42, .class_ 48), (0, u "java/lang/CharSequence$1CodePointIterator"), (10, .class_ 60), (0, u "java/lang/CharSequence$1CharIterator"), (5, .class_ 67), (0, u "java/lang/Object")] 63

/-- java/lang/CharSequence -/
def k4 : Class := { plain "java/lang/CharSequence" (some 0) with
  accessFlags := 1537
  interfaces := #[]
  cf := some (fileOf pool4 2 #[.nestMembers #[47, 59]] #[] 1537 66 #[] #[])
  fields := #[]
  methods := #[]
  instanceTypes := #[]
  staticTypes := #[]
  resolved := Array.replicate 131 none
  statics := none }

def pool5 : Array CpInfo := pool [(1, .class_ 2), (0, u "java/lang/constant/Constable"), (0, .class_ 4), (0, u "java/lang/Object")] 6

/-- java/lang/constant/Constable -/
def k5 : Class := { plain "java/lang/constant/Constable" (some 0) with
  accessFlags := 1537
  interfaces := #[]
  cf := some (fileOf pool5 1 #[] #[] 1537 3 #[] #[])
  fields := #[]
  methods := #[]
  instanceTypes := #[]
  staticTypes := #[]
  resolved := Array.replicate 11 none
  statics := none }

def pool6 : Array CpInfo := pool [(1, .class_ 2), (0, u "java/lang/constant/ConstantDesc"), (0, .class_ 4), (0, u "java/lang/Object")] 32

/-- java/lang/constant/ConstantDesc -/
def k6 : Class := { plain "java/lang/constant/ConstantDesc" (some 0) with
  accessFlags := 1537
  interfaces := #[]
  cf := some (fileOf pool6 1 #[] #[] 1537 3 #[] #[])
  fields := #[]
  methods := #[]
  instanceTypes := #[]
  staticTypes := #[]
  resolved := Array.replicate 37 none
  statics := none }

def pool7 : Array CpInfo := pool [(1, .methodref 2 3), (0, .class_ 4), (0, .nameAndType 5 6), (0, u "java/lang/Object"), (0, u "<init>"), (0, u "()V"), (0, .string 8), (0, u ""), (0, .fieldref 10 11), (0, .class_ 12), (0, .nameAndType 13 14), (0, u "java/lang/String"), (0, u "value"), (0, u "[B"), (0, .fieldref 10 16), (0, .nameAndType 17 18), (0, u "coder"), (0, u "B"), (2, u "hash"), (0, u "I"), (2, u "hashIsZero"), (0, u "Z"), (0, .methodref 10 28), (0, .nameAndType 5 29), (0, u "([CIILjava/lang/Void;)V"), (8, .fieldref 10 39), (0, .nameAndType 40 26), (0, u "COMPACT_STRINGS"), (1, .class_ 44), (1, u "java/lang/StringUTF16"), (0, u "compress"), (1, .methodref 42 48), (0, .nameAndType 49 50), (0, u "coderFromArrayLen"), (0, u "([BI)B"), (56, .class_ 109), (1, u "java/lang/StringLatin1"), (32, u "()Z"), (34, .methodref 42 178), (0, .nameAndType 45 179), (0, u "([CII)[B"), (154, u "()I"), (0, .methodref 10 336), (0, .nameAndType 17 337), (0, u "()B"), (154, .methodref 10 493), (0, .nameAndType 494 142), (0, u "isLatin1"), (10, .methodref 10 506), (0, .nameAndType 507 334), (0, u "length"), (5, u "checkFromToIndex"), (9, u "checkBoundsBeginEnd"), (0, u "(III)V"), (50, .class_ 576), (0, u "java/lang/CharSequence"), (22, u "CASE_INSENSITIVE_ORDER"), (0, u "Ljava/util/Comparator;"), (32, .methodref 10 634), (0, .nameAndType 635 636), (0, u "indexOf"), (0, u "(II)I"), (0, .methodref 107 638), (0, .nameAndType 635 639), (0, u "([BIII)I"), (0, .methodref 42 638), (124, u "(I)I"), (244, u "([C)V"), (42, .fieldref 1054 1055), (0, .class_ 1056), (0, .nameAndType 1057 1058), (0, u "jdk/internal/util/Preconditions"), (0, u "SIOOBE_FORMATTER"), (0, u "Ljava/util/function/BiFunction;"), (3, .methodref 1054 1063), (0, .nameAndType 513 1064), (0, u "(IIILjava/util/function/BiFunction;)I"), (36, u "serialPersistentFields"), (0, u "[Ljava/io/ObjectStreamField;"), (0, .class_ 1104), (0, u "java/lang/String$CaseInsensitiveComparator"), (1, .class_ 1107), (0, u "java/io/Serializable"), (0, .class_ 1109), (0, u "java/lang/Comparable"), (0, .class_ 1111), (0, u "java/lang/constant/Constable"), (0, .class_ 1113), (0, u "java/lang/constant/ConstantDesc"), (2, u "serialVersionUID"), (0, u "J"), (3, u "REPL"), (0, u "C"), (2, u "LATIN1"), (1, u "UTF16")] 323

def k7m0 : Method := { name := "<init>", desc := "()V", sig := { parameters := [], returnType := none }, accessFlags := 1, code := none }
def k7c1 : Code := { maxStack := 5, maxLocals := 2, code := jdk_42_method_3_code, exceptionTable := #[], attributes := #[] }
def k7m1 : Method := { name := "<init>", desc := "([C)V", sig := { parameters := [(.array .char)], returnType := none }, accessFlags := 1, code := some k7c1 }
def k7c2 : Code := { maxStack := 2, maxLocals := 1, code := jdk_42_method_54_code, exceptionTable := #[], attributes := #[] }
def k7m2 : Method := { name := "length", desc := "()I", sig := { parameters := [], returnType := some .int }, accessFlags := 1, code := some k7c2 }
def k7c3 : Code := { maxStack := 3, maxLocals := 2, code := jdk_42_method_79_code, exceptionTable := #[], attributes := #[] }
def k7m3 : Method := { name := "indexOf", desc := "(I)I", sig := { parameters := [.int], returnType := some .int }, accessFlags := 1, code := some k7c3 }
def k7c4 : Code := { maxStack := 4, maxLocals := 3, code := jdk_42_method_80_code, exceptionTable := #[], attributes := #[] }
def k7m4 : Method := { name := "indexOf", desc := "(II)I", sig := { parameters := [.int, .int], returnType := some .int }, accessFlags := 1, code := some k7c4 }
def k7c5 : Code := { maxStack := 4, maxLocals := 6, code := jdk_42_method_149_code, exceptionTable := #[], attributes := #[] }
def k7m5 : Method := { name := "<init>", desc := "([CIILjava/lang/Void;)V", sig := { parameters := [(.array .char), .int, .int, (.object "java/lang/Void")], returnType := none }, accessFlags := 2, code := some k7c5 }
def k7c6 : Code := { maxStack := 1, maxLocals := 1, code := jdk_42_method_152_code, exceptionTable := #[], attributes := #[] }
def k7m6 : Method := { name := "coder", desc := "()B", sig := { parameters := [], returnType := some .byte }, accessFlags := 0, code := some k7c6 }
def k7c7 : Code := { maxStack := 1, maxLocals := 1, code := jdk_42_method_154_code, exceptionTable := #[], attributes := #[] }
def k7m7 : Method := { name := "isLatin1", desc := "()Z", sig := { parameters := [], returnType := some .boolean }, accessFlags := 0, code := some k7c7 }
def k7c8 : Code := { maxStack := 4, maxLocals := 3, code := jdk_42_method_158_code, exceptionTable := #[], attributes := #[] }
def k7m8 : Method := { name := "checkBoundsBeginEnd", desc := "(III)V", sig := { parameters := [.int, .int, .int], returnType := none }, accessFlags := 8, code := some k7c8 }
/-- java/lang/String -/
def k7 : Class := { plain "java/lang/String" (some 0) with
  accessFlags := 49
  interfaces := #[2, 3, 4, 5, 6]
  cf := some (fileOf pool7 10 #[.nestMembers #[1103]] #[{ accessFlags := 1, nameIndex := 5, descriptorIndex := 6, attributes := #[] }, { accessFlags := 1, nameIndex := 5, descriptorIndex := 1010, attributes := #[] }, { accessFlags := 1, nameIndex := 507, descriptorIndex := 334, attributes := #[] }, { accessFlags := 1, nameIndex := 635, descriptorIndex := 765, attributes := #[] }, { accessFlags := 1, nameIndex := 635, descriptorIndex := 636, attributes := #[] }, { accessFlags := 2, nameIndex := 5, descriptorIndex := 29, attributes := #[] }, { accessFlags := 0, nameIndex := 17, descriptorIndex := 337, attributes := #[] }, { accessFlags := 0, nameIndex := 494, descriptorIndex := 142, attributes := #[] }, { accessFlags := 8, nameIndex := 523, descriptorIndex := 524, attributes := #[] }] 49 2 #[1106, 1108, 575, 1110, 1112] #[{ accessFlags := 18, nameIndex := 13, descriptorIndex := 14, attributes := #[] }, { accessFlags := 18, nameIndex := 17, descriptorIndex := 18, attributes := #[] }, { accessFlags := 2, nameIndex := 21, descriptorIndex := 22, attributes := #[] }, { accessFlags := 2, nameIndex := 25, descriptorIndex := 26, attributes := #[] }, { accessFlags := 26, nameIndex := 1116, descriptorIndex := 1117, attributes := #[] }, { accessFlags := 24, nameIndex := 40, descriptorIndex := 26, attributes := #[] }, { accessFlags := 26, nameIndex := 1101, descriptorIndex := 1102, attributes := #[] }, { accessFlags := 26, nameIndex := 1121, descriptorIndex := 1122, attributes := #[] }, { accessFlags := 25, nameIndex := 599, descriptorIndex := 600, attributes := #[] }, { accessFlags := 24, nameIndex := 1125, descriptorIndex := 18, attributes := #[] }, { accessFlags := 24, nameIndex := 1127, descriptorIndex := 18, attributes := #[] }])
  fields := #[{ name := "value", type := (.array .byte), accessFlags := 18, slot := 0, constantValue := 0 }, { name := "coder", type := .byte, accessFlags := 18, slot := 1, constantValue := 0 }, { name := "hash", type := .int, accessFlags := 2, slot := 2, constantValue := 0 }, { name := "hashIsZero", type := .boolean, accessFlags := 2, slot := 3, constantValue := 0 }, { name := "serialVersionUID", type := .long, accessFlags := 26, slot := 0, constantValue := 0 }, { name := "COMPACT_STRINGS", type := .boolean, accessFlags := 24, slot := 1, constantValue := 0 }, { name := "serialPersistentFields", type := (.array (.object "java/io/ObjectStreamField")), accessFlags := 26, slot := 2, constantValue := 0 }, { name := "REPL", type := .char, accessFlags := 26, slot := 3, constantValue := 0 }, { name := "CASE_INSENSITIVE_ORDER", type := (.object "java/util/Comparator"), accessFlags := 25, slot := 4, constantValue := 0 }, { name := "LATIN1", type := .byte, accessFlags := 24, slot := 5, constantValue := 0 }, { name := "UTF16", type := .byte, accessFlags := 24, slot := 6, constantValue := 0 }]
  methods := #[k7m0, k7m1, k7m2, k7m3, k7m4, k7m5, k7m6, k7m7, k7m8]
  instanceTypes := #[(.array .byte), .byte, .int, .boolean]
  staticTypes := #[.long, .boolean, (.array (.object "java/io/ObjectStreamField")), .char, (.object "java/util/Comparator"), .byte, .byte]
  resolved := Array.replicate 1451 none
  statics := some 0 }

def pool8 : Array CpInfo := pool [(2, .class_ 4), (1, u "java/lang/Object"), (0, u "<init>"), (0, u "()V"), (0, .integer 65533), (0, .methodref 9 10), (0, .class_ 11), (0, .nameAndType 12 13), (0, u "java/lang/String"), (0, u "indexOf"), (0, u "(I)I"), (27, .class_ 42), (0, u "com/example/shelfgraph/shelfgraph/ingest/CommandLineText"), (2, u "hasUndecodedBytes"), (0, u "(Ljava/lang/String;)Z")] 19

def k8m0 : Method := { name := "<init>", desc := "()V", sig := { parameters := [], returnType := none }, accessFlags := 2, code := none }
def k8c1 : Code := { maxStack := 2, maxLocals := 1, code := prog_8_method_2_code, exceptionTable := #[], attributes := #[] }
def k8m1 : Method := { name := "hasUndecodedBytes", desc := "(Ljava/lang/String;)Z", sig := { parameters := [(.object "java/lang/String")], returnType := some .boolean }, accessFlags := 9, code := some k8c1 }
/-- com/example/shelfgraph/shelfgraph/ingest/CommandLineText -/
def k8 : Class := { plain "com/example/shelfgraph/shelfgraph/ingest/CommandLineText" (some 0) with
  accessFlags := 49
  interfaces := #[]
  cf := some (fileOf pool8 41 #[] #[{ accessFlags := 2, nameIndex := 5, descriptorIndex := 6, attributes := #[] }, { accessFlags := 9, nameIndex := 45, descriptorIndex := 46, attributes := #[] }] 49 2 #[] #[])
  fields := #[]
  methods := #[k8m0, k8m1]
  instanceTypes := #[]
  staticTypes := #[]
  resolved := Array.replicate 66 none
  statics := none }

def pool9 : Array CpInfo := pool [(4, .class_ 6), (1, u "java/lang/Object"), (0, u "<init>"), (0, u "()V"), (5, .class_ 16), (1, u "java/lang/StringLatin1"), (71, .methodref 14 89), (0, .nameAndType 90 91), (0, u "canEncode"), (0, u "(I)Z"), (6, u "([BIII)I"), (2, u "indexOf"), (19, u "$assertionsDisabled"), (0, u "Z"), (98, .class_ 223), (1, u "java/lang/StringLatin1$LinesSpliterator"), (166, .class_ 391), (0, u "java/lang/StringLatin1$CharsSpliterator")] 3

def k9m0 : Method := { name := "<init>", desc := "()V", sig := { parameters := [], returnType := none }, accessFlags := 0, code := none }
def k9c1 : Code := { maxStack := 2, maxLocals := 1, code := jdk_43_method_4_code, exceptionTable := #[], attributes := #[] }
def k9m1 : Method := { name := "canEncode", desc := "(I)Z", sig := { parameters := [.int], returnType := some .boolean }, accessFlags := 9, code := some k9c1 }
def k9c2 : Code := { maxStack := 4, maxLocals := 4, code := jdk_43_method_22_code, exceptionTable := #[], attributes := #[] }
def k9m2 : Method := { name := "indexOf", desc := "([BIII)I", sig := { parameters := [(.array .byte), .int, .int, .int], returnType := some .int }, accessFlags := 9, code := some k9c2 }
/-- java/lang/StringLatin1 -/
def k9 : Class := { plain "java/lang/StringLatin1" (some 0) with
  accessFlags := 48
  interfaces := #[]
  cf := some (fileOf pool9 14 #[.nestMembers #[390, 221]] #[{ accessFlags := 0, nameIndex := 7, descriptorIndex := 8, attributes := #[] }, { accessFlags := 9, nameIndex := 90, descriptorIndex := 91, attributes := #[] }, { accessFlags := 9, nameIndex := 101, descriptorIndex := 98, attributes := #[] }] 48 4 #[] #[{ accessFlags := 4120, nameIndex := 121, descriptorIndex := 122, attributes := #[] }])
  fields := #[{ name := "$assertionsDisabled", type := .boolean, accessFlags := 4120, slot := 0, constantValue := 0 }]
  methods := #[k9m0, k9m1, k9m2]
  instanceTypes := #[]
  staticTypes := #[.boolean]
  resolved := Array.replicate 395 none
  statics := none }

def pool10 : Array CpInfo := pool [(3, .class_ 4), (0, u "java/lang/String"), (1, .class_ 8), (1, u "java/lang/Object"), (0, u "<init>"), (0, u "()V"), (0, .methodref 12 13), (0, .class_ 14), (0, .nameAndType 15 16), (0, u "java/lang/StringUTF16"), (0, u "newBytesLength"), (0, u "(I)I"), (3, .integer 1073741823), (23, .fieldref 12 45), (0, .nameAndType 46 47), (0, u "$assertionsDisabled"), (0, u "Z"), (0, .methodref 12 49), (0, .nameAndType 50 51), (0, u "length"), (0, u "([B)I"), (7, .fieldref 12 60), (0, .nameAndType 61 62), (0, u "HI_BYTE_SHIFT"), (0, u "I"), (0, .fieldref 12 64), (0, .nameAndType 65 62), (0, u "LO_BYTE_SHIFT"), (5, .methodref 12 72), (0, .nameAndType 73 74), (0, u "getChar"), (0, u "([BI)C"), (21, .methodref 12 97), (0, .nameAndType 98 99), (0, u "checkBoundsBeginEnd"), (0, u "(II[B)V"), (7, .methodref 12 108), (0, .nameAndType 109 110), (0, u "newBytesFor"), (0, u "(I)[B"), (0, .methodref 12 112), (0, .nameAndType 113 114), (0, u "putChar"), (0, u "([BII)V"), (0, .methodref 12 116), (0, .nameAndType 117 118), (0, u "compress"), (0, u "([CI[BII)I"), (0, .methodref 12 120), (0, .nameAndType 121 122), (0, u "toBytes"), (0, u "([CII)[B"), (60, .methodref 184 185), (0, .class_ 186), (0, .nameAndType 187 188), (0, u "java/lang/Math"), (0, u "min"), (0, u "(II)I"), (35, .methodref 184 225), (0, .nameAndType 226 188), (0, u "max"), (0, .integer 65536), (0, .methodref 12 229), (0, .nameAndType 230 231), (0, u "indexOfChar"), (0, u "([BIII)I"), (9, .methodref 3 242), (0, .nameAndType 98 243), (0, u "(III)V"), (0, .methodref 12 245), (0, .nameAndType 246 231), (0, u "indexOfCharUnsafe"), (14, u "coderFromArrayLen"), (0, u "([BI)B"), (5, u "indexOf"), (100, .class_ 371), (1, u "java/lang/StringUTF16$LinesSpliterator"), (58, u "MAX_LENGTH"), (196, .class_ 628), (0, u "java/lang/StringUTF16$CodePointsSpliterator"), (0, .class_ 630), (0, u "java/lang/StringUTF16$CharsSpliterator")] 4

def k10m0 : Method := { name := "<init>", desc := "()V", sig := { parameters := [], returnType := none }, accessFlags := 0, code := none }
def k10c1 : Code := { maxStack := 1, maxLocals := 1, code := jdk_52_method_2_code, exceptionTable := #[], attributes := #[] }
def k10m1 : Method := { name := "newBytesFor", desc := "(I)[B", sig := { parameters := [.int], returnType := some (.array .byte) }, accessFlags := 9, code := some k10c1 }
def k10c2 : Code := { maxStack := 4, maxLocals := 1, code := jdk_52_method_3_code, exceptionTable := #[], attributes := #[] }
def k10m2 : Method := { name := "newBytesLength", desc := "(I)I", sig := { parameters := [.int], returnType := some .int }, accessFlags := 9, code := some k10c2 }
def k10c3 : Code := { maxStack := 4, maxLocals := 3, code := jdk_52_method_4_code, exceptionTable := #[], attributes := #[] }
def k10m3 : Method := { name := "putChar", desc := "([BII)V", sig := { parameters := [(.array .byte), .int, .int], returnType := none }, accessFlags := 8, code := some k10c3 }
def k10c4 : Code := { maxStack := 3, maxLocals := 2, code := jdk_52_method_5_code, exceptionTable := #[], attributes := #[] }
def k10m4 : Method := { name := "getChar", desc := "([BI)C", sig := { parameters := [(.array .byte), .int], returnType := some .char }, accessFlags := 8, code := some k10c4 }
def k10c5 : Code := { maxStack := 2, maxLocals := 1, code := jdk_52_method_6_code, exceptionTable := #[], attributes := #[] }
def k10m5 : Method := { name := "length", desc := "([B)I", sig := { parameters := [(.array .byte)], returnType := some .int }, accessFlags := 9, code := some k10c5 }
def k10c6 : Code := { maxStack := 4, maxLocals := 5, code := jdk_52_method_14_code, exceptionTable := #[], attributes := #[] }
def k10m6 : Method := { name := "toBytes", desc := "([CII)[B", sig := { parameters := [(.array .char), .int, .int], returnType := some (.array .byte) }, accessFlags := 9, code := some k10c6 }
def k10c7 : Code := { maxStack := 2, maxLocals := 2, code := jdk_52_method_15_code, exceptionTable := #[], attributes := #[] }
def k10m7 : Method := { name := "coderFromArrayLen", desc := "([BI)B", sig := { parameters := [(.array .byte), .int], returnType := some .byte }, accessFlags := 8, code := some k10c7 }
def k10c8 : Code := { maxStack := 5, maxLocals := 6, code := jdk_52_method_16_code, exceptionTable := #[], attributes := #[] }
def k10m8 : Method := { name := "compress", desc := "([CII)[B", sig := { parameters := [(.array .char), .int, .int], returnType := some (.array .byte) }, accessFlags := 9, code := some k10c8 }
def k10c9 : Code := { maxStack := 3, maxLocals := 7, code := jdk_52_method_21_code, exceptionTable := #[], attributes := #[] }
def k10m9 : Method := { name := "compress", desc := "([CI[BII)I", sig := { parameters := [(.array .char), .int, (.array .byte), .int, .int], returnType := some .int }, accessFlags := 9, code := some k10c9 }
def k10c10 : Code := { maxStack := 4, maxLocals := 4, code := jdk_52_method_40_code, exceptionTable := #[], attributes := #[] }
def k10m10 : Method := { name := "indexOf", desc := "([BIII)I", sig := { parameters := [(.array .byte), .int, .int, .int], returnType := some .int }, accessFlags := 9, code := some k10c10 }
def k10c11 : Code := { maxStack := 4, maxLocals := 4, code := jdk_52_method_47_code, exceptionTable := #[], attributes := #[] }
def k10m11 : Method := { name := "indexOfChar", desc := "([BIII)I", sig := { parameters := [(.array .byte), .int, .int, .int], returnType := some .int }, accessFlags := 10, code := some k10c11 }
def k10c12 : Code := { maxStack := 2, maxLocals := 5, code := jdk_52_method_48_code, exceptionTable := #[], attributes := #[] }
def k10m12 : Method := { name := "indexOfCharUnsafe", desc := "([BIII)I", sig := { parameters := [(.array .byte), .int, .int, .int], returnType := some .int }, accessFlags := 10, code := some k10c12 }
def k10c13 : Code := { maxStack := 3, maxLocals := 3, code := jdk_52_method_93_code, exceptionTable := #[], attributes := #[] }
def k10m13 : Method := { name := "checkBoundsBeginEnd", desc := "(II[B)V", sig := { parameters := [.int, .int, (.array .byte)], returnType := none }, accessFlags := 9, code := some k10c13 }
/-- java/lang/StringUTF16 -/
def k10 : Class := { plain "java/lang/StringUTF16" (some 0) with
  accessFlags := 48
  interfaces := #[]
  cf := some (fileOf pool10 12 #[.nestMembers #[627, 629, 369]] #[{ accessFlags := 0, nameIndex := 9, descriptorIndex := 10, attributes := #[] }, { accessFlags := 9, nameIndex := 109, descriptorIndex := 110, attributes := #[] }, { accessFlags := 9, nameIndex := 15, descriptorIndex := 16, attributes := #[] }, { accessFlags := 8, nameIndex := 113, descriptorIndex := 114, attributes := #[] }, { accessFlags := 8, nameIndex := 73, descriptorIndex := 74, attributes := #[] }, { accessFlags := 9, nameIndex := 50, descriptorIndex := 51, attributes := #[] }, { accessFlags := 9, nameIndex := 121, descriptorIndex := 122, attributes := #[] }, { accessFlags := 8, nameIndex := 261, descriptorIndex := 262, attributes := #[] }, { accessFlags := 9, nameIndex := 117, descriptorIndex := 122, attributes := #[] }, { accessFlags := 9, nameIndex := 117, descriptorIndex := 118, attributes := #[] }, { accessFlags := 9, nameIndex := 268, descriptorIndex := 231, attributes := #[] }, { accessFlags := 10, nameIndex := 230, descriptorIndex := 231, attributes := #[] }, { accessFlags := 10, nameIndex := 246, descriptorIndex := 231, attributes := #[] }, { accessFlags := 9, nameIndex := 98, descriptorIndex := 99, attributes := #[] }] 48 6 #[] #[{ accessFlags := 26, nameIndex := 61, descriptorIndex := 62, attributes := #[] }, { accessFlags := 26, nameIndex := 65, descriptorIndex := 62, attributes := #[] }, { accessFlags := 24, nameIndex := 430, descriptorIndex := 62, attributes := #[] }, { accessFlags := 4120, nameIndex := 46, descriptorIndex := 47, attributes := #[] }])
  fields := #[{ name := "HI_BYTE_SHIFT", type := .int, accessFlags := 26, slot := 0, constantValue := 0 }, { name := "LO_BYTE_SHIFT", type := .int, accessFlags := 26, slot := 1, constantValue := 0 }, { name := "MAX_LENGTH", type := .int, accessFlags := 24, slot := 2, constantValue := 0 }, { name := "$assertionsDisabled", type := .boolean, accessFlags := 4120, slot := 3, constantValue := 0 }]
  methods := #[k10m0, k10m1, k10m2, k10m3, k10m4, k10m5, k10m6, k10m7, k10m8, k10m9, k10m10, k10m11, k10m12, k10m13]
  instanceTypes := #[]
  staticTypes := #[.int, .int, .int, .boolean]
  resolved := Array.replicate 635 none
  statics := some 1 }

def pool11 : Array CpInfo := pool [(1, .class_ 2), (0, u "java/lang/Math"), (1, .class_ 6), (1, u "java/lang/Object"), (0, u "<init>"), (0, u "()V"), (89, .class_ 100), (1, u "java/lang/Math$RandomNumberGeneratorHolder"), (71, u "negativeZeroFloatBits"), (0, u "J"), (2, u "negativeZeroDoubleBits"), (21, u "max"), (2, u "min"), (43, u "$assertionsDisabled"), (0, u "Z"), (88, u "(II)I"), (2, u "twoToTheDoubleScaleDown"), (0, u "D"), (4, u "twoToTheDoubleScaleUp"), (9, u "E"), (3, u "PI"), (2, u "TAU"), (2, u "DEGREES_TO_RADIANS"), (0, u "RADIANS_TO_DEGREES")] 94

def k11m0 : Method := { name := "<init>", desc := "()V", sig := { parameters := [], returnType := none }, accessFlags := 2, code := none }
def k11c1 : Code := { maxStack := 2, maxLocals := 2, code := jdk_29_method_65_code, exceptionTable := #[], attributes := #[] }
def k11m1 : Method := { name := "max", desc := "(II)I", sig := { parameters := [.int, .int], returnType := some .int }, accessFlags := 9, code := some k11c1 }
def k11c2 : Code := { maxStack := 2, maxLocals := 2, code := jdk_29_method_69_code, exceptionTable := #[], attributes := #[] }
def k11m2 : Method := { name := "min", desc := "(II)I", sig := { parameters := [.int, .int], returnType := some .int }, accessFlags := 9, code := some k11c2 }
/-- java/lang/Math -/
def k11 : Class := { plain "java/lang/Math" (some 0) with
  accessFlags := 49
  interfaces := #[]
  cf := some (fileOf pool11 1 #[.nestMembers #[98]] #[{ accessFlags := 2, nameIndex := 7, descriptorIndex := 8, attributes := #[] }, { accessFlags := 9, nameIndex := 198, descriptorIndex := 335, attributes := #[] }, { accessFlags := 9, nameIndex := 201, descriptorIndex := 335, attributes := #[] }] 49 4 #[] #[{ accessFlags := 25, nameIndex := 354, descriptorIndex := 339, attributes := #[] }, { accessFlags := 25, nameIndex := 358, descriptorIndex := 339, attributes := #[] }, { accessFlags := 25, nameIndex := 361, descriptorIndex := 339, attributes := #[] }, { accessFlags := 26, nameIndex := 364, descriptorIndex := 339, attributes := #[] }, { accessFlags := 26, nameIndex := 365, descriptorIndex := 339, attributes := #[] }, { accessFlags := 26, nameIndex := 172, descriptorIndex := 173, attributes := #[] }, { accessFlags := 26, nameIndex := 176, descriptorIndex := 173, attributes := #[] }, { accessFlags := 8, nameIndex := 344, descriptorIndex := 339, attributes := #[] }, { accessFlags := 8, nameIndex := 338, descriptorIndex := 339, attributes := #[] }, { accessFlags := 4120, nameIndex := 245, descriptorIndex := 246, attributes := #[] }])
  fields := #[{ name := "E", type := .double, accessFlags := 25, slot := 0, constantValue := 0 }, { name := "PI", type := .double, accessFlags := 25, slot := 1, constantValue := 0 }, { name := "TAU", type := .double, accessFlags := 25, slot := 2, constantValue := 0 }, { name := "DEGREES_TO_RADIANS", type := .double, accessFlags := 26, slot := 3, constantValue := 0 }, { name := "RADIANS_TO_DEGREES", type := .double, accessFlags := 26, slot := 4, constantValue := 0 }, { name := "negativeZeroFloatBits", type := .long, accessFlags := 26, slot := 5, constantValue := 0 }, { name := "negativeZeroDoubleBits", type := .long, accessFlags := 26, slot := 6, constantValue := 0 }, { name := "twoToTheDoubleScaleUp", type := .double, accessFlags := 8, slot := 7, constantValue := 0 }, { name := "twoToTheDoubleScaleDown", type := .double, accessFlags := 8, slot := 8, constantValue := 0 }, { name := "$assertionsDisabled", type := .boolean, accessFlags := 4120, slot := 9, constantValue := 0 }]
  methods := #[k11m0, k11m1, k11m2]
  instanceTypes := #[]
  staticTypes := #[.double, .double, .double, .double, .double, .long, .long, .double, .double, .boolean]
  resolved := Array.replicate 460 none
  statics := none }

def pool12 : Array CpInfo := pool [(2, .class_ 4), (1, u "java/lang/Object"), (0, u "<init>"), (0, u "()V"), (17, .class_ 26), (1, u "jdk/internal/util/Preconditions"), (20, u "checkFromToIndex"), (7, .class_ 56), (0, u "jdk/internal/util/Preconditions$4"), (57, .class_ 115), (0, u "jdk/internal/util/Preconditions$1"), (7, u "SIOOBE_FORMATTER"), (0, u "Ljava/util/function/BiFunction;"), (0, .class_ 126), (0, u "jdk/internal/util/Preconditions$2"), (3, u "AIOOBE_FORMATTER"), (0, .class_ 132), (0, u "jdk/internal/util/Preconditions$3"), (3, u "IOOBE_FORMATTER"), (46, u "(IIILjava/util/function/BiFunction;)I")] 10

def k12m0 : Method := { name := "<init>", desc := "()V", sig := { parameters := [], returnType := none }, accessFlags := 1, code := none }
def k12c1 : Code := { maxStack := 4, maxLocals := 4, code := jdk_41_method_12_code, exceptionTable := #[], attributes := #[] }
def k12m1 : Method := { name := "checkFromToIndex", desc := "(IIILjava/util/function/BiFunction;)I", sig := { parameters := [.int, .int, .int, (.object "java/util/function/BiFunction")], returnType := some .int }, accessFlags := 9, code := some k12c1 }
/-- jdk/internal/util/Preconditions -/
def k12 : Class := { plain "jdk/internal/util/Preconditions" (some 0) with
  accessFlags := 33
  interfaces := #[]
  cf := some (fileOf pool12 24 #[.nestMembers #[55, 131, 125, 114]] #[{ accessFlags := 1, nameIndex := 5, descriptorIndex := 6, attributes := #[] }, { accessFlags := 9, nameIndex := 47, descriptorIndex := 183, attributes := #[] }] 33 2 #[] #[{ accessFlags := 25, nameIndex := 123, descriptorIndex := 124, attributes := #[] }, { accessFlags := 25, nameIndex := 130, descriptorIndex := 124, attributes := #[] }, { accessFlags := 25, nameIndex := 136, descriptorIndex := 124, attributes := #[] }])
  fields := #[{ name := "SIOOBE_FORMATTER", type := (.object "java/util/function/BiFunction"), accessFlags := 25, slot := 0, constantValue := 0 }, { name := "AIOOBE_FORMATTER", type := (.object "java/util/function/BiFunction"), accessFlags := 25, slot := 1, constantValue := 0 }, { name := "IOOBE_FORMATTER", type := (.object "java/util/function/BiFunction"), accessFlags := 25, slot := 2, constantValue := 0 }]
  methods := #[k12m0, k12m1]
  instanceTypes := #[]
  staticTypes := #[(.object "java/util/function/BiFunction"), (.object "java/util/function/BiFunction"), (.object "java/util/function/BiFunction")]
  resolved := Array.replicate 194 none
  statics := some 2 }

def pool13 : Array CpInfo := pool [(9, u "<init>"), (6, .class_ 18), (1, u "java/lang/Object"), (0, u "()V"), (1, .class_ 23), (1, u "jdk/internal/util/ArraysSupport"), (0, u "LOG2_ARRAY_LONG_INDEX_SCALE"), (0, u "I"), (2, u "U"), (0, u "Ljdk/internal/misc/Unsafe;"), (8, u "BIG_ENDIAN"), (0, u "Z"), (8, u "LOG2_BYTE_BIT_SIZE"), (4, u "LOG2_ARRAY_INT_INDEX_SCALE"), (54, u "JLA"), (0, u "Ljdk/internal/access/JavaLangAccess;"), (11, u "LOG2_ARRAY_BOOLEAN_INDEX_SCALE"), (9, u "LOG2_ARRAY_BYTE_INDEX_SCALE"), (5, u "LOG2_ARRAY_CHAR_INDEX_SCALE"), (5, u "LOG2_ARRAY_SHORT_INDEX_SCALE"), (18, u "LOG2_ARRAY_FLOAT_INDEX_SCALE"), (24, u "LOG2_ARRAY_DOUBLE_INDEX_SCALE"), (89, u "T_BOOLEAN"), (2, u "T_CHAR"), (1, u "T_FLOAT"), (1, u "T_DOUBLE"), (1, u "T_BYTE"), (1, u "T_SHORT"), (1, u "T_INT"), (1, u "T_LONG"), (1, u "SOFT_MAX_ARRAY_LENGTH")] 83

def k13m0 : Method := { name := "<init>", desc := "()V", sig := { parameters := [], returnType := none }, accessFlags := 2, code := none }
/-- jdk/internal/util/ArraysSupport -/
def k13 : Class := { plain "jdk/internal/util/ArraysSupport" (some 0) with
  accessFlags := 33
  interfaces := #[]
  cf := some (fileOf pool13 21 #[] #[{ accessFlags := 2, nameIndex := 9, descriptorIndex := 19, attributes := #[] }] 33 16 #[] #[{ accessFlags := 24, nameIndex := 28, descriptorIndex := 29, attributes := #[] }, { accessFlags := 26, nameIndex := 38, descriptorIndex := 39, attributes := #[] }, { accessFlags := 25, nameIndex := 121, descriptorIndex := 25, attributes := #[] }, { accessFlags := 25, nameIndex := 131, descriptorIndex := 25, attributes := #[] }, { accessFlags := 25, nameIndex := 137, descriptorIndex := 25, attributes := #[] }, { accessFlags := 25, nameIndex := 143, descriptorIndex := 25, attributes := #[] }, { accessFlags := 25, nameIndex := 53, descriptorIndex := 25, attributes := #[] }, { accessFlags := 25, nameIndex := 24, descriptorIndex := 25, attributes := #[] }, { accessFlags := 25, nameIndex := 162, descriptorIndex := 25, attributes := #[] }, { accessFlags := 25, nameIndex := 187, descriptorIndex := 25, attributes := #[] }, { accessFlags := 26, nameIndex := 48, descriptorIndex := 25, attributes := #[] }, { accessFlags := 25, nameIndex := 277, descriptorIndex := 25, attributes := #[] }, { accessFlags := 25, nameIndex := 280, descriptorIndex := 25, attributes := #[] }, { accessFlags := 25, nameIndex := 282, descriptorIndex := 25, attributes := #[] }, { accessFlags := 25, nameIndex := 284, descriptorIndex := 25, attributes := #[] }, { accessFlags := 25, nameIndex := 286, descriptorIndex := 25, attributes := #[] }, { accessFlags := 25, nameIndex := 288, descriptorIndex := 25, attributes := #[] }, { accessFlags := 25, nameIndex := 290, descriptorIndex := 25, attributes := #[] }, { accessFlags := 25, nameIndex := 292, descriptorIndex := 25, attributes := #[] }, { accessFlags := 26, nameIndex := 108, descriptorIndex := 109, attributes := #[] }, { accessFlags := 25, nameIndex := 294, descriptorIndex := 25, attributes := #[] }])
  fields := #[{ name := "U", type := (.object "jdk/internal/misc/Unsafe"), accessFlags := 24, slot := 0, constantValue := 0 }, { name := "BIG_ENDIAN", type := .boolean, accessFlags := 26, slot := 1, constantValue := 0 }, { name := "LOG2_ARRAY_BOOLEAN_INDEX_SCALE", type := .int, accessFlags := 25, slot := 2, constantValue := 0 }, { name := "LOG2_ARRAY_BYTE_INDEX_SCALE", type := .int, accessFlags := 25, slot := 3, constantValue := 0 }, { name := "LOG2_ARRAY_CHAR_INDEX_SCALE", type := .int, accessFlags := 25, slot := 4, constantValue := 0 }, { name := "LOG2_ARRAY_SHORT_INDEX_SCALE", type := .int, accessFlags := 25, slot := 5, constantValue := 0 }, { name := "LOG2_ARRAY_INT_INDEX_SCALE", type := .int, accessFlags := 25, slot := 6, constantValue := 0 }, { name := "LOG2_ARRAY_LONG_INDEX_SCALE", type := .int, accessFlags := 25, slot := 7, constantValue := 0 }, { name := "LOG2_ARRAY_FLOAT_INDEX_SCALE", type := .int, accessFlags := 25, slot := 8, constantValue := 0 }, { name := "LOG2_ARRAY_DOUBLE_INDEX_SCALE", type := .int, accessFlags := 25, slot := 9, constantValue := 0 }, { name := "LOG2_BYTE_BIT_SIZE", type := .int, accessFlags := 26, slot := 10, constantValue := 0 }, { name := "T_BOOLEAN", type := .int, accessFlags := 25, slot := 11, constantValue := 0 }, { name := "T_CHAR", type := .int, accessFlags := 25, slot := 12, constantValue := 0 }, { name := "T_FLOAT", type := .int, accessFlags := 25, slot := 13, constantValue := 0 }, { name := "T_DOUBLE", type := .int, accessFlags := 25, slot := 14, constantValue := 0 }, { name := "T_BYTE", type := .int, accessFlags := 25, slot := 15, constantValue := 0 }, { name := "T_SHORT", type := .int, accessFlags := 25, slot := 16, constantValue := 0 }, { name := "T_INT", type := .int, accessFlags := 25, slot := 17, constantValue := 0 }, { name := "T_LONG", type := .int, accessFlags := 25, slot := 18, constantValue := 0 }, { name := "JLA", type := (.object "jdk/internal/access/JavaLangAccess"), accessFlags := 26, slot := 19, constantValue := 0 }, { name := "SOFT_MAX_ARRAY_LENGTH", type := .int, accessFlags := 25, slot := 20, constantValue := 0 }]
  methods := #[k13m0]
  instanceTypes := #[]
  staticTypes := #[(.object "jdk/internal/misc/Unsafe"), .boolean, .int, .int, .int, .int, .int, .int, .int, .int, .int, .int, .int, .int, .int, .int, .int, .int, .int, (.object "jdk/internal/access/JavaLangAccess"), .int]
  resolved := Array.replicate 378 none
  statics := none }

def pool14 : Array CpInfo := pool [(1, u "java/lang/Cloneable"), (0, .class_ 1), (0, u "java/lang/Object"), (0, .class_ 3)] 3

/-- java/lang/Cloneable -/
def k14 : Class := { plain "java/lang/Cloneable" (some 0) with
  accessFlags := 1537
  interfaces := #[]
  cf := some (fileOf pool14 2 #[] #[] 1537 4 #[] #[])
  fields := #[]
  methods := #[]
  instanceTypes := #[]
  staticTypes := #[]
  resolved := Array.replicate 8 none
  statics := none }

/-- the primitive byte -/
def k15 : Class := { plain "byte" none with kind := .primitive 'B', accessFlags := 0x411 }
/-- [B -/
def k16 : Class := { plain "[B" (some 0) with kind := .array 15 .byte, interfaces := #[14, 2], accessFlags := 1041 }

/-- the primitive char -/
def k17 : Class := { plain "char" none with kind := .primitive 'C', accessFlags := 0x411 }
/-- [C -/
def k18 : Class := { plain "[C" (some 0) with kind := .array 17 .char, interfaces := #[14, 2], accessFlags := 1041 }

/-- the primitive int -/
def k19 : Class := { plain "int" none with kind := .primitive 'I', accessFlags := 0x411 }
/-- [I -/
def k20 : Class := { plain "[I" (some 0) with kind := .array 19 .int, interfaces := #[14, 2], accessFlags := 1041 }

def heap : Heap := #[{ cls := 7, slots := #[.long 0, .int 1, .null, .int 0, .null, .int 0, .int 0], vm := .statics 7 },
  { cls := 10, slots := #[.int 0, .int 8, .int 0, .int 1], vm := .statics 10 },
  { cls := 12, slots := #[.null, .null, .null], vm := .statics 12 }]
def classes : Array Class := #[k0, k1, k2, k3, k4, k5, k6, k7, k8, k9, k10, k11, k12, k13, k14, k15, k16, k17, k18, k19, k20]
def interned : List (Array UInt16 × Addr) := []
def slotsUsed : Nat := 14
def theMethod : MethodId := ⟨1, 3⟩
def args0 : Array Value := #[.int 2, .int 3, .int 5, .int 7, .int 65536]
def aboutOver (below : List Frame) : State where
  vm := { classes := classes, interned := interned.toArray }
  heap := heap
  slotsUsed := slotsUsed
  threads := #[{ frames := .invoking theMethod args0 :: below }]
def below0 : List Frame := [.native { method := ⟨0, 0⟩, args := #[] }]
def about1 : State := aboutOver below0
def p0 : Program := .bare "" "" ""
def e0 : Env := launch0.env 0 0 0
theorem w_frames : about1.frames = Frame.invoking theMethod args0 :: below0 := rfl
set_option maxRecDepth 65536 in
theorem w_args : argsFit about1.vm theMethod args0 = true := by decide +kernel
set_option maxRecDepth 65536 in
theorem w_heap : heapFits about1 = true := by decide +kernel
set_option maxRecDepth 65536 in
theorem w_runnable : about1.curStatus? = some .runnable := by decide +kernel
set_option maxRecDepth 65536 in
theorem w_alone : about1.alone = true := by decide +kernel
set_option maxRecDepth 65536 in
theorem w_named : about1.methodNamed? x = some theMethod := by decide +kernel
set_option maxRecDepth 65536 in
theorem w_hears : about1.hears theMethod below0 = true := by decide +kernel
set_option maxRecDepth 65536 in
theorem w_ripe : about1.ripe theMethod args0 below0 = true := by decide +kernel
theorem w_running : about1.status = .running := rfl
set_option maxRecDepth 65536 in
theorem w_room : about1.hasRoom e0.platform room_1 = true :=
  launch0.hasRoom_least _ room_1 (by decide +kernel) (by decide +kernel) (by decide +kernel) (by decide +kernel) (by decide +kernel) (by decide +kernel)
theorem allAtoms_all (ts : List Jvm.Cond) (a : Array Jvm.Value) (st : Jvm.State) : (allAtoms ts).before a st = ts.all (fun c => c.before a st) := by
  induction ts with
  | nil => rfl
  | cons c t ih =>
    show (Jvm.Cond.and c (allAtoms t)).before a st = _
    rw [Jvm.Cond.before_and, ih, List.all_cons]
def words1 : List Jvm.Cond := Jvm.Cond.code x code maxLocals ret :: tables_1
/-- a 'code' word, met by the world's own term for the bytes: nothing is compared byte by byte -/
theorem code_word {y : MethodName} {bytes : ByteArray} {mx : Nat} {rt : Option FieldType} {a : Array Value} {s : State} {m : MethodId} {meth : Method} {c : Code} (h1 : s.methodNamed? y = some m) (h2 : s.vm.method? m = some meth) (h3 : meth.code = some c) (h4 : c.code = bytes)
    (h5 : (c.maxLocals == mx && c.exceptionTable.isEmpty && decide (c.maxStack ≤ mostOperands) && decide (meth.sig.returnType = rt) && !meth.locks && decide (parseMethodDescriptor y.desc = some meth.sig)) = true) : (Jvm.Cond.code y bytes mx rt).before a s = true := by
  simp only [Bool.and_eq_true, beq_iff_eq, Bool.not_eq_true', decide_eq_true_eq] at h5
  obtain ⟨⟨⟨⟨⟨g1, g2⟩, g3⟩, g4⟩, g5⟩, g6⟩ := h5
  simp [Cond.before, Cond.holds, Cond.value, h1, h2, h3, h4, g1, g2, g3, g4, g5, g6]
def isCode : Jvm.Cond → Bool
  | .code _ _ _ _ => true
  | _ => false
theorem all_split {L : List Jvm.Cond} {P : Jvm.Cond → Bool} (h1 : L.all (fun c => isCode c || P c) = true) (h2 : ∀ c ∈ L.filter isCode, P c = true) : L.all P = true := by
  refine List.all_eq_true.mpr fun c hc => ?_
  have h := List.all_eq_true.mp h1 c hc
  rcases Bool.eq_false_or_eq_true (isCode c) with hi | hi
  · exact h2 c (List.mem_filter.mpr ⟨hc, hi⟩)
  · simpa [hi] using h
set_option maxRecDepth 65536 in
theorem w_c0 : (Jvm.Cond.code x code maxLocals ret).before args0 about1 = true := code_word (m := ⟨1, 3⟩) (meth := k1m3) (c := k1c3) (by decide +kernel) rfl rfl rfl (by decide +kernel)
set_option maxRecDepth 65536 in
theorem w_c1 : (Jvm.Cond.code ({ cls := "com/example/shelfgraph/shelfgraph/ingest/CommandLineTextHasUndecodedBytesPinLaw", name := "ch", desc := "(I)C" } : Jvm.MethodName) method_2_code (1 : Nat) (Option.some Jvm.ClassFile.FieldType.char)).before args0 about1 = true := code_word (m := ⟨1, 1⟩) (meth := k1m1) (c := k1c1) (by decide +kernel) rfl rfl rfl (by decide +kernel)
set_option maxRecDepth 65536 in
theorem w_c2 : (Jvm.Cond.code ({ cls := "com/example/shelfgraph/shelfgraph/ingest/CommandLineTextHasUndecodedBytesPinLaw", name := "make", desc := "(I)[C" } : Jvm.MethodName) method_3_code (1 : Nat) (Option.some (Jvm.ClassFile.FieldType.array Jvm.ClassFile.FieldType.char))).before args0 about1 = true := code_word (m := ⟨1, 2⟩) (meth := k1m2) (c := k1c2) (by decide +kernel) rfl rfl rfl (by decide +kernel)
set_option maxRecDepth 65536 in
theorem w_c3 : (Jvm.Cond.code ({ cls := "java/lang/String", name := "<init>", desc := "([C)V" } : Jvm.MethodName) jdk_42_method_3_code (2 : Nat) (Option.none : Option Jvm.ClassFile.FieldType)).before args0 about1 = true := code_word (m := ⟨7, 1⟩) (meth := k7m1) (c := k7c1) (by decide +kernel) rfl rfl rfl (by decide +kernel)
set_option maxRecDepth 65536 in
theorem w_c4 : (Jvm.Cond.code ({ cls := "java/lang/String", name := "<init>", desc := "([CIILjava/lang/Void;)V" } : Jvm.MethodName) jdk_42_method_149_code (6 : Nat) (Option.none : Option Jvm.ClassFile.FieldType)).before args0 about1 = true := code_word (m := ⟨7, 5⟩) (meth := k7m5) (c := k7c5) (by decide +kernel) rfl rfl rfl (by decide +kernel)
set_option maxRecDepth 65536 in
theorem w_c5 : (Jvm.Cond.code ({ cls := "java/lang/Object", name := "<init>", desc := "()V" } : Jvm.MethodName) object_method_1_code (1 : Nat) (Option.none : Option Jvm.ClassFile.FieldType)).before args0 about1 = true := code_word (m := ⟨0, 0⟩) (meth := k0m0) (c := k0c0) (by decide +kernel) rfl rfl rfl (by decide +kernel)
set_option maxRecDepth 65536 in
theorem w_c6 : (Jvm.Cond.code ({ cls := "com/example/shelfgraph/shelfgraph/ingest/CommandLineText", name := "hasUndecodedBytes", desc := "(Ljava/lang/String;)Z" } : Jvm.MethodName) prog_8_method_2_code (1 : Nat) (Option.some Jvm.ClassFile.FieldType.boolean)).before args0 about1 = true := code_word (m := ⟨8, 1⟩) (meth := k8m1) (c := k8c1) (by decide +kernel) rfl rfl rfl (by decide +kernel)
set_option maxRecDepth 65536 in
theorem w_c7 : (Jvm.Cond.code ({ cls := "java/lang/String", name := "indexOf", desc := "(I)I" } : Jvm.MethodName) jdk_42_method_79_code (2 : Nat) (Option.some Jvm.ClassFile.FieldType.int)).before args0 about1 = true := code_word (m := ⟨7, 3⟩) (meth := k7m3) (c := k7c3) (by decide +kernel) rfl rfl rfl (by decide +kernel)
set_option maxRecDepth 65536 in
theorem w_c8 : (Jvm.Cond.code ({ cls := "java/lang/String", name := "indexOf", desc := "(II)I" } : Jvm.MethodName) jdk_42_method_80_code (3 : Nat) (Option.some Jvm.ClassFile.FieldType.int)).before args0 about1 = true := code_word (m := ⟨7, 4⟩) (meth := k7m4) (c := k7c4) (by decide +kernel) rfl rfl rfl (by decide +kernel)
set_option maxRecDepth 65536 in
theorem w_c9 : (Jvm.Cond.code ({ cls := "java/lang/String", name := "isLatin1", desc := "()Z" } : Jvm.MethodName) jdk_42_method_154_code (1 : Nat) (Option.some Jvm.ClassFile.FieldType.boolean)).before args0 about1 = true := code_word (m := ⟨7, 7⟩) (meth := k7m7) (c := k7c7) (by decide +kernel) rfl rfl rfl (by decide +kernel)
set_option maxRecDepth 65536 in
theorem w_c10 : (Jvm.Cond.code ({ cls := "java/lang/String", name := "length", desc := "()I" } : Jvm.MethodName) jdk_42_method_54_code (1 : Nat) (Option.some Jvm.ClassFile.FieldType.int)).before args0 about1 = true := code_word (m := ⟨7, 2⟩) (meth := k7m2) (c := k7c2) (by decide +kernel) rfl rfl rfl (by decide +kernel)
set_option maxRecDepth 65536 in
theorem w_c11 : (Jvm.Cond.code ({ cls := "java/lang/String", name := "coder", desc := "()B" } : Jvm.MethodName) jdk_42_method_152_code (1 : Nat) (Option.some Jvm.ClassFile.FieldType.byte)).before args0 about1 = true := code_word (m := ⟨7, 6⟩) (meth := k7m6) (c := k7c6) (by decide +kernel) rfl rfl rfl (by decide +kernel)
set_option maxRecDepth 65536 in
theorem w_c12 : (Jvm.Cond.code ({ cls := "java/lang/StringLatin1", name := "indexOf", desc := "([BIII)I" } : Jvm.MethodName) jdk_43_method_22_code (4 : Nat) (Option.some Jvm.ClassFile.FieldType.int)).before args0 about1 = true := code_word (m := ⟨9, 2⟩) (meth := k9m2) (c := k9c2) (by decide +kernel) rfl rfl rfl (by decide +kernel)
set_option maxRecDepth 65536 in
theorem w_c13 : (Jvm.Cond.code ({ cls := "java/lang/StringLatin1", name := "canEncode", desc := "(I)Z" } : Jvm.MethodName) jdk_43_method_4_code (1 : Nat) (Option.some Jvm.ClassFile.FieldType.boolean)).before args0 about1 = true := code_word (m := ⟨9, 1⟩) (meth := k9m1) (c := k9c1) (by decide +kernel) rfl rfl rfl (by decide +kernel)
set_option maxRecDepth 65536 in
theorem w_c14 : (Jvm.Cond.code ({ cls := "java/lang/StringUTF16", name := "compress", desc := "([CII)[B" } : Jvm.MethodName) jdk_52_method_16_code (6 : Nat) (Option.some (Jvm.ClassFile.FieldType.array Jvm.ClassFile.FieldType.byte))).before args0 about1 = true := code_word (m := ⟨10, 8⟩) (meth := k10m8) (c := k10c8) (by decide +kernel) rfl rfl rfl (by decide +kernel)
set_option maxRecDepth 65536 in
theorem w_c15 : (Jvm.Cond.code ({ cls := "java/lang/StringUTF16", name := "compress", desc := "([CI[BII)I" } : Jvm.MethodName) jdk_52_method_21_code (7 : Nat) (Option.some Jvm.ClassFile.FieldType.int)).before args0 about1 = true := code_word (m := ⟨10, 9⟩) (meth := k10m9) (c := k10c9) (by decide +kernel) rfl rfl rfl (by decide +kernel)
set_option maxRecDepth 65536 in
theorem w_c16 : (Jvm.Cond.code ({ cls := "java/lang/StringUTF16", name := "coderFromArrayLen", desc := "([BI)B" } : Jvm.MethodName) jdk_52_method_15_code (2 : Nat) (Option.some Jvm.ClassFile.FieldType.byte)).before args0 about1 = true := code_word (m := ⟨10, 7⟩) (meth := k10m7) (c := k10c7) (by decide +kernel) rfl rfl rfl (by decide +kernel)
set_option maxRecDepth 65536 in
theorem w_c17 : (Jvm.Cond.code ({ cls := "java/lang/StringUTF16", name := "toBytes", desc := "([CII)[B" } : Jvm.MethodName) jdk_52_method_14_code (5 : Nat) (Option.some (Jvm.ClassFile.FieldType.array Jvm.ClassFile.FieldType.byte))).before args0 about1 = true := code_word (m := ⟨10, 6⟩) (meth := k10m6) (c := k10c6) (by decide +kernel) rfl rfl rfl (by decide +kernel)
set_option maxRecDepth 65536 in
theorem w_c18 : (Jvm.Cond.code ({ cls := "java/lang/StringUTF16", name := "newBytesFor", desc := "(I)[B" } : Jvm.MethodName) jdk_52_method_2_code (1 : Nat) (Option.some (Jvm.ClassFile.FieldType.array Jvm.ClassFile.FieldType.byte))).before args0 about1 = true := code_word (m := ⟨10, 1⟩) (meth := k10m1) (c := k10c1) (by decide +kernel) rfl rfl rfl (by decide +kernel)
set_option maxRecDepth 65536 in
theorem w_c19 : (Jvm.Cond.code ({ cls := "java/lang/StringUTF16", name := "newBytesLength", desc := "(I)I" } : Jvm.MethodName) jdk_52_method_3_code (1 : Nat) (Option.some Jvm.ClassFile.FieldType.int)).before args0 about1 = true := code_word (m := ⟨10, 2⟩) (meth := k10m2) (c := k10c2) (by decide +kernel) rfl rfl rfl (by decide +kernel)
set_option maxRecDepth 65536 in
theorem w_c20 : (Jvm.Cond.code ({ cls := "java/lang/StringUTF16", name := "putChar", desc := "([BII)V" } : Jvm.MethodName) jdk_52_method_4_code (3 : Nat) (Option.none : Option Jvm.ClassFile.FieldType)).before args0 about1 = true := code_word (m := ⟨10, 3⟩) (meth := k10m3) (c := k10c3) (by decide +kernel) rfl rfl rfl (by decide +kernel)
set_option maxRecDepth 65536 in
theorem w_c21 : (Jvm.Cond.code ({ cls := "java/lang/StringUTF16", name := "getChar", desc := "([BI)C" } : Jvm.MethodName) jdk_52_method_5_code (2 : Nat) (Option.some Jvm.ClassFile.FieldType.char)).before args0 about1 = true := code_word (m := ⟨10, 4⟩) (meth := k10m4) (c := k10c4) (by decide +kernel) rfl rfl rfl (by decide +kernel)
set_option maxRecDepth 65536 in
theorem w_c22 : (Jvm.Cond.code ({ cls := "java/lang/StringUTF16", name := "indexOf", desc := "([BIII)I" } : Jvm.MethodName) jdk_52_method_40_code (4 : Nat) (Option.some Jvm.ClassFile.FieldType.int)).before args0 about1 = true := code_word (m := ⟨10, 10⟩) (meth := k10m10) (c := k10c10) (by decide +kernel) rfl rfl rfl (by decide +kernel)
set_option maxRecDepth 65536 in
theorem w_c23 : (Jvm.Cond.code ({ cls := "java/lang/Math", name := "max", desc := "(II)I" } : Jvm.MethodName) jdk_29_method_65_code (2 : Nat) (Option.some Jvm.ClassFile.FieldType.int)).before args0 about1 = true := code_word (m := ⟨11, 1⟩) (meth := k11m1) (c := k11c1) (by decide +kernel) rfl rfl rfl (by decide +kernel)
set_option maxRecDepth 65536 in
theorem w_c24 : (Jvm.Cond.code ({ cls := "java/lang/Math", name := "min", desc := "(II)I" } : Jvm.MethodName) jdk_29_method_69_code (2 : Nat) (Option.some Jvm.ClassFile.FieldType.int)).before args0 about1 = true := code_word (m := ⟨11, 2⟩) (meth := k11m2) (c := k11c2) (by decide +kernel) rfl rfl rfl (by decide +kernel)
set_option maxRecDepth 65536 in
theorem w_c25 : (Jvm.Cond.code ({ cls := "java/lang/StringUTF16", name := "indexOfChar", desc := "([BIII)I" } : Jvm.MethodName) jdk_52_method_47_code (4 : Nat) (Option.some Jvm.ClassFile.FieldType.int)).before args0 about1 = true := code_word (m := ⟨10, 11⟩) (meth := k10m11) (c := k10c11) (by decide +kernel) rfl rfl rfl (by decide +kernel)
set_option maxRecDepth 65536 in
theorem w_c26 : (Jvm.Cond.code ({ cls := "java/lang/StringUTF16", name := "checkBoundsBeginEnd", desc := "(II[B)V" } : Jvm.MethodName) jdk_52_method_93_code (3 : Nat) (Option.none : Option Jvm.ClassFile.FieldType)).before args0 about1 = true := code_word (m := ⟨10, 13⟩) (meth := k10m13) (c := k10c13) (by decide +kernel) rfl rfl rfl (by decide +kernel)
set_option maxRecDepth 65536 in
theorem w_c27 : (Jvm.Cond.code ({ cls := "java/lang/StringUTF16", name := "length", desc := "([B)I" } : Jvm.MethodName) jdk_52_method_6_code (1 : Nat) (Option.some Jvm.ClassFile.FieldType.int)).before args0 about1 = true := code_word (m := ⟨10, 5⟩) (meth := k10m5) (c := k10c5) (by decide +kernel) rfl rfl rfl (by decide +kernel)
set_option maxRecDepth 65536 in
theorem w_c28 : (Jvm.Cond.code ({ cls := "java/lang/String", name := "checkBoundsBeginEnd", desc := "(III)V" } : Jvm.MethodName) jdk_42_method_158_code (3 : Nat) (Option.none : Option Jvm.ClassFile.FieldType)).before args0 about1 = true := code_word (m := ⟨7, 8⟩) (meth := k7m8) (c := k7c8) (by decide +kernel) rfl rfl rfl (by decide +kernel)
set_option maxRecDepth 65536 in
theorem w_c29 : (Jvm.Cond.code ({ cls := "jdk/internal/util/Preconditions", name := "checkFromToIndex", desc := "(IIILjava/util/function/BiFunction;)I" } : Jvm.MethodName) jdk_41_method_12_code (4 : Nat) (Option.some Jvm.ClassFile.FieldType.int)).before args0 about1 = true := code_word (m := ⟨12, 1⟩) (meth := k12m1) (c := k12c1) (by decide +kernel) rfl rfl rfl (by decide +kernel)
set_option maxRecDepth 65536 in
theorem w_c30 : (Jvm.Cond.code ({ cls := "java/lang/StringUTF16", name := "indexOfCharUnsafe", desc := "([BIII)I" } : Jvm.MethodName) jdk_52_method_48_code (5 : Nat) (Option.some Jvm.ClassFile.FieldType.int)).before args0 about1 = true := code_word (m := ⟨10, 12⟩) (meth := k10m12) (c := k10c12) (by decide +kernel) rfl rfl rfl (by decide +kernel)
def codes1 : List Jvm.Cond := [Jvm.Cond.code x code maxLocals ret, Jvm.Cond.code ({ cls := "com/example/shelfgraph/shelfgraph/ingest/CommandLineTextHasUndecodedBytesPinLaw", name := "ch", desc := "(I)C" } : Jvm.MethodName) method_2_code (1 : Nat) (Option.some Jvm.ClassFile.FieldType.char), Jvm.Cond.code ({ cls := "com/example/shelfgraph/shelfgraph/ingest/CommandLineTextHasUndecodedBytesPinLaw", name := "make", desc := "(I)[C" } : Jvm.MethodName) method_3_code (1 : Nat) (Option.some (Jvm.ClassFile.FieldType.array Jvm.ClassFile.FieldType.char)), Jvm.Cond.code ({ cls := "java/lang/String", name := "<init>", desc := "([C)V" } : Jvm.MethodName) jdk_42_method_3_code (2 : Nat) (Option.none : Option Jvm.ClassFile.FieldType), Jvm.Cond.code ({ cls := "java/lang/String", name := "<init>", desc := "([CIILjava/lang/Void;)V" } : Jvm.MethodName) jdk_42_method_149_code (6 : Nat) (Option.none : Option Jvm.ClassFile.FieldType), Jvm.Cond.code ({ cls := "java/lang/Object", name := "<init>", desc := "()V" } : Jvm.MethodName) object_method_1_code (1 : Nat) (Option.none : Option Jvm.ClassFile.FieldType), Jvm.Cond.code ({ cls := "com/example/shelfgraph/shelfgraph/ingest/CommandLineText", name := "hasUndecodedBytes", desc := "(Ljava/lang/String;)Z" } : Jvm.MethodName) prog_8_method_2_code (1 : Nat) (Option.some Jvm.ClassFile.FieldType.boolean), Jvm.Cond.code ({ cls := "java/lang/String", name := "indexOf", desc := "(I)I" } : Jvm.MethodName) jdk_42_method_79_code (2 : Nat) (Option.some Jvm.ClassFile.FieldType.int), Jvm.Cond.code ({ cls := "java/lang/String", name := "indexOf", desc := "(II)I" } : Jvm.MethodName) jdk_42_method_80_code (3 : Nat) (Option.some Jvm.ClassFile.FieldType.int), Jvm.Cond.code ({ cls := "java/lang/String", name := "isLatin1", desc := "()Z" } : Jvm.MethodName) jdk_42_method_154_code (1 : Nat) (Option.some Jvm.ClassFile.FieldType.boolean), Jvm.Cond.code ({ cls := "java/lang/String", name := "length", desc := "()I" } : Jvm.MethodName) jdk_42_method_54_code (1 : Nat) (Option.some Jvm.ClassFile.FieldType.int), Jvm.Cond.code ({ cls := "java/lang/String", name := "coder", desc := "()B" } : Jvm.MethodName) jdk_42_method_152_code (1 : Nat) (Option.some Jvm.ClassFile.FieldType.byte), Jvm.Cond.code ({ cls := "java/lang/StringLatin1", name := "indexOf", desc := "([BIII)I" } : Jvm.MethodName) jdk_43_method_22_code (4 : Nat) (Option.some Jvm.ClassFile.FieldType.int), Jvm.Cond.code ({ cls := "java/lang/StringLatin1", name := "canEncode", desc := "(I)Z" } : Jvm.MethodName) jdk_43_method_4_code (1 : Nat) (Option.some Jvm.ClassFile.FieldType.boolean), Jvm.Cond.code ({ cls := "java/lang/StringUTF16", name := "compress", desc := "([CII)[B" } : Jvm.MethodName) jdk_52_method_16_code (6 : Nat) (Option.some (Jvm.ClassFile.FieldType.array Jvm.ClassFile.FieldType.byte)), Jvm.Cond.code ({ cls := "java/lang/StringUTF16", name := "compress", desc := "([CI[BII)I" } : Jvm.MethodName) jdk_52_method_21_code (7 : Nat) (Option.some Jvm.ClassFile.FieldType.int), Jvm.Cond.code ({ cls := "java/lang/StringUTF16", name := "coderFromArrayLen", desc := "([BI)B" } : Jvm.MethodName) jdk_52_method_15_code (2 : Nat) (Option.some Jvm.ClassFile.FieldType.byte), Jvm.Cond.code ({ cls := "java/lang/StringUTF16", name := "toBytes", desc := "([CII)[B" } : Jvm.MethodName) jdk_52_method_14_code (5 : Nat) (Option.some (Jvm.ClassFile.FieldType.array Jvm.ClassFile.FieldType.byte)), Jvm.Cond.code ({ cls := "java/lang/StringUTF16", name := "newBytesFor", desc := "(I)[B" } : Jvm.MethodName) jdk_52_method_2_code (1 : Nat) (Option.some (Jvm.ClassFile.FieldType.array Jvm.ClassFile.FieldType.byte)), Jvm.Cond.code ({ cls := "java/lang/StringUTF16", name := "newBytesLength", desc := "(I)I" } : Jvm.MethodName) jdk_52_method_3_code (1 : Nat) (Option.some Jvm.ClassFile.FieldType.int), Jvm.Cond.code ({ cls := "java/lang/StringUTF16", name := "putChar", desc := "([BII)V" } : Jvm.MethodName) jdk_52_method_4_code (3 : Nat) (Option.none : Option Jvm.ClassFile.FieldType), Jvm.Cond.code ({ cls := "java/lang/StringUTF16", name := "getChar", desc := "([BI)C" } : Jvm.MethodName) jdk_52_method_5_code (2 : Nat) (Option.some Jvm.ClassFile.FieldType.char), Jvm.Cond.code ({ cls := "java/lang/StringUTF16", name := "indexOf", desc := "([BIII)I" } : Jvm.MethodName) jdk_52_method_40_code (4 : Nat) (Option.some Jvm.ClassFile.FieldType.int), Jvm.Cond.code ({ cls := "java/lang/Math", name := "max", desc := "(II)I" } : Jvm.MethodName) jdk_29_method_65_code (2 : Nat) (Option.some Jvm.ClassFile.FieldType.int), Jvm.Cond.code ({ cls := "java/lang/Math", name := "min", desc := "(II)I" } : Jvm.MethodName) jdk_29_method_69_code (2 : Nat) (Option.some Jvm.ClassFile.FieldType.int), Jvm.Cond.code ({ cls := "java/lang/StringUTF16", name := "indexOfChar", desc := "([BIII)I" } : Jvm.MethodName) jdk_52_method_47_code (4 : Nat) (Option.some Jvm.ClassFile.FieldType.int), Jvm.Cond.code ({ cls := "java/lang/StringUTF16", name := "checkBoundsBeginEnd", desc := "(II[B)V" } : Jvm.MethodName) jdk_52_method_93_code (3 : Nat) (Option.none : Option Jvm.ClassFile.FieldType), Jvm.Cond.code ({ cls := "java/lang/StringUTF16", name := "length", desc := "([B)I" } : Jvm.MethodName) jdk_52_method_6_code (1 : Nat) (Option.some Jvm.ClassFile.FieldType.int), Jvm.Cond.code ({ cls := "java/lang/String", name := "checkBoundsBeginEnd", desc := "(III)V" } : Jvm.MethodName) jdk_42_method_158_code (3 : Nat) (Option.none : Option Jvm.ClassFile.FieldType), Jvm.Cond.code ({ cls := "jdk/internal/util/Preconditions", name := "checkFromToIndex", desc := "(IIILjava/util/function/BiFunction;)I" } : Jvm.MethodName) jdk_41_method_12_code (4 : Nat) (Option.some Jvm.ClassFile.FieldType.int), Jvm.Cond.code ({ cls := "java/lang/StringUTF16", name := "indexOfCharUnsafe", desc := "([BIII)I" } : Jvm.MethodName) jdk_52_method_48_code (5 : Nat) (Option.some Jvm.ClassFile.FieldType.int)]
set_option maxRecDepth 65536 in
theorem codes_eq : words1.filter isCode = codes1 := rfl
theorem w_codes : ∀ c ∈ words1.filter isCode, c.before args0 about1 = true := by
  rw [codes_eq]
  intro c hc
  simp only [codes1, List.mem_cons, List.not_mem_nil, or_false] at hc
  rcases hc with rfl | rfl | rfl | rfl | rfl | rfl | rfl | rfl | rfl | rfl | rfl | rfl | rfl | rfl | rfl | rfl | rfl | rfl | rfl | rfl | rfl | rfl | rfl | rfl | rfl | rfl | rfl | rfl | rfl | rfl | rfl
  · exact w_c0
  · exact w_c1
  · exact w_c2
  · exact w_c3
  · exact w_c4
  · exact w_c5
  · exact w_c6
  · exact w_c7
  · exact w_c8
  · exact w_c9
  · exact w_c10
  · exact w_c11
  · exact w_c12
  · exact w_c13
  · exact w_c14
  · exact w_c15
  · exact w_c16
  · exact w_c17
  · exact w_c18
  · exact w_c19
  · exact w_c20
  · exact w_c21
  · exact w_c22
  · exact w_c23
  · exact w_c24
  · exact w_c25
  · exact w_c26
  · exact w_c27
  · exact w_c28
  · exact w_c29
  · exact w_c30
set_option maxRecDepth 65536 in
theorem w_t1 : (words1.take 24).all (fun c => isCode c || c.before args0 about1) = true := by decide +kernel
set_option maxRecDepth 65536 in
theorem w_t2 : ((words1.drop 24).take 24).all (fun c => isCode c || c.before args0 about1) = true := by decide +kernel
set_option maxRecDepth 65536 in
theorem w_t3 : (((words1.drop 24).drop 24).take 24).all (fun c => isCode c || c.before args0 about1) = true := by decide +kernel
set_option maxRecDepth 65536 in
theorem w_t4 : ((((words1.drop 24).drop 24).drop 24).take 24).all (fun c => isCode c || c.before args0 about1) = true := by decide +kernel
set_option maxRecDepth 65536 in
theorem w_t5 : (((((words1.drop 24).drop 24).drop 24).drop 24).take 24).all (fun c => isCode c || c.before args0 about1) = true := by decide +kernel
set_option maxRecDepth 65536 in
theorem w_t6 : (((((words1.drop 24).drop 24).drop 24).drop 24).drop 24).all (fun c => isCode c || c.before args0 about1) = true := by decide +kernel
theorem w_tables : (allAtoms (Jvm.Cond.code x code maxLocals ret :: tables_1)).before args0 about1 = true := by
  rw [allAtoms_all]
  show words1.all (fun c => c.before args0 about1) = true
  refine all_split ?_ w_codes
  rw [← List.take_append_drop 24 words1, List.all_append, w_t1, ← List.take_append_drop 24 (words1.drop 24), List.all_append, w_t2, ← List.take_append_drop 24 ((words1.drop 24).drop 24), List.all_append, w_t3, ← List.take_append_drop 24 (((words1.drop 24).drop 24).drop 24), List.all_append, w_t4, ← List.take_append_drop 24 ((((words1.drop 24).drop 24).drop 24).drop 24), List.all_append, w_t5, w_t6]
  rfl
set_option maxRecDepth 65536 in
theorem w_rest : rest_1_c.before args0 about1 = true := by decide +kernel
set_option maxRecDepth 65536 in
theorem w_case : (Jvm.Cond.and given_1 narrow_1).before args0 about1 = true := by decide +kernel
set_option maxRecDepth 65536 in
theorem w_consts : constsHeld consts_1 about1 := Jvm.Lit.constsHeldB_iff.mp (by decide +kernel)
theorem w_applies : (headSpec (Jvm.Cond.code x code maxLocals ret :: tables_1) room_1).applies x e0.platform about1 = true :=
  (Spec.applies_iff w_frames).mpr ⟨w_running, w_runnable, w_alone, w_named, w_hears, w_ripe, w_room, w_tables⟩
theorem atStart : AtStart classFile x code maxLocals ret World_1 tables_1 room_1 Calls_1 rest_1 Pre_1 launch0 p0 e0 about1 theMethod args0 below0 :=
  ⟨lists_1, trivial, launch0.admits_env _ _ _, launch0.least_env, fairChoices_fair.cas, fairChoices_fair.clock, w_frames, w_args, w_heap, w_applies, ⟨w_consts, trivial⟩, w_rest, w_case⟩
end start1
theorem witness_1 : WitnessClaimed_1 := ⟨start1.p0, start1.e0, start1.about1, start1.theMethod, start1.args0, start1.below0, start1.atStart⟩
end Jvm.Pilot.@@N@@
