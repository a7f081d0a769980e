import JvmDerived
import JvmDerived.Pilot.@@N@@Statement
import JvmDerived.Pilot.@@N@@Code
set_option linter.unusedVariables false
set_option linter.unusedSimpArgs false
namespace Jvm.RoadKit
open Sem ClassFile Op Lib Jvm.Stand Jvm.Free Jvm.LawKit
section New
variable {p : Program} {l : Launch} {e : Env} {R : Room} {s : State} {m : MethodId} {args : Array Value} {below : List Frame} {meth : Method} {c : Code} {T : State} {locs : List Loc} {cells slots : Nat}
theorem retI (X : Stand p l e R s m args below meth c T locs cells slots) (hx : p.tables.exec = Jvm.exec) {pc : Nat} {Ls : Array Slot} {z : Int32} {rest : List Value} (hret : meth.sig.returnType = some .int) (hd : decode c.code pc = .ok (.ireturn, 1)) {fs : List Frame}
    (hl : ∀ (f : JFrame) (acts : List Action), f.method = m → f.locked = none → f.entered = [] → (doReturn e (T.setTop f) acts (some (.int z))).1 = T.setFrames fs) : Steps p.tables e below (T.setTop (mkF m pc Ls (.int z :: rest))) (T.setFrames fs) := by
  have hm' : T.vm.method? m = some meth := X.method'
  have hn : narrow .int (.int z) = .int z := rfl
  show Steps p.tables e below (T.setTop { method := m, pc := pc, locals := Ls, stack := _ :: rest, locked := none }) _
  jvm_step X.here [X.here.top, hx, hd, hm', hret, hn]
  first | (intro acts; rw [hl _ acts rfl rfl rfl]) | rw [hl _ _ rfl rfl rfl]
  exact Steps.refl _
/-- from the state T with the frame g on top the run ends, returned, with Q -/
def own_Go (tb : Tables) (e : Env) (below : List Frame) (Q : Option Value → Heap → List Loc → Prop) (s : State) (C S : Nat) (T : State) (g : JFrame) : Prop :=
  ∃ t o, Steps tb e below (T.setTop g) t ∧ t.status = .running ∧ Ended t below o ∧ ∃ v L, o = .returned v ∧ Q v t.heap L ∧ FrameEnd s o t L C S
theorem own_by {tb : Tables} {Q : Option Value → Heap → List Loc → Prop} {C S : Nat} {T T' : State} {g g' : JFrame} (st : ∀ target, Steps tb e below (T'.setTop g') target → Steps tb e below (T.setTop g) target) (k : own_Go tb e below Q s C S T' g') : own_Go tb e below Q s C S T g := by
  obtain ⟨t, o, h1, h2⟩ := k
  exact ⟨t, o, st t h1, h2⟩
theorem bN {tb : Tables} {Q : Option Value → Heap → List Loc → Prop} {C S : Nat} {T : State} {g : JFrame} (T' : State) (g' : JFrame) (st : ∀ target, Steps tb e below (T'.setTop g') target → Steps tb e below (T.setTop g) target) (k : own_Go tb e below Q s C S T' g') : own_Go tb e below Q s C S T g := own_by st k
/-- the contract of a body: from the heap h0, with the arguments A, it returns, with Q -/
abbrev own_M (l : Launch) (y : MethodName) (code : ByteArray) (ml : Nat) (rt : Option FieldType) (ws : List Cond) (R : Room) (Z : State) (A : Array Value) (h0 : Heap) (Q : Option Value → Heap → List Loc → Prop) : Prop :=
  MetFree l y (head1 (Cond.code y code ml rt :: ws) R) (fun a U => a = A ∧ Z.Warmed39 U.vm ∧ U.heap = h0) (fun _ _ _ _ _ => True) (fun _ U o U' => ∃ v L, o = .returned v ∧ Q v U'.heap L ∧ FrameEnd U o U' L R.cells R.slots)
theorem own_bd {y : MethodName} {code : ByteArray} {ml : Nat} {rt : Option FieldType} {ws : List Cond} {Z : State} {A : Array Value} {h0 : Heap} {Q : Option Value → Heap → List Loc → Prop} (hpl : plainFor y = true)
    (k : ∀ p e s m below meth c s₁, BodyLoose p l y (head1 (Cond.code y code ml rt :: ws) R) code ml rt e s m A below meth c s₁ → p.tables.exec = Jvm.exec → c.code = code → c.maxLocals = ml → s.vm.findClass y.cls = some m.cls → meth.name = y.name → meth.locks = false → Z.Warmed39 s.vm → Stand p l e R s m A below meth c s₁ [] 0 0 → s₁.heap = h0 → own_Go p.tables e below Q s R.cells R.slots s₁ (entryFrame m A ml)) : own_M l y code ml rt ws R Z A h0 Q := by
  refine MetFree.of_bodySF hpl hisR ?_
  intro p e s m args below meth c s₁ Bd hml hP hK
  obtain ⟨rfl, hZ, hh⟩ := hP
  exact k p e s m below meth c s₁ Bd Bd.exec Bd.bytes hml (findClass_of_methodNamed Bd.named) (name_of_methodNamed Bd.named Bd.method).1 Bd.notSynchronized hZ (Stand.of_body Bd) (by rw [← hh, Bd.state]; rfl)
theorem own_ret {Q : Option Value → Heap → List Loc → Prop} {C S : Nat} {g : JFrame} (X : Stand p l e R s m args below meth c T locs cells slots) (hlk : meth.locks = false) {v : Option Value} (hv : meth.sig.returnType = none → v = none)
    (st : ∀ fs, (∀ (f : JFrame) (acts : List Action), f.method = m → f.locked = none → f.entered = [] → (doReturn e (T.setTop f) acts v).1 = T.setFrames fs) → Steps p.tables e below (T.setTop g) (T.setFrames fs))
    (hq : Q v T.heap locs) (hc : cells ≤ C) (hs : slots ≤ S) : own_Go p.tables e below Q s C S T g := by
  obtain ⟨fs, hr, hrun, hended, hW, hsame⟩ := X.leave (v := v) hv hlk
  exact ⟨_, _, st fs hr, hrun, hended, v, locs, rfl, hq, ⟨v, rfl⟩, hW, hsame.mono hc hs⟩
end New
end Jvm.RoadKit
namespace Jvm.Pilot.@@N@@
open Jvm Jvm.ClassFile Sem Op Lib Jvm.Free Jvm.Stand Jvm.LawKit Jvm.RoadKit Bundle Jvm.Pilot.@@N@@.Jvm.D
theorem pd_0 : parseMethodDescriptor "()[Lcom/example/millrace/millrace/Cell$Type;" = some ⟨[], some (.array (.object "com/example/millrace/millrace/Cell$Type"))⟩ := by decide +kernel
theorem pd_1 : parseMethodDescriptor "(B)Lcom/example/millrace/millrace/Cell$Type;" = some ⟨[.byte], some (.object "com/example/millrace/millrace/Cell$Type")⟩ := by decide +kernel
theorem own_fld {args : Array Value} {s : State} {t : Term} {C n d : String} {a : Addr} {k : Int32} (ht : t.eval args s none [] s = some (.ref a)) (h : (Jvm.Cond.eq (.field t C n d) (.int k)).value args s none s [] = some true) : Fld s s.heap a C n d (.int k) := by
  refine Fld.start ?_
  rw [← fld_at (args := args) (first := s) (o := none) (idx := []) (s := s) (C := C) (n := n) (dd := d) ht]
  obtain ⟨x, y, e1, e2, -, -⟩ := cmp_v (Or.inl h)
  rw [Term.int_eval k] at e2
  obtain rfl : Value.int k = y := Option.some.inj e2
  cases x <;> simp [Jvm.Cond.value, e1, Term.int_eval] at h
  rw [e1, h]
theorem own_eqi {args : Array Value} {s : State} {a : Term} {k : Int32} (h : (Jvm.Cond.eq a (.int k)).value args s none s [] = some true) : a.eval args s none [] s = some (.int k) := by
  obtain ⟨x, y, e1, e2, -, -⟩ := cmp_v (Or.inl h)
  rw [Term.int_eval k] at e2
  obtain rfl : Value.int k = y := Option.some.inj e2
  cases x <;> simp [Jvm.Cond.value, e1, Term.int_eval] at h
  rw [e1, h]
theorem own_len {args : Array Value} {s : State} {t : Term} {a : Addr} {cl : Cell} {n : Int32} (ht : t.eval args s none [] s = some (.ref a)) (ha : s.arrayAt? a = some cl) (h : (Jvm.Cond.eq (.length t) (.int n)).value args s none s [] = some true) : cl.slots.size < 2 ^ 31 ∧ cl.slots.size.toInt32 = n := by
  have e := own_eqi h
  simp [Term.eval, ht, ha] at e
  exact e
theorem own_ne0 {args : Array Value} {s : State} {a : Term} {x k : Int32} (e : a.eval args s none [] s = some (.int x)) (h : (Jvm.Cond.not (.eq a (.int k))).before args s = true) : ¬ x = k := by
  have h1 := not_v (Cond.before_iff.mp h)
  intro q
  subst q
  simp [Jvm.Cond.value, e, Term.int_eval] at h1
theorem own_eqr {args : Array Value} {s : State} {a b : Term} {x : Addr} (eb : b.eval args s none [] s = some (.ref x)) (h : (Jvm.Cond.eq a b).value args s none s [] = some true) : a.eval args s none [] s = some (.ref x) := by
  obtain ⟨u, y, e1, e2, -, -⟩ := cmp_v (Or.inl h)
  rw [eb] at e2
  obtain rfl : Value.ref x = y := Option.some.inj e2
  cases u <;> simp [Jvm.Cond.value, e1, eb] at h
  rw [e1, h]
theorem own_arv {Z : State} {h : Heap} {a : Addr} {k : ClassId} {ty : FieldType} {z : Int32} {vs : List Value} {dv : Value} (F : Arh Z h a k ty z [] vs dv) : Arv Z h a k ty z vs dv := by
  obtain ⟨c, A, q1, S, q3, H, G⟩ := F
  exact ⟨c, A, q1, S, q3, fun i hi => H i hi, fun i hi => G i hi⟩
theorem own_and3 (x : Int32) : x &&& 3 = 0 ∨ x &&& 3 = 1 ∨ x &&& 3 = 2 ∨ x &&& 3 = 3 := by
  have h := c_mask x 3 2 (by decide) (by decide)
  have h1 := Int.emod_nonneg x.toInt (b := ((2 ^ 2 : Nat) : Int)) (by decide)
  have h2 := Int.emod_lt_of_pos x.toInt (b := ((2 ^ 2 : Nat) : Int)) (by decide)
  rw [← h] at h1 h2
  have k0 : (0 : Int32).toInt = 0 := by decide
  have k1 : (1 : Int32).toInt = 1 := by decide
  have k2 : (2 : Int32).toInt = 2 := by decide
  have k3 : (3 : Int32).toInt = 3 := by decide
  simp only [← Int32.toInt_inj, k0, k1, k2, k3]
  omega
theorem own_b3 (x : Int32) : (x &&& (3 : Int32)).toInt8.toInt32 = (0 : Int32) ∨ (x &&& (3 : Int32)).toInt8.toInt32 = (1 : Int32) ∨ (x &&& (3 : Int32)).toInt8.toInt32 = (2 : Int32) ∨ (x &&& (3 : Int32)).toInt8.toInt32 = (3 : Int32) := by
  rcases own_and3 x with h | h | h | h <;> rw [h] <;> decide
theorem d2_0 : decode prog_2_method_1_code 0 = .ok (.getstatic 16, 3) := by decide +kernel
theorem d2_3 : decode prog_2_method_1_code 3 = .ok (.invokevirtual 20, 3) := by decide +kernel
theorem d2_6 : decode prog_2_method_1_code 6 = .ok (.checkcast 21, 3) := by decide +kernel
theorem d2_9 : decode prog_2_method_1_code 9 = .ok (.areturn, 1) := by decide +kernel
theorem pn_2 : plainName "com/example/millrace/millrace/Cell$Type" = true := by first | (simp [plainName, overriddenIn]; done) | decide +kernel
theorem ef_rm2 (m : MethodId)  : entryFrame m #[] 0 = mkF m 0 #[] [] := by first | (simp [entryFrame, mkF, argsToLocals, Value.category]; done) | rfl
def Q_rm2 (Z : State) (va : Addr) (kv : ClassId) (a_DELETE_ROW : Addr) (a_DELETE_FAMILY : Addr) (a_DELETE_COLUMN : Addr) (a_PUT : Addr) (h0 : Heap) (n0 : Nat) (v : Option Value) (h : Heap) (L : List Loc) : Prop := ∃ t : Addr, v = some (.ref t) ∧ Fr n0 L ∧ Keep h0 h [] ∧ Arv Z h t kv (.object "com/example/millrace/millrace/Cell$Type") (4 : Int32) [(.ref a_DELETE_ROW), (.ref a_DELETE_FAMILY), (.ref a_DELETE_COLUMN), (.ref a_PUT)] .null
set_option maxRecDepth 65536 in
set_option maxHeartbeats 40000000 in
theorem rm2 (l : Launch) (Z : State) (a0 : Array Value) (hw : ∀ d ∈ tables_1, d.before a0 Z = true) (ws : List Jvm.Cond) (va : Addr) (kv : ClassId) (a_DELETE_ROW : Addr) (a_DELETE_FAMILY : Addr) (a_DELETE_COLUMN : Addr) (a_PUT : Addr) (h0 : Heap) (n0 : Nat) (Z0 : n0 ≤ h0.size) (S__VALUES : Sta Z h0 "com/example/millrace/millrace/Cell$Type" "$VALUES" "[Lcom/example/millrace/millrace/Cell$Type;" (.ref va)) (E_va : Exa Z h0 va "[Lcom/example/millrace/millrace/Cell$Type;") (V_va : Arv Z h0 va kv (.object "com/example/millrace/millrace/Cell$Type") (4 : Int32) [(.ref a_DELETE_ROW), (.ref a_DELETE_FAMILY), (.ref a_DELETE_COLUMN), (.ref a_PUT)] .null) :
    MetFree l (⟨"com/example/millrace/millrace/Cell$Type", "values", "()[Lcom/example/millrace/millrace/Cell$Type;"⟩ : MethodName) (head1 (Jvm.Cond.code (⟨"com/example/millrace/millrace/Cell$Type", "values", "()[Lcom/example/millrace/millrace/Cell$Type;"⟩ : MethodName) prog_2_method_1_code 0 (some (.array (.object "com/example/millrace/millrace/Cell$Type"))) :: ws) ({ frames := 1, cells := 1, slots := 4, locals := 14 } : Room)) (fun zz UU => zz = #[] ∧ Z.Warmed39 UU.vm ∧ UU.heap = h0) (fun _ _ _ _ _ => True) (fun _ U o U' => ∃ v L, o = .returned v ∧ Q_rm2 Z va kv a_DELETE_ROW a_DELETE_FAMILY a_DELETE_COLUMN a_PUT h0 n0 v U'.heap L ∧ FrameEnd U o U' L ({ frames := 1, cells := 1, slots := 4, locals := 14 } : Room).cells ({ frames := 1, cells := 1, slots := 4, locals := 14 } : Room).slots) := by
  refine MetFree.of_bodySF (plainFor_of_name pn_2) hisR ?_
  intro p e s m args below meth c s₁ Bd hml0 hP hK
  obtain ⟨rfl, hZ, hh⟩ := hP
  have hx := Bd.exec
  have hby := Bd.bytes
  have hml : c.maxLocals = 0 := hml0
  have hown : s.vm.findClass "com/example/millrace/millrace/Cell$Type" = some m.cls := findClass_of_methodNamed Bd.named
  have hnm := (name_of_methodNamed Bd.named Bd.method).1
  have hlk : meth.locks = false := BodyLoose.notSynchronized Bd
  have X0 : Stand p l e ({ frames := 1, cells := 1, slots := 4, locals := 14 } : Room) s m #[] below meth c s₁ [] 0 0 := Stand.of_body Bd
  have e0 : s₁.heap = h0 := by rw [← hh, Bd.state]; rfl
  have N0 := Fr.nil n0
  show own_Go p.tables e below (Q_rm2 Z va kv a_DELETE_ROW a_DELETE_FAMILY a_DELETE_COLUMN a_PUT h0 n0) s ({ frames := 1, cells := 1, slots := 4, locals := 14 } : Room).cells ({ frames := 1, cells := 1, slots := 4, locals := 14 } : Room).slots s₁ (entryFrame m #[] 0)
  rw [ef_rm2 m ]
  obtain ⟨T21, X21, e21, st21⟩ := getS2 X0 hx hZ hown (host := "") (Or.inl (hw _ (List.mem_of_getElem? (i := 7) rfl))) Via.refl e0 S__VALUES (g := (mkF m 0 #[] [])) rfl (hb hby d2_0)
  refine own_by (T' := T21) (g' := (mkF m 3 #[] [(.ref va)])) (fun _ k => st21 _ k) ?_
  obtain ⟨T22, h22, X22, e22, E22, A22, XA22, st22⟩ := cloneH X21 hx hZ hown (hw _ (List.mem_of_getElem? (i := 9) rfl)) (hw _ (List.mem_of_getElem? (i := 10) rfl)) (hw _ (List.mem_of_getElem? (i := 14) rfl)) (hw _ (List.mem_of_getElem? (i := 12) rfl)) (hw _ (List.mem_of_getElem? (i := 13) rfl)) (hw _ (List.mem_of_getElem? (i := 15) rfl)) e21 (Arv.arh V_va) E_va (g := (mkF m 3 #[] [(.ref va)])) rfl (by rw [hml]; rfl) rfl (hb hby d2_3) (by decide) (W := 0) (by show 2 * 0 + _ ≤ _; exact Nat.le_of_eq rfl) (by decide) (cap := 4) (by decide) (by decide) (by decide)
  obtain ⟨b22, g22⟩ : ∃ z, z = h0.size := ⟨_, rfl⟩
  rw [← g22] at A22 XA22 st22
  have g_b22 : n0 ≤ b22 := Nat.le_trans Z0 (Nat.le_of_eq g22.symm)
  have sz_b22 : h0.size ≤ b22 := Nat.le_trans (Keep.refl h0 []).1 (Nat.le_of_eq g22.symm)
  have K22 : Keep h0 h22 [] := Keep.ext (Keep.refl h0 []) E22
  refine own_by (T' := T22) (g' := (mkF m 6 #[] [(.ref b22)])) (fun _ k => st22 _ k) ?_
  obtain ⟨T23, X23, e23, st23⟩ := castY X22 hx hZ hown (hw _ (List.mem_of_getElem? (i := 21) rfl)) e22 (Ins.self XA22) (g := (mkF m 6 #[] [(.ref b22)])) rfl rfl (hb hby d2_6)
  refine own_by (T' := T23) (g' := (mkF m 9 #[] [(.ref b22)])) (fun _ k => st23 _ k) ?_
  refine own_ret X23 hlk (v := some (.ref b22)) (fun h => by rw [Bd.returns] at h; cases h) (fun fs hr => retOut X23 hx Bd.returns rfl (Or.inr (Or.inr (Or.inr (Or.inr ⟨rfl, rfl, rfl⟩)))) (hb hby d2_9) hr) ?_ (by decide) (by decide)
  rw [e23]
  exact ⟨_, rfl, N0, K22, (own_arv A22)⟩
theorem d1_0 : decode prog_2_method_4_code 0 = .ok (.invokestatic 39, 3) := by decide +kernel
theorem d1_3 : decode prog_2_method_4_code 3 = .ok (.astore_n 1, 1) := by decide +kernel
theorem d1_4 : decode prog_2_method_4_code 4 = .ok (.aload_n 1, 1) := by decide +kernel
theorem d1_5 : decode prog_2_method_4_code 5 = .ok (.arraylength, 1) := by decide +kernel
theorem d1_6 : decode prog_2_method_4_code 6 = .ok (.istore_n 2, 1) := by decide +kernel
theorem d1_7 : decode prog_2_method_4_code 7 = .ok (.iconst 0, 1) := by decide +kernel
theorem d1_8 : decode prog_2_method_4_code 8 = .ok (.istore_n 3, 1) := by decide +kernel
theorem d1_9 : decode prog_2_method_4_code 9 = .ok (.iload_n 3, 1) := by decide +kernel
theorem d1_10 : decode prog_2_method_4_code 10 = .ok (.iload_n 2, 1) := by decide +kernel
theorem d1_11 : decode prog_2_method_4_code 11 = .ok (.if_icmp .ge 26, 3) := by decide +kernel
theorem d1_14 : decode prog_2_method_4_code 14 = .ok (.aload_n 1, 1) := by decide +kernel
theorem d1_15 : decode prog_2_method_4_code 15 = .ok (.iload_n 3, 1) := by decide +kernel
theorem d1_16 : decode prog_2_method_4_code 16 = .ok (.aaload, 1) := by decide +kernel
theorem d1_17 : decode prog_2_method_4_code 17 = .ok (.astore 4, 2) := by decide +kernel
theorem d1_19 : decode prog_2_method_4_code 19 = .ok (.aload 4, 2) := by decide +kernel
theorem d1_21 : decode prog_2_method_4_code 21 = .ok (.getfield 35, 3) := by decide +kernel
theorem d1_24 : decode prog_2_method_4_code 24 = .ok (.iload_n 0, 1) := by decide +kernel
theorem d1_25 : decode prog_2_method_4_code 25 = .ok (.if_icmp .ne 6, 3) := by decide +kernel
theorem d1_28 : decode prog_2_method_4_code 28 = .ok (.aload 4, 2) := by decide +kernel
theorem d1_30 : decode prog_2_method_4_code 30 = .ok (.areturn, 1) := by decide +kernel
theorem pn_1 : plainName "com/example/millrace/millrace/Cell$Type" = true := by first | (simp [plainName, overriddenIn]; done) | decide +kernel
theorem ef_of_3 (m : MethodId)  : entryFrame m #[(.int (3 : Int32))] 5 = mkF m 0 #[.val (.int (3 : Int32)), .unset, .unset, .unset, .unset] [] := by first | (simp [entryFrame, mkF, argsToLocals, Value.category]; done) | rfl
def Q_of_3 (Z : State) (va : Addr) (kv : ClassId) (a_DELETE_ROW : Addr) (a_DELETE_FAMILY : Addr) (a_DELETE_COLUMN : Addr) (a_PUT : Addr) (h0 : Heap) (n0 : Nat) (v : Option Value) (h : Heap) (L : List Loc) : Prop := v = some (.ref a_DELETE_ROW) ∧ Fr n0 L ∧ Keep h0 h []
set_option maxRecDepth 65536 in
set_option maxHeartbeats 40000000 in
theorem of_3 (l : Launch) (Z : State) (a0 : Array Value) (hw : ∀ d ∈ tables_1, d.before a0 Z = true) (ws : List Jvm.Cond) (va : Addr) (kv : ClassId) (a_DELETE_ROW : Addr) (a_DELETE_FAMILY : Addr) (a_DELETE_COLUMN : Addr) (a_PUT : Addr) (h0 : Heap) (n0 : Nat) (Z0 : n0 ≤ h0.size) (S__VALUES : Sta Z h0 "com/example/millrace/millrace/Cell$Type" "$VALUES" "[Lcom/example/millrace/millrace/Cell$Type;" (.ref va)) (E_va : Exa Z h0 va "[Lcom/example/millrace/millrace/Cell$Type;") (V_va : Arv Z h0 va kv (.object "com/example/millrace/millrace/Cell$Type") (4 : Int32) [(.ref a_DELETE_ROW), (.ref a_DELETE_FAMILY), (.ref a_DELETE_COLUMN), (.ref a_PUT)] .null) (F_code_a_DELETE_ROW : Fld Z h0 a_DELETE_ROW "com/example/millrace/millrace/Cell$Type" "code" "B" (.int (3 : Int32))) (F_code_a_DELETE_FAMILY : Fld Z h0 a_DELETE_FAMILY "com/example/millrace/millrace/Cell$Type" "code" "B" (.int (2 : Int32))) (F_code_a_DELETE_COLUMN : Fld Z h0 a_DELETE_COLUMN "com/example/millrace/millrace/Cell$Type" "code" "B" (.int (1 : Int32))) (F_code_a_PUT : Fld Z h0 a_PUT "com/example/millrace/millrace/Cell$Type" "code" "B" (.int (0 : Int32))) :
    MetFree l (⟨"com/example/millrace/millrace/Cell$Type", "of", "(B)Lcom/example/millrace/millrace/Cell$Type;"⟩ : MethodName) (head1 (Jvm.Cond.code (⟨"com/example/millrace/millrace/Cell$Type", "of", "(B)Lcom/example/millrace/millrace/Cell$Type;"⟩ : MethodName) prog_2_method_4_code 5 (some (.object "com/example/millrace/millrace/Cell$Type")) :: ws) ({ frames := 2, cells := 1, slots := 4, locals := 25 } : Room)) (fun zz UU => zz = #[(.int (3 : Int32))] ∧ Z.Warmed39 UU.vm ∧ UU.heap = h0) (fun _ _ _ _ _ => True) (fun _ U o U' => ∃ v L, o = .returned v ∧ Q_of_3 Z va kv a_DELETE_ROW a_DELETE_FAMILY a_DELETE_COLUMN a_PUT h0 n0 v U'.heap L ∧ FrameEnd U o U' L ({ frames := 2, cells := 1, slots := 4, locals := 25 } : Room).cells ({ frames := 2, cells := 1, slots := 4, locals := 25 } : Room).slots) := by
  refine MetFree.of_bodySF (plainFor_of_name pn_1) hisR ?_
  intro p e s m args below meth c s₁ Bd hml0 hP hK
  obtain ⟨rfl, hZ, hh⟩ := hP
  have hx := Bd.exec
  have hby := Bd.bytes
  have hml : c.maxLocals = 5 := hml0
  have hown : s.vm.findClass "com/example/millrace/millrace/Cell$Type" = some m.cls := findClass_of_methodNamed Bd.named
  have hnm := (name_of_methodNamed Bd.named Bd.method).1
  have hlk : meth.locks = false := BodyLoose.notSynchronized Bd
  have X0 : Stand p l e ({ frames := 2, cells := 1, slots := 4, locals := 25 } : Room) s m #[(.int (3 : Int32))] below meth c s₁ [] 0 0 := Stand.of_body Bd
  have e0 : s₁.heap = h0 := by rw [← hh, Bd.state]; rfl
  have N0 := Fr.nil n0
  show own_Go p.tables e below (Q_of_3 Z va kv a_DELETE_ROW a_DELETE_FAMILY a_DELETE_COLUMN a_PUT h0 n0) s ({ frames := 2, cells := 1, slots := 4, locals := 25 } : Room).cells ({ frames := 2, cells := 1, slots := 4, locals := 25 } : Room).slots s₁ (entryFrame m #[(.int (3 : Int32))] 5)
  rw [ef_of_3 m ]
  obtain ⟨_, _, ⟨T21, L21, k21, n21⟩, -, X21, ⟨Lc21, hQ21, l21, y21, z21⟩, st21⟩ := Jvm.LawKit.callS X0 hx (y := (⟨"com/example/millrace/millrace/Cell$Type", "values", "()[Lcom/example/millrace/millrace/Cell$Type;"⟩ : MethodName)) hown (mvT hZ (hw _ (List.mem_of_getElem? (i := 4) rfl))) (mvT hZ (hw _ (List.mem_of_getElem? (i := 5) rfl))) (mvT hZ (hw _ (List.mem_of_getElem? (i := 2) rfl))) (mvT hZ (hw _ (List.mem_of_getElem? (i := 6) rfl))) (by decide) (backOf (W := 0) (rm2 l Z a0 hw []  va kv a_DELETE_ROW a_DELETE_FAMILY a_DELETE_COLUMN a_PUT h0 n0 Z0 S__VALUES E_va V_va) hZ (hw _ (List.mem_of_getElem? (i := 6) rfl)) (hw _ (List.mem_of_getElem? (i := 2) rfl)) (by decide) (by decide)) (g := (mkF m 0 #[.val (.int (3 : Int32)), .unset, .unset, .unset, .unset] [])) rfl (by rw [hml]; rfl) (argsL := []) (rest := []) (lenOf pd_0 rfl) rfl (by show 2 * 0 + _ ≤ _; exact Nat.le_of_eq rfl) (hb hby d1_0) (fun _ _ => ⟨rfl, e0, (by decide : 0 + 1 ≤ _), (by decide : 0 + 4 ≤ _)⟩)
  dsimp only [Pt.U, Pt.locs, Pt.cells, Pt.slots] at X21 l21 y21 z21 st21 hQ21
  subst l21 y21 z21
  obtain ⟨t21, rfl, N21q, K21, V21⟩ := hQ21
  have N21 := Fr.app N0 N21q
  have KK21 : Keep h0 T21.heap [] := Keep.trans (Keep.refl h0 []) K21 all0
  refine own_by (T' := T21) (g' := (mkF m 3 #[.val (.int (3 : Int32)), .unset, .unset, .unset, .unset] [(.ref t21)])) (fun _ k => st21 _ k) ?_
  refine own_by (T' := T21) (g' := (mkF m 4 #[.val (.int (3 : Int32)), .val (.ref t21), .unset, .unset, .unset] [])) (fun _ k => XS.astoreN X21.here hx rfl (hb hby d1_3) rfl rfl (l' := #[.val (.int (3 : Int32)), .val (.ref t21), .unset, .unset, .unset]) rfl k) ?_
  refine own_by (T' := T21) (g' := (mkF m 5 #[.val (.int (3 : Int32)), .val (.ref t21), .unset, .unset, .unset] [(.ref t21)])) (fun _ k => XS.aloadN X21.here hx rfl (hb hby d1_4) rfl rfl k) ?_
  obtain ⟨cl22, Ar22, q22, S22, N_22, H22, G22⟩ := id V21
  refine own_by (T' := T21) (g' := (mkF m 6 #[.val (.int (3 : Int32)), .val (.ref t21), .unset, .unset, .unset] [(.int (4 : Int32))])) (fun _ k => X21.arraylength hx Ar22.1 (State.isArrayOf_alike hZ.alike Ar22.2.1) (g := (mkF m 5 #[.val (.int (3 : Int32)), .val (.ref t21), .unset, .unset, .unset] [(.ref t21)])) rfl rfl (hb hby d1_5) _ (by rw [len_of S22 N_22]; exact k)) ?_
  refine own_by (T' := T21) (g' := (mkF m 7 #[.val (.int (3 : Int32)), .val (.ref t21), .val (.int (4 : Int32)), .unset, .unset] [])) (fun _ k => XS.istoreN X21.here hx rfl (hb hby d1_6) rfl (l' := #[.val (.int (3 : Int32)), .val (.ref t21), .val (.int (4 : Int32)), .unset, .unset]) rfl k) ?_
  refine own_by (T' := T21) (g' := (mkF m 8 #[.val (.int (3 : Int32)), .val (.ref t21), .val (.int (4 : Int32)), .unset, .unset] [(.int (0 : Int32))])) (fun _ k => XS.iconst X21.here hx rfl (hb hby d1_7) k) ?_
  refine own_by (T' := T21) (g' := (mkF m 9 #[.val (.int (3 : Int32)), .val (.ref t21), .val (.int (4 : Int32)), .val (.int (0 : Int32)), .unset] [])) (fun _ k => XS.istoreN X21.here hx rfl (hb hby d1_8) rfl (l' := #[.val (.int (3 : Int32)), .val (.ref t21), .val (.int (4 : Int32)), .val (.int (0 : Int32)), .unset]) rfl k) ?_
  refine own_by (T' := T21) (g' := (mkF m 10 #[.val (.int (3 : Int32)), .val (.ref t21), .val (.int (4 : Int32)), .val (.int (0 : Int32)), .unset] [(.int (0 : Int32))])) (fun _ k => XS.iloadN X21.here hx rfl (hb hby d1_9) rfl k) ?_
  refine own_by (T' := T21) (g' := (mkF m 11 #[.val (.int (3 : Int32)), .val (.ref t21), .val (.int (4 : Int32)), .val (.int (0 : Int32)), .unset] [(.int (4 : Int32)), (.int (0 : Int32))])) (fun _ k => XS.iloadN X21.here hx rfl (hb hby d1_10) rfl k) ?_
  refine own_by (T' := T21) (g' := (mkF m 14 #[.val (.int (3 : Int32)), .val (.ref t21), .val (.int (4 : Int32)), .val (.int (0 : Int32)), .unset] [])) (fun _ k => XS.icmpNo X21.here hx rfl (hb hby d1_11) rfl (tlt (by decide)).2.1 k) ?_
  refine own_by (T' := T21) (g' := (mkF m 15 #[.val (.int (3 : Int32)), .val (.ref t21), .val (.int (4 : Int32)), .val (.int (0 : Int32)), .unset] [(.ref t21)])) (fun _ k => XS.aloadN X21.here hx rfl (hb hby d1_14) rfl rfl k) ?_
  refine own_by (T' := T21) (g' := (mkF m 16 #[.val (.int (3 : Int32)), .val (.ref t21), .val (.int (4 : Int32)), .val (.int (0 : Int32)), .unset] [(.int (0 : Int32)), (.ref t21)])) (fun _ k => XS.iloadN X21.here hx rfl (hb hby d1_15) rfl k) ?_
  obtain ⟨cl23, Ar23, q23, S23, N_23, H23, G23⟩ := id V21
  have hin23 : ¬ ((0 : Int32) < 0 ∨ cl23.slots.size ≤ ((0 : Int32)).toNatClampNeg) := inb_of S23 ⟨by decide, by decide⟩
  refine own_by (T' := T21) (g' := (mkF m 17 #[.val (.int (3 : Int32)), .val (.ref t21), .val (.int (4 : Int32)), .val (.int (0 : Int32)), .unset] [(.ref a_DELETE_ROW)])) (fun _ k => X21.aaload hx (j := (0 : Int32)) (v := (.ref a_DELETE_ROW)) Ar23.1 (State.isArrayOf_alike hZ.alike Ar23.2.1) rfl Ar23.2.2 hin23 (Has.at H23 hin23 rfl) (g := (mkF m 16 #[.val (.int (3 : Int32)), .val (.ref t21), .val (.int (4 : Int32)), .val (.int (0 : Int32)), .unset] [(.int (0 : Int32)), (.ref t21)])) rfl rfl (hb hby d1_16) _ k) ?_
  refine own_by (T' := T21) (g' := (mkF m 19 #[.val (.int (3 : Int32)), .val (.ref t21), .val (.int (4 : Int32)), .val (.int (0 : Int32)), .val (.ref a_DELETE_ROW)] [])) (fun _ k => XS.astore X21.here hx rfl (hb hby d1_17) rfl rfl (l' := #[.val (.int (3 : Int32)), .val (.ref t21), .val (.int (4 : Int32)), .val (.int (0 : Int32)), .val (.ref a_DELETE_ROW)]) rfl k) ?_
  refine own_by (T' := T21) (g' := (mkF m 21 #[.val (.int (3 : Int32)), .val (.ref t21), .val (.int (4 : Int32)), .val (.int (0 : Int32)), .val (.ref a_DELETE_ROW)] [(.ref a_DELETE_ROW)])) (fun _ k => XS.aload X21.here hx rfl (hb hby d1_19) rfl rfl k) ?_
  obtain ⟨T24, X24, e24, st24⟩ := getF X21 hx hZ hown (host := "") (Or.inl (hw _ (List.mem_of_getElem? (i := 23) rfl))) Via.refl rfl (Fld.keep F_code_a_DELETE_ROW K21 nin0) (g := (mkF m 21 #[.val (.int (3 : Int32)), .val (.ref t21), .val (.int (4 : Int32)), .val (.int (0 : Int32)), .val (.ref a_DELETE_ROW)] [(.ref a_DELETE_ROW)])) rfl rfl (hb hby d1_21)
  refine own_by (T' := T24) (g' := (mkF m 24 #[.val (.int (3 : Int32)), .val (.ref t21), .val (.int (4 : Int32)), .val (.int (0 : Int32)), .val (.ref a_DELETE_ROW)] [(.int (3 : Int32))])) (fun _ k => st24 _ k) ?_
  refine own_by (T' := T24) (g' := (mkF m 25 #[.val (.int (3 : Int32)), .val (.ref t21), .val (.int (4 : Int32)), .val (.int (0 : Int32)), .val (.ref a_DELETE_ROW)] [(.int (3 : Int32)), (.int (3 : Int32))])) (fun _ k => XS.iloadN X24.here hx rfl (hb hby d1_24) rfl k) ?_
  refine own_by (T' := T24) (g' := (mkF m 28 #[.val (.int (3 : Int32)), .val (.ref t21), .val (.int (4 : Int32)), .val (.int (0 : Int32)), .val (.ref a_DELETE_ROW)] [])) (fun _ k => XS.icmpNo X24.here hx rfl (hb hby d1_25) rfl (teq (by decide)).2 k) ?_
  refine own_by (T' := T24) (g' := (mkF m 30 #[.val (.int (3 : Int32)), .val (.ref t21), .val (.int (4 : Int32)), .val (.int (0 : Int32)), .val (.ref a_DELETE_ROW)] [(.ref a_DELETE_ROW)])) (fun _ k => XS.aload X24.here hx rfl (hb hby d1_28) rfl rfl k) ?_
  refine own_ret X24 hlk (v := some (.ref a_DELETE_ROW)) (fun h => by rw [Bd.returns] at h; cases h) (fun fs hr => retOut X24 hx Bd.returns rfl (Or.inr (Or.inr (Or.inr (Or.inr ⟨rfl, rfl, rfl⟩)))) (hb hby d1_30) hr) ?_ (by decide) (by decide)
  rw [e24]
  exact ⟨rfl, N21, KK21⟩
theorem d1_31 : decode prog_2_method_4_code 31 = .ok (.iinc 3 1, 3) := by decide +kernel
theorem d1_34 : decode prog_2_method_4_code 34 = .ok (.goto (-25), 3) := by decide +kernel
theorem ef_of_2 (m : MethodId)  : entryFrame m #[(.int (2 : Int32))] 5 = mkF m 0 #[.val (.int (2 : Int32)), .unset, .unset, .unset, .unset] [] := by first | (simp [entryFrame, mkF, argsToLocals, Value.category]; done) | rfl
def Q_of_2 (Z : State) (va : Addr) (kv : ClassId) (a_DELETE_ROW : Addr) (a_DELETE_FAMILY : Addr) (a_DELETE_COLUMN : Addr) (a_PUT : Addr) (h0 : Heap) (n0 : Nat) (v : Option Value) (h : Heap) (L : List Loc) : Prop := v = some (.ref a_DELETE_FAMILY) ∧ Fr n0 L ∧ Keep h0 h []
set_option maxRecDepth 65536 in
set_option maxHeartbeats 40000000 in
theorem of_2 (l : Launch) (Z : State) (a0 : Array Value) (hw : ∀ d ∈ tables_1, d.before a0 Z = true) (ws : List Jvm.Cond) (va : Addr) (kv : ClassId) (a_DELETE_ROW : Addr) (a_DELETE_FAMILY : Addr) (a_DELETE_COLUMN : Addr) (a_PUT : Addr) (h0 : Heap) (n0 : Nat) (Z0 : n0 ≤ h0.size) (S__VALUES : Sta Z h0 "com/example/millrace/millrace/Cell$Type" "$VALUES" "[Lcom/example/millrace/millrace/Cell$Type;" (.ref va)) (E_va : Exa Z h0 va "[Lcom/example/millrace/millrace/Cell$Type;") (V_va : Arv Z h0 va kv (.object "com/example/millrace/millrace/Cell$Type") (4 : Int32) [(.ref a_DELETE_ROW), (.ref a_DELETE_FAMILY), (.ref a_DELETE_COLUMN), (.ref a_PUT)] .null) (F_code_a_DELETE_ROW : Fld Z h0 a_DELETE_ROW "com/example/millrace/millrace/Cell$Type" "code" "B" (.int (3 : Int32))) (F_code_a_DELETE_FAMILY : Fld Z h0 a_DELETE_FAMILY "com/example/millrace/millrace/Cell$Type" "code" "B" (.int (2 : Int32))) (F_code_a_DELETE_COLUMN : Fld Z h0 a_DELETE_COLUMN "com/example/millrace/millrace/Cell$Type" "code" "B" (.int (1 : Int32))) (F_code_a_PUT : Fld Z h0 a_PUT "com/example/millrace/millrace/Cell$Type" "code" "B" (.int (0 : Int32))) :
    MetFree l (⟨"com/example/millrace/millrace/Cell$Type", "of", "(B)Lcom/example/millrace/millrace/Cell$Type;"⟩ : MethodName) (head1 (Jvm.Cond.code (⟨"com/example/millrace/millrace/Cell$Type", "of", "(B)Lcom/example/millrace/millrace/Cell$Type;"⟩ : MethodName) prog_2_method_4_code 5 (some (.object "com/example/millrace/millrace/Cell$Type")) :: ws) ({ frames := 2, cells := 1, slots := 4, locals := 25 } : Room)) (fun zz UU => zz = #[(.int (2 : Int32))] ∧ Z.Warmed39 UU.vm ∧ UU.heap = h0) (fun _ _ _ _ _ => True) (fun _ U o U' => ∃ v L, o = .returned v ∧ Q_of_2 Z va kv a_DELETE_ROW a_DELETE_FAMILY a_DELETE_COLUMN a_PUT h0 n0 v U'.heap L ∧ FrameEnd U o U' L ({ frames := 2, cells := 1, slots := 4, locals := 25 } : Room).cells ({ frames := 2, cells := 1, slots := 4, locals := 25 } : Room).slots) := by
  refine MetFree.of_bodySF (plainFor_of_name pn_1) hisR ?_
  intro p e s m args below meth c s₁ Bd hml0 hP hK
  obtain ⟨rfl, hZ, hh⟩ := hP
  have hx := Bd.exec
  have hby := Bd.bytes
  have hml : c.maxLocals = 5 := hml0
  have hown : s.vm.findClass "com/example/millrace/millrace/Cell$Type" = some m.cls := findClass_of_methodNamed Bd.named
  have hnm := (name_of_methodNamed Bd.named Bd.method).1
  have hlk : meth.locks = false := BodyLoose.notSynchronized Bd
  have X0 : Stand p l e ({ frames := 2, cells := 1, slots := 4, locals := 25 } : Room) s m #[(.int (2 : Int32))] below meth c s₁ [] 0 0 := Stand.of_body Bd
  have e0 : s₁.heap = h0 := by rw [← hh, Bd.state]; rfl
  have N0 := Fr.nil n0
  show own_Go p.tables e below (Q_of_2 Z va kv a_DELETE_ROW a_DELETE_FAMILY a_DELETE_COLUMN a_PUT h0 n0) s ({ frames := 2, cells := 1, slots := 4, locals := 25 } : Room).cells ({ frames := 2, cells := 1, slots := 4, locals := 25 } : Room).slots s₁ (entryFrame m #[(.int (2 : Int32))] 5)
  rw [ef_of_2 m ]
  obtain ⟨_, _, ⟨T21, L21, k21, n21⟩, -, X21, ⟨Lc21, hQ21, l21, y21, z21⟩, st21⟩ := Jvm.LawKit.callS X0 hx (y := (⟨"com/example/millrace/millrace/Cell$Type", "values", "()[Lcom/example/millrace/millrace/Cell$Type;"⟩ : MethodName)) hown (mvT hZ (hw _ (List.mem_of_getElem? (i := 4) rfl))) (mvT hZ (hw _ (List.mem_of_getElem? (i := 5) rfl))) (mvT hZ (hw _ (List.mem_of_getElem? (i := 2) rfl))) (mvT hZ (hw _ (List.mem_of_getElem? (i := 6) rfl))) (by decide) (backOf (W := 0) (rm2 l Z a0 hw []  va kv a_DELETE_ROW a_DELETE_FAMILY a_DELETE_COLUMN a_PUT h0 n0 Z0 S__VALUES E_va V_va) hZ (hw _ (List.mem_of_getElem? (i := 6) rfl)) (hw _ (List.mem_of_getElem? (i := 2) rfl)) (by decide) (by decide)) (g := (mkF m 0 #[.val (.int (2 : Int32)), .unset, .unset, .unset, .unset] [])) rfl (by rw [hml]; rfl) (argsL := []) (rest := []) (lenOf pd_0 rfl) rfl (by show 2 * 0 + _ ≤ _; exact Nat.le_of_eq rfl) (hb hby d1_0) (fun _ _ => ⟨rfl, e0, (by decide : 0 + 1 ≤ _), (by decide : 0 + 4 ≤ _)⟩)
  dsimp only [Pt.U, Pt.locs, Pt.cells, Pt.slots] at X21 l21 y21 z21 st21 hQ21
  subst l21 y21 z21
  obtain ⟨t21, rfl, N21q, K21, V21⟩ := hQ21
  have N21 := Fr.app N0 N21q
  have KK21 : Keep h0 T21.heap [] := Keep.trans (Keep.refl h0 []) K21 all0
  refine own_by (T' := T21) (g' := (mkF m 3 #[.val (.int (2 : Int32)), .unset, .unset, .unset, .unset] [(.ref t21)])) (fun _ k => st21 _ k) ?_
  refine own_by (T' := T21) (g' := (mkF m 4 #[.val (.int (2 : Int32)), .val (.ref t21), .unset, .unset, .unset] [])) (fun _ k => XS.astoreN X21.here hx rfl (hb hby d1_3) rfl rfl (l' := #[.val (.int (2 : Int32)), .val (.ref t21), .unset, .unset, .unset]) rfl k) ?_
  refine own_by (T' := T21) (g' := (mkF m 5 #[.val (.int (2 : Int32)), .val (.ref t21), .unset, .unset, .unset] [(.ref t21)])) (fun _ k => XS.aloadN X21.here hx rfl (hb hby d1_4) rfl rfl k) ?_
  obtain ⟨cl22, Ar22, q22, S22, N_22, H22, G22⟩ := id V21
  refine own_by (T' := T21) (g' := (mkF m 6 #[.val (.int (2 : Int32)), .val (.ref t21), .unset, .unset, .unset] [(.int (4 : Int32))])) (fun _ k => X21.arraylength hx Ar22.1 (State.isArrayOf_alike hZ.alike Ar22.2.1) (g := (mkF m 5 #[.val (.int (2 : Int32)), .val (.ref t21), .unset, .unset, .unset] [(.ref t21)])) rfl rfl (hb hby d1_5) _ (by rw [len_of S22 N_22]; exact k)) ?_
  refine own_by (T' := T21) (g' := (mkF m 7 #[.val (.int (2 : Int32)), .val (.ref t21), .val (.int (4 : Int32)), .unset, .unset] [])) (fun _ k => XS.istoreN X21.here hx rfl (hb hby d1_6) rfl (l' := #[.val (.int (2 : Int32)), .val (.ref t21), .val (.int (4 : Int32)), .unset, .unset]) rfl k) ?_
  refine own_by (T' := T21) (g' := (mkF m 8 #[.val (.int (2 : Int32)), .val (.ref t21), .val (.int (4 : Int32)), .unset, .unset] [(.int (0 : Int32))])) (fun _ k => XS.iconst X21.here hx rfl (hb hby d1_7) k) ?_
  refine own_by (T' := T21) (g' := (mkF m 9 #[.val (.int (2 : Int32)), .val (.ref t21), .val (.int (4 : Int32)), .val (.int (0 : Int32)), .unset] [])) (fun _ k => XS.istoreN X21.here hx rfl (hb hby d1_8) rfl (l' := #[.val (.int (2 : Int32)), .val (.ref t21), .val (.int (4 : Int32)), .val (.int (0 : Int32)), .unset]) rfl k) ?_
  refine own_by (T' := T21) (g' := (mkF m 10 #[.val (.int (2 : Int32)), .val (.ref t21), .val (.int (4 : Int32)), .val (.int (0 : Int32)), .unset] [(.int (0 : Int32))])) (fun _ k => XS.iloadN X21.here hx rfl (hb hby d1_9) rfl k) ?_
  refine own_by (T' := T21) (g' := (mkF m 11 #[.val (.int (2 : Int32)), .val (.ref t21), .val (.int (4 : Int32)), .val (.int (0 : Int32)), .unset] [(.int (4 : Int32)), (.int (0 : Int32))])) (fun _ k => XS.iloadN X21.here hx rfl (hb hby d1_10) rfl k) ?_
  refine own_by (T' := T21) (g' := (mkF m 14 #[.val (.int (2 : Int32)), .val (.ref t21), .val (.int (4 : Int32)), .val (.int (0 : Int32)), .unset] [])) (fun _ k => XS.icmpNo X21.here hx rfl (hb hby d1_11) rfl (tlt (by decide)).2.1 k) ?_
  refine own_by (T' := T21) (g' := (mkF m 15 #[.val (.int (2 : Int32)), .val (.ref t21), .val (.int (4 : Int32)), .val (.int (0 : Int32)), .unset] [(.ref t21)])) (fun _ k => XS.aloadN X21.here hx rfl (hb hby d1_14) rfl rfl k) ?_
  refine own_by (T' := T21) (g' := (mkF m 16 #[.val (.int (2 : Int32)), .val (.ref t21), .val (.int (4 : Int32)), .val (.int (0 : Int32)), .unset] [(.int (0 : Int32)), (.ref t21)])) (fun _ k => XS.iloadN X21.here hx rfl (hb hby d1_15) rfl k) ?_
  obtain ⟨cl23, Ar23, q23, S23, N_23, H23, G23⟩ := id V21
  have hin23 : ¬ ((0 : Int32) < 0 ∨ cl23.slots.size ≤ ((0 : Int32)).toNatClampNeg) := inb_of S23 ⟨by decide, by decide⟩
  refine own_by (T' := T21) (g' := (mkF m 17 #[.val (.int (2 : Int32)), .val (.ref t21), .val (.int (4 : Int32)), .val (.int (0 : Int32)), .unset] [(.ref a_DELETE_ROW)])) (fun _ k => X21.aaload hx (j := (0 : Int32)) (v := (.ref a_DELETE_ROW)) Ar23.1 (State.isArrayOf_alike hZ.alike Ar23.2.1) rfl Ar23.2.2 hin23 (Has.at H23 hin23 rfl) (g := (mkF m 16 #[.val (.int (2 : Int32)), .val (.ref t21), .val (.int (4 : Int32)), .val (.int (0 : Int32)), .unset] [(.int (0 : Int32)), (.ref t21)])) rfl rfl (hb hby d1_16) _ k) ?_
  refine own_by (T' := T21) (g' := (mkF m 19 #[.val (.int (2 : Int32)), .val (.ref t21), .val (.int (4 : Int32)), .val (.int (0 : Int32)), .val (.ref a_DELETE_ROW)] [])) (fun _ k => XS.astore X21.here hx rfl (hb hby d1_17) rfl rfl (l' := #[.val (.int (2 : Int32)), .val (.ref t21), .val (.int (4 : Int32)), .val (.int (0 : Int32)), .val (.ref a_DELETE_ROW)]) rfl k) ?_
  refine own_by (T' := T21) (g' := (mkF m 21 #[.val (.int (2 : Int32)), .val (.ref t21), .val (.int (4 : Int32)), .val (.int (0 : Int32)), .val (.ref a_DELETE_ROW)] [(.ref a_DELETE_ROW)])) (fun _ k => XS.aload X21.here hx rfl (hb hby d1_19) rfl rfl k) ?_
  obtain ⟨T24, X24, e24, st24⟩ := getF X21 hx hZ hown (host := "") (Or.inl (hw _ (List.mem_of_getElem? (i := 23) rfl))) Via.refl rfl (Fld.keep F_code_a_DELETE_ROW K21 nin0) (g := (mkF m 21 #[.val (.int (2 : Int32)), .val (.ref t21), .val (.int (4 : Int32)), .val (.int (0 : Int32)), .val (.ref a_DELETE_ROW)] [(.ref a_DELETE_ROW)])) rfl rfl (hb hby d1_21)
  refine own_by (T' := T24) (g' := (mkF m 24 #[.val (.int (2 : Int32)), .val (.ref t21), .val (.int (4 : Int32)), .val (.int (0 : Int32)), .val (.ref a_DELETE_ROW)] [(.int (3 : Int32))])) (fun _ k => st24 _ k) ?_
  refine own_by (T' := T24) (g' := (mkF m 25 #[.val (.int (2 : Int32)), .val (.ref t21), .val (.int (4 : Int32)), .val (.int (0 : Int32)), .val (.ref a_DELETE_ROW)] [(.int (2 : Int32)), (.int (3 : Int32))])) (fun _ k => XS.iloadN X24.here hx rfl (hb hby d1_24) rfl k) ?_
  refine own_by (T' := T24) (g' := (mkF m 31 #[.val (.int (2 : Int32)), .val (.ref t21), .val (.int (4 : Int32)), .val (.int (0 : Int32)), .val (.ref a_DELETE_ROW)] [])) (fun _ k => XS.icmpYes X24.here hx rfl (pc0 := 25) (pc' := 31) rfl (hb hby d1_25) rfl (feq (by decide)).2 (by decide) (by decide) k) ?_
  refine own_by (T' := T24) (g' := (mkF m 34 #[.val (.int (2 : Int32)), .val (.ref t21), .val (.int (4 : Int32)), .val (.int (1 : Int32)), .val (.ref a_DELETE_ROW)] [])) (fun _ k => XS.iinc X24.here hx rfl (hb hby d1_31) rfl (l' := #[.val (.int (2 : Int32)), .val (.ref t21), .val (.int (4 : Int32)), .val (.int (1 : Int32)), .val (.ref a_DELETE_ROW)]) rfl k) ?_
  refine own_by (T' := T24) (g' := (mkF m 9 #[.val (.int (2 : Int32)), .val (.ref t21), .val (.int (4 : Int32)), .val (.int (1 : Int32)), .val (.ref a_DELETE_ROW)] [])) (fun _ k => XS.goto X24.here hx rfl (pc0 := 34) (pc' := 9) rfl (hb hby d1_34) (by decide) (by decide) k) ?_
  refine own_by (T' := T24) (g' := (mkF m 10 #[.val (.int (2 : Int32)), .val (.ref t21), .val (.int (4 : Int32)), .val (.int (1 : Int32)), .val (.ref a_DELETE_ROW)] [(.int (1 : Int32))])) (fun _ k => XS.iloadN X24.here hx rfl (hb hby d1_9) rfl k) ?_
  refine own_by (T' := T24) (g' := (mkF m 11 #[.val (.int (2 : Int32)), .val (.ref t21), .val (.int (4 : Int32)), .val (.int (1 : Int32)), .val (.ref a_DELETE_ROW)] [(.int (4 : Int32)), (.int (1 : Int32))])) (fun _ k => XS.iloadN X24.here hx rfl (hb hby d1_10) rfl k) ?_
  refine own_by (T' := T24) (g' := (mkF m 14 #[.val (.int (2 : Int32)), .val (.ref t21), .val (.int (4 : Int32)), .val (.int (1 : Int32)), .val (.ref a_DELETE_ROW)] [])) (fun _ k => XS.icmpNo X24.here hx rfl (hb hby d1_11) rfl (tlt (by decide)).2.1 k) ?_
  refine own_by (T' := T24) (g' := (mkF m 15 #[.val (.int (2 : Int32)), .val (.ref t21), .val (.int (4 : Int32)), .val (.int (1 : Int32)), .val (.ref a_DELETE_ROW)] [(.ref t21)])) (fun _ k => XS.aloadN X24.here hx rfl (hb hby d1_14) rfl rfl k) ?_
  refine own_by (T' := T24) (g' := (mkF m 16 #[.val (.int (2 : Int32)), .val (.ref t21), .val (.int (4 : Int32)), .val (.int (1 : Int32)), .val (.ref a_DELETE_ROW)] [(.int (1 : Int32)), (.ref t21)])) (fun _ k => XS.iloadN X24.here hx rfl (hb hby d1_15) rfl k) ?_
  obtain ⟨cl25, Ar25, q25, S25, N_25, H25, G25⟩ := id V21
  have hin25 : ¬ ((1 : Int32) < 0 ∨ cl25.slots.size ≤ ((1 : Int32)).toNatClampNeg) := inb_of S25 ⟨by decide, by decide⟩
  refine own_by (T' := T24) (g' := (mkF m 17 #[.val (.int (2 : Int32)), .val (.ref t21), .val (.int (4 : Int32)), .val (.int (1 : Int32)), .val (.ref a_DELETE_ROW)] [(.ref a_DELETE_FAMILY)])) (fun _ k => X24.aaload hx (j := (1 : Int32)) (v := (.ref a_DELETE_FAMILY)) (by rw [e24]; exact Ar25.1) (State.isArrayOf_alike hZ.alike Ar25.2.1) rfl Ar25.2.2 hin25 (Has.at H25 hin25 rfl) (g := (mkF m 16 #[.val (.int (2 : Int32)), .val (.ref t21), .val (.int (4 : Int32)), .val (.int (1 : Int32)), .val (.ref a_DELETE_ROW)] [(.int (1 : Int32)), (.ref t21)])) rfl rfl (hb hby d1_16) _ k) ?_
  refine own_by (T' := T24) (g' := (mkF m 19 #[.val (.int (2 : Int32)), .val (.ref t21), .val (.int (4 : Int32)), .val (.int (1 : Int32)), .val (.ref a_DELETE_FAMILY)] [])) (fun _ k => XS.astore X24.here hx rfl (hb hby d1_17) rfl rfl (l' := #[.val (.int (2 : Int32)), .val (.ref t21), .val (.int (4 : Int32)), .val (.int (1 : Int32)), .val (.ref a_DELETE_FAMILY)]) rfl k) ?_
  refine own_by (T' := T24) (g' := (mkF m 21 #[.val (.int (2 : Int32)), .val (.ref t21), .val (.int (4 : Int32)), .val (.int (1 : Int32)), .val (.ref a_DELETE_FAMILY)] [(.ref a_DELETE_FAMILY)])) (fun _ k => XS.aload X24.here hx rfl (hb hby d1_19) rfl rfl k) ?_
  obtain ⟨T26, X26, e26, st26⟩ := getF X24 hx hZ hown (host := "") (Or.inl (hw _ (List.mem_of_getElem? (i := 23) rfl))) Via.refl e24 (Fld.keep F_code_a_DELETE_FAMILY K21 nin0) (g := (mkF m 21 #[.val (.int (2 : Int32)), .val (.ref t21), .val (.int (4 : Int32)), .val (.int (1 : Int32)), .val (.ref a_DELETE_FAMILY)] [(.ref a_DELETE_FAMILY)])) rfl rfl (hb hby d1_21)
  refine own_by (T' := T26) (g' := (mkF m 24 #[.val (.int (2 : Int32)), .val (.ref t21), .val (.int (4 : Int32)), .val (.int (1 : Int32)), .val (.ref a_DELETE_FAMILY)] [(.int (2 : Int32))])) (fun _ k => st26 _ k) ?_
  refine own_by (T' := T26) (g' := (mkF m 25 #[.val (.int (2 : Int32)), .val (.ref t21), .val (.int (4 : Int32)), .val (.int (1 : Int32)), .val (.ref a_DELETE_FAMILY)] [(.int (2 : Int32)), (.int (2 : Int32))])) (fun _ k => XS.iloadN X26.here hx rfl (hb hby d1_24) rfl k) ?_
  refine own_by (T' := T26) (g' := (mkF m 28 #[.val (.int (2 : Int32)), .val (.ref t21), .val (.int (4 : Int32)), .val (.int (1 : Int32)), .val (.ref a_DELETE_FAMILY)] [])) (fun _ k => XS.icmpNo X26.here hx rfl (hb hby d1_25) rfl (teq (by decide)).2 k) ?_
  refine own_by (T' := T26) (g' := (mkF m 30 #[.val (.int (2 : Int32)), .val (.ref t21), .val (.int (4 : Int32)), .val (.int (1 : Int32)), .val (.ref a_DELETE_FAMILY)] [(.ref a_DELETE_FAMILY)])) (fun _ k => XS.aload X26.here hx rfl (hb hby d1_28) rfl rfl k) ?_
  refine own_ret X26 hlk (v := some (.ref a_DELETE_FAMILY)) (fun h => by rw [Bd.returns] at h; cases h) (fun fs hr => retOut X26 hx Bd.returns rfl (Or.inr (Or.inr (Or.inr (Or.inr ⟨rfl, rfl, rfl⟩)))) (hb hby d1_30) hr) ?_ (by decide) (by decide)
  rw [e26]
  exact ⟨rfl, N21, KK21⟩
theorem ef_of_1 (m : MethodId)  : entryFrame m #[(.int (1 : Int32))] 5 = mkF m 0 #[.val (.int (1 : Int32)), .unset, .unset, .unset, .unset] [] := by first | (simp [entryFrame, mkF, argsToLocals, Value.category]; done) | rfl
def Q_of_1 (Z : State) (va : Addr) (kv : ClassId) (a_DELETE_ROW : Addr) (a_DELETE_FAMILY : Addr) (a_DELETE_COLUMN : Addr) (a_PUT : Addr) (h0 : Heap) (n0 : Nat) (v : Option Value) (h : Heap) (L : List Loc) : Prop := v = some (.ref a_DELETE_COLUMN) ∧ Fr n0 L ∧ Keep h0 h []
set_option maxRecDepth 65536 in
set_option maxHeartbeats 40000000 in
theorem of_1 (l : Launch) (Z : State) (a0 : Array Value) (hw : ∀ d ∈ tables_1, d.before a0 Z = true) (ws : List Jvm.Cond) (va : Addr) (kv : ClassId) (a_DELETE_ROW : Addr) (a_DELETE_FAMILY : Addr) (a_DELETE_COLUMN : Addr) (a_PUT : Addr) (h0 : Heap) (n0 : Nat) (Z0 : n0 ≤ h0.size) (S__VALUES : Sta Z h0 "com/example/millrace/millrace/Cell$Type" "$VALUES" "[Lcom/example/millrace/millrace/Cell$Type;" (.ref va)) (E_va : Exa Z h0 va "[Lcom/example/millrace/millrace/Cell$Type;") (V_va : Arv Z h0 va kv (.object "com/example/millrace/millrace/Cell$Type") (4 : Int32) [(.ref a_DELETE_ROW), (.ref a_DELETE_FAMILY), (.ref a_DELETE_COLUMN), (.ref a_PUT)] .null) (F_code_a_DELETE_ROW : Fld Z h0 a_DELETE_ROW "com/example/millrace/millrace/Cell$Type" "code" "B" (.int (3 : Int32))) (F_code_a_DELETE_FAMILY : Fld Z h0 a_DELETE_FAMILY "com/example/millrace/millrace/Cell$Type" "code" "B" (.int (2 : Int32))) (F_code_a_DELETE_COLUMN : Fld Z h0 a_DELETE_COLUMN "com/example/millrace/millrace/Cell$Type" "code" "B" (.int (1 : Int32))) (F_code_a_PUT : Fld Z h0 a_PUT "com/example/millrace/millrace/Cell$Type" "code" "B" (.int (0 : Int32))) :
    MetFree l (⟨"com/example/millrace/millrace/Cell$Type", "of", "(B)Lcom/example/millrace/millrace/Cell$Type;"⟩ : MethodName) (head1 (Jvm.Cond.code (⟨"com/example/millrace/millrace/Cell$Type", "of", "(B)Lcom/example/millrace/millrace/Cell$Type;"⟩ : MethodName) prog_2_method_4_code 5 (some (.object "com/example/millrace/millrace/Cell$Type")) :: ws) ({ frames := 2, cells := 1, slots := 4, locals := 25 } : Room)) (fun zz UU => zz = #[(.int (1 : Int32))] ∧ Z.Warmed39 UU.vm ∧ UU.heap = h0) (fun _ _ _ _ _ => True) (fun _ U o U' => ∃ v L, o = .returned v ∧ Q_of_1 Z va kv a_DELETE_ROW a_DELETE_FAMILY a_DELETE_COLUMN a_PUT h0 n0 v U'.heap L ∧ FrameEnd U o U' L ({ frames := 2, cells := 1, slots := 4, locals := 25 } : Room).cells ({ frames := 2, cells := 1, slots := 4, locals := 25 } : Room).slots) := by
  refine MetFree.of_bodySF (plainFor_of_name pn_1) hisR ?_
  intro p e s m args below meth c s₁ Bd hml0 hP hK
  obtain ⟨rfl, hZ, hh⟩ := hP
  have hx := Bd.exec
  have hby := Bd.bytes
  have hml : c.maxLocals = 5 := hml0
  have hown : s.vm.findClass "com/example/millrace/millrace/Cell$Type" = some m.cls := findClass_of_methodNamed Bd.named
  have hnm := (name_of_methodNamed Bd.named Bd.method).1
  have hlk : meth.locks = false := BodyLoose.notSynchronized Bd
  have X0 : Stand p l e ({ frames := 2, cells := 1, slots := 4, locals := 25 } : Room) s m #[(.int (1 : Int32))] below meth c s₁ [] 0 0 := Stand.of_body Bd
  have e0 : s₁.heap = h0 := by rw [← hh, Bd.state]; rfl
  have N0 := Fr.nil n0
  show own_Go p.tables e below (Q_of_1 Z va kv a_DELETE_ROW a_DELETE_FAMILY a_DELETE_COLUMN a_PUT h0 n0) s ({ frames := 2, cells := 1, slots := 4, locals := 25 } : Room).cells ({ frames := 2, cells := 1, slots := 4, locals := 25 } : Room).slots s₁ (entryFrame m #[(.int (1 : Int32))] 5)
  rw [ef_of_1 m ]
  obtain ⟨_, _, ⟨T21, L21, k21, n21⟩, -, X21, ⟨Lc21, hQ21, l21, y21, z21⟩, st21⟩ := Jvm.LawKit.callS X0 hx (y := (⟨"com/example/millrace/millrace/Cell$Type", "values", "()[Lcom/example/millrace/millrace/Cell$Type;"⟩ : MethodName)) hown (mvT hZ (hw _ (List.mem_of_getElem? (i := 4) rfl))) (mvT hZ (hw _ (List.mem_of_getElem? (i := 5) rfl))) (mvT hZ (hw _ (List.mem_of_getElem? (i := 2) rfl))) (mvT hZ (hw _ (List.mem_of_getElem? (i := 6) rfl))) (by decide) (backOf (W := 0) (rm2 l Z a0 hw []  va kv a_DELETE_ROW a_DELETE_FAMILY a_DELETE_COLUMN a_PUT h0 n0 Z0 S__VALUES E_va V_va) hZ (hw _ (List.mem_of_getElem? (i := 6) rfl)) (hw _ (List.mem_of_getElem? (i := 2) rfl)) (by decide) (by decide)) (g := (mkF m 0 #[.val (.int (1 : Int32)), .unset, .unset, .unset, .unset] [])) rfl (by rw [hml]; rfl) (argsL := []) (rest := []) (lenOf pd_0 rfl) rfl (by show 2 * 0 + _ ≤ _; exact Nat.le_of_eq rfl) (hb hby d1_0) (fun _ _ => ⟨rfl, e0, (by decide : 0 + 1 ≤ _), (by decide : 0 + 4 ≤ _)⟩)
  dsimp only [Pt.U, Pt.locs, Pt.cells, Pt.slots] at X21 l21 y21 z21 st21 hQ21
  subst l21 y21 z21
  obtain ⟨t21, rfl, N21q, K21, V21⟩ := hQ21
  have N21 := Fr.app N0 N21q
  have KK21 : Keep h0 T21.heap [] := Keep.trans (Keep.refl h0 []) K21 all0
  refine own_by (T' := T21) (g' := (mkF m 3 #[.val (.int (1 : Int32)), .unset, .unset, .unset, .unset] [(.ref t21)])) (fun _ k => st21 _ k) ?_
  refine own_by (T' := T21) (g' := (mkF m 4 #[.val (.int (1 : Int32)), .val (.ref t21), .unset, .unset, .unset] [])) (fun _ k => XS.astoreN X21.here hx rfl (hb hby d1_3) rfl rfl (l' := #[.val (.int (1 : Int32)), .val (.ref t21), .unset, .unset, .unset]) rfl k) ?_
  refine own_by (T' := T21) (g' := (mkF m 5 #[.val (.int (1 : Int32)), .val (.ref t21), .unset, .unset, .unset] [(.ref t21)])) (fun _ k => XS.aloadN X21.here hx rfl (hb hby d1_4) rfl rfl k) ?_
  obtain ⟨cl22, Ar22, q22, S22, N_22, H22, G22⟩ := id V21
  refine own_by (T' := T21) (g' := (mkF m 6 #[.val (.int (1 : Int32)), .val (.ref t21), .unset, .unset, .unset] [(.int (4 : Int32))])) (fun _ k => X21.arraylength hx Ar22.1 (State.isArrayOf_alike hZ.alike Ar22.2.1) (g := (mkF m 5 #[.val (.int (1 : Int32)), .val (.ref t21), .unset, .unset, .unset] [(.ref t21)])) rfl rfl (hb hby d1_5) _ (by rw [len_of S22 N_22]; exact k)) ?_
  refine own_by (T' := T21) (g' := (mkF m 7 #[.val (.int (1 : Int32)), .val (.ref t21), .val (.int (4 : Int32)), .unset, .unset] [])) (fun _ k => XS.istoreN X21.here hx rfl (hb hby d1_6) rfl (l' := #[.val (.int (1 : Int32)), .val (.ref t21), .val (.int (4 : Int32)), .unset, .unset]) rfl k) ?_
  refine own_by (T' := T21) (g' := (mkF m 8 #[.val (.int (1 : Int32)), .val (.ref t21), .val (.int (4 : Int32)), .unset, .unset] [(.int (0 : Int32))])) (fun _ k => XS.iconst X21.here hx rfl (hb hby d1_7) k) ?_
  refine own_by (T' := T21) (g' := (mkF m 9 #[.val (.int (1 : Int32)), .val (.ref t21), .val (.int (4 : Int32)), .val (.int (0 : Int32)), .unset] [])) (fun _ k => XS.istoreN X21.here hx rfl (hb hby d1_8) rfl (l' := #[.val (.int (1 : Int32)), .val (.ref t21), .val (.int (4 : Int32)), .val (.int (0 : Int32)), .unset]) rfl k) ?_
  refine own_by (T' := T21) (g' := (mkF m 10 #[.val (.int (1 : Int32)), .val (.ref t21), .val (.int (4 : Int32)), .val (.int (0 : Int32)), .unset] [(.int (0 : Int32))])) (fun _ k => XS.iloadN X21.here hx rfl (hb hby d1_9) rfl k) ?_
  refine own_by (T' := T21) (g' := (mkF m 11 #[.val (.int (1 : Int32)), .val (.ref t21), .val (.int (4 : Int32)), .val (.int (0 : Int32)), .unset] [(.int (4 : Int32)), (.int (0 : Int32))])) (fun _ k => XS.iloadN X21.here hx rfl (hb hby d1_10) rfl k) ?_
  refine own_by (T' := T21) (g' := (mkF m 14 #[.val (.int (1 : Int32)), .val (.ref t21), .val (.int (4 : Int32)), .val (.int (0 : Int32)), .unset] [])) (fun _ k => XS.icmpNo X21.here hx rfl (hb hby d1_11) rfl (tlt (by decide)).2.1 k) ?_
  refine own_by (T' := T21) (g' := (mkF m 15 #[.val (.int (1 : Int32)), .val (.ref t21), .val (.int (4 : Int32)), .val (.int (0 : Int32)), .unset] [(.ref t21)])) (fun _ k => XS.aloadN X21.here hx rfl (hb hby d1_14) rfl rfl k) ?_
  refine own_by (T' := T21) (g' := (mkF m 16 #[.val (.int (1 : Int32)), .val (.ref t21), .val (.int (4 : Int32)), .val (.int (0 : Int32)), .unset] [(.int (0 : Int32)), (.ref t21)])) (fun _ k => XS.iloadN X21.here hx rfl (hb hby d1_15) rfl k) ?_
  obtain ⟨cl23, Ar23, q23, S23, N_23, H23, G23⟩ := id V21
  have hin23 : ¬ ((0 : Int32) < 0 ∨ cl23.slots.size ≤ ((0 : Int32)).toNatClampNeg) := inb_of S23 ⟨by decide, by decide⟩
  refine own_by (T' := T21) (g' := (mkF m 17 #[.val (.int (1 : Int32)), .val (.ref t21), .val (.int (4 : Int32)), .val (.int (0 : Int32)), .unset] [(.ref a_DELETE_ROW)])) (fun _ k => X21.aaload hx (j := (0 : Int32)) (v := (.ref a_DELETE_ROW)) Ar23.1 (State.isArrayOf_alike hZ.alike Ar23.2.1) rfl Ar23.2.2 hin23 (Has.at H23 hin23 rfl) (g := (mkF m 16 #[.val (.int (1 : Int32)), .val (.ref t21), .val (.int (4 : Int32)), .val (.int (0 : Int32)), .unset] [(.int (0 : Int32)), (.ref t21)])) rfl rfl (hb hby d1_16) _ k) ?_
  refine own_by (T' := T21) (g' := (mkF m 19 #[.val (.int (1 : Int32)), .val (.ref t21), .val (.int (4 : Int32)), .val (.int (0 : Int32)), .val (.ref a_DELETE_ROW)] [])) (fun _ k => XS.astore X21.here hx rfl (hb hby d1_17) rfl rfl (l' := #[.val (.int (1 : Int32)), .val (.ref t21), .val (.int (4 : Int32)), .val (.int (0 : Int32)), .val (.ref a_DELETE_ROW)]) rfl k) ?_
  refine own_by (T' := T21) (g' := (mkF m 21 #[.val (.int (1 : Int32)), .val (.ref t21), .val (.int (4 : Int32)), .val (.int (0 : Int32)), .val (.ref a_DELETE_ROW)] [(.ref a_DELETE_ROW)])) (fun _ k => XS.aload X21.here hx rfl (hb hby d1_19) rfl rfl k) ?_
  obtain ⟨T24, X24, e24, st24⟩ := getF X21 hx hZ hown (host := "") (Or.inl (hw _ (List.mem_of_getElem? (i := 23) rfl))) Via.refl rfl (Fld.keep F_code_a_DELETE_ROW K21 nin0) (g := (mkF m 21 #[.val (.int (1 : Int32)), .val (.ref t21), .val (.int (4 : Int32)), .val (.int (0 : Int32)), .val (.ref a_DELETE_ROW)] [(.ref a_DELETE_ROW)])) rfl rfl (hb hby d1_21)
  refine own_by (T' := T24) (g' := (mkF m 24 #[.val (.int (1 : Int32)), .val (.ref t21), .val (.int (4 : Int32)), .val (.int (0 : Int32)), .val (.ref a_DELETE_ROW)] [(.int (3 : Int32))])) (fun _ k => st24 _ k) ?_
  refine own_by (T' := T24) (g' := (mkF m 25 #[.val (.int (1 : Int32)), .val (.ref t21), .val (.int (4 : Int32)), .val (.int (0 : Int32)), .val (.ref a_DELETE_ROW)] [(.int (1 : Int32)), (.int (3 : Int32))])) (fun _ k => XS.iloadN X24.here hx rfl (hb hby d1_24) rfl k) ?_
  refine own_by (T' := T24) (g' := (mkF m 31 #[.val (.int (1 : Int32)), .val (.ref t21), .val (.int (4 : Int32)), .val (.int (0 : Int32)), .val (.ref a_DELETE_ROW)] [])) (fun _ k => XS.icmpYes X24.here hx rfl (pc0 := 25) (pc' := 31) rfl (hb hby d1_25) rfl (feq (by decide)).2 (by decide) (by decide) k) ?_
  refine own_by (T' := T24) (g' := (mkF m 34 #[.val (.int (1 : Int32)), .val (.ref t21), .val (.int (4 : Int32)), .val (.int (1 : Int32)), .val (.ref a_DELETE_ROW)] [])) (fun _ k => XS.iinc X24.here hx rfl (hb hby d1_31) rfl (l' := #[.val (.int (1 : Int32)), .val (.ref t21), .val (.int (4 : Int32)), .val (.int (1 : Int32)), .val (.ref a_DELETE_ROW)]) rfl k) ?_
  refine own_by (T' := T24) (g' := (mkF m 9 #[.val (.int (1 : Int32)), .val (.ref t21), .val (.int (4 : Int32)), .val (.int (1 : Int32)), .val (.ref a_DELETE_ROW)] [])) (fun _ k => XS.goto X24.here hx rfl (pc0 := 34) (pc' := 9) rfl (hb hby d1_34) (by decide) (by decide) k) ?_
  refine own_by (T' := T24) (g' := (mkF m 10 #[.val (.int (1 : Int32)), .val (.ref t21), .val (.int (4 : Int32)), .val (.int (1 : Int32)), .val (.ref a_DELETE_ROW)] [(.int (1 : Int32))])) (fun _ k => XS.iloadN X24.here hx rfl (hb hby d1_9) rfl k) ?_
  refine own_by (T' := T24) (g' := (mkF m 11 #[.val (.int (1 : Int32)), .val (.ref t21), .val (.int (4 : Int32)), .val (.int (1 : Int32)), .val (.ref a_DELETE_ROW)] [(.int (4 : Int32)), (.int (1 : Int32))])) (fun _ k => XS.iloadN X24.here hx rfl (hb hby d1_10) rfl k) ?_
  refine own_by (T' := T24) (g' := (mkF m 14 #[.val (.int (1 : Int32)), .val (.ref t21), .val (.int (4 : Int32)), .val (.int (1 : Int32)), .val (.ref a_DELETE_ROW)] [])) (fun _ k => XS.icmpNo X24.here hx rfl (hb hby d1_11) rfl (tlt (by decide)).2.1 k) ?_
  refine own_by (T' := T24) (g' := (mkF m 15 #[.val (.int (1 : Int32)), .val (.ref t21), .val (.int (4 : Int32)), .val (.int (1 : Int32)), .val (.ref a_DELETE_ROW)] [(.ref t21)])) (fun _ k => XS.aloadN X24.here hx rfl (hb hby d1_14) rfl rfl k) ?_
  refine own_by (T' := T24) (g' := (mkF m 16 #[.val (.int (1 : Int32)), .val (.ref t21), .val (.int (4 : Int32)), .val (.int (1 : Int32)), .val (.ref a_DELETE_ROW)] [(.int (1 : Int32)), (.ref t21)])) (fun _ k => XS.iloadN X24.here hx rfl (hb hby d1_15) rfl k) ?_
  obtain ⟨cl25, Ar25, q25, S25, N_25, H25, G25⟩ := id V21
  have hin25 : ¬ ((1 : Int32) < 0 ∨ cl25.slots.size ≤ ((1 : Int32)).toNatClampNeg) := inb_of S25 ⟨by decide, by decide⟩
  refine own_by (T' := T24) (g' := (mkF m 17 #[.val (.int (1 : Int32)), .val (.ref t21), .val (.int (4 : Int32)), .val (.int (1 : Int32)), .val (.ref a_DELETE_ROW)] [(.ref a_DELETE_FAMILY)])) (fun _ k => X24.aaload hx (j := (1 : Int32)) (v := (.ref a_DELETE_FAMILY)) (by rw [e24]; exact Ar25.1) (State.isArrayOf_alike hZ.alike Ar25.2.1) rfl Ar25.2.2 hin25 (Has.at H25 hin25 rfl) (g := (mkF m 16 #[.val (.int (1 : Int32)), .val (.ref t21), .val (.int (4 : Int32)), .val (.int (1 : Int32)), .val (.ref a_DELETE_ROW)] [(.int (1 : Int32)), (.ref t21)])) rfl rfl (hb hby d1_16) _ k) ?_
  refine own_by (T' := T24) (g' := (mkF m 19 #[.val (.int (1 : Int32)), .val (.ref t21), .val (.int (4 : Int32)), .val (.int (1 : Int32)), .val (.ref a_DELETE_FAMILY)] [])) (fun _ k => XS.astore X24.here hx rfl (hb hby d1_17) rfl rfl (l' := #[.val (.int (1 : Int32)), .val (.ref t21), .val (.int (4 : Int32)), .val (.int (1 : Int32)), .val (.ref a_DELETE_FAMILY)]) rfl k) ?_
  refine own_by (T' := T24) (g' := (mkF m 21 #[.val (.int (1 : Int32)), .val (.ref t21), .val (.int (4 : Int32)), .val (.int (1 : Int32)), .val (.ref a_DELETE_FAMILY)] [(.ref a_DELETE_FAMILY)])) (fun _ k => XS.aload X24.here hx rfl (hb hby d1_19) rfl rfl k) ?_
  obtain ⟨T26, X26, e26, st26⟩ := getF X24 hx hZ hown (host := "") (Or.inl (hw _ (List.mem_of_getElem? (i := 23) rfl))) Via.refl e24 (Fld.keep F_code_a_DELETE_FAMILY K21 nin0) (g := (mkF m 21 #[.val (.int (1 : Int32)), .val (.ref t21), .val (.int (4 : Int32)), .val (.int (1 : Int32)), .val (.ref a_DELETE_FAMILY)] [(.ref a_DELETE_FAMILY)])) rfl rfl (hb hby d1_21)
  refine own_by (T' := T26) (g' := (mkF m 24 #[.val (.int (1 : Int32)), .val (.ref t21), .val (.int (4 : Int32)), .val (.int (1 : Int32)), .val (.ref a_DELETE_FAMILY)] [(.int (2 : Int32))])) (fun _ k => st26 _ k) ?_
  refine own_by (T' := T26) (g' := (mkF m 25 #[.val (.int (1 : Int32)), .val (.ref t21), .val (.int (4 : Int32)), .val (.int (1 : Int32)), .val (.ref a_DELETE_FAMILY)] [(.int (1 : Int32)), (.int (2 : Int32))])) (fun _ k => XS.iloadN X26.here hx rfl (hb hby d1_24) rfl k) ?_
  refine own_by (T' := T26) (g' := (mkF m 31 #[.val (.int (1 : Int32)), .val (.ref t21), .val (.int (4 : Int32)), .val (.int (1 : Int32)), .val (.ref a_DELETE_FAMILY)] [])) (fun _ k => XS.icmpYes X26.here hx rfl (pc0 := 25) (pc' := 31) rfl (hb hby d1_25) rfl (feq (by decide)).2 (by decide) (by decide) k) ?_
  refine own_by (T' := T26) (g' := (mkF m 34 #[.val (.int (1 : Int32)), .val (.ref t21), .val (.int (4 : Int32)), .val (.int (2 : Int32)), .val (.ref a_DELETE_FAMILY)] [])) (fun _ k => XS.iinc X26.here hx rfl (hb hby d1_31) rfl (l' := #[.val (.int (1 : Int32)), .val (.ref t21), .val (.int (4 : Int32)), .val (.int (2 : Int32)), .val (.ref a_DELETE_FAMILY)]) rfl k) ?_
  refine own_by (T' := T26) (g' := (mkF m 9 #[.val (.int (1 : Int32)), .val (.ref t21), .val (.int (4 : Int32)), .val (.int (2 : Int32)), .val (.ref a_DELETE_FAMILY)] [])) (fun _ k => XS.goto X26.here hx rfl (pc0 := 34) (pc' := 9) rfl (hb hby d1_34) (by decide) (by decide) k) ?_
  refine own_by (T' := T26) (g' := (mkF m 10 #[.val (.int (1 : Int32)), .val (.ref t21), .val (.int (4 : Int32)), .val (.int (2 : Int32)), .val (.ref a_DELETE_FAMILY)] [(.int (2 : Int32))])) (fun _ k => XS.iloadN X26.here hx rfl (hb hby d1_9) rfl k) ?_
  refine own_by (T' := T26) (g' := (mkF m 11 #[.val (.int (1 : Int32)), .val (.ref t21), .val (.int (4 : Int32)), .val (.int (2 : Int32)), .val (.ref a_DELETE_FAMILY)] [(.int (4 : Int32)), (.int (2 : Int32))])) (fun _ k => XS.iloadN X26.here hx rfl (hb hby d1_10) rfl k) ?_
  refine own_by (T' := T26) (g' := (mkF m 14 #[.val (.int (1 : Int32)), .val (.ref t21), .val (.int (4 : Int32)), .val (.int (2 : Int32)), .val (.ref a_DELETE_FAMILY)] [])) (fun _ k => XS.icmpNo X26.here hx rfl (hb hby d1_11) rfl (tlt (by decide)).2.1 k) ?_
  refine own_by (T' := T26) (g' := (mkF m 15 #[.val (.int (1 : Int32)), .val (.ref t21), .val (.int (4 : Int32)), .val (.int (2 : Int32)), .val (.ref a_DELETE_FAMILY)] [(.ref t21)])) (fun _ k => XS.aloadN X26.here hx rfl (hb hby d1_14) rfl rfl k) ?_
  refine own_by (T' := T26) (g' := (mkF m 16 #[.val (.int (1 : Int32)), .val (.ref t21), .val (.int (4 : Int32)), .val (.int (2 : Int32)), .val (.ref a_DELETE_FAMILY)] [(.int (2 : Int32)), (.ref t21)])) (fun _ k => XS.iloadN X26.here hx rfl (hb hby d1_15) rfl k) ?_
  obtain ⟨cl27, Ar27, q27, S27, N_27, H27, G27⟩ := id V21
  have hin27 : ¬ ((2 : Int32) < 0 ∨ cl27.slots.size ≤ ((2 : Int32)).toNatClampNeg) := inb_of S27 ⟨by decide, by decide⟩
  refine own_by (T' := T26) (g' := (mkF m 17 #[.val (.int (1 : Int32)), .val (.ref t21), .val (.int (4 : Int32)), .val (.int (2 : Int32)), .val (.ref a_DELETE_FAMILY)] [(.ref a_DELETE_COLUMN)])) (fun _ k => X26.aaload hx (j := (2 : Int32)) (v := (.ref a_DELETE_COLUMN)) (by rw [e26]; exact Ar27.1) (State.isArrayOf_alike hZ.alike Ar27.2.1) rfl Ar27.2.2 hin27 (Has.at H27 hin27 rfl) (g := (mkF m 16 #[.val (.int (1 : Int32)), .val (.ref t21), .val (.int (4 : Int32)), .val (.int (2 : Int32)), .val (.ref a_DELETE_FAMILY)] [(.int (2 : Int32)), (.ref t21)])) rfl rfl (hb hby d1_16) _ k) ?_
  refine own_by (T' := T26) (g' := (mkF m 19 #[.val (.int (1 : Int32)), .val (.ref t21), .val (.int (4 : Int32)), .val (.int (2 : Int32)), .val (.ref a_DELETE_COLUMN)] [])) (fun _ k => XS.astore X26.here hx rfl (hb hby d1_17) rfl rfl (l' := #[.val (.int (1 : Int32)), .val (.ref t21), .val (.int (4 : Int32)), .val (.int (2 : Int32)), .val (.ref a_DELETE_COLUMN)]) rfl k) ?_
  refine own_by (T' := T26) (g' := (mkF m 21 #[.val (.int (1 : Int32)), .val (.ref t21), .val (.int (4 : Int32)), .val (.int (2 : Int32)), .val (.ref a_DELETE_COLUMN)] [(.ref a_DELETE_COLUMN)])) (fun _ k => XS.aload X26.here hx rfl (hb hby d1_19) rfl rfl k) ?_
  obtain ⟨T28, X28, e28, st28⟩ := getF X26 hx hZ hown (host := "") (Or.inl (hw _ (List.mem_of_getElem? (i := 23) rfl))) Via.refl e26 (Fld.keep F_code_a_DELETE_COLUMN K21 nin0) (g := (mkF m 21 #[.val (.int (1 : Int32)), .val (.ref t21), .val (.int (4 : Int32)), .val (.int (2 : Int32)), .val (.ref a_DELETE_COLUMN)] [(.ref a_DELETE_COLUMN)])) rfl rfl (hb hby d1_21)
  refine own_by (T' := T28) (g' := (mkF m 24 #[.val (.int (1 : Int32)), .val (.ref t21), .val (.int (4 : Int32)), .val (.int (2 : Int32)), .val (.ref a_DELETE_COLUMN)] [(.int (1 : Int32))])) (fun _ k => st28 _ k) ?_
  refine own_by (T' := T28) (g' := (mkF m 25 #[.val (.int (1 : Int32)), .val (.ref t21), .val (.int (4 : Int32)), .val (.int (2 : Int32)), .val (.ref a_DELETE_COLUMN)] [(.int (1 : Int32)), (.int (1 : Int32))])) (fun _ k => XS.iloadN X28.here hx rfl (hb hby d1_24) rfl k) ?_
  refine own_by (T' := T28) (g' := (mkF m 28 #[.val (.int (1 : Int32)), .val (.ref t21), .val (.int (4 : Int32)), .val (.int (2 : Int32)), .val (.ref a_DELETE_COLUMN)] [])) (fun _ k => XS.icmpNo X28.here hx rfl (hb hby d1_25) rfl (teq (by decide)).2 k) ?_
  refine own_by (T' := T28) (g' := (mkF m 30 #[.val (.int (1 : Int32)), .val (.ref t21), .val (.int (4 : Int32)), .val (.int (2 : Int32)), .val (.ref a_DELETE_COLUMN)] [(.ref a_DELETE_COLUMN)])) (fun _ k => XS.aload X28.here hx rfl (hb hby d1_28) rfl rfl k) ?_
  refine own_ret X28 hlk (v := some (.ref a_DELETE_COLUMN)) (fun h => by rw [Bd.returns] at h; cases h) (fun fs hr => retOut X28 hx Bd.returns rfl (Or.inr (Or.inr (Or.inr (Or.inr ⟨rfl, rfl, rfl⟩)))) (hb hby d1_30) hr) ?_ (by decide) (by decide)
  rw [e28]
  exact ⟨rfl, N21, KK21⟩
theorem ef_of_0 (m : MethodId)  : entryFrame m #[(.int (0 : Int32))] 5 = mkF m 0 #[.val (.int (0 : Int32)), .unset, .unset, .unset, .unset] [] := by first | (simp [entryFrame, mkF, argsToLocals, Value.category]; done) | rfl
def Q_of_0 (Z : State) (va : Addr) (kv : ClassId) (a_DELETE_ROW : Addr) (a_DELETE_FAMILY : Addr) (a_DELETE_COLUMN : Addr) (a_PUT : Addr) (h0 : Heap) (n0 : Nat) (v : Option Value) (h : Heap) (L : List Loc) : Prop := v = some (.ref a_PUT) ∧ Fr n0 L ∧ Keep h0 h []
set_option maxRecDepth 65536 in
set_option maxHeartbeats 40000000 in
theorem of_0 (l : Launch) (Z : State) (a0 : Array Value) (hw : ∀ d ∈ tables_1, d.before a0 Z = true) (ws : List Jvm.Cond) (va : Addr) (kv : ClassId) (a_DELETE_ROW : Addr) (a_DELETE_FAMILY : Addr) (a_DELETE_COLUMN : Addr) (a_PUT : Addr) (h0 : Heap) (n0 : Nat) (Z0 : n0 ≤ h0.size) (S__VALUES : Sta Z h0 "com/example/millrace/millrace/Cell$Type" "$VALUES" "[Lcom/example/millrace/millrace/Cell$Type;" (.ref va)) (E_va : Exa Z h0 va "[Lcom/example/millrace/millrace/Cell$Type;") (V_va : Arv Z h0 va kv (.object "com/example/millrace/millrace/Cell$Type") (4 : Int32) [(.ref a_DELETE_ROW), (.ref a_DELETE_FAMILY), (.ref a_DELETE_COLUMN), (.ref a_PUT)] .null) (F_code_a_DELETE_ROW : Fld Z h0 a_DELETE_ROW "com/example/millrace/millrace/Cell$Type" "code" "B" (.int (3 : Int32))) (F_code_a_DELETE_FAMILY : Fld Z h0 a_DELETE_FAMILY "com/example/millrace/millrace/Cell$Type" "code" "B" (.int (2 : Int32))) (F_code_a_DELETE_COLUMN : Fld Z h0 a_DELETE_COLUMN "com/example/millrace/millrace/Cell$Type" "code" "B" (.int (1 : Int32))) (F_code_a_PUT : Fld Z h0 a_PUT "com/example/millrace/millrace/Cell$Type" "code" "B" (.int (0 : Int32))) :
    MetFree l (⟨"com/example/millrace/millrace/Cell$Type", "of", "(B)Lcom/example/millrace/millrace/Cell$Type;"⟩ : MethodName) (head1 (Jvm.Cond.code (⟨"com/example/millrace/millrace/Cell$Type", "of", "(B)Lcom/example/millrace/millrace/Cell$Type;"⟩ : MethodName) prog_2_method_4_code 5 (some (.object "com/example/millrace/millrace/Cell$Type")) :: ws) ({ frames := 2, cells := 1, slots := 4, locals := 25 } : Room)) (fun zz UU => zz = #[(.int (0 : Int32))] ∧ Z.Warmed39 UU.vm ∧ UU.heap = h0) (fun _ _ _ _ _ => True) (fun _ U o U' => ∃ v L, o = .returned v ∧ Q_of_0 Z va kv a_DELETE_ROW a_DELETE_FAMILY a_DELETE_COLUMN a_PUT h0 n0 v U'.heap L ∧ FrameEnd U o U' L ({ frames := 2, cells := 1, slots := 4, locals := 25 } : Room).cells ({ frames := 2, cells := 1, slots := 4, locals := 25 } : Room).slots) := by
  refine MetFree.of_bodySF (plainFor_of_name pn_1) hisR ?_
  intro p e s m args below meth c s₁ Bd hml0 hP hK
  obtain ⟨rfl, hZ, hh⟩ := hP
  have hx := Bd.exec
  have hby := Bd.bytes
  have hml : c.maxLocals = 5 := hml0
  have hown : s.vm.findClass "com/example/millrace/millrace/Cell$Type" = some m.cls := findClass_of_methodNamed Bd.named
  have hnm := (name_of_methodNamed Bd.named Bd.method).1
  have hlk : meth.locks = false := BodyLoose.notSynchronized Bd
  have X0 : Stand p l e ({ frames := 2, cells := 1, slots := 4, locals := 25 } : Room) s m #[(.int (0 : Int32))] below meth c s₁ [] 0 0 := Stand.of_body Bd
  have e0 : s₁.heap = h0 := by rw [← hh, Bd.state]; rfl
  have N0 := Fr.nil n0
  show own_Go p.tables e below (Q_of_0 Z va kv a_DELETE_ROW a_DELETE_FAMILY a_DELETE_COLUMN a_PUT h0 n0) s ({ frames := 2, cells := 1, slots := 4, locals := 25 } : Room).cells ({ frames := 2, cells := 1, slots := 4, locals := 25 } : Room).slots s₁ (entryFrame m #[(.int (0 : Int32))] 5)
  rw [ef_of_0 m ]
  obtain ⟨_, _, ⟨T21, L21, k21, n21⟩, -, X21, ⟨Lc21, hQ21, l21, y21, z21⟩, st21⟩ := Jvm.LawKit.callS X0 hx (y := (⟨"com/example/millrace/millrace/Cell$Type", "values", "()[Lcom/example/millrace/millrace/Cell$Type;"⟩ : MethodName)) hown (mvT hZ (hw _ (List.mem_of_getElem? (i := 4) rfl))) (mvT hZ (hw _ (List.mem_of_getElem? (i := 5) rfl))) (mvT hZ (hw _ (List.mem_of_getElem? (i := 2) rfl))) (mvT hZ (hw _ (List.mem_of_getElem? (i := 6) rfl))) (by decide) (backOf (W := 0) (rm2 l Z a0 hw []  va kv a_DELETE_ROW a_DELETE_FAMILY a_DELETE_COLUMN a_PUT h0 n0 Z0 S__VALUES E_va V_va) hZ (hw _ (List.mem_of_getElem? (i := 6) rfl)) (hw _ (List.mem_of_getElem? (i := 2) rfl)) (by decide) (by decide)) (g := (mkF m 0 #[.val (.int (0 : Int32)), .unset, .unset, .unset, .unset] [])) rfl (by rw [hml]; rfl) (argsL := []) (rest := []) (lenOf pd_0 rfl) rfl (by show 2 * 0 + _ ≤ _; exact Nat.le_of_eq rfl) (hb hby d1_0) (fun _ _ => ⟨rfl, e0, (by decide : 0 + 1 ≤ _), (by decide : 0 + 4 ≤ _)⟩)
  dsimp only [Pt.U, Pt.locs, Pt.cells, Pt.slots] at X21 l21 y21 z21 st21 hQ21
  subst l21 y21 z21
  obtain ⟨t21, rfl, N21q, K21, V21⟩ := hQ21
  have N21 := Fr.app N0 N21q
  have KK21 : Keep h0 T21.heap [] := Keep.trans (Keep.refl h0 []) K21 all0
  refine own_by (T' := T21) (g' := (mkF m 3 #[.val (.int (0 : Int32)), .unset, .unset, .unset, .unset] [(.ref t21)])) (fun _ k => st21 _ k) ?_
  refine own_by (T' := T21) (g' := (mkF m 4 #[.val (.int (0 : Int32)), .val (.ref t21), .unset, .unset, .unset] [])) (fun _ k => XS.astoreN X21.here hx rfl (hb hby d1_3) rfl rfl (l' := #[.val (.int (0 : Int32)), .val (.ref t21), .unset, .unset, .unset]) rfl k) ?_
  refine own_by (T' := T21) (g' := (mkF m 5 #[.val (.int (0 : Int32)), .val (.ref t21), .unset, .unset, .unset] [(.ref t21)])) (fun _ k => XS.aloadN X21.here hx rfl (hb hby d1_4) rfl rfl k) ?_
  obtain ⟨cl22, Ar22, q22, S22, N_22, H22, G22⟩ := id V21
  refine own_by (T' := T21) (g' := (mkF m 6 #[.val (.int (0 : Int32)), .val (.ref t21), .unset, .unset, .unset] [(.int (4 : Int32))])) (fun _ k => X21.arraylength hx Ar22.1 (State.isArrayOf_alike hZ.alike Ar22.2.1) (g := (mkF m 5 #[.val (.int (0 : Int32)), .val (.ref t21), .unset, .unset, .unset] [(.ref t21)])) rfl rfl (hb hby d1_5) _ (by rw [len_of S22 N_22]; exact k)) ?_
  refine own_by (T' := T21) (g' := (mkF m 7 #[.val (.int (0 : Int32)), .val (.ref t21), .val (.int (4 : Int32)), .unset, .unset] [])) (fun _ k => XS.istoreN X21.here hx rfl (hb hby d1_6) rfl (l' := #[.val (.int (0 : Int32)), .val (.ref t21), .val (.int (4 : Int32)), .unset, .unset]) rfl k) ?_
  refine own_by (T' := T21) (g' := (mkF m 8 #[.val (.int (0 : Int32)), .val (.ref t21), .val (.int (4 : Int32)), .unset, .unset] [(.int (0 : Int32))])) (fun _ k => XS.iconst X21.here hx rfl (hb hby d1_7) k) ?_
  refine own_by (T' := T21) (g' := (mkF m 9 #[.val (.int (0 : Int32)), .val (.ref t21), .val (.int (4 : Int32)), .val (.int (0 : Int32)), .unset] [])) (fun _ k => XS.istoreN X21.here hx rfl (hb hby d1_8) rfl (l' := #[.val (.int (0 : Int32)), .val (.ref t21), .val (.int (4 : Int32)), .val (.int (0 : Int32)), .unset]) rfl k) ?_
  refine own_by (T' := T21) (g' := (mkF m 10 #[.val (.int (0 : Int32)), .val (.ref t21), .val (.int (4 : Int32)), .val (.int (0 : Int32)), .unset] [(.int (0 : Int32))])) (fun _ k => XS.iloadN X21.here hx rfl (hb hby d1_9) rfl k) ?_
  refine own_by (T' := T21) (g' := (mkF m 11 #[.val (.int (0 : Int32)), .val (.ref t21), .val (.int (4 : Int32)), .val (.int (0 : Int32)), .unset] [(.int (4 : Int32)), (.int (0 : Int32))])) (fun _ k => XS.iloadN X21.here hx rfl (hb hby d1_10) rfl k) ?_
  refine own_by (T' := T21) (g' := (mkF m 14 #[.val (.int (0 : Int32)), .val (.ref t21), .val (.int (4 : Int32)), .val (.int (0 : Int32)), .unset] [])) (fun _ k => XS.icmpNo X21.here hx rfl (hb hby d1_11) rfl (tlt (by decide)).2.1 k) ?_
  refine own_by (T' := T21) (g' := (mkF m 15 #[.val (.int (0 : Int32)), .val (.ref t21), .val (.int (4 : Int32)), .val (.int (0 : Int32)), .unset] [(.ref t21)])) (fun _ k => XS.aloadN X21.here hx rfl (hb hby d1_14) rfl rfl k) ?_
  refine own_by (T' := T21) (g' := (mkF m 16 #[.val (.int (0 : Int32)), .val (.ref t21), .val (.int (4 : Int32)), .val (.int (0 : Int32)), .unset] [(.int (0 : Int32)), (.ref t21)])) (fun _ k => XS.iloadN X21.here hx rfl (hb hby d1_15) rfl k) ?_
  obtain ⟨cl23, Ar23, q23, S23, N_23, H23, G23⟩ := id V21
  have hin23 : ¬ ((0 : Int32) < 0 ∨ cl23.slots.size ≤ ((0 : Int32)).toNatClampNeg) := inb_of S23 ⟨by decide, by decide⟩
  refine own_by (T' := T21) (g' := (mkF m 17 #[.val (.int (0 : Int32)), .val (.ref t21), .val (.int (4 : Int32)), .val (.int (0 : Int32)), .unset] [(.ref a_DELETE_ROW)])) (fun _ k => X21.aaload hx (j := (0 : Int32)) (v := (.ref a_DELETE_ROW)) Ar23.1 (State.isArrayOf_alike hZ.alike Ar23.2.1) rfl Ar23.2.2 hin23 (Has.at H23 hin23 rfl) (g := (mkF m 16 #[.val (.int (0 : Int32)), .val (.ref t21), .val (.int (4 : Int32)), .val (.int (0 : Int32)), .unset] [(.int (0 : Int32)), (.ref t21)])) rfl rfl (hb hby d1_16) _ k) ?_
  refine own_by (T' := T21) (g' := (mkF m 19 #[.val (.int (0 : Int32)), .val (.ref t21), .val (.int (4 : Int32)), .val (.int (0 : Int32)), .val (.ref a_DELETE_ROW)] [])) (fun _ k => XS.astore X21.here hx rfl (hb hby d1_17) rfl rfl (l' := #[.val (.int (0 : Int32)), .val (.ref t21), .val (.int (4 : Int32)), .val (.int (0 : Int32)), .val (.ref a_DELETE_ROW)]) rfl k) ?_
  refine own_by (T' := T21) (g' := (mkF m 21 #[.val (.int (0 : Int32)), .val (.ref t21), .val (.int (4 : Int32)), .val (.int (0 : Int32)), .val (.ref a_DELETE_ROW)] [(.ref a_DELETE_ROW)])) (fun _ k => XS.aload X21.here hx rfl (hb hby d1_19) rfl rfl k) ?_
  obtain ⟨T24, X24, e24, st24⟩ := getF X21 hx hZ hown (host := "") (Or.inl (hw _ (List.mem_of_getElem? (i := 23) rfl))) Via.refl rfl (Fld.keep F_code_a_DELETE_ROW K21 nin0) (g := (mkF m 21 #[.val (.int (0 : Int32)), .val (.ref t21), .val (.int (4 : Int32)), .val (.int (0 : Int32)), .val (.ref a_DELETE_ROW)] [(.ref a_DELETE_ROW)])) rfl rfl (hb hby d1_21)
  refine own_by (T' := T24) (g' := (mkF m 24 #[.val (.int (0 : Int32)), .val (.ref t21), .val (.int (4 : Int32)), .val (.int (0 : Int32)), .val (.ref a_DELETE_ROW)] [(.int (3 : Int32))])) (fun _ k => st24 _ k) ?_
  refine own_by (T' := T24) (g' := (mkF m 25 #[.val (.int (0 : Int32)), .val (.ref t21), .val (.int (4 : Int32)), .val (.int (0 : Int32)), .val (.ref a_DELETE_ROW)] [(.int (0 : Int32)), (.int (3 : Int32))])) (fun _ k => XS.iloadN X24.here hx rfl (hb hby d1_24) rfl k) ?_
  refine own_by (T' := T24) (g' := (mkF m 31 #[.val (.int (0 : Int32)), .val (.ref t21), .val (.int (4 : Int32)), .val (.int (0 : Int32)), .val (.ref a_DELETE_ROW)] [])) (fun _ k => XS.icmpYes X24.here hx rfl (pc0 := 25) (pc' := 31) rfl (hb hby d1_25) rfl (feq (by decide)).2 (by decide) (by decide) k) ?_
  refine own_by (T' := T24) (g' := (mkF m 34 #[.val (.int (0 : Int32)), .val (.ref t21), .val (.int (4 : Int32)), .val (.int (1 : Int32)), .val (.ref a_DELETE_ROW)] [])) (fun _ k => XS.iinc X24.here hx rfl (hb hby d1_31) rfl (l' := #[.val (.int (0 : Int32)), .val (.ref t21), .val (.int (4 : Int32)), .val (.int (1 : Int32)), .val (.ref a_DELETE_ROW)]) rfl k) ?_
  refine own_by (T' := T24) (g' := (mkF m 9 #[.val (.int (0 : Int32)), .val (.ref t21), .val (.int (4 : Int32)), .val (.int (1 : Int32)), .val (.ref a_DELETE_ROW)] [])) (fun _ k => XS.goto X24.here hx rfl (pc0 := 34) (pc' := 9) rfl (hb hby d1_34) (by decide) (by decide) k) ?_
  refine own_by (T' := T24) (g' := (mkF m 10 #[.val (.int (0 : Int32)), .val (.ref t21), .val (.int (4 : Int32)), .val (.int (1 : Int32)), .val (.ref a_DELETE_ROW)] [(.int (1 : Int32))])) (fun _ k => XS.iloadN X24.here hx rfl (hb hby d1_9) rfl k) ?_
  refine own_by (T' := T24) (g' := (mkF m 11 #[.val (.int (0 : Int32)), .val (.ref t21), .val (.int (4 : Int32)), .val (.int (1 : Int32)), .val (.ref a_DELETE_ROW)] [(.int (4 : Int32)), (.int (1 : Int32))])) (fun _ k => XS.iloadN X24.here hx rfl (hb hby d1_10) rfl k) ?_
  refine own_by (T' := T24) (g' := (mkF m 14 #[.val (.int (0 : Int32)), .val (.ref t21), .val (.int (4 : Int32)), .val (.int (1 : Int32)), .val (.ref a_DELETE_ROW)] [])) (fun _ k => XS.icmpNo X24.here hx rfl (hb hby d1_11) rfl (tlt (by decide)).2.1 k) ?_
  refine own_by (T' := T24) (g' := (mkF m 15 #[.val (.int (0 : Int32)), .val (.ref t21), .val (.int (4 : Int32)), .val (.int (1 : Int32)), .val (.ref a_DELETE_ROW)] [(.ref t21)])) (fun _ k => XS.aloadN X24.here hx rfl (hb hby d1_14) rfl rfl k) ?_
  refine own_by (T' := T24) (g' := (mkF m 16 #[.val (.int (0 : Int32)), .val (.ref t21), .val (.int (4 : Int32)), .val (.int (1 : Int32)), .val (.ref a_DELETE_ROW)] [(.int (1 : Int32)), (.ref t21)])) (fun _ k => XS.iloadN X24.here hx rfl (hb hby d1_15) rfl k) ?_
  obtain ⟨cl25, Ar25, q25, S25, N_25, H25, G25⟩ := id V21
  have hin25 : ¬ ((1 : Int32) < 0 ∨ cl25.slots.size ≤ ((1 : Int32)).toNatClampNeg) := inb_of S25 ⟨by decide, by decide⟩
  refine own_by (T' := T24) (g' := (mkF m 17 #[.val (.int (0 : Int32)), .val (.ref t21), .val (.int (4 : Int32)), .val (.int (1 : Int32)), .val (.ref a_DELETE_ROW)] [(.ref a_DELETE_FAMILY)])) (fun _ k => X24.aaload hx (j := (1 : Int32)) (v := (.ref a_DELETE_FAMILY)) (by rw [e24]; exact Ar25.1) (State.isArrayOf_alike hZ.alike Ar25.2.1) rfl Ar25.2.2 hin25 (Has.at H25 hin25 rfl) (g := (mkF m 16 #[.val (.int (0 : Int32)), .val (.ref t21), .val (.int (4 : Int32)), .val (.int (1 : Int32)), .val (.ref a_DELETE_ROW)] [(.int (1 : Int32)), (.ref t21)])) rfl rfl (hb hby d1_16) _ k) ?_
  refine own_by (T' := T24) (g' := (mkF m 19 #[.val (.int (0 : Int32)), .val (.ref t21), .val (.int (4 : Int32)), .val (.int (1 : Int32)), .val (.ref a_DELETE_FAMILY)] [])) (fun _ k => XS.astore X24.here hx rfl (hb hby d1_17) rfl rfl (l' := #[.val (.int (0 : Int32)), .val (.ref t21), .val (.int (4 : Int32)), .val (.int (1 : Int32)), .val (.ref a_DELETE_FAMILY)]) rfl k) ?_
  refine own_by (T' := T24) (g' := (mkF m 21 #[.val (.int (0 : Int32)), .val (.ref t21), .val (.int (4 : Int32)), .val (.int (1 : Int32)), .val (.ref a_DELETE_FAMILY)] [(.ref a_DELETE_FAMILY)])) (fun _ k => XS.aload X24.here hx rfl (hb hby d1_19) rfl rfl k) ?_
  obtain ⟨T26, X26, e26, st26⟩ := getF X24 hx hZ hown (host := "") (Or.inl (hw _ (List.mem_of_getElem? (i := 23) rfl))) Via.refl e24 (Fld.keep F_code_a_DELETE_FAMILY K21 nin0) (g := (mkF m 21 #[.val (.int (0 : Int32)), .val (.ref t21), .val (.int (4 : Int32)), .val (.int (1 : Int32)), .val (.ref a_DELETE_FAMILY)] [(.ref a_DELETE_FAMILY)])) rfl rfl (hb hby d1_21)
  refine own_by (T' := T26) (g' := (mkF m 24 #[.val (.int (0 : Int32)), .val (.ref t21), .val (.int (4 : Int32)), .val (.int (1 : Int32)), .val (.ref a_DELETE_FAMILY)] [(.int (2 : Int32))])) (fun _ k => st26 _ k) ?_
  refine own_by (T' := T26) (g' := (mkF m 25 #[.val (.int (0 : Int32)), .val (.ref t21), .val (.int (4 : Int32)), .val (.int (1 : Int32)), .val (.ref a_DELETE_FAMILY)] [(.int (0 : Int32)), (.int (2 : Int32))])) (fun _ k => XS.iloadN X26.here hx rfl (hb hby d1_24) rfl k) ?_
  refine own_by (T' := T26) (g' := (mkF m 31 #[.val (.int (0 : Int32)), .val (.ref t21), .val (.int (4 : Int32)), .val (.int (1 : Int32)), .val (.ref a_DELETE_FAMILY)] [])) (fun _ k => XS.icmpYes X26.here hx rfl (pc0 := 25) (pc' := 31) rfl (hb hby d1_25) rfl (feq (by decide)).2 (by decide) (by decide) k) ?_
  refine own_by (T' := T26) (g' := (mkF m 34 #[.val (.int (0 : Int32)), .val (.ref t21), .val (.int (4 : Int32)), .val (.int (2 : Int32)), .val (.ref a_DELETE_FAMILY)] [])) (fun _ k => XS.iinc X26.here hx rfl (hb hby d1_31) rfl (l' := #[.val (.int (0 : Int32)), .val (.ref t21), .val (.int (4 : Int32)), .val (.int (2 : Int32)), .val (.ref a_DELETE_FAMILY)]) rfl k) ?_
  refine own_by (T' := T26) (g' := (mkF m 9 #[.val (.int (0 : Int32)), .val (.ref t21), .val (.int (4 : Int32)), .val (.int (2 : Int32)), .val (.ref a_DELETE_FAMILY)] [])) (fun _ k => XS.goto X26.here hx rfl (pc0 := 34) (pc' := 9) rfl (hb hby d1_34) (by decide) (by decide) k) ?_
  refine own_by (T' := T26) (g' := (mkF m 10 #[.val (.int (0 : Int32)), .val (.ref t21), .val (.int (4 : Int32)), .val (.int (2 : Int32)), .val (.ref a_DELETE_FAMILY)] [(.int (2 : Int32))])) (fun _ k => XS.iloadN X26.here hx rfl (hb hby d1_9) rfl k) ?_
  refine own_by (T' := T26) (g' := (mkF m 11 #[.val (.int (0 : Int32)), .val (.ref t21), .val (.int (4 : Int32)), .val (.int (2 : Int32)), .val (.ref a_DELETE_FAMILY)] [(.int (4 : Int32)), (.int (2 : Int32))])) (fun _ k => XS.iloadN X26.here hx rfl (hb hby d1_10) rfl k) ?_
  refine own_by (T' := T26) (g' := (mkF m 14 #[.val (.int (0 : Int32)), .val (.ref t21), .val (.int (4 : Int32)), .val (.int (2 : Int32)), .val (.ref a_DELETE_FAMILY)] [])) (fun _ k => XS.icmpNo X26.here hx rfl (hb hby d1_11) rfl (tlt (by decide)).2.1 k) ?_
  refine own_by (T' := T26) (g' := (mkF m 15 #[.val (.int (0 : Int32)), .val (.ref t21), .val (.int (4 : Int32)), .val (.int (2 : Int32)), .val (.ref a_DELETE_FAMILY)] [(.ref t21)])) (fun _ k => XS.aloadN X26.here hx rfl (hb hby d1_14) rfl rfl k) ?_
  refine own_by (T' := T26) (g' := (mkF m 16 #[.val (.int (0 : Int32)), .val (.ref t21), .val (.int (4 : Int32)), .val (.int (2 : Int32)), .val (.ref a_DELETE_FAMILY)] [(.int (2 : Int32)), (.ref t21)])) (fun _ k => XS.iloadN X26.here hx rfl (hb hby d1_15) rfl k) ?_
  obtain ⟨cl27, Ar27, q27, S27, N_27, H27, G27⟩ := id V21
  have hin27 : ¬ ((2 : Int32) < 0 ∨ cl27.slots.size ≤ ((2 : Int32)).toNatClampNeg) := inb_of S27 ⟨by decide, by decide⟩
  refine own_by (T' := T26) (g' := (mkF m 17 #[.val (.int (0 : Int32)), .val (.ref t21), .val (.int (4 : Int32)), .val (.int (2 : Int32)), .val (.ref a_DELETE_FAMILY)] [(.ref a_DELETE_COLUMN)])) (fun _ k => X26.aaload hx (j := (2 : Int32)) (v := (.ref a_DELETE_COLUMN)) (by rw [e26]; exact Ar27.1) (State.isArrayOf_alike hZ.alike Ar27.2.1) rfl Ar27.2.2 hin27 (Has.at H27 hin27 rfl) (g := (mkF m 16 #[.val (.int (0 : Int32)), .val (.ref t21), .val (.int (4 : Int32)), .val (.int (2 : Int32)), .val (.ref a_DELETE_FAMILY)] [(.int (2 : Int32)), (.ref t21)])) rfl rfl (hb hby d1_16) _ k) ?_
  refine own_by (T' := T26) (g' := (mkF m 19 #[.val (.int (0 : Int32)), .val (.ref t21), .val (.int (4 : Int32)), .val (.int (2 : Int32)), .val (.ref a_DELETE_COLUMN)] [])) (fun _ k => XS.astore X26.here hx rfl (hb hby d1_17) rfl rfl (l' := #[.val (.int (0 : Int32)), .val (.ref t21), .val (.int (4 : Int32)), .val (.int (2 : Int32)), .val (.ref a_DELETE_COLUMN)]) rfl k) ?_
  refine own_by (T' := T26) (g' := (mkF m 21 #[.val (.int (0 : Int32)), .val (.ref t21), .val (.int (4 : Int32)), .val (.int (2 : Int32)), .val (.ref a_DELETE_COLUMN)] [(.ref a_DELETE_COLUMN)])) (fun _ k => XS.aload X26.here hx rfl (hb hby d1_19) rfl rfl k) ?_
  obtain ⟨T28, X28, e28, st28⟩ := getF X26 hx hZ hown (host := "") (Or.inl (hw _ (List.mem_of_getElem? (i := 23) rfl))) Via.refl e26 (Fld.keep F_code_a_DELETE_COLUMN K21 nin0) (g := (mkF m 21 #[.val (.int (0 : Int32)), .val (.ref t21), .val (.int (4 : Int32)), .val (.int (2 : Int32)), .val (.ref a_DELETE_COLUMN)] [(.ref a_DELETE_COLUMN)])) rfl rfl (hb hby d1_21)
  refine own_by (T' := T28) (g' := (mkF m 24 #[.val (.int (0 : Int32)), .val (.ref t21), .val (.int (4 : Int32)), .val (.int (2 : Int32)), .val (.ref a_DELETE_COLUMN)] [(.int (1 : Int32))])) (fun _ k => st28 _ k) ?_
  refine own_by (T' := T28) (g' := (mkF m 25 #[.val (.int (0 : Int32)), .val (.ref t21), .val (.int (4 : Int32)), .val (.int (2 : Int32)), .val (.ref a_DELETE_COLUMN)] [(.int (0 : Int32)), (.int (1 : Int32))])) (fun _ k => XS.iloadN X28.here hx rfl (hb hby d1_24) rfl k) ?_
  refine own_by (T' := T28) (g' := (mkF m 31 #[.val (.int (0 : Int32)), .val (.ref t21), .val (.int (4 : Int32)), .val (.int (2 : Int32)), .val (.ref a_DELETE_COLUMN)] [])) (fun _ k => XS.icmpYes X28.here hx rfl (pc0 := 25) (pc' := 31) rfl (hb hby d1_25) rfl (feq (by decide)).2 (by decide) (by decide) k) ?_
  refine own_by (T' := T28) (g' := (mkF m 34 #[.val (.int (0 : Int32)), .val (.ref t21), .val (.int (4 : Int32)), .val (.int (3 : Int32)), .val (.ref a_DELETE_COLUMN)] [])) (fun _ k => XS.iinc X28.here hx rfl (hb hby d1_31) rfl (l' := #[.val (.int (0 : Int32)), .val (.ref t21), .val (.int (4 : Int32)), .val (.int (3 : Int32)), .val (.ref a_DELETE_COLUMN)]) rfl k) ?_
  refine own_by (T' := T28) (g' := (mkF m 9 #[.val (.int (0 : Int32)), .val (.ref t21), .val (.int (4 : Int32)), .val (.int (3 : Int32)), .val (.ref a_DELETE_COLUMN)] [])) (fun _ k => XS.goto X28.here hx rfl (pc0 := 34) (pc' := 9) rfl (hb hby d1_34) (by decide) (by decide) k) ?_
  refine own_by (T' := T28) (g' := (mkF m 10 #[.val (.int (0 : Int32)), .val (.ref t21), .val (.int (4 : Int32)), .val (.int (3 : Int32)), .val (.ref a_DELETE_COLUMN)] [(.int (3 : Int32))])) (fun _ k => XS.iloadN X28.here hx rfl (hb hby d1_9) rfl k) ?_
  refine own_by (T' := T28) (g' := (mkF m 11 #[.val (.int (0 : Int32)), .val (.ref t21), .val (.int (4 : Int32)), .val (.int (3 : Int32)), .val (.ref a_DELETE_COLUMN)] [(.int (4 : Int32)), (.int (3 : Int32))])) (fun _ k => XS.iloadN X28.here hx rfl (hb hby d1_10) rfl k) ?_
  refine own_by (T' := T28) (g' := (mkF m 14 #[.val (.int (0 : Int32)), .val (.ref t21), .val (.int (4 : Int32)), .val (.int (3 : Int32)), .val (.ref a_DELETE_COLUMN)] [])) (fun _ k => XS.icmpNo X28.here hx rfl (hb hby d1_11) rfl (tlt (by decide)).2.1 k) ?_
  refine own_by (T' := T28) (g' := (mkF m 15 #[.val (.int (0 : Int32)), .val (.ref t21), .val (.int (4 : Int32)), .val (.int (3 : Int32)), .val (.ref a_DELETE_COLUMN)] [(.ref t21)])) (fun _ k => XS.aloadN X28.here hx rfl (hb hby d1_14) rfl rfl k) ?_
  refine own_by (T' := T28) (g' := (mkF m 16 #[.val (.int (0 : Int32)), .val (.ref t21), .val (.int (4 : Int32)), .val (.int (3 : Int32)), .val (.ref a_DELETE_COLUMN)] [(.int (3 : Int32)), (.ref t21)])) (fun _ k => XS.iloadN X28.here hx rfl (hb hby d1_15) rfl k) ?_
  obtain ⟨cl29, Ar29, q29, S29, N_29, H29, G29⟩ := id V21
  have hin29 : ¬ ((3 : Int32) < 0 ∨ cl29.slots.size ≤ ((3 : Int32)).toNatClampNeg) := inb_of S29 ⟨by decide, by decide⟩
  refine own_by (T' := T28) (g' := (mkF m 17 #[.val (.int (0 : Int32)), .val (.ref t21), .val (.int (4 : Int32)), .val (.int (3 : Int32)), .val (.ref a_DELETE_COLUMN)] [(.ref a_PUT)])) (fun _ k => X28.aaload hx (j := (3 : Int32)) (v := (.ref a_PUT)) (by rw [e28]; exact Ar29.1) (State.isArrayOf_alike hZ.alike Ar29.2.1) rfl Ar29.2.2 hin29 (Has.at H29 hin29 rfl) (g := (mkF m 16 #[.val (.int (0 : Int32)), .val (.ref t21), .val (.int (4 : Int32)), .val (.int (3 : Int32)), .val (.ref a_DELETE_COLUMN)] [(.int (3 : Int32)), (.ref t21)])) rfl rfl (hb hby d1_16) _ k) ?_
  refine own_by (T' := T28) (g' := (mkF m 19 #[.val (.int (0 : Int32)), .val (.ref t21), .val (.int (4 : Int32)), .val (.int (3 : Int32)), .val (.ref a_PUT)] [])) (fun _ k => XS.astore X28.here hx rfl (hb hby d1_17) rfl rfl (l' := #[.val (.int (0 : Int32)), .val (.ref t21), .val (.int (4 : Int32)), .val (.int (3 : Int32)), .val (.ref a_PUT)]) rfl k) ?_
  refine own_by (T' := T28) (g' := (mkF m 21 #[.val (.int (0 : Int32)), .val (.ref t21), .val (.int (4 : Int32)), .val (.int (3 : Int32)), .val (.ref a_PUT)] [(.ref a_PUT)])) (fun _ k => XS.aload X28.here hx rfl (hb hby d1_19) rfl rfl k) ?_
  obtain ⟨T30, X30, e30, st30⟩ := getF X28 hx hZ hown (host := "") (Or.inl (hw _ (List.mem_of_getElem? (i := 23) rfl))) Via.refl e28 (Fld.keep F_code_a_PUT K21 nin0) (g := (mkF m 21 #[.val (.int (0 : Int32)), .val (.ref t21), .val (.int (4 : Int32)), .val (.int (3 : Int32)), .val (.ref a_PUT)] [(.ref a_PUT)])) rfl rfl (hb hby d1_21)
  refine own_by (T' := T30) (g' := (mkF m 24 #[.val (.int (0 : Int32)), .val (.ref t21), .val (.int (4 : Int32)), .val (.int (3 : Int32)), .val (.ref a_PUT)] [(.int (0 : Int32))])) (fun _ k => st30 _ k) ?_
  refine own_by (T' := T30) (g' := (mkF m 25 #[.val (.int (0 : Int32)), .val (.ref t21), .val (.int (4 : Int32)), .val (.int (3 : Int32)), .val (.ref a_PUT)] [(.int (0 : Int32)), (.int (0 : Int32))])) (fun _ k => XS.iloadN X30.here hx rfl (hb hby d1_24) rfl k) ?_
  refine own_by (T' := T30) (g' := (mkF m 28 #[.val (.int (0 : Int32)), .val (.ref t21), .val (.int (4 : Int32)), .val (.int (3 : Int32)), .val (.ref a_PUT)] [])) (fun _ k => XS.icmpNo X30.here hx rfl (hb hby d1_25) rfl (teq (by decide)).2 k) ?_
  refine own_by (T' := T30) (g' := (mkF m 30 #[.val (.int (0 : Int32)), .val (.ref t21), .val (.int (4 : Int32)), .val (.int (3 : Int32)), .val (.ref a_PUT)] [(.ref a_PUT)])) (fun _ k => XS.aload X30.here hx rfl (hb hby d1_28) rfl rfl k) ?_
  refine own_ret X30 hlk (v := some (.ref a_PUT)) (fun h => by rw [Bd.returns] at h; cases h) (fun fs hr => retOut X30 hx Bd.returns rfl (Or.inr (Or.inr (Or.inr (Or.inr ⟨rfl, rfl, rfl⟩)))) (hb hby d1_30) hr) ?_ (by decide) (by decide)
  rw [e30]
  exact ⟨rfl, N21, KK21⟩
theorem d3_0 : decode method_2_code 0 = .ok (.iload_n 0, 1) := by decide +kernel
theorem d3_1 : decode method_2_code 1 = .ok (.ifCond .ne 7, 3) := by decide +kernel
theorem d3_8 : decode method_2_code 8 = .ok (.iload_n 0, 1) := by decide +kernel
theorem d3_9 : decode method_2_code 9 = .ok (.iconst 1, 1) := by decide +kernel
theorem d3_10 : decode method_2_code 10 = .ok (.if_icmp .ne 7, 3) := by decide +kernel
theorem d3_17 : decode method_2_code 17 = .ok (.iload_n 0, 1) := by decide +kernel
theorem d3_18 : decode method_2_code 18 = .ok (.iconst 2, 1) := by decide +kernel
theorem d3_19 : decode method_2_code 19 = .ok (.if_icmp .ne 7, 3) := by decide +kernel
theorem d3_26 : decode method_2_code 26 = .ok (.getstatic 19, 3) := by decide +kernel
theorem d3_29 : decode method_2_code 29 = .ok (.areturn, 1) := by decide +kernel
theorem pn_3 : plainName "com/example/millrace/millrace/TypeOfPinLaw" = true := by first | (simp [plainName, overriddenIn]; done) | decide +kernel
theorem ef_exp_3 (m : MethodId)  : entryFrame m #[(.int (3 : Int32))] 1 = mkF m 0 #[.val (.int (3 : Int32))] [] := by first | (simp [entryFrame, mkF, argsToLocals, Value.category]; done) | rfl
def Q_exp_3 (Z : State) (a_DELETE_ROW : Addr) (h0 : Heap) (n0 : Nat) (v : Option Value) (h : Heap) (L : List Loc) : Prop := v = some (.ref a_DELETE_ROW) ∧ Fr n0 L ∧ h = h0
set_option maxRecDepth 65536 in
set_option maxHeartbeats 40000000 in
theorem exp_3 (l : Launch) (Z : State) (a0 : Array Value) (hw : ∀ d ∈ tables_1, d.before a0 Z = true) (ws : List Jvm.Cond) (a_DELETE_ROW : Addr) (h0 : Heap) (n0 : Nat) (Z0 : n0 ≤ h0.size) (S_DELETE_ROW : Sta Z h0 "com/example/millrace/millrace/Cell$Type" "DELETE_ROW" "Lcom/example/millrace/millrace/Cell$Type;" (.ref a_DELETE_ROW)) :
    MetFree l (⟨"com/example/millrace/millrace/TypeOfPinLaw", "expected", "(B)Lcom/example/millrace/millrace/Cell$Type;"⟩ : MethodName) (head1 (Jvm.Cond.code (⟨"com/example/millrace/millrace/TypeOfPinLaw", "expected", "(B)Lcom/example/millrace/millrace/Cell$Type;"⟩ : MethodName) method_2_code 1 (some (.object "com/example/millrace/millrace/Cell$Type")) :: ws) ({ frames := 0, cells := 0, slots := 0, locals := 0 } : Room)) (fun zz UU => zz = #[(.int (3 : Int32))] ∧ Z.Warmed39 UU.vm ∧ UU.heap = h0) (fun _ _ _ _ _ => True) (fun _ U o U' => ∃ v L, o = .returned v ∧ Q_exp_3 Z a_DELETE_ROW h0 n0 v U'.heap L ∧ FrameEnd U o U' L ({ frames := 0, cells := 0, slots := 0, locals := 0 } : Room).cells ({ frames := 0, cells := 0, slots := 0, locals := 0 } : Room).slots) := by
  refine MetFree.of_bodySF (plainFor_of_name pn_3) hisR ?_
  intro p e s m args below meth c s₁ Bd hml0 hP hK
  obtain ⟨rfl, hZ, hh⟩ := hP
  have hx := Bd.exec
  have hby := Bd.bytes
  have hml : c.maxLocals = 1 := hml0
  have hown : s.vm.findClass "com/example/millrace/millrace/TypeOfPinLaw" = some m.cls := findClass_of_methodNamed Bd.named
  have hnm := (name_of_methodNamed Bd.named Bd.method).1
  have hlk : meth.locks = false := BodyLoose.notSynchronized Bd
  have X0 : Stand p l e ({ frames := 0, cells := 0, slots := 0, locals := 0 } : Room) s m #[(.int (3 : Int32))] below meth c s₁ [] 0 0 := Stand.of_body Bd
  have e0 : s₁.heap = h0 := by rw [← hh, Bd.state]; rfl
  have N0 := Fr.nil n0
  show own_Go p.tables e below (Q_exp_3 Z a_DELETE_ROW h0 n0) s ({ frames := 0, cells := 0, slots := 0, locals := 0 } : Room).cells ({ frames := 0, cells := 0, slots := 0, locals := 0 } : Room).slots s₁ (entryFrame m #[(.int (3 : Int32))] 1)
  rw [ef_exp_3 m ]
  refine own_by (T' := s₁) (g' := (mkF m 1 #[.val (.int (3 : Int32))] [(.int (3 : Int32))])) (fun _ k => XS.iloadN X0.here hx rfl (hb hby d3_0) rfl k) ?_
  refine own_by (T' := s₁) (g' := (mkF m 8 #[.val (.int (3 : Int32))] [])) (fun _ k => XS.ifYes X0.here hx rfl (pc0 := 1) (pc' := 8) rfl (hb hby d3_1) rfl ((if0 _ _).trans (feq (by decide)).2) (by decide) (by decide) k) ?_
  refine own_by (T' := s₁) (g' := (mkF m 9 #[.val (.int (3 : Int32))] [(.int (3 : Int32))])) (fun _ k => XS.iloadN X0.here hx rfl (hb hby d3_8) rfl k) ?_
  refine own_by (T' := s₁) (g' := (mkF m 10 #[.val (.int (3 : Int32))] [(.int (1 : Int32)), (.int (3 : Int32))])) (fun _ k => XS.iconst X0.here hx rfl (hb hby d3_9) k) ?_
  refine own_by (T' := s₁) (g' := (mkF m 17 #[.val (.int (3 : Int32))] [])) (fun _ k => XS.icmpYes X0.here hx rfl (pc0 := 10) (pc' := 17) rfl (hb hby d3_10) rfl (feq (by decide)).2 (by decide) (by decide) k) ?_
  refine own_by (T' := s₁) (g' := (mkF m 18 #[.val (.int (3 : Int32))] [(.int (3 : Int32))])) (fun _ k => XS.iloadN X0.here hx rfl (hb hby d3_17) rfl k) ?_
  refine own_by (T' := s₁) (g' := (mkF m 19 #[.val (.int (3 : Int32))] [(.int (2 : Int32)), (.int (3 : Int32))])) (fun _ k => XS.iconst X0.here hx rfl (hb hby d3_18) k) ?_
  refine own_by (T' := s₁) (g' := (mkF m 26 #[.val (.int (3 : Int32))] [])) (fun _ k => XS.icmpYes X0.here hx rfl (pc0 := 19) (pc' := 26) rfl (hb hby d3_19) rfl (feq (by decide)).2 (by decide) (by decide) k) ?_
  obtain ⟨T21, X21, e21, st21⟩ := getS2 X0 hx hZ hown (host := "") (Or.inl (hw _ (List.mem_of_getElem? (i := 31) rfl))) Via.refl e0 S_DELETE_ROW (g := (mkF m 26 #[.val (.int (3 : Int32))] [])) rfl (hb hby d3_26)
  refine own_by (T' := T21) (g' := (mkF m 29 #[.val (.int (3 : Int32))] [(.ref a_DELETE_ROW)])) (fun _ k => st21 _ k) ?_
  refine own_ret X21 hlk (v := some (.ref a_DELETE_ROW)) (fun h => by rw [Bd.returns] at h; cases h) (fun fs hr => retOut X21 hx Bd.returns rfl (Or.inr (Or.inr (Or.inr (Or.inr ⟨rfl, rfl, rfl⟩)))) (hb hby d3_29) hr) ?_ (by decide) (by decide)
  rw [e21]
  exact ⟨rfl, N0, rfl⟩
theorem d3_22 : decode method_2_code 22 = .ok (.getstatic 16, 3) := by decide +kernel
theorem d3_25 : decode method_2_code 25 = .ok (.areturn, 1) := by decide +kernel
theorem ef_exp_2 (m : MethodId)  : entryFrame m #[(.int (2 : Int32))] 1 = mkF m 0 #[.val (.int (2 : Int32))] [] := by first | (simp [entryFrame, mkF, argsToLocals, Value.category]; done) | rfl
def Q_exp_2 (Z : State) (a_DELETE_FAMILY : Addr) (h0 : Heap) (n0 : Nat) (v : Option Value) (h : Heap) (L : List Loc) : Prop := v = some (.ref a_DELETE_FAMILY) ∧ Fr n0 L ∧ h = h0
set_option maxRecDepth 65536 in
set_option maxHeartbeats 40000000 in
theorem exp_2 (l : Launch) (Z : State) (a0 : Array Value) (hw : ∀ d ∈ tables_1, d.before a0 Z = true) (ws : List Jvm.Cond) (a_DELETE_FAMILY : Addr) (h0 : Heap) (n0 : Nat) (Z0 : n0 ≤ h0.size) (S_DELETE_FAMILY : Sta Z h0 "com/example/millrace/millrace/Cell$Type" "DELETE_FAMILY" "Lcom/example/millrace/millrace/Cell$Type;" (.ref a_DELETE_FAMILY)) :
    MetFree l (⟨"com/example/millrace/millrace/TypeOfPinLaw", "expected", "(B)Lcom/example/millrace/millrace/Cell$Type;"⟩ : MethodName) (head1 (Jvm.Cond.code (⟨"com/example/millrace/millrace/TypeOfPinLaw", "expected", "(B)Lcom/example/millrace/millrace/Cell$Type;"⟩ : MethodName) method_2_code 1 (some (.object "com/example/millrace/millrace/Cell$Type")) :: ws) ({ frames := 0, cells := 0, slots := 0, locals := 0 } : Room)) (fun zz UU => zz = #[(.int (2 : Int32))] ∧ Z.Warmed39 UU.vm ∧ UU.heap = h0) (fun _ _ _ _ _ => True) (fun _ U o U' => ∃ v L, o = .returned v ∧ Q_exp_2 Z a_DELETE_FAMILY h0 n0 v U'.heap L ∧ FrameEnd U o U' L ({ frames := 0, cells := 0, slots := 0, locals := 0 } : Room).cells ({ frames := 0, cells := 0, slots := 0, locals := 0 } : Room).slots) := by
  refine MetFree.of_bodySF (plainFor_of_name pn_3) hisR ?_
  intro p e s m args below meth c s₁ Bd hml0 hP hK
  obtain ⟨rfl, hZ, hh⟩ := hP
  have hx := Bd.exec
  have hby := Bd.bytes
  have hml : c.maxLocals = 1 := hml0
  have hown : s.vm.findClass "com/example/millrace/millrace/TypeOfPinLaw" = some m.cls := findClass_of_methodNamed Bd.named
  have hnm := (name_of_methodNamed Bd.named Bd.method).1
  have hlk : meth.locks = false := BodyLoose.notSynchronized Bd
  have X0 : Stand p l e ({ frames := 0, cells := 0, slots := 0, locals := 0 } : Room) s m #[(.int (2 : Int32))] below meth c s₁ [] 0 0 := Stand.of_body Bd
  have e0 : s₁.heap = h0 := by rw [← hh, Bd.state]; rfl
  have N0 := Fr.nil n0
  show own_Go p.tables e below (Q_exp_2 Z a_DELETE_FAMILY h0 n0) s ({ frames := 0, cells := 0, slots := 0, locals := 0 } : Room).cells ({ frames := 0, cells := 0, slots := 0, locals := 0 } : Room).slots s₁ (entryFrame m #[(.int (2 : Int32))] 1)
  rw [ef_exp_2 m ]
  refine own_by (T' := s₁) (g' := (mkF m 1 #[.val (.int (2 : Int32))] [(.int (2 : Int32))])) (fun _ k => XS.iloadN X0.here hx rfl (hb hby d3_0) rfl k) ?_
  refine own_by (T' := s₁) (g' := (mkF m 8 #[.val (.int (2 : Int32))] [])) (fun _ k => XS.ifYes X0.here hx rfl (pc0 := 1) (pc' := 8) rfl (hb hby d3_1) rfl ((if0 _ _).trans (feq (by decide)).2) (by decide) (by decide) k) ?_
  refine own_by (T' := s₁) (g' := (mkF m 9 #[.val (.int (2 : Int32))] [(.int (2 : Int32))])) (fun _ k => XS.iloadN X0.here hx rfl (hb hby d3_8) rfl k) ?_
  refine own_by (T' := s₁) (g' := (mkF m 10 #[.val (.int (2 : Int32))] [(.int (1 : Int32)), (.int (2 : Int32))])) (fun _ k => XS.iconst X0.here hx rfl (hb hby d3_9) k) ?_
  refine own_by (T' := s₁) (g' := (mkF m 17 #[.val (.int (2 : Int32))] [])) (fun _ k => XS.icmpYes X0.here hx rfl (pc0 := 10) (pc' := 17) rfl (hb hby d3_10) rfl (feq (by decide)).2 (by decide) (by decide) k) ?_
  refine own_by (T' := s₁) (g' := (mkF m 18 #[.val (.int (2 : Int32))] [(.int (2 : Int32))])) (fun _ k => XS.iloadN X0.here hx rfl (hb hby d3_17) rfl k) ?_
  refine own_by (T' := s₁) (g' := (mkF m 19 #[.val (.int (2 : Int32))] [(.int (2 : Int32)), (.int (2 : Int32))])) (fun _ k => XS.iconst X0.here hx rfl (hb hby d3_18) k) ?_
  refine own_by (T' := s₁) (g' := (mkF m 22 #[.val (.int (2 : Int32))] [])) (fun _ k => XS.icmpNo X0.here hx rfl (hb hby d3_19) rfl (teq (by decide)).2 k) ?_
  obtain ⟨T21, X21, e21, st21⟩ := getS2 X0 hx hZ hown (host := "") (Or.inl (hw _ (List.mem_of_getElem? (i := 32) rfl))) Via.refl e0 S_DELETE_FAMILY (g := (mkF m 22 #[.val (.int (2 : Int32))] [])) rfl (hb hby d3_22)
  refine own_by (T' := T21) (g' := (mkF m 25 #[.val (.int (2 : Int32))] [(.ref a_DELETE_FAMILY)])) (fun _ k => st21 _ k) ?_
  refine own_ret X21 hlk (v := some (.ref a_DELETE_FAMILY)) (fun h => by rw [Bd.returns] at h; cases h) (fun fs hr => retOut X21 hx Bd.returns rfl (Or.inr (Or.inr (Or.inr (Or.inr ⟨rfl, rfl, rfl⟩)))) (hb hby d3_25) hr) ?_ (by decide) (by decide)
  rw [e21]
  exact ⟨rfl, N0, rfl⟩
theorem d3_13 : decode method_2_code 13 = .ok (.getstatic 13, 3) := by decide +kernel
theorem d3_16 : decode method_2_code 16 = .ok (.areturn, 1) := by decide +kernel
theorem ef_exp_1 (m : MethodId)  : entryFrame m #[(.int (1 : Int32))] 1 = mkF m 0 #[.val (.int (1 : Int32))] [] := by first | (simp [entryFrame, mkF, argsToLocals, Value.category]; done) | rfl
def Q_exp_1 (Z : State) (a_DELETE_COLUMN : Addr) (h0 : Heap) (n0 : Nat) (v : Option Value) (h : Heap) (L : List Loc) : Prop := v = some (.ref a_DELETE_COLUMN) ∧ Fr n0 L ∧ h = h0
set_option maxRecDepth 65536 in
set_option maxHeartbeats 40000000 in
theorem exp_1 (l : Launch) (Z : State) (a0 : Array Value) (hw : ∀ d ∈ tables_1, d.before a0 Z = true) (ws : List Jvm.Cond) (a_DELETE_COLUMN : Addr) (h0 : Heap) (n0 : Nat) (Z0 : n0 ≤ h0.size) (S_DELETE_COLUMN : Sta Z h0 "com/example/millrace/millrace/Cell$Type" "DELETE_COLUMN" "Lcom/example/millrace/millrace/Cell$Type;" (.ref a_DELETE_COLUMN)) :
    MetFree l (⟨"com/example/millrace/millrace/TypeOfPinLaw", "expected", "(B)Lcom/example/millrace/millrace/Cell$Type;"⟩ : MethodName) (head1 (Jvm.Cond.code (⟨"com/example/millrace/millrace/TypeOfPinLaw", "expected", "(B)Lcom/example/millrace/millrace/Cell$Type;"⟩ : MethodName) method_2_code 1 (some (.object "com/example/millrace/millrace/Cell$Type")) :: ws) ({ frames := 0, cells := 0, slots := 0, locals := 0 } : Room)) (fun zz UU => zz = #[(.int (1 : Int32))] ∧ Z.Warmed39 UU.vm ∧ UU.heap = h0) (fun _ _ _ _ _ => True) (fun _ U o U' => ∃ v L, o = .returned v ∧ Q_exp_1 Z a_DELETE_COLUMN h0 n0 v U'.heap L ∧ FrameEnd U o U' L ({ frames := 0, cells := 0, slots := 0, locals := 0 } : Room).cells ({ frames := 0, cells := 0, slots := 0, locals := 0 } : Room).slots) := by
  refine MetFree.of_bodySF (plainFor_of_name pn_3) hisR ?_
  intro p e s m args below meth c s₁ Bd hml0 hP hK
  obtain ⟨rfl, hZ, hh⟩ := hP
  have hx := Bd.exec
  have hby := Bd.bytes
  have hml : c.maxLocals = 1 := hml0
  have hown : s.vm.findClass "com/example/millrace/millrace/TypeOfPinLaw" = some m.cls := findClass_of_methodNamed Bd.named
  have hnm := (name_of_methodNamed Bd.named Bd.method).1
  have hlk : meth.locks = false := BodyLoose.notSynchronized Bd
  have X0 : Stand p l e ({ frames := 0, cells := 0, slots := 0, locals := 0 } : Room) s m #[(.int (1 : Int32))] below meth c s₁ [] 0 0 := Stand.of_body Bd
  have e0 : s₁.heap = h0 := by rw [← hh, Bd.state]; rfl
  have N0 := Fr.nil n0
  show own_Go p.tables e below (Q_exp_1 Z a_DELETE_COLUMN h0 n0) s ({ frames := 0, cells := 0, slots := 0, locals := 0 } : Room).cells ({ frames := 0, cells := 0, slots := 0, locals := 0 } : Room).slots s₁ (entryFrame m #[(.int (1 : Int32))] 1)
  rw [ef_exp_1 m ]
  refine own_by (T' := s₁) (g' := (mkF m 1 #[.val (.int (1 : Int32))] [(.int (1 : Int32))])) (fun _ k => XS.iloadN X0.here hx rfl (hb hby d3_0) rfl k) ?_
  refine own_by (T' := s₁) (g' := (mkF m 8 #[.val (.int (1 : Int32))] [])) (fun _ k => XS.ifYes X0.here hx rfl (pc0 := 1) (pc' := 8) rfl (hb hby d3_1) rfl ((if0 _ _).trans (feq (by decide)).2) (by decide) (by decide) k) ?_
  refine own_by (T' := s₁) (g' := (mkF m 9 #[.val (.int (1 : Int32))] [(.int (1 : Int32))])) (fun _ k => XS.iloadN X0.here hx rfl (hb hby d3_8) rfl k) ?_
  refine own_by (T' := s₁) (g' := (mkF m 10 #[.val (.int (1 : Int32))] [(.int (1 : Int32)), (.int (1 : Int32))])) (fun _ k => XS.iconst X0.here hx rfl (hb hby d3_9) k) ?_
  refine own_by (T' := s₁) (g' := (mkF m 13 #[.val (.int (1 : Int32))] [])) (fun _ k => XS.icmpNo X0.here hx rfl (hb hby d3_10) rfl (teq (by decide)).2 k) ?_
  obtain ⟨T21, X21, e21, st21⟩ := getS2 X0 hx hZ hown (host := "") (Or.inl (hw _ (List.mem_of_getElem? (i := 33) rfl))) Via.refl e0 S_DELETE_COLUMN (g := (mkF m 13 #[.val (.int (1 : Int32))] [])) rfl (hb hby d3_13)
  refine own_by (T' := T21) (g' := (mkF m 16 #[.val (.int (1 : Int32))] [(.ref a_DELETE_COLUMN)])) (fun _ k => st21 _ k) ?_
  refine own_ret X21 hlk (v := some (.ref a_DELETE_COLUMN)) (fun h => by rw [Bd.returns] at h; cases h) (fun fs hr => retOut X21 hx Bd.returns rfl (Or.inr (Or.inr (Or.inr (Or.inr ⟨rfl, rfl, rfl⟩)))) (hb hby d3_16) hr) ?_ (by decide) (by decide)
  rw [e21]
  exact ⟨rfl, N0, rfl⟩
theorem d3_4 : decode method_2_code 4 = .ok (.getstatic 7, 3) := by decide +kernel
theorem d3_7 : decode method_2_code 7 = .ok (.areturn, 1) := by decide +kernel
theorem ef_exp_0 (m : MethodId)  : entryFrame m #[(.int (0 : Int32))] 1 = mkF m 0 #[.val (.int (0 : Int32))] [] := by first | (simp [entryFrame, mkF, argsToLocals, Value.category]; done) | rfl
def Q_exp_0 (Z : State) (a_PUT : Addr) (h0 : Heap) (n0 : Nat) (v : Option Value) (h : Heap) (L : List Loc) : Prop := v = some (.ref a_PUT) ∧ Fr n0 L ∧ h = h0
set_option maxRecDepth 65536 in
set_option maxHeartbeats 40000000 in
theorem exp_0 (l : Launch) (Z : State) (a0 : Array Value) (hw : ∀ d ∈ tables_1, d.before a0 Z = true) (ws : List Jvm.Cond) (a_PUT : Addr) (h0 : Heap) (n0 : Nat) (Z0 : n0 ≤ h0.size) (S_PUT : Sta Z h0 "com/example/millrace/millrace/Cell$Type" "PUT" "Lcom/example/millrace/millrace/Cell$Type;" (.ref a_PUT)) :
    MetFree l (⟨"com/example/millrace/millrace/TypeOfPinLaw", "expected", "(B)Lcom/example/millrace/millrace/Cell$Type;"⟩ : MethodName) (head1 (Jvm.Cond.code (⟨"com/example/millrace/millrace/TypeOfPinLaw", "expected", "(B)Lcom/example/millrace/millrace/Cell$Type;"⟩ : MethodName) method_2_code 1 (some (.object "com/example/millrace/millrace/Cell$Type")) :: ws) ({ frames := 0, cells := 0, slots := 0, locals := 0 } : Room)) (fun zz UU => zz = #[(.int (0 : Int32))] ∧ Z.Warmed39 UU.vm ∧ UU.heap = h0) (fun _ _ _ _ _ => True) (fun _ U o U' => ∃ v L, o = .returned v ∧ Q_exp_0 Z a_PUT h0 n0 v U'.heap L ∧ FrameEnd U o U' L ({ frames := 0, cells := 0, slots := 0, locals := 0 } : Room).cells ({ frames := 0, cells := 0, slots := 0, locals := 0 } : Room).slots) := by
  refine MetFree.of_bodySF (plainFor_of_name pn_3) hisR ?_
  intro p e s m args below meth c s₁ Bd hml0 hP hK
  obtain ⟨rfl, hZ, hh⟩ := hP
  have hx := Bd.exec
  have hby := Bd.bytes
  have hml : c.maxLocals = 1 := hml0
  have hown : s.vm.findClass "com/example/millrace/millrace/TypeOfPinLaw" = some m.cls := findClass_of_methodNamed Bd.named
  have hnm := (name_of_methodNamed Bd.named Bd.method).1
  have hlk : meth.locks = false := BodyLoose.notSynchronized Bd
  have X0 : Stand p l e ({ frames := 0, cells := 0, slots := 0, locals := 0 } : Room) s m #[(.int (0 : Int32))] below meth c s₁ [] 0 0 := Stand.of_body Bd
  have e0 : s₁.heap = h0 := by rw [← hh, Bd.state]; rfl
  have N0 := Fr.nil n0
  show own_Go p.tables e below (Q_exp_0 Z a_PUT h0 n0) s ({ frames := 0, cells := 0, slots := 0, locals := 0 } : Room).cells ({ frames := 0, cells := 0, slots := 0, locals := 0 } : Room).slots s₁ (entryFrame m #[(.int (0 : Int32))] 1)
  rw [ef_exp_0 m ]
  refine own_by (T' := s₁) (g' := (mkF m 1 #[.val (.int (0 : Int32))] [(.int (0 : Int32))])) (fun _ k => XS.iloadN X0.here hx rfl (hb hby d3_0) rfl k) ?_
  refine own_by (T' := s₁) (g' := (mkF m 4 #[.val (.int (0 : Int32))] [])) (fun _ k => XS.ifNo X0.here hx rfl (hb hby d3_1) rfl ((if0 _ _).trans (teq (by decide)).2) k) ?_
  obtain ⟨T21, X21, e21, st21⟩ := getS2 X0 hx hZ hown (host := "") (Or.inl (hw _ (List.mem_of_getElem? (i := 29) rfl))) Via.refl e0 S_PUT (g := (mkF m 4 #[.val (.int (0 : Int32))] [])) rfl (hb hby d3_4)
  refine own_by (T' := T21) (g' := (mkF m 7 #[.val (.int (0 : Int32))] [(.ref a_PUT)])) (fun _ k => st21 _ k) ?_
  refine own_ret X21 hlk (v := some (.ref a_PUT)) (fun h => by rw [Bd.returns] at h; cases h) (fun fs hr => retOut X21 hx Bd.returns rfl (Or.inr (Or.inr (Or.inr (Or.inr ⟨rfl, rfl, rfl⟩)))) (hb hby d3_7) hr) ?_ (by decide) (by decide)
  rw [e21]
  exact ⟨rfl, N0, rfl⟩
theorem pn_0 : plainName "com/example/millrace/millrace/TypeOfPinLaw" = true := by first | (simp [plainName, overriddenIn]; done) | decide +kernel
theorem ef_rm0 (m : MethodId) (u : Int32) : entryFrame m #[(.int u)] maxLocals = mkF m 0 #[.val (.int u), .unset, .unset] [] := by first | (simp [entryFrame, mkF, argsToLocals, Value.category, maxLocals]; done) | rfl
def Q_rm0 (Z : State) (u : Int32) (va : Addr) (kv : ClassId) (a_DELETE_ROW : Addr) (a_DELETE_FAMILY : Addr) (a_DELETE_COLUMN : Addr) (a_PUT : Addr) (h0 : Heap) (n0 : Nat) (v : Option Value) (h : Heap) (L : List Loc) : Prop := v = some (.int 1) ∧ Fr n0 L
set_option maxRecDepth 65536 in
set_option maxHeartbeats 40000000 in
theorem rm0 (l : Launch) (Z : State) (a0 : Array Value) (hw : ∀ d ∈ tables_1, d.before a0 Z = true) (ws : List Jvm.Cond) (u : Int32) (va : Addr) (kv : ClassId) (a_DELETE_ROW : Addr) (a_DELETE_FAMILY : Addr) (a_DELETE_COLUMN : Addr) (a_PUT : Addr) (h0 : Heap) (n0 : Nat) (Z0 : n0 ≤ h0.size) (O0 : Old Z n0 h0) (S__VALUES : Sta Z Z.heap "com/example/millrace/millrace/Cell$Type" "$VALUES" "[Lcom/example/millrace/millrace/Cell$Type;" (.ref va)) (E_va : Exa Z Z.heap va "[Lcom/example/millrace/millrace/Cell$Type;") (V_va : Arv Z Z.heap va kv (.object "com/example/millrace/millrace/Cell$Type") (4 : Int32) [(.ref a_DELETE_ROW), (.ref a_DELETE_FAMILY), (.ref a_DELETE_COLUMN), (.ref a_PUT)] .null) (F_code_a_DELETE_ROW : Fld Z Z.heap a_DELETE_ROW "com/example/millrace/millrace/Cell$Type" "code" "B" (.int (3 : Int32))) (F_code_a_DELETE_FAMILY : Fld Z Z.heap a_DELETE_FAMILY "com/example/millrace/millrace/Cell$Type" "code" "B" (.int (2 : Int32))) (F_code_a_DELETE_COLUMN : Fld Z Z.heap a_DELETE_COLUMN "com/example/millrace/millrace/Cell$Type" "code" "B" (.int (1 : Int32))) (F_code_a_PUT : Fld Z Z.heap a_PUT "com/example/millrace/millrace/Cell$Type" "code" "B" (.int (0 : Int32))) (S_DELETE_ROW : Sta Z Z.heap "com/example/millrace/millrace/Cell$Type" "DELETE_ROW" "Lcom/example/millrace/millrace/Cell$Type;" (.ref a_DELETE_ROW)) (S_DELETE_FAMILY : Sta Z Z.heap "com/example/millrace/millrace/Cell$Type" "DELETE_FAMILY" "Lcom/example/millrace/millrace/Cell$Type;" (.ref a_DELETE_FAMILY)) (S_DELETE_COLUMN : Sta Z Z.heap "com/example/millrace/millrace/Cell$Type" "DELETE_COLUMN" "Lcom/example/millrace/millrace/Cell$Type;" (.ref a_DELETE_COLUMN)) (S_PUT : Sta Z Z.heap "com/example/millrace/millrace/Cell$Type" "PUT" "Lcom/example/millrace/millrace/Cell$Type;" (.ref a_PUT)) :
    MetFree l x (head1 (Jvm.Cond.code x code maxLocals ret :: ws) room_1) (fun zz UU => zz = #[(.int u)] ∧ Z.Warmed39 UU.vm ∧ UU.heap = h0) (fun _ _ _ _ _ => True) (fun _ U o U' => ∃ v L, o = .returned v ∧ Q_rm0 Z u va kv a_DELETE_ROW a_DELETE_FAMILY a_DELETE_COLUMN a_PUT h0 n0 v U'.heap L ∧ FrameEnd U o U' L 16 128) := by
  refine MetFree.of_bodySF (plainFor_of_name pn_0) hisR ?_
  intro p e s m args below meth c s₁ Bd hml0 hP hK
  obtain ⟨rfl, hZ, hh⟩ := hP
  have hx := Bd.exec
  have hby := Bd.bytes
  have hml : c.maxLocals = 3 := hml0
  have hown : s.vm.findClass "com/example/millrace/millrace/TypeOfPinLaw" = some m.cls := findClass_of_methodNamed Bd.named
  have hnm := (name_of_methodNamed Bd.named Bd.method).1
  have hlk : meth.locks = false := BodyLoose.notSynchronized Bd
  have X0 : Stand p l e room_1 s m #[(.int u)] below meth c s₁ [] 0 0 := Stand.of_body Bd
  have e0 : s₁.heap = h0 := by rw [← hh, Bd.state]; rfl
  have N0 := Fr.nil n0
  show own_Go p.tables e below (Q_rm0 Z u va kv a_DELETE_ROW a_DELETE_FAMILY a_DELETE_COLUMN a_PUT h0 n0) s 16 128 s₁ (entryFrame m #[(.int u)] maxLocals)
  rw [ef_rm0 m u]
  refine own_by (T' := s₁) (g' := (mkF m 1 #[.val (.int u), .unset, .unset] [(.int u)])) (fun _ k => XS.iloadN X0.here hx rfl (hb hby at_0) rfl k) ?_
  refine own_by (T' := s₁) (g' := (mkF m 2 #[.val (.int u), .unset, .unset] [(.int (3 : Int32)), (.int u)])) (fun _ k => XS.iconst X0.here hx rfl (hb hby at_1) k) ?_
  refine own_by (T' := s₁) (g' := (mkF m 3 #[.val (.int u), .unset, .unset] [(.int (u &&& (3 : Int32)))])) (fun _ k => XS.iand X0.here hx rfl (hb hby at_2) rfl k) ?_
  refine own_by (T' := s₁) (g' := (mkF m 4 #[.val (.int u), .unset, .unset] [(.int ((u &&& (3 : Int32)).toInt8.toInt32))])) (fun _ k => XS.i2b X0.here hx rfl (hb hby at_3) rfl k) ?_
  refine own_by (T' := s₁) (g' := (mkF m 5 #[.val (.int u), .val (.int ((u &&& (3 : Int32)).toInt8.toInt32)), .unset] [])) (fun _ k => XS.istoreN X0.here hx rfl (hb hby at_4) rfl (l' := #[.val (.int u), .val (.int ((u &&& (3 : Int32)).toInt8.toInt32)), .unset]) rfl k) ?_
  rcases own_b3 u with hq21 | hq21 | hq21 | hq21
  · skip
    rw [hq21]
    refine own_by (T' := s₁) (g' := (mkF m 6 #[.val (.int u), .val (.int (0 : Int32)), .unset] [(.int (0 : Int32))])) (fun _ k => XS.iloadN X0.here hx rfl (hb hby at_5) rfl k) ?_
    obtain ⟨_, _, ⟨T22, L22, k22, n22⟩, -, X22, ⟨Lc22, hQ22, l22, y22, z22⟩, st22⟩ := Jvm.LawKit.callS X0 hx (y := (⟨"com/example/millrace/millrace/Cell$Type", "of", "(B)Lcom/example/millrace/millrace/Cell$Type;"⟩ : MethodName)) hown (mvT hZ (hw _ (List.mem_of_getElem? (i := 0) rfl))) (mvT hZ (hw _ (List.mem_of_getElem? (i := 1) rfl))) (mvT hZ (hw _ (List.mem_of_getElem? (i := 2) rfl))) (mvT hZ (hw _ (List.mem_of_getElem? (i := 3) rfl))) (by decide) (backOf (W := 0) (of_0 l Z a0 hw []  va kv a_DELETE_ROW a_DELETE_FAMILY a_DELETE_COLUMN a_PUT h0 n0 Z0 (Sta.ext (O0).2 S__VALUES) (Exa.ext (O0).2 E_va) (Arv.ext V_va (O0).2) (Fld.ext (O0).2 F_code_a_DELETE_ROW) (Fld.ext (O0).2 F_code_a_DELETE_FAMILY) (Fld.ext (O0).2 F_code_a_DELETE_COLUMN) (Fld.ext (O0).2 F_code_a_PUT)) hZ (hw _ (List.mem_of_getElem? (i := 3) rfl)) (hw _ (List.mem_of_getElem? (i := 2) rfl)) (by decide) (by decide)) (g := (mkF m 6 #[.val (.int u), .val (.int (0 : Int32)), .unset] [(.int (0 : Int32))])) rfl (by rw [hml]; rfl) (argsL := [(.int (0 : Int32))]) (rest := []) (lenOf pd_1 rfl) rfl (by show 2 * 0 + _ ≤ _; exact Nat.le_of_eq rfl) (hb hby at_6) (fun _ _ => ⟨rfl, e0, (by decide : 0 + 1 ≤ _), (by decide : 0 + 4 ≤ _)⟩)
    dsimp only [Pt.U, Pt.locs, Pt.cells, Pt.slots] at X22 l22 y22 z22 st22 hQ22
    subst l22 y22 z22
    obtain ⟨rfl, N22q, K22⟩ := hQ22
    have N22 := Fr.app N0 N22q
    have KK22 : Keep h0 T22.heap [] := Keep.trans (Keep.refl h0 []) K22 all0
    refine own_by (T' := T22) (g' := (mkF m 9 #[.val (.int u), .val (.int (0 : Int32)), .unset] [(.ref a_PUT)])) (fun _ k => st22 _ k) ?_
    refine own_by (T' := T22) (g' := (mkF m 10 #[.val (.int u), .val (.int (0 : Int32)), .val (.ref a_PUT)] [])) (fun _ k => XS.astoreN X22.here hx rfl (hb hby at_9) rfl rfl (l' := #[.val (.int u), .val (.int (0 : Int32)), .val (.ref a_PUT)]) rfl k) ?_
    refine own_by (T' := T22) (g' := (mkF m 11 #[.val (.int u), .val (.int (0 : Int32)), .val (.ref a_PUT)] [(.ref a_PUT)])) (fun _ k => XS.aloadN X22.here hx rfl (hb hby at_10) rfl rfl k) ?_
    refine own_by (T' := T22) (g' := (mkF m 12 #[.val (.int u), .val (.int (0 : Int32)), .val (.ref a_PUT)] [(.int (0 : Int32)), (.ref a_PUT)])) (fun _ k => XS.iloadN X22.here hx rfl (hb hby at_11) rfl k) ?_
    obtain ⟨_, _, ⟨T23, L23, k23, n23⟩, -, X23, ⟨Lc23, hQ23, l23, y23, z23⟩, st23⟩ := Jvm.LawKit.callS X22 hx (y := (⟨"com/example/millrace/millrace/TypeOfPinLaw", "expected", "(B)Lcom/example/millrace/millrace/Cell$Type;"⟩ : MethodName)) hown (mvT hZ (hw _ (List.mem_of_getElem? (i := 25) rfl))) (mvT hZ (hw _ (List.mem_of_getElem? (i := 26) rfl))) (mvT hZ (hw _ (List.mem_of_getElem? (i := 27) rfl))) (mvT hZ (hw _ (List.mem_of_getElem? (i := 28) rfl))) (by decide) (backOf (W := 1) (exp_0 l Z a0 hw []  a_PUT T22.heap n0 (Nat.le_trans Z0 K22.1) (Sta.ext ((Old.keep O0 K22 all0)).2 S_PUT)) hZ (hw _ (List.mem_of_getElem? (i := 28) rfl)) (hw _ (List.mem_of_getElem? (i := 27) rfl)) (by decide) (by decide)) (g := (mkF m 12 #[.val (.int u), .val (.int (0 : Int32)), .val (.ref a_PUT)] [(.int (0 : Int32)), (.ref a_PUT)])) rfl (by rw [hml]; rfl) (argsL := [(.int (0 : Int32))]) (rest := [(.ref a_PUT)]) (lenOf pd_1 rfl) rfl (by show 2 * 0 + _ ≤ _; exact Nat.le_of_eq rfl) (hb hby at_12) (fun _ _ => ⟨rfl, rfl, (by decide : (0 + 1) + 0 ≤ _), (by decide : (0 + 4) + 0 ≤ _)⟩)
    dsimp only [Pt.U, Pt.locs, Pt.cells, Pt.slots] at X23 l23 y23 z23 st23 hQ23
    subst l23 y23 z23
    obtain ⟨rfl, N23q, e23⟩ := hQ23
    have N23 := Fr.app N22 N23q
    refine own_by (T' := T23) (g' := (mkF m 15 #[.val (.int u), .val (.int (0 : Int32)), .val (.ref a_PUT)] [(.ref a_PUT), (.ref a_PUT)])) (fun _ k => st23 _ k) ?_
    refine own_by (T' := T23) (g' := (mkF m 18 #[.val (.int u), .val (.int (0 : Int32)), .val (.ref a_PUT)] [])) (fun _ k => Jvm.RoadKit.acmp (g := (mkF m 15 #[.val (.int u), .val (.int (0 : Int32)), .val (.ref a_PUT)] [(.ref a_PUT), (.ref a_PUT)])) X23 hx rfl rfl rfl (pc0 := 15) (pc' := 18) (same := true) rfl (hb hby at_15) rfl (decide_eq_true rfl) (by decide) (by decide) k) ?_
    refine own_by (T' := T23) (g' := (mkF m 19 #[.val (.int u), .val (.int (0 : Int32)), .val (.ref a_PUT)] [(.ref a_PUT)])) (fun _ k => XS.aloadN X23.here hx rfl (hb hby at_18) rfl rfl k) ?_
    obtain ⟨T24, X24, e24, st24⟩ := getF X23 hx hZ hown (host := "") (Or.inl (hw _ (List.mem_of_getElem? (i := 30) rfl))) Via.refl e23 (Fld.ext ((Old.keep O0 K22 all0)).2 F_code_a_PUT) (g := (mkF m 19 #[.val (.int u), .val (.int (0 : Int32)), .val (.ref a_PUT)] [(.ref a_PUT)])) rfl rfl (hb hby at_19)
    refine own_by (T' := T24) (g' := (mkF m 22 #[.val (.int u), .val (.int (0 : Int32)), .val (.ref a_PUT)] [(.int (0 : Int32))])) (fun _ k => st24 _ k) ?_
    refine own_by (T' := T24) (g' := (mkF m 23 #[.val (.int u), .val (.int (0 : Int32)), .val (.ref a_PUT)] [(.int (0 : Int32)), (.int (0 : Int32))])) (fun _ k => XS.iloadN X24.here hx rfl (hb hby at_22) rfl k) ?_
    refine own_by (T' := T24) (g' := (mkF m 26 #[.val (.int u), .val (.int (0 : Int32)), .val (.ref a_PUT)] [])) (fun _ k => XS.icmpNo X24.here hx rfl (hb hby at_23) rfl (teq (by decide)).2 k) ?_
    refine own_by (T' := T24) (g' := (mkF m 27 #[.val (.int u), .val (.int (0 : Int32)), .val (.ref a_PUT)] [(.int (1 : Int32))])) (fun _ k => XS.iconst X24.here hx rfl (hb hby at_26) k) ?_
    refine own_by (T' := T24) (g' := (mkF m 31 #[.val (.int u), .val (.int (0 : Int32)), .val (.ref a_PUT)] [(.int (1 : Int32))])) (fun _ k => XS.goto X24.here hx rfl (pc0 := 27) (pc' := 31) rfl (hb hby at_27) (by decide) (by decide) k) ?_
    refine own_ret X24 hlk (v := some (.int (1 : Int32))) (fun h => by rw [Bd.returns] at h; cases h) (fun fs hr => retN X24 hx (t := .boolean) Bd.returns (by simp) (hb hby at_31) hr) ?_ (by decide) (by decide)
    rw [e24]
    exact ⟨rfl, N23⟩
  · skip
    rw [hq21]
    refine own_by (T' := s₁) (g' := (mkF m 6 #[.val (.int u), .val (.int (1 : Int32)), .unset] [(.int (1 : Int32))])) (fun _ k => XS.iloadN X0.here hx rfl (hb hby at_5) rfl k) ?_
    obtain ⟨_, _, ⟨T25, L25, k25, n25⟩, -, X25, ⟨Lc25, hQ25, l25, y25, z25⟩, st25⟩ := Jvm.LawKit.callS X0 hx (y := (⟨"com/example/millrace/millrace/Cell$Type", "of", "(B)Lcom/example/millrace/millrace/Cell$Type;"⟩ : MethodName)) hown (mvT hZ (hw _ (List.mem_of_getElem? (i := 0) rfl))) (mvT hZ (hw _ (List.mem_of_getElem? (i := 1) rfl))) (mvT hZ (hw _ (List.mem_of_getElem? (i := 2) rfl))) (mvT hZ (hw _ (List.mem_of_getElem? (i := 3) rfl))) (by decide) (backOf (W := 0) (of_1 l Z a0 hw []  va kv a_DELETE_ROW a_DELETE_FAMILY a_DELETE_COLUMN a_PUT h0 n0 Z0 (Sta.ext (O0).2 S__VALUES) (Exa.ext (O0).2 E_va) (Arv.ext V_va (O0).2) (Fld.ext (O0).2 F_code_a_DELETE_ROW) (Fld.ext (O0).2 F_code_a_DELETE_FAMILY) (Fld.ext (O0).2 F_code_a_DELETE_COLUMN) (Fld.ext (O0).2 F_code_a_PUT)) hZ (hw _ (List.mem_of_getElem? (i := 3) rfl)) (hw _ (List.mem_of_getElem? (i := 2) rfl)) (by decide) (by decide)) (g := (mkF m 6 #[.val (.int u), .val (.int (1 : Int32)), .unset] [(.int (1 : Int32))])) rfl (by rw [hml]; rfl) (argsL := [(.int (1 : Int32))]) (rest := []) (lenOf pd_1 rfl) rfl (by show 2 * 0 + _ ≤ _; exact Nat.le_of_eq rfl) (hb hby at_6) (fun _ _ => ⟨rfl, e0, (by decide : 0 + 1 ≤ _), (by decide : 0 + 4 ≤ _)⟩)
    dsimp only [Pt.U, Pt.locs, Pt.cells, Pt.slots] at X25 l25 y25 z25 st25 hQ25
    subst l25 y25 z25
    obtain ⟨rfl, N25q, K25⟩ := hQ25
    have N25 := Fr.app N0 N25q
    have KK25 : Keep h0 T25.heap [] := Keep.trans (Keep.refl h0 []) K25 all0
    refine own_by (T' := T25) (g' := (mkF m 9 #[.val (.int u), .val (.int (1 : Int32)), .unset] [(.ref a_DELETE_COLUMN)])) (fun _ k => st25 _ k) ?_
    refine own_by (T' := T25) (g' := (mkF m 10 #[.val (.int u), .val (.int (1 : Int32)), .val (.ref a_DELETE_COLUMN)] [])) (fun _ k => XS.astoreN X25.here hx rfl (hb hby at_9) rfl rfl (l' := #[.val (.int u), .val (.int (1 : Int32)), .val (.ref a_DELETE_COLUMN)]) rfl k) ?_
    refine own_by (T' := T25) (g' := (mkF m 11 #[.val (.int u), .val (.int (1 : Int32)), .val (.ref a_DELETE_COLUMN)] [(.ref a_DELETE_COLUMN)])) (fun _ k => XS.aloadN X25.here hx rfl (hb hby at_10) rfl rfl k) ?_
    refine own_by (T' := T25) (g' := (mkF m 12 #[.val (.int u), .val (.int (1 : Int32)), .val (.ref a_DELETE_COLUMN)] [(.int (1 : Int32)), (.ref a_DELETE_COLUMN)])) (fun _ k => XS.iloadN X25.here hx rfl (hb hby at_11) rfl k) ?_
    obtain ⟨_, _, ⟨T26, L26, k26, n26⟩, -, X26, ⟨Lc26, hQ26, l26, y26, z26⟩, st26⟩ := Jvm.LawKit.callS X25 hx (y := (⟨"com/example/millrace/millrace/TypeOfPinLaw", "expected", "(B)Lcom/example/millrace/millrace/Cell$Type;"⟩ : MethodName)) hown (mvT hZ (hw _ (List.mem_of_getElem? (i := 25) rfl))) (mvT hZ (hw _ (List.mem_of_getElem? (i := 26) rfl))) (mvT hZ (hw _ (List.mem_of_getElem? (i := 27) rfl))) (mvT hZ (hw _ (List.mem_of_getElem? (i := 28) rfl))) (by decide) (backOf (W := 1) (exp_1 l Z a0 hw []  a_DELETE_COLUMN T25.heap n0 (Nat.le_trans Z0 K25.1) (Sta.ext ((Old.keep O0 K25 all0)).2 S_DELETE_COLUMN)) hZ (hw _ (List.mem_of_getElem? (i := 28) rfl)) (hw _ (List.mem_of_getElem? (i := 27) rfl)) (by decide) (by decide)) (g := (mkF m 12 #[.val (.int u), .val (.int (1 : Int32)), .val (.ref a_DELETE_COLUMN)] [(.int (1 : Int32)), (.ref a_DELETE_COLUMN)])) rfl (by rw [hml]; rfl) (argsL := [(.int (1 : Int32))]) (rest := [(.ref a_DELETE_COLUMN)]) (lenOf pd_1 rfl) rfl (by show 2 * 0 + _ ≤ _; exact Nat.le_of_eq rfl) (hb hby at_12) (fun _ _ => ⟨rfl, rfl, (by decide : (0 + 1) + 0 ≤ _), (by decide : (0 + 4) + 0 ≤ _)⟩)
    dsimp only [Pt.U, Pt.locs, Pt.cells, Pt.slots] at X26 l26 y26 z26 st26 hQ26
    subst l26 y26 z26
    obtain ⟨rfl, N26q, e26⟩ := hQ26
    have N26 := Fr.app N25 N26q
    refine own_by (T' := T26) (g' := (mkF m 15 #[.val (.int u), .val (.int (1 : Int32)), .val (.ref a_DELETE_COLUMN)] [(.ref a_DELETE_COLUMN), (.ref a_DELETE_COLUMN)])) (fun _ k => st26 _ k) ?_
    refine own_by (T' := T26) (g' := (mkF m 18 #[.val (.int u), .val (.int (1 : Int32)), .val (.ref a_DELETE_COLUMN)] [])) (fun _ k => Jvm.RoadKit.acmp (g := (mkF m 15 #[.val (.int u), .val (.int (1 : Int32)), .val (.ref a_DELETE_COLUMN)] [(.ref a_DELETE_COLUMN), (.ref a_DELETE_COLUMN)])) X26 hx rfl rfl rfl (pc0 := 15) (pc' := 18) (same := true) rfl (hb hby at_15) rfl (decide_eq_true rfl) (by decide) (by decide) k) ?_
    refine own_by (T' := T26) (g' := (mkF m 19 #[.val (.int u), .val (.int (1 : Int32)), .val (.ref a_DELETE_COLUMN)] [(.ref a_DELETE_COLUMN)])) (fun _ k => XS.aloadN X26.here hx rfl (hb hby at_18) rfl rfl k) ?_
    obtain ⟨T27, X27, e27, st27⟩ := getF X26 hx hZ hown (host := "") (Or.inl (hw _ (List.mem_of_getElem? (i := 30) rfl))) Via.refl e26 (Fld.ext ((Old.keep O0 K25 all0)).2 F_code_a_DELETE_COLUMN) (g := (mkF m 19 #[.val (.int u), .val (.int (1 : Int32)), .val (.ref a_DELETE_COLUMN)] [(.ref a_DELETE_COLUMN)])) rfl rfl (hb hby at_19)
    refine own_by (T' := T27) (g' := (mkF m 22 #[.val (.int u), .val (.int (1 : Int32)), .val (.ref a_DELETE_COLUMN)] [(.int (1 : Int32))])) (fun _ k => st27 _ k) ?_
    refine own_by (T' := T27) (g' := (mkF m 23 #[.val (.int u), .val (.int (1 : Int32)), .val (.ref a_DELETE_COLUMN)] [(.int (1 : Int32)), (.int (1 : Int32))])) (fun _ k => XS.iloadN X27.here hx rfl (hb hby at_22) rfl k) ?_
    refine own_by (T' := T27) (g' := (mkF m 26 #[.val (.int u), .val (.int (1 : Int32)), .val (.ref a_DELETE_COLUMN)] [])) (fun _ k => XS.icmpNo X27.here hx rfl (hb hby at_23) rfl (teq (by decide)).2 k) ?_
    refine own_by (T' := T27) (g' := (mkF m 27 #[.val (.int u), .val (.int (1 : Int32)), .val (.ref a_DELETE_COLUMN)] [(.int (1 : Int32))])) (fun _ k => XS.iconst X27.here hx rfl (hb hby at_26) k) ?_
    refine own_by (T' := T27) (g' := (mkF m 31 #[.val (.int u), .val (.int (1 : Int32)), .val (.ref a_DELETE_COLUMN)] [(.int (1 : Int32))])) (fun _ k => XS.goto X27.here hx rfl (pc0 := 27) (pc' := 31) rfl (hb hby at_27) (by decide) (by decide) k) ?_
    refine own_ret X27 hlk (v := some (.int (1 : Int32))) (fun h => by rw [Bd.returns] at h; cases h) (fun fs hr => retN X27 hx (t := .boolean) Bd.returns (by simp) (hb hby at_31) hr) ?_ (by decide) (by decide)
    rw [e27]
    exact ⟨rfl, N26⟩
  · skip
    rw [hq21]
    refine own_by (T' := s₁) (g' := (mkF m 6 #[.val (.int u), .val (.int (2 : Int32)), .unset] [(.int (2 : Int32))])) (fun _ k => XS.iloadN X0.here hx rfl (hb hby at_5) rfl k) ?_
    obtain ⟨_, _, ⟨T28, L28, k28, n28⟩, -, X28, ⟨Lc28, hQ28, l28, y28, z28⟩, st28⟩ := Jvm.LawKit.callS X0 hx (y := (⟨"com/example/millrace/millrace/Cell$Type", "of", "(B)Lcom/example/millrace/millrace/Cell$Type;"⟩ : MethodName)) hown (mvT hZ (hw _ (List.mem_of_getElem? (i := 0) rfl))) (mvT hZ (hw _ (List.mem_of_getElem? (i := 1) rfl))) (mvT hZ (hw _ (List.mem_of_getElem? (i := 2) rfl))) (mvT hZ (hw _ (List.mem_of_getElem? (i := 3) rfl))) (by decide) (backOf (W := 0) (of_2 l Z a0 hw []  va kv a_DELETE_ROW a_DELETE_FAMILY a_DELETE_COLUMN a_PUT h0 n0 Z0 (Sta.ext (O0).2 S__VALUES) (Exa.ext (O0).2 E_va) (Arv.ext V_va (O0).2) (Fld.ext (O0).2 F_code_a_DELETE_ROW) (Fld.ext (O0).2 F_code_a_DELETE_FAMILY) (Fld.ext (O0).2 F_code_a_DELETE_COLUMN) (Fld.ext (O0).2 F_code_a_PUT)) hZ (hw _ (List.mem_of_getElem? (i := 3) rfl)) (hw _ (List.mem_of_getElem? (i := 2) rfl)) (by decide) (by decide)) (g := (mkF m 6 #[.val (.int u), .val (.int (2 : Int32)), .unset] [(.int (2 : Int32))])) rfl (by rw [hml]; rfl) (argsL := [(.int (2 : Int32))]) (rest := []) (lenOf pd_1 rfl) rfl (by show 2 * 0 + _ ≤ _; exact Nat.le_of_eq rfl) (hb hby at_6) (fun _ _ => ⟨rfl, e0, (by decide : 0 + 1 ≤ _), (by decide : 0 + 4 ≤ _)⟩)
    dsimp only [Pt.U, Pt.locs, Pt.cells, Pt.slots] at X28 l28 y28 z28 st28 hQ28
    subst l28 y28 z28
    obtain ⟨rfl, N28q, K28⟩ := hQ28
    have N28 := Fr.app N0 N28q
    have KK28 : Keep h0 T28.heap [] := Keep.trans (Keep.refl h0 []) K28 all0
    refine own_by (T' := T28) (g' := (mkF m 9 #[.val (.int u), .val (.int (2 : Int32)), .unset] [(.ref a_DELETE_FAMILY)])) (fun _ k => st28 _ k) ?_
    refine own_by (T' := T28) (g' := (mkF m 10 #[.val (.int u), .val (.int (2 : Int32)), .val (.ref a_DELETE_FAMILY)] [])) (fun _ k => XS.astoreN X28.here hx rfl (hb hby at_9) rfl rfl (l' := #[.val (.int u), .val (.int (2 : Int32)), .val (.ref a_DELETE_FAMILY)]) rfl k) ?_
    refine own_by (T' := T28) (g' := (mkF m 11 #[.val (.int u), .val (.int (2 : Int32)), .val (.ref a_DELETE_FAMILY)] [(.ref a_DELETE_FAMILY)])) (fun _ k => XS.aloadN X28.here hx rfl (hb hby at_10) rfl rfl k) ?_
    refine own_by (T' := T28) (g' := (mkF m 12 #[.val (.int u), .val (.int (2 : Int32)), .val (.ref a_DELETE_FAMILY)] [(.int (2 : Int32)), (.ref a_DELETE_FAMILY)])) (fun _ k => XS.iloadN X28.here hx rfl (hb hby at_11) rfl k) ?_
    obtain ⟨_, _, ⟨T29, L29, k29, n29⟩, -, X29, ⟨Lc29, hQ29, l29, y29, z29⟩, st29⟩ := Jvm.LawKit.callS X28 hx (y := (⟨"com/example/millrace/millrace/TypeOfPinLaw", "expected", "(B)Lcom/example/millrace/millrace/Cell$Type;"⟩ : MethodName)) hown (mvT hZ (hw _ (List.mem_of_getElem? (i := 25) rfl))) (mvT hZ (hw _ (List.mem_of_getElem? (i := 26) rfl))) (mvT hZ (hw _ (List.mem_of_getElem? (i := 27) rfl))) (mvT hZ (hw _ (List.mem_of_getElem? (i := 28) rfl))) (by decide) (backOf (W := 1) (exp_2 l Z a0 hw []  a_DELETE_FAMILY T28.heap n0 (Nat.le_trans Z0 K28.1) (Sta.ext ((Old.keep O0 K28 all0)).2 S_DELETE_FAMILY)) hZ (hw _ (List.mem_of_getElem? (i := 28) rfl)) (hw _ (List.mem_of_getElem? (i := 27) rfl)) (by decide) (by decide)) (g := (mkF m 12 #[.val (.int u), .val (.int (2 : Int32)), .val (.ref a_DELETE_FAMILY)] [(.int (2 : Int32)), (.ref a_DELETE_FAMILY)])) rfl (by rw [hml]; rfl) (argsL := [(.int (2 : Int32))]) (rest := [(.ref a_DELETE_FAMILY)]) (lenOf pd_1 rfl) rfl (by show 2 * 0 + _ ≤ _; exact Nat.le_of_eq rfl) (hb hby at_12) (fun _ _ => ⟨rfl, rfl, (by decide : (0 + 1) + 0 ≤ _), (by decide : (0 + 4) + 0 ≤ _)⟩)
    dsimp only [Pt.U, Pt.locs, Pt.cells, Pt.slots] at X29 l29 y29 z29 st29 hQ29
    subst l29 y29 z29
    obtain ⟨rfl, N29q, e29⟩ := hQ29
    have N29 := Fr.app N28 N29q
    refine own_by (T' := T29) (g' := (mkF m 15 #[.val (.int u), .val (.int (2 : Int32)), .val (.ref a_DELETE_FAMILY)] [(.ref a_DELETE_FAMILY), (.ref a_DELETE_FAMILY)])) (fun _ k => st29 _ k) ?_
    refine own_by (T' := T29) (g' := (mkF m 18 #[.val (.int u), .val (.int (2 : Int32)), .val (.ref a_DELETE_FAMILY)] [])) (fun _ k => Jvm.RoadKit.acmp (g := (mkF m 15 #[.val (.int u), .val (.int (2 : Int32)), .val (.ref a_DELETE_FAMILY)] [(.ref a_DELETE_FAMILY), (.ref a_DELETE_FAMILY)])) X29 hx rfl rfl rfl (pc0 := 15) (pc' := 18) (same := true) rfl (hb hby at_15) rfl (decide_eq_true rfl) (by decide) (by decide) k) ?_
    refine own_by (T' := T29) (g' := (mkF m 19 #[.val (.int u), .val (.int (2 : Int32)), .val (.ref a_DELETE_FAMILY)] [(.ref a_DELETE_FAMILY)])) (fun _ k => XS.aloadN X29.here hx rfl (hb hby at_18) rfl rfl k) ?_
    obtain ⟨T30, X30, e30, st30⟩ := getF X29 hx hZ hown (host := "") (Or.inl (hw _ (List.mem_of_getElem? (i := 30) rfl))) Via.refl e29 (Fld.ext ((Old.keep O0 K28 all0)).2 F_code_a_DELETE_FAMILY) (g := (mkF m 19 #[.val (.int u), .val (.int (2 : Int32)), .val (.ref a_DELETE_FAMILY)] [(.ref a_DELETE_FAMILY)])) rfl rfl (hb hby at_19)
    refine own_by (T' := T30) (g' := (mkF m 22 #[.val (.int u), .val (.int (2 : Int32)), .val (.ref a_DELETE_FAMILY)] [(.int (2 : Int32))])) (fun _ k => st30 _ k) ?_
    refine own_by (T' := T30) (g' := (mkF m 23 #[.val (.int u), .val (.int (2 : Int32)), .val (.ref a_DELETE_FAMILY)] [(.int (2 : Int32)), (.int (2 : Int32))])) (fun _ k => XS.iloadN X30.here hx rfl (hb hby at_22) rfl k) ?_
    refine own_by (T' := T30) (g' := (mkF m 26 #[.val (.int u), .val (.int (2 : Int32)), .val (.ref a_DELETE_FAMILY)] [])) (fun _ k => XS.icmpNo X30.here hx rfl (hb hby at_23) rfl (teq (by decide)).2 k) ?_
    refine own_by (T' := T30) (g' := (mkF m 27 #[.val (.int u), .val (.int (2 : Int32)), .val (.ref a_DELETE_FAMILY)] [(.int (1 : Int32))])) (fun _ k => XS.iconst X30.here hx rfl (hb hby at_26) k) ?_
    refine own_by (T' := T30) (g' := (mkF m 31 #[.val (.int u), .val (.int (2 : Int32)), .val (.ref a_DELETE_FAMILY)] [(.int (1 : Int32))])) (fun _ k => XS.goto X30.here hx rfl (pc0 := 27) (pc' := 31) rfl (hb hby at_27) (by decide) (by decide) k) ?_
    refine own_ret X30 hlk (v := some (.int (1 : Int32))) (fun h => by rw [Bd.returns] at h; cases h) (fun fs hr => retN X30 hx (t := .boolean) Bd.returns (by simp) (hb hby at_31) hr) ?_ (by decide) (by decide)
    rw [e30]
    exact ⟨rfl, N29⟩
  · skip
    rw [hq21]
    refine own_by (T' := s₁) (g' := (mkF m 6 #[.val (.int u), .val (.int (3 : Int32)), .unset] [(.int (3 : Int32))])) (fun _ k => XS.iloadN X0.here hx rfl (hb hby at_5) rfl k) ?_
    obtain ⟨_, _, ⟨T31, L31, k31, n31⟩, -, X31, ⟨Lc31, hQ31, l31, y31, z31⟩, st31⟩ := Jvm.LawKit.callS X0 hx (y := (⟨"com/example/millrace/millrace/Cell$Type", "of", "(B)Lcom/example/millrace/millrace/Cell$Type;"⟩ : MethodName)) hown (mvT hZ (hw _ (List.mem_of_getElem? (i := 0) rfl))) (mvT hZ (hw _ (List.mem_of_getElem? (i := 1) rfl))) (mvT hZ (hw _ (List.mem_of_getElem? (i := 2) rfl))) (mvT hZ (hw _ (List.mem_of_getElem? (i := 3) rfl))) (by decide) (backOf (W := 0) (of_3 l Z a0 hw []  va kv a_DELETE_ROW a_DELETE_FAMILY a_DELETE_COLUMN a_PUT h0 n0 Z0 (Sta.ext (O0).2 S__VALUES) (Exa.ext (O0).2 E_va) (Arv.ext V_va (O0).2) (Fld.ext (O0).2 F_code_a_DELETE_ROW) (Fld.ext (O0).2 F_code_a_DELETE_FAMILY) (Fld.ext (O0).2 F_code_a_DELETE_COLUMN) (Fld.ext (O0).2 F_code_a_PUT)) hZ (hw _ (List.mem_of_getElem? (i := 3) rfl)) (hw _ (List.mem_of_getElem? (i := 2) rfl)) (by decide) (by decide)) (g := (mkF m 6 #[.val (.int u), .val (.int (3 : Int32)), .unset] [(.int (3 : Int32))])) rfl (by rw [hml]; rfl) (argsL := [(.int (3 : Int32))]) (rest := []) (lenOf pd_1 rfl) rfl (by show 2 * 0 + _ ≤ _; exact Nat.le_of_eq rfl) (hb hby at_6) (fun _ _ => ⟨rfl, e0, (by decide : 0 + 1 ≤ _), (by decide : 0 + 4 ≤ _)⟩)
    dsimp only [Pt.U, Pt.locs, Pt.cells, Pt.slots] at X31 l31 y31 z31 st31 hQ31
    subst l31 y31 z31
    obtain ⟨rfl, N31q, K31⟩ := hQ31
    have N31 := Fr.app N0 N31q
    have KK31 : Keep h0 T31.heap [] := Keep.trans (Keep.refl h0 []) K31 all0
    refine own_by (T' := T31) (g' := (mkF m 9 #[.val (.int u), .val (.int (3 : Int32)), .unset] [(.ref a_DELETE_ROW)])) (fun _ k => st31 _ k) ?_
    refine own_by (T' := T31) (g' := (mkF m 10 #[.val (.int u), .val (.int (3 : Int32)), .val (.ref a_DELETE_ROW)] [])) (fun _ k => XS.astoreN X31.here hx rfl (hb hby at_9) rfl rfl (l' := #[.val (.int u), .val (.int (3 : Int32)), .val (.ref a_DELETE_ROW)]) rfl k) ?_
    refine own_by (T' := T31) (g' := (mkF m 11 #[.val (.int u), .val (.int (3 : Int32)), .val (.ref a_DELETE_ROW)] [(.ref a_DELETE_ROW)])) (fun _ k => XS.aloadN X31.here hx rfl (hb hby at_10) rfl rfl k) ?_
    refine own_by (T' := T31) (g' := (mkF m 12 #[.val (.int u), .val (.int (3 : Int32)), .val (.ref a_DELETE_ROW)] [(.int (3 : Int32)), (.ref a_DELETE_ROW)])) (fun _ k => XS.iloadN X31.here hx rfl (hb hby at_11) rfl k) ?_
    obtain ⟨_, _, ⟨T32, L32, k32, n32⟩, -, X32, ⟨Lc32, hQ32, l32, y32, z32⟩, st32⟩ := Jvm.LawKit.callS X31 hx (y := (⟨"com/example/millrace/millrace/TypeOfPinLaw", "expected", "(B)Lcom/example/millrace/millrace/Cell$Type;"⟩ : MethodName)) hown (mvT hZ (hw _ (List.mem_of_getElem? (i := 25) rfl))) (mvT hZ (hw _ (List.mem_of_getElem? (i := 26) rfl))) (mvT hZ (hw _ (List.mem_of_getElem? (i := 27) rfl))) (mvT hZ (hw _ (List.mem_of_getElem? (i := 28) rfl))) (by decide) (backOf (W := 1) (exp_3 l Z a0 hw []  a_DELETE_ROW T31.heap n0 (Nat.le_trans Z0 K31.1) (Sta.ext ((Old.keep O0 K31 all0)).2 S_DELETE_ROW)) hZ (hw _ (List.mem_of_getElem? (i := 28) rfl)) (hw _ (List.mem_of_getElem? (i := 27) rfl)) (by decide) (by decide)) (g := (mkF m 12 #[.val (.int u), .val (.int (3 : Int32)), .val (.ref a_DELETE_ROW)] [(.int (3 : Int32)), (.ref a_DELETE_ROW)])) rfl (by rw [hml]; rfl) (argsL := [(.int (3 : Int32))]) (rest := [(.ref a_DELETE_ROW)]) (lenOf pd_1 rfl) rfl (by show 2 * 0 + _ ≤ _; exact Nat.le_of_eq rfl) (hb hby at_12) (fun _ _ => ⟨rfl, rfl, (by decide : (0 + 1) + 0 ≤ _), (by decide : (0 + 4) + 0 ≤ _)⟩)
    dsimp only [Pt.U, Pt.locs, Pt.cells, Pt.slots] at X32 l32 y32 z32 st32 hQ32
    subst l32 y32 z32
    obtain ⟨rfl, N32q, e32⟩ := hQ32
    have N32 := Fr.app N31 N32q
    refine own_by (T' := T32) (g' := (mkF m 15 #[.val (.int u), .val (.int (3 : Int32)), .val (.ref a_DELETE_ROW)] [(.ref a_DELETE_ROW), (.ref a_DELETE_ROW)])) (fun _ k => st32 _ k) ?_
    refine own_by (T' := T32) (g' := (mkF m 18 #[.val (.int u), .val (.int (3 : Int32)), .val (.ref a_DELETE_ROW)] [])) (fun _ k => Jvm.RoadKit.acmp (g := (mkF m 15 #[.val (.int u), .val (.int (3 : Int32)), .val (.ref a_DELETE_ROW)] [(.ref a_DELETE_ROW), (.ref a_DELETE_ROW)])) X32 hx rfl rfl rfl (pc0 := 15) (pc' := 18) (same := true) rfl (hb hby at_15) rfl (decide_eq_true rfl) (by decide) (by decide) k) ?_
    refine own_by (T' := T32) (g' := (mkF m 19 #[.val (.int u), .val (.int (3 : Int32)), .val (.ref a_DELETE_ROW)] [(.ref a_DELETE_ROW)])) (fun _ k => XS.aloadN X32.here hx rfl (hb hby at_18) rfl rfl k) ?_
    obtain ⟨T33, X33, e33, st33⟩ := getF X32 hx hZ hown (host := "") (Or.inl (hw _ (List.mem_of_getElem? (i := 30) rfl))) Via.refl e32 (Fld.ext ((Old.keep O0 K31 all0)).2 F_code_a_DELETE_ROW) (g := (mkF m 19 #[.val (.int u), .val (.int (3 : Int32)), .val (.ref a_DELETE_ROW)] [(.ref a_DELETE_ROW)])) rfl rfl (hb hby at_19)
    refine own_by (T' := T33) (g' := (mkF m 22 #[.val (.int u), .val (.int (3 : Int32)), .val (.ref a_DELETE_ROW)] [(.int (3 : Int32))])) (fun _ k => st33 _ k) ?_
    refine own_by (T' := T33) (g' := (mkF m 23 #[.val (.int u), .val (.int (3 : Int32)), .val (.ref a_DELETE_ROW)] [(.int (3 : Int32)), (.int (3 : Int32))])) (fun _ k => XS.iloadN X33.here hx rfl (hb hby at_22) rfl k) ?_
    refine own_by (T' := T33) (g' := (mkF m 26 #[.val (.int u), .val (.int (3 : Int32)), .val (.ref a_DELETE_ROW)] [])) (fun _ k => XS.icmpNo X33.here hx rfl (hb hby at_23) rfl (teq (by decide)).2 k) ?_
    refine own_by (T' := T33) (g' := (mkF m 27 #[.val (.int u), .val (.int (3 : Int32)), .val (.ref a_DELETE_ROW)] [(.int (1 : Int32))])) (fun _ k => XS.iconst X33.here hx rfl (hb hby at_26) k) ?_
    refine own_by (T' := T33) (g' := (mkF m 31 #[.val (.int u), .val (.int (3 : Int32)), .val (.ref a_DELETE_ROW)] [(.int (1 : Int32))])) (fun _ k => XS.goto X33.here hx rfl (pc0 := 27) (pc' := 31) rfl (hb hby at_27) (by decide) (by decide) k) ?_
    refine own_ret X33 hlk (v := some (.int (1 : Int32))) (fun h => by rw [Bd.returns] at h; cases h) (fun fs hr => retN X33 hx (t := .boolean) Bd.returns (by simp) (hb hby at_31) hr) ?_ (by decide) (by decide)
    rw [e33]
    exact ⟨rfl, N32⟩
set_option maxRecDepth 65536 in
set_option maxHeartbeats 40000000 in
theorem comes_1 {Post : Tables → Env → Array Value → State → Outcome → State → Prop} (hpost : ∀ tb e args s v u, (limb_1_1.after args s (.returned v) u = true ∧ limb_1_2.after args s (.returned v) u = true ∧ True) → FrameEnd s (.returned v) u (Jvm.fieldLocs frame_1_writes args s ++ Jvm.arrayLocs frame_1_arrays args s ++ Jvm.staticLocs frame_1_statics s) 16 128 → Post tb e args s (.returned v) u) :
    ArmFor flags0 classFile x code maxLocals ret World_1 tables_1 room_1 Calls_1 rest_1 Pre_1 Post := by
  intro l hfl _ _ p e ha hc hk s m args below hf hA hF happ hP
  obtain ⟨hcalls, hrest, hpre⟩ := hP
  obtain ⟨-, -, -, hnamed, -, -, -, hat⟩ := (Spec.applies_iff hf).mp happ
  obtain ⟨hg, hn⟩ := and_e (Cond.before_iff.mp (show (Jvm.Cond.and given_1 narrow_1).before args s = true from hpre))
  obtain ⟨g1, g2⟩ := and_e hg
  obtain ⟨w0, rfl⟩ : ∃ w0 : Value, args = #[w0] := by
    have hs : args.size = 1 := by simpa [Cond.value, given_1] using g1
    obtain ⟨L⟩ := args
    match L, hs with
    | [w0], _ => exact ⟨w0, rfl⟩
  have hw := fun d (hd : d ∈ tables_1) => atoms_spec (ws := Jvm.Cond.code x code maxLocals ret :: tables_1) hat d (List.mem_cons_of_mem _ hd)
  have hfit : Fit s := fun {y c} hc i hi => by
    obtain ⟨ha, rfl⟩ := Array.getElem?_eq_some_iff.mp hc
    have q := List.all_eq_true.mp ((Array.all_eq_true_iff_forall_mem.mp hF) _ (Array.getElem_mem ha)) i (List.mem_range.mpr hi)
    simpa [Array.getElem?_eq_getElem hi] using q
  obtain ⟨i0, ei0⟩ := is_v g2
  obtain rfl : w0 = (.int i0) := Option.some.inj ei0
  obtain ⟨n1, n2⟩ := and_e hn
  obtain ⟨n3, n4⟩ := and_e n2
  obtain ⟨n5, n6⟩ := and_e n4
  obtain ⟨n7, n8⟩ := and_e n6
  obtain ⟨n9, n10⟩ := and_e n8
  obtain ⟨n11, n12⟩ := and_e n10
  obtain ⟨n13, n14⟩ := and_e n12
  obtain ⟨n15, n16⟩ := and_e n14
  obtain ⟨n17, n18⟩ := and_e n16
  obtain ⟨n19, n20⟩ := and_e n18
  obtain ⟨n21, n22⟩ := and_e n20
  obtain ⟨n23, n24⟩ := and_e n22
  obtain ⟨n25, n26⟩ := and_e n24
  obtain ⟨n27, n28⟩ := and_e n26
  obtain ⟨a__VALUES, ev__VALUES⟩ := exa_v n3
  have E__VALUES : Exa s s.heap a__VALUES "[Lcom/example/millrace/millrace/Cell$Type;" := Exa.start ev__VALUES n3
  have S__VALUES : Sta s s.heap "com/example/millrace/millrace/Cell$Type" "$VALUES" "[Lcom/example/millrace/millrace/Cell$Type;" (.ref a__VALUES) := Sta.start ev__VALUES (Or.inl (hw _ (List.mem_of_getElem? (i := 20) rfl)))
  obtain ⟨a_DELETE_ROW, ev_DELETE_ROW⟩ := exa_v n7
  have E_DELETE_ROW : Exa s s.heap a_DELETE_ROW "com/example/millrace/millrace/Cell$Type" := Exa.start ev_DELETE_ROW n7
  have S_DELETE_ROW : Sta s s.heap "com/example/millrace/millrace/Cell$Type" "DELETE_ROW" "Lcom/example/millrace/millrace/Cell$Type;" (.ref a_DELETE_ROW) := Sta.start ev_DELETE_ROW (Or.inr ⟨(hw _ (List.mem_of_getElem? (i := 2) rfl)), (hw _ (List.mem_of_getElem? (i := 16) rfl))⟩)
  obtain ⟨a_DELETE_FAMILY, ev_DELETE_FAMILY⟩ := exa_v n11
  have E_DELETE_FAMILY : Exa s s.heap a_DELETE_FAMILY "com/example/millrace/millrace/Cell$Type" := Exa.start ev_DELETE_FAMILY n11
  have S_DELETE_FAMILY : Sta s s.heap "com/example/millrace/millrace/Cell$Type" "DELETE_FAMILY" "Lcom/example/millrace/millrace/Cell$Type;" (.ref a_DELETE_FAMILY) := Sta.start ev_DELETE_FAMILY (Or.inr ⟨(hw _ (List.mem_of_getElem? (i := 2) rfl)), (hw _ (List.mem_of_getElem? (i := 17) rfl))⟩)
  obtain ⟨a_DELETE_COLUMN, ev_DELETE_COLUMN⟩ := exa_v n15
  have E_DELETE_COLUMN : Exa s s.heap a_DELETE_COLUMN "com/example/millrace/millrace/Cell$Type" := Exa.start ev_DELETE_COLUMN n15
  have S_DELETE_COLUMN : Sta s s.heap "com/example/millrace/millrace/Cell$Type" "DELETE_COLUMN" "Lcom/example/millrace/millrace/Cell$Type;" (.ref a_DELETE_COLUMN) := Sta.start ev_DELETE_COLUMN (Or.inr ⟨(hw _ (List.mem_of_getElem? (i := 2) rfl)), (hw _ (List.mem_of_getElem? (i := 18) rfl))⟩)
  obtain ⟨a_PUT, ev_PUT⟩ := exa_v n19
  have E_PUT : Exa s s.heap a_PUT "com/example/millrace/millrace/Cell$Type" := Exa.start ev_PUT n19
  have S_PUT : Sta s s.heap "com/example/millrace/millrace/Cell$Type" "PUT" "Lcom/example/millrace/millrace/Cell$Type;" (.ref a_PUT) := Sta.start ev_PUT (Or.inr ⟨(hw _ (List.mem_of_getElem? (i := 2) rfl)), (hw _ (List.mem_of_getElem? (i := 19) rfl))⟩)
  have F_DELETE_ROW_code : Fld s s.heap a_DELETE_ROW "com/example/millrace/millrace/Cell$Type" "code" "B" (.int (3 : Int32)) := own_fld ev_DELETE_ROW n23
  have F_DELETE_FAMILY_code : Fld s s.heap a_DELETE_FAMILY "com/example/millrace/millrace/Cell$Type" "code" "B" (.int (2 : Int32)) := own_fld ev_DELETE_FAMILY n25
  have F_DELETE_COLUMN_code : Fld s s.heap a_DELETE_COLUMN "com/example/millrace/millrace/Cell$Type" "code" "B" (.int (1 : Int32)) := own_fld ev_DELETE_COLUMN n27
  have F_PUT_code : Fld s s.heap a_PUT "com/example/millrace/millrace/Cell$Type" "code" "B" (.int (0 : Int32)) := own_fld ev_PUT n28
  obtain ⟨clv, Av⟩ := Arr.start ev__VALUES n1
  have Lv := own_len ev__VALUES (Arr.fin (Vm.Alike.refl _) Av) n5
  have B0 := (elem_in (own_eqr ev_DELETE_ROW n9) ev__VALUES (Term.int_eval 0) Av.1).2
  have B1 := (elem_in (own_eqr ev_DELETE_FAMILY n13) ev__VALUES (Term.int_eval 1) Av.1).2
  have B2 := (elem_in (own_eqr ev_DELETE_COLUMN n17) ev__VALUES (Term.int_eval 2) Av.1).2
  have B3 := (elem_in (own_eqr ev_PUT n21) ev__VALUES (Term.int_eval 3) Av.1).2
  have Vv : Arv s s.heap a__VALUES clv.cls (.object "com/example/millrace/millrace/Cell$Type") (4 : Int32) [(.ref a_DELETE_ROW), (.ref a_DELETE_FAMILY), (.ref a_DELETE_COLUMN), (.ref a_PUT)] .null := Arv.start hfit Av Lv.1 Lv.2 (by decide) rfl ⟨B0, B1, B2, B3, trivial⟩
  obtain ⟨n, o, h1, h2, h3, _, L, rfl, ⟨rfl, N⟩, hq⟩ := rm0 l s _ hw tables_1 i0 a__VALUES clv.cls a_DELETE_ROW a_DELETE_FAMILY a_DELETE_COLUMN a_PUT s.heap s.heap.size (Nat.le_refl _) (Old.start s) S__VALUES E__VALUES Vv F_DELETE_ROW_code F_DELETE_FAMILY_code F_DELETE_COLUMN_code F_PUT_code S_DELETE_ROW S_DELETE_FAMILY S_DELETE_COLUMN S_PUT p e ha hc hk s m _ below hf ((Spec.applies_iff_loose hf).mp happ).1 ⟨rfl, State.Warmed39.refl s, rfl⟩ trivial
  refine ⟨n, _, h1, h2, h3, hpost _ _ _ _ _ _ ⟨Cond.after_iff.mpr rfl, Cond.after_iff.mpr (eq_i res_at (Term.int_eval (1)) rfl), trivial⟩ ⟨hq.1, hq.2.1, (hq.2.2.sift fun y hy => Or.inr (N y hy)).mono (by decide) (by decide)⟩⟩
theorem main_1_1 : Claimed_1_1 := comes_1 fun _ _ _ _ _ _ h hF => ⟨h.1, hF⟩
theorem main_1_2 : Claimed_1_2 := comes_1 fun _ _ _ _ _ _ h hF => ⟨h.2.1, hF⟩
end Jvm.Pilot.@@N@@
namespace Jvm.Pilot.@@N@@
open Jvm Jvm.ClassFile Sem Op Lib Jvm.Free Jvm.Stand Jvm.Pilot.@@N@@.Jvm.D
/-! MADE BY PROGRAM (witnessworld.py) out of the Statement's table words and the real class files: 13 classes; the members and pool entries that the words name. The judged class is class 1, her method 2. -/
namespace start1
open Jvm.ClassFile
def u (s : String) : CpInfo := .utf8 (stringToUtf16 s)
/-- a pool by its gaps: so many unusable entries, then the entry; so many at the end -/
def gap : Nat → List CpInfo → List CpInfo
  | 0, r => r
  | n + 1, r => .unusable :: gap n r
def poolList (es : List (Nat × CpInfo)) (last : Nat) : List CpInfo := es.foldr (fun e r => gap e.1 (e.2 :: r)) (gap last [])
def pool (es : List (Nat × CpInfo)) (last : Nat) : Array CpInfo := ⟨poolList es last⟩
def fileOf (pool : Array CpInfo) (this : Nat) (attrs : Array Attribute := #[]) (ms : Array MethodInfo := #[]) (fl : Nat := 33) (sup : Nat := 0) (ifs : Array Nat := #[]) (fds : Array FieldInfo := #[]) : ClassFile where
  minorVersion := 0
  majorVersion := 65
  constantPool := pool
  accessFlags := fl
  thisClass := this
  superClass := sup
  interfaces := ifs
  fields := fds
  methods := ms
  attributes := attrs
def plain (name : String) (sup : Option ClassId) : Class where
  name := name
  kind := .ordinary
  loader := none
  accessFlags := 33
  super := sup
  interfaces := #[]
  cf := none
  fields := #[]
  methods := #[]
  instanceTypes := #[]
  staticTypes := #[]
  resolved := #[]
  callSites := []
  init := .initialized
  statics := none
  mirror := none

def pool0 : Array CpInfo := pool [(5, u "<init>"), (0, u "()V"), (1, .class_ 10), (1, u "java/lang/Object"), (85, u "clone"), (0, u "()Ljava/lang/Object;")] 26

def k0m0 : Method := { name := "<init>", desc := "()V", sig := { parameters := [], returnType := none }, accessFlags := 1, code := none }
def k0m1 : Method := { name := "clone", desc := "()Ljava/lang/Object;", sig := { parameters := [], returnType := some (.object "java/lang/Object") }, accessFlags := 260, code := none }
/-- java/lang/Object -/
def k0 : Class := { plain "java/lang/Object" none with
  accessFlags := 33
  interfaces := #[]
  cf := some (fileOf pool0 8 #[] #[{ accessFlags := 1, nameIndex := 5, descriptorIndex := 6, attributes := #[] }, { accessFlags := 260, nameIndex := 96, descriptorIndex := 97, attributes := #[] }] 33 0 #[] #[])
  fields := #[]
  methods := #[k0m0, k0m1]
  instanceTypes := #[]
  staticTypes := #[]
  resolved := Array.replicate 124 none
  statics := none }

def pool1 : Array CpInfo := pool [(2, .class_ 4), (1, u "java/lang/Object"), (0, u "<init>"), (0, u "()V"), (0, .fieldref 8 9), (0, .class_ 10), (0, .nameAndType 11 12), (0, u "com/example/millrace/millrace/Cell$Type"), (0, u "PUT"), (0, u "Lcom/example/millrace/millrace/Cell$Type;"), (0, .fieldref 8 14), (0, .nameAndType 15 12), (0, u "DELETE_COLUMN"), (0, .fieldref 8 17), (0, .nameAndType 18 12), (0, u "DELETE_FAMILY"), (0, .fieldref 8 20), (0, .nameAndType 21 12), (0, u "DELETE_ROW"), (0, .methodref 8 23), (0, .nameAndType 24 25), (0, u "of"), (0, u "(B)Lcom/example/millrace/millrace/Cell$Type;"), (0, .methodref 27 28), (0, .class_ 29), (0, .nameAndType 30 25), (0, u "com/example/millrace/millrace/TypeOfPinLaw"), (0, u "expected"), (0, .fieldref 8 32), (0, .nameAndType 33 34), (0, u "code"), (0, u "B"), (3, u "law"), (0, u "(I)Z")] 6

def k1m0 : Method := { name := "<init>", desc := "()V", sig := { parameters := [], returnType := none }, accessFlags := 2, code := none }
def k1c1 : Code := { maxStack := 2, maxLocals := 1, code := method_2_code, exceptionTable := #[], attributes := #[] }
def k1m1 : Method := { name := "expected", desc := "(B)Lcom/example/millrace/millrace/Cell$Type;", sig := { parameters := [.byte], returnType := some (.object "com/example/millrace/millrace/Cell$Type") }, accessFlags := 10, code := some k1c1 }
def k1c2 : Code := { maxStack := 2, maxLocals := 3, code := code, exceptionTable := #[], attributes := #[] }
def k1m2 : Method := { name := "law", desc := "(I)Z", sig := { parameters := [.int], returnType := some .boolean }, accessFlags := 9, code := some k1c2 }
/-- com/example/millrace/millrace/TypeOfPinLaw -/
def k1 : Class := { plain "com/example/millrace/millrace/TypeOfPinLaw" (some 0) with
  accessFlags := 49
  interfaces := #[]
  cf := some (fileOf pool1 27 #[] #[{ accessFlags := 2, nameIndex := 5, descriptorIndex := 6, attributes := #[] }, { accessFlags := 10, nameIndex := 30, descriptorIndex := 25, attributes := #[] }, { accessFlags := 9, nameIndex := 38, descriptorIndex := 39, attributes := #[] }] 49 2 #[] #[])
  fields := #[]
  methods := #[k1m0, k1m1, k1m2]
  instanceTypes := #[]
  staticTypes := #[]
  resolved := Array.replicate 46 none
  statics := none }

def pool2 : Array CpInfo := pool [(1, .class_ 2), (0, u "java/lang/constant/Constable"), (0, .class_ 4), (0, u "java/lang/Object")] 6

/-- java/lang/constant/Constable -/
def k2 : Class := { plain "java/lang/constant/Constable" (some 0) with
  accessFlags := 1537
  interfaces := #[]
  cf := some (fileOf pool2 1 #[] #[] 1537 3 #[] #[])
  fields := #[]
  methods := #[]
  instanceTypes := #[]
  staticTypes := #[]
  resolved := Array.replicate 11 none
  statics := none }

def pool3 : Array CpInfo := pool [(1, .class_ 2), (0, u "java/lang/Comparable"), (0, .class_ 4), (0, u "java/lang/Object")] 7

/-- java/lang/Comparable -/
def k3 : Class := { plain "java/lang/Comparable" (some 0) with
  accessFlags := 1537
  interfaces := #[]
  cf := some (fileOf pool3 1 #[] #[] 1537 3 #[] #[])
  fields := #[]
  methods := #[]
  instanceTypes := #[]
  staticTypes := #[]
  resolved := Array.replicate 12 none
  statics := none }

def pool4 : Array CpInfo := pool [(1, .class_ 2), (0, u "java/io/Serializable"), (0, .class_ 4), (0, u "java/lang/Object")] 2

/-- java/io/Serializable -/
def k4 : Class := { plain "java/io/Serializable" (some 0) with
  accessFlags := 1537
  interfaces := #[]
  cf := some (fileOf pool4 1 #[] #[] 1537 3 #[] #[])
  fields := #[]
  methods := #[]
  instanceTypes := #[]
  staticTypes := #[]
  resolved := Array.replicate 7 none
  statics := none }

def pool5 : Array CpInfo := pool [(2, .class_ 4), (1, u "java/lang/Enum"), (0, u "name"), (0, u "Ljava/lang/String;"), (2, u "ordinal"), (0, u "I"), (1, .class_ 14), (1, u "java/lang/Object"), (4, u "hash"), (86, .class_ 108), (1, u "java/lang/Enum$EnumDesc"), (2, .class_ 112), (0, u "java/lang/constant/Constable"), (0, .class_ 114), (0, u "java/lang/Comparable"), (0, .class_ 116), (0, u "java/io/Serializable")] 87

/-- java/lang/Enum -/
def k5 : Class := { plain "java/lang/Enum" (some 0) with
  accessFlags := 1057
  interfaces := #[2, 3, 4]
  cf := some (fileOf pool5 2 #[.nestMembers #[106]] #[] 1057 12 #[111, 113, 115] #[{ accessFlags := 18, nameIndex := 5, descriptorIndex := 6, attributes := #[] }, { accessFlags := 18, nameIndex := 9, descriptorIndex := 10, attributes := #[] }, { accessFlags := 2, nameIndex := 19, descriptorIndex := 10, attributes := #[] }])
  fields := #[{ name := "name", type := (.object "java/lang/String"), accessFlags := 18, slot := 0, constantValue := 0 }, { name := "ordinal", type := .int, accessFlags := 18, slot := 1, constantValue := 0 }, { name := "hash", type := .int, accessFlags := 2, slot := 2, constantValue := 0 }]
  methods := #[]
  instanceTypes := #[(.object "java/lang/String"), .int, .int]
  staticTypes := #[]
  resolved := Array.replicate 204 none
  statics := none }

def pool6 : Array CpInfo := pool [(1, .class_ 2), (0, u "com/example/millrace/millrace/Cell$Type"), (2, u "DELETE_ROW"), (0, u "Lcom/example/millrace/millrace/Cell$Type;"), (2, u "DELETE_FAMILY"), (2, u "DELETE_COLUMN"), (2, u "PUT"), (0, .fieldref 1 17), (0, .nameAndType 18 19), (0, u "$VALUES"), (0, u "[Lcom/example/millrace/millrace/Cell$Type;"), (0, .methodref 21 22), (0, .class_ 19), (0, .nameAndType 23 24), (0, u "clone"), (0, u "()Ljava/lang/Object;"), (1, .class_ 28), (1, u "java/lang/Enum"), (6, .fieldref 1 36), (0, .nameAndType 37 38), (0, u "code"), (0, u "B"), (0, .methodref 1 40), (0, .nameAndType 41 42), (0, u "values"), (0, u "()[Lcom/example/millrace/millrace/Cell$Type;"), (25, u "of"), (0, u "(B)Lcom/example/millrace/millrace/Cell$Type;"), (7, .class_ 78), (0, u "com/example/millrace/millrace/Cell")] 16

def k6c0 : Code := { maxStack := 1, maxLocals := 0, code := prog_2_method_1_code, exceptionTable := #[], attributes := #[] }
def k6m0 : Method := { name := "values", desc := "()[Lcom/example/millrace/millrace/Cell$Type;", sig := { parameters := [], returnType := some (.array (.object "com/example/millrace/millrace/Cell$Type")) }, accessFlags := 9, code := some k6c0 }
def k6c1 : Code := { maxStack := 3, maxLocals := 5, code := prog_2_method_4_code, exceptionTable := #[], attributes := #[] }
def k6m1 : Method := { name := "of", desc := "(B)Lcom/example/millrace/millrace/Cell$Type;", sig := { parameters := [.byte], returnType := some (.object "com/example/millrace/millrace/Cell$Type") }, accessFlags := 8, code := some k6c1 }
/-- com/example/millrace/millrace/Cell$Type -/
def k6 : Class := { plain "com/example/millrace/millrace/Cell$Type" (some 5) with
  accessFlags := 16432
  interfaces := #[]
  cf := some (fileOf pool6 1 #[.nestHost 77] #[{ accessFlags := 9, nameIndex := 41, descriptorIndex := 42, attributes := #[] }, { accessFlags := 8, nameIndex := 68, descriptorIndex := 69, attributes := #[] }] 16432 26 #[] #[{ accessFlags := 16409, nameIndex := 5, descriptorIndex := 6, attributes := #[] }, { accessFlags := 16409, nameIndex := 9, descriptorIndex := 6, attributes := #[] }, { accessFlags := 16409, nameIndex := 12, descriptorIndex := 6, attributes := #[] }, { accessFlags := 16409, nameIndex := 15, descriptorIndex := 6, attributes := #[] }, { accessFlags := 16, nameIndex := 37, descriptorIndex := 38, attributes := #[] }, { accessFlags := 4122, nameIndex := 18, descriptorIndex := 19, attributes := #[] }])
  fields := #[{ name := "DELETE_ROW", type := (.object "com/example/millrace/millrace/Cell$Type"), accessFlags := 16409, slot := 0, constantValue := 0 }, { name := "DELETE_FAMILY", type := (.object "com/example/millrace/millrace/Cell$Type"), accessFlags := 16409, slot := 1, constantValue := 0 }, { name := "DELETE_COLUMN", type := (.object "com/example/millrace/millrace/Cell$Type"), accessFlags := 16409, slot := 2, constantValue := 0 }, { name := "PUT", type := (.object "com/example/millrace/millrace/Cell$Type"), accessFlags := 16409, slot := 3, constantValue := 0 }, { name := "code", type := .byte, accessFlags := 16, slot := 3, constantValue := 0 }, { name := "$VALUES", type := (.array (.object "com/example/millrace/millrace/Cell$Type")), accessFlags := 4122, slot := 4, constantValue := 0 }]
  methods := #[k6m0, k6m1]
  instanceTypes := #[(.object "java/lang/String"), .int, .int, .byte]
  staticTypes := #[(.object "com/example/millrace/millrace/Cell$Type"), (.object "com/example/millrace/millrace/Cell$Type"), (.object "com/example/millrace/millrace/Cell$Type"), (.object "com/example/millrace/millrace/Cell$Type"), (.array (.object "com/example/millrace/millrace/Cell$Type"))]
  resolved := Array.replicate 95 none
  statics := some 0 }

def pool7 : Array CpInfo := pool [(1, .class_ 2), (0, u "java/lang/Cloneable"), (0, .class_ 4), (0, u "java/lang/Object")] 2

/-- java/lang/Cloneable -/
def k7 : Class := { plain "java/lang/Cloneable" (some 0) with
  accessFlags := 1537
  interfaces := #[]
  cf := some (fileOf pool7 1 #[] #[] 1537 3 #[] #[])
  fields := #[]
  methods := #[]
  instanceTypes := #[]
  staticTypes := #[]
  resolved := Array.replicate 7 none
  statics := none }

/-- the primitive byte -/
def k8 : Class := { plain "byte" none with kind := .primitive 'B', accessFlags := 0x411 }
/-- [B -/
def k9 : Class := { plain "[B" (some 0) with kind := .array 8 .byte, interfaces := #[7, 4], accessFlags := 1041 }

/-- the primitive int -/
def k10 : Class := { plain "int" none with kind := .primitive 'I', accessFlags := 0x411 }
/-- [I -/
def k11 : Class := { plain "[I" (some 0) with kind := .array 10 .int, interfaces := #[7, 4], accessFlags := 1041 }

/-- [Lcom/example/millrace/millrace/Cell$Type; -/
def k12 : Class := { plain "[Lcom/example/millrace/millrace/Cell$Type;" (some 0) with kind := .array 6 (.object "com/example/millrace/millrace/Cell$Type"), interfaces := #[7, 4], accessFlags := 1041 }

def heap : Heap := #[{ cls := 6, slots := #[.ref 2, .ref 3, .ref 4, .ref 5, .ref 1], vm := .statics 6 },
  { cls := 12, slots := #[.ref 2, .ref 3, .ref 4, .ref 5], vm := .none },
  { cls := 6, slots := #[.null, .int 0, .int 0, .int 3], vm := .none },
  { cls := 6, slots := #[.null, .int 1, .int 0, .int 2], vm := .none },
  { cls := 6, slots := #[.null, .int 2, .int 0, .int 1], vm := .none },
  { cls := 6, slots := #[.null, .int 3, .int 0, .int 0], vm := .none }]
def classes : Array Class := #[k0, k1, k2, k3, k4, k5, k6, k7, k8, k9, k10, k11, k12]
def interned : List (Array UInt16 × Addr) := []
def slotsUsed : Nat := 25
def theMethod : MethodId := ⟨1, 2⟩
def args0 : Array Value := #[.int 5]
def aboutOver (below : List Frame) : State where
  vm := { classes := classes, interned := interned.toArray }
  heap := heap
  slotsUsed := slotsUsed
  threads := #[{ frames := .invoking theMethod args0 :: below }]
def below0 : List Frame := [.native { method := ⟨0, 0⟩, args := #[] }]
def about1 : State := aboutOver below0
def p0 : Program := .bare "" "" ""
def e0 : Env := launch0.env 0 0 0
theorem w_frames : about1.frames = Frame.invoking theMethod args0 :: below0 := rfl
set_option maxRecDepth 65536 in
theorem w_args : argsFit about1.vm theMethod args0 = true := by decide +kernel
set_option maxRecDepth 65536 in
theorem w_heap : heapFits about1 = true := by decide +kernel
set_option maxRecDepth 65536 in
theorem w_runnable : about1.curStatus? = some .runnable := by decide +kernel
set_option maxRecDepth 65536 in
theorem w_alone : about1.alone = true := by decide +kernel
set_option maxRecDepth 65536 in
theorem w_named : about1.methodNamed? x = some theMethod := by decide +kernel
set_option maxRecDepth 65536 in
theorem w_hears : about1.hears theMethod below0 = true := by decide +kernel
set_option maxRecDepth 65536 in
theorem w_ripe : about1.ripe theMethod args0 below0 = true := by decide +kernel
theorem w_running : about1.status = .running := rfl
set_option maxRecDepth 65536 in
theorem w_room : about1.hasRoom e0.platform room_1 = true :=
  launch0.hasRoom_least _ room_1 (by decide +kernel) (by decide +kernel) (by decide +kernel) (by decide +kernel) (by decide +kernel) (by decide +kernel)
theorem allAtoms_all (ts : List Jvm.Cond) (a : Array Jvm.Value) (st : Jvm.State) : (allAtoms ts).before a st = ts.all (fun c => c.before a st) := by
  induction ts with
  | nil => rfl
  | cons c t ih =>
    show (Jvm.Cond.and c (allAtoms t)).before a st = _
    rw [Jvm.Cond.before_and, ih, List.all_cons]
def words1 : List Jvm.Cond := Jvm.Cond.code x code maxLocals ret :: tables_1
/-- a 'code' word, met by the world's own term for the bytes: nothing is compared byte by byte -/
theorem code_word {y : MethodName} {bytes : ByteArray} {mx : Nat} {rt : Option FieldType} {a : Array Value} {s : State} {m : MethodId} {meth : Method} {c : Code} (h1 : s.methodNamed? y = some m) (h2 : s.vm.method? m = some meth) (h3 : meth.code = some c) (h4 : c.code = bytes)
    (h5 : (c.maxLocals == mx && c.exceptionTable.isEmpty && decide (c.maxStack ≤ mostOperands) && decide (meth.sig.returnType = rt) && !meth.locks && decide (parseMethodDescriptor y.desc = some meth.sig)) = true) : (Jvm.Cond.code y bytes mx rt).before a s = true := by
  simp only [Bool.and_eq_true, beq_iff_eq, Bool.not_eq_true', decide_eq_true_eq] at h5
  obtain ⟨⟨⟨⟨⟨g1, g2⟩, g3⟩, g4⟩, g5⟩, g6⟩ := h5
  simp [Cond.before, Cond.holds, Cond.value, h1, h2, h3, h4, g1, g2, g3, g4, g5, g6]
def isCode : Jvm.Cond → Bool
  | .code _ _ _ _ => true
  | _ => false
theorem all_split {L : List Jvm.Cond} {P : Jvm.Cond → Bool} (h1 : L.all (fun c => isCode c || P c) = true) (h2 : ∀ c ∈ L.filter isCode, P c = true) : L.all P = true := by
  refine List.all_eq_true.mpr fun c hc => ?_
  have h := List.all_eq_true.mp h1 c hc
  rcases Bool.eq_false_or_eq_true (isCode c) with hi | hi
  · exact h2 c (List.mem_filter.mpr ⟨hc, hi⟩)
  · simpa [hi] using h
set_option maxRecDepth 65536 in
theorem w_c0 : (Jvm.Cond.code x code maxLocals ret).before args0 about1 = true := code_word (m := ⟨1, 2⟩) (meth := k1m2) (c := k1c2) (by decide +kernel) rfl rfl rfl (by decide +kernel)
set_option maxRecDepth 65536 in
theorem w_c1 : (Jvm.Cond.code ({ cls := "com/example/millrace/millrace/Cell$Type", name := "of", desc := "(B)Lcom/example/millrace/millrace/Cell$Type;" } : Jvm.MethodName) prog_2_method_4_code (5 : Nat) (Option.some (Jvm.ClassFile.FieldType.object "com/example/millrace/millrace/Cell$Type"))).before args0 about1 = true := code_word (m := ⟨6, 1⟩) (meth := k6m1) (c := k6c1) (by decide +kernel) rfl rfl rfl (by decide +kernel)
set_option maxRecDepth 65536 in
theorem w_c2 : (Jvm.Cond.code ({ cls := "com/example/millrace/millrace/Cell$Type", name := "values", desc := "()[Lcom/example/millrace/millrace/Cell$Type;" } : Jvm.MethodName) prog_2_method_1_code (0 : Nat) (Option.some (Jvm.ClassFile.FieldType.array (Jvm.ClassFile.FieldType.object "com/example/millrace/millrace/Cell$Type")))).before args0 about1 = true := code_word (m := ⟨6, 0⟩) (meth := k6m0) (c := k6c0) (by decide +kernel) rfl rfl rfl (by decide +kernel)
set_option maxRecDepth 65536 in
theorem w_c3 : (Jvm.Cond.code ({ cls := "com/example/millrace/millrace/TypeOfPinLaw", name := "expected", desc := "(B)Lcom/example/millrace/millrace/Cell$Type;" } : Jvm.MethodName) method_2_code (1 : Nat) (Option.some (Jvm.ClassFile.FieldType.object "com/example/millrace/millrace/Cell$Type"))).before args0 about1 = true := code_word (m := ⟨1, 1⟩) (meth := k1m1) (c := k1c1) (by decide +kernel) rfl rfl rfl (by decide +kernel)
def codes1 : List Jvm.Cond := [Jvm.Cond.code x code maxLocals ret, Jvm.Cond.code ({ cls := "com/example/millrace/millrace/Cell$Type", name := "of", desc := "(B)Lcom/example/millrace/millrace/Cell$Type;" } : Jvm.MethodName) prog_2_method_4_code (5 : Nat) (Option.some (Jvm.ClassFile.FieldType.object "com/example/millrace/millrace/Cell$Type")), Jvm.Cond.code ({ cls := "com/example/millrace/millrace/Cell$Type", name := "values", desc := "()[Lcom/example/millrace/millrace/Cell$Type;" } : Jvm.MethodName) prog_2_method_1_code (0 : Nat) (Option.some (Jvm.ClassFile.FieldType.array (Jvm.ClassFile.FieldType.object "com/example/millrace/millrace/Cell$Type"))), Jvm.Cond.code ({ cls := "com/example/millrace/millrace/TypeOfPinLaw", name := "expected", desc := "(B)Lcom/example/millrace/millrace/Cell$Type;" } : Jvm.MethodName) method_2_code (1 : Nat) (Option.some (Jvm.ClassFile.FieldType.object "com/example/millrace/millrace/Cell$Type"))]
set_option maxRecDepth 65536 in
theorem codes_eq : words1.filter isCode = codes1 := rfl
theorem w_codes : ∀ c ∈ words1.filter isCode, c.before args0 about1 = true := by
  rw [codes_eq]
  intro c hc
  simp only [codes1, List.mem_cons, List.not_mem_nil, or_false] at hc
  rcases hc with rfl | rfl | rfl | rfl
  · exact w_c0
  · exact w_c1
  · exact w_c2
  · exact w_c3
set_option maxRecDepth 65536 in
theorem w_t1 : (words1.take 24).all (fun c => isCode c || c.before args0 about1) = true := by decide +kernel
set_option maxRecDepth 65536 in
theorem w_t2 : (words1.drop 24).all (fun c => isCode c || c.before args0 about1) = true := by decide +kernel
theorem w_tables : (allAtoms (Jvm.Cond.code x code maxLocals ret :: tables_1)).before args0 about1 = true := by
  rw [allAtoms_all]
  show words1.all (fun c => c.before args0 about1) = true
  refine all_split ?_ w_codes
  rw [← List.take_append_drop 24 words1, List.all_append, w_t1, w_t2]
  rfl
set_option maxRecDepth 65536 in
theorem w_case : (Jvm.Cond.and given_1 narrow_1).before args0 about1 = true := by decide +kernel
theorem w_applies : (headSpec (Jvm.Cond.code x code maxLocals ret :: tables_1) room_1).applies x e0.platform about1 = true :=
  (Spec.applies_iff w_frames).mpr ⟨w_running, w_runnable, w_alone, w_named, w_hears, w_ripe, w_room, w_tables⟩
theorem atStart : AtStart classFile x code maxLocals ret World_1 tables_1 room_1 Calls_1 rest_1 Pre_1 launch0 p0 e0 about1 theMethod args0 below0 :=
  ⟨lists_1, trivial, launch0.admits_env _ _ _, launch0.least_env, fairChoices_fair.cas, fairChoices_fair.clock, w_frames, w_args, w_heap, w_applies, trivial, trivial, w_case⟩
end start1
theorem witness_1 : WitnessClaimed_1 := ⟨start1.p0, start1.e0, start1.about1, start1.theMethod, start1.args0, start1.below0, start1.atStart⟩
end Jvm.Pilot.@@N@@
