import JvmDerived
import JvmDerived.Pilot.@@N@@Statement
import JvmDerived.Pilot.@@N@@Code
set_option linter.unusedVariables false
set_option linter.unusedSimpArgs false
namespace Jvm.Pilot.@@N@@
open Jvm Jvm.ClassFile Sem Op Lib Jvm.Free Jvm.Stand Jvm.LawKit Jvm.RoadKit Bundle Jvm.Pilot.@@N@@.Jvm.D
/-- a body's contract by a walk whose goal is a predicate G: 'go' takes a step, 'fin' a return -/
theorem own_enter {l : Launch} {y : MethodName} {cd : ByteArray} {ml : Nat} {rt : Option FieldType} {ws : List Jvm.Cond} {R : Room} {Z : State} {h0 : Heap} {as : Array Value} {Q : Option Value → Heap → List Loc → Prop} (hpl : plainFor y = true)
    (body : ∀ (p : Program) (e : Env) (s : State) (m : MethodId) (below : List Frame) (meth : Method) (c : Code) (s₁ : State) (G : State → Prop),
      Stand p l e R s m as below meth c s₁ [] 0 0 → p.tables.exec = Jvm.exec → c.code = cd → c.maxLocals = ml → Z.Warmed39 s.vm → s.vm.findClass y.cls = some m.cls → meth.name = y.name → meth.sig.returnType = rt → s₁.heap = h0 →
      (∀ {a b : State}, (∀ t, Steps p.tables e below b t → Steps p.tables e below a t) → G b → G a) →
      (∀ {T : State} {locs : List Loc} {cells slots : Nat} {g : JFrame} (v : Option Value), Stand p l e R s m as below meth c T locs cells slots → (rt = none → v = none) →
        (∀ fs, (∀ (f : JFrame) (acts : List Action), f.method = m → f.locked = none → f.entered = [] → (doReturn e (T.setTop f) acts v).1 = T.setFrames fs) → Steps p.tables e below (T.setTop g) (T.setFrames fs)) →
        cells ≤ R.cells → slots ≤ R.slots → Q v T.heap locs → G (T.setTop g)) →
      G (s₁.setTop (entryFrame m as ml))) :
    MetFree l y (head1 (Jvm.Cond.code y cd ml rt :: ws) R) (fun a U => a = as ∧ Z.Warmed39 U.vm ∧ U.heap = h0) (fun _ _ _ _ _ => True) (fun _ U o U' => ∃ v L, o = .returned v ∧ Q v U'.heap L ∧ FrameEnd U o U' L R.cells R.slots) := by
  refine MetFree.of_bodySF hpl hisR ?_
  intro p e s m args below meth c s₁ Bd hml0 hP hK
  obtain ⟨rfl, hZ, hh⟩ := hP
  have hlk : meth.locks = false := Bd.notSynchronized
  have key := body p e s m below meth c s₁ (fun a => ∃ t, Steps p.tables e below a t ∧ ∃ o, t.status = .running ∧ Ended t below o ∧ ∃ v L, o = .returned v ∧ Q v t.heap L ∧ FrameEnd s o t L R.cells R.slots)
    (Stand.of_body Bd) Bd.exec Bd.bytes hml0 hZ (findClass_of_methodNamed Bd.named) (name_of_methodNamed Bd.named Bd.method).1 Bd.returns (by rw [← hh, Bd.state]; rfl)
    (fun h g => by obtain ⟨t, h1, h2⟩ := g; exact ⟨t, h t h1, h2⟩)
    (fun {T locs cells slots g} v X hv hs hc hsl hQ => by
      obtain ⟨fs, hr, hrun, hended, hW, hsame⟩ := X.leave (v := v) (fun h => hv (Bd.returns.symm.trans h)) hlk
      exact ⟨_, hs fs hr, _, hrun, hended, v, locs, rfl, hQ, ⟨_, rfl⟩, hW, hsame.mono hc hsl⟩)
  obtain ⟨t, h1, o, h2, h3, h4⟩ := key
  exact ⟨t, o, h1, h2, h3, h4⟩
theorem own_lrem {p : Program} {l : Launch} {e : Env} {R : Room} {s : State} {m : MethodId} {args : Array Value} {below : List Frame} {meth : Method} {c : Code} {T : State} {locs : List Loc} {cells slots : Nat} {g : JFrame} {target : State} (X : Stand p l e R s m args below meth c T locs cells slots) (hx : p.tables.exec = Jvm.exec) (hg : g.method = m) {x y : Int64} {rest : List Value} (hd : decode c.code g.pc = .ok (.lrem, 1)) (hs : g.stack = .long y :: .long x :: rest) (hy : y ≠ 0)
    (hr : Steps p.tables e below (T.setTop { g with pc := g.pc + 1, stack := .long (x % y) :: rest }) target) : Steps p.tables e below (T.setTop g) target := XS.lrem X.here hx hg hd hs hy (by rw [lrem_mod]; exact hr)
theorem own_irr (x : Int32) : ¬ x < x := Int32.lt_irrefl
theorem own_irrL (x : Int64) : ¬ x < x := Int64.lt_irrefl
theorem own_eq_int {a : Term} {k : Int32} {args : Array Value} {first s : State} {o : Option Outcome} {idx : List Nat} (h : (Jvm.Cond.eq a (.int k)).value args first o s idx = some true) : a.eval args first o idx s = some (.int k) := by
  obtain ⟨x, y, ha, hb, k1, k2⟩ := cmp_v (Or.inl h)
  cases (show some (Value.int k) = some y from hb)
  obtain ⟨z, rfl⟩ := k2
  have q : (Jvm.Cond.eq a (.int k)).value args first o s idx = some (decide (z = k)) := by simp [Cond.value, ha, Term.eval]
  rw [gotT q h] at ha
  exact ha
theorem own_eq_ref {a b : Term} {u : Addr} {args : Array Value} {first s : State} {o : Option Outcome} {idx : List Nat} (h : (Jvm.Cond.eq a b).value args first o s idx = some true) (hb : b.eval args first o idx s = some (.ref u)) : a.eval args first o idx s = some (.ref u) := by
  obtain ⟨x, y, ha, hb', k1, k2⟩ := cmp_v (Or.inl h)
  cases hb.symm.trans hb'
  have hr : x.isRef = true := by cases x <;> simp_all [Kin, Value.isRef]
  have q := gotT (eq_R ha hb hr rfl) h
  rw [q] at ha
  exact ha
theorem own_exa_ns {Z : State} {h : Heap} {a : Addr} {C : String} (F : Exa Z h a C) : ∀ cell : Cell, h[a]? = some cell → cell.vm.isStatics = false := fun cell hc => by
  obtain ⟨c, k, h1, -, -, h4, -⟩ := F
  cases hc.symm.trans h1
  exact h4
theorem own_sta_keep {Z : State} {h h' : Heap} {C n d : String} {v : Value} {ws : List Addr} (F : Sta Z h C n d v) (K : Keep h h' ws) (q : ∀ a ∈ ws, ∀ cell : Cell, h[a]? = some cell → cell.vm.isStatics = false) : Sta Z h' C n d v := by
  obtain ⟨cf, i, k, f, st, cell, h1, h2, h3, h4, h5, h6, h7⟩ := F
  exact ⟨cf, i, k, f, st, cell, h1, h2, h3, h4, K.2.1 _ _ h5 (fun z => by rw [q _ z _ h5] at h6; cases h6), h6, h7⟩
theorem own_len {s : State} {args : Array Value} {t : Term} {a : Addr} {cl : Cell} {ty : FieldType} {z : Int32} (ht : t.eval args s none [] s = some (.ref a)) (A : Arr s s.heap a cl ty) (h : (Term.length t).eval args s none [] s = some (.int z)) : cl.slots.size < 2 ^ 31 ∧ cl.slots.size.toInt32 = z := by
  have ha := Arr.fin (State.Warmed39.refl s).alike A
  by_cases hn : cl.slots.size < 2 ^ 31
  · have q := (len_f ht ha hn).symm.trans h
    exact ⟨hn, Value.int.inj (Option.some.inj q)⟩
  · simp [Term.eval, ht, ha] at h
    omega
theorem own_elem {s : State} {args : Array Value} {t : Term} {a : Addr} {cl : Cell} {ty : FieldType} {j : Int32} {v : Value} (ht : t.eval args s none [] s = some (.ref a)) (A : Arr s s.heap a cl ty) (h : (Term.elem t (.int j)).eval args s none [] s = some v) (hn : ¬ j < 0) : cl.slots[j.toNatClampNeg]? = some v :=
  (elem_f ht rfl (Arr.fin (State.Warmed39.refl s).alike A) hn).symm.trans h
theorem own_selp {Z s : State} {a0 args : Array Value} {y : MethodName} {n : Nat} (hZ : Z.Warmed39 s.vm) (wi : (Jvm.Cond.instantiable y.cls n).before a0 Z = true) (wp : (Jvm.Cond.privateMethod y).before a0 Z = true) (wm : (Jvm.Cond.instanceMethod y).before a0 Z = true) (hy : y.cls ≠ "java/lang/invoke/MethodHandle" ∧ y.cls ≠ "java/lang/invoke/VarHandle") : (Jvm.Cond.selects y.cls y y).before args s = true := by
  have wi' : (Jvm.Cond.instantiable y.cls n).before args s = true := mvT hZ wi
  obtain ⟨c, k, h1, h2, -, h4, -⟩ := Cond.instantiable_spec wi'
  exact selects_self_of_private h1 h2 (Bool.or_eq_false_iff.mp h4).1 (Cond.privateMethod_at (mvP hZ wp (args := args))) (mvT hZ wm) hy
def own_cmp (a b : Int32) : Int32 := if a = b then 1 else 0
theorem own_c1 {a b : Int32} (h : a = b) : own_cmp a b = (1 : Int32) := if_pos h
theorem own_c0 {a b : Int32} (h : ¬ a = b) : own_cmp a b = (0 : Int32) := if_neg h
theorem pn_java_lang_Record : plainName "java/lang/Record" = true := by first | (simp [plainName, overriddenIn]; done) | decide +kernel
theorem ef_2 (m : MethodId) (x0 : Addr) : entryFrame m #[(.ref x0)] 1 = mkF m 0 #[.val (.ref x0)] [] := by first | (simp [entryFrame, mkF, argsToLocals, Value.category]; done) | rfl
theorem d2_0 : decode jdk_30_method_1_code 0 = .ok (.aload_n 0, 1) := by decide +kernel
theorem d2_1 : decode jdk_30_method_1_code 1 = .ok (.invokespecial 1, 3) := by decide +kernel
theorem d2_4 : decode jdk_30_method_1_code 4 = .ok (.return_, 1) := by decide +kernel
def Q_rm2 (Z : State) (ob : Addr) (h0 : Heap) (n0 : Nat) (v : Option Value) (h : Heap) (L : List Loc) : Prop := v = none ∧ Fr n0 L ∧ h = h0
set_option maxRecDepth 65536 in
set_option maxHeartbeats 40000000 in
theorem rm2 (l : Launch) (Z : State) (a0 : Array Value) (hw : ∀ d ∈ tables_1, d.before a0 Z = true) (ws : List Jvm.Cond) (ob : Addr) (h0 : Heap) (n0 : Nat) (Z0 : n0 ≤ h0.size) :
    MetFree l (⟨"java/lang/Record", "<init>", "()V"⟩ : MethodName) (head1 (Jvm.Cond.code (⟨"java/lang/Record", "<init>", "()V"⟩ : MethodName) jdk_30_method_1_code 1 none :: ws) ({ frames := 1, cells := 0, slots := 0, locals := 12 } : Room)) (fun a U => a = #[(.ref ob)] ∧ Z.Warmed39 U.vm ∧ U.heap = h0) (fun _ _ _ _ _ => True) (fun _ U o U' => ∃ v L, o = .returned v ∧ Q_rm2 Z ob h0 n0 v U'.heap L ∧ FrameEnd U o U' L ({ frames := 1, cells := 0, slots := 0, locals := 12 } : Room).cells ({ frames := 1, cells := 0, slots := 0, locals := 12 } : Room).slots) := by
  refine own_enter (Q := Q_rm2 Z ob h0 n0) (plainFor_of_name pn_java_lang_Record) ?_
  intro p e s m below meth c s₁ G X0 hx hby hml hZ hown hnm hret e0 go fin
  replace hown : s.vm.findClass "java/lang/Record" = some m.cls := hown
  replace hnm : meth.name = "<init>" := hnm
  replace hml : c.maxLocals = 1 := hml
  rw [ef_2 m ob]
  have N0 := Fr.nil n0
  show G (s₁.setTop (mkF m 0 #[.val (.ref ob)] []))
  refine go (fun tg kg => XS.aloadN X0.here hx rfl (hb hby d2_0) rfl rfl kg) ?_
  show G (s₁.setTop (mkF m 1 #[.val (.ref ob)] [(.ref ob)]))
  obtain ⟨T1, X1, e1, st1⟩ := initO X0 hx hZ hown (hw _ (List.mem_of_getElem? (i := 11) rfl)) (hw _ (List.mem_of_getElem? (i := 12) rfl)) (hw _ (List.mem_of_getElem? (i := 13) rfl)) e0 (g := (mkF m 1 #[.val (.ref ob)] [(.ref ob)])) rfl (by rw [hml]; rfl) rfl (hb hby d2_1) (by decide) (W := 0) (by show 2 * 0 + _ ≤ _; exact Nat.le_of_eq rfl) (by decide)
  refine go st1 ?_
  show G (T1.setTop (mkF m 4 #[.val (.ref ob)] []))
  refine fin (none) X1 (fun h => rfl) (fun fs hr => X1.returnOut hx hret (hb hby d2_4) hr) (by decide) (by decide) ?_
  rw [e1]
  exact ⟨rfl, N0, rfl⟩
theorem pn_com_example_scatterd_scatterd_model_JobCounts : plainName "com/example/scatterd/scatterd/model/JobCounts" = true := by first | (simp [plainName, overriddenIn]; done) | decide +kernel
theorem ef_1 (m : MethodId) (x0 : Addr) (x1 : Int32) (x2 : Int32) (x3 : Int32) (x4 : Int32) (x5 : Int32) (x6 : Int32) (x7 : Int32) : entryFrame m #[(.ref x0), (.int x1), (.int x2), (.int x3), (.int x4), (.int x5), (.int x6), (.int x7)] 8 = mkF m 0 #[.val (.ref x0), .val (.int x1), .val (.int x2), .val (.int x3), .val (.int x4), .val (.int x5), .val (.int x6), .val (.int x7)] [] := by first | (simp [entryFrame, mkF, argsToLocals, Value.category]; done) | rfl
theorem d1_0 : decode prog_28_method_1_code 0 = .ok (.aload_n 0, 1) := by decide +kernel
theorem d1_1 : decode prog_28_method_1_code 1 = .ok (.invokespecial 1, 3) := by decide +kernel
theorem pd___V : parseMethodDescriptor "()V" = some ⟨[], none⟩ := by decide +kernel
theorem d1_4 : decode prog_28_method_1_code 4 = .ok (.aload_n 0, 1) := by decide +kernel
theorem d1_5 : decode prog_28_method_1_code 5 = .ok (.iload_n 1, 1) := by decide +kernel
theorem d1_6 : decode prog_28_method_1_code 6 = .ok (.putfield 7, 3) := by decide +kernel
theorem d1_9 : decode prog_28_method_1_code 9 = .ok (.aload_n 0, 1) := by decide +kernel
theorem d1_10 : decode prog_28_method_1_code 10 = .ok (.iload_n 2, 1) := by decide +kernel
theorem d1_11 : decode prog_28_method_1_code 11 = .ok (.putfield 13, 3) := by decide +kernel
theorem d1_14 : decode prog_28_method_1_code 14 = .ok (.aload_n 0, 1) := by decide +kernel
theorem d1_15 : decode prog_28_method_1_code 15 = .ok (.iload_n 3, 1) := by decide +kernel
theorem d1_16 : decode prog_28_method_1_code 16 = .ok (.putfield 16, 3) := by decide +kernel
theorem d1_19 : decode prog_28_method_1_code 19 = .ok (.aload_n 0, 1) := by decide +kernel
theorem d1_20 : decode prog_28_method_1_code 20 = .ok (.iload 4, 2) := by decide +kernel
theorem d1_22 : decode prog_28_method_1_code 22 = .ok (.putfield 19, 3) := by decide +kernel
theorem d1_25 : decode prog_28_method_1_code 25 = .ok (.aload_n 0, 1) := by decide +kernel
theorem d1_26 : decode prog_28_method_1_code 26 = .ok (.iload 5, 2) := by decide +kernel
theorem d1_28 : decode prog_28_method_1_code 28 = .ok (.putfield 22, 3) := by decide +kernel
theorem d1_31 : decode prog_28_method_1_code 31 = .ok (.aload_n 0, 1) := by decide +kernel
theorem d1_32 : decode prog_28_method_1_code 32 = .ok (.iload 6, 2) := by decide +kernel
theorem d1_34 : decode prog_28_method_1_code 34 = .ok (.putfield 25, 3) := by decide +kernel
theorem d1_37 : decode prog_28_method_1_code 37 = .ok (.aload_n 0, 1) := by decide +kernel
theorem d1_38 : decode prog_28_method_1_code 38 = .ok (.iload 7, 2) := by decide +kernel
theorem d1_40 : decode prog_28_method_1_code 40 = .ok (.putfield 28, 3) := by decide +kernel
theorem d1_43 : decode prog_28_method_1_code 43 = .ok (.return_, 1) := by decide +kernel
def Q_rm1 (Z : State) (ob : Addr) (x0 : Int32) (x1 : Int32) (x2 : Int32) (x3 : Int32) (x4 : Int32) (x5 : Int32) (x6 : Int32) (h0 : Heap) (n0 : Nat) (v : Option Value) (h : Heap) (L : List Loc) : Prop := v = none ∧ Fr n0 L ∧ Keep h0 h [ob] ∧ Exa Z h ob "com/example/scatterd/scatterd/model/JobCounts" ∧ Fld Z h ob "com/example/scatterd/scatterd/model/JobCounts" "jobs" "I" (.int x0) ∧ Fld Z h ob "com/example/scatterd/scatterd/model/JobCounts" "succeeded" "I" (.int x1) ∧ Fld Z h ob "com/example/scatterd/scatterd/model/JobCounts" "failed" "I" (.int x2) ∧ Fld Z h ob "com/example/scatterd/scatterd/model/JobCounts" "errored" "I" (.int x3) ∧ Fld Z h ob "com/example/scatterd/scatterd/model/JobCounts" "cancelled" "I" (.int x4) ∧ Fld Z h ob "com/example/scatterd/scatterd/model/JobCounts" "ready" "I" (.int x5) ∧ Fld Z h ob "com/example/scatterd/scatterd/model/JobCounts" "running" "I" (.int x6)
set_option maxRecDepth 65536 in
set_option maxHeartbeats 40000000 in
theorem rm1 (l : Launch) (Z : State) (a0 : Array Value) (hw : ∀ d ∈ tables_1, d.before a0 Z = true) (ws : List Jvm.Cond) (ob : Addr) (x0 : Int32) (x1 : Int32) (x2 : Int32) (x3 : Int32) (x4 : Int32) (x5 : Int32) (x6 : Int32) (h0 : Heap) (n0 : Nat) (Z0 : n0 ≤ h0.size) (Ex : Exa Z h0 ob "com/example/scatterd/scatterd/model/JobCounts") (g0 : n0 ≤ ob) (Fi_jobs : Fld Z h0 ob "com/example/scatterd/scatterd/model/JobCounts" "jobs" "I" (.int (0 : Int32))) (Fi_succeeded : Fld Z h0 ob "com/example/scatterd/scatterd/model/JobCounts" "succeeded" "I" (.int (0 : Int32))) (Fi_failed : Fld Z h0 ob "com/example/scatterd/scatterd/model/JobCounts" "failed" "I" (.int (0 : Int32))) (Fi_errored : Fld Z h0 ob "com/example/scatterd/scatterd/model/JobCounts" "errored" "I" (.int (0 : Int32))) (Fi_cancelled : Fld Z h0 ob "com/example/scatterd/scatterd/model/JobCounts" "cancelled" "I" (.int (0 : Int32))) (Fi_ready : Fld Z h0 ob "com/example/scatterd/scatterd/model/JobCounts" "ready" "I" (.int (0 : Int32))) (Fi_running : Fld Z h0 ob "com/example/scatterd/scatterd/model/JobCounts" "running" "I" (.int (0 : Int32))) :
    MetFree l (⟨"com/example/scatterd/scatterd/model/JobCounts", "<init>", "(IIIIIII)V"⟩ : MethodName) (head1 (Jvm.Cond.code (⟨"com/example/scatterd/scatterd/model/JobCounts", "<init>", "(IIIIIII)V"⟩ : MethodName) prog_28_method_1_code 8 none :: ws) ({ frames := 2, cells := 0, slots := 0, locals := 24 } : Room)) (fun a U => a = #[(.ref ob), (.int x0), (.int x1), (.int x2), (.int x3), (.int x4), (.int x5), (.int x6)] ∧ Z.Warmed39 U.vm ∧ U.heap = h0) (fun _ _ _ _ _ => True) (fun _ U o U' => ∃ v L, o = .returned v ∧ Q_rm1 Z ob x0 x1 x2 x3 x4 x5 x6 h0 n0 v U'.heap L ∧ FrameEnd U o U' L ({ frames := 2, cells := 0, slots := 0, locals := 24 } : Room).cells ({ frames := 2, cells := 0, slots := 0, locals := 24 } : Room).slots) := by
  refine own_enter (Q := Q_rm1 Z ob x0 x1 x2 x3 x4 x5 x6 h0 n0) (plainFor_of_name pn_com_example_scatterd_scatterd_model_JobCounts) ?_
  intro p e s m below meth c s₁ G X0 hx hby hml hZ hown hnm hret e0 go fin
  replace hown : s.vm.findClass "com/example/scatterd/scatterd/model/JobCounts" = some m.cls := hown
  replace hnm : meth.name = "<init>" := hnm
  replace hml : c.maxLocals = 8 := hml
  rw [ef_1 m ob x0 x1 x2 x3 x4 x5 x6]
  have N0 := Fr.nil n0
  show G (s₁.setTop (mkF m 0 #[.val (.ref ob), .val (.int x0), .val (.int x1), .val (.int x2), .val (.int x3), .val (.int x4), .val (.int x5), .val (.int x6)] []))
  refine go (fun tg kg => XS.aloadN X0.here hx rfl (hb hby d1_0) rfl rfl kg) ?_
  show G (s₁.setTop (mkF m 1 #[.val (.ref ob), .val (.int x0), .val (.int x1), .val (.int x2), .val (.int x3), .val (.int x4), .val (.int x5), .val (.int x6)] [(.ref ob)]))
  obtain ⟨_, _, ⟨T1, L1, k1, n1⟩, -, X1, ⟨Lc1, hQ1, l1, y1, z1⟩, st1⟩ := X0.specialBack hx (y := (⟨"java/lang/Record", "<init>", "()V"⟩ : MethodName)) rfl hown (mvT hZ (hw _ (List.mem_of_getElem? (i := 6) rfl))) (mvT hZ (hw _ (List.mem_of_getElem? (i := 7) rfl))) (mvT hZ (hw _ (List.mem_of_getElem? (i := 10) rfl))) (by decide) (backOf (W := 0) (rm2 l Z a0 hw [] ob h0 n0 Z0 ) hZ (hw _ (List.mem_of_getElem? (i := 10) rfl)) (hw _ (List.mem_of_getElem? (i := 9) rfl)) (by decide) (by decide)) (g := (mkF m 1 #[.val (.ref ob), .val (.int x0), .val (.int x1), .val (.int x2), .val (.int x3), .val (.int x4), .val (.int x5), .val (.int x6)] [(.ref ob)])) rfl (by rw [hml]; rfl) (Steps.refl _) (a := ob) (argsL := []) (rest := []) (lenOf pd___V rfl) rfl (by show 2 * 0 + _ ≤ _; exact Nat.le_of_eq rfl) (hb hby d1_1) (fun _ _ => ⟨rfl, e0, (by decide : 0 + 0 ≤ _), (by decide : 0 + 0 ≤ _)⟩)
  dsimp only [Pt.U, Pt.locs, Pt.cells, Pt.slots] at X1 l1 y1 z1 st1 hQ1
  subst l1 y1 z1
  obtain ⟨rfl, Nq1, e1⟩ := hQ1
  have N1 := Fr.app N0 Nq1
  refine go (fun tg kg => st1.trans kg) ?_
  show G (T1.setTop (mkF m 4 #[.val (.ref ob), .val (.int x0), .val (.int x1), .val (.int x2), .val (.int x3), .val (.int x4), .val (.int x5), .val (.int x6)] []))
  refine go (fun tg kg => XS.aloadN X1.here hx rfl (hb hby d1_4) rfl rfl kg) ?_
  show G (T1.setTop (mkF m 5 #[.val (.ref ob), .val (.int x0), .val (.int x1), .val (.int x2), .val (.int x3), .val (.int x4), .val (.int x5), .val (.int x6)] [(.ref ob)]))
  refine go (fun tg kg => XS.iloadN X1.here hx rfl (hb hby d1_5) rfl kg) ?_
  show G (T1.setTop (mkF m 6 #[.val (.ref ob), .val (.int x0), .val (.int x1), .val (.int x2), .val (.int x3), .val (.int x4), .val (.int x5), .val (.int x6)] [(.int x0), (.ref ob)]))
  obtain ⟨T2, h2, X2, e2, W2, st2⟩ := putF X1 hx hZ hown (host := "") (Or.inl (hw _ (List.mem_of_getElem? (i := 14) rfl))) Via.refl e1 Fi_jobs Ex (Or.inr ⟨(hw _ (List.mem_of_getElem? (i := 15) rfl)), rfl, hnm⟩) (hw _ (List.mem_of_getElem? (i := 1) rfl)) (ty := .int) (by decide) rfl rfl (g := (mkF m 6 #[.val (.ref ob), .val (.int x0), .val (.int x1), .val (.int x2), .val (.int x3), .val (.int x4), .val (.int x5), .val (.int x6)] [(.int x0), (.ref ob)])) rfl rfl (hb hby d1_6)
  refine go st2 ?_
  have Fw2 : Fld Z h2 ob "com/example/scatterd/scatterd/model/JobCounts" "jobs" "I" (.int x0) := Fi_jobs.same W2
  have N2 := Fr.snoc X2 N1 g0
  have K2 : Keep h0 h2 [ob] := (Keep.refl h0 [ob]).wr W2 (Or.inl (List.mem_of_getElem? (i := 0) rfl))
  have Z2 := Nat.le_trans Z0 (Keep.of_wr W2).1
  show G (T2.setTop (mkF m 9 #[.val (.ref ob), .val (.int x0), .val (.int x1), .val (.int x2), .val (.int x3), .val (.int x4), .val (.int x5), .val (.int x6)] []))
  refine go (fun tg kg => XS.aloadN X2.here hx rfl (hb hby d1_9) rfl rfl kg) ?_
  show G (T2.setTop (mkF m 10 #[.val (.ref ob), .val (.int x0), .val (.int x1), .val (.int x2), .val (.int x3), .val (.int x4), .val (.int x5), .val (.int x6)] [(.ref ob)]))
  refine go (fun tg kg => XS.iloadN X2.here hx rfl (hb hby d1_10) rfl kg) ?_
  show G (T2.setTop (mkF m 11 #[.val (.ref ob), .val (.int x0), .val (.int x1), .val (.int x2), .val (.int x3), .val (.int x4), .val (.int x5), .val (.int x6)] [(.int x1), (.ref ob)]))
  have Fa3 := (Ex.wr W2)
  have Fa4 := (Fi_succeeded.other W2 (Or.inr (slot_ne (Or.inr (hw _ (List.mem_of_getElem? (i := 17) rfl))) (Or.inr (hw _ (List.mem_of_getElem? (i := 15) rfl))) (by decide) (t := .int) (t' := .int) (by decide) (by decide))))
  obtain ⟨T5, h5, X5, e5, W5, st5⟩ := putF X2 hx hZ hown (host := "") (Or.inl (hw _ (List.mem_of_getElem? (i := 16) rfl))) Via.refl e2 Fa4 Fa3 (Or.inr ⟨(hw _ (List.mem_of_getElem? (i := 17) rfl)), rfl, hnm⟩) (hw _ (List.mem_of_getElem? (i := 1) rfl)) (ty := .int) (by decide) rfl rfl (g := (mkF m 11 #[.val (.ref ob), .val (.int x0), .val (.int x1), .val (.int x2), .val (.int x3), .val (.int x4), .val (.int x5), .val (.int x6)] [(.int x1), (.ref ob)])) rfl rfl (hb hby d1_11)
  refine go st5 ?_
  have Fw5 : Fld Z h5 ob "com/example/scatterd/scatterd/model/JobCounts" "succeeded" "I" (.int x1) := Fa4.same W5
  have N5 := Fr.snoc X5 N2 g0
  have K5 : Keep h0 h5 [ob] := K2.wr W5 (Or.inl (List.mem_of_getElem? (i := 0) rfl))
  have Z5 := Nat.le_trans Z2 (Keep.of_wr W5).1
  show G (T5.setTop (mkF m 14 #[.val (.ref ob), .val (.int x0), .val (.int x1), .val (.int x2), .val (.int x3), .val (.int x4), .val (.int x5), .val (.int x6)] []))
  refine go (fun tg kg => XS.aloadN X5.here hx rfl (hb hby d1_14) rfl rfl kg) ?_
  show G (T5.setTop (mkF m 15 #[.val (.ref ob), .val (.int x0), .val (.int x1), .val (.int x2), .val (.int x3), .val (.int x4), .val (.int x5), .val (.int x6)] [(.ref ob)]))
  refine go (fun tg kg => XS.iloadN X5.here hx rfl (hb hby d1_15) rfl kg) ?_
  show G (T5.setTop (mkF m 16 #[.val (.ref ob), .val (.int x0), .val (.int x1), .val (.int x2), .val (.int x3), .val (.int x4), .val (.int x5), .val (.int x6)] [(.int x2), (.ref ob)]))
  have Fa6 := (Fa3.wr W5)
  have Fa7 := ((Fi_failed.other W2 (Or.inr (slot_ne (Or.inr (hw _ (List.mem_of_getElem? (i := 19) rfl))) (Or.inr (hw _ (List.mem_of_getElem? (i := 15) rfl))) (by decide) (t := .int) (t' := .int) (by decide) (by decide)))).other W5 (Or.inr (slot_ne (Or.inr (hw _ (List.mem_of_getElem? (i := 19) rfl))) (Or.inr (hw _ (List.mem_of_getElem? (i := 17) rfl))) (by decide) (t := .int) (t' := .int) (by decide) (by decide))))
  obtain ⟨T8, h8, X8, e8, W8, st8⟩ := putF X5 hx hZ hown (host := "") (Or.inl (hw _ (List.mem_of_getElem? (i := 18) rfl))) Via.refl e5 Fa7 Fa6 (Or.inr ⟨(hw _ (List.mem_of_getElem? (i := 19) rfl)), rfl, hnm⟩) (hw _ (List.mem_of_getElem? (i := 1) rfl)) (ty := .int) (by decide) rfl rfl (g := (mkF m 16 #[.val (.ref ob), .val (.int x0), .val (.int x1), .val (.int x2), .val (.int x3), .val (.int x4), .val (.int x5), .val (.int x6)] [(.int x2), (.ref ob)])) rfl rfl (hb hby d1_16)
  refine go st8 ?_
  have Fw8 : Fld Z h8 ob "com/example/scatterd/scatterd/model/JobCounts" "failed" "I" (.int x2) := Fa7.same W8
  have N8 := Fr.snoc X8 N5 g0
  have K8 : Keep h0 h8 [ob] := K5.wr W8 (Or.inl (List.mem_of_getElem? (i := 0) rfl))
  have Z8 := Nat.le_trans Z5 (Keep.of_wr W8).1
  show G (T8.setTop (mkF m 19 #[.val (.ref ob), .val (.int x0), .val (.int x1), .val (.int x2), .val (.int x3), .val (.int x4), .val (.int x5), .val (.int x6)] []))
  refine go (fun tg kg => XS.aloadN X8.here hx rfl (hb hby d1_19) rfl rfl kg) ?_
  show G (T8.setTop (mkF m 20 #[.val (.ref ob), .val (.int x0), .val (.int x1), .val (.int x2), .val (.int x3), .val (.int x4), .val (.int x5), .val (.int x6)] [(.ref ob)]))
  refine go (fun tg kg => XS.iload X8.here hx rfl (hb hby d1_20) rfl kg) ?_
  show G (T8.setTop (mkF m 22 #[.val (.ref ob), .val (.int x0), .val (.int x1), .val (.int x2), .val (.int x3), .val (.int x4), .val (.int x5), .val (.int x6)] [(.int x3), (.ref ob)]))
  have Fa9 := (Fa6.wr W8)
  have Fa10 := (((Fi_errored.other W2 (Or.inr (slot_ne (Or.inr (hw _ (List.mem_of_getElem? (i := 21) rfl))) (Or.inr (hw _ (List.mem_of_getElem? (i := 15) rfl))) (by decide) (t := .int) (t' := .int) (by decide) (by decide)))).other W5 (Or.inr (slot_ne (Or.inr (hw _ (List.mem_of_getElem? (i := 21) rfl))) (Or.inr (hw _ (List.mem_of_getElem? (i := 17) rfl))) (by decide) (t := .int) (t' := .int) (by decide) (by decide)))).other W8 (Or.inr (slot_ne (Or.inr (hw _ (List.mem_of_getElem? (i := 21) rfl))) (Or.inr (hw _ (List.mem_of_getElem? (i := 19) rfl))) (by decide) (t := .int) (t' := .int) (by decide) (by decide))))
  obtain ⟨T11, h11, X11, e11, W11, st11⟩ := putF X8 hx hZ hown (host := "") (Or.inl (hw _ (List.mem_of_getElem? (i := 20) rfl))) Via.refl e8 Fa10 Fa9 (Or.inr ⟨(hw _ (List.mem_of_getElem? (i := 21) rfl)), rfl, hnm⟩) (hw _ (List.mem_of_getElem? (i := 1) rfl)) (ty := .int) (by decide) rfl rfl (g := (mkF m 22 #[.val (.ref ob), .val (.int x0), .val (.int x1), .val (.int x2), .val (.int x3), .val (.int x4), .val (.int x5), .val (.int x6)] [(.int x3), (.ref ob)])) rfl rfl (hb hby d1_22)
  refine go st11 ?_
  have Fw11 : Fld Z h11 ob "com/example/scatterd/scatterd/model/JobCounts" "errored" "I" (.int x3) := Fa10.same W11
  have N11 := Fr.snoc X11 N8 g0
  have K11 : Keep h0 h11 [ob] := K8.wr W11 (Or.inl (List.mem_of_getElem? (i := 0) rfl))
  have Z11 := Nat.le_trans Z8 (Keep.of_wr W11).1
  show G (T11.setTop (mkF m 25 #[.val (.ref ob), .val (.int x0), .val (.int x1), .val (.int x2), .val (.int x3), .val (.int x4), .val (.int x5), .val (.int x6)] []))
  refine go (fun tg kg => XS.aloadN X11.here hx rfl (hb hby d1_25) rfl rfl kg) ?_
  show G (T11.setTop (mkF m 26 #[.val (.ref ob), .val (.int x0), .val (.int x1), .val (.int x2), .val (.int x3), .val (.int x4), .val (.int x5), .val (.int x6)] [(.ref ob)]))
  refine go (fun tg kg => XS.iload X11.here hx rfl (hb hby d1_26) rfl kg) ?_
  show G (T11.setTop (mkF m 28 #[.val (.ref ob), .val (.int x0), .val (.int x1), .val (.int x2), .val (.int x3), .val (.int x4), .val (.int x5), .val (.int x6)] [(.int x4), (.ref ob)]))
  have Fa12 := (Fa9.wr W11)
  have Fa13 := ((((Fi_cancelled.other W2 (Or.inr (slot_ne (Or.inr (hw _ (List.mem_of_getElem? (i := 23) rfl))) (Or.inr (hw _ (List.mem_of_getElem? (i := 15) rfl))) (by decide) (t := .int) (t' := .int) (by decide) (by decide)))).other W5 (Or.inr (slot_ne (Or.inr (hw _ (List.mem_of_getElem? (i := 23) rfl))) (Or.inr (hw _ (List.mem_of_getElem? (i := 17) rfl))) (by decide) (t := .int) (t' := .int) (by decide) (by decide)))).other W8 (Or.inr (slot_ne (Or.inr (hw _ (List.mem_of_getElem? (i := 23) rfl))) (Or.inr (hw _ (List.mem_of_getElem? (i := 19) rfl))) (by decide) (t := .int) (t' := .int) (by decide) (by decide)))).other W11 (Or.inr (slot_ne (Or.inr (hw _ (List.mem_of_getElem? (i := 23) rfl))) (Or.inr (hw _ (List.mem_of_getElem? (i := 21) rfl))) (by decide) (t := .int) (t' := .int) (by decide) (by decide))))
  obtain ⟨T14, h14, X14, e14, W14, st14⟩ := putF X11 hx hZ hown (host := "") (Or.inl (hw _ (List.mem_of_getElem? (i := 22) rfl))) Via.refl e11 Fa13 Fa12 (Or.inr ⟨(hw _ (List.mem_of_getElem? (i := 23) rfl)), rfl, hnm⟩) (hw _ (List.mem_of_getElem? (i := 1) rfl)) (ty := .int) (by decide) rfl rfl (g := (mkF m 28 #[.val (.ref ob), .val (.int x0), .val (.int x1), .val (.int x2), .val (.int x3), .val (.int x4), .val (.int x5), .val (.int x6)] [(.int x4), (.ref ob)])) rfl rfl (hb hby d1_28)
  refine go st14 ?_
  have Fw14 : Fld Z h14 ob "com/example/scatterd/scatterd/model/JobCounts" "cancelled" "I" (.int x4) := Fa13.same W14
  have N14 := Fr.snoc X14 N11 g0
  have K14 : Keep h0 h14 [ob] := K11.wr W14 (Or.inl (List.mem_of_getElem? (i := 0) rfl))
  have Z14 := Nat.le_trans Z11 (Keep.of_wr W14).1
  show G (T14.setTop (mkF m 31 #[.val (.ref ob), .val (.int x0), .val (.int x1), .val (.int x2), .val (.int x3), .val (.int x4), .val (.int x5), .val (.int x6)] []))
  refine go (fun tg kg => XS.aloadN X14.here hx rfl (hb hby d1_31) rfl rfl kg) ?_
  show G (T14.setTop (mkF m 32 #[.val (.ref ob), .val (.int x0), .val (.int x1), .val (.int x2), .val (.int x3), .val (.int x4), .val (.int x5), .val (.int x6)] [(.ref ob)]))
  refine go (fun tg kg => XS.iload X14.here hx rfl (hb hby d1_32) rfl kg) ?_
  show G (T14.setTop (mkF m 34 #[.val (.ref ob), .val (.int x0), .val (.int x1), .val (.int x2), .val (.int x3), .val (.int x4), .val (.int x5), .val (.int x6)] [(.int x5), (.ref ob)]))
  have Fa15 := (Fa12.wr W14)
  have Fa16 := (((((Fi_ready.other W2 (Or.inr (slot_ne (Or.inr (hw _ (List.mem_of_getElem? (i := 25) rfl))) (Or.inr (hw _ (List.mem_of_getElem? (i := 15) rfl))) (by decide) (t := .int) (t' := .int) (by decide) (by decide)))).other W5 (Or.inr (slot_ne (Or.inr (hw _ (List.mem_of_getElem? (i := 25) rfl))) (Or.inr (hw _ (List.mem_of_getElem? (i := 17) rfl))) (by decide) (t := .int) (t' := .int) (by decide) (by decide)))).other W8 (Or.inr (slot_ne (Or.inr (hw _ (List.mem_of_getElem? (i := 25) rfl))) (Or.inr (hw _ (List.mem_of_getElem? (i := 19) rfl))) (by decide) (t := .int) (t' := .int) (by decide) (by decide)))).other W11 (Or.inr (slot_ne (Or.inr (hw _ (List.mem_of_getElem? (i := 25) rfl))) (Or.inr (hw _ (List.mem_of_getElem? (i := 21) rfl))) (by decide) (t := .int) (t' := .int) (by decide) (by decide)))).other W14 (Or.inr (slot_ne (Or.inr (hw _ (List.mem_of_getElem? (i := 25) rfl))) (Or.inr (hw _ (List.mem_of_getElem? (i := 23) rfl))) (by decide) (t := .int) (t' := .int) (by decide) (by decide))))
  obtain ⟨T17, h17, X17, e17, W17, st17⟩ := putF X14 hx hZ hown (host := "") (Or.inl (hw _ (List.mem_of_getElem? (i := 24) rfl))) Via.refl e14 Fa16 Fa15 (Or.inr ⟨(hw _ (List.mem_of_getElem? (i := 25) rfl)), rfl, hnm⟩) (hw _ (List.mem_of_getElem? (i := 1) rfl)) (ty := .int) (by decide) rfl rfl (g := (mkF m 34 #[.val (.ref ob), .val (.int x0), .val (.int x1), .val (.int x2), .val (.int x3), .val (.int x4), .val (.int x5), .val (.int x6)] [(.int x5), (.ref ob)])) rfl rfl (hb hby d1_34)
  refine go st17 ?_
  have Fw17 : Fld Z h17 ob "com/example/scatterd/scatterd/model/JobCounts" "ready" "I" (.int x5) := Fa16.same W17
  have N17 := Fr.snoc X17 N14 g0
  have K17 : Keep h0 h17 [ob] := K14.wr W17 (Or.inl (List.mem_of_getElem? (i := 0) rfl))
  have Z17 := Nat.le_trans Z14 (Keep.of_wr W17).1
  show G (T17.setTop (mkF m 37 #[.val (.ref ob), .val (.int x0), .val (.int x1), .val (.int x2), .val (.int x3), .val (.int x4), .val (.int x5), .val (.int x6)] []))
  refine go (fun tg kg => XS.aloadN X17.here hx rfl (hb hby d1_37) rfl rfl kg) ?_
  show G (T17.setTop (mkF m 38 #[.val (.ref ob), .val (.int x0), .val (.int x1), .val (.int x2), .val (.int x3), .val (.int x4), .val (.int x5), .val (.int x6)] [(.ref ob)]))
  refine go (fun tg kg => XS.iload X17.here hx rfl (hb hby d1_38) rfl kg) ?_
  show G (T17.setTop (mkF m 40 #[.val (.ref ob), .val (.int x0), .val (.int x1), .val (.int x2), .val (.int x3), .val (.int x4), .val (.int x5), .val (.int x6)] [(.int x6), (.ref ob)]))
  have Fa18 := (Fa15.wr W17)
  have Fa19 := ((((((Fi_running.other W2 (Or.inr (slot_ne (Or.inr (hw _ (List.mem_of_getElem? (i := 27) rfl))) (Or.inr (hw _ (List.mem_of_getElem? (i := 15) rfl))) (by decide) (t := .int) (t' := .int) (by decide) (by decide)))).other W5 (Or.inr (slot_ne (Or.inr (hw _ (List.mem_of_getElem? (i := 27) rfl))) (Or.inr (hw _ (List.mem_of_getElem? (i := 17) rfl))) (by decide) (t := .int) (t' := .int) (by decide) (by decide)))).other W8 (Or.inr (slot_ne (Or.inr (hw _ (List.mem_of_getElem? (i := 27) rfl))) (Or.inr (hw _ (List.mem_of_getElem? (i := 19) rfl))) (by decide) (t := .int) (t' := .int) (by decide) (by decide)))).other W11 (Or.inr (slot_ne (Or.inr (hw _ (List.mem_of_getElem? (i := 27) rfl))) (Or.inr (hw _ (List.mem_of_getElem? (i := 21) rfl))) (by decide) (t := .int) (t' := .int) (by decide) (by decide)))).other W14 (Or.inr (slot_ne (Or.inr (hw _ (List.mem_of_getElem? (i := 27) rfl))) (Or.inr (hw _ (List.mem_of_getElem? (i := 23) rfl))) (by decide) (t := .int) (t' := .int) (by decide) (by decide)))).other W17 (Or.inr (slot_ne (Or.inr (hw _ (List.mem_of_getElem? (i := 27) rfl))) (Or.inr (hw _ (List.mem_of_getElem? (i := 25) rfl))) (by decide) (t := .int) (t' := .int) (by decide) (by decide))))
  obtain ⟨T20, h20, X20, e20, W20, st20⟩ := putF X17 hx hZ hown (host := "") (Or.inl (hw _ (List.mem_of_getElem? (i := 26) rfl))) Via.refl e17 Fa19 Fa18 (Or.inr ⟨(hw _ (List.mem_of_getElem? (i := 27) rfl)), rfl, hnm⟩) (hw _ (List.mem_of_getElem? (i := 1) rfl)) (ty := .int) (by decide) rfl rfl (g := (mkF m 40 #[.val (.ref ob), .val (.int x0), .val (.int x1), .val (.int x2), .val (.int x3), .val (.int x4), .val (.int x5), .val (.int x6)] [(.int x6), (.ref ob)])) rfl rfl (hb hby d1_40)
  refine go st20 ?_
  have Fw20 : Fld Z h20 ob "com/example/scatterd/scatterd/model/JobCounts" "running" "I" (.int x6) := Fa19.same W20
  have N20 := Fr.snoc X20 N17 g0
  have K20 : Keep h0 h20 [ob] := K17.wr W20 (Or.inl (List.mem_of_getElem? (i := 0) rfl))
  have Z20 := Nat.le_trans Z17 (Keep.of_wr W20).1
  show G (T20.setTop (mkF m 43 #[.val (.ref ob), .val (.int x0), .val (.int x1), .val (.int x2), .val (.int x3), .val (.int x4), .val (.int x5), .val (.int x6)] []))
  refine fin (none) X20 (fun h => rfl) (fun fs hr => X20.returnOut hx hret (hb hby d1_43) hr) (by decide) (by decide) ?_
  rw [e20]
  have Fa21 := (Fa18.wr W20)
  have Fa22 := ((((((Fw2.other W5 (Or.inr (slot_ne (Or.inr (hw _ (List.mem_of_getElem? (i := 15) rfl))) (Or.inr (hw _ (List.mem_of_getElem? (i := 17) rfl))) (by decide) (t := .int) (t' := .int) (by decide) (by decide)))).other W8 (Or.inr (slot_ne (Or.inr (hw _ (List.mem_of_getElem? (i := 15) rfl))) (Or.inr (hw _ (List.mem_of_getElem? (i := 19) rfl))) (by decide) (t := .int) (t' := .int) (by decide) (by decide)))).other W11 (Or.inr (slot_ne (Or.inr (hw _ (List.mem_of_getElem? (i := 15) rfl))) (Or.inr (hw _ (List.mem_of_getElem? (i := 21) rfl))) (by decide) (t := .int) (t' := .int) (by decide) (by decide)))).other W14 (Or.inr (slot_ne (Or.inr (hw _ (List.mem_of_getElem? (i := 15) rfl))) (Or.inr (hw _ (List.mem_of_getElem? (i := 23) rfl))) (by decide) (t := .int) (t' := .int) (by decide) (by decide)))).other W17 (Or.inr (slot_ne (Or.inr (hw _ (List.mem_of_getElem? (i := 15) rfl))) (Or.inr (hw _ (List.mem_of_getElem? (i := 25) rfl))) (by decide) (t := .int) (t' := .int) (by decide) (by decide)))).other W20 (Or.inr (slot_ne (Or.inr (hw _ (List.mem_of_getElem? (i := 15) rfl))) (Or.inr (hw _ (List.mem_of_getElem? (i := 27) rfl))) (by decide) (t := .int) (t' := .int) (by decide) (by decide))))
  have Fa23 := (((((Fw5.other W8 (Or.inr (slot_ne (Or.inr (hw _ (List.mem_of_getElem? (i := 17) rfl))) (Or.inr (hw _ (List.mem_of_getElem? (i := 19) rfl))) (by decide) (t := .int) (t' := .int) (by decide) (by decide)))).other W11 (Or.inr (slot_ne (Or.inr (hw _ (List.mem_of_getElem? (i := 17) rfl))) (Or.inr (hw _ (List.mem_of_getElem? (i := 21) rfl))) (by decide) (t := .int) (t' := .int) (by decide) (by decide)))).other W14 (Or.inr (slot_ne (Or.inr (hw _ (List.mem_of_getElem? (i := 17) rfl))) (Or.inr (hw _ (List.mem_of_getElem? (i := 23) rfl))) (by decide) (t := .int) (t' := .int) (by decide) (by decide)))).other W17 (Or.inr (slot_ne (Or.inr (hw _ (List.mem_of_getElem? (i := 17) rfl))) (Or.inr (hw _ (List.mem_of_getElem? (i := 25) rfl))) (by decide) (t := .int) (t' := .int) (by decide) (by decide)))).other W20 (Or.inr (slot_ne (Or.inr (hw _ (List.mem_of_getElem? (i := 17) rfl))) (Or.inr (hw _ (List.mem_of_getElem? (i := 27) rfl))) (by decide) (t := .int) (t' := .int) (by decide) (by decide))))
  have Fa24 := ((((Fw8.other W11 (Or.inr (slot_ne (Or.inr (hw _ (List.mem_of_getElem? (i := 19) rfl))) (Or.inr (hw _ (List.mem_of_getElem? (i := 21) rfl))) (by decide) (t := .int) (t' := .int) (by decide) (by decide)))).other W14 (Or.inr (slot_ne (Or.inr (hw _ (List.mem_of_getElem? (i := 19) rfl))) (Or.inr (hw _ (List.mem_of_getElem? (i := 23) rfl))) (by decide) (t := .int) (t' := .int) (by decide) (by decide)))).other W17 (Or.inr (slot_ne (Or.inr (hw _ (List.mem_of_getElem? (i := 19) rfl))) (Or.inr (hw _ (List.mem_of_getElem? (i := 25) rfl))) (by decide) (t := .int) (t' := .int) (by decide) (by decide)))).other W20 (Or.inr (slot_ne (Or.inr (hw _ (List.mem_of_getElem? (i := 19) rfl))) (Or.inr (hw _ (List.mem_of_getElem? (i := 27) rfl))) (by decide) (t := .int) (t' := .int) (by decide) (by decide))))
  have Fa25 := (((Fw11.other W14 (Or.inr (slot_ne (Or.inr (hw _ (List.mem_of_getElem? (i := 21) rfl))) (Or.inr (hw _ (List.mem_of_getElem? (i := 23) rfl))) (by decide) (t := .int) (t' := .int) (by decide) (by decide)))).other W17 (Or.inr (slot_ne (Or.inr (hw _ (List.mem_of_getElem? (i := 21) rfl))) (Or.inr (hw _ (List.mem_of_getElem? (i := 25) rfl))) (by decide) (t := .int) (t' := .int) (by decide) (by decide)))).other W20 (Or.inr (slot_ne (Or.inr (hw _ (List.mem_of_getElem? (i := 21) rfl))) (Or.inr (hw _ (List.mem_of_getElem? (i := 27) rfl))) (by decide) (t := .int) (t' := .int) (by decide) (by decide))))
  have Fa26 := ((Fw14.other W17 (Or.inr (slot_ne (Or.inr (hw _ (List.mem_of_getElem? (i := 23) rfl))) (Or.inr (hw _ (List.mem_of_getElem? (i := 25) rfl))) (by decide) (t := .int) (t' := .int) (by decide) (by decide)))).other W20 (Or.inr (slot_ne (Or.inr (hw _ (List.mem_of_getElem? (i := 23) rfl))) (Or.inr (hw _ (List.mem_of_getElem? (i := 27) rfl))) (by decide) (t := .int) (t' := .int) (by decide) (by decide))))
  have Fa27 := (Fw17.other W20 (Or.inr (slot_ne (Or.inr (hw _ (List.mem_of_getElem? (i := 25) rfl))) (Or.inr (hw _ (List.mem_of_getElem? (i := 27) rfl))) (by decide) (t := .int) (t' := .int) (by decide) (by decide))))
  exact ⟨rfl, N20, K20, Fa21, Fa22, Fa23, Fa24, Fa25, Fa26, Fa27, Fw20⟩
theorem ef_4 (m : MethodId) (x0 : Addr) : entryFrame m #[(.ref x0)] 1 = mkF m 0 #[.val (.ref x0)] [] := by first | (simp [entryFrame, mkF, argsToLocals, Value.category]; done) | rfl
theorem d4_0 : decode prog_28_method_2_code 0 = .ok (.aload_n 0, 1) := by decide +kernel
theorem d4_1 : decode prog_28_method_2_code 1 = .ok (.getfield 13, 3) := by decide +kernel
theorem d4_4 : decode prog_28_method_2_code 4 = .ok (.aload_n 0, 1) := by decide +kernel
theorem d4_5 : decode prog_28_method_2_code 5 = .ok (.getfield 16, 3) := by decide +kernel
theorem d4_8 : decode prog_28_method_2_code 8 = .ok (.iadd, 1) := by decide +kernel
theorem d4_9 : decode prog_28_method_2_code 9 = .ok (.aload_n 0, 1) := by decide +kernel
theorem d4_10 : decode prog_28_method_2_code 10 = .ok (.getfield 19, 3) := by decide +kernel
theorem d4_13 : decode prog_28_method_2_code 13 = .ok (.iadd, 1) := by decide +kernel
theorem d4_14 : decode prog_28_method_2_code 14 = .ok (.aload_n 0, 1) := by decide +kernel
theorem d4_15 : decode prog_28_method_2_code 15 = .ok (.getfield 22, 3) := by decide +kernel
theorem d4_18 : decode prog_28_method_2_code 18 = .ok (.iadd, 1) := by decide +kernel
theorem d4_19 : decode prog_28_method_2_code 19 = .ok (.ireturn, 1) := by decide +kernel
def Q_rm4 (Z : State) (ob : Addr) (y_succeeded : Int32) (y_failed : Int32) (y_errored : Int32) (y_cancelled : Int32) (h0 : Heap) (n0 : Nat) (v : Option Value) (h : Heap) (L : List Loc) : Prop := v = some (.int (((y_succeeded + y_failed) + y_errored) + y_cancelled)) ∧ Fr n0 L ∧ h = h0
set_option maxRecDepth 65536 in
set_option maxHeartbeats 40000000 in
theorem rm4 (l : Launch) (Z : State) (a0 : Array Value) (hw : ∀ d ∈ tables_1, d.before a0 Z = true) (ws : List Jvm.Cond) (ob : Addr) (y_succeeded : Int32) (y_failed : Int32) (y_errored : Int32) (y_cancelled : Int32) (h0 : Heap) (n0 : Nat) (Z0 : n0 ≤ h0.size) (Ex : Exa Z h0 ob "com/example/scatterd/scatterd/model/JobCounts") (Fi_succeeded : Fld Z h0 ob "com/example/scatterd/scatterd/model/JobCounts" "succeeded" "I" (.int y_succeeded)) (Fi_failed : Fld Z h0 ob "com/example/scatterd/scatterd/model/JobCounts" "failed" "I" (.int y_failed)) (Fi_errored : Fld Z h0 ob "com/example/scatterd/scatterd/model/JobCounts" "errored" "I" (.int y_errored)) (Fi_cancelled : Fld Z h0 ob "com/example/scatterd/scatterd/model/JobCounts" "cancelled" "I" (.int y_cancelled)) :
    MetFree l (⟨"com/example/scatterd/scatterd/model/JobCounts", "completed", "()I"⟩ : MethodName) (head1 (Jvm.Cond.code (⟨"com/example/scatterd/scatterd/model/JobCounts", "completed", "()I"⟩ : MethodName) prog_28_method_2_code 1 (some .int) :: ws) ({ frames := 0, cells := 0, slots := 0, locals := 0 } : Room)) (fun a U => a = #[(.ref ob)] ∧ Z.Warmed39 U.vm ∧ U.heap = h0) (fun _ _ _ _ _ => True) (fun _ U o U' => ∃ v L, o = .returned v ∧ Q_rm4 Z ob y_succeeded y_failed y_errored y_cancelled h0 n0 v U'.heap L ∧ FrameEnd U o U' L ({ frames := 0, cells := 0, slots := 0, locals := 0 } : Room).cells ({ frames := 0, cells := 0, slots := 0, locals := 0 } : Room).slots) := by
  refine own_enter (Q := Q_rm4 Z ob y_succeeded y_failed y_errored y_cancelled h0 n0) (plainFor_of_name pn_com_example_scatterd_scatterd_model_JobCounts) ?_
  intro p e s m below meth c s₁ G X0 hx hby hml hZ hown hnm hret e0 go fin
  replace hown : s.vm.findClass "com/example/scatterd/scatterd/model/JobCounts" = some m.cls := hown
  replace hnm : meth.name = "completed" := hnm
  replace hml : c.maxLocals = 1 := hml
  rw [ef_4 m ob]
  have N0 := Fr.nil n0
  show G (s₁.setTop (mkF m 0 #[.val (.ref ob)] []))
  refine go (fun tg kg => XS.aloadN X0.here hx rfl (hb hby d4_0) rfl rfl kg) ?_
  show G (s₁.setTop (mkF m 1 #[.val (.ref ob)] [(.ref ob)]))
  obtain ⟨T1, X1, e1, st1⟩ := getF X0 hx hZ hown (host := "") (Or.inl (hw _ (List.mem_of_getElem? (i := 16) rfl))) Via.refl e0 Fi_succeeded (g := (mkF m 1 #[.val (.ref ob)] [(.ref ob)])) rfl rfl (hb hby d4_1)
  refine go st1 ?_
  show G (T1.setTop (mkF m 4 #[.val (.ref ob)] [(.int y_succeeded)]))
  refine go (fun tg kg => XS.aloadN X1.here hx rfl (hb hby d4_4) rfl rfl kg) ?_
  show G (T1.setTop (mkF m 5 #[.val (.ref ob)] [(.ref ob), (.int y_succeeded)]))
  obtain ⟨T2, X2, e2, st2⟩ := getF X1 hx hZ hown (host := "") (Or.inl (hw _ (List.mem_of_getElem? (i := 18) rfl))) Via.refl e1 Fi_failed (g := (mkF m 5 #[.val (.ref ob)] [(.ref ob), (.int y_succeeded)])) rfl rfl (hb hby d4_5)
  refine go st2 ?_
  show G (T2.setTop (mkF m 8 #[.val (.ref ob)] [(.int y_failed), (.int y_succeeded)]))
  refine go (fun tg kg => XS.iadd X2.here hx rfl (hb hby d4_8) rfl kg) ?_
  show G (T2.setTop (mkF m 9 #[.val (.ref ob)] [(.int (y_succeeded + y_failed))]))
  refine go (fun tg kg => XS.aloadN X2.here hx rfl (hb hby d4_9) rfl rfl kg) ?_
  show G (T2.setTop (mkF m 10 #[.val (.ref ob)] [(.ref ob), (.int (y_succeeded + y_failed))]))
  obtain ⟨T3, X3, e3, st3⟩ := getF X2 hx hZ hown (host := "") (Or.inl (hw _ (List.mem_of_getElem? (i := 20) rfl))) Via.refl e2 Fi_errored (g := (mkF m 10 #[.val (.ref ob)] [(.ref ob), (.int (y_succeeded + y_failed))])) rfl rfl (hb hby d4_10)
  refine go st3 ?_
  show G (T3.setTop (mkF m 13 #[.val (.ref ob)] [(.int y_errored), (.int (y_succeeded + y_failed))]))
  refine go (fun tg kg => XS.iadd X3.here hx rfl (hb hby d4_13) rfl kg) ?_
  show G (T3.setTop (mkF m 14 #[.val (.ref ob)] [(.int ((y_succeeded + y_failed) + y_errored))]))
  refine go (fun tg kg => XS.aloadN X3.here hx rfl (hb hby d4_14) rfl rfl kg) ?_
  show G (T3.setTop (mkF m 15 #[.val (.ref ob)] [(.ref ob), (.int ((y_succeeded + y_failed) + y_errored))]))
  obtain ⟨T4, X4, e4, st4⟩ := getF X3 hx hZ hown (host := "") (Or.inl (hw _ (List.mem_of_getElem? (i := 22) rfl))) Via.refl e3 Fi_cancelled (g := (mkF m 15 #[.val (.ref ob)] [(.ref ob), (.int ((y_succeeded + y_failed) + y_errored))])) rfl rfl (hb hby d4_15)
  refine go st4 ?_
  show G (T4.setTop (mkF m 18 #[.val (.ref ob)] [(.int y_cancelled), (.int ((y_succeeded + y_failed) + y_errored))]))
  refine go (fun tg kg => XS.iadd X4.here hx rfl (hb hby d4_18) rfl kg) ?_
  show G (T4.setTop (mkF m 19 #[.val (.ref ob)] [(.int (((y_succeeded + y_failed) + y_errored) + y_cancelled))]))
  refine fin (some (.int (((y_succeeded + y_failed) + y_errored) + y_cancelled))) X4 (fun h => absurd h (by decide)) (fun fs hr => retOut X4 hx hret rfl (Or.inl ⟨rfl, Or.inl rfl, _, rfl⟩) (hb hby d4_19) hr) (by decide) (by decide) ?_
  rw [e4]
  exact ⟨rfl, N0, rfl⟩
theorem ef_5 (m : MethodId) (x0 : Addr) : entryFrame m #[(.ref x0)] 1 = mkF m 0 #[.val (.ref x0)] [] := by first | (simp [entryFrame, mkF, argsToLocals, Value.category]; done) | rfl
theorem d5_0 : decode prog_28_method_3_code 0 = .ok (.aload_n 0, 1) := by decide +kernel
theorem d5_1 : decode prog_28_method_3_code 1 = .ok (.invokevirtual 31, 3) := by decide +kernel
theorem pd___I : parseMethodDescriptor "()I" = some ⟨[], some .int⟩ := by decide +kernel
theorem d5_4 : decode prog_28_method_3_code 4 = .ok (.aload_n 0, 1) := by decide +kernel
theorem d5_5 : decode prog_28_method_3_code 5 = .ok (.getfield 7, 3) := by decide +kernel
theorem d5_8 : decode prog_28_method_3_code 8 = .ok (.if_icmp .ne 7, 3) := by decide +kernel
theorem d5_11 : decode prog_28_method_3_code 11 = .ok (.iconst 1, 1) := by decide +kernel
theorem d5_12 : decode prog_28_method_3_code 12 = .ok (.goto 4, 3) := by decide +kernel
theorem d5_16 : decode prog_28_method_3_code 16 = .ok (.ireturn, 1) := by decide +kernel
theorem d5_15 : decode prog_28_method_3_code 15 = .ok (.iconst 0, 1) := by decide +kernel
def Q_rm5 (Z : State) (ob : Addr) (y_succeeded : Int32) (y_failed : Int32) (y_errored : Int32) (y_cancelled : Int32) (y_jobs : Int32) (h0 : Heap) (n0 : Nat) (v : Option Value) (h : Heap) (L : List Loc) : Prop := v = some (.int (own_cmp (((y_succeeded + y_failed) + y_errored) + y_cancelled) y_jobs)) ∧ Fr n0 L ∧ h = h0
set_option maxRecDepth 65536 in
set_option maxHeartbeats 40000000 in
theorem rm5 (l : Launch) (Z : State) (a0 : Array Value) (hw : ∀ d ∈ tables_1, d.before a0 Z = true) (ws : List Jvm.Cond) (ob : Addr) (y_succeeded : Int32) (y_failed : Int32) (y_errored : Int32) (y_cancelled : Int32) (y_jobs : Int32) (h0 : Heap) (n0 : Nat) (Z0 : n0 ≤ h0.size) (Ex : Exa Z h0 ob "com/example/scatterd/scatterd/model/JobCounts") (Fi_succeeded : Fld Z h0 ob "com/example/scatterd/scatterd/model/JobCounts" "succeeded" "I" (.int y_succeeded)) (Fi_failed : Fld Z h0 ob "com/example/scatterd/scatterd/model/JobCounts" "failed" "I" (.int y_failed)) (Fi_errored : Fld Z h0 ob "com/example/scatterd/scatterd/model/JobCounts" "errored" "I" (.int y_errored)) (Fi_cancelled : Fld Z h0 ob "com/example/scatterd/scatterd/model/JobCounts" "cancelled" "I" (.int y_cancelled)) (Fi_jobs : Fld Z h0 ob "com/example/scatterd/scatterd/model/JobCounts" "jobs" "I" (.int y_jobs)) :
    MetFree l (⟨"com/example/scatterd/scatterd/model/JobCounts", "complete", "()Z"⟩ : MethodName) (head1 (Jvm.Cond.code (⟨"com/example/scatterd/scatterd/model/JobCounts", "complete", "()Z"⟩ : MethodName) prog_28_method_3_code 1 (some .boolean) :: ws) ({ frames := 1, cells := 0, slots := 0, locals := 12 } : Room)) (fun a U => a = #[(.ref ob)] ∧ Z.Warmed39 U.vm ∧ U.heap = h0) (fun _ _ _ _ _ => True) (fun _ U o U' => ∃ v L, o = .returned v ∧ Q_rm5 Z ob y_succeeded y_failed y_errored y_cancelled y_jobs h0 n0 v U'.heap L ∧ FrameEnd U o U' L ({ frames := 1, cells := 0, slots := 0, locals := 12 } : Room).cells ({ frames := 1, cells := 0, slots := 0, locals := 12 } : Room).slots) := by
  refine own_enter (Q := Q_rm5 Z ob y_succeeded y_failed y_errored y_cancelled y_jobs h0 n0) (plainFor_of_name pn_com_example_scatterd_scatterd_model_JobCounts) ?_
  intro p e s m below meth c s₁ G X0 hx hby hml hZ hown hnm hret e0 go fin
  replace hown : s.vm.findClass "com/example/scatterd/scatterd/model/JobCounts" = some m.cls := hown
  replace hnm : meth.name = "complete" := hnm
  replace hml : c.maxLocals = 1 := hml
  rw [ef_5 m ob]
  have N0 := Fr.nil n0
  show G (s₁.setTop (mkF m 0 #[.val (.ref ob)] []))
  refine go (fun tg kg => XS.aloadN X0.here hx rfl (hb hby d5_0) rfl rfl kg) ?_
  show G (s₁.setTop (mkF m 1 #[.val (.ref ob)] [(.ref ob)]))
  obtain ⟨cq1, kq1, q1a, q1b, q1c⟩ := isOf hZ e0 Ex
  obtain ⟨_, _, ⟨T1, L1, k1, n1⟩, -, X1, ⟨Lc1, hQ1, l1, y1, z1⟩, st1⟩ := X0.virtualBack hx (y := (⟨"com/example/scatterd/scatterd/model/JobCounts", "completed", "()I"⟩ : MethodName)) (z := (⟨"com/example/scatterd/scatterd/model/JobCounts", "completed", "()I"⟩ : MethodName)) hown (mvT hZ (hw _ (List.mem_of_getElem? (i := 38) rfl))) (mvT hZ (hw _ (List.mem_of_getElem? (i := 29) rfl))) (notFace_of_selects (args := #[]) (mvT hZ (hw _ (List.mem_of_getElem? (i := 31) rfl)))) (mvT hZ (hw _ (List.mem_of_getElem? (i := 31) rfl))) (mvT hZ (hw _ (List.mem_of_getElem? (i := 30) rfl))) (by decide) (backOf (W := 0) (rm4 l Z a0 hw [] ob y_succeeded y_failed y_errored y_cancelled h0 n0 Z0 Ex Fi_succeeded Fi_failed Fi_errored Fi_cancelled) hZ (hw _ (List.mem_of_getElem? (i := 32) rfl)) (hw _ (List.mem_of_getElem? (i := 2) rfl)) (by decide) (by decide)) q1a q1c (g := (mkF m 1 #[.val (.ref ob)] [(.ref ob)])) rfl (by rw [hml]; rfl) (Steps.refl _) (argsL := []) (rest := []) (lenOf pd___I rfl) rfl (by show 2 * 0 + _ ≤ _; exact Nat.le_of_eq rfl) (hb hby d5_1) (fun _ _ => ⟨rfl, e0, (by decide : 0 + 0 ≤ _), (by decide : 0 + 0 ≤ _)⟩)
  dsimp only [Pt.U, Pt.locs, Pt.cells, Pt.slots] at X1 l1 y1 z1 st1 hQ1
  subst l1 y1 z1
  obtain ⟨rfl, Nq1, e1⟩ := hQ1
  have N1 := Fr.app N0 Nq1
  refine go (fun tg kg => st1.trans kg) ?_
  show G (T1.setTop (mkF m 4 #[.val (.ref ob)] [(.int (((y_succeeded + y_failed) + y_errored) + y_cancelled))]))
  refine go (fun tg kg => XS.aloadN X1.here hx rfl (hb hby d5_4) rfl rfl kg) ?_
  show G (T1.setTop (mkF m 5 #[.val (.ref ob)] [(.ref ob), (.int (((y_succeeded + y_failed) + y_errored) + y_cancelled))]))
  obtain ⟨T2, X2, e2, st2⟩ := getF X1 hx hZ hown (host := "") (Or.inl (hw _ (List.mem_of_getElem? (i := 14) rfl))) Via.refl e1 Fi_jobs (g := (mkF m 5 #[.val (.ref ob)] [(.ref ob), (.int (((y_succeeded + y_failed) + y_errored) + y_cancelled))])) rfl rfl (hb hby d5_5)
  refine go st2 ?_
  show G (T2.setTop (mkF m 8 #[.val (.ref ob)] [(.int y_jobs), (.int (((y_succeeded + y_failed) + y_errored) + y_cancelled))]))
  by_cases hc3 : (((y_succeeded + y_failed) + y_errored) + y_cancelled) = y_jobs
  · refine go (fun tg kg => XS.icmpNo X2.here hx rfl (hb hby d5_8) rfl (teq hc3).2 kg) ?_
    show G (T2.setTop (mkF m 11 #[.val (.ref ob)] []))
    refine go (fun tg kg => XS.iconst X2.here hx rfl (hb hby d5_11) kg) ?_
    show G (T2.setTop (mkF m 12 #[.val (.ref ob)] [(.int (1 : Int32))]))
    refine go (fun tg kg => XS.goto X2.here hx rfl (pc0 := 12) (pc' := 16) rfl (hb hby d5_12) (by decide) (by decide) kg) ?_
    show G (T2.setTop (mkF m 16 #[.val (.ref ob)] [(.int (1 : Int32))]))
    refine fin (some (.int (1 : Int32))) X2 (fun h => absurd h (by decide)) (fun fs hr => retN X2 hx (t := .boolean) hret (by simp) (hb hby d5_16) hr) (by decide) (by decide) ?_
    rw [e2]
    exact ⟨by simp only [own_cmp, if_pos hc3], N1, rfl⟩
  · refine go (fun tg kg => XS.icmpYes X2.here hx rfl (pc0 := 8) (pc' := 15) rfl (hb hby d5_8) rfl (feq hc3).2 (by decide) (by decide) kg) ?_
    show G (T2.setTop (mkF m 15 #[.val (.ref ob)] []))
    refine go (fun tg kg => XS.iconst X2.here hx rfl (hb hby d5_15) kg) ?_
    show G (T2.setTop (mkF m 16 #[.val (.ref ob)] [(.int (0 : Int32))]))
    refine fin (some (.int (0 : Int32))) X2 (fun h => absurd h (by decide)) (fun fs hr => retN X2 hx (t := .boolean) hret (by simp) (hb hby d5_16) hr) (by decide) (by decide) ?_
    rw [e2]
    exact ⟨by simp only [own_cmp, if_neg hc3], N1, rfl⟩
theorem pn_com_example_scatterd_scatterd_model_JobCountsCompletedPinLaw : plainName "com/example/scatterd/scatterd/model/JobCountsCompletedPinLaw" = true := by first | (simp [plainName, overriddenIn]; done) | decide +kernel
theorem ef_0 (m : MethodId) (x0 : Int32) (x1 : Int32) (x2 : Int32) (x3 : Int32) (x4 : Int32) (x5 : Int64) : entryFrame m #[(.int x0), (.int x1), (.int x2), (.int x3), (.int x4), (.long x5)] maxLocals = mkF m 0 #[.val (.int x0), .val (.int x1), .val (.int x2), .val (.int x3), .val (.int x4), .val (.long x5), .second, .unset, .unset, .unset, .unset, .unset, .unset, .unset] [] := by first | (simp [entryFrame, mkF, argsToLocals, Value.category, maxLocals]; done) | rfl
theorem pd__IIIIIII_V : parseMethodDescriptor "(IIIIIII)V" = some ⟨[.int, .int, .int, .int, .int, .int, .int], none⟩ := by decide +kernel
theorem pd___Z : parseMethodDescriptor "()Z" = some ⟨[], some .boolean⟩ := by decide +kernel
def Q_rm0 (Z : State) (x0 : Int32) (x1 : Int32) (x2 : Int32) (x3 : Int32) (x4 : Int32) (x5 : Int64) (h0 : Heap) (n0 : Nat) (v : Option Value) (h : Heap) (L : List Loc) : Prop := v = some (.int 1) ∧ Fr n0 L
set_option maxRecDepth 65536 in
set_option maxHeartbeats 40000000 in
theorem rm0 (l : Launch) (Z : State) (a0 : Array Value) (hw : ∀ d ∈ tables_1, d.before a0 Z = true) (ws : List Jvm.Cond) (x0 : Int32) (x1 : Int32) (x2 : Int32) (x3 : Int32) (x4 : Int32) (x5 : Int64) (h0 : Heap) (n0 : Nat) (Z0 : n0 ≤ h0.size) :
    MetFree l x (head1 (Jvm.Cond.code x code maxLocals ret :: ws) room_1) (fun a U => a = #[(.int x0), (.int x1), (.int x2), (.int x3), (.int x4), (.long x5)] ∧ Z.Warmed39 U.vm ∧ U.heap = h0) (fun _ _ _ _ _ => True) (fun _ U o U' => ∃ v L, o = .returned v ∧ Q_rm0 Z x0 x1 x2 x3 x4 x5 h0 n0 v U'.heap L ∧ FrameEnd U o U' L room_1.cells room_1.slots) := by
  refine own_enter (Q := Q_rm0 Z x0 x1 x2 x3 x4 x5 h0 n0) (plainFor_of_name pn_com_example_scatterd_scatterd_model_JobCountsCompletedPinLaw) ?_
  intro p e s m below meth c s₁ G X0 hx hby hml hZ hown hnm hret e0 go fin
  replace hown : s.vm.findClass "com/example/scatterd/scatterd/model/JobCountsCompletedPinLaw" = some m.cls := hown
  replace hnm : meth.name = "law" := hnm
  replace hml : c.maxLocals = 14 := hml
  rw [ef_0 m x0 x1 x2 x3 x4 x5]
  have N0 := Fr.nil n0
  show G (s₁.setTop (mkF m 0 #[.val (.int x0), .val (.int x1), .val (.int x2), .val (.int x3), .val (.int x4), .val (.long x5), .second, .unset, .unset, .unset, .unset, .unset, .unset, .unset] []))
  refine go (fun tg kg => XS.lload X0.here hx rfl (hb hby at_0) rfl kg) ?_
  show G (s₁.setTop (mkF m 2 #[.val (.int x0), .val (.int x1), .val (.int x2), .val (.int x3), .val (.int x4), .val (.long x5), .second, .unset, .unset, .unset, .unset, .unset, .unset, .unset] [(.long x5)]))
  refine go (fun tg kg => XS.l2i X0.here hx rfl (hb hby at_2) rfl kg) ?_
  show G (s₁.setTop (mkF m 3 #[.val (.int x0), .val (.int x1), .val (.int x2), .val (.int x3), .val (.int x4), .val (.long x5), .second, .unset, .unset, .unset, .unset, .unset, .unset, .unset] [(.int (x5.toInt32))]))
  refine go (fun tg kg => XS.istore X0.here hx rfl (hb hby at_3) rfl (l' := #[.val (.int x0), .val (.int x1), .val (.int x2), .val (.int x3), .val (.int x4), .val (.long x5), .second, .val (.int (x5.toInt32)), .unset, .unset, .unset, .unset, .unset, .unset]) rfl kg) ?_
  show G (s₁.setTop (mkF m 5 #[.val (.int x0), .val (.int x1), .val (.int x2), .val (.int x3), .val (.int x4), .val (.long x5), .second, .val (.int (x5.toInt32)), .unset, .unset, .unset, .unset, .unset, .unset] []))
  refine go (fun tg kg => XS.lload X0.here hx rfl (hb hby at_5) rfl kg) ?_
  show G (s₁.setTop (mkF m 7 #[.val (.int x0), .val (.int x1), .val (.int x2), .val (.int x3), .val (.int x4), .val (.long x5), .second, .val (.int (x5.toInt32)), .unset, .unset, .unset, .unset, .unset, .unset] [(.long x5)]))
  refine go (fun tg kg => XS.bipush X0.here hx rfl (hb hby at_7) kg) ?_
  show G (s₁.setTop (mkF m 9 #[.val (.int x0), .val (.int x1), .val (.int x2), .val (.int x3), .val (.int x4), .val (.long x5), .second, .val (.int (x5.toInt32)), .unset, .unset, .unset, .unset, .unset, .unset] [(.int (32 : Int32)), (.long x5)]))
  refine go (fun tg kg => XS.lshr X0.here hx rfl (hb hby at_9) rfl kg) ?_
  show G (s₁.setTop (mkF m 10 #[.val (.int x0), .val (.int x1), .val (.int x2), .val (.int x3), .val (.int x4), .val (.long x5), .second, .val (.int (x5.toInt32)), .unset, .unset, .unset, .unset, .unset, .unset] [(.long (x5 >>> ((32 : Int32) &&& 0x3f).toInt64))]))
  refine go (fun tg kg => XS.l2i X0.here hx rfl (hb hby at_10) rfl kg) ?_
  show G (s₁.setTop (mkF m 11 #[.val (.int x0), .val (.int x1), .val (.int x2), .val (.int x3), .val (.int x4), .val (.long x5), .second, .val (.int (x5.toInt32)), .unset, .unset, .unset, .unset, .unset, .unset] [(.int ((x5 >>> ((32 : Int32) &&& 0x3f).toInt64).toInt32))]))
  refine go (fun tg kg => XS.istore X0.here hx rfl (hb hby at_11) rfl (l' := #[.val (.int x0), .val (.int x1), .val (.int x2), .val (.int x3), .val (.int x4), .val (.long x5), .second, .val (.int (x5.toInt32)), .val (.int ((x5 >>> ((32 : Int32) &&& 0x3f).toInt64).toInt32)), .unset, .unset, .unset, .unset, .unset]) rfl kg) ?_
  show G (s₁.setTop (mkF m 13 #[.val (.int x0), .val (.int x1), .val (.int x2), .val (.int x3), .val (.int x4), .val (.long x5), .second, .val (.int (x5.toInt32)), .val (.int ((x5 >>> ((32 : Int32) &&& 0x3f).toInt64).toInt32)), .unset, .unset, .unset, .unset, .unset] []))
  refine go (fun tg kg => XS.iloadN X0.here hx rfl (hb hby at_13) rfl kg) ?_
  show G (s₁.setTop (mkF m 14 #[.val (.int x0), .val (.int x1), .val (.int x2), .val (.int x3), .val (.int x4), .val (.long x5), .second, .val (.int (x5.toInt32)), .val (.int ((x5 >>> ((32 : Int32) &&& 0x3f).toInt64).toInt32)), .unset, .unset, .unset, .unset, .unset] [(.int x0)]))
  refine go (fun tg kg => XS.iloadN X0.here hx rfl (hb hby at_14) rfl kg) ?_
  show G (s₁.setTop (mkF m 15 #[.val (.int x0), .val (.int x1), .val (.int x2), .val (.int x3), .val (.int x4), .val (.long x5), .second, .val (.int (x5.toInt32)), .val (.int ((x5 >>> ((32 : Int32) &&& 0x3f).toInt64).toInt32)), .unset, .unset, .unset, .unset, .unset] [(.int x1), (.int x0)]))
  refine go (fun tg kg => XS.iadd X0.here hx rfl (hb hby at_15) rfl kg) ?_
  show G (s₁.setTop (mkF m 16 #[.val (.int x0), .val (.int x1), .val (.int x2), .val (.int x3), .val (.int x4), .val (.long x5), .second, .val (.int (x5.toInt32)), .val (.int ((x5 >>> ((32 : Int32) &&& 0x3f).toInt64).toInt32)), .unset, .unset, .unset, .unset, .unset] [(.int (x0 + x1))]))
  refine go (fun tg kg => XS.iloadN X0.here hx rfl (hb hby at_16) rfl kg) ?_
  show G (s₁.setTop (mkF m 17 #[.val (.int x0), .val (.int x1), .val (.int x2), .val (.int x3), .val (.int x4), .val (.long x5), .second, .val (.int (x5.toInt32)), .val (.int ((x5 >>> ((32 : Int32) &&& 0x3f).toInt64).toInt32)), .unset, .unset, .unset, .unset, .unset] [(.int x2), (.int (x0 + x1))]))
  refine go (fun tg kg => XS.iadd X0.here hx rfl (hb hby at_17) rfl kg) ?_
  show G (s₁.setTop (mkF m 18 #[.val (.int x0), .val (.int x1), .val (.int x2), .val (.int x3), .val (.int x4), .val (.long x5), .second, .val (.int (x5.toInt32)), .val (.int ((x5 >>> ((32 : Int32) &&& 0x3f).toInt64).toInt32)), .unset, .unset, .unset, .unset, .unset] [(.int ((x0 + x1) + x2))]))
  refine go (fun tg kg => XS.iloadN X0.here hx rfl (hb hby at_18) rfl kg) ?_
  show G (s₁.setTop (mkF m 19 #[.val (.int x0), .val (.int x1), .val (.int x2), .val (.int x3), .val (.int x4), .val (.long x5), .second, .val (.int (x5.toInt32)), .val (.int ((x5 >>> ((32 : Int32) &&& 0x3f).toInt64).toInt32)), .unset, .unset, .unset, .unset, .unset] [(.int x3), (.int ((x0 + x1) + x2))]))
  refine go (fun tg kg => XS.iadd X0.here hx rfl (hb hby at_19) rfl kg) ?_
  show G (s₁.setTop (mkF m 20 #[.val (.int x0), .val (.int x1), .val (.int x2), .val (.int x3), .val (.int x4), .val (.long x5), .second, .val (.int (x5.toInt32)), .val (.int ((x5 >>> ((32 : Int32) &&& 0x3f).toInt64).toInt32)), .unset, .unset, .unset, .unset, .unset] [(.int (((x0 + x1) + x2) + x3))]))
  refine go (fun tg kg => XS.istore X0.here hx rfl (hb hby at_20) rfl (l' := #[.val (.int x0), .val (.int x1), .val (.int x2), .val (.int x3), .val (.int x4), .val (.long x5), .second, .val (.int (x5.toInt32)), .val (.int ((x5 >>> ((32 : Int32) &&& 0x3f).toInt64).toInt32)), .val (.int (((x0 + x1) + x2) + x3)), .unset, .unset, .unset, .unset]) rfl kg) ?_
  show G (s₁.setTop (mkF m 22 #[.val (.int x0), .val (.int x1), .val (.int x2), .val (.int x3), .val (.int x4), .val (.long x5), .second, .val (.int (x5.toInt32)), .val (.int ((x5 >>> ((32 : Int32) &&& 0x3f).toInt64).toInt32)), .val (.int (((x0 + x1) + x2) + x3)), .unset, .unset, .unset, .unset] []))
  refine go (fun tg kg => XS.iload X0.here hx rfl (hb hby at_22) rfl kg) ?_
  show G (s₁.setTop (mkF m 24 #[.val (.int x0), .val (.int x1), .val (.int x2), .val (.int x3), .val (.int x4), .val (.long x5), .second, .val (.int (x5.toInt32)), .val (.int ((x5 >>> ((32 : Int32) &&& 0x3f).toInt64).toInt32)), .val (.int (((x0 + x1) + x2) + x3)), .unset, .unset, .unset, .unset] [(.int x4)]))
  refine go (fun tg kg => XS.iconst X0.here hx rfl (hb hby at_24) kg) ?_
  show G (s₁.setTop (mkF m 25 #[.val (.int x0), .val (.int x1), .val (.int x2), .val (.int x3), .val (.int x4), .val (.long x5), .second, .val (.int (x5.toInt32)), .val (.int ((x5 >>> ((32 : Int32) &&& 0x3f).toInt64).toInt32)), .val (.int (((x0 + x1) + x2) + x3)), .unset, .unset, .unset, .unset] [(.int (1 : Int32)), (.int x4)]))
  refine go (fun tg kg => XS.iand X0.here hx rfl (hb hby at_25) rfl kg) ?_
  show G (s₁.setTop (mkF m 26 #[.val (.int x0), .val (.int x1), .val (.int x2), .val (.int x3), .val (.int x4), .val (.long x5), .second, .val (.int (x5.toInt32)), .val (.int ((x5 >>> ((32 : Int32) &&& 0x3f).toInt64).toInt32)), .val (.int (((x0 + x1) + x2) + x3)), .unset, .unset, .unset, .unset] [(.int (x4 &&& (1 : Int32)))]))
  by_cases hc1 : (x4 &&& (1 : Int32)) = (0 : Int32)
  · refine go (fun tg kg => XS.ifYes X0.here hx rfl (pc0 := 26) (pc' := 34) rfl (hb hby at_26) rfl ((if0 _ _).trans (teq hc1).1) (by decide) (by decide) kg) ?_
    show G (s₁.setTop (mkF m 34 #[.val (.int x0), .val (.int x1), .val (.int x2), .val (.int x3), .val (.int x4), .val (.long x5), .second, .val (.int (x5.toInt32)), .val (.int ((x5 >>> ((32 : Int32) &&& 0x3f).toInt64).toInt32)), .val (.int (((x0 + x1) + x2) + x3)), .unset, .unset, .unset, .unset] []))
    refine go (fun tg kg => XS.iload X0.here hx rfl (hb hby at_34) rfl kg) ?_
    show G (s₁.setTop (mkF m 36 #[.val (.int x0), .val (.int x1), .val (.int x2), .val (.int x3), .val (.int x4), .val (.long x5), .second, .val (.int (x5.toInt32)), .val (.int ((x5 >>> ((32 : Int32) &&& 0x3f).toInt64).toInt32)), .val (.int (((x0 + x1) + x2) + x3)), .unset, .unset, .unset, .unset] [(.int x4)]))
    refine go (fun tg kg => XS.istore X0.here hx rfl (hb hby at_36) rfl (l' := #[.val (.int x0), .val (.int x1), .val (.int x2), .val (.int x3), .val (.int x4), .val (.long x5), .second, .val (.int (x5.toInt32)), .val (.int ((x5 >>> ((32 : Int32) &&& 0x3f).toInt64).toInt32)), .val (.int (((x0 + x1) + x2) + x3)), .val (.int x4), .unset, .unset, .unset]) rfl kg) ?_
    show G (s₁.setTop (mkF m 38 #[.val (.int x0), .val (.int x1), .val (.int x2), .val (.int x3), .val (.int x4), .val (.long x5), .second, .val (.int (x5.toInt32)), .val (.int ((x5 >>> ((32 : Int32) &&& 0x3f).toInt64).toInt32)), .val (.int (((x0 + x1) + x2) + x3)), .val (.int x4), .unset, .unset, .unset] []))
    obtain ⟨T2, h2, X2, e2, E2, A2, D2, -, st2⟩ := newO X0 hx hZ hown (hw _ (List.mem_of_getElem? (i := 0) rfl)) (hw _ (List.mem_of_getElem? (i := 1) rfl)) (hw _ (List.mem_of_getElem? (i := 2) rfl)) e0 (g := (mkF m 38 #[.val (.int x0), .val (.int x1), .val (.int x2), .val (.int x3), .val (.int x4), .val (.long x5), .second, .val (.int (x5.toInt32)), .val (.int ((x5 >>> ((32 : Int32) &&& 0x3f).toInt64).toInt32)), .val (.int (((x0 + x1) + x2) + x3)), .val (.int x4), .unset, .unset, .unset] [])) rfl (hb hby at_38) (by decide) (by decide)
    obtain ⟨b2, g2⟩ : ∃ z, z = h0.size := ⟨_, rfl⟩
    rw [← g2] at A2 D2 st2
    refine go st2 ?_
    have ge_b2 : n0 ≤ b2 := Nat.le_trans Z0 (Nat.le_of_eq g2.symm)
    have Z2 := Nat.le_trans Z0 E2.1
    have F2_jobs : Fld Z h2 b2 "com/example/scatterd/scatterd/model/JobCounts" "jobs" "I" (.int (0 : Int32)) := D2 (Or.inr (hw _ (List.mem_of_getElem? (i := 15) rfl))) (ty := .int) (by decide)
    have F2_succeeded : Fld Z h2 b2 "com/example/scatterd/scatterd/model/JobCounts" "succeeded" "I" (.int (0 : Int32)) := D2 (Or.inr (hw _ (List.mem_of_getElem? (i := 17) rfl))) (ty := .int) (by decide)
    have F2_failed : Fld Z h2 b2 "com/example/scatterd/scatterd/model/JobCounts" "failed" "I" (.int (0 : Int32)) := D2 (Or.inr (hw _ (List.mem_of_getElem? (i := 19) rfl))) (ty := .int) (by decide)
    have F2_errored : Fld Z h2 b2 "com/example/scatterd/scatterd/model/JobCounts" "errored" "I" (.int (0 : Int32)) := D2 (Or.inr (hw _ (List.mem_of_getElem? (i := 21) rfl))) (ty := .int) (by decide)
    have F2_cancelled : Fld Z h2 b2 "com/example/scatterd/scatterd/model/JobCounts" "cancelled" "I" (.int (0 : Int32)) := D2 (Or.inr (hw _ (List.mem_of_getElem? (i := 23) rfl))) (ty := .int) (by decide)
    have F2_ready : Fld Z h2 b2 "com/example/scatterd/scatterd/model/JobCounts" "ready" "I" (.int (0 : Int32)) := D2 (Or.inr (hw _ (List.mem_of_getElem? (i := 25) rfl))) (ty := .int) (by decide)
    have F2_running : Fld Z h2 b2 "com/example/scatterd/scatterd/model/JobCounts" "running" "I" (.int (0 : Int32)) := D2 (Or.inr (hw _ (List.mem_of_getElem? (i := 27) rfl))) (ty := .int) (by decide)
    show G (T2.setTop (mkF m 41 #[.val (.int x0), .val (.int x1), .val (.int x2), .val (.int x3), .val (.int x4), .val (.long x5), .second, .val (.int (x5.toInt32)), .val (.int ((x5 >>> ((32 : Int32) &&& 0x3f).toInt64).toInt32)), .val (.int (((x0 + x1) + x2) + x3)), .val (.int x4), .unset, .unset, .unset] [(.ref b2)]))
    refine go (fun tg kg => XS.dup X2.here hx rfl (hb hby at_41) rfl rfl kg) ?_
    show G (T2.setTop (mkF m 42 #[.val (.int x0), .val (.int x1), .val (.int x2), .val (.int x3), .val (.int x4), .val (.long x5), .second, .val (.int (x5.toInt32)), .val (.int ((x5 >>> ((32 : Int32) &&& 0x3f).toInt64).toInt32)), .val (.int (((x0 + x1) + x2) + x3)), .val (.int x4), .unset, .unset, .unset] [(.ref b2), (.ref b2)]))
    refine go (fun tg kg => XS.iload X2.here hx rfl (hb hby at_42) rfl kg) ?_
    show G (T2.setTop (mkF m 44 #[.val (.int x0), .val (.int x1), .val (.int x2), .val (.int x3), .val (.int x4), .val (.long x5), .second, .val (.int (x5.toInt32)), .val (.int ((x5 >>> ((32 : Int32) &&& 0x3f).toInt64).toInt32)), .val (.int (((x0 + x1) + x2) + x3)), .val (.int x4), .unset, .unset, .unset] [(.int x4), (.ref b2), (.ref b2)]))
    refine go (fun tg kg => XS.iloadN X2.here hx rfl (hb hby at_44) rfl kg) ?_
    show G (T2.setTop (mkF m 45 #[.val (.int x0), .val (.int x1), .val (.int x2), .val (.int x3), .val (.int x4), .val (.long x5), .second, .val (.int (x5.toInt32)), .val (.int ((x5 >>> ((32 : Int32) &&& 0x3f).toInt64).toInt32)), .val (.int (((x0 + x1) + x2) + x3)), .val (.int x4), .unset, .unset, .unset] [(.int x0), (.int x4), (.ref b2), (.ref b2)]))
    refine go (fun tg kg => XS.iloadN X2.here hx rfl (hb hby at_45) rfl kg) ?_
    show G (T2.setTop (mkF m 46 #[.val (.int x0), .val (.int x1), .val (.int x2), .val (.int x3), .val (.int x4), .val (.long x5), .second, .val (.int (x5.toInt32)), .val (.int ((x5 >>> ((32 : Int32) &&& 0x3f).toInt64).toInt32)), .val (.int (((x0 + x1) + x2) + x3)), .val (.int x4), .unset, .unset, .unset] [(.int x1), (.int x0), (.int x4), (.ref b2), (.ref b2)]))
    refine go (fun tg kg => XS.iloadN X2.here hx rfl (hb hby at_46) rfl kg) ?_
    show G (T2.setTop (mkF m 47 #[.val (.int x0), .val (.int x1), .val (.int x2), .val (.int x3), .val (.int x4), .val (.long x5), .second, .val (.int (x5.toInt32)), .val (.int ((x5 >>> ((32 : Int32) &&& 0x3f).toInt64).toInt32)), .val (.int (((x0 + x1) + x2) + x3)), .val (.int x4), .unset, .unset, .unset] [(.int x2), (.int x1), (.int x0), (.int x4), (.ref b2), (.ref b2)]))
    refine go (fun tg kg => XS.iloadN X2.here hx rfl (hb hby at_47) rfl kg) ?_
    show G (T2.setTop (mkF m 48 #[.val (.int x0), .val (.int x1), .val (.int x2), .val (.int x3), .val (.int x4), .val (.long x5), .second, .val (.int (x5.toInt32)), .val (.int ((x5 >>> ((32 : Int32) &&& 0x3f).toInt64).toInt32)), .val (.int (((x0 + x1) + x2) + x3)), .val (.int x4), .unset, .unset, .unset] [(.int x3), (.int x2), (.int x1), (.int x0), (.int x4), (.ref b2), (.ref b2)]))
    refine go (fun tg kg => XS.iload X2.here hx rfl (hb hby at_48) rfl kg) ?_
    show G (T2.setTop (mkF m 50 #[.val (.int x0), .val (.int x1), .val (.int x2), .val (.int x3), .val (.int x4), .val (.long x5), .second, .val (.int (x5.toInt32)), .val (.int ((x5 >>> ((32 : Int32) &&& 0x3f).toInt64).toInt32)), .val (.int (((x0 + x1) + x2) + x3)), .val (.int x4), .unset, .unset, .unset] [(.int (x5.toInt32)), (.int x3), (.int x2), (.int x1), (.int x0), (.int x4), (.ref b2), (.ref b2)]))
    refine go (fun tg kg => XS.iload X2.here hx rfl (hb hby at_50) rfl kg) ?_
    show G (T2.setTop (mkF m 52 #[.val (.int x0), .val (.int x1), .val (.int x2), .val (.int x3), .val (.int x4), .val (.long x5), .second, .val (.int (x5.toInt32)), .val (.int ((x5 >>> ((32 : Int32) &&& 0x3f).toInt64).toInt32)), .val (.int (((x0 + x1) + x2) + x3)), .val (.int x4), .unset, .unset, .unset] [(.int ((x5 >>> ((32 : Int32) &&& 0x3f).toInt64).toInt32)), (.int (x5.toInt32)), (.int x3), (.int x2), (.int x1), (.int x0), (.int x4), (.ref b2), (.ref b2)]))
    obtain ⟨_, _, ⟨T3, L3, k3, n3⟩, -, X3, ⟨Lc3, hQ3, l3, y3, z3⟩, st3⟩ := X2.specialBack hx (y := (⟨"com/example/scatterd/scatterd/model/JobCounts", "<init>", "(IIIIIII)V"⟩ : MethodName)) rfl hown (mvT hZ (hw _ (List.mem_of_getElem? (i := 3) rfl))) (mvT hZ (hw _ (List.mem_of_getElem? (i := 4) rfl))) (mvT hZ (hw _ (List.mem_of_getElem? (i := 5) rfl))) (by decide) (backOf (W := 1) (rm1 l Z a0 hw [] b2 x4 x0 x1 x2 x3 (x5.toInt32) ((x5 >>> ((32 : Int32) &&& 0x3f).toInt64).toInt32) h2 n0 Z2 A2 ge_b2 F2_jobs F2_succeeded F2_failed F2_errored F2_cancelled F2_ready F2_running) hZ (hw _ (List.mem_of_getElem? (i := 5) rfl)) (hw _ (List.mem_of_getElem? (i := 2) rfl)) (by decide) (by decide)) (g := (mkF m 52 #[.val (.int x0), .val (.int x1), .val (.int x2), .val (.int x3), .val (.int x4), .val (.long x5), .second, .val (.int (x5.toInt32)), .val (.int ((x5 >>> ((32 : Int32) &&& 0x3f).toInt64).toInt32)), .val (.int (((x0 + x1) + x2) + x3)), .val (.int x4), .unset, .unset, .unset] [(.int ((x5 >>> ((32 : Int32) &&& 0x3f).toInt64).toInt32)), (.int (x5.toInt32)), (.int x3), (.int x2), (.int x1), (.int x0), (.int x4), (.ref b2), (.ref b2)])) rfl (by rw [hml]; rfl) (Steps.refl _) (a := b2) (argsL := [(.int x4), (.int x0), (.int x1), (.int x2), (.int x3), (.int (x5.toInt32)), (.int ((x5 >>> ((32 : Int32) &&& 0x3f).toInt64).toInt32))]) (rest := [(.ref b2)]) (lenOf pd__IIIIIII_V rfl) rfl (by show 2 * 0 + _ ≤ _; exact Nat.le_of_eq rfl) (hb hby at_52) (fun _ _ => ⟨rfl, e2, (by decide : 1 + 0 ≤ _), (by decide : 7 + 0 ≤ _)⟩)
    dsimp only [Pt.U, Pt.locs, Pt.cells, Pt.slots] at X3 l3 y3 z3 st3 hQ3
    subst l3 y3 z3
    obtain ⟨rfl, Nq3, K3, Ge3, Gf3_jobs, Gf3_succeeded, Gf3_failed, Gf3_errored, Gf3_cancelled, Gf3_ready, Gf3_running⟩ := hQ3
    have Z3 := Nat.le_trans Z2 K3.1
    have N3 := Fr.app N0 Nq3
    refine go (fun tg kg => st3.trans kg) ?_
    show G (T3.setTop (mkF m 55 #[.val (.int x0), .val (.int x1), .val (.int x2), .val (.int x3), .val (.int x4), .val (.long x5), .second, .val (.int (x5.toInt32)), .val (.int ((x5 >>> ((32 : Int32) &&& 0x3f).toInt64).toInt32)), .val (.int (((x0 + x1) + x2) + x3)), .val (.int x4), .unset, .unset, .unset] [(.ref b2)]))
    refine go (fun tg kg => XS.astore X3.here hx rfl (hb hby at_55) rfl rfl (l' := #[.val (.int x0), .val (.int x1), .val (.int x2), .val (.int x3), .val (.int x4), .val (.long x5), .second, .val (.int (x5.toInt32)), .val (.int ((x5 >>> ((32 : Int32) &&& 0x3f).toInt64).toInt32)), .val (.int (((x0 + x1) + x2) + x3)), .val (.int x4), .val (.ref b2), .unset, .unset]) rfl kg) ?_
    show G (T3.setTop (mkF m 57 #[.val (.int x0), .val (.int x1), .val (.int x2), .val (.int x3), .val (.int x4), .val (.long x5), .second, .val (.int (x5.toInt32)), .val (.int ((x5 >>> ((32 : Int32) &&& 0x3f).toInt64).toInt32)), .val (.int (((x0 + x1) + x2) + x3)), .val (.int x4), .val (.ref b2), .unset, .unset] []))
    refine go (fun tg kg => XS.aload X3.here hx rfl (hb hby at_57) rfl rfl kg) ?_
    show G (T3.setTop (mkF m 59 #[.val (.int x0), .val (.int x1), .val (.int x2), .val (.int x3), .val (.int x4), .val (.long x5), .second, .val (.int (x5.toInt32)), .val (.int ((x5 >>> ((32 : Int32) &&& 0x3f).toInt64).toInt32)), .val (.int (((x0 + x1) + x2) + x3)), .val (.int x4), .val (.ref b2), .unset, .unset] [(.ref b2)]))
    obtain ⟨cq4, kq4, q4a, q4b, q4c⟩ := isOf hZ rfl Ge3
    obtain ⟨_, _, ⟨T4, L4, k4, n4⟩, -, X4, ⟨Lc4, hQ4, l4, y4, z4⟩, st4⟩ := X3.virtualBack hx (y := (⟨"com/example/scatterd/scatterd/model/JobCounts", "completed", "()I"⟩ : MethodName)) (z := (⟨"com/example/scatterd/scatterd/model/JobCounts", "completed", "()I"⟩ : MethodName)) hown (mvT hZ (hw _ (List.mem_of_getElem? (i := 28) rfl))) (mvT hZ (hw _ (List.mem_of_getElem? (i := 29) rfl))) (notFace_of_selects (args := #[]) (mvT hZ (hw _ (List.mem_of_getElem? (i := 31) rfl)))) (mvT hZ (hw _ (List.mem_of_getElem? (i := 31) rfl))) (mvT hZ (hw _ (List.mem_of_getElem? (i := 30) rfl))) (by decide) (backOf (W := 0) (rm4 l Z a0 hw [] b2 x0 x1 x2 x3 T3.heap n0 Z3 Ge3 Gf3_succeeded Gf3_failed Gf3_errored Gf3_cancelled) hZ (hw _ (List.mem_of_getElem? (i := 32) rfl)) (hw _ (List.mem_of_getElem? (i := 2) rfl)) (by decide) (by decide)) q4a q4c (g := (mkF m 59 #[.val (.int x0), .val (.int x1), .val (.int x2), .val (.int x3), .val (.int x4), .val (.long x5), .second, .val (.int (x5.toInt32)), .val (.int ((x5 >>> ((32 : Int32) &&& 0x3f).toInt64).toInt32)), .val (.int (((x0 + x1) + x2) + x3)), .val (.int x4), .val (.ref b2), .unset, .unset] [(.ref b2)])) rfl (by rw [hml]; rfl) (Steps.refl _) (argsL := []) (rest := []) (lenOf pd___I rfl) rfl (by show 2 * 0 + _ ≤ _; exact Nat.le_of_eq rfl) (hb hby at_59) (fun _ _ => ⟨rfl, rfl, (by decide : 1 + 0 ≤ _), (by decide : 7 + 0 ≤ _)⟩)
    dsimp only [Pt.U, Pt.locs, Pt.cells, Pt.slots] at X4 l4 y4 z4 st4 hQ4
    subst l4 y4 z4
    obtain ⟨rfl, Nq4, e4⟩ := hQ4
    have N4 := Fr.app N3 Nq4
    refine go (fun tg kg => st4.trans kg) ?_
    show G (T4.setTop (mkF m 62 #[.val (.int x0), .val (.int x1), .val (.int x2), .val (.int x3), .val (.int x4), .val (.long x5), .second, .val (.int (x5.toInt32)), .val (.int ((x5 >>> ((32 : Int32) &&& 0x3f).toInt64).toInt32)), .val (.int (((x0 + x1) + x2) + x3)), .val (.int x4), .val (.ref b2), .unset, .unset] [(.int (((x0 + x1) + x2) + x3))]))
    refine go (fun tg kg => XS.istore X4.here hx rfl (hb hby at_62) rfl (l' := #[.val (.int x0), .val (.int x1), .val (.int x2), .val (.int x3), .val (.int x4), .val (.long x5), .second, .val (.int (x5.toInt32)), .val (.int ((x5 >>> ((32 : Int32) &&& 0x3f).toInt64).toInt32)), .val (.int (((x0 + x1) + x2) + x3)), .val (.int x4), .val (.ref b2), .val (.int (((x0 + x1) + x2) + x3)), .unset]) rfl kg) ?_
    show G (T4.setTop (mkF m 64 #[.val (.int x0), .val (.int x1), .val (.int x2), .val (.int x3), .val (.int x4), .val (.long x5), .second, .val (.int (x5.toInt32)), .val (.int ((x5 >>> ((32 : Int32) &&& 0x3f).toInt64).toInt32)), .val (.int (((x0 + x1) + x2) + x3)), .val (.int x4), .val (.ref b2), .val (.int (((x0 + x1) + x2) + x3)), .unset] []))
    refine go (fun tg kg => XS.aload X4.here hx rfl (hb hby at_64) rfl rfl kg) ?_
    show G (T4.setTop (mkF m 66 #[.val (.int x0), .val (.int x1), .val (.int x2), .val (.int x3), .val (.int x4), .val (.long x5), .second, .val (.int (x5.toInt32)), .val (.int ((x5 >>> ((32 : Int32) &&& 0x3f).toInt64).toInt32)), .val (.int (((x0 + x1) + x2) + x3)), .val (.int x4), .val (.ref b2), .val (.int (((x0 + x1) + x2) + x3)), .unset] [(.ref b2)]))
    obtain ⟨cq5, kq5, q5a, q5b, q5c⟩ := isOf hZ e4 Ge3
    obtain ⟨_, _, ⟨T5, L5, k5, n5⟩, -, X5, ⟨Lc5, hQ5, l5, y5, z5⟩, st5⟩ := X4.virtualBack hx (y := (⟨"com/example/scatterd/scatterd/model/JobCounts", "complete", "()Z"⟩ : MethodName)) (z := (⟨"com/example/scatterd/scatterd/model/JobCounts", "complete", "()Z"⟩ : MethodName)) hown (mvT hZ (hw _ (List.mem_of_getElem? (i := 33) rfl))) (mvT hZ (hw _ (List.mem_of_getElem? (i := 34) rfl))) (notFace_of_selects (args := #[]) (mvT hZ (hw _ (List.mem_of_getElem? (i := 36) rfl)))) (mvT hZ (hw _ (List.mem_of_getElem? (i := 36) rfl))) (mvT hZ (hw _ (List.mem_of_getElem? (i := 35) rfl))) (by decide) (backOf (W := 0) (rm5 l Z a0 hw [] b2 x0 x1 x2 x3 x4 T3.heap n0 Z3 Ge3 Gf3_succeeded Gf3_failed Gf3_errored Gf3_cancelled Gf3_jobs) hZ (hw _ (List.mem_of_getElem? (i := 37) rfl)) (hw _ (List.mem_of_getElem? (i := 2) rfl)) (by decide) (by decide)) q5a q5c (g := (mkF m 66 #[.val (.int x0), .val (.int x1), .val (.int x2), .val (.int x3), .val (.int x4), .val (.long x5), .second, .val (.int (x5.toInt32)), .val (.int ((x5 >>> ((32 : Int32) &&& 0x3f).toInt64).toInt32)), .val (.int (((x0 + x1) + x2) + x3)), .val (.int x4), .val (.ref b2), .val (.int (((x0 + x1) + x2) + x3)), .unset] [(.ref b2)])) rfl (by rw [hml]; rfl) (Steps.refl _) (argsL := []) (rest := []) (lenOf pd___Z rfl) rfl (by show 2 * 0 + _ ≤ _; exact Nat.le_of_eq rfl) (hb hby at_66) (fun _ _ => ⟨rfl, e4, (by decide : 1 + 0 ≤ _), (by decide : 7 + 0 ≤ _)⟩)
    dsimp only [Pt.U, Pt.locs, Pt.cells, Pt.slots] at X5 l5 y5 z5 st5 hQ5
    subst l5 y5 z5
    obtain ⟨rfl, Nq5, e5⟩ := hQ5
    have N5 := Fr.app N4 Nq5
    refine go (fun tg kg => st5.trans kg) ?_
    show G (T5.setTop (mkF m 69 #[.val (.int x0), .val (.int x1), .val (.int x2), .val (.int x3), .val (.int x4), .val (.long x5), .second, .val (.int (x5.toInt32)), .val (.int ((x5 >>> ((32 : Int32) &&& 0x3f).toInt64).toInt32)), .val (.int (((x0 + x1) + x2) + x3)), .val (.int x4), .val (.ref b2), .val (.int (((x0 + x1) + x2) + x3)), .unset] [(.int (own_cmp (((x0 + x1) + x2) + x3) x4))]))
    refine go (fun tg kg => XS.istore X5.here hx rfl (hb hby at_69) rfl (l' := #[.val (.int x0), .val (.int x1), .val (.int x2), .val (.int x3), .val (.int x4), .val (.long x5), .second, .val (.int (x5.toInt32)), .val (.int ((x5 >>> ((32 : Int32) &&& 0x3f).toInt64).toInt32)), .val (.int (((x0 + x1) + x2) + x3)), .val (.int x4), .val (.ref b2), .val (.int (((x0 + x1) + x2) + x3)), .val (.int (own_cmp (((x0 + x1) + x2) + x3) x4))]) rfl kg) ?_
    show G (T5.setTop (mkF m 71 #[.val (.int x0), .val (.int x1), .val (.int x2), .val (.int x3), .val (.int x4), .val (.long x5), .second, .val (.int (x5.toInt32)), .val (.int ((x5 >>> ((32 : Int32) &&& 0x3f).toInt64).toInt32)), .val (.int (((x0 + x1) + x2) + x3)), .val (.int x4), .val (.ref b2), .val (.int (((x0 + x1) + x2) + x3)), .val (.int (own_cmp (((x0 + x1) + x2) + x3) x4))] []))
    refine go (fun tg kg => XS.iload X5.here hx rfl (hb hby at_71) rfl kg) ?_
    show G (T5.setTop (mkF m 73 #[.val (.int x0), .val (.int x1), .val (.int x2), .val (.int x3), .val (.int x4), .val (.long x5), .second, .val (.int (x5.toInt32)), .val (.int ((x5 >>> ((32 : Int32) &&& 0x3f).toInt64).toInt32)), .val (.int (((x0 + x1) + x2) + x3)), .val (.int x4), .val (.ref b2), .val (.int (((x0 + x1) + x2) + x3)), .val (.int (own_cmp (((x0 + x1) + x2) + x3) x4))] [(.int (((x0 + x1) + x2) + x3))]))
    refine go (fun tg kg => XS.iload X5.here hx rfl (hb hby at_73) rfl kg) ?_
    show G (T5.setTop (mkF m 75 #[.val (.int x0), .val (.int x1), .val (.int x2), .val (.int x3), .val (.int x4), .val (.long x5), .second, .val (.int (x5.toInt32)), .val (.int ((x5 >>> ((32 : Int32) &&& 0x3f).toInt64).toInt32)), .val (.int (((x0 + x1) + x2) + x3)), .val (.int x4), .val (.ref b2), .val (.int (((x0 + x1) + x2) + x3)), .val (.int (own_cmp (((x0 + x1) + x2) + x3) x4))] [(.int (((x0 + x1) + x2) + x3)), (.int (((x0 + x1) + x2) + x3))]))
    refine go (fun tg kg => XS.icmpNo X5.here hx rfl (hb hby at_75) rfl (teq (rfl : (((x0 + x1) + x2) + x3) = (((x0 + x1) + x2) + x3))).2 kg) ?_
    show G (T5.setTop (mkF m 78 #[.val (.int x0), .val (.int x1), .val (.int x2), .val (.int x3), .val (.int x4), .val (.long x5), .second, .val (.int (x5.toInt32)), .val (.int ((x5 >>> ((32 : Int32) &&& 0x3f).toInt64).toInt32)), .val (.int (((x0 + x1) + x2) + x3)), .val (.int x4), .val (.ref b2), .val (.int (((x0 + x1) + x2) + x3)), .val (.int (own_cmp (((x0 + x1) + x2) + x3) x4))] []))
    refine go (fun tg kg => XS.iload X5.here hx rfl (hb hby at_78) rfl kg) ?_
    show G (T5.setTop (mkF m 80 #[.val (.int x0), .val (.int x1), .val (.int x2), .val (.int x3), .val (.int x4), .val (.long x5), .second, .val (.int (x5.toInt32)), .val (.int ((x5 >>> ((32 : Int32) &&& 0x3f).toInt64).toInt32)), .val (.int (((x0 + x1) + x2) + x3)), .val (.int x4), .val (.ref b2), .val (.int (((x0 + x1) + x2) + x3)), .val (.int (own_cmp (((x0 + x1) + x2) + x3) x4))] [(.int (own_cmp (((x0 + x1) + x2) + x3) x4))]))
    refine go (fun tg kg => XS.iload X5.here hx rfl (hb hby at_80) rfl kg) ?_
    show G (T5.setTop (mkF m 82 #[.val (.int x0), .val (.int x1), .val (.int x2), .val (.int x3), .val (.int x4), .val (.long x5), .second, .val (.int (x5.toInt32)), .val (.int ((x5 >>> ((32 : Int32) &&& 0x3f).toInt64).toInt32)), .val (.int (((x0 + x1) + x2) + x3)), .val (.int x4), .val (.ref b2), .val (.int (((x0 + x1) + x2) + x3)), .val (.int (own_cmp (((x0 + x1) + x2) + x3) x4))] [(.int (((x0 + x1) + x2) + x3)), (.int (own_cmp (((x0 + x1) + x2) + x3) x4))]))
    refine go (fun tg kg => XS.iload X5.here hx rfl (hb hby at_82) rfl kg) ?_
    show G (T5.setTop (mkF m 84 #[.val (.int x0), .val (.int x1), .val (.int x2), .val (.int x3), .val (.int x4), .val (.long x5), .second, .val (.int (x5.toInt32)), .val (.int ((x5 >>> ((32 : Int32) &&& 0x3f).toInt64).toInt32)), .val (.int (((x0 + x1) + x2) + x3)), .val (.int x4), .val (.ref b2), .val (.int (((x0 + x1) + x2) + x3)), .val (.int (own_cmp (((x0 + x1) + x2) + x3) x4))] [(.int x4), (.int (((x0 + x1) + x2) + x3)), (.int (own_cmp (((x0 + x1) + x2) + x3) x4))]))
    by_cases hc6 : (((x0 + x1) + x2) + x3) = x4
    · refine go (fun tg kg => XS.icmpNo X5.here hx rfl (hb hby at_84) rfl (teq hc6).2 kg) ?_
      show G (T5.setTop (mkF m 87 #[.val (.int x0), .val (.int x1), .val (.int x2), .val (.int x3), .val (.int x4), .val (.long x5), .second, .val (.int (x5.toInt32)), .val (.int ((x5 >>> ((32 : Int32) &&& 0x3f).toInt64).toInt32)), .val (.int (((x0 + x1) + x2) + x3)), .val (.int x4), .val (.ref b2), .val (.int (((x0 + x1) + x2) + x3)), .val (.int (own_cmp (((x0 + x1) + x2) + x3) x4))] [(.int (own_cmp (((x0 + x1) + x2) + x3) x4))]))
      refine go (fun tg kg => XS.iconst X5.here hx rfl (hb hby at_87) kg) ?_
      show G (T5.setTop (mkF m 88 #[.val (.int x0), .val (.int x1), .val (.int x2), .val (.int x3), .val (.int x4), .val (.long x5), .second, .val (.int (x5.toInt32)), .val (.int ((x5 >>> ((32 : Int32) &&& 0x3f).toInt64).toInt32)), .val (.int (((x0 + x1) + x2) + x3)), .val (.int x4), .val (.ref b2), .val (.int (((x0 + x1) + x2) + x3)), .val (.int (own_cmp (((x0 + x1) + x2) + x3) x4))] [(.int (1 : Int32)), (.int (own_cmp (((x0 + x1) + x2) + x3) x4))]))
      refine go (fun tg kg => XS.goto X5.here hx rfl (pc0 := 88) (pc' := 92) rfl (hb hby at_88) (by decide) (by decide) kg) ?_
      show G (T5.setTop (mkF m 92 #[.val (.int x0), .val (.int x1), .val (.int x2), .val (.int x3), .val (.int x4), .val (.long x5), .second, .val (.int (x5.toInt32)), .val (.int ((x5 >>> ((32 : Int32) &&& 0x3f).toInt64).toInt32)), .val (.int (((x0 + x1) + x2) + x3)), .val (.int x4), .val (.ref b2), .val (.int (((x0 + x1) + x2) + x3)), .val (.int (own_cmp (((x0 + x1) + x2) + x3) x4))] [(.int (1 : Int32)), (.int (own_cmp (((x0 + x1) + x2) + x3) x4))]))
      refine go (fun tg kg => XS.icmpNo X5.here hx rfl (hb hby at_92) rfl (teq (own_c1 hc6)).2 kg) ?_
      show G (T5.setTop (mkF m 95 #[.val (.int x0), .val (.int x1), .val (.int x2), .val (.int x3), .val (.int x4), .val (.long x5), .second, .val (.int (x5.toInt32)), .val (.int ((x5 >>> ((32 : Int32) &&& 0x3f).toInt64).toInt32)), .val (.int (((x0 + x1) + x2) + x3)), .val (.int x4), .val (.ref b2), .val (.int (((x0 + x1) + x2) + x3)), .val (.int (own_cmp (((x0 + x1) + x2) + x3) x4))] []))
      refine go (fun tg kg => XS.iconst X5.here hx rfl (hb hby at_95) kg) ?_
      show G (T5.setTop (mkF m 96 #[.val (.int x0), .val (.int x1), .val (.int x2), .val (.int x3), .val (.int x4), .val (.long x5), .second, .val (.int (x5.toInt32)), .val (.int ((x5 >>> ((32 : Int32) &&& 0x3f).toInt64).toInt32)), .val (.int (((x0 + x1) + x2) + x3)), .val (.int x4), .val (.ref b2), .val (.int (((x0 + x1) + x2) + x3)), .val (.int (own_cmp (((x0 + x1) + x2) + x3) x4))] [(.int (1 : Int32))]))
      refine go (fun tg kg => XS.goto X5.here hx rfl (pc0 := 96) (pc' := 100) rfl (hb hby at_96) (by decide) (by decide) kg) ?_
      show G (T5.setTop (mkF m 100 #[.val (.int x0), .val (.int x1), .val (.int x2), .val (.int x3), .val (.int x4), .val (.long x5), .second, .val (.int (x5.toInt32)), .val (.int ((x5 >>> ((32 : Int32) &&& 0x3f).toInt64).toInt32)), .val (.int (((x0 + x1) + x2) + x3)), .val (.int x4), .val (.ref b2), .val (.int (((x0 + x1) + x2) + x3)), .val (.int (own_cmp (((x0 + x1) + x2) + x3) x4))] [(.int (1 : Int32))]))
      refine fin (some (.int (1 : Int32))) X5 (fun h => absurd h (by decide)) (fun fs hr => retN X5 hx (t := .boolean) hret (by simp) (hb hby at_100) hr) (by decide) (by decide) ?_
      rw [e5]
      exact ⟨rfl, N5⟩
    · refine go (fun tg kg => XS.icmpYes X5.here hx rfl (pc0 := 84) (pc' := 91) rfl (hb hby at_84) rfl (feq hc6).2 (by decide) (by decide) kg) ?_
      show G (T5.setTop (mkF m 91 #[.val (.int x0), .val (.int x1), .val (.int x2), .val (.int x3), .val (.int x4), .val (.long x5), .second, .val (.int (x5.toInt32)), .val (.int ((x5 >>> ((32 : Int32) &&& 0x3f).toInt64).toInt32)), .val (.int (((x0 + x1) + x2) + x3)), .val (.int x4), .val (.ref b2), .val (.int (((x0 + x1) + x2) + x3)), .val (.int (own_cmp (((x0 + x1) + x2) + x3) x4))] [(.int (own_cmp (((x0 + x1) + x2) + x3) x4))]))
      refine go (fun tg kg => XS.iconst X5.here hx rfl (hb hby at_91) kg) ?_
      show G (T5.setTop (mkF m 92 #[.val (.int x0), .val (.int x1), .val (.int x2), .val (.int x3), .val (.int x4), .val (.long x5), .second, .val (.int (x5.toInt32)), .val (.int ((x5 >>> ((32 : Int32) &&& 0x3f).toInt64).toInt32)), .val (.int (((x0 + x1) + x2) + x3)), .val (.int x4), .val (.ref b2), .val (.int (((x0 + x1) + x2) + x3)), .val (.int (own_cmp (((x0 + x1) + x2) + x3) x4))] [(.int (0 : Int32)), (.int (own_cmp (((x0 + x1) + x2) + x3) x4))]))
      refine go (fun tg kg => XS.icmpNo X5.here hx rfl (hb hby at_92) rfl (teq (own_c0 hc6)).2 kg) ?_
      show G (T5.setTop (mkF m 95 #[.val (.int x0), .val (.int x1), .val (.int x2), .val (.int x3), .val (.int x4), .val (.long x5), .second, .val (.int (x5.toInt32)), .val (.int ((x5 >>> ((32 : Int32) &&& 0x3f).toInt64).toInt32)), .val (.int (((x0 + x1) + x2) + x3)), .val (.int x4), .val (.ref b2), .val (.int (((x0 + x1) + x2) + x3)), .val (.int (own_cmp (((x0 + x1) + x2) + x3) x4))] []))
      refine go (fun tg kg => XS.iconst X5.here hx rfl (hb hby at_95) kg) ?_
      show G (T5.setTop (mkF m 96 #[.val (.int x0), .val (.int x1), .val (.int x2), .val (.int x3), .val (.int x4), .val (.long x5), .second, .val (.int (x5.toInt32)), .val (.int ((x5 >>> ((32 : Int32) &&& 0x3f).toInt64).toInt32)), .val (.int (((x0 + x1) + x2) + x3)), .val (.int x4), .val (.ref b2), .val (.int (((x0 + x1) + x2) + x3)), .val (.int (own_cmp (((x0 + x1) + x2) + x3) x4))] [(.int (1 : Int32))]))
      refine go (fun tg kg => XS.goto X5.here hx rfl (pc0 := 96) (pc' := 100) rfl (hb hby at_96) (by decide) (by decide) kg) ?_
      show G (T5.setTop (mkF m 100 #[.val (.int x0), .val (.int x1), .val (.int x2), .val (.int x3), .val (.int x4), .val (.long x5), .second, .val (.int (x5.toInt32)), .val (.int ((x5 >>> ((32 : Int32) &&& 0x3f).toInt64).toInt32)), .val (.int (((x0 + x1) + x2) + x3)), .val (.int x4), .val (.ref b2), .val (.int (((x0 + x1) + x2) + x3)), .val (.int (own_cmp (((x0 + x1) + x2) + x3) x4))] [(.int (1 : Int32))]))
      refine fin (some (.int (1 : Int32))) X5 (fun h => absurd h (by decide)) (fun fs hr => retN X5 hx (t := .boolean) hret (by simp) (hb hby at_100) hr) (by decide) (by decide) ?_
      rw [e5]
      exact ⟨rfl, N5⟩
  · refine go (fun tg kg => XS.ifNo X0.here hx rfl (hb hby at_26) rfl ((if0 _ _).trans (feq hc1).1) kg) ?_
    show G (s₁.setTop (mkF m 29 #[.val (.int x0), .val (.int x1), .val (.int x2), .val (.int x3), .val (.int x4), .val (.long x5), .second, .val (.int (x5.toInt32)), .val (.int ((x5 >>> ((32 : Int32) &&& 0x3f).toInt64).toInt32)), .val (.int (((x0 + x1) + x2) + x3)), .unset, .unset, .unset, .unset] []))
    refine go (fun tg kg => XS.iload X0.here hx rfl (hb hby at_29) rfl kg) ?_
    show G (s₁.setTop (mkF m 31 #[.val (.int x0), .val (.int x1), .val (.int x2), .val (.int x3), .val (.int x4), .val (.long x5), .second, .val (.int (x5.toInt32)), .val (.int ((x5 >>> ((32 : Int32) &&& 0x3f).toInt64).toInt32)), .val (.int (((x0 + x1) + x2) + x3)), .unset, .unset, .unset, .unset] [(.int (((x0 + x1) + x2) + x3))]))
    refine go (fun tg kg => XS.goto X0.here hx rfl (pc0 := 31) (pc' := 36) rfl (hb hby at_31) (by decide) (by decide) kg) ?_
    show G (s₁.setTop (mkF m 36 #[.val (.int x0), .val (.int x1), .val (.int x2), .val (.int x3), .val (.int x4), .val (.long x5), .second, .val (.int (x5.toInt32)), .val (.int ((x5 >>> ((32 : Int32) &&& 0x3f).toInt64).toInt32)), .val (.int (((x0 + x1) + x2) + x3)), .unset, .unset, .unset, .unset] [(.int (((x0 + x1) + x2) + x3))]))
    refine go (fun tg kg => XS.istore X0.here hx rfl (hb hby at_36) rfl (l' := #[.val (.int x0), .val (.int x1), .val (.int x2), .val (.int x3), .val (.int x4), .val (.long x5), .second, .val (.int (x5.toInt32)), .val (.int ((x5 >>> ((32 : Int32) &&& 0x3f).toInt64).toInt32)), .val (.int (((x0 + x1) + x2) + x3)), .val (.int (((x0 + x1) + x2) + x3)), .unset, .unset, .unset]) rfl kg) ?_
    show G (s₁.setTop (mkF m 38 #[.val (.int x0), .val (.int x1), .val (.int x2), .val (.int x3), .val (.int x4), .val (.long x5), .second, .val (.int (x5.toInt32)), .val (.int ((x5 >>> ((32 : Int32) &&& 0x3f).toInt64).toInt32)), .val (.int (((x0 + x1) + x2) + x3)), .val (.int (((x0 + x1) + x2) + x3)), .unset, .unset, .unset] []))
    obtain ⟨T7, h7, X7, e7, E7, A7, D7, -, st7⟩ := newO X0 hx hZ hown (hw _ (List.mem_of_getElem? (i := 0) rfl)) (hw _ (List.mem_of_getElem? (i := 1) rfl)) (hw _ (List.mem_of_getElem? (i := 2) rfl)) e0 (g := (mkF m 38 #[.val (.int x0), .val (.int x1), .val (.int x2), .val (.int x3), .val (.int x4), .val (.long x5), .second, .val (.int (x5.toInt32)), .val (.int ((x5 >>> ((32 : Int32) &&& 0x3f).toInt64).toInt32)), .val (.int (((x0 + x1) + x2) + x3)), .val (.int (((x0 + x1) + x2) + x3)), .unset, .unset, .unset] [])) rfl (hb hby at_38) (by decide) (by decide)
    obtain ⟨b7, g7⟩ : ∃ z, z = h0.size := ⟨_, rfl⟩
    rw [← g7] at A7 D7 st7
    refine go st7 ?_
    have ge_b7 : n0 ≤ b7 := Nat.le_trans Z0 (Nat.le_of_eq g7.symm)
    have Z7 := Nat.le_trans Z0 E7.1
    have F7_jobs : Fld Z h7 b7 "com/example/scatterd/scatterd/model/JobCounts" "jobs" "I" (.int (0 : Int32)) := D7 (Or.inr (hw _ (List.mem_of_getElem? (i := 15) rfl))) (ty := .int) (by decide)
    have F7_succeeded : Fld Z h7 b7 "com/example/scatterd/scatterd/model/JobCounts" "succeeded" "I" (.int (0 : Int32)) := D7 (Or.inr (hw _ (List.mem_of_getElem? (i := 17) rfl))) (ty := .int) (by decide)
    have F7_failed : Fld Z h7 b7 "com/example/scatterd/scatterd/model/JobCounts" "failed" "I" (.int (0 : Int32)) := D7 (Or.inr (hw _ (List.mem_of_getElem? (i := 19) rfl))) (ty := .int) (by decide)
    have F7_errored : Fld Z h7 b7 "com/example/scatterd/scatterd/model/JobCounts" "errored" "I" (.int (0 : Int32)) := D7 (Or.inr (hw _ (List.mem_of_getElem? (i := 21) rfl))) (ty := .int) (by decide)
    have F7_cancelled : Fld Z h7 b7 "com/example/scatterd/scatterd/model/JobCounts" "cancelled" "I" (.int (0 : Int32)) := D7 (Or.inr (hw _ (List.mem_of_getElem? (i := 23) rfl))) (ty := .int) (by decide)
    have F7_ready : Fld Z h7 b7 "com/example/scatterd/scatterd/model/JobCounts" "ready" "I" (.int (0 : Int32)) := D7 (Or.inr (hw _ (List.mem_of_getElem? (i := 25) rfl))) (ty := .int) (by decide)
    have F7_running : Fld Z h7 b7 "com/example/scatterd/scatterd/model/JobCounts" "running" "I" (.int (0 : Int32)) := D7 (Or.inr (hw _ (List.mem_of_getElem? (i := 27) rfl))) (ty := .int) (by decide)
    show G (T7.setTop (mkF m 41 #[.val (.int x0), .val (.int x1), .val (.int x2), .val (.int x3), .val (.int x4), .val (.long x5), .second, .val (.int (x5.toInt32)), .val (.int ((x5 >>> ((32 : Int32) &&& 0x3f).toInt64).toInt32)), .val (.int (((x0 + x1) + x2) + x3)), .val (.int (((x0 + x1) + x2) + x3)), .unset, .unset, .unset] [(.ref b7)]))
    refine go (fun tg kg => XS.dup X7.here hx rfl (hb hby at_41) rfl rfl kg) ?_
    show G (T7.setTop (mkF m 42 #[.val (.int x0), .val (.int x1), .val (.int x2), .val (.int x3), .val (.int x4), .val (.long x5), .second, .val (.int (x5.toInt32)), .val (.int ((x5 >>> ((32 : Int32) &&& 0x3f).toInt64).toInt32)), .val (.int (((x0 + x1) + x2) + x3)), .val (.int (((x0 + x1) + x2) + x3)), .unset, .unset, .unset] [(.ref b7), (.ref b7)]))
    refine go (fun tg kg => XS.iload X7.here hx rfl (hb hby at_42) rfl kg) ?_
    show G (T7.setTop (mkF m 44 #[.val (.int x0), .val (.int x1), .val (.int x2), .val (.int x3), .val (.int x4), .val (.long x5), .second, .val (.int (x5.toInt32)), .val (.int ((x5 >>> ((32 : Int32) &&& 0x3f).toInt64).toInt32)), .val (.int (((x0 + x1) + x2) + x3)), .val (.int (((x0 + x1) + x2) + x3)), .unset, .unset, .unset] [(.int (((x0 + x1) + x2) + x3)), (.ref b7), (.ref b7)]))
    refine go (fun tg kg => XS.iloadN X7.here hx rfl (hb hby at_44) rfl kg) ?_
    show G (T7.setTop (mkF m 45 #[.val (.int x0), .val (.int x1), .val (.int x2), .val (.int x3), .val (.int x4), .val (.long x5), .second, .val (.int (x5.toInt32)), .val (.int ((x5 >>> ((32 : Int32) &&& 0x3f).toInt64).toInt32)), .val (.int (((x0 + x1) + x2) + x3)), .val (.int (((x0 + x1) + x2) + x3)), .unset, .unset, .unset] [(.int x0), (.int (((x0 + x1) + x2) + x3)), (.ref b7), (.ref b7)]))
    refine go (fun tg kg => XS.iloadN X7.here hx rfl (hb hby at_45) rfl kg) ?_
    show G (T7.setTop (mkF m 46 #[.val (.int x0), .val (.int x1), .val (.int x2), .val (.int x3), .val (.int x4), .val (.long x5), .second, .val (.int (x5.toInt32)), .val (.int ((x5 >>> ((32 : Int32) &&& 0x3f).toInt64).toInt32)), .val (.int (((x0 + x1) + x2) + x3)), .val (.int (((x0 + x1) + x2) + x3)), .unset, .unset, .unset] [(.int x1), (.int x0), (.int (((x0 + x1) + x2) + x3)), (.ref b7), (.ref b7)]))
    refine go (fun tg kg => XS.iloadN X7.here hx rfl (hb hby at_46) rfl kg) ?_
    show G (T7.setTop (mkF m 47 #[.val (.int x0), .val (.int x1), .val (.int x2), .val (.int x3), .val (.int x4), .val (.long x5), .second, .val (.int (x5.toInt32)), .val (.int ((x5 >>> ((32 : Int32) &&& 0x3f).toInt64).toInt32)), .val (.int (((x0 + x1) + x2) + x3)), .val (.int (((x0 + x1) + x2) + x3)), .unset, .unset, .unset] [(.int x2), (.int x1), (.int x0), (.int (((x0 + x1) + x2) + x3)), (.ref b7), (.ref b7)]))
    refine go (fun tg kg => XS.iloadN X7.here hx rfl (hb hby at_47) rfl kg) ?_
    show G (T7.setTop (mkF m 48 #[.val (.int x0), .val (.int x1), .val (.int x2), .val (.int x3), .val (.int x4), .val (.long x5), .second, .val (.int (x5.toInt32)), .val (.int ((x5 >>> ((32 : Int32) &&& 0x3f).toInt64).toInt32)), .val (.int (((x0 + x1) + x2) + x3)), .val (.int (((x0 + x1) + x2) + x3)), .unset, .unset, .unset] [(.int x3), (.int x2), (.int x1), (.int x0), (.int (((x0 + x1) + x2) + x3)), (.ref b7), (.ref b7)]))
    refine go (fun tg kg => XS.iload X7.here hx rfl (hb hby at_48) rfl kg) ?_
    show G (T7.setTop (mkF m 50 #[.val (.int x0), .val (.int x1), .val (.int x2), .val (.int x3), .val (.int x4), .val (.long x5), .second, .val (.int (x5.toInt32)), .val (.int ((x5 >>> ((32 : Int32) &&& 0x3f).toInt64).toInt32)), .val (.int (((x0 + x1) + x2) + x3)), .val (.int (((x0 + x1) + x2) + x3)), .unset, .unset, .unset] [(.int (x5.toInt32)), (.int x3), (.int x2), (.int x1), (.int x0), (.int (((x0 + x1) + x2) + x3)), (.ref b7), (.ref b7)]))
    refine go (fun tg kg => XS.iload X7.here hx rfl (hb hby at_50) rfl kg) ?_
    show G (T7.setTop (mkF m 52 #[.val (.int x0), .val (.int x1), .val (.int x2), .val (.int x3), .val (.int x4), .val (.long x5), .second, .val (.int (x5.toInt32)), .val (.int ((x5 >>> ((32 : Int32) &&& 0x3f).toInt64).toInt32)), .val (.int (((x0 + x1) + x2) + x3)), .val (.int (((x0 + x1) + x2) + x3)), .unset, .unset, .unset] [(.int ((x5 >>> ((32 : Int32) &&& 0x3f).toInt64).toInt32)), (.int (x5.toInt32)), (.int x3), (.int x2), (.int x1), (.int x0), (.int (((x0 + x1) + x2) + x3)), (.ref b7), (.ref b7)]))
    obtain ⟨_, _, ⟨T8, L8, k8, n8⟩, -, X8, ⟨Lc8, hQ8, l8, y8, z8⟩, st8⟩ := X7.specialBack hx (y := (⟨"com/example/scatterd/scatterd/model/JobCounts", "<init>", "(IIIIIII)V"⟩ : MethodName)) rfl hown (mvT hZ (hw _ (List.mem_of_getElem? (i := 3) rfl))) (mvT hZ (hw _ (List.mem_of_getElem? (i := 4) rfl))) (mvT hZ (hw _ (List.mem_of_getElem? (i := 5) rfl))) (by decide) (backOf (W := 1) (rm1 l Z a0 hw [] b7 (((x0 + x1) + x2) + x3) x0 x1 x2 x3 (x5.toInt32) ((x5 >>> ((32 : Int32) &&& 0x3f).toInt64).toInt32) h7 n0 Z7 A7 ge_b7 F7_jobs F7_succeeded F7_failed F7_errored F7_cancelled F7_ready F7_running) hZ (hw _ (List.mem_of_getElem? (i := 5) rfl)) (hw _ (List.mem_of_getElem? (i := 2) rfl)) (by decide) (by decide)) (g := (mkF m 52 #[.val (.int x0), .val (.int x1), .val (.int x2), .val (.int x3), .val (.int x4), .val (.long x5), .second, .val (.int (x5.toInt32)), .val (.int ((x5 >>> ((32 : Int32) &&& 0x3f).toInt64).toInt32)), .val (.int (((x0 + x1) + x2) + x3)), .val (.int (((x0 + x1) + x2) + x3)), .unset, .unset, .unset] [(.int ((x5 >>> ((32 : Int32) &&& 0x3f).toInt64).toInt32)), (.int (x5.toInt32)), (.int x3), (.int x2), (.int x1), (.int x0), (.int (((x0 + x1) + x2) + x3)), (.ref b7), (.ref b7)])) rfl (by rw [hml]; rfl) (Steps.refl _) (a := b7) (argsL := [(.int (((x0 + x1) + x2) + x3)), (.int x0), (.int x1), (.int x2), (.int x3), (.int (x5.toInt32)), (.int ((x5 >>> ((32 : Int32) &&& 0x3f).toInt64).toInt32))]) (rest := [(.ref b7)]) (lenOf pd__IIIIIII_V rfl) rfl (by show 2 * 0 + _ ≤ _; exact Nat.le_of_eq rfl) (hb hby at_52) (fun _ _ => ⟨rfl, e7, (by decide : 1 + 0 ≤ _), (by decide : 7 + 0 ≤ _)⟩)
    dsimp only [Pt.U, Pt.locs, Pt.cells, Pt.slots] at X8 l8 y8 z8 st8 hQ8
    subst l8 y8 z8
    obtain ⟨rfl, Nq8, K8, Ge8, Gf8_jobs, Gf8_succeeded, Gf8_failed, Gf8_errored, Gf8_cancelled, Gf8_ready, Gf8_running⟩ := hQ8
    have Z8 := Nat.le_trans Z7 K8.1
    have N8 := Fr.app N0 Nq8
    refine go (fun tg kg => st8.trans kg) ?_
    show G (T8.setTop (mkF m 55 #[.val (.int x0), .val (.int x1), .val (.int x2), .val (.int x3), .val (.int x4), .val (.long x5), .second, .val (.int (x5.toInt32)), .val (.int ((x5 >>> ((32 : Int32) &&& 0x3f).toInt64).toInt32)), .val (.int (((x0 + x1) + x2) + x3)), .val (.int (((x0 + x1) + x2) + x3)), .unset, .unset, .unset] [(.ref b7)]))
    refine go (fun tg kg => XS.astore X8.here hx rfl (hb hby at_55) rfl rfl (l' := #[.val (.int x0), .val (.int x1), .val (.int x2), .val (.int x3), .val (.int x4), .val (.long x5), .second, .val (.int (x5.toInt32)), .val (.int ((x5 >>> ((32 : Int32) &&& 0x3f).toInt64).toInt32)), .val (.int (((x0 + x1) + x2) + x3)), .val (.int (((x0 + x1) + x2) + x3)), .val (.ref b7), .unset, .unset]) rfl kg) ?_
    show G (T8.setTop (mkF m 57 #[.val (.int x0), .val (.int x1), .val (.int x2), .val (.int x3), .val (.int x4), .val (.long x5), .second, .val (.int (x5.toInt32)), .val (.int ((x5 >>> ((32 : Int32) &&& 0x3f).toInt64).toInt32)), .val (.int (((x0 + x1) + x2) + x3)), .val (.int (((x0 + x1) + x2) + x3)), .val (.ref b7), .unset, .unset] []))
    refine go (fun tg kg => XS.aload X8.here hx rfl (hb hby at_57) rfl rfl kg) ?_
    show G (T8.setTop (mkF m 59 #[.val (.int x0), .val (.int x1), .val (.int x2), .val (.int x3), .val (.int x4), .val (.long x5), .second, .val (.int (x5.toInt32)), .val (.int ((x5 >>> ((32 : Int32) &&& 0x3f).toInt64).toInt32)), .val (.int (((x0 + x1) + x2) + x3)), .val (.int (((x0 + x1) + x2) + x3)), .val (.ref b7), .unset, .unset] [(.ref b7)]))
    obtain ⟨cq9, kq9, q9a, q9b, q9c⟩ := isOf hZ rfl Ge8
    obtain ⟨_, _, ⟨T9, L9, k9, n9⟩, -, X9, ⟨Lc9, hQ9, l9, y9, z9⟩, st9⟩ := X8.virtualBack hx (y := (⟨"com/example/scatterd/scatterd/model/JobCounts", "completed", "()I"⟩ : MethodName)) (z := (⟨"com/example/scatterd/scatterd/model/JobCounts", "completed", "()I"⟩ : MethodName)) hown (mvT hZ (hw _ (List.mem_of_getElem? (i := 28) rfl))) (mvT hZ (hw _ (List.mem_of_getElem? (i := 29) rfl))) (notFace_of_selects (args := #[]) (mvT hZ (hw _ (List.mem_of_getElem? (i := 31) rfl)))) (mvT hZ (hw _ (List.mem_of_getElem? (i := 31) rfl))) (mvT hZ (hw _ (List.mem_of_getElem? (i := 30) rfl))) (by decide) (backOf (W := 0) (rm4 l Z a0 hw [] b7 x0 x1 x2 x3 T8.heap n0 Z8 Ge8 Gf8_succeeded Gf8_failed Gf8_errored Gf8_cancelled) hZ (hw _ (List.mem_of_getElem? (i := 32) rfl)) (hw _ (List.mem_of_getElem? (i := 2) rfl)) (by decide) (by decide)) q9a q9c (g := (mkF m 59 #[.val (.int x0), .val (.int x1), .val (.int x2), .val (.int x3), .val (.int x4), .val (.long x5), .second, .val (.int (x5.toInt32)), .val (.int ((x5 >>> ((32 : Int32) &&& 0x3f).toInt64).toInt32)), .val (.int (((x0 + x1) + x2) + x3)), .val (.int (((x0 + x1) + x2) + x3)), .val (.ref b7), .unset, .unset] [(.ref b7)])) rfl (by rw [hml]; rfl) (Steps.refl _) (argsL := []) (rest := []) (lenOf pd___I rfl) rfl (by show 2 * 0 + _ ≤ _; exact Nat.le_of_eq rfl) (hb hby at_59) (fun _ _ => ⟨rfl, rfl, (by decide : 1 + 0 ≤ _), (by decide : 7 + 0 ≤ _)⟩)
    dsimp only [Pt.U, Pt.locs, Pt.cells, Pt.slots] at X9 l9 y9 z9 st9 hQ9
    subst l9 y9 z9
    obtain ⟨rfl, Nq9, e9⟩ := hQ9
    have N9 := Fr.app N8 Nq9
    refine go (fun tg kg => st9.trans kg) ?_
    show G (T9.setTop (mkF m 62 #[.val (.int x0), .val (.int x1), .val (.int x2), .val (.int x3), .val (.int x4), .val (.long x5), .second, .val (.int (x5.toInt32)), .val (.int ((x5 >>> ((32 : Int32) &&& 0x3f).toInt64).toInt32)), .val (.int (((x0 + x1) + x2) + x3)), .val (.int (((x0 + x1) + x2) + x3)), .val (.ref b7), .unset, .unset] [(.int (((x0 + x1) + x2) + x3))]))
    refine go (fun tg kg => XS.istore X9.here hx rfl (hb hby at_62) rfl (l' := #[.val (.int x0), .val (.int x1), .val (.int x2), .val (.int x3), .val (.int x4), .val (.long x5), .second, .val (.int (x5.toInt32)), .val (.int ((x5 >>> ((32 : Int32) &&& 0x3f).toInt64).toInt32)), .val (.int (((x0 + x1) + x2) + x3)), .val (.int (((x0 + x1) + x2) + x3)), .val (.ref b7), .val (.int (((x0 + x1) + x2) + x3)), .unset]) rfl kg) ?_
    show G (T9.setTop (mkF m 64 #[.val (.int x0), .val (.int x1), .val (.int x2), .val (.int x3), .val (.int x4), .val (.long x5), .second, .val (.int (x5.toInt32)), .val (.int ((x5 >>> ((32 : Int32) &&& 0x3f).toInt64).toInt32)), .val (.int (((x0 + x1) + x2) + x3)), .val (.int (((x0 + x1) + x2) + x3)), .val (.ref b7), .val (.int (((x0 + x1) + x2) + x3)), .unset] []))
    refine go (fun tg kg => XS.aload X9.here hx rfl (hb hby at_64) rfl rfl kg) ?_
    show G (T9.setTop (mkF m 66 #[.val (.int x0), .val (.int x1), .val (.int x2), .val (.int x3), .val (.int x4), .val (.long x5), .second, .val (.int (x5.toInt32)), .val (.int ((x5 >>> ((32 : Int32) &&& 0x3f).toInt64).toInt32)), .val (.int (((x0 + x1) + x2) + x3)), .val (.int (((x0 + x1) + x2) + x3)), .val (.ref b7), .val (.int (((x0 + x1) + x2) + x3)), .unset] [(.ref b7)]))
    obtain ⟨cq10, kq10, q10a, q10b, q10c⟩ := isOf hZ e9 Ge8
    obtain ⟨_, _, ⟨T10, L10, k10, n10⟩, -, X10, ⟨Lc10, hQ10, l10, y10, z10⟩, st10⟩ := X9.virtualBack hx (y := (⟨"com/example/scatterd/scatterd/model/JobCounts", "complete", "()Z"⟩ : MethodName)) (z := (⟨"com/example/scatterd/scatterd/model/JobCounts", "complete", "()Z"⟩ : MethodName)) hown (mvT hZ (hw _ (List.mem_of_getElem? (i := 33) rfl))) (mvT hZ (hw _ (List.mem_of_getElem? (i := 34) rfl))) (notFace_of_selects (args := #[]) (mvT hZ (hw _ (List.mem_of_getElem? (i := 36) rfl)))) (mvT hZ (hw _ (List.mem_of_getElem? (i := 36) rfl))) (mvT hZ (hw _ (List.mem_of_getElem? (i := 35) rfl))) (by decide) (backOf (W := 0) (rm5 l Z a0 hw [] b7 x0 x1 x2 x3 (((x0 + x1) + x2) + x3) T8.heap n0 Z8 Ge8 Gf8_succeeded Gf8_failed Gf8_errored Gf8_cancelled Gf8_jobs) hZ (hw _ (List.mem_of_getElem? (i := 37) rfl)) (hw _ (List.mem_of_getElem? (i := 2) rfl)) (by decide) (by decide)) q10a q10c (g := (mkF m 66 #[.val (.int x0), .val (.int x1), .val (.int x2), .val (.int x3), .val (.int x4), .val (.long x5), .second, .val (.int (x5.toInt32)), .val (.int ((x5 >>> ((32 : Int32) &&& 0x3f).toInt64).toInt32)), .val (.int (((x0 + x1) + x2) + x3)), .val (.int (((x0 + x1) + x2) + x3)), .val (.ref b7), .val (.int (((x0 + x1) + x2) + x3)), .unset] [(.ref b7)])) rfl (by rw [hml]; rfl) (Steps.refl _) (argsL := []) (rest := []) (lenOf pd___Z rfl) rfl (by show 2 * 0 + _ ≤ _; exact Nat.le_of_eq rfl) (hb hby at_66) (fun _ _ => ⟨rfl, e9, (by decide : 1 + 0 ≤ _), (by decide : 7 + 0 ≤ _)⟩)
    dsimp only [Pt.U, Pt.locs, Pt.cells, Pt.slots] at X10 l10 y10 z10 st10 hQ10
    subst l10 y10 z10
    obtain ⟨rfl, Nq10, e10⟩ := hQ10
    have N10 := Fr.app N9 Nq10
    refine go (fun tg kg => st10.trans kg) ?_
    show G (T10.setTop (mkF m 69 #[.val (.int x0), .val (.int x1), .val (.int x2), .val (.int x3), .val (.int x4), .val (.long x5), .second, .val (.int (x5.toInt32)), .val (.int ((x5 >>> ((32 : Int32) &&& 0x3f).toInt64).toInt32)), .val (.int (((x0 + x1) + x2) + x3)), .val (.int (((x0 + x1) + x2) + x3)), .val (.ref b7), .val (.int (((x0 + x1) + x2) + x3)), .unset] [(.int (own_cmp (((x0 + x1) + x2) + x3) (((x0 + x1) + x2) + x3)))]))
    refine go (fun tg kg => XS.istore X10.here hx rfl (hb hby at_69) rfl (l' := #[.val (.int x0), .val (.int x1), .val (.int x2), .val (.int x3), .val (.int x4), .val (.long x5), .second, .val (.int (x5.toInt32)), .val (.int ((x5 >>> ((32 : Int32) &&& 0x3f).toInt64).toInt32)), .val (.int (((x0 + x1) + x2) + x3)), .val (.int (((x0 + x1) + x2) + x3)), .val (.ref b7), .val (.int (((x0 + x1) + x2) + x3)), .val (.int (own_cmp (((x0 + x1) + x2) + x3) (((x0 + x1) + x2) + x3)))]) rfl kg) ?_
    show G (T10.setTop (mkF m 71 #[.val (.int x0), .val (.int x1), .val (.int x2), .val (.int x3), .val (.int x4), .val (.long x5), .second, .val (.int (x5.toInt32)), .val (.int ((x5 >>> ((32 : Int32) &&& 0x3f).toInt64).toInt32)), .val (.int (((x0 + x1) + x2) + x3)), .val (.int (((x0 + x1) + x2) + x3)), .val (.ref b7), .val (.int (((x0 + x1) + x2) + x3)), .val (.int (own_cmp (((x0 + x1) + x2) + x3) (((x0 + x1) + x2) + x3)))] []))
    refine go (fun tg kg => XS.iload X10.here hx rfl (hb hby at_71) rfl kg) ?_
    show G (T10.setTop (mkF m 73 #[.val (.int x0), .val (.int x1), .val (.int x2), .val (.int x3), .val (.int x4), .val (.long x5), .second, .val (.int (x5.toInt32)), .val (.int ((x5 >>> ((32 : Int32) &&& 0x3f).toInt64).toInt32)), .val (.int (((x0 + x1) + x2) + x3)), .val (.int (((x0 + x1) + x2) + x3)), .val (.ref b7), .val (.int (((x0 + x1) + x2) + x3)), .val (.int (own_cmp (((x0 + x1) + x2) + x3) (((x0 + x1) + x2) + x3)))] [(.int (((x0 + x1) + x2) + x3))]))
    refine go (fun tg kg => XS.iload X10.here hx rfl (hb hby at_73) rfl kg) ?_
    show G (T10.setTop (mkF m 75 #[.val (.int x0), .val (.int x1), .val (.int x2), .val (.int x3), .val (.int x4), .val (.long x5), .second, .val (.int (x5.toInt32)), .val (.int ((x5 >>> ((32 : Int32) &&& 0x3f).toInt64).toInt32)), .val (.int (((x0 + x1) + x2) + x3)), .val (.int (((x0 + x1) + x2) + x3)), .val (.ref b7), .val (.int (((x0 + x1) + x2) + x3)), .val (.int (own_cmp (((x0 + x1) + x2) + x3) (((x0 + x1) + x2) + x3)))] [(.int (((x0 + x1) + x2) + x3)), (.int (((x0 + x1) + x2) + x3))]))
    refine go (fun tg kg => XS.icmpNo X10.here hx rfl (hb hby at_75) rfl (teq (rfl : (((x0 + x1) + x2) + x3) = (((x0 + x1) + x2) + x3))).2 kg) ?_
    show G (T10.setTop (mkF m 78 #[.val (.int x0), .val (.int x1), .val (.int x2), .val (.int x3), .val (.int x4), .val (.long x5), .second, .val (.int (x5.toInt32)), .val (.int ((x5 >>> ((32 : Int32) &&& 0x3f).toInt64).toInt32)), .val (.int (((x0 + x1) + x2) + x3)), .val (.int (((x0 + x1) + x2) + x3)), .val (.ref b7), .val (.int (((x0 + x1) + x2) + x3)), .val (.int (own_cmp (((x0 + x1) + x2) + x3) (((x0 + x1) + x2) + x3)))] []))
    refine go (fun tg kg => XS.iload X10.here hx rfl (hb hby at_78) rfl kg) ?_
    show G (T10.setTop (mkF m 80 #[.val (.int x0), .val (.int x1), .val (.int x2), .val (.int x3), .val (.int x4), .val (.long x5), .second, .val (.int (x5.toInt32)), .val (.int ((x5 >>> ((32 : Int32) &&& 0x3f).toInt64).toInt32)), .val (.int (((x0 + x1) + x2) + x3)), .val (.int (((x0 + x1) + x2) + x3)), .val (.ref b7), .val (.int (((x0 + x1) + x2) + x3)), .val (.int (own_cmp (((x0 + x1) + x2) + x3) (((x0 + x1) + x2) + x3)))] [(.int (own_cmp (((x0 + x1) + x2) + x3) (((x0 + x1) + x2) + x3)))]))
    refine go (fun tg kg => XS.iload X10.here hx rfl (hb hby at_80) rfl kg) ?_
    show G (T10.setTop (mkF m 82 #[.val (.int x0), .val (.int x1), .val (.int x2), .val (.int x3), .val (.int x4), .val (.long x5), .second, .val (.int (x5.toInt32)), .val (.int ((x5 >>> ((32 : Int32) &&& 0x3f).toInt64).toInt32)), .val (.int (((x0 + x1) + x2) + x3)), .val (.int (((x0 + x1) + x2) + x3)), .val (.ref b7), .val (.int (((x0 + x1) + x2) + x3)), .val (.int (own_cmp (((x0 + x1) + x2) + x3) (((x0 + x1) + x2) + x3)))] [(.int (((x0 + x1) + x2) + x3)), (.int (own_cmp (((x0 + x1) + x2) + x3) (((x0 + x1) + x2) + x3)))]))
    refine go (fun tg kg => XS.iload X10.here hx rfl (hb hby at_82) rfl kg) ?_
    show G (T10.setTop (mkF m 84 #[.val (.int x0), .val (.int x1), .val (.int x2), .val (.int x3), .val (.int x4), .val (.long x5), .second, .val (.int (x5.toInt32)), .val (.int ((x5 >>> ((32 : Int32) &&& 0x3f).toInt64).toInt32)), .val (.int (((x0 + x1) + x2) + x3)), .val (.int (((x0 + x1) + x2) + x3)), .val (.ref b7), .val (.int (((x0 + x1) + x2) + x3)), .val (.int (own_cmp (((x0 + x1) + x2) + x3) (((x0 + x1) + x2) + x3)))] [(.int (((x0 + x1) + x2) + x3)), (.int (((x0 + x1) + x2) + x3)), (.int (own_cmp (((x0 + x1) + x2) + x3) (((x0 + x1) + x2) + x3)))]))
    refine go (fun tg kg => XS.icmpNo X10.here hx rfl (hb hby at_84) rfl (teq (rfl : (((x0 + x1) + x2) + x3) = (((x0 + x1) + x2) + x3))).2 kg) ?_
    show G (T10.setTop (mkF m 87 #[.val (.int x0), .val (.int x1), .val (.int x2), .val (.int x3), .val (.int x4), .val (.long x5), .second, .val (.int (x5.toInt32)), .val (.int ((x5 >>> ((32 : Int32) &&& 0x3f).toInt64).toInt32)), .val (.int (((x0 + x1) + x2) + x3)), .val (.int (((x0 + x1) + x2) + x3)), .val (.ref b7), .val (.int (((x0 + x1) + x2) + x3)), .val (.int (own_cmp (((x0 + x1) + x2) + x3) (((x0 + x1) + x2) + x3)))] [(.int (own_cmp (((x0 + x1) + x2) + x3) (((x0 + x1) + x2) + x3)))]))
    refine go (fun tg kg => XS.iconst X10.here hx rfl (hb hby at_87) kg) ?_
    show G (T10.setTop (mkF m 88 #[.val (.int x0), .val (.int x1), .val (.int x2), .val (.int x3), .val (.int x4), .val (.long x5), .second, .val (.int (x5.toInt32)), .val (.int ((x5 >>> ((32 : Int32) &&& 0x3f).toInt64).toInt32)), .val (.int (((x0 + x1) + x2) + x3)), .val (.int (((x0 + x1) + x2) + x3)), .val (.ref b7), .val (.int (((x0 + x1) + x2) + x3)), .val (.int (own_cmp (((x0 + x1) + x2) + x3) (((x0 + x1) + x2) + x3)))] [(.int (1 : Int32)), (.int (own_cmp (((x0 + x1) + x2) + x3) (((x0 + x1) + x2) + x3)))]))
    refine go (fun tg kg => XS.goto X10.here hx rfl (pc0 := 88) (pc' := 92) rfl (hb hby at_88) (by decide) (by decide) kg) ?_
    show G (T10.setTop (mkF m 92 #[.val (.int x0), .val (.int x1), .val (.int x2), .val (.int x3), .val (.int x4), .val (.long x5), .second, .val (.int (x5.toInt32)), .val (.int ((x5 >>> ((32 : Int32) &&& 0x3f).toInt64).toInt32)), .val (.int (((x0 + x1) + x2) + x3)), .val (.int (((x0 + x1) + x2) + x3)), .val (.ref b7), .val (.int (((x0 + x1) + x2) + x3)), .val (.int (own_cmp (((x0 + x1) + x2) + x3) (((x0 + x1) + x2) + x3)))] [(.int (1 : Int32)), (.int (own_cmp (((x0 + x1) + x2) + x3) (((x0 + x1) + x2) + x3)))]))
    refine go (fun tg kg => XS.icmpNo X10.here hx rfl (hb hby at_92) rfl (teq (own_c1 rfl)).2 kg) ?_
    show G (T10.setTop (mkF m 95 #[.val (.int x0), .val (.int x1), .val (.int x2), .val (.int x3), .val (.int x4), .val (.long x5), .second, .val (.int (x5.toInt32)), .val (.int ((x5 >>> ((32 : Int32) &&& 0x3f).toInt64).toInt32)), .val (.int (((x0 + x1) + x2) + x3)), .val (.int (((x0 + x1) + x2) + x3)), .val (.ref b7), .val (.int (((x0 + x1) + x2) + x3)), .val (.int (own_cmp (((x0 + x1) + x2) + x3) (((x0 + x1) + x2) + x3)))] []))
    refine go (fun tg kg => XS.iconst X10.here hx rfl (hb hby at_95) kg) ?_
    show G (T10.setTop (mkF m 96 #[.val (.int x0), .val (.int x1), .val (.int x2), .val (.int x3), .val (.int x4), .val (.long x5), .second, .val (.int (x5.toInt32)), .val (.int ((x5 >>> ((32 : Int32) &&& 0x3f).toInt64).toInt32)), .val (.int (((x0 + x1) + x2) + x3)), .val (.int (((x0 + x1) + x2) + x3)), .val (.ref b7), .val (.int (((x0 + x1) + x2) + x3)), .val (.int (own_cmp (((x0 + x1) + x2) + x3) (((x0 + x1) + x2) + x3)))] [(.int (1 : Int32))]))
    refine go (fun tg kg => XS.goto X10.here hx rfl (pc0 := 96) (pc' := 100) rfl (hb hby at_96) (by decide) (by decide) kg) ?_
    show G (T10.setTop (mkF m 100 #[.val (.int x0), .val (.int x1), .val (.int x2), .val (.int x3), .val (.int x4), .val (.long x5), .second, .val (.int (x5.toInt32)), .val (.int ((x5 >>> ((32 : Int32) &&& 0x3f).toInt64).toInt32)), .val (.int (((x0 + x1) + x2) + x3)), .val (.int (((x0 + x1) + x2) + x3)), .val (.ref b7), .val (.int (((x0 + x1) + x2) + x3)), .val (.int (own_cmp (((x0 + x1) + x2) + x3) (((x0 + x1) + x2) + x3)))] [(.int (1 : Int32))]))
    refine fin (some (.int (1 : Int32))) X10 (fun h => absurd h (by decide)) (fun fs hr => retN X10 hx (t := .boolean) hret (by simp) (hb hby at_100) hr) (by decide) (by decide) ?_
    rw [e10]
    exact ⟨rfl, N10⟩
set_option maxRecDepth 65536 in
set_option maxHeartbeats 40000000 in
theorem comes_1 {Post : Tables → Env → Array Value → State → Outcome → State → Prop} (hpost : ∀ tb e args s v u, (limb_1_1.after args s (.returned v) u = true ∧ limb_1_2.after args s (.returned v) u = true ∧ True) → FrameEnd s (.returned v) u (Jvm.fieldLocs frame_1_writes args s ++ Jvm.arrayLocs frame_1_arrays args s ++ Jvm.staticLocs frame_1_statics s) 16 128 → Post tb e args s (.returned v) u) :
    ArmFor flags0 classFile x code maxLocals ret World_1 tables_1 room_1 Calls_1 rest_1 Pre_1 Post := by
  intro l hfl _ _ p e ha hc hk s m args below hf hA hF happ hP
  obtain ⟨hcalls, hrest, hpre⟩ := hP
  obtain ⟨-, -, -, hnamed, -, -, -, hat⟩ := (Spec.applies_iff hf).mp happ
  obtain ⟨hg, hn⟩ := and_e (Cond.before_iff.mp (show (Jvm.Cond.and given_1 narrow_1).before args s = true from hpre))
  obtain ⟨gc, gr0⟩ := and_e hg
  obtain ⟨ga0, gr1⟩ := and_e gr0
  obtain ⟨ga1, gr2⟩ := and_e gr1
  obtain ⟨ga2, gr3⟩ := and_e gr2
  obtain ⟨ga3, gr4⟩ := and_e gr3
  obtain ⟨ga4, gr5⟩ := and_e gr4
  have ga5 := gr5
  obtain ⟨w0, w1, w2, w3, w4, w5, rfl⟩ : ∃ w0 w1 w2 w3 w4 w5 : Value, args = #[w0, w1, w2, w3, w4, w5] := by
    have hs : args.size = 6 := by simpa [Cond.value, given_1] using gc
    obtain ⟨L⟩ := args
    match L, hs with
    | [w0, w1, w2, w3, w4, w5], _ => exact ⟨w0, w1, w2, w3, w4, w5, rfl⟩
  have hw := fun d (hd : d ∈ tables_1) => atoms_spec (ws := Jvm.Cond.code x code maxLocals ret :: tables_1) hat d (List.mem_cons_of_mem _ hd)
  have hfit : Fit s := fun {y c} hc i hi => by
    obtain ⟨ha, rfl⟩ := Array.getElem?_eq_some_iff.mp hc
    have q := List.all_eq_true.mp ((Array.all_eq_true_iff_forall_mem.mp hF) _ (Array.getElem_mem ha)) i (List.mem_range.mpr hi)
    simpa [Array.getElem?_eq_getElem hi] using q
  obtain ⟨i0, ei0⟩ := is_v ga0
  obtain rfl : w0 = (.int i0) := Option.some.inj ei0
  obtain ⟨i1, ei1⟩ := is_v ga1
  obtain rfl : w1 = (.int i1) := Option.some.inj ei1
  obtain ⟨i2, ei2⟩ := is_v ga2
  obtain rfl : w2 = (.int i2) := Option.some.inj ei2
  obtain ⟨i3, ei3⟩ := is_v ga3
  obtain rfl : w3 = (.int i3) := Option.some.inj ei3
  obtain ⟨i4, ei4⟩ := is_v ga4
  obtain rfl : w4 = (.int i4) := Option.some.inj ei4
  obtain ⟨i5, ei5⟩ := isL_v ga5
  obtain rfl : w5 = (.long i5) := Option.some.inj ei5
  obtain ⟨n, o, h1, h2, h3, _, L, rfl, ⟨rfl, N⟩, hq⟩ := rm0 l s _ hw tables_1 i0 i1 i2 i3 i4 i5  s.heap s.heap.size (Nat.le_refl _)  p e ha hc hk s m _ below hf ((Spec.applies_iff_loose hf).mp happ).1 ⟨rfl, State.Warmed39.refl s, rfl⟩ trivial
  refine ⟨n, _, h1, h2, h3, hpost _ _ _ _ _ _ ⟨Cond.after_iff.mpr rfl, Cond.after_iff.mpr (eq_i res_at (Term.int_eval (1)) rfl), trivial⟩ ⟨hq.1, hq.2.1, (hq.2.2.sift fun y hy => Or.inr (N y hy)).mono (by decide) (by decide)⟩⟩
theorem main_1_1 : Claimed_1_1 := comes_1 fun _ _ _ _ _ _ h hF => ⟨h.1, hF⟩
theorem main_1_2 : Claimed_1_2 := comes_1 fun _ _ _ _ _ _ h hF => ⟨h.2.1, hF⟩
end Jvm.Pilot.@@N@@
namespace Jvm.Pilot.@@N@@
open Jvm Jvm.ClassFile Sem Op Lib Jvm.Free Jvm.Stand Jvm.Pilot.@@N@@.Jvm.D
/-! MADE BY PROGRAM (witnessworld.py) out of the Statement's table words and the real class files: 10 classes; the members and pool entries that the words name. The judged class is class 1, her method 1. -/
namespace start1
open Jvm.ClassFile
def u (s : String) : CpInfo := .utf8 (stringToUtf16 s)
/-- a pool by its gaps: so many unusable entries, then the entry; so many at the end -/
def gap : Nat → List CpInfo → List CpInfo
  | 0, r => r
  | n + 1, r => .unusable :: gap n r
def poolList (es : List (Nat × CpInfo)) (last : Nat) : List CpInfo := es.foldr (fun e r => gap e.1 (e.2 :: r)) (gap last [])
def pool (es : List (Nat × CpInfo)) (last : Nat) : Array CpInfo := ⟨poolList es last⟩
def fileOf (pool : Array CpInfo) (this : Nat) (attrs : Array Attribute := #[]) (ms : Array MethodInfo := #[]) (fl : Nat := 33) (sup : Nat := 0) (ifs : Array Nat := #[]) (fds : Array FieldInfo := #[]) : ClassFile where
  minorVersion := 0
  majorVersion := 65
  constantPool := pool
  accessFlags := fl
  thisClass := this
  superClass := sup
  interfaces := ifs
  fields := fds
  methods := ms
  attributes := attrs
def plain (name : String) (sup : Option ClassId) : Class where
  name := name
  kind := .ordinary
  loader := none
  accessFlags := 33
  super := sup
  interfaces := #[]
  cf := none
  fields := #[]
  methods := #[]
  instanceTypes := #[]
  staticTypes := #[]
  resolved := #[]
  callSites := []
  init := .initialized
  statics := none
  mirror := none

def pool0 : Array CpInfo := pool [(5, u "<init>"), (0, u "()V"), (1, .class_ 10), (1, u "java/lang/Object")] 113

def k0c0 : Code := { maxStack := 0, maxLocals := 1, code := object_method_1_code, exceptionTable := #[], attributes := #[] }
def k0m0 : Method := { name := "<init>", desc := "()V", sig := { parameters := [], returnType := none }, accessFlags := 1, code := some k0c0 }
/-- java/lang/Object -/
def k0 : Class := { plain "java/lang/Object" none with
  accessFlags := 33
  interfaces := #[]
  cf := some (fileOf pool0 8 #[] #[{ accessFlags := 1, nameIndex := 5, descriptorIndex := 6, attributes := #[] }] 33 0 #[] #[])
  fields := #[]
  methods := #[k0m0]
  instanceTypes := #[]
  staticTypes := #[]
  resolved := Array.replicate 124 none
  statics := none }

def pool1 : Array CpInfo := pool [(2, .class_ 4), (1, u "java/lang/Object"), (0, u "<init>"), (0, u "()V"), (0, .class_ 8), (0, u "com/example/scatterd/scatterd/model/JobCounts"), (0, .methodref 7 10), (0, .nameAndType 5 11), (0, u "(IIIIIII)V"), (0, .methodref 7 13), (0, .nameAndType 14 15), (0, u "completed"), (0, u "()I"), (0, .methodref 7 17), (0, .nameAndType 18 19), (0, u "complete"), (0, u "()Z"), (0, .class_ 21), (0, u "com/example/scatterd/scatterd/model/JobCountsCompletedPinLaw"), (2, u "law"), (0, u "(IIIIIJ)Z")] 3

def k1m0 : Method := { name := "<init>", desc := "()V", sig := { parameters := [], returnType := none }, accessFlags := 1, code := none }
def k1c1 : Code := { maxStack := 9, maxLocals := 14, code := code, exceptionTable := #[], attributes := #[] }
def k1m1 : Method := { name := "law", desc := "(IIIIIJ)Z", sig := { parameters := [.int, .int, .int, .int, .int, .long], returnType := some .boolean }, accessFlags := 9, code := some k1c1 }
/-- com/example/scatterd/scatterd/model/JobCountsCompletedPinLaw -/
def k1 : Class := { plain "com/example/scatterd/scatterd/model/JobCountsCompletedPinLaw" (some 0) with
  accessFlags := 49
  interfaces := #[]
  cf := some (fileOf pool1 20 #[] #[{ accessFlags := 1, nameIndex := 5, descriptorIndex := 6, attributes := #[] }, { accessFlags := 9, nameIndex := 24, descriptorIndex := 25, attributes := #[] }] 49 2 #[] #[])
  fields := #[]
  methods := #[k1m0, k1m1]
  instanceTypes := #[]
  staticTypes := #[]
  resolved := Array.replicate 29 none
  statics := none }

def pool2 : Array CpInfo := pool [(1, .methodref 2 3), (0, .class_ 4), (0, .nameAndType 5 6), (0, u "java/lang/Object"), (0, u "<init>"), (0, u "()V"), (0, .class_ 8), (0, u "java/lang/Record")] 13

def k2c0 : Code := { maxStack := 1, maxLocals := 1, code := jdk_30_method_1_code, exceptionTable := #[], attributes := #[] }
def k2m0 : Method := { name := "<init>", desc := "()V", sig := { parameters := [], returnType := none }, accessFlags := 4, code := some k2c0 }
/-- java/lang/Record -/
def k2 : Class := { plain "java/lang/Record" (some 0) with
  accessFlags := 1057
  interfaces := #[]
  cf := some (fileOf pool2 7 #[] #[{ accessFlags := 4, nameIndex := 5, descriptorIndex := 6, attributes := #[] }] 1057 2 #[] #[])
  fields := #[]
  methods := #[k2m0]
  instanceTypes := #[]
  staticTypes := #[]
  resolved := Array.replicate 22 none
  statics := none }

def pool3 : Array CpInfo := pool [(1, .methodref 2 3), (0, .class_ 4), (0, .nameAndType 5 6), (0, u "java/lang/Record"), (0, u "<init>"), (0, u "()V"), (0, .fieldref 8 9), (0, .class_ 10), (0, .nameAndType 11 12), (0, u "com/example/scatterd/scatterd/model/JobCounts"), (0, u "jobs"), (0, u "I"), (0, .fieldref 8 14), (0, .nameAndType 15 12), (0, u "succeeded"), (0, .fieldref 8 17), (0, .nameAndType 18 12), (0, u "failed"), (0, .fieldref 8 20), (0, .nameAndType 21 12), (0, u "errored"), (0, .fieldref 8 23), (0, .nameAndType 24 12), (0, u "cancelled"), (0, .fieldref 8 26), (0, .nameAndType 27 12), (0, u "ready"), (0, .fieldref 8 29), (0, .nameAndType 30 12), (0, u "running"), (0, .methodref 8 32), (0, .nameAndType 33 34), (0, u "completed"), (0, u "()I"), (2, u "complete"), (0, u "()Z"), (14, u "(IIIIIII)V")] 35

def k3c0 : Code := { maxStack := 2, maxLocals := 8, code := prog_28_method_1_code, exceptionTable := #[], attributes := #[] }
def k3m0 : Method := { name := "<init>", desc := "(IIIIIII)V", sig := { parameters := [.int, .int, .int, .int, .int, .int, .int], returnType := none }, accessFlags := 1, code := some k3c0 }
def k3c1 : Code := { maxStack := 2, maxLocals := 1, code := prog_28_method_2_code, exceptionTable := #[], attributes := #[] }
def k3m1 : Method := { name := "completed", desc := "()I", sig := { parameters := [], returnType := some .int }, accessFlags := 1, code := some k3c1 }
def k3c2 : Code := { maxStack := 2, maxLocals := 1, code := prog_28_method_3_code, exceptionTable := #[], attributes := #[] }
def k3m2 : Method := { name := "complete", desc := "()Z", sig := { parameters := [], returnType := some .boolean }, accessFlags := 1, code := some k3c2 }
/-- com/example/scatterd/scatterd/model/JobCounts -/
def k3 : Class := { plain "com/example/scatterd/scatterd/model/JobCounts" (some 2) with
  accessFlags := 49
  interfaces := #[]
  cf := some (fileOf pool3 8 #[] #[{ accessFlags := 1, nameIndex := 5, descriptorIndex := 53, attributes := #[] }, { accessFlags := 1, nameIndex := 33, descriptorIndex := 34, attributes := #[] }, { accessFlags := 1, nameIndex := 37, descriptorIndex := 38, attributes := #[] }] 49 2 #[] #[{ accessFlags := 18, nameIndex := 11, descriptorIndex := 12, attributes := #[] }, { accessFlags := 18, nameIndex := 15, descriptorIndex := 12, attributes := #[] }, { accessFlags := 18, nameIndex := 18, descriptorIndex := 12, attributes := #[] }, { accessFlags := 18, nameIndex := 21, descriptorIndex := 12, attributes := #[] }, { accessFlags := 18, nameIndex := 24, descriptorIndex := 12, attributes := #[] }, { accessFlags := 18, nameIndex := 27, descriptorIndex := 12, attributes := #[] }, { accessFlags := 18, nameIndex := 30, descriptorIndex := 12, attributes := #[] }])
  fields := #[{ name := "jobs", type := .int, accessFlags := 18, slot := 0, constantValue := 0 }, { name := "succeeded", type := .int, accessFlags := 18, slot := 1, constantValue := 0 }, { name := "failed", type := .int, accessFlags := 18, slot := 2, constantValue := 0 }, { name := "errored", type := .int, accessFlags := 18, slot := 3, constantValue := 0 }, { name := "cancelled", type := .int, accessFlags := 18, slot := 4, constantValue := 0 }, { name := "ready", type := .int, accessFlags := 18, slot := 5, constantValue := 0 }, { name := "running", type := .int, accessFlags := 18, slot := 6, constantValue := 0 }]
  methods := #[k3m0, k3m1, k3m2]
  instanceTypes := #[.int, .int, .int, .int, .int, .int, .int]
  staticTypes := #[]
  resolved := Array.replicate 89 none
  statics := none }

def pool4 : Array CpInfo := pool [(1, u "java/lang/Cloneable"), (0, .class_ 1), (0, u "java/lang/Object"), (0, .class_ 3)] 3

/-- java/lang/Cloneable -/
def k4 : Class := { plain "java/lang/Cloneable" (some 0) with
  accessFlags := 1537
  interfaces := #[]
  cf := some (fileOf pool4 2 #[] #[] 1537 4 #[] #[])
  fields := #[]
  methods := #[]
  instanceTypes := #[]
  staticTypes := #[]
  resolved := Array.replicate 8 none
  statics := none }

def pool5 : Array CpInfo := pool [(1, u "java/io/Serializable"), (0, .class_ 1), (0, u "java/lang/Object"), (0, .class_ 3)] 3

/-- java/io/Serializable -/
def k5 : Class := { plain "java/io/Serializable" (some 0) with
  accessFlags := 1537
  interfaces := #[]
  cf := some (fileOf pool5 2 #[] #[] 1537 4 #[] #[])
  fields := #[]
  methods := #[]
  instanceTypes := #[]
  staticTypes := #[]
  resolved := Array.replicate 8 none
  statics := none }

/-- the primitive byte -/
def k6 : Class := { plain "byte" none with kind := .primitive 'B', accessFlags := 0x411 }
/-- [B -/
def k7 : Class := { plain "[B" (some 0) with kind := .array 6 .byte, interfaces := #[4, 5], accessFlags := 1041 }

/-- the primitive int -/
def k8 : Class := { plain "int" none with kind := .primitive 'I', accessFlags := 0x411 }
/-- [I -/
def k9 : Class := { plain "[I" (some 0) with kind := .array 8 .int, interfaces := #[4, 5], accessFlags := 1041 }

def heap : Heap := #[]
def classes : Array Class := #[k0, k1, k2, k3, k4, k5, k6, k7, k8, k9]
def interned : List (Array UInt16 × Addr) := []
def slotsUsed : Nat := 0
def theMethod : MethodId := ⟨1, 1⟩
def args0 : Array Value := #[.int 3, .int 9, .int 5, .int 0, .int 1, .long 7]
def aboutOver (below : List Frame) : State where
  vm := { classes := classes, interned := interned.toArray }
  heap := heap
  slotsUsed := slotsUsed
  threads := #[{ frames := .invoking theMethod args0 :: below }]
def below0 : List Frame := [.native { method := ⟨0, 0⟩, args := #[] }]
def about1 : State := aboutOver below0
def p0 : Program := .bare "" "" ""
def e0 : Env := launch0.env 0 0 0
theorem w_frames : about1.frames = Frame.invoking theMethod args0 :: below0 := rfl
set_option maxRecDepth 65536 in
theorem w_args : argsFit about1.vm theMethod args0 = true := by decide +kernel
set_option maxRecDepth 65536 in
theorem w_heap : heapFits about1 = true := by decide +kernel
set_option maxRecDepth 65536 in
theorem w_runnable : about1.curStatus? = some .runnable := by decide +kernel
set_option maxRecDepth 65536 in
theorem w_alone : about1.alone = true := by decide +kernel
set_option maxRecDepth 65536 in
theorem w_named : about1.methodNamed? x = some theMethod := by decide +kernel
set_option maxRecDepth 65536 in
theorem w_hears : about1.hears theMethod below0 = true := by decide +kernel
set_option maxRecDepth 65536 in
theorem w_ripe : about1.ripe theMethod args0 below0 = true := by decide +kernel
theorem w_running : about1.status = .running := rfl
set_option maxRecDepth 65536 in
theorem w_room : about1.hasRoom e0.platform room_1 = true :=
  launch0.hasRoom_least _ room_1 (by decide +kernel) (by decide +kernel) (by decide +kernel) (by decide +kernel) (by decide +kernel) (by decide +kernel)
theorem allAtoms_all (ts : List Jvm.Cond) (a : Array Jvm.Value) (st : Jvm.State) : (allAtoms ts).before a st = ts.all (fun c => c.before a st) := by
  induction ts with
  | nil => rfl
  | cons c t ih =>
    show (Jvm.Cond.and c (allAtoms t)).before a st = _
    rw [Jvm.Cond.before_and, ih, List.all_cons]
def words1 : List Jvm.Cond := Jvm.Cond.code x code maxLocals ret :: tables_1
/-- a 'code' word, met by the world's own term for the bytes: nothing is compared byte by byte -/
theorem code_word {y : MethodName} {bytes : ByteArray} {mx : Nat} {rt : Option FieldType} {a : Array Value} {s : State} {m : MethodId} {meth : Method} {c : Code} (h1 : s.methodNamed? y = some m) (h2 : s.vm.method? m = some meth) (h3 : meth.code = some c) (h4 : c.code = bytes)
    (h5 : (c.maxLocals == mx && c.exceptionTable.isEmpty && decide (c.maxStack ≤ mostOperands) && decide (meth.sig.returnType = rt) && !meth.locks && decide (parseMethodDescriptor y.desc = some meth.sig)) = true) : (Jvm.Cond.code y bytes mx rt).before a s = true := by
  simp only [Bool.and_eq_true, beq_iff_eq, Bool.not_eq_true', decide_eq_true_eq] at h5
  obtain ⟨⟨⟨⟨⟨g1, g2⟩, g3⟩, g4⟩, g5⟩, g6⟩ := h5
  simp [Cond.before, Cond.holds, Cond.value, h1, h2, h3, h4, g1, g2, g3, g4, g5, g6]
def isCode : Jvm.Cond → Bool
  | .code _ _ _ _ => true
  | _ => false
theorem all_split {L : List Jvm.Cond} {P : Jvm.Cond → Bool} (h1 : L.all (fun c => isCode c || P c) = true) (h2 : ∀ c ∈ L.filter isCode, P c = true) : L.all P = true := by
  refine List.all_eq_true.mpr fun c hc => ?_
  have h := List.all_eq_true.mp h1 c hc
  rcases Bool.eq_false_or_eq_true (isCode c) with hi | hi
  · exact h2 c (List.mem_filter.mpr ⟨hc, hi⟩)
  · simpa [hi] using h
set_option maxRecDepth 65536 in
theorem w_c0 : (Jvm.Cond.code x code maxLocals ret).before args0 about1 = true := code_word (m := ⟨1, 1⟩) (meth := k1m1) (c := k1c1) (by decide +kernel) rfl rfl rfl (by decide +kernel)
set_option maxRecDepth 65536 in
theorem w_c1 : (Jvm.Cond.code ({ cls := "com/example/scatterd/scatterd/model/JobCounts", name := "<init>", desc := "(IIIIIII)V" } : Jvm.MethodName) prog_28_method_1_code (8 : Nat) (Option.none : Option Jvm.ClassFile.FieldType)).before args0 about1 = true := code_word (m := ⟨3, 0⟩) (meth := k3m0) (c := k3c0) (by decide +kernel) rfl rfl rfl (by decide +kernel)
set_option maxRecDepth 65536 in
theorem w_c2 : (Jvm.Cond.code ({ cls := "java/lang/Record", name := "<init>", desc := "()V" } : Jvm.MethodName) jdk_30_method_1_code (1 : Nat) (Option.none : Option Jvm.ClassFile.FieldType)).before args0 about1 = true := code_word (m := ⟨2, 0⟩) (meth := k2m0) (c := k2c0) (by decide +kernel) rfl rfl rfl (by decide +kernel)
set_option maxRecDepth 65536 in
theorem w_c3 : (Jvm.Cond.code ({ cls := "java/lang/Object", name := "<init>", desc := "()V" } : Jvm.MethodName) object_method_1_code (1 : Nat) (Option.none : Option Jvm.ClassFile.FieldType)).before args0 about1 = true := code_word (m := ⟨0, 0⟩) (meth := k0m0) (c := k0c0) (by decide +kernel) rfl rfl rfl (by decide +kernel)
set_option maxRecDepth 65536 in
theorem w_c4 : (Jvm.Cond.code ({ cls := "com/example/scatterd/scatterd/model/JobCounts", name := "completed", desc := "()I" } : Jvm.MethodName) prog_28_method_2_code (1 : Nat) (Option.some Jvm.ClassFile.FieldType.int)).before args0 about1 = true := code_word (m := ⟨3, 1⟩) (meth := k3m1) (c := k3c1) (by decide +kernel) rfl rfl rfl (by decide +kernel)
set_option maxRecDepth 65536 in
theorem w_c5 : (Jvm.Cond.code ({ cls := "com/example/scatterd/scatterd/model/JobCounts", name := "complete", desc := "()Z" } : Jvm.MethodName) prog_28_method_3_code (1 : Nat) (Option.some Jvm.ClassFile.FieldType.boolean)).before args0 about1 = true := code_word (m := ⟨3, 2⟩) (meth := k3m2) (c := k3c2) (by decide +kernel) rfl rfl rfl (by decide +kernel)
def codes1 : List Jvm.Cond := [Jvm.Cond.code x code maxLocals ret, Jvm.Cond.code ({ cls := "com/example/scatterd/scatterd/model/JobCounts", name := "<init>", desc := "(IIIIIII)V" } : Jvm.MethodName) prog_28_method_1_code (8 : Nat) (Option.none : Option Jvm.ClassFile.FieldType), Jvm.Cond.code ({ cls := "java/lang/Record", name := "<init>", desc := "()V" } : Jvm.MethodName) jdk_30_method_1_code (1 : Nat) (Option.none : Option Jvm.ClassFile.FieldType), Jvm.Cond.code ({ cls := "java/lang/Object", name := "<init>", desc := "()V" } : Jvm.MethodName) object_method_1_code (1 : Nat) (Option.none : Option Jvm.ClassFile.FieldType), Jvm.Cond.code ({ cls := "com/example/scatterd/scatterd/model/JobCounts", name := "completed", desc := "()I" } : Jvm.MethodName) prog_28_method_2_code (1 : Nat) (Option.some Jvm.ClassFile.FieldType.int), Jvm.Cond.code ({ cls := "com/example/scatterd/scatterd/model/JobCounts", name := "complete", desc := "()Z" } : Jvm.MethodName) prog_28_method_3_code (1 : Nat) (Option.some Jvm.ClassFile.FieldType.boolean)]
set_option maxRecDepth 65536 in
theorem codes_eq : words1.filter isCode = codes1 := rfl
theorem w_codes : ∀ c ∈ words1.filter isCode, c.before args0 about1 = true := by
  rw [codes_eq]
  intro c hc
  simp only [codes1, List.mem_cons, List.not_mem_nil, or_false] at hc
  rcases hc with rfl | rfl | rfl | rfl | rfl | rfl
  · exact w_c0
  · exact w_c1
  · exact w_c2
  · exact w_c3
  · exact w_c4
  · exact w_c5
set_option maxRecDepth 65536 in
theorem w_t1 : (words1.take 24).all (fun c => isCode c || c.before args0 about1) = true := by decide +kernel
set_option maxRecDepth 65536 in
theorem w_t2 : (words1.drop 24).all (fun c => isCode c || c.before args0 about1) = true := by decide +kernel
theorem w_tables : (allAtoms (Jvm.Cond.code x code maxLocals ret :: tables_1)).before args0 about1 = true := by
  rw [allAtoms_all]
  show words1.all (fun c => c.before args0 about1) = true
  refine all_split ?_ w_codes
  rw [← List.take_append_drop 24 words1, List.all_append, w_t1, w_t2]
  rfl
set_option maxRecDepth 65536 in
theorem w_case : (Jvm.Cond.and given_1 narrow_1).before args0 about1 = true := by decide +kernel
theorem w_applies : (headSpec (Jvm.Cond.code x code maxLocals ret :: tables_1) room_1).applies x e0.platform about1 = true :=
  (Spec.applies_iff w_frames).mpr ⟨w_running, w_runnable, w_alone, w_named, w_hears, w_ripe, w_room, w_tables⟩
theorem atStart : AtStart classFile x code maxLocals ret World_1 tables_1 room_1 Calls_1 rest_1 Pre_1 launch0 p0 e0 about1 theMethod args0 below0 :=
  ⟨lists_1, trivial, launch0.admits_env _ _ _, launch0.least_env, fairChoices_fair.cas, fairChoices_fair.clock, w_frames, w_args, w_heap, w_applies, trivial, trivial, w_case⟩
end start1
theorem witness_1 : WitnessClaimed_1 := ⟨start1.p0, start1.e0, start1.about1, start1.theMethod, start1.args0, start1.below0, start1.atStart⟩
end Jvm.Pilot.@@N@@
