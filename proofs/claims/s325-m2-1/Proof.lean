import JvmDerived
import JvmDerived.Pilot.@@N@@Statement
import JvmDerived.Pilot.@@N@@Code
set_option linter.unusedVariables false
set_option linter.unusedSimpArgs false
namespace Jvm.Pilot.@@N@@
open Jvm Jvm.ClassFile Sem Op Lib Jvm.Free Jvm.Stand Jvm.LawKit Jvm.RoadKit Bundle Jvm.Pilot.@@N@@.Jvm.D
/-- a body's contract by a walk whose goal is a predicate G: 'go' takes a step, 'fin' a return -/
theorem own_enter {l : Launch} {y : MethodName} {cd : ByteArray} {ml : Nat} {rt : Option FieldType} {ws : List Jvm.Cond} {R : Room} {Z : State} {h0 : Heap} {as : Array Value} {Q : Option Value → Heap → List Loc → Prop} (hpl : plainFor y = true)
    (body : ∀ (p : Program) (e : Env) (s : State) (m : MethodId) (below : List Frame) (meth : Method) (c : Code) (s₁ : State) (G : State → Prop),
      Stand p l e R s m as below meth c s₁ [] 0 0 → p.tables.exec = Jvm.exec → c.code = cd → c.maxLocals = ml → Z.Warmed39 s.vm → s.vm.findClass y.cls = some m.cls → meth.name = y.name → meth.sig.returnType = rt → s₁.heap = h0 →
      (∀ {a b : State}, (∀ t, Steps p.tables e below b t → Steps p.tables e below a t) → G b → G a) →
      (∀ {T : State} {locs : List Loc} {cells slots : Nat} {g : JFrame} (v : Option Value), Stand p l e R s m as below meth c T locs cells slots → (rt = none → v = none) →
        (∀ fs, (∀ (f : JFrame) (acts : List Action), f.method = m → f.locked = none → f.entered = [] → (doReturn e (T.setTop f) acts v).1 = T.setFrames fs) → Steps p.tables e below (T.setTop g) (T.setFrames fs)) →
        cells ≤ R.cells → slots ≤ R.slots → Q v T.heap locs → G (T.setTop g)) →
      G (s₁.setTop (entryFrame m as ml))) :
    MetFree l y (head1 (Jvm.Cond.code y cd ml rt :: ws) R) (fun a U => a = as ∧ Z.Warmed39 U.vm ∧ U.heap = h0) (fun _ _ _ _ _ => True) (fun _ U o U' => ∃ v L, o = .returned v ∧ Q v U'.heap L ∧ FrameEnd U o U' L R.cells R.slots) := by
  refine MetFree.of_bodySF hpl hisR ?_
  intro p e s m args below meth c s₁ Bd hml0 hP hK
  obtain ⟨rfl, hZ, hh⟩ := hP
  have hlk : meth.locks = false := Bd.notSynchronized
  have key := body p e s m below meth c s₁ (fun a => ∃ t, Steps p.tables e below a t ∧ ∃ o, t.status = .running ∧ Ended t below o ∧ ∃ v L, o = .returned v ∧ Q v t.heap L ∧ FrameEnd s o t L R.cells R.slots)
    (Stand.of_body Bd) Bd.exec Bd.bytes hml0 hZ (findClass_of_methodNamed Bd.named) (name_of_methodNamed Bd.named Bd.method).1 Bd.returns (by rw [← hh, Bd.state]; rfl)
    (fun h g => by obtain ⟨t, h1, h2⟩ := g; exact ⟨t, h t h1, h2⟩)
    (fun {T locs cells slots g} v X hv hs hc hsl hQ => by
      obtain ⟨fs, hr, hrun, hended, hW, hsame⟩ := X.leave (v := v) (fun h => hv (Bd.returns.symm.trans h)) hlk
      exact ⟨_, hs fs hr, _, hrun, hended, v, locs, rfl, hQ, ⟨_, rfl⟩, hW, hsame.mono hc hsl⟩)
  obtain ⟨t, h1, o, h2, h3, h4⟩ := key
  exact ⟨t, o, h1, h2, h3, h4⟩
theorem own_lrem {p : Program} {l : Launch} {e : Env} {R : Room} {s : State} {m : MethodId} {args : Array Value} {below : List Frame} {meth : Method} {c : Code} {T : State} {locs : List Loc} {cells slots : Nat} {g : JFrame} {target : State} (X : Stand p l e R s m args below meth c T locs cells slots) (hx : p.tables.exec = Jvm.exec) (hg : g.method = m) {x y : Int64} {rest : List Value} (hd : decode c.code g.pc = .ok (.lrem, 1)) (hs : g.stack = .long y :: .long x :: rest) (hy : y ≠ 0)
    (hr : Steps p.tables e below (T.setTop { g with pc := g.pc + 1, stack := .long (x % y) :: rest }) target) : Steps p.tables e below (T.setTop g) target := XS.lrem X.here hx hg hd hs hy (by rw [lrem_mod]; exact hr)
theorem own_irr (x : Int32) : ¬ x < x := Int32.lt_irrefl
theorem own_irrL (x : Int64) : ¬ x < x := Int64.lt_irrefl
theorem own_eq_int {a : Term} {k : Int32} {args : Array Value} {first s : State} {o : Option Outcome} {idx : List Nat} (h : (Jvm.Cond.eq a (.int k)).value args first o s idx = some true) : a.eval args first o idx s = some (.int k) := by
  obtain ⟨x, y, ha, hb, k1, k2⟩ := cmp_v (Or.inl h)
  cases (show some (Value.int k) = some y from hb)
  obtain ⟨z, rfl⟩ := k2
  have q : (Jvm.Cond.eq a (.int k)).value args first o s idx = some (decide (z = k)) := by simp [Cond.value, ha, Term.eval]
  rw [gotT q h] at ha
  exact ha
theorem own_eq_ref {a b : Term} {u : Addr} {args : Array Value} {first s : State} {o : Option Outcome} {idx : List Nat} (h : (Jvm.Cond.eq a b).value args first o s idx = some true) (hb : b.eval args first o idx s = some (.ref u)) : a.eval args first o idx s = some (.ref u) := by
  obtain ⟨x, y, ha, hb', k1, k2⟩ := cmp_v (Or.inl h)
  cases hb.symm.trans hb'
  have hr : x.isRef = true := by cases x <;> simp_all [Kin, Value.isRef]
  have q := gotT (eq_R ha hb hr rfl) h
  rw [q] at ha
  exact ha
theorem own_exa_ns {Z : State} {h : Heap} {a : Addr} {C : String} (F : Exa Z h a C) : ∀ cell : Cell, h[a]? = some cell → cell.vm.isStatics = false := fun cell hc => by
  obtain ⟨c, k, h1, -, -, h4, -⟩ := F
  cases hc.symm.trans h1
  exact h4
theorem own_sta_keep {Z : State} {h h' : Heap} {C n d : String} {v : Value} {ws : List Addr} (F : Sta Z h C n d v) (K : Keep h h' ws) (q : ∀ a ∈ ws, ∀ cell : Cell, h[a]? = some cell → cell.vm.isStatics = false) : Sta Z h' C n d v := by
  obtain ⟨cf, i, k, f, st, cell, h1, h2, h3, h4, h5, h6, h7⟩ := F
  exact ⟨cf, i, k, f, st, cell, h1, h2, h3, h4, K.2.1 _ _ h5 (fun z => by rw [q _ z _ h5] at h6; cases h6), h6, h7⟩
theorem own_len {s : State} {args : Array Value} {t : Term} {a : Addr} {cl : Cell} {ty : FieldType} {z : Int32} (ht : t.eval args s none [] s = some (.ref a)) (A : Arr s s.heap a cl ty) (h : (Term.length t).eval args s none [] s = some (.int z)) : cl.slots.size < 2 ^ 31 ∧ cl.slots.size.toInt32 = z := by
  have ha := Arr.fin (State.Warmed39.refl s).alike A
  by_cases hn : cl.slots.size < 2 ^ 31
  · have q := (len_f ht ha hn).symm.trans h
    exact ⟨hn, Value.int.inj (Option.some.inj q)⟩
  · simp [Term.eval, ht, ha] at h
    omega
theorem own_elem {s : State} {args : Array Value} {t : Term} {a : Addr} {cl : Cell} {ty : FieldType} {j : Int32} {v : Value} (ht : t.eval args s none [] s = some (.ref a)) (A : Arr s s.heap a cl ty) (h : (Term.elem t (.int j)).eval args s none [] s = some v) (hn : ¬ j < 0) : cl.slots[j.toNatClampNeg]? = some v :=
  (elem_f ht rfl (Arr.fin (State.Warmed39.refl s).alike A) hn).symm.trans h
theorem own_selp {Z s : State} {a0 args : Array Value} {y : MethodName} {n : Nat} (hZ : Z.Warmed39 s.vm) (wi : (Jvm.Cond.instantiable y.cls n).before a0 Z = true) (wp : (Jvm.Cond.privateMethod y).before a0 Z = true) (wm : (Jvm.Cond.instanceMethod y).before a0 Z = true) (hy : y.cls ≠ "java/lang/invoke/MethodHandle" ∧ y.cls ≠ "java/lang/invoke/VarHandle") : (Jvm.Cond.selects y.cls y y).before args s = true := by
  have wi' : (Jvm.Cond.instantiable y.cls n).before args s = true := mvT hZ wi
  obtain ⟨c, k, h1, h2, -, h4, -⟩ := Cond.instantiable_spec wi'
  exact selects_self_of_private h1 h2 (Bool.or_eq_false_iff.mp h4).1 (Cond.privateMethod_at (mvP hZ wp (args := args))) (mvT hZ wm) hy
def own_of2 (o u a b : Addr) : Addr := if o = u then a else b
theorem own_f1 {u a b : Addr} : own_of2 u u a b = a := if_pos rfl
theorem own_f0 {o u a b : Addr} (h : ¬ o = u) : own_of2 o u a b = b := if_neg h
theorem pn_com_example_wary_commit_warycommit_DecisionLogFormat_Type : plainName "com/example/wary_commit/warycommit/DecisionLogFormat$Type" = true := by first | (simp [plainName, overriddenIn]; done) | decide +kernel
theorem ef_2 (m : MethodId)  : entryFrame m #[] 0 = mkF m 0 #[] [] := by first | (simp [entryFrame, mkF, argsToLocals, Value.category]; done) | rfl
theorem d2_0 : decode prog_16_method_1_code 0 = .ok (.getstatic 19, 3) := by decide +kernel
theorem d2_3 : decode prog_16_method_1_code 3 = .ok (.invokevirtual 23, 3) := by decide +kernel
theorem d2_6 : decode prog_16_method_1_code 6 = .ok (.checkcast 24, 3) := by decide +kernel
theorem d2_9 : decode prog_16_method_1_code 9 = .ok (.areturn, 1) := by decide +kernel
def Q_rm2 (Z : State) (u_VALUES : Addr) (kV : ClassId) (u_COMMIT : Addr) (u_HEURISTIC_MIXED : Addr) (u_HEURISTIC_ROLLBACK : Addr) (u_DONE : Addr) (u_FORGOTTEN : Addr) (h0 : Heap) (n0 : Nat) (v : Option Value) (h : Heap) (L : List Loc) : Prop := ∃ b, v = some (.ref b) ∧ Fr n0 L ∧ Keep h0 h [] ∧ h0.size ≤ b ∧ Arv Z h b kV (.object "com/example/wary_commit/warycommit/DecisionLogFormat$Type") (5 : Int32) [(.ref u_COMMIT), (.ref u_HEURISTIC_MIXED), (.ref u_HEURISTIC_ROLLBACK), (.ref u_DONE), (.ref u_FORGOTTEN)] .null
set_option maxRecDepth 65536 in
set_option maxHeartbeats 40000000 in
theorem rm2 (l : Launch) (Z : State) (a0 : Array Value) (hw : ∀ d ∈ tables_1, d.before a0 Z = true) (ws : List Jvm.Cond) (u_VALUES : Addr) (kV : ClassId) (u_COMMIT : Addr) (u_HEURISTIC_MIXED : Addr) (u_HEURISTIC_ROLLBACK : Addr) (u_DONE : Addr) (u_FORGOTTEN : Addr) (h0 : Heap) (n0 : Nat) (Z0 : n0 ≤ h0.size) (S_u_VALUES : Sta Z h0 "com/example/wary_commit/warycommit/DecisionLogFormat$Type" "$VALUES" "[Lcom/example/wary_commit/warycommit/DecisionLogFormat$Type;" (.ref u_VALUES)) (Va : Arv Z h0 u_VALUES kV (.object "com/example/wary_commit/warycommit/DecisionLogFormat$Type") (5 : Int32) [(.ref u_COMMIT), (.ref u_HEURISTIC_MIXED), (.ref u_HEURISTIC_ROLLBACK), (.ref u_DONE), (.ref u_FORGOTTEN)] .null) (Ev : Exa Z h0 u_VALUES "[Lcom/example/wary_commit/warycommit/DecisionLogFormat$Type;") :
    MetFree l (⟨"com/example/wary_commit/warycommit/DecisionLogFormat$Type", "values", "()[Lcom/example/wary_commit/warycommit/DecisionLogFormat$Type;"⟩ : MethodName) (head1 (Jvm.Cond.code (⟨"com/example/wary_commit/warycommit/DecisionLogFormat$Type", "values", "()[Lcom/example/wary_commit/warycommit/DecisionLogFormat$Type;"⟩ : MethodName) prog_16_method_1_code 0 (some (.array (.object "com/example/wary_commit/warycommit/DecisionLogFormat$Type"))) :: ws) ({ frames := 1, cells := 1, slots := 5, locals := 14 } : Room)) (fun a U => a = #[] ∧ Z.Warmed39 U.vm ∧ U.heap = h0) (fun _ _ _ _ _ => True) (fun _ U o U' => ∃ v L, o = .returned v ∧ Q_rm2 Z u_VALUES kV u_COMMIT u_HEURISTIC_MIXED u_HEURISTIC_ROLLBACK u_DONE u_FORGOTTEN h0 n0 v U'.heap L ∧ FrameEnd U o U' L ({ frames := 1, cells := 1, slots := 5, locals := 14 } : Room).cells ({ frames := 1, cells := 1, slots := 5, locals := 14 } : Room).slots) := by
  refine own_enter (Q := Q_rm2 Z u_VALUES kV u_COMMIT u_HEURISTIC_MIXED u_HEURISTIC_ROLLBACK u_DONE u_FORGOTTEN h0 n0) (plainFor_of_name pn_com_example_wary_commit_warycommit_DecisionLogFormat_Type) ?_
  intro p e s m below meth c s₁ G X0 hx hby hml hZ hown hnm hret e0 go fin
  replace hown : s.vm.findClass "com/example/wary_commit/warycommit/DecisionLogFormat$Type" = some m.cls := hown
  replace hnm : meth.name = "values" := hnm
  replace hml : c.maxLocals = 0 := hml
  rw [ef_2 m ]
  have N0 := Fr.nil n0
  show G (s₁.setTop (mkF m 0 #[] []))
  obtain ⟨T1, X1, e1, st1⟩ := getS2 X0 hx hZ hown (host := "") (Or.inl (hw _ (List.mem_of_getElem? (i := 10) rfl))) Via.refl e0 S_u_VALUES (g := (mkF m 0 #[] [])) rfl (hb hby d2_0)
  refine go st1 ?_
  show G (T1.setTop (mkF m 3 #[] [(.ref u_VALUES)]))
  obtain ⟨T2, h2, X2, e2, E2, A2, Ec2, st2⟩ := cloneH X1 hx hZ hown (hw _ (List.mem_of_getElem? (i := 12) rfl)) (hw _ (List.mem_of_getElem? (i := 13) rfl)) (hw _ (List.mem_of_getElem? (i := 17) rfl)) (hw _ (List.mem_of_getElem? (i := 15) rfl)) (hw _ (List.mem_of_getElem? (i := 16) rfl)) (hw _ (List.mem_of_getElem? (i := 18) rfl)) e1 (Arv.arh Va) Ev (g := (mkF m 3 #[] [(.ref u_VALUES)])) rfl (by rw [hml]; rfl) rfl (hb hby d2_3) (by decide) (W := 0) (cap := 5) (by show 2 * 0 + _ ≤ _; exact Nat.le_of_eq rfl) (by decide) (by decide) (by decide) (by decide)
  obtain ⟨b2, g2⟩ : ∃ z, z = h0.size := ⟨_, rfl⟩
  rw [← g2] at A2 Ec2 st2
  refine go st2 ?_
  have V2 : Arv Z h2 b2 kV (.object "com/example/wary_commit/warycommit/DecisionLogFormat$Type") (5 : Int32) [(.ref u_COMMIT), (.ref u_HEURISTIC_MIXED), (.ref u_HEURISTIC_ROLLBACK), (.ref u_DONE), (.ref u_FORGOTTEN)] .null := A2
  have ge_b2 : n0 ≤ b2 := Nat.le_trans Z0 (Nat.le_of_eq g2.symm)
  have sz_b2 : h0.size ≤ b2 := Nat.le_trans (Keep.refl h0 []).1 (Nat.le_of_eq g2.symm)
  have K2 : Keep h0 h2 [] := (Keep.refl h0 []).ext E2
  have Z2 := Nat.le_trans Z0 E2.1
  show G (T2.setTop (mkF m 6 #[] [(.ref b2)]))
  obtain ⟨T3, X3, e3, st3⟩ := castY X2 hx hZ hown (hw _ (List.mem_of_getElem? (i := 25) rfl)) e2 (Ins.self Ec2) (g := (mkF m 6 #[] [(.ref b2)])) rfl rfl (hb hby d2_6)
  refine go st3 ?_
  show G (T3.setTop (mkF m 9 #[] [(.ref b2)]))
  refine fin (some (.ref b2)) X3 (fun h => absurd h (by decide)) (fun fs hr => retOut X3 hx hret rfl (Or.inr (Or.inr (Or.inr (Or.inr ⟨rfl, rfl, rfl⟩)))) (hb hby d2_9) hr) (by decide) (by decide) ?_
  rw [e3]
  exact ⟨b2, rfl, N0, K2, sz_b2, V2⟩
theorem ef_1 (m : MethodId) (x0 : Int32) : entryFrame m #[(.int x0)] 5 = mkF m 0 #[.val (.int x0), .unset, .unset, .unset, .unset] [] := by first | (simp [entryFrame, mkF, argsToLocals, Value.category]; done) | rfl
theorem d1_0 : decode prog_16_method_5_code 0 = .ok (.invokestatic 48, 3) := by decide +kernel
theorem pd____Lcom_example_wary_commit_warycommit_DecisionLogFormat_Type_ : parseMethodDescriptor "()[Lcom/example/wary_commit/warycommit/DecisionLogFormat$Type;" = some ⟨[], some (.array (.object "com/example/wary_commit/warycommit/DecisionLogFormat$Type"))⟩ := by decide +kernel
theorem d1_3 : decode prog_16_method_5_code 3 = .ok (.astore_n 1, 1) := by decide +kernel
theorem d1_4 : decode prog_16_method_5_code 4 = .ok (.aload_n 1, 1) := by decide +kernel
theorem d1_5 : decode prog_16_method_5_code 5 = .ok (.arraylength, 1) := by decide +kernel
theorem d1_6 : decode prog_16_method_5_code 6 = .ok (.istore_n 2, 1) := by decide +kernel
theorem d1_7 : decode prog_16_method_5_code 7 = .ok (.iconst 0, 1) := by decide +kernel
theorem d1_8 : decode prog_16_method_5_code 8 = .ok (.istore_n 3, 1) := by decide +kernel
theorem d1_9 : decode prog_16_method_5_code 9 = .ok (.iload_n 3, 1) := by decide +kernel
theorem d1_10 : decode prog_16_method_5_code 10 = .ok (.iload_n 2, 1) := by decide +kernel
theorem d1_11 : decode prog_16_method_5_code 11 = .ok (.if_icmp .ge 26, 3) := by decide +kernel
theorem d1_14 : decode prog_16_method_5_code 14 = .ok (.aload_n 1, 1) := by decide +kernel
theorem d1_15 : decode prog_16_method_5_code 15 = .ok (.iload_n 3, 1) := by decide +kernel
theorem d1_16 : decode prog_16_method_5_code 16 = .ok (.aaload, 1) := by decide +kernel
theorem d1_17 : decode prog_16_method_5_code 17 = .ok (.astore 4, 2) := by decide +kernel
theorem d1_19 : decode prog_16_method_5_code 19 = .ok (.aload 4, 2) := by decide +kernel
theorem d1_21 : decode prog_16_method_5_code 21 = .ok (.getfield 38, 3) := by decide +kernel
theorem d1_24 : decode prog_16_method_5_code 24 = .ok (.iload_n 0, 1) := by decide +kernel
theorem d1_25 : decode prog_16_method_5_code 25 = .ok (.if_icmp .ne 6, 3) := by decide +kernel
theorem d1_31 : decode prog_16_method_5_code 31 = .ok (.iinc 3 1, 3) := by decide +kernel
theorem d1_34 : decode prog_16_method_5_code 34 = .ok (.goto (-25), 3) := by decide +kernel
theorem d1_28 : decode prog_16_method_5_code 28 = .ok (.aload 4, 2) := by decide +kernel
theorem d1_30 : decode prog_16_method_5_code 30 = .ok (.areturn, 1) := by decide +kernel
def Q_rm1_2 (Z : State) (u_VALUES : Addr) (kV : ClassId) (u_COMMIT : Addr) (u_HEURISTIC_MIXED : Addr) (u_HEURISTIC_ROLLBACK : Addr) (u_DONE : Addr) (u_FORGOTTEN : Addr) (h0 : Heap) (n0 : Nat) (v : Option Value) (h : Heap) (L : List Loc) : Prop := v = some (.ref u_HEURISTIC_MIXED) ∧ Fr n0 L ∧ Keep h0 h []
set_option maxRecDepth 65536 in
set_option maxHeartbeats 40000000 in
theorem rm1_2 (l : Launch) (Z : State) (a0 : Array Value) (hw : ∀ d ∈ tables_1, d.before a0 Z = true) (ws : List Jvm.Cond) (u_VALUES : Addr) (kV : ClassId) (u_COMMIT : Addr) (u_HEURISTIC_MIXED : Addr) (u_HEURISTIC_ROLLBACK : Addr) (u_DONE : Addr) (u_FORGOTTEN : Addr) (h0 : Heap) (n0 : Nat) (Z0 : n0 ≤ h0.size) (S_u_VALUES : Sta Z h0 "com/example/wary_commit/warycommit/DecisionLogFormat$Type" "$VALUES" "[Lcom/example/wary_commit/warycommit/DecisionLogFormat$Type;" (.ref u_VALUES)) (Va : Arv Z h0 u_VALUES kV (.object "com/example/wary_commit/warycommit/DecisionLogFormat$Type") (5 : Int32) [(.ref u_COMMIT), (.ref u_HEURISTIC_MIXED), (.ref u_HEURISTIC_ROLLBACK), (.ref u_DONE), (.ref u_FORGOTTEN)] .null) (Ev : Exa Z h0 u_VALUES "[Lcom/example/wary_commit/warycommit/DecisionLogFormat$Type;") (F_u_COMMIT_code : Fld Z h0 u_COMMIT "com/example/wary_commit/warycommit/DecisionLogFormat$Type" "code" "B" (.int (1 : Int32))) (F_u_HEURISTIC_MIXED_code : Fld Z h0 u_HEURISTIC_MIXED "com/example/wary_commit/warycommit/DecisionLogFormat$Type" "code" "B" (.int (2 : Int32))) (F_u_HEURISTIC_ROLLBACK_code : Fld Z h0 u_HEURISTIC_ROLLBACK "com/example/wary_commit/warycommit/DecisionLogFormat$Type" "code" "B" (.int (3 : Int32))) (F_u_DONE_code : Fld Z h0 u_DONE "com/example/wary_commit/warycommit/DecisionLogFormat$Type" "code" "B" (.int (4 : Int32))) (F_u_FORGOTTEN_code : Fld Z h0 u_FORGOTTEN "com/example/wary_commit/warycommit/DecisionLogFormat$Type" "code" "B" (.int (5 : Int32))) :
    MetFree l (⟨"com/example/wary_commit/warycommit/DecisionLogFormat$Type", "of", "(B)Lcom/example/wary_commit/warycommit/DecisionLogFormat$Type;"⟩ : MethodName) (head1 (Jvm.Cond.code (⟨"com/example/wary_commit/warycommit/DecisionLogFormat$Type", "of", "(B)Lcom/example/wary_commit/warycommit/DecisionLogFormat$Type;"⟩ : MethodName) prog_16_method_5_code 5 (some (.object "com/example/wary_commit/warycommit/DecisionLogFormat$Type")) :: ws) ({ frames := 2, cells := 1, slots := 5, locals := 25 } : Room)) (fun a U => a = #[(.int (2 : Int32))] ∧ Z.Warmed39 U.vm ∧ U.heap = h0) (fun _ _ _ _ _ => True) (fun _ U o U' => ∃ v L, o = .returned v ∧ Q_rm1_2 Z u_VALUES kV u_COMMIT u_HEURISTIC_MIXED u_HEURISTIC_ROLLBACK u_DONE u_FORGOTTEN h0 n0 v U'.heap L ∧ FrameEnd U o U' L ({ frames := 2, cells := 1, slots := 5, locals := 25 } : Room).cells ({ frames := 2, cells := 1, slots := 5, locals := 25 } : Room).slots) := by
  refine own_enter (Q := Q_rm1_2 Z u_VALUES kV u_COMMIT u_HEURISTIC_MIXED u_HEURISTIC_ROLLBACK u_DONE u_FORGOTTEN h0 n0) (plainFor_of_name pn_com_example_wary_commit_warycommit_DecisionLogFormat_Type) ?_
  intro p e s m below meth c s₁ G X0 hx hby hml hZ hown hnm hret e0 go fin
  replace hown : s.vm.findClass "com/example/wary_commit/warycommit/DecisionLogFormat$Type" = some m.cls := hown
  replace hnm : meth.name = "of" := hnm
  replace hml : c.maxLocals = 5 := hml
  rw [ef_1 m _]
  have N0 := Fr.nil n0
  show G (s₁.setTop (mkF m 0 #[.val (.int (2 : Int32)), .unset, .unset, .unset, .unset] []))
  obtain ⟨_, _, ⟨T1, L1, k1, n1⟩, -, X1, ⟨Lc1, hQ1, l1, y1, z1⟩, st1⟩ := Jvm.LawKit.callS X0 hx (y := (⟨"com/example/wary_commit/warycommit/DecisionLogFormat$Type", "values", "()[Lcom/example/wary_commit/warycommit/DecisionLogFormat$Type;"⟩ : MethodName)) hown (mvT hZ (hw _ (List.mem_of_getElem? (i := 7) rfl))) (mvT hZ (hw _ (List.mem_of_getElem? (i := 8) rfl))) (mvT hZ (hw _ (List.mem_of_getElem? (i := 5) rfl))) (mvT hZ (hw _ (List.mem_of_getElem? (i := 9) rfl))) (by decide) (backOf (W := 0) (rm2 l Z a0 hw [] u_VALUES kV u_COMMIT u_HEURISTIC_MIXED u_HEURISTIC_ROLLBACK u_DONE u_FORGOTTEN h0 n0 Z0 S_u_VALUES Va Ev) hZ (hw _ (List.mem_of_getElem? (i := 9) rfl)) (hw _ (List.mem_of_getElem? (i := 5) rfl)) (by decide) (by decide)) (g := (mkF m 0 #[.val (.int (2 : Int32)), .unset, .unset, .unset, .unset] [])) rfl (by rw [hml]; rfl) (argsL := []) (rest := []) (lenOf pd____Lcom_example_wary_commit_warycommit_DecisionLogFormat_Type_ rfl) rfl (by show 2 * 0 + _ ≤ _; exact Nat.le_of_eq rfl) (hb hby d1_0) (fun _ _ => ⟨rfl, e0, (by decide : 0 + 1 ≤ _), (by decide : 0 + 5 ≤ _)⟩)
  dsimp only [Pt.U, Pt.locs, Pt.cells, Pt.slots] at X1 l1 y1 z1 st1 hQ1
  subst l1 y1 z1
  obtain ⟨b1, rfl, Nq1, K1, sz1, Gv1⟩ := hQ1
  have Kk1 : Keep h0 T1.heap [] := (Keep.refl h0 []).trans K1 all0
  have Z1 := Nat.le_trans Z0 K1.1
  have N1 := Fr.app N0 Nq1
  refine go st1 ?_
  show G (T1.setTop (mkF m 3 #[.val (.int (2 : Int32)), .unset, .unset, .unset, .unset] [(.ref b1)]))
  refine go (fun tg kg => XS.astoreN X1.here hx rfl (hb hby d1_3) rfl rfl (l' := #[.val (.int (2 : Int32)), .val (.ref b1), .unset, .unset, .unset]) rfl kg) ?_
  show G (T1.setTop (mkF m 4 #[.val (.int (2 : Int32)), .val (.ref b1), .unset, .unset, .unset] []))
  refine go (fun tg kg => XS.aloadN X1.here hx rfl (hb hby d1_4) rfl rfl kg) ?_
  show G (T1.setTop (mkF m 5 #[.val (.int (2 : Int32)), .val (.ref b1), .unset, .unset, .unset] [(.ref b1)]))
  obtain ⟨cl2, Ar2, -, S2, M2, -, -⟩ := id Gv1
  refine go (fun tg kg => X1.arraylength hx Ar2.1 (State.isArrayOf_alike hZ.alike Ar2.2.1) (g := (mkF m 5 #[.val (.int (2 : Int32)), .val (.ref b1), .unset, .unset, .unset] [(.ref b1)])) rfl rfl (hb hby d1_5) _ kg) ?_
  rw [len_of S2 M2]
  show G (T1.setTop (mkF m 6 #[.val (.int (2 : Int32)), .val (.ref b1), .unset, .unset, .unset] [(.int (5 : Int32))]))
  refine go (fun tg kg => XS.istoreN X1.here hx rfl (hb hby d1_6) rfl (l' := #[.val (.int (2 : Int32)), .val (.ref b1), .val (.int (5 : Int32)), .unset, .unset]) rfl kg) ?_
  show G (T1.setTop (mkF m 7 #[.val (.int (2 : Int32)), .val (.ref b1), .val (.int (5 : Int32)), .unset, .unset] []))
  refine go (fun tg kg => XS.iconst X1.here hx rfl (hb hby d1_7) kg) ?_
  show G (T1.setTop (mkF m 8 #[.val (.int (2 : Int32)), .val (.ref b1), .val (.int (5 : Int32)), .unset, .unset] [(.int (0 : Int32))]))
  refine go (fun tg kg => XS.istoreN X1.here hx rfl (hb hby d1_8) rfl (l' := #[.val (.int (2 : Int32)), .val (.ref b1), .val (.int (5 : Int32)), .val (.int (0 : Int32)), .unset]) rfl kg) ?_
  show G (T1.setTop (mkF m 9 #[.val (.int (2 : Int32)), .val (.ref b1), .val (.int (5 : Int32)), .val (.int (0 : Int32)), .unset] []))
  refine go (fun tg kg => XS.iloadN X1.here hx rfl (hb hby d1_9) rfl kg) ?_
  show G (T1.setTop (mkF m 10 #[.val (.int (2 : Int32)), .val (.ref b1), .val (.int (5 : Int32)), .val (.int (0 : Int32)), .unset] [(.int (0 : Int32))]))
  refine go (fun tg kg => XS.iloadN X1.here hx rfl (hb hby d1_10) rfl kg) ?_
  show G (T1.setTop (mkF m 11 #[.val (.int (2 : Int32)), .val (.ref b1), .val (.int (5 : Int32)), .val (.int (0 : Int32)), .unset] [(.int (5 : Int32)), (.int (0 : Int32))]))
  refine go (fun tg kg => XS.icmpNo X1.here hx rfl (hb hby d1_11) rfl (tlt (by decide)).2.1 kg) ?_
  show G (T1.setTop (mkF m 14 #[.val (.int (2 : Int32)), .val (.ref b1), .val (.int (5 : Int32)), .val (.int (0 : Int32)), .unset] []))
  refine go (fun tg kg => XS.aloadN X1.here hx rfl (hb hby d1_14) rfl rfl kg) ?_
  show G (T1.setTop (mkF m 15 #[.val (.int (2 : Int32)), .val (.ref b1), .val (.int (5 : Int32)), .val (.int (0 : Int32)), .unset] [(.ref b1)]))
  refine go (fun tg kg => XS.iloadN X1.here hx rfl (hb hby d1_15) rfl kg) ?_
  show G (T1.setTop (mkF m 16 #[.val (.int (2 : Int32)), .val (.ref b1), .val (.int (5 : Int32)), .val (.int (0 : Int32)), .unset] [(.int (0 : Int32)), (.ref b1)]))
  obtain ⟨cl3, Ar3, q3, S3, M3, H3, U3⟩ := id Gv1
  have hin3 : ¬ ((0 : Int32) < 0 ∨ cl3.slots.size ≤ ((0 : Int32)).toNatClampNeg) := inb_of S3 ⟨by decide, by decide⟩
  refine go (fun tg kg => X1.aaload hx (j := (0 : Int32)) (v := (.ref u_COMMIT)) Ar3.1 (State.isArrayOf_alike hZ.alike Ar3.2.1) rfl Ar3.2.2 hin3 (H3.at hin3 rfl) (g := (mkF m 16 #[.val (.int (2 : Int32)), .val (.ref b1), .val (.int (5 : Int32)), .val (.int (0 : Int32)), .unset] [(.int (0 : Int32)), (.ref b1)])) rfl rfl (hb hby d1_16) _ kg) ?_
  show G (T1.setTop (mkF m 17 #[.val (.int (2 : Int32)), .val (.ref b1), .val (.int (5 : Int32)), .val (.int (0 : Int32)), .unset] [(.ref u_COMMIT)]))
  refine go (fun tg kg => XS.astore X1.here hx rfl (hb hby d1_17) rfl rfl (l' := #[.val (.int (2 : Int32)), .val (.ref b1), .val (.int (5 : Int32)), .val (.int (0 : Int32)), .val (.ref u_COMMIT)]) rfl kg) ?_
  show G (T1.setTop (mkF m 19 #[.val (.int (2 : Int32)), .val (.ref b1), .val (.int (5 : Int32)), .val (.int (0 : Int32)), .val (.ref u_COMMIT)] []))
  refine go (fun tg kg => XS.aload X1.here hx rfl (hb hby d1_19) rfl rfl kg) ?_
  show G (T1.setTop (mkF m 21 #[.val (.int (2 : Int32)), .val (.ref b1), .val (.int (5 : Int32)), .val (.int (0 : Int32)), .val (.ref u_COMMIT)] [(.ref u_COMMIT)]))
  have Fa4 := (F_u_COMMIT_code.keep K1 nin0)
  obtain ⟨T5, X5, e5, st5⟩ := getF X1 hx hZ hown (host := "") (Or.inl (hw _ (List.mem_of_getElem? (i := 27) rfl))) Via.refl rfl Fa4 (g := (mkF m 21 #[.val (.int (2 : Int32)), .val (.ref b1), .val (.int (5 : Int32)), .val (.int (0 : Int32)), .val (.ref u_COMMIT)] [(.ref u_COMMIT)])) rfl rfl (hb hby d1_21)
  refine go st5 ?_
  show G (T5.setTop (mkF m 24 #[.val (.int (2 : Int32)), .val (.ref b1), .val (.int (5 : Int32)), .val (.int (0 : Int32)), .val (.ref u_COMMIT)] [(.int (1 : Int32))]))
  refine go (fun tg kg => XS.iloadN X5.here hx rfl (hb hby d1_24) rfl kg) ?_
  show G (T5.setTop (mkF m 25 #[.val (.int (2 : Int32)), .val (.ref b1), .val (.int (5 : Int32)), .val (.int (0 : Int32)), .val (.ref u_COMMIT)] [(.int (2 : Int32)), (.int (1 : Int32))]))
  refine go (fun tg kg => XS.icmpYes X5.here hx rfl (pc0 := 25) (pc' := 31) rfl (hb hby d1_25) rfl (feq (by decide)).2 (by decide) (by decide) kg) ?_
  show G (T5.setTop (mkF m 31 #[.val (.int (2 : Int32)), .val (.ref b1), .val (.int (5 : Int32)), .val (.int (0 : Int32)), .val (.ref u_COMMIT)] []))
  refine go (fun tg kg => XS.iinc X5.here hx rfl (hb hby d1_31) rfl (l' := #[.val (.int (2 : Int32)), .val (.ref b1), .val (.int (5 : Int32)), .val (.int (1 : Int32)), .val (.ref u_COMMIT)]) rfl kg) ?_
  show G (T5.setTop (mkF m 34 #[.val (.int (2 : Int32)), .val (.ref b1), .val (.int (5 : Int32)), .val (.int (1 : Int32)), .val (.ref u_COMMIT)] []))
  refine go (fun tg kg => XS.goto X5.here hx rfl (pc0 := 34) (pc' := 9) rfl (hb hby d1_34) (by decide) (by decide) kg) ?_
  show G (T5.setTop (mkF m 9 #[.val (.int (2 : Int32)), .val (.ref b1), .val (.int (5 : Int32)), .val (.int (1 : Int32)), .val (.ref u_COMMIT)] []))
  refine go (fun tg kg => XS.iloadN X5.here hx rfl (hb hby d1_9) rfl kg) ?_
  show G (T5.setTop (mkF m 10 #[.val (.int (2 : Int32)), .val (.ref b1), .val (.int (5 : Int32)), .val (.int (1 : Int32)), .val (.ref u_COMMIT)] [(.int (1 : Int32))]))
  refine go (fun tg kg => XS.iloadN X5.here hx rfl (hb hby d1_10) rfl kg) ?_
  show G (T5.setTop (mkF m 11 #[.val (.int (2 : Int32)), .val (.ref b1), .val (.int (5 : Int32)), .val (.int (1 : Int32)), .val (.ref u_COMMIT)] [(.int (5 : Int32)), (.int (1 : Int32))]))
  refine go (fun tg kg => XS.icmpNo X5.here hx rfl (hb hby d1_11) rfl (tlt (by decide)).2.1 kg) ?_
  show G (T5.setTop (mkF m 14 #[.val (.int (2 : Int32)), .val (.ref b1), .val (.int (5 : Int32)), .val (.int (1 : Int32)), .val (.ref u_COMMIT)] []))
  refine go (fun tg kg => XS.aloadN X5.here hx rfl (hb hby d1_14) rfl rfl kg) ?_
  show G (T5.setTop (mkF m 15 #[.val (.int (2 : Int32)), .val (.ref b1), .val (.int (5 : Int32)), .val (.int (1 : Int32)), .val (.ref u_COMMIT)] [(.ref b1)]))
  refine go (fun tg kg => XS.iloadN X5.here hx rfl (hb hby d1_15) rfl kg) ?_
  show G (T5.setTop (mkF m 16 #[.val (.int (2 : Int32)), .val (.ref b1), .val (.int (5 : Int32)), .val (.int (1 : Int32)), .val (.ref u_COMMIT)] [(.int (1 : Int32)), (.ref b1)]))
  obtain ⟨cl6, Ar6, q6, S6, M6, H6, U6⟩ := id Gv1
  have hin6 : ¬ ((1 : Int32) < 0 ∨ cl6.slots.size ≤ ((1 : Int32)).toNatClampNeg) := inb_of S6 ⟨by decide, by decide⟩
  refine go (fun tg kg => X5.aaload hx (j := (1 : Int32)) (v := (.ref u_HEURISTIC_MIXED)) (by rw [e5]; exact Ar6.1) (State.isArrayOf_alike hZ.alike Ar6.2.1) rfl Ar6.2.2 hin6 (H6.at hin6 rfl) (g := (mkF m 16 #[.val (.int (2 : Int32)), .val (.ref b1), .val (.int (5 : Int32)), .val (.int (1 : Int32)), .val (.ref u_COMMIT)] [(.int (1 : Int32)), (.ref b1)])) rfl rfl (hb hby d1_16) _ kg) ?_
  show G (T5.setTop (mkF m 17 #[.val (.int (2 : Int32)), .val (.ref b1), .val (.int (5 : Int32)), .val (.int (1 : Int32)), .val (.ref u_COMMIT)] [(.ref u_HEURISTIC_MIXED)]))
  refine go (fun tg kg => XS.astore X5.here hx rfl (hb hby d1_17) rfl rfl (l' := #[.val (.int (2 : Int32)), .val (.ref b1), .val (.int (5 : Int32)), .val (.int (1 : Int32)), .val (.ref u_HEURISTIC_MIXED)]) rfl kg) ?_
  show G (T5.setTop (mkF m 19 #[.val (.int (2 : Int32)), .val (.ref b1), .val (.int (5 : Int32)), .val (.int (1 : Int32)), .val (.ref u_HEURISTIC_MIXED)] []))
  refine go (fun tg kg => XS.aload X5.here hx rfl (hb hby d1_19) rfl rfl kg) ?_
  show G (T5.setTop (mkF m 21 #[.val (.int (2 : Int32)), .val (.ref b1), .val (.int (5 : Int32)), .val (.int (1 : Int32)), .val (.ref u_HEURISTIC_MIXED)] [(.ref u_HEURISTIC_MIXED)]))
  have Fa7 := (F_u_HEURISTIC_MIXED_code.keep K1 nin0)
  obtain ⟨T8, X8, e8, st8⟩ := getF X5 hx hZ hown (host := "") (Or.inl (hw _ (List.mem_of_getElem? (i := 27) rfl))) Via.refl e5 Fa7 (g := (mkF m 21 #[.val (.int (2 : Int32)), .val (.ref b1), .val (.int (5 : Int32)), .val (.int (1 : Int32)), .val (.ref u_HEURISTIC_MIXED)] [(.ref u_HEURISTIC_MIXED)])) rfl rfl (hb hby d1_21)
  refine go st8 ?_
  show G (T8.setTop (mkF m 24 #[.val (.int (2 : Int32)), .val (.ref b1), .val (.int (5 : Int32)), .val (.int (1 : Int32)), .val (.ref u_HEURISTIC_MIXED)] [(.int (2 : Int32))]))
  refine go (fun tg kg => XS.iloadN X8.here hx rfl (hb hby d1_24) rfl kg) ?_
  show G (T8.setTop (mkF m 25 #[.val (.int (2 : Int32)), .val (.ref b1), .val (.int (5 : Int32)), .val (.int (1 : Int32)), .val (.ref u_HEURISTIC_MIXED)] [(.int (2 : Int32)), (.int (2 : Int32))]))
  refine go (fun tg kg => XS.icmpNo X8.here hx rfl (hb hby d1_25) rfl (teq (by decide)).2 kg) ?_
  show G (T8.setTop (mkF m 28 #[.val (.int (2 : Int32)), .val (.ref b1), .val (.int (5 : Int32)), .val (.int (1 : Int32)), .val (.ref u_HEURISTIC_MIXED)] []))
  refine go (fun tg kg => XS.aload X8.here hx rfl (hb hby d1_28) rfl rfl kg) ?_
  show G (T8.setTop (mkF m 30 #[.val (.int (2 : Int32)), .val (.ref b1), .val (.int (5 : Int32)), .val (.int (1 : Int32)), .val (.ref u_HEURISTIC_MIXED)] [(.ref u_HEURISTIC_MIXED)]))
  refine fin (some (.ref u_HEURISTIC_MIXED)) X8 (fun h => absurd h (by decide)) (fun fs hr => retOut X8 hx hret rfl (Or.inr (Or.inr (Or.inr (Or.inr ⟨rfl, rfl, rfl⟩)))) (hb hby d1_30) hr) (by decide) (by decide) ?_
  rw [e8]
  exact ⟨rfl, N1, Kk1⟩
def Q_rm1_3 (Z : State) (u_VALUES : Addr) (kV : ClassId) (u_COMMIT : Addr) (u_HEURISTIC_MIXED : Addr) (u_HEURISTIC_ROLLBACK : Addr) (u_DONE : Addr) (u_FORGOTTEN : Addr) (h0 : Heap) (n0 : Nat) (v : Option Value) (h : Heap) (L : List Loc) : Prop := v = some (.ref u_HEURISTIC_ROLLBACK) ∧ Fr n0 L ∧ Keep h0 h []
set_option maxRecDepth 65536 in
set_option maxHeartbeats 40000000 in
theorem rm1_3 (l : Launch) (Z : State) (a0 : Array Value) (hw : ∀ d ∈ tables_1, d.before a0 Z = true) (ws : List Jvm.Cond) (u_VALUES : Addr) (kV : ClassId) (u_COMMIT : Addr) (u_HEURISTIC_MIXED : Addr) (u_HEURISTIC_ROLLBACK : Addr) (u_DONE : Addr) (u_FORGOTTEN : Addr) (h0 : Heap) (n0 : Nat) (Z0 : n0 ≤ h0.size) (S_u_VALUES : Sta Z h0 "com/example/wary_commit/warycommit/DecisionLogFormat$Type" "$VALUES" "[Lcom/example/wary_commit/warycommit/DecisionLogFormat$Type;" (.ref u_VALUES)) (Va : Arv Z h0 u_VALUES kV (.object "com/example/wary_commit/warycommit/DecisionLogFormat$Type") (5 : Int32) [(.ref u_COMMIT), (.ref u_HEURISTIC_MIXED), (.ref u_HEURISTIC_ROLLBACK), (.ref u_DONE), (.ref u_FORGOTTEN)] .null) (Ev : Exa Z h0 u_VALUES "[Lcom/example/wary_commit/warycommit/DecisionLogFormat$Type;") (F_u_COMMIT_code : Fld Z h0 u_COMMIT "com/example/wary_commit/warycommit/DecisionLogFormat$Type" "code" "B" (.int (1 : Int32))) (F_u_HEURISTIC_MIXED_code : Fld Z h0 u_HEURISTIC_MIXED "com/example/wary_commit/warycommit/DecisionLogFormat$Type" "code" "B" (.int (2 : Int32))) (F_u_HEURISTIC_ROLLBACK_code : Fld Z h0 u_HEURISTIC_ROLLBACK "com/example/wary_commit/warycommit/DecisionLogFormat$Type" "code" "B" (.int (3 : Int32))) (F_u_DONE_code : Fld Z h0 u_DONE "com/example/wary_commit/warycommit/DecisionLogFormat$Type" "code" "B" (.int (4 : Int32))) (F_u_FORGOTTEN_code : Fld Z h0 u_FORGOTTEN "com/example/wary_commit/warycommit/DecisionLogFormat$Type" "code" "B" (.int (5 : Int32))) :
    MetFree l (⟨"com/example/wary_commit/warycommit/DecisionLogFormat$Type", "of", "(B)Lcom/example/wary_commit/warycommit/DecisionLogFormat$Type;"⟩ : MethodName) (head1 (Jvm.Cond.code (⟨"com/example/wary_commit/warycommit/DecisionLogFormat$Type", "of", "(B)Lcom/example/wary_commit/warycommit/DecisionLogFormat$Type;"⟩ : MethodName) prog_16_method_5_code 5 (some (.object "com/example/wary_commit/warycommit/DecisionLogFormat$Type")) :: ws) ({ frames := 2, cells := 1, slots := 5, locals := 25 } : Room)) (fun a U => a = #[(.int (3 : Int32))] ∧ Z.Warmed39 U.vm ∧ U.heap = h0) (fun _ _ _ _ _ => True) (fun _ U o U' => ∃ v L, o = .returned v ∧ Q_rm1_3 Z u_VALUES kV u_COMMIT u_HEURISTIC_MIXED u_HEURISTIC_ROLLBACK u_DONE u_FORGOTTEN h0 n0 v U'.heap L ∧ FrameEnd U o U' L ({ frames := 2, cells := 1, slots := 5, locals := 25 } : Room).cells ({ frames := 2, cells := 1, slots := 5, locals := 25 } : Room).slots) := by
  refine own_enter (Q := Q_rm1_3 Z u_VALUES kV u_COMMIT u_HEURISTIC_MIXED u_HEURISTIC_ROLLBACK u_DONE u_FORGOTTEN h0 n0) (plainFor_of_name pn_com_example_wary_commit_warycommit_DecisionLogFormat_Type) ?_
  intro p e s m below meth c s₁ G X0 hx hby hml hZ hown hnm hret e0 go fin
  replace hown : s.vm.findClass "com/example/wary_commit/warycommit/DecisionLogFormat$Type" = some m.cls := hown
  replace hnm : meth.name = "of" := hnm
  replace hml : c.maxLocals = 5 := hml
  rw [ef_1 m _]
  have N0 := Fr.nil n0
  show G (s₁.setTop (mkF m 0 #[.val (.int (3 : Int32)), .unset, .unset, .unset, .unset] []))
  obtain ⟨_, _, ⟨T1, L1, k1, n1⟩, -, X1, ⟨Lc1, hQ1, l1, y1, z1⟩, st1⟩ := Jvm.LawKit.callS X0 hx (y := (⟨"com/example/wary_commit/warycommit/DecisionLogFormat$Type", "values", "()[Lcom/example/wary_commit/warycommit/DecisionLogFormat$Type;"⟩ : MethodName)) hown (mvT hZ (hw _ (List.mem_of_getElem? (i := 7) rfl))) (mvT hZ (hw _ (List.mem_of_getElem? (i := 8) rfl))) (mvT hZ (hw _ (List.mem_of_getElem? (i := 5) rfl))) (mvT hZ (hw _ (List.mem_of_getElem? (i := 9) rfl))) (by decide) (backOf (W := 0) (rm2 l Z a0 hw [] u_VALUES kV u_COMMIT u_HEURISTIC_MIXED u_HEURISTIC_ROLLBACK u_DONE u_FORGOTTEN h0 n0 Z0 S_u_VALUES Va Ev) hZ (hw _ (List.mem_of_getElem? (i := 9) rfl)) (hw _ (List.mem_of_getElem? (i := 5) rfl)) (by decide) (by decide)) (g := (mkF m 0 #[.val (.int (3 : Int32)), .unset, .unset, .unset, .unset] [])) rfl (by rw [hml]; rfl) (argsL := []) (rest := []) (lenOf pd____Lcom_example_wary_commit_warycommit_DecisionLogFormat_Type_ rfl) rfl (by show 2 * 0 + _ ≤ _; exact Nat.le_of_eq rfl) (hb hby d1_0) (fun _ _ => ⟨rfl, e0, (by decide : 0 + 1 ≤ _), (by decide : 0 + 5 ≤ _)⟩)
  dsimp only [Pt.U, Pt.locs, Pt.cells, Pt.slots] at X1 l1 y1 z1 st1 hQ1
  subst l1 y1 z1
  obtain ⟨b1, rfl, Nq1, K1, sz1, Gv1⟩ := hQ1
  have Kk1 : Keep h0 T1.heap [] := (Keep.refl h0 []).trans K1 all0
  have Z1 := Nat.le_trans Z0 K1.1
  have N1 := Fr.app N0 Nq1
  refine go st1 ?_
  show G (T1.setTop (mkF m 3 #[.val (.int (3 : Int32)), .unset, .unset, .unset, .unset] [(.ref b1)]))
  refine go (fun tg kg => XS.astoreN X1.here hx rfl (hb hby d1_3) rfl rfl (l' := #[.val (.int (3 : Int32)), .val (.ref b1), .unset, .unset, .unset]) rfl kg) ?_
  show G (T1.setTop (mkF m 4 #[.val (.int (3 : Int32)), .val (.ref b1), .unset, .unset, .unset] []))
  refine go (fun tg kg => XS.aloadN X1.here hx rfl (hb hby d1_4) rfl rfl kg) ?_
  show G (T1.setTop (mkF m 5 #[.val (.int (3 : Int32)), .val (.ref b1), .unset, .unset, .unset] [(.ref b1)]))
  obtain ⟨cl2, Ar2, -, S2, M2, -, -⟩ := id Gv1
  refine go (fun tg kg => X1.arraylength hx Ar2.1 (State.isArrayOf_alike hZ.alike Ar2.2.1) (g := (mkF m 5 #[.val (.int (3 : Int32)), .val (.ref b1), .unset, .unset, .unset] [(.ref b1)])) rfl rfl (hb hby d1_5) _ kg) ?_
  rw [len_of S2 M2]
  show G (T1.setTop (mkF m 6 #[.val (.int (3 : Int32)), .val (.ref b1), .unset, .unset, .unset] [(.int (5 : Int32))]))
  refine go (fun tg kg => XS.istoreN X1.here hx rfl (hb hby d1_6) rfl (l' := #[.val (.int (3 : Int32)), .val (.ref b1), .val (.int (5 : Int32)), .unset, .unset]) rfl kg) ?_
  show G (T1.setTop (mkF m 7 #[.val (.int (3 : Int32)), .val (.ref b1), .val (.int (5 : Int32)), .unset, .unset] []))
  refine go (fun tg kg => XS.iconst X1.here hx rfl (hb hby d1_7) kg) ?_
  show G (T1.setTop (mkF m 8 #[.val (.int (3 : Int32)), .val (.ref b1), .val (.int (5 : Int32)), .unset, .unset] [(.int (0 : Int32))]))
  refine go (fun tg kg => XS.istoreN X1.here hx rfl (hb hby d1_8) rfl (l' := #[.val (.int (3 : Int32)), .val (.ref b1), .val (.int (5 : Int32)), .val (.int (0 : Int32)), .unset]) rfl kg) ?_
  show G (T1.setTop (mkF m 9 #[.val (.int (3 : Int32)), .val (.ref b1), .val (.int (5 : Int32)), .val (.int (0 : Int32)), .unset] []))
  refine go (fun tg kg => XS.iloadN X1.here hx rfl (hb hby d1_9) rfl kg) ?_
  show G (T1.setTop (mkF m 10 #[.val (.int (3 : Int32)), .val (.ref b1), .val (.int (5 : Int32)), .val (.int (0 : Int32)), .unset] [(.int (0 : Int32))]))
  refine go (fun tg kg => XS.iloadN X1.here hx rfl (hb hby d1_10) rfl kg) ?_
  show G (T1.setTop (mkF m 11 #[.val (.int (3 : Int32)), .val (.ref b1), .val (.int (5 : Int32)), .val (.int (0 : Int32)), .unset] [(.int (5 : Int32)), (.int (0 : Int32))]))
  refine go (fun tg kg => XS.icmpNo X1.here hx rfl (hb hby d1_11) rfl (tlt (by decide)).2.1 kg) ?_
  show G (T1.setTop (mkF m 14 #[.val (.int (3 : Int32)), .val (.ref b1), .val (.int (5 : Int32)), .val (.int (0 : Int32)), .unset] []))
  refine go (fun tg kg => XS.aloadN X1.here hx rfl (hb hby d1_14) rfl rfl kg) ?_
  show G (T1.setTop (mkF m 15 #[.val (.int (3 : Int32)), .val (.ref b1), .val (.int (5 : Int32)), .val (.int (0 : Int32)), .unset] [(.ref b1)]))
  refine go (fun tg kg => XS.iloadN X1.here hx rfl (hb hby d1_15) rfl kg) ?_
  show G (T1.setTop (mkF m 16 #[.val (.int (3 : Int32)), .val (.ref b1), .val (.int (5 : Int32)), .val (.int (0 : Int32)), .unset] [(.int (0 : Int32)), (.ref b1)]))
  obtain ⟨cl3, Ar3, q3, S3, M3, H3, U3⟩ := id Gv1
  have hin3 : ¬ ((0 : Int32) < 0 ∨ cl3.slots.size ≤ ((0 : Int32)).toNatClampNeg) := inb_of S3 ⟨by decide, by decide⟩
  refine go (fun tg kg => X1.aaload hx (j := (0 : Int32)) (v := (.ref u_COMMIT)) Ar3.1 (State.isArrayOf_alike hZ.alike Ar3.2.1) rfl Ar3.2.2 hin3 (H3.at hin3 rfl) (g := (mkF m 16 #[.val (.int (3 : Int32)), .val (.ref b1), .val (.int (5 : Int32)), .val (.int (0 : Int32)), .unset] [(.int (0 : Int32)), (.ref b1)])) rfl rfl (hb hby d1_16) _ kg) ?_
  show G (T1.setTop (mkF m 17 #[.val (.int (3 : Int32)), .val (.ref b1), .val (.int (5 : Int32)), .val (.int (0 : Int32)), .unset] [(.ref u_COMMIT)]))
  refine go (fun tg kg => XS.astore X1.here hx rfl (hb hby d1_17) rfl rfl (l' := #[.val (.int (3 : Int32)), .val (.ref b1), .val (.int (5 : Int32)), .val (.int (0 : Int32)), .val (.ref u_COMMIT)]) rfl kg) ?_
  show G (T1.setTop (mkF m 19 #[.val (.int (3 : Int32)), .val (.ref b1), .val (.int (5 : Int32)), .val (.int (0 : Int32)), .val (.ref u_COMMIT)] []))
  refine go (fun tg kg => XS.aload X1.here hx rfl (hb hby d1_19) rfl rfl kg) ?_
  show G (T1.setTop (mkF m 21 #[.val (.int (3 : Int32)), .val (.ref b1), .val (.int (5 : Int32)), .val (.int (0 : Int32)), .val (.ref u_COMMIT)] [(.ref u_COMMIT)]))
  have Fa4 := (F_u_COMMIT_code.keep K1 nin0)
  obtain ⟨T5, X5, e5, st5⟩ := getF X1 hx hZ hown (host := "") (Or.inl (hw _ (List.mem_of_getElem? (i := 27) rfl))) Via.refl rfl Fa4 (g := (mkF m 21 #[.val (.int (3 : Int32)), .val (.ref b1), .val (.int (5 : Int32)), .val (.int (0 : Int32)), .val (.ref u_COMMIT)] [(.ref u_COMMIT)])) rfl rfl (hb hby d1_21)
  refine go st5 ?_
  show G (T5.setTop (mkF m 24 #[.val (.int (3 : Int32)), .val (.ref b1), .val (.int (5 : Int32)), .val (.int (0 : Int32)), .val (.ref u_COMMIT)] [(.int (1 : Int32))]))
  refine go (fun tg kg => XS.iloadN X5.here hx rfl (hb hby d1_24) rfl kg) ?_
  show G (T5.setTop (mkF m 25 #[.val (.int (3 : Int32)), .val (.ref b1), .val (.int (5 : Int32)), .val (.int (0 : Int32)), .val (.ref u_COMMIT)] [(.int (3 : Int32)), (.int (1 : Int32))]))
  refine go (fun tg kg => XS.icmpYes X5.here hx rfl (pc0 := 25) (pc' := 31) rfl (hb hby d1_25) rfl (feq (by decide)).2 (by decide) (by decide) kg) ?_
  show G (T5.setTop (mkF m 31 #[.val (.int (3 : Int32)), .val (.ref b1), .val (.int (5 : Int32)), .val (.int (0 : Int32)), .val (.ref u_COMMIT)] []))
  refine go (fun tg kg => XS.iinc X5.here hx rfl (hb hby d1_31) rfl (l' := #[.val (.int (3 : Int32)), .val (.ref b1), .val (.int (5 : Int32)), .val (.int (1 : Int32)), .val (.ref u_COMMIT)]) rfl kg) ?_
  show G (T5.setTop (mkF m 34 #[.val (.int (3 : Int32)), .val (.ref b1), .val (.int (5 : Int32)), .val (.int (1 : Int32)), .val (.ref u_COMMIT)] []))
  refine go (fun tg kg => XS.goto X5.here hx rfl (pc0 := 34) (pc' := 9) rfl (hb hby d1_34) (by decide) (by decide) kg) ?_
  show G (T5.setTop (mkF m 9 #[.val (.int (3 : Int32)), .val (.ref b1), .val (.int (5 : Int32)), .val (.int (1 : Int32)), .val (.ref u_COMMIT)] []))
  refine go (fun tg kg => XS.iloadN X5.here hx rfl (hb hby d1_9) rfl kg) ?_
  show G (T5.setTop (mkF m 10 #[.val (.int (3 : Int32)), .val (.ref b1), .val (.int (5 : Int32)), .val (.int (1 : Int32)), .val (.ref u_COMMIT)] [(.int (1 : Int32))]))
  refine go (fun tg kg => XS.iloadN X5.here hx rfl (hb hby d1_10) rfl kg) ?_
  show G (T5.setTop (mkF m 11 #[.val (.int (3 : Int32)), .val (.ref b1), .val (.int (5 : Int32)), .val (.int (1 : Int32)), .val (.ref u_COMMIT)] [(.int (5 : Int32)), (.int (1 : Int32))]))
  refine go (fun tg kg => XS.icmpNo X5.here hx rfl (hb hby d1_11) rfl (tlt (by decide)).2.1 kg) ?_
  show G (T5.setTop (mkF m 14 #[.val (.int (3 : Int32)), .val (.ref b1), .val (.int (5 : Int32)), .val (.int (1 : Int32)), .val (.ref u_COMMIT)] []))
  refine go (fun tg kg => XS.aloadN X5.here hx rfl (hb hby d1_14) rfl rfl kg) ?_
  show G (T5.setTop (mkF m 15 #[.val (.int (3 : Int32)), .val (.ref b1), .val (.int (5 : Int32)), .val (.int (1 : Int32)), .val (.ref u_COMMIT)] [(.ref b1)]))
  refine go (fun tg kg => XS.iloadN X5.here hx rfl (hb hby d1_15) rfl kg) ?_
  show G (T5.setTop (mkF m 16 #[.val (.int (3 : Int32)), .val (.ref b1), .val (.int (5 : Int32)), .val (.int (1 : Int32)), .val (.ref u_COMMIT)] [(.int (1 : Int32)), (.ref b1)]))
  obtain ⟨cl6, Ar6, q6, S6, M6, H6, U6⟩ := id Gv1
  have hin6 : ¬ ((1 : Int32) < 0 ∨ cl6.slots.size ≤ ((1 : Int32)).toNatClampNeg) := inb_of S6 ⟨by decide, by decide⟩
  refine go (fun tg kg => X5.aaload hx (j := (1 : Int32)) (v := (.ref u_HEURISTIC_MIXED)) (by rw [e5]; exact Ar6.1) (State.isArrayOf_alike hZ.alike Ar6.2.1) rfl Ar6.2.2 hin6 (H6.at hin6 rfl) (g := (mkF m 16 #[.val (.int (3 : Int32)), .val (.ref b1), .val (.int (5 : Int32)), .val (.int (1 : Int32)), .val (.ref u_COMMIT)] [(.int (1 : Int32)), (.ref b1)])) rfl rfl (hb hby d1_16) _ kg) ?_
  show G (T5.setTop (mkF m 17 #[.val (.int (3 : Int32)), .val (.ref b1), .val (.int (5 : Int32)), .val (.int (1 : Int32)), .val (.ref u_COMMIT)] [(.ref u_HEURISTIC_MIXED)]))
  refine go (fun tg kg => XS.astore X5.here hx rfl (hb hby d1_17) rfl rfl (l' := #[.val (.int (3 : Int32)), .val (.ref b1), .val (.int (5 : Int32)), .val (.int (1 : Int32)), .val (.ref u_HEURISTIC_MIXED)]) rfl kg) ?_
  show G (T5.setTop (mkF m 19 #[.val (.int (3 : Int32)), .val (.ref b1), .val (.int (5 : Int32)), .val (.int (1 : Int32)), .val (.ref u_HEURISTIC_MIXED)] []))
  refine go (fun tg kg => XS.aload X5.here hx rfl (hb hby d1_19) rfl rfl kg) ?_
  show G (T5.setTop (mkF m 21 #[.val (.int (3 : Int32)), .val (.ref b1), .val (.int (5 : Int32)), .val (.int (1 : Int32)), .val (.ref u_HEURISTIC_MIXED)] [(.ref u_HEURISTIC_MIXED)]))
  have Fa7 := (F_u_HEURISTIC_MIXED_code.keep K1 nin0)
  obtain ⟨T8, X8, e8, st8⟩ := getF X5 hx hZ hown (host := "") (Or.inl (hw _ (List.mem_of_getElem? (i := 27) rfl))) Via.refl e5 Fa7 (g := (mkF m 21 #[.val (.int (3 : Int32)), .val (.ref b1), .val (.int (5 : Int32)), .val (.int (1 : Int32)), .val (.ref u_HEURISTIC_MIXED)] [(.ref u_HEURISTIC_MIXED)])) rfl rfl (hb hby d1_21)
  refine go st8 ?_
  show G (T8.setTop (mkF m 24 #[.val (.int (3 : Int32)), .val (.ref b1), .val (.int (5 : Int32)), .val (.int (1 : Int32)), .val (.ref u_HEURISTIC_MIXED)] [(.int (2 : Int32))]))
  refine go (fun tg kg => XS.iloadN X8.here hx rfl (hb hby d1_24) rfl kg) ?_
  show G (T8.setTop (mkF m 25 #[.val (.int (3 : Int32)), .val (.ref b1), .val (.int (5 : Int32)), .val (.int (1 : Int32)), .val (.ref u_HEURISTIC_MIXED)] [(.int (3 : Int32)), (.int (2 : Int32))]))
  refine go (fun tg kg => XS.icmpYes X8.here hx rfl (pc0 := 25) (pc' := 31) rfl (hb hby d1_25) rfl (feq (by decide)).2 (by decide) (by decide) kg) ?_
  show G (T8.setTop (mkF m 31 #[.val (.int (3 : Int32)), .val (.ref b1), .val (.int (5 : Int32)), .val (.int (1 : Int32)), .val (.ref u_HEURISTIC_MIXED)] []))
  refine go (fun tg kg => XS.iinc X8.here hx rfl (hb hby d1_31) rfl (l' := #[.val (.int (3 : Int32)), .val (.ref b1), .val (.int (5 : Int32)), .val (.int (2 : Int32)), .val (.ref u_HEURISTIC_MIXED)]) rfl kg) ?_
  show G (T8.setTop (mkF m 34 #[.val (.int (3 : Int32)), .val (.ref b1), .val (.int (5 : Int32)), .val (.int (2 : Int32)), .val (.ref u_HEURISTIC_MIXED)] []))
  refine go (fun tg kg => XS.goto X8.here hx rfl (pc0 := 34) (pc' := 9) rfl (hb hby d1_34) (by decide) (by decide) kg) ?_
  show G (T8.setTop (mkF m 9 #[.val (.int (3 : Int32)), .val (.ref b1), .val (.int (5 : Int32)), .val (.int (2 : Int32)), .val (.ref u_HEURISTIC_MIXED)] []))
  refine go (fun tg kg => XS.iloadN X8.here hx rfl (hb hby d1_9) rfl kg) ?_
  show G (T8.setTop (mkF m 10 #[.val (.int (3 : Int32)), .val (.ref b1), .val (.int (5 : Int32)), .val (.int (2 : Int32)), .val (.ref u_HEURISTIC_MIXED)] [(.int (2 : Int32))]))
  refine go (fun tg kg => XS.iloadN X8.here hx rfl (hb hby d1_10) rfl kg) ?_
  show G (T8.setTop (mkF m 11 #[.val (.int (3 : Int32)), .val (.ref b1), .val (.int (5 : Int32)), .val (.int (2 : Int32)), .val (.ref u_HEURISTIC_MIXED)] [(.int (5 : Int32)), (.int (2 : Int32))]))
  refine go (fun tg kg => XS.icmpNo X8.here hx rfl (hb hby d1_11) rfl (tlt (by decide)).2.1 kg) ?_
  show G (T8.setTop (mkF m 14 #[.val (.int (3 : Int32)), .val (.ref b1), .val (.int (5 : Int32)), .val (.int (2 : Int32)), .val (.ref u_HEURISTIC_MIXED)] []))
  refine go (fun tg kg => XS.aloadN X8.here hx rfl (hb hby d1_14) rfl rfl kg) ?_
  show G (T8.setTop (mkF m 15 #[.val (.int (3 : Int32)), .val (.ref b1), .val (.int (5 : Int32)), .val (.int (2 : Int32)), .val (.ref u_HEURISTIC_MIXED)] [(.ref b1)]))
  refine go (fun tg kg => XS.iloadN X8.here hx rfl (hb hby d1_15) rfl kg) ?_
  show G (T8.setTop (mkF m 16 #[.val (.int (3 : Int32)), .val (.ref b1), .val (.int (5 : Int32)), .val (.int (2 : Int32)), .val (.ref u_HEURISTIC_MIXED)] [(.int (2 : Int32)), (.ref b1)]))
  obtain ⟨cl9, Ar9, q9, S9, M9, H9, U9⟩ := id Gv1
  have hin9 : ¬ ((2 : Int32) < 0 ∨ cl9.slots.size ≤ ((2 : Int32)).toNatClampNeg) := inb_of S9 ⟨by decide, by decide⟩
  refine go (fun tg kg => X8.aaload hx (j := (2 : Int32)) (v := (.ref u_HEURISTIC_ROLLBACK)) (by rw [e8]; exact Ar9.1) (State.isArrayOf_alike hZ.alike Ar9.2.1) rfl Ar9.2.2 hin9 (H9.at hin9 rfl) (g := (mkF m 16 #[.val (.int (3 : Int32)), .val (.ref b1), .val (.int (5 : Int32)), .val (.int (2 : Int32)), .val (.ref u_HEURISTIC_MIXED)] [(.int (2 : Int32)), (.ref b1)])) rfl rfl (hb hby d1_16) _ kg) ?_
  show G (T8.setTop (mkF m 17 #[.val (.int (3 : Int32)), .val (.ref b1), .val (.int (5 : Int32)), .val (.int (2 : Int32)), .val (.ref u_HEURISTIC_MIXED)] [(.ref u_HEURISTIC_ROLLBACK)]))
  refine go (fun tg kg => XS.astore X8.here hx rfl (hb hby d1_17) rfl rfl (l' := #[.val (.int (3 : Int32)), .val (.ref b1), .val (.int (5 : Int32)), .val (.int (2 : Int32)), .val (.ref u_HEURISTIC_ROLLBACK)]) rfl kg) ?_
  show G (T8.setTop (mkF m 19 #[.val (.int (3 : Int32)), .val (.ref b1), .val (.int (5 : Int32)), .val (.int (2 : Int32)), .val (.ref u_HEURISTIC_ROLLBACK)] []))
  refine go (fun tg kg => XS.aload X8.here hx rfl (hb hby d1_19) rfl rfl kg) ?_
  show G (T8.setTop (mkF m 21 #[.val (.int (3 : Int32)), .val (.ref b1), .val (.int (5 : Int32)), .val (.int (2 : Int32)), .val (.ref u_HEURISTIC_ROLLBACK)] [(.ref u_HEURISTIC_ROLLBACK)]))
  have Fa10 := (F_u_HEURISTIC_ROLLBACK_code.keep K1 nin0)
  obtain ⟨T11, X11, e11, st11⟩ := getF X8 hx hZ hown (host := "") (Or.inl (hw _ (List.mem_of_getElem? (i := 27) rfl))) Via.refl e8 Fa10 (g := (mkF m 21 #[.val (.int (3 : Int32)), .val (.ref b1), .val (.int (5 : Int32)), .val (.int (2 : Int32)), .val (.ref u_HEURISTIC_ROLLBACK)] [(.ref u_HEURISTIC_ROLLBACK)])) rfl rfl (hb hby d1_21)
  refine go st11 ?_
  show G (T11.setTop (mkF m 24 #[.val (.int (3 : Int32)), .val (.ref b1), .val (.int (5 : Int32)), .val (.int (2 : Int32)), .val (.ref u_HEURISTIC_ROLLBACK)] [(.int (3 : Int32))]))
  refine go (fun tg kg => XS.iloadN X11.here hx rfl (hb hby d1_24) rfl kg) ?_
  show G (T11.setTop (mkF m 25 #[.val (.int (3 : Int32)), .val (.ref b1), .val (.int (5 : Int32)), .val (.int (2 : Int32)), .val (.ref u_HEURISTIC_ROLLBACK)] [(.int (3 : Int32)), (.int (3 : Int32))]))
  refine go (fun tg kg => XS.icmpNo X11.here hx rfl (hb hby d1_25) rfl (teq (by decide)).2 kg) ?_
  show G (T11.setTop (mkF m 28 #[.val (.int (3 : Int32)), .val (.ref b1), .val (.int (5 : Int32)), .val (.int (2 : Int32)), .val (.ref u_HEURISTIC_ROLLBACK)] []))
  refine go (fun tg kg => XS.aload X11.here hx rfl (hb hby d1_28) rfl rfl kg) ?_
  show G (T11.setTop (mkF m 30 #[.val (.int (3 : Int32)), .val (.ref b1), .val (.int (5 : Int32)), .val (.int (2 : Int32)), .val (.ref u_HEURISTIC_ROLLBACK)] [(.ref u_HEURISTIC_ROLLBACK)]))
  refine fin (some (.ref u_HEURISTIC_ROLLBACK)) X11 (fun h => absurd h (by decide)) (fun fs hr => retOut X11 hx hret rfl (Or.inr (Or.inr (Or.inr (Or.inr ⟨rfl, rfl, rfl⟩)))) (hb hby d1_30) hr) (by decide) (by decide) ?_
  rw [e11]
  exact ⟨rfl, N1, Kk1⟩
theorem ef_3 (m : MethodId) (x0 : Addr) : entryFrame m #[(.ref x0)] 1 = mkF m 0 #[.val (.ref x0)] [] := by first | (simp [entryFrame, mkF, argsToLocals, Value.category]; done) | rfl
theorem d3_0 : decode prog_16_method_4_code 0 = .ok (.aload_n 0, 1) := by decide +kernel
theorem d3_1 : decode prog_16_method_4_code 1 = .ok (.getstatic 42, 3) := by decide +kernel
theorem d3_4 : decode prog_16_method_4_code 4 = .ok (.if_acmp .ne 9, 3) := by decide +kernel
theorem d3_7 : decode prog_16_method_4_code 7 = .ok (.getstatic 7, 3) := by decide +kernel
theorem d3_10 : decode prog_16_method_4_code 10 = .ok (.goto 6, 3) := by decide +kernel
theorem d3_16 : decode prog_16_method_4_code 16 = .ok (.areturn, 1) := by decide +kernel
theorem d3_13 : decode prog_16_method_4_code 13 = .ok (.getstatic 10, 3) := by decide +kernel
def Q_rm3 (Z : State) (oh : Addr) (u_MIXED : Addr) (u_HEURISTIC_MIXED : Addr) (u_HEURISTIC_ROLLBACK : Addr) (h0 : Heap) (n0 : Nat) (v : Option Value) (h : Heap) (L : List Loc) : Prop := v = some (.ref (own_of2 oh u_MIXED u_HEURISTIC_MIXED u_HEURISTIC_ROLLBACK)) ∧ Fr n0 L ∧ h = h0
set_option maxRecDepth 65536 in
set_option maxHeartbeats 40000000 in
theorem rm3 (l : Launch) (Z : State) (a0 : Array Value) (hw : ∀ d ∈ tables_1, d.before a0 Z = true) (ws : List Jvm.Cond) (oh : Addr) (u_MIXED : Addr) (u_HEURISTIC_MIXED : Addr) (u_HEURISTIC_ROLLBACK : Addr) (h0 : Heap) (n0 : Nat) (Z0 : n0 ≤ h0.size) (S_u_MIXED : Sta Z h0 "com/example/wary_commit/warycommit/DecisionLogFormat$Heuristic" "MIXED" "Lcom/example/wary_commit/warycommit/DecisionLogFormat$Heuristic;" (.ref u_MIXED)) (S_u_HEURISTIC_MIXED : Sta Z h0 "com/example/wary_commit/warycommit/DecisionLogFormat$Type" "HEURISTIC_MIXED" "Lcom/example/wary_commit/warycommit/DecisionLogFormat$Type;" (.ref u_HEURISTIC_MIXED)) (S_u_HEURISTIC_ROLLBACK : Sta Z h0 "com/example/wary_commit/warycommit/DecisionLogFormat$Type" "HEURISTIC_ROLLBACK" "Lcom/example/wary_commit/warycommit/DecisionLogFormat$Type;" (.ref u_HEURISTIC_ROLLBACK)) :
    MetFree l (⟨"com/example/wary_commit/warycommit/DecisionLogFormat$Type", "of", "(Lcom/example/wary_commit/warycommit/DecisionLogFormat$Heuristic;)Lcom/example/wary_commit/warycommit/DecisionLogFormat$Type;"⟩ : MethodName) (head1 (Jvm.Cond.code (⟨"com/example/wary_commit/warycommit/DecisionLogFormat$Type", "of", "(Lcom/example/wary_commit/warycommit/DecisionLogFormat$Heuristic;)Lcom/example/wary_commit/warycommit/DecisionLogFormat$Type;"⟩ : MethodName) prog_16_method_4_code 1 (some (.object "com/example/wary_commit/warycommit/DecisionLogFormat$Type")) :: ws) ({ frames := 0, cells := 0, slots := 0, locals := 0 } : Room)) (fun a U => a = #[(.ref oh)] ∧ Z.Warmed39 U.vm ∧ U.heap = h0) (fun _ _ _ _ _ => True) (fun _ U o U' => ∃ v L, o = .returned v ∧ Q_rm3 Z oh u_MIXED u_HEURISTIC_MIXED u_HEURISTIC_ROLLBACK h0 n0 v U'.heap L ∧ FrameEnd U o U' L ({ frames := 0, cells := 0, slots := 0, locals := 0 } : Room).cells ({ frames := 0, cells := 0, slots := 0, locals := 0 } : Room).slots) := by
  refine own_enter (Q := Q_rm3 Z oh u_MIXED u_HEURISTIC_MIXED u_HEURISTIC_ROLLBACK h0 n0) (plainFor_of_name pn_com_example_wary_commit_warycommit_DecisionLogFormat_Type) ?_
  intro p e s m below meth c s₁ G X0 hx hby hml hZ hown hnm hret e0 go fin
  replace hown : s.vm.findClass "com/example/wary_commit/warycommit/DecisionLogFormat$Type" = some m.cls := hown
  replace hnm : meth.name = "of" := hnm
  replace hml : c.maxLocals = 1 := hml
  rw [ef_3 m oh]
  have N0 := Fr.nil n0
  show G (s₁.setTop (mkF m 0 #[.val (.ref oh)] []))
  refine go (fun tg kg => XS.aloadN X0.here hx rfl (hb hby d3_0) rfl rfl kg) ?_
  show G (s₁.setTop (mkF m 1 #[.val (.ref oh)] [(.ref oh)]))
  obtain ⟨T1, X1, e1, st1⟩ := getS2 X0 hx hZ hown (host := "") (Or.inl (hw _ (List.mem_of_getElem? (i := 32) rfl))) Via.refl e0 S_u_MIXED (g := (mkF m 1 #[.val (.ref oh)] [(.ref oh)])) rfl (hb hby d3_1)
  refine go st1 ?_
  show G (T1.setTop (mkF m 4 #[.val (.ref oh)] [(.ref u_MIXED), (.ref oh)]))
  by_cases ha2 : oh = u_MIXED
  · refine go (fun tg kg => Jvm.RoadKit.acmp (g := (mkF m 4 #[.val (.ref oh)] [(.ref u_MIXED), (.ref oh)])) X1 hx rfl rfl rfl (pc0 := 4) (pc' := 7) (same := true) rfl (hb hby d3_4) rfl (decide_eq_true (congrArg Value.ref ha2)) (by decide) (by decide) kg) ?_
    show G (T1.setTop (mkF m 7 #[.val (.ref oh)] []))
    obtain ⟨T3, X3, e3, st3⟩ := getS2 X1 hx hZ hown (host := "") (Or.inl (hw _ (List.mem_of_getElem? (i := 36) rfl))) Via.refl e1 S_u_HEURISTIC_MIXED (g := (mkF m 7 #[.val (.ref oh)] [])) rfl (hb hby d3_7)
    refine go st3 ?_
    show G (T3.setTop (mkF m 10 #[.val (.ref oh)] [(.ref u_HEURISTIC_MIXED)]))
    refine go (fun tg kg => XS.goto X3.here hx rfl (pc0 := 10) (pc' := 16) rfl (hb hby d3_10) (by decide) (by decide) kg) ?_
    show G (T3.setTop (mkF m 16 #[.val (.ref oh)] [(.ref u_HEURISTIC_MIXED)]))
    refine fin (some (.ref u_HEURISTIC_MIXED)) X3 (fun h => absurd h (by decide)) (fun fs hr => retOut X3 hx hret rfl (Or.inr (Or.inr (Or.inr (Or.inr ⟨rfl, rfl, rfl⟩)))) (hb hby d3_16) hr) (by decide) (by decide) ?_
    rw [e3]
    exact ⟨by simp only [own_of2, if_pos ha2], N0, rfl⟩
  · refine go (fun tg kg => Jvm.RoadKit.acmp (g := (mkF m 4 #[.val (.ref oh)] [(.ref u_MIXED), (.ref oh)])) X1 hx rfl rfl rfl (pc0 := 4) (pc' := 13) (same := false) rfl (hb hby d3_4) rfl (decide_eq_false fun q => ha2 (Value.ref.inj q)) (by decide) (by decide) kg) ?_
    show G (T1.setTop (mkF m 13 #[.val (.ref oh)] []))
    obtain ⟨T4, X4, e4, st4⟩ := getS2 X1 hx hZ hown (host := "") (Or.inl (hw _ (List.mem_of_getElem? (i := 34) rfl))) Via.refl e1 S_u_HEURISTIC_ROLLBACK (g := (mkF m 13 #[.val (.ref oh)] [])) rfl (hb hby d3_13)
    refine go st4 ?_
    show G (T4.setTop (mkF m 16 #[.val (.ref oh)] [(.ref u_HEURISTIC_ROLLBACK)]))
    refine fin (some (.ref u_HEURISTIC_ROLLBACK)) X4 (fun h => absurd h (by decide)) (fun fs hr => retOut X4 hx hret rfl (Or.inr (Or.inr (Or.inr (Or.inr ⟨rfl, rfl, rfl⟩)))) (hb hby d3_16) hr) (by decide) (by decide) ?_
    rw [e4]
    exact ⟨by simp only [own_of2, if_neg ha2], N0, rfl⟩
theorem pn_com_example_wary_commit_warycommit_TypeOfPinLaw : plainName "com/example/wary_commit/warycommit/TypeOfPinLaw" = true := by first | (simp [plainName, overriddenIn]; done) | decide +kernel
theorem ef_0 (m : MethodId) (x0 : Int32) : entryFrame m #[(.int x0)] maxLocals = mkF m 0 #[.val (.int x0), .unset, .unset, .unset, .unset, .unset] [] := by first | (simp [entryFrame, mkF, argsToLocals, Value.category, maxLocals]; done) | rfl
theorem pd__B_Lcom_example_wary_commit_warycommit_DecisionLogFormat_Type_ : parseMethodDescriptor "(B)Lcom/example/wary_commit/warycommit/DecisionLogFormat$Type;" = some ⟨[.byte], some (.object "com/example/wary_commit/warycommit/DecisionLogFormat$Type")⟩ := by decide +kernel
theorem pd__Lcom_example_wary_commit_warycommit_DecisionLogFormat_Heuristic__Lcom_example_wary_commit_warycommit_DecisionLogFormat_Type_ : parseMethodDescriptor "(Lcom/example/wary_commit/warycommit/DecisionLogFormat$Heuristic;)Lcom/example/wary_commit/warycommit/DecisionLogFormat$Type;" = some ⟨[(.object "com/example/wary_commit/warycommit/DecisionLogFormat$Heuristic")], some (.object "com/example/wary_commit/warycommit/DecisionLogFormat$Type")⟩ := by decide +kernel
def Q_rm0 (Z : State) (x0 : Int32) (u_VALUES : Addr) (kV : ClassId) (u_COMMIT : Addr) (u_HEURISTIC_MIXED : Addr) (u_HEURISTIC_ROLLBACK : Addr) (u_DONE : Addr) (u_FORGOTTEN : Addr) (u_MIXED : Addr) (u_ROLLBACK : Addr) (h0 : Heap) (n0 : Nat) (v : Option Value) (h : Heap) (L : List Loc) : Prop := v = some (.int 1) ∧ Fr n0 L
set_option maxRecDepth 65536 in
set_option maxHeartbeats 40000000 in
theorem rm0 (l : Launch) (Z : State) (a0 : Array Value) (hw : ∀ d ∈ tables_1, d.before a0 Z = true) (ws : List Jvm.Cond) (x0 : Int32) (u_VALUES : Addr) (kV : ClassId) (u_COMMIT : Addr) (u_HEURISTIC_MIXED : Addr) (u_HEURISTIC_ROLLBACK : Addr) (u_DONE : Addr) (u_FORGOTTEN : Addr) (u_MIXED : Addr) (u_ROLLBACK : Addr) (h0 : Heap) (n0 : Nat) (Z0 : n0 ≤ h0.size) (S_u_VALUES : Sta Z h0 "com/example/wary_commit/warycommit/DecisionLogFormat$Type" "$VALUES" "[Lcom/example/wary_commit/warycommit/DecisionLogFormat$Type;" (.ref u_VALUES)) (Va : Arv Z h0 u_VALUES kV (.object "com/example/wary_commit/warycommit/DecisionLogFormat$Type") (5 : Int32) [(.ref u_COMMIT), (.ref u_HEURISTIC_MIXED), (.ref u_HEURISTIC_ROLLBACK), (.ref u_DONE), (.ref u_FORGOTTEN)] .null) (Ev : Exa Z h0 u_VALUES "[Lcom/example/wary_commit/warycommit/DecisionLogFormat$Type;") (F_u_COMMIT_code : Fld Z h0 u_COMMIT "com/example/wary_commit/warycommit/DecisionLogFormat$Type" "code" "B" (.int (1 : Int32))) (F_u_HEURISTIC_MIXED_code : Fld Z h0 u_HEURISTIC_MIXED "com/example/wary_commit/warycommit/DecisionLogFormat$Type" "code" "B" (.int (2 : Int32))) (F_u_HEURISTIC_ROLLBACK_code : Fld Z h0 u_HEURISTIC_ROLLBACK "com/example/wary_commit/warycommit/DecisionLogFormat$Type" "code" "B" (.int (3 : Int32))) (F_u_DONE_code : Fld Z h0 u_DONE "com/example/wary_commit/warycommit/DecisionLogFormat$Type" "code" "B" (.int (4 : Int32))) (F_u_FORGOTTEN_code : Fld Z h0 u_FORGOTTEN "com/example/wary_commit/warycommit/DecisionLogFormat$Type" "code" "B" (.int (5 : Int32))) (S_u_MIXED : Sta Z h0 "com/example/wary_commit/warycommit/DecisionLogFormat$Heuristic" "MIXED" "Lcom/example/wary_commit/warycommit/DecisionLogFormat$Heuristic;" (.ref u_MIXED)) (S_u_ROLLBACK : Sta Z h0 "com/example/wary_commit/warycommit/DecisionLogFormat$Heuristic" "ROLLBACK" "Lcom/example/wary_commit/warycommit/DecisionLogFormat$Heuristic;" (.ref u_ROLLBACK)) (S_u_HEURISTIC_MIXED : Sta Z h0 "com/example/wary_commit/warycommit/DecisionLogFormat$Type" "HEURISTIC_MIXED" "Lcom/example/wary_commit/warycommit/DecisionLogFormat$Type;" (.ref u_HEURISTIC_MIXED)) (S_u_HEURISTIC_ROLLBACK : Sta Z h0 "com/example/wary_commit/warycommit/DecisionLogFormat$Type" "HEURISTIC_ROLLBACK" "Lcom/example/wary_commit/warycommit/DecisionLogFormat$Type;" (.ref u_HEURISTIC_ROLLBACK)) (hne : ¬ u_ROLLBACK = u_MIXED) :
    MetFree l x (head1 (Jvm.Cond.code x code maxLocals ret :: ws) room_1) (fun a U => a = #[(.int x0)] ∧ Z.Warmed39 U.vm ∧ U.heap = h0) (fun _ _ _ _ _ => True) (fun _ U o U' => ∃ v L, o = .returned v ∧ Q_rm0 Z x0 u_VALUES kV u_COMMIT u_HEURISTIC_MIXED u_HEURISTIC_ROLLBACK u_DONE u_FORGOTTEN u_MIXED u_ROLLBACK h0 n0 v U'.heap L ∧ FrameEnd U o U' L room_1.cells room_1.slots) := by
  refine own_enter (Q := Q_rm0 Z x0 u_VALUES kV u_COMMIT u_HEURISTIC_MIXED u_HEURISTIC_ROLLBACK u_DONE u_FORGOTTEN u_MIXED u_ROLLBACK h0 n0) (plainFor_of_name pn_com_example_wary_commit_warycommit_TypeOfPinLaw) ?_
  intro p e s m below meth c s₁ G X0 hx hby hml hZ hown hnm hret e0 go fin
  replace hown : s.vm.findClass "com/example/wary_commit/warycommit/TypeOfPinLaw" = some m.cls := hown
  replace hnm : meth.name = "law" := hnm
  replace hml : c.maxLocals = 6 := hml
  rw [ef_0 m x0]
  have N0 := Fr.nil n0
  show G (s₁.setTop (mkF m 0 #[.val (.int x0), .unset, .unset, .unset, .unset, .unset] []))
  refine go (fun tg kg => XS.iloadN X0.here hx rfl (hb hby at_0) rfl kg) ?_
  show G (s₁.setTop (mkF m 1 #[.val (.int x0), .unset, .unset, .unset, .unset, .unset] [(.int x0)]))
  refine go (fun tg kg => XS.iconst X0.here hx rfl (hb hby at_1) kg) ?_
  show G (s₁.setTop (mkF m 2 #[.val (.int x0), .unset, .unset, .unset, .unset, .unset] [(.int (1 : Int32)), (.int x0)]))
  refine go (fun tg kg => XS.iand X0.here hx rfl (hb hby at_2) rfl kg) ?_
  show G (s₁.setTop (mkF m 3 #[.val (.int x0), .unset, .unset, .unset, .unset, .unset] [(.int (x0 &&& (1 : Int32)))]))
  by_cases hc1 : (x0 &&& (1 : Int32)) = (0 : Int32)
  · refine go (fun tg kg => XS.ifYes X0.here hx rfl (pc0 := 3) (pc' := 10) rfl (hb hby at_3) rfl ((if0 _ _).trans (teq hc1).1) (by decide) (by decide) kg) ?_
    show G (s₁.setTop (mkF m 10 #[.val (.int x0), .unset, .unset, .unset, .unset, .unset] []))
    refine go (fun tg kg => XS.iconst X0.here hx rfl (hb hby at_10) kg) ?_
    show G (s₁.setTop (mkF m 11 #[.val (.int x0), .unset, .unset, .unset, .unset, .unset] [(.int (0 : Int32))]))
    refine go (fun tg kg => XS.istoreN X0.here hx rfl (hb hby at_11) rfl (l' := #[.val (.int x0), .val (.int (0 : Int32)), .unset, .unset, .unset, .unset]) rfl kg) ?_
    show G (s₁.setTop (mkF m 12 #[.val (.int x0), .val (.int (0 : Int32)), .unset, .unset, .unset, .unset] []))
    refine go (fun tg kg => XS.iloadN X0.here hx rfl (hb hby at_12) rfl kg) ?_
    show G (s₁.setTop (mkF m 13 #[.val (.int x0), .val (.int (0 : Int32)), .unset, .unset, .unset, .unset] [(.int (0 : Int32))]))
    refine go (fun tg kg => XS.ifYes X0.here hx rfl (pc0 := 13) (pc' := 22) rfl (hb hby at_13) rfl ((if0 _ _).trans (teq (by decide)).1) (by decide) (by decide) kg) ?_
    show G (s₁.setTop (mkF m 22 #[.val (.int x0), .val (.int (0 : Int32)), .unset, .unset, .unset, .unset] []))
    obtain ⟨T2, X2, e2, st2⟩ := getS2 X0 hx hZ hown (host := "") (Or.inl (hw _ (List.mem_of_getElem? (i := 0) rfl))) Via.refl e0 S_u_ROLLBACK (g := (mkF m 22 #[.val (.int x0), .val (.int (0 : Int32)), .unset, .unset, .unset, .unset] [])) rfl (hb hby at_22)
    refine go st2 ?_
    show G (T2.setTop (mkF m 25 #[.val (.int x0), .val (.int (0 : Int32)), .unset, .unset, .unset, .unset] [(.ref u_ROLLBACK)]))
    refine go (fun tg kg => XS.astoreN X2.here hx rfl (hb hby at_25) rfl rfl (l' := #[.val (.int x0), .val (.int (0 : Int32)), .val (.ref u_ROLLBACK), .unset, .unset, .unset]) rfl kg) ?_
    show G (T2.setTop (mkF m 26 #[.val (.int x0), .val (.int (0 : Int32)), .val (.ref u_ROLLBACK), .unset, .unset, .unset] []))
    refine go (fun tg kg => XS.iloadN X2.here hx rfl (hb hby at_26) rfl kg) ?_
    show G (T2.setTop (mkF m 27 #[.val (.int x0), .val (.int (0 : Int32)), .val (.ref u_ROLLBACK), .unset, .unset, .unset] [(.int (0 : Int32))]))
    refine go (fun tg kg => XS.ifYes X2.here hx rfl (pc0 := 27) (pc' := 34) rfl (hb hby at_27) rfl ((if0 _ _).trans (teq (by decide)).1) (by decide) (by decide) kg) ?_
    show G (T2.setTop (mkF m 34 #[.val (.int x0), .val (.int (0 : Int32)), .val (.ref u_ROLLBACK), .unset, .unset, .unset] []))
    refine go (fun tg kg => XS.iconst X2.here hx rfl (hb hby at_34) kg) ?_
    show G (T2.setTop (mkF m 35 #[.val (.int x0), .val (.int (0 : Int32)), .val (.ref u_ROLLBACK), .unset, .unset, .unset] [(.int (3 : Int32))]))
    refine go (fun tg kg => XS.istoreN X2.here hx rfl (hb hby at_35) rfl (l' := #[.val (.int x0), .val (.int (0 : Int32)), .val (.ref u_ROLLBACK), .val (.int (3 : Int32)), .unset, .unset]) rfl kg) ?_
    show G (T2.setTop (mkF m 36 #[.val (.int x0), .val (.int (0 : Int32)), .val (.ref u_ROLLBACK), .val (.int (3 : Int32)), .unset, .unset] []))
    refine go (fun tg kg => XS.iloadN X2.here hx rfl (hb hby at_36) rfl kg) ?_
    show G (T2.setTop (mkF m 37 #[.val (.int x0), .val (.int (0 : Int32)), .val (.ref u_ROLLBACK), .val (.int (3 : Int32)), .unset, .unset] [(.int (3 : Int32))]))
    refine go (fun tg kg => XS.i2b X2.here hx rfl (hb hby at_37) rfl kg) ?_
    show G (T2.setTop (mkF m 38 #[.val (.int x0), .val (.int (0 : Int32)), .val (.ref u_ROLLBACK), .val (.int (3 : Int32)), .unset, .unset] [(.int (3 : Int32))]))
    obtain ⟨_, _, ⟨T3, L3, k3, n3⟩, -, X3, ⟨Lc3, hQ3, l3, y3, z3⟩, st3⟩ := Jvm.LawKit.callS X2 hx (y := (⟨"com/example/wary_commit/warycommit/DecisionLogFormat$Type", "of", "(B)Lcom/example/wary_commit/warycommit/DecisionLogFormat$Type;"⟩ : MethodName)) hown (mvT hZ (hw _ (List.mem_of_getElem? (i := 3) rfl))) (mvT hZ (hw _ (List.mem_of_getElem? (i := 4) rfl))) (mvT hZ (hw _ (List.mem_of_getElem? (i := 5) rfl))) (mvT hZ (hw _ (List.mem_of_getElem? (i := 6) rfl))) (by decide) (backOf (W := 0) (rm1_3 l Z a0 hw [] u_VALUES kV u_COMMIT u_HEURISTIC_MIXED u_HEURISTIC_ROLLBACK u_DONE u_FORGOTTEN h0 n0 Z0 S_u_VALUES Va Ev F_u_COMMIT_code F_u_HEURISTIC_MIXED_code F_u_HEURISTIC_ROLLBACK_code F_u_DONE_code F_u_FORGOTTEN_code) hZ (hw _ (List.mem_of_getElem? (i := 6) rfl)) (hw _ (List.mem_of_getElem? (i := 5) rfl)) (by decide) (by decide)) (g := (mkF m 38 #[.val (.int x0), .val (.int (0 : Int32)), .val (.ref u_ROLLBACK), .val (.int (3 : Int32)), .unset, .unset] [(.int (3 : Int32))])) rfl (by rw [hml]; rfl) (argsL := [(.int (3 : Int32))]) (rest := []) (lenOf pd__B_Lcom_example_wary_commit_warycommit_DecisionLogFormat_Type_ rfl) rfl (by show 2 * 0 + _ ≤ _; exact Nat.le_of_eq rfl) (hb hby at_38) (fun _ _ => ⟨rfl, e2, (by decide : 0 + 1 ≤ _), (by decide : 0 + 5 ≤ _)⟩)
    dsimp only [Pt.U, Pt.locs, Pt.cells, Pt.slots] at X3 l3 y3 z3 st3 hQ3
    subst l3 y3 z3
    obtain ⟨rfl, Nq3, K3⟩ := hQ3
    have Z3 := Nat.le_trans Z0 K3.1
    have N3 := Fr.app N0 Nq3
    refine go st3 ?_
    show G (T3.setTop (mkF m 41 #[.val (.int x0), .val (.int (0 : Int32)), .val (.ref u_ROLLBACK), .val (.int (3 : Int32)), .unset, .unset] [(.ref u_HEURISTIC_ROLLBACK)]))
    refine go (fun tg kg => XS.astore X3.here hx rfl (hb hby at_41) rfl rfl (l' := #[.val (.int x0), .val (.int (0 : Int32)), .val (.ref u_ROLLBACK), .val (.int (3 : Int32)), .val (.ref u_HEURISTIC_ROLLBACK), .unset]) rfl kg) ?_
    show G (T3.setTop (mkF m 43 #[.val (.int x0), .val (.int (0 : Int32)), .val (.ref u_ROLLBACK), .val (.int (3 : Int32)), .val (.ref u_HEURISTIC_ROLLBACK), .unset] []))
    refine go (fun tg kg => XS.aloadN X3.here hx rfl (hb hby at_43) rfl rfl kg) ?_
    show G (T3.setTop (mkF m 44 #[.val (.int x0), .val (.int (0 : Int32)), .val (.ref u_ROLLBACK), .val (.int (3 : Int32)), .val (.ref u_HEURISTIC_ROLLBACK), .unset] [(.ref u_ROLLBACK)]))
    have Fa5 := (own_sta_keep S_u_MIXED K3 all0)
    have Fa6 := (own_sta_keep S_u_HEURISTIC_MIXED K3 all0)
    have Fa7 := (own_sta_keep S_u_HEURISTIC_ROLLBACK K3 all0)
    obtain ⟨_, _, ⟨T4, L4, k4, n4⟩, -, X4, ⟨Lc4, hQ4, l4, y4, z4⟩, st4⟩ := Jvm.LawKit.callS X3 hx (y := (⟨"com/example/wary_commit/warycommit/DecisionLogFormat$Type", "of", "(Lcom/example/wary_commit/warycommit/DecisionLogFormat$Heuristic;)Lcom/example/wary_commit/warycommit/DecisionLogFormat$Type;"⟩ : MethodName)) hown (mvT hZ (hw _ (List.mem_of_getElem? (i := 29) rfl))) (mvT hZ (hw _ (List.mem_of_getElem? (i := 30) rfl))) (mvT hZ (hw _ (List.mem_of_getElem? (i := 5) rfl))) (mvT hZ (hw _ (List.mem_of_getElem? (i := 31) rfl))) (by decide) (backOf (W := 0) (rm3 l Z a0 hw [] u_ROLLBACK u_MIXED u_HEURISTIC_MIXED u_HEURISTIC_ROLLBACK T3.heap n0 Z3 Fa5 Fa6 Fa7) hZ (hw _ (List.mem_of_getElem? (i := 31) rfl)) (hw _ (List.mem_of_getElem? (i := 5) rfl)) (by decide) (by decide)) (g := (mkF m 44 #[.val (.int x0), .val (.int (0 : Int32)), .val (.ref u_ROLLBACK), .val (.int (3 : Int32)), .val (.ref u_HEURISTIC_ROLLBACK), .unset] [(.ref u_ROLLBACK)])) rfl (by rw [hml]; rfl) (argsL := [(.ref u_ROLLBACK)]) (rest := []) (lenOf pd__Lcom_example_wary_commit_warycommit_DecisionLogFormat_Heuristic__Lcom_example_wary_commit_warycommit_DecisionLogFormat_Type_ rfl) rfl (by show 2 * 0 + _ ≤ _; exact Nat.le_of_eq rfl) (hb hby at_44) (fun _ _ => ⟨rfl, rfl, (by decide : 1 + 0 ≤ _), (by decide : 5 + 0 ≤ _)⟩)
    dsimp only [Pt.U, Pt.locs, Pt.cells, Pt.slots] at X4 l4 y4 z4 st4 hQ4
    subst l4 y4 z4
    obtain ⟨rfl, Nq4, e4⟩ := hQ4
    rw [own_f0 hne] at st4
    have N4 := Fr.app N3 Nq4
    refine go st4 ?_
    show G (T4.setTop (mkF m 47 #[.val (.int x0), .val (.int (0 : Int32)), .val (.ref u_ROLLBACK), .val (.int (3 : Int32)), .val (.ref u_HEURISTIC_ROLLBACK), .unset] [(.ref u_HEURISTIC_ROLLBACK)]))
    refine go (fun tg kg => XS.astore X4.here hx rfl (hb hby at_47) rfl rfl (l' := #[.val (.int x0), .val (.int (0 : Int32)), .val (.ref u_ROLLBACK), .val (.int (3 : Int32)), .val (.ref u_HEURISTIC_ROLLBACK), .val (.ref u_HEURISTIC_ROLLBACK)]) rfl kg) ?_
    show G (T4.setTop (mkF m 49 #[.val (.int x0), .val (.int (0 : Int32)), .val (.ref u_ROLLBACK), .val (.int (3 : Int32)), .val (.ref u_HEURISTIC_ROLLBACK), .val (.ref u_HEURISTIC_ROLLBACK)] []))
    refine go (fun tg kg => XS.aload X4.here hx rfl (hb hby at_49) rfl rfl kg) ?_
    show G (T4.setTop (mkF m 51 #[.val (.int x0), .val (.int (0 : Int32)), .val (.ref u_ROLLBACK), .val (.int (3 : Int32)), .val (.ref u_HEURISTIC_ROLLBACK), .val (.ref u_HEURISTIC_ROLLBACK)] [(.ref u_HEURISTIC_ROLLBACK)]))
    refine go (fun tg kg => XS.ifnullNo X4.here hx rfl (hb hby at_51) rfl kg) ?_
    show G (T4.setTop (mkF m 54 #[.val (.int x0), .val (.int (0 : Int32)), .val (.ref u_ROLLBACK), .val (.int (3 : Int32)), .val (.ref u_HEURISTIC_ROLLBACK), .val (.ref u_HEURISTIC_ROLLBACK)] []))
    refine go (fun tg kg => XS.aload X4.here hx rfl (hb hby at_54) rfl rfl kg) ?_
    show G (T4.setTop (mkF m 56 #[.val (.int x0), .val (.int (0 : Int32)), .val (.ref u_ROLLBACK), .val (.int (3 : Int32)), .val (.ref u_HEURISTIC_ROLLBACK), .val (.ref u_HEURISTIC_ROLLBACK)] [(.ref u_HEURISTIC_ROLLBACK)]))
    refine go (fun tg kg => XS.aload X4.here hx rfl (hb hby at_56) rfl rfl kg) ?_
    show G (T4.setTop (mkF m 58 #[.val (.int x0), .val (.int (0 : Int32)), .val (.ref u_ROLLBACK), .val (.int (3 : Int32)), .val (.ref u_HEURISTIC_ROLLBACK), .val (.ref u_HEURISTIC_ROLLBACK)] [(.ref u_HEURISTIC_ROLLBACK), (.ref u_HEURISTIC_ROLLBACK)]))
    refine go (fun tg kg => Jvm.RoadKit.acmp (g := (mkF m 58 #[.val (.int x0), .val (.int (0 : Int32)), .val (.ref u_ROLLBACK), .val (.int (3 : Int32)), .val (.ref u_HEURISTIC_ROLLBACK), .val (.ref u_HEURISTIC_ROLLBACK)] [(.ref u_HEURISTIC_ROLLBACK), (.ref u_HEURISTIC_ROLLBACK)])) X4 hx rfl rfl rfl (pc0 := 58) (pc' := 61) (same := true) rfl (hb hby at_58) rfl (decide_eq_true rfl) (by decide) (by decide) kg) ?_
    show G (T4.setTop (mkF m 61 #[.val (.int x0), .val (.int (0 : Int32)), .val (.ref u_ROLLBACK), .val (.int (3 : Int32)), .val (.ref u_HEURISTIC_ROLLBACK), .val (.ref u_HEURISTIC_ROLLBACK)] []))
    refine go (fun tg kg => XS.iconst X4.here hx rfl (hb hby at_61) kg) ?_
    show G (T4.setTop (mkF m 62 #[.val (.int x0), .val (.int (0 : Int32)), .val (.ref u_ROLLBACK), .val (.int (3 : Int32)), .val (.ref u_HEURISTIC_ROLLBACK), .val (.ref u_HEURISTIC_ROLLBACK)] [(.int (1 : Int32))]))
    refine go (fun tg kg => XS.goto X4.here hx rfl (pc0 := 62) (pc' := 66) rfl (hb hby at_62) (by decide) (by decide) kg) ?_
    show G (T4.setTop (mkF m 66 #[.val (.int x0), .val (.int (0 : Int32)), .val (.ref u_ROLLBACK), .val (.int (3 : Int32)), .val (.ref u_HEURISTIC_ROLLBACK), .val (.ref u_HEURISTIC_ROLLBACK)] [(.int (1 : Int32))]))
    refine fin (some (.int (1 : Int32))) X4 (fun h => absurd h (by decide)) (fun fs hr => retN X4 hx (t := .boolean) hret (by simp) (hb hby at_66) hr) (by decide) (by decide) ?_
    rw [e4]
    exact ⟨rfl, N4⟩
  · refine go (fun tg kg => XS.ifNo X0.here hx rfl (hb hby at_3) rfl ((if0 _ _).trans (feq hc1).1) kg) ?_
    show G (s₁.setTop (mkF m 6 #[.val (.int x0), .unset, .unset, .unset, .unset, .unset] []))
    refine go (fun tg kg => XS.iconst X0.here hx rfl (hb hby at_6) kg) ?_
    show G (s₁.setTop (mkF m 7 #[.val (.int x0), .unset, .unset, .unset, .unset, .unset] [(.int (1 : Int32))]))
    refine go (fun tg kg => XS.goto X0.here hx rfl (pc0 := 7) (pc' := 11) rfl (hb hby at_7) (by decide) (by decide) kg) ?_
    show G (s₁.setTop (mkF m 11 #[.val (.int x0), .unset, .unset, .unset, .unset, .unset] [(.int (1 : Int32))]))
    refine go (fun tg kg => XS.istoreN X0.here hx rfl (hb hby at_11) rfl (l' := #[.val (.int x0), .val (.int (1 : Int32)), .unset, .unset, .unset, .unset]) rfl kg) ?_
    show G (s₁.setTop (mkF m 12 #[.val (.int x0), .val (.int (1 : Int32)), .unset, .unset, .unset, .unset] []))
    refine go (fun tg kg => XS.iloadN X0.here hx rfl (hb hby at_12) rfl kg) ?_
    show G (s₁.setTop (mkF m 13 #[.val (.int x0), .val (.int (1 : Int32)), .unset, .unset, .unset, .unset] [(.int (1 : Int32))]))
    refine go (fun tg kg => XS.ifNo X0.here hx rfl (hb hby at_13) rfl ((if0 _ _).trans (feq (by decide)).1) kg) ?_
    show G (s₁.setTop (mkF m 16 #[.val (.int x0), .val (.int (1 : Int32)), .unset, .unset, .unset, .unset] []))
    obtain ⟨T8, X8, e8, st8⟩ := getS2 X0 hx hZ hown (host := "") (Or.inl (hw _ (List.mem_of_getElem? (i := 35) rfl))) Via.refl e0 S_u_MIXED (g := (mkF m 16 #[.val (.int x0), .val (.int (1 : Int32)), .unset, .unset, .unset, .unset] [])) rfl (hb hby at_16)
    refine go st8 ?_
    show G (T8.setTop (mkF m 19 #[.val (.int x0), .val (.int (1 : Int32)), .unset, .unset, .unset, .unset] [(.ref u_MIXED)]))
    refine go (fun tg kg => XS.goto X8.here hx rfl (pc0 := 19) (pc' := 25) rfl (hb hby at_19) (by decide) (by decide) kg) ?_
    show G (T8.setTop (mkF m 25 #[.val (.int x0), .val (.int (1 : Int32)), .unset, .unset, .unset, .unset] [(.ref u_MIXED)]))
    refine go (fun tg kg => XS.astoreN X8.here hx rfl (hb hby at_25) rfl rfl (l' := #[.val (.int x0), .val (.int (1 : Int32)), .val (.ref u_MIXED), .unset, .unset, .unset]) rfl kg) ?_
    show G (T8.setTop (mkF m 26 #[.val (.int x0), .val (.int (1 : Int32)), .val (.ref u_MIXED), .unset, .unset, .unset] []))
    refine go (fun tg kg => XS.iloadN X8.here hx rfl (hb hby at_26) rfl kg) ?_
    show G (T8.setTop (mkF m 27 #[.val (.int x0), .val (.int (1 : Int32)), .val (.ref u_MIXED), .unset, .unset, .unset] [(.int (1 : Int32))]))
    refine go (fun tg kg => XS.ifNo X8.here hx rfl (hb hby at_27) rfl ((if0 _ _).trans (feq (by decide)).1) kg) ?_
    show G (T8.setTop (mkF m 30 #[.val (.int x0), .val (.int (1 : Int32)), .val (.ref u_MIXED), .unset, .unset, .unset] []))
    refine go (fun tg kg => XS.iconst X8.here hx rfl (hb hby at_30) kg) ?_
    show G (T8.setTop (mkF m 31 #[.val (.int x0), .val (.int (1 : Int32)), .val (.ref u_MIXED), .unset, .unset, .unset] [(.int (2 : Int32))]))
    refine go (fun tg kg => XS.goto X8.here hx rfl (pc0 := 31) (pc' := 35) rfl (hb hby at_31) (by decide) (by decide) kg) ?_
    show G (T8.setTop (mkF m 35 #[.val (.int x0), .val (.int (1 : Int32)), .val (.ref u_MIXED), .unset, .unset, .unset] [(.int (2 : Int32))]))
    refine go (fun tg kg => XS.istoreN X8.here hx rfl (hb hby at_35) rfl (l' := #[.val (.int x0), .val (.int (1 : Int32)), .val (.ref u_MIXED), .val (.int (2 : Int32)), .unset, .unset]) rfl kg) ?_
    show G (T8.setTop (mkF m 36 #[.val (.int x0), .val (.int (1 : Int32)), .val (.ref u_MIXED), .val (.int (2 : Int32)), .unset, .unset] []))
    refine go (fun tg kg => XS.iloadN X8.here hx rfl (hb hby at_36) rfl kg) ?_
    show G (T8.setTop (mkF m 37 #[.val (.int x0), .val (.int (1 : Int32)), .val (.ref u_MIXED), .val (.int (2 : Int32)), .unset, .unset] [(.int (2 : Int32))]))
    refine go (fun tg kg => XS.i2b X8.here hx rfl (hb hby at_37) rfl kg) ?_
    show G (T8.setTop (mkF m 38 #[.val (.int x0), .val (.int (1 : Int32)), .val (.ref u_MIXED), .val (.int (2 : Int32)), .unset, .unset] [(.int (2 : Int32))]))
    obtain ⟨_, _, ⟨T9, L9, k9, n9⟩, -, X9, ⟨Lc9, hQ9, l9, y9, z9⟩, st9⟩ := Jvm.LawKit.callS X8 hx (y := (⟨"com/example/wary_commit/warycommit/DecisionLogFormat$Type", "of", "(B)Lcom/example/wary_commit/warycommit/DecisionLogFormat$Type;"⟩ : MethodName)) hown (mvT hZ (hw _ (List.mem_of_getElem? (i := 3) rfl))) (mvT hZ (hw _ (List.mem_of_getElem? (i := 4) rfl))) (mvT hZ (hw _ (List.mem_of_getElem? (i := 5) rfl))) (mvT hZ (hw _ (List.mem_of_getElem? (i := 6) rfl))) (by decide) (backOf (W := 0) (rm1_2 l Z a0 hw [] u_VALUES kV u_COMMIT u_HEURISTIC_MIXED u_HEURISTIC_ROLLBACK u_DONE u_FORGOTTEN h0 n0 Z0 S_u_VALUES Va Ev F_u_COMMIT_code F_u_HEURISTIC_MIXED_code F_u_HEURISTIC_ROLLBACK_code F_u_DONE_code F_u_FORGOTTEN_code) hZ (hw _ (List.mem_of_getElem? (i := 6) rfl)) (hw _ (List.mem_of_getElem? (i := 5) rfl)) (by decide) (by decide)) (g := (mkF m 38 #[.val (.int x0), .val (.int (1 : Int32)), .val (.ref u_MIXED), .val (.int (2 : Int32)), .unset, .unset] [(.int (2 : Int32))])) rfl (by rw [hml]; rfl) (argsL := [(.int (2 : Int32))]) (rest := []) (lenOf pd__B_Lcom_example_wary_commit_warycommit_DecisionLogFormat_Type_ rfl) rfl (by show 2 * 0 + _ ≤ _; exact Nat.le_of_eq rfl) (hb hby at_38) (fun _ _ => ⟨rfl, e8, (by decide : 0 + 1 ≤ _), (by decide : 0 + 5 ≤ _)⟩)
    dsimp only [Pt.U, Pt.locs, Pt.cells, Pt.slots] at X9 l9 y9 z9 st9 hQ9
    subst l9 y9 z9
    obtain ⟨rfl, Nq9, K9⟩ := hQ9
    have Z9 := Nat.le_trans Z0 K9.1
    have N9 := Fr.app N0 Nq9
    refine go st9 ?_
    show G (T9.setTop (mkF m 41 #[.val (.int x0), .val (.int (1 : Int32)), .val (.ref u_MIXED), .val (.int (2 : Int32)), .unset, .unset] [(.ref u_HEURISTIC_MIXED)]))
    refine go (fun tg kg => XS.astore X9.here hx rfl (hb hby at_41) rfl rfl (l' := #[.val (.int x0), .val (.int (1 : Int32)), .val (.ref u_MIXED), .val (.int (2 : Int32)), .val (.ref u_HEURISTIC_MIXED), .unset]) rfl kg) ?_
    show G (T9.setTop (mkF m 43 #[.val (.int x0), .val (.int (1 : Int32)), .val (.ref u_MIXED), .val (.int (2 : Int32)), .val (.ref u_HEURISTIC_MIXED), .unset] []))
    refine go (fun tg kg => XS.aloadN X9.here hx rfl (hb hby at_43) rfl rfl kg) ?_
    show G (T9.setTop (mkF m 44 #[.val (.int x0), .val (.int (1 : Int32)), .val (.ref u_MIXED), .val (.int (2 : Int32)), .val (.ref u_HEURISTIC_MIXED), .unset] [(.ref u_MIXED)]))
    have Fa11 := (own_sta_keep S_u_MIXED K9 all0)
    have Fa12 := (own_sta_keep S_u_HEURISTIC_MIXED K9 all0)
    have Fa13 := (own_sta_keep S_u_HEURISTIC_ROLLBACK K9 all0)
    obtain ⟨_, _, ⟨T10, L10, k10, n10⟩, -, X10, ⟨Lc10, hQ10, l10, y10, z10⟩, st10⟩ := Jvm.LawKit.callS X9 hx (y := (⟨"com/example/wary_commit/warycommit/DecisionLogFormat$Type", "of", "(Lcom/example/wary_commit/warycommit/DecisionLogFormat$Heuristic;)Lcom/example/wary_commit/warycommit/DecisionLogFormat$Type;"⟩ : MethodName)) hown (mvT hZ (hw _ (List.mem_of_getElem? (i := 29) rfl))) (mvT hZ (hw _ (List.mem_of_getElem? (i := 30) rfl))) (mvT hZ (hw _ (List.mem_of_getElem? (i := 5) rfl))) (mvT hZ (hw _ (List.mem_of_getElem? (i := 31) rfl))) (by decide) (backOf (W := 0) (rm3 l Z a0 hw [] u_MIXED u_MIXED u_HEURISTIC_MIXED u_HEURISTIC_ROLLBACK T9.heap n0 Z9 Fa11 Fa12 Fa13) hZ (hw _ (List.mem_of_getElem? (i := 31) rfl)) (hw _ (List.mem_of_getElem? (i := 5) rfl)) (by decide) (by decide)) (g := (mkF m 44 #[.val (.int x0), .val (.int (1 : Int32)), .val (.ref u_MIXED), .val (.int (2 : Int32)), .val (.ref u_HEURISTIC_MIXED), .unset] [(.ref u_MIXED)])) rfl (by rw [hml]; rfl) (argsL := [(.ref u_MIXED)]) (rest := []) (lenOf pd__Lcom_example_wary_commit_warycommit_DecisionLogFormat_Heuristic__Lcom_example_wary_commit_warycommit_DecisionLogFormat_Type_ rfl) rfl (by show 2 * 0 + _ ≤ _; exact Nat.le_of_eq rfl) (hb hby at_44) (fun _ _ => ⟨rfl, rfl, (by decide : 1 + 0 ≤ _), (by decide : 5 + 0 ≤ _)⟩)
    dsimp only [Pt.U, Pt.locs, Pt.cells, Pt.slots] at X10 l10 y10 z10 st10 hQ10
    subst l10 y10 z10
    obtain ⟨rfl, Nq10, e10⟩ := hQ10
    rw [own_f1] at st10
    have N10 := Fr.app N9 Nq10
    refine go st10 ?_
    show G (T10.setTop (mkF m 47 #[.val (.int x0), .val (.int (1 : Int32)), .val (.ref u_MIXED), .val (.int (2 : Int32)), .val (.ref u_HEURISTIC_MIXED), .unset] [(.ref u_HEURISTIC_MIXED)]))
    refine go (fun tg kg => XS.astore X10.here hx rfl (hb hby at_47) rfl rfl (l' := #[.val (.int x0), .val (.int (1 : Int32)), .val (.ref u_MIXED), .val (.int (2 : Int32)), .val (.ref u_HEURISTIC_MIXED), .val (.ref u_HEURISTIC_MIXED)]) rfl kg) ?_
    show G (T10.setTop (mkF m 49 #[.val (.int x0), .val (.int (1 : Int32)), .val (.ref u_MIXED), .val (.int (2 : Int32)), .val (.ref u_HEURISTIC_MIXED), .val (.ref u_HEURISTIC_MIXED)] []))
    refine go (fun tg kg => XS.aload X10.here hx rfl (hb hby at_49) rfl rfl kg) ?_
    show G (T10.setTop (mkF m 51 #[.val (.int x0), .val (.int (1 : Int32)), .val (.ref u_MIXED), .val (.int (2 : Int32)), .val (.ref u_HEURISTIC_MIXED), .val (.ref u_HEURISTIC_MIXED)] [(.ref u_HEURISTIC_MIXED)]))
    refine go (fun tg kg => XS.ifnullNo X10.here hx rfl (hb hby at_51) rfl kg) ?_
    show G (T10.setTop (mkF m 54 #[.val (.int x0), .val (.int (1 : Int32)), .val (.ref u_MIXED), .val (.int (2 : Int32)), .val (.ref u_HEURISTIC_MIXED), .val (.ref u_HEURISTIC_MIXED)] []))
    refine go (fun tg kg => XS.aload X10.here hx rfl (hb hby at_54) rfl rfl kg) ?_
    show G (T10.setTop (mkF m 56 #[.val (.int x0), .val (.int (1 : Int32)), .val (.ref u_MIXED), .val (.int (2 : Int32)), .val (.ref u_HEURISTIC_MIXED), .val (.ref u_HEURISTIC_MIXED)] [(.ref u_HEURISTIC_MIXED)]))
    refine go (fun tg kg => XS.aload X10.here hx rfl (hb hby at_56) rfl rfl kg) ?_
    show G (T10.setTop (mkF m 58 #[.val (.int x0), .val (.int (1 : Int32)), .val (.ref u_MIXED), .val (.int (2 : Int32)), .val (.ref u_HEURISTIC_MIXED), .val (.ref u_HEURISTIC_MIXED)] [(.ref u_HEURISTIC_MIXED), (.ref u_HEURISTIC_MIXED)]))
    refine go (fun tg kg => Jvm.RoadKit.acmp (g := (mkF m 58 #[.val (.int x0), .val (.int (1 : Int32)), .val (.ref u_MIXED), .val (.int (2 : Int32)), .val (.ref u_HEURISTIC_MIXED), .val (.ref u_HEURISTIC_MIXED)] [(.ref u_HEURISTIC_MIXED), (.ref u_HEURISTIC_MIXED)])) X10 hx rfl rfl rfl (pc0 := 58) (pc' := 61) (same := true) rfl (hb hby at_58) rfl (decide_eq_true rfl) (by decide) (by decide) kg) ?_
    show G (T10.setTop (mkF m 61 #[.val (.int x0), .val (.int (1 : Int32)), .val (.ref u_MIXED), .val (.int (2 : Int32)), .val (.ref u_HEURISTIC_MIXED), .val (.ref u_HEURISTIC_MIXED)] []))
    refine go (fun tg kg => XS.iconst X10.here hx rfl (hb hby at_61) kg) ?_
    show G (T10.setTop (mkF m 62 #[.val (.int x0), .val (.int (1 : Int32)), .val (.ref u_MIXED), .val (.int (2 : Int32)), .val (.ref u_HEURISTIC_MIXED), .val (.ref u_HEURISTIC_MIXED)] [(.int (1 : Int32))]))
    refine go (fun tg kg => XS.goto X10.here hx rfl (pc0 := 62) (pc' := 66) rfl (hb hby at_62) (by decide) (by decide) kg) ?_
    show G (T10.setTop (mkF m 66 #[.val (.int x0), .val (.int (1 : Int32)), .val (.ref u_MIXED), .val (.int (2 : Int32)), .val (.ref u_HEURISTIC_MIXED), .val (.ref u_HEURISTIC_MIXED)] [(.int (1 : Int32))]))
    refine fin (some (.int (1 : Int32))) X10 (fun h => absurd h (by decide)) (fun fs hr => retN X10 hx (t := .boolean) hret (by simp) (hb hby at_66) hr) (by decide) (by decide) ?_
    rw [e10]
    exact ⟨rfl, N10⟩
set_option maxRecDepth 65536 in
set_option maxHeartbeats 40000000 in
theorem comes_1 {Post : Tables → Env → Array Value → State → Outcome → State → Prop} (hpost : ∀ tb e args s v u, (limb_1_1.after args s (.returned v) u = true ∧ limb_1_2.after args s (.returned v) u = true ∧ True) → FrameEnd s (.returned v) u (Jvm.fieldLocs frame_1_writes args s ++ Jvm.arrayLocs frame_1_arrays args s ++ Jvm.staticLocs frame_1_statics s) 16 128 → Post tb e args s (.returned v) u) :
    ArmFor flags0 classFile x code maxLocals ret World_1 tables_1 room_1 Calls_1 rest_1 Pre_1 Post := by
  intro l hfl _ _ p e ha hc hk s m args below hf hA hF happ hP
  obtain ⟨hcalls, hrest, hpre⟩ := hP
  obtain ⟨-, -, -, hnamed, -, -, -, hat⟩ := (Spec.applies_iff hf).mp happ
  obtain ⟨hg, hn⟩ := and_e (Cond.before_iff.mp (show (Jvm.Cond.and given_1 narrow_1).before args s = true from hpre))
  obtain ⟨gc, gr0⟩ := and_e hg
  have ga0 := gr0
  obtain ⟨w0, rfl⟩ : ∃ w0 : Value, args = #[w0] := by
    have hs : args.size = 1 := by simpa [Cond.value, given_1] using gc
    obtain ⟨L⟩ := args
    match L, hs with
    | [w0], _ => exact ⟨w0, rfl⟩
  have hw := fun d (hd : d ∈ tables_1) => atoms_spec (ws := Jvm.Cond.code x code maxLocals ret :: tables_1) hat d (List.mem_cons_of_mem _ hd)
  have hfit : Fit s := fun {y c} hc i hi => by
    obtain ⟨ha, rfl⟩ := Array.getElem?_eq_some_iff.mp hc
    have q := List.all_eq_true.mp ((Array.all_eq_true_iff_forall_mem.mp hF) _ (Array.getElem_mem ha)) i (List.mem_range.mpr hi)
    simpa [Array.getElem?_eq_getElem hi] using q
  obtain ⟨i0, ei0⟩ := is_v ga0
  obtain rfl : w0 = (.int i0) := Option.some.inj ei0
  obtain ⟨nl1, nr1⟩ := and_e hn
  obtain ⟨nl2, nr2⟩ := and_e nr1
  obtain ⟨nl3, nr3⟩ := and_e nr2
  obtain ⟨nl4, nr4⟩ := and_e nr3
  obtain ⟨nl5, nr5⟩ := and_e nr4
  obtain ⟨nl6, nr6⟩ := and_e nr5
  obtain ⟨nl7, nr7⟩ := and_e nr6
  obtain ⟨nl8, nr8⟩ := and_e nr7
  obtain ⟨nl9, nr9⟩ := and_e nr8
  obtain ⟨nl10, nr10⟩ := and_e nr9
  obtain ⟨nl11, nr11⟩ := and_e nr10
  obtain ⟨nl12, nr12⟩ := and_e nr11
  obtain ⟨nl13, nr13⟩ := and_e nr12
  obtain ⟨nl14, nr14⟩ := and_e nr13
  obtain ⟨nl15, nr15⟩ := and_e nr14
  obtain ⟨nl16, nr16⟩ := and_e nr15
  obtain ⟨nl17, nr17⟩ := and_e nr16
  obtain ⟨nl18, nr18⟩ := and_e nr17
  obtain ⟨nl19, nr19⟩ := and_e nr18
  obtain ⟨nl20, nr20⟩ := and_e nr19
  obtain ⟨nl21, nr21⟩ := and_e nr20
  obtain ⟨u_ROLLBACK, ev_u_ROLLBACK⟩ := exa_v nl1
  have S_u_ROLLBACK := Sta.start ev_u_ROLLBACK (Or.inr ⟨(hw _ (List.mem_of_getElem? (i := 1) rfl)), (hw _ (List.mem_of_getElem? (i := 2) rfl))⟩)
  have E_u_ROLLBACK := Exa.start ev_u_ROLLBACK nl1
  obtain ⟨u_VALUES, ev_u_VALUES⟩ := exa_v nl3
  have S_u_VALUES := Sta.start ev_u_VALUES (Or.inr ⟨(hw _ (List.mem_of_getElem? (i := 5) rfl)), (hw _ (List.mem_of_getElem? (i := 11) rfl))⟩)
  have E_u_VALUES := Exa.start ev_u_VALUES nl3
  obtain ⟨u_COMMIT, ev_u_COMMIT⟩ := exa_v nl5
  have S_u_COMMIT := Sta.start ev_u_COMMIT (Or.inr ⟨(hw _ (List.mem_of_getElem? (i := 5) rfl)), (hw _ (List.mem_of_getElem? (i := 19) rfl))⟩)
  have E_u_COMMIT := Exa.start ev_u_COMMIT nl5
  obtain ⟨u_HEURISTIC_MIXED, ev_u_HEURISTIC_MIXED⟩ := exa_v nl7
  have S_u_HEURISTIC_MIXED := Sta.start ev_u_HEURISTIC_MIXED (Or.inr ⟨(hw _ (List.mem_of_getElem? (i := 5) rfl)), (hw _ (List.mem_of_getElem? (i := 20) rfl))⟩)
  have E_u_HEURISTIC_MIXED := Exa.start ev_u_HEURISTIC_MIXED nl7
  obtain ⟨u_HEURISTIC_ROLLBACK, ev_u_HEURISTIC_ROLLBACK⟩ := exa_v nl9
  have S_u_HEURISTIC_ROLLBACK := Sta.start ev_u_HEURISTIC_ROLLBACK (Or.inr ⟨(hw _ (List.mem_of_getElem? (i := 5) rfl)), (hw _ (List.mem_of_getElem? (i := 21) rfl))⟩)
  have E_u_HEURISTIC_ROLLBACK := Exa.start ev_u_HEURISTIC_ROLLBACK nl9
  obtain ⟨u_DONE, ev_u_DONE⟩ := exa_v nl11
  have S_u_DONE := Sta.start ev_u_DONE (Or.inr ⟨(hw _ (List.mem_of_getElem? (i := 5) rfl)), (hw _ (List.mem_of_getElem? (i := 22) rfl))⟩)
  have E_u_DONE := Exa.start ev_u_DONE nl11
  obtain ⟨u_FORGOTTEN, ev_u_FORGOTTEN⟩ := exa_v nl13
  have S_u_FORGOTTEN := Sta.start ev_u_FORGOTTEN (Or.inr ⟨(hw _ (List.mem_of_getElem? (i := 5) rfl)), (hw _ (List.mem_of_getElem? (i := 23) rfl))⟩)
  have E_u_FORGOTTEN := Exa.start ev_u_FORGOTTEN nl13
  obtain ⟨u_MIXED, ev_u_MIXED⟩ := exa_v nl18
  have S_u_MIXED := Sta.start ev_u_MIXED (Or.inr ⟨(hw _ (List.mem_of_getElem? (i := 1) rfl)), (hw _ (List.mem_of_getElem? (i := 33) rfl))⟩)
  have E_u_MIXED := Exa.start ev_u_MIXED nl18
  have F_u_COMMIT_code := Fld.start ((fld_at ev_u_COMMIT).symm.trans (own_eq_int nl15))
  have F_u_HEURISTIC_MIXED_code := Fld.start ((fld_at ev_u_HEURISTIC_MIXED).symm.trans (own_eq_int nl16))
  have F_u_HEURISTIC_ROLLBACK_code := Fld.start ((fld_at ev_u_HEURISTIC_ROLLBACK).symm.trans (own_eq_int nl17))
  have F_u_ROLLBACK_ordinal := Fld.start ((fld_at ev_u_ROLLBACK).symm.trans (own_eq_int nl19))
  have F_u_MIXED_ordinal := Fld.start ((fld_at ev_u_MIXED).symm.trans (own_eq_int nl20))
  have F_u_DONE_code := Fld.start ((fld_at ev_u_DONE).symm.trans (own_eq_int nl21))
  have F_u_FORGOTTEN_code := Fld.start ((fld_at ev_u_FORGOTTEN).symm.trans (own_eq_int nr21))
  obtain ⟨clV, AV⟩ := Arr.start ev_u_VALUES nl2
  have LV := own_len ev_u_VALUES AV (own_eq_int nl4)
  have Va : Arv s s.heap u_VALUES clV.cls (.object "com/example/wary_commit/warycommit/DecisionLogFormat$Type") (5 : Int32) [(.ref u_COMMIT), (.ref u_HEURISTIC_MIXED), (.ref u_HEURISTIC_ROLLBACK), (.ref u_DONE), (.ref u_FORGOTTEN)] .null := Arv.start hfit AV LV.1 LV.2 (by decide) rfl ⟨own_elem ev_u_VALUES AV (own_eq_ref nl6 ev_u_COMMIT) (by decide), own_elem ev_u_VALUES AV (own_eq_ref nl8 ev_u_HEURISTIC_MIXED) (by decide), own_elem ev_u_VALUES AV (own_eq_ref nl10 ev_u_HEURISTIC_ROLLBACK) (by decide), own_elem ev_u_VALUES AV (own_eq_ref nl12 ev_u_DONE) (by decide), own_elem ev_u_VALUES AV (own_eq_ref nl14 ev_u_FORGOTTEN) (by decide), trivial⟩
  obtain ⟨n, o, h1, h2, h3, _, L, rfl, ⟨rfl, N⟩, hq⟩ := rm0 l s _ hw tables_1 i0 u_VALUES clV.cls u_COMMIT u_HEURISTIC_MIXED u_HEURISTIC_ROLLBACK u_DONE u_FORGOTTEN u_MIXED u_ROLLBACK s.heap s.heap.size (Nat.le_refl _) S_u_VALUES Va E_u_VALUES F_u_COMMIT_code F_u_HEURISTIC_MIXED_code F_u_HEURISTIC_ROLLBACK_code F_u_DONE_code F_u_FORGOTTEN_code S_u_MIXED S_u_ROLLBACK S_u_HEURISTIC_MIXED S_u_HEURISTIC_ROLLBACK (F_u_ROLLBACK_ordinal.ne F_u_MIXED_ordinal (by decide)) p e ha hc hk s m _ below hf ((Spec.applies_iff_loose hf).mp happ).1 ⟨rfl, State.Warmed39.refl s, rfl⟩ trivial
  refine ⟨n, _, h1, h2, h3, hpost _ _ _ _ _ _ ⟨Cond.after_iff.mpr rfl, Cond.after_iff.mpr (eq_i res_at (Term.int_eval (1)) rfl), trivial⟩ ⟨hq.1, hq.2.1, (hq.2.2.sift fun y hy => Or.inr (N y hy)).mono (by decide) (by decide)⟩⟩
theorem main_1_1 : Claimed_1_1 := comes_1 fun _ _ _ _ _ _ h hF => ⟨h.1, hF⟩
theorem main_1_2 : Claimed_1_2 := comes_1 fun _ _ _ _ _ _ h hF => ⟨h.2.1, hF⟩
end Jvm.Pilot.@@N@@
namespace Jvm.Pilot.@@N@@
open Jvm Jvm.ClassFile Sem Op Lib Jvm.Free Jvm.Stand Jvm.Pilot.@@N@@.Jvm.D
/-! MADE BY PROGRAM (witnessworld.py) out of the Statement's table words and the real class files: 14 classes; the members and pool entries that the words name. The judged class is class 1, her method 1. -/
namespace start1
open Jvm.ClassFile
def u (s : String) : CpInfo := .utf8 (stringToUtf16 s)
/-- a pool by its gaps: so many unusable entries, then the entry; so many at the end -/
def gap : Nat → List CpInfo → List CpInfo
  | 0, r => r
  | n + 1, r => .unusable :: gap n r
def poolList (es : List (Nat × CpInfo)) (last : Nat) : List CpInfo := es.foldr (fun e r => gap e.1 (e.2 :: r)) (gap last [])
def pool (es : List (Nat × CpInfo)) (last : Nat) : Array CpInfo := ⟨poolList es last⟩
def fileOf (pool : Array CpInfo) (this : Nat) (attrs : Array Attribute := #[]) (ms : Array MethodInfo := #[]) (fl : Nat := 33) (sup : Nat := 0) (ifs : Array Nat := #[]) (fds : Array FieldInfo := #[]) : ClassFile where
  minorVersion := 0
  majorVersion := 65
  constantPool := pool
  accessFlags := fl
  thisClass := this
  superClass := sup
  interfaces := ifs
  fields := fds
  methods := ms
  attributes := attrs
def plain (name : String) (sup : Option ClassId) : Class where
  name := name
  kind := .ordinary
  loader := none
  accessFlags := 33
  super := sup
  interfaces := #[]
  cf := none
  fields := #[]
  methods := #[]
  instanceTypes := #[]
  staticTypes := #[]
  resolved := #[]
  callSites := []
  init := .initialized
  statics := none
  mirror := none

def pool0 : Array CpInfo := pool [(5, u "<init>"), (0, u "()V"), (1, .class_ 10), (1, u "java/lang/Object"), (85, u "clone"), (0, u "()Ljava/lang/Object;")] 26

def k0m0 : Method := { name := "<init>", desc := "()V", sig := { parameters := [], returnType := none }, accessFlags := 1, code := none }
def k0m1 : Method := { name := "clone", desc := "()Ljava/lang/Object;", sig := { parameters := [], returnType := some (.object "java/lang/Object") }, accessFlags := 260, code := none }
/-- java/lang/Object -/
def k0 : Class := { plain "java/lang/Object" none with
  accessFlags := 33
  interfaces := #[]
  cf := some (fileOf pool0 8 #[] #[{ accessFlags := 1, nameIndex := 5, descriptorIndex := 6, attributes := #[] }, { accessFlags := 260, nameIndex := 96, descriptorIndex := 97, attributes := #[] }] 33 0 #[] #[])
  fields := #[]
  methods := #[k0m0, k0m1]
  instanceTypes := #[]
  staticTypes := #[]
  resolved := Array.replicate 124 none
  statics := none }

def pool1 : Array CpInfo := pool [(2, .class_ 4), (1, u "java/lang/Object"), (0, u "<init>"), (0, u "()V"), (0, .fieldref 8 9), (0, .class_ 10), (0, .nameAndType 11 12), (0, u "com/example/wary_commit/warycommit/DecisionLogFormat$Heuristic"), (0, u "MIXED"), (0, u "Lcom/example/wary_commit/warycommit/DecisionLogFormat$Heuristic;"), (0, .fieldref 8 14), (0, .nameAndType 15 12), (0, u "ROLLBACK"), (0, .methodref 17 18), (0, .class_ 19), (0, .nameAndType 20 21), (0, u "com/example/wary_commit/warycommit/DecisionLogFormat$Type"), (0, u "of"), (0, u "(B)Lcom/example/wary_commit/warycommit/DecisionLogFormat$Type;"), (0, .methodref 17 23), (0, .nameAndType 20 24), (0, u "(Lcom/example/wary_commit/warycommit/DecisionLogFormat$Heuristic;)Lcom/example/wary_commit/warycommit/DecisionLogFormat$Type;"), (0, .class_ 26), (0, u "com/example/wary_commit/warycommit/TypeOfPinLaw"), (2, u "law"), (0, u "(I)Z")] 8

def k1m0 : Method := { name := "<init>", desc := "()V", sig := { parameters := [], returnType := none }, accessFlags := 2, code := none }
def k1c1 : Code := { maxStack := 2, maxLocals := 6, code := code, exceptionTable := #[], attributes := #[] }
def k1m1 : Method := { name := "law", desc := "(I)Z", sig := { parameters := [.int], returnType := some .boolean }, accessFlags := 9, code := some k1c1 }
/-- com/example/wary_commit/warycommit/TypeOfPinLaw -/
def k1 : Class := { plain "com/example/wary_commit/warycommit/TypeOfPinLaw" (some 0) with
  accessFlags := 49
  interfaces := #[]
  cf := some (fileOf pool1 25 #[] #[{ accessFlags := 2, nameIndex := 5, descriptorIndex := 6, attributes := #[] }, { accessFlags := 9, nameIndex := 29, descriptorIndex := 30, attributes := #[] }] 49 2 #[] #[])
  fields := #[]
  methods := #[k1m0, k1m1]
  instanceTypes := #[]
  staticTypes := #[]
  resolved := Array.replicate 39 none
  statics := none }

def pool2 : Array CpInfo := pool [(1, .class_ 2), (0, u "java/lang/constant/Constable"), (0, .class_ 4), (0, u "java/lang/Object")] 6

/-- java/lang/constant/Constable -/
def k2 : Class := { plain "java/lang/constant/Constable" (some 0) with
  accessFlags := 1537
  interfaces := #[]
  cf := some (fileOf pool2 1 #[] #[] 1537 3 #[] #[])
  fields := #[]
  methods := #[]
  instanceTypes := #[]
  staticTypes := #[]
  resolved := Array.replicate 11 none
  statics := none }

def pool3 : Array CpInfo := pool [(1, .class_ 2), (0, u "java/lang/Comparable"), (0, .class_ 4), (0, u "java/lang/Object")] 7

/-- java/lang/Comparable -/
def k3 : Class := { plain "java/lang/Comparable" (some 0) with
  accessFlags := 1537
  interfaces := #[]
  cf := some (fileOf pool3 1 #[] #[] 1537 3 #[] #[])
  fields := #[]
  methods := #[]
  instanceTypes := #[]
  staticTypes := #[]
  resolved := Array.replicate 12 none
  statics := none }

def pool4 : Array CpInfo := pool [(1, .class_ 2), (0, u "java/io/Serializable"), (0, .class_ 4), (0, u "java/lang/Object")] 2

/-- java/io/Serializable -/
def k4 : Class := { plain "java/io/Serializable" (some 0) with
  accessFlags := 1537
  interfaces := #[]
  cf := some (fileOf pool4 1 #[] #[] 1537 3 #[] #[])
  fields := #[]
  methods := #[]
  instanceTypes := #[]
  staticTypes := #[]
  resolved := Array.replicate 7 none
  statics := none }

def pool5 : Array CpInfo := pool [(2, .class_ 4), (1, u "java/lang/Enum"), (0, u "name"), (0, u "Ljava/lang/String;"), (2, u "ordinal"), (0, u "I"), (1, .class_ 14), (1, u "java/lang/Object"), (4, u "hash"), (86, .class_ 108), (1, u "java/lang/Enum$EnumDesc"), (2, .class_ 112), (0, u "java/lang/constant/Constable"), (0, .class_ 114), (0, u "java/lang/Comparable"), (0, .class_ 116), (0, u "java/io/Serializable")] 87

/-- java/lang/Enum -/
def k5 : Class := { plain "java/lang/Enum" (some 0) with
  accessFlags := 1057
  interfaces := #[2, 3, 4]
  cf := some (fileOf pool5 2 #[.nestMembers #[106]] #[] 1057 12 #[111, 113, 115] #[{ accessFlags := 18, nameIndex := 5, descriptorIndex := 6, attributes := #[] }, { accessFlags := 18, nameIndex := 9, descriptorIndex := 10, attributes := #[] }, { accessFlags := 2, nameIndex := 19, descriptorIndex := 10, attributes := #[] }])
  fields := #[{ name := "name", type := (.object "java/lang/String"), accessFlags := 18, slot := 0, constantValue := 0 }, { name := "ordinal", type := .int, accessFlags := 18, slot := 1, constantValue := 0 }, { name := "hash", type := .int, accessFlags := 2, slot := 2, constantValue := 0 }]
  methods := #[]
  instanceTypes := #[(.object "java/lang/String"), .int, .int]
  staticTypes := #[]
  resolved := Array.replicate 204 none
  statics := none }

def pool6 : Array CpInfo := pool [(1, .class_ 2), (0, u "com/example/wary_commit/warycommit/DecisionLogFormat$Heuristic"), (2, u "MIXED"), (0, u "Lcom/example/wary_commit/warycommit/DecisionLogFormat$Heuristic;"), (2, u "ROLLBACK"), (2, u "$VALUES"), (0, u "[Lcom/example/wary_commit/warycommit/DecisionLogFormat$Heuristic;"), (6, .class_ 22), (1, u "java/lang/Enum"), (25, .class_ 49), (0, u "com/example/wary_commit/warycommit/DecisionLogFormat")] 2

/-- com/example/wary_commit/warycommit/DecisionLogFormat$Heuristic -/
def k6 : Class := { plain "com/example/wary_commit/warycommit/DecisionLogFormat$Heuristic" (some 5) with
  accessFlags := 16432
  interfaces := #[]
  cf := some (fileOf pool6 1 #[.nestHost 48] #[] 16432 20 #[] #[{ accessFlags := 16409, nameIndex := 5, descriptorIndex := 6, attributes := #[] }, { accessFlags := 16409, nameIndex := 9, descriptorIndex := 6, attributes := #[] }, { accessFlags := 4122, nameIndex := 12, descriptorIndex := 13, attributes := #[] }])
  fields := #[{ name := "MIXED", type := (.object "com/example/wary_commit/warycommit/DecisionLogFormat$Heuristic"), accessFlags := 16409, slot := 0, constantValue := 0 }, { name := "ROLLBACK", type := (.object "com/example/wary_commit/warycommit/DecisionLogFormat$Heuristic"), accessFlags := 16409, slot := 1, constantValue := 0 }, { name := "$VALUES", type := (.array (.object "com/example/wary_commit/warycommit/DecisionLogFormat$Heuristic")), accessFlags := 4122, slot := 2, constantValue := 0 }]
  methods := #[]
  instanceTypes := #[(.object "java/lang/String"), .int, .int]
  staticTypes := #[(.object "com/example/wary_commit/warycommit/DecisionLogFormat$Heuristic"), (.object "com/example/wary_commit/warycommit/DecisionLogFormat$Heuristic"), (.array (.object "com/example/wary_commit/warycommit/DecisionLogFormat$Heuristic"))]
  resolved := Array.replicate 52 none
  statics := some 0 }

def pool7 : Array CpInfo := pool [(1, .class_ 2), (0, u "com/example/wary_commit/warycommit/DecisionLogFormat$Type"), (2, u "COMMIT"), (0, u "Lcom/example/wary_commit/warycommit/DecisionLogFormat$Type;"), (0, .fieldref 1 8), (0, .nameAndType 9 6), (0, u "HEURISTIC_MIXED"), (0, .fieldref 1 11), (0, .nameAndType 12 6), (0, u "HEURISTIC_ROLLBACK"), (2, u "DONE"), (2, u "FORGOTTEN"), (0, .fieldref 1 20), (0, .nameAndType 21 22), (0, u "$VALUES"), (0, u "[Lcom/example/wary_commit/warycommit/DecisionLogFormat$Type;"), (0, .methodref 24 25), (0, .class_ 22), (0, .nameAndType 26 27), (0, u "clone"), (0, u "()Ljava/lang/Object;"), (1, .class_ 31), (1, u "java/lang/Enum"), (6, .fieldref 1 39), (0, .nameAndType 40 41), (0, u "code"), (0, u "B"), (0, .fieldref 43 44), (0, .class_ 45), (0, .nameAndType 46 47), (0, u "com/example/wary_commit/warycommit/DecisionLogFormat$Heuristic"), (0, u "MIXED"), (0, u "Lcom/example/wary_commit/warycommit/DecisionLogFormat$Heuristic;"), (0, .methodref 1 49), (0, .nameAndType 50 51), (0, u "values"), (0, u "()[Lcom/example/wary_commit/warycommit/DecisionLogFormat$Type;"), (17, u "of"), (0, u "(Lcom/example/wary_commit/warycommit/DecisionLogFormat$Heuristic;)Lcom/example/wary_commit/warycommit/DecisionLogFormat$Type;"), (1, u "(B)Lcom/example/wary_commit/warycommit/DecisionLogFormat$Type;"), (6, .class_ 80), (0, u "com/example/wary_commit/warycommit/DecisionLogFormat")] 3

def k7c0 : Code := { maxStack := 1, maxLocals := 0, code := prog_16_method_1_code, exceptionTable := #[], attributes := #[] }
def k7m0 : Method := { name := "values", desc := "()[Lcom/example/wary_commit/warycommit/DecisionLogFormat$Type;", sig := { parameters := [], returnType := some (.array (.object "com/example/wary_commit/warycommit/DecisionLogFormat$Type")) }, accessFlags := 9, code := some k7c0 }
def k7c1 : Code := { maxStack := 2, maxLocals := 1, code := prog_16_method_4_code, exceptionTable := #[], attributes := #[] }
def k7m1 : Method := { name := "of", desc := "(Lcom/example/wary_commit/warycommit/DecisionLogFormat$Heuristic;)Lcom/example/wary_commit/warycommit/DecisionLogFormat$Type;", sig := { parameters := [(.object "com/example/wary_commit/warycommit/DecisionLogFormat$Heuristic")], returnType := some (.object "com/example/wary_commit/warycommit/DecisionLogFormat$Type") }, accessFlags := 8, code := some k7c1 }
def k7c2 : Code := { maxStack := 2, maxLocals := 5, code := prog_16_method_5_code, exceptionTable := #[], attributes := #[] }
def k7m2 : Method := { name := "of", desc := "(B)Lcom/example/wary_commit/warycommit/DecisionLogFormat$Type;", sig := { parameters := [.byte], returnType := some (.object "com/example/wary_commit/warycommit/DecisionLogFormat$Type") }, accessFlags := 8, code := some k7c2 }
/-- com/example/wary_commit/warycommit/DecisionLogFormat$Type -/
def k7 : Class := { plain "com/example/wary_commit/warycommit/DecisionLogFormat$Type" (some 5) with
  accessFlags := 16432
  interfaces := #[]
  cf := some (fileOf pool7 1 #[.nestHost 79] #[{ accessFlags := 9, nameIndex := 50, descriptorIndex := 51, attributes := #[] }, { accessFlags := 8, nameIndex := 69, descriptorIndex := 70, attributes := #[] }, { accessFlags := 8, nameIndex := 69, descriptorIndex := 72, attributes := #[] }] 16432 29 #[] #[{ accessFlags := 16409, nameIndex := 5, descriptorIndex := 6, attributes := #[] }, { accessFlags := 16409, nameIndex := 9, descriptorIndex := 6, attributes := #[] }, { accessFlags := 16409, nameIndex := 12, descriptorIndex := 6, attributes := #[] }, { accessFlags := 16409, nameIndex := 15, descriptorIndex := 6, attributes := #[] }, { accessFlags := 16409, nameIndex := 18, descriptorIndex := 6, attributes := #[] }, { accessFlags := 18, nameIndex := 40, descriptorIndex := 41, attributes := #[] }, { accessFlags := 4122, nameIndex := 21, descriptorIndex := 22, attributes := #[] }])
  fields := #[{ name := "COMMIT", type := (.object "com/example/wary_commit/warycommit/DecisionLogFormat$Type"), accessFlags := 16409, slot := 0, constantValue := 0 }, { name := "HEURISTIC_MIXED", type := (.object "com/example/wary_commit/warycommit/DecisionLogFormat$Type"), accessFlags := 16409, slot := 1, constantValue := 0 }, { name := "HEURISTIC_ROLLBACK", type := (.object "com/example/wary_commit/warycommit/DecisionLogFormat$Type"), accessFlags := 16409, slot := 2, constantValue := 0 }, { name := "DONE", type := (.object "com/example/wary_commit/warycommit/DecisionLogFormat$Type"), accessFlags := 16409, slot := 3, constantValue := 0 }, { name := "FORGOTTEN", type := (.object "com/example/wary_commit/warycommit/DecisionLogFormat$Type"), accessFlags := 16409, slot := 4, constantValue := 0 }, { name := "code", type := .byte, accessFlags := 18, slot := 3, constantValue := 0 }, { name := "$VALUES", type := (.array (.object "com/example/wary_commit/warycommit/DecisionLogFormat$Type")), accessFlags := 4122, slot := 5, constantValue := 0 }]
  methods := #[k7m0, k7m1, k7m2]
  instanceTypes := #[(.object "java/lang/String"), .int, .int, .byte]
  staticTypes := #[(.object "com/example/wary_commit/warycommit/DecisionLogFormat$Type"), (.object "com/example/wary_commit/warycommit/DecisionLogFormat$Type"), (.object "com/example/wary_commit/warycommit/DecisionLogFormat$Type"), (.object "com/example/wary_commit/warycommit/DecisionLogFormat$Type"), (.object "com/example/wary_commit/warycommit/DecisionLogFormat$Type"), (.array (.object "com/example/wary_commit/warycommit/DecisionLogFormat$Type"))]
  resolved := Array.replicate 84 none
  statics := some 1 }

def pool8 : Array CpInfo := pool [(1, .class_ 2), (0, u "java/lang/Cloneable"), (0, .class_ 4), (0, u "java/lang/Object")] 2

/-- java/lang/Cloneable -/
def k8 : Class := { plain "java/lang/Cloneable" (some 0) with
  accessFlags := 1537
  interfaces := #[]
  cf := some (fileOf pool8 1 #[] #[] 1537 3 #[] #[])
  fields := #[]
  methods := #[]
  instanceTypes := #[]
  staticTypes := #[]
  resolved := Array.replicate 7 none
  statics := none }

/-- the primitive byte -/
def k9 : Class := { plain "byte" none with kind := .primitive 'B', accessFlags := 0x411 }
/-- [B -/
def k10 : Class := { plain "[B" (some 0) with kind := .array 9 .byte, interfaces := #[8, 4], accessFlags := 1041 }

/-- the primitive int -/
def k11 : Class := { plain "int" none with kind := .primitive 'I', accessFlags := 0x411 }
/-- [I -/
def k12 : Class := { plain "[I" (some 0) with kind := .array 11 .int, interfaces := #[8, 4], accessFlags := 1041 }

/-- [Lcom/example/wary_commit/warycommit/DecisionLogFormat$Type; -/
def k13 : Class := { plain "[Lcom/example/wary_commit/warycommit/DecisionLogFormat$Type;" (some 0) with kind := .array 7 (.object "com/example/wary_commit/warycommit/DecisionLogFormat$Type"), interfaces := #[8, 4], accessFlags := 1041 }

def heap : Heap := #[{ cls := 6, slots := #[.ref 9, .ref 3, .null], vm := .statics 6 },
  { cls := 7, slots := #[.ref 4, .ref 5, .ref 6, .ref 7, .ref 8, .ref 2], vm := .statics 7 },
  { cls := 13, slots := #[.ref 4, .ref 5, .ref 6, .ref 7, .ref 8], vm := .none },
  { cls := 6, slots := #[.null, .int 1, .int 0], vm := .none },
  { cls := 7, slots := #[.null, .int 0, .int 0, .int 1], vm := .none },
  { cls := 7, slots := #[.null, .int 0, .int 0, .int 2], vm := .none },
  { cls := 7, slots := #[.null, .int 0, .int 0, .int 3], vm := .none },
  { cls := 7, slots := #[.null, .int 0, .int 0, .int 4], vm := .none },
  { cls := 7, slots := #[.null, .int 0, .int 0, .int 5], vm := .none },
  { cls := 6, slots := #[.null, .int 0, .int 0], vm := .none }]
def classes : Array Class := #[k0, k1, k2, k3, k4, k5, k6, k7, k8, k9, k10, k11, k12, k13]
def interned : List (Array UInt16 × Addr) := []
def slotsUsed : Nat := 40
def theMethod : MethodId := ⟨1, 1⟩
def args0 : Array Value := #[.int 3]
def aboutOver (below : List Frame) : State where
  vm := { classes := classes, interned := interned.toArray }
  heap := heap
  slotsUsed := slotsUsed
  threads := #[{ frames := .invoking theMethod args0 :: below }]
def below0 : List Frame := [.native { method := ⟨0, 0⟩, args := #[] }]
def about1 : State := aboutOver below0
def p0 : Program := .bare "" "" ""
def e0 : Env := launch0.env 0 0 0
theorem w_frames : about1.frames = Frame.invoking theMethod args0 :: below0 := rfl
set_option maxRecDepth 65536 in
theorem w_args : argsFit about1.vm theMethod args0 = true := by decide +kernel
set_option maxRecDepth 65536 in
theorem w_heap : heapFits about1 = true := by decide +kernel
set_option maxRecDepth 65536 in
theorem w_runnable : about1.curStatus? = some .runnable := by decide +kernel
set_option maxRecDepth 65536 in
theorem w_alone : about1.alone = true := by decide +kernel
set_option maxRecDepth 65536 in
theorem w_named : about1.methodNamed? x = some theMethod := by decide +kernel
set_option maxRecDepth 65536 in
theorem w_hears : about1.hears theMethod below0 = true := by decide +kernel
set_option maxRecDepth 65536 in
theorem w_ripe : about1.ripe theMethod args0 below0 = true := by decide +kernel
theorem w_running : about1.status = .running := rfl
set_option maxRecDepth 65536 in
theorem w_room : about1.hasRoom e0.platform room_1 = true :=
  launch0.hasRoom_least _ room_1 (by decide +kernel) (by decide +kernel) (by decide +kernel) (by decide +kernel) (by decide +kernel) (by decide +kernel)
theorem allAtoms_all (ts : List Jvm.Cond) (a : Array Jvm.Value) (st : Jvm.State) : (allAtoms ts).before a st = ts.all (fun c => c.before a st) := by
  induction ts with
  | nil => rfl
  | cons c t ih =>
    show (Jvm.Cond.and c (allAtoms t)).before a st = _
    rw [Jvm.Cond.before_and, ih, List.all_cons]
def words1 : List Jvm.Cond := Jvm.Cond.code x code maxLocals ret :: tables_1
/-- a 'code' word, met by the world's own term for the bytes: nothing is compared byte by byte -/
theorem code_word {y : MethodName} {bytes : ByteArray} {mx : Nat} {rt : Option FieldType} {a : Array Value} {s : State} {m : MethodId} {meth : Method} {c : Code} (h1 : s.methodNamed? y = some m) (h2 : s.vm.method? m = some meth) (h3 : meth.code = some c) (h4 : c.code = bytes)
    (h5 : (c.maxLocals == mx && c.exceptionTable.isEmpty && decide (c.maxStack ≤ mostOperands) && decide (meth.sig.returnType = rt) && !meth.locks && decide (parseMethodDescriptor y.desc = some meth.sig)) = true) : (Jvm.Cond.code y bytes mx rt).before a s = true := by
  simp only [Bool.and_eq_true, beq_iff_eq, Bool.not_eq_true', decide_eq_true_eq] at h5
  obtain ⟨⟨⟨⟨⟨g1, g2⟩, g3⟩, g4⟩, g5⟩, g6⟩ := h5
  simp [Cond.before, Cond.holds, Cond.value, h1, h2, h3, h4, g1, g2, g3, g4, g5, g6]
def isCode : Jvm.Cond → Bool
  | .code _ _ _ _ => true
  | _ => false
theorem all_split {L : List Jvm.Cond} {P : Jvm.Cond → Bool} (h1 : L.all (fun c => isCode c || P c) = true) (h2 : ∀ c ∈ L.filter isCode, P c = true) : L.all P = true := by
  refine List.all_eq_true.mpr fun c hc => ?_
  have h := List.all_eq_true.mp h1 c hc
  rcases Bool.eq_false_or_eq_true (isCode c) with hi | hi
  · exact h2 c (List.mem_filter.mpr ⟨hc, hi⟩)
  · simpa [hi] using h
set_option maxRecDepth 65536 in
theorem w_c0 : (Jvm.Cond.code x code maxLocals ret).before args0 about1 = true := code_word (m := ⟨1, 1⟩) (meth := k1m1) (c := k1c1) (by decide +kernel) rfl rfl rfl (by decide +kernel)
set_option maxRecDepth 65536 in
theorem w_c1 : (Jvm.Cond.code ({ cls := "com/example/wary_commit/warycommit/DecisionLogFormat$Type", name := "of", desc := "(B)Lcom/example/wary_commit/warycommit/DecisionLogFormat$Type;" } : Jvm.MethodName) prog_16_method_5_code (5 : Nat) (Option.some (Jvm.ClassFile.FieldType.object "com/example/wary_commit/warycommit/DecisionLogFormat$Type"))).before args0 about1 = true := code_word (m := ⟨7, 2⟩) (meth := k7m2) (c := k7c2) (by decide +kernel) rfl rfl rfl (by decide +kernel)
set_option maxRecDepth 65536 in
theorem w_c2 : (Jvm.Cond.code ({ cls := "com/example/wary_commit/warycommit/DecisionLogFormat$Type", name := "values", desc := "()[Lcom/example/wary_commit/warycommit/DecisionLogFormat$Type;" } : Jvm.MethodName) prog_16_method_1_code (0 : Nat) (Option.some (Jvm.ClassFile.FieldType.array (Jvm.ClassFile.FieldType.object "com/example/wary_commit/warycommit/DecisionLogFormat$Type")))).before args0 about1 = true := code_word (m := ⟨7, 0⟩) (meth := k7m0) (c := k7c0) (by decide +kernel) rfl rfl rfl (by decide +kernel)
set_option maxRecDepth 65536 in
theorem w_c3 : (Jvm.Cond.code ({ cls := "com/example/wary_commit/warycommit/DecisionLogFormat$Type", name := "of", desc := "(Lcom/example/wary_commit/warycommit/DecisionLogFormat$Heuristic;)Lcom/example/wary_commit/warycommit/DecisionLogFormat$Type;" } : Jvm.MethodName) prog_16_method_4_code (1 : Nat) (Option.some (Jvm.ClassFile.FieldType.object "com/example/wary_commit/warycommit/DecisionLogFormat$Type"))).before args0 about1 = true := code_word (m := ⟨7, 1⟩) (meth := k7m1) (c := k7c1) (by decide +kernel) rfl rfl rfl (by decide +kernel)
def codes1 : List Jvm.Cond := [Jvm.Cond.code x code maxLocals ret, Jvm.Cond.code ({ cls := "com/example/wary_commit/warycommit/DecisionLogFormat$Type", name := "of", desc := "(B)Lcom/example/wary_commit/warycommit/DecisionLogFormat$Type;" } : Jvm.MethodName) prog_16_method_5_code (5 : Nat) (Option.some (Jvm.ClassFile.FieldType.object "com/example/wary_commit/warycommit/DecisionLogFormat$Type")), Jvm.Cond.code ({ cls := "com/example/wary_commit/warycommit/DecisionLogFormat$Type", name := "values", desc := "()[Lcom/example/wary_commit/warycommit/DecisionLogFormat$Type;" } : Jvm.MethodName) prog_16_method_1_code (0 : Nat) (Option.some (Jvm.ClassFile.FieldType.array (Jvm.ClassFile.FieldType.object "com/example/wary_commit/warycommit/DecisionLogFormat$Type"))), Jvm.Cond.code ({ cls := "com/example/wary_commit/warycommit/DecisionLogFormat$Type", name := "of", desc := "(Lcom/example/wary_commit/warycommit/DecisionLogFormat$Heuristic;)Lcom/example/wary_commit/warycommit/DecisionLogFormat$Type;" } : Jvm.MethodName) prog_16_method_4_code (1 : Nat) (Option.some (Jvm.ClassFile.FieldType.object "com/example/wary_commit/warycommit/DecisionLogFormat$Type"))]
set_option maxRecDepth 65536 in
theorem codes_eq : words1.filter isCode = codes1 := rfl
theorem w_codes : ∀ c ∈ words1.filter isCode, c.before args0 about1 = true := by
  rw [codes_eq]
  intro c hc
  simp only [codes1, List.mem_cons, List.not_mem_nil, or_false] at hc
  rcases hc with rfl | rfl | rfl | rfl
  · exact w_c0
  · exact w_c1
  · exact w_c2
  · exact w_c3
set_option maxRecDepth 65536 in
theorem w_t1 : (words1.take 24).all (fun c => isCode c || c.before args0 about1) = true := by decide +kernel
set_option maxRecDepth 65536 in
theorem w_t2 : (words1.drop 24).all (fun c => isCode c || c.before args0 about1) = true := by decide +kernel
theorem w_tables : (allAtoms (Jvm.Cond.code x code maxLocals ret :: tables_1)).before args0 about1 = true := by
  rw [allAtoms_all]
  show words1.all (fun c => c.before args0 about1) = true
  refine all_split ?_ w_codes
  rw [← List.take_append_drop 24 words1, List.all_append, w_t1, w_t2]
  rfl
set_option maxRecDepth 65536 in
theorem w_case : (Jvm.Cond.and given_1 narrow_1).before args0 about1 = true := by decide +kernel
theorem w_applies : (headSpec (Jvm.Cond.code x code maxLocals ret :: tables_1) room_1).applies x e0.platform about1 = true :=
  (Spec.applies_iff w_frames).mpr ⟨w_running, w_runnable, w_alone, w_named, w_hears, w_ripe, w_room, w_tables⟩
theorem atStart : AtStart classFile x code maxLocals ret World_1 tables_1 room_1 Calls_1 rest_1 Pre_1 launch0 p0 e0 about1 theMethod args0 below0 :=
  ⟨lists_1, trivial, launch0.admits_env _ _ _, launch0.least_env, fairChoices_fair.cas, fairChoices_fair.clock, w_frames, w_args, w_heap, w_applies, trivial, trivial, w_case⟩
end start1
theorem witness_1 : WitnessClaimed_1 := ⟨start1.p0, start1.e0, start1.about1, start1.theMethod, start1.args0, start1.below0, start1.atStart⟩
end Jvm.Pilot.@@N@@
