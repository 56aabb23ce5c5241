import JvmDerived
import JvmDerived.Pilot.@@N@@Statement
import JvmDerived.Pilot.@@N@@Code
set_option linter.unusedVariables false
set_option linter.unusedSimpArgs false
namespace Jvm.Pilot.@@N@@
open Jvm Jvm.ClassFile Sem Op Lib Jvm.Free Jvm.Stand Jvm.LawKit Jvm.RoadKit Bundle Jvm.Pilot.@@N@@.Jvm.D
/-- a body's contract by a walk whose goal is a predicate G: 'go' takes a step, 'fin' a return -/
theorem own_enter {l : Launch} {y : MethodName} {cd : ByteArray} {ml : Nat} {rt : Option FieldType} {ws : List Jvm.Cond} {R : Room} {Z : State} {h0 : Heap} {as : Array Value} {Q : Option Value → Heap → List Loc → Prop} (hpl : plainFor y = true)
    (body : ∀ (p : Program) (e : Env) (s : State) (m : MethodId) (below : List Frame) (meth : Method) (c : Code) (s₁ : State) (G : State → Prop),
      Stand p l e R s m as below meth c s₁ [] 0 0 → p.tables.exec = Jvm.exec → c.code = cd → c.maxLocals = ml → Z.Warmed39 s.vm → s.vm.findClass y.cls = some m.cls → meth.name = y.name → meth.sig.returnType = rt → s₁.heap = h0 →
      (∀ {a b : State}, (∀ t, Steps p.tables e below b t → Steps p.tables e below a t) → G b → G a) →
      (∀ {T : State} {locs : List Loc} {cells slots : Nat} {g : JFrame} (v : Option Value), Stand p l e R s m as below meth c T locs cells slots → (rt = none → v = none) →
        (∀ fs, (∀ (f : JFrame) (acts : List Action), f.method = m → f.locked = none → f.entered = [] → (doReturn e (T.setTop f) acts v).1 = T.setFrames fs) → Steps p.tables e below (T.setTop g) (T.setFrames fs)) →
        cells ≤ R.cells → slots ≤ R.slots → Q v T.heap locs → G (T.setTop g)) →
      G (s₁.setTop (entryFrame m as ml))) :
    MetFree l y (head1 (Jvm.Cond.code y cd ml rt :: ws) R) (fun a U => a = as ∧ Z.Warmed39 U.vm ∧ U.heap = h0) (fun _ _ _ _ _ => True) (fun _ U o U' => ∃ v L, o = .returned v ∧ Q v U'.heap L ∧ FrameEnd U o U' L R.cells R.slots) := by
  refine MetFree.of_bodySF hpl hisR ?_
  intro p e s m args below meth c s₁ Bd hml0 hP hK
  obtain ⟨rfl, hZ, hh⟩ := hP
  have hlk : meth.locks = false := Bd.notSynchronized
  have key := body p e s m below meth c s₁ (fun a => ∃ t, Steps p.tables e below a t ∧ ∃ o, t.status = .running ∧ Ended t below o ∧ ∃ v L, o = .returned v ∧ Q v t.heap L ∧ FrameEnd s o t L R.cells R.slots)
    (Stand.of_body Bd) Bd.exec Bd.bytes hml0 hZ (findClass_of_methodNamed Bd.named) (name_of_methodNamed Bd.named Bd.method).1 Bd.returns (by rw [← hh, Bd.state]; rfl)
    (fun h g => by obtain ⟨t, h1, h2⟩ := g; exact ⟨t, h t h1, h2⟩)
    (fun {T locs cells slots g} v X hv hs hc hsl hQ => by
      obtain ⟨fs, hr, hrun, hended, hW, hsame⟩ := X.leave (v := v) (fun h => hv (Bd.returns.symm.trans h)) hlk
      exact ⟨_, hs fs hr, _, hrun, hended, v, locs, rfl, hQ, ⟨_, rfl⟩, hW, hsame.mono hc hsl⟩)
  obtain ⟨t, h1, o, h2, h3, h4⟩ := key
  exact ⟨t, o, h1, h2, h3, h4⟩
theorem own_lrem {p : Program} {l : Launch} {e : Env} {R : Room} {s : State} {m : MethodId} {args : Array Value} {below : List Frame} {meth : Method} {c : Code} {T : State} {locs : List Loc} {cells slots : Nat} {g : JFrame} {target : State} (X : Stand p l e R s m args below meth c T locs cells slots) (hx : p.tables.exec = Jvm.exec) (hg : g.method = m) {x y : Int64} {rest : List Value} (hd : decode c.code g.pc = .ok (.lrem, 1)) (hs : g.stack = .long y :: .long x :: rest) (hy : y ≠ 0)
    (hr : Steps p.tables e below (T.setTop { g with pc := g.pc + 1, stack := .long (x % y) :: rest }) target) : Steps p.tables e below (T.setTop g) target := XS.lrem X.here hx hg hd hs hy (by rw [lrem_mod]; exact hr)
theorem own_irr (x : Int32) : ¬ x < x := Int32.lt_irrefl
theorem own_irrL (x : Int64) : ¬ x < x := Int64.lt_irrefl
theorem own_eq_int {a : Term} {k : Int32} {args : Array Value} {first s : State} {o : Option Outcome} {idx : List Nat} (h : (Jvm.Cond.eq a (.int k)).value args first o s idx = some true) : a.eval args first o idx s = some (.int k) := by
  obtain ⟨x, y, ha, hb, k1, k2⟩ := cmp_v (Or.inl h)
  cases (show some (Value.int k) = some y from hb)
  obtain ⟨z, rfl⟩ := k2
  have q : (Jvm.Cond.eq a (.int k)).value args first o s idx = some (decide (z = k)) := by simp [Cond.value, ha, Term.eval]
  rw [gotT q h] at ha
  exact ha
theorem own_eq_ref {a b : Term} {u : Addr} {args : Array Value} {first s : State} {o : Option Outcome} {idx : List Nat} (h : (Jvm.Cond.eq a b).value args first o s idx = some true) (hb : b.eval args first o idx s = some (.ref u)) : a.eval args first o idx s = some (.ref u) := by
  obtain ⟨x, y, ha, hb', k1, k2⟩ := cmp_v (Or.inl h)
  cases hb.symm.trans hb'
  have hr : x.isRef = true := by cases x <;> simp_all [Kin, Value.isRef]
  have q := gotT (eq_R ha hb hr rfl) h
  rw [q] at ha
  exact ha
theorem own_exa_ns {Z : State} {h : Heap} {a : Addr} {C : String} (F : Exa Z h a C) : ∀ cell : Cell, h[a]? = some cell → cell.vm.isStatics = false := fun cell hc => by
  obtain ⟨c, k, h1, -, -, h4, -⟩ := F
  cases hc.symm.trans h1
  exact h4
theorem own_sta_keep {Z : State} {h h' : Heap} {C n d : String} {v : Value} {ws : List Addr} (F : Sta Z h C n d v) (K : Keep h h' ws) (q : ∀ a ∈ ws, ∀ cell : Cell, h[a]? = some cell → cell.vm.isStatics = false) : Sta Z h' C n d v := by
  obtain ⟨cf, i, k, f, st, cell, h1, h2, h3, h4, h5, h6, h7⟩ := F
  exact ⟨cf, i, k, f, st, cell, h1, h2, h3, h4, K.2.1 _ _ h5 (fun z => by rw [q _ z _ h5] at h6; cases h6), h6, h7⟩
theorem own_len {s : State} {args : Array Value} {t : Term} {a : Addr} {cl : Cell} {ty : FieldType} {z : Int32} (ht : t.eval args s none [] s = some (.ref a)) (A : Arr s s.heap a cl ty) (h : (Term.length t).eval args s none [] s = some (.int z)) : cl.slots.size < 2 ^ 31 ∧ cl.slots.size.toInt32 = z := by
  have ha := Arr.fin (State.Warmed39.refl s).alike A
  by_cases hn : cl.slots.size < 2 ^ 31
  · have q := (len_f ht ha hn).symm.trans h
    exact ⟨hn, Value.int.inj (Option.some.inj q)⟩
  · simp [Term.eval, ht, ha] at h
    omega
theorem own_elem {s : State} {args : Array Value} {t : Term} {a : Addr} {cl : Cell} {ty : FieldType} {j : Int32} {v : Value} (ht : t.eval args s none [] s = some (.ref a)) (A : Arr s s.heap a cl ty) (h : (Term.elem t (.int j)).eval args s none [] s = some v) (hn : ¬ j < 0) : cl.slots[j.toNatClampNeg]? = some v :=
  (elem_f ht rfl (Arr.fin (State.Warmed39.refl s).alike A) hn).symm.trans h
theorem own_selp {Z s : State} {a0 args : Array Value} {y : MethodName} {n : Nat} (hZ : Z.Warmed39 s.vm) (wi : (Jvm.Cond.instantiable y.cls n).before a0 Z = true) (wp : (Jvm.Cond.privateMethod y).before a0 Z = true) (wm : (Jvm.Cond.instanceMethod y).before a0 Z = true) (hy : y.cls ≠ "java/lang/invoke/MethodHandle" ∧ y.cls ≠ "java/lang/invoke/VarHandle") : (Jvm.Cond.selects y.cls y y).before args s = true := by
  have wi' : (Jvm.Cond.instantiable y.cls n).before args s = true := mvT hZ wi
  obtain ⟨c, k, h1, h2, -, h4, -⟩ := Cond.instantiable_spec wi'
  exact selects_self_of_private h1 h2 (Bool.or_eq_false_iff.mp h4).1 (Cond.privateMethod_at (mvP hZ wp (args := args))) (mvT hZ wm) hy
def own_max (a b : Int32) : Int32 := if a < b then b else a
def own_eqv (k k' : Addr) (a b : Int32) : Int32 := if k = k' then (if a = b then 1 else 0) else 0
theorem own_e1 {k : Addr} {a b : Int32} (h : a = b) : own_eqv k k a b = (1 : Int32) := by simp [own_eqv, h]
theorem own_e0 {k : Addr} {a b : Int32} (h : ¬ a = b) : own_eqv k k a b = (0 : Int32) := by simp [own_eqv, h]
theorem own_ek {k k' : Addr} {a b : Int32} (h : ¬ k = k') : own_eqv k k' a b = (0 : Int32) := by simp [own_eqv, h]
theorem own_ca {x : Int32} (h : ¬ (x &&& (2147483647 : Int32)) = (0 : Int32)) : ¬ (x &&& (2147483647 : Int32)) < (1 : Int32) := by
  have h1 := c_and x 2147483647 (by decide)
  have h4 : (1 : Int32).toInt = 1 := by decide
  have h5 : (0 : Int32).toInt = 0 := by decide
  have h6 : (x &&& (2147483647 : Int32)).toInt ≠ 0 := fun q => h (Int32.toInt_inj.mp (q.trans h5.symm))
  rw [Int32.lt_iff_toInt_lt]; omega
theorem own_cm (x : Int32) : ¬ (own_max (1 : Int32) x) < (1 : Int32) := by
  unfold own_max
  split
  · rename_i h; rw [Int32.lt_iff_toInt_lt] at h ⊢; omega
  · decide
theorem ef_9 (m : MethodId) (x0 : Int32) (x1 : Int32) : entryFrame m #[(.int x0), (.int x1)] 2 = mkF m 0 #[.val (.int x0), .val (.int x1)] [] := by first | (simp [entryFrame, mkF, argsToLocals, Value.category]; done) | rfl
theorem d9_0 : decode jdk_29_method_65_code 0 = .ok (.iload_n 0, 1) := by decide +kernel
theorem d9_1 : decode jdk_29_method_65_code 1 = .ok (.iload_n 1, 1) := by decide +kernel
theorem d9_2 : decode jdk_29_method_65_code 2 = .ok (.if_icmp .lt 7, 3) := by decide +kernel
theorem d9_9 : decode jdk_29_method_65_code 9 = .ok (.iload_n 1, 1) := by decide +kernel
theorem d9_10 : decode jdk_29_method_65_code 10 = .ok (.ireturn, 1) := by decide +kernel
theorem d9_5 : decode jdk_29_method_65_code 5 = .ok (.iload_n 0, 1) := by decide +kernel
theorem d9_6 : decode jdk_29_method_65_code 6 = .ok (.goto 4, 3) := by decide +kernel
def Q_rm9 (Z : State) (xa : Int32) (xb : Int32) (h0 : Heap) (n0 : Nat) (v : Option Value) (h : Heap) (L : List Loc) : Prop := v = some (.int (own_max xa xb)) ∧ Fr n0 L ∧ h = h0
set_option maxRecDepth 65536 in
set_option maxHeartbeats 40000000 in
theorem rm9 (l : Launch) (Z : State) (a0 : Array Value) (hw : ∀ d ∈ tables_1, d.before a0 Z = true) (ws : List Jvm.Cond) (xa : Int32) (xb : Int32) (h0 : Heap) (n0 : Nat) (Z0 : n0 ≤ h0.size) :
    MetFree l (⟨"java/lang/Math", "max", "(II)I"⟩ : MethodName) (head1 (Jvm.Cond.code (⟨"java/lang/Math", "max", "(II)I"⟩ : MethodName) jdk_29_method_65_code 2 (some .int) :: ws) ({ frames := 0, cells := 0, slots := 0, locals := 0 } : Room)) (fun a U => a = #[(.int xa), (.int xb)] ∧ Z.Warmed39 U.vm ∧ U.heap = h0) (fun _ _ _ _ _ => True) (fun _ U o U' => ∃ v L, o = .returned v ∧ Q_rm9 Z xa xb h0 n0 v U'.heap L ∧ FrameEnd U o U' L ({ frames := 0, cells := 0, slots := 0, locals := 0 } : Room).cells ({ frames := 0, cells := 0, slots := 0, locals := 0 } : Room).slots) := by
  refine own_enter (Q := Q_rm9 Z xa xb h0 n0) (Jvm.Free.JP.mathPlain rfl (by decide +kernel)) ?_
  intro p e s m below meth c s₁ G X0 hx hby hml hZ hown hnm hret e0 go fin
  replace hown : s.vm.findClass "java/lang/Math" = some m.cls := hown
  replace hnm : meth.name = "max" := hnm
  replace hml : c.maxLocals = 2 := hml
  rw [ef_9 m xa xb]
  have N0 := Fr.nil n0
  show G (s₁.setTop (mkF m 0 #[.val (.int xa), .val (.int xb)] []))
  refine go (fun tg kg => XS.iloadN X0.here hx rfl (hb hby d9_0) rfl kg) ?_
  show G (s₁.setTop (mkF m 1 #[.val (.int xa), .val (.int xb)] [(.int xa)]))
  refine go (fun tg kg => XS.iloadN X0.here hx rfl (hb hby d9_1) rfl kg) ?_
  show G (s₁.setTop (mkF m 2 #[.val (.int xa), .val (.int xb)] [(.int xb), (.int xa)]))
  by_cases hc1 : xa < xb
  · refine go (fun tg kg => XS.icmpYes X0.here hx rfl (pc0 := 2) (pc' := 9) rfl (hb hby d9_2) rfl (tlt hc1).1 (by decide) (by decide) kg) ?_
    show G (s₁.setTop (mkF m 9 #[.val (.int xa), .val (.int xb)] []))
    refine go (fun tg kg => XS.iloadN X0.here hx rfl (hb hby d9_9) rfl kg) ?_
    show G (s₁.setTop (mkF m 10 #[.val (.int xa), .val (.int xb)] [(.int xb)]))
    refine fin (some (.int xb)) X0 (fun h => absurd h (by decide)) (fun fs hr => retOut X0 hx hret rfl (Or.inl ⟨rfl, Or.inl rfl, _, rfl⟩) (hb hby d9_10) hr) (by decide) (by decide) ?_
    rw [e0]
    exact ⟨by simp only [own_max, if_pos hc1], N0, rfl⟩
  · refine go (fun tg kg => XS.icmpNo X0.here hx rfl (hb hby d9_2) rfl (flt hc1).1 kg) ?_
    show G (s₁.setTop (mkF m 5 #[.val (.int xa), .val (.int xb)] []))
    refine go (fun tg kg => XS.iloadN X0.here hx rfl (hb hby d9_5) rfl kg) ?_
    show G (s₁.setTop (mkF m 6 #[.val (.int xa), .val (.int xb)] [(.int xa)]))
    refine go (fun tg kg => XS.goto X0.here hx rfl (pc0 := 6) (pc' := 10) rfl (hb hby d9_6) (by decide) (by decide) kg) ?_
    show G (s₁.setTop (mkF m 10 #[.val (.int xa), .val (.int xb)] [(.int xa)]))
    refine fin (some (.int xa)) X0 (fun h => absurd h (by decide)) (fun fs hr => retOut X0 hx hret rfl (Or.inl ⟨rfl, Or.inl rfl, _, rfl⟩) (hb hby d9_10) hr) (by decide) (by decide) ?_
    rw [e0]
    exact ⟨by simp only [own_max, if_neg hc1], N0, rfl⟩
theorem pn_com_example_drumline_drumline_model_OverlapPolicy : plainName "com/example/drumline/drumline/model/OverlapPolicy" = true := by first | (simp [plainName, overriddenIn]; done) | decide +kernel
theorem ef_2 (m : MethodId) (x0 : Addr) (x1 : Addr) (x2 : Int32) : entryFrame m #[(.ref x0), (.ref x1), (.int x2)] 3 = mkF m 0 #[.val (.ref x0), .val (.ref x1), .val (.int x2)] [] := by first | (simp [entryFrame, mkF, argsToLocals, Value.category]; done) | rfl
theorem d2_0 : decode prog_37_method_1_code 0 = .ok (.aload_n 0, 1) := by decide +kernel
theorem d2_1 : decode prog_37_method_1_code 1 = .ok (.invokespecial 1, 3) := by decide +kernel
theorem d2_4 : decode prog_37_method_1_code 4 = .ok (.aload_n 0, 1) := by decide +kernel
theorem d2_5 : decode prog_37_method_1_code 5 = .ok (.aload_n 1, 1) := by decide +kernel
theorem d2_6 : decode prog_37_method_1_code 6 = .ok (.putfield 7, 3) := by decide +kernel
theorem d2_9 : decode prog_37_method_1_code 9 = .ok (.aload_n 0, 1) := by decide +kernel
theorem d2_10 : decode prog_37_method_1_code 10 = .ok (.iload_n 2, 1) := by decide +kernel
theorem d2_11 : decode prog_37_method_1_code 11 = .ok (.putfield 13, 3) := by decide +kernel
theorem d2_14 : decode prog_37_method_1_code 14 = .ok (.return_, 1) := by decide +kernel
def Q_rm2 (Z : State) (ob : Addr) (ak : Addr) (xa : Int32) (h0 : Heap) (n0 : Nat) (v : Option Value) (h : Heap) (L : List Loc) : Prop := v = none ∧ Fr n0 L ∧ Keep h0 h [ob] ∧ Exa Z h ob "com/example/drumline/drumline/model/OverlapPolicy" ∧ Fld Z h ob "com/example/drumline/drumline/model/OverlapPolicy" "kind" "Lcom/example/drumline/drumline/model/OverlapPolicy$Kind;" (.ref ak) ∧ Fld Z h ob "com/example/drumline/drumline/model/OverlapPolicy" "cap" "I" (.int xa)
set_option maxRecDepth 65536 in
set_option maxHeartbeats 40000000 in
theorem rm2 (l : Launch) (Z : State) (a0 : Array Value) (hw : ∀ d ∈ tables_1, d.before a0 Z = true) (ws : List Jvm.Cond) (ob : Addr) (ak : Addr) (xa : Int32) (h0 : Heap) (n0 : Nat) (Z0 : n0 ≤ h0.size) (Ex : Exa Z h0 ob "com/example/drumline/drumline/model/OverlapPolicy") (g0 : n0 ≤ ob) (Fi_kind : Fld Z h0 ob "com/example/drumline/drumline/model/OverlapPolicy" "kind" "Lcom/example/drumline/drumline/model/OverlapPolicy$Kind;" .null) (Fi_cap : Fld Z h0 ob "com/example/drumline/drumline/model/OverlapPolicy" "cap" "I" (.int (0 : Int32))) :
    MetFree l (⟨"com/example/drumline/drumline/model/OverlapPolicy", "<init>", "(Lcom/example/drumline/drumline/model/OverlapPolicy$Kind;I)V"⟩ : MethodName) (head1 (Jvm.Cond.code (⟨"com/example/drumline/drumline/model/OverlapPolicy", "<init>", "(Lcom/example/drumline/drumline/model/OverlapPolicy$Kind;I)V"⟩ : MethodName) prog_37_method_1_code 3 none :: ws) ({ frames := 1, cells := 0, slots := 0, locals := 12 } : Room)) (fun a U => a = #[(.ref ob), (.ref ak), (.int xa)] ∧ Z.Warmed39 U.vm ∧ U.heap = h0) (fun _ _ _ _ _ => True) (fun _ U o U' => ∃ v L, o = .returned v ∧ Q_rm2 Z ob ak xa h0 n0 v U'.heap L ∧ FrameEnd U o U' L ({ frames := 1, cells := 0, slots := 0, locals := 12 } : Room).cells ({ frames := 1, cells := 0, slots := 0, locals := 12 } : Room).slots) := by
  refine own_enter (Q := Q_rm2 Z ob ak xa h0 n0) (plainFor_of_name pn_com_example_drumline_drumline_model_OverlapPolicy) ?_
  intro p e s m below meth c s₁ G X0 hx hby hml hZ hown hnm hret e0 go fin
  replace hown : s.vm.findClass "com/example/drumline/drumline/model/OverlapPolicy" = some m.cls := hown
  replace hnm : meth.name = "<init>" := hnm
  replace hml : c.maxLocals = 3 := hml
  rw [ef_2 m ob ak xa]
  have N0 := Fr.nil n0
  show G (s₁.setTop (mkF m 0 #[.val (.ref ob), .val (.ref ak), .val (.int xa)] []))
  refine go (fun tg kg => XS.aloadN X0.here hx rfl (hb hby d2_0) rfl rfl kg) ?_
  show G (s₁.setTop (mkF m 1 #[.val (.ref ob), .val (.ref ak), .val (.int xa)] [(.ref ob)]))
  obtain ⟨T1, X1, e1, st1⟩ := initO X0 hx hZ hown (hw _ (List.mem_of_getElem? (i := 13) rfl)) (hw _ (List.mem_of_getElem? (i := 14) rfl)) (hw _ (List.mem_of_getElem? (i := 15) rfl)) e0 (g := (mkF m 1 #[.val (.ref ob), .val (.ref ak), .val (.int xa)] [(.ref ob)])) rfl (by rw [hml]; rfl) rfl (hb hby d2_1) (by decide) (W := 0) (by show 2 * 0 + _ ≤ _; exact Nat.le_of_eq rfl) (by decide)
  refine go st1 ?_
  show G (T1.setTop (mkF m 4 #[.val (.ref ob), .val (.ref ak), .val (.int xa)] []))
  refine go (fun tg kg => XS.aloadN X1.here hx rfl (hb hby d2_4) rfl rfl kg) ?_
  show G (T1.setTop (mkF m 5 #[.val (.ref ob), .val (.ref ak), .val (.int xa)] [(.ref ob)]))
  refine go (fun tg kg => XS.aloadN X1.here hx rfl (hb hby d2_5) rfl rfl kg) ?_
  show G (T1.setTop (mkF m 6 #[.val (.ref ob), .val (.ref ak), .val (.int xa)] [(.ref ak), (.ref ob)]))
  obtain ⟨T2, h2, X2, e2, W2, st2⟩ := putF X1 hx hZ hown (host := "") (Or.inl (hw _ (List.mem_of_getElem? (i := 16) rfl))) Via.refl e1 Fi_kind Ex (Or.inr ⟨(hw _ (List.mem_of_getElem? (i := 17) rfl)), rfl, hnm⟩) (hw _ (List.mem_of_getElem? (i := 6) rfl)) (ty := (.object "com/example/drumline/drumline/model/OverlapPolicy$Kind")) (by decide) rfl rfl (g := (mkF m 6 #[.val (.ref ob), .val (.ref ak), .val (.int xa)] [(.ref ak), (.ref ob)])) rfl rfl (hb hby d2_6)
  refine go st2 ?_
  have Fw2 : Fld Z h2 ob "com/example/drumline/drumline/model/OverlapPolicy" "kind" "Lcom/example/drumline/drumline/model/OverlapPolicy$Kind;" (.ref ak) := Fi_kind.same W2
  have N2 := Fr.snoc X2 N0 g0
  have K2 : Keep h0 h2 [ob] := (Keep.refl h0 [ob]).wr W2 (Or.inl (List.mem_of_getElem? (i := 0) rfl))
  have Z2 := Nat.le_trans Z0 (Keep.of_wr W2).1
  show G (T2.setTop (mkF m 9 #[.val (.ref ob), .val (.ref ak), .val (.int xa)] []))
  refine go (fun tg kg => XS.aloadN X2.here hx rfl (hb hby d2_9) rfl rfl kg) ?_
  show G (T2.setTop (mkF m 10 #[.val (.ref ob), .val (.ref ak), .val (.int xa)] [(.ref ob)]))
  refine go (fun tg kg => XS.iloadN X2.here hx rfl (hb hby d2_10) rfl kg) ?_
  show G (T2.setTop (mkF m 11 #[.val (.ref ob), .val (.ref ak), .val (.int xa)] [(.int xa), (.ref ob)]))
  have Fa3 := (Ex.wr W2)
  have Fa4 := (Fi_cap.other W2 (Or.inr (slot_ne (Or.inr (hw _ (List.mem_of_getElem? (i := 19) rfl))) (Or.inr (hw _ (List.mem_of_getElem? (i := 17) rfl))) (by decide) (t := .int) (t' := (.object "com/example/drumline/drumline/model/OverlapPolicy$Kind")) (by decide) (by decide))))
  obtain ⟨T5, h5, X5, e5, W5, st5⟩ := putF X2 hx hZ hown (host := "") (Or.inl (hw _ (List.mem_of_getElem? (i := 18) rfl))) Via.refl e2 Fa4 Fa3 (Or.inr ⟨(hw _ (List.mem_of_getElem? (i := 19) rfl)), rfl, hnm⟩) (hw _ (List.mem_of_getElem? (i := 6) rfl)) (ty := .int) (by decide) rfl rfl (g := (mkF m 11 #[.val (.ref ob), .val (.ref ak), .val (.int xa)] [(.int xa), (.ref ob)])) rfl rfl (hb hby d2_11)
  refine go st5 ?_
  have Fw5 : Fld Z h5 ob "com/example/drumline/drumline/model/OverlapPolicy" "cap" "I" (.int xa) := Fa4.same W5
  have N5 := Fr.snoc X5 N2 g0
  have K5 : Keep h0 h5 [ob] := K2.wr W5 (Or.inl (List.mem_of_getElem? (i := 0) rfl))
  have Z5 := Nat.le_trans Z2 (Keep.of_wr W5).1
  show G (T5.setTop (mkF m 14 #[.val (.ref ob), .val (.ref ak), .val (.int xa)] []))
  refine fin (none) X5 (fun h => rfl) (fun fs hr => X5.returnOut hx hret (hb hby d2_14) hr) (by decide) (by decide) ?_
  rw [e5]
  have Fa6 := (Fa3.wr W5)
  have Fa7 := (Fw2.other W5 (Or.inr (slot_ne (Or.inr (hw _ (List.mem_of_getElem? (i := 17) rfl))) (Or.inr (hw _ (List.mem_of_getElem? (i := 19) rfl))) (by decide) (t := (.object "com/example/drumline/drumline/model/OverlapPolicy$Kind")) (t' := .int) (by decide) (by decide))))
  exact ⟨rfl, N5, K5, Fa6, Fa7, Fw5⟩
theorem ef_1 (m : MethodId) (x0 : Int32) : entryFrame m #[(.int x0)] 1 = mkF m 0 #[.val (.int x0)] [] := by first | (simp [entryFrame, mkF, argsToLocals, Value.category]; done) | rfl
theorem d1_0 : decode prog_37_method_4_code 0 = .ok (.iload_n 0, 1) := by decide +kernel
theorem d1_1 : decode prog_37_method_4_code 1 = .ok (.iconst 1, 1) := by decide +kernel
theorem d1_2 : decode prog_37_method_4_code 2 = .ok (.if_icmp .ge 17, 3) := by decide +kernel
theorem d1_19 : decode prog_37_method_4_code 19 = .ok (.new 8, 3) := by decide +kernel
theorem d1_22 : decode prog_37_method_4_code 22 = .ok (.dup, 1) := by decide +kernel
theorem d1_23 : decode prog_37_method_4_code 23 = .ok (.getstatic 33, 3) := by decide +kernel
theorem d1_26 : decode prog_37_method_4_code 26 = .ok (.iload_n 0, 1) := by decide +kernel
theorem d1_27 : decode prog_37_method_4_code 27 = .ok (.invokespecial 38, 3) := by decide +kernel
theorem pd__Lcom_example_drumline_drumline_model_OverlapPolicy_Kind_I_V : parseMethodDescriptor "(Lcom/example/drumline/drumline/model/OverlapPolicy$Kind;I)V" = some ⟨[(.object "com/example/drumline/drumline/model/OverlapPolicy$Kind"), .int], none⟩ := by decide +kernel
theorem d1_30 : decode prog_37_method_4_code 30 = .ok (.areturn, 1) := by decide +kernel
def Q_rm1 (Z : State) (xa : Int32) (k_PARALLEL : Addr) (h0 : Heap) (n0 : Nat) (v : Option Value) (h : Heap) (L : List Loc) : Prop := ∃ b, v = some (.ref b) ∧ Fr n0 L ∧ Keep h0 h [] ∧ h0.size ≤ b ∧ n0 ≤ b ∧ Exa Z h b "com/example/drumline/drumline/model/OverlapPolicy" ∧ Fld Z h b "com/example/drumline/drumline/model/OverlapPolicy" "kind" "Lcom/example/drumline/drumline/model/OverlapPolicy$Kind;" (.ref k_PARALLEL) ∧ Fld Z h b "com/example/drumline/drumline/model/OverlapPolicy" "cap" "I" (.int xa)
set_option maxRecDepth 65536 in
set_option maxHeartbeats 40000000 in
theorem rm1 (l : Launch) (Z : State) (a0 : Array Value) (hw : ∀ d ∈ tables_1, d.before a0 Z = true) (ws : List Jvm.Cond) (xa : Int32) (k_PARALLEL : Addr) (h0 : Heap) (n0 : Nat) (Z0 : n0 ≤ h0.size) (S_k_PARALLEL : Sta Z h0 "com/example/drumline/drumline/model/OverlapPolicy$Kind" "PARALLEL" "Lcom/example/drumline/drumline/model/OverlapPolicy$Kind;" (.ref k_PARALLEL)) (hge : ¬ xa < (1 : Int32)) :
    MetFree l (⟨"com/example/drumline/drumline/model/OverlapPolicy", "parallel", "(I)Lcom/example/drumline/drumline/model/OverlapPolicy;"⟩ : MethodName) (head1 (Jvm.Cond.code (⟨"com/example/drumline/drumline/model/OverlapPolicy", "parallel", "(I)Lcom/example/drumline/drumline/model/OverlapPolicy;"⟩ : MethodName) prog_37_method_4_code 1 (some (.object "com/example/drumline/drumline/model/OverlapPolicy")) :: ws) ({ frames := 2, cells := 1, slots := 2, locals := 27 } : Room)) (fun a U => a = #[(.int xa)] ∧ Z.Warmed39 U.vm ∧ U.heap = h0) (fun _ _ _ _ _ => True) (fun _ U o U' => ∃ v L, o = .returned v ∧ Q_rm1 Z xa k_PARALLEL h0 n0 v U'.heap L ∧ FrameEnd U o U' L ({ frames := 2, cells := 1, slots := 2, locals := 27 } : Room).cells ({ frames := 2, cells := 1, slots := 2, locals := 27 } : Room).slots) := by
  refine own_enter (Q := Q_rm1 Z xa k_PARALLEL h0 n0) (plainFor_of_name pn_com_example_drumline_drumline_model_OverlapPolicy) ?_
  intro p e s m below meth c s₁ G X0 hx hby hml hZ hown hnm hret e0 go fin
  replace hown : s.vm.findClass "com/example/drumline/drumline/model/OverlapPolicy" = some m.cls := hown
  replace hnm : meth.name = "parallel" := hnm
  replace hml : c.maxLocals = 1 := hml
  rw [ef_1 m xa]
  have N0 := Fr.nil n0
  show G (s₁.setTop (mkF m 0 #[.val (.int xa)] []))
  refine go (fun tg kg => XS.iloadN X0.here hx rfl (hb hby d1_0) rfl kg) ?_
  show G (s₁.setTop (mkF m 1 #[.val (.int xa)] [(.int xa)]))
  refine go (fun tg kg => XS.iconst X0.here hx rfl (hb hby d1_1) kg) ?_
  show G (s₁.setTop (mkF m 2 #[.val (.int xa)] [(.int (1 : Int32)), (.int xa)]))
  refine go (fun tg kg => XS.icmpYes X0.here hx rfl (pc0 := 2) (pc' := 19) rfl (hb hby d1_2) rfl (flt hge).2.1 (by decide) (by decide) kg) ?_
  show G (s₁.setTop (mkF m 19 #[.val (.int xa)] []))
  obtain ⟨T1, h1, X1, e1, E1, A1, D1, -, st1⟩ := newO X0 hx hZ hown (hw _ (List.mem_of_getElem? (i := 5) rfl)) (hw _ (List.mem_of_getElem? (i := 6) rfl)) (hw _ (List.mem_of_getElem? (i := 3) rfl)) e0 (g := (mkF m 19 #[.val (.int xa)] [])) rfl (hb hby d1_19) (by decide) (by decide)
  obtain ⟨b1, g1⟩ : ∃ z, z = h0.size := ⟨_, rfl⟩
  rw [← g1] at A1 D1 st1
  refine go st1 ?_
  have ge_b1 : n0 ≤ b1 := Nat.le_trans Z0 (Nat.le_of_eq g1.symm)
  have sz_b1 : h0.size ≤ b1 := Nat.le_trans (Keep.refl h0 []).1 (Nat.le_of_eq g1.symm)
  have K1 : Keep h0 h1 [] := (Keep.refl h0 []).ext E1
  have Z1 := Nat.le_trans Z0 E1.1
  have F1_kind : Fld Z h1 b1 "com/example/drumline/drumline/model/OverlapPolicy" "kind" "Lcom/example/drumline/drumline/model/OverlapPolicy$Kind;" .null := D1 (Or.inr (hw _ (List.mem_of_getElem? (i := 17) rfl))) (ty := (.object "com/example/drumline/drumline/model/OverlapPolicy$Kind")) (by decide)
  have F1_cap : Fld Z h1 b1 "com/example/drumline/drumline/model/OverlapPolicy" "cap" "I" (.int (0 : Int32)) := D1 (Or.inr (hw _ (List.mem_of_getElem? (i := 19) rfl))) (ty := .int) (by decide)
  show G (T1.setTop (mkF m 22 #[.val (.int xa)] [(.ref b1)]))
  refine go (fun tg kg => XS.dup X1.here hx rfl (hb hby d1_22) rfl rfl kg) ?_
  show G (T1.setTop (mkF m 23 #[.val (.int xa)] [(.ref b1), (.ref b1)]))
  have Fa2 := (S_k_PARALLEL.ext E1)
  obtain ⟨T3, X3, e3, st3⟩ := getS2 X1 hx hZ hown (host := "") (Or.inl (hw _ (List.mem_of_getElem? (i := 7) rfl))) Via.refl e1 Fa2 (g := (mkF m 23 #[.val (.int xa)] [(.ref b1), (.ref b1)])) rfl (hb hby d1_23)
  refine go st3 ?_
  show G (T3.setTop (mkF m 26 #[.val (.int xa)] [(.ref k_PARALLEL), (.ref b1), (.ref b1)]))
  refine go (fun tg kg => XS.iloadN X3.here hx rfl (hb hby d1_26) rfl kg) ?_
  show G (T3.setTop (mkF m 27 #[.val (.int xa)] [(.int xa), (.ref k_PARALLEL), (.ref b1), (.ref b1)]))
  obtain ⟨_, _, ⟨T4, L4, k4, n4⟩, -, X4, ⟨Lc4, hQ4, l4, y4, z4⟩, st4⟩ := X3.specialBack hx (y := (⟨"com/example/drumline/drumline/model/OverlapPolicy", "<init>", "(Lcom/example/drumline/drumline/model/OverlapPolicy$Kind;I)V"⟩ : MethodName)) rfl hown (mvT hZ (hw _ (List.mem_of_getElem? (i := 10) rfl))) (mvT hZ (hw _ (List.mem_of_getElem? (i := 11) rfl))) (mvT hZ (hw _ (List.mem_of_getElem? (i := 12) rfl))) (by decide) (backOf (W := 1) (rm2 l Z a0 hw [] b1 k_PARALLEL xa h1 n0 Z1 A1 ge_b1 F1_kind F1_cap) hZ (hw _ (List.mem_of_getElem? (i := 12) rfl)) (hw _ (List.mem_of_getElem? (i := 3) rfl)) (by decide) (by decide)) (g := (mkF m 27 #[.val (.int xa)] [(.int xa), (.ref k_PARALLEL), (.ref b1), (.ref b1)])) rfl (by rw [hml]; rfl) (Steps.refl _) (a := b1) (argsL := [(.ref k_PARALLEL), (.int xa)]) (rest := [(.ref b1)]) (lenOf pd__Lcom_example_drumline_drumline_model_OverlapPolicy_Kind_I_V rfl) rfl (by show 2 * 0 + _ ≤ _; exact Nat.le_of_eq rfl) (hb hby d1_27) (fun _ _ => ⟨rfl, e3, (by decide : 1 + 0 ≤ _), (by decide : 2 + 0 ≤ _)⟩)
  dsimp only [Pt.U, Pt.locs, Pt.cells, Pt.slots] at X4 l4 y4 z4 st4 hQ4
  subst l4 y4 z4
  obtain ⟨rfl, Nq4, K4, Ge4, Gf4_kind, Gf4_cap⟩ := hQ4
  have Kk4 : Keep h0 T4.heap [] := K1.trans K4 (allS (Or.inr sz_b1) all0)
  have Z4 := Nat.le_trans Z1 K4.1
  have N4 := Fr.app N0 Nq4
  refine go (fun tg kg => st4.trans kg) ?_
  show G (T4.setTop (mkF m 30 #[.val (.int xa)] [(.ref b1)]))
  refine fin (some (.ref b1)) X4 (fun h => absurd h (by decide)) (fun fs hr => retOut X4 hx hret rfl (Or.inr (Or.inr (Or.inr (Or.inr ⟨rfl, rfl, rfl⟩)))) (hb hby d1_30) hr) (by decide) (by decide) ?_
  exact ⟨b1, rfl, N4, Kk4, sz_b1, ge_b1, Ge4, Gf4_kind, Gf4_cap⟩
theorem ef_4 (m : MethodId) (x0 : Addr) : entryFrame m #[(.ref x0)] 1 = mkF m 0 #[.val (.ref x0)] [] := by first | (simp [entryFrame, mkF, argsToLocals, Value.category]; done) | rfl
theorem d4_0 : decode prog_37_method_5_code 0 = .ok (.aload_n 0, 1) := by decide +kernel
theorem d4_1 : decode prog_37_method_5_code 1 = .ok (.getfield 7, 3) := by decide +kernel
theorem d4_4 : decode prog_37_method_5_code 4 = .ok (.areturn, 1) := by decide +kernel
def Q_rm4 (Z : State) (ob : Addr) (yv : Addr) (h0 : Heap) (n0 : Nat) (v : Option Value) (h : Heap) (L : List Loc) : Prop := v = some (.ref yv) ∧ Fr n0 L ∧ h = h0
set_option maxRecDepth 65536 in
set_option maxHeartbeats 40000000 in
theorem rm4 (l : Launch) (Z : State) (a0 : Array Value) (hw : ∀ d ∈ tables_1, d.before a0 Z = true) (ws : List Jvm.Cond) (ob : Addr) (yv : Addr) (h0 : Heap) (n0 : Nat) (Z0 : n0 ≤ h0.size) (Fi : Fld Z h0 ob "com/example/drumline/drumline/model/OverlapPolicy" "kind" "Lcom/example/drumline/drumline/model/OverlapPolicy$Kind;" (.ref yv)) :
    MetFree l (⟨"com/example/drumline/drumline/model/OverlapPolicy", "kind", "()Lcom/example/drumline/drumline/model/OverlapPolicy$Kind;"⟩ : MethodName) (head1 (Jvm.Cond.code (⟨"com/example/drumline/drumline/model/OverlapPolicy", "kind", "()Lcom/example/drumline/drumline/model/OverlapPolicy$Kind;"⟩ : MethodName) prog_37_method_5_code 1 (some (.object "com/example/drumline/drumline/model/OverlapPolicy$Kind")) :: ws) ({ frames := 0, cells := 0, slots := 0, locals := 0 } : Room)) (fun a U => a = #[(.ref ob)] ∧ Z.Warmed39 U.vm ∧ U.heap = h0) (fun _ _ _ _ _ => True) (fun _ U o U' => ∃ v L, o = .returned v ∧ Q_rm4 Z ob yv h0 n0 v U'.heap L ∧ FrameEnd U o U' L ({ frames := 0, cells := 0, slots := 0, locals := 0 } : Room).cells ({ frames := 0, cells := 0, slots := 0, locals := 0 } : Room).slots) := by
  refine own_enter (Q := Q_rm4 Z ob yv h0 n0) (plainFor_of_name pn_com_example_drumline_drumline_model_OverlapPolicy) ?_
  intro p e s m below meth c s₁ G X0 hx hby hml hZ hown hnm hret e0 go fin
  replace hown : s.vm.findClass "com/example/drumline/drumline/model/OverlapPolicy" = some m.cls := hown
  replace hnm : meth.name = "kind" := hnm
  replace hml : c.maxLocals = 1 := hml
  rw [ef_4 m ob]
  have N0 := Fr.nil n0
  show G (s₁.setTop (mkF m 0 #[.val (.ref ob)] []))
  refine go (fun tg kg => XS.aloadN X0.here hx rfl (hb hby d4_0) rfl rfl kg) ?_
  show G (s₁.setTop (mkF m 1 #[.val (.ref ob)] [(.ref ob)]))
  obtain ⟨T1, X1, e1, st1⟩ := getF X0 hx hZ hown (host := "") (Or.inl (hw _ (List.mem_of_getElem? (i := 16) rfl))) Via.refl e0 Fi (g := (mkF m 1 #[.val (.ref ob)] [(.ref ob)])) rfl rfl (hb hby d4_1)
  refine go st1 ?_
  show G (T1.setTop (mkF m 4 #[.val (.ref ob)] [(.ref yv)]))
  refine fin (some (.ref yv)) X1 (fun h => absurd h (by decide)) (fun fs hr => retOut X1 hx hret rfl (Or.inr (Or.inr (Or.inr (Or.inr ⟨rfl, rfl, rfl⟩)))) (hb hby d4_4) hr) (by decide) (by decide) ?_
  rw [e1]
  exact ⟨rfl, N0, rfl⟩
theorem ef_5 (m : MethodId) (x0 : Addr) : entryFrame m #[(.ref x0)] 1 = mkF m 0 #[.val (.ref x0)] [] := by first | (simp [entryFrame, mkF, argsToLocals, Value.category]; done) | rfl
theorem d5_0 : decode prog_37_method_6_code 0 = .ok (.aload_n 0, 1) := by decide +kernel
theorem d5_1 : decode prog_37_method_6_code 1 = .ok (.getfield 13, 3) := by decide +kernel
theorem d5_4 : decode prog_37_method_6_code 4 = .ok (.ireturn, 1) := by decide +kernel
def Q_rm5 (Z : State) (ob : Addr) (yv : Int32) (h0 : Heap) (n0 : Nat) (v : Option Value) (h : Heap) (L : List Loc) : Prop := v = some (.int yv) ∧ Fr n0 L ∧ h = h0
set_option maxRecDepth 65536 in
set_option maxHeartbeats 40000000 in
theorem rm5 (l : Launch) (Z : State) (a0 : Array Value) (hw : ∀ d ∈ tables_1, d.before a0 Z = true) (ws : List Jvm.Cond) (ob : Addr) (yv : Int32) (h0 : Heap) (n0 : Nat) (Z0 : n0 ≤ h0.size) (Fi : Fld Z h0 ob "com/example/drumline/drumline/model/OverlapPolicy" "cap" "I" (.int yv)) :
    MetFree l (⟨"com/example/drumline/drumline/model/OverlapPolicy", "cap", "()I"⟩ : MethodName) (head1 (Jvm.Cond.code (⟨"com/example/drumline/drumline/model/OverlapPolicy", "cap", "()I"⟩ : MethodName) prog_37_method_6_code 1 (some .int) :: ws) ({ frames := 0, cells := 0, slots := 0, locals := 0 } : Room)) (fun a U => a = #[(.ref ob)] ∧ Z.Warmed39 U.vm ∧ U.heap = h0) (fun _ _ _ _ _ => True) (fun _ U o U' => ∃ v L, o = .returned v ∧ Q_rm5 Z ob yv h0 n0 v U'.heap L ∧ FrameEnd U o U' L ({ frames := 0, cells := 0, slots := 0, locals := 0 } : Room).cells ({ frames := 0, cells := 0, slots := 0, locals := 0 } : Room).slots) := by
  refine own_enter (Q := Q_rm5 Z ob yv h0 n0) (plainFor_of_name pn_com_example_drumline_drumline_model_OverlapPolicy) ?_
  intro p e s m below meth c s₁ G X0 hx hby hml hZ hown hnm hret e0 go fin
  replace hown : s.vm.findClass "com/example/drumline/drumline/model/OverlapPolicy" = some m.cls := hown
  replace hnm : meth.name = "cap" := hnm
  replace hml : c.maxLocals = 1 := hml
  rw [ef_5 m ob]
  have N0 := Fr.nil n0
  show G (s₁.setTop (mkF m 0 #[.val (.ref ob)] []))
  refine go (fun tg kg => XS.aloadN X0.here hx rfl (hb hby d5_0) rfl rfl kg) ?_
  show G (s₁.setTop (mkF m 1 #[.val (.ref ob)] [(.ref ob)]))
  obtain ⟨T1, X1, e1, st1⟩ := getF X0 hx hZ hown (host := "") (Or.inl (hw _ (List.mem_of_getElem? (i := 18) rfl))) Via.refl e0 Fi (g := (mkF m 1 #[.val (.ref ob)] [(.ref ob)])) rfl rfl (hb hby d5_1)
  refine go st1 ?_
  show G (T1.setTop (mkF m 4 #[.val (.ref ob)] [(.int yv)]))
  refine fin (some (.int yv)) X1 (fun h => absurd h (by decide)) (fun fs hr => retOut X1 hx hret rfl (Or.inl ⟨rfl, Or.inl rfl, _, rfl⟩) (hb hby d5_4) hr) (by decide) (by decide) ?_
  rw [e1]
  exact ⟨rfl, N0, rfl⟩
theorem ef_7 (m : MethodId)  : entryFrame m #[] 0 = mkF m 0 #[] [] := by first | (simp [entryFrame, mkF, argsToLocals, Value.category]; done) | rfl
theorem d7_0 : decode prog_37_method_2_code 0 = .ok (.getstatic 17, 3) := by decide +kernel
theorem d7_3 : decode prog_37_method_2_code 3 = .ok (.areturn, 1) := by decide +kernel
def Q_rm7 (Z : State) (u_QUEUE : Addr) (h0 : Heap) (n0 : Nat) (v : Option Value) (h : Heap) (L : List Loc) : Prop := v = some (.ref u_QUEUE) ∧ Fr n0 L ∧ h = h0
set_option maxRecDepth 65536 in
set_option maxHeartbeats 40000000 in
theorem rm7 (l : Launch) (Z : State) (a0 : Array Value) (hw : ∀ d ∈ tables_1, d.before a0 Z = true) (ws : List Jvm.Cond) (u_QUEUE : Addr) (h0 : Heap) (n0 : Nat) (Z0 : n0 ≤ h0.size) (S_u_QUEUE : Sta Z h0 "com/example/drumline/drumline/model/OverlapPolicy" "QUEUE" "Lcom/example/drumline/drumline/model/OverlapPolicy;" (.ref u_QUEUE)) :
    MetFree l (⟨"com/example/drumline/drumline/model/OverlapPolicy", "queue", "()Lcom/example/drumline/drumline/model/OverlapPolicy;"⟩ : MethodName) (head1 (Jvm.Cond.code (⟨"com/example/drumline/drumline/model/OverlapPolicy", "queue", "()Lcom/example/drumline/drumline/model/OverlapPolicy;"⟩ : MethodName) prog_37_method_2_code 0 (some (.object "com/example/drumline/drumline/model/OverlapPolicy")) :: ws) ({ frames := 0, cells := 0, slots := 0, locals := 0 } : Room)) (fun a U => a = #[] ∧ Z.Warmed39 U.vm ∧ U.heap = h0) (fun _ _ _ _ _ => True) (fun _ U o U' => ∃ v L, o = .returned v ∧ Q_rm7 Z u_QUEUE h0 n0 v U'.heap L ∧ FrameEnd U o U' L ({ frames := 0, cells := 0, slots := 0, locals := 0 } : Room).cells ({ frames := 0, cells := 0, slots := 0, locals := 0 } : Room).slots) := by
  refine own_enter (Q := Q_rm7 Z u_QUEUE h0 n0) (plainFor_of_name pn_com_example_drumline_drumline_model_OverlapPolicy) ?_
  intro p e s m below meth c s₁ G X0 hx hby hml hZ hown hnm hret e0 go fin
  replace hown : s.vm.findClass "com/example/drumline/drumline/model/OverlapPolicy" = some m.cls := hown
  replace hnm : meth.name = "queue" := hnm
  replace hml : c.maxLocals = 0 := hml
  rw [ef_7 m ]
  have N0 := Fr.nil n0
  show G (s₁.setTop (mkF m 0 #[] []))
  obtain ⟨T1, X1, e1, st1⟩ := getS2 X0 hx hZ hown (host := "") (Or.inl (hw _ (List.mem_of_getElem? (i := 40) rfl))) Via.refl e0 S_u_QUEUE (g := (mkF m 0 #[] [])) rfl (hb hby d7_0)
  refine go st1 ?_
  show G (T1.setTop (mkF m 3 #[] [(.ref u_QUEUE)]))
  refine fin (some (.ref u_QUEUE)) X1 (fun h => absurd h (by decide)) (fun fs hr => retOut X1 hx hret rfl (Or.inr (Or.inr (Or.inr (Or.inr ⟨rfl, rfl, rfl⟩)))) (hb hby d7_3) hr) (by decide) (by decide) ?_
  rw [e1]
  exact ⟨rfl, N0, rfl⟩
theorem ef_8 (m : MethodId)  : entryFrame m #[] 0 = mkF m 0 #[] [] := by first | (simp [entryFrame, mkF, argsToLocals, Value.category]; done) | rfl
theorem d8_0 : decode prog_37_method_3_code 0 = .ok (.getstatic 21, 3) := by decide +kernel
theorem d8_3 : decode prog_37_method_3_code 3 = .ok (.areturn, 1) := by decide +kernel
def Q_rm8 (Z : State) (u_SKIP : Addr) (h0 : Heap) (n0 : Nat) (v : Option Value) (h : Heap) (L : List Loc) : Prop := v = some (.ref u_SKIP) ∧ Fr n0 L ∧ h = h0
set_option maxRecDepth 65536 in
set_option maxHeartbeats 40000000 in
theorem rm8 (l : Launch) (Z : State) (a0 : Array Value) (hw : ∀ d ∈ tables_1, d.before a0 Z = true) (ws : List Jvm.Cond) (u_SKIP : Addr) (h0 : Heap) (n0 : Nat) (Z0 : n0 ≤ h0.size) (S_u_SKIP : Sta Z h0 "com/example/drumline/drumline/model/OverlapPolicy" "SKIP" "Lcom/example/drumline/drumline/model/OverlapPolicy;" (.ref u_SKIP)) :
    MetFree l (⟨"com/example/drumline/drumline/model/OverlapPolicy", "skip", "()Lcom/example/drumline/drumline/model/OverlapPolicy;"⟩ : MethodName) (head1 (Jvm.Cond.code (⟨"com/example/drumline/drumline/model/OverlapPolicy", "skip", "()Lcom/example/drumline/drumline/model/OverlapPolicy;"⟩ : MethodName) prog_37_method_3_code 0 (some (.object "com/example/drumline/drumline/model/OverlapPolicy")) :: ws) ({ frames := 0, cells := 0, slots := 0, locals := 0 } : Room)) (fun a U => a = #[] ∧ Z.Warmed39 U.vm ∧ U.heap = h0) (fun _ _ _ _ _ => True) (fun _ U o U' => ∃ v L, o = .returned v ∧ Q_rm8 Z u_SKIP h0 n0 v U'.heap L ∧ FrameEnd U o U' L ({ frames := 0, cells := 0, slots := 0, locals := 0 } : Room).cells ({ frames := 0, cells := 0, slots := 0, locals := 0 } : Room).slots) := by
  refine own_enter (Q := Q_rm8 Z u_SKIP h0 n0) (plainFor_of_name pn_com_example_drumline_drumline_model_OverlapPolicy) ?_
  intro p e s m below meth c s₁ G X0 hx hby hml hZ hown hnm hret e0 go fin
  replace hown : s.vm.findClass "com/example/drumline/drumline/model/OverlapPolicy" = some m.cls := hown
  replace hnm : meth.name = "skip" := hnm
  replace hml : c.maxLocals = 0 := hml
  rw [ef_8 m ]
  have N0 := Fr.nil n0
  show G (s₁.setTop (mkF m 0 #[] []))
  obtain ⟨T1, X1, e1, st1⟩ := getS2 X0 hx hZ hown (host := "") (Or.inl (hw _ (List.mem_of_getElem? (i := 46) rfl))) Via.refl e0 S_u_SKIP (g := (mkF m 0 #[] [])) rfl (hb hby d8_0)
  refine go st1 ?_
  show G (T1.setTop (mkF m 3 #[] [(.ref u_SKIP)]))
  refine fin (some (.ref u_SKIP)) X1 (fun h => absurd h (by decide)) (fun fs hr => retOut X1 hx hret rfl (Or.inr (Or.inr (Or.inr (Or.inr ⟨rfl, rfl, rfl⟩)))) (hb hby d8_3) hr) (by decide) (by decide) ?_
  rw [e1]
  exact ⟨rfl, N0, rfl⟩
theorem ef_6 (m : MethodId) (x0 : Addr) (x1 : Addr) : entryFrame m #[(.ref x0), (.ref x1)] 3 = mkF m 0 #[.val (.ref x0), .val (.ref x1), .unset] [] := by first | (simp [entryFrame, mkF, argsToLocals, Value.category]; done) | rfl
theorem d6_0 : decode prog_37_method_7_code 0 = .ok (.aload_n 1, 1) := by decide +kernel
theorem d6_1 : decode prog_37_method_7_code 1 = .ok (.instanceof 8, 3) := by decide +kernel
theorem d6_4 : decode prog_37_method_7_code 4 = .ok (.ifCond .eq 34, 3) := by decide +kernel
theorem d6_7 : decode prog_37_method_7_code 7 = .ok (.aload_n 1, 1) := by decide +kernel
theorem d6_8 : decode prog_37_method_7_code 8 = .ok (.checkcast 8, 3) := by decide +kernel
theorem d6_11 : decode prog_37_method_7_code 11 = .ok (.astore_n 2, 1) := by decide +kernel
theorem d6_12 : decode prog_37_method_7_code 12 = .ok (.aload_n 0, 1) := by decide +kernel
theorem d6_13 : decode prog_37_method_7_code 13 = .ok (.getfield 7, 3) := by decide +kernel
theorem d6_16 : decode prog_37_method_7_code 16 = .ok (.aload_n 2, 1) := by decide +kernel
theorem d6_17 : decode prog_37_method_7_code 17 = .ok (.getfield 7, 3) := by decide +kernel
theorem d6_20 : decode prog_37_method_7_code 20 = .ok (.if_acmp .ne 18, 3) := by decide +kernel
theorem d6_23 : decode prog_37_method_7_code 23 = .ok (.aload_n 0, 1) := by decide +kernel
theorem d6_24 : decode prog_37_method_7_code 24 = .ok (.getfield 13, 3) := by decide +kernel
theorem d6_27 : decode prog_37_method_7_code 27 = .ok (.aload_n 2, 1) := by decide +kernel
theorem d6_28 : decode prog_37_method_7_code 28 = .ok (.getfield 13, 3) := by decide +kernel
theorem d6_31 : decode prog_37_method_7_code 31 = .ok (.if_icmp .ne 7, 3) := by decide +kernel
theorem d6_34 : decode prog_37_method_7_code 34 = .ok (.iconst 1, 1) := by decide +kernel
theorem d6_35 : decode prog_37_method_7_code 35 = .ok (.goto 4, 3) := by decide +kernel
theorem d6_39 : decode prog_37_method_7_code 39 = .ok (.ireturn, 1) := by decide +kernel
theorem d6_38 : decode prog_37_method_7_code 38 = .ok (.iconst 0, 1) := by decide +kernel
def Q_rm6_1 (Z : State) (ob : Addr) (oc : Addr) (ka : Addr) (xa : Int32) (xb : Int32) (h0 : Heap) (n0 : Nat) (v : Option Value) (h : Heap) (L : List Loc) : Prop := v = some (.int (own_eqv ka ka xa xb)) ∧ Fr n0 L ∧ h = h0
set_option maxRecDepth 65536 in
set_option maxHeartbeats 40000000 in
theorem rm6_1 (l : Launch) (Z : State) (a0 : Array Value) (hw : ∀ d ∈ tables_1, d.before a0 Z = true) (ws : List Jvm.Cond) (ob : Addr) (oc : Addr) (ka : Addr) (xa : Int32) (xb : Int32) (h0 : Heap) (n0 : Nat) (Z0 : n0 ≤ h0.size) (Ec : Exa Z h0 oc "com/example/drumline/drumline/model/OverlapPolicy") (Fk : Fld Z h0 ob "com/example/drumline/drumline/model/OverlapPolicy" "kind" "Lcom/example/drumline/drumline/model/OverlapPolicy$Kind;" (.ref ka)) (Gk : Fld Z h0 oc "com/example/drumline/drumline/model/OverlapPolicy" "kind" "Lcom/example/drumline/drumline/model/OverlapPolicy$Kind;" (.ref ka)) (Fc : Fld Z h0 ob "com/example/drumline/drumline/model/OverlapPolicy" "cap" "I" (.int xa)) (Gc : Fld Z h0 oc "com/example/drumline/drumline/model/OverlapPolicy" "cap" "I" (.int xb)) :
    MetFree l (⟨"com/example/drumline/drumline/model/OverlapPolicy", "equals", "(Ljava/lang/Object;)Z"⟩ : MethodName) (head1 (Jvm.Cond.code (⟨"com/example/drumline/drumline/model/OverlapPolicy", "equals", "(Ljava/lang/Object;)Z"⟩ : MethodName) prog_37_method_7_code 3 (some .boolean) :: ws) ({ frames := 0, cells := 0, slots := 0, locals := 0 } : Room)) (fun a U => a = #[(.ref ob), (.ref oc)] ∧ Z.Warmed39 U.vm ∧ U.heap = h0) (fun _ _ _ _ _ => True) (fun _ U o U' => ∃ v L, o = .returned v ∧ Q_rm6_1 Z ob oc ka xa xb h0 n0 v U'.heap L ∧ FrameEnd U o U' L ({ frames := 0, cells := 0, slots := 0, locals := 0 } : Room).cells ({ frames := 0, cells := 0, slots := 0, locals := 0 } : Room).slots) := by
  refine own_enter (Q := Q_rm6_1 Z ob oc ka xa xb h0 n0) (plainFor_of_name pn_com_example_drumline_drumline_model_OverlapPolicy) ?_
  intro p e s m below meth c s₁ G X0 hx hby hml hZ hown hnm hret e0 go fin
  replace hown : s.vm.findClass "com/example/drumline/drumline/model/OverlapPolicy" = some m.cls := hown
  replace hnm : meth.name = "equals" := hnm
  replace hml : c.maxLocals = 3 := hml
  rw [ef_6 m ob oc]
  have N0 := Fr.nil n0
  show G (s₁.setTop (mkF m 0 #[.val (.ref ob), .val (.ref oc), .unset] []))
  refine go (fun tg kg => XS.aloadN X0.here hx rfl (hb hby d6_0) rfl rfl kg) ?_
  show G (s₁.setTop (mkF m 1 #[.val (.ref ob), .val (.ref oc), .unset] [(.ref oc)]))
  obtain ⟨T1, X1, e1, st1⟩ := instY X0 hx hZ hown (hw _ (List.mem_of_getElem? (i := 5) rfl)) e0 (Ins.self Ec) (g := (mkF m 1 #[.val (.ref ob), .val (.ref oc), .unset] [(.ref oc)])) rfl rfl (hb hby d6_1)
  refine go st1 ?_
  show G (T1.setTop (mkF m 4 #[.val (.ref ob), .val (.ref oc), .unset] [(.int (1 : Int32))]))
  refine go (fun tg kg => XS.ifNo X1.here hx rfl (hb hby d6_4) rfl ((if0 _ _).trans (feq (by decide)).1) kg) ?_
  show G (T1.setTop (mkF m 7 #[.val (.ref ob), .val (.ref oc), .unset] []))
  refine go (fun tg kg => XS.aloadN X1.here hx rfl (hb hby d6_7) rfl rfl kg) ?_
  show G (T1.setTop (mkF m 8 #[.val (.ref ob), .val (.ref oc), .unset] [(.ref oc)]))
  obtain ⟨T2, X2, e2, st2⟩ := castY X1 hx hZ hown (hw _ (List.mem_of_getElem? (i := 5) rfl)) e1 (Ins.self Ec) (g := (mkF m 8 #[.val (.ref ob), .val (.ref oc), .unset] [(.ref oc)])) rfl rfl (hb hby d6_8)
  refine go st2 ?_
  show G (T2.setTop (mkF m 11 #[.val (.ref ob), .val (.ref oc), .unset] [(.ref oc)]))
  refine go (fun tg kg => XS.astoreN X2.here hx rfl (hb hby d6_11) rfl rfl (l' := #[.val (.ref ob), .val (.ref oc), .val (.ref oc)]) rfl kg) ?_
  show G (T2.setTop (mkF m 12 #[.val (.ref ob), .val (.ref oc), .val (.ref oc)] []))
  refine go (fun tg kg => XS.aloadN X2.here hx rfl (hb hby d6_12) rfl rfl kg) ?_
  show G (T2.setTop (mkF m 13 #[.val (.ref ob), .val (.ref oc), .val (.ref oc)] [(.ref ob)]))
  obtain ⟨T3, X3, e3, st3⟩ := getF X2 hx hZ hown (host := "") (Or.inl (hw _ (List.mem_of_getElem? (i := 16) rfl))) Via.refl e2 Fk (g := (mkF m 13 #[.val (.ref ob), .val (.ref oc), .val (.ref oc)] [(.ref ob)])) rfl rfl (hb hby d6_13)
  refine go st3 ?_
  show G (T3.setTop (mkF m 16 #[.val (.ref ob), .val (.ref oc), .val (.ref oc)] [(.ref ka)]))
  refine go (fun tg kg => XS.aloadN X3.here hx rfl (hb hby d6_16) rfl rfl kg) ?_
  show G (T3.setTop (mkF m 17 #[.val (.ref ob), .val (.ref oc), .val (.ref oc)] [(.ref oc), (.ref ka)]))
  obtain ⟨T4, X4, e4, st4⟩ := getF X3 hx hZ hown (host := "") (Or.inl (hw _ (List.mem_of_getElem? (i := 16) rfl))) Via.refl e3 Gk (g := (mkF m 17 #[.val (.ref ob), .val (.ref oc), .val (.ref oc)] [(.ref oc), (.ref ka)])) rfl rfl (hb hby d6_17)
  refine go st4 ?_
  show G (T4.setTop (mkF m 20 #[.val (.ref ob), .val (.ref oc), .val (.ref oc)] [(.ref ka), (.ref ka)]))
  refine go (fun tg kg => Jvm.RoadKit.acmp (g := (mkF m 20 #[.val (.ref ob), .val (.ref oc), .val (.ref oc)] [(.ref ka), (.ref ka)])) X4 hx rfl rfl rfl (pc0 := 20) (pc' := 23) (same := true) rfl (hb hby d6_20) rfl (decide_eq_true rfl) (by decide) (by decide) kg) ?_
  show G (T4.setTop (mkF m 23 #[.val (.ref ob), .val (.ref oc), .val (.ref oc)] []))
  refine go (fun tg kg => XS.aloadN X4.here hx rfl (hb hby d6_23) rfl rfl kg) ?_
  show G (T4.setTop (mkF m 24 #[.val (.ref ob), .val (.ref oc), .val (.ref oc)] [(.ref ob)]))
  obtain ⟨T5, X5, e5, st5⟩ := getF X4 hx hZ hown (host := "") (Or.inl (hw _ (List.mem_of_getElem? (i := 18) rfl))) Via.refl e4 Fc (g := (mkF m 24 #[.val (.ref ob), .val (.ref oc), .val (.ref oc)] [(.ref ob)])) rfl rfl (hb hby d6_24)
  refine go st5 ?_
  show G (T5.setTop (mkF m 27 #[.val (.ref ob), .val (.ref oc), .val (.ref oc)] [(.int xa)]))
  refine go (fun tg kg => XS.aloadN X5.here hx rfl (hb hby d6_27) rfl rfl kg) ?_
  show G (T5.setTop (mkF m 28 #[.val (.ref ob), .val (.ref oc), .val (.ref oc)] [(.ref oc), (.int xa)]))
  obtain ⟨T6, X6, e6, st6⟩ := getF X5 hx hZ hown (host := "") (Or.inl (hw _ (List.mem_of_getElem? (i := 18) rfl))) Via.refl e5 Gc (g := (mkF m 28 #[.val (.ref ob), .val (.ref oc), .val (.ref oc)] [(.ref oc), (.int xa)])) rfl rfl (hb hby d6_28)
  refine go st6 ?_
  show G (T6.setTop (mkF m 31 #[.val (.ref ob), .val (.ref oc), .val (.ref oc)] [(.int xb), (.int xa)]))
  by_cases hc7 : xa = xb
  · refine go (fun tg kg => XS.icmpNo X6.here hx rfl (hb hby d6_31) rfl (teq hc7).2 kg) ?_
    show G (T6.setTop (mkF m 34 #[.val (.ref ob), .val (.ref oc), .val (.ref oc)] []))
    refine go (fun tg kg => XS.iconst X6.here hx rfl (hb hby d6_34) kg) ?_
    show G (T6.setTop (mkF m 35 #[.val (.ref ob), .val (.ref oc), .val (.ref oc)] [(.int (1 : Int32))]))
    refine go (fun tg kg => XS.goto X6.here hx rfl (pc0 := 35) (pc' := 39) rfl (hb hby d6_35) (by decide) (by decide) kg) ?_
    show G (T6.setTop (mkF m 39 #[.val (.ref ob), .val (.ref oc), .val (.ref oc)] [(.int (1 : Int32))]))
    refine fin (some (.int (1 : Int32))) X6 (fun h => absurd h (by decide)) (fun fs hr => retN X6 hx (t := .boolean) hret (by simp) (hb hby d6_39) hr) (by decide) (by decide) ?_
    rw [e6]
    exact ⟨by simp [own_eqv, hc7], N0, rfl⟩
  · refine go (fun tg kg => XS.icmpYes X6.here hx rfl (pc0 := 31) (pc' := 38) rfl (hb hby d6_31) rfl (feq hc7).2 (by decide) (by decide) kg) ?_
    show G (T6.setTop (mkF m 38 #[.val (.ref ob), .val (.ref oc), .val (.ref oc)] []))
    refine go (fun tg kg => XS.iconst X6.here hx rfl (hb hby d6_38) kg) ?_
    show G (T6.setTop (mkF m 39 #[.val (.ref ob), .val (.ref oc), .val (.ref oc)] [(.int (0 : Int32))]))
    refine fin (some (.int (0 : Int32))) X6 (fun h => absurd h (by decide)) (fun fs hr => retN X6 hx (t := .boolean) hret (by simp) (hb hby d6_39) hr) (by decide) (by decide) ?_
    rw [e6]
    exact ⟨by simp [own_eqv, hc7], N0, rfl⟩
def Q_rm6_0 (Z : State) (ob : Addr) (oc : Addr) (ka : Addr) (kb : Addr) (h0 : Heap) (n0 : Nat) (v : Option Value) (h : Heap) (L : List Loc) : Prop := v = some (.int 0) ∧ Fr n0 L ∧ h = h0
set_option maxRecDepth 65536 in
set_option maxHeartbeats 40000000 in
theorem rm6_0 (l : Launch) (Z : State) (a0 : Array Value) (hw : ∀ d ∈ tables_1, d.before a0 Z = true) (ws : List Jvm.Cond) (ob : Addr) (oc : Addr) (ka : Addr) (kb : Addr) (h0 : Heap) (n0 : Nat) (Z0 : n0 ≤ h0.size) (Ec : Exa Z h0 oc "com/example/drumline/drumline/model/OverlapPolicy") (Fk : Fld Z h0 ob "com/example/drumline/drumline/model/OverlapPolicy" "kind" "Lcom/example/drumline/drumline/model/OverlapPolicy$Kind;" (.ref ka)) (Gk : Fld Z h0 oc "com/example/drumline/drumline/model/OverlapPolicy" "kind" "Lcom/example/drumline/drumline/model/OverlapPolicy$Kind;" (.ref kb)) (hk : ¬ ka = kb) :
    MetFree l (⟨"com/example/drumline/drumline/model/OverlapPolicy", "equals", "(Ljava/lang/Object;)Z"⟩ : MethodName) (head1 (Jvm.Cond.code (⟨"com/example/drumline/drumline/model/OverlapPolicy", "equals", "(Ljava/lang/Object;)Z"⟩ : MethodName) prog_37_method_7_code 3 (some .boolean) :: ws) ({ frames := 0, cells := 0, slots := 0, locals := 0 } : Room)) (fun a U => a = #[(.ref ob), (.ref oc)] ∧ Z.Warmed39 U.vm ∧ U.heap = h0) (fun _ _ _ _ _ => True) (fun _ U o U' => ∃ v L, o = .returned v ∧ Q_rm6_0 Z ob oc ka kb h0 n0 v U'.heap L ∧ FrameEnd U o U' L ({ frames := 0, cells := 0, slots := 0, locals := 0 } : Room).cells ({ frames := 0, cells := 0, slots := 0, locals := 0 } : Room).slots) := by
  refine own_enter (Q := Q_rm6_0 Z ob oc ka kb h0 n0) (plainFor_of_name pn_com_example_drumline_drumline_model_OverlapPolicy) ?_
  intro p e s m below meth c s₁ G X0 hx hby hml hZ hown hnm hret e0 go fin
  replace hown : s.vm.findClass "com/example/drumline/drumline/model/OverlapPolicy" = some m.cls := hown
  replace hnm : meth.name = "equals" := hnm
  replace hml : c.maxLocals = 3 := hml
  rw [ef_6 m ob oc]
  have N0 := Fr.nil n0
  show G (s₁.setTop (mkF m 0 #[.val (.ref ob), .val (.ref oc), .unset] []))
  refine go (fun tg kg => XS.aloadN X0.here hx rfl (hb hby d6_0) rfl rfl kg) ?_
  show G (s₁.setTop (mkF m 1 #[.val (.ref ob), .val (.ref oc), .unset] [(.ref oc)]))
  obtain ⟨T1, X1, e1, st1⟩ := instY X0 hx hZ hown (hw _ (List.mem_of_getElem? (i := 5) rfl)) e0 (Ins.self Ec) (g := (mkF m 1 #[.val (.ref ob), .val (.ref oc), .unset] [(.ref oc)])) rfl rfl (hb hby d6_1)
  refine go st1 ?_
  show G (T1.setTop (mkF m 4 #[.val (.ref ob), .val (.ref oc), .unset] [(.int (1 : Int32))]))
  refine go (fun tg kg => XS.ifNo X1.here hx rfl (hb hby d6_4) rfl ((if0 _ _).trans (feq (by decide)).1) kg) ?_
  show G (T1.setTop (mkF m 7 #[.val (.ref ob), .val (.ref oc), .unset] []))
  refine go (fun tg kg => XS.aloadN X1.here hx rfl (hb hby d6_7) rfl rfl kg) ?_
  show G (T1.setTop (mkF m 8 #[.val (.ref ob), .val (.ref oc), .unset] [(.ref oc)]))
  obtain ⟨T2, X2, e2, st2⟩ := castY X1 hx hZ hown (hw _ (List.mem_of_getElem? (i := 5) rfl)) e1 (Ins.self Ec) (g := (mkF m 8 #[.val (.ref ob), .val (.ref oc), .unset] [(.ref oc)])) rfl rfl (hb hby d6_8)
  refine go st2 ?_
  show G (T2.setTop (mkF m 11 #[.val (.ref ob), .val (.ref oc), .unset] [(.ref oc)]))
  refine go (fun tg kg => XS.astoreN X2.here hx rfl (hb hby d6_11) rfl rfl (l' := #[.val (.ref ob), .val (.ref oc), .val (.ref oc)]) rfl kg) ?_
  show G (T2.setTop (mkF m 12 #[.val (.ref ob), .val (.ref oc), .val (.ref oc)] []))
  refine go (fun tg kg => XS.aloadN X2.here hx rfl (hb hby d6_12) rfl rfl kg) ?_
  show G (T2.setTop (mkF m 13 #[.val (.ref ob), .val (.ref oc), .val (.ref oc)] [(.ref ob)]))
  obtain ⟨T3, X3, e3, st3⟩ := getF X2 hx hZ hown (host := "") (Or.inl (hw _ (List.mem_of_getElem? (i := 16) rfl))) Via.refl e2 Fk (g := (mkF m 13 #[.val (.ref ob), .val (.ref oc), .val (.ref oc)] [(.ref ob)])) rfl rfl (hb hby d6_13)
  refine go st3 ?_
  show G (T3.setTop (mkF m 16 #[.val (.ref ob), .val (.ref oc), .val (.ref oc)] [(.ref ka)]))
  refine go (fun tg kg => XS.aloadN X3.here hx rfl (hb hby d6_16) rfl rfl kg) ?_
  show G (T3.setTop (mkF m 17 #[.val (.ref ob), .val (.ref oc), .val (.ref oc)] [(.ref oc), (.ref ka)]))
  obtain ⟨T4, X4, e4, st4⟩ := getF X3 hx hZ hown (host := "") (Or.inl (hw _ (List.mem_of_getElem? (i := 16) rfl))) Via.refl e3 Gk (g := (mkF m 17 #[.val (.ref ob), .val (.ref oc), .val (.ref oc)] [(.ref oc), (.ref ka)])) rfl rfl (hb hby d6_17)
  refine go st4 ?_
  show G (T4.setTop (mkF m 20 #[.val (.ref ob), .val (.ref oc), .val (.ref oc)] [(.ref kb), (.ref ka)]))
  refine go (fun tg kg => Jvm.RoadKit.acmp (g := (mkF m 20 #[.val (.ref ob), .val (.ref oc), .val (.ref oc)] [(.ref kb), (.ref ka)])) X4 hx rfl rfl rfl (pc0 := 20) (pc' := 38) (same := false) rfl (hb hby d6_20) rfl (decide_eq_false fun q => hk (Value.ref.inj q)) (by decide) (by decide) kg) ?_
  show G (T4.setTop (mkF m 38 #[.val (.ref ob), .val (.ref oc), .val (.ref oc)] []))
  refine go (fun tg kg => XS.iconst X4.here hx rfl (hb hby d6_38) kg) ?_
  show G (T4.setTop (mkF m 39 #[.val (.ref ob), .val (.ref oc), .val (.ref oc)] [(.int (0 : Int32))]))
  refine fin (some (.int (0 : Int32))) X4 (fun h => absurd h (by decide)) (fun fs hr => retN X4 hx (t := .boolean) hret (by simp) (hb hby d6_39) hr) (by decide) (by decide) ?_
  rw [e4]
  exact ⟨rfl, N0, rfl⟩
theorem pn_com_example_drumline_drumline_model_OverlapPolicyParallelPinLaw : plainName "com/example/drumline/drumline/model/OverlapPolicyParallelPinLaw" = true := by first | (simp [plainName, overriddenIn]; done) | decide +kernel
theorem ef_0 (m : MethodId) (x0 : Int32) (x1 : Int32) : entryFrame m #[(.int x0), (.int x1)] maxLocals = mkF m 0 #[.val (.int x0), .val (.int x1), .unset, .unset, .unset, .unset, .unset] [] := by first | (simp [entryFrame, mkF, argsToLocals, Value.category, maxLocals]; done) | rfl
theorem pd__II_I : parseMethodDescriptor "(II)I" = some ⟨[.int, .int], some .int⟩ := by decide +kernel
theorem pd__I_Lcom_example_drumline_drumline_model_OverlapPolicy_ : parseMethodDescriptor "(I)Lcom/example/drumline/drumline/model/OverlapPolicy;" = some ⟨[.int], some (.object "com/example/drumline/drumline/model/OverlapPolicy")⟩ := by decide +kernel
theorem pd___Lcom_example_drumline_drumline_model_OverlapPolicy_Kind_ : parseMethodDescriptor "()Lcom/example/drumline/drumline/model/OverlapPolicy$Kind;" = some ⟨[], some (.object "com/example/drumline/drumline/model/OverlapPolicy$Kind")⟩ := by decide +kernel
theorem pd___I : parseMethodDescriptor "()I" = some ⟨[], some .int⟩ := by decide +kernel
theorem pd__Ljava_lang_Object__Z : parseMethodDescriptor "(Ljava/lang/Object;)Z" = some ⟨[(.object "java/lang/Object")], some .boolean⟩ := by decide +kernel
theorem pd___Lcom_example_drumline_drumline_model_OverlapPolicy_ : parseMethodDescriptor "()Lcom/example/drumline/drumline/model/OverlapPolicy;" = some ⟨[], some (.object "com/example/drumline/drumline/model/OverlapPolicy")⟩ := by decide +kernel
def Q_rm0 (Z : State) (x0 : Int32) (x1 : Int32) (k_PARALLEL : Addr) (u_QUEUE : Addr) (u_SKIP : Addr) (k_QUEUE : Addr) (k_SKIP : Addr) (h0 : Heap) (n0 : Nat) (v : Option Value) (h : Heap) (L : List Loc) : Prop := v = some (.int 1) ∧ Fr n0 L
set_option maxRecDepth 65536 in
set_option maxHeartbeats 40000000 in
theorem rm0 (l : Launch) (Z : State) (a0 : Array Value) (hw : ∀ d ∈ tables_1, d.before a0 Z = true) (ws : List Jvm.Cond) (x0 : Int32) (x1 : Int32) (k_PARALLEL : Addr) (u_QUEUE : Addr) (u_SKIP : Addr) (k_QUEUE : Addr) (k_SKIP : Addr) (h0 : Heap) (n0 : Nat) (Z0 : n0 ≤ h0.size) (S_k_PARALLEL : Sta Z h0 "com/example/drumline/drumline/model/OverlapPolicy$Kind" "PARALLEL" "Lcom/example/drumline/drumline/model/OverlapPolicy$Kind;" (.ref k_PARALLEL)) (S_u_QUEUE : Sta Z h0 "com/example/drumline/drumline/model/OverlapPolicy" "QUEUE" "Lcom/example/drumline/drumline/model/OverlapPolicy;" (.ref u_QUEUE)) (S_u_SKIP : Sta Z h0 "com/example/drumline/drumline/model/OverlapPolicy" "SKIP" "Lcom/example/drumline/drumline/model/OverlapPolicy;" (.ref u_SKIP)) (E_u_QUEUE : Exa Z h0 u_QUEUE "com/example/drumline/drumline/model/OverlapPolicy") (E_u_SKIP : Exa Z h0 u_SKIP "com/example/drumline/drumline/model/OverlapPolicy") (F_u_QUEUE_kind : Fld Z h0 u_QUEUE "com/example/drumline/drumline/model/OverlapPolicy" "kind" "Lcom/example/drumline/drumline/model/OverlapPolicy$Kind;" (.ref k_QUEUE)) (F_u_SKIP_kind : Fld Z h0 u_SKIP "com/example/drumline/drumline/model/OverlapPolicy" "kind" "Lcom/example/drumline/drumline/model/OverlapPolicy$Kind;" (.ref k_SKIP)) (hnk_QUEUE : ¬ k_PARALLEL = k_QUEUE) (hnk_SKIP : ¬ k_PARALLEL = k_SKIP) :
    MetFree l x (head1 (Jvm.Cond.code x code maxLocals ret :: ws) room_1) (fun a U => a = #[(.int x0), (.int x1)] ∧ Z.Warmed39 U.vm ∧ U.heap = h0) (fun _ _ _ _ _ => True) (fun _ U o U' => ∃ v L, o = .returned v ∧ Q_rm0 Z x0 x1 k_PARALLEL u_QUEUE u_SKIP k_QUEUE k_SKIP h0 n0 v U'.heap L ∧ FrameEnd U o U' L room_1.cells room_1.slots) := by
  refine own_enter (Q := Q_rm0 Z x0 x1 k_PARALLEL u_QUEUE u_SKIP k_QUEUE k_SKIP h0 n0) (plainFor_of_name pn_com_example_drumline_drumline_model_OverlapPolicyParallelPinLaw) ?_
  intro p e s m below meth c s₁ G X0 hx hby hml hZ hown hnm hret e0 go fin
  replace hown : s.vm.findClass "com/example/drumline/drumline/model/OverlapPolicyParallelPinLaw" = some m.cls := hown
  replace hnm : meth.name = "law" := hnm
  replace hml : c.maxLocals = 7 := hml
  rw [ef_0 m x0 x1]
  have N0 := Fr.nil n0
  show G (s₁.setTop (mkF m 0 #[.val (.int x0), .val (.int x1), .unset, .unset, .unset, .unset, .unset] []))
  refine go (fun tg kg => XS.iloadN X0.here hx rfl (hb hby at_0) rfl kg) ?_
  show G (s₁.setTop (mkF m 1 #[.val (.int x0), .val (.int x1), .unset, .unset, .unset, .unset, .unset] [(.int x0)]))
  refine go (fun tg kg => X0.ldcInt hx hown (mvT hZ (hw _ (List.mem_of_getElem? (i := 0) rfl))) (g := (mkF m 1 #[.val (.int x0), .val (.int x1), .unset, .unset, .unset, .unset, .unset] [(.int x0)])) rfl (hb hby at_1) _ kg) ?_
  show G (s₁.setTop (mkF m 3 #[.val (.int x0), .val (.int x1), .unset, .unset, .unset, .unset, .unset] [(.int (2147483647 : Int32)), (.int x0)]))
  refine go (fun tg kg => XS.iand X0.here hx rfl (hb hby at_3) rfl kg) ?_
  show G (s₁.setTop (mkF m 4 #[.val (.int x0), .val (.int x1), .unset, .unset, .unset, .unset, .unset] [(.int (x0 &&& (2147483647 : Int32)))]))
  refine go (fun tg kg => XS.istoreN X0.here hx rfl (hb hby at_4) rfl (l' := #[.val (.int x0), .val (.int x1), .val (.int (x0 &&& (2147483647 : Int32))), .unset, .unset, .unset, .unset]) rfl kg) ?_
  show G (s₁.setTop (mkF m 5 #[.val (.int x0), .val (.int x1), .val (.int (x0 &&& (2147483647 : Int32))), .unset, .unset, .unset, .unset] []))
  refine go (fun tg kg => XS.iloadN X0.here hx rfl (hb hby at_5) rfl kg) ?_
  show G (s₁.setTop (mkF m 6 #[.val (.int x0), .val (.int x1), .val (.int (x0 &&& (2147483647 : Int32))), .unset, .unset, .unset, .unset] [(.int (x0 &&& (2147483647 : Int32)))]))
  by_cases hc1 : (x0 &&& (2147483647 : Int32)) = (0 : Int32)
  · refine go (fun tg kg => XS.ifNo X0.here hx rfl (hb hby at_6) rfl ((if0 _ _).trans (teq hc1).2) kg) ?_
    show G (s₁.setTop (mkF m 9 #[.val (.int x0), .val (.int x1), .val (.int (x0 &&& (2147483647 : Int32))), .unset, .unset, .unset, .unset] []))
    refine go (fun tg kg => XS.iconst X0.here hx rfl (hb hby at_9) kg) ?_
    show G (s₁.setTop (mkF m 10 #[.val (.int x0), .val (.int x1), .val (.int (x0 &&& (2147483647 : Int32))), .unset, .unset, .unset, .unset] [(.int (1 : Int32))]))
    refine go (fun tg kg => XS.istoreN X0.here hx rfl (hb hby at_10) rfl (l' := #[.val (.int x0), .val (.int x1), .val (.int (1 : Int32)), .unset, .unset, .unset, .unset]) rfl kg) ?_
    show G (s₁.setTop (mkF m 11 #[.val (.int x0), .val (.int x1), .val (.int (1 : Int32)), .unset, .unset, .unset, .unset] []))
    refine go (fun tg kg => XS.iloadN X0.here hx rfl (hb hby at_11) rfl kg) ?_
    show G (s₁.setTop (mkF m 12 #[.val (.int x0), .val (.int x1), .val (.int (1 : Int32)), .unset, .unset, .unset, .unset] [(.int x1)]))
    refine go (fun tg kg => XS.iconst X0.here hx rfl (hb hby at_12) kg) ?_
    show G (s₁.setTop (mkF m 13 #[.val (.int x0), .val (.int x1), .val (.int (1 : Int32)), .unset, .unset, .unset, .unset] [(.int (1 : Int32)), (.int x1)]))
    refine go (fun tg kg => XS.iand X0.here hx rfl (hb hby at_13) rfl kg) ?_
    show G (s₁.setTop (mkF m 14 #[.val (.int x0), .val (.int x1), .val (.int (1 : Int32)), .unset, .unset, .unset, .unset] [(.int (x1 &&& (1 : Int32)))]))
    by_cases hc2 : (x1 &&& (1 : Int32)) = (0 : Int32)
    · refine go (fun tg kg => XS.ifYes X0.here hx rfl (pc0 := 14) (pc' := 21) rfl (hb hby at_14) rfl ((if0 _ _).trans (teq hc2).1) (by decide) (by decide) kg) ?_
      show G (s₁.setTop (mkF m 21 #[.val (.int x0), .val (.int x1), .val (.int (1 : Int32)), .unset, .unset, .unset, .unset] []))
      refine go (fun tg kg => XS.iconst X0.here hx rfl (hb hby at_21) kg) ?_
      show G (s₁.setTop (mkF m 22 #[.val (.int x0), .val (.int x1), .val (.int (1 : Int32)), .unset, .unset, .unset, .unset] [(.int (1 : Int32))]))
      refine go (fun tg kg => XS.iloadN X0.here hx rfl (hb hby at_22) rfl kg) ?_
      show G (s₁.setTop (mkF m 23 #[.val (.int x0), .val (.int x1), .val (.int (1 : Int32)), .unset, .unset, .unset, .unset] [(.int x1), (.int (1 : Int32))]))
      refine go (fun tg kg => XS.iconst X0.here hx rfl (hb hby at_23) kg) ?_
      show G (s₁.setTop (mkF m 24 #[.val (.int x0), .val (.int x1), .val (.int (1 : Int32)), .unset, .unset, .unset, .unset] [(.int (1 : Int32)), (.int x1), (.int (1 : Int32))]))
      refine go (fun tg kg => XS.iushr X0.here hx rfl (hb hby at_24) rfl kg) ?_
      show G (s₁.setTop (mkF m 25 #[.val (.int x0), .val (.int x1), .val (.int (1 : Int32)), .unset, .unset, .unset, .unset] [(.int ((x1.toUInt32 >>> ((1 : Int32) &&& 31).toUInt32).toInt32)), (.int (1 : Int32))]))
      obtain ⟨_, _, ⟨T3, L3, k3, n3⟩, -, X3, ⟨Lc3, hQ3, l3, y3, z3⟩, st3⟩ := Jvm.LawKit.callS X0 hx (y := (⟨"java/lang/Math", "max", "(II)I"⟩ : MethodName)) hown (mvT hZ (hw _ (List.mem_of_getElem? (i := 49) rfl))) (mvT hZ (hw _ (List.mem_of_getElem? (i := 50) rfl))) (mvT hZ (hw _ (List.mem_of_getElem? (i := 51) rfl))) (mvT hZ (hw _ (List.mem_of_getElem? (i := 52) rfl))) (by decide) (backOf (W := 0) (rm9 l Z a0 hw [] (1 : Int32) ((x1.toUInt32 >>> ((1 : Int32) &&& 31).toUInt32).toInt32) h0 n0 Z0 ) hZ (hw _ (List.mem_of_getElem? (i := 52) rfl)) (hw _ (List.mem_of_getElem? (i := 51) rfl)) (by decide) (by decide)) (g := (mkF m 25 #[.val (.int x0), .val (.int x1), .val (.int (1 : Int32)), .unset, .unset, .unset, .unset] [(.int ((x1.toUInt32 >>> ((1 : Int32) &&& 31).toUInt32).toInt32)), (.int (1 : Int32))])) rfl (by rw [hml]; rfl) (argsL := [(.int (1 : Int32)), (.int ((x1.toUInt32 >>> ((1 : Int32) &&& 31).toUInt32).toInt32))]) (rest := []) (lenOf pd__II_I rfl) rfl (by show 2 * 0 + _ ≤ _; exact Nat.le_of_eq rfl) (hb hby at_25) (fun _ _ => ⟨rfl, e0, (by decide : 0 + 0 ≤ _), (by decide : 0 + 0 ≤ _)⟩)
      dsimp only [Pt.U, Pt.locs, Pt.cells, Pt.slots] at X3 l3 y3 z3 st3 hQ3
      subst l3 y3 z3
      obtain ⟨rfl, Nq3, e3⟩ := hQ3
      have N3 := Fr.app N0 Nq3
      refine go st3 ?_
      show G (T3.setTop (mkF m 28 #[.val (.int x0), .val (.int x1), .val (.int (1 : Int32)), .unset, .unset, .unset, .unset] [(.int (own_max (1 : Int32) ((x1.toUInt32 >>> ((1 : Int32) &&& 31).toUInt32).toInt32)))]))
      refine go (fun tg kg => XS.istoreN X3.here hx rfl (hb hby at_28) rfl (l' := #[.val (.int x0), .val (.int x1), .val (.int (1 : Int32)), .val (.int (own_max (1 : Int32) ((x1.toUInt32 >>> ((1 : Int32) &&& 31).toUInt32).toInt32))), .unset, .unset, .unset]) rfl kg) ?_
      show G (T3.setTop (mkF m 29 #[.val (.int x0), .val (.int x1), .val (.int (1 : Int32)), .val (.int (own_max (1 : Int32) ((x1.toUInt32 >>> ((1 : Int32) &&& 31).toUInt32).toInt32))), .unset, .unset, .unset] []))
      obtain ⟨dd, hdd⟩ : ∃ z : Int32, z = (own_max (1 : Int32) ((x1.toUInt32 >>> ((1 : Int32) &&& 31).toUInt32).toInt32)) := ⟨_, rfl⟩
      have gdd : ¬ dd < (1 : Int32) := by rw [hdd]; exact own_cm _
      rw [← hdd]
      show G (T3.setTop (mkF m 29 #[.val (.int x0), .val (.int x1), .val (.int (1 : Int32)), .val (.int dd), .unset, .unset, .unset] []))
      refine go (fun tg kg => XS.iloadN X3.here hx rfl (hb hby at_29) rfl kg) ?_
      show G (T3.setTop (mkF m 30 #[.val (.int x0), .val (.int x1), .val (.int (1 : Int32)), .val (.int dd), .unset, .unset, .unset] [(.int (1 : Int32))]))
      obtain ⟨_, _, ⟨T4, L4, k4, n4⟩, -, X4, ⟨Lc4, hQ4, l4, y4, z4⟩, st4⟩ := Jvm.LawKit.callS X3 hx (y := (⟨"com/example/drumline/drumline/model/OverlapPolicy", "parallel", "(I)Lcom/example/drumline/drumline/model/OverlapPolicy;"⟩ : MethodName)) hown (mvT hZ (hw _ (List.mem_of_getElem? (i := 1) rfl))) (mvT hZ (hw _ (List.mem_of_getElem? (i := 2) rfl))) (mvT hZ (hw _ (List.mem_of_getElem? (i := 3) rfl))) (mvT hZ (hw _ (List.mem_of_getElem? (i := 4) rfl))) (by decide) (backOf (W := 0) (rm1 l Z a0 hw [] (1 : Int32) k_PARALLEL h0 n0 Z0 S_k_PARALLEL (by decide)) hZ (hw _ (List.mem_of_getElem? (i := 4) rfl)) (hw _ (List.mem_of_getElem? (i := 3) rfl)) (by decide) (by decide)) (g := (mkF m 30 #[.val (.int x0), .val (.int x1), .val (.int (1 : Int32)), .val (.int dd), .unset, .unset, .unset] [(.int (1 : Int32))])) rfl (by rw [hml]; rfl) (argsL := [(.int (1 : Int32))]) (rest := []) (lenOf pd__I_Lcom_example_drumline_drumline_model_OverlapPolicy_ rfl) rfl (by show 2 * 0 + _ ≤ _; exact Nat.le_of_eq rfl) (hb hby at_30) (fun _ _ => ⟨rfl, e3, (by decide : 0 + 1 ≤ _), (by decide : 0 + 2 ≤ _)⟩)
      dsimp only [Pt.U, Pt.locs, Pt.cells, Pt.slots] at X4 l4 y4 z4 st4 hQ4
      subst l4 y4 z4
      obtain ⟨b4, rfl, Nq4, K4, sz4, ge_b4, Ge4, Gk4, Gc4⟩ := hQ4
      have Z4 := Nat.le_trans Z0 K4.1
      have N4 := Fr.app N3 Nq4
      refine go st4 ?_
      show G (T4.setTop (mkF m 33 #[.val (.int x0), .val (.int x1), .val (.int (1 : Int32)), .val (.int dd), .unset, .unset, .unset] [(.ref b4)]))
      refine go (fun tg kg => XS.astore X4.here hx rfl (hb hby at_33) rfl rfl (l' := #[.val (.int x0), .val (.int x1), .val (.int (1 : Int32)), .val (.int dd), .val (.ref b4), .unset, .unset]) rfl kg) ?_
      show G (T4.setTop (mkF m 35 #[.val (.int x0), .val (.int x1), .val (.int (1 : Int32)), .val (.int dd), .val (.ref b4), .unset, .unset] []))
      refine go (fun tg kg => XS.iloadN X4.here hx rfl (hb hby at_35) rfl kg) ?_
      show G (T4.setTop (mkF m 36 #[.val (.int x0), .val (.int x1), .val (.int (1 : Int32)), .val (.int dd), .val (.ref b4), .unset, .unset] [(.int dd)]))
      have Fa6 := (own_sta_keep S_k_PARALLEL K4 all0)
      obtain ⟨_, _, ⟨T5, L5, k5, n5⟩, -, X5, ⟨Lc5, hQ5, l5, y5, z5⟩, st5⟩ := Jvm.LawKit.callS X4 hx (y := (⟨"com/example/drumline/drumline/model/OverlapPolicy", "parallel", "(I)Lcom/example/drumline/drumline/model/OverlapPolicy;"⟩ : MethodName)) hown (mvT hZ (hw _ (List.mem_of_getElem? (i := 1) rfl))) (mvT hZ (hw _ (List.mem_of_getElem? (i := 2) rfl))) (mvT hZ (hw _ (List.mem_of_getElem? (i := 3) rfl))) (mvT hZ (hw _ (List.mem_of_getElem? (i := 4) rfl))) (by decide) (backOf (W := 0) (rm1 l Z a0 hw [] dd k_PARALLEL T4.heap n0 Z4 Fa6 gdd) hZ (hw _ (List.mem_of_getElem? (i := 4) rfl)) (hw _ (List.mem_of_getElem? (i := 3) rfl)) (by decide) (by decide)) (g := (mkF m 36 #[.val (.int x0), .val (.int x1), .val (.int (1 : Int32)), .val (.int dd), .val (.ref b4), .unset, .unset] [(.int dd)])) rfl (by rw [hml]; rfl) (argsL := [(.int dd)]) (rest := []) (lenOf pd__I_Lcom_example_drumline_drumline_model_OverlapPolicy_ rfl) rfl (by show 2 * 0 + _ ≤ _; exact Nat.le_of_eq rfl) (hb hby at_36) (fun _ _ => ⟨rfl, rfl, (by decide : 1 + 1 ≤ _), (by decide : 2 + 2 ≤ _)⟩)
      dsimp only [Pt.U, Pt.locs, Pt.cells, Pt.slots] at X5 l5 y5 z5 st5 hQ5
      subst l5 y5 z5
      obtain ⟨b5, rfl, Nq5, K5, sz5, ge_b5, Ge5, Gk5, Gc5⟩ := hQ5
      have Z5 := Nat.le_trans Z4 K5.1
      have N5 := Fr.app N4 Nq5
      refine go st5 ?_
      show G (T5.setTop (mkF m 39 #[.val (.int x0), .val (.int x1), .val (.int (1 : Int32)), .val (.int dd), .val (.ref b4), .unset, .unset] [(.ref b5)]))
      refine go (fun tg kg => XS.astore X5.here hx rfl (hb hby at_39) rfl rfl (l' := #[.val (.int x0), .val (.int x1), .val (.int (1 : Int32)), .val (.int dd), .val (.ref b4), .val (.ref b5), .unset]) rfl kg) ?_
      show G (T5.setTop (mkF m 41 #[.val (.int x0), .val (.int x1), .val (.int (1 : Int32)), .val (.int dd), .val (.ref b4), .val (.ref b5), .unset] []))
      refine go (fun tg kg => XS.aload X5.here hx rfl (hb hby at_41) rfl rfl kg) ?_
      show G (T5.setTop (mkF m 43 #[.val (.int x0), .val (.int x1), .val (.int (1 : Int32)), .val (.int dd), .val (.ref b4), .val (.ref b5), .unset] [(.ref b4)]))
      have Fa8 := (Gk4.keep K5 nin0)
      have Fa9 := (Ge4.keep K5)
      obtain ⟨cq7, kq7, q7a, q7b, q7c⟩ := isOf hZ rfl Fa9
      obtain ⟨_, _, ⟨T7, L7, k7, n7⟩, -, X7, ⟨Lc7, hQ7, l7, y7, z7⟩, st7⟩ := X5.virtualBack hx (y := (⟨"com/example/drumline/drumline/model/OverlapPolicy", "kind", "()Lcom/example/drumline/drumline/model/OverlapPolicy$Kind;"⟩ : MethodName)) (z := (⟨"com/example/drumline/drumline/model/OverlapPolicy", "kind", "()Lcom/example/drumline/drumline/model/OverlapPolicy$Kind;"⟩ : MethodName)) hown (mvT hZ (hw _ (List.mem_of_getElem? (i := 20) rfl))) (mvT hZ (hw _ (List.mem_of_getElem? (i := 21) rfl))) (notFace_of_selects (args := #[]) (mvT hZ (hw _ (List.mem_of_getElem? (i := 23) rfl)))) (mvT hZ (hw _ (List.mem_of_getElem? (i := 23) rfl))) (mvT hZ (hw _ (List.mem_of_getElem? (i := 22) rfl))) (by decide) (backOf (W := 0) (rm4 l Z a0 hw [] b4 k_PARALLEL T5.heap n0 Z5 Fa8) hZ (hw _ (List.mem_of_getElem? (i := 24) rfl)) (hw _ (List.mem_of_getElem? (i := 3) rfl)) (by decide) (by decide)) q7a q7c (g := (mkF m 43 #[.val (.int x0), .val (.int x1), .val (.int (1 : Int32)), .val (.int dd), .val (.ref b4), .val (.ref b5), .unset] [(.ref b4)])) rfl (by rw [hml]; rfl) (Steps.refl _) (argsL := []) (rest := []) (lenOf pd___Lcom_example_drumline_drumline_model_OverlapPolicy_Kind_ rfl) rfl (by show 2 * 0 + _ ≤ _; exact Nat.le_of_eq rfl) (hb hby at_43) (fun _ _ => ⟨rfl, rfl, (by decide : 2 + 0 ≤ _), (by decide : 4 + 0 ≤ _)⟩)
      dsimp only [Pt.U, Pt.locs, Pt.cells, Pt.slots] at X7 l7 y7 z7 st7 hQ7
      subst l7 y7 z7
      obtain ⟨rfl, Nq7, e7⟩ := hQ7
      have N7 := Fr.app N5 Nq7
      refine go (fun tg kg => st7.trans kg) ?_
      show G (T7.setTop (mkF m 46 #[.val (.int x0), .val (.int x1), .val (.int (1 : Int32)), .val (.int dd), .val (.ref b4), .val (.ref b5), .unset] [(.ref k_PARALLEL)]))
      have Fa10 := (own_sta_keep Fa6 K5 all0)
      obtain ⟨T11, X11, e11, st11⟩ := getS2 X7 hx hZ hown (host := "") (Or.inl (hw _ (List.mem_of_getElem? (i := 25) rfl))) Via.refl e7 Fa10 (g := (mkF m 46 #[.val (.int x0), .val (.int x1), .val (.int (1 : Int32)), .val (.int dd), .val (.ref b4), .val (.ref b5), .unset] [(.ref k_PARALLEL)])) rfl (hb hby at_46)
      refine go st11 ?_
      show G (T11.setTop (mkF m 49 #[.val (.int x0), .val (.int x1), .val (.int (1 : Int32)), .val (.int dd), .val (.ref b4), .val (.ref b5), .unset] [(.ref k_PARALLEL), (.ref k_PARALLEL)]))
      refine go (fun tg kg => Jvm.RoadKit.acmp (g := (mkF m 49 #[.val (.int x0), .val (.int x1), .val (.int (1 : Int32)), .val (.int dd), .val (.ref b4), .val (.ref b5), .unset] [(.ref k_PARALLEL), (.ref k_PARALLEL)])) X11 hx rfl rfl rfl (pc0 := 49) (pc' := 52) (same := true) rfl (hb hby at_49) rfl (decide_eq_true rfl) (by decide) (by decide) kg) ?_
      show G (T11.setTop (mkF m 52 #[.val (.int x0), .val (.int x1), .val (.int (1 : Int32)), .val (.int dd), .val (.ref b4), .val (.ref b5), .unset] []))
      refine go (fun tg kg => XS.aload X11.here hx rfl (hb hby at_52) rfl rfl kg) ?_
      show G (T11.setTop (mkF m 54 #[.val (.int x0), .val (.int x1), .val (.int (1 : Int32)), .val (.int dd), .val (.ref b4), .val (.ref b5), .unset] [(.ref b4)]))
      have Fa13 := (Gc4.keep K5 nin0)
      obtain ⟨cq12, kq12, q12a, q12b, q12c⟩ := isOf hZ e11 Fa9
      obtain ⟨_, _, ⟨T12, L12, k12, n12⟩, -, X12, ⟨Lc12, hQ12, l12, y12, z12⟩, st12⟩ := X11.virtualBack hx (y := (⟨"com/example/drumline/drumline/model/OverlapPolicy", "cap", "()I"⟩ : MethodName)) (z := (⟨"com/example/drumline/drumline/model/OverlapPolicy", "cap", "()I"⟩ : MethodName)) hown (mvT hZ (hw _ (List.mem_of_getElem? (i := 26) rfl))) (mvT hZ (hw _ (List.mem_of_getElem? (i := 27) rfl))) (notFace_of_selects (args := #[]) (mvT hZ (hw _ (List.mem_of_getElem? (i := 29) rfl)))) (mvT hZ (hw _ (List.mem_of_getElem? (i := 29) rfl))) (mvT hZ (hw _ (List.mem_of_getElem? (i := 28) rfl))) (by decide) (backOf (W := 0) (rm5 l Z a0 hw [] b4 (1 : Int32) T5.heap n0 Z5 Fa13) hZ (hw _ (List.mem_of_getElem? (i := 30) rfl)) (hw _ (List.mem_of_getElem? (i := 3) rfl)) (by decide) (by decide)) q12a q12c (g := (mkF m 54 #[.val (.int x0), .val (.int x1), .val (.int (1 : Int32)), .val (.int dd), .val (.ref b4), .val (.ref b5), .unset] [(.ref b4)])) rfl (by rw [hml]; rfl) (Steps.refl _) (argsL := []) (rest := []) (lenOf pd___I rfl) rfl (by show 2 * 0 + _ ≤ _; exact Nat.le_of_eq rfl) (hb hby at_54) (fun _ _ => ⟨rfl, e11, (by decide : 2 + 0 ≤ _), (by decide : 4 + 0 ≤ _)⟩)
      dsimp only [Pt.U, Pt.locs, Pt.cells, Pt.slots] at X12 l12 y12 z12 st12 hQ12
      subst l12 y12 z12
      obtain ⟨rfl, Nq12, e12⟩ := hQ12
      have N12 := Fr.app N7 Nq12
      refine go (fun tg kg => st12.trans kg) ?_
      show G (T12.setTop (mkF m 57 #[.val (.int x0), .val (.int x1), .val (.int (1 : Int32)), .val (.int dd), .val (.ref b4), .val (.ref b5), .unset] [(.int (1 : Int32))]))
      refine go (fun tg kg => XS.iloadN X12.here hx rfl (hb hby at_57) rfl kg) ?_
      show G (T12.setTop (mkF m 58 #[.val (.int x0), .val (.int x1), .val (.int (1 : Int32)), .val (.int dd), .val (.ref b4), .val (.ref b5), .unset] [(.int (1 : Int32)), (.int (1 : Int32))]))
      refine go (fun tg kg => XS.icmpNo X12.here hx rfl (hb hby at_58) rfl (teq (by decide)).2 kg) ?_
      show G (T12.setTop (mkF m 61 #[.val (.int x0), .val (.int x1), .val (.int (1 : Int32)), .val (.int dd), .val (.ref b4), .val (.ref b5), .unset] []))
      refine go (fun tg kg => XS.iconst X12.here hx rfl (hb hby at_61) kg) ?_
      show G (T12.setTop (mkF m 62 #[.val (.int x0), .val (.int x1), .val (.int (1 : Int32)), .val (.int dd), .val (.ref b4), .val (.ref b5), .unset] [(.int (1 : Int32))]))
      refine go (fun tg kg => XS.goto X12.here hx rfl (pc0 := 62) (pc' := 66) rfl (hb hby at_62) (by decide) (by decide) kg) ?_
      show G (T12.setTop (mkF m 66 #[.val (.int x0), .val (.int x1), .val (.int (1 : Int32)), .val (.int dd), .val (.ref b4), .val (.ref b5), .unset] [(.int (1 : Int32))]))
      refine go (fun tg kg => XS.istore X12.here hx rfl (hb hby at_66) rfl (l' := #[.val (.int x0), .val (.int x1), .val (.int (1 : Int32)), .val (.int dd), .val (.ref b4), .val (.ref b5), .val (.int (1 : Int32))]) rfl kg) ?_
      show G (T12.setTop (mkF m 68 #[.val (.int x0), .val (.int x1), .val (.int (1 : Int32)), .val (.int dd), .val (.ref b4), .val (.ref b5), .val (.int (1 : Int32))] []))
      refine go (fun tg kg => XS.iload X12.here hx rfl (hb hby at_68) rfl kg) ?_
      show G (T12.setTop (mkF m 70 #[.val (.int x0), .val (.int x1), .val (.int (1 : Int32)), .val (.int dd), .val (.ref b4), .val (.ref b5), .val (.int (1 : Int32))] [(.int (1 : Int32))]))
      refine go (fun tg kg => XS.ifNo X12.here hx rfl (hb hby at_70) rfl ((if0 _ _).trans (feq (by decide)).1) kg) ?_
      show G (T12.setTop (mkF m 73 #[.val (.int x0), .val (.int x1), .val (.int (1 : Int32)), .val (.int dd), .val (.ref b4), .val (.ref b5), .val (.int (1 : Int32))] []))
      refine go (fun tg kg => XS.aload X12.here hx rfl (hb hby at_73) rfl rfl kg) ?_
      show G (T12.setTop (mkF m 75 #[.val (.int x0), .val (.int x1), .val (.int (1 : Int32)), .val (.int dd), .val (.ref b4), .val (.ref b5), .val (.int (1 : Int32))] [(.ref b5)]))
      obtain ⟨cq14, kq14, q14a, q14b, q14c⟩ := isOf hZ e12 Ge5
      obtain ⟨_, _, ⟨T14, L14, k14, n14⟩, -, X14, ⟨Lc14, hQ14, l14, y14, z14⟩, st14⟩ := X12.virtualBack hx (y := (⟨"com/example/drumline/drumline/model/OverlapPolicy", "kind", "()Lcom/example/drumline/drumline/model/OverlapPolicy$Kind;"⟩ : MethodName)) (z := (⟨"com/example/drumline/drumline/model/OverlapPolicy", "kind", "()Lcom/example/drumline/drumline/model/OverlapPolicy$Kind;"⟩ : MethodName)) hown (mvT hZ (hw _ (List.mem_of_getElem? (i := 20) rfl))) (mvT hZ (hw _ (List.mem_of_getElem? (i := 21) rfl))) (notFace_of_selects (args := #[]) (mvT hZ (hw _ (List.mem_of_getElem? (i := 23) rfl)))) (mvT hZ (hw _ (List.mem_of_getElem? (i := 23) rfl))) (mvT hZ (hw _ (List.mem_of_getElem? (i := 22) rfl))) (by decide) (backOf (W := 0) (rm4 l Z a0 hw [] b5 k_PARALLEL T5.heap n0 Z5 Gk5) hZ (hw _ (List.mem_of_getElem? (i := 24) rfl)) (hw _ (List.mem_of_getElem? (i := 3) rfl)) (by decide) (by decide)) q14a q14c (g := (mkF m 75 #[.val (.int x0), .val (.int x1), .val (.int (1 : Int32)), .val (.int dd), .val (.ref b4), .val (.ref b5), .val (.int (1 : Int32))] [(.ref b5)])) rfl (by rw [hml]; rfl) (Steps.refl _) (argsL := []) (rest := []) (lenOf pd___Lcom_example_drumline_drumline_model_OverlapPolicy_Kind_ rfl) rfl (by show 2 * 0 + _ ≤ _; exact Nat.le_of_eq rfl) (hb hby at_75) (fun _ _ => ⟨rfl, e12, (by decide : 2 + 0 ≤ _), (by decide : 4 + 0 ≤ _)⟩)
      dsimp only [Pt.U, Pt.locs, Pt.cells, Pt.slots] at X14 l14 y14 z14 st14 hQ14
      subst l14 y14 z14
      obtain ⟨rfl, Nq14, e14⟩ := hQ14
      have N14 := Fr.app N12 Nq14
      refine go (fun tg kg => st14.trans kg) ?_
      show G (T14.setTop (mkF m 78 #[.val (.int x0), .val (.int x1), .val (.int (1 : Int32)), .val (.int dd), .val (.ref b4), .val (.ref b5), .val (.int (1 : Int32))] [(.ref k_PARALLEL)]))
      obtain ⟨T15, X15, e15, st15⟩ := getS2 X14 hx hZ hown (host := "") (Or.inl (hw _ (List.mem_of_getElem? (i := 25) rfl))) Via.refl e14 Fa10 (g := (mkF m 78 #[.val (.int x0), .val (.int x1), .val (.int (1 : Int32)), .val (.int dd), .val (.ref b4), .val (.ref b5), .val (.int (1 : Int32))] [(.ref k_PARALLEL)])) rfl (hb hby at_78)
      refine go st15 ?_
      show G (T15.setTop (mkF m 81 #[.val (.int x0), .val (.int x1), .val (.int (1 : Int32)), .val (.int dd), .val (.ref b4), .val (.ref b5), .val (.int (1 : Int32))] [(.ref k_PARALLEL), (.ref k_PARALLEL)]))
      refine go (fun tg kg => Jvm.RoadKit.acmp (g := (mkF m 81 #[.val (.int x0), .val (.int x1), .val (.int (1 : Int32)), .val (.int dd), .val (.ref b4), .val (.ref b5), .val (.int (1 : Int32))] [(.ref k_PARALLEL), (.ref k_PARALLEL)])) X15 hx rfl rfl rfl (pc0 := 81) (pc' := 84) (same := true) rfl (hb hby at_81) rfl (decide_eq_true rfl) (by decide) (by decide) kg) ?_
      show G (T15.setTop (mkF m 84 #[.val (.int x0), .val (.int x1), .val (.int (1 : Int32)), .val (.int dd), .val (.ref b4), .val (.ref b5), .val (.int (1 : Int32))] []))
      refine go (fun tg kg => XS.aload X15.here hx rfl (hb hby at_84) rfl rfl kg) ?_
      show G (T15.setTop (mkF m 86 #[.val (.int x0), .val (.int x1), .val (.int (1 : Int32)), .val (.int dd), .val (.ref b4), .val (.ref b5), .val (.int (1 : Int32))] [(.ref b5)]))
      obtain ⟨cq16, kq16, q16a, q16b, q16c⟩ := isOf hZ e15 Ge5
      obtain ⟨_, _, ⟨T16, L16, k16, n16⟩, -, X16, ⟨Lc16, hQ16, l16, y16, z16⟩, st16⟩ := X15.virtualBack hx (y := (⟨"com/example/drumline/drumline/model/OverlapPolicy", "cap", "()I"⟩ : MethodName)) (z := (⟨"com/example/drumline/drumline/model/OverlapPolicy", "cap", "()I"⟩ : MethodName)) hown (mvT hZ (hw _ (List.mem_of_getElem? (i := 26) rfl))) (mvT hZ (hw _ (List.mem_of_getElem? (i := 27) rfl))) (notFace_of_selects (args := #[]) (mvT hZ (hw _ (List.mem_of_getElem? (i := 29) rfl)))) (mvT hZ (hw _ (List.mem_of_getElem? (i := 29) rfl))) (mvT hZ (hw _ (List.mem_of_getElem? (i := 28) rfl))) (by decide) (backOf (W := 0) (rm5 l Z a0 hw [] b5 dd T5.heap n0 Z5 Gc5) hZ (hw _ (List.mem_of_getElem? (i := 30) rfl)) (hw _ (List.mem_of_getElem? (i := 3) rfl)) (by decide) (by decide)) q16a q16c (g := (mkF m 86 #[.val (.int x0), .val (.int x1), .val (.int (1 : Int32)), .val (.int dd), .val (.ref b4), .val (.ref b5), .val (.int (1 : Int32))] [(.ref b5)])) rfl (by rw [hml]; rfl) (Steps.refl _) (argsL := []) (rest := []) (lenOf pd___I rfl) rfl (by show 2 * 0 + _ ≤ _; exact Nat.le_of_eq rfl) (hb hby at_86) (fun _ _ => ⟨rfl, e15, (by decide : 2 + 0 ≤ _), (by decide : 4 + 0 ≤ _)⟩)
      dsimp only [Pt.U, Pt.locs, Pt.cells, Pt.slots] at X16 l16 y16 z16 st16 hQ16
      subst l16 y16 z16
      obtain ⟨rfl, Nq16, e16⟩ := hQ16
      have N16 := Fr.app N14 Nq16
      refine go (fun tg kg => st16.trans kg) ?_
      show G (T16.setTop (mkF m 89 #[.val (.int x0), .val (.int x1), .val (.int (1 : Int32)), .val (.int dd), .val (.ref b4), .val (.ref b5), .val (.int (1 : Int32))] [(.int dd)]))
      refine go (fun tg kg => XS.iloadN X16.here hx rfl (hb hby at_89) rfl kg) ?_
      show G (T16.setTop (mkF m 90 #[.val (.int x0), .val (.int x1), .val (.int (1 : Int32)), .val (.int dd), .val (.ref b4), .val (.ref b5), .val (.int (1 : Int32))] [(.int dd), (.int dd)]))
      refine go (fun tg kg => XS.icmpNo X16.here hx rfl (hb hby at_90) rfl (teq (rfl : dd = dd)).2 kg) ?_
      show G (T16.setTop (mkF m 93 #[.val (.int x0), .val (.int x1), .val (.int (1 : Int32)), .val (.int dd), .val (.ref b4), .val (.ref b5), .val (.int (1 : Int32))] []))
      refine go (fun tg kg => XS.iconst X16.here hx rfl (hb hby at_93) kg) ?_
      show G (T16.setTop (mkF m 94 #[.val (.int x0), .val (.int x1), .val (.int (1 : Int32)), .val (.int dd), .val (.ref b4), .val (.ref b5), .val (.int (1 : Int32))] [(.int (1 : Int32))]))
      refine go (fun tg kg => XS.goto X16.here hx rfl (pc0 := 94) (pc' := 98) rfl (hb hby at_94) (by decide) (by decide) kg) ?_
      show G (T16.setTop (mkF m 98 #[.val (.int x0), .val (.int x1), .val (.int (1 : Int32)), .val (.int dd), .val (.ref b4), .val (.ref b5), .val (.int (1 : Int32))] [(.int (1 : Int32))]))
      refine go (fun tg kg => XS.istore X16.here hx rfl (hb hby at_98) rfl (l' := #[.val (.int x0), .val (.int x1), .val (.int (1 : Int32)), .val (.int dd), .val (.ref b4), .val (.ref b5), .val (.int (1 : Int32))]) rfl kg) ?_
      show G (T16.setTop (mkF m 100 #[.val (.int x0), .val (.int x1), .val (.int (1 : Int32)), .val (.int dd), .val (.ref b4), .val (.ref b5), .val (.int (1 : Int32))] []))
      refine go (fun tg kg => XS.iload X16.here hx rfl (hb hby at_100) rfl kg) ?_
      show G (T16.setTop (mkF m 102 #[.val (.int x0), .val (.int x1), .val (.int (1 : Int32)), .val (.int dd), .val (.ref b4), .val (.ref b5), .val (.int (1 : Int32))] [(.int (1 : Int32))]))
      refine go (fun tg kg => XS.ifNo X16.here hx rfl (hb hby at_102) rfl ((if0 _ _).trans (feq (by decide)).1) kg) ?_
      show G (T16.setTop (mkF m 105 #[.val (.int x0), .val (.int x1), .val (.int (1 : Int32)), .val (.int dd), .val (.ref b4), .val (.ref b5), .val (.int (1 : Int32))] []))
      refine go (fun tg kg => XS.aload X16.here hx rfl (hb hby at_105) rfl rfl kg) ?_
      show G (T16.setTop (mkF m 107 #[.val (.int x0), .val (.int x1), .val (.int (1 : Int32)), .val (.int dd), .val (.ref b4), .val (.ref b5), .val (.int (1 : Int32))] [(.ref b4)]))
      refine go (fun tg kg => XS.aload X16.here hx rfl (hb hby at_107) rfl rfl kg) ?_
      show G (T16.setTop (mkF m 109 #[.val (.int x0), .val (.int x1), .val (.int (1 : Int32)), .val (.int dd), .val (.ref b4), .val (.ref b5), .val (.int (1 : Int32))] [(.ref b5), (.ref b4)]))
      obtain ⟨cq17, kq17, q17a, q17b, q17c⟩ := isOf hZ e16 Fa9
      obtain ⟨_, _, ⟨T17, L17, k17, n17⟩, -, X17, ⟨Lc17, hQ17, l17, y17, z17⟩, st17⟩ := X16.virtualBack hx (y := (⟨"com/example/drumline/drumline/model/OverlapPolicy", "equals", "(Ljava/lang/Object;)Z"⟩ : MethodName)) (z := (⟨"com/example/drumline/drumline/model/OverlapPolicy", "equals", "(Ljava/lang/Object;)Z"⟩ : MethodName)) hown (mvT hZ (hw _ (List.mem_of_getElem? (i := 31) rfl))) (mvT hZ (hw _ (List.mem_of_getElem? (i := 32) rfl))) (notFace_of_selects (args := #[]) (mvT hZ (hw _ (List.mem_of_getElem? (i := 34) rfl)))) (mvT hZ (hw _ (List.mem_of_getElem? (i := 34) rfl))) (mvT hZ (hw _ (List.mem_of_getElem? (i := 33) rfl))) (by decide) (backOf (W := 0) (rm6_1 l Z a0 hw [] b4 b5 k_PARALLEL (1 : Int32) dd T5.heap n0 Z5 Ge5 Fa8 Gk5 Fa13 Gc5) hZ (hw _ (List.mem_of_getElem? (i := 35) rfl)) (hw _ (List.mem_of_getElem? (i := 3) rfl)) (by decide) (by decide)) q17a q17c (g := (mkF m 109 #[.val (.int x0), .val (.int x1), .val (.int (1 : Int32)), .val (.int dd), .val (.ref b4), .val (.ref b5), .val (.int (1 : Int32))] [(.ref b5), (.ref b4)])) rfl (by rw [hml]; rfl) (Steps.refl _) (argsL := [(.ref b5)]) (rest := []) (lenOf pd__Ljava_lang_Object__Z rfl) rfl (by show 2 * 0 + _ ≤ _; exact Nat.le_of_eq rfl) (hb hby at_109) (fun _ _ => ⟨rfl, e16, (by decide : 2 + 0 ≤ _), (by decide : 4 + 0 ≤ _)⟩)
      dsimp only [Pt.U, Pt.locs, Pt.cells, Pt.slots] at X17 l17 y17 z17 st17 hQ17
      subst l17 y17 z17
      obtain ⟨rfl, Nq17, e17⟩ := hQ17
      have N17 := Fr.app N16 Nq17
      refine go (fun tg kg => st17.trans kg) ?_
      show G (T17.setTop (mkF m 112 #[.val (.int x0), .val (.int x1), .val (.int (1 : Int32)), .val (.int dd), .val (.ref b4), .val (.ref b5), .val (.int (1 : Int32))] [(.int (own_eqv k_PARALLEL k_PARALLEL (1 : Int32) dd))]))
      refine go (fun tg kg => XS.iloadN X17.here hx rfl (hb hby at_112) rfl kg) ?_
      show G (T17.setTop (mkF m 113 #[.val (.int x0), .val (.int x1), .val (.int (1 : Int32)), .val (.int dd), .val (.ref b4), .val (.ref b5), .val (.int (1 : Int32))] [(.int (1 : Int32)), (.int (own_eqv k_PARALLEL k_PARALLEL (1 : Int32) dd))]))
      refine go (fun tg kg => XS.iloadN X17.here hx rfl (hb hby at_113) rfl kg) ?_
      show G (T17.setTop (mkF m 114 #[.val (.int x0), .val (.int x1), .val (.int (1 : Int32)), .val (.int dd), .val (.ref b4), .val (.ref b5), .val (.int (1 : Int32))] [(.int dd), (.int (1 : Int32)), (.int (own_eqv k_PARALLEL k_PARALLEL (1 : Int32) dd))]))
      by_cases hc18 : (1 : Int32) = dd
      · refine go (fun tg kg => XS.icmpNo X17.here hx rfl (hb hby at_114) rfl (teq hc18).2 kg) ?_
        show G (T17.setTop (mkF m 117 #[.val (.int x0), .val (.int x1), .val (.int (1 : Int32)), .val (.int dd), .val (.ref b4), .val (.ref b5), .val (.int (1 : Int32))] [(.int (own_eqv k_PARALLEL k_PARALLEL (1 : Int32) dd))]))
        refine go (fun tg kg => XS.iconst X17.here hx rfl (hb hby at_117) kg) ?_
        show G (T17.setTop (mkF m 118 #[.val (.int x0), .val (.int x1), .val (.int (1 : Int32)), .val (.int dd), .val (.ref b4), .val (.ref b5), .val (.int (1 : Int32))] [(.int (1 : Int32)), (.int (own_eqv k_PARALLEL k_PARALLEL (1 : Int32) dd))]))
        refine go (fun tg kg => XS.goto X17.here hx rfl (pc0 := 118) (pc' := 122) rfl (hb hby at_118) (by decide) (by decide) kg) ?_
        show G (T17.setTop (mkF m 122 #[.val (.int x0), .val (.int x1), .val (.int (1 : Int32)), .val (.int dd), .val (.ref b4), .val (.ref b5), .val (.int (1 : Int32))] [(.int (1 : Int32)), (.int (own_eqv k_PARALLEL k_PARALLEL (1 : Int32) dd))]))
        refine go (fun tg kg => XS.icmpNo X17.here hx rfl (hb hby at_122) rfl (teq (own_e1 hc18)).2 kg) ?_
        show G (T17.setTop (mkF m 125 #[.val (.int x0), .val (.int x1), .val (.int (1 : Int32)), .val (.int dd), .val (.ref b4), .val (.ref b5), .val (.int (1 : Int32))] []))
        refine go (fun tg kg => XS.iconst X17.here hx rfl (hb hby at_125) kg) ?_
        show G (T17.setTop (mkF m 126 #[.val (.int x0), .val (.int x1), .val (.int (1 : Int32)), .val (.int dd), .val (.ref b4), .val (.ref b5), .val (.int (1 : Int32))] [(.int (1 : Int32))]))
        refine go (fun tg kg => XS.goto X17.here hx rfl (pc0 := 126) (pc' := 130) rfl (hb hby at_126) (by decide) (by decide) kg) ?_
        show G (T17.setTop (mkF m 130 #[.val (.int x0), .val (.int x1), .val (.int (1 : Int32)), .val (.int dd), .val (.ref b4), .val (.ref b5), .val (.int (1 : Int32))] [(.int (1 : Int32))]))
        refine go (fun tg kg => XS.istore X17.here hx rfl (hb hby at_130) rfl (l' := #[.val (.int x0), .val (.int x1), .val (.int (1 : Int32)), .val (.int dd), .val (.ref b4), .val (.ref b5), .val (.int (1 : Int32))]) rfl kg) ?_
        show G (T17.setTop (mkF m 132 #[.val (.int x0), .val (.int x1), .val (.int (1 : Int32)), .val (.int dd), .val (.ref b4), .val (.ref b5), .val (.int (1 : Int32))] []))
        refine go (fun tg kg => XS.iload X17.here hx rfl (hb hby at_132) rfl kg) ?_
        show G (T17.setTop (mkF m 134 #[.val (.int x0), .val (.int x1), .val (.int (1 : Int32)), .val (.int dd), .val (.ref b4), .val (.ref b5), .val (.int (1 : Int32))] [(.int (1 : Int32))]))
        refine go (fun tg kg => XS.ifNo X17.here hx rfl (hb hby at_134) rfl ((if0 _ _).trans (feq (by decide)).1) kg) ?_
        show G (T17.setTop (mkF m 137 #[.val (.int x0), .val (.int x1), .val (.int (1 : Int32)), .val (.int dd), .val (.ref b4), .val (.ref b5), .val (.int (1 : Int32))] []))
        refine go (fun tg kg => XS.aload X17.here hx rfl (hb hby at_137) rfl rfl kg) ?_
        show G (T17.setTop (mkF m 139 #[.val (.int x0), .val (.int x1), .val (.int (1 : Int32)), .val (.int dd), .val (.ref b4), .val (.ref b5), .val (.int (1 : Int32))] [(.ref b4)]))
        have Fa20 := (own_sta_keep (own_sta_keep S_u_QUEUE K4 all0) K5 all0)
        obtain ⟨_, _, ⟨T19, L19, k19, n19⟩, -, X19, ⟨Lc19, hQ19, l19, y19, z19⟩, st19⟩ := Jvm.LawKit.callS X17 hx (y := (⟨"com/example/drumline/drumline/model/OverlapPolicy", "queue", "()Lcom/example/drumline/drumline/model/OverlapPolicy;"⟩ : MethodName)) hown (mvT hZ (hw _ (List.mem_of_getElem? (i := 37) rfl))) (mvT hZ (hw _ (List.mem_of_getElem? (i := 38) rfl))) (mvT hZ (hw _ (List.mem_of_getElem? (i := 3) rfl))) (mvT hZ (hw _ (List.mem_of_getElem? (i := 39) rfl))) (by decide) (backOf (W := 1) (rm7 l Z a0 hw [] u_QUEUE T5.heap n0 Z5 Fa20) hZ (hw _ (List.mem_of_getElem? (i := 39) rfl)) (hw _ (List.mem_of_getElem? (i := 3) rfl)) (by decide) (by decide)) (g := (mkF m 139 #[.val (.int x0), .val (.int x1), .val (.int (1 : Int32)), .val (.int dd), .val (.ref b4), .val (.ref b5), .val (.int (1 : Int32))] [(.ref b4)])) rfl (by rw [hml]; rfl) (argsL := []) (rest := [(.ref b4)]) (lenOf pd___Lcom_example_drumline_drumline_model_OverlapPolicy_ rfl) rfl (by show 2 * 0 + _ ≤ _; exact Nat.le_of_eq rfl) (hb hby at_139) (fun _ _ => ⟨rfl, e17, (by decide : 2 + 0 ≤ _), (by decide : 4 + 0 ≤ _)⟩)
        dsimp only [Pt.U, Pt.locs, Pt.cells, Pt.slots] at X19 l19 y19 z19 st19 hQ19
        subst l19 y19 z19
        obtain ⟨rfl, Nq19, e19⟩ := hQ19
        have N19 := Fr.app N17 Nq19
        refine go st19 ?_
        show G (T19.setTop (mkF m 142 #[.val (.int x0), .val (.int x1), .val (.int (1 : Int32)), .val (.int dd), .val (.ref b4), .val (.ref b5), .val (.int (1 : Int32))] [(.ref u_QUEUE), (.ref b4)]))
        have Fa22 := ((E_u_QUEUE.keep K4).keep K5)
        have Fa23 := ((F_u_QUEUE_kind.keep K4 nin0).keep K5 nin0)
        obtain ⟨cq21, kq21, q21a, q21b, q21c⟩ := isOf hZ e19 Fa9
        obtain ⟨_, _, ⟨T21, L21, k21, n21⟩, -, X21, ⟨Lc21, hQ21, l21, y21, z21⟩, st21⟩ := X19.virtualBack hx (y := (⟨"com/example/drumline/drumline/model/OverlapPolicy", "equals", "(Ljava/lang/Object;)Z"⟩ : MethodName)) (z := (⟨"com/example/drumline/drumline/model/OverlapPolicy", "equals", "(Ljava/lang/Object;)Z"⟩ : MethodName)) hown (mvT hZ (hw _ (List.mem_of_getElem? (i := 31) rfl))) (mvT hZ (hw _ (List.mem_of_getElem? (i := 32) rfl))) (notFace_of_selects (args := #[]) (mvT hZ (hw _ (List.mem_of_getElem? (i := 34) rfl)))) (mvT hZ (hw _ (List.mem_of_getElem? (i := 34) rfl))) (mvT hZ (hw _ (List.mem_of_getElem? (i := 33) rfl))) (by decide) (backOf (W := 0) (rm6_0 l Z a0 hw [] b4 u_QUEUE k_PARALLEL k_QUEUE T5.heap n0 Z5 Fa22 Fa8 Fa23 hnk_QUEUE) hZ (hw _ (List.mem_of_getElem? (i := 35) rfl)) (hw _ (List.mem_of_getElem? (i := 3) rfl)) (by decide) (by decide)) q21a q21c (g := (mkF m 142 #[.val (.int x0), .val (.int x1), .val (.int (1 : Int32)), .val (.int dd), .val (.ref b4), .val (.ref b5), .val (.int (1 : Int32))] [(.ref u_QUEUE), (.ref b4)])) rfl (by rw [hml]; rfl) (Steps.refl _) (argsL := [(.ref u_QUEUE)]) (rest := []) (lenOf pd__Ljava_lang_Object__Z rfl) rfl (by show 2 * 0 + _ ≤ _; exact Nat.le_of_eq rfl) (hb hby at_142) (fun _ _ => ⟨rfl, e19, (by decide : 2 + 0 ≤ _), (by decide : 4 + 0 ≤ _)⟩)
        dsimp only [Pt.U, Pt.locs, Pt.cells, Pt.slots] at X21 l21 y21 z21 st21 hQ21
        subst l21 y21 z21
        obtain ⟨rfl, Nq21, e21⟩ := hQ21
        have N21 := Fr.app N19 Nq21
        refine go (fun tg kg => st21.trans kg) ?_
        show G (T21.setTop (mkF m 145 #[.val (.int x0), .val (.int x1), .val (.int (1 : Int32)), .val (.int dd), .val (.ref b4), .val (.ref b5), .val (.int (1 : Int32))] [(.int (0 : Int32))]))
        refine go (fun tg kg => XS.ifNo X21.here hx rfl (hb hby at_145) rfl ((if0 _ _).trans (teq (by decide)).2) kg) ?_
        show G (T21.setTop (mkF m 148 #[.val (.int x0), .val (.int x1), .val (.int (1 : Int32)), .val (.int dd), .val (.ref b4), .val (.ref b5), .val (.int (1 : Int32))] []))
        refine go (fun tg kg => XS.iconst X21.here hx rfl (hb hby at_148) kg) ?_
        show G (T21.setTop (mkF m 149 #[.val (.int x0), .val (.int x1), .val (.int (1 : Int32)), .val (.int dd), .val (.ref b4), .val (.ref b5), .val (.int (1 : Int32))] [(.int (1 : Int32))]))
        refine go (fun tg kg => XS.goto X21.here hx rfl (pc0 := 149) (pc' := 153) rfl (hb hby at_149) (by decide) (by decide) kg) ?_
        show G (T21.setTop (mkF m 153 #[.val (.int x0), .val (.int x1), .val (.int (1 : Int32)), .val (.int dd), .val (.ref b4), .val (.ref b5), .val (.int (1 : Int32))] [(.int (1 : Int32))]))
        refine go (fun tg kg => XS.istore X21.here hx rfl (hb hby at_153) rfl (l' := #[.val (.int x0), .val (.int x1), .val (.int (1 : Int32)), .val (.int dd), .val (.ref b4), .val (.ref b5), .val (.int (1 : Int32))]) rfl kg) ?_
        show G (T21.setTop (mkF m 155 #[.val (.int x0), .val (.int x1), .val (.int (1 : Int32)), .val (.int dd), .val (.ref b4), .val (.ref b5), .val (.int (1 : Int32))] []))
        refine go (fun tg kg => XS.iload X21.here hx rfl (hb hby at_155) rfl kg) ?_
        show G (T21.setTop (mkF m 157 #[.val (.int x0), .val (.int x1), .val (.int (1 : Int32)), .val (.int dd), .val (.ref b4), .val (.ref b5), .val (.int (1 : Int32))] [(.int (1 : Int32))]))
        refine go (fun tg kg => XS.ifNo X21.here hx rfl (hb hby at_157) rfl ((if0 _ _).trans (feq (by decide)).1) kg) ?_
        show G (T21.setTop (mkF m 160 #[.val (.int x0), .val (.int x1), .val (.int (1 : Int32)), .val (.int dd), .val (.ref b4), .val (.ref b5), .val (.int (1 : Int32))] []))
        refine go (fun tg kg => XS.aload X21.here hx rfl (hb hby at_160) rfl rfl kg) ?_
        show G (T21.setTop (mkF m 162 #[.val (.int x0), .val (.int x1), .val (.int (1 : Int32)), .val (.int dd), .val (.ref b4), .val (.ref b5), .val (.int (1 : Int32))] [(.ref b4)]))
        have Fa25 := (own_sta_keep (own_sta_keep S_u_SKIP K4 all0) K5 all0)
        obtain ⟨_, _, ⟨T24, L24, k24, n24⟩, -, X24, ⟨Lc24, hQ24, l24, y24, z24⟩, st24⟩ := Jvm.LawKit.callS X21 hx (y := (⟨"com/example/drumline/drumline/model/OverlapPolicy", "skip", "()Lcom/example/drumline/drumline/model/OverlapPolicy;"⟩ : MethodName)) hown (mvT hZ (hw _ (List.mem_of_getElem? (i := 43) rfl))) (mvT hZ (hw _ (List.mem_of_getElem? (i := 44) rfl))) (mvT hZ (hw _ (List.mem_of_getElem? (i := 3) rfl))) (mvT hZ (hw _ (List.mem_of_getElem? (i := 45) rfl))) (by decide) (backOf (W := 1) (rm8 l Z a0 hw [] u_SKIP T5.heap n0 Z5 Fa25) hZ (hw _ (List.mem_of_getElem? (i := 45) rfl)) (hw _ (List.mem_of_getElem? (i := 3) rfl)) (by decide) (by decide)) (g := (mkF m 162 #[.val (.int x0), .val (.int x1), .val (.int (1 : Int32)), .val (.int dd), .val (.ref b4), .val (.ref b5), .val (.int (1 : Int32))] [(.ref b4)])) rfl (by rw [hml]; rfl) (argsL := []) (rest := [(.ref b4)]) (lenOf pd___Lcom_example_drumline_drumline_model_OverlapPolicy_ rfl) rfl (by show 2 * 0 + _ ≤ _; exact Nat.le_of_eq rfl) (hb hby at_162) (fun _ _ => ⟨rfl, e21, (by decide : 2 + 0 ≤ _), (by decide : 4 + 0 ≤ _)⟩)
        dsimp only [Pt.U, Pt.locs, Pt.cells, Pt.slots] at X24 l24 y24 z24 st24 hQ24
        subst l24 y24 z24
        obtain ⟨rfl, Nq24, e24⟩ := hQ24
        have N24 := Fr.app N21 Nq24
        refine go st24 ?_
        show G (T24.setTop (mkF m 165 #[.val (.int x0), .val (.int x1), .val (.int (1 : Int32)), .val (.int dd), .val (.ref b4), .val (.ref b5), .val (.int (1 : Int32))] [(.ref u_SKIP), (.ref b4)]))
        have Fa27 := ((E_u_SKIP.keep K4).keep K5)
        have Fa28 := ((F_u_SKIP_kind.keep K4 nin0).keep K5 nin0)
        obtain ⟨cq26, kq26, q26a, q26b, q26c⟩ := isOf hZ e24 Fa9
        obtain ⟨_, _, ⟨T26, L26, k26, n26⟩, -, X26, ⟨Lc26, hQ26, l26, y26, z26⟩, st26⟩ := X24.virtualBack hx (y := (⟨"com/example/drumline/drumline/model/OverlapPolicy", "equals", "(Ljava/lang/Object;)Z"⟩ : MethodName)) (z := (⟨"com/example/drumline/drumline/model/OverlapPolicy", "equals", "(Ljava/lang/Object;)Z"⟩ : MethodName)) hown (mvT hZ (hw _ (List.mem_of_getElem? (i := 31) rfl))) (mvT hZ (hw _ (List.mem_of_getElem? (i := 32) rfl))) (notFace_of_selects (args := #[]) (mvT hZ (hw _ (List.mem_of_getElem? (i := 34) rfl)))) (mvT hZ (hw _ (List.mem_of_getElem? (i := 34) rfl))) (mvT hZ (hw _ (List.mem_of_getElem? (i := 33) rfl))) (by decide) (backOf (W := 0) (rm6_0 l Z a0 hw [] b4 u_SKIP k_PARALLEL k_SKIP T5.heap n0 Z5 Fa27 Fa8 Fa28 hnk_SKIP) hZ (hw _ (List.mem_of_getElem? (i := 35) rfl)) (hw _ (List.mem_of_getElem? (i := 3) rfl)) (by decide) (by decide)) q26a q26c (g := (mkF m 165 #[.val (.int x0), .val (.int x1), .val (.int (1 : Int32)), .val (.int dd), .val (.ref b4), .val (.ref b5), .val (.int (1 : Int32))] [(.ref u_SKIP), (.ref b4)])) rfl (by rw [hml]; rfl) (Steps.refl _) (argsL := [(.ref u_SKIP)]) (rest := []) (lenOf pd__Ljava_lang_Object__Z rfl) rfl (by show 2 * 0 + _ ≤ _; exact Nat.le_of_eq rfl) (hb hby at_165) (fun _ _ => ⟨rfl, e24, (by decide : 2 + 0 ≤ _), (by decide : 4 + 0 ≤ _)⟩)
        dsimp only [Pt.U, Pt.locs, Pt.cells, Pt.slots] at X26 l26 y26 z26 st26 hQ26
        subst l26 y26 z26
        obtain ⟨rfl, Nq26, e26⟩ := hQ26
        have N26 := Fr.app N24 Nq26
        refine go (fun tg kg => st26.trans kg) ?_
        show G (T26.setTop (mkF m 168 #[.val (.int x0), .val (.int x1), .val (.int (1 : Int32)), .val (.int dd), .val (.ref b4), .val (.ref b5), .val (.int (1 : Int32))] [(.int (0 : Int32))]))
        refine go (fun tg kg => XS.ifNo X26.here hx rfl (hb hby at_168) rfl ((if0 _ _).trans (teq (by decide)).2) kg) ?_
        show G (T26.setTop (mkF m 171 #[.val (.int x0), .val (.int x1), .val (.int (1 : Int32)), .val (.int dd), .val (.ref b4), .val (.ref b5), .val (.int (1 : Int32))] []))
        refine go (fun tg kg => XS.iconst X26.here hx rfl (hb hby at_171) kg) ?_
        show G (T26.setTop (mkF m 172 #[.val (.int x0), .val (.int x1), .val (.int (1 : Int32)), .val (.int dd), .val (.ref b4), .val (.ref b5), .val (.int (1 : Int32))] [(.int (1 : Int32))]))
        refine go (fun tg kg => XS.goto X26.here hx rfl (pc0 := 172) (pc' := 176) rfl (hb hby at_172) (by decide) (by decide) kg) ?_
        show G (T26.setTop (mkF m 176 #[.val (.int x0), .val (.int x1), .val (.int (1 : Int32)), .val (.int dd), .val (.ref b4), .val (.ref b5), .val (.int (1 : Int32))] [(.int (1 : Int32))]))
        refine go (fun tg kg => XS.istore X26.here hx rfl (hb hby at_176) rfl (l' := #[.val (.int x0), .val (.int x1), .val (.int (1 : Int32)), .val (.int dd), .val (.ref b4), .val (.ref b5), .val (.int (1 : Int32))]) rfl kg) ?_
        show G (T26.setTop (mkF m 178 #[.val (.int x0), .val (.int x1), .val (.int (1 : Int32)), .val (.int dd), .val (.ref b4), .val (.ref b5), .val (.int (1 : Int32))] []))
        refine go (fun tg kg => XS.iload X26.here hx rfl (hb hby at_178) rfl kg) ?_
        show G (T26.setTop (mkF m 180 #[.val (.int x0), .val (.int x1), .val (.int (1 : Int32)), .val (.int dd), .val (.ref b4), .val (.ref b5), .val (.int (1 : Int32))] [(.int (1 : Int32))]))
        refine fin (some (.int (1 : Int32))) X26 (fun h => absurd h (by decide)) (fun fs hr => retN X26 hx (t := .boolean) hret (by simp) (hb hby at_180) hr) (by decide) (by decide) ?_
        rw [e26]
        exact ⟨rfl, N26⟩
      · refine go (fun tg kg => XS.icmpYes X17.here hx rfl (pc0 := 114) (pc' := 121) rfl (hb hby at_114) rfl (feq hc18).2 (by decide) (by decide) kg) ?_
        show G (T17.setTop (mkF m 121 #[.val (.int x0), .val (.int x1), .val (.int (1 : Int32)), .val (.int dd), .val (.ref b4), .val (.ref b5), .val (.int (1 : Int32))] [(.int (own_eqv k_PARALLEL k_PARALLEL (1 : Int32) dd))]))
        refine go (fun tg kg => XS.iconst X17.here hx rfl (hb hby at_121) kg) ?_
        show G (T17.setTop (mkF m 122 #[.val (.int x0), .val (.int x1), .val (.int (1 : Int32)), .val (.int dd), .val (.ref b4), .val (.ref b5), .val (.int (1 : Int32))] [(.int (0 : Int32)), (.int (own_eqv k_PARALLEL k_PARALLEL (1 : Int32) dd))]))
        refine go (fun tg kg => XS.icmpNo X17.here hx rfl (hb hby at_122) rfl (teq (own_e0 hc18)).2 kg) ?_
        show G (T17.setTop (mkF m 125 #[.val (.int x0), .val (.int x1), .val (.int (1 : Int32)), .val (.int dd), .val (.ref b4), .val (.ref b5), .val (.int (1 : Int32))] []))
        refine go (fun tg kg => XS.iconst X17.here hx rfl (hb hby at_125) kg) ?_
        show G (T17.setTop (mkF m 126 #[.val (.int x0), .val (.int x1), .val (.int (1 : Int32)), .val (.int dd), .val (.ref b4), .val (.ref b5), .val (.int (1 : Int32))] [(.int (1 : Int32))]))
        refine go (fun tg kg => XS.goto X17.here hx rfl (pc0 := 126) (pc' := 130) rfl (hb hby at_126) (by decide) (by decide) kg) ?_
        show G (T17.setTop (mkF m 130 #[.val (.int x0), .val (.int x1), .val (.int (1 : Int32)), .val (.int dd), .val (.ref b4), .val (.ref b5), .val (.int (1 : Int32))] [(.int (1 : Int32))]))
        refine go (fun tg kg => XS.istore X17.here hx rfl (hb hby at_130) rfl (l' := #[.val (.int x0), .val (.int x1), .val (.int (1 : Int32)), .val (.int dd), .val (.ref b4), .val (.ref b5), .val (.int (1 : Int32))]) rfl kg) ?_
        show G (T17.setTop (mkF m 132 #[.val (.int x0), .val (.int x1), .val (.int (1 : Int32)), .val (.int dd), .val (.ref b4), .val (.ref b5), .val (.int (1 : Int32))] []))
        refine go (fun tg kg => XS.iload X17.here hx rfl (hb hby at_132) rfl kg) ?_
        show G (T17.setTop (mkF m 134 #[.val (.int x0), .val (.int x1), .val (.int (1 : Int32)), .val (.int dd), .val (.ref b4), .val (.ref b5), .val (.int (1 : Int32))] [(.int (1 : Int32))]))
        refine go (fun tg kg => XS.ifNo X17.here hx rfl (hb hby at_134) rfl ((if0 _ _).trans (feq (by decide)).1) kg) ?_
        show G (T17.setTop (mkF m 137 #[.val (.int x0), .val (.int x1), .val (.int (1 : Int32)), .val (.int dd), .val (.ref b4), .val (.ref b5), .val (.int (1 : Int32))] []))
        refine go (fun tg kg => XS.aload X17.here hx rfl (hb hby at_137) rfl rfl kg) ?_
        show G (T17.setTop (mkF m 139 #[.val (.int x0), .val (.int x1), .val (.int (1 : Int32)), .val (.int dd), .val (.ref b4), .val (.ref b5), .val (.int (1 : Int32))] [(.ref b4)]))
        have Fa30 := (own_sta_keep (own_sta_keep S_u_QUEUE K4 all0) K5 all0)
        obtain ⟨_, _, ⟨T29, L29, k29, n29⟩, -, X29, ⟨Lc29, hQ29, l29, y29, z29⟩, st29⟩ := Jvm.LawKit.callS X17 hx (y := (⟨"com/example/drumline/drumline/model/OverlapPolicy", "queue", "()Lcom/example/drumline/drumline/model/OverlapPolicy;"⟩ : MethodName)) hown (mvT hZ (hw _ (List.mem_of_getElem? (i := 37) rfl))) (mvT hZ (hw _ (List.mem_of_getElem? (i := 38) rfl))) (mvT hZ (hw _ (List.mem_of_getElem? (i := 3) rfl))) (mvT hZ (hw _ (List.mem_of_getElem? (i := 39) rfl))) (by decide) (backOf (W := 1) (rm7 l Z a0 hw [] u_QUEUE T5.heap n0 Z5 Fa30) hZ (hw _ (List.mem_of_getElem? (i := 39) rfl)) (hw _ (List.mem_of_getElem? (i := 3) rfl)) (by decide) (by decide)) (g := (mkF m 139 #[.val (.int x0), .val (.int x1), .val (.int (1 : Int32)), .val (.int dd), .val (.ref b4), .val (.ref b5), .val (.int (1 : Int32))] [(.ref b4)])) rfl (by rw [hml]; rfl) (argsL := []) (rest := [(.ref b4)]) (lenOf pd___Lcom_example_drumline_drumline_model_OverlapPolicy_ rfl) rfl (by show 2 * 0 + _ ≤ _; exact Nat.le_of_eq rfl) (hb hby at_139) (fun _ _ => ⟨rfl, e17, (by decide : 2 + 0 ≤ _), (by decide : 4 + 0 ≤ _)⟩)
        dsimp only [Pt.U, Pt.locs, Pt.cells, Pt.slots] at X29 l29 y29 z29 st29 hQ29
        subst l29 y29 z29
        obtain ⟨rfl, Nq29, e29⟩ := hQ29
        have N29 := Fr.app N17 Nq29
        refine go st29 ?_
        show G (T29.setTop (mkF m 142 #[.val (.int x0), .val (.int x1), .val (.int (1 : Int32)), .val (.int dd), .val (.ref b4), .val (.ref b5), .val (.int (1 : Int32))] [(.ref u_QUEUE), (.ref b4)]))
        have Fa32 := ((E_u_QUEUE.keep K4).keep K5)
        have Fa33 := ((F_u_QUEUE_kind.keep K4 nin0).keep K5 nin0)
        obtain ⟨cq31, kq31, q31a, q31b, q31c⟩ := isOf hZ e29 Fa9
        obtain ⟨_, _, ⟨T31, L31, k31, n31⟩, -, X31, ⟨Lc31, hQ31, l31, y31, z31⟩, st31⟩ := X29.virtualBack hx (y := (⟨"com/example/drumline/drumline/model/OverlapPolicy", "equals", "(Ljava/lang/Object;)Z"⟩ : MethodName)) (z := (⟨"com/example/drumline/drumline/model/OverlapPolicy", "equals", "(Ljava/lang/Object;)Z"⟩ : MethodName)) hown (mvT hZ (hw _ (List.mem_of_getElem? (i := 31) rfl))) (mvT hZ (hw _ (List.mem_of_getElem? (i := 32) rfl))) (notFace_of_selects (args := #[]) (mvT hZ (hw _ (List.mem_of_getElem? (i := 34) rfl)))) (mvT hZ (hw _ (List.mem_of_getElem? (i := 34) rfl))) (mvT hZ (hw _ (List.mem_of_getElem? (i := 33) rfl))) (by decide) (backOf (W := 0) (rm6_0 l Z a0 hw [] b4 u_QUEUE k_PARALLEL k_QUEUE T5.heap n0 Z5 Fa32 Fa8 Fa33 hnk_QUEUE) hZ (hw _ (List.mem_of_getElem? (i := 35) rfl)) (hw _ (List.mem_of_getElem? (i := 3) rfl)) (by decide) (by decide)) q31a q31c (g := (mkF m 142 #[.val (.int x0), .val (.int x1), .val (.int (1 : Int32)), .val (.int dd), .val (.ref b4), .val (.ref b5), .val (.int (1 : Int32))] [(.ref u_QUEUE), (.ref b4)])) rfl (by rw [hml]; rfl) (Steps.refl _) (argsL := [(.ref u_QUEUE)]) (rest := []) (lenOf pd__Ljava_lang_Object__Z rfl) rfl (by show 2 * 0 + _ ≤ _; exact Nat.le_of_eq rfl) (hb hby at_142) (fun _ _ => ⟨rfl, e29, (by decide : 2 + 0 ≤ _), (by decide : 4 + 0 ≤ _)⟩)
        dsimp only [Pt.U, Pt.locs, Pt.cells, Pt.slots] at X31 l31 y31 z31 st31 hQ31
        subst l31 y31 z31
        obtain ⟨rfl, Nq31, e31⟩ := hQ31
        have N31 := Fr.app N29 Nq31
        refine go (fun tg kg => st31.trans kg) ?_
        show G (T31.setTop (mkF m 145 #[.val (.int x0), .val (.int x1), .val (.int (1 : Int32)), .val (.int dd), .val (.ref b4), .val (.ref b5), .val (.int (1 : Int32))] [(.int (0 : Int32))]))
        refine go (fun tg kg => XS.ifNo X31.here hx rfl (hb hby at_145) rfl ((if0 _ _).trans (teq (by decide)).2) kg) ?_
        show G (T31.setTop (mkF m 148 #[.val (.int x0), .val (.int x1), .val (.int (1 : Int32)), .val (.int dd), .val (.ref b4), .val (.ref b5), .val (.int (1 : Int32))] []))
        refine go (fun tg kg => XS.iconst X31.here hx rfl (hb hby at_148) kg) ?_
        show G (T31.setTop (mkF m 149 #[.val (.int x0), .val (.int x1), .val (.int (1 : Int32)), .val (.int dd), .val (.ref b4), .val (.ref b5), .val (.int (1 : Int32))] [(.int (1 : Int32))]))
        refine go (fun tg kg => XS.goto X31.here hx rfl (pc0 := 149) (pc' := 153) rfl (hb hby at_149) (by decide) (by decide) kg) ?_
        show G (T31.setTop (mkF m 153 #[.val (.int x0), .val (.int x1), .val (.int (1 : Int32)), .val (.int dd), .val (.ref b4), .val (.ref b5), .val (.int (1 : Int32))] [(.int (1 : Int32))]))
        refine go (fun tg kg => XS.istore X31.here hx rfl (hb hby at_153) rfl (l' := #[.val (.int x0), .val (.int x1), .val (.int (1 : Int32)), .val (.int dd), .val (.ref b4), .val (.ref b5), .val (.int (1 : Int32))]) rfl kg) ?_
        show G (T31.setTop (mkF m 155 #[.val (.int x0), .val (.int x1), .val (.int (1 : Int32)), .val (.int dd), .val (.ref b4), .val (.ref b5), .val (.int (1 : Int32))] []))
        refine go (fun tg kg => XS.iload X31.here hx rfl (hb hby at_155) rfl kg) ?_
        show G (T31.setTop (mkF m 157 #[.val (.int x0), .val (.int x1), .val (.int (1 : Int32)), .val (.int dd), .val (.ref b4), .val (.ref b5), .val (.int (1 : Int32))] [(.int (1 : Int32))]))
        refine go (fun tg kg => XS.ifNo X31.here hx rfl (hb hby at_157) rfl ((if0 _ _).trans (feq (by decide)).1) kg) ?_
        show G (T31.setTop (mkF m 160 #[.val (.int x0), .val (.int x1), .val (.int (1 : Int32)), .val (.int dd), .val (.ref b4), .val (.ref b5), .val (.int (1 : Int32))] []))
        refine go (fun tg kg => XS.aload X31.here hx rfl (hb hby at_160) rfl rfl kg) ?_
        show G (T31.setTop (mkF m 162 #[.val (.int x0), .val (.int x1), .val (.int (1 : Int32)), .val (.int dd), .val (.ref b4), .val (.ref b5), .val (.int (1 : Int32))] [(.ref b4)]))
        have Fa35 := (own_sta_keep (own_sta_keep S_u_SKIP K4 all0) K5 all0)
        obtain ⟨_, _, ⟨T34, L34, k34, n34⟩, -, X34, ⟨Lc34, hQ34, l34, y34, z34⟩, st34⟩ := Jvm.LawKit.callS X31 hx (y := (⟨"com/example/drumline/drumline/model/OverlapPolicy", "skip", "()Lcom/example/drumline/drumline/model/OverlapPolicy;"⟩ : MethodName)) hown (mvT hZ (hw _ (List.mem_of_getElem? (i := 43) rfl))) (mvT hZ (hw _ (List.mem_of_getElem? (i := 44) rfl))) (mvT hZ (hw _ (List.mem_of_getElem? (i := 3) rfl))) (mvT hZ (hw _ (List.mem_of_getElem? (i := 45) rfl))) (by decide) (backOf (W := 1) (rm8 l Z a0 hw [] u_SKIP T5.heap n0 Z5 Fa35) hZ (hw _ (List.mem_of_getElem? (i := 45) rfl)) (hw _ (List.mem_of_getElem? (i := 3) rfl)) (by decide) (by decide)) (g := (mkF m 162 #[.val (.int x0), .val (.int x1), .val (.int (1 : Int32)), .val (.int dd), .val (.ref b4), .val (.ref b5), .val (.int (1 : Int32))] [(.ref b4)])) rfl (by rw [hml]; rfl) (argsL := []) (rest := [(.ref b4)]) (lenOf pd___Lcom_example_drumline_drumline_model_OverlapPolicy_ rfl) rfl (by show 2 * 0 + _ ≤ _; exact Nat.le_of_eq rfl) (hb hby at_162) (fun _ _ => ⟨rfl, e31, (by decide : 2 + 0 ≤ _), (by decide : 4 + 0 ≤ _)⟩)
        dsimp only [Pt.U, Pt.locs, Pt.cells, Pt.slots] at X34 l34 y34 z34 st34 hQ34
        subst l34 y34 z34
        obtain ⟨rfl, Nq34, e34⟩ := hQ34
        have N34 := Fr.app N31 Nq34
        refine go st34 ?_
        show G (T34.setTop (mkF m 165 #[.val (.int x0), .val (.int x1), .val (.int (1 : Int32)), .val (.int dd), .val (.ref b4), .val (.ref b5), .val (.int (1 : Int32))] [(.ref u_SKIP), (.ref b4)]))
        have Fa37 := ((E_u_SKIP.keep K4).keep K5)
        have Fa38 := ((F_u_SKIP_kind.keep K4 nin0).keep K5 nin0)
        obtain ⟨cq36, kq36, q36a, q36b, q36c⟩ := isOf hZ e34 Fa9
        obtain ⟨_, _, ⟨T36, L36, k36, n36⟩, -, X36, ⟨Lc36, hQ36, l36, y36, z36⟩, st36⟩ := X34.virtualBack hx (y := (⟨"com/example/drumline/drumline/model/OverlapPolicy", "equals", "(Ljava/lang/Object;)Z"⟩ : MethodName)) (z := (⟨"com/example/drumline/drumline/model/OverlapPolicy", "equals", "(Ljava/lang/Object;)Z"⟩ : MethodName)) hown (mvT hZ (hw _ (List.mem_of_getElem? (i := 31) rfl))) (mvT hZ (hw _ (List.mem_of_getElem? (i := 32) rfl))) (notFace_of_selects (args := #[]) (mvT hZ (hw _ (List.mem_of_getElem? (i := 34) rfl)))) (mvT hZ (hw _ (List.mem_of_getElem? (i := 34) rfl))) (mvT hZ (hw _ (List.mem_of_getElem? (i := 33) rfl))) (by decide) (backOf (W := 0) (rm6_0 l Z a0 hw [] b4 u_SKIP k_PARALLEL k_SKIP T5.heap n0 Z5 Fa37 Fa8 Fa38 hnk_SKIP) hZ (hw _ (List.mem_of_getElem? (i := 35) rfl)) (hw _ (List.mem_of_getElem? (i := 3) rfl)) (by decide) (by decide)) q36a q36c (g := (mkF m 165 #[.val (.int x0), .val (.int x1), .val (.int (1 : Int32)), .val (.int dd), .val (.ref b4), .val (.ref b5), .val (.int (1 : Int32))] [(.ref u_SKIP), (.ref b4)])) rfl (by rw [hml]; rfl) (Steps.refl _) (argsL := [(.ref u_SKIP)]) (rest := []) (lenOf pd__Ljava_lang_Object__Z rfl) rfl (by show 2 * 0 + _ ≤ _; exact Nat.le_of_eq rfl) (hb hby at_165) (fun _ _ => ⟨rfl, e34, (by decide : 2 + 0 ≤ _), (by decide : 4 + 0 ≤ _)⟩)
        dsimp only [Pt.U, Pt.locs, Pt.cells, Pt.slots] at X36 l36 y36 z36 st36 hQ36
        subst l36 y36 z36
        obtain ⟨rfl, Nq36, e36⟩ := hQ36
        have N36 := Fr.app N34 Nq36
        refine go (fun tg kg => st36.trans kg) ?_
        show G (T36.setTop (mkF m 168 #[.val (.int x0), .val (.int x1), .val (.int (1 : Int32)), .val (.int dd), .val (.ref b4), .val (.ref b5), .val (.int (1 : Int32))] [(.int (0 : Int32))]))
        refine go (fun tg kg => XS.ifNo X36.here hx rfl (hb hby at_168) rfl ((if0 _ _).trans (teq (by decide)).2) kg) ?_
        show G (T36.setTop (mkF m 171 #[.val (.int x0), .val (.int x1), .val (.int (1 : Int32)), .val (.int dd), .val (.ref b4), .val (.ref b5), .val (.int (1 : Int32))] []))
        refine go (fun tg kg => XS.iconst X36.here hx rfl (hb hby at_171) kg) ?_
        show G (T36.setTop (mkF m 172 #[.val (.int x0), .val (.int x1), .val (.int (1 : Int32)), .val (.int dd), .val (.ref b4), .val (.ref b5), .val (.int (1 : Int32))] [(.int (1 : Int32))]))
        refine go (fun tg kg => XS.goto X36.here hx rfl (pc0 := 172) (pc' := 176) rfl (hb hby at_172) (by decide) (by decide) kg) ?_
        show G (T36.setTop (mkF m 176 #[.val (.int x0), .val (.int x1), .val (.int (1 : Int32)), .val (.int dd), .val (.ref b4), .val (.ref b5), .val (.int (1 : Int32))] [(.int (1 : Int32))]))
        refine go (fun tg kg => XS.istore X36.here hx rfl (hb hby at_176) rfl (l' := #[.val (.int x0), .val (.int x1), .val (.int (1 : Int32)), .val (.int dd), .val (.ref b4), .val (.ref b5), .val (.int (1 : Int32))]) rfl kg) ?_
        show G (T36.setTop (mkF m 178 #[.val (.int x0), .val (.int x1), .val (.int (1 : Int32)), .val (.int dd), .val (.ref b4), .val (.ref b5), .val (.int (1 : Int32))] []))
        refine go (fun tg kg => XS.iload X36.here hx rfl (hb hby at_178) rfl kg) ?_
        show G (T36.setTop (mkF m 180 #[.val (.int x0), .val (.int x1), .val (.int (1 : Int32)), .val (.int dd), .val (.ref b4), .val (.ref b5), .val (.int (1 : Int32))] [(.int (1 : Int32))]))
        refine fin (some (.int (1 : Int32))) X36 (fun h => absurd h (by decide)) (fun fs hr => retN X36 hx (t := .boolean) hret (by simp) (hb hby at_180) hr) (by decide) (by decide) ?_
        rw [e36]
        exact ⟨rfl, N36⟩
    · refine go (fun tg kg => XS.ifNo X0.here hx rfl (hb hby at_14) rfl ((if0 _ _).trans (feq hc2).1) kg) ?_
      show G (s₁.setTop (mkF m 17 #[.val (.int x0), .val (.int x1), .val (.int (1 : Int32)), .unset, .unset, .unset, .unset] []))
      refine go (fun tg kg => XS.iloadN X0.here hx rfl (hb hby at_17) rfl kg) ?_
      show G (s₁.setTop (mkF m 18 #[.val (.int x0), .val (.int x1), .val (.int (1 : Int32)), .unset, .unset, .unset, .unset] [(.int (1 : Int32))]))
      refine go (fun tg kg => XS.goto X0.here hx rfl (pc0 := 18) (pc' := 28) rfl (hb hby at_18) (by decide) (by decide) kg) ?_
      show G (s₁.setTop (mkF m 28 #[.val (.int x0), .val (.int x1), .val (.int (1 : Int32)), .unset, .unset, .unset, .unset] [(.int (1 : Int32))]))
      refine go (fun tg kg => XS.istoreN X0.here hx rfl (hb hby at_28) rfl (l' := #[.val (.int x0), .val (.int x1), .val (.int (1 : Int32)), .val (.int (1 : Int32)), .unset, .unset, .unset]) rfl kg) ?_
      show G (s₁.setTop (mkF m 29 #[.val (.int x0), .val (.int x1), .val (.int (1 : Int32)), .val (.int (1 : Int32)), .unset, .unset, .unset] []))
      refine go (fun tg kg => XS.iloadN X0.here hx rfl (hb hby at_29) rfl kg) ?_
      show G (s₁.setTop (mkF m 30 #[.val (.int x0), .val (.int x1), .val (.int (1 : Int32)), .val (.int (1 : Int32)), .unset, .unset, .unset] [(.int (1 : Int32))]))
      obtain ⟨_, _, ⟨T39, L39, k39, n39⟩, -, X39, ⟨Lc39, hQ39, l39, y39, z39⟩, st39⟩ := Jvm.LawKit.callS X0 hx (y := (⟨"com/example/drumline/drumline/model/OverlapPolicy", "parallel", "(I)Lcom/example/drumline/drumline/model/OverlapPolicy;"⟩ : MethodName)) hown (mvT hZ (hw _ (List.mem_of_getElem? (i := 1) rfl))) (mvT hZ (hw _ (List.mem_of_getElem? (i := 2) rfl))) (mvT hZ (hw _ (List.mem_of_getElem? (i := 3) rfl))) (mvT hZ (hw _ (List.mem_of_getElem? (i := 4) rfl))) (by decide) (backOf (W := 0) (rm1 l Z a0 hw [] (1 : Int32) k_PARALLEL h0 n0 Z0 S_k_PARALLEL (by decide)) hZ (hw _ (List.mem_of_getElem? (i := 4) rfl)) (hw _ (List.mem_of_getElem? (i := 3) rfl)) (by decide) (by decide)) (g := (mkF m 30 #[.val (.int x0), .val (.int x1), .val (.int (1 : Int32)), .val (.int (1 : Int32)), .unset, .unset, .unset] [(.int (1 : Int32))])) rfl (by rw [hml]; rfl) (argsL := [(.int (1 : Int32))]) (rest := []) (lenOf pd__I_Lcom_example_drumline_drumline_model_OverlapPolicy_ rfl) rfl (by show 2 * 0 + _ ≤ _; exact Nat.le_of_eq rfl) (hb hby at_30) (fun _ _ => ⟨rfl, e0, (by decide : 0 + 1 ≤ _), (by decide : 0 + 2 ≤ _)⟩)
      dsimp only [Pt.U, Pt.locs, Pt.cells, Pt.slots] at X39 l39 y39 z39 st39 hQ39
      subst l39 y39 z39
      obtain ⟨b39, rfl, Nq39, K39, sz39, ge_b39, Ge39, Gk39, Gc39⟩ := hQ39
      have Z39 := Nat.le_trans Z0 K39.1
      have N39 := Fr.app N0 Nq39
      refine go st39 ?_
      show G (T39.setTop (mkF m 33 #[.val (.int x0), .val (.int x1), .val (.int (1 : Int32)), .val (.int (1 : Int32)), .unset, .unset, .unset] [(.ref b39)]))
      refine go (fun tg kg => XS.astore X39.here hx rfl (hb hby at_33) rfl rfl (l' := #[.val (.int x0), .val (.int x1), .val (.int (1 : Int32)), .val (.int (1 : Int32)), .val (.ref b39), .unset, .unset]) rfl kg) ?_
      show G (T39.setTop (mkF m 35 #[.val (.int x0), .val (.int x1), .val (.int (1 : Int32)), .val (.int (1 : Int32)), .val (.ref b39), .unset, .unset] []))
      refine go (fun tg kg => XS.iloadN X39.here hx rfl (hb hby at_35) rfl kg) ?_
      show G (T39.setTop (mkF m 36 #[.val (.int x0), .val (.int x1), .val (.int (1 : Int32)), .val (.int (1 : Int32)), .val (.ref b39), .unset, .unset] [(.int (1 : Int32))]))
      have Fa41 := (own_sta_keep S_k_PARALLEL K39 all0)
      obtain ⟨_, _, ⟨T40, L40, k40, n40⟩, -, X40, ⟨Lc40, hQ40, l40, y40, z40⟩, st40⟩ := Jvm.LawKit.callS X39 hx (y := (⟨"com/example/drumline/drumline/model/OverlapPolicy", "parallel", "(I)Lcom/example/drumline/drumline/model/OverlapPolicy;"⟩ : MethodName)) hown (mvT hZ (hw _ (List.mem_of_getElem? (i := 1) rfl))) (mvT hZ (hw _ (List.mem_of_getElem? (i := 2) rfl))) (mvT hZ (hw _ (List.mem_of_getElem? (i := 3) rfl))) (mvT hZ (hw _ (List.mem_of_getElem? (i := 4) rfl))) (by decide) (backOf (W := 0) (rm1 l Z a0 hw [] (1 : Int32) k_PARALLEL T39.heap n0 Z39 Fa41 (by decide)) hZ (hw _ (List.mem_of_getElem? (i := 4) rfl)) (hw _ (List.mem_of_getElem? (i := 3) rfl)) (by decide) (by decide)) (g := (mkF m 36 #[.val (.int x0), .val (.int x1), .val (.int (1 : Int32)), .val (.int (1 : Int32)), .val (.ref b39), .unset, .unset] [(.int (1 : Int32))])) rfl (by rw [hml]; rfl) (argsL := [(.int (1 : Int32))]) (rest := []) (lenOf pd__I_Lcom_example_drumline_drumline_model_OverlapPolicy_ rfl) rfl (by show 2 * 0 + _ ≤ _; exact Nat.le_of_eq rfl) (hb hby at_36) (fun _ _ => ⟨rfl, rfl, (by decide : 1 + 1 ≤ _), (by decide : 2 + 2 ≤ _)⟩)
      dsimp only [Pt.U, Pt.locs, Pt.cells, Pt.slots] at X40 l40 y40 z40 st40 hQ40
      subst l40 y40 z40
      obtain ⟨b40, rfl, Nq40, K40, sz40, ge_b40, Ge40, Gk40, Gc40⟩ := hQ40
      have Z40 := Nat.le_trans Z39 K40.1
      have N40 := Fr.app N39 Nq40
      refine go st40 ?_
      show G (T40.setTop (mkF m 39 #[.val (.int x0), .val (.int x1), .val (.int (1 : Int32)), .val (.int (1 : Int32)), .val (.ref b39), .unset, .unset] [(.ref b40)]))
      refine go (fun tg kg => XS.astore X40.here hx rfl (hb hby at_39) rfl rfl (l' := #[.val (.int x0), .val (.int x1), .val (.int (1 : Int32)), .val (.int (1 : Int32)), .val (.ref b39), .val (.ref b40), .unset]) rfl kg) ?_
      show G (T40.setTop (mkF m 41 #[.val (.int x0), .val (.int x1), .val (.int (1 : Int32)), .val (.int (1 : Int32)), .val (.ref b39), .val (.ref b40), .unset] []))
      refine go (fun tg kg => XS.aload X40.here hx rfl (hb hby at_41) rfl rfl kg) ?_
      show G (T40.setTop (mkF m 43 #[.val (.int x0), .val (.int x1), .val (.int (1 : Int32)), .val (.int (1 : Int32)), .val (.ref b39), .val (.ref b40), .unset] [(.ref b39)]))
      have Fa43 := (Gk39.keep K40 nin0)
      have Fa44 := (Ge39.keep K40)
      obtain ⟨cq42, kq42, q42a, q42b, q42c⟩ := isOf hZ rfl Fa44
      obtain ⟨_, _, ⟨T42, L42, k42, n42⟩, -, X42, ⟨Lc42, hQ42, l42, y42, z42⟩, st42⟩ := X40.virtualBack hx (y := (⟨"com/example/drumline/drumline/model/OverlapPolicy", "kind", "()Lcom/example/drumline/drumline/model/OverlapPolicy$Kind;"⟩ : MethodName)) (z := (⟨"com/example/drumline/drumline/model/OverlapPolicy", "kind", "()Lcom/example/drumline/drumline/model/OverlapPolicy$Kind;"⟩ : MethodName)) hown (mvT hZ (hw _ (List.mem_of_getElem? (i := 20) rfl))) (mvT hZ (hw _ (List.mem_of_getElem? (i := 21) rfl))) (notFace_of_selects (args := #[]) (mvT hZ (hw _ (List.mem_of_getElem? (i := 23) rfl)))) (mvT hZ (hw _ (List.mem_of_getElem? (i := 23) rfl))) (mvT hZ (hw _ (List.mem_of_getElem? (i := 22) rfl))) (by decide) (backOf (W := 0) (rm4 l Z a0 hw [] b39 k_PARALLEL T40.heap n0 Z40 Fa43) hZ (hw _ (List.mem_of_getElem? (i := 24) rfl)) (hw _ (List.mem_of_getElem? (i := 3) rfl)) (by decide) (by decide)) q42a q42c (g := (mkF m 43 #[.val (.int x0), .val (.int x1), .val (.int (1 : Int32)), .val (.int (1 : Int32)), .val (.ref b39), .val (.ref b40), .unset] [(.ref b39)])) rfl (by rw [hml]; rfl) (Steps.refl _) (argsL := []) (rest := []) (lenOf pd___Lcom_example_drumline_drumline_model_OverlapPolicy_Kind_ rfl) rfl (by show 2 * 0 + _ ≤ _; exact Nat.le_of_eq rfl) (hb hby at_43) (fun _ _ => ⟨rfl, rfl, (by decide : 2 + 0 ≤ _), (by decide : 4 + 0 ≤ _)⟩)
      dsimp only [Pt.U, Pt.locs, Pt.cells, Pt.slots] at X42 l42 y42 z42 st42 hQ42
      subst l42 y42 z42
      obtain ⟨rfl, Nq42, e42⟩ := hQ42
      have N42 := Fr.app N40 Nq42
      refine go (fun tg kg => st42.trans kg) ?_
      show G (T42.setTop (mkF m 46 #[.val (.int x0), .val (.int x1), .val (.int (1 : Int32)), .val (.int (1 : Int32)), .val (.ref b39), .val (.ref b40), .unset] [(.ref k_PARALLEL)]))
      have Fa45 := (own_sta_keep Fa41 K40 all0)
      obtain ⟨T46, X46, e46, st46⟩ := getS2 X42 hx hZ hown (host := "") (Or.inl (hw _ (List.mem_of_getElem? (i := 25) rfl))) Via.refl e42 Fa45 (g := (mkF m 46 #[.val (.int x0), .val (.int x1), .val (.int (1 : Int32)), .val (.int (1 : Int32)), .val (.ref b39), .val (.ref b40), .unset] [(.ref k_PARALLEL)])) rfl (hb hby at_46)
      refine go st46 ?_
      show G (T46.setTop (mkF m 49 #[.val (.int x0), .val (.int x1), .val (.int (1 : Int32)), .val (.int (1 : Int32)), .val (.ref b39), .val (.ref b40), .unset] [(.ref k_PARALLEL), (.ref k_PARALLEL)]))
      refine go (fun tg kg => Jvm.RoadKit.acmp (g := (mkF m 49 #[.val (.int x0), .val (.int x1), .val (.int (1 : Int32)), .val (.int (1 : Int32)), .val (.ref b39), .val (.ref b40), .unset] [(.ref k_PARALLEL), (.ref k_PARALLEL)])) X46 hx rfl rfl rfl (pc0 := 49) (pc' := 52) (same := true) rfl (hb hby at_49) rfl (decide_eq_true rfl) (by decide) (by decide) kg) ?_
      show G (T46.setTop (mkF m 52 #[.val (.int x0), .val (.int x1), .val (.int (1 : Int32)), .val (.int (1 : Int32)), .val (.ref b39), .val (.ref b40), .unset] []))
      refine go (fun tg kg => XS.aload X46.here hx rfl (hb hby at_52) rfl rfl kg) ?_
      show G (T46.setTop (mkF m 54 #[.val (.int x0), .val (.int x1), .val (.int (1 : Int32)), .val (.int (1 : Int32)), .val (.ref b39), .val (.ref b40), .unset] [(.ref b39)]))
      have Fa48 := (Gc39.keep K40 nin0)
      obtain ⟨cq47, kq47, q47a, q47b, q47c⟩ := isOf hZ e46 Fa44
      obtain ⟨_, _, ⟨T47, L47, k47, n47⟩, -, X47, ⟨Lc47, hQ47, l47, y47, z47⟩, st47⟩ := X46.virtualBack hx (y := (⟨"com/example/drumline/drumline/model/OverlapPolicy", "cap", "()I"⟩ : MethodName)) (z := (⟨"com/example/drumline/drumline/model/OverlapPolicy", "cap", "()I"⟩ : MethodName)) hown (mvT hZ (hw _ (List.mem_of_getElem? (i := 26) rfl))) (mvT hZ (hw _ (List.mem_of_getElem? (i := 27) rfl))) (notFace_of_selects (args := #[]) (mvT hZ (hw _ (List.mem_of_getElem? (i := 29) rfl)))) (mvT hZ (hw _ (List.mem_of_getElem? (i := 29) rfl))) (mvT hZ (hw _ (List.mem_of_getElem? (i := 28) rfl))) (by decide) (backOf (W := 0) (rm5 l Z a0 hw [] b39 (1 : Int32) T40.heap n0 Z40 Fa48) hZ (hw _ (List.mem_of_getElem? (i := 30) rfl)) (hw _ (List.mem_of_getElem? (i := 3) rfl)) (by decide) (by decide)) q47a q47c (g := (mkF m 54 #[.val (.int x0), .val (.int x1), .val (.int (1 : Int32)), .val (.int (1 : Int32)), .val (.ref b39), .val (.ref b40), .unset] [(.ref b39)])) rfl (by rw [hml]; rfl) (Steps.refl _) (argsL := []) (rest := []) (lenOf pd___I rfl) rfl (by show 2 * 0 + _ ≤ _; exact Nat.le_of_eq rfl) (hb hby at_54) (fun _ _ => ⟨rfl, e46, (by decide : 2 + 0 ≤ _), (by decide : 4 + 0 ≤ _)⟩)
      dsimp only [Pt.U, Pt.locs, Pt.cells, Pt.slots] at X47 l47 y47 z47 st47 hQ47
      subst l47 y47 z47
      obtain ⟨rfl, Nq47, e47⟩ := hQ47
      have N47 := Fr.app N42 Nq47
      refine go (fun tg kg => st47.trans kg) ?_
      show G (T47.setTop (mkF m 57 #[.val (.int x0), .val (.int x1), .val (.int (1 : Int32)), .val (.int (1 : Int32)), .val (.ref b39), .val (.ref b40), .unset] [(.int (1 : Int32))]))
      refine go (fun tg kg => XS.iloadN X47.here hx rfl (hb hby at_57) rfl kg) ?_
      show G (T47.setTop (mkF m 58 #[.val (.int x0), .val (.int x1), .val (.int (1 : Int32)), .val (.int (1 : Int32)), .val (.ref b39), .val (.ref b40), .unset] [(.int (1 : Int32)), (.int (1 : Int32))]))
      refine go (fun tg kg => XS.icmpNo X47.here hx rfl (hb hby at_58) rfl (teq (by decide)).2 kg) ?_
      show G (T47.setTop (mkF m 61 #[.val (.int x0), .val (.int x1), .val (.int (1 : Int32)), .val (.int (1 : Int32)), .val (.ref b39), .val (.ref b40), .unset] []))
      refine go (fun tg kg => XS.iconst X47.here hx rfl (hb hby at_61) kg) ?_
      show G (T47.setTop (mkF m 62 #[.val (.int x0), .val (.int x1), .val (.int (1 : Int32)), .val (.int (1 : Int32)), .val (.ref b39), .val (.ref b40), .unset] [(.int (1 : Int32))]))
      refine go (fun tg kg => XS.goto X47.here hx rfl (pc0 := 62) (pc' := 66) rfl (hb hby at_62) (by decide) (by decide) kg) ?_
      show G (T47.setTop (mkF m 66 #[.val (.int x0), .val (.int x1), .val (.int (1 : Int32)), .val (.int (1 : Int32)), .val (.ref b39), .val (.ref b40), .unset] [(.int (1 : Int32))]))
      refine go (fun tg kg => XS.istore X47.here hx rfl (hb hby at_66) rfl (l' := #[.val (.int x0), .val (.int x1), .val (.int (1 : Int32)), .val (.int (1 : Int32)), .val (.ref b39), .val (.ref b40), .val (.int (1 : Int32))]) rfl kg) ?_
      show G (T47.setTop (mkF m 68 #[.val (.int x0), .val (.int x1), .val (.int (1 : Int32)), .val (.int (1 : Int32)), .val (.ref b39), .val (.ref b40), .val (.int (1 : Int32))] []))
      refine go (fun tg kg => XS.iload X47.here hx rfl (hb hby at_68) rfl kg) ?_
      show G (T47.setTop (mkF m 70 #[.val (.int x0), .val (.int x1), .val (.int (1 : Int32)), .val (.int (1 : Int32)), .val (.ref b39), .val (.ref b40), .val (.int (1 : Int32))] [(.int (1 : Int32))]))
      refine go (fun tg kg => XS.ifNo X47.here hx rfl (hb hby at_70) rfl ((if0 _ _).trans (feq (by decide)).1) kg) ?_
      show G (T47.setTop (mkF m 73 #[.val (.int x0), .val (.int x1), .val (.int (1 : Int32)), .val (.int (1 : Int32)), .val (.ref b39), .val (.ref b40), .val (.int (1 : Int32))] []))
      refine go (fun tg kg => XS.aload X47.here hx rfl (hb hby at_73) rfl rfl kg) ?_
      show G (T47.setTop (mkF m 75 #[.val (.int x0), .val (.int x1), .val (.int (1 : Int32)), .val (.int (1 : Int32)), .val (.ref b39), .val (.ref b40), .val (.int (1 : Int32))] [(.ref b40)]))
      obtain ⟨cq49, kq49, q49a, q49b, q49c⟩ := isOf hZ e47 Ge40
      obtain ⟨_, _, ⟨T49, L49, k49, n49⟩, -, X49, ⟨Lc49, hQ49, l49, y49, z49⟩, st49⟩ := X47.virtualBack hx (y := (⟨"com/example/drumline/drumline/model/OverlapPolicy", "kind", "()Lcom/example/drumline/drumline/model/OverlapPolicy$Kind;"⟩ : MethodName)) (z := (⟨"com/example/drumline/drumline/model/OverlapPolicy", "kind", "()Lcom/example/drumline/drumline/model/OverlapPolicy$Kind;"⟩ : MethodName)) hown (mvT hZ (hw _ (List.mem_of_getElem? (i := 20) rfl))) (mvT hZ (hw _ (List.mem_of_getElem? (i := 21) rfl))) (notFace_of_selects (args := #[]) (mvT hZ (hw _ (List.mem_of_getElem? (i := 23) rfl)))) (mvT hZ (hw _ (List.mem_of_getElem? (i := 23) rfl))) (mvT hZ (hw _ (List.mem_of_getElem? (i := 22) rfl))) (by decide) (backOf (W := 0) (rm4 l Z a0 hw [] b40 k_PARALLEL T40.heap n0 Z40 Gk40) hZ (hw _ (List.mem_of_getElem? (i := 24) rfl)) (hw _ (List.mem_of_getElem? (i := 3) rfl)) (by decide) (by decide)) q49a q49c (g := (mkF m 75 #[.val (.int x0), .val (.int x1), .val (.int (1 : Int32)), .val (.int (1 : Int32)), .val (.ref b39), .val (.ref b40), .val (.int (1 : Int32))] [(.ref b40)])) rfl (by rw [hml]; rfl) (Steps.refl _) (argsL := []) (rest := []) (lenOf pd___Lcom_example_drumline_drumline_model_OverlapPolicy_Kind_ rfl) rfl (by show 2 * 0 + _ ≤ _; exact Nat.le_of_eq rfl) (hb hby at_75) (fun _ _ => ⟨rfl, e47, (by decide : 2 + 0 ≤ _), (by decide : 4 + 0 ≤ _)⟩)
      dsimp only [Pt.U, Pt.locs, Pt.cells, Pt.slots] at X49 l49 y49 z49 st49 hQ49
      subst l49 y49 z49
      obtain ⟨rfl, Nq49, e49⟩ := hQ49
      have N49 := Fr.app N47 Nq49
      refine go (fun tg kg => st49.trans kg) ?_
      show G (T49.setTop (mkF m 78 #[.val (.int x0), .val (.int x1), .val (.int (1 : Int32)), .val (.int (1 : Int32)), .val (.ref b39), .val (.ref b40), .val (.int (1 : Int32))] [(.ref k_PARALLEL)]))
      obtain ⟨T50, X50, e50, st50⟩ := getS2 X49 hx hZ hown (host := "") (Or.inl (hw _ (List.mem_of_getElem? (i := 25) rfl))) Via.refl e49 Fa45 (g := (mkF m 78 #[.val (.int x0), .val (.int x1), .val (.int (1 : Int32)), .val (.int (1 : Int32)), .val (.ref b39), .val (.ref b40), .val (.int (1 : Int32))] [(.ref k_PARALLEL)])) rfl (hb hby at_78)
      refine go st50 ?_
      show G (T50.setTop (mkF m 81 #[.val (.int x0), .val (.int x1), .val (.int (1 : Int32)), .val (.int (1 : Int32)), .val (.ref b39), .val (.ref b40), .val (.int (1 : Int32))] [(.ref k_PARALLEL), (.ref k_PARALLEL)]))
      refine go (fun tg kg => Jvm.RoadKit.acmp (g := (mkF m 81 #[.val (.int x0), .val (.int x1), .val (.int (1 : Int32)), .val (.int (1 : Int32)), .val (.ref b39), .val (.ref b40), .val (.int (1 : Int32))] [(.ref k_PARALLEL), (.ref k_PARALLEL)])) X50 hx rfl rfl rfl (pc0 := 81) (pc' := 84) (same := true) rfl (hb hby at_81) rfl (decide_eq_true rfl) (by decide) (by decide) kg) ?_
      show G (T50.setTop (mkF m 84 #[.val (.int x0), .val (.int x1), .val (.int (1 : Int32)), .val (.int (1 : Int32)), .val (.ref b39), .val (.ref b40), .val (.int (1 : Int32))] []))
      refine go (fun tg kg => XS.aload X50.here hx rfl (hb hby at_84) rfl rfl kg) ?_
      show G (T50.setTop (mkF m 86 #[.val (.int x0), .val (.int x1), .val (.int (1 : Int32)), .val (.int (1 : Int32)), .val (.ref b39), .val (.ref b40), .val (.int (1 : Int32))] [(.ref b40)]))
      obtain ⟨cq51, kq51, q51a, q51b, q51c⟩ := isOf hZ e50 Ge40
      obtain ⟨_, _, ⟨T51, L51, k51, n51⟩, -, X51, ⟨Lc51, hQ51, l51, y51, z51⟩, st51⟩ := X50.virtualBack hx (y := (⟨"com/example/drumline/drumline/model/OverlapPolicy", "cap", "()I"⟩ : MethodName)) (z := (⟨"com/example/drumline/drumline/model/OverlapPolicy", "cap", "()I"⟩ : MethodName)) hown (mvT hZ (hw _ (List.mem_of_getElem? (i := 26) rfl))) (mvT hZ (hw _ (List.mem_of_getElem? (i := 27) rfl))) (notFace_of_selects (args := #[]) (mvT hZ (hw _ (List.mem_of_getElem? (i := 29) rfl)))) (mvT hZ (hw _ (List.mem_of_getElem? (i := 29) rfl))) (mvT hZ (hw _ (List.mem_of_getElem? (i := 28) rfl))) (by decide) (backOf (W := 0) (rm5 l Z a0 hw [] b40 (1 : Int32) T40.heap n0 Z40 Gc40) hZ (hw _ (List.mem_of_getElem? (i := 30) rfl)) (hw _ (List.mem_of_getElem? (i := 3) rfl)) (by decide) (by decide)) q51a q51c (g := (mkF m 86 #[.val (.int x0), .val (.int x1), .val (.int (1 : Int32)), .val (.int (1 : Int32)), .val (.ref b39), .val (.ref b40), .val (.int (1 : Int32))] [(.ref b40)])) rfl (by rw [hml]; rfl) (Steps.refl _) (argsL := []) (rest := []) (lenOf pd___I rfl) rfl (by show 2 * 0 + _ ≤ _; exact Nat.le_of_eq rfl) (hb hby at_86) (fun _ _ => ⟨rfl, e50, (by decide : 2 + 0 ≤ _), (by decide : 4 + 0 ≤ _)⟩)
      dsimp only [Pt.U, Pt.locs, Pt.cells, Pt.slots] at X51 l51 y51 z51 st51 hQ51
      subst l51 y51 z51
      obtain ⟨rfl, Nq51, e51⟩ := hQ51
      have N51 := Fr.app N49 Nq51
      refine go (fun tg kg => st51.trans kg) ?_
      show G (T51.setTop (mkF m 89 #[.val (.int x0), .val (.int x1), .val (.int (1 : Int32)), .val (.int (1 : Int32)), .val (.ref b39), .val (.ref b40), .val (.int (1 : Int32))] [(.int (1 : Int32))]))
      refine go (fun tg kg => XS.iloadN X51.here hx rfl (hb hby at_89) rfl kg) ?_
      show G (T51.setTop (mkF m 90 #[.val (.int x0), .val (.int x1), .val (.int (1 : Int32)), .val (.int (1 : Int32)), .val (.ref b39), .val (.ref b40), .val (.int (1 : Int32))] [(.int (1 : Int32)), (.int (1 : Int32))]))
      refine go (fun tg kg => XS.icmpNo X51.here hx rfl (hb hby at_90) rfl (teq (by decide)).2 kg) ?_
      show G (T51.setTop (mkF m 93 #[.val (.int x0), .val (.int x1), .val (.int (1 : Int32)), .val (.int (1 : Int32)), .val (.ref b39), .val (.ref b40), .val (.int (1 : Int32))] []))
      refine go (fun tg kg => XS.iconst X51.here hx rfl (hb hby at_93) kg) ?_
      show G (T51.setTop (mkF m 94 #[.val (.int x0), .val (.int x1), .val (.int (1 : Int32)), .val (.int (1 : Int32)), .val (.ref b39), .val (.ref b40), .val (.int (1 : Int32))] [(.int (1 : Int32))]))
      refine go (fun tg kg => XS.goto X51.here hx rfl (pc0 := 94) (pc' := 98) rfl (hb hby at_94) (by decide) (by decide) kg) ?_
      show G (T51.setTop (mkF m 98 #[.val (.int x0), .val (.int x1), .val (.int (1 : Int32)), .val (.int (1 : Int32)), .val (.ref b39), .val (.ref b40), .val (.int (1 : Int32))] [(.int (1 : Int32))]))
      refine go (fun tg kg => XS.istore X51.here hx rfl (hb hby at_98) rfl (l' := #[.val (.int x0), .val (.int x1), .val (.int (1 : Int32)), .val (.int (1 : Int32)), .val (.ref b39), .val (.ref b40), .val (.int (1 : Int32))]) rfl kg) ?_
      show G (T51.setTop (mkF m 100 #[.val (.int x0), .val (.int x1), .val (.int (1 : Int32)), .val (.int (1 : Int32)), .val (.ref b39), .val (.ref b40), .val (.int (1 : Int32))] []))
      refine go (fun tg kg => XS.iload X51.here hx rfl (hb hby at_100) rfl kg) ?_
      show G (T51.setTop (mkF m 102 #[.val (.int x0), .val (.int x1), .val (.int (1 : Int32)), .val (.int (1 : Int32)), .val (.ref b39), .val (.ref b40), .val (.int (1 : Int32))] [(.int (1 : Int32))]))
      refine go (fun tg kg => XS.ifNo X51.here hx rfl (hb hby at_102) rfl ((if0 _ _).trans (feq (by decide)).1) kg) ?_
      show G (T51.setTop (mkF m 105 #[.val (.int x0), .val (.int x1), .val (.int (1 : Int32)), .val (.int (1 : Int32)), .val (.ref b39), .val (.ref b40), .val (.int (1 : Int32))] []))
      refine go (fun tg kg => XS.aload X51.here hx rfl (hb hby at_105) rfl rfl kg) ?_
      show G (T51.setTop (mkF m 107 #[.val (.int x0), .val (.int x1), .val (.int (1 : Int32)), .val (.int (1 : Int32)), .val (.ref b39), .val (.ref b40), .val (.int (1 : Int32))] [(.ref b39)]))
      refine go (fun tg kg => XS.aload X51.here hx rfl (hb hby at_107) rfl rfl kg) ?_
      show G (T51.setTop (mkF m 109 #[.val (.int x0), .val (.int x1), .val (.int (1 : Int32)), .val (.int (1 : Int32)), .val (.ref b39), .val (.ref b40), .val (.int (1 : Int32))] [(.ref b40), (.ref b39)]))
      obtain ⟨cq52, kq52, q52a, q52b, q52c⟩ := isOf hZ e51 Fa44
      obtain ⟨_, _, ⟨T52, L52, k52, n52⟩, -, X52, ⟨Lc52, hQ52, l52, y52, z52⟩, st52⟩ := X51.virtualBack hx (y := (⟨"com/example/drumline/drumline/model/OverlapPolicy", "equals", "(Ljava/lang/Object;)Z"⟩ : MethodName)) (z := (⟨"com/example/drumline/drumline/model/OverlapPolicy", "equals", "(Ljava/lang/Object;)Z"⟩ : MethodName)) hown (mvT hZ (hw _ (List.mem_of_getElem? (i := 31) rfl))) (mvT hZ (hw _ (List.mem_of_getElem? (i := 32) rfl))) (notFace_of_selects (args := #[]) (mvT hZ (hw _ (List.mem_of_getElem? (i := 34) rfl)))) (mvT hZ (hw _ (List.mem_of_getElem? (i := 34) rfl))) (mvT hZ (hw _ (List.mem_of_getElem? (i := 33) rfl))) (by decide) (backOf (W := 0) (rm6_1 l Z a0 hw [] b39 b40 k_PARALLEL (1 : Int32) (1 : Int32) T40.heap n0 Z40 Ge40 Fa43 Gk40 Fa48 Gc40) hZ (hw _ (List.mem_of_getElem? (i := 35) rfl)) (hw _ (List.mem_of_getElem? (i := 3) rfl)) (by decide) (by decide)) q52a q52c (g := (mkF m 109 #[.val (.int x0), .val (.int x1), .val (.int (1 : Int32)), .val (.int (1 : Int32)), .val (.ref b39), .val (.ref b40), .val (.int (1 : Int32))] [(.ref b40), (.ref b39)])) rfl (by rw [hml]; rfl) (Steps.refl _) (argsL := [(.ref b40)]) (rest := []) (lenOf pd__Ljava_lang_Object__Z rfl) rfl (by show 2 * 0 + _ ≤ _; exact Nat.le_of_eq rfl) (hb hby at_109) (fun _ _ => ⟨rfl, e51, (by decide : 2 + 0 ≤ _), (by decide : 4 + 0 ≤ _)⟩)
      dsimp only [Pt.U, Pt.locs, Pt.cells, Pt.slots] at X52 l52 y52 z52 st52 hQ52
      subst l52 y52 z52
      obtain ⟨rfl, Nq52, e52⟩ := hQ52
      have N52 := Fr.app N51 Nq52
      refine go (fun tg kg => st52.trans kg) ?_
      show G (T52.setTop (mkF m 112 #[.val (.int x0), .val (.int x1), .val (.int (1 : Int32)), .val (.int (1 : Int32)), .val (.ref b39), .val (.ref b40), .val (.int (1 : Int32))] [(.int (own_eqv k_PARALLEL k_PARALLEL (1 : Int32) (1 : Int32)))]))
      refine go (fun tg kg => XS.iloadN X52.here hx rfl (hb hby at_112) rfl kg) ?_
      show G (T52.setTop (mkF m 113 #[.val (.int x0), .val (.int x1), .val (.int (1 : Int32)), .val (.int (1 : Int32)), .val (.ref b39), .val (.ref b40), .val (.int (1 : Int32))] [(.int (1 : Int32)), (.int (own_eqv k_PARALLEL k_PARALLEL (1 : Int32) (1 : Int32)))]))
      refine go (fun tg kg => XS.iloadN X52.here hx rfl (hb hby at_113) rfl kg) ?_
      show G (T52.setTop (mkF m 114 #[.val (.int x0), .val (.int x1), .val (.int (1 : Int32)), .val (.int (1 : Int32)), .val (.ref b39), .val (.ref b40), .val (.int (1 : Int32))] [(.int (1 : Int32)), (.int (1 : Int32)), (.int (own_eqv k_PARALLEL k_PARALLEL (1 : Int32) (1 : Int32)))]))
      refine go (fun tg kg => XS.icmpNo X52.here hx rfl (hb hby at_114) rfl (teq (by decide)).2 kg) ?_
      show G (T52.setTop (mkF m 117 #[.val (.int x0), .val (.int x1), .val (.int (1 : Int32)), .val (.int (1 : Int32)), .val (.ref b39), .val (.ref b40), .val (.int (1 : Int32))] [(.int (own_eqv k_PARALLEL k_PARALLEL (1 : Int32) (1 : Int32)))]))
      refine go (fun tg kg => XS.iconst X52.here hx rfl (hb hby at_117) kg) ?_
      show G (T52.setTop (mkF m 118 #[.val (.int x0), .val (.int x1), .val (.int (1 : Int32)), .val (.int (1 : Int32)), .val (.ref b39), .val (.ref b40), .val (.int (1 : Int32))] [(.int (1 : Int32)), (.int (own_eqv k_PARALLEL k_PARALLEL (1 : Int32) (1 : Int32)))]))
      refine go (fun tg kg => XS.goto X52.here hx rfl (pc0 := 118) (pc' := 122) rfl (hb hby at_118) (by decide) (by decide) kg) ?_
      show G (T52.setTop (mkF m 122 #[.val (.int x0), .val (.int x1), .val (.int (1 : Int32)), .val (.int (1 : Int32)), .val (.ref b39), .val (.ref b40), .val (.int (1 : Int32))] [(.int (1 : Int32)), (.int (own_eqv k_PARALLEL k_PARALLEL (1 : Int32) (1 : Int32)))]))
      refine go (fun tg kg => XS.icmpNo X52.here hx rfl (hb hby at_122) rfl (teq (own_e1 rfl)).2 kg) ?_
      show G (T52.setTop (mkF m 125 #[.val (.int x0), .val (.int x1), .val (.int (1 : Int32)), .val (.int (1 : Int32)), .val (.ref b39), .val (.ref b40), .val (.int (1 : Int32))] []))
      refine go (fun tg kg => XS.iconst X52.here hx rfl (hb hby at_125) kg) ?_
      show G (T52.setTop (mkF m 126 #[.val (.int x0), .val (.int x1), .val (.int (1 : Int32)), .val (.int (1 : Int32)), .val (.ref b39), .val (.ref b40), .val (.int (1 : Int32))] [(.int (1 : Int32))]))
      refine go (fun tg kg => XS.goto X52.here hx rfl (pc0 := 126) (pc' := 130) rfl (hb hby at_126) (by decide) (by decide) kg) ?_
      show G (T52.setTop (mkF m 130 #[.val (.int x0), .val (.int x1), .val (.int (1 : Int32)), .val (.int (1 : Int32)), .val (.ref b39), .val (.ref b40), .val (.int (1 : Int32))] [(.int (1 : Int32))]))
      refine go (fun tg kg => XS.istore X52.here hx rfl (hb hby at_130) rfl (l' := #[.val (.int x0), .val (.int x1), .val (.int (1 : Int32)), .val (.int (1 : Int32)), .val (.ref b39), .val (.ref b40), .val (.int (1 : Int32))]) rfl kg) ?_
      show G (T52.setTop (mkF m 132 #[.val (.int x0), .val (.int x1), .val (.int (1 : Int32)), .val (.int (1 : Int32)), .val (.ref b39), .val (.ref b40), .val (.int (1 : Int32))] []))
      refine go (fun tg kg => XS.iload X52.here hx rfl (hb hby at_132) rfl kg) ?_
      show G (T52.setTop (mkF m 134 #[.val (.int x0), .val (.int x1), .val (.int (1 : Int32)), .val (.int (1 : Int32)), .val (.ref b39), .val (.ref b40), .val (.int (1 : Int32))] [(.int (1 : Int32))]))
      refine go (fun tg kg => XS.ifNo X52.here hx rfl (hb hby at_134) rfl ((if0 _ _).trans (feq (by decide)).1) kg) ?_
      show G (T52.setTop (mkF m 137 #[.val (.int x0), .val (.int x1), .val (.int (1 : Int32)), .val (.int (1 : Int32)), .val (.ref b39), .val (.ref b40), .val (.int (1 : Int32))] []))
      refine go (fun tg kg => XS.aload X52.here hx rfl (hb hby at_137) rfl rfl kg) ?_
      show G (T52.setTop (mkF m 139 #[.val (.int x0), .val (.int x1), .val (.int (1 : Int32)), .val (.int (1 : Int32)), .val (.ref b39), .val (.ref b40), .val (.int (1 : Int32))] [(.ref b39)]))
      have Fa54 := (own_sta_keep (own_sta_keep S_u_QUEUE K39 all0) K40 all0)
      obtain ⟨_, _, ⟨T53, L53, k53, n53⟩, -, X53, ⟨Lc53, hQ53, l53, y53, z53⟩, st53⟩ := Jvm.LawKit.callS X52 hx (y := (⟨"com/example/drumline/drumline/model/OverlapPolicy", "queue", "()Lcom/example/drumline/drumline/model/OverlapPolicy;"⟩ : MethodName)) hown (mvT hZ (hw _ (List.mem_of_getElem? (i := 37) rfl))) (mvT hZ (hw _ (List.mem_of_getElem? (i := 38) rfl))) (mvT hZ (hw _ (List.mem_of_getElem? (i := 3) rfl))) (mvT hZ (hw _ (List.mem_of_getElem? (i := 39) rfl))) (by decide) (backOf (W := 1) (rm7 l Z a0 hw [] u_QUEUE T40.heap n0 Z40 Fa54) hZ (hw _ (List.mem_of_getElem? (i := 39) rfl)) (hw _ (List.mem_of_getElem? (i := 3) rfl)) (by decide) (by decide)) (g := (mkF m 139 #[.val (.int x0), .val (.int x1), .val (.int (1 : Int32)), .val (.int (1 : Int32)), .val (.ref b39), .val (.ref b40), .val (.int (1 : Int32))] [(.ref b39)])) rfl (by rw [hml]; rfl) (argsL := []) (rest := [(.ref b39)]) (lenOf pd___Lcom_example_drumline_drumline_model_OverlapPolicy_ rfl) rfl (by show 2 * 0 + _ ≤ _; exact Nat.le_of_eq rfl) (hb hby at_139) (fun _ _ => ⟨rfl, e52, (by decide : 2 + 0 ≤ _), (by decide : 4 + 0 ≤ _)⟩)
      dsimp only [Pt.U, Pt.locs, Pt.cells, Pt.slots] at X53 l53 y53 z53 st53 hQ53
      subst l53 y53 z53
      obtain ⟨rfl, Nq53, e53⟩ := hQ53
      have N53 := Fr.app N52 Nq53
      refine go st53 ?_
      show G (T53.setTop (mkF m 142 #[.val (.int x0), .val (.int x1), .val (.int (1 : Int32)), .val (.int (1 : Int32)), .val (.ref b39), .val (.ref b40), .val (.int (1 : Int32))] [(.ref u_QUEUE), (.ref b39)]))
      have Fa56 := ((E_u_QUEUE.keep K39).keep K40)
      have Fa57 := ((F_u_QUEUE_kind.keep K39 nin0).keep K40 nin0)
      obtain ⟨cq55, kq55, q55a, q55b, q55c⟩ := isOf hZ e53 Fa44
      obtain ⟨_, _, ⟨T55, L55, k55, n55⟩, -, X55, ⟨Lc55, hQ55, l55, y55, z55⟩, st55⟩ := X53.virtualBack hx (y := (⟨"com/example/drumline/drumline/model/OverlapPolicy", "equals", "(Ljava/lang/Object;)Z"⟩ : MethodName)) (z := (⟨"com/example/drumline/drumline/model/OverlapPolicy", "equals", "(Ljava/lang/Object;)Z"⟩ : MethodName)) hown (mvT hZ (hw _ (List.mem_of_getElem? (i := 31) rfl))) (mvT hZ (hw _ (List.mem_of_getElem? (i := 32) rfl))) (notFace_of_selects (args := #[]) (mvT hZ (hw _ (List.mem_of_getElem? (i := 34) rfl)))) (mvT hZ (hw _ (List.mem_of_getElem? (i := 34) rfl))) (mvT hZ (hw _ (List.mem_of_getElem? (i := 33) rfl))) (by decide) (backOf (W := 0) (rm6_0 l Z a0 hw [] b39 u_QUEUE k_PARALLEL k_QUEUE T40.heap n0 Z40 Fa56 Fa43 Fa57 hnk_QUEUE) hZ (hw _ (List.mem_of_getElem? (i := 35) rfl)) (hw _ (List.mem_of_getElem? (i := 3) rfl)) (by decide) (by decide)) q55a q55c (g := (mkF m 142 #[.val (.int x0), .val (.int x1), .val (.int (1 : Int32)), .val (.int (1 : Int32)), .val (.ref b39), .val (.ref b40), .val (.int (1 : Int32))] [(.ref u_QUEUE), (.ref b39)])) rfl (by rw [hml]; rfl) (Steps.refl _) (argsL := [(.ref u_QUEUE)]) (rest := []) (lenOf pd__Ljava_lang_Object__Z rfl) rfl (by show 2 * 0 + _ ≤ _; exact Nat.le_of_eq rfl) (hb hby at_142) (fun _ _ => ⟨rfl, e53, (by decide : 2 + 0 ≤ _), (by decide : 4 + 0 ≤ _)⟩)
      dsimp only [Pt.U, Pt.locs, Pt.cells, Pt.slots] at X55 l55 y55 z55 st55 hQ55
      subst l55 y55 z55
      obtain ⟨rfl, Nq55, e55⟩ := hQ55
      have N55 := Fr.app N53 Nq55
      refine go (fun tg kg => st55.trans kg) ?_
      show G (T55.setTop (mkF m 145 #[.val (.int x0), .val (.int x1), .val (.int (1 : Int32)), .val (.int (1 : Int32)), .val (.ref b39), .val (.ref b40), .val (.int (1 : Int32))] [(.int (0 : Int32))]))
      refine go (fun tg kg => XS.ifNo X55.here hx rfl (hb hby at_145) rfl ((if0 _ _).trans (teq (by decide)).2) kg) ?_
      show G (T55.setTop (mkF m 148 #[.val (.int x0), .val (.int x1), .val (.int (1 : Int32)), .val (.int (1 : Int32)), .val (.ref b39), .val (.ref b40), .val (.int (1 : Int32))] []))
      refine go (fun tg kg => XS.iconst X55.here hx rfl (hb hby at_148) kg) ?_
      show G (T55.setTop (mkF m 149 #[.val (.int x0), .val (.int x1), .val (.int (1 : Int32)), .val (.int (1 : Int32)), .val (.ref b39), .val (.ref b40), .val (.int (1 : Int32))] [(.int (1 : Int32))]))
      refine go (fun tg kg => XS.goto X55.here hx rfl (pc0 := 149) (pc' := 153) rfl (hb hby at_149) (by decide) (by decide) kg) ?_
      show G (T55.setTop (mkF m 153 #[.val (.int x0), .val (.int x1), .val (.int (1 : Int32)), .val (.int (1 : Int32)), .val (.ref b39), .val (.ref b40), .val (.int (1 : Int32))] [(.int (1 : Int32))]))
      refine go (fun tg kg => XS.istore X55.here hx rfl (hb hby at_153) rfl (l' := #[.val (.int x0), .val (.int x1), .val (.int (1 : Int32)), .val (.int (1 : Int32)), .val (.ref b39), .val (.ref b40), .val (.int (1 : Int32))]) rfl kg) ?_
      show G (T55.setTop (mkF m 155 #[.val (.int x0), .val (.int x1), .val (.int (1 : Int32)), .val (.int (1 : Int32)), .val (.ref b39), .val (.ref b40), .val (.int (1 : Int32))] []))
      refine go (fun tg kg => XS.iload X55.here hx rfl (hb hby at_155) rfl kg) ?_
      show G (T55.setTop (mkF m 157 #[.val (.int x0), .val (.int x1), .val (.int (1 : Int32)), .val (.int (1 : Int32)), .val (.ref b39), .val (.ref b40), .val (.int (1 : Int32))] [(.int (1 : Int32))]))
      refine go (fun tg kg => XS.ifNo X55.here hx rfl (hb hby at_157) rfl ((if0 _ _).trans (feq (by decide)).1) kg) ?_
      show G (T55.setTop (mkF m 160 #[.val (.int x0), .val (.int x1), .val (.int (1 : Int32)), .val (.int (1 : Int32)), .val (.ref b39), .val (.ref b40), .val (.int (1 : Int32))] []))
      refine go (fun tg kg => XS.aload X55.here hx rfl (hb hby at_160) rfl rfl kg) ?_
      show G (T55.setTop (mkF m 162 #[.val (.int x0), .val (.int x1), .val (.int (1 : Int32)), .val (.int (1 : Int32)), .val (.ref b39), .val (.ref b40), .val (.int (1 : Int32))] [(.ref b39)]))
      have Fa59 := (own_sta_keep (own_sta_keep S_u_SKIP K39 all0) K40 all0)
      obtain ⟨_, _, ⟨T58, L58, k58, n58⟩, -, X58, ⟨Lc58, hQ58, l58, y58, z58⟩, st58⟩ := Jvm.LawKit.callS X55 hx (y := (⟨"com/example/drumline/drumline/model/OverlapPolicy", "skip", "()Lcom/example/drumline/drumline/model/OverlapPolicy;"⟩ : MethodName)) hown (mvT hZ (hw _ (List.mem_of_getElem? (i := 43) rfl))) (mvT hZ (hw _ (List.mem_of_getElem? (i := 44) rfl))) (mvT hZ (hw _ (List.mem_of_getElem? (i := 3) rfl))) (mvT hZ (hw _ (List.mem_of_getElem? (i := 45) rfl))) (by decide) (backOf (W := 1) (rm8 l Z a0 hw [] u_SKIP T40.heap n0 Z40 Fa59) hZ (hw _ (List.mem_of_getElem? (i := 45) rfl)) (hw _ (List.mem_of_getElem? (i := 3) rfl)) (by decide) (by decide)) (g := (mkF m 162 #[.val (.int x0), .val (.int x1), .val (.int (1 : Int32)), .val (.int (1 : Int32)), .val (.ref b39), .val (.ref b40), .val (.int (1 : Int32))] [(.ref b39)])) rfl (by rw [hml]; rfl) (argsL := []) (rest := [(.ref b39)]) (lenOf pd___Lcom_example_drumline_drumline_model_OverlapPolicy_ rfl) rfl (by show 2 * 0 + _ ≤ _; exact Nat.le_of_eq rfl) (hb hby at_162) (fun _ _ => ⟨rfl, e55, (by decide : 2 + 0 ≤ _), (by decide : 4 + 0 ≤ _)⟩)
      dsimp only [Pt.U, Pt.locs, Pt.cells, Pt.slots] at X58 l58 y58 z58 st58 hQ58
      subst l58 y58 z58
      obtain ⟨rfl, Nq58, e58⟩ := hQ58
      have N58 := Fr.app N55 Nq58
      refine go st58 ?_
      show G (T58.setTop (mkF m 165 #[.val (.int x0), .val (.int x1), .val (.int (1 : Int32)), .val (.int (1 : Int32)), .val (.ref b39), .val (.ref b40), .val (.int (1 : Int32))] [(.ref u_SKIP), (.ref b39)]))
      have Fa61 := ((E_u_SKIP.keep K39).keep K40)
      have Fa62 := ((F_u_SKIP_kind.keep K39 nin0).keep K40 nin0)
      obtain ⟨cq60, kq60, q60a, q60b, q60c⟩ := isOf hZ e58 Fa44
      obtain ⟨_, _, ⟨T60, L60, k60, n60⟩, -, X60, ⟨Lc60, hQ60, l60, y60, z60⟩, st60⟩ := X58.virtualBack hx (y := (⟨"com/example/drumline/drumline/model/OverlapPolicy", "equals", "(Ljava/lang/Object;)Z"⟩ : MethodName)) (z := (⟨"com/example/drumline/drumline/model/OverlapPolicy", "equals", "(Ljava/lang/Object;)Z"⟩ : MethodName)) hown (mvT hZ (hw _ (List.mem_of_getElem? (i := 31) rfl))) (mvT hZ (hw _ (List.mem_of_getElem? (i := 32) rfl))) (notFace_of_selects (args := #[]) (mvT hZ (hw _ (List.mem_of_getElem? (i := 34) rfl)))) (mvT hZ (hw _ (List.mem_of_getElem? (i := 34) rfl))) (mvT hZ (hw _ (List.mem_of_getElem? (i := 33) rfl))) (by decide) (backOf (W := 0) (rm6_0 l Z a0 hw [] b39 u_SKIP k_PARALLEL k_SKIP T40.heap n0 Z40 Fa61 Fa43 Fa62 hnk_SKIP) hZ (hw _ (List.mem_of_getElem? (i := 35) rfl)) (hw _ (List.mem_of_getElem? (i := 3) rfl)) (by decide) (by decide)) q60a q60c (g := (mkF m 165 #[.val (.int x0), .val (.int x1), .val (.int (1 : Int32)), .val (.int (1 : Int32)), .val (.ref b39), .val (.ref b40), .val (.int (1 : Int32))] [(.ref u_SKIP), (.ref b39)])) rfl (by rw [hml]; rfl) (Steps.refl _) (argsL := [(.ref u_SKIP)]) (rest := []) (lenOf pd__Ljava_lang_Object__Z rfl) rfl (by show 2 * 0 + _ ≤ _; exact Nat.le_of_eq rfl) (hb hby at_165) (fun _ _ => ⟨rfl, e58, (by decide : 2 + 0 ≤ _), (by decide : 4 + 0 ≤ _)⟩)
      dsimp only [Pt.U, Pt.locs, Pt.cells, Pt.slots] at X60 l60 y60 z60 st60 hQ60
      subst l60 y60 z60
      obtain ⟨rfl, Nq60, e60⟩ := hQ60
      have N60 := Fr.app N58 Nq60
      refine go (fun tg kg => st60.trans kg) ?_
      show G (T60.setTop (mkF m 168 #[.val (.int x0), .val (.int x1), .val (.int (1 : Int32)), .val (.int (1 : Int32)), .val (.ref b39), .val (.ref b40), .val (.int (1 : Int32))] [(.int (0 : Int32))]))
      refine go (fun tg kg => XS.ifNo X60.here hx rfl (hb hby at_168) rfl ((if0 _ _).trans (teq (by decide)).2) kg) ?_
      show G (T60.setTop (mkF m 171 #[.val (.int x0), .val (.int x1), .val (.int (1 : Int32)), .val (.int (1 : Int32)), .val (.ref b39), .val (.ref b40), .val (.int (1 : Int32))] []))
      refine go (fun tg kg => XS.iconst X60.here hx rfl (hb hby at_171) kg) ?_
      show G (T60.setTop (mkF m 172 #[.val (.int x0), .val (.int x1), .val (.int (1 : Int32)), .val (.int (1 : Int32)), .val (.ref b39), .val (.ref b40), .val (.int (1 : Int32))] [(.int (1 : Int32))]))
      refine go (fun tg kg => XS.goto X60.here hx rfl (pc0 := 172) (pc' := 176) rfl (hb hby at_172) (by decide) (by decide) kg) ?_
      show G (T60.setTop (mkF m 176 #[.val (.int x0), .val (.int x1), .val (.int (1 : Int32)), .val (.int (1 : Int32)), .val (.ref b39), .val (.ref b40), .val (.int (1 : Int32))] [(.int (1 : Int32))]))
      refine go (fun tg kg => XS.istore X60.here hx rfl (hb hby at_176) rfl (l' := #[.val (.int x0), .val (.int x1), .val (.int (1 : Int32)), .val (.int (1 : Int32)), .val (.ref b39), .val (.ref b40), .val (.int (1 : Int32))]) rfl kg) ?_
      show G (T60.setTop (mkF m 178 #[.val (.int x0), .val (.int x1), .val (.int (1 : Int32)), .val (.int (1 : Int32)), .val (.ref b39), .val (.ref b40), .val (.int (1 : Int32))] []))
      refine go (fun tg kg => XS.iload X60.here hx rfl (hb hby at_178) rfl kg) ?_
      show G (T60.setTop (mkF m 180 #[.val (.int x0), .val (.int x1), .val (.int (1 : Int32)), .val (.int (1 : Int32)), .val (.ref b39), .val (.ref b40), .val (.int (1 : Int32))] [(.int (1 : Int32))]))
      refine fin (some (.int (1 : Int32))) X60 (fun h => absurd h (by decide)) (fun fs hr => retN X60 hx (t := .boolean) hret (by simp) (hb hby at_180) hr) (by decide) (by decide) ?_
      rw [e60]
      exact ⟨rfl, N60⟩
  · refine go (fun tg kg => XS.ifYes X0.here hx rfl (pc0 := 6) (pc' := 11) rfl (hb hby at_6) rfl ((if0 _ _).trans (feq hc1).2) (by decide) (by decide) kg) ?_
    show G (s₁.setTop (mkF m 11 #[.val (.int x0), .val (.int x1), .val (.int (x0 &&& (2147483647 : Int32))), .unset, .unset, .unset, .unset] []))
    obtain ⟨cc, hcc⟩ : ∃ z : Int32, z = (x0 &&& (2147483647 : Int32)) := ⟨_, rfl⟩
    have gcc : ¬ cc < (1 : Int32) := by rw [hcc]; exact own_ca hc1
    rw [← hcc]
    show G (s₁.setTop (mkF m 11 #[.val (.int x0), .val (.int x1), .val (.int cc), .unset, .unset, .unset, .unset] []))
    refine go (fun tg kg => XS.iloadN X0.here hx rfl (hb hby at_11) rfl kg) ?_
    show G (s₁.setTop (mkF m 12 #[.val (.int x0), .val (.int x1), .val (.int cc), .unset, .unset, .unset, .unset] [(.int x1)]))
    refine go (fun tg kg => XS.iconst X0.here hx rfl (hb hby at_12) kg) ?_
    show G (s₁.setTop (mkF m 13 #[.val (.int x0), .val (.int x1), .val (.int cc), .unset, .unset, .unset, .unset] [(.int (1 : Int32)), (.int x1)]))
    refine go (fun tg kg => XS.iand X0.here hx rfl (hb hby at_13) rfl kg) ?_
    show G (s₁.setTop (mkF m 14 #[.val (.int x0), .val (.int x1), .val (.int cc), .unset, .unset, .unset, .unset] [(.int (x1 &&& (1 : Int32)))]))
    by_cases hc63 : (x1 &&& (1 : Int32)) = (0 : Int32)
    · refine go (fun tg kg => XS.ifYes X0.here hx rfl (pc0 := 14) (pc' := 21) rfl (hb hby at_14) rfl ((if0 _ _).trans (teq hc63).1) (by decide) (by decide) kg) ?_
      show G (s₁.setTop (mkF m 21 #[.val (.int x0), .val (.int x1), .val (.int cc), .unset, .unset, .unset, .unset] []))
      refine go (fun tg kg => XS.iconst X0.here hx rfl (hb hby at_21) kg) ?_
      show G (s₁.setTop (mkF m 22 #[.val (.int x0), .val (.int x1), .val (.int cc), .unset, .unset, .unset, .unset] [(.int (1 : Int32))]))
      refine go (fun tg kg => XS.iloadN X0.here hx rfl (hb hby at_22) rfl kg) ?_
      show G (s₁.setTop (mkF m 23 #[.val (.int x0), .val (.int x1), .val (.int cc), .unset, .unset, .unset, .unset] [(.int x1), (.int (1 : Int32))]))
      refine go (fun tg kg => XS.iconst X0.here hx rfl (hb hby at_23) kg) ?_
      show G (s₁.setTop (mkF m 24 #[.val (.int x0), .val (.int x1), .val (.int cc), .unset, .unset, .unset, .unset] [(.int (1 : Int32)), (.int x1), (.int (1 : Int32))]))
      refine go (fun tg kg => XS.iushr X0.here hx rfl (hb hby at_24) rfl kg) ?_
      show G (s₁.setTop (mkF m 25 #[.val (.int x0), .val (.int x1), .val (.int cc), .unset, .unset, .unset, .unset] [(.int ((x1.toUInt32 >>> ((1 : Int32) &&& 31).toUInt32).toInt32)), (.int (1 : Int32))]))
      obtain ⟨_, _, ⟨T64, L64, k64, n64⟩, -, X64, ⟨Lc64, hQ64, l64, y64, z64⟩, st64⟩ := Jvm.LawKit.callS X0 hx (y := (⟨"java/lang/Math", "max", "(II)I"⟩ : MethodName)) hown (mvT hZ (hw _ (List.mem_of_getElem? (i := 49) rfl))) (mvT hZ (hw _ (List.mem_of_getElem? (i := 50) rfl))) (mvT hZ (hw _ (List.mem_of_getElem? (i := 51) rfl))) (mvT hZ (hw _ (List.mem_of_getElem? (i := 52) rfl))) (by decide) (backOf (W := 0) (rm9 l Z a0 hw [] (1 : Int32) ((x1.toUInt32 >>> ((1 : Int32) &&& 31).toUInt32).toInt32) h0 n0 Z0 ) hZ (hw _ (List.mem_of_getElem? (i := 52) rfl)) (hw _ (List.mem_of_getElem? (i := 51) rfl)) (by decide) (by decide)) (g := (mkF m 25 #[.val (.int x0), .val (.int x1), .val (.int cc), .unset, .unset, .unset, .unset] [(.int ((x1.toUInt32 >>> ((1 : Int32) &&& 31).toUInt32).toInt32)), (.int (1 : Int32))])) rfl (by rw [hml]; rfl) (argsL := [(.int (1 : Int32)), (.int ((x1.toUInt32 >>> ((1 : Int32) &&& 31).toUInt32).toInt32))]) (rest := []) (lenOf pd__II_I rfl) rfl (by show 2 * 0 + _ ≤ _; exact Nat.le_of_eq rfl) (hb hby at_25) (fun _ _ => ⟨rfl, e0, (by decide : 0 + 0 ≤ _), (by decide : 0 + 0 ≤ _)⟩)
      dsimp only [Pt.U, Pt.locs, Pt.cells, Pt.slots] at X64 l64 y64 z64 st64 hQ64
      subst l64 y64 z64
      obtain ⟨rfl, Nq64, e64⟩ := hQ64
      have N64 := Fr.app N0 Nq64
      refine go st64 ?_
      show G (T64.setTop (mkF m 28 #[.val (.int x0), .val (.int x1), .val (.int cc), .unset, .unset, .unset, .unset] [(.int (own_max (1 : Int32) ((x1.toUInt32 >>> ((1 : Int32) &&& 31).toUInt32).toInt32)))]))
      refine go (fun tg kg => XS.istoreN X64.here hx rfl (hb hby at_28) rfl (l' := #[.val (.int x0), .val (.int x1), .val (.int cc), .val (.int (own_max (1 : Int32) ((x1.toUInt32 >>> ((1 : Int32) &&& 31).toUInt32).toInt32))), .unset, .unset, .unset]) rfl kg) ?_
      show G (T64.setTop (mkF m 29 #[.val (.int x0), .val (.int x1), .val (.int cc), .val (.int (own_max (1 : Int32) ((x1.toUInt32 >>> ((1 : Int32) &&& 31).toUInt32).toInt32))), .unset, .unset, .unset] []))
      obtain ⟨dd, hdd⟩ : ∃ z : Int32, z = (own_max (1 : Int32) ((x1.toUInt32 >>> ((1 : Int32) &&& 31).toUInt32).toInt32)) := ⟨_, rfl⟩
      have gdd : ¬ dd < (1 : Int32) := by rw [hdd]; exact own_cm _
      rw [← hdd]
      show G (T64.setTop (mkF m 29 #[.val (.int x0), .val (.int x1), .val (.int cc), .val (.int dd), .unset, .unset, .unset] []))
      refine go (fun tg kg => XS.iloadN X64.here hx rfl (hb hby at_29) rfl kg) ?_
      show G (T64.setTop (mkF m 30 #[.val (.int x0), .val (.int x1), .val (.int cc), .val (.int dd), .unset, .unset, .unset] [(.int cc)]))
      obtain ⟨_, _, ⟨T65, L65, k65, n65⟩, -, X65, ⟨Lc65, hQ65, l65, y65, z65⟩, st65⟩ := Jvm.LawKit.callS X64 hx (y := (⟨"com/example/drumline/drumline/model/OverlapPolicy", "parallel", "(I)Lcom/example/drumline/drumline/model/OverlapPolicy;"⟩ : MethodName)) hown (mvT hZ (hw _ (List.mem_of_getElem? (i := 1) rfl))) (mvT hZ (hw _ (List.mem_of_getElem? (i := 2) rfl))) (mvT hZ (hw _ (List.mem_of_getElem? (i := 3) rfl))) (mvT hZ (hw _ (List.mem_of_getElem? (i := 4) rfl))) (by decide) (backOf (W := 0) (rm1 l Z a0 hw [] cc k_PARALLEL h0 n0 Z0 S_k_PARALLEL gcc) hZ (hw _ (List.mem_of_getElem? (i := 4) rfl)) (hw _ (List.mem_of_getElem? (i := 3) rfl)) (by decide) (by decide)) (g := (mkF m 30 #[.val (.int x0), .val (.int x1), .val (.int cc), .val (.int dd), .unset, .unset, .unset] [(.int cc)])) rfl (by rw [hml]; rfl) (argsL := [(.int cc)]) (rest := []) (lenOf pd__I_Lcom_example_drumline_drumline_model_OverlapPolicy_ rfl) rfl (by show 2 * 0 + _ ≤ _; exact Nat.le_of_eq rfl) (hb hby at_30) (fun _ _ => ⟨rfl, e64, (by decide : 0 + 1 ≤ _), (by decide : 0 + 2 ≤ _)⟩)
      dsimp only [Pt.U, Pt.locs, Pt.cells, Pt.slots] at X65 l65 y65 z65 st65 hQ65
      subst l65 y65 z65
      obtain ⟨b65, rfl, Nq65, K65, sz65, ge_b65, Ge65, Gk65, Gc65⟩ := hQ65
      have Z65 := Nat.le_trans Z0 K65.1
      have N65 := Fr.app N64 Nq65
      refine go st65 ?_
      show G (T65.setTop (mkF m 33 #[.val (.int x0), .val (.int x1), .val (.int cc), .val (.int dd), .unset, .unset, .unset] [(.ref b65)]))
      refine go (fun tg kg => XS.astore X65.here hx rfl (hb hby at_33) rfl rfl (l' := #[.val (.int x0), .val (.int x1), .val (.int cc), .val (.int dd), .val (.ref b65), .unset, .unset]) rfl kg) ?_
      show G (T65.setTop (mkF m 35 #[.val (.int x0), .val (.int x1), .val (.int cc), .val (.int dd), .val (.ref b65), .unset, .unset] []))
      refine go (fun tg kg => XS.iloadN X65.here hx rfl (hb hby at_35) rfl kg) ?_
      show G (T65.setTop (mkF m 36 #[.val (.int x0), .val (.int x1), .val (.int cc), .val (.int dd), .val (.ref b65), .unset, .unset] [(.int dd)]))
      have Fa67 := (own_sta_keep S_k_PARALLEL K65 all0)
      obtain ⟨_, _, ⟨T66, L66, k66, n66⟩, -, X66, ⟨Lc66, hQ66, l66, y66, z66⟩, st66⟩ := Jvm.LawKit.callS X65 hx (y := (⟨"com/example/drumline/drumline/model/OverlapPolicy", "parallel", "(I)Lcom/example/drumline/drumline/model/OverlapPolicy;"⟩ : MethodName)) hown (mvT hZ (hw _ (List.mem_of_getElem? (i := 1) rfl))) (mvT hZ (hw _ (List.mem_of_getElem? (i := 2) rfl))) (mvT hZ (hw _ (List.mem_of_getElem? (i := 3) rfl))) (mvT hZ (hw _ (List.mem_of_getElem? (i := 4) rfl))) (by decide) (backOf (W := 0) (rm1 l Z a0 hw [] dd k_PARALLEL T65.heap n0 Z65 Fa67 gdd) hZ (hw _ (List.mem_of_getElem? (i := 4) rfl)) (hw _ (List.mem_of_getElem? (i := 3) rfl)) (by decide) (by decide)) (g := (mkF m 36 #[.val (.int x0), .val (.int x1), .val (.int cc), .val (.int dd), .val (.ref b65), .unset, .unset] [(.int dd)])) rfl (by rw [hml]; rfl) (argsL := [(.int dd)]) (rest := []) (lenOf pd__I_Lcom_example_drumline_drumline_model_OverlapPolicy_ rfl) rfl (by show 2 * 0 + _ ≤ _; exact Nat.le_of_eq rfl) (hb hby at_36) (fun _ _ => ⟨rfl, rfl, (by decide : 1 + 1 ≤ _), (by decide : 2 + 2 ≤ _)⟩)
      dsimp only [Pt.U, Pt.locs, Pt.cells, Pt.slots] at X66 l66 y66 z66 st66 hQ66
      subst l66 y66 z66
      obtain ⟨b66, rfl, Nq66, K66, sz66, ge_b66, Ge66, Gk66, Gc66⟩ := hQ66
      have Z66 := Nat.le_trans Z65 K66.1
      have N66 := Fr.app N65 Nq66
      refine go st66 ?_
      show G (T66.setTop (mkF m 39 #[.val (.int x0), .val (.int x1), .val (.int cc), .val (.int dd), .val (.ref b65), .unset, .unset] [(.ref b66)]))
      refine go (fun tg kg => XS.astore X66.here hx rfl (hb hby at_39) rfl rfl (l' := #[.val (.int x0), .val (.int x1), .val (.int cc), .val (.int dd), .val (.ref b65), .val (.ref b66), .unset]) rfl kg) ?_
      show G (T66.setTop (mkF m 41 #[.val (.int x0), .val (.int x1), .val (.int cc), .val (.int dd), .val (.ref b65), .val (.ref b66), .unset] []))
      refine go (fun tg kg => XS.aload X66.here hx rfl (hb hby at_41) rfl rfl kg) ?_
      show G (T66.setTop (mkF m 43 #[.val (.int x0), .val (.int x1), .val (.int cc), .val (.int dd), .val (.ref b65), .val (.ref b66), .unset] [(.ref b65)]))
      have Fa69 := (Gk65.keep K66 nin0)
      have Fa70 := (Ge65.keep K66)
      obtain ⟨cq68, kq68, q68a, q68b, q68c⟩ := isOf hZ rfl Fa70
      obtain ⟨_, _, ⟨T68, L68, k68, n68⟩, -, X68, ⟨Lc68, hQ68, l68, y68, z68⟩, st68⟩ := X66.virtualBack hx (y := (⟨"com/example/drumline/drumline/model/OverlapPolicy", "kind", "()Lcom/example/drumline/drumline/model/OverlapPolicy$Kind;"⟩ : MethodName)) (z := (⟨"com/example/drumline/drumline/model/OverlapPolicy", "kind", "()Lcom/example/drumline/drumline/model/OverlapPolicy$Kind;"⟩ : MethodName)) hown (mvT hZ (hw _ (List.mem_of_getElem? (i := 20) rfl))) (mvT hZ (hw _ (List.mem_of_getElem? (i := 21) rfl))) (notFace_of_selects (args := #[]) (mvT hZ (hw _ (List.mem_of_getElem? (i := 23) rfl)))) (mvT hZ (hw _ (List.mem_of_getElem? (i := 23) rfl))) (mvT hZ (hw _ (List.mem_of_getElem? (i := 22) rfl))) (by decide) (backOf (W := 0) (rm4 l Z a0 hw [] b65 k_PARALLEL T66.heap n0 Z66 Fa69) hZ (hw _ (List.mem_of_getElem? (i := 24) rfl)) (hw _ (List.mem_of_getElem? (i := 3) rfl)) (by decide) (by decide)) q68a q68c (g := (mkF m 43 #[.val (.int x0), .val (.int x1), .val (.int cc), .val (.int dd), .val (.ref b65), .val (.ref b66), .unset] [(.ref b65)])) rfl (by rw [hml]; rfl) (Steps.refl _) (argsL := []) (rest := []) (lenOf pd___Lcom_example_drumline_drumline_model_OverlapPolicy_Kind_ rfl) rfl (by show 2 * 0 + _ ≤ _; exact Nat.le_of_eq rfl) (hb hby at_43) (fun _ _ => ⟨rfl, rfl, (by decide : 2 + 0 ≤ _), (by decide : 4 + 0 ≤ _)⟩)
      dsimp only [Pt.U, Pt.locs, Pt.cells, Pt.slots] at X68 l68 y68 z68 st68 hQ68
      subst l68 y68 z68
      obtain ⟨rfl, Nq68, e68⟩ := hQ68
      have N68 := Fr.app N66 Nq68
      refine go (fun tg kg => st68.trans kg) ?_
      show G (T68.setTop (mkF m 46 #[.val (.int x0), .val (.int x1), .val (.int cc), .val (.int dd), .val (.ref b65), .val (.ref b66), .unset] [(.ref k_PARALLEL)]))
      have Fa71 := (own_sta_keep Fa67 K66 all0)
      obtain ⟨T72, X72, e72, st72⟩ := getS2 X68 hx hZ hown (host := "") (Or.inl (hw _ (List.mem_of_getElem? (i := 25) rfl))) Via.refl e68 Fa71 (g := (mkF m 46 #[.val (.int x0), .val (.int x1), .val (.int cc), .val (.int dd), .val (.ref b65), .val (.ref b66), .unset] [(.ref k_PARALLEL)])) rfl (hb hby at_46)
      refine go st72 ?_
      show G (T72.setTop (mkF m 49 #[.val (.int x0), .val (.int x1), .val (.int cc), .val (.int dd), .val (.ref b65), .val (.ref b66), .unset] [(.ref k_PARALLEL), (.ref k_PARALLEL)]))
      refine go (fun tg kg => Jvm.RoadKit.acmp (g := (mkF m 49 #[.val (.int x0), .val (.int x1), .val (.int cc), .val (.int dd), .val (.ref b65), .val (.ref b66), .unset] [(.ref k_PARALLEL), (.ref k_PARALLEL)])) X72 hx rfl rfl rfl (pc0 := 49) (pc' := 52) (same := true) rfl (hb hby at_49) rfl (decide_eq_true rfl) (by decide) (by decide) kg) ?_
      show G (T72.setTop (mkF m 52 #[.val (.int x0), .val (.int x1), .val (.int cc), .val (.int dd), .val (.ref b65), .val (.ref b66), .unset] []))
      refine go (fun tg kg => XS.aload X72.here hx rfl (hb hby at_52) rfl rfl kg) ?_
      show G (T72.setTop (mkF m 54 #[.val (.int x0), .val (.int x1), .val (.int cc), .val (.int dd), .val (.ref b65), .val (.ref b66), .unset] [(.ref b65)]))
      have Fa74 := (Gc65.keep K66 nin0)
      obtain ⟨cq73, kq73, q73a, q73b, q73c⟩ := isOf hZ e72 Fa70
      obtain ⟨_, _, ⟨T73, L73, k73, n73⟩, -, X73, ⟨Lc73, hQ73, l73, y73, z73⟩, st73⟩ := X72.virtualBack hx (y := (⟨"com/example/drumline/drumline/model/OverlapPolicy", "cap", "()I"⟩ : MethodName)) (z := (⟨"com/example/drumline/drumline/model/OverlapPolicy", "cap", "()I"⟩ : MethodName)) hown (mvT hZ (hw _ (List.mem_of_getElem? (i := 26) rfl))) (mvT hZ (hw _ (List.mem_of_getElem? (i := 27) rfl))) (notFace_of_selects (args := #[]) (mvT hZ (hw _ (List.mem_of_getElem? (i := 29) rfl)))) (mvT hZ (hw _ (List.mem_of_getElem? (i := 29) rfl))) (mvT hZ (hw _ (List.mem_of_getElem? (i := 28) rfl))) (by decide) (backOf (W := 0) (rm5 l Z a0 hw [] b65 cc T66.heap n0 Z66 Fa74) hZ (hw _ (List.mem_of_getElem? (i := 30) rfl)) (hw _ (List.mem_of_getElem? (i := 3) rfl)) (by decide) (by decide)) q73a q73c (g := (mkF m 54 #[.val (.int x0), .val (.int x1), .val (.int cc), .val (.int dd), .val (.ref b65), .val (.ref b66), .unset] [(.ref b65)])) rfl (by rw [hml]; rfl) (Steps.refl _) (argsL := []) (rest := []) (lenOf pd___I rfl) rfl (by show 2 * 0 + _ ≤ _; exact Nat.le_of_eq rfl) (hb hby at_54) (fun _ _ => ⟨rfl, e72, (by decide : 2 + 0 ≤ _), (by decide : 4 + 0 ≤ _)⟩)
      dsimp only [Pt.U, Pt.locs, Pt.cells, Pt.slots] at X73 l73 y73 z73 st73 hQ73
      subst l73 y73 z73
      obtain ⟨rfl, Nq73, e73⟩ := hQ73
      have N73 := Fr.app N68 Nq73
      refine go (fun tg kg => st73.trans kg) ?_
      show G (T73.setTop (mkF m 57 #[.val (.int x0), .val (.int x1), .val (.int cc), .val (.int dd), .val (.ref b65), .val (.ref b66), .unset] [(.int cc)]))
      refine go (fun tg kg => XS.iloadN X73.here hx rfl (hb hby at_57) rfl kg) ?_
      show G (T73.setTop (mkF m 58 #[.val (.int x0), .val (.int x1), .val (.int cc), .val (.int dd), .val (.ref b65), .val (.ref b66), .unset] [(.int cc), (.int cc)]))
      refine go (fun tg kg => XS.icmpNo X73.here hx rfl (hb hby at_58) rfl (teq (rfl : cc = cc)).2 kg) ?_
      show G (T73.setTop (mkF m 61 #[.val (.int x0), .val (.int x1), .val (.int cc), .val (.int dd), .val (.ref b65), .val (.ref b66), .unset] []))
      refine go (fun tg kg => XS.iconst X73.here hx rfl (hb hby at_61) kg) ?_
      show G (T73.setTop (mkF m 62 #[.val (.int x0), .val (.int x1), .val (.int cc), .val (.int dd), .val (.ref b65), .val (.ref b66), .unset] [(.int (1 : Int32))]))
      refine go (fun tg kg => XS.goto X73.here hx rfl (pc0 := 62) (pc' := 66) rfl (hb hby at_62) (by decide) (by decide) kg) ?_
      show G (T73.setTop (mkF m 66 #[.val (.int x0), .val (.int x1), .val (.int cc), .val (.int dd), .val (.ref b65), .val (.ref b66), .unset] [(.int (1 : Int32))]))
      refine go (fun tg kg => XS.istore X73.here hx rfl (hb hby at_66) rfl (l' := #[.val (.int x0), .val (.int x1), .val (.int cc), .val (.int dd), .val (.ref b65), .val (.ref b66), .val (.int (1 : Int32))]) rfl kg) ?_
      show G (T73.setTop (mkF m 68 #[.val (.int x0), .val (.int x1), .val (.int cc), .val (.int dd), .val (.ref b65), .val (.ref b66), .val (.int (1 : Int32))] []))
      refine go (fun tg kg => XS.iload X73.here hx rfl (hb hby at_68) rfl kg) ?_
      show G (T73.setTop (mkF m 70 #[.val (.int x0), .val (.int x1), .val (.int cc), .val (.int dd), .val (.ref b65), .val (.ref b66), .val (.int (1 : Int32))] [(.int (1 : Int32))]))
      refine go (fun tg kg => XS.ifNo X73.here hx rfl (hb hby at_70) rfl ((if0 _ _).trans (feq (by decide)).1) kg) ?_
      show G (T73.setTop (mkF m 73 #[.val (.int x0), .val (.int x1), .val (.int cc), .val (.int dd), .val (.ref b65), .val (.ref b66), .val (.int (1 : Int32))] []))
      refine go (fun tg kg => XS.aload X73.here hx rfl (hb hby at_73) rfl rfl kg) ?_
      show G (T73.setTop (mkF m 75 #[.val (.int x0), .val (.int x1), .val (.int cc), .val (.int dd), .val (.ref b65), .val (.ref b66), .val (.int (1 : Int32))] [(.ref b66)]))
      obtain ⟨cq75, kq75, q75a, q75b, q75c⟩ := isOf hZ e73 Ge66
      obtain ⟨_, _, ⟨T75, L75, k75, n75⟩, -, X75, ⟨Lc75, hQ75, l75, y75, z75⟩, st75⟩ := X73.virtualBack hx (y := (⟨"com/example/drumline/drumline/model/OverlapPolicy", "kind", "()Lcom/example/drumline/drumline/model/OverlapPolicy$Kind;"⟩ : MethodName)) (z := (⟨"com/example/drumline/drumline/model/OverlapPolicy", "kind", "()Lcom/example/drumline/drumline/model/OverlapPolicy$Kind;"⟩ : MethodName)) hown (mvT hZ (hw _ (List.mem_of_getElem? (i := 20) rfl))) (mvT hZ (hw _ (List.mem_of_getElem? (i := 21) rfl))) (notFace_of_selects (args := #[]) (mvT hZ (hw _ (List.mem_of_getElem? (i := 23) rfl)))) (mvT hZ (hw _ (List.mem_of_getElem? (i := 23) rfl))) (mvT hZ (hw _ (List.mem_of_getElem? (i := 22) rfl))) (by decide) (backOf (W := 0) (rm4 l Z a0 hw [] b66 k_PARALLEL T66.heap n0 Z66 Gk66) hZ (hw _ (List.mem_of_getElem? (i := 24) rfl)) (hw _ (List.mem_of_getElem? (i := 3) rfl)) (by decide) (by decide)) q75a q75c (g := (mkF m 75 #[.val (.int x0), .val (.int x1), .val (.int cc), .val (.int dd), .val (.ref b65), .val (.ref b66), .val (.int (1 : Int32))] [(.ref b66)])) rfl (by rw [hml]; rfl) (Steps.refl _) (argsL := []) (rest := []) (lenOf pd___Lcom_example_drumline_drumline_model_OverlapPolicy_Kind_ rfl) rfl (by show 2 * 0 + _ ≤ _; exact Nat.le_of_eq rfl) (hb hby at_75) (fun _ _ => ⟨rfl, e73, (by decide : 2 + 0 ≤ _), (by decide : 4 + 0 ≤ _)⟩)
      dsimp only [Pt.U, Pt.locs, Pt.cells, Pt.slots] at X75 l75 y75 z75 st75 hQ75
      subst l75 y75 z75
      obtain ⟨rfl, Nq75, e75⟩ := hQ75
      have N75 := Fr.app N73 Nq75
      refine go (fun tg kg => st75.trans kg) ?_
      show G (T75.setTop (mkF m 78 #[.val (.int x0), .val (.int x1), .val (.int cc), .val (.int dd), .val (.ref b65), .val (.ref b66), .val (.int (1 : Int32))] [(.ref k_PARALLEL)]))
      obtain ⟨T76, X76, e76, st76⟩ := getS2 X75 hx hZ hown (host := "") (Or.inl (hw _ (List.mem_of_getElem? (i := 25) rfl))) Via.refl e75 Fa71 (g := (mkF m 78 #[.val (.int x0), .val (.int x1), .val (.int cc), .val (.int dd), .val (.ref b65), .val (.ref b66), .val (.int (1 : Int32))] [(.ref k_PARALLEL)])) rfl (hb hby at_78)
      refine go st76 ?_
      show G (T76.setTop (mkF m 81 #[.val (.int x0), .val (.int x1), .val (.int cc), .val (.int dd), .val (.ref b65), .val (.ref b66), .val (.int (1 : Int32))] [(.ref k_PARALLEL), (.ref k_PARALLEL)]))
      refine go (fun tg kg => Jvm.RoadKit.acmp (g := (mkF m 81 #[.val (.int x0), .val (.int x1), .val (.int cc), .val (.int dd), .val (.ref b65), .val (.ref b66), .val (.int (1 : Int32))] [(.ref k_PARALLEL), (.ref k_PARALLEL)])) X76 hx rfl rfl rfl (pc0 := 81) (pc' := 84) (same := true) rfl (hb hby at_81) rfl (decide_eq_true rfl) (by decide) (by decide) kg) ?_
      show G (T76.setTop (mkF m 84 #[.val (.int x0), .val (.int x1), .val (.int cc), .val (.int dd), .val (.ref b65), .val (.ref b66), .val (.int (1 : Int32))] []))
      refine go (fun tg kg => XS.aload X76.here hx rfl (hb hby at_84) rfl rfl kg) ?_
      show G (T76.setTop (mkF m 86 #[.val (.int x0), .val (.int x1), .val (.int cc), .val (.int dd), .val (.ref b65), .val (.ref b66), .val (.int (1 : Int32))] [(.ref b66)]))
      obtain ⟨cq77, kq77, q77a, q77b, q77c⟩ := isOf hZ e76 Ge66
      obtain ⟨_, _, ⟨T77, L77, k77, n77⟩, -, X77, ⟨Lc77, hQ77, l77, y77, z77⟩, st77⟩ := X76.virtualBack hx (y := (⟨"com/example/drumline/drumline/model/OverlapPolicy", "cap", "()I"⟩ : MethodName)) (z := (⟨"com/example/drumline/drumline/model/OverlapPolicy", "cap", "()I"⟩ : MethodName)) hown (mvT hZ (hw _ (List.mem_of_getElem? (i := 26) rfl))) (mvT hZ (hw _ (List.mem_of_getElem? (i := 27) rfl))) (notFace_of_selects (args := #[]) (mvT hZ (hw _ (List.mem_of_getElem? (i := 29) rfl)))) (mvT hZ (hw _ (List.mem_of_getElem? (i := 29) rfl))) (mvT hZ (hw _ (List.mem_of_getElem? (i := 28) rfl))) (by decide) (backOf (W := 0) (rm5 l Z a0 hw [] b66 dd T66.heap n0 Z66 Gc66) hZ (hw _ (List.mem_of_getElem? (i := 30) rfl)) (hw _ (List.mem_of_getElem? (i := 3) rfl)) (by decide) (by decide)) q77a q77c (g := (mkF m 86 #[.val (.int x0), .val (.int x1), .val (.int cc), .val (.int dd), .val (.ref b65), .val (.ref b66), .val (.int (1 : Int32))] [(.ref b66)])) rfl (by rw [hml]; rfl) (Steps.refl _) (argsL := []) (rest := []) (lenOf pd___I rfl) rfl (by show 2 * 0 + _ ≤ _; exact Nat.le_of_eq rfl) (hb hby at_86) (fun _ _ => ⟨rfl, e76, (by decide : 2 + 0 ≤ _), (by decide : 4 + 0 ≤ _)⟩)
      dsimp only [Pt.U, Pt.locs, Pt.cells, Pt.slots] at X77 l77 y77 z77 st77 hQ77
      subst l77 y77 z77
      obtain ⟨rfl, Nq77, e77⟩ := hQ77
      have N77 := Fr.app N75 Nq77
      refine go (fun tg kg => st77.trans kg) ?_
      show G (T77.setTop (mkF m 89 #[.val (.int x0), .val (.int x1), .val (.int cc), .val (.int dd), .val (.ref b65), .val (.ref b66), .val (.int (1 : Int32))] [(.int dd)]))
      refine go (fun tg kg => XS.iloadN X77.here hx rfl (hb hby at_89) rfl kg) ?_
      show G (T77.setTop (mkF m 90 #[.val (.int x0), .val (.int x1), .val (.int cc), .val (.int dd), .val (.ref b65), .val (.ref b66), .val (.int (1 : Int32))] [(.int dd), (.int dd)]))
      refine go (fun tg kg => XS.icmpNo X77.here hx rfl (hb hby at_90) rfl (teq (rfl : dd = dd)).2 kg) ?_
      show G (T77.setTop (mkF m 93 #[.val (.int x0), .val (.int x1), .val (.int cc), .val (.int dd), .val (.ref b65), .val (.ref b66), .val (.int (1 : Int32))] []))
      refine go (fun tg kg => XS.iconst X77.here hx rfl (hb hby at_93) kg) ?_
      show G (T77.setTop (mkF m 94 #[.val (.int x0), .val (.int x1), .val (.int cc), .val (.int dd), .val (.ref b65), .val (.ref b66), .val (.int (1 : Int32))] [(.int (1 : Int32))]))
      refine go (fun tg kg => XS.goto X77.here hx rfl (pc0 := 94) (pc' := 98) rfl (hb hby at_94) (by decide) (by decide) kg) ?_
      show G (T77.setTop (mkF m 98 #[.val (.int x0), .val (.int x1), .val (.int cc), .val (.int dd), .val (.ref b65), .val (.ref b66), .val (.int (1 : Int32))] [(.int (1 : Int32))]))
      refine go (fun tg kg => XS.istore X77.here hx rfl (hb hby at_98) rfl (l' := #[.val (.int x0), .val (.int x1), .val (.int cc), .val (.int dd), .val (.ref b65), .val (.ref b66), .val (.int (1 : Int32))]) rfl kg) ?_
      show G (T77.setTop (mkF m 100 #[.val (.int x0), .val (.int x1), .val (.int cc), .val (.int dd), .val (.ref b65), .val (.ref b66), .val (.int (1 : Int32))] []))
      refine go (fun tg kg => XS.iload X77.here hx rfl (hb hby at_100) rfl kg) ?_
      show G (T77.setTop (mkF m 102 #[.val (.int x0), .val (.int x1), .val (.int cc), .val (.int dd), .val (.ref b65), .val (.ref b66), .val (.int (1 : Int32))] [(.int (1 : Int32))]))
      refine go (fun tg kg => XS.ifNo X77.here hx rfl (hb hby at_102) rfl ((if0 _ _).trans (feq (by decide)).1) kg) ?_
      show G (T77.setTop (mkF m 105 #[.val (.int x0), .val (.int x1), .val (.int cc), .val (.int dd), .val (.ref b65), .val (.ref b66), .val (.int (1 : Int32))] []))
      refine go (fun tg kg => XS.aload X77.here hx rfl (hb hby at_105) rfl rfl kg) ?_
      show G (T77.setTop (mkF m 107 #[.val (.int x0), .val (.int x1), .val (.int cc), .val (.int dd), .val (.ref b65), .val (.ref b66), .val (.int (1 : Int32))] [(.ref b65)]))
      refine go (fun tg kg => XS.aload X77.here hx rfl (hb hby at_107) rfl rfl kg) ?_
      show G (T77.setTop (mkF m 109 #[.val (.int x0), .val (.int x1), .val (.int cc), .val (.int dd), .val (.ref b65), .val (.ref b66), .val (.int (1 : Int32))] [(.ref b66), (.ref b65)]))
      obtain ⟨cq78, kq78, q78a, q78b, q78c⟩ := isOf hZ e77 Fa70
      obtain ⟨_, _, ⟨T78, L78, k78, n78⟩, -, X78, ⟨Lc78, hQ78, l78, y78, z78⟩, st78⟩ := X77.virtualBack hx (y := (⟨"com/example/drumline/drumline/model/OverlapPolicy", "equals", "(Ljava/lang/Object;)Z"⟩ : MethodName)) (z := (⟨"com/example/drumline/drumline/model/OverlapPolicy", "equals", "(Ljava/lang/Object;)Z"⟩ : MethodName)) hown (mvT hZ (hw _ (List.mem_of_getElem? (i := 31) rfl))) (mvT hZ (hw _ (List.mem_of_getElem? (i := 32) rfl))) (notFace_of_selects (args := #[]) (mvT hZ (hw _ (List.mem_of_getElem? (i := 34) rfl)))) (mvT hZ (hw _ (List.mem_of_getElem? (i := 34) rfl))) (mvT hZ (hw _ (List.mem_of_getElem? (i := 33) rfl))) (by decide) (backOf (W := 0) (rm6_1 l Z a0 hw [] b65 b66 k_PARALLEL cc dd T66.heap n0 Z66 Ge66 Fa69 Gk66 Fa74 Gc66) hZ (hw _ (List.mem_of_getElem? (i := 35) rfl)) (hw _ (List.mem_of_getElem? (i := 3) rfl)) (by decide) (by decide)) q78a q78c (g := (mkF m 109 #[.val (.int x0), .val (.int x1), .val (.int cc), .val (.int dd), .val (.ref b65), .val (.ref b66), .val (.int (1 : Int32))] [(.ref b66), (.ref b65)])) rfl (by rw [hml]; rfl) (Steps.refl _) (argsL := [(.ref b66)]) (rest := []) (lenOf pd__Ljava_lang_Object__Z rfl) rfl (by show 2 * 0 + _ ≤ _; exact Nat.le_of_eq rfl) (hb hby at_109) (fun _ _ => ⟨rfl, e77, (by decide : 2 + 0 ≤ _), (by decide : 4 + 0 ≤ _)⟩)
      dsimp only [Pt.U, Pt.locs, Pt.cells, Pt.slots] at X78 l78 y78 z78 st78 hQ78
      subst l78 y78 z78
      obtain ⟨rfl, Nq78, e78⟩ := hQ78
      have N78 := Fr.app N77 Nq78
      refine go (fun tg kg => st78.trans kg) ?_
      show G (T78.setTop (mkF m 112 #[.val (.int x0), .val (.int x1), .val (.int cc), .val (.int dd), .val (.ref b65), .val (.ref b66), .val (.int (1 : Int32))] [(.int (own_eqv k_PARALLEL k_PARALLEL cc dd))]))
      refine go (fun tg kg => XS.iloadN X78.here hx rfl (hb hby at_112) rfl kg) ?_
      show G (T78.setTop (mkF m 113 #[.val (.int x0), .val (.int x1), .val (.int cc), .val (.int dd), .val (.ref b65), .val (.ref b66), .val (.int (1 : Int32))] [(.int cc), (.int (own_eqv k_PARALLEL k_PARALLEL cc dd))]))
      refine go (fun tg kg => XS.iloadN X78.here hx rfl (hb hby at_113) rfl kg) ?_
      show G (T78.setTop (mkF m 114 #[.val (.int x0), .val (.int x1), .val (.int cc), .val (.int dd), .val (.ref b65), .val (.ref b66), .val (.int (1 : Int32))] [(.int dd), (.int cc), (.int (own_eqv k_PARALLEL k_PARALLEL cc dd))]))
      by_cases hc79 : cc = dd
      · refine go (fun tg kg => XS.icmpNo X78.here hx rfl (hb hby at_114) rfl (teq hc79).2 kg) ?_
        show G (T78.setTop (mkF m 117 #[.val (.int x0), .val (.int x1), .val (.int cc), .val (.int dd), .val (.ref b65), .val (.ref b66), .val (.int (1 : Int32))] [(.int (own_eqv k_PARALLEL k_PARALLEL cc dd))]))
        refine go (fun tg kg => XS.iconst X78.here hx rfl (hb hby at_117) kg) ?_
        show G (T78.setTop (mkF m 118 #[.val (.int x0), .val (.int x1), .val (.int cc), .val (.int dd), .val (.ref b65), .val (.ref b66), .val (.int (1 : Int32))] [(.int (1 : Int32)), (.int (own_eqv k_PARALLEL k_PARALLEL cc dd))]))
        refine go (fun tg kg => XS.goto X78.here hx rfl (pc0 := 118) (pc' := 122) rfl (hb hby at_118) (by decide) (by decide) kg) ?_
        show G (T78.setTop (mkF m 122 #[.val (.int x0), .val (.int x1), .val (.int cc), .val (.int dd), .val (.ref b65), .val (.ref b66), .val (.int (1 : Int32))] [(.int (1 : Int32)), (.int (own_eqv k_PARALLEL k_PARALLEL cc dd))]))
        refine go (fun tg kg => XS.icmpNo X78.here hx rfl (hb hby at_122) rfl (teq (own_e1 hc79)).2 kg) ?_
        show G (T78.setTop (mkF m 125 #[.val (.int x0), .val (.int x1), .val (.int cc), .val (.int dd), .val (.ref b65), .val (.ref b66), .val (.int (1 : Int32))] []))
        refine go (fun tg kg => XS.iconst X78.here hx rfl (hb hby at_125) kg) ?_
        show G (T78.setTop (mkF m 126 #[.val (.int x0), .val (.int x1), .val (.int cc), .val (.int dd), .val (.ref b65), .val (.ref b66), .val (.int (1 : Int32))] [(.int (1 : Int32))]))
        refine go (fun tg kg => XS.goto X78.here hx rfl (pc0 := 126) (pc' := 130) rfl (hb hby at_126) (by decide) (by decide) kg) ?_
        show G (T78.setTop (mkF m 130 #[.val (.int x0), .val (.int x1), .val (.int cc), .val (.int dd), .val (.ref b65), .val (.ref b66), .val (.int (1 : Int32))] [(.int (1 : Int32))]))
        refine go (fun tg kg => XS.istore X78.here hx rfl (hb hby at_130) rfl (l' := #[.val (.int x0), .val (.int x1), .val (.int cc), .val (.int dd), .val (.ref b65), .val (.ref b66), .val (.int (1 : Int32))]) rfl kg) ?_
        show G (T78.setTop (mkF m 132 #[.val (.int x0), .val (.int x1), .val (.int cc), .val (.int dd), .val (.ref b65), .val (.ref b66), .val (.int (1 : Int32))] []))
        refine go (fun tg kg => XS.iload X78.here hx rfl (hb hby at_132) rfl kg) ?_
        show G (T78.setTop (mkF m 134 #[.val (.int x0), .val (.int x1), .val (.int cc), .val (.int dd), .val (.ref b65), .val (.ref b66), .val (.int (1 : Int32))] [(.int (1 : Int32))]))
        refine go (fun tg kg => XS.ifNo X78.here hx rfl (hb hby at_134) rfl ((if0 _ _).trans (feq (by decide)).1) kg) ?_
        show G (T78.setTop (mkF m 137 #[.val (.int x0), .val (.int x1), .val (.int cc), .val (.int dd), .val (.ref b65), .val (.ref b66), .val (.int (1 : Int32))] []))
        refine go (fun tg kg => XS.aload X78.here hx rfl (hb hby at_137) rfl rfl kg) ?_
        show G (T78.setTop (mkF m 139 #[.val (.int x0), .val (.int x1), .val (.int cc), .val (.int dd), .val (.ref b65), .val (.ref b66), .val (.int (1 : Int32))] [(.ref b65)]))
        have Fa81 := (own_sta_keep (own_sta_keep S_u_QUEUE K65 all0) K66 all0)
        obtain ⟨_, _, ⟨T80, L80, k80, n80⟩, -, X80, ⟨Lc80, hQ80, l80, y80, z80⟩, st80⟩ := Jvm.LawKit.callS X78 hx (y := (⟨"com/example/drumline/drumline/model/OverlapPolicy", "queue", "()Lcom/example/drumline/drumline/model/OverlapPolicy;"⟩ : MethodName)) hown (mvT hZ (hw _ (List.mem_of_getElem? (i := 37) rfl))) (mvT hZ (hw _ (List.mem_of_getElem? (i := 38) rfl))) (mvT hZ (hw _ (List.mem_of_getElem? (i := 3) rfl))) (mvT hZ (hw _ (List.mem_of_getElem? (i := 39) rfl))) (by decide) (backOf (W := 1) (rm7 l Z a0 hw [] u_QUEUE T66.heap n0 Z66 Fa81) hZ (hw _ (List.mem_of_getElem? (i := 39) rfl)) (hw _ (List.mem_of_getElem? (i := 3) rfl)) (by decide) (by decide)) (g := (mkF m 139 #[.val (.int x0), .val (.int x1), .val (.int cc), .val (.int dd), .val (.ref b65), .val (.ref b66), .val (.int (1 : Int32))] [(.ref b65)])) rfl (by rw [hml]; rfl) (argsL := []) (rest := [(.ref b65)]) (lenOf pd___Lcom_example_drumline_drumline_model_OverlapPolicy_ rfl) rfl (by show 2 * 0 + _ ≤ _; exact Nat.le_of_eq rfl) (hb hby at_139) (fun _ _ => ⟨rfl, e78, (by decide : 2 + 0 ≤ _), (by decide : 4 + 0 ≤ _)⟩)
        dsimp only [Pt.U, Pt.locs, Pt.cells, Pt.slots] at X80 l80 y80 z80 st80 hQ80
        subst l80 y80 z80
        obtain ⟨rfl, Nq80, e80⟩ := hQ80
        have N80 := Fr.app N78 Nq80
        refine go st80 ?_
        show G (T80.setTop (mkF m 142 #[.val (.int x0), .val (.int x1), .val (.int cc), .val (.int dd), .val (.ref b65), .val (.ref b66), .val (.int (1 : Int32))] [(.ref u_QUEUE), (.ref b65)]))
        have Fa83 := ((E_u_QUEUE.keep K65).keep K66)
        have Fa84 := ((F_u_QUEUE_kind.keep K65 nin0).keep K66 nin0)
        obtain ⟨cq82, kq82, q82a, q82b, q82c⟩ := isOf hZ e80 Fa70
        obtain ⟨_, _, ⟨T82, L82, k82, n82⟩, -, X82, ⟨Lc82, hQ82, l82, y82, z82⟩, st82⟩ := X80.virtualBack hx (y := (⟨"com/example/drumline/drumline/model/OverlapPolicy", "equals", "(Ljava/lang/Object;)Z"⟩ : MethodName)) (z := (⟨"com/example/drumline/drumline/model/OverlapPolicy", "equals", "(Ljava/lang/Object;)Z"⟩ : MethodName)) hown (mvT hZ (hw _ (List.mem_of_getElem? (i := 31) rfl))) (mvT hZ (hw _ (List.mem_of_getElem? (i := 32) rfl))) (notFace_of_selects (args := #[]) (mvT hZ (hw _ (List.mem_of_getElem? (i := 34) rfl)))) (mvT hZ (hw _ (List.mem_of_getElem? (i := 34) rfl))) (mvT hZ (hw _ (List.mem_of_getElem? (i := 33) rfl))) (by decide) (backOf (W := 0) (rm6_0 l Z a0 hw [] b65 u_QUEUE k_PARALLEL k_QUEUE T66.heap n0 Z66 Fa83 Fa69 Fa84 hnk_QUEUE) hZ (hw _ (List.mem_of_getElem? (i := 35) rfl)) (hw _ (List.mem_of_getElem? (i := 3) rfl)) (by decide) (by decide)) q82a q82c (g := (mkF m 142 #[.val (.int x0), .val (.int x1), .val (.int cc), .val (.int dd), .val (.ref b65), .val (.ref b66), .val (.int (1 : Int32))] [(.ref u_QUEUE), (.ref b65)])) rfl (by rw [hml]; rfl) (Steps.refl _) (argsL := [(.ref u_QUEUE)]) (rest := []) (lenOf pd__Ljava_lang_Object__Z rfl) rfl (by show 2 * 0 + _ ≤ _; exact Nat.le_of_eq rfl) (hb hby at_142) (fun _ _ => ⟨rfl, e80, (by decide : 2 + 0 ≤ _), (by decide : 4 + 0 ≤ _)⟩)
        dsimp only [Pt.U, Pt.locs, Pt.cells, Pt.slots] at X82 l82 y82 z82 st82 hQ82
        subst l82 y82 z82
        obtain ⟨rfl, Nq82, e82⟩ := hQ82
        have N82 := Fr.app N80 Nq82
        refine go (fun tg kg => st82.trans kg) ?_
        show G (T82.setTop (mkF m 145 #[.val (.int x0), .val (.int x1), .val (.int cc), .val (.int dd), .val (.ref b65), .val (.ref b66), .val (.int (1 : Int32))] [(.int (0 : Int32))]))
        refine go (fun tg kg => XS.ifNo X82.here hx rfl (hb hby at_145) rfl ((if0 _ _).trans (teq (by decide)).2) kg) ?_
        show G (T82.setTop (mkF m 148 #[.val (.int x0), .val (.int x1), .val (.int cc), .val (.int dd), .val (.ref b65), .val (.ref b66), .val (.int (1 : Int32))] []))
        refine go (fun tg kg => XS.iconst X82.here hx rfl (hb hby at_148) kg) ?_
        show G (T82.setTop (mkF m 149 #[.val (.int x0), .val (.int x1), .val (.int cc), .val (.int dd), .val (.ref b65), .val (.ref b66), .val (.int (1 : Int32))] [(.int (1 : Int32))]))
        refine go (fun tg kg => XS.goto X82.here hx rfl (pc0 := 149) (pc' := 153) rfl (hb hby at_149) (by decide) (by decide) kg) ?_
        show G (T82.setTop (mkF m 153 #[.val (.int x0), .val (.int x1), .val (.int cc), .val (.int dd), .val (.ref b65), .val (.ref b66), .val (.int (1 : Int32))] [(.int (1 : Int32))]))
        refine go (fun tg kg => XS.istore X82.here hx rfl (hb hby at_153) rfl (l' := #[.val (.int x0), .val (.int x1), .val (.int cc), .val (.int dd), .val (.ref b65), .val (.ref b66), .val (.int (1 : Int32))]) rfl kg) ?_
        show G (T82.setTop (mkF m 155 #[.val (.int x0), .val (.int x1), .val (.int cc), .val (.int dd), .val (.ref b65), .val (.ref b66), .val (.int (1 : Int32))] []))
        refine go (fun tg kg => XS.iload X82.here hx rfl (hb hby at_155) rfl kg) ?_
        show G (T82.setTop (mkF m 157 #[.val (.int x0), .val (.int x1), .val (.int cc), .val (.int dd), .val (.ref b65), .val (.ref b66), .val (.int (1 : Int32))] [(.int (1 : Int32))]))
        refine go (fun tg kg => XS.ifNo X82.here hx rfl (hb hby at_157) rfl ((if0 _ _).trans (feq (by decide)).1) kg) ?_
        show G (T82.setTop (mkF m 160 #[.val (.int x0), .val (.int x1), .val (.int cc), .val (.int dd), .val (.ref b65), .val (.ref b66), .val (.int (1 : Int32))] []))
        refine go (fun tg kg => XS.aload X82.here hx rfl (hb hby at_160) rfl rfl kg) ?_
        show G (T82.setTop (mkF m 162 #[.val (.int x0), .val (.int x1), .val (.int cc), .val (.int dd), .val (.ref b65), .val (.ref b66), .val (.int (1 : Int32))] [(.ref b65)]))
        have Fa86 := (own_sta_keep (own_sta_keep S_u_SKIP K65 all0) K66 all0)
        obtain ⟨_, _, ⟨T85, L85, k85, n85⟩, -, X85, ⟨Lc85, hQ85, l85, y85, z85⟩, st85⟩ := Jvm.LawKit.callS X82 hx (y := (⟨"com/example/drumline/drumline/model/OverlapPolicy", "skip", "()Lcom/example/drumline/drumline/model/OverlapPolicy;"⟩ : MethodName)) hown (mvT hZ (hw _ (List.mem_of_getElem? (i := 43) rfl))) (mvT hZ (hw _ (List.mem_of_getElem? (i := 44) rfl))) (mvT hZ (hw _ (List.mem_of_getElem? (i := 3) rfl))) (mvT hZ (hw _ (List.mem_of_getElem? (i := 45) rfl))) (by decide) (backOf (W := 1) (rm8 l Z a0 hw [] u_SKIP T66.heap n0 Z66 Fa86) hZ (hw _ (List.mem_of_getElem? (i := 45) rfl)) (hw _ (List.mem_of_getElem? (i := 3) rfl)) (by decide) (by decide)) (g := (mkF m 162 #[.val (.int x0), .val (.int x1), .val (.int cc), .val (.int dd), .val (.ref b65), .val (.ref b66), .val (.int (1 : Int32))] [(.ref b65)])) rfl (by rw [hml]; rfl) (argsL := []) (rest := [(.ref b65)]) (lenOf pd___Lcom_example_drumline_drumline_model_OverlapPolicy_ rfl) rfl (by show 2 * 0 + _ ≤ _; exact Nat.le_of_eq rfl) (hb hby at_162) (fun _ _ => ⟨rfl, e82, (by decide : 2 + 0 ≤ _), (by decide : 4 + 0 ≤ _)⟩)
        dsimp only [Pt.U, Pt.locs, Pt.cells, Pt.slots] at X85 l85 y85 z85 st85 hQ85
        subst l85 y85 z85
        obtain ⟨rfl, Nq85, e85⟩ := hQ85
        have N85 := Fr.app N82 Nq85
        refine go st85 ?_
        show G (T85.setTop (mkF m 165 #[.val (.int x0), .val (.int x1), .val (.int cc), .val (.int dd), .val (.ref b65), .val (.ref b66), .val (.int (1 : Int32))] [(.ref u_SKIP), (.ref b65)]))
        have Fa88 := ((E_u_SKIP.keep K65).keep K66)
        have Fa89 := ((F_u_SKIP_kind.keep K65 nin0).keep K66 nin0)
        obtain ⟨cq87, kq87, q87a, q87b, q87c⟩ := isOf hZ e85 Fa70
        obtain ⟨_, _, ⟨T87, L87, k87, n87⟩, -, X87, ⟨Lc87, hQ87, l87, y87, z87⟩, st87⟩ := X85.virtualBack hx (y := (⟨"com/example/drumline/drumline/model/OverlapPolicy", "equals", "(Ljava/lang/Object;)Z"⟩ : MethodName)) (z := (⟨"com/example/drumline/drumline/model/OverlapPolicy", "equals", "(Ljava/lang/Object;)Z"⟩ : MethodName)) hown (mvT hZ (hw _ (List.mem_of_getElem? (i := 31) rfl))) (mvT hZ (hw _ (List.mem_of_getElem? (i := 32) rfl))) (notFace_of_selects (args := #[]) (mvT hZ (hw _ (List.mem_of_getElem? (i := 34) rfl)))) (mvT hZ (hw _ (List.mem_of_getElem? (i := 34) rfl))) (mvT hZ (hw _ (List.mem_of_getElem? (i := 33) rfl))) (by decide) (backOf (W := 0) (rm6_0 l Z a0 hw [] b65 u_SKIP k_PARALLEL k_SKIP T66.heap n0 Z66 Fa88 Fa69 Fa89 hnk_SKIP) hZ (hw _ (List.mem_of_getElem? (i := 35) rfl)) (hw _ (List.mem_of_getElem? (i := 3) rfl)) (by decide) (by decide)) q87a q87c (g := (mkF m 165 #[.val (.int x0), .val (.int x1), .val (.int cc), .val (.int dd), .val (.ref b65), .val (.ref b66), .val (.int (1 : Int32))] [(.ref u_SKIP), (.ref b65)])) rfl (by rw [hml]; rfl) (Steps.refl _) (argsL := [(.ref u_SKIP)]) (rest := []) (lenOf pd__Ljava_lang_Object__Z rfl) rfl (by show 2 * 0 + _ ≤ _; exact Nat.le_of_eq rfl) (hb hby at_165) (fun _ _ => ⟨rfl, e85, (by decide : 2 + 0 ≤ _), (by decide : 4 + 0 ≤ _)⟩)
        dsimp only [Pt.U, Pt.locs, Pt.cells, Pt.slots] at X87 l87 y87 z87 st87 hQ87
        subst l87 y87 z87
        obtain ⟨rfl, Nq87, e87⟩ := hQ87
        have N87 := Fr.app N85 Nq87
        refine go (fun tg kg => st87.trans kg) ?_
        show G (T87.setTop (mkF m 168 #[.val (.int x0), .val (.int x1), .val (.int cc), .val (.int dd), .val (.ref b65), .val (.ref b66), .val (.int (1 : Int32))] [(.int (0 : Int32))]))
        refine go (fun tg kg => XS.ifNo X87.here hx rfl (hb hby at_168) rfl ((if0 _ _).trans (teq (by decide)).2) kg) ?_
        show G (T87.setTop (mkF m 171 #[.val (.int x0), .val (.int x1), .val (.int cc), .val (.int dd), .val (.ref b65), .val (.ref b66), .val (.int (1 : Int32))] []))
        refine go (fun tg kg => XS.iconst X87.here hx rfl (hb hby at_171) kg) ?_
        show G (T87.setTop (mkF m 172 #[.val (.int x0), .val (.int x1), .val (.int cc), .val (.int dd), .val (.ref b65), .val (.ref b66), .val (.int (1 : Int32))] [(.int (1 : Int32))]))
        refine go (fun tg kg => XS.goto X87.here hx rfl (pc0 := 172) (pc' := 176) rfl (hb hby at_172) (by decide) (by decide) kg) ?_
        show G (T87.setTop (mkF m 176 #[.val (.int x0), .val (.int x1), .val (.int cc), .val (.int dd), .val (.ref b65), .val (.ref b66), .val (.int (1 : Int32))] [(.int (1 : Int32))]))
        refine go (fun tg kg => XS.istore X87.here hx rfl (hb hby at_176) rfl (l' := #[.val (.int x0), .val (.int x1), .val (.int cc), .val (.int dd), .val (.ref b65), .val (.ref b66), .val (.int (1 : Int32))]) rfl kg) ?_
        show G (T87.setTop (mkF m 178 #[.val (.int x0), .val (.int x1), .val (.int cc), .val (.int dd), .val (.ref b65), .val (.ref b66), .val (.int (1 : Int32))] []))
        refine go (fun tg kg => XS.iload X87.here hx rfl (hb hby at_178) rfl kg) ?_
        show G (T87.setTop (mkF m 180 #[.val (.int x0), .val (.int x1), .val (.int cc), .val (.int dd), .val (.ref b65), .val (.ref b66), .val (.int (1 : Int32))] [(.int (1 : Int32))]))
        refine fin (some (.int (1 : Int32))) X87 (fun h => absurd h (by decide)) (fun fs hr => retN X87 hx (t := .boolean) hret (by simp) (hb hby at_180) hr) (by decide) (by decide) ?_
        rw [e87]
        exact ⟨rfl, N87⟩
      · refine go (fun tg kg => XS.icmpYes X78.here hx rfl (pc0 := 114) (pc' := 121) rfl (hb hby at_114) rfl (feq hc79).2 (by decide) (by decide) kg) ?_
        show G (T78.setTop (mkF m 121 #[.val (.int x0), .val (.int x1), .val (.int cc), .val (.int dd), .val (.ref b65), .val (.ref b66), .val (.int (1 : Int32))] [(.int (own_eqv k_PARALLEL k_PARALLEL cc dd))]))
        refine go (fun tg kg => XS.iconst X78.here hx rfl (hb hby at_121) kg) ?_
        show G (T78.setTop (mkF m 122 #[.val (.int x0), .val (.int x1), .val (.int cc), .val (.int dd), .val (.ref b65), .val (.ref b66), .val (.int (1 : Int32))] [(.int (0 : Int32)), (.int (own_eqv k_PARALLEL k_PARALLEL cc dd))]))
        refine go (fun tg kg => XS.icmpNo X78.here hx rfl (hb hby at_122) rfl (teq (own_e0 hc79)).2 kg) ?_
        show G (T78.setTop (mkF m 125 #[.val (.int x0), .val (.int x1), .val (.int cc), .val (.int dd), .val (.ref b65), .val (.ref b66), .val (.int (1 : Int32))] []))
        refine go (fun tg kg => XS.iconst X78.here hx rfl (hb hby at_125) kg) ?_
        show G (T78.setTop (mkF m 126 #[.val (.int x0), .val (.int x1), .val (.int cc), .val (.int dd), .val (.ref b65), .val (.ref b66), .val (.int (1 : Int32))] [(.int (1 : Int32))]))
        refine go (fun tg kg => XS.goto X78.here hx rfl (pc0 := 126) (pc' := 130) rfl (hb hby at_126) (by decide) (by decide) kg) ?_
        show G (T78.setTop (mkF m 130 #[.val (.int x0), .val (.int x1), .val (.int cc), .val (.int dd), .val (.ref b65), .val (.ref b66), .val (.int (1 : Int32))] [(.int (1 : Int32))]))
        refine go (fun tg kg => XS.istore X78.here hx rfl (hb hby at_130) rfl (l' := #[.val (.int x0), .val (.int x1), .val (.int cc), .val (.int dd), .val (.ref b65), .val (.ref b66), .val (.int (1 : Int32))]) rfl kg) ?_
        show G (T78.setTop (mkF m 132 #[.val (.int x0), .val (.int x1), .val (.int cc), .val (.int dd), .val (.ref b65), .val (.ref b66), .val (.int (1 : Int32))] []))
        refine go (fun tg kg => XS.iload X78.here hx rfl (hb hby at_132) rfl kg) ?_
        show G (T78.setTop (mkF m 134 #[.val (.int x0), .val (.int x1), .val (.int cc), .val (.int dd), .val (.ref b65), .val (.ref b66), .val (.int (1 : Int32))] [(.int (1 : Int32))]))
        refine go (fun tg kg => XS.ifNo X78.here hx rfl (hb hby at_134) rfl ((if0 _ _).trans (feq (by decide)).1) kg) ?_
        show G (T78.setTop (mkF m 137 #[.val (.int x0), .val (.int x1), .val (.int cc), .val (.int dd), .val (.ref b65), .val (.ref b66), .val (.int (1 : Int32))] []))
        refine go (fun tg kg => XS.aload X78.here hx rfl (hb hby at_137) rfl rfl kg) ?_
        show G (T78.setTop (mkF m 139 #[.val (.int x0), .val (.int x1), .val (.int cc), .val (.int dd), .val (.ref b65), .val (.ref b66), .val (.int (1 : Int32))] [(.ref b65)]))
        have Fa91 := (own_sta_keep (own_sta_keep S_u_QUEUE K65 all0) K66 all0)
        obtain ⟨_, _, ⟨T90, L90, k90, n90⟩, -, X90, ⟨Lc90, hQ90, l90, y90, z90⟩, st90⟩ := Jvm.LawKit.callS X78 hx (y := (⟨"com/example/drumline/drumline/model/OverlapPolicy", "queue", "()Lcom/example/drumline/drumline/model/OverlapPolicy;"⟩ : MethodName)) hown (mvT hZ (hw _ (List.mem_of_getElem? (i := 37) rfl))) (mvT hZ (hw _ (List.mem_of_getElem? (i := 38) rfl))) (mvT hZ (hw _ (List.mem_of_getElem? (i := 3) rfl))) (mvT hZ (hw _ (List.mem_of_getElem? (i := 39) rfl))) (by decide) (backOf (W := 1) (rm7 l Z a0 hw [] u_QUEUE T66.heap n0 Z66 Fa91) hZ (hw _ (List.mem_of_getElem? (i := 39) rfl)) (hw _ (List.mem_of_getElem? (i := 3) rfl)) (by decide) (by decide)) (g := (mkF m 139 #[.val (.int x0), .val (.int x1), .val (.int cc), .val (.int dd), .val (.ref b65), .val (.ref b66), .val (.int (1 : Int32))] [(.ref b65)])) rfl (by rw [hml]; rfl) (argsL := []) (rest := [(.ref b65)]) (lenOf pd___Lcom_example_drumline_drumline_model_OverlapPolicy_ rfl) rfl (by show 2 * 0 + _ ≤ _; exact Nat.le_of_eq rfl) (hb hby at_139) (fun _ _ => ⟨rfl, e78, (by decide : 2 + 0 ≤ _), (by decide : 4 + 0 ≤ _)⟩)
        dsimp only [Pt.U, Pt.locs, Pt.cells, Pt.slots] at X90 l90 y90 z90 st90 hQ90
        subst l90 y90 z90
        obtain ⟨rfl, Nq90, e90⟩ := hQ90
        have N90 := Fr.app N78 Nq90
        refine go st90 ?_
        show G (T90.setTop (mkF m 142 #[.val (.int x0), .val (.int x1), .val (.int cc), .val (.int dd), .val (.ref b65), .val (.ref b66), .val (.int (1 : Int32))] [(.ref u_QUEUE), (.ref b65)]))
        have Fa93 := ((E_u_QUEUE.keep K65).keep K66)
        have Fa94 := ((F_u_QUEUE_kind.keep K65 nin0).keep K66 nin0)
        obtain ⟨cq92, kq92, q92a, q92b, q92c⟩ := isOf hZ e90 Fa70
        obtain ⟨_, _, ⟨T92, L92, k92, n92⟩, -, X92, ⟨Lc92, hQ92, l92, y92, z92⟩, st92⟩ := X90.virtualBack hx (y := (⟨"com/example/drumline/drumline/model/OverlapPolicy", "equals", "(Ljava/lang/Object;)Z"⟩ : MethodName)) (z := (⟨"com/example/drumline/drumline/model/OverlapPolicy", "equals", "(Ljava/lang/Object;)Z"⟩ : MethodName)) hown (mvT hZ (hw _ (List.mem_of_getElem? (i := 31) rfl))) (mvT hZ (hw _ (List.mem_of_getElem? (i := 32) rfl))) (notFace_of_selects (args := #[]) (mvT hZ (hw _ (List.mem_of_getElem? (i := 34) rfl)))) (mvT hZ (hw _ (List.mem_of_getElem? (i := 34) rfl))) (mvT hZ (hw _ (List.mem_of_getElem? (i := 33) rfl))) (by decide) (backOf (W := 0) (rm6_0 l Z a0 hw [] b65 u_QUEUE k_PARALLEL k_QUEUE T66.heap n0 Z66 Fa93 Fa69 Fa94 hnk_QUEUE) hZ (hw _ (List.mem_of_getElem? (i := 35) rfl)) (hw _ (List.mem_of_getElem? (i := 3) rfl)) (by decide) (by decide)) q92a q92c (g := (mkF m 142 #[.val (.int x0), .val (.int x1), .val (.int cc), .val (.int dd), .val (.ref b65), .val (.ref b66), .val (.int (1 : Int32))] [(.ref u_QUEUE), (.ref b65)])) rfl (by rw [hml]; rfl) (Steps.refl _) (argsL := [(.ref u_QUEUE)]) (rest := []) (lenOf pd__Ljava_lang_Object__Z rfl) rfl (by show 2 * 0 + _ ≤ _; exact Nat.le_of_eq rfl) (hb hby at_142) (fun _ _ => ⟨rfl, e90, (by decide : 2 + 0 ≤ _), (by decide : 4 + 0 ≤ _)⟩)
        dsimp only [Pt.U, Pt.locs, Pt.cells, Pt.slots] at X92 l92 y92 z92 st92 hQ92
        subst l92 y92 z92
        obtain ⟨rfl, Nq92, e92⟩ := hQ92
        have N92 := Fr.app N90 Nq92
        refine go (fun tg kg => st92.trans kg) ?_
        show G (T92.setTop (mkF m 145 #[.val (.int x0), .val (.int x1), .val (.int cc), .val (.int dd), .val (.ref b65), .val (.ref b66), .val (.int (1 : Int32))] [(.int (0 : Int32))]))
        refine go (fun tg kg => XS.ifNo X92.here hx rfl (hb hby at_145) rfl ((if0 _ _).trans (teq (by decide)).2) kg) ?_
        show G (T92.setTop (mkF m 148 #[.val (.int x0), .val (.int x1), .val (.int cc), .val (.int dd), .val (.ref b65), .val (.ref b66), .val (.int (1 : Int32))] []))
        refine go (fun tg kg => XS.iconst X92.here hx rfl (hb hby at_148) kg) ?_
        show G (T92.setTop (mkF m 149 #[.val (.int x0), .val (.int x1), .val (.int cc), .val (.int dd), .val (.ref b65), .val (.ref b66), .val (.int (1 : Int32))] [(.int (1 : Int32))]))
        refine go (fun tg kg => XS.goto X92.here hx rfl (pc0 := 149) (pc' := 153) rfl (hb hby at_149) (by decide) (by decide) kg) ?_
        show G (T92.setTop (mkF m 153 #[.val (.int x0), .val (.int x1), .val (.int cc), .val (.int dd), .val (.ref b65), .val (.ref b66), .val (.int (1 : Int32))] [(.int (1 : Int32))]))
        refine go (fun tg kg => XS.istore X92.here hx rfl (hb hby at_153) rfl (l' := #[.val (.int x0), .val (.int x1), .val (.int cc), .val (.int dd), .val (.ref b65), .val (.ref b66), .val (.int (1 : Int32))]) rfl kg) ?_
        show G (T92.setTop (mkF m 155 #[.val (.int x0), .val (.int x1), .val (.int cc), .val (.int dd), .val (.ref b65), .val (.ref b66), .val (.int (1 : Int32))] []))
        refine go (fun tg kg => XS.iload X92.here hx rfl (hb hby at_155) rfl kg) ?_
        show G (T92.setTop (mkF m 157 #[.val (.int x0), .val (.int x1), .val (.int cc), .val (.int dd), .val (.ref b65), .val (.ref b66), .val (.int (1 : Int32))] [(.int (1 : Int32))]))
        refine go (fun tg kg => XS.ifNo X92.here hx rfl (hb hby at_157) rfl ((if0 _ _).trans (feq (by decide)).1) kg) ?_
        show G (T92.setTop (mkF m 160 #[.val (.int x0), .val (.int x1), .val (.int cc), .val (.int dd), .val (.ref b65), .val (.ref b66), .val (.int (1 : Int32))] []))
        refine go (fun tg kg => XS.aload X92.here hx rfl (hb hby at_160) rfl rfl kg) ?_
        show G (T92.setTop (mkF m 162 #[.val (.int x0), .val (.int x1), .val (.int cc), .val (.int dd), .val (.ref b65), .val (.ref b66), .val (.int (1 : Int32))] [(.ref b65)]))
        have Fa96 := (own_sta_keep (own_sta_keep S_u_SKIP K65 all0) K66 all0)
        obtain ⟨_, _, ⟨T95, L95, k95, n95⟩, -, X95, ⟨Lc95, hQ95, l95, y95, z95⟩, st95⟩ := Jvm.LawKit.callS X92 hx (y := (⟨"com/example/drumline/drumline/model/OverlapPolicy", "skip", "()Lcom/example/drumline/drumline/model/OverlapPolicy;"⟩ : MethodName)) hown (mvT hZ (hw _ (List.mem_of_getElem? (i := 43) rfl))) (mvT hZ (hw _ (List.mem_of_getElem? (i := 44) rfl))) (mvT hZ (hw _ (List.mem_of_getElem? (i := 3) rfl))) (mvT hZ (hw _ (List.mem_of_getElem? (i := 45) rfl))) (by decide) (backOf (W := 1) (rm8 l Z a0 hw [] u_SKIP T66.heap n0 Z66 Fa96) hZ (hw _ (List.mem_of_getElem? (i := 45) rfl)) (hw _ (List.mem_of_getElem? (i := 3) rfl)) (by decide) (by decide)) (g := (mkF m 162 #[.val (.int x0), .val (.int x1), .val (.int cc), .val (.int dd), .val (.ref b65), .val (.ref b66), .val (.int (1 : Int32))] [(.ref b65)])) rfl (by rw [hml]; rfl) (argsL := []) (rest := [(.ref b65)]) (lenOf pd___Lcom_example_drumline_drumline_model_OverlapPolicy_ rfl) rfl (by show 2 * 0 + _ ≤ _; exact Nat.le_of_eq rfl) (hb hby at_162) (fun _ _ => ⟨rfl, e92, (by decide : 2 + 0 ≤ _), (by decide : 4 + 0 ≤ _)⟩)
        dsimp only [Pt.U, Pt.locs, Pt.cells, Pt.slots] at X95 l95 y95 z95 st95 hQ95
        subst l95 y95 z95
        obtain ⟨rfl, Nq95, e95⟩ := hQ95
        have N95 := Fr.app N92 Nq95
        refine go st95 ?_
        show G (T95.setTop (mkF m 165 #[.val (.int x0), .val (.int x1), .val (.int cc), .val (.int dd), .val (.ref b65), .val (.ref b66), .val (.int (1 : Int32))] [(.ref u_SKIP), (.ref b65)]))
        have Fa98 := ((E_u_SKIP.keep K65).keep K66)
        have Fa99 := ((F_u_SKIP_kind.keep K65 nin0).keep K66 nin0)
        obtain ⟨cq97, kq97, q97a, q97b, q97c⟩ := isOf hZ e95 Fa70
        obtain ⟨_, _, ⟨T97, L97, k97, n97⟩, -, X97, ⟨Lc97, hQ97, l97, y97, z97⟩, st97⟩ := X95.virtualBack hx (y := (⟨"com/example/drumline/drumline/model/OverlapPolicy", "equals", "(Ljava/lang/Object;)Z"⟩ : MethodName)) (z := (⟨"com/example/drumline/drumline/model/OverlapPolicy", "equals", "(Ljava/lang/Object;)Z"⟩ : MethodName)) hown (mvT hZ (hw _ (List.mem_of_getElem? (i := 31) rfl))) (mvT hZ (hw _ (List.mem_of_getElem? (i := 32) rfl))) (notFace_of_selects (args := #[]) (mvT hZ (hw _ (List.mem_of_getElem? (i := 34) rfl)))) (mvT hZ (hw _ (List.mem_of_getElem? (i := 34) rfl))) (mvT hZ (hw _ (List.mem_of_getElem? (i := 33) rfl))) (by decide) (backOf (W := 0) (rm6_0 l Z a0 hw [] b65 u_SKIP k_PARALLEL k_SKIP T66.heap n0 Z66 Fa98 Fa69 Fa99 hnk_SKIP) hZ (hw _ (List.mem_of_getElem? (i := 35) rfl)) (hw _ (List.mem_of_getElem? (i := 3) rfl)) (by decide) (by decide)) q97a q97c (g := (mkF m 165 #[.val (.int x0), .val (.int x1), .val (.int cc), .val (.int dd), .val (.ref b65), .val (.ref b66), .val (.int (1 : Int32))] [(.ref u_SKIP), (.ref b65)])) rfl (by rw [hml]; rfl) (Steps.refl _) (argsL := [(.ref u_SKIP)]) (rest := []) (lenOf pd__Ljava_lang_Object__Z rfl) rfl (by show 2 * 0 + _ ≤ _; exact Nat.le_of_eq rfl) (hb hby at_165) (fun _ _ => ⟨rfl, e95, (by decide : 2 + 0 ≤ _), (by decide : 4 + 0 ≤ _)⟩)
        dsimp only [Pt.U, Pt.locs, Pt.cells, Pt.slots] at X97 l97 y97 z97 st97 hQ97
        subst l97 y97 z97
        obtain ⟨rfl, Nq97, e97⟩ := hQ97
        have N97 := Fr.app N95 Nq97
        refine go (fun tg kg => st97.trans kg) ?_
        show G (T97.setTop (mkF m 168 #[.val (.int x0), .val (.int x1), .val (.int cc), .val (.int dd), .val (.ref b65), .val (.ref b66), .val (.int (1 : Int32))] [(.int (0 : Int32))]))
        refine go (fun tg kg => XS.ifNo X97.here hx rfl (hb hby at_168) rfl ((if0 _ _).trans (teq (by decide)).2) kg) ?_
        show G (T97.setTop (mkF m 171 #[.val (.int x0), .val (.int x1), .val (.int cc), .val (.int dd), .val (.ref b65), .val (.ref b66), .val (.int (1 : Int32))] []))
        refine go (fun tg kg => XS.iconst X97.here hx rfl (hb hby at_171) kg) ?_
        show G (T97.setTop (mkF m 172 #[.val (.int x0), .val (.int x1), .val (.int cc), .val (.int dd), .val (.ref b65), .val (.ref b66), .val (.int (1 : Int32))] [(.int (1 : Int32))]))
        refine go (fun tg kg => XS.goto X97.here hx rfl (pc0 := 172) (pc' := 176) rfl (hb hby at_172) (by decide) (by decide) kg) ?_
        show G (T97.setTop (mkF m 176 #[.val (.int x0), .val (.int x1), .val (.int cc), .val (.int dd), .val (.ref b65), .val (.ref b66), .val (.int (1 : Int32))] [(.int (1 : Int32))]))
        refine go (fun tg kg => XS.istore X97.here hx rfl (hb hby at_176) rfl (l' := #[.val (.int x0), .val (.int x1), .val (.int cc), .val (.int dd), .val (.ref b65), .val (.ref b66), .val (.int (1 : Int32))]) rfl kg) ?_
        show G (T97.setTop (mkF m 178 #[.val (.int x0), .val (.int x1), .val (.int cc), .val (.int dd), .val (.ref b65), .val (.ref b66), .val (.int (1 : Int32))] []))
        refine go (fun tg kg => XS.iload X97.here hx rfl (hb hby at_178) rfl kg) ?_
        show G (T97.setTop (mkF m 180 #[.val (.int x0), .val (.int x1), .val (.int cc), .val (.int dd), .val (.ref b65), .val (.ref b66), .val (.int (1 : Int32))] [(.int (1 : Int32))]))
        refine fin (some (.int (1 : Int32))) X97 (fun h => absurd h (by decide)) (fun fs hr => retN X97 hx (t := .boolean) hret (by simp) (hb hby at_180) hr) (by decide) (by decide) ?_
        rw [e97]
        exact ⟨rfl, N97⟩
    · refine go (fun tg kg => XS.ifNo X0.here hx rfl (hb hby at_14) rfl ((if0 _ _).trans (feq hc63).1) kg) ?_
      show G (s₁.setTop (mkF m 17 #[.val (.int x0), .val (.int x1), .val (.int cc), .unset, .unset, .unset, .unset] []))
      refine go (fun tg kg => XS.iloadN X0.here hx rfl (hb hby at_17) rfl kg) ?_
      show G (s₁.setTop (mkF m 18 #[.val (.int x0), .val (.int x1), .val (.int cc), .unset, .unset, .unset, .unset] [(.int cc)]))
      refine go (fun tg kg => XS.goto X0.here hx rfl (pc0 := 18) (pc' := 28) rfl (hb hby at_18) (by decide) (by decide) kg) ?_
      show G (s₁.setTop (mkF m 28 #[.val (.int x0), .val (.int x1), .val (.int cc), .unset, .unset, .unset, .unset] [(.int cc)]))
      refine go (fun tg kg => XS.istoreN X0.here hx rfl (hb hby at_28) rfl (l' := #[.val (.int x0), .val (.int x1), .val (.int cc), .val (.int cc), .unset, .unset, .unset]) rfl kg) ?_
      show G (s₁.setTop (mkF m 29 #[.val (.int x0), .val (.int x1), .val (.int cc), .val (.int cc), .unset, .unset, .unset] []))
      refine go (fun tg kg => XS.iloadN X0.here hx rfl (hb hby at_29) rfl kg) ?_
      show G (s₁.setTop (mkF m 30 #[.val (.int x0), .val (.int x1), .val (.int cc), .val (.int cc), .unset, .unset, .unset] [(.int cc)]))
      obtain ⟨_, _, ⟨T100, L100, k100, n100⟩, -, X100, ⟨Lc100, hQ100, l100, y100, z100⟩, st100⟩ := Jvm.LawKit.callS X0 hx (y := (⟨"com/example/drumline/drumline/model/OverlapPolicy", "parallel", "(I)Lcom/example/drumline/drumline/model/OverlapPolicy;"⟩ : MethodName)) hown (mvT hZ (hw _ (List.mem_of_getElem? (i := 1) rfl))) (mvT hZ (hw _ (List.mem_of_getElem? (i := 2) rfl))) (mvT hZ (hw _ (List.mem_of_getElem? (i := 3) rfl))) (mvT hZ (hw _ (List.mem_of_getElem? (i := 4) rfl))) (by decide) (backOf (W := 0) (rm1 l Z a0 hw [] cc k_PARALLEL h0 n0 Z0 S_k_PARALLEL gcc) hZ (hw _ (List.mem_of_getElem? (i := 4) rfl)) (hw _ (List.mem_of_getElem? (i := 3) rfl)) (by decide) (by decide)) (g := (mkF m 30 #[.val (.int x0), .val (.int x1), .val (.int cc), .val (.int cc), .unset, .unset, .unset] [(.int cc)])) rfl (by rw [hml]; rfl) (argsL := [(.int cc)]) (rest := []) (lenOf pd__I_Lcom_example_drumline_drumline_model_OverlapPolicy_ rfl) rfl (by show 2 * 0 + _ ≤ _; exact Nat.le_of_eq rfl) (hb hby at_30) (fun _ _ => ⟨rfl, e0, (by decide : 0 + 1 ≤ _), (by decide : 0 + 2 ≤ _)⟩)
      dsimp only [Pt.U, Pt.locs, Pt.cells, Pt.slots] at X100 l100 y100 z100 st100 hQ100
      subst l100 y100 z100
      obtain ⟨b100, rfl, Nq100, K100, sz100, ge_b100, Ge100, Gk100, Gc100⟩ := hQ100
      have Z100 := Nat.le_trans Z0 K100.1
      have N100 := Fr.app N0 Nq100
      refine go st100 ?_
      show G (T100.setTop (mkF m 33 #[.val (.int x0), .val (.int x1), .val (.int cc), .val (.int cc), .unset, .unset, .unset] [(.ref b100)]))
      refine go (fun tg kg => XS.astore X100.here hx rfl (hb hby at_33) rfl rfl (l' := #[.val (.int x0), .val (.int x1), .val (.int cc), .val (.int cc), .val (.ref b100), .unset, .unset]) rfl kg) ?_
      show G (T100.setTop (mkF m 35 #[.val (.int x0), .val (.int x1), .val (.int cc), .val (.int cc), .val (.ref b100), .unset, .unset] []))
      refine go (fun tg kg => XS.iloadN X100.here hx rfl (hb hby at_35) rfl kg) ?_
      show G (T100.setTop (mkF m 36 #[.val (.int x0), .val (.int x1), .val (.int cc), .val (.int cc), .val (.ref b100), .unset, .unset] [(.int cc)]))
      have Fa102 := (own_sta_keep S_k_PARALLEL K100 all0)
      obtain ⟨_, _, ⟨T101, L101, k101, n101⟩, -, X101, ⟨Lc101, hQ101, l101, y101, z101⟩, st101⟩ := Jvm.LawKit.callS X100 hx (y := (⟨"com/example/drumline/drumline/model/OverlapPolicy", "parallel", "(I)Lcom/example/drumline/drumline/model/OverlapPolicy;"⟩ : MethodName)) hown (mvT hZ (hw _ (List.mem_of_getElem? (i := 1) rfl))) (mvT hZ (hw _ (List.mem_of_getElem? (i := 2) rfl))) (mvT hZ (hw _ (List.mem_of_getElem? (i := 3) rfl))) (mvT hZ (hw _ (List.mem_of_getElem? (i := 4) rfl))) (by decide) (backOf (W := 0) (rm1 l Z a0 hw [] cc k_PARALLEL T100.heap n0 Z100 Fa102 gcc) hZ (hw _ (List.mem_of_getElem? (i := 4) rfl)) (hw _ (List.mem_of_getElem? (i := 3) rfl)) (by decide) (by decide)) (g := (mkF m 36 #[.val (.int x0), .val (.int x1), .val (.int cc), .val (.int cc), .val (.ref b100), .unset, .unset] [(.int cc)])) rfl (by rw [hml]; rfl) (argsL := [(.int cc)]) (rest := []) (lenOf pd__I_Lcom_example_drumline_drumline_model_OverlapPolicy_ rfl) rfl (by show 2 * 0 + _ ≤ _; exact Nat.le_of_eq rfl) (hb hby at_36) (fun _ _ => ⟨rfl, rfl, (by decide : 1 + 1 ≤ _), (by decide : 2 + 2 ≤ _)⟩)
      dsimp only [Pt.U, Pt.locs, Pt.cells, Pt.slots] at X101 l101 y101 z101 st101 hQ101
      subst l101 y101 z101
      obtain ⟨b101, rfl, Nq101, K101, sz101, ge_b101, Ge101, Gk101, Gc101⟩ := hQ101
      have Z101 := Nat.le_trans Z100 K101.1
      have N101 := Fr.app N100 Nq101
      refine go st101 ?_
      show G (T101.setTop (mkF m 39 #[.val (.int x0), .val (.int x1), .val (.int cc), .val (.int cc), .val (.ref b100), .unset, .unset] [(.ref b101)]))
      refine go (fun tg kg => XS.astore X101.here hx rfl (hb hby at_39) rfl rfl (l' := #[.val (.int x0), .val (.int x1), .val (.int cc), .val (.int cc), .val (.ref b100), .val (.ref b101), .unset]) rfl kg) ?_
      show G (T101.setTop (mkF m 41 #[.val (.int x0), .val (.int x1), .val (.int cc), .val (.int cc), .val (.ref b100), .val (.ref b101), .unset] []))
      refine go (fun tg kg => XS.aload X101.here hx rfl (hb hby at_41) rfl rfl kg) ?_
      show G (T101.setTop (mkF m 43 #[.val (.int x0), .val (.int x1), .val (.int cc), .val (.int cc), .val (.ref b100), .val (.ref b101), .unset] [(.ref b100)]))
      have Fa104 := (Gk100.keep K101 nin0)
      have Fa105 := (Ge100.keep K101)
      obtain ⟨cq103, kq103, q103a, q103b, q103c⟩ := isOf hZ rfl Fa105
      obtain ⟨_, _, ⟨T103, L103, k103, n103⟩, -, X103, ⟨Lc103, hQ103, l103, y103, z103⟩, st103⟩ := X101.virtualBack hx (y := (⟨"com/example/drumline/drumline/model/OverlapPolicy", "kind", "()Lcom/example/drumline/drumline/model/OverlapPolicy$Kind;"⟩ : MethodName)) (z := (⟨"com/example/drumline/drumline/model/OverlapPolicy", "kind", "()Lcom/example/drumline/drumline/model/OverlapPolicy$Kind;"⟩ : MethodName)) hown (mvT hZ (hw _ (List.mem_of_getElem? (i := 20) rfl))) (mvT hZ (hw _ (List.mem_of_getElem? (i := 21) rfl))) (notFace_of_selects (args := #[]) (mvT hZ (hw _ (List.mem_of_getElem? (i := 23) rfl)))) (mvT hZ (hw _ (List.mem_of_getElem? (i := 23) rfl))) (mvT hZ (hw _ (List.mem_of_getElem? (i := 22) rfl))) (by decide) (backOf (W := 0) (rm4 l Z a0 hw [] b100 k_PARALLEL T101.heap n0 Z101 Fa104) hZ (hw _ (List.mem_of_getElem? (i := 24) rfl)) (hw _ (List.mem_of_getElem? (i := 3) rfl)) (by decide) (by decide)) q103a q103c (g := (mkF m 43 #[.val (.int x0), .val (.int x1), .val (.int cc), .val (.int cc), .val (.ref b100), .val (.ref b101), .unset] [(.ref b100)])) rfl (by rw [hml]; rfl) (Steps.refl _) (argsL := []) (rest := []) (lenOf pd___Lcom_example_drumline_drumline_model_OverlapPolicy_Kind_ rfl) rfl (by show 2 * 0 + _ ≤ _; exact Nat.le_of_eq rfl) (hb hby at_43) (fun _ _ => ⟨rfl, rfl, (by decide : 2 + 0 ≤ _), (by decide : 4 + 0 ≤ _)⟩)
      dsimp only [Pt.U, Pt.locs, Pt.cells, Pt.slots] at X103 l103 y103 z103 st103 hQ103
      subst l103 y103 z103
      obtain ⟨rfl, Nq103, e103⟩ := hQ103
      have N103 := Fr.app N101 Nq103
      refine go (fun tg kg => st103.trans kg) ?_
      show G (T103.setTop (mkF m 46 #[.val (.int x0), .val (.int x1), .val (.int cc), .val (.int cc), .val (.ref b100), .val (.ref b101), .unset] [(.ref k_PARALLEL)]))
      have Fa106 := (own_sta_keep Fa102 K101 all0)
      obtain ⟨T107, X107, e107, st107⟩ := getS2 X103 hx hZ hown (host := "") (Or.inl (hw _ (List.mem_of_getElem? (i := 25) rfl))) Via.refl e103 Fa106 (g := (mkF m 46 #[.val (.int x0), .val (.int x1), .val (.int cc), .val (.int cc), .val (.ref b100), .val (.ref b101), .unset] [(.ref k_PARALLEL)])) rfl (hb hby at_46)
      refine go st107 ?_
      show G (T107.setTop (mkF m 49 #[.val (.int x0), .val (.int x1), .val (.int cc), .val (.int cc), .val (.ref b100), .val (.ref b101), .unset] [(.ref k_PARALLEL), (.ref k_PARALLEL)]))
      refine go (fun tg kg => Jvm.RoadKit.acmp (g := (mkF m 49 #[.val (.int x0), .val (.int x1), .val (.int cc), .val (.int cc), .val (.ref b100), .val (.ref b101), .unset] [(.ref k_PARALLEL), (.ref k_PARALLEL)])) X107 hx rfl rfl rfl (pc0 := 49) (pc' := 52) (same := true) rfl (hb hby at_49) rfl (decide_eq_true rfl) (by decide) (by decide) kg) ?_
      show G (T107.setTop (mkF m 52 #[.val (.int x0), .val (.int x1), .val (.int cc), .val (.int cc), .val (.ref b100), .val (.ref b101), .unset] []))
      refine go (fun tg kg => XS.aload X107.here hx rfl (hb hby at_52) rfl rfl kg) ?_
      show G (T107.setTop (mkF m 54 #[.val (.int x0), .val (.int x1), .val (.int cc), .val (.int cc), .val (.ref b100), .val (.ref b101), .unset] [(.ref b100)]))
      have Fa109 := (Gc100.keep K101 nin0)
      obtain ⟨cq108, kq108, q108a, q108b, q108c⟩ := isOf hZ e107 Fa105
      obtain ⟨_, _, ⟨T108, L108, k108, n108⟩, -, X108, ⟨Lc108, hQ108, l108, y108, z108⟩, st108⟩ := X107.virtualBack hx (y := (⟨"com/example/drumline/drumline/model/OverlapPolicy", "cap", "()I"⟩ : MethodName)) (z := (⟨"com/example/drumline/drumline/model/OverlapPolicy", "cap", "()I"⟩ : MethodName)) hown (mvT hZ (hw _ (List.mem_of_getElem? (i := 26) rfl))) (mvT hZ (hw _ (List.mem_of_getElem? (i := 27) rfl))) (notFace_of_selects (args := #[]) (mvT hZ (hw _ (List.mem_of_getElem? (i := 29) rfl)))) (mvT hZ (hw _ (List.mem_of_getElem? (i := 29) rfl))) (mvT hZ (hw _ (List.mem_of_getElem? (i := 28) rfl))) (by decide) (backOf (W := 0) (rm5 l Z a0 hw [] b100 cc T101.heap n0 Z101 Fa109) hZ (hw _ (List.mem_of_getElem? (i := 30) rfl)) (hw _ (List.mem_of_getElem? (i := 3) rfl)) (by decide) (by decide)) q108a q108c (g := (mkF m 54 #[.val (.int x0), .val (.int x1), .val (.int cc), .val (.int cc), .val (.ref b100), .val (.ref b101), .unset] [(.ref b100)])) rfl (by rw [hml]; rfl) (Steps.refl _) (argsL := []) (rest := []) (lenOf pd___I rfl) rfl (by show 2 * 0 + _ ≤ _; exact Nat.le_of_eq rfl) (hb hby at_54) (fun _ _ => ⟨rfl, e107, (by decide : 2 + 0 ≤ _), (by decide : 4 + 0 ≤ _)⟩)
      dsimp only [Pt.U, Pt.locs, Pt.cells, Pt.slots] at X108 l108 y108 z108 st108 hQ108
      subst l108 y108 z108
      obtain ⟨rfl, Nq108, e108⟩ := hQ108
      have N108 := Fr.app N103 Nq108
      refine go (fun tg kg => st108.trans kg) ?_
      show G (T108.setTop (mkF m 57 #[.val (.int x0), .val (.int x1), .val (.int cc), .val (.int cc), .val (.ref b100), .val (.ref b101), .unset] [(.int cc)]))
      refine go (fun tg kg => XS.iloadN X108.here hx rfl (hb hby at_57) rfl kg) ?_
      show G (T108.setTop (mkF m 58 #[.val (.int x0), .val (.int x1), .val (.int cc), .val (.int cc), .val (.ref b100), .val (.ref b101), .unset] [(.int cc), (.int cc)]))
      refine go (fun tg kg => XS.icmpNo X108.here hx rfl (hb hby at_58) rfl (teq (rfl : cc = cc)).2 kg) ?_
      show G (T108.setTop (mkF m 61 #[.val (.int x0), .val (.int x1), .val (.int cc), .val (.int cc), .val (.ref b100), .val (.ref b101), .unset] []))
      refine go (fun tg kg => XS.iconst X108.here hx rfl (hb hby at_61) kg) ?_
      show G (T108.setTop (mkF m 62 #[.val (.int x0), .val (.int x1), .val (.int cc), .val (.int cc), .val (.ref b100), .val (.ref b101), .unset] [(.int (1 : Int32))]))
      refine go (fun tg kg => XS.goto X108.here hx rfl (pc0 := 62) (pc' := 66) rfl (hb hby at_62) (by decide) (by decide) kg) ?_
      show G (T108.setTop (mkF m 66 #[.val (.int x0), .val (.int x1), .val (.int cc), .val (.int cc), .val (.ref b100), .val (.ref b101), .unset] [(.int (1 : Int32))]))
      refine go (fun tg kg => XS.istore X108.here hx rfl (hb hby at_66) rfl (l' := #[.val (.int x0), .val (.int x1), .val (.int cc), .val (.int cc), .val (.ref b100), .val (.ref b101), .val (.int (1 : Int32))]) rfl kg) ?_
      show G (T108.setTop (mkF m 68 #[.val (.int x0), .val (.int x1), .val (.int cc), .val (.int cc), .val (.ref b100), .val (.ref b101), .val (.int (1 : Int32))] []))
      refine go (fun tg kg => XS.iload X108.here hx rfl (hb hby at_68) rfl kg) ?_
      show G (T108.setTop (mkF m 70 #[.val (.int x0), .val (.int x1), .val (.int cc), .val (.int cc), .val (.ref b100), .val (.ref b101), .val (.int (1 : Int32))] [(.int (1 : Int32))]))
      refine go (fun tg kg => XS.ifNo X108.here hx rfl (hb hby at_70) rfl ((if0 _ _).trans (feq (by decide)).1) kg) ?_
      show G (T108.setTop (mkF m 73 #[.val (.int x0), .val (.int x1), .val (.int cc), .val (.int cc), .val (.ref b100), .val (.ref b101), .val (.int (1 : Int32))] []))
      refine go (fun tg kg => XS.aload X108.here hx rfl (hb hby at_73) rfl rfl kg) ?_
      show G (T108.setTop (mkF m 75 #[.val (.int x0), .val (.int x1), .val (.int cc), .val (.int cc), .val (.ref b100), .val (.ref b101), .val (.int (1 : Int32))] [(.ref b101)]))
      obtain ⟨cq110, kq110, q110a, q110b, q110c⟩ := isOf hZ e108 Ge101
      obtain ⟨_, _, ⟨T110, L110, k110, n110⟩, -, X110, ⟨Lc110, hQ110, l110, y110, z110⟩, st110⟩ := X108.virtualBack hx (y := (⟨"com/example/drumline/drumline/model/OverlapPolicy", "kind", "()Lcom/example/drumline/drumline/model/OverlapPolicy$Kind;"⟩ : MethodName)) (z := (⟨"com/example/drumline/drumline/model/OverlapPolicy", "kind", "()Lcom/example/drumline/drumline/model/OverlapPolicy$Kind;"⟩ : MethodName)) hown (mvT hZ (hw _ (List.mem_of_getElem? (i := 20) rfl))) (mvT hZ (hw _ (List.mem_of_getElem? (i := 21) rfl))) (notFace_of_selects (args := #[]) (mvT hZ (hw _ (List.mem_of_getElem? (i := 23) rfl)))) (mvT hZ (hw _ (List.mem_of_getElem? (i := 23) rfl))) (mvT hZ (hw _ (List.mem_of_getElem? (i := 22) rfl))) (by decide) (backOf (W := 0) (rm4 l Z a0 hw [] b101 k_PARALLEL T101.heap n0 Z101 Gk101) hZ (hw _ (List.mem_of_getElem? (i := 24) rfl)) (hw _ (List.mem_of_getElem? (i := 3) rfl)) (by decide) (by decide)) q110a q110c (g := (mkF m 75 #[.val (.int x0), .val (.int x1), .val (.int cc), .val (.int cc), .val (.ref b100), .val (.ref b101), .val (.int (1 : Int32))] [(.ref b101)])) rfl (by rw [hml]; rfl) (Steps.refl _) (argsL := []) (rest := []) (lenOf pd___Lcom_example_drumline_drumline_model_OverlapPolicy_Kind_ rfl) rfl (by show 2 * 0 + _ ≤ _; exact Nat.le_of_eq rfl) (hb hby at_75) (fun _ _ => ⟨rfl, e108, (by decide : 2 + 0 ≤ _), (by decide : 4 + 0 ≤ _)⟩)
      dsimp only [Pt.U, Pt.locs, Pt.cells, Pt.slots] at X110 l110 y110 z110 st110 hQ110
      subst l110 y110 z110
      obtain ⟨rfl, Nq110, e110⟩ := hQ110
      have N110 := Fr.app N108 Nq110
      refine go (fun tg kg => st110.trans kg) ?_
      show G (T110.setTop (mkF m 78 #[.val (.int x0), .val (.int x1), .val (.int cc), .val (.int cc), .val (.ref b100), .val (.ref b101), .val (.int (1 : Int32))] [(.ref k_PARALLEL)]))
      obtain ⟨T111, X111, e111, st111⟩ := getS2 X110 hx hZ hown (host := "") (Or.inl (hw _ (List.mem_of_getElem? (i := 25) rfl))) Via.refl e110 Fa106 (g := (mkF m 78 #[.val (.int x0), .val (.int x1), .val (.int cc), .val (.int cc), .val (.ref b100), .val (.ref b101), .val (.int (1 : Int32))] [(.ref k_PARALLEL)])) rfl (hb hby at_78)
      refine go st111 ?_
      show G (T111.setTop (mkF m 81 #[.val (.int x0), .val (.int x1), .val (.int cc), .val (.int cc), .val (.ref b100), .val (.ref b101), .val (.int (1 : Int32))] [(.ref k_PARALLEL), (.ref k_PARALLEL)]))
      refine go (fun tg kg => Jvm.RoadKit.acmp (g := (mkF m 81 #[.val (.int x0), .val (.int x1), .val (.int cc), .val (.int cc), .val (.ref b100), .val (.ref b101), .val (.int (1 : Int32))] [(.ref k_PARALLEL), (.ref k_PARALLEL)])) X111 hx rfl rfl rfl (pc0 := 81) (pc' := 84) (same := true) rfl (hb hby at_81) rfl (decide_eq_true rfl) (by decide) (by decide) kg) ?_
      show G (T111.setTop (mkF m 84 #[.val (.int x0), .val (.int x1), .val (.int cc), .val (.int cc), .val (.ref b100), .val (.ref b101), .val (.int (1 : Int32))] []))
      refine go (fun tg kg => XS.aload X111.here hx rfl (hb hby at_84) rfl rfl kg) ?_
      show G (T111.setTop (mkF m 86 #[.val (.int x0), .val (.int x1), .val (.int cc), .val (.int cc), .val (.ref b100), .val (.ref b101), .val (.int (1 : Int32))] [(.ref b101)]))
      obtain ⟨cq112, kq112, q112a, q112b, q112c⟩ := isOf hZ e111 Ge101
      obtain ⟨_, _, ⟨T112, L112, k112, n112⟩, -, X112, ⟨Lc112, hQ112, l112, y112, z112⟩, st112⟩ := X111.virtualBack hx (y := (⟨"com/example/drumline/drumline/model/OverlapPolicy", "cap", "()I"⟩ : MethodName)) (z := (⟨"com/example/drumline/drumline/model/OverlapPolicy", "cap", "()I"⟩ : MethodName)) hown (mvT hZ (hw _ (List.mem_of_getElem? (i := 26) rfl))) (mvT hZ (hw _ (List.mem_of_getElem? (i := 27) rfl))) (notFace_of_selects (args := #[]) (mvT hZ (hw _ (List.mem_of_getElem? (i := 29) rfl)))) (mvT hZ (hw _ (List.mem_of_getElem? (i := 29) rfl))) (mvT hZ (hw _ (List.mem_of_getElem? (i := 28) rfl))) (by decide) (backOf (W := 0) (rm5 l Z a0 hw [] b101 cc T101.heap n0 Z101 Gc101) hZ (hw _ (List.mem_of_getElem? (i := 30) rfl)) (hw _ (List.mem_of_getElem? (i := 3) rfl)) (by decide) (by decide)) q112a q112c (g := (mkF m 86 #[.val (.int x0), .val (.int x1), .val (.int cc), .val (.int cc), .val (.ref b100), .val (.ref b101), .val (.int (1 : Int32))] [(.ref b101)])) rfl (by rw [hml]; rfl) (Steps.refl _) (argsL := []) (rest := []) (lenOf pd___I rfl) rfl (by show 2 * 0 + _ ≤ _; exact Nat.le_of_eq rfl) (hb hby at_86) (fun _ _ => ⟨rfl, e111, (by decide : 2 + 0 ≤ _), (by decide : 4 + 0 ≤ _)⟩)
      dsimp only [Pt.U, Pt.locs, Pt.cells, Pt.slots] at X112 l112 y112 z112 st112 hQ112
      subst l112 y112 z112
      obtain ⟨rfl, Nq112, e112⟩ := hQ112
      have N112 := Fr.app N110 Nq112
      refine go (fun tg kg => st112.trans kg) ?_
      show G (T112.setTop (mkF m 89 #[.val (.int x0), .val (.int x1), .val (.int cc), .val (.int cc), .val (.ref b100), .val (.ref b101), .val (.int (1 : Int32))] [(.int cc)]))
      refine go (fun tg kg => XS.iloadN X112.here hx rfl (hb hby at_89) rfl kg) ?_
      show G (T112.setTop (mkF m 90 #[.val (.int x0), .val (.int x1), .val (.int cc), .val (.int cc), .val (.ref b100), .val (.ref b101), .val (.int (1 : Int32))] [(.int cc), (.int cc)]))
      refine go (fun tg kg => XS.icmpNo X112.here hx rfl (hb hby at_90) rfl (teq (rfl : cc = cc)).2 kg) ?_
      show G (T112.setTop (mkF m 93 #[.val (.int x0), .val (.int x1), .val (.int cc), .val (.int cc), .val (.ref b100), .val (.ref b101), .val (.int (1 : Int32))] []))
      refine go (fun tg kg => XS.iconst X112.here hx rfl (hb hby at_93) kg) ?_
      show G (T112.setTop (mkF m 94 #[.val (.int x0), .val (.int x1), .val (.int cc), .val (.int cc), .val (.ref b100), .val (.ref b101), .val (.int (1 : Int32))] [(.int (1 : Int32))]))
      refine go (fun tg kg => XS.goto X112.here hx rfl (pc0 := 94) (pc' := 98) rfl (hb hby at_94) (by decide) (by decide) kg) ?_
      show G (T112.setTop (mkF m 98 #[.val (.int x0), .val (.int x1), .val (.int cc), .val (.int cc), .val (.ref b100), .val (.ref b101), .val (.int (1 : Int32))] [(.int (1 : Int32))]))
      refine go (fun tg kg => XS.istore X112.here hx rfl (hb hby at_98) rfl (l' := #[.val (.int x0), .val (.int x1), .val (.int cc), .val (.int cc), .val (.ref b100), .val (.ref b101), .val (.int (1 : Int32))]) rfl kg) ?_
      show G (T112.setTop (mkF m 100 #[.val (.int x0), .val (.int x1), .val (.int cc), .val (.int cc), .val (.ref b100), .val (.ref b101), .val (.int (1 : Int32))] []))
      refine go (fun tg kg => XS.iload X112.here hx rfl (hb hby at_100) rfl kg) ?_
      show G (T112.setTop (mkF m 102 #[.val (.int x0), .val (.int x1), .val (.int cc), .val (.int cc), .val (.ref b100), .val (.ref b101), .val (.int (1 : Int32))] [(.int (1 : Int32))]))
      refine go (fun tg kg => XS.ifNo X112.here hx rfl (hb hby at_102) rfl ((if0 _ _).trans (feq (by decide)).1) kg) ?_
      show G (T112.setTop (mkF m 105 #[.val (.int x0), .val (.int x1), .val (.int cc), .val (.int cc), .val (.ref b100), .val (.ref b101), .val (.int (1 : Int32))] []))
      refine go (fun tg kg => XS.aload X112.here hx rfl (hb hby at_105) rfl rfl kg) ?_
      show G (T112.setTop (mkF m 107 #[.val (.int x0), .val (.int x1), .val (.int cc), .val (.int cc), .val (.ref b100), .val (.ref b101), .val (.int (1 : Int32))] [(.ref b100)]))
      refine go (fun tg kg => XS.aload X112.here hx rfl (hb hby at_107) rfl rfl kg) ?_
      show G (T112.setTop (mkF m 109 #[.val (.int x0), .val (.int x1), .val (.int cc), .val (.int cc), .val (.ref b100), .val (.ref b101), .val (.int (1 : Int32))] [(.ref b101), (.ref b100)]))
      obtain ⟨cq113, kq113, q113a, q113b, q113c⟩ := isOf hZ e112 Fa105
      obtain ⟨_, _, ⟨T113, L113, k113, n113⟩, -, X113, ⟨Lc113, hQ113, l113, y113, z113⟩, st113⟩ := X112.virtualBack hx (y := (⟨"com/example/drumline/drumline/model/OverlapPolicy", "equals", "(Ljava/lang/Object;)Z"⟩ : MethodName)) (z := (⟨"com/example/drumline/drumline/model/OverlapPolicy", "equals", "(Ljava/lang/Object;)Z"⟩ : MethodName)) hown (mvT hZ (hw _ (List.mem_of_getElem? (i := 31) rfl))) (mvT hZ (hw _ (List.mem_of_getElem? (i := 32) rfl))) (notFace_of_selects (args := #[]) (mvT hZ (hw _ (List.mem_of_getElem? (i := 34) rfl)))) (mvT hZ (hw _ (List.mem_of_getElem? (i := 34) rfl))) (mvT hZ (hw _ (List.mem_of_getElem? (i := 33) rfl))) (by decide) (backOf (W := 0) (rm6_1 l Z a0 hw [] b100 b101 k_PARALLEL cc cc T101.heap n0 Z101 Ge101 Fa104 Gk101 Fa109 Gc101) hZ (hw _ (List.mem_of_getElem? (i := 35) rfl)) (hw _ (List.mem_of_getElem? (i := 3) rfl)) (by decide) (by decide)) q113a q113c (g := (mkF m 109 #[.val (.int x0), .val (.int x1), .val (.int cc), .val (.int cc), .val (.ref b100), .val (.ref b101), .val (.int (1 : Int32))] [(.ref b101), (.ref b100)])) rfl (by rw [hml]; rfl) (Steps.refl _) (argsL := [(.ref b101)]) (rest := []) (lenOf pd__Ljava_lang_Object__Z rfl) rfl (by show 2 * 0 + _ ≤ _; exact Nat.le_of_eq rfl) (hb hby at_109) (fun _ _ => ⟨rfl, e112, (by decide : 2 + 0 ≤ _), (by decide : 4 + 0 ≤ _)⟩)
      dsimp only [Pt.U, Pt.locs, Pt.cells, Pt.slots] at X113 l113 y113 z113 st113 hQ113
      subst l113 y113 z113
      obtain ⟨rfl, Nq113, e113⟩ := hQ113
      have N113 := Fr.app N112 Nq113
      refine go (fun tg kg => st113.trans kg) ?_
      show G (T113.setTop (mkF m 112 #[.val (.int x0), .val (.int x1), .val (.int cc), .val (.int cc), .val (.ref b100), .val (.ref b101), .val (.int (1 : Int32))] [(.int (own_eqv k_PARALLEL k_PARALLEL cc cc))]))
      refine go (fun tg kg => XS.iloadN X113.here hx rfl (hb hby at_112) rfl kg) ?_
      show G (T113.setTop (mkF m 113 #[.val (.int x0), .val (.int x1), .val (.int cc), .val (.int cc), .val (.ref b100), .val (.ref b101), .val (.int (1 : Int32))] [(.int cc), (.int (own_eqv k_PARALLEL k_PARALLEL cc cc))]))
      refine go (fun tg kg => XS.iloadN X113.here hx rfl (hb hby at_113) rfl kg) ?_
      show G (T113.setTop (mkF m 114 #[.val (.int x0), .val (.int x1), .val (.int cc), .val (.int cc), .val (.ref b100), .val (.ref b101), .val (.int (1 : Int32))] [(.int cc), (.int cc), (.int (own_eqv k_PARALLEL k_PARALLEL cc cc))]))
      refine go (fun tg kg => XS.icmpNo X113.here hx rfl (hb hby at_114) rfl (teq (rfl : cc = cc)).2 kg) ?_
      show G (T113.setTop (mkF m 117 #[.val (.int x0), .val (.int x1), .val (.int cc), .val (.int cc), .val (.ref b100), .val (.ref b101), .val (.int (1 : Int32))] [(.int (own_eqv k_PARALLEL k_PARALLEL cc cc))]))
      refine go (fun tg kg => XS.iconst X113.here hx rfl (hb hby at_117) kg) ?_
      show G (T113.setTop (mkF m 118 #[.val (.int x0), .val (.int x1), .val (.int cc), .val (.int cc), .val (.ref b100), .val (.ref b101), .val (.int (1 : Int32))] [(.int (1 : Int32)), (.int (own_eqv k_PARALLEL k_PARALLEL cc cc))]))
      refine go (fun tg kg => XS.goto X113.here hx rfl (pc0 := 118) (pc' := 122) rfl (hb hby at_118) (by decide) (by decide) kg) ?_
      show G (T113.setTop (mkF m 122 #[.val (.int x0), .val (.int x1), .val (.int cc), .val (.int cc), .val (.ref b100), .val (.ref b101), .val (.int (1 : Int32))] [(.int (1 : Int32)), (.int (own_eqv k_PARALLEL k_PARALLEL cc cc))]))
      refine go (fun tg kg => XS.icmpNo X113.here hx rfl (hb hby at_122) rfl (teq (own_e1 rfl)).2 kg) ?_
      show G (T113.setTop (mkF m 125 #[.val (.int x0), .val (.int x1), .val (.int cc), .val (.int cc), .val (.ref b100), .val (.ref b101), .val (.int (1 : Int32))] []))
      refine go (fun tg kg => XS.iconst X113.here hx rfl (hb hby at_125) kg) ?_
      show G (T113.setTop (mkF m 126 #[.val (.int x0), .val (.int x1), .val (.int cc), .val (.int cc), .val (.ref b100), .val (.ref b101), .val (.int (1 : Int32))] [(.int (1 : Int32))]))
      refine go (fun tg kg => XS.goto X113.here hx rfl (pc0 := 126) (pc' := 130) rfl (hb hby at_126) (by decide) (by decide) kg) ?_
      show G (T113.setTop (mkF m 130 #[.val (.int x0), .val (.int x1), .val (.int cc), .val (.int cc), .val (.ref b100), .val (.ref b101), .val (.int (1 : Int32))] [(.int (1 : Int32))]))
      refine go (fun tg kg => XS.istore X113.here hx rfl (hb hby at_130) rfl (l' := #[.val (.int x0), .val (.int x1), .val (.int cc), .val (.int cc), .val (.ref b100), .val (.ref b101), .val (.int (1 : Int32))]) rfl kg) ?_
      show G (T113.setTop (mkF m 132 #[.val (.int x0), .val (.int x1), .val (.int cc), .val (.int cc), .val (.ref b100), .val (.ref b101), .val (.int (1 : Int32))] []))
      refine go (fun tg kg => XS.iload X113.here hx rfl (hb hby at_132) rfl kg) ?_
      show G (T113.setTop (mkF m 134 #[.val (.int x0), .val (.int x1), .val (.int cc), .val (.int cc), .val (.ref b100), .val (.ref b101), .val (.int (1 : Int32))] [(.int (1 : Int32))]))
      refine go (fun tg kg => XS.ifNo X113.here hx rfl (hb hby at_134) rfl ((if0 _ _).trans (feq (by decide)).1) kg) ?_
      show G (T113.setTop (mkF m 137 #[.val (.int x0), .val (.int x1), .val (.int cc), .val (.int cc), .val (.ref b100), .val (.ref b101), .val (.int (1 : Int32))] []))
      refine go (fun tg kg => XS.aload X113.here hx rfl (hb hby at_137) rfl rfl kg) ?_
      show G (T113.setTop (mkF m 139 #[.val (.int x0), .val (.int x1), .val (.int cc), .val (.int cc), .val (.ref b100), .val (.ref b101), .val (.int (1 : Int32))] [(.ref b100)]))
      have Fa115 := (own_sta_keep (own_sta_keep S_u_QUEUE K100 all0) K101 all0)
      obtain ⟨_, _, ⟨T114, L114, k114, n114⟩, -, X114, ⟨Lc114, hQ114, l114, y114, z114⟩, st114⟩ := Jvm.LawKit.callS X113 hx (y := (⟨"com/example/drumline/drumline/model/OverlapPolicy", "queue", "()Lcom/example/drumline/drumline/model/OverlapPolicy;"⟩ : MethodName)) hown (mvT hZ (hw _ (List.mem_of_getElem? (i := 37) rfl))) (mvT hZ (hw _ (List.mem_of_getElem? (i := 38) rfl))) (mvT hZ (hw _ (List.mem_of_getElem? (i := 3) rfl))) (mvT hZ (hw _ (List.mem_of_getElem? (i := 39) rfl))) (by decide) (backOf (W := 1) (rm7 l Z a0 hw [] u_QUEUE T101.heap n0 Z101 Fa115) hZ (hw _ (List.mem_of_getElem? (i := 39) rfl)) (hw _ (List.mem_of_getElem? (i := 3) rfl)) (by decide) (by decide)) (g := (mkF m 139 #[.val (.int x0), .val (.int x1), .val (.int cc), .val (.int cc), .val (.ref b100), .val (.ref b101), .val (.int (1 : Int32))] [(.ref b100)])) rfl (by rw [hml]; rfl) (argsL := []) (rest := [(.ref b100)]) (lenOf pd___Lcom_example_drumline_drumline_model_OverlapPolicy_ rfl) rfl (by show 2 * 0 + _ ≤ _; exact Nat.le_of_eq rfl) (hb hby at_139) (fun _ _ => ⟨rfl, e113, (by decide : 2 + 0 ≤ _), (by decide : 4 + 0 ≤ _)⟩)
      dsimp only [Pt.U, Pt.locs, Pt.cells, Pt.slots] at X114 l114 y114 z114 st114 hQ114
      subst l114 y114 z114
      obtain ⟨rfl, Nq114, e114⟩ := hQ114
      have N114 := Fr.app N113 Nq114
      refine go st114 ?_
      show G (T114.setTop (mkF m 142 #[.val (.int x0), .val (.int x1), .val (.int cc), .val (.int cc), .val (.ref b100), .val (.ref b101), .val (.int (1 : Int32))] [(.ref u_QUEUE), (.ref b100)]))
      have Fa117 := ((E_u_QUEUE.keep K100).keep K101)
      have Fa118 := ((F_u_QUEUE_kind.keep K100 nin0).keep K101 nin0)
      obtain ⟨cq116, kq116, q116a, q116b, q116c⟩ := isOf hZ e114 Fa105
      obtain ⟨_, _, ⟨T116, L116, k116, n116⟩, -, X116, ⟨Lc116, hQ116, l116, y116, z116⟩, st116⟩ := X114.virtualBack hx (y := (⟨"com/example/drumline/drumline/model/OverlapPolicy", "equals", "(Ljava/lang/Object;)Z"⟩ : MethodName)) (z := (⟨"com/example/drumline/drumline/model/OverlapPolicy", "equals", "(Ljava/lang/Object;)Z"⟩ : MethodName)) hown (mvT hZ (hw _ (List.mem_of_getElem? (i := 31) rfl))) (mvT hZ (hw _ (List.mem_of_getElem? (i := 32) rfl))) (notFace_of_selects (args := #[]) (mvT hZ (hw _ (List.mem_of_getElem? (i := 34) rfl)))) (mvT hZ (hw _ (List.mem_of_getElem? (i := 34) rfl))) (mvT hZ (hw _ (List.mem_of_getElem? (i := 33) rfl))) (by decide) (backOf (W := 0) (rm6_0 l Z a0 hw [] b100 u_QUEUE k_PARALLEL k_QUEUE T101.heap n0 Z101 Fa117 Fa104 Fa118 hnk_QUEUE) hZ (hw _ (List.mem_of_getElem? (i := 35) rfl)) (hw _ (List.mem_of_getElem? (i := 3) rfl)) (by decide) (by decide)) q116a q116c (g := (mkF m 142 #[.val (.int x0), .val (.int x1), .val (.int cc), .val (.int cc), .val (.ref b100), .val (.ref b101), .val (.int (1 : Int32))] [(.ref u_QUEUE), (.ref b100)])) rfl (by rw [hml]; rfl) (Steps.refl _) (argsL := [(.ref u_QUEUE)]) (rest := []) (lenOf pd__Ljava_lang_Object__Z rfl) rfl (by show 2 * 0 + _ ≤ _; exact Nat.le_of_eq rfl) (hb hby at_142) (fun _ _ => ⟨rfl, e114, (by decide : 2 + 0 ≤ _), (by decide : 4 + 0 ≤ _)⟩)
      dsimp only [Pt.U, Pt.locs, Pt.cells, Pt.slots] at X116 l116 y116 z116 st116 hQ116
      subst l116 y116 z116
      obtain ⟨rfl, Nq116, e116⟩ := hQ116
      have N116 := Fr.app N114 Nq116
      refine go (fun tg kg => st116.trans kg) ?_
      show G (T116.setTop (mkF m 145 #[.val (.int x0), .val (.int x1), .val (.int cc), .val (.int cc), .val (.ref b100), .val (.ref b101), .val (.int (1 : Int32))] [(.int (0 : Int32))]))
      refine go (fun tg kg => XS.ifNo X116.here hx rfl (hb hby at_145) rfl ((if0 _ _).trans (teq (by decide)).2) kg) ?_
      show G (T116.setTop (mkF m 148 #[.val (.int x0), .val (.int x1), .val (.int cc), .val (.int cc), .val (.ref b100), .val (.ref b101), .val (.int (1 : Int32))] []))
      refine go (fun tg kg => XS.iconst X116.here hx rfl (hb hby at_148) kg) ?_
      show G (T116.setTop (mkF m 149 #[.val (.int x0), .val (.int x1), .val (.int cc), .val (.int cc), .val (.ref b100), .val (.ref b101), .val (.int (1 : Int32))] [(.int (1 : Int32))]))
      refine go (fun tg kg => XS.goto X116.here hx rfl (pc0 := 149) (pc' := 153) rfl (hb hby at_149) (by decide) (by decide) kg) ?_
      show G (T116.setTop (mkF m 153 #[.val (.int x0), .val (.int x1), .val (.int cc), .val (.int cc), .val (.ref b100), .val (.ref b101), .val (.int (1 : Int32))] [(.int (1 : Int32))]))
      refine go (fun tg kg => XS.istore X116.here hx rfl (hb hby at_153) rfl (l' := #[.val (.int x0), .val (.int x1), .val (.int cc), .val (.int cc), .val (.ref b100), .val (.ref b101), .val (.int (1 : Int32))]) rfl kg) ?_
      show G (T116.setTop (mkF m 155 #[.val (.int x0), .val (.int x1), .val (.int cc), .val (.int cc), .val (.ref b100), .val (.ref b101), .val (.int (1 : Int32))] []))
      refine go (fun tg kg => XS.iload X116.here hx rfl (hb hby at_155) rfl kg) ?_
      show G (T116.setTop (mkF m 157 #[.val (.int x0), .val (.int x1), .val (.int cc), .val (.int cc), .val (.ref b100), .val (.ref b101), .val (.int (1 : Int32))] [(.int (1 : Int32))]))
      refine go (fun tg kg => XS.ifNo X116.here hx rfl (hb hby at_157) rfl ((if0 _ _).trans (feq (by decide)).1) kg) ?_
      show G (T116.setTop (mkF m 160 #[.val (.int x0), .val (.int x1), .val (.int cc), .val (.int cc), .val (.ref b100), .val (.ref b101), .val (.int (1 : Int32))] []))
      refine go (fun tg kg => XS.aload X116.here hx rfl (hb hby at_160) rfl rfl kg) ?_
      show G (T116.setTop (mkF m 162 #[.val (.int x0), .val (.int x1), .val (.int cc), .val (.int cc), .val (.ref b100), .val (.ref b101), .val (.int (1 : Int32))] [(.ref b100)]))
      have Fa120 := (own_sta_keep (own_sta_keep S_u_SKIP K100 all0) K101 all0)
      obtain ⟨_, _, ⟨T119, L119, k119, n119⟩, -, X119, ⟨Lc119, hQ119, l119, y119, z119⟩, st119⟩ := Jvm.LawKit.callS X116 hx (y := (⟨"com/example/drumline/drumline/model/OverlapPolicy", "skip", "()Lcom/example/drumline/drumline/model/OverlapPolicy;"⟩ : MethodName)) hown (mvT hZ (hw _ (List.mem_of_getElem? (i := 43) rfl))) (mvT hZ (hw _ (List.mem_of_getElem? (i := 44) rfl))) (mvT hZ (hw _ (List.mem_of_getElem? (i := 3) rfl))) (mvT hZ (hw _ (List.mem_of_getElem? (i := 45) rfl))) (by decide) (backOf (W := 1) (rm8 l Z a0 hw [] u_SKIP T101.heap n0 Z101 Fa120) hZ (hw _ (List.mem_of_getElem? (i := 45) rfl)) (hw _ (List.mem_of_getElem? (i := 3) rfl)) (by decide) (by decide)) (g := (mkF m 162 #[.val (.int x0), .val (.int x1), .val (.int cc), .val (.int cc), .val (.ref b100), .val (.ref b101), .val (.int (1 : Int32))] [(.ref b100)])) rfl (by rw [hml]; rfl) (argsL := []) (rest := [(.ref b100)]) (lenOf pd___Lcom_example_drumline_drumline_model_OverlapPolicy_ rfl) rfl (by show 2 * 0 + _ ≤ _; exact Nat.le_of_eq rfl) (hb hby at_162) (fun _ _ => ⟨rfl, e116, (by decide : 2 + 0 ≤ _), (by decide : 4 + 0 ≤ _)⟩)
      dsimp only [Pt.U, Pt.locs, Pt.cells, Pt.slots] at X119 l119 y119 z119 st119 hQ119
      subst l119 y119 z119
      obtain ⟨rfl, Nq119, e119⟩ := hQ119
      have N119 := Fr.app N116 Nq119
      refine go st119 ?_
      show G (T119.setTop (mkF m 165 #[.val (.int x0), .val (.int x1), .val (.int cc), .val (.int cc), .val (.ref b100), .val (.ref b101), .val (.int (1 : Int32))] [(.ref u_SKIP), (.ref b100)]))
      have Fa122 := ((E_u_SKIP.keep K100).keep K101)
      have Fa123 := ((F_u_SKIP_kind.keep K100 nin0).keep K101 nin0)
      obtain ⟨cq121, kq121, q121a, q121b, q121c⟩ := isOf hZ e119 Fa105
      obtain ⟨_, _, ⟨T121, L121, k121, n121⟩, -, X121, ⟨Lc121, hQ121, l121, y121, z121⟩, st121⟩ := X119.virtualBack hx (y := (⟨"com/example/drumline/drumline/model/OverlapPolicy", "equals", "(Ljava/lang/Object;)Z"⟩ : MethodName)) (z := (⟨"com/example/drumline/drumline/model/OverlapPolicy", "equals", "(Ljava/lang/Object;)Z"⟩ : MethodName)) hown (mvT hZ (hw _ (List.mem_of_getElem? (i := 31) rfl))) (mvT hZ (hw _ (List.mem_of_getElem? (i := 32) rfl))) (notFace_of_selects (args := #[]) (mvT hZ (hw _ (List.mem_of_getElem? (i := 34) rfl)))) (mvT hZ (hw _ (List.mem_of_getElem? (i := 34) rfl))) (mvT hZ (hw _ (List.mem_of_getElem? (i := 33) rfl))) (by decide) (backOf (W := 0) (rm6_0 l Z a0 hw [] b100 u_SKIP k_PARALLEL k_SKIP T101.heap n0 Z101 Fa122 Fa104 Fa123 hnk_SKIP) hZ (hw _ (List.mem_of_getElem? (i := 35) rfl)) (hw _ (List.mem_of_getElem? (i := 3) rfl)) (by decide) (by decide)) q121a q121c (g := (mkF m 165 #[.val (.int x0), .val (.int x1), .val (.int cc), .val (.int cc), .val (.ref b100), .val (.ref b101), .val (.int (1 : Int32))] [(.ref u_SKIP), (.ref b100)])) rfl (by rw [hml]; rfl) (Steps.refl _) (argsL := [(.ref u_SKIP)]) (rest := []) (lenOf pd__Ljava_lang_Object__Z rfl) rfl (by show 2 * 0 + _ ≤ _; exact Nat.le_of_eq rfl) (hb hby at_165) (fun _ _ => ⟨rfl, e119, (by decide : 2 + 0 ≤ _), (by decide : 4 + 0 ≤ _)⟩)
      dsimp only [Pt.U, Pt.locs, Pt.cells, Pt.slots] at X121 l121 y121 z121 st121 hQ121
      subst l121 y121 z121
      obtain ⟨rfl, Nq121, e121⟩ := hQ121
      have N121 := Fr.app N119 Nq121
      refine go (fun tg kg => st121.trans kg) ?_
      show G (T121.setTop (mkF m 168 #[.val (.int x0), .val (.int x1), .val (.int cc), .val (.int cc), .val (.ref b100), .val (.ref b101), .val (.int (1 : Int32))] [(.int (0 : Int32))]))
      refine go (fun tg kg => XS.ifNo X121.here hx rfl (hb hby at_168) rfl ((if0 _ _).trans (teq (by decide)).2) kg) ?_
      show G (T121.setTop (mkF m 171 #[.val (.int x0), .val (.int x1), .val (.int cc), .val (.int cc), .val (.ref b100), .val (.ref b101), .val (.int (1 : Int32))] []))
      refine go (fun tg kg => XS.iconst X121.here hx rfl (hb hby at_171) kg) ?_
      show G (T121.setTop (mkF m 172 #[.val (.int x0), .val (.int x1), .val (.int cc), .val (.int cc), .val (.ref b100), .val (.ref b101), .val (.int (1 : Int32))] [(.int (1 : Int32))]))
      refine go (fun tg kg => XS.goto X121.here hx rfl (pc0 := 172) (pc' := 176) rfl (hb hby at_172) (by decide) (by decide) kg) ?_
      show G (T121.setTop (mkF m 176 #[.val (.int x0), .val (.int x1), .val (.int cc), .val (.int cc), .val (.ref b100), .val (.ref b101), .val (.int (1 : Int32))] [(.int (1 : Int32))]))
      refine go (fun tg kg => XS.istore X121.here hx rfl (hb hby at_176) rfl (l' := #[.val (.int x0), .val (.int x1), .val (.int cc), .val (.int cc), .val (.ref b100), .val (.ref b101), .val (.int (1 : Int32))]) rfl kg) ?_
      show G (T121.setTop (mkF m 178 #[.val (.int x0), .val (.int x1), .val (.int cc), .val (.int cc), .val (.ref b100), .val (.ref b101), .val (.int (1 : Int32))] []))
      refine go (fun tg kg => XS.iload X121.here hx rfl (hb hby at_178) rfl kg) ?_
      show G (T121.setTop (mkF m 180 #[.val (.int x0), .val (.int x1), .val (.int cc), .val (.int cc), .val (.ref b100), .val (.ref b101), .val (.int (1 : Int32))] [(.int (1 : Int32))]))
      refine fin (some (.int (1 : Int32))) X121 (fun h => absurd h (by decide)) (fun fs hr => retN X121 hx (t := .boolean) hret (by simp) (hb hby at_180) hr) (by decide) (by decide) ?_
      rw [e121]
      exact ⟨rfl, N121⟩
set_option maxRecDepth 65536 in
set_option maxHeartbeats 40000000 in
theorem comes_1 {Post : Tables → Env → Array Value → State → Outcome → State → Prop} (hpost : ∀ tb e args s v u, (limb_1_1.after args s (.returned v) u = true ∧ limb_1_2.after args s (.returned v) u = true ∧ True) → FrameEnd s (.returned v) u (Jvm.fieldLocs frame_1_writes args s ++ Jvm.arrayLocs frame_1_arrays args s ++ Jvm.staticLocs frame_1_statics s) 16 128 → Post tb e args s (.returned v) u) :
    ArmFor flags0 classFile x code maxLocals ret World_1 tables_1 room_1 Calls_1 rest_1 Pre_1 Post := by
  intro l hfl _ _ p e ha hc hk s m args below hf hA hF happ hP
  obtain ⟨hcalls, hrest, hpre⟩ := hP
  obtain ⟨-, -, -, hnamed, -, -, -, hat⟩ := (Spec.applies_iff hf).mp happ
  obtain ⟨hg, hn⟩ := and_e (Cond.before_iff.mp (show (Jvm.Cond.and given_1 narrow_1).before args s = true from hpre))
  obtain ⟨gc, gr0⟩ := and_e hg
  obtain ⟨ga0, gr1⟩ := and_e gr0
  have ga1 := gr1
  obtain ⟨w0, w1, rfl⟩ : ∃ w0 w1 : Value, args = #[w0, w1] := by
    have hs : args.size = 2 := by simpa [Cond.value, given_1] using gc
    obtain ⟨L⟩ := args
    match L, hs with
    | [w0, w1], _ => exact ⟨w0, w1, rfl⟩
  have hw := fun d (hd : d ∈ tables_1) => atoms_spec (ws := Jvm.Cond.code x code maxLocals ret :: tables_1) hat d (List.mem_cons_of_mem _ hd)
  have hfit : Fit s := fun {y c} hc i hi => by
    obtain ⟨ha, rfl⟩ := Array.getElem?_eq_some_iff.mp hc
    have q := List.all_eq_true.mp ((Array.all_eq_true_iff_forall_mem.mp hF) _ (Array.getElem_mem ha)) i (List.mem_range.mpr hi)
    simpa [Array.getElem?_eq_getElem hi] using q
  obtain ⟨i0, ei0⟩ := is_v ga0
  obtain rfl : w0 = (.int i0) := Option.some.inj ei0
  obtain ⟨i1, ei1⟩ := is_v ga1
  obtain rfl : w1 = (.int i1) := Option.some.inj ei1
  obtain ⟨nl1, nr1⟩ := and_e hn
  obtain ⟨nl2, nr2⟩ := and_e nr1
  obtain ⟨nl3, nr3⟩ := and_e nr2
  obtain ⟨nl4, nr4⟩ := and_e nr3
  obtain ⟨nl5, nr5⟩ := and_e nr4
  obtain ⟨nl6, nr6⟩ := and_e nr5
  obtain ⟨nl7, nr7⟩ := and_e nr6
  obtain ⟨nl8, nr8⟩ := and_e nr7
  obtain ⟨nl9, nr9⟩ := and_e nr8
  obtain ⟨k_PARALLEL, ev_k_PARALLEL⟩ := exa_v nl1
  have S_k_PARALLEL := Sta.start ev_k_PARALLEL (Or.inr ⟨(hw _ (List.mem_of_getElem? (i := 8) rfl)), (hw _ (List.mem_of_getElem? (i := 9) rfl))⟩)
  have E_k_PARALLEL := Exa.start ev_k_PARALLEL nl1
  obtain ⟨u_QUEUE, ev_u_QUEUE⟩ := exa_v nl2
  have S_u_QUEUE := Sta.start ev_u_QUEUE (Or.inr ⟨(hw _ (List.mem_of_getElem? (i := 3) rfl)), (hw _ (List.mem_of_getElem? (i := 41) rfl))⟩)
  have E_u_QUEUE := Exa.start ev_u_QUEUE nl2
  obtain ⟨k_QUEUE, ev_k_QUEUE⟩ := exa_v nl3
  have S_k_QUEUE := Sta.start ev_k_QUEUE (Or.inr ⟨(hw _ (List.mem_of_getElem? (i := 8) rfl)), (hw _ (List.mem_of_getElem? (i := 42) rfl))⟩)
  have E_k_QUEUE := Exa.start ev_k_QUEUE nl3
  obtain ⟨u_SKIP, ev_u_SKIP⟩ := exa_v nl7
  have S_u_SKIP := Sta.start ev_u_SKIP (Or.inr ⟨(hw _ (List.mem_of_getElem? (i := 3) rfl)), (hw _ (List.mem_of_getElem? (i := 47) rfl))⟩)
  have E_u_SKIP := Exa.start ev_u_SKIP nl7
  obtain ⟨k_SKIP, ev_k_SKIP⟩ := exa_v nl8
  have S_k_SKIP := Sta.start ev_k_SKIP (Or.inr ⟨(hw _ (List.mem_of_getElem? (i := 8) rfl)), (hw _ (List.mem_of_getElem? (i := 48) rfl))⟩)
  have E_k_SKIP := Exa.start ev_k_SKIP nl8
  have F_k_PARALLEL_ordinal := Fld.start ((fld_at ev_k_PARALLEL).symm.trans (own_eq_int nl5))
  have F_k_QUEUE_ordinal := Fld.start ((fld_at ev_k_QUEUE).symm.trans (own_eq_int nl6))
  have F_k_SKIP_ordinal := Fld.start ((fld_at ev_k_SKIP).symm.trans (own_eq_int nr9))
  have F_u_QUEUE_kind := Fld.start ((fld_at ev_u_QUEUE).symm.trans (own_eq_ref nl4 ev_k_QUEUE))
  have F_u_SKIP_kind := Fld.start ((fld_at ev_u_SKIP).symm.trans (own_eq_ref nl9 ev_k_SKIP))
  obtain ⟨n, o, h1, h2, h3, _, L, rfl, ⟨rfl, N⟩, hq⟩ := rm0 l s _ hw tables_1 i0 i1 k_PARALLEL u_QUEUE u_SKIP k_QUEUE k_SKIP s.heap s.heap.size (Nat.le_refl _) S_k_PARALLEL S_u_QUEUE S_u_SKIP E_u_QUEUE E_u_SKIP F_u_QUEUE_kind F_u_SKIP_kind (F_k_PARALLEL_ordinal.ne F_k_QUEUE_ordinal (by decide)) (F_k_PARALLEL_ordinal.ne F_k_SKIP_ordinal (by decide)) p e ha hc hk s m _ below hf ((Spec.applies_iff_loose hf).mp happ).1 ⟨rfl, State.Warmed39.refl s, rfl⟩ trivial
  refine ⟨n, _, h1, h2, h3, hpost _ _ _ _ _ _ ⟨Cond.after_iff.mpr rfl, Cond.after_iff.mpr (eq_i res_at (Term.int_eval (1)) rfl), trivial⟩ ⟨hq.1, hq.2.1, (hq.2.2.sift fun y hy => Or.inr (N y hy)).mono (by decide) (by decide)⟩⟩
theorem main_1_1 : Claimed_1_1 := comes_1 fun _ _ _ _ _ _ h hF => ⟨h.1, hF⟩
theorem main_1_2 : Claimed_1_2 := comes_1 fun _ _ _ _ _ _ h hF => ⟨h.2.1, hF⟩
end Jvm.Pilot.@@N@@
namespace Jvm.Pilot.@@N@@
open Jvm Jvm.ClassFile Sem Op Lib Jvm.Free Jvm.Stand Jvm.Pilot.@@N@@.Jvm.D
/-! MADE BY PROGRAM (witnessworld.py) out of the Statement's table words and the real class files: 14 classes; the members and pool entries that the words name. The judged class is class 1, her method 1. -/
namespace start1
open Jvm.ClassFile
def u (s : String) : CpInfo := .utf8 (stringToUtf16 s)
/-- a pool by its gaps: so many unusable entries, then the entry; so many at the end -/
def gap : Nat → List CpInfo → List CpInfo
  | 0, r => r
  | n + 1, r => .unusable :: gap n r
def poolList (es : List (Nat × CpInfo)) (last : Nat) : List CpInfo := es.foldr (fun e r => gap e.1 (e.2 :: r)) (gap last [])
def pool (es : List (Nat × CpInfo)) (last : Nat) : Array CpInfo := ⟨poolList es last⟩
def fileOf (pool : Array CpInfo) (this : Nat) (attrs : Array Attribute := #[]) (ms : Array MethodInfo := #[]) (fl : Nat := 33) (sup : Nat := 0) (ifs : Array Nat := #[]) (fds : Array FieldInfo := #[]) : ClassFile where
  minorVersion := 0
  majorVersion := 65
  constantPool := pool
  accessFlags := fl
  thisClass := this
  superClass := sup
  interfaces := ifs
  fields := fds
  methods := ms
  attributes := attrs
def plain (name : String) (sup : Option ClassId) : Class where
  name := name
  kind := .ordinary
  loader := none
  accessFlags := 33
  super := sup
  interfaces := #[]
  cf := none
  fields := #[]
  methods := #[]
  instanceTypes := #[]
  staticTypes := #[]
  resolved := #[]
  callSites := []
  init := .initialized
  statics := none
  mirror := none

def pool0 : Array CpInfo := pool [(5, u "<init>"), (0, u "()V"), (1, .class_ 10), (1, u "java/lang/Object")] 113

def k0c0 : Code := { maxStack := 0, maxLocals := 1, code := object_method_1_code, exceptionTable := #[], attributes := #[] }
def k0m0 : Method := { name := "<init>", desc := "()V", sig := { parameters := [], returnType := none }, accessFlags := 1, code := some k0c0 }
/-- java/lang/Object -/
def k0 : Class := { plain "java/lang/Object" none with
  accessFlags := 33
  interfaces := #[]
  cf := some (fileOf pool0 8 #[] #[{ accessFlags := 1, nameIndex := 5, descriptorIndex := 6, attributes := #[] }] 33 0 #[] #[])
  fields := #[]
  methods := #[k0m0]
  instanceTypes := #[]
  staticTypes := #[]
  resolved := Array.replicate 124 none
  statics := none }

def pool1 : Array CpInfo := pool [(2, .class_ 4), (1, u "java/lang/Object"), (0, u "<init>"), (0, u "()V"), (0, .integer 2147483647), (0, .methodref 9 10), (0, .class_ 11), (0, .nameAndType 12 13), (0, u "java/lang/Math"), (0, u "max"), (0, u "(II)I"), (0, .methodref 15 16), (0, .class_ 17), (0, .nameAndType 18 19), (0, u "com/example/drumline/drumline/model/OverlapPolicy"), (0, u "parallel"), (0, u "(I)Lcom/example/drumline/drumline/model/OverlapPolicy;"), (0, .methodref 15 21), (0, .nameAndType 22 23), (0, u "kind"), (0, u "()Lcom/example/drumline/drumline/model/OverlapPolicy$Kind;"), (0, .fieldref 25 26), (0, .class_ 27), (0, .nameAndType 28 29), (0, u "com/example/drumline/drumline/model/OverlapPolicy$Kind"), (0, u "PARALLEL"), (0, u "Lcom/example/drumline/drumline/model/OverlapPolicy$Kind;"), (0, .methodref 15 31), (0, .nameAndType 32 33), (0, u "cap"), (0, u "()I"), (0, .methodref 15 35), (0, .nameAndType 36 37), (0, u "equals"), (0, u "(Ljava/lang/Object;)Z"), (0, .methodref 15 39), (0, .nameAndType 40 41), (0, u "queue"), (0, u "()Lcom/example/drumline/drumline/model/OverlapPolicy;"), (0, .methodref 15 43), (0, .nameAndType 44 41), (0, u "skip"), (0, .class_ 46), (0, u "com/example/drumline/drumline/model/OverlapPolicyParallelPinLaw"), (2, u "law"), (0, u "(II)Z")] 5

def k1m0 : Method := { name := "<init>", desc := "()V", sig := { parameters := [], returnType := none }, accessFlags := 1, code := none }
def k1c1 : Code := { maxStack := 3, maxLocals := 7, code := code, exceptionTable := #[], attributes := #[] }
def k1m1 : Method := { name := "law", desc := "(II)Z", sig := { parameters := [.int, .int], returnType := some .boolean }, accessFlags := 9, code := some k1c1 }
/-- com/example/drumline/drumline/model/OverlapPolicyParallelPinLaw -/
def k1 : Class := { plain "com/example/drumline/drumline/model/OverlapPolicyParallelPinLaw" (some 0) with
  accessFlags := 49
  interfaces := #[]
  cf := some (fileOf pool1 45 #[] #[{ accessFlags := 1, nameIndex := 5, descriptorIndex := 6, attributes := #[] }, { accessFlags := 9, nameIndex := 49, descriptorIndex := 50, attributes := #[] }] 49 2 #[] #[])
  fields := #[]
  methods := #[k1m0, k1m1]
  instanceTypes := #[]
  staticTypes := #[]
  resolved := Array.replicate 56 none
  statics := none }

def pool2 : Array CpInfo := pool [(1, .methodref 2 3), (0, .class_ 4), (0, .nameAndType 5 6), (0, u "java/lang/Object"), (0, u "<init>"), (0, u "()V"), (0, .fieldref 8 9), (0, .class_ 10), (0, .nameAndType 11 12), (0, u "com/example/drumline/drumline/model/OverlapPolicy"), (0, u "kind"), (0, u "Lcom/example/drumline/drumline/model/OverlapPolicy$Kind;"), (0, .fieldref 8 14), (0, .nameAndType 15 16), (0, u "cap"), (0, u "I"), (0, .fieldref 8 18), (0, .nameAndType 19 20), (0, u "QUEUE"), (0, u "Lcom/example/drumline/drumline/model/OverlapPolicy;"), (0, .fieldref 8 22), (0, .nameAndType 23 20), (0, u "SKIP"), (9, .fieldref 34 35), (0, .class_ 36), (0, .nameAndType 37 12), (0, u "com/example/drumline/drumline/model/OverlapPolicy$Kind"), (0, u "PARALLEL"), (0, .methodref 8 39), (0, .nameAndType 5 40), (0, u "(Lcom/example/drumline/drumline/model/OverlapPolicy$Kind;I)V"), (18, u "queue"), (0, u "()Lcom/example/drumline/drumline/model/OverlapPolicy;"), (0, u "skip"), (0, u "parallel"), (0, u "(I)Lcom/example/drumline/drumline/model/OverlapPolicy;"), (1, u "()Lcom/example/drumline/drumline/model/OverlapPolicy$Kind;"), (0, u "()I"), (0, u "equals"), (0, u "(Ljava/lang/Object;)Z")] 21

def k2c0 : Code := { maxStack := 2, maxLocals := 3, code := prog_37_method_1_code, exceptionTable := #[], attributes := #[] }
def k2m0 : Method := { name := "<init>", desc := "(Lcom/example/drumline/drumline/model/OverlapPolicy$Kind;I)V", sig := { parameters := [(.object "com/example/drumline/drumline/model/OverlapPolicy$Kind"), .int], returnType := none }, accessFlags := 2, code := some k2c0 }
def k2c1 : Code := { maxStack := 1, maxLocals := 0, code := prog_37_method_2_code, exceptionTable := #[], attributes := #[] }
def k2m1 : Method := { name := "queue", desc := "()Lcom/example/drumline/drumline/model/OverlapPolicy;", sig := { parameters := [], returnType := some (.object "com/example/drumline/drumline/model/OverlapPolicy") }, accessFlags := 9, code := some k2c1 }
def k2c2 : Code := { maxStack := 1, maxLocals := 0, code := prog_37_method_3_code, exceptionTable := #[], attributes := #[] }
def k2m2 : Method := { name := "skip", desc := "()Lcom/example/drumline/drumline/model/OverlapPolicy;", sig := { parameters := [], returnType := some (.object "com/example/drumline/drumline/model/OverlapPolicy") }, accessFlags := 9, code := some k2c2 }
def k2c3 : Code := { maxStack := 4, maxLocals := 1, code := prog_37_method_4_code, exceptionTable := #[], attributes := #[] }
def k2m3 : Method := { name := "parallel", desc := "(I)Lcom/example/drumline/drumline/model/OverlapPolicy;", sig := { parameters := [.int], returnType := some (.object "com/example/drumline/drumline/model/OverlapPolicy") }, accessFlags := 9, code := some k2c3 }
def k2c4 : Code := { maxStack := 1, maxLocals := 1, code := prog_37_method_5_code, exceptionTable := #[], attributes := #[] }
def k2m4 : Method := { name := "kind", desc := "()Lcom/example/drumline/drumline/model/OverlapPolicy$Kind;", sig := { parameters := [], returnType := some (.object "com/example/drumline/drumline/model/OverlapPolicy$Kind") }, accessFlags := 1, code := some k2c4 }
def k2c5 : Code := { maxStack := 1, maxLocals := 1, code := prog_37_method_6_code, exceptionTable := #[], attributes := #[] }
def k2m5 : Method := { name := "cap", desc := "()I", sig := { parameters := [], returnType := some .int }, accessFlags := 1, code := some k2c5 }
def k2c6 : Code := { maxStack := 2, maxLocals := 3, code := prog_37_method_7_code, exceptionTable := #[], attributes := #[] }
def k2m6 : Method := { name := "equals", desc := "(Ljava/lang/Object;)Z", sig := { parameters := [(.object "java/lang/Object")], returnType := some .boolean }, accessFlags := 1, code := some k2c6 }
/-- com/example/drumline/drumline/model/OverlapPolicy -/
def k2 : Class := { plain "com/example/drumline/drumline/model/OverlapPolicy" (some 0) with
  accessFlags := 49
  interfaces := #[]
  cf := some (fileOf pool2 8 #[.nestMembers #[34]] #[{ accessFlags := 2, nameIndex := 5, descriptorIndex := 40, attributes := #[] }, { accessFlags := 9, nameIndex := 59, descriptorIndex := 60, attributes := #[] }, { accessFlags := 9, nameIndex := 61, descriptorIndex := 60, attributes := #[] }, { accessFlags := 9, nameIndex := 62, descriptorIndex := 63, attributes := #[] }, { accessFlags := 1, nameIndex := 11, descriptorIndex := 65, attributes := #[] }, { accessFlags := 1, nameIndex := 15, descriptorIndex := 66, attributes := #[] }, { accessFlags := 1, nameIndex := 67, descriptorIndex := 68, attributes := #[] }] 49 2 #[] #[{ accessFlags := 26, nameIndex := 19, descriptorIndex := 20, attributes := #[] }, { accessFlags := 26, nameIndex := 23, descriptorIndex := 20, attributes := #[] }, { accessFlags := 18, nameIndex := 11, descriptorIndex := 12, attributes := #[] }, { accessFlags := 18, nameIndex := 15, descriptorIndex := 16, attributes := #[] }])
  fields := #[{ name := "QUEUE", type := (.object "com/example/drumline/drumline/model/OverlapPolicy"), accessFlags := 26, slot := 0, constantValue := 0 }, { name := "SKIP", type := (.object "com/example/drumline/drumline/model/OverlapPolicy"), accessFlags := 26, slot := 1, constantValue := 0 }, { name := "kind", type := (.object "com/example/drumline/drumline/model/OverlapPolicy$Kind"), accessFlags := 18, slot := 0, constantValue := 0 }, { name := "cap", type := .int, accessFlags := 18, slot := 1, constantValue := 0 }]
  methods := #[k2m0, k2m1, k2m2, k2m3, k2m4, k2m5, k2m6]
  instanceTypes := #[(.object "com/example/drumline/drumline/model/OverlapPolicy$Kind"), .int]
  staticTypes := #[(.object "com/example/drumline/drumline/model/OverlapPolicy"), (.object "com/example/drumline/drumline/model/OverlapPolicy")]
  resolved := Array.replicate 90 none
  statics := some 0 }

def pool3 : Array CpInfo := pool [(1, .class_ 2), (0, u "java/lang/constant/Constable"), (0, .class_ 4), (0, u "java/lang/Object")] 6

/-- java/lang/constant/Constable -/
def k3 : Class := { plain "java/lang/constant/Constable" (some 0) with
  accessFlags := 1537
  interfaces := #[]
  cf := some (fileOf pool3 1 #[] #[] 1537 3 #[] #[])
  fields := #[]
  methods := #[]
  instanceTypes := #[]
  staticTypes := #[]
  resolved := Array.replicate 11 none
  statics := none }

def pool4 : Array CpInfo := pool [(1, .class_ 2), (0, u "java/lang/Comparable"), (0, .class_ 4), (0, u "java/lang/Object")] 7

/-- java/lang/Comparable -/
def k4 : Class := { plain "java/lang/Comparable" (some 0) with
  accessFlags := 1537
  interfaces := #[]
  cf := some (fileOf pool4 1 #[] #[] 1537 3 #[] #[])
  fields := #[]
  methods := #[]
  instanceTypes := #[]
  staticTypes := #[]
  resolved := Array.replicate 12 none
  statics := none }

def pool5 : Array CpInfo := pool [(1, .class_ 2), (0, u "java/io/Serializable"), (0, .class_ 4), (0, u "java/lang/Object")] 2

/-- java/io/Serializable -/
def k5 : Class := { plain "java/io/Serializable" (some 0) with
  accessFlags := 1537
  interfaces := #[]
  cf := some (fileOf pool5 1 #[] #[] 1537 3 #[] #[])
  fields := #[]
  methods := #[]
  instanceTypes := #[]
  staticTypes := #[]
  resolved := Array.replicate 7 none
  statics := none }

def pool6 : Array CpInfo := pool [(2, .class_ 4), (1, u "java/lang/Enum"), (0, u "name"), (0, u "Ljava/lang/String;"), (2, u "ordinal"), (0, u "I"), (1, .class_ 14), (1, u "java/lang/Object"), (4, u "hash"), (86, .class_ 108), (1, u "java/lang/Enum$EnumDesc"), (2, .class_ 112), (0, u "java/lang/constant/Constable"), (0, .class_ 114), (0, u "java/lang/Comparable"), (0, .class_ 116), (0, u "java/io/Serializable")] 87

/-- java/lang/Enum -/
def k6 : Class := { plain "java/lang/Enum" (some 0) with
  accessFlags := 1057
  interfaces := #[3, 4, 5]
  cf := some (fileOf pool6 2 #[.nestMembers #[106]] #[] 1057 12 #[111, 113, 115] #[{ accessFlags := 18, nameIndex := 5, descriptorIndex := 6, attributes := #[] }, { accessFlags := 18, nameIndex := 9, descriptorIndex := 10, attributes := #[] }, { accessFlags := 2, nameIndex := 19, descriptorIndex := 10, attributes := #[] }])
  fields := #[{ name := "name", type := (.object "java/lang/String"), accessFlags := 18, slot := 0, constantValue := 0 }, { name := "ordinal", type := .int, accessFlags := 18, slot := 1, constantValue := 0 }, { name := "hash", type := .int, accessFlags := 2, slot := 2, constantValue := 0 }]
  methods := #[]
  instanceTypes := #[(.object "java/lang/String"), .int, .int]
  staticTypes := #[]
  resolved := Array.replicate 204 none
  statics := none }

def pool7 : Array CpInfo := pool [(1, .class_ 2), (0, u "com/example/drumline/drumline/model/OverlapPolicy$Kind"), (2, u "QUEUE"), (0, u "Lcom/example/drumline/drumline/model/OverlapPolicy$Kind;"), (2, u "SKIP"), (2, u "PARALLEL"), (2, u "$VALUES"), (0, u "[Lcom/example/drumline/drumline/model/OverlapPolicy$Kind;"), (6, .class_ 25), (1, u "java/lang/Enum"), (26, .class_ 53), (0, u "com/example/drumline/drumline/model/OverlapPolicy")] 2

/-- com/example/drumline/drumline/model/OverlapPolicy$Kind -/
def k7 : Class := { plain "com/example/drumline/drumline/model/OverlapPolicy$Kind" (some 6) with
  accessFlags := 16433
  interfaces := #[]
  cf := some (fileOf pool7 1 #[.nestHost 52] #[] 16433 23 #[] #[{ accessFlags := 16409, nameIndex := 5, descriptorIndex := 6, attributes := #[] }, { accessFlags := 16409, nameIndex := 9, descriptorIndex := 6, attributes := #[] }, { accessFlags := 16409, nameIndex := 12, descriptorIndex := 6, attributes := #[] }, { accessFlags := 4122, nameIndex := 15, descriptorIndex := 16, attributes := #[] }])
  fields := #[{ name := "QUEUE", type := (.object "com/example/drumline/drumline/model/OverlapPolicy$Kind"), accessFlags := 16409, slot := 0, constantValue := 0 }, { name := "SKIP", type := (.object "com/example/drumline/drumline/model/OverlapPolicy$Kind"), accessFlags := 16409, slot := 1, constantValue := 0 }, { name := "PARALLEL", type := (.object "com/example/drumline/drumline/model/OverlapPolicy$Kind"), accessFlags := 16409, slot := 2, constantValue := 0 }, { name := "$VALUES", type := (.array (.object "com/example/drumline/drumline/model/OverlapPolicy$Kind")), accessFlags := 4122, slot := 3, constantValue := 0 }]
  methods := #[]
  instanceTypes := #[(.object "java/lang/String"), .int, .int]
  staticTypes := #[(.object "com/example/drumline/drumline/model/OverlapPolicy$Kind"), (.object "com/example/drumline/drumline/model/OverlapPolicy$Kind"), (.object "com/example/drumline/drumline/model/OverlapPolicy$Kind"), (.array (.object "com/example/drumline/drumline/model/OverlapPolicy$Kind"))]
  resolved := Array.replicate 56 none
  statics := some 1 }

def pool8 : Array CpInfo := pool [(1, .class_ 2), (0, u "java/lang/Math"), (1, .class_ 6), (1, u "java/lang/Object"), (0, u "<init>"), (0, u "()V"), (89, .class_ 100), (1, u "java/lang/Math$RandomNumberGeneratorHolder"), (71, u "negativeZeroFloatBits"), (0, u "J"), (2, u "negativeZeroDoubleBits"), (21, u "max"), (46, u "$assertionsDisabled"), (0, u "Z"), (88, u "(II)I"), (2, u "twoToTheDoubleScaleDown"), (0, u "D"), (4, u "twoToTheDoubleScaleUp"), (9, u "E"), (3, u "PI"), (2, u "TAU"), (2, u "DEGREES_TO_RADIANS"), (0, u "RADIANS_TO_DEGREES")] 94

def k8m0 : Method := { name := "<init>", desc := "()V", sig := { parameters := [], returnType := none }, accessFlags := 2, code := none }
def k8c1 : Code := { maxStack := 2, maxLocals := 2, code := jdk_29_method_65_code, exceptionTable := #[], attributes := #[] }
def k8m1 : Method := { name := "max", desc := "(II)I", sig := { parameters := [.int, .int], returnType := some .int }, accessFlags := 9, code := some k8c1 }
/-- java/lang/Math -/
def k8 : Class := { plain "java/lang/Math" (some 0) with
  accessFlags := 49
  interfaces := #[]
  cf := some (fileOf pool8 1 #[.nestMembers #[98]] #[{ accessFlags := 2, nameIndex := 7, descriptorIndex := 8, attributes := #[] }, { accessFlags := 9, nameIndex := 198, descriptorIndex := 335, attributes := #[] }] 49 4 #[] #[{ accessFlags := 25, nameIndex := 354, descriptorIndex := 339, attributes := #[] }, { accessFlags := 25, nameIndex := 358, descriptorIndex := 339, attributes := #[] }, { accessFlags := 25, nameIndex := 361, descriptorIndex := 339, attributes := #[] }, { accessFlags := 26, nameIndex := 364, descriptorIndex := 339, attributes := #[] }, { accessFlags := 26, nameIndex := 365, descriptorIndex := 339, attributes := #[] }, { accessFlags := 26, nameIndex := 172, descriptorIndex := 173, attributes := #[] }, { accessFlags := 26, nameIndex := 176, descriptorIndex := 173, attributes := #[] }, { accessFlags := 8, nameIndex := 344, descriptorIndex := 339, attributes := #[] }, { accessFlags := 8, nameIndex := 338, descriptorIndex := 339, attributes := #[] }, { accessFlags := 4120, nameIndex := 245, descriptorIndex := 246, attributes := #[] }])
  fields := #[{ name := "E", type := .double, accessFlags := 25, slot := 0, constantValue := 0 }, { name := "PI", type := .double, accessFlags := 25, slot := 1, constantValue := 0 }, { name := "TAU", type := .double, accessFlags := 25, slot := 2, constantValue := 0 }, { name := "DEGREES_TO_RADIANS", type := .double, accessFlags := 26, slot := 3, constantValue := 0 }, { name := "RADIANS_TO_DEGREES", type := .double, accessFlags := 26, slot := 4, constantValue := 0 }, { name := "negativeZeroFloatBits", type := .long, accessFlags := 26, slot := 5, constantValue := 0 }, { name := "negativeZeroDoubleBits", type := .long, accessFlags := 26, slot := 6, constantValue := 0 }, { name := "twoToTheDoubleScaleUp", type := .double, accessFlags := 8, slot := 7, constantValue := 0 }, { name := "twoToTheDoubleScaleDown", type := .double, accessFlags := 8, slot := 8, constantValue := 0 }, { name := "$assertionsDisabled", type := .boolean, accessFlags := 4120, slot := 9, constantValue := 0 }]
  methods := #[k8m0, k8m1]
  instanceTypes := #[]
  staticTypes := #[.double, .double, .double, .double, .double, .long, .long, .double, .double, .boolean]
  resolved := Array.replicate 460 none
  statics := none }

def pool9 : Array CpInfo := pool [(1, u "java/lang/Cloneable"), (0, .class_ 1), (0, u "java/lang/Object"), (0, .class_ 3)] 3

/-- java/lang/Cloneable -/
def k9 : Class := { plain "java/lang/Cloneable" (some 0) with
  accessFlags := 1537
  interfaces := #[]
  cf := some (fileOf pool9 2 #[] #[] 1537 4 #[] #[])
  fields := #[]
  methods := #[]
  instanceTypes := #[]
  staticTypes := #[]
  resolved := Array.replicate 8 none
  statics := none }

/-- the primitive byte -/
def k10 : Class := { plain "byte" none with kind := .primitive 'B', accessFlags := 0x411 }
/-- [B -/
def k11 : Class := { plain "[B" (some 0) with kind := .array 10 .byte, interfaces := #[9, 5], accessFlags := 1041 }

/-- the primitive int -/
def k12 : Class := { plain "int" none with kind := .primitive 'I', accessFlags := 0x411 }
/-- [I -/
def k13 : Class := { plain "[I" (some 0) with kind := .array 12 .int, interfaces := #[9, 5], accessFlags := 1041 }

def heap : Heap := #[{ cls := 2, slots := #[.ref 3, .ref 5], vm := .statics 2 },
  { cls := 7, slots := #[.ref 4, .ref 6, .ref 2, .null], vm := .statics 7 },
  { cls := 7, slots := #[.null, .int 2, .int 0], vm := .none },
  { cls := 2, slots := #[.ref 4, .int 0], vm := .none },
  { cls := 7, slots := #[.null, .int 0, .int 0], vm := .none },
  { cls := 2, slots := #[.ref 6, .int 0], vm := .none },
  { cls := 7, slots := #[.null, .int 1, .int 0], vm := .none }]
def classes : Array Class := #[k0, k1, k2, k3, k4, k5, k6, k7, k8, k9, k10, k11, k12, k13]
def interned : List (Array UInt16 × Addr) := []
def slotsUsed : Nat := 19
def theMethod : MethodId := ⟨1, 1⟩
def args0 : Array Value := #[.int 3, .int 6]
def aboutOver (below : List Frame) : State where
  vm := { classes := classes, interned := interned.toArray }
  heap := heap
  slotsUsed := slotsUsed
  threads := #[{ frames := .invoking theMethod args0 :: below }]
def below0 : List Frame := [.native { method := ⟨0, 0⟩, args := #[] }]
def about1 : State := aboutOver below0
def p0 : Program := .bare "" "" ""
def e0 : Env := launch0.env 0 0 0
theorem w_frames : about1.frames = Frame.invoking theMethod args0 :: below0 := rfl
set_option maxRecDepth 65536 in
theorem w_args : argsFit about1.vm theMethod args0 = true := by decide +kernel
set_option maxRecDepth 65536 in
theorem w_heap : heapFits about1 = true := by decide +kernel
set_option maxRecDepth 65536 in
theorem w_runnable : about1.curStatus? = some .runnable := by decide +kernel
set_option maxRecDepth 65536 in
theorem w_alone : about1.alone = true := by decide +kernel
set_option maxRecDepth 65536 in
theorem w_named : about1.methodNamed? x = some theMethod := by decide +kernel
set_option maxRecDepth 65536 in
theorem w_hears : about1.hears theMethod below0 = true := by decide +kernel
set_option maxRecDepth 65536 in
theorem w_ripe : about1.ripe theMethod args0 below0 = true := by decide +kernel
theorem w_running : about1.status = .running := rfl
set_option maxRecDepth 65536 in
theorem w_room : about1.hasRoom e0.platform room_1 = true :=
  launch0.hasRoom_least _ room_1 (by decide +kernel) (by decide +kernel) (by decide +kernel) (by decide +kernel) (by decide +kernel) (by decide +kernel)
theorem allAtoms_all (ts : List Jvm.Cond) (a : Array Jvm.Value) (st : Jvm.State) : (allAtoms ts).before a st = ts.all (fun c => c.before a st) := by
  induction ts with
  | nil => rfl
  | cons c t ih =>
    show (Jvm.Cond.and c (allAtoms t)).before a st = _
    rw [Jvm.Cond.before_and, ih, List.all_cons]
def words1 : List Jvm.Cond := Jvm.Cond.code x code maxLocals ret :: tables_1
/-- a 'code' word, met by the world's own term for the bytes: nothing is compared byte by byte -/
theorem code_word {y : MethodName} {bytes : ByteArray} {mx : Nat} {rt : Option FieldType} {a : Array Value} {s : State} {m : MethodId} {meth : Method} {c : Code} (h1 : s.methodNamed? y = some m) (h2 : s.vm.method? m = some meth) (h3 : meth.code = some c) (h4 : c.code = bytes)
    (h5 : (c.maxLocals == mx && c.exceptionTable.isEmpty && decide (c.maxStack ≤ mostOperands) && decide (meth.sig.returnType = rt) && !meth.locks && decide (parseMethodDescriptor y.desc = some meth.sig)) = true) : (Jvm.Cond.code y bytes mx rt).before a s = true := by
  simp only [Bool.and_eq_true, beq_iff_eq, Bool.not_eq_true', decide_eq_true_eq] at h5
  obtain ⟨⟨⟨⟨⟨g1, g2⟩, g3⟩, g4⟩, g5⟩, g6⟩ := h5
  simp [Cond.before, Cond.holds, Cond.value, h1, h2, h3, h4, g1, g2, g3, g4, g5, g6]
def isCode : Jvm.Cond → Bool
  | .code _ _ _ _ => true
  | _ => false
theorem all_split {L : List Jvm.Cond} {P : Jvm.Cond → Bool} (h1 : L.all (fun c => isCode c || P c) = true) (h2 : ∀ c ∈ L.filter isCode, P c = true) : L.all P = true := by
  refine List.all_eq_true.mpr fun c hc => ?_
  have h := List.all_eq_true.mp h1 c hc
  rcases Bool.eq_false_or_eq_true (isCode c) with hi | hi
  · exact h2 c (List.mem_filter.mpr ⟨hc, hi⟩)
  · simpa [hi] using h
set_option maxRecDepth 65536 in
theorem w_c0 : (Jvm.Cond.code x code maxLocals ret).before args0 about1 = true := code_word (m := ⟨1, 1⟩) (meth := k1m1) (c := k1c1) (by decide +kernel) rfl rfl rfl (by decide +kernel)
set_option maxRecDepth 65536 in
theorem w_c1 : (Jvm.Cond.code ({ cls := "com/example/drumline/drumline/model/OverlapPolicy", name := "parallel", desc := "(I)Lcom/example/drumline/drumline/model/OverlapPolicy;" } : Jvm.MethodName) prog_37_method_4_code (1 : Nat) (Option.some (Jvm.ClassFile.FieldType.object "com/example/drumline/drumline/model/OverlapPolicy"))).before args0 about1 = true := code_word (m := ⟨2, 3⟩) (meth := k2m3) (c := k2c3) (by decide +kernel) rfl rfl rfl (by decide +kernel)
set_option maxRecDepth 65536 in
theorem w_c2 : (Jvm.Cond.code ({ cls := "com/example/drumline/drumline/model/OverlapPolicy", name := "<init>", desc := "(Lcom/example/drumline/drumline/model/OverlapPolicy$Kind;I)V" } : Jvm.MethodName) prog_37_method_1_code (3 : Nat) (Option.none : Option Jvm.ClassFile.FieldType)).before args0 about1 = true := code_word (m := ⟨2, 0⟩) (meth := k2m0) (c := k2c0) (by decide +kernel) rfl rfl rfl (by decide +kernel)
set_option maxRecDepth 65536 in
theorem w_c3 : (Jvm.Cond.code ({ cls := "java/lang/Object", name := "<init>", desc := "()V" } : Jvm.MethodName) object_method_1_code (1 : Nat) (Option.none : Option Jvm.ClassFile.FieldType)).before args0 about1 = true := code_word (m := ⟨0, 0⟩) (meth := k0m0) (c := k0c0) (by decide +kernel) rfl rfl rfl (by decide +kernel)
set_option maxRecDepth 65536 in
theorem w_c4 : (Jvm.Cond.code ({ cls := "com/example/drumline/drumline/model/OverlapPolicy", name := "kind", desc := "()Lcom/example/drumline/drumline/model/OverlapPolicy$Kind;" } : Jvm.MethodName) prog_37_method_5_code (1 : Nat) (Option.some (Jvm.ClassFile.FieldType.object "com/example/drumline/drumline/model/OverlapPolicy$Kind"))).before args0 about1 = true := code_word (m := ⟨2, 4⟩) (meth := k2m4) (c := k2c4) (by decide +kernel) rfl rfl rfl (by decide +kernel)
set_option maxRecDepth 65536 in
theorem w_c5 : (Jvm.Cond.code ({ cls := "com/example/drumline/drumline/model/OverlapPolicy", name := "cap", desc := "()I" } : Jvm.MethodName) prog_37_method_6_code (1 : Nat) (Option.some Jvm.ClassFile.FieldType.int)).before args0 about1 = true := code_word (m := ⟨2, 5⟩) (meth := k2m5) (c := k2c5) (by decide +kernel) rfl rfl rfl (by decide +kernel)
set_option maxRecDepth 65536 in
theorem w_c6 : (Jvm.Cond.code ({ cls := "com/example/drumline/drumline/model/OverlapPolicy", name := "equals", desc := "(Ljava/lang/Object;)Z" } : Jvm.MethodName) prog_37_method_7_code (3 : Nat) (Option.some Jvm.ClassFile.FieldType.boolean)).before args0 about1 = true := code_word (m := ⟨2, 6⟩) (meth := k2m6) (c := k2c6) (by decide +kernel) rfl rfl rfl (by decide +kernel)
set_option maxRecDepth 65536 in
theorem w_c7 : (Jvm.Cond.code ({ cls := "com/example/drumline/drumline/model/OverlapPolicy", name := "queue", desc := "()Lcom/example/drumline/drumline/model/OverlapPolicy;" } : Jvm.MethodName) prog_37_method_2_code (0 : Nat) (Option.some (Jvm.ClassFile.FieldType.object "com/example/drumline/drumline/model/OverlapPolicy"))).before args0 about1 = true := code_word (m := ⟨2, 1⟩) (meth := k2m1) (c := k2c1) (by decide +kernel) rfl rfl rfl (by decide +kernel)
set_option maxRecDepth 65536 in
theorem w_c8 : (Jvm.Cond.code ({ cls := "com/example/drumline/drumline/model/OverlapPolicy", name := "skip", desc := "()Lcom/example/drumline/drumline/model/OverlapPolicy;" } : Jvm.MethodName) prog_37_method_3_code (0 : Nat) (Option.some (Jvm.ClassFile.FieldType.object "com/example/drumline/drumline/model/OverlapPolicy"))).before args0 about1 = true := code_word (m := ⟨2, 2⟩) (meth := k2m2) (c := k2c2) (by decide +kernel) rfl rfl rfl (by decide +kernel)
set_option maxRecDepth 65536 in
theorem w_c9 : (Jvm.Cond.code ({ cls := "java/lang/Math", name := "max", desc := "(II)I" } : Jvm.MethodName) jdk_29_method_65_code (2 : Nat) (Option.some Jvm.ClassFile.FieldType.int)).before args0 about1 = true := code_word (m := ⟨8, 1⟩) (meth := k8m1) (c := k8c1) (by decide +kernel) rfl rfl rfl (by decide +kernel)
def codes1 : List Jvm.Cond := [Jvm.Cond.code x code maxLocals ret, Jvm.Cond.code ({ cls := "com/example/drumline/drumline/model/OverlapPolicy", name := "parallel", desc := "(I)Lcom/example/drumline/drumline/model/OverlapPolicy;" } : Jvm.MethodName) prog_37_method_4_code (1 : Nat) (Option.some (Jvm.ClassFile.FieldType.object "com/example/drumline/drumline/model/OverlapPolicy")), Jvm.Cond.code ({ cls := "com/example/drumline/drumline/model/OverlapPolicy", name := "<init>", desc := "(Lcom/example/drumline/drumline/model/OverlapPolicy$Kind;I)V" } : Jvm.MethodName) prog_37_method_1_code (3 : Nat) (Option.none : Option Jvm.ClassFile.FieldType), Jvm.Cond.code ({ cls := "java/lang/Object", name := "<init>", desc := "()V" } : Jvm.MethodName) object_method_1_code (1 : Nat) (Option.none : Option Jvm.ClassFile.FieldType), Jvm.Cond.code ({ cls := "com/example/drumline/drumline/model/OverlapPolicy", name := "kind", desc := "()Lcom/example/drumline/drumline/model/OverlapPolicy$Kind;" } : Jvm.MethodName) prog_37_method_5_code (1 : Nat) (Option.some (Jvm.ClassFile.FieldType.object "com/example/drumline/drumline/model/OverlapPolicy$Kind")), Jvm.Cond.code ({ cls := "com/example/drumline/drumline/model/OverlapPolicy", name := "cap", desc := "()I" } : Jvm.MethodName) prog_37_method_6_code (1 : Nat) (Option.some Jvm.ClassFile.FieldType.int), Jvm.Cond.code ({ cls := "com/example/drumline/drumline/model/OverlapPolicy", name := "equals", desc := "(Ljava/lang/Object;)Z" } : Jvm.MethodName) prog_37_method_7_code (3 : Nat) (Option.some Jvm.ClassFile.FieldType.boolean), Jvm.Cond.code ({ cls := "com/example/drumline/drumline/model/OverlapPolicy", name := "queue", desc := "()Lcom/example/drumline/drumline/model/OverlapPolicy;" } : Jvm.MethodName) prog_37_method_2_code (0 : Nat) (Option.some (Jvm.ClassFile.FieldType.object "com/example/drumline/drumline/model/OverlapPolicy")), Jvm.Cond.code ({ cls := "com/example/drumline/drumline/model/OverlapPolicy", name := "skip", desc := "()Lcom/example/drumline/drumline/model/OverlapPolicy;" } : Jvm.MethodName) prog_37_method_3_code (0 : Nat) (Option.some (Jvm.ClassFile.FieldType.object "com/example/drumline/drumline/model/OverlapPolicy")), Jvm.Cond.code ({ cls := "java/lang/Math", name := "max", desc := "(II)I" } : Jvm.MethodName) jdk_29_method_65_code (2 : Nat) (Option.some Jvm.ClassFile.FieldType.int)]
set_option maxRecDepth 65536 in
theorem codes_eq : words1.filter isCode = codes1 := rfl
theorem w_codes : ∀ c ∈ words1.filter isCode, c.before args0 about1 = true := by
  rw [codes_eq]
  intro c hc
  simp only [codes1, List.mem_cons, List.not_mem_nil, or_false] at hc
  rcases hc with rfl | rfl | rfl | rfl | rfl | rfl | rfl | rfl | rfl | rfl
  · exact w_c0
  · exact w_c1
  · exact w_c2
  · exact w_c3
  · exact w_c4
  · exact w_c5
  · exact w_c6
  · exact w_c7
  · exact w_c8
  · exact w_c9
set_option maxRecDepth 65536 in
theorem w_t1 : (words1.take 24).all (fun c => isCode c || c.before args0 about1) = true := by decide +kernel
set_option maxRecDepth 65536 in
theorem w_t2 : ((words1.drop 24).take 24).all (fun c => isCode c || c.before args0 about1) = true := by decide +kernel
set_option maxRecDepth 65536 in
theorem w_t3 : ((words1.drop 24).drop 24).all (fun c => isCode c || c.before args0 about1) = true := by decide +kernel
theorem w_tables : (allAtoms (Jvm.Cond.code x code maxLocals ret :: tables_1)).before args0 about1 = true := by
  rw [allAtoms_all]
  show words1.all (fun c => c.before args0 about1) = true
  refine all_split ?_ w_codes
  rw [← List.take_append_drop 24 words1, List.all_append, w_t1, ← List.take_append_drop 24 (words1.drop 24), List.all_append, w_t2, w_t3]
  rfl
set_option maxRecDepth 65536 in
theorem w_case : (Jvm.Cond.and given_1 narrow_1).before args0 about1 = true := by decide +kernel
theorem w_applies : (headSpec (Jvm.Cond.code x code maxLocals ret :: tables_1) room_1).applies x e0.platform about1 = true :=
  (Spec.applies_iff w_frames).mpr ⟨w_running, w_runnable, w_alone, w_named, w_hears, w_ripe, w_room, w_tables⟩
theorem atStart : AtStart classFile x code maxLocals ret World_1 tables_1 room_1 Calls_1 rest_1 Pre_1 launch0 p0 e0 about1 theMethod args0 below0 :=
  ⟨lists_1, trivial, launch0.admits_env _ _ _, launch0.least_env, fairChoices_fair.cas, fairChoices_fair.clock, w_frames, w_args, w_heap, w_applies, trivial, trivial, w_case⟩
end start1
theorem witness_1 : WitnessClaimed_1 := ⟨start1.p0, start1.e0, start1.about1, start1.theMethod, start1.args0, start1.below0, start1.atStart⟩
end Jvm.Pilot.@@N@@
