import JvmDerived
import JvmDerived.Pilot.@@N@@Statement
import JvmDerived.Pilot.@@N@@Code
set_option linter.unusedVariables false
set_option linter.unusedSimpArgs false
namespace Jvm.Pilot.@@N@@
open Jvm Jvm.ClassFile Sem Op Lib Jvm.Free Jvm.Stand Jvm.LawKit Jvm.RoadKit Bundle Jvm.Pilot.@@N@@.Jvm.D
/-- a body's contract by a walk whose goal is a predicate G: 'go' takes a step, 'fin' a return -/
theorem own_enter {l : Launch} {y : MethodName} {cd : ByteArray} {ml : Nat} {rt : Option FieldType} {ws : List Jvm.Cond} {R : Room} {Z : State} {h0 : Heap} {as : Array Value} {Q : Option Value → Heap → List Loc → Prop} (hpl : plainFor y = true)
    (body : ∀ (p : Program) (e : Env) (s : State) (m : MethodId) (below : List Frame) (meth : Method) (c : Code) (s₁ : State) (G : State → Prop),
      Stand p l e R s m as below meth c s₁ [] 0 0 → p.tables.exec = Jvm.exec → c.code = cd → c.maxLocals = ml → Z.Warmed39 s.vm → s.vm.findClass y.cls = some m.cls → meth.name = y.name → meth.sig.returnType = rt → s₁.heap = h0 →
      (∀ {a b : State}, (∀ t, Steps p.tables e below b t → Steps p.tables e below a t) → G b → G a) →
      (∀ {T : State} {locs : List Loc} {cells slots : Nat} {g : JFrame} (v : Option Value), Stand p l e R s m as below meth c T locs cells slots → (rt = none → v = none) →
        (∀ fs, (∀ (f : JFrame) (acts : List Action), f.method = m → f.locked = none → f.entered = [] → (doReturn e (T.setTop f) acts v).1 = T.setFrames fs) → Steps p.tables e below (T.setTop g) (T.setFrames fs)) →
        cells ≤ R.cells → slots ≤ R.slots → Q v T.heap locs → G (T.setTop g)) →
      G (s₁.setTop (entryFrame m as ml))) :
    MetFree l y (head1 (Jvm.Cond.code y cd ml rt :: ws) R) (fun a U => a = as ∧ Z.Warmed39 U.vm ∧ U.heap = h0) (fun _ _ _ _ _ => True) (fun _ U o U' => ∃ v L, o = .returned v ∧ Q v U'.heap L ∧ FrameEnd U o U' L R.cells R.slots) := by
  refine MetFree.of_bodySF hpl hisR ?_
  intro p e s m args below meth c s₁ Bd hml0 hP hK
  obtain ⟨rfl, hZ, hh⟩ := hP
  have hlk : meth.locks = false := Bd.notSynchronized
  have key := body p e s m below meth c s₁ (fun a => ∃ t, Steps p.tables e below a t ∧ ∃ o, t.status = .running ∧ Ended t below o ∧ ∃ v L, o = .returned v ∧ Q v t.heap L ∧ FrameEnd s o t L R.cells R.slots)
    (Stand.of_body Bd) Bd.exec Bd.bytes hml0 hZ (findClass_of_methodNamed Bd.named) (name_of_methodNamed Bd.named Bd.method).1 Bd.returns (by rw [← hh, Bd.state]; rfl)
    (fun h g => by obtain ⟨t, h1, h2⟩ := g; exact ⟨t, h t h1, h2⟩)
    (fun {T locs cells slots g} v X hv hs hc hsl hQ => by
      obtain ⟨fs, hr, hrun, hended, hW, hsame⟩ := X.leave (v := v) (fun h => hv (Bd.returns.symm.trans h)) hlk
      exact ⟨_, hs fs hr, _, hrun, hended, v, locs, rfl, hQ, ⟨_, rfl⟩, hW, hsame.mono hc hsl⟩)
  obtain ⟨t, h1, o, h2, h3, h4⟩ := key
  exact ⟨t, o, h1, h2, h3, h4⟩
theorem own_lrem {p : Program} {l : Launch} {e : Env} {R : Room} {s : State} {m : MethodId} {args : Array Value} {below : List Frame} {meth : Method} {c : Code} {T : State} {locs : List Loc} {cells slots : Nat} {g : JFrame} {target : State} (X : Stand p l e R s m args below meth c T locs cells slots) (hx : p.tables.exec = Jvm.exec) (hg : g.method = m) {x y : Int64} {rest : List Value} (hd : decode c.code g.pc = .ok (.lrem, 1)) (hs : g.stack = .long y :: .long x :: rest) (hy : y ≠ 0)
    (hr : Steps p.tables e below (T.setTop { g with pc := g.pc + 1, stack := .long (x % y) :: rest }) target) : Steps p.tables e below (T.setTop g) target := XS.lrem X.here hx hg hd hs hy (by rw [lrem_mod]; exact hr)
theorem own_irr (x : Int32) : ¬ x < x := Int32.lt_irrefl
theorem own_irrL (x : Int64) : ¬ x < x := Int64.lt_irrefl
theorem own_eq_int {a : Term} {k : Int32} {args : Array Value} {first s : State} {o : Option Outcome} {idx : List Nat} (h : (Jvm.Cond.eq a (.int k)).value args first o s idx = some true) : a.eval args first o idx s = some (.int k) := by
  obtain ⟨x, y, ha, hb, k1, k2⟩ := cmp_v (Or.inl h)
  cases (show some (Value.int k) = some y from hb)
  obtain ⟨z, rfl⟩ := k2
  have q : (Jvm.Cond.eq a (.int k)).value args first o s idx = some (decide (z = k)) := by simp [Cond.value, ha, Term.eval]
  rw [gotT q h] at ha
  exact ha
theorem own_eq_ref {a b : Term} {u : Addr} {args : Array Value} {first s : State} {o : Option Outcome} {idx : List Nat} (h : (Jvm.Cond.eq a b).value args first o s idx = some true) (hb : b.eval args first o idx s = some (.ref u)) : a.eval args first o idx s = some (.ref u) := by
  obtain ⟨x, y, ha, hb', k1, k2⟩ := cmp_v (Or.inl h)
  cases hb.symm.trans hb'
  have hr : x.isRef = true := by cases x <;> simp_all [Kin, Value.isRef]
  have q := gotT (eq_R ha hb hr rfl) h
  rw [q] at ha
  exact ha
theorem own_exa_ns {Z : State} {h : Heap} {a : Addr} {C : String} (F : Exa Z h a C) : ∀ cell : Cell, h[a]? = some cell → cell.vm.isStatics = false := fun cell hc => by
  obtain ⟨c, k, h1, -, -, h4, -⟩ := F
  cases hc.symm.trans h1
  exact h4
theorem own_sta_keep {Z : State} {h h' : Heap} {C n d : String} {v : Value} {ws : List Addr} (F : Sta Z h C n d v) (K : Keep h h' ws) (q : ∀ a ∈ ws, ∀ cell : Cell, h[a]? = some cell → cell.vm.isStatics = false) : Sta Z h' C n d v := by
  obtain ⟨cf, i, k, f, st, cell, h1, h2, h3, h4, h5, h6, h7⟩ := F
  exact ⟨cf, i, k, f, st, cell, h1, h2, h3, h4, K.2.1 _ _ h5 (fun z => by rw [q _ z _ h5] at h6; cases h6), h6, h7⟩
theorem own_len {s : State} {args : Array Value} {t : Term} {a : Addr} {cl : Cell} {ty : FieldType} {z : Int32} (ht : t.eval args s none [] s = some (.ref a)) (A : Arr s s.heap a cl ty) (h : (Term.length t).eval args s none [] s = some (.int z)) : cl.slots.size < 2 ^ 31 ∧ cl.slots.size.toInt32 = z := by
  have ha := Arr.fin (State.Warmed39.refl s).alike A
  by_cases hn : cl.slots.size < 2 ^ 31
  · have q := (len_f ht ha hn).symm.trans h
    exact ⟨hn, Value.int.inj (Option.some.inj q)⟩
  · simp [Term.eval, ht, ha] at h
    omega
theorem own_elem {s : State} {args : Array Value} {t : Term} {a : Addr} {cl : Cell} {ty : FieldType} {j : Int32} {v : Value} (ht : t.eval args s none [] s = some (.ref a)) (A : Arr s s.heap a cl ty) (h : (Term.elem t (.int j)).eval args s none [] s = some v) (hn : ¬ j < 0) : cl.slots[j.toNatClampNeg]? = some v :=
  (elem_f ht rfl (Arr.fin (State.Warmed39.refl s).alike A) hn).symm.trans h
theorem own_selp {Z s : State} {a0 args : Array Value} {y : MethodName} {n : Nat} (hZ : Z.Warmed39 s.vm) (wi : (Jvm.Cond.instantiable y.cls n).before a0 Z = true) (wp : (Jvm.Cond.privateMethod y).before a0 Z = true) (wm : (Jvm.Cond.instanceMethod y).before a0 Z = true) (hy : y.cls ≠ "java/lang/invoke/MethodHandle" ∧ y.cls ≠ "java/lang/invoke/VarHandle") : (Jvm.Cond.selects y.cls y y).before args s = true := by
  have wi' : (Jvm.Cond.instantiable y.cls n).before args s = true := mvT hZ wi
  obtain ⟨c, k, h1, h2, -, h4, -⟩ := Cond.instantiable_spec wi'
  exact selects_self_of_private h1 h2 (Bool.or_eq_false_iff.mp h4).1 (Cond.privateMethod_at (mvP hZ wp (args := args))) (mvT hZ wm) hy
def own_min (a b : Int32) : Int32 := if b < a then b else a
def own_max (a b : Int32) : Int32 := if a < b then b else a
def own_pick (a b c d : Int32) : Int32 := if (d &&& (7 : Int32)) = (1 : Int32) then a else if (d &&& (7 : Int32)) = (2 : Int32) then b else if (d &&& (7 : Int32)) = (3 : Int32) then a - 1 else if (d &&& (7 : Int32)) = (4 : Int32) then a + 1 else if (d &&& (7 : Int32)) = (5 : Int32) then b - 1 else if (d &&& (7 : Int32)) = (6 : Int32) then b + 1 else c
def own_con (a b v : Int32) : Int32 := if v < a then 0 else if b < v then 0 else 1
def own_exp (a b v : Int32) : Int32 := if b < a then 0 else if (own_max a (own_min v b)) = v then 1 else 0
theorem own_con_exp (a b v : Int32) : own_con a b v = own_exp a b v := by
  simp only [own_con, own_exp, own_max, own_min, Int32.lt_iff_toInt_lt, ← Int32.toInt_inj]
  repeat' split
  all_goals first | rfl | (exfalso; omega)
theorem ef_6 (m : MethodId) (x0 : Int32) (x1 : Int32) : entryFrame m #[(.int x0), (.int x1)] 2 = mkF m 0 #[.val (.int x0), .val (.int x1)] [] := by first | (simp [entryFrame, mkF, argsToLocals, Value.category]; done) | rfl
theorem d6_0 : decode jdk_29_method_69_code 0 = .ok (.iload_n 0, 1) := by decide +kernel
theorem d6_1 : decode jdk_29_method_69_code 1 = .ok (.iload_n 1, 1) := by decide +kernel
theorem d6_2 : decode jdk_29_method_69_code 2 = .ok (.if_icmp .gt 7, 3) := by decide +kernel
theorem d6_9 : decode jdk_29_method_69_code 9 = .ok (.iload_n 1, 1) := by decide +kernel
theorem d6_10 : decode jdk_29_method_69_code 10 = .ok (.ireturn, 1) := by decide +kernel
theorem d6_5 : decode jdk_29_method_69_code 5 = .ok (.iload_n 0, 1) := by decide +kernel
theorem d6_6 : decode jdk_29_method_69_code 6 = .ok (.goto 4, 3) := by decide +kernel
def Q_rm6 (Z : State) (xa : Int32) (xb : Int32) (h0 : Heap) (n0 : Nat) (v : Option Value) (h : Heap) (L : List Loc) : Prop := v = some (.int (own_min xa xb)) ∧ Fr n0 L ∧ h = h0
set_option maxRecDepth 65536 in
set_option maxHeartbeats 40000000 in
theorem rm6 (l : Launch) (Z : State) (a0 : Array Value) (hw : ∀ d ∈ tables_1, d.before a0 Z = true) (ws : List Jvm.Cond) (xa : Int32) (xb : Int32) (h0 : Heap) (n0 : Nat) (Z0 : n0 ≤ h0.size) :
    MetFree l (⟨"java/lang/Math", "min", "(II)I"⟩ : MethodName) (head1 (Jvm.Cond.code (⟨"java/lang/Math", "min", "(II)I"⟩ : MethodName) jdk_29_method_69_code 2 (some .int) :: ws) ({ frames := 0, cells := 0, slots := 0, locals := 0 } : Room)) (fun a U => a = #[(.int xa), (.int xb)] ∧ Z.Warmed39 U.vm ∧ U.heap = h0) (fun _ _ _ _ _ => True) (fun _ U o U' => ∃ v L, o = .returned v ∧ Q_rm6 Z xa xb h0 n0 v U'.heap L ∧ FrameEnd U o U' L ({ frames := 0, cells := 0, slots := 0, locals := 0 } : Room).cells ({ frames := 0, cells := 0, slots := 0, locals := 0 } : Room).slots) := by
  refine own_enter (Q := Q_rm6 Z xa xb h0 n0) (Jvm.Free.JP.mathPlain rfl (by decide +kernel)) ?_
  intro p e s m below meth c s₁ G X0 hx hby hml hZ hown hnm hret e0 go fin
  replace hown : s.vm.findClass "java/lang/Math" = some m.cls := hown
  replace hnm : meth.name = "min" := hnm
  replace hml : c.maxLocals = 2 := hml
  rw [ef_6 m xa xb]
  have N0 := Fr.nil n0
  show G (s₁.setTop (mkF m 0 #[.val (.int xa), .val (.int xb)] []))
  refine go (fun tg kg => XS.iloadN X0.here hx rfl (hb hby d6_0) rfl kg) ?_
  show G (s₁.setTop (mkF m 1 #[.val (.int xa), .val (.int xb)] [(.int xa)]))
  refine go (fun tg kg => XS.iloadN X0.here hx rfl (hb hby d6_1) rfl kg) ?_
  show G (s₁.setTop (mkF m 2 #[.val (.int xa), .val (.int xb)] [(.int xb), (.int xa)]))
  by_cases hc1 : xb < xa
  · refine go (fun tg kg => XS.icmpYes X0.here hx rfl (pc0 := 2) (pc' := 9) rfl (hb hby d6_2) rfl (tlt hc1).2.2.1 (by decide) (by decide) kg) ?_
    show G (s₁.setTop (mkF m 9 #[.val (.int xa), .val (.int xb)] []))
    refine go (fun tg kg => XS.iloadN X0.here hx rfl (hb hby d6_9) rfl kg) ?_
    show G (s₁.setTop (mkF m 10 #[.val (.int xa), .val (.int xb)] [(.int xb)]))
    refine fin (some (.int xb)) X0 (fun h => absurd h (by decide)) (fun fs hr => retOut X0 hx hret rfl (Or.inl ⟨rfl, Or.inl rfl, _, rfl⟩) (hb hby d6_10) hr) (by decide) (by decide) ?_
    rw [e0]
    exact ⟨by simp only [own_min, if_pos hc1], N0, rfl⟩
  · refine go (fun tg kg => XS.icmpNo X0.here hx rfl (hb hby d6_2) rfl (flt hc1).2.2.1 kg) ?_
    show G (s₁.setTop (mkF m 5 #[.val (.int xa), .val (.int xb)] []))
    refine go (fun tg kg => XS.iloadN X0.here hx rfl (hb hby d6_5) rfl kg) ?_
    show G (s₁.setTop (mkF m 6 #[.val (.int xa), .val (.int xb)] [(.int xa)]))
    refine go (fun tg kg => XS.goto X0.here hx rfl (pc0 := 6) (pc' := 10) rfl (hb hby d6_6) (by decide) (by decide) kg) ?_
    show G (s₁.setTop (mkF m 10 #[.val (.int xa), .val (.int xb)] [(.int xa)]))
    refine fin (some (.int xa)) X0 (fun h => absurd h (by decide)) (fun fs hr => retOut X0 hx hret rfl (Or.inl ⟨rfl, Or.inl rfl, _, rfl⟩) (hb hby d6_10) hr) (by decide) (by decide) ?_
    rw [e0]
    exact ⟨by simp only [own_min, if_neg hc1], N0, rfl⟩
theorem ef_7 (m : MethodId) (x0 : Int32) (x1 : Int32) : entryFrame m #[(.int x0), (.int x1)] 2 = mkF m 0 #[.val (.int x0), .val (.int x1)] [] := by first | (simp [entryFrame, mkF, argsToLocals, Value.category]; done) | rfl
theorem d7_0 : decode jdk_29_method_65_code 0 = .ok (.iload_n 0, 1) := by decide +kernel
theorem d7_1 : decode jdk_29_method_65_code 1 = .ok (.iload_n 1, 1) := by decide +kernel
theorem d7_2 : decode jdk_29_method_65_code 2 = .ok (.if_icmp .lt 7, 3) := by decide +kernel
theorem d7_9 : decode jdk_29_method_65_code 9 = .ok (.iload_n 1, 1) := by decide +kernel
theorem d7_10 : decode jdk_29_method_65_code 10 = .ok (.ireturn, 1) := by decide +kernel
theorem d7_5 : decode jdk_29_method_65_code 5 = .ok (.iload_n 0, 1) := by decide +kernel
theorem d7_6 : decode jdk_29_method_65_code 6 = .ok (.goto 4, 3) := by decide +kernel
def Q_rm7 (Z : State) (xa : Int32) (xb : Int32) (h0 : Heap) (n0 : Nat) (v : Option Value) (h : Heap) (L : List Loc) : Prop := v = some (.int (own_max xa xb)) ∧ Fr n0 L ∧ h = h0
set_option maxRecDepth 65536 in
set_option maxHeartbeats 40000000 in
theorem rm7 (l : Launch) (Z : State) (a0 : Array Value) (hw : ∀ d ∈ tables_1, d.before a0 Z = true) (ws : List Jvm.Cond) (xa : Int32) (xb : Int32) (h0 : Heap) (n0 : Nat) (Z0 : n0 ≤ h0.size) :
    MetFree l (⟨"java/lang/Math", "max", "(II)I"⟩ : MethodName) (head1 (Jvm.Cond.code (⟨"java/lang/Math", "max", "(II)I"⟩ : MethodName) jdk_29_method_65_code 2 (some .int) :: ws) ({ frames := 0, cells := 0, slots := 0, locals := 0 } : Room)) (fun a U => a = #[(.int xa), (.int xb)] ∧ Z.Warmed39 U.vm ∧ U.heap = h0) (fun _ _ _ _ _ => True) (fun _ U o U' => ∃ v L, o = .returned v ∧ Q_rm7 Z xa xb h0 n0 v U'.heap L ∧ FrameEnd U o U' L ({ frames := 0, cells := 0, slots := 0, locals := 0 } : Room).cells ({ frames := 0, cells := 0, slots := 0, locals := 0 } : Room).slots) := by
  refine own_enter (Q := Q_rm7 Z xa xb h0 n0) (Jvm.Free.JP.mathPlain rfl (by decide +kernel)) ?_
  intro p e s m below meth c s₁ G X0 hx hby hml hZ hown hnm hret e0 go fin
  replace hown : s.vm.findClass "java/lang/Math" = some m.cls := hown
  replace hnm : meth.name = "max" := hnm
  replace hml : c.maxLocals = 2 := hml
  rw [ef_7 m xa xb]
  have N0 := Fr.nil n0
  show G (s₁.setTop (mkF m 0 #[.val (.int xa), .val (.int xb)] []))
  refine go (fun tg kg => XS.iloadN X0.here hx rfl (hb hby d7_0) rfl kg) ?_
  show G (s₁.setTop (mkF m 1 #[.val (.int xa), .val (.int xb)] [(.int xa)]))
  refine go (fun tg kg => XS.iloadN X0.here hx rfl (hb hby d7_1) rfl kg) ?_
  show G (s₁.setTop (mkF m 2 #[.val (.int xa), .val (.int xb)] [(.int xb), (.int xa)]))
  by_cases hc1 : xa < xb
  · refine go (fun tg kg => XS.icmpYes X0.here hx rfl (pc0 := 2) (pc' := 9) rfl (hb hby d7_2) rfl (tlt hc1).1 (by decide) (by decide) kg) ?_
    show G (s₁.setTop (mkF m 9 #[.val (.int xa), .val (.int xb)] []))
    refine go (fun tg kg => XS.iloadN X0.here hx rfl (hb hby d7_9) rfl kg) ?_
    show G (s₁.setTop (mkF m 10 #[.val (.int xa), .val (.int xb)] [(.int xb)]))
    refine fin (some (.int xb)) X0 (fun h => absurd h (by decide)) (fun fs hr => retOut X0 hx hret rfl (Or.inl ⟨rfl, Or.inl rfl, _, rfl⟩) (hb hby d7_10) hr) (by decide) (by decide) ?_
    rw [e0]
    exact ⟨by simp only [own_max, if_pos hc1], N0, rfl⟩
  · refine go (fun tg kg => XS.icmpNo X0.here hx rfl (hb hby d7_2) rfl (flt hc1).1 kg) ?_
    show G (s₁.setTop (mkF m 5 #[.val (.int xa), .val (.int xb)] []))
    refine go (fun tg kg => XS.iloadN X0.here hx rfl (hb hby d7_5) rfl kg) ?_
    show G (s₁.setTop (mkF m 6 #[.val (.int xa), .val (.int xb)] [(.int xa)]))
    refine go (fun tg kg => XS.goto X0.here hx rfl (pc0 := 6) (pc' := 10) rfl (hb hby d7_6) (by decide) (by decide) kg) ?_
    show G (s₁.setTop (mkF m 10 #[.val (.int xa), .val (.int xb)] [(.int xa)]))
    refine fin (some (.int xa)) X0 (fun h => absurd h (by decide)) (fun fs hr => retOut X0 hx hret rfl (Or.inl ⟨rfl, Or.inl rfl, _, rfl⟩) (hb hby d7_10) hr) (by decide) (by decide) ?_
    rw [e0]
    exact ⟨by simp only [own_max, if_neg hc1], N0, rfl⟩
theorem pn_com_example_schema_dates_schemadates_PartRangeContainsPinLaw : plainName "com/example/schema_dates/schemadates/PartRangeContainsPinLaw" = true := by first | (simp [plainName, overriddenIn]; done) | decide +kernel
theorem ef_1 (m : MethodId) (x0 : Int32) (x1 : Int32) (x2 : Int32) (x3 : Int32) : entryFrame m #[(.int x0), (.int x1), (.int x2), (.int x3)] 5 = mkF m 0 #[.val (.int x0), .val (.int x1), .val (.int x2), .val (.int x3), .unset] [] := by first | (simp [entryFrame, mkF, argsToLocals, Value.category]; done) | rfl
theorem d1_0 : decode method_2_code 0 = .ok (.iload_n 3, 1) := by decide +kernel
theorem d1_1 : decode method_2_code 1 = .ok (.bipush 7, 2) := by decide +kernel
theorem d1_3 : decode method_2_code 3 = .ok (.iand, 1) := by decide +kernel
theorem d1_4 : decode method_2_code 4 = .ok (.istore 4, 2) := by decide +kernel
theorem d1_6 : decode method_2_code 6 = .ok (.iload 4, 2) := by decide +kernel
theorem d1_8 : decode method_2_code 8 = .ok (.iconst 1, 1) := by decide +kernel
theorem d1_9 : decode method_2_code 9 = .ok (.if_icmp .ne 5, 3) := by decide +kernel
theorem d1_12 : decode method_2_code 12 = .ok (.iload_n 0, 1) := by decide +kernel
theorem d1_13 : decode method_2_code 13 = .ok (.ireturn, 1) := by decide +kernel
theorem d1_14 : decode method_2_code 14 = .ok (.iload 4, 2) := by decide +kernel
theorem d1_16 : decode method_2_code 16 = .ok (.iconst 2, 1) := by decide +kernel
theorem d1_17 : decode method_2_code 17 = .ok (.if_icmp .ne 5, 3) := by decide +kernel
theorem d1_20 : decode method_2_code 20 = .ok (.iload_n 1, 1) := by decide +kernel
theorem d1_21 : decode method_2_code 21 = .ok (.ireturn, 1) := by decide +kernel
theorem d1_22 : decode method_2_code 22 = .ok (.iload 4, 2) := by decide +kernel
theorem d1_24 : decode method_2_code 24 = .ok (.iconst 3, 1) := by decide +kernel
theorem d1_25 : decode method_2_code 25 = .ok (.if_icmp .ne 7, 3) := by decide +kernel
theorem d1_28 : decode method_2_code 28 = .ok (.iload_n 0, 1) := by decide +kernel
theorem d1_29 : decode method_2_code 29 = .ok (.iconst 1, 1) := by decide +kernel
theorem d1_30 : decode method_2_code 30 = .ok (.isub, 1) := by decide +kernel
theorem d1_31 : decode method_2_code 31 = .ok (.ireturn, 1) := by decide +kernel
theorem d1_32 : decode method_2_code 32 = .ok (.iload 4, 2) := by decide +kernel
theorem d1_34 : decode method_2_code 34 = .ok (.iconst 4, 1) := by decide +kernel
theorem d1_35 : decode method_2_code 35 = .ok (.if_icmp .ne 7, 3) := by decide +kernel
theorem d1_38 : decode method_2_code 38 = .ok (.iload_n 0, 1) := by decide +kernel
theorem d1_39 : decode method_2_code 39 = .ok (.iconst 1, 1) := by decide +kernel
theorem d1_40 : decode method_2_code 40 = .ok (.iadd, 1) := by decide +kernel
theorem d1_41 : decode method_2_code 41 = .ok (.ireturn, 1) := by decide +kernel
theorem d1_42 : decode method_2_code 42 = .ok (.iload 4, 2) := by decide +kernel
theorem d1_44 : decode method_2_code 44 = .ok (.iconst 5, 1) := by decide +kernel
theorem d1_45 : decode method_2_code 45 = .ok (.if_icmp .ne 7, 3) := by decide +kernel
theorem d1_48 : decode method_2_code 48 = .ok (.iload_n 1, 1) := by decide +kernel
theorem d1_49 : decode method_2_code 49 = .ok (.iconst 1, 1) := by decide +kernel
theorem d1_50 : decode method_2_code 50 = .ok (.isub, 1) := by decide +kernel
theorem d1_51 : decode method_2_code 51 = .ok (.ireturn, 1) := by decide +kernel
theorem d1_52 : decode method_2_code 52 = .ok (.iload 4, 2) := by decide +kernel
theorem d1_54 : decode method_2_code 54 = .ok (.bipush 6, 2) := by decide +kernel
theorem d1_56 : decode method_2_code 56 = .ok (.if_icmp .ne 7, 3) := by decide +kernel
theorem d1_59 : decode method_2_code 59 = .ok (.iload_n 1, 1) := by decide +kernel
theorem d1_60 : decode method_2_code 60 = .ok (.iconst 1, 1) := by decide +kernel
theorem d1_61 : decode method_2_code 61 = .ok (.iadd, 1) := by decide +kernel
theorem d1_62 : decode method_2_code 62 = .ok (.ireturn, 1) := by decide +kernel
theorem d1_63 : decode method_2_code 63 = .ok (.iload_n 2, 1) := by decide +kernel
theorem d1_64 : decode method_2_code 64 = .ok (.ireturn, 1) := by decide +kernel
def Q_rm1 (Z : State) (xa : Int32) (xb : Int32) (xr : Int32) (xs : Int32) (h0 : Heap) (n0 : Nat) (v : Option Value) (h : Heap) (L : List Loc) : Prop := v = some (.int (own_pick xa xb xr xs)) ∧ Fr n0 L ∧ h = h0
set_option maxRecDepth 65536 in
set_option maxHeartbeats 40000000 in
theorem rm1 (l : Launch) (Z : State) (a0 : Array Value) (hw : ∀ d ∈ tables_1, d.before a0 Z = true) (ws : List Jvm.Cond) (xa : Int32) (xb : Int32) (xr : Int32) (xs : Int32) (h0 : Heap) (n0 : Nat) (Z0 : n0 ≤ h0.size) :
    MetFree l (⟨"com/example/schema_dates/schemadates/PartRangeContainsPinLaw", "pick", "(IIII)I"⟩ : MethodName) (head1 (Jvm.Cond.code (⟨"com/example/schema_dates/schemadates/PartRangeContainsPinLaw", "pick", "(IIII)I"⟩ : MethodName) method_2_code 5 (some .int) :: ws) ({ frames := 0, cells := 0, slots := 0, locals := 0 } : Room)) (fun a U => a = #[(.int xa), (.int xb), (.int xr), (.int xs)] ∧ Z.Warmed39 U.vm ∧ U.heap = h0) (fun _ _ _ _ _ => True) (fun _ U o U' => ∃ v L, o = .returned v ∧ Q_rm1 Z xa xb xr xs h0 n0 v U'.heap L ∧ FrameEnd U o U' L ({ frames := 0, cells := 0, slots := 0, locals := 0 } : Room).cells ({ frames := 0, cells := 0, slots := 0, locals := 0 } : Room).slots) := by
  refine own_enter (Q := Q_rm1 Z xa xb xr xs h0 n0) (plainFor_of_name pn_com_example_schema_dates_schemadates_PartRangeContainsPinLaw) ?_
  intro p e s m below meth c s₁ G X0 hx hby hml hZ hown hnm hret e0 go fin
  replace hown : s.vm.findClass "com/example/schema_dates/schemadates/PartRangeContainsPinLaw" = some m.cls := hown
  replace hnm : meth.name = "pick" := hnm
  replace hml : c.maxLocals = 5 := hml
  rw [ef_1 m xa xb xr xs]
  have N0 := Fr.nil n0
  show G (s₁.setTop (mkF m 0 #[.val (.int xa), .val (.int xb), .val (.int xr), .val (.int xs), .unset] []))
  refine go (fun tg kg => XS.iloadN X0.here hx rfl (hb hby d1_0) rfl kg) ?_
  show G (s₁.setTop (mkF m 1 #[.val (.int xa), .val (.int xb), .val (.int xr), .val (.int xs), .unset] [(.int xs)]))
  refine go (fun tg kg => XS.bipush X0.here hx rfl (hb hby d1_1) kg) ?_
  show G (s₁.setTop (mkF m 3 #[.val (.int xa), .val (.int xb), .val (.int xr), .val (.int xs), .unset] [(.int (7 : Int32)), (.int xs)]))
  refine go (fun tg kg => XS.iand X0.here hx rfl (hb hby d1_3) rfl kg) ?_
  show G (s₁.setTop (mkF m 4 #[.val (.int xa), .val (.int xb), .val (.int xr), .val (.int xs), .unset] [(.int (xs &&& (7 : Int32)))]))
  refine go (fun tg kg => XS.istore X0.here hx rfl (hb hby d1_4) rfl (l' := #[.val (.int xa), .val (.int xb), .val (.int xr), .val (.int xs), .val (.int (xs &&& (7 : Int32)))]) rfl kg) ?_
  show G (s₁.setTop (mkF m 6 #[.val (.int xa), .val (.int xb), .val (.int xr), .val (.int xs), .val (.int (xs &&& (7 : Int32)))] []))
  refine go (fun tg kg => XS.iload X0.here hx rfl (hb hby d1_6) rfl kg) ?_
  show G (s₁.setTop (mkF m 8 #[.val (.int xa), .val (.int xb), .val (.int xr), .val (.int xs), .val (.int (xs &&& (7 : Int32)))] [(.int (xs &&& (7 : Int32)))]))
  refine go (fun tg kg => XS.iconst X0.here hx rfl (hb hby d1_8) kg) ?_
  show G (s₁.setTop (mkF m 9 #[.val (.int xa), .val (.int xb), .val (.int xr), .val (.int xs), .val (.int (xs &&& (7 : Int32)))] [(.int (1 : Int32)), (.int (xs &&& (7 : Int32)))]))
  by_cases hc1 : (xs &&& (7 : Int32)) = (1 : Int32)
  · refine go (fun tg kg => XS.icmpNo X0.here hx rfl (hb hby d1_9) rfl (teq hc1).2 kg) ?_
    show G (s₁.setTop (mkF m 12 #[.val (.int xa), .val (.int xb), .val (.int xr), .val (.int xs), .val (.int (xs &&& (7 : Int32)))] []))
    refine go (fun tg kg => XS.iloadN X0.here hx rfl (hb hby d1_12) rfl kg) ?_
    show G (s₁.setTop (mkF m 13 #[.val (.int xa), .val (.int xb), .val (.int xr), .val (.int xs), .val (.int (xs &&& (7 : Int32)))] [(.int xa)]))
    refine fin (some (.int xa)) X0 (fun h => absurd h (by decide)) (fun fs hr => retOut X0 hx hret rfl (Or.inl ⟨rfl, Or.inl rfl, _, rfl⟩) (hb hby d1_13) hr) (by decide) (by decide) ?_
    rw [e0]
    exact ⟨by simp only [own_pick, if_pos hc1], N0, rfl⟩
  · refine go (fun tg kg => XS.icmpYes X0.here hx rfl (pc0 := 9) (pc' := 14) rfl (hb hby d1_9) rfl (feq hc1).2 (by decide) (by decide) kg) ?_
    show G (s₁.setTop (mkF m 14 #[.val (.int xa), .val (.int xb), .val (.int xr), .val (.int xs), .val (.int (xs &&& (7 : Int32)))] []))
    refine go (fun tg kg => XS.iload X0.here hx rfl (hb hby d1_14) rfl kg) ?_
    show G (s₁.setTop (mkF m 16 #[.val (.int xa), .val (.int xb), .val (.int xr), .val (.int xs), .val (.int (xs &&& (7 : Int32)))] [(.int (xs &&& (7 : Int32)))]))
    refine go (fun tg kg => XS.iconst X0.here hx rfl (hb hby d1_16) kg) ?_
    show G (s₁.setTop (mkF m 17 #[.val (.int xa), .val (.int xb), .val (.int xr), .val (.int xs), .val (.int (xs &&& (7 : Int32)))] [(.int (2 : Int32)), (.int (xs &&& (7 : Int32)))]))
    by_cases hc2 : (xs &&& (7 : Int32)) = (2 : Int32)
    · refine go (fun tg kg => XS.icmpNo X0.here hx rfl (hb hby d1_17) rfl (teq hc2).2 kg) ?_
      show G (s₁.setTop (mkF m 20 #[.val (.int xa), .val (.int xb), .val (.int xr), .val (.int xs), .val (.int (xs &&& (7 : Int32)))] []))
      refine go (fun tg kg => XS.iloadN X0.here hx rfl (hb hby d1_20) rfl kg) ?_
      show G (s₁.setTop (mkF m 21 #[.val (.int xa), .val (.int xb), .val (.int xr), .val (.int xs), .val (.int (xs &&& (7 : Int32)))] [(.int xb)]))
      refine fin (some (.int xb)) X0 (fun h => absurd h (by decide)) (fun fs hr => retOut X0 hx hret rfl (Or.inl ⟨rfl, Or.inl rfl, _, rfl⟩) (hb hby d1_21) hr) (by decide) (by decide) ?_
      rw [e0]
      exact ⟨by simp only [own_pick, if_neg hc1, if_pos hc2], N0, rfl⟩
    · refine go (fun tg kg => XS.icmpYes X0.here hx rfl (pc0 := 17) (pc' := 22) rfl (hb hby d1_17) rfl (feq hc2).2 (by decide) (by decide) kg) ?_
      show G (s₁.setTop (mkF m 22 #[.val (.int xa), .val (.int xb), .val (.int xr), .val (.int xs), .val (.int (xs &&& (7 : Int32)))] []))
      refine go (fun tg kg => XS.iload X0.here hx rfl (hb hby d1_22) rfl kg) ?_
      show G (s₁.setTop (mkF m 24 #[.val (.int xa), .val (.int xb), .val (.int xr), .val (.int xs), .val (.int (xs &&& (7 : Int32)))] [(.int (xs &&& (7 : Int32)))]))
      refine go (fun tg kg => XS.iconst X0.here hx rfl (hb hby d1_24) kg) ?_
      show G (s₁.setTop (mkF m 25 #[.val (.int xa), .val (.int xb), .val (.int xr), .val (.int xs), .val (.int (xs &&& (7 : Int32)))] [(.int (3 : Int32)), (.int (xs &&& (7 : Int32)))]))
      by_cases hc3 : (xs &&& (7 : Int32)) = (3 : Int32)
      · refine go (fun tg kg => XS.icmpNo X0.here hx rfl (hb hby d1_25) rfl (teq hc3).2 kg) ?_
        show G (s₁.setTop (mkF m 28 #[.val (.int xa), .val (.int xb), .val (.int xr), .val (.int xs), .val (.int (xs &&& (7 : Int32)))] []))
        refine go (fun tg kg => XS.iloadN X0.here hx rfl (hb hby d1_28) rfl kg) ?_
        show G (s₁.setTop (mkF m 29 #[.val (.int xa), .val (.int xb), .val (.int xr), .val (.int xs), .val (.int (xs &&& (7 : Int32)))] [(.int xa)]))
        refine go (fun tg kg => XS.iconst X0.here hx rfl (hb hby d1_29) kg) ?_
        show G (s₁.setTop (mkF m 30 #[.val (.int xa), .val (.int xb), .val (.int xr), .val (.int xs), .val (.int (xs &&& (7 : Int32)))] [(.int (1 : Int32)), (.int xa)]))
        refine go (fun tg kg => XS.isub X0.here hx rfl (hb hby d1_30) rfl kg) ?_
        show G (s₁.setTop (mkF m 31 #[.val (.int xa), .val (.int xb), .val (.int xr), .val (.int xs), .val (.int (xs &&& (7 : Int32)))] [(.int (xa - (1 : Int32)))]))
        refine fin (some (.int (xa - (1 : Int32)))) X0 (fun h => absurd h (by decide)) (fun fs hr => retOut X0 hx hret rfl (Or.inl ⟨rfl, Or.inl rfl, _, rfl⟩) (hb hby d1_31) hr) (by decide) (by decide) ?_
        rw [e0]
        exact ⟨by simp only [own_pick, if_neg hc1, if_neg hc2, if_pos hc3], N0, rfl⟩
      · refine go (fun tg kg => XS.icmpYes X0.here hx rfl (pc0 := 25) (pc' := 32) rfl (hb hby d1_25) rfl (feq hc3).2 (by decide) (by decide) kg) ?_
        show G (s₁.setTop (mkF m 32 #[.val (.int xa), .val (.int xb), .val (.int xr), .val (.int xs), .val (.int (xs &&& (7 : Int32)))] []))
        refine go (fun tg kg => XS.iload X0.here hx rfl (hb hby d1_32) rfl kg) ?_
        show G (s₁.setTop (mkF m 34 #[.val (.int xa), .val (.int xb), .val (.int xr), .val (.int xs), .val (.int (xs &&& (7 : Int32)))] [(.int (xs &&& (7 : Int32)))]))
        refine go (fun tg kg => XS.iconst X0.here hx rfl (hb hby d1_34) kg) ?_
        show G (s₁.setTop (mkF m 35 #[.val (.int xa), .val (.int xb), .val (.int xr), .val (.int xs), .val (.int (xs &&& (7 : Int32)))] [(.int (4 : Int32)), (.int (xs &&& (7 : Int32)))]))
        by_cases hc4 : (xs &&& (7 : Int32)) = (4 : Int32)
        · refine go (fun tg kg => XS.icmpNo X0.here hx rfl (hb hby d1_35) rfl (teq hc4).2 kg) ?_
          show G (s₁.setTop (mkF m 38 #[.val (.int xa), .val (.int xb), .val (.int xr), .val (.int xs), .val (.int (xs &&& (7 : Int32)))] []))
          refine go (fun tg kg => XS.iloadN X0.here hx rfl (hb hby d1_38) rfl kg) ?_
          show G (s₁.setTop (mkF m 39 #[.val (.int xa), .val (.int xb), .val (.int xr), .val (.int xs), .val (.int (xs &&& (7 : Int32)))] [(.int xa)]))
          refine go (fun tg kg => XS.iconst X0.here hx rfl (hb hby d1_39) kg) ?_
          show G (s₁.setTop (mkF m 40 #[.val (.int xa), .val (.int xb), .val (.int xr), .val (.int xs), .val (.int (xs &&& (7 : Int32)))] [(.int (1 : Int32)), (.int xa)]))
          refine go (fun tg kg => XS.iadd X0.here hx rfl (hb hby d1_40) rfl kg) ?_
          show G (s₁.setTop (mkF m 41 #[.val (.int xa), .val (.int xb), .val (.int xr), .val (.int xs), .val (.int (xs &&& (7 : Int32)))] [(.int (xa + (1 : Int32)))]))
          refine fin (some (.int (xa + (1 : Int32)))) X0 (fun h => absurd h (by decide)) (fun fs hr => retOut X0 hx hret rfl (Or.inl ⟨rfl, Or.inl rfl, _, rfl⟩) (hb hby d1_41) hr) (by decide) (by decide) ?_
          rw [e0]
          exact ⟨by simp only [own_pick, if_neg hc1, if_neg hc2, if_neg hc3, if_pos hc4], N0, rfl⟩
        · refine go (fun tg kg => XS.icmpYes X0.here hx rfl (pc0 := 35) (pc' := 42) rfl (hb hby d1_35) rfl (feq hc4).2 (by decide) (by decide) kg) ?_
          show G (s₁.setTop (mkF m 42 #[.val (.int xa), .val (.int xb), .val (.int xr), .val (.int xs), .val (.int (xs &&& (7 : Int32)))] []))
          refine go (fun tg kg => XS.iload X0.here hx rfl (hb hby d1_42) rfl kg) ?_
          show G (s₁.setTop (mkF m 44 #[.val (.int xa), .val (.int xb), .val (.int xr), .val (.int xs), .val (.int (xs &&& (7 : Int32)))] [(.int (xs &&& (7 : Int32)))]))
          refine go (fun tg kg => XS.iconst X0.here hx rfl (hb hby d1_44) kg) ?_
          show G (s₁.setTop (mkF m 45 #[.val (.int xa), .val (.int xb), .val (.int xr), .val (.int xs), .val (.int (xs &&& (7 : Int32)))] [(.int (5 : Int32)), (.int (xs &&& (7 : Int32)))]))
          by_cases hc5 : (xs &&& (7 : Int32)) = (5 : Int32)
          · refine go (fun tg kg => XS.icmpNo X0.here hx rfl (hb hby d1_45) rfl (teq hc5).2 kg) ?_
            show G (s₁.setTop (mkF m 48 #[.val (.int xa), .val (.int xb), .val (.int xr), .val (.int xs), .val (.int (xs &&& (7 : Int32)))] []))
            refine go (fun tg kg => XS.iloadN X0.here hx rfl (hb hby d1_48) rfl kg) ?_
            show G (s₁.setTop (mkF m 49 #[.val (.int xa), .val (.int xb), .val (.int xr), .val (.int xs), .val (.int (xs &&& (7 : Int32)))] [(.int xb)]))
            refine go (fun tg kg => XS.iconst X0.here hx rfl (hb hby d1_49) kg) ?_
            show G (s₁.setTop (mkF m 50 #[.val (.int xa), .val (.int xb), .val (.int xr), .val (.int xs), .val (.int (xs &&& (7 : Int32)))] [(.int (1 : Int32)), (.int xb)]))
            refine go (fun tg kg => XS.isub X0.here hx rfl (hb hby d1_50) rfl kg) ?_
            show G (s₁.setTop (mkF m 51 #[.val (.int xa), .val (.int xb), .val (.int xr), .val (.int xs), .val (.int (xs &&& (7 : Int32)))] [(.int (xb - (1 : Int32)))]))
            refine fin (some (.int (xb - (1 : Int32)))) X0 (fun h => absurd h (by decide)) (fun fs hr => retOut X0 hx hret rfl (Or.inl ⟨rfl, Or.inl rfl, _, rfl⟩) (hb hby d1_51) hr) (by decide) (by decide) ?_
            rw [e0]
            exact ⟨by simp only [own_pick, if_neg hc1, if_neg hc2, if_neg hc3, if_neg hc4, if_pos hc5], N0, rfl⟩
          · refine go (fun tg kg => XS.icmpYes X0.here hx rfl (pc0 := 45) (pc' := 52) rfl (hb hby d1_45) rfl (feq hc5).2 (by decide) (by decide) kg) ?_
            show G (s₁.setTop (mkF m 52 #[.val (.int xa), .val (.int xb), .val (.int xr), .val (.int xs), .val (.int (xs &&& (7 : Int32)))] []))
            refine go (fun tg kg => XS.iload X0.here hx rfl (hb hby d1_52) rfl kg) ?_
            show G (s₁.setTop (mkF m 54 #[.val (.int xa), .val (.int xb), .val (.int xr), .val (.int xs), .val (.int (xs &&& (7 : Int32)))] [(.int (xs &&& (7 : Int32)))]))
            refine go (fun tg kg => XS.bipush X0.here hx rfl (hb hby d1_54) kg) ?_
            show G (s₁.setTop (mkF m 56 #[.val (.int xa), .val (.int xb), .val (.int xr), .val (.int xs), .val (.int (xs &&& (7 : Int32)))] [(.int (6 : Int32)), (.int (xs &&& (7 : Int32)))]))
            by_cases hc6 : (xs &&& (7 : Int32)) = (6 : Int32)
            · refine go (fun tg kg => XS.icmpNo X0.here hx rfl (hb hby d1_56) rfl (teq hc6).2 kg) ?_
              show G (s₁.setTop (mkF m 59 #[.val (.int xa), .val (.int xb), .val (.int xr), .val (.int xs), .val (.int (xs &&& (7 : Int32)))] []))
              refine go (fun tg kg => XS.iloadN X0.here hx rfl (hb hby d1_59) rfl kg) ?_
              show G (s₁.setTop (mkF m 60 #[.val (.int xa), .val (.int xb), .val (.int xr), .val (.int xs), .val (.int (xs &&& (7 : Int32)))] [(.int xb)]))
              refine go (fun tg kg => XS.iconst X0.here hx rfl (hb hby d1_60) kg) ?_
              show G (s₁.setTop (mkF m 61 #[.val (.int xa), .val (.int xb), .val (.int xr), .val (.int xs), .val (.int (xs &&& (7 : Int32)))] [(.int (1 : Int32)), (.int xb)]))
              refine go (fun tg kg => XS.iadd X0.here hx rfl (hb hby d1_61) rfl kg) ?_
              show G (s₁.setTop (mkF m 62 #[.val (.int xa), .val (.int xb), .val (.int xr), .val (.int xs), .val (.int (xs &&& (7 : Int32)))] [(.int (xb + (1 : Int32)))]))
              refine fin (some (.int (xb + (1 : Int32)))) X0 (fun h => absurd h (by decide)) (fun fs hr => retOut X0 hx hret rfl (Or.inl ⟨rfl, Or.inl rfl, _, rfl⟩) (hb hby d1_62) hr) (by decide) (by decide) ?_
              rw [e0]
              exact ⟨by simp only [own_pick, if_neg hc1, if_neg hc2, if_neg hc3, if_neg hc4, if_neg hc5, if_pos hc6], N0, rfl⟩
            · refine go (fun tg kg => XS.icmpYes X0.here hx rfl (pc0 := 56) (pc' := 63) rfl (hb hby d1_56) rfl (feq hc6).2 (by decide) (by decide) kg) ?_
              show G (s₁.setTop (mkF m 63 #[.val (.int xa), .val (.int xb), .val (.int xr), .val (.int xs), .val (.int (xs &&& (7 : Int32)))] []))
              refine go (fun tg kg => XS.iloadN X0.here hx rfl (hb hby d1_63) rfl kg) ?_
              show G (s₁.setTop (mkF m 64 #[.val (.int xa), .val (.int xb), .val (.int xr), .val (.int xs), .val (.int (xs &&& (7 : Int32)))] [(.int xr)]))
              refine fin (some (.int xr)) X0 (fun h => absurd h (by decide)) (fun fs hr => retOut X0 hx hret rfl (Or.inl ⟨rfl, Or.inl rfl, _, rfl⟩) (hb hby d1_64) hr) (by decide) (by decide) ?_
              rw [e0]
              exact ⟨by simp only [own_pick, if_neg hc1, if_neg hc2, if_neg hc3, if_neg hc4, if_neg hc5, if_neg hc6], N0, rfl⟩
theorem ef_5 (m : MethodId) (x0 : Int32) (x1 : Int32) (x2 : Int32) : entryFrame m #[(.int x0), (.int x1), (.int x2)] 4 = mkF m 0 #[.val (.int x0), .val (.int x1), .val (.int x2), .unset] [] := by first | (simp [entryFrame, mkF, argsToLocals, Value.category]; done) | rfl
theorem d5_0 : decode method_3_code 0 = .ok (.iload_n 0, 1) := by decide +kernel
theorem d5_1 : decode method_3_code 1 = .ok (.iload_n 1, 1) := by decide +kernel
theorem d5_2 : decode method_3_code 2 = .ok (.if_icmp .le 5, 3) := by decide +kernel
theorem d5_5 : decode method_3_code 5 = .ok (.iconst 0, 1) := by decide +kernel
theorem d5_6 : decode method_3_code 6 = .ok (.ireturn, 1) := by decide +kernel
theorem d5_7 : decode method_3_code 7 = .ok (.iload_n 0, 1) := by decide +kernel
theorem d5_8 : decode method_3_code 8 = .ok (.iload_n 2, 1) := by decide +kernel
theorem d5_9 : decode method_3_code 9 = .ok (.iload_n 1, 1) := by decide +kernel
theorem d5_10 : decode method_3_code 10 = .ok (.invokestatic 7, 3) := by decide +kernel
theorem pd__II_I : parseMethodDescriptor "(II)I" = some ⟨[.int, .int], some .int⟩ := by decide +kernel
theorem d5_13 : decode method_3_code 13 = .ok (.invokestatic 13, 3) := by decide +kernel
theorem d5_16 : decode method_3_code 16 = .ok (.istore_n 3, 1) := by decide +kernel
theorem d5_17 : decode method_3_code 17 = .ok (.iload_n 3, 1) := by decide +kernel
theorem d5_18 : decode method_3_code 18 = .ok (.iload_n 2, 1) := by decide +kernel
theorem d5_19 : decode method_3_code 19 = .ok (.if_icmp .ne 7, 3) := by decide +kernel
theorem d5_22 : decode method_3_code 22 = .ok (.iconst 1, 1) := by decide +kernel
theorem d5_23 : decode method_3_code 23 = .ok (.goto 4, 3) := by decide +kernel
theorem d5_27 : decode method_3_code 27 = .ok (.ireturn, 1) := by decide +kernel
theorem d5_26 : decode method_3_code 26 = .ok (.iconst 0, 1) := by decide +kernel
def Q_rm5 (Z : State) (xa : Int32) (xb : Int32) (xv : Int32) (h0 : Heap) (n0 : Nat) (v : Option Value) (h : Heap) (L : List Loc) : Prop := v = some (.int (own_exp xa xb xv)) ∧ Fr n0 L ∧ h = h0
set_option maxRecDepth 65536 in
set_option maxHeartbeats 40000000 in
theorem rm5 (l : Launch) (Z : State) (a0 : Array Value) (hw : ∀ d ∈ tables_1, d.before a0 Z = true) (ws : List Jvm.Cond) (xa : Int32) (xb : Int32) (xv : Int32) (h0 : Heap) (n0 : Nat) (Z0 : n0 ≤ h0.size) :
    MetFree l (⟨"com/example/schema_dates/schemadates/PartRangeContainsPinLaw", "expected", "(III)Z"⟩ : MethodName) (head1 (Jvm.Cond.code (⟨"com/example/schema_dates/schemadates/PartRangeContainsPinLaw", "expected", "(III)Z"⟩ : MethodName) method_3_code 4 (some .boolean) :: ws) ({ frames := 1, cells := 0, slots := 0, locals := 14 } : Room)) (fun a U => a = #[(.int xa), (.int xb), (.int xv)] ∧ Z.Warmed39 U.vm ∧ U.heap = h0) (fun _ _ _ _ _ => True) (fun _ U o U' => ∃ v L, o = .returned v ∧ Q_rm5 Z xa xb xv h0 n0 v U'.heap L ∧ FrameEnd U o U' L ({ frames := 1, cells := 0, slots := 0, locals := 14 } : Room).cells ({ frames := 1, cells := 0, slots := 0, locals := 14 } : Room).slots) := by
  refine own_enter (Q := Q_rm5 Z xa xb xv h0 n0) (plainFor_of_name pn_com_example_schema_dates_schemadates_PartRangeContainsPinLaw) ?_
  intro p e s m below meth c s₁ G X0 hx hby hml hZ hown hnm hret e0 go fin
  replace hown : s.vm.findClass "com/example/schema_dates/schemadates/PartRangeContainsPinLaw" = some m.cls := hown
  replace hnm : meth.name = "expected" := hnm
  replace hml : c.maxLocals = 4 := hml
  rw [ef_5 m xa xb xv]
  have N0 := Fr.nil n0
  show G (s₁.setTop (mkF m 0 #[.val (.int xa), .val (.int xb), .val (.int xv), .unset] []))
  refine go (fun tg kg => XS.iloadN X0.here hx rfl (hb hby d5_0) rfl kg) ?_
  show G (s₁.setTop (mkF m 1 #[.val (.int xa), .val (.int xb), .val (.int xv), .unset] [(.int xa)]))
  refine go (fun tg kg => XS.iloadN X0.here hx rfl (hb hby d5_1) rfl kg) ?_
  show G (s₁.setTop (mkF m 2 #[.val (.int xa), .val (.int xb), .val (.int xv), .unset] [(.int xb), (.int xa)]))
  by_cases hc1 : xb < xa
  · refine go (fun tg kg => XS.icmpNo X0.here hx rfl (hb hby d5_2) rfl (tlt hc1).2.2.2 kg) ?_
    show G (s₁.setTop (mkF m 5 #[.val (.int xa), .val (.int xb), .val (.int xv), .unset] []))
    refine go (fun tg kg => XS.iconst X0.here hx rfl (hb hby d5_5) kg) ?_
    show G (s₁.setTop (mkF m 6 #[.val (.int xa), .val (.int xb), .val (.int xv), .unset] [(.int (0 : Int32))]))
    refine fin (some (.int (0 : Int32))) X0 (fun h => absurd h (by decide)) (fun fs hr => retN X0 hx (t := .boolean) hret (by simp) (hb hby d5_6) hr) (by decide) (by decide) ?_
    rw [e0]
    exact ⟨by simp only [own_exp, if_pos hc1], N0, rfl⟩
  · refine go (fun tg kg => XS.icmpYes X0.here hx rfl (pc0 := 2) (pc' := 7) rfl (hb hby d5_2) rfl (flt hc1).2.2.2 (by decide) (by decide) kg) ?_
    show G (s₁.setTop (mkF m 7 #[.val (.int xa), .val (.int xb), .val (.int xv), .unset] []))
    refine go (fun tg kg => XS.iloadN X0.here hx rfl (hb hby d5_7) rfl kg) ?_
    show G (s₁.setTop (mkF m 8 #[.val (.int xa), .val (.int xb), .val (.int xv), .unset] [(.int xa)]))
    refine go (fun tg kg => XS.iloadN X0.here hx rfl (hb hby d5_8) rfl kg) ?_
    show G (s₁.setTop (mkF m 9 #[.val (.int xa), .val (.int xb), .val (.int xv), .unset] [(.int xv), (.int xa)]))
    refine go (fun tg kg => XS.iloadN X0.here hx rfl (hb hby d5_9) rfl kg) ?_
    show G (s₁.setTop (mkF m 10 #[.val (.int xa), .val (.int xb), .val (.int xv), .unset] [(.int xb), (.int xv), (.int xa)]))
    obtain ⟨_, _, ⟨T2, L2, k2, n2⟩, -, X2, ⟨Lc2, hQ2, l2, y2, z2⟩, st2⟩ := Jvm.LawKit.callS X0 hx (y := (⟨"java/lang/Math", "min", "(II)I"⟩ : MethodName)) hown (mvT hZ (hw _ (List.mem_of_getElem? (i := 25) rfl))) (mvT hZ (hw _ (List.mem_of_getElem? (i := 26) rfl))) (mvT hZ (hw _ (List.mem_of_getElem? (i := 27) rfl))) (mvT hZ (hw _ (List.mem_of_getElem? (i := 28) rfl))) (by decide) (backOf (W := 1) (rm6 l Z a0 hw [] xv xb h0 n0 Z0 ) hZ (hw _ (List.mem_of_getElem? (i := 28) rfl)) (hw _ (List.mem_of_getElem? (i := 27) rfl)) (by decide) (by decide)) (g := (mkF m 10 #[.val (.int xa), .val (.int xb), .val (.int xv), .unset] [(.int xb), (.int xv), (.int xa)])) rfl (by rw [hml]; rfl) (argsL := [(.int xv), (.int xb)]) (rest := [(.int xa)]) (lenOf pd__II_I rfl) rfl (by show 2 * 0 + _ ≤ _; exact Nat.le_of_eq rfl) (hb hby d5_10) (fun _ _ => ⟨rfl, e0, (by decide : 0 + 0 ≤ _), (by decide : 0 + 0 ≤ _)⟩)
    dsimp only [Pt.U, Pt.locs, Pt.cells, Pt.slots] at X2 l2 y2 z2 st2 hQ2
    subst l2 y2 z2
    obtain ⟨rfl, Nq2, e2⟩ := hQ2
    have N2 := Fr.app N0 Nq2
    refine go st2 ?_
    show G (T2.setTop (mkF m 13 #[.val (.int xa), .val (.int xb), .val (.int xv), .unset] [(.int (own_min xv xb)), (.int xa)]))
    obtain ⟨_, _, ⟨T3, L3, k3, n3⟩, -, X3, ⟨Lc3, hQ3, l3, y3, z3⟩, st3⟩ := Jvm.LawKit.callS X2 hx (y := (⟨"java/lang/Math", "max", "(II)I"⟩ : MethodName)) hown (mvT hZ (hw _ (List.mem_of_getElem? (i := 29) rfl))) (mvT hZ (hw _ (List.mem_of_getElem? (i := 30) rfl))) (mvT hZ (hw _ (List.mem_of_getElem? (i := 27) rfl))) (mvT hZ (hw _ (List.mem_of_getElem? (i := 31) rfl))) (by decide) (backOf (W := 0) (rm7 l Z a0 hw [] xa (own_min xv xb) h0 n0 Z0 ) hZ (hw _ (List.mem_of_getElem? (i := 31) rfl)) (hw _ (List.mem_of_getElem? (i := 27) rfl)) (by decide) (by decide)) (g := (mkF m 13 #[.val (.int xa), .val (.int xb), .val (.int xv), .unset] [(.int (own_min xv xb)), (.int xa)])) rfl (by rw [hml]; rfl) (argsL := [(.int xa), (.int (own_min xv xb))]) (rest := []) (lenOf pd__II_I rfl) rfl (by show 2 * 0 + _ ≤ _; exact Nat.le_of_eq rfl) (hb hby d5_13) (fun _ _ => ⟨rfl, e2, (by decide : 0 + 0 ≤ _), (by decide : 0 + 0 ≤ _)⟩)
    dsimp only [Pt.U, Pt.locs, Pt.cells, Pt.slots] at X3 l3 y3 z3 st3 hQ3
    subst l3 y3 z3
    obtain ⟨rfl, Nq3, e3⟩ := hQ3
    have N3 := Fr.app N2 Nq3
    refine go st3 ?_
    show G (T3.setTop (mkF m 16 #[.val (.int xa), .val (.int xb), .val (.int xv), .unset] [(.int (own_max xa (own_min xv xb)))]))
    refine go (fun tg kg => XS.istoreN X3.here hx rfl (hb hby d5_16) rfl (l' := #[.val (.int xa), .val (.int xb), .val (.int xv), .val (.int (own_max xa (own_min xv xb)))]) rfl kg) ?_
    show G (T3.setTop (mkF m 17 #[.val (.int xa), .val (.int xb), .val (.int xv), .val (.int (own_max xa (own_min xv xb)))] []))
    refine go (fun tg kg => XS.iloadN X3.here hx rfl (hb hby d5_17) rfl kg) ?_
    show G (T3.setTop (mkF m 18 #[.val (.int xa), .val (.int xb), .val (.int xv), .val (.int (own_max xa (own_min xv xb)))] [(.int (own_max xa (own_min xv xb)))]))
    refine go (fun tg kg => XS.iloadN X3.here hx rfl (hb hby d5_18) rfl kg) ?_
    show G (T3.setTop (mkF m 19 #[.val (.int xa), .val (.int xb), .val (.int xv), .val (.int (own_max xa (own_min xv xb)))] [(.int xv), (.int (own_max xa (own_min xv xb)))]))
    by_cases hc4 : (own_max xa (own_min xv xb)) = xv
    · refine go (fun tg kg => XS.icmpNo X3.here hx rfl (hb hby d5_19) rfl (teq hc4).2 kg) ?_
      show G (T3.setTop (mkF m 22 #[.val (.int xa), .val (.int xb), .val (.int xv), .val (.int (own_max xa (own_min xv xb)))] []))
      refine go (fun tg kg => XS.iconst X3.here hx rfl (hb hby d5_22) kg) ?_
      show G (T3.setTop (mkF m 23 #[.val (.int xa), .val (.int xb), .val (.int xv), .val (.int (own_max xa (own_min xv xb)))] [(.int (1 : Int32))]))
      refine go (fun tg kg => XS.goto X3.here hx rfl (pc0 := 23) (pc' := 27) rfl (hb hby d5_23) (by decide) (by decide) kg) ?_
      show G (T3.setTop (mkF m 27 #[.val (.int xa), .val (.int xb), .val (.int xv), .val (.int (own_max xa (own_min xv xb)))] [(.int (1 : Int32))]))
      refine fin (some (.int (1 : Int32))) X3 (fun h => absurd h (by decide)) (fun fs hr => retN X3 hx (t := .boolean) hret (by simp) (hb hby d5_27) hr) (by decide) (by decide) ?_
      rw [e3]
      exact ⟨by simp only [own_exp, if_neg hc1, if_pos hc4], N3, rfl⟩
    · refine go (fun tg kg => XS.icmpYes X3.here hx rfl (pc0 := 19) (pc' := 26) rfl (hb hby d5_19) rfl (feq hc4).2 (by decide) (by decide) kg) ?_
      show G (T3.setTop (mkF m 26 #[.val (.int xa), .val (.int xb), .val (.int xv), .val (.int (own_max xa (own_min xv xb)))] []))
      refine go (fun tg kg => XS.iconst X3.here hx rfl (hb hby d5_26) kg) ?_
      show G (T3.setTop (mkF m 27 #[.val (.int xa), .val (.int xb), .val (.int xv), .val (.int (own_max xa (own_min xv xb)))] [(.int (0 : Int32))]))
      refine fin (some (.int (0 : Int32))) X3 (fun h => absurd h (by decide)) (fun fs hr => retN X3 hx (t := .boolean) hret (by simp) (hb hby d5_27) hr) (by decide) (by decide) ?_
      rw [e3]
      exact ⟨by simp only [own_exp, if_neg hc1, if_neg hc4], N3, rfl⟩
theorem pn_com_example_schema_dates_schemadates_PartRange : plainName "com/example/schema_dates/schemadates/PartRange" = true := by first | (simp [plainName, overriddenIn]; done) | decide +kernel
theorem ef_2 (m : MethodId) (x0 : Addr) (x1 : Int32) (x2 : Int32) : entryFrame m #[(.ref x0), (.int x1), (.int x2)] 3 = mkF m 0 #[.val (.ref x0), .val (.int x1), .val (.int x2)] [] := by first | (simp [entryFrame, mkF, argsToLocals, Value.category]; done) | rfl
theorem d2_0 : decode prog_18_method_1_code 0 = .ok (.aload_n 0, 1) := by decide +kernel
theorem d2_1 : decode prog_18_method_1_code 1 = .ok (.invokespecial 1, 3) := by decide +kernel
theorem d2_4 : decode prog_18_method_1_code 4 = .ok (.aload_n 0, 1) := by decide +kernel
theorem d2_5 : decode prog_18_method_1_code 5 = .ok (.iload_n 1, 1) := by decide +kernel
theorem d2_6 : decode prog_18_method_1_code 6 = .ok (.putfield 7, 3) := by decide +kernel
theorem d2_9 : decode prog_18_method_1_code 9 = .ok (.aload_n 0, 1) := by decide +kernel
theorem d2_10 : decode prog_18_method_1_code 10 = .ok (.iload_n 2, 1) := by decide +kernel
theorem d2_11 : decode prog_18_method_1_code 11 = .ok (.putfield 13, 3) := by decide +kernel
theorem d2_14 : decode prog_18_method_1_code 14 = .ok (.return_, 1) := by decide +kernel
def Q_rm2 (Z : State) (ob : Addr) (xa : Int32) (xb : Int32) (h0 : Heap) (n0 : Nat) (v : Option Value) (h : Heap) (L : List Loc) : Prop := v = none ∧ Fr n0 L ∧ Keep h0 h [ob] ∧ Exa Z h ob "com/example/schema_dates/schemadates/PartRange" ∧ Fld Z h ob "com/example/schema_dates/schemadates/PartRange" "min" "I" (.int xa) ∧ Fld Z h ob "com/example/schema_dates/schemadates/PartRange" "max" "I" (.int xb)
set_option maxRecDepth 65536 in
set_option maxHeartbeats 40000000 in
theorem rm2 (l : Launch) (Z : State) (a0 : Array Value) (hw : ∀ d ∈ tables_1, d.before a0 Z = true) (ws : List Jvm.Cond) (ob : Addr) (xa : Int32) (xb : Int32) (h0 : Heap) (n0 : Nat) (Z0 : n0 ≤ h0.size) (Ex : Exa Z h0 ob "com/example/schema_dates/schemadates/PartRange") (g0 : n0 ≤ ob) (Fi_min : Fld Z h0 ob "com/example/schema_dates/schemadates/PartRange" "min" "I" (.int (0 : Int32))) (Fi_max : Fld Z h0 ob "com/example/schema_dates/schemadates/PartRange" "max" "I" (.int (0 : Int32))) :
    MetFree l (⟨"com/example/schema_dates/schemadates/PartRange", "<init>", "(II)V"⟩ : MethodName) (head1 (Jvm.Cond.code (⟨"com/example/schema_dates/schemadates/PartRange", "<init>", "(II)V"⟩ : MethodName) prog_18_method_1_code 3 none :: ws) ({ frames := 1, cells := 0, slots := 0, locals := 12 } : Room)) (fun a U => a = #[(.ref ob), (.int xa), (.int xb)] ∧ Z.Warmed39 U.vm ∧ U.heap = h0) (fun _ _ _ _ _ => True) (fun _ U o U' => ∃ v L, o = .returned v ∧ Q_rm2 Z ob xa xb h0 n0 v U'.heap L ∧ FrameEnd U o U' L ({ frames := 1, cells := 0, slots := 0, locals := 12 } : Room).cells ({ frames := 1, cells := 0, slots := 0, locals := 12 } : Room).slots) := by
  refine own_enter (Q := Q_rm2 Z ob xa xb h0 n0) (plainFor_of_name pn_com_example_schema_dates_schemadates_PartRange) ?_
  intro p e s m below meth c s₁ G X0 hx hby hml hZ hown hnm hret e0 go fin
  replace hown : s.vm.findClass "com/example/schema_dates/schemadates/PartRange" = some m.cls := hown
  replace hnm : meth.name = "<init>" := hnm
  replace hml : c.maxLocals = 3 := hml
  rw [ef_2 m ob xa xb]
  have N0 := Fr.nil n0
  show G (s₁.setTop (mkF m 0 #[.val (.ref ob), .val (.int xa), .val (.int xb)] []))
  refine go (fun tg kg => XS.aloadN X0.here hx rfl (hb hby d2_0) rfl rfl kg) ?_
  show G (s₁.setTop (mkF m 1 #[.val (.ref ob), .val (.int xa), .val (.int xb)] [(.ref ob)]))
  obtain ⟨T1, X1, e1, st1⟩ := initO X0 hx hZ hown (hw _ (List.mem_of_getElem? (i := 10) rfl)) (hw _ (List.mem_of_getElem? (i := 11) rfl)) (hw _ (List.mem_of_getElem? (i := 12) rfl)) e0 (g := (mkF m 1 #[.val (.ref ob), .val (.int xa), .val (.int xb)] [(.ref ob)])) rfl (by rw [hml]; rfl) rfl (hb hby d2_1) (by decide) (W := 0) (by show 2 * 0 + _ ≤ _; exact Nat.le_of_eq rfl) (by decide)
  refine go st1 ?_
  show G (T1.setTop (mkF m 4 #[.val (.ref ob), .val (.int xa), .val (.int xb)] []))
  refine go (fun tg kg => XS.aloadN X1.here hx rfl (hb hby d2_4) rfl rfl kg) ?_
  show G (T1.setTop (mkF m 5 #[.val (.ref ob), .val (.int xa), .val (.int xb)] [(.ref ob)]))
  refine go (fun tg kg => XS.iloadN X1.here hx rfl (hb hby d2_5) rfl kg) ?_
  show G (T1.setTop (mkF m 6 #[.val (.ref ob), .val (.int xa), .val (.int xb)] [(.int xa), (.ref ob)]))
  obtain ⟨T2, h2, X2, e2, W2, st2⟩ := putF X1 hx hZ hown (host := "") (Or.inl (hw _ (List.mem_of_getElem? (i := 13) rfl))) Via.refl e1 Fi_min Ex (Or.inr ⟨(hw _ (List.mem_of_getElem? (i := 14) rfl)), rfl, hnm⟩) (hw _ (List.mem_of_getElem? (i := 5) rfl)) (ty := .int) (by decide) rfl rfl (g := (mkF m 6 #[.val (.ref ob), .val (.int xa), .val (.int xb)] [(.int xa), (.ref ob)])) rfl rfl (hb hby d2_6)
  refine go st2 ?_
  have Fw2 : Fld Z h2 ob "com/example/schema_dates/schemadates/PartRange" "min" "I" (.int xa) := Fi_min.same W2
  have N2 := Fr.snoc X2 N0 g0
  have K2 : Keep h0 h2 [ob] := (Keep.refl h0 [ob]).wr W2 (Or.inl (List.mem_of_getElem? (i := 0) rfl))
  have Z2 := Nat.le_trans Z0 (Keep.of_wr W2).1
  show G (T2.setTop (mkF m 9 #[.val (.ref ob), .val (.int xa), .val (.int xb)] []))
  refine go (fun tg kg => XS.aloadN X2.here hx rfl (hb hby d2_9) rfl rfl kg) ?_
  show G (T2.setTop (mkF m 10 #[.val (.ref ob), .val (.int xa), .val (.int xb)] [(.ref ob)]))
  refine go (fun tg kg => XS.iloadN X2.here hx rfl (hb hby d2_10) rfl kg) ?_
  show G (T2.setTop (mkF m 11 #[.val (.ref ob), .val (.int xa), .val (.int xb)] [(.int xb), (.ref ob)]))
  have Fa3 := (Ex.wr W2)
  have Fa4 := (Fi_max.other W2 (Or.inr (slot_ne (Or.inr (hw _ (List.mem_of_getElem? (i := 16) rfl))) (Or.inr (hw _ (List.mem_of_getElem? (i := 14) rfl))) (by decide) (t := .int) (t' := .int) (by decide) (by decide))))
  obtain ⟨T5, h5, X5, e5, W5, st5⟩ := putF X2 hx hZ hown (host := "") (Or.inl (hw _ (List.mem_of_getElem? (i := 15) rfl))) Via.refl e2 Fa4 Fa3 (Or.inr ⟨(hw _ (List.mem_of_getElem? (i := 16) rfl)), rfl, hnm⟩) (hw _ (List.mem_of_getElem? (i := 5) rfl)) (ty := .int) (by decide) rfl rfl (g := (mkF m 11 #[.val (.ref ob), .val (.int xa), .val (.int xb)] [(.int xb), (.ref ob)])) rfl rfl (hb hby d2_11)
  refine go st5 ?_
  have Fw5 : Fld Z h5 ob "com/example/schema_dates/schemadates/PartRange" "max" "I" (.int xb) := Fa4.same W5
  have N5 := Fr.snoc X5 N2 g0
  have K5 : Keep h0 h5 [ob] := K2.wr W5 (Or.inl (List.mem_of_getElem? (i := 0) rfl))
  have Z5 := Nat.le_trans Z2 (Keep.of_wr W5).1
  show G (T5.setTop (mkF m 14 #[.val (.ref ob), .val (.int xa), .val (.int xb)] []))
  refine fin (none) X5 (fun h => rfl) (fun fs hr => X5.returnOut hx hret (hb hby d2_14) hr) (by decide) (by decide) ?_
  rw [e5]
  have Fa6 := (Fa3.wr W5)
  have Fa7 := (Fw2.other W5 (Or.inr (slot_ne (Or.inr (hw _ (List.mem_of_getElem? (i := 14) rfl))) (Or.inr (hw _ (List.mem_of_getElem? (i := 16) rfl))) (by decide) (t := .int) (t' := .int) (by decide) (by decide))))
  exact ⟨rfl, N5, K5, Fa6, Fa7, Fw5⟩
theorem ef_4 (m : MethodId) (x0 : Addr) (x1 : Int32) : entryFrame m #[(.ref x0), (.int x1)] 2 = mkF m 0 #[.val (.ref x0), .val (.int x1)] [] := by first | (simp [entryFrame, mkF, argsToLocals, Value.category]; done) | rfl
theorem d4_0 : decode prog_18_method_2_code 0 = .ok (.iload_n 1, 1) := by decide +kernel
theorem d4_1 : decode prog_18_method_2_code 1 = .ok (.aload_n 0, 1) := by decide +kernel
theorem d4_2 : decode prog_18_method_2_code 2 = .ok (.getfield 7, 3) := by decide +kernel
theorem d4_5 : decode prog_18_method_2_code 5 = .ok (.if_icmp .lt 15, 3) := by decide +kernel
theorem d4_20 : decode prog_18_method_2_code 20 = .ok (.iconst 0, 1) := by decide +kernel
theorem d4_21 : decode prog_18_method_2_code 21 = .ok (.ireturn, 1) := by decide +kernel
theorem d4_8 : decode prog_18_method_2_code 8 = .ok (.iload_n 1, 1) := by decide +kernel
theorem d4_9 : decode prog_18_method_2_code 9 = .ok (.aload_n 0, 1) := by decide +kernel
theorem d4_10 : decode prog_18_method_2_code 10 = .ok (.getfield 13, 3) := by decide +kernel
theorem d4_13 : decode prog_18_method_2_code 13 = .ok (.if_icmp .gt 7, 3) := by decide +kernel
theorem d4_16 : decode prog_18_method_2_code 16 = .ok (.iconst 1, 1) := by decide +kernel
theorem d4_17 : decode prog_18_method_2_code 17 = .ok (.goto 4, 3) := by decide +kernel
def Q_rm4 (Z : State) (ob : Addr) (xv : Int32) (xa : Int32) (xb : Int32) (h0 : Heap) (n0 : Nat) (v : Option Value) (h : Heap) (L : List Loc) : Prop := v = some (.int (own_con xa xb xv)) ∧ Fr n0 L ∧ h = h0
set_option maxRecDepth 65536 in
set_option maxHeartbeats 40000000 in
theorem rm4 (l : Launch) (Z : State) (a0 : Array Value) (hw : ∀ d ∈ tables_1, d.before a0 Z = true) (ws : List Jvm.Cond) (ob : Addr) (xv : Int32) (xa : Int32) (xb : Int32) (h0 : Heap) (n0 : Nat) (Z0 : n0 ≤ h0.size) (Fi_min : Fld Z h0 ob "com/example/schema_dates/schemadates/PartRange" "min" "I" (.int xa)) (Fi_max : Fld Z h0 ob "com/example/schema_dates/schemadates/PartRange" "max" "I" (.int xb)) :
    MetFree l (⟨"com/example/schema_dates/schemadates/PartRange", "contains", "(I)Z"⟩ : MethodName) (head1 (Jvm.Cond.code (⟨"com/example/schema_dates/schemadates/PartRange", "contains", "(I)Z"⟩ : MethodName) prog_18_method_2_code 2 (some .boolean) :: ws) ({ frames := 0, cells := 0, slots := 0, locals := 0 } : Room)) (fun a U => a = #[(.ref ob), (.int xv)] ∧ Z.Warmed39 U.vm ∧ U.heap = h0) (fun _ _ _ _ _ => True) (fun _ U o U' => ∃ v L, o = .returned v ∧ Q_rm4 Z ob xv xa xb h0 n0 v U'.heap L ∧ FrameEnd U o U' L ({ frames := 0, cells := 0, slots := 0, locals := 0 } : Room).cells ({ frames := 0, cells := 0, slots := 0, locals := 0 } : Room).slots) := by
  refine own_enter (Q := Q_rm4 Z ob xv xa xb h0 n0) (plainFor_of_name pn_com_example_schema_dates_schemadates_PartRange) ?_
  intro p e s m below meth c s₁ G X0 hx hby hml hZ hown hnm hret e0 go fin
  replace hown : s.vm.findClass "com/example/schema_dates/schemadates/PartRange" = some m.cls := hown
  replace hnm : meth.name = "contains" := hnm
  replace hml : c.maxLocals = 2 := hml
  rw [ef_4 m ob xv]
  have N0 := Fr.nil n0
  show G (s₁.setTop (mkF m 0 #[.val (.ref ob), .val (.int xv)] []))
  refine go (fun tg kg => XS.iloadN X0.here hx rfl (hb hby d4_0) rfl kg) ?_
  show G (s₁.setTop (mkF m 1 #[.val (.ref ob), .val (.int xv)] [(.int xv)]))
  refine go (fun tg kg => XS.aloadN X0.here hx rfl (hb hby d4_1) rfl rfl kg) ?_
  show G (s₁.setTop (mkF m 2 #[.val (.ref ob), .val (.int xv)] [(.ref ob), (.int xv)]))
  obtain ⟨T1, X1, e1, st1⟩ := getF X0 hx hZ hown (host := "") (Or.inl (hw _ (List.mem_of_getElem? (i := 13) rfl))) Via.refl e0 Fi_min (g := (mkF m 2 #[.val (.ref ob), .val (.int xv)] [(.ref ob), (.int xv)])) rfl rfl (hb hby d4_2)
  refine go st1 ?_
  show G (T1.setTop (mkF m 5 #[.val (.ref ob), .val (.int xv)] [(.int xa), (.int xv)]))
  by_cases hc2 : xv < xa
  · refine go (fun tg kg => XS.icmpYes X1.here hx rfl (pc0 := 5) (pc' := 20) rfl (hb hby d4_5) rfl (tlt hc2).1 (by decide) (by decide) kg) ?_
    show G (T1.setTop (mkF m 20 #[.val (.ref ob), .val (.int xv)] []))
    refine go (fun tg kg => XS.iconst X1.here hx rfl (hb hby d4_20) kg) ?_
    show G (T1.setTop (mkF m 21 #[.val (.ref ob), .val (.int xv)] [(.int (0 : Int32))]))
    refine fin (some (.int (0 : Int32))) X1 (fun h => absurd h (by decide)) (fun fs hr => retN X1 hx (t := .boolean) hret (by simp) (hb hby d4_21) hr) (by decide) (by decide) ?_
    rw [e1]
    exact ⟨by simp only [own_con, if_pos hc2], N0, rfl⟩
  · refine go (fun tg kg => XS.icmpNo X1.here hx rfl (hb hby d4_5) rfl (flt hc2).1 kg) ?_
    show G (T1.setTop (mkF m 8 #[.val (.ref ob), .val (.int xv)] []))
    refine go (fun tg kg => XS.iloadN X1.here hx rfl (hb hby d4_8) rfl kg) ?_
    show G (T1.setTop (mkF m 9 #[.val (.ref ob), .val (.int xv)] [(.int xv)]))
    refine go (fun tg kg => XS.aloadN X1.here hx rfl (hb hby d4_9) rfl rfl kg) ?_
    show G (T1.setTop (mkF m 10 #[.val (.ref ob), .val (.int xv)] [(.ref ob), (.int xv)]))
    obtain ⟨T3, X3, e3, st3⟩ := getF X1 hx hZ hown (host := "") (Or.inl (hw _ (List.mem_of_getElem? (i := 15) rfl))) Via.refl e1 Fi_max (g := (mkF m 10 #[.val (.ref ob), .val (.int xv)] [(.ref ob), (.int xv)])) rfl rfl (hb hby d4_10)
    refine go st3 ?_
    show G (T3.setTop (mkF m 13 #[.val (.ref ob), .val (.int xv)] [(.int xb), (.int xv)]))
    by_cases hc4 : xb < xv
    · refine go (fun tg kg => XS.icmpYes X3.here hx rfl (pc0 := 13) (pc' := 20) rfl (hb hby d4_13) rfl (tlt hc4).2.2.1 (by decide) (by decide) kg) ?_
      show G (T3.setTop (mkF m 20 #[.val (.ref ob), .val (.int xv)] []))
      refine go (fun tg kg => XS.iconst X3.here hx rfl (hb hby d4_20) kg) ?_
      show G (T3.setTop (mkF m 21 #[.val (.ref ob), .val (.int xv)] [(.int (0 : Int32))]))
      refine fin (some (.int (0 : Int32))) X3 (fun h => absurd h (by decide)) (fun fs hr => retN X3 hx (t := .boolean) hret (by simp) (hb hby d4_21) hr) (by decide) (by decide) ?_
      rw [e3]
      exact ⟨by simp only [own_con, if_neg hc2, if_pos hc4], N0, rfl⟩
    · refine go (fun tg kg => XS.icmpNo X3.here hx rfl (hb hby d4_13) rfl (flt hc4).2.2.1 kg) ?_
      show G (T3.setTop (mkF m 16 #[.val (.ref ob), .val (.int xv)] []))
      refine go (fun tg kg => XS.iconst X3.here hx rfl (hb hby d4_16) kg) ?_
      show G (T3.setTop (mkF m 17 #[.val (.ref ob), .val (.int xv)] [(.int (1 : Int32))]))
      refine go (fun tg kg => XS.goto X3.here hx rfl (pc0 := 17) (pc' := 21) rfl (hb hby d4_17) (by decide) (by decide) kg) ?_
      show G (T3.setTop (mkF m 21 #[.val (.ref ob), .val (.int xv)] [(.int (1 : Int32))]))
      refine fin (some (.int (1 : Int32))) X3 (fun h => absurd h (by decide)) (fun fs hr => retN X3 hx (t := .boolean) hret (by simp) (hb hby d4_21) hr) (by decide) (by decide) ?_
      rw [e3]
      exact ⟨by simp only [own_con, if_neg hc2, if_neg hc4], N0, rfl⟩
theorem ef_0 (m : MethodId) (x0 : Int32) (x1 : Int32) (x2 : Int32) (x3 : Int32) : entryFrame m #[(.int x0), (.int x1), (.int x2), (.int x3)] maxLocals = mkF m 0 #[.val (.int x0), .val (.int x1), .val (.int x2), .val (.int x3), .unset, .unset] [] := by first | (simp [entryFrame, mkF, argsToLocals, Value.category, maxLocals]; done) | rfl
theorem pd__IIII_I : parseMethodDescriptor "(IIII)I" = some ⟨[.int, .int, .int, .int], some .int⟩ := by decide +kernel
theorem pd__II_V : parseMethodDescriptor "(II)V" = some ⟨[.int, .int], none⟩ := by decide +kernel
theorem pd__I_Z : parseMethodDescriptor "(I)Z" = some ⟨[.int], some .boolean⟩ := by decide +kernel
theorem pd__III_Z : parseMethodDescriptor "(III)Z" = some ⟨[.int, .int, .int], some .boolean⟩ := by decide +kernel
def Q_rm0 (Z : State) (x0 : Int32) (x1 : Int32) (x2 : Int32) (x3 : Int32) (h0 : Heap) (n0 : Nat) (v : Option Value) (h : Heap) (L : List Loc) : Prop := v = some (.int 1) ∧ Fr n0 L
set_option maxRecDepth 65536 in
set_option maxHeartbeats 40000000 in
theorem rm0 (l : Launch) (Z : State) (a0 : Array Value) (hw : ∀ d ∈ tables_1, d.before a0 Z = true) (ws : List Jvm.Cond) (x0 : Int32) (x1 : Int32) (x2 : Int32) (x3 : Int32) (h0 : Heap) (n0 : Nat) (Z0 : n0 ≤ h0.size) :
    MetFree l x (head1 (Jvm.Cond.code x code maxLocals ret :: ws) room_1) (fun a U => a = #[(.int x0), (.int x1), (.int x2), (.int x3)] ∧ Z.Warmed39 U.vm ∧ U.heap = h0) (fun _ _ _ _ _ => True) (fun _ U o U' => ∃ v L, o = .returned v ∧ Q_rm0 Z x0 x1 x2 x3 h0 n0 v U'.heap L ∧ FrameEnd U o U' L room_1.cells room_1.slots) := by
  refine own_enter (Q := Q_rm0 Z x0 x1 x2 x3 h0 n0) (plainFor_of_name pn_com_example_schema_dates_schemadates_PartRangeContainsPinLaw) ?_
  intro p e s m below meth c s₁ G X0 hx hby hml hZ hown hnm hret e0 go fin
  replace hown : s.vm.findClass "com/example/schema_dates/schemadates/PartRangeContainsPinLaw" = some m.cls := hown
  replace hnm : meth.name = "law" := hnm
  replace hml : c.maxLocals = 6 := hml
  rw [ef_0 m x0 x1 x2 x3]
  have N0 := Fr.nil n0
  show G (s₁.setTop (mkF m 0 #[.val (.int x0), .val (.int x1), .val (.int x2), .val (.int x3), .unset, .unset] []))
  refine go (fun tg kg => XS.iloadN X0.here hx rfl (hb hby at_0) rfl kg) ?_
  show G (s₁.setTop (mkF m 1 #[.val (.int x0), .val (.int x1), .val (.int x2), .val (.int x3), .unset, .unset] [(.int x0)]))
  refine go (fun tg kg => XS.iloadN X0.here hx rfl (hb hby at_1) rfl kg) ?_
  show G (s₁.setTop (mkF m 2 #[.val (.int x0), .val (.int x1), .val (.int x2), .val (.int x3), .unset, .unset] [(.int x1), (.int x0)]))
  refine go (fun tg kg => XS.iloadN X0.here hx rfl (hb hby at_2) rfl kg) ?_
  show G (s₁.setTop (mkF m 3 #[.val (.int x0), .val (.int x1), .val (.int x2), .val (.int x3), .unset, .unset] [(.int x2), (.int x1), (.int x0)]))
  refine go (fun tg kg => XS.iloadN X0.here hx rfl (hb hby at_3) rfl kg) ?_
  show G (s₁.setTop (mkF m 4 #[.val (.int x0), .val (.int x1), .val (.int x2), .val (.int x3), .unset, .unset] [(.int x3), (.int x2), (.int x1), (.int x0)]))
  obtain ⟨_, _, ⟨T1, L1, k1, n1⟩, -, X1, ⟨Lc1, hQ1, l1, y1, z1⟩, st1⟩ := Jvm.LawKit.callS X0 hx (y := (⟨"com/example/schema_dates/schemadates/PartRangeContainsPinLaw", "pick", "(IIII)I"⟩ : MethodName)) hown (mvT hZ (hw _ (List.mem_of_getElem? (i := 0) rfl))) (mvT hZ (hw _ (List.mem_of_getElem? (i := 1) rfl))) (mvT hZ (hw _ (List.mem_of_getElem? (i := 2) rfl))) (mvT hZ (hw _ (List.mem_of_getElem? (i := 3) rfl))) (by decide) (backOf (W := 0) (rm1 l Z a0 hw [] x0 x1 x2 x3 h0 n0 Z0 ) hZ (hw _ (List.mem_of_getElem? (i := 3) rfl)) (hw _ (List.mem_of_getElem? (i := 2) rfl)) (by decide) (by decide)) (g := (mkF m 4 #[.val (.int x0), .val (.int x1), .val (.int x2), .val (.int x3), .unset, .unset] [(.int x3), (.int x2), (.int x1), (.int x0)])) rfl (by rw [hml]; rfl) (argsL := [(.int x0), (.int x1), (.int x2), (.int x3)]) (rest := []) (lenOf pd__IIII_I rfl) rfl (by show 2 * 0 + _ ≤ _; exact Nat.le_of_eq rfl) (hb hby at_4) (fun _ _ => ⟨rfl, e0, (by decide : 0 + 0 ≤ _), (by decide : 0 + 0 ≤ _)⟩)
  dsimp only [Pt.U, Pt.locs, Pt.cells, Pt.slots] at X1 l1 y1 z1 st1 hQ1
  subst l1 y1 z1
  obtain ⟨rfl, Nq1, e1⟩ := hQ1
  have N1 := Fr.app N0 Nq1
  refine go st1 ?_
  show G (T1.setTop (mkF m 7 #[.val (.int x0), .val (.int x1), .val (.int x2), .val (.int x3), .unset, .unset] [(.int (own_pick x0 x1 x2 x3))]))
  refine go (fun tg kg => XS.istore X1.here hx rfl (hb hby at_7) rfl (l' := #[.val (.int x0), .val (.int x1), .val (.int x2), .val (.int x3), .val (.int (own_pick x0 x1 x2 x3)), .unset]) rfl kg) ?_
  show G (T1.setTop (mkF m 9 #[.val (.int x0), .val (.int x1), .val (.int x2), .val (.int x3), .val (.int (own_pick x0 x1 x2 x3)), .unset] []))
  obtain ⟨T2, h2, X2, e2, E2, A2, D2, -, st2⟩ := newO X1 hx hZ hown (hw _ (List.mem_of_getElem? (i := 4) rfl)) (hw _ (List.mem_of_getElem? (i := 5) rfl)) (hw _ (List.mem_of_getElem? (i := 6) rfl)) e1 (g := (mkF m 9 #[.val (.int x0), .val (.int x1), .val (.int x2), .val (.int x3), .val (.int (own_pick x0 x1 x2 x3)), .unset] [])) rfl (hb hby at_9) (by decide) (by decide)
  obtain ⟨b2, g2⟩ : ∃ z, z = h0.size := ⟨_, rfl⟩
  rw [← g2] at A2 D2 st2
  refine go st2 ?_
  have ge_b2 : n0 ≤ b2 := Nat.le_trans Z0 (Nat.le_of_eq g2.symm)
  have Z2 := Nat.le_trans Z0 E2.1
  have F2_min : Fld Z h2 b2 "com/example/schema_dates/schemadates/PartRange" "min" "I" (.int (0 : Int32)) := D2 (Or.inr (hw _ (List.mem_of_getElem? (i := 14) rfl))) (ty := .int) (by decide)
  have F2_max : Fld Z h2 b2 "com/example/schema_dates/schemadates/PartRange" "max" "I" (.int (0 : Int32)) := D2 (Or.inr (hw _ (List.mem_of_getElem? (i := 16) rfl))) (ty := .int) (by decide)
  show G (T2.setTop (mkF m 12 #[.val (.int x0), .val (.int x1), .val (.int x2), .val (.int x3), .val (.int (own_pick x0 x1 x2 x3)), .unset] [(.ref b2)]))
  refine go (fun tg kg => XS.dup X2.here hx rfl (hb hby at_12) rfl rfl kg) ?_
  show G (T2.setTop (mkF m 13 #[.val (.int x0), .val (.int x1), .val (.int x2), .val (.int x3), .val (.int (own_pick x0 x1 x2 x3)), .unset] [(.ref b2), (.ref b2)]))
  refine go (fun tg kg => XS.iloadN X2.here hx rfl (hb hby at_13) rfl kg) ?_
  show G (T2.setTop (mkF m 14 #[.val (.int x0), .val (.int x1), .val (.int x2), .val (.int x3), .val (.int (own_pick x0 x1 x2 x3)), .unset] [(.int x0), (.ref b2), (.ref b2)]))
  refine go (fun tg kg => XS.iloadN X2.here hx rfl (hb hby at_14) rfl kg) ?_
  show G (T2.setTop (mkF m 15 #[.val (.int x0), .val (.int x1), .val (.int x2), .val (.int x3), .val (.int (own_pick x0 x1 x2 x3)), .unset] [(.int x1), (.int x0), (.ref b2), (.ref b2)]))
  obtain ⟨_, _, ⟨T3, L3, k3, n3⟩, -, X3, ⟨Lc3, hQ3, l3, y3, z3⟩, st3⟩ := X2.specialBack hx (y := (⟨"com/example/schema_dates/schemadates/PartRange", "<init>", "(II)V"⟩ : MethodName)) rfl hown (mvT hZ (hw _ (List.mem_of_getElem? (i := 7) rfl))) (mvT hZ (hw _ (List.mem_of_getElem? (i := 8) rfl))) (mvT hZ (hw _ (List.mem_of_getElem? (i := 9) rfl))) (by decide) (backOf (W := 1) (rm2 l Z a0 hw [] b2 x0 x1 h2 n0 Z2 A2 ge_b2 F2_min F2_max) hZ (hw _ (List.mem_of_getElem? (i := 9) rfl)) (hw _ (List.mem_of_getElem? (i := 6) rfl)) (by decide) (by decide)) (g := (mkF m 15 #[.val (.int x0), .val (.int x1), .val (.int x2), .val (.int x3), .val (.int (own_pick x0 x1 x2 x3)), .unset] [(.int x1), (.int x0), (.ref b2), (.ref b2)])) rfl (by rw [hml]; rfl) (Steps.refl _) (a := b2) (argsL := [(.int x0), (.int x1)]) (rest := [(.ref b2)]) (lenOf pd__II_V rfl) rfl (by show 2 * 0 + _ ≤ _; exact Nat.le_of_eq rfl) (hb hby at_15) (fun _ _ => ⟨rfl, e2, (by decide : 1 + 0 ≤ _), (by decide : 2 + 0 ≤ _)⟩)
  dsimp only [Pt.U, Pt.locs, Pt.cells, Pt.slots] at X3 l3 y3 z3 st3 hQ3
  subst l3 y3 z3
  obtain ⟨rfl, Nq3, K3, Ge3, Gf3_min, Gf3_max⟩ := hQ3
  have Z3 := Nat.le_trans Z2 K3.1
  have N3 := Fr.app N1 Nq3
  refine go (fun tg kg => st3.trans kg) ?_
  show G (T3.setTop (mkF m 18 #[.val (.int x0), .val (.int x1), .val (.int x2), .val (.int x3), .val (.int (own_pick x0 x1 x2 x3)), .unset] [(.ref b2)]))
  refine go (fun tg kg => XS.astore X3.here hx rfl (hb hby at_18) rfl rfl (l' := #[.val (.int x0), .val (.int x1), .val (.int x2), .val (.int x3), .val (.int (own_pick x0 x1 x2 x3)), .val (.ref b2)]) rfl kg) ?_
  show G (T3.setTop (mkF m 20 #[.val (.int x0), .val (.int x1), .val (.int x2), .val (.int x3), .val (.int (own_pick x0 x1 x2 x3)), .val (.ref b2)] []))
  refine go (fun tg kg => XS.aload X3.here hx rfl (hb hby at_20) rfl rfl kg) ?_
  show G (T3.setTop (mkF m 22 #[.val (.int x0), .val (.int x1), .val (.int x2), .val (.int x3), .val (.int (own_pick x0 x1 x2 x3)), .val (.ref b2)] [(.ref b2)]))
  refine go (fun tg kg => XS.iload X3.here hx rfl (hb hby at_22) rfl kg) ?_
  show G (T3.setTop (mkF m 24 #[.val (.int x0), .val (.int x1), .val (.int x2), .val (.int x3), .val (.int (own_pick x0 x1 x2 x3)), .val (.ref b2)] [(.int (own_pick x0 x1 x2 x3)), (.ref b2)]))
  obtain ⟨cq4, kq4, q4a, q4b, q4c⟩ := isOf hZ rfl Ge3
  obtain ⟨_, _, ⟨T4, L4, k4, n4⟩, -, X4, ⟨Lc4, hQ4, l4, y4, z4⟩, st4⟩ := X3.virtualBack hx (y := (⟨"com/example/schema_dates/schemadates/PartRange", "contains", "(I)Z"⟩ : MethodName)) (z := (⟨"com/example/schema_dates/schemadates/PartRange", "contains", "(I)Z"⟩ : MethodName)) hown (mvT hZ (hw _ (List.mem_of_getElem? (i := 17) rfl))) (mvT hZ (hw _ (List.mem_of_getElem? (i := 18) rfl))) (notFace_of_selects (args := #[]) (mvT hZ (hw _ (List.mem_of_getElem? (i := 20) rfl)))) (mvT hZ (hw _ (List.mem_of_getElem? (i := 20) rfl))) (mvT hZ (hw _ (List.mem_of_getElem? (i := 19) rfl))) (by decide) (backOf (W := 0) (rm4 l Z a0 hw [] b2 (own_pick x0 x1 x2 x3) x0 x1 T3.heap n0 Z3 Gf3_min Gf3_max) hZ (hw _ (List.mem_of_getElem? (i := 21) rfl)) (hw _ (List.mem_of_getElem? (i := 6) rfl)) (by decide) (by decide)) q4a q4c (g := (mkF m 24 #[.val (.int x0), .val (.int x1), .val (.int x2), .val (.int x3), .val (.int (own_pick x0 x1 x2 x3)), .val (.ref b2)] [(.int (own_pick x0 x1 x2 x3)), (.ref b2)])) rfl (by rw [hml]; rfl) (Steps.refl _) (argsL := [(.int (own_pick x0 x1 x2 x3))]) (rest := []) (lenOf pd__I_Z rfl) rfl (by show 2 * 0 + _ ≤ _; exact Nat.le_of_eq rfl) (hb hby at_24) (fun _ _ => ⟨rfl, rfl, (by decide : 1 + 0 ≤ _), (by decide : 2 + 0 ≤ _)⟩)
  dsimp only [Pt.U, Pt.locs, Pt.cells, Pt.slots] at X4 l4 y4 z4 st4 hQ4
  subst l4 y4 z4
  obtain ⟨rfl, Nq4, e4⟩ := hQ4
  have N4 := Fr.app N3 Nq4
  refine go (fun tg kg => st4.trans kg) ?_
  show G (T4.setTop (mkF m 27 #[.val (.int x0), .val (.int x1), .val (.int x2), .val (.int x3), .val (.int (own_pick x0 x1 x2 x3)), .val (.ref b2)] [(.int (own_con x0 x1 (own_pick x0 x1 x2 x3)))]))
  refine go (fun tg kg => XS.iloadN X4.here hx rfl (hb hby at_27) rfl kg) ?_
  show G (T4.setTop (mkF m 28 #[.val (.int x0), .val (.int x1), .val (.int x2), .val (.int x3), .val (.int (own_pick x0 x1 x2 x3)), .val (.ref b2)] [(.int x0), (.int (own_con x0 x1 (own_pick x0 x1 x2 x3)))]))
  refine go (fun tg kg => XS.iloadN X4.here hx rfl (hb hby at_28) rfl kg) ?_
  show G (T4.setTop (mkF m 29 #[.val (.int x0), .val (.int x1), .val (.int x2), .val (.int x3), .val (.int (own_pick x0 x1 x2 x3)), .val (.ref b2)] [(.int x1), (.int x0), (.int (own_con x0 x1 (own_pick x0 x1 x2 x3)))]))
  refine go (fun tg kg => XS.iload X4.here hx rfl (hb hby at_29) rfl kg) ?_
  show G (T4.setTop (mkF m 31 #[.val (.int x0), .val (.int x1), .val (.int x2), .val (.int x3), .val (.int (own_pick x0 x1 x2 x3)), .val (.ref b2)] [(.int (own_pick x0 x1 x2 x3)), (.int x1), (.int x0), (.int (own_con x0 x1 (own_pick x0 x1 x2 x3)))]))
  obtain ⟨_, _, ⟨T5, L5, k5, n5⟩, -, X5, ⟨Lc5, hQ5, l5, y5, z5⟩, st5⟩ := Jvm.LawKit.callS X4 hx (y := (⟨"com/example/schema_dates/schemadates/PartRangeContainsPinLaw", "expected", "(III)Z"⟩ : MethodName)) hown (mvT hZ (hw _ (List.mem_of_getElem? (i := 22) rfl))) (mvT hZ (hw _ (List.mem_of_getElem? (i := 23) rfl))) (mvT hZ (hw _ (List.mem_of_getElem? (i := 2) rfl))) (mvT hZ (hw _ (List.mem_of_getElem? (i := 24) rfl))) (by decide) (backOf (W := 1) (rm5 l Z a0 hw [] x0 x1 (own_pick x0 x1 x2 x3) T3.heap n0 Z3 ) hZ (hw _ (List.mem_of_getElem? (i := 24) rfl)) (hw _ (List.mem_of_getElem? (i := 2) rfl)) (by decide) (by decide)) (g := (mkF m 31 #[.val (.int x0), .val (.int x1), .val (.int x2), .val (.int x3), .val (.int (own_pick x0 x1 x2 x3)), .val (.ref b2)] [(.int (own_pick x0 x1 x2 x3)), (.int x1), (.int x0), (.int (own_con x0 x1 (own_pick x0 x1 x2 x3)))])) rfl (by rw [hml]; rfl) (argsL := [(.int x0), (.int x1), (.int (own_pick x0 x1 x2 x3))]) (rest := [(.int (own_con x0 x1 (own_pick x0 x1 x2 x3)))]) (lenOf pd__III_Z rfl) rfl (by show 2 * 0 + _ ≤ _; exact Nat.le_of_eq rfl) (hb hby at_31) (fun _ _ => ⟨rfl, e4, (by decide : 1 + 0 ≤ _), (by decide : 2 + 0 ≤ _)⟩)
  dsimp only [Pt.U, Pt.locs, Pt.cells, Pt.slots] at X5 l5 y5 z5 st5 hQ5
  subst l5 y5 z5
  obtain ⟨rfl, Nq5, e5⟩ := hQ5
  have N5 := Fr.app N4 Nq5
  refine go st5 ?_
  show G (T5.setTop (mkF m 34 #[.val (.int x0), .val (.int x1), .val (.int x2), .val (.int x3), .val (.int (own_pick x0 x1 x2 x3)), .val (.ref b2)] [(.int (own_exp x0 x1 (own_pick x0 x1 x2 x3))), (.int (own_con x0 x1 (own_pick x0 x1 x2 x3)))]))
  refine go (fun tg kg => XS.icmpNo X5.here hx rfl (hb hby at_34) rfl (teq (own_con_exp _ _ _)).2 kg) ?_
  show G (T5.setTop (mkF m 37 #[.val (.int x0), .val (.int x1), .val (.int x2), .val (.int x3), .val (.int (own_pick x0 x1 x2 x3)), .val (.ref b2)] []))
  refine go (fun tg kg => XS.iconst X5.here hx rfl (hb hby at_37) kg) ?_
  show G (T5.setTop (mkF m 38 #[.val (.int x0), .val (.int x1), .val (.int x2), .val (.int x3), .val (.int (own_pick x0 x1 x2 x3)), .val (.ref b2)] [(.int (1 : Int32))]))
  refine go (fun tg kg => XS.goto X5.here hx rfl (pc0 := 38) (pc' := 42) rfl (hb hby at_38) (by decide) (by decide) kg) ?_
  show G (T5.setTop (mkF m 42 #[.val (.int x0), .val (.int x1), .val (.int x2), .val (.int x3), .val (.int (own_pick x0 x1 x2 x3)), .val (.ref b2)] [(.int (1 : Int32))]))
  refine fin (some (.int (1 : Int32))) X5 (fun h => absurd h (by decide)) (fun fs hr => retN X5 hx (t := .boolean) hret (by simp) (hb hby at_42) hr) (by decide) (by decide) ?_
  rw [e5]
  exact ⟨rfl, N5⟩
set_option maxRecDepth 65536 in
set_option maxHeartbeats 40000000 in
theorem comes_1 {Post : Tables → Env → Array Value → State → Outcome → State → Prop} (hpost : ∀ tb e args s v u, (limb_1_1.after args s (.returned v) u = true ∧ limb_1_2.after args s (.returned v) u = true ∧ True) → FrameEnd s (.returned v) u (Jvm.fieldLocs frame_1_writes args s ++ Jvm.arrayLocs frame_1_arrays args s ++ Jvm.staticLocs frame_1_statics s) 16 128 → Post tb e args s (.returned v) u) :
    ArmFor flags0 classFile x code maxLocals ret World_1 tables_1 room_1 Calls_1 rest_1 Pre_1 Post := by
  intro l hfl _ _ p e ha hc hk s m args below hf hA hF happ hP
  obtain ⟨hcalls, hrest, hpre⟩ := hP
  obtain ⟨-, -, -, hnamed, -, -, -, hat⟩ := (Spec.applies_iff hf).mp happ
  obtain ⟨hg, hn⟩ := and_e (Cond.before_iff.mp (show (Jvm.Cond.and given_1 narrow_1).before args s = true from hpre))
  obtain ⟨gc, gr0⟩ := and_e hg
  obtain ⟨ga0, gr1⟩ := and_e gr0
  obtain ⟨ga1, gr2⟩ := and_e gr1
  obtain ⟨ga2, gr3⟩ := and_e gr2
  have ga3 := gr3
  obtain ⟨w0, w1, w2, w3, rfl⟩ : ∃ w0 w1 w2 w3 : Value, args = #[w0, w1, w2, w3] := by
    have hs : args.size = 4 := by simpa [Cond.value, given_1] using gc
    obtain ⟨L⟩ := args
    match L, hs with
    | [w0, w1, w2, w3], _ => exact ⟨w0, w1, w2, w3, rfl⟩
  have hw := fun d (hd : d ∈ tables_1) => atoms_spec (ws := Jvm.Cond.code x code maxLocals ret :: tables_1) hat d (List.mem_cons_of_mem _ hd)
  have hfit : Fit s := fun {y c} hc i hi => by
    obtain ⟨ha, rfl⟩ := Array.getElem?_eq_some_iff.mp hc
    have q := List.all_eq_true.mp ((Array.all_eq_true_iff_forall_mem.mp hF) _ (Array.getElem_mem ha)) i (List.mem_range.mpr hi)
    simpa [Array.getElem?_eq_getElem hi] using q
  obtain ⟨i0, ei0⟩ := is_v ga0
  obtain rfl : w0 = (.int i0) := Option.some.inj ei0
  obtain ⟨i1, ei1⟩ := is_v ga1
  obtain rfl : w1 = (.int i1) := Option.some.inj ei1
  obtain ⟨i2, ei2⟩ := is_v ga2
  obtain rfl : w2 = (.int i2) := Option.some.inj ei2
  obtain ⟨i3, ei3⟩ := is_v ga3
  obtain rfl : w3 = (.int i3) := Option.some.inj ei3
  obtain ⟨n, o, h1, h2, h3, _, L, rfl, ⟨rfl, N⟩, hq⟩ := rm0 l s _ hw tables_1 i0 i1 i2 i3  s.heap s.heap.size (Nat.le_refl _)  p e ha hc hk s m _ below hf ((Spec.applies_iff_loose hf).mp happ).1 ⟨rfl, State.Warmed39.refl s, rfl⟩ trivial
  refine ⟨n, _, h1, h2, h3, hpost _ _ _ _ _ _ ⟨Cond.after_iff.mpr rfl, Cond.after_iff.mpr (eq_i res_at (Term.int_eval (1)) rfl), trivial⟩ ⟨hq.1, hq.2.1, (hq.2.2.sift fun y hy => Or.inr (N y hy)).mono (by decide) (by decide)⟩⟩
theorem main_1_1 : Claimed_1_1 := comes_1 fun _ _ _ _ _ _ h hF => ⟨h.1, hF⟩
theorem main_1_2 : Claimed_1_2 := comes_1 fun _ _ _ _ _ _ h hF => ⟨h.2.1, hF⟩
end Jvm.Pilot.@@N@@
namespace Jvm.Pilot.@@N@@
open Jvm Jvm.ClassFile Sem Op Lib Jvm.Free Jvm.Stand Jvm.Pilot.@@N@@.Jvm.D
/-! MADE BY PROGRAM (witnessworld.py) out of the Statement's table words and the real class files: 10 classes; the members and pool entries that the words name. The judged class is class 1, her method 3. -/
namespace start1
open Jvm.ClassFile
def u (s : String) : CpInfo := .utf8 (stringToUtf16 s)
/-- a pool by its gaps: so many unusable entries, then the entry; so many at the end -/
def gap : Nat → List CpInfo → List CpInfo
  | 0, r => r
  | n + 1, r => .unusable :: gap n r
def poolList (es : List (Nat × CpInfo)) (last : Nat) : List CpInfo := es.foldr (fun e r => gap e.1 (e.2 :: r)) (gap last [])
def pool (es : List (Nat × CpInfo)) (last : Nat) : Array CpInfo := ⟨poolList es last⟩
def fileOf (pool : Array CpInfo) (this : Nat) (attrs : Array Attribute := #[]) (ms : Array MethodInfo := #[]) (fl : Nat := 33) (sup : Nat := 0) (ifs : Array Nat := #[]) (fds : Array FieldInfo := #[]) : ClassFile where
  minorVersion := 0
  majorVersion := 65
  constantPool := pool
  accessFlags := fl
  thisClass := this
  superClass := sup
  interfaces := ifs
  fields := fds
  methods := ms
  attributes := attrs
def plain (name : String) (sup : Option ClassId) : Class where
  name := name
  kind := .ordinary
  loader := none
  accessFlags := 33
  super := sup
  interfaces := #[]
  cf := none
  fields := #[]
  methods := #[]
  instanceTypes := #[]
  staticTypes := #[]
  resolved := #[]
  callSites := []
  init := .initialized
  statics := none
  mirror := none

def pool0 : Array CpInfo := pool [(5, u "<init>"), (0, u "()V"), (1, .class_ 10), (1, u "java/lang/Object")] 113

def k0c0 : Code := { maxStack := 0, maxLocals := 1, code := object_method_1_code, exceptionTable := #[], attributes := #[] }
def k0m0 : Method := { name := "<init>", desc := "()V", sig := { parameters := [], returnType := none }, accessFlags := 1, code := some k0c0 }
/-- java/lang/Object -/
def k0 : Class := { plain "java/lang/Object" none with
  accessFlags := 33
  interfaces := #[]
  cf := some (fileOf pool0 8 #[] #[{ accessFlags := 1, nameIndex := 5, descriptorIndex := 6, attributes := #[] }] 33 0 #[] #[])
  fields := #[]
  methods := #[k0m0]
  instanceTypes := #[]
  staticTypes := #[]
  resolved := Array.replicate 124 none
  statics := none }

def pool1 : Array CpInfo := pool [(2, .class_ 4), (1, u "java/lang/Object"), (0, u "<init>"), (0, u "()V"), (0, .methodref 8 9), (0, .class_ 10), (0, .nameAndType 11 12), (0, u "java/lang/Math"), (0, u "min"), (0, u "(II)I"), (0, .methodref 8 14), (0, .nameAndType 15 12), (0, u "max"), (0, .methodref 17 18), (0, .class_ 19), (0, .nameAndType 20 21), (0, u "com/example/schema_dates/schemadates/PartRangeContainsPinLaw"), (0, u "pick"), (0, u "(IIII)I"), (0, .class_ 23), (0, u "com/example/schema_dates/schemadates/PartRange"), (0, .methodref 22 25), (0, .nameAndType 5 26), (0, u "(II)V"), (0, .methodref 22 28), (0, .nameAndType 29 30), (0, u "contains"), (0, u "(I)Z"), (0, .methodref 17 32), (0, .nameAndType 33 34), (0, u "expected"), (0, u "(III)Z"), (3, u "law"), (0, u "(IIII)Z")] 2

def k1m0 : Method := { name := "<init>", desc := "()V", sig := { parameters := [], returnType := none }, accessFlags := 1, code := none }
def k1c1 : Code := { maxStack := 2, maxLocals := 5, code := method_2_code, exceptionTable := #[], attributes := #[] }
def k1m1 : Method := { name := "pick", desc := "(IIII)I", sig := { parameters := [.int, .int, .int, .int], returnType := some .int }, accessFlags := 10, code := some k1c1 }
def k1c2 : Code := { maxStack := 3, maxLocals := 4, code := method_3_code, exceptionTable := #[], attributes := #[] }
def k1m2 : Method := { name := "expected", desc := "(III)Z", sig := { parameters := [.int, .int, .int], returnType := some .boolean }, accessFlags := 10, code := some k1c2 }
def k1c3 : Code := { maxStack := 4, maxLocals := 6, code := code, exceptionTable := #[], attributes := #[] }
def k1m3 : Method := { name := "law", desc := "(IIII)Z", sig := { parameters := [.int, .int, .int, .int], returnType := some .boolean }, accessFlags := 9, code := some k1c3 }
/-- com/example/schema_dates/schemadates/PartRangeContainsPinLaw -/
def k1 : Class := { plain "com/example/schema_dates/schemadates/PartRangeContainsPinLaw" (some 0) with
  accessFlags := 49
  interfaces := #[]
  cf := some (fileOf pool1 17 #[] #[{ accessFlags := 1, nameIndex := 5, descriptorIndex := 6, attributes := #[] }, { accessFlags := 10, nameIndex := 20, descriptorIndex := 21, attributes := #[] }, { accessFlags := 10, nameIndex := 33, descriptorIndex := 34, attributes := #[] }, { accessFlags := 9, nameIndex := 38, descriptorIndex := 39, attributes := #[] }] 49 2 #[] #[])
  fields := #[]
  methods := #[k1m0, k1m1, k1m2, k1m3]
  instanceTypes := #[]
  staticTypes := #[]
  resolved := Array.replicate 42 none
  statics := none }

def pool2 : Array CpInfo := pool [(1, .methodref 2 3), (0, .class_ 4), (0, .nameAndType 5 6), (0, u "java/lang/Object"), (0, u "<init>"), (0, u "()V"), (0, .fieldref 8 9), (0, .class_ 10), (0, .nameAndType 11 12), (0, u "com/example/schema_dates/schemadates/PartRange"), (0, u "min"), (0, u "I"), (0, .fieldref 8 14), (0, .nameAndType 15 12), (0, u "max"), (4, u "(II)V"), (2, u "contains"), (0, u "(I)Z")] 20

def k2c0 : Code := { maxStack := 2, maxLocals := 3, code := prog_18_method_1_code, exceptionTable := #[], attributes := #[] }
def k2m0 : Method := { name := "<init>", desc := "(II)V", sig := { parameters := [.int, .int], returnType := none }, accessFlags := 0, code := some k2c0 }
def k2c1 : Code := { maxStack := 2, maxLocals := 2, code := prog_18_method_2_code, exceptionTable := #[], attributes := #[] }
def k2m1 : Method := { name := "contains", desc := "(I)Z", sig := { parameters := [.int], returnType := some .boolean }, accessFlags := 0, code := some k2c1 }
/-- com/example/schema_dates/schemadates/PartRange -/
def k2 : Class := { plain "com/example/schema_dates/schemadates/PartRange" (some 0) with
  accessFlags := 48
  interfaces := #[]
  cf := some (fileOf pool2 8 #[] #[{ accessFlags := 0, nameIndex := 5, descriptorIndex := 20, attributes := #[] }, { accessFlags := 0, nameIndex := 23, descriptorIndex := 24, attributes := #[] }] 48 2 #[] #[{ accessFlags := 18, nameIndex := 11, descriptorIndex := 12, attributes := #[] }, { accessFlags := 18, nameIndex := 15, descriptorIndex := 12, attributes := #[] }])
  fields := #[{ name := "min", type := .int, accessFlags := 18, slot := 0, constantValue := 0 }, { name := "max", type := .int, accessFlags := 18, slot := 1, constantValue := 0 }]
  methods := #[k2m0, k2m1]
  instanceTypes := #[.int, .int]
  staticTypes := #[]
  resolved := Array.replicate 45 none
  statics := none }

def pool3 : Array CpInfo := pool [(1, .class_ 2), (0, u "java/lang/Math"), (1, .class_ 6), (1, u "java/lang/Object"), (0, u "<init>"), (0, u "()V"), (89, .class_ 100), (1, u "java/lang/Math$RandomNumberGeneratorHolder"), (71, u "negativeZeroFloatBits"), (0, u "J"), (2, u "negativeZeroDoubleBits"), (21, u "max"), (2, u "min"), (43, u "$assertionsDisabled"), (0, u "Z"), (88, u "(II)I"), (2, u "twoToTheDoubleScaleDown"), (0, u "D"), (4, u "twoToTheDoubleScaleUp"), (9, u "E"), (3, u "PI"), (2, u "TAU"), (2, u "DEGREES_TO_RADIANS"), (0, u "RADIANS_TO_DEGREES")] 94

def k3m0 : Method := { name := "<init>", desc := "()V", sig := { parameters := [], returnType := none }, accessFlags := 2, code := none }
def k3c1 : Code := { maxStack := 2, maxLocals := 2, code := jdk_29_method_65_code, exceptionTable := #[], attributes := #[] }
def k3m1 : Method := { name := "max", desc := "(II)I", sig := { parameters := [.int, .int], returnType := some .int }, accessFlags := 9, code := some k3c1 }
def k3c2 : Code := { maxStack := 2, maxLocals := 2, code := jdk_29_method_69_code, exceptionTable := #[], attributes := #[] }
def k3m2 : Method := { name := "min", desc := "(II)I", sig := { parameters := [.int, .int], returnType := some .int }, accessFlags := 9, code := some k3c2 }
/-- java/lang/Math -/
def k3 : Class := { plain "java/lang/Math" (some 0) with
  accessFlags := 49
  interfaces := #[]
  cf := some (fileOf pool3 1 #[.nestMembers #[98]] #[{ accessFlags := 2, nameIndex := 7, descriptorIndex := 8, attributes := #[] }, { accessFlags := 9, nameIndex := 198, descriptorIndex := 335, attributes := #[] }, { accessFlags := 9, nameIndex := 201, descriptorIndex := 335, attributes := #[] }] 49 4 #[] #[{ accessFlags := 25, nameIndex := 354, descriptorIndex := 339, attributes := #[] }, { accessFlags := 25, nameIndex := 358, descriptorIndex := 339, attributes := #[] }, { accessFlags := 25, nameIndex := 361, descriptorIndex := 339, attributes := #[] }, { accessFlags := 26, nameIndex := 364, descriptorIndex := 339, attributes := #[] }, { accessFlags := 26, nameIndex := 365, descriptorIndex := 339, attributes := #[] }, { accessFlags := 26, nameIndex := 172, descriptorIndex := 173, attributes := #[] }, { accessFlags := 26, nameIndex := 176, descriptorIndex := 173, attributes := #[] }, { accessFlags := 8, nameIndex := 344, descriptorIndex := 339, attributes := #[] }, { accessFlags := 8, nameIndex := 338, descriptorIndex := 339, attributes := #[] }, { accessFlags := 4120, nameIndex := 245, descriptorIndex := 246, attributes := #[] }])
  fields := #[{ name := "E", type := .double, accessFlags := 25, slot := 0, constantValue := 0 }, { name := "PI", type := .double, accessFlags := 25, slot := 1, constantValue := 0 }, { name := "TAU", type := .double, accessFlags := 25, slot := 2, constantValue := 0 }, { name := "DEGREES_TO_RADIANS", type := .double, accessFlags := 26, slot := 3, constantValue := 0 }, { name := "RADIANS_TO_DEGREES", type := .double, accessFlags := 26, slot := 4, constantValue := 0 }, { name := "negativeZeroFloatBits", type := .long, accessFlags := 26, slot := 5, constantValue := 0 }, { name := "negativeZeroDoubleBits", type := .long, accessFlags := 26, slot := 6, constantValue := 0 }, { name := "twoToTheDoubleScaleUp", type := .double, accessFlags := 8, slot := 7, constantValue := 0 }, { name := "twoToTheDoubleScaleDown", type := .double, accessFlags := 8, slot := 8, constantValue := 0 }, { name := "$assertionsDisabled", type := .boolean, accessFlags := 4120, slot := 9, constantValue := 0 }]
  methods := #[k3m0, k3m1, k3m2]
  instanceTypes := #[]
  staticTypes := #[.double, .double, .double, .double, .double, .long, .long, .double, .double, .boolean]
  resolved := Array.replicate 460 none
  statics := none }

def pool4 : Array CpInfo := pool [(1, u "java/lang/Cloneable"), (0, .class_ 1), (0, u "java/lang/Object"), (0, .class_ 3)] 3

/-- java/lang/Cloneable -/
def k4 : Class := { plain "java/lang/Cloneable" (some 0) with
  accessFlags := 1537
  interfaces := #[]
  cf := some (fileOf pool4 2 #[] #[] 1537 4 #[] #[])
  fields := #[]
  methods := #[]
  instanceTypes := #[]
  staticTypes := #[]
  resolved := Array.replicate 8 none
  statics := none }

def pool5 : Array CpInfo := pool [(1, u "java/io/Serializable"), (0, .class_ 1), (0, u "java/lang/Object"), (0, .class_ 3)] 3

/-- java/io/Serializable -/
def k5 : Class := { plain "java/io/Serializable" (some 0) with
  accessFlags := 1537
  interfaces := #[]
  cf := some (fileOf pool5 2 #[] #[] 1537 4 #[] #[])
  fields := #[]
  methods := #[]
  instanceTypes := #[]
  staticTypes := #[]
  resolved := Array.replicate 8 none
  statics := none }

/-- the primitive byte -/
def k6 : Class := { plain "byte" none with kind := .primitive 'B', accessFlags := 0x411 }
/-- [B -/
def k7 : Class := { plain "[B" (some 0) with kind := .array 6 .byte, interfaces := #[4, 5], accessFlags := 1041 }

/-- the primitive int -/
def k8 : Class := { plain "int" none with kind := .primitive 'I', accessFlags := 0x411 }
/-- [I -/
def k9 : Class := { plain "[I" (some 0) with kind := .array 8 .int, interfaces := #[4, 5], accessFlags := 1041 }

def heap : Heap := #[]
def classes : Array Class := #[k0, k1, k2, k3, k4, k5, k6, k7, k8, k9]
def interned : List (Array UInt16 × Addr) := []
def slotsUsed : Nat := 0
def theMethod : MethodId := ⟨1, 3⟩
def args0 : Array Value := #[.int 3, .int 9, .int 5, .int 0]
def aboutOver (below : List Frame) : State where
  vm := { classes := classes, interned := interned.toArray }
  heap := heap
  slotsUsed := slotsUsed
  threads := #[{ frames := .invoking theMethod args0 :: below }]
def below0 : List Frame := [.native { method := ⟨0, 0⟩, args := #[] }]
def about1 : State := aboutOver below0
def p0 : Program := .bare "" "" ""
def e0 : Env := launch0.env 0 0 0
theorem w_frames : about1.frames = Frame.invoking theMethod args0 :: below0 := rfl
set_option maxRecDepth 65536 in
theorem w_args : argsFit about1.vm theMethod args0 = true := by decide +kernel
set_option maxRecDepth 65536 in
theorem w_heap : heapFits about1 = true := by decide +kernel
set_option maxRecDepth 65536 in
theorem w_runnable : about1.curStatus? = some .runnable := by decide +kernel
set_option maxRecDepth 65536 in
theorem w_alone : about1.alone = true := by decide +kernel
set_option maxRecDepth 65536 in
theorem w_named : about1.methodNamed? x = some theMethod := by decide +kernel
set_option maxRecDepth 65536 in
theorem w_hears : about1.hears theMethod below0 = true := by decide +kernel
set_option maxRecDepth 65536 in
theorem w_ripe : about1.ripe theMethod args0 below0 = true := by decide +kernel
theorem w_running : about1.status = .running := rfl
set_option maxRecDepth 65536 in
theorem w_room : about1.hasRoom e0.platform room_1 = true :=
  launch0.hasRoom_least _ room_1 (by decide +kernel) (by decide +kernel) (by decide +kernel) (by decide +kernel) (by decide +kernel) (by decide +kernel)
theorem allAtoms_all (ts : List Jvm.Cond) (a : Array Jvm.Value) (st : Jvm.State) : (allAtoms ts).before a st = ts.all (fun c => c.before a st) := by
  induction ts with
  | nil => rfl
  | cons c t ih =>
    show (Jvm.Cond.and c (allAtoms t)).before a st = _
    rw [Jvm.Cond.before_and, ih, List.all_cons]
def words1 : List Jvm.Cond := Jvm.Cond.code x code maxLocals ret :: tables_1
/-- a 'code' word, met by the world's own term for the bytes: nothing is compared byte by byte -/
theorem code_word {y : MethodName} {bytes : ByteArray} {mx : Nat} {rt : Option FieldType} {a : Array Value} {s : State} {m : MethodId} {meth : Method} {c : Code} (h1 : s.methodNamed? y = some m) (h2 : s.vm.method? m = some meth) (h3 : meth.code = some c) (h4 : c.code = bytes)
    (h5 : (c.maxLocals == mx && c.exceptionTable.isEmpty && decide (c.maxStack ≤ mostOperands) && decide (meth.sig.returnType = rt) && !meth.locks && decide (parseMethodDescriptor y.desc = some meth.sig)) = true) : (Jvm.Cond.code y bytes mx rt).before a s = true := by
  simp only [Bool.and_eq_true, beq_iff_eq, Bool.not_eq_true', decide_eq_true_eq] at h5
  obtain ⟨⟨⟨⟨⟨g1, g2⟩, g3⟩, g4⟩, g5⟩, g6⟩ := h5
  simp [Cond.before, Cond.holds, Cond.value, h1, h2, h3, h4, g1, g2, g3, g4, g5, g6]
def isCode : Jvm.Cond → Bool
  | .code _ _ _ _ => true
  | _ => false
theorem all_split {L : List Jvm.Cond} {P : Jvm.Cond → Bool} (h1 : L.all (fun c => isCode c || P c) = true) (h2 : ∀ c ∈ L.filter isCode, P c = true) : L.all P = true := by
  refine List.all_eq_true.mpr fun c hc => ?_
  have h := List.all_eq_true.mp h1 c hc
  rcases Bool.eq_false_or_eq_true (isCode c) with hi | hi
  · exact h2 c (List.mem_filter.mpr ⟨hc, hi⟩)
  · simpa [hi] using h
set_option maxRecDepth 65536 in
theorem w_c0 : (Jvm.Cond.code x code maxLocals ret).before args0 about1 = true := code_word (m := ⟨1, 3⟩) (meth := k1m3) (c := k1c3) (by decide +kernel) rfl rfl rfl (by decide +kernel)
set_option maxRecDepth 65536 in
theorem w_c1 : (Jvm.Cond.code ({ cls := "com/example/schema_dates/schemadates/PartRangeContainsPinLaw", name := "pick", desc := "(IIII)I" } : Jvm.MethodName) method_2_code (5 : Nat) (Option.some Jvm.ClassFile.FieldType.int)).before args0 about1 = true := code_word (m := ⟨1, 1⟩) (meth := k1m1) (c := k1c1) (by decide +kernel) rfl rfl rfl (by decide +kernel)
set_option maxRecDepth 65536 in
theorem w_c2 : (Jvm.Cond.code ({ cls := "com/example/schema_dates/schemadates/PartRange", name := "<init>", desc := "(II)V" } : Jvm.MethodName) prog_18_method_1_code (3 : Nat) (Option.none : Option Jvm.ClassFile.FieldType)).before args0 about1 = true := code_word (m := ⟨2, 0⟩) (meth := k2m0) (c := k2c0) (by decide +kernel) rfl rfl rfl (by decide +kernel)
set_option maxRecDepth 65536 in
theorem w_c3 : (Jvm.Cond.code ({ cls := "java/lang/Object", name := "<init>", desc := "()V" } : Jvm.MethodName) object_method_1_code (1 : Nat) (Option.none : Option Jvm.ClassFile.FieldType)).before args0 about1 = true := code_word (m := ⟨0, 0⟩) (meth := k0m0) (c := k0c0) (by decide +kernel) rfl rfl rfl (by decide +kernel)
set_option maxRecDepth 65536 in
theorem w_c4 : (Jvm.Cond.code ({ cls := "com/example/schema_dates/schemadates/PartRange", name := "contains", desc := "(I)Z" } : Jvm.MethodName) prog_18_method_2_code (2 : Nat) (Option.some Jvm.ClassFile.FieldType.boolean)).before args0 about1 = true := code_word (m := ⟨2, 1⟩) (meth := k2m1) (c := k2c1) (by decide +kernel) rfl rfl rfl (by decide +kernel)
set_option maxRecDepth 65536 in
theorem w_c5 : (Jvm.Cond.code ({ cls := "com/example/schema_dates/schemadates/PartRangeContainsPinLaw", name := "expected", desc := "(III)Z" } : Jvm.MethodName) method_3_code (4 : Nat) (Option.some Jvm.ClassFile.FieldType.boolean)).before args0 about1 = true := code_word (m := ⟨1, 2⟩) (meth := k1m2) (c := k1c2) (by decide +kernel) rfl rfl rfl (by decide +kernel)
set_option maxRecDepth 65536 in
theorem w_c6 : (Jvm.Cond.code ({ cls := "java/lang/Math", name := "min", desc := "(II)I" } : Jvm.MethodName) jdk_29_method_69_code (2 : Nat) (Option.some Jvm.ClassFile.FieldType.int)).before args0 about1 = true := code_word (m := ⟨3, 2⟩) (meth := k3m2) (c := k3c2) (by decide +kernel) rfl rfl rfl (by decide +kernel)
set_option maxRecDepth 65536 in
theorem w_c7 : (Jvm.Cond.code ({ cls := "java/lang/Math", name := "max", desc := "(II)I" } : Jvm.MethodName) jdk_29_method_65_code (2 : Nat) (Option.some Jvm.ClassFile.FieldType.int)).before args0 about1 = true := code_word (m := ⟨3, 1⟩) (meth := k3m1) (c := k3c1) (by decide +kernel) rfl rfl rfl (by decide +kernel)
def codes1 : List Jvm.Cond := [Jvm.Cond.code x code maxLocals ret, Jvm.Cond.code ({ cls := "com/example/schema_dates/schemadates/PartRangeContainsPinLaw", name := "pick", desc := "(IIII)I" } : Jvm.MethodName) method_2_code (5 : Nat) (Option.some Jvm.ClassFile.FieldType.int), Jvm.Cond.code ({ cls := "com/example/schema_dates/schemadates/PartRange", name := "<init>", desc := "(II)V" } : Jvm.MethodName) prog_18_method_1_code (3 : Nat) (Option.none : Option Jvm.ClassFile.FieldType), Jvm.Cond.code ({ cls := "java/lang/Object", name := "<init>", desc := "()V" } : Jvm.MethodName) object_method_1_code (1 : Nat) (Option.none : Option Jvm.ClassFile.FieldType), Jvm.Cond.code ({ cls := "com/example/schema_dates/schemadates/PartRange", name := "contains", desc := "(I)Z" } : Jvm.MethodName) prog_18_method_2_code (2 : Nat) (Option.some Jvm.ClassFile.FieldType.boolean), Jvm.Cond.code ({ cls := "com/example/schema_dates/schemadates/PartRangeContainsPinLaw", name := "expected", desc := "(III)Z" } : Jvm.MethodName) method_3_code (4 : Nat) (Option.some Jvm.ClassFile.FieldType.boolean), Jvm.Cond.code ({ cls := "java/lang/Math", name := "min", desc := "(II)I" } : Jvm.MethodName) jdk_29_method_69_code (2 : Nat) (Option.some Jvm.ClassFile.FieldType.int), Jvm.Cond.code ({ cls := "java/lang/Math", name := "max", desc := "(II)I" } : Jvm.MethodName) jdk_29_method_65_code (2 : Nat) (Option.some Jvm.ClassFile.FieldType.int)]
set_option maxRecDepth 65536 in
theorem codes_eq : words1.filter isCode = codes1 := rfl
theorem w_codes : ∀ c ∈ words1.filter isCode, c.before args0 about1 = true := by
  rw [codes_eq]
  intro c hc
  simp only [codes1, List.mem_cons, List.not_mem_nil, or_false] at hc
  rcases hc with rfl | rfl | rfl | rfl | rfl | rfl | rfl | rfl
  · exact w_c0
  · exact w_c1
  · exact w_c2
  · exact w_c3
  · exact w_c4
  · exact w_c5
  · exact w_c6
  · exact w_c7
set_option maxRecDepth 65536 in
theorem w_t1 : (words1.take 24).all (fun c => isCode c || c.before args0 about1) = true := by decide +kernel
set_option maxRecDepth 65536 in
theorem w_t2 : (words1.drop 24).all (fun c => isCode c || c.before args0 about1) = true := by decide +kernel
theorem w_tables : (allAtoms (Jvm.Cond.code x code maxLocals ret :: tables_1)).before args0 about1 = true := by
  rw [allAtoms_all]
  show words1.all (fun c => c.before args0 about1) = true
  refine all_split ?_ w_codes
  rw [← List.take_append_drop 24 words1, List.all_append, w_t1, w_t2]
  rfl
set_option maxRecDepth 65536 in
theorem w_case : (Jvm.Cond.and given_1 narrow_1).before args0 about1 = true := by decide +kernel
theorem w_applies : (headSpec (Jvm.Cond.code x code maxLocals ret :: tables_1) room_1).applies x e0.platform about1 = true :=
  (Spec.applies_iff w_frames).mpr ⟨w_running, w_runnable, w_alone, w_named, w_hears, w_ripe, w_room, w_tables⟩
theorem atStart : AtStart classFile x code maxLocals ret World_1 tables_1 room_1 Calls_1 rest_1 Pre_1 launch0 p0 e0 about1 theMethod args0 below0 :=
  ⟨lists_1, trivial, launch0.admits_env _ _ _, launch0.least_env, fairChoices_fair.cas, fairChoices_fair.clock, w_frames, w_args, w_heap, w_applies, trivial, trivial, w_case⟩
end start1
theorem witness_1 : WitnessClaimed_1 := ⟨start1.p0, start1.e0, start1.about1, start1.theMethod, start1.args0, start1.below0, start1.atStart⟩
end Jvm.Pilot.@@N@@
