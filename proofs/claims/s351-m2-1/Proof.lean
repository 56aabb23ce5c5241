import JvmDerived
import JvmDerived.Pilot.@@N@@Statement
import JvmDerived.Pilot.@@N@@Code
set_option linter.unusedVariables false
set_option linter.unusedSimpArgs false
namespace Jvm.Pilot.@@N@@
open Jvm Jvm.ClassFile Sem Op Lib Jvm.Free Jvm.Stand Jvm.LawKit Jvm.RoadKit Bundle Jvm.Pilot.@@N@@.Jvm.D
/-- a body's contract by a walk whose goal is a predicate G: 'go' takes a step, 'fin' a return -/
theorem own_enter {l : Launch} {y : MethodName} {cd : ByteArray} {ml : Nat} {rt : Option FieldType} {ws : List Jvm.Cond} {R : Room} {Z : State} {h0 : Heap} {as : Array Value} {Q : Option Value → Heap → List Loc → Prop} (hpl : plainFor y = true)
    (body : ∀ (p : Program) (e : Env) (s : State) (m : MethodId) (below : List Frame) (meth : Method) (c : Code) (s₁ : State) (G : State → Prop),
      Stand p l e R s m as below meth c s₁ [] 0 0 → p.tables.exec = Jvm.exec → c.code = cd → c.maxLocals = ml → Z.Warmed39 s.vm → s.vm.findClass y.cls = some m.cls → meth.name = y.name → meth.sig.returnType = rt → s₁.heap = h0 →
      (∀ {a b : State}, (∀ t, Steps p.tables e below b t → Steps p.tables e below a t) → G b → G a) →
      (∀ {T : State} {locs : List Loc} {cells slots : Nat} {g : JFrame} (v : Option Value), Stand p l e R s m as below meth c T locs cells slots → (rt = none → v = none) →
        (∀ fs, (∀ (f : JFrame) (acts : List Action), f.method = m → f.locked = none → f.entered = [] → (doReturn e (T.setTop f) acts v).1 = T.setFrames fs) → Steps p.tables e below (T.setTop g) (T.setFrames fs)) →
        cells ≤ R.cells → slots ≤ R.slots → Q v T.heap locs → G (T.setTop g)) →
      G (s₁.setTop (entryFrame m as ml))) :
    MetFree l y (head1 (Jvm.Cond.code y cd ml rt :: ws) R) (fun a U => a = as ∧ Z.Warmed39 U.vm ∧ U.heap = h0) (fun _ _ _ _ _ => True) (fun _ U o U' => ∃ v L, o = .returned v ∧ Q v U'.heap L ∧ FrameEnd U o U' L R.cells R.slots) := by
  refine MetFree.of_bodySF hpl hisR ?_
  intro p e s m args below meth c s₁ Bd hml0 hP hK
  obtain ⟨rfl, hZ, hh⟩ := hP
  have hlk : meth.locks = false := Bd.notSynchronized
  have key := body p e s m below meth c s₁ (fun a => ∃ t, Steps p.tables e below a t ∧ ∃ o, t.status = .running ∧ Ended t below o ∧ ∃ v L, o = .returned v ∧ Q v t.heap L ∧ FrameEnd s o t L R.cells R.slots)
    (Stand.of_body Bd) Bd.exec Bd.bytes hml0 hZ (findClass_of_methodNamed Bd.named) (name_of_methodNamed Bd.named Bd.method).1 Bd.returns (by rw [← hh, Bd.state]; rfl)
    (fun h g => by obtain ⟨t, h1, h2⟩ := g; exact ⟨t, h t h1, h2⟩)
    (fun {T locs cells slots g} v X hv hs hc hsl hQ => by
      obtain ⟨fs, hr, hrun, hended, hW, hsame⟩ := X.leave (v := v) (fun h => hv (Bd.returns.symm.trans h)) hlk
      exact ⟨_, hs fs hr, _, hrun, hended, v, locs, rfl, hQ, ⟨_, rfl⟩, hW, hsame.mono hc hsl⟩)
  obtain ⟨t, h1, o, h2, h3, h4⟩ := key
  exact ⟨t, o, h1, h2, h3, h4⟩
theorem own_lrem {p : Program} {l : Launch} {e : Env} {R : Room} {s : State} {m : MethodId} {args : Array Value} {below : List Frame} {meth : Method} {c : Code} {T : State} {locs : List Loc} {cells slots : Nat} {g : JFrame} {target : State} (X : Stand p l e R s m args below meth c T locs cells slots) (hx : p.tables.exec = Jvm.exec) (hg : g.method = m) {x y : Int64} {rest : List Value} (hd : decode c.code g.pc = .ok (.lrem, 1)) (hs : g.stack = .long y :: .long x :: rest) (hy : y ≠ 0)
    (hr : Steps p.tables e below (T.setTop { g with pc := g.pc + 1, stack := .long (x % y) :: rest }) target) : Steps p.tables e below (T.setTop g) target := XS.lrem X.here hx hg hd hs hy (by rw [lrem_mod]; exact hr)
theorem own_irr (x : Int32) : ¬ x < x := Int32.lt_irrefl
theorem own_irrL (x : Int64) : ¬ x < x := Int64.lt_irrefl
theorem own_eq_int {a : Term} {k : Int32} {args : Array Value} {first s : State} {o : Option Outcome} {idx : List Nat} (h : (Jvm.Cond.eq a (.int k)).value args first o s idx = some true) : a.eval args first o idx s = some (.int k) := by
  obtain ⟨x, y, ha, hb, k1, k2⟩ := cmp_v (Or.inl h)
  cases (show some (Value.int k) = some y from hb)
  obtain ⟨z, rfl⟩ := k2
  have q : (Jvm.Cond.eq a (.int k)).value args first o s idx = some (decide (z = k)) := by simp [Cond.value, ha, Term.eval]
  rw [gotT q h] at ha
  exact ha
theorem own_eq_ref {a b : Term} {u : Addr} {args : Array Value} {first s : State} {o : Option Outcome} {idx : List Nat} (h : (Jvm.Cond.eq a b).value args first o s idx = some true) (hb : b.eval args first o idx s = some (.ref u)) : a.eval args first o idx s = some (.ref u) := by
  obtain ⟨x, y, ha, hb', k1, k2⟩ := cmp_v (Or.inl h)
  cases hb.symm.trans hb'
  have hr : x.isRef = true := by cases x <;> simp_all [Kin, Value.isRef]
  have q := gotT (eq_R ha hb hr rfl) h
  rw [q] at ha
  exact ha
theorem own_exa_ns {Z : State} {h : Heap} {a : Addr} {C : String} (F : Exa Z h a C) : ∀ cell : Cell, h[a]? = some cell → cell.vm.isStatics = false := fun cell hc => by
  obtain ⟨c, k, h1, -, -, h4, -⟩ := F
  cases hc.symm.trans h1
  exact h4
theorem own_sta_keep {Z : State} {h h' : Heap} {C n d : String} {v : Value} {ws : List Addr} (F : Sta Z h C n d v) (K : Keep h h' ws) (q : ∀ a ∈ ws, ∀ cell : Cell, h[a]? = some cell → cell.vm.isStatics = false) : Sta Z h' C n d v := by
  obtain ⟨cf, i, k, f, st, cell, h1, h2, h3, h4, h5, h6, h7⟩ := F
  exact ⟨cf, i, k, f, st, cell, h1, h2, h3, h4, K.2.1 _ _ h5 (fun z => by rw [q _ z _ h5] at h6; cases h6), h6, h7⟩
theorem own_len {s : State} {args : Array Value} {t : Term} {a : Addr} {cl : Cell} {ty : FieldType} {z : Int32} (ht : t.eval args s none [] s = some (.ref a)) (A : Arr s s.heap a cl ty) (h : (Term.length t).eval args s none [] s = some (.int z)) : cl.slots.size < 2 ^ 31 ∧ cl.slots.size.toInt32 = z := by
  have ha := Arr.fin (State.Warmed39.refl s).alike A
  by_cases hn : cl.slots.size < 2 ^ 31
  · have q := (len_f ht ha hn).symm.trans h
    exact ⟨hn, Value.int.inj (Option.some.inj q)⟩
  · simp [Term.eval, ht, ha] at h
    omega
theorem own_elem {s : State} {args : Array Value} {t : Term} {a : Addr} {cl : Cell} {ty : FieldType} {j : Int32} {v : Value} (ht : t.eval args s none [] s = some (.ref a)) (A : Arr s s.heap a cl ty) (h : (Term.elem t (.int j)).eval args s none [] s = some v) (hn : ¬ j < 0) : cl.slots[j.toNatClampNeg]? = some v :=
  (elem_f ht rfl (Arr.fin (State.Warmed39.refl s).alike A) hn).symm.trans h
theorem own_selp {Z s : State} {a0 args : Array Value} {y : MethodName} {n : Nat} (hZ : Z.Warmed39 s.vm) (wi : (Jvm.Cond.instantiable y.cls n).before a0 Z = true) (wp : (Jvm.Cond.privateMethod y).before a0 Z = true) (wm : (Jvm.Cond.instanceMethod y).before a0 Z = true) (hy : y.cls ≠ "java/lang/invoke/MethodHandle" ∧ y.cls ≠ "java/lang/invoke/VarHandle") : (Jvm.Cond.selects y.cls y y).before args s = true := by
  have wi' : (Jvm.Cond.instantiable y.cls n).before args s = true := mvT hZ wi
  obtain ⟨c, k, h1, h2, -, h4, -⟩ := Cond.instantiable_spec wi'
  exact selects_self_of_private h1 h2 (Bool.or_eq_false_iff.mp h4).1 (Cond.privateMethod_at (mvP hZ wp (args := args))) (mvT hZ wm) hy
def own_minL (a b : Int64) : Int64 := if b < a then b else a
def own_maxL (a b : Int64) : Int64 := if a < b then b else a
def own_acc (o u : Addr) (a b : Int64) : Int32 := if o = u then (if a < b then 0 else 1) else (if b < a then 0 else 1)
theorem own_b1 {u : Addr} {a b : Int64} (h : own_maxL a b = a) : own_acc u u a b = (1 : Int32) := by
  simp only [own_acc, own_maxL, Int64.lt_iff_toInt_lt] at h ⊢
  split at h
  · subst h; exfalso; omega
  · simp [*]
theorem own_b0 {u : Addr} {a b : Int64} (h : ¬ own_maxL a b = a) : own_acc u u a b = (0 : Int32) := by
  simp only [own_acc, own_maxL] at h ⊢
  split at h
  · simp [*]
  · exact absurd rfl h
theorem own_s1 {o u : Addr} {a b : Int64} (q : ¬ o = u) (h : own_minL a b = a) : own_acc o u a b = (1 : Int32) := by
  simp only [own_acc, own_minL, Int64.lt_iff_toInt_lt, q, if_false] at h ⊢
  split at h
  · subst h; exfalso; omega
  · simp [*]
theorem own_s0 {o u : Addr} {a b : Int64} (q : ¬ o = u) (h : ¬ own_minL a b = a) : own_acc o u a b = (0 : Int32) := by
  simp only [own_acc, own_minL, q, if_false] at h ⊢
  split at h
  · simp [*]
  · exact absurd rfl h
theorem ef_2 (m : MethodId) (x0 : Int64) (x1 : Int64) : entryFrame m #[(.long x0), (.long x1)] 4 = mkF m 0 #[.val (.long x0), .second, .val (.long x1), .second] [] := by first | (simp [entryFrame, mkF, argsToLocals, Value.category]; done) | rfl
theorem d2_0 : decode jdk_29_method_70_code 0 = .ok (.lload_n 0, 1) := by decide +kernel
theorem d2_1 : decode jdk_29_method_70_code 1 = .ok (.lload_n 2, 1) := by decide +kernel
theorem d2_2 : decode jdk_29_method_70_code 2 = .ok (.lcmp, 1) := by decide +kernel
theorem d2_3 : decode jdk_29_method_70_code 3 = .ok (.ifCond .gt 7, 3) := by decide +kernel
theorem d2_10 : decode jdk_29_method_70_code 10 = .ok (.lload_n 2, 1) := by decide +kernel
theorem d2_11 : decode jdk_29_method_70_code 11 = .ok (.lreturn, 1) := by decide +kernel
theorem d2_6 : decode jdk_29_method_70_code 6 = .ok (.lload_n 0, 1) := by decide +kernel
theorem d2_7 : decode jdk_29_method_70_code 7 = .ok (.goto 4, 3) := by decide +kernel
def Q_rm2 (Z : State) (xa : Int64) (xb : Int64) (h0 : Heap) (n0 : Nat) (v : Option Value) (h : Heap) (L : List Loc) : Prop := v = some (.long (own_minL xa xb)) ∧ Fr n0 L ∧ h = h0
set_option maxRecDepth 65536 in
set_option maxHeartbeats 40000000 in
theorem rm2 (l : Launch) (Z : State) (a0 : Array Value) (hw : ∀ d ∈ tables_1, d.before a0 Z = true) (ws : List Jvm.Cond) (xa : Int64) (xb : Int64) (h0 : Heap) (n0 : Nat) (Z0 : n0 ≤ h0.size) :
    MetFree l (⟨"java/lang/Math", "min", "(JJ)J"⟩ : MethodName) (head1 (Jvm.Cond.code (⟨"java/lang/Math", "min", "(JJ)J"⟩ : MethodName) jdk_29_method_70_code 4 (some .long) :: ws) ({ frames := 0, cells := 0, slots := 0, locals := 0 } : Room)) (fun a U => a = #[(.long xa), (.long xb)] ∧ Z.Warmed39 U.vm ∧ U.heap = h0) (fun _ _ _ _ _ => True) (fun _ U o U' => ∃ v L, o = .returned v ∧ Q_rm2 Z xa xb h0 n0 v U'.heap L ∧ FrameEnd U o U' L ({ frames := 0, cells := 0, slots := 0, locals := 0 } : Room).cells ({ frames := 0, cells := 0, slots := 0, locals := 0 } : Room).slots) := by
  refine own_enter (Q := Q_rm2 Z xa xb h0 n0) (Jvm.Free.JP.mathPlain rfl (by decide +kernel)) ?_
  intro p e s m below meth c s₁ G X0 hx hby hml hZ hown hnm hret e0 go fin
  replace hown : s.vm.findClass "java/lang/Math" = some m.cls := hown
  replace hnm : meth.name = "min" := hnm
  replace hml : c.maxLocals = 4 := hml
  rw [ef_2 m xa xb]
  have N0 := Fr.nil n0
  show G (s₁.setTop (mkF m 0 #[.val (.long xa), .second, .val (.long xb), .second] []))
  refine go (fun tg kg => XS.lloadN X0.here hx rfl (hb hby d2_0) rfl kg) ?_
  show G (s₁.setTop (mkF m 1 #[.val (.long xa), .second, .val (.long xb), .second] [(.long xa)]))
  refine go (fun tg kg => XS.lloadN X0.here hx rfl (hb hby d2_1) rfl kg) ?_
  show G (s₁.setTop (mkF m 2 #[.val (.long xa), .second, .val (.long xb), .second] [(.long xb), (.long xa)]))
  refine go (fun tg kg => XS.lcmp X0.here hx rfl (hb hby d2_2) rfl kg) ?_
  show G (s₁.setTop (mkF m 3 #[.val (.long xa), .second, .val (.long xb), .second] [(.int (lcmpW xa xb))]))
  by_cases hc1 : xb < xa
  · refine go (fun tg kg => XS.ifYes X0.here hx rfl (pc0 := 3) (pc' := 10) rfl (hb hby d2_3) rfl ((if0 _ _).trans (tlt ((lw_gt xa xb).mpr hc1)).2.2.1) (by decide) (by decide) kg) ?_
    show G (s₁.setTop (mkF m 10 #[.val (.long xa), .second, .val (.long xb), .second] []))
    refine go (fun tg kg => XS.lloadN X0.here hx rfl (hb hby d2_10) rfl kg) ?_
    show G (s₁.setTop (mkF m 11 #[.val (.long xa), .second, .val (.long xb), .second] [(.long xb)]))
    refine fin (some (.long xb)) X0 (fun h => absurd h (by decide)) (fun fs hr => retOut X0 hx hret rfl (Or.inr (Or.inl ⟨rfl, rfl, _, rfl⟩)) (hb hby d2_11) hr) (by decide) (by decide) ?_
    rw [e0]
    exact ⟨by simp only [own_minL, if_pos hc1], N0, rfl⟩
  · refine go (fun tg kg => XS.ifNo X0.here hx rfl (hb hby d2_3) rfl ((if0 _ _).trans (flt (mt (lw_gt xa xb).mp hc1)).2.2.1) kg) ?_
    show G (s₁.setTop (mkF m 6 #[.val (.long xa), .second, .val (.long xb), .second] []))
    refine go (fun tg kg => XS.lloadN X0.here hx rfl (hb hby d2_6) rfl kg) ?_
    show G (s₁.setTop (mkF m 7 #[.val (.long xa), .second, .val (.long xb), .second] [(.long xa)]))
    refine go (fun tg kg => XS.goto X0.here hx rfl (pc0 := 7) (pc' := 11) rfl (hb hby d2_7) (by decide) (by decide) kg) ?_
    show G (s₁.setTop (mkF m 11 #[.val (.long xa), .second, .val (.long xb), .second] [(.long xa)]))
    refine fin (some (.long xa)) X0 (fun h => absurd h (by decide)) (fun fs hr => retOut X0 hx hret rfl (Or.inr (Or.inl ⟨rfl, rfl, _, rfl⟩)) (hb hby d2_11) hr) (by decide) (by decide) ?_
    rw [e0]
    exact ⟨by simp only [own_minL, if_neg hc1], N0, rfl⟩
theorem ef_3 (m : MethodId) (x0 : Int64) (x1 : Int64) : entryFrame m #[(.long x0), (.long x1)] 4 = mkF m 0 #[.val (.long x0), .second, .val (.long x1), .second] [] := by first | (simp [entryFrame, mkF, argsToLocals, Value.category]; done) | rfl
theorem d3_0 : decode jdk_29_method_66_code 0 = .ok (.lload_n 0, 1) := by decide +kernel
theorem d3_1 : decode jdk_29_method_66_code 1 = .ok (.lload_n 2, 1) := by decide +kernel
theorem d3_2 : decode jdk_29_method_66_code 2 = .ok (.lcmp, 1) := by decide +kernel
theorem d3_3 : decode jdk_29_method_66_code 3 = .ok (.ifCond .lt 7, 3) := by decide +kernel
theorem d3_10 : decode jdk_29_method_66_code 10 = .ok (.lload_n 2, 1) := by decide +kernel
theorem d3_11 : decode jdk_29_method_66_code 11 = .ok (.lreturn, 1) := by decide +kernel
theorem d3_6 : decode jdk_29_method_66_code 6 = .ok (.lload_n 0, 1) := by decide +kernel
theorem d3_7 : decode jdk_29_method_66_code 7 = .ok (.goto 4, 3) := by decide +kernel
def Q_rm3 (Z : State) (xa : Int64) (xb : Int64) (h0 : Heap) (n0 : Nat) (v : Option Value) (h : Heap) (L : List Loc) : Prop := v = some (.long (own_maxL xa xb)) ∧ Fr n0 L ∧ h = h0
set_option maxRecDepth 65536 in
set_option maxHeartbeats 40000000 in
theorem rm3 (l : Launch) (Z : State) (a0 : Array Value) (hw : ∀ d ∈ tables_1, d.before a0 Z = true) (ws : List Jvm.Cond) (xa : Int64) (xb : Int64) (h0 : Heap) (n0 : Nat) (Z0 : n0 ≤ h0.size) :
    MetFree l (⟨"java/lang/Math", "max", "(JJ)J"⟩ : MethodName) (head1 (Jvm.Cond.code (⟨"java/lang/Math", "max", "(JJ)J"⟩ : MethodName) jdk_29_method_66_code 4 (some .long) :: ws) ({ frames := 0, cells := 0, slots := 0, locals := 0 } : Room)) (fun a U => a = #[(.long xa), (.long xb)] ∧ Z.Warmed39 U.vm ∧ U.heap = h0) (fun _ _ _ _ _ => True) (fun _ U o U' => ∃ v L, o = .returned v ∧ Q_rm3 Z xa xb h0 n0 v U'.heap L ∧ FrameEnd U o U' L ({ frames := 0, cells := 0, slots := 0, locals := 0 } : Room).cells ({ frames := 0, cells := 0, slots := 0, locals := 0 } : Room).slots) := by
  refine own_enter (Q := Q_rm3 Z xa xb h0 n0) (Jvm.Free.JP.mathPlain rfl (by decide +kernel)) ?_
  intro p e s m below meth c s₁ G X0 hx hby hml hZ hown hnm hret e0 go fin
  replace hown : s.vm.findClass "java/lang/Math" = some m.cls := hown
  replace hnm : meth.name = "max" := hnm
  replace hml : c.maxLocals = 4 := hml
  rw [ef_3 m xa xb]
  have N0 := Fr.nil n0
  show G (s₁.setTop (mkF m 0 #[.val (.long xa), .second, .val (.long xb), .second] []))
  refine go (fun tg kg => XS.lloadN X0.here hx rfl (hb hby d3_0) rfl kg) ?_
  show G (s₁.setTop (mkF m 1 #[.val (.long xa), .second, .val (.long xb), .second] [(.long xa)]))
  refine go (fun tg kg => XS.lloadN X0.here hx rfl (hb hby d3_1) rfl kg) ?_
  show G (s₁.setTop (mkF m 2 #[.val (.long xa), .second, .val (.long xb), .second] [(.long xb), (.long xa)]))
  refine go (fun tg kg => XS.lcmp X0.here hx rfl (hb hby d3_2) rfl kg) ?_
  show G (s₁.setTop (mkF m 3 #[.val (.long xa), .second, .val (.long xb), .second] [(.int (lcmpW xa xb))]))
  by_cases hc1 : xa < xb
  · refine go (fun tg kg => XS.ifYes X0.here hx rfl (pc0 := 3) (pc' := 10) rfl (hb hby d3_3) rfl ((if0 _ _).trans (tlt ((lw_lt xa xb).mpr hc1)).1) (by decide) (by decide) kg) ?_
    show G (s₁.setTop (mkF m 10 #[.val (.long xa), .second, .val (.long xb), .second] []))
    refine go (fun tg kg => XS.lloadN X0.here hx rfl (hb hby d3_10) rfl kg) ?_
    show G (s₁.setTop (mkF m 11 #[.val (.long xa), .second, .val (.long xb), .second] [(.long xb)]))
    refine fin (some (.long xb)) X0 (fun h => absurd h (by decide)) (fun fs hr => retOut X0 hx hret rfl (Or.inr (Or.inl ⟨rfl, rfl, _, rfl⟩)) (hb hby d3_11) hr) (by decide) (by decide) ?_
    rw [e0]
    exact ⟨by simp only [own_maxL, if_pos hc1], N0, rfl⟩
  · refine go (fun tg kg => XS.ifNo X0.here hx rfl (hb hby d3_3) rfl ((if0 _ _).trans (flt (mt (lw_lt xa xb).mp hc1)).1) kg) ?_
    show G (s₁.setTop (mkF m 6 #[.val (.long xa), .second, .val (.long xb), .second] []))
    refine go (fun tg kg => XS.lloadN X0.here hx rfl (hb hby d3_6) rfl kg) ?_
    show G (s₁.setTop (mkF m 7 #[.val (.long xa), .second, .val (.long xb), .second] [(.long xa)]))
    refine go (fun tg kg => XS.goto X0.here hx rfl (pc0 := 7) (pc' := 11) rfl (hb hby d3_7) (by decide) (by decide) kg) ?_
    show G (s₁.setTop (mkF m 11 #[.val (.long xa), .second, .val (.long xb), .second] [(.long xa)]))
    refine fin (some (.long xa)) X0 (fun h => absurd h (by decide)) (fun fs hr => retOut X0 hx hret rfl (Or.inr (Or.inl ⟨rfl, rfl, _, rfl⟩)) (hb hby d3_11) hr) (by decide) (by decide) ?_
    rw [e0]
    exact ⟨by simp only [own_maxL, if_neg hc1], N0, rfl⟩
theorem pn_com_example_orderwright_orderwright_model_Side : plainName "com/example/orderwright/orderwright/model/Side" = true := by first | (simp [plainName, overriddenIn]; done) | decide +kernel
theorem ef_1 (m : MethodId) (x0 : Addr) (x1 : Int64) (x2 : Int64) : entryFrame m #[(.ref x0), (.long x1), (.long x2)] 5 = mkF m 0 #[.val (.ref x0), .val (.long x1), .second, .val (.long x2), .second] [] := by first | (simp [entryFrame, mkF, argsToLocals, Value.category]; done) | rfl
theorem d1_0 : decode prog_90_method_5_code 0 = .ok (.aload_n 0, 1) := by decide +kernel
theorem d1_1 : decode prog_90_method_5_code 1 = .ok (.getstatic 3, 3) := by decide +kernel
theorem d1_4 : decode prog_90_method_5_code 4 = .ok (.if_acmp .ne 17, 3) := by decide +kernel
theorem d1_7 : decode prog_90_method_5_code 7 = .ok (.lload_n 3, 1) := by decide +kernel
theorem d1_8 : decode prog_90_method_5_code 8 = .ok (.lload_n 1, 1) := by decide +kernel
theorem d1_9 : decode prog_90_method_5_code 9 = .ok (.lcmp, 1) := by decide +kernel
theorem d1_10 : decode prog_90_method_5_code 10 = .ok (.ifCond .gt 7, 3) := by decide +kernel
theorem d1_17 : decode prog_90_method_5_code 17 = .ok (.iconst 0, 1) := by decide +kernel
theorem d1_18 : decode prog_90_method_5_code 18 = .ok (.goto 14, 3) := by decide +kernel
theorem d1_32 : decode prog_90_method_5_code 32 = .ok (.ireturn, 1) := by decide +kernel
theorem d1_13 : decode prog_90_method_5_code 13 = .ok (.iconst 1, 1) := by decide +kernel
theorem d1_14 : decode prog_90_method_5_code 14 = .ok (.goto 18, 3) := by decide +kernel
theorem d1_21 : decode prog_90_method_5_code 21 = .ok (.lload_n 3, 1) := by decide +kernel
theorem d1_22 : decode prog_90_method_5_code 22 = .ok (.lload_n 1, 1) := by decide +kernel
theorem d1_23 : decode prog_90_method_5_code 23 = .ok (.lcmp, 1) := by decide +kernel
theorem d1_24 : decode prog_90_method_5_code 24 = .ok (.ifCond .lt 7, 3) := by decide +kernel
theorem d1_31 : decode prog_90_method_5_code 31 = .ok (.iconst 0, 1) := by decide +kernel
theorem d1_27 : decode prog_90_method_5_code 27 = .ok (.iconst 1, 1) := by decide +kernel
theorem d1_28 : decode prog_90_method_5_code 28 = .ok (.goto 4, 3) := by decide +kernel
def Q_rm1 (Z : State) (ob : Addr) (xa : Int64) (xb : Int64) (u_BUY : Addr) (h0 : Heap) (n0 : Nat) (v : Option Value) (h : Heap) (L : List Loc) : Prop := v = some (.int (own_acc ob u_BUY xa xb)) ∧ Fr n0 L ∧ h = h0
set_option maxRecDepth 65536 in
set_option maxHeartbeats 40000000 in
theorem rm1 (l : Launch) (Z : State) (a0 : Array Value) (hw : ∀ d ∈ tables_1, d.before a0 Z = true) (ws : List Jvm.Cond) (ob : Addr) (xa : Int64) (xb : Int64) (u_BUY : Addr) (h0 : Heap) (n0 : Nat) (Z0 : n0 ≤ h0.size) (S_u_BUY : Sta Z h0 "com/example/orderwright/orderwright/model/Side" "BUY" "Lcom/example/orderwright/orderwright/model/Side;" (.ref u_BUY)) :
    MetFree l (⟨"com/example/orderwright/orderwright/model/Side", "accepts", "(JJ)Z"⟩ : MethodName) (head1 (Jvm.Cond.code (⟨"com/example/orderwright/orderwright/model/Side", "accepts", "(JJ)Z"⟩ : MethodName) prog_90_method_5_code 5 (some .boolean) :: ws) ({ frames := 0, cells := 0, slots := 0, locals := 0 } : Room)) (fun a U => a = #[(.ref ob), (.long xa), (.long xb)] ∧ Z.Warmed39 U.vm ∧ U.heap = h0) (fun _ _ _ _ _ => True) (fun _ U o U' => ∃ v L, o = .returned v ∧ Q_rm1 Z ob xa xb u_BUY h0 n0 v U'.heap L ∧ FrameEnd U o U' L ({ frames := 0, cells := 0, slots := 0, locals := 0 } : Room).cells ({ frames := 0, cells := 0, slots := 0, locals := 0 } : Room).slots) := by
  refine own_enter (Q := Q_rm1 Z ob xa xb u_BUY h0 n0) (plainFor_of_name pn_com_example_orderwright_orderwright_model_Side) ?_
  intro p e s m below meth c s₁ G X0 hx hby hml hZ hown hnm hret e0 go fin
  replace hown : s.vm.findClass "com/example/orderwright/orderwright/model/Side" = some m.cls := hown
  replace hnm : meth.name = "accepts" := hnm
  replace hml : c.maxLocals = 5 := hml
  rw [ef_1 m ob xa xb]
  have N0 := Fr.nil n0
  show G (s₁.setTop (mkF m 0 #[.val (.ref ob), .val (.long xa), .second, .val (.long xb), .second] []))
  refine go (fun tg kg => XS.aloadN X0.here hx rfl (hb hby d1_0) rfl rfl kg) ?_
  show G (s₁.setTop (mkF m 1 #[.val (.ref ob), .val (.long xa), .second, .val (.long xb), .second] [(.ref ob)]))
  obtain ⟨T1, X1, e1, st1⟩ := getS2 X0 hx hZ hown (host := "") (Or.inl (hw _ (List.mem_of_getElem? (i := 8) rfl))) Via.refl e0 S_u_BUY (g := (mkF m 1 #[.val (.ref ob), .val (.long xa), .second, .val (.long xb), .second] [(.ref ob)])) rfl (hb hby d1_1)
  refine go st1 ?_
  show G (T1.setTop (mkF m 4 #[.val (.ref ob), .val (.long xa), .second, .val (.long xb), .second] [(.ref u_BUY), (.ref ob)]))
  by_cases ha2 : ob = u_BUY
  · refine go (fun tg kg => Jvm.RoadKit.acmp (g := (mkF m 4 #[.val (.ref ob), .val (.long xa), .second, .val (.long xb), .second] [(.ref u_BUY), (.ref ob)])) X1 hx rfl rfl rfl (pc0 := 4) (pc' := 7) (same := true) rfl (hb hby d1_4) rfl (decide_eq_true (congrArg Value.ref ha2)) (by decide) (by decide) kg) ?_
    show G (T1.setTop (mkF m 7 #[.val (.ref ob), .val (.long xa), .second, .val (.long xb), .second] []))
    refine go (fun tg kg => XS.lloadN X1.here hx rfl (hb hby d1_7) rfl kg) ?_
    show G (T1.setTop (mkF m 8 #[.val (.ref ob), .val (.long xa), .second, .val (.long xb), .second] [(.long xb)]))
    refine go (fun tg kg => XS.lloadN X1.here hx rfl (hb hby d1_8) rfl kg) ?_
    show G (T1.setTop (mkF m 9 #[.val (.ref ob), .val (.long xa), .second, .val (.long xb), .second] [(.long xa), (.long xb)]))
    refine go (fun tg kg => XS.lcmp X1.here hx rfl (hb hby d1_9) rfl kg) ?_
    show G (T1.setTop (mkF m 10 #[.val (.ref ob), .val (.long xa), .second, .val (.long xb), .second] [(.int (lcmpW xb xa))]))
    by_cases hc3 : xa < xb
    · refine go (fun tg kg => XS.ifYes X1.here hx rfl (pc0 := 10) (pc' := 17) rfl (hb hby d1_10) rfl ((if0 _ _).trans (tlt ((lw_gt xb xa).mpr hc3)).2.2.1) (by decide) (by decide) kg) ?_
      show G (T1.setTop (mkF m 17 #[.val (.ref ob), .val (.long xa), .second, .val (.long xb), .second] []))
      refine go (fun tg kg => XS.iconst X1.here hx rfl (hb hby d1_17) kg) ?_
      show G (T1.setTop (mkF m 18 #[.val (.ref ob), .val (.long xa), .second, .val (.long xb), .second] [(.int (0 : Int32))]))
      refine go (fun tg kg => XS.goto X1.here hx rfl (pc0 := 18) (pc' := 32) rfl (hb hby d1_18) (by decide) (by decide) kg) ?_
      show G (T1.setTop (mkF m 32 #[.val (.ref ob), .val (.long xa), .second, .val (.long xb), .second] [(.int (0 : Int32))]))
      refine fin (some (.int (0 : Int32))) X1 (fun h => absurd h (by decide)) (fun fs hr => retN X1 hx (t := .boolean) hret (by simp) (hb hby d1_32) hr) (by decide) (by decide) ?_
      rw [e1]
      exact ⟨by simp only [own_acc, if_pos ha2, if_pos hc3], N0, rfl⟩
    · refine go (fun tg kg => XS.ifNo X1.here hx rfl (hb hby d1_10) rfl ((if0 _ _).trans (flt (mt (lw_gt xb xa).mp hc3)).2.2.1) kg) ?_
      show G (T1.setTop (mkF m 13 #[.val (.ref ob), .val (.long xa), .second, .val (.long xb), .second] []))
      refine go (fun tg kg => XS.iconst X1.here hx rfl (hb hby d1_13) kg) ?_
      show G (T1.setTop (mkF m 14 #[.val (.ref ob), .val (.long xa), .second, .val (.long xb), .second] [(.int (1 : Int32))]))
      refine go (fun tg kg => XS.goto X1.here hx rfl (pc0 := 14) (pc' := 32) rfl (hb hby d1_14) (by decide) (by decide) kg) ?_
      show G (T1.setTop (mkF m 32 #[.val (.ref ob), .val (.long xa), .second, .val (.long xb), .second] [(.int (1 : Int32))]))
      refine fin (some (.int (1 : Int32))) X1 (fun h => absurd h (by decide)) (fun fs hr => retN X1 hx (t := .boolean) hret (by simp) (hb hby d1_32) hr) (by decide) (by decide) ?_
      rw [e1]
      exact ⟨by simp only [own_acc, if_pos ha2, if_neg hc3], N0, rfl⟩
  · refine go (fun tg kg => Jvm.RoadKit.acmp (g := (mkF m 4 #[.val (.ref ob), .val (.long xa), .second, .val (.long xb), .second] [(.ref u_BUY), (.ref ob)])) X1 hx rfl rfl rfl (pc0 := 4) (pc' := 21) (same := false) rfl (hb hby d1_4) rfl (decide_eq_false fun q => ha2 (Value.ref.inj q)) (by decide) (by decide) kg) ?_
    show G (T1.setTop (mkF m 21 #[.val (.ref ob), .val (.long xa), .second, .val (.long xb), .second] []))
    refine go (fun tg kg => XS.lloadN X1.here hx rfl (hb hby d1_21) rfl kg) ?_
    show G (T1.setTop (mkF m 22 #[.val (.ref ob), .val (.long xa), .second, .val (.long xb), .second] [(.long xb)]))
    refine go (fun tg kg => XS.lloadN X1.here hx rfl (hb hby d1_22) rfl kg) ?_
    show G (T1.setTop (mkF m 23 #[.val (.ref ob), .val (.long xa), .second, .val (.long xb), .second] [(.long xa), (.long xb)]))
    refine go (fun tg kg => XS.lcmp X1.here hx rfl (hb hby d1_23) rfl kg) ?_
    show G (T1.setTop (mkF m 24 #[.val (.ref ob), .val (.long xa), .second, .val (.long xb), .second] [(.int (lcmpW xb xa))]))
    by_cases hc4 : xb < xa
    · refine go (fun tg kg => XS.ifYes X1.here hx rfl (pc0 := 24) (pc' := 31) rfl (hb hby d1_24) rfl ((if0 _ _).trans (tlt ((lw_lt xb xa).mpr hc4)).1) (by decide) (by decide) kg) ?_
      show G (T1.setTop (mkF m 31 #[.val (.ref ob), .val (.long xa), .second, .val (.long xb), .second] []))
      refine go (fun tg kg => XS.iconst X1.here hx rfl (hb hby d1_31) kg) ?_
      show G (T1.setTop (mkF m 32 #[.val (.ref ob), .val (.long xa), .second, .val (.long xb), .second] [(.int (0 : Int32))]))
      refine fin (some (.int (0 : Int32))) X1 (fun h => absurd h (by decide)) (fun fs hr => retN X1 hx (t := .boolean) hret (by simp) (hb hby d1_32) hr) (by decide) (by decide) ?_
      rw [e1]
      exact ⟨by simp only [own_acc, if_neg ha2, if_pos hc4], N0, rfl⟩
    · refine go (fun tg kg => XS.ifNo X1.here hx rfl (hb hby d1_24) rfl ((if0 _ _).trans (flt (mt (lw_lt xb xa).mp hc4)).1) kg) ?_
      show G (T1.setTop (mkF m 27 #[.val (.ref ob), .val (.long xa), .second, .val (.long xb), .second] []))
      refine go (fun tg kg => XS.iconst X1.here hx rfl (hb hby d1_27) kg) ?_
      show G (T1.setTop (mkF m 28 #[.val (.ref ob), .val (.long xa), .second, .val (.long xb), .second] [(.int (1 : Int32))]))
      refine go (fun tg kg => XS.goto X1.here hx rfl (pc0 := 28) (pc' := 32) rfl (hb hby d1_28) (by decide) (by decide) kg) ?_
      show G (T1.setTop (mkF m 32 #[.val (.ref ob), .val (.long xa), .second, .val (.long xb), .second] [(.int (1 : Int32))]))
      refine fin (some (.int (1 : Int32))) X1 (fun h => absurd h (by decide)) (fun fs hr => retN X1 hx (t := .boolean) hret (by simp) (hb hby d1_32) hr) (by decide) (by decide) ?_
      rw [e1]
      exact ⟨by simp only [own_acc, if_neg ha2, if_neg hc4], N0, rfl⟩
theorem pn_com_example_orderwright_orderwright_model_SideAcceptsPinLaw : plainName "com/example/orderwright/orderwright/model/SideAcceptsPinLaw" = true := by first | (simp [plainName, overriddenIn]; done) | decide +kernel
theorem ef_0 (m : MethodId) (x0 : Int64) (x1 : Int64) (x2 : Int32) : entryFrame m #[(.long x0), (.long x1), (.int x2)] maxLocals = mkF m 0 #[.val (.long x0), .second, .val (.long x1), .second, .val (.int x2), .unset, .unset, .unset, .unset] [] := by first | (simp [entryFrame, mkF, argsToLocals, Value.category, maxLocals]; done) | rfl
theorem pd__JJ_Z : parseMethodDescriptor "(JJ)Z" = some ⟨[.long, .long], some .boolean⟩ := by decide +kernel
theorem pd__JJ_J : parseMethodDescriptor "(JJ)J" = some ⟨[.long, .long], some .long⟩ := by decide +kernel
def Q_rm0 (Z : State) (x0 : Int64) (x1 : Int64) (x2 : Int32) (u_BUY : Addr) (u_SELL : Addr) (h0 : Heap) (n0 : Nat) (v : Option Value) (h : Heap) (L : List Loc) : Prop := v = some (.int 1) ∧ Fr n0 L
set_option maxRecDepth 65536 in
set_option maxHeartbeats 40000000 in
theorem rm0 (l : Launch) (Z : State) (a0 : Array Value) (hw : ∀ d ∈ tables_1, d.before a0 Z = true) (ws : List Jvm.Cond) (x0 : Int64) (x1 : Int64) (x2 : Int32) (u_BUY : Addr) (u_SELL : Addr) (h0 : Heap) (n0 : Nat) (Z0 : n0 ≤ h0.size) (S_u_BUY : Sta Z h0 "com/example/orderwright/orderwright/model/Side" "BUY" "Lcom/example/orderwright/orderwright/model/Side;" (.ref u_BUY)) (S_u_SELL : Sta Z h0 "com/example/orderwright/orderwright/model/Side" "SELL" "Lcom/example/orderwright/orderwright/model/Side;" (.ref u_SELL)) (Eb : Exa Z h0 u_BUY "com/example/orderwright/orderwright/model/Side") (Es : Exa Z h0 u_SELL "com/example/orderwright/orderwright/model/Side") (hne : ¬ u_SELL = u_BUY) :
    MetFree l x (head1 (Jvm.Cond.code x code maxLocals ret :: ws) room_1) (fun a U => a = #[(.long x0), (.long x1), (.int x2)] ∧ Z.Warmed39 U.vm ∧ U.heap = h0) (fun _ _ _ _ _ => True) (fun _ U o U' => ∃ v L, o = .returned v ∧ Q_rm0 Z x0 x1 x2 u_BUY u_SELL h0 n0 v U'.heap L ∧ FrameEnd U o U' L room_1.cells room_1.slots) := by
  refine own_enter (Q := Q_rm0 Z x0 x1 x2 u_BUY u_SELL h0 n0) (plainFor_of_name pn_com_example_orderwright_orderwright_model_SideAcceptsPinLaw) ?_
  intro p e s m below meth c s₁ G X0 hx hby hml hZ hown hnm hret e0 go fin
  replace hown : s.vm.findClass "com/example/orderwright/orderwright/model/SideAcceptsPinLaw" = some m.cls := hown
  replace hnm : meth.name = "law" := hnm
  replace hml : c.maxLocals = 9 := hml
  rw [ef_0 m x0 x1 x2]
  have N0 := Fr.nil n0
  show G (s₁.setTop (mkF m 0 #[.val (.long x0), .second, .val (.long x1), .second, .val (.int x2), .unset, .unset, .unset, .unset] []))
  refine go (fun tg kg => XS.iload X0.here hx rfl (hb hby at_0) rfl kg) ?_
  show G (s₁.setTop (mkF m 2 #[.val (.long x0), .second, .val (.long x1), .second, .val (.int x2), .unset, .unset, .unset, .unset] [(.int x2)]))
  refine go (fun tg kg => XS.iconst X0.here hx rfl (hb hby at_2) kg) ?_
  show G (s₁.setTop (mkF m 3 #[.val (.long x0), .second, .val (.long x1), .second, .val (.int x2), .unset, .unset, .unset, .unset] [(.int (1 : Int32)), (.int x2)]))
  refine go (fun tg kg => XS.iand X0.here hx rfl (hb hby at_3) rfl kg) ?_
  show G (s₁.setTop (mkF m 4 #[.val (.long x0), .second, .val (.long x1), .second, .val (.int x2), .unset, .unset, .unset, .unset] [(.int (x2 &&& (1 : Int32)))]))
  by_cases hc1 : (x2 &&& (1 : Int32)) = (0 : Int32)
  · refine go (fun tg kg => XS.ifYes X0.here hx rfl (pc0 := 4) (pc' := 11) rfl (hb hby at_4) rfl ((if0 _ _).trans (teq hc1).1) (by decide) (by decide) kg) ?_
    show G (s₁.setTop (mkF m 11 #[.val (.long x0), .second, .val (.long x1), .second, .val (.int x2), .unset, .unset, .unset, .unset] []))
    refine go (fun tg kg => XS.iconst X0.here hx rfl (hb hby at_11) kg) ?_
    show G (s₁.setTop (mkF m 12 #[.val (.long x0), .second, .val (.long x1), .second, .val (.int x2), .unset, .unset, .unset, .unset] [(.int (0 : Int32))]))
    refine go (fun tg kg => XS.istore X0.here hx rfl (hb hby at_12) rfl (l' := #[.val (.long x0), .second, .val (.long x1), .second, .val (.int x2), .val (.int (0 : Int32)), .unset, .unset, .unset]) rfl kg) ?_
    show G (s₁.setTop (mkF m 14 #[.val (.long x0), .second, .val (.long x1), .second, .val (.int x2), .val (.int (0 : Int32)), .unset, .unset, .unset] []))
    refine go (fun tg kg => XS.iload X0.here hx rfl (hb hby at_14) rfl kg) ?_
    show G (s₁.setTop (mkF m 16 #[.val (.long x0), .second, .val (.long x1), .second, .val (.int x2), .val (.int (0 : Int32)), .unset, .unset, .unset] [(.int (0 : Int32))]))
    refine go (fun tg kg => XS.ifYes X0.here hx rfl (pc0 := 16) (pc' := 25) rfl (hb hby at_16) rfl ((if0 _ _).trans (teq (by decide)).1) (by decide) (by decide) kg) ?_
    show G (s₁.setTop (mkF m 25 #[.val (.long x0), .second, .val (.long x1), .second, .val (.int x2), .val (.int (0 : Int32)), .unset, .unset, .unset] []))
    obtain ⟨T2, X2, e2, st2⟩ := getS2 X0 hx hZ hown (host := "") (Or.inl (hw _ (List.mem_of_getElem? (i := 0) rfl))) Via.refl e0 S_u_SELL (g := (mkF m 25 #[.val (.long x0), .second, .val (.long x1), .second, .val (.int x2), .val (.int (0 : Int32)), .unset, .unset, .unset] [])) rfl (hb hby at_25)
    refine go st2 ?_
    show G (T2.setTop (mkF m 28 #[.val (.long x0), .second, .val (.long x1), .second, .val (.int x2), .val (.int (0 : Int32)), .unset, .unset, .unset] [(.ref u_SELL)]))
    refine go (fun tg kg => XS.astore X2.here hx rfl (hb hby at_28) rfl rfl (l' := #[.val (.long x0), .second, .val (.long x1), .second, .val (.int x2), .val (.int (0 : Int32)), .val (.ref u_SELL), .unset, .unset]) rfl kg) ?_
    show G (T2.setTop (mkF m 30 #[.val (.long x0), .second, .val (.long x1), .second, .val (.int x2), .val (.int (0 : Int32)), .val (.ref u_SELL), .unset, .unset] []))
    refine go (fun tg kg => XS.aload X2.here hx rfl (hb hby at_30) rfl rfl kg) ?_
    show G (T2.setTop (mkF m 32 #[.val (.long x0), .second, .val (.long x1), .second, .val (.int x2), .val (.int (0 : Int32)), .val (.ref u_SELL), .unset, .unset] [(.ref u_SELL)]))
    refine go (fun tg kg => XS.lloadN X2.here hx rfl (hb hby at_32) rfl kg) ?_
    show G (T2.setTop (mkF m 33 #[.val (.long x0), .second, .val (.long x1), .second, .val (.int x2), .val (.int (0 : Int32)), .val (.ref u_SELL), .unset, .unset] [(.long x0), (.ref u_SELL)]))
    refine go (fun tg kg => XS.lloadN X2.here hx rfl (hb hby at_33) rfl kg) ?_
    show G (T2.setTop (mkF m 34 #[.val (.long x0), .second, .val (.long x1), .second, .val (.int x2), .val (.int (0 : Int32)), .val (.ref u_SELL), .unset, .unset] [(.long x1), (.long x0), (.ref u_SELL)]))
    obtain ⟨cq3, kq3, q3a, q3b, q3c⟩ := isOf hZ e2 Es
    obtain ⟨_, _, ⟨T3, L3, k3, n3⟩, -, X3, ⟨Lc3, hQ3, l3, y3, z3⟩, st3⟩ := X2.virtualBack hx (y := (⟨"com/example/orderwright/orderwright/model/Side", "accepts", "(JJ)Z"⟩ : MethodName)) (z := (⟨"com/example/orderwright/orderwright/model/Side", "accepts", "(JJ)Z"⟩ : MethodName)) hown (mvT hZ (hw _ (List.mem_of_getElem? (i := 3) rfl))) (mvT hZ (hw _ (List.mem_of_getElem? (i := 4) rfl))) (notFace_of_selects (args := #[]) (mvT hZ (hw _ (List.mem_of_getElem? (i := 6) rfl)))) (mvT hZ (hw _ (List.mem_of_getElem? (i := 6) rfl))) (mvT hZ (hw _ (List.mem_of_getElem? (i := 5) rfl))) (by decide) (backOf (W := 0) (rm1 l Z a0 hw [] u_SELL x0 x1 u_BUY h0 n0 Z0 S_u_BUY) hZ (hw _ (List.mem_of_getElem? (i := 7) rfl)) (hw _ (List.mem_of_getElem? (i := 1) rfl)) (by decide) (by decide)) q3a q3c (g := (mkF m 34 #[.val (.long x0), .second, .val (.long x1), .second, .val (.int x2), .val (.int (0 : Int32)), .val (.ref u_SELL), .unset, .unset] [(.long x1), (.long x0), (.ref u_SELL)])) rfl (by rw [hml]; rfl) (Steps.refl _) (argsL := [(.long x0), (.long x1)]) (rest := []) (lenOf pd__JJ_Z rfl) rfl (by show 2 * 0 + _ ≤ _; exact Nat.le_of_eq rfl) (hb hby at_34) (fun _ _ => ⟨rfl, e2, (by decide : 0 + 0 ≤ _), (by decide : 0 + 0 ≤ _)⟩)
    dsimp only [Pt.U, Pt.locs, Pt.cells, Pt.slots] at X3 l3 y3 z3 st3 hQ3
    subst l3 y3 z3
    obtain ⟨rfl, Nq3, e3⟩ := hQ3
    have N3 := Fr.app N0 Nq3
    refine go (fun tg kg => st3.trans kg) ?_
    show G (T3.setTop (mkF m 37 #[.val (.long x0), .second, .val (.long x1), .second, .val (.int x2), .val (.int (0 : Int32)), .val (.ref u_SELL), .unset, .unset] [(.int (own_acc u_SELL u_BUY x0 x1))]))
    refine go (fun tg kg => XS.istore X3.here hx rfl (hb hby at_37) rfl (l' := #[.val (.long x0), .second, .val (.long x1), .second, .val (.int x2), .val (.int (0 : Int32)), .val (.ref u_SELL), .val (.int (own_acc u_SELL u_BUY x0 x1)), .unset]) rfl kg) ?_
    show G (T3.setTop (mkF m 39 #[.val (.long x0), .second, .val (.long x1), .second, .val (.int x2), .val (.int (0 : Int32)), .val (.ref u_SELL), .val (.int (own_acc u_SELL u_BUY x0 x1)), .unset] []))
    refine go (fun tg kg => XS.iload X3.here hx rfl (hb hby at_39) rfl kg) ?_
    show G (T3.setTop (mkF m 41 #[.val (.long x0), .second, .val (.long x1), .second, .val (.int x2), .val (.int (0 : Int32)), .val (.ref u_SELL), .val (.int (own_acc u_SELL u_BUY x0 x1)), .unset] [(.int (0 : Int32))]))
    refine go (fun tg kg => XS.ifYes X3.here hx rfl (pc0 := 41) (pc' := 64) rfl (hb hby at_41) rfl ((if0 _ _).trans (teq (by decide)).1) (by decide) (by decide) kg) ?_
    show G (T3.setTop (mkF m 64 #[.val (.long x0), .second, .val (.long x1), .second, .val (.int x2), .val (.int (0 : Int32)), .val (.ref u_SELL), .val (.int (own_acc u_SELL u_BUY x0 x1)), .unset] []))
    refine go (fun tg kg => XS.lloadN X3.here hx rfl (hb hby at_64) rfl kg) ?_
    show G (T3.setTop (mkF m 65 #[.val (.long x0), .second, .val (.long x1), .second, .val (.int x2), .val (.int (0 : Int32)), .val (.ref u_SELL), .val (.int (own_acc u_SELL u_BUY x0 x1)), .unset] [(.long x0)]))
    refine go (fun tg kg => XS.lloadN X3.here hx rfl (hb hby at_65) rfl kg) ?_
    show G (T3.setTop (mkF m 66 #[.val (.long x0), .second, .val (.long x1), .second, .val (.int x2), .val (.int (0 : Int32)), .val (.ref u_SELL), .val (.int (own_acc u_SELL u_BUY x0 x1)), .unset] [(.long x1), (.long x0)]))
    obtain ⟨_, _, ⟨T4, L4, k4, n4⟩, -, X4, ⟨Lc4, hQ4, l4, y4, z4⟩, st4⟩ := Jvm.LawKit.callS X3 hx (y := (⟨"java/lang/Math", "min", "(JJ)J"⟩ : MethodName)) hown (mvT hZ (hw _ (List.mem_of_getElem? (i := 10) rfl))) (mvT hZ (hw _ (List.mem_of_getElem? (i := 11) rfl))) (mvT hZ (hw _ (List.mem_of_getElem? (i := 12) rfl))) (mvT hZ (hw _ (List.mem_of_getElem? (i := 13) rfl))) (by decide) (backOf (W := 0) (rm2 l Z a0 hw [] x0 x1 h0 n0 Z0 ) hZ (hw _ (List.mem_of_getElem? (i := 13) rfl)) (hw _ (List.mem_of_getElem? (i := 12) rfl)) (by decide) (by decide)) (g := (mkF m 66 #[.val (.long x0), .second, .val (.long x1), .second, .val (.int x2), .val (.int (0 : Int32)), .val (.ref u_SELL), .val (.int (own_acc u_SELL u_BUY x0 x1)), .unset] [(.long x1), (.long x0)])) rfl (by rw [hml]; rfl) (argsL := [(.long x0), (.long x1)]) (rest := []) (lenOf pd__JJ_J rfl) rfl (by show 2 * 0 + _ ≤ _; exact Nat.le_of_eq rfl) (hb hby at_66) (fun _ _ => ⟨rfl, e3, (by decide : 0 + 0 ≤ _), (by decide : 0 + 0 ≤ _)⟩)
    dsimp only [Pt.U, Pt.locs, Pt.cells, Pt.slots] at X4 l4 y4 z4 st4 hQ4
    subst l4 y4 z4
    obtain ⟨rfl, Nq4, e4⟩ := hQ4
    have N4 := Fr.app N3 Nq4
    refine go st4 ?_
    show G (T4.setTop (mkF m 69 #[.val (.long x0), .second, .val (.long x1), .second, .val (.int x2), .val (.int (0 : Int32)), .val (.ref u_SELL), .val (.int (own_acc u_SELL u_BUY x0 x1)), .unset] [(.long (own_minL x0 x1))]))
    refine go (fun tg kg => XS.lloadN X4.here hx rfl (hb hby at_69) rfl kg) ?_
    show G (T4.setTop (mkF m 70 #[.val (.long x0), .second, .val (.long x1), .second, .val (.int x2), .val (.int (0 : Int32)), .val (.ref u_SELL), .val (.int (own_acc u_SELL u_BUY x0 x1)), .unset] [(.long x0), (.long (own_minL x0 x1))]))
    refine go (fun tg kg => XS.lcmp X4.here hx rfl (hb hby at_70) rfl kg) ?_
    show G (T4.setTop (mkF m 71 #[.val (.long x0), .second, .val (.long x1), .second, .val (.int x2), .val (.int (0 : Int32)), .val (.ref u_SELL), .val (.int (own_acc u_SELL u_BUY x0 x1)), .unset] [(.int (lcmpW (own_minL x0 x1) x0))]))
    by_cases hc5 : (own_minL x0 x1) = x0
    · refine go (fun tg kg => XS.ifNo X4.here hx rfl (hb hby at_71) rfl ((if0 _ _).trans (teq ((lw_eq (own_minL x0 x1) x0).mpr hc5)).2) kg) ?_
      show G (T4.setTop (mkF m 74 #[.val (.long x0), .second, .val (.long x1), .second, .val (.int x2), .val (.int (0 : Int32)), .val (.ref u_SELL), .val (.int (own_acc u_SELL u_BUY x0 x1)), .unset] []))
      refine go (fun tg kg => XS.iconst X4.here hx rfl (hb hby at_74) kg) ?_
      show G (T4.setTop (mkF m 75 #[.val (.long x0), .second, .val (.long x1), .second, .val (.int x2), .val (.int (0 : Int32)), .val (.ref u_SELL), .val (.int (own_acc u_SELL u_BUY x0 x1)), .unset] [(.int (1 : Int32))]))
      refine go (fun tg kg => XS.goto X4.here hx rfl (pc0 := 75) (pc' := 79) rfl (hb hby at_75) (by decide) (by decide) kg) ?_
      show G (T4.setTop (mkF m 79 #[.val (.long x0), .second, .val (.long x1), .second, .val (.int x2), .val (.int (0 : Int32)), .val (.ref u_SELL), .val (.int (own_acc u_SELL u_BUY x0 x1)), .unset] [(.int (1 : Int32))]))
      refine go (fun tg kg => XS.istore X4.here hx rfl (hb hby at_79) rfl (l' := #[.val (.long x0), .second, .val (.long x1), .second, .val (.int x2), .val (.int (0 : Int32)), .val (.ref u_SELL), .val (.int (own_acc u_SELL u_BUY x0 x1)), .val (.int (1 : Int32))]) rfl kg) ?_
      show G (T4.setTop (mkF m 81 #[.val (.long x0), .second, .val (.long x1), .second, .val (.int x2), .val (.int (0 : Int32)), .val (.ref u_SELL), .val (.int (own_acc u_SELL u_BUY x0 x1)), .val (.int (1 : Int32))] []))
      refine go (fun tg kg => XS.iload X4.here hx rfl (hb hby at_81) rfl kg) ?_
      show G (T4.setTop (mkF m 83 #[.val (.long x0), .second, .val (.long x1), .second, .val (.int x2), .val (.int (0 : Int32)), .val (.ref u_SELL), .val (.int (own_acc u_SELL u_BUY x0 x1)), .val (.int (1 : Int32))] [(.int (own_acc u_SELL u_BUY x0 x1))]))
      refine go (fun tg kg => XS.iload X4.here hx rfl (hb hby at_83) rfl kg) ?_
      show G (T4.setTop (mkF m 85 #[.val (.long x0), .second, .val (.long x1), .second, .val (.int x2), .val (.int (0 : Int32)), .val (.ref u_SELL), .val (.int (own_acc u_SELL u_BUY x0 x1)), .val (.int (1 : Int32))] [(.int (1 : Int32)), (.int (own_acc u_SELL u_BUY x0 x1))]))
      refine go (fun tg kg => XS.icmpNo X4.here hx rfl (hb hby at_85) rfl (teq (own_s1 hne hc5)).2 kg) ?_
      show G (T4.setTop (mkF m 88 #[.val (.long x0), .second, .val (.long x1), .second, .val (.int x2), .val (.int (0 : Int32)), .val (.ref u_SELL), .val (.int (own_acc u_SELL u_BUY x0 x1)), .val (.int (1 : Int32))] []))
      refine go (fun tg kg => XS.iconst X4.here hx rfl (hb hby at_88) kg) ?_
      show G (T4.setTop (mkF m 89 #[.val (.long x0), .second, .val (.long x1), .second, .val (.int x2), .val (.int (0 : Int32)), .val (.ref u_SELL), .val (.int (own_acc u_SELL u_BUY x0 x1)), .val (.int (1 : Int32))] [(.int (1 : Int32))]))
      refine go (fun tg kg => XS.goto X4.here hx rfl (pc0 := 89) (pc' := 93) rfl (hb hby at_89) (by decide) (by decide) kg) ?_
      show G (T4.setTop (mkF m 93 #[.val (.long x0), .second, .val (.long x1), .second, .val (.int x2), .val (.int (0 : Int32)), .val (.ref u_SELL), .val (.int (own_acc u_SELL u_BUY x0 x1)), .val (.int (1 : Int32))] [(.int (1 : Int32))]))
      refine fin (some (.int (1 : Int32))) X4 (fun h => absurd h (by decide)) (fun fs hr => retN X4 hx (t := .boolean) hret (by simp) (hb hby at_93) hr) (by decide) (by decide) ?_
      rw [e4]
      exact ⟨rfl, N4⟩
    · refine go (fun tg kg => XS.ifYes X4.here hx rfl (pc0 := 71) (pc' := 78) rfl (hb hby at_71) rfl ((if0 _ _).trans (feq (mt (lw_eq (own_minL x0 x1) x0).mp hc5)).2) (by decide) (by decide) kg) ?_
      show G (T4.setTop (mkF m 78 #[.val (.long x0), .second, .val (.long x1), .second, .val (.int x2), .val (.int (0 : Int32)), .val (.ref u_SELL), .val (.int (own_acc u_SELL u_BUY x0 x1)), .unset] []))
      refine go (fun tg kg => XS.iconst X4.here hx rfl (hb hby at_78) kg) ?_
      show G (T4.setTop (mkF m 79 #[.val (.long x0), .second, .val (.long x1), .second, .val (.int x2), .val (.int (0 : Int32)), .val (.ref u_SELL), .val (.int (own_acc u_SELL u_BUY x0 x1)), .unset] [(.int (0 : Int32))]))
      refine go (fun tg kg => XS.istore X4.here hx rfl (hb hby at_79) rfl (l' := #[.val (.long x0), .second, .val (.long x1), .second, .val (.int x2), .val (.int (0 : Int32)), .val (.ref u_SELL), .val (.int (own_acc u_SELL u_BUY x0 x1)), .val (.int (0 : Int32))]) rfl kg) ?_
      show G (T4.setTop (mkF m 81 #[.val (.long x0), .second, .val (.long x1), .second, .val (.int x2), .val (.int (0 : Int32)), .val (.ref u_SELL), .val (.int (own_acc u_SELL u_BUY x0 x1)), .val (.int (0 : Int32))] []))
      refine go (fun tg kg => XS.iload X4.here hx rfl (hb hby at_81) rfl kg) ?_
      show G (T4.setTop (mkF m 83 #[.val (.long x0), .second, .val (.long x1), .second, .val (.int x2), .val (.int (0 : Int32)), .val (.ref u_SELL), .val (.int (own_acc u_SELL u_BUY x0 x1)), .val (.int (0 : Int32))] [(.int (own_acc u_SELL u_BUY x0 x1))]))
      refine go (fun tg kg => XS.iload X4.here hx rfl (hb hby at_83) rfl kg) ?_
      show G (T4.setTop (mkF m 85 #[.val (.long x0), .second, .val (.long x1), .second, .val (.int x2), .val (.int (0 : Int32)), .val (.ref u_SELL), .val (.int (own_acc u_SELL u_BUY x0 x1)), .val (.int (0 : Int32))] [(.int (0 : Int32)), (.int (own_acc u_SELL u_BUY x0 x1))]))
      refine go (fun tg kg => XS.icmpNo X4.here hx rfl (hb hby at_85) rfl (teq (own_s0 hne hc5)).2 kg) ?_
      show G (T4.setTop (mkF m 88 #[.val (.long x0), .second, .val (.long x1), .second, .val (.int x2), .val (.int (0 : Int32)), .val (.ref u_SELL), .val (.int (own_acc u_SELL u_BUY x0 x1)), .val (.int (0 : Int32))] []))
      refine go (fun tg kg => XS.iconst X4.here hx rfl (hb hby at_88) kg) ?_
      show G (T4.setTop (mkF m 89 #[.val (.long x0), .second, .val (.long x1), .second, .val (.int x2), .val (.int (0 : Int32)), .val (.ref u_SELL), .val (.int (own_acc u_SELL u_BUY x0 x1)), .val (.int (0 : Int32))] [(.int (1 : Int32))]))
      refine go (fun tg kg => XS.goto X4.here hx rfl (pc0 := 89) (pc' := 93) rfl (hb hby at_89) (by decide) (by decide) kg) ?_
      show G (T4.setTop (mkF m 93 #[.val (.long x0), .second, .val (.long x1), .second, .val (.int x2), .val (.int (0 : Int32)), .val (.ref u_SELL), .val (.int (own_acc u_SELL u_BUY x0 x1)), .val (.int (0 : Int32))] [(.int (1 : Int32))]))
      refine fin (some (.int (1 : Int32))) X4 (fun h => absurd h (by decide)) (fun fs hr => retN X4 hx (t := .boolean) hret (by simp) (hb hby at_93) hr) (by decide) (by decide) ?_
      rw [e4]
      exact ⟨rfl, N4⟩
  · refine go (fun tg kg => XS.ifNo X0.here hx rfl (hb hby at_4) rfl ((if0 _ _).trans (feq hc1).1) kg) ?_
    show G (s₁.setTop (mkF m 7 #[.val (.long x0), .second, .val (.long x1), .second, .val (.int x2), .unset, .unset, .unset, .unset] []))
    refine go (fun tg kg => XS.iconst X0.here hx rfl (hb hby at_7) kg) ?_
    show G (s₁.setTop (mkF m 8 #[.val (.long x0), .second, .val (.long x1), .second, .val (.int x2), .unset, .unset, .unset, .unset] [(.int (1 : Int32))]))
    refine go (fun tg kg => XS.goto X0.here hx rfl (pc0 := 8) (pc' := 12) rfl (hb hby at_8) (by decide) (by decide) kg) ?_
    show G (s₁.setTop (mkF m 12 #[.val (.long x0), .second, .val (.long x1), .second, .val (.int x2), .unset, .unset, .unset, .unset] [(.int (1 : Int32))]))
    refine go (fun tg kg => XS.istore X0.here hx rfl (hb hby at_12) rfl (l' := #[.val (.long x0), .second, .val (.long x1), .second, .val (.int x2), .val (.int (1 : Int32)), .unset, .unset, .unset]) rfl kg) ?_
    show G (s₁.setTop (mkF m 14 #[.val (.long x0), .second, .val (.long x1), .second, .val (.int x2), .val (.int (1 : Int32)), .unset, .unset, .unset] []))
    refine go (fun tg kg => XS.iload X0.here hx rfl (hb hby at_14) rfl kg) ?_
    show G (s₁.setTop (mkF m 16 #[.val (.long x0), .second, .val (.long x1), .second, .val (.int x2), .val (.int (1 : Int32)), .unset, .unset, .unset] [(.int (1 : Int32))]))
    refine go (fun tg kg => XS.ifNo X0.here hx rfl (hb hby at_16) rfl ((if0 _ _).trans (feq (by decide)).1) kg) ?_
    show G (s₁.setTop (mkF m 19 #[.val (.long x0), .second, .val (.long x1), .second, .val (.int x2), .val (.int (1 : Int32)), .unset, .unset, .unset] []))
    obtain ⟨T6, X6, e6, st6⟩ := getS2 X0 hx hZ hown (host := "") (Or.inl (hw _ (List.mem_of_getElem? (i := 14) rfl))) Via.refl e0 S_u_BUY (g := (mkF m 19 #[.val (.long x0), .second, .val (.long x1), .second, .val (.int x2), .val (.int (1 : Int32)), .unset, .unset, .unset] [])) rfl (hb hby at_19)
    refine go st6 ?_
    show G (T6.setTop (mkF m 22 #[.val (.long x0), .second, .val (.long x1), .second, .val (.int x2), .val (.int (1 : Int32)), .unset, .unset, .unset] [(.ref u_BUY)]))
    refine go (fun tg kg => XS.goto X6.here hx rfl (pc0 := 22) (pc' := 28) rfl (hb hby at_22) (by decide) (by decide) kg) ?_
    show G (T6.setTop (mkF m 28 #[.val (.long x0), .second, .val (.long x1), .second, .val (.int x2), .val (.int (1 : Int32)), .unset, .unset, .unset] [(.ref u_BUY)]))
    refine go (fun tg kg => XS.astore X6.here hx rfl (hb hby at_28) rfl rfl (l' := #[.val (.long x0), .second, .val (.long x1), .second, .val (.int x2), .val (.int (1 : Int32)), .val (.ref u_BUY), .unset, .unset]) rfl kg) ?_
    show G (T6.setTop (mkF m 30 #[.val (.long x0), .second, .val (.long x1), .second, .val (.int x2), .val (.int (1 : Int32)), .val (.ref u_BUY), .unset, .unset] []))
    refine go (fun tg kg => XS.aload X6.here hx rfl (hb hby at_30) rfl rfl kg) ?_
    show G (T6.setTop (mkF m 32 #[.val (.long x0), .second, .val (.long x1), .second, .val (.int x2), .val (.int (1 : Int32)), .val (.ref u_BUY), .unset, .unset] [(.ref u_BUY)]))
    refine go (fun tg kg => XS.lloadN X6.here hx rfl (hb hby at_32) rfl kg) ?_
    show G (T6.setTop (mkF m 33 #[.val (.long x0), .second, .val (.long x1), .second, .val (.int x2), .val (.int (1 : Int32)), .val (.ref u_BUY), .unset, .unset] [(.long x0), (.ref u_BUY)]))
    refine go (fun tg kg => XS.lloadN X6.here hx rfl (hb hby at_33) rfl kg) ?_
    show G (T6.setTop (mkF m 34 #[.val (.long x0), .second, .val (.long x1), .second, .val (.int x2), .val (.int (1 : Int32)), .val (.ref u_BUY), .unset, .unset] [(.long x1), (.long x0), (.ref u_BUY)]))
    obtain ⟨cq7, kq7, q7a, q7b, q7c⟩ := isOf hZ e6 Eb
    obtain ⟨_, _, ⟨T7, L7, k7, n7⟩, -, X7, ⟨Lc7, hQ7, l7, y7, z7⟩, st7⟩ := X6.virtualBack hx (y := (⟨"com/example/orderwright/orderwright/model/Side", "accepts", "(JJ)Z"⟩ : MethodName)) (z := (⟨"com/example/orderwright/orderwright/model/Side", "accepts", "(JJ)Z"⟩ : MethodName)) hown (mvT hZ (hw _ (List.mem_of_getElem? (i := 3) rfl))) (mvT hZ (hw _ (List.mem_of_getElem? (i := 4) rfl))) (notFace_of_selects (args := #[]) (mvT hZ (hw _ (List.mem_of_getElem? (i := 6) rfl)))) (mvT hZ (hw _ (List.mem_of_getElem? (i := 6) rfl))) (mvT hZ (hw _ (List.mem_of_getElem? (i := 5) rfl))) (by decide) (backOf (W := 0) (rm1 l Z a0 hw [] u_BUY x0 x1 u_BUY h0 n0 Z0 S_u_BUY) hZ (hw _ (List.mem_of_getElem? (i := 7) rfl)) (hw _ (List.mem_of_getElem? (i := 1) rfl)) (by decide) (by decide)) q7a q7c (g := (mkF m 34 #[.val (.long x0), .second, .val (.long x1), .second, .val (.int x2), .val (.int (1 : Int32)), .val (.ref u_BUY), .unset, .unset] [(.long x1), (.long x0), (.ref u_BUY)])) rfl (by rw [hml]; rfl) (Steps.refl _) (argsL := [(.long x0), (.long x1)]) (rest := []) (lenOf pd__JJ_Z rfl) rfl (by show 2 * 0 + _ ≤ _; exact Nat.le_of_eq rfl) (hb hby at_34) (fun _ _ => ⟨rfl, e6, (by decide : 0 + 0 ≤ _), (by decide : 0 + 0 ≤ _)⟩)
    dsimp only [Pt.U, Pt.locs, Pt.cells, Pt.slots] at X7 l7 y7 z7 st7 hQ7
    subst l7 y7 z7
    obtain ⟨rfl, Nq7, e7⟩ := hQ7
    have N7 := Fr.app N0 Nq7
    refine go (fun tg kg => st7.trans kg) ?_
    show G (T7.setTop (mkF m 37 #[.val (.long x0), .second, .val (.long x1), .second, .val (.int x2), .val (.int (1 : Int32)), .val (.ref u_BUY), .unset, .unset] [(.int (own_acc u_BUY u_BUY x0 x1))]))
    refine go (fun tg kg => XS.istore X7.here hx rfl (hb hby at_37) rfl (l' := #[.val (.long x0), .second, .val (.long x1), .second, .val (.int x2), .val (.int (1 : Int32)), .val (.ref u_BUY), .val (.int (own_acc u_BUY u_BUY x0 x1)), .unset]) rfl kg) ?_
    show G (T7.setTop (mkF m 39 #[.val (.long x0), .second, .val (.long x1), .second, .val (.int x2), .val (.int (1 : Int32)), .val (.ref u_BUY), .val (.int (own_acc u_BUY u_BUY x0 x1)), .unset] []))
    refine go (fun tg kg => XS.iload X7.here hx rfl (hb hby at_39) rfl kg) ?_
    show G (T7.setTop (mkF m 41 #[.val (.long x0), .second, .val (.long x1), .second, .val (.int x2), .val (.int (1 : Int32)), .val (.ref u_BUY), .val (.int (own_acc u_BUY u_BUY x0 x1)), .unset] [(.int (1 : Int32))]))
    refine go (fun tg kg => XS.ifNo X7.here hx rfl (hb hby at_41) rfl ((if0 _ _).trans (feq (by decide)).1) kg) ?_
    show G (T7.setTop (mkF m 44 #[.val (.long x0), .second, .val (.long x1), .second, .val (.int x2), .val (.int (1 : Int32)), .val (.ref u_BUY), .val (.int (own_acc u_BUY u_BUY x0 x1)), .unset] []))
    refine go (fun tg kg => XS.lloadN X7.here hx rfl (hb hby at_44) rfl kg) ?_
    show G (T7.setTop (mkF m 45 #[.val (.long x0), .second, .val (.long x1), .second, .val (.int x2), .val (.int (1 : Int32)), .val (.ref u_BUY), .val (.int (own_acc u_BUY u_BUY x0 x1)), .unset] [(.long x0)]))
    refine go (fun tg kg => XS.lloadN X7.here hx rfl (hb hby at_45) rfl kg) ?_
    show G (T7.setTop (mkF m 46 #[.val (.long x0), .second, .val (.long x1), .second, .val (.int x2), .val (.int (1 : Int32)), .val (.ref u_BUY), .val (.int (own_acc u_BUY u_BUY x0 x1)), .unset] [(.long x1), (.long x0)]))
    obtain ⟨_, _, ⟨T8, L8, k8, n8⟩, -, X8, ⟨Lc8, hQ8, l8, y8, z8⟩, st8⟩ := Jvm.LawKit.callS X7 hx (y := (⟨"java/lang/Math", "max", "(JJ)J"⟩ : MethodName)) hown (mvT hZ (hw _ (List.mem_of_getElem? (i := 15) rfl))) (mvT hZ (hw _ (List.mem_of_getElem? (i := 16) rfl))) (mvT hZ (hw _ (List.mem_of_getElem? (i := 12) rfl))) (mvT hZ (hw _ (List.mem_of_getElem? (i := 17) rfl))) (by decide) (backOf (W := 0) (rm3 l Z a0 hw [] x0 x1 h0 n0 Z0 ) hZ (hw _ (List.mem_of_getElem? (i := 17) rfl)) (hw _ (List.mem_of_getElem? (i := 12) rfl)) (by decide) (by decide)) (g := (mkF m 46 #[.val (.long x0), .second, .val (.long x1), .second, .val (.int x2), .val (.int (1 : Int32)), .val (.ref u_BUY), .val (.int (own_acc u_BUY u_BUY x0 x1)), .unset] [(.long x1), (.long x0)])) rfl (by rw [hml]; rfl) (argsL := [(.long x0), (.long x1)]) (rest := []) (lenOf pd__JJ_J rfl) rfl (by show 2 * 0 + _ ≤ _; exact Nat.le_of_eq rfl) (hb hby at_46) (fun _ _ => ⟨rfl, e7, (by decide : 0 + 0 ≤ _), (by decide : 0 + 0 ≤ _)⟩)
    dsimp only [Pt.U, Pt.locs, Pt.cells, Pt.slots] at X8 l8 y8 z8 st8 hQ8
    subst l8 y8 z8
    obtain ⟨rfl, Nq8, e8⟩ := hQ8
    have N8 := Fr.app N7 Nq8
    refine go st8 ?_
    show G (T8.setTop (mkF m 49 #[.val (.long x0), .second, .val (.long x1), .second, .val (.int x2), .val (.int (1 : Int32)), .val (.ref u_BUY), .val (.int (own_acc u_BUY u_BUY x0 x1)), .unset] [(.long (own_maxL x0 x1))]))
    refine go (fun tg kg => XS.lloadN X8.here hx rfl (hb hby at_49) rfl kg) ?_
    show G (T8.setTop (mkF m 50 #[.val (.long x0), .second, .val (.long x1), .second, .val (.int x2), .val (.int (1 : Int32)), .val (.ref u_BUY), .val (.int (own_acc u_BUY u_BUY x0 x1)), .unset] [(.long x0), (.long (own_maxL x0 x1))]))
    refine go (fun tg kg => XS.lcmp X8.here hx rfl (hb hby at_50) rfl kg) ?_
    show G (T8.setTop (mkF m 51 #[.val (.long x0), .second, .val (.long x1), .second, .val (.int x2), .val (.int (1 : Int32)), .val (.ref u_BUY), .val (.int (own_acc u_BUY u_BUY x0 x1)), .unset] [(.int (lcmpW (own_maxL x0 x1) x0))]))
    by_cases hc9 : (own_maxL x0 x1) = x0
    · refine go (fun tg kg => XS.ifNo X8.here hx rfl (hb hby at_51) rfl ((if0 _ _).trans (teq ((lw_eq (own_maxL x0 x1) x0).mpr hc9)).2) kg) ?_
      show G (T8.setTop (mkF m 54 #[.val (.long x0), .second, .val (.long x1), .second, .val (.int x2), .val (.int (1 : Int32)), .val (.ref u_BUY), .val (.int (own_acc u_BUY u_BUY x0 x1)), .unset] []))
      refine go (fun tg kg => XS.iconst X8.here hx rfl (hb hby at_54) kg) ?_
      show G (T8.setTop (mkF m 55 #[.val (.long x0), .second, .val (.long x1), .second, .val (.int x2), .val (.int (1 : Int32)), .val (.ref u_BUY), .val (.int (own_acc u_BUY u_BUY x0 x1)), .unset] [(.int (1 : Int32))]))
      refine go (fun tg kg => XS.goto X8.here hx rfl (pc0 := 55) (pc' := 59) rfl (hb hby at_55) (by decide) (by decide) kg) ?_
      show G (T8.setTop (mkF m 59 #[.val (.long x0), .second, .val (.long x1), .second, .val (.int x2), .val (.int (1 : Int32)), .val (.ref u_BUY), .val (.int (own_acc u_BUY u_BUY x0 x1)), .unset] [(.int (1 : Int32))]))
      refine go (fun tg kg => XS.istore X8.here hx rfl (hb hby at_59) rfl (l' := #[.val (.long x0), .second, .val (.long x1), .second, .val (.int x2), .val (.int (1 : Int32)), .val (.ref u_BUY), .val (.int (own_acc u_BUY u_BUY x0 x1)), .val (.int (1 : Int32))]) rfl kg) ?_
      show G (T8.setTop (mkF m 61 #[.val (.long x0), .second, .val (.long x1), .second, .val (.int x2), .val (.int (1 : Int32)), .val (.ref u_BUY), .val (.int (own_acc u_BUY u_BUY x0 x1)), .val (.int (1 : Int32))] []))
      refine go (fun tg kg => XS.goto X8.here hx rfl (pc0 := 61) (pc' := 81) rfl (hb hby at_61) (by decide) (by decide) kg) ?_
      show G (T8.setTop (mkF m 81 #[.val (.long x0), .second, .val (.long x1), .second, .val (.int x2), .val (.int (1 : Int32)), .val (.ref u_BUY), .val (.int (own_acc u_BUY u_BUY x0 x1)), .val (.int (1 : Int32))] []))
      refine go (fun tg kg => XS.iload X8.here hx rfl (hb hby at_81) rfl kg) ?_
      show G (T8.setTop (mkF m 83 #[.val (.long x0), .second, .val (.long x1), .second, .val (.int x2), .val (.int (1 : Int32)), .val (.ref u_BUY), .val (.int (own_acc u_BUY u_BUY x0 x1)), .val (.int (1 : Int32))] [(.int (own_acc u_BUY u_BUY x0 x1))]))
      refine go (fun tg kg => XS.iload X8.here hx rfl (hb hby at_83) rfl kg) ?_
      show G (T8.setTop (mkF m 85 #[.val (.long x0), .second, .val (.long x1), .second, .val (.int x2), .val (.int (1 : Int32)), .val (.ref u_BUY), .val (.int (own_acc u_BUY u_BUY x0 x1)), .val (.int (1 : Int32))] [(.int (1 : Int32)), (.int (own_acc u_BUY u_BUY x0 x1))]))
      refine go (fun tg kg => XS.icmpNo X8.here hx rfl (hb hby at_85) rfl (teq (own_b1 hc9)).2 kg) ?_
      show G (T8.setTop (mkF m 88 #[.val (.long x0), .second, .val (.long x1), .second, .val (.int x2), .val (.int (1 : Int32)), .val (.ref u_BUY), .val (.int (own_acc u_BUY u_BUY x0 x1)), .val (.int (1 : Int32))] []))
      refine go (fun tg kg => XS.iconst X8.here hx rfl (hb hby at_88) kg) ?_
      show G (T8.setTop (mkF m 89 #[.val (.long x0), .second, .val (.long x1), .second, .val (.int x2), .val (.int (1 : Int32)), .val (.ref u_BUY), .val (.int (own_acc u_BUY u_BUY x0 x1)), .val (.int (1 : Int32))] [(.int (1 : Int32))]))
      refine go (fun tg kg => XS.goto X8.here hx rfl (pc0 := 89) (pc' := 93) rfl (hb hby at_89) (by decide) (by decide) kg) ?_
      show G (T8.setTop (mkF m 93 #[.val (.long x0), .second, .val (.long x1), .second, .val (.int x2), .val (.int (1 : Int32)), .val (.ref u_BUY), .val (.int (own_acc u_BUY u_BUY x0 x1)), .val (.int (1 : Int32))] [(.int (1 : Int32))]))
      refine fin (some (.int (1 : Int32))) X8 (fun h => absurd h (by decide)) (fun fs hr => retN X8 hx (t := .boolean) hret (by simp) (hb hby at_93) hr) (by decide) (by decide) ?_
      rw [e8]
      exact ⟨rfl, N8⟩
    · refine go (fun tg kg => XS.ifYes X8.here hx rfl (pc0 := 51) (pc' := 58) rfl (hb hby at_51) rfl ((if0 _ _).trans (feq (mt (lw_eq (own_maxL x0 x1) x0).mp hc9)).2) (by decide) (by decide) kg) ?_
      show G (T8.setTop (mkF m 58 #[.val (.long x0), .second, .val (.long x1), .second, .val (.int x2), .val (.int (1 : Int32)), .val (.ref u_BUY), .val (.int (own_acc u_BUY u_BUY x0 x1)), .unset] []))
      refine go (fun tg kg => XS.iconst X8.here hx rfl (hb hby at_58) kg) ?_
      show G (T8.setTop (mkF m 59 #[.val (.long x0), .second, .val (.long x1), .second, .val (.int x2), .val (.int (1 : Int32)), .val (.ref u_BUY), .val (.int (own_acc u_BUY u_BUY x0 x1)), .unset] [(.int (0 : Int32))]))
      refine go (fun tg kg => XS.istore X8.here hx rfl (hb hby at_59) rfl (l' := #[.val (.long x0), .second, .val (.long x1), .second, .val (.int x2), .val (.int (1 : Int32)), .val (.ref u_BUY), .val (.int (own_acc u_BUY u_BUY x0 x1)), .val (.int (0 : Int32))]) rfl kg) ?_
      show G (T8.setTop (mkF m 61 #[.val (.long x0), .second, .val (.long x1), .second, .val (.int x2), .val (.int (1 : Int32)), .val (.ref u_BUY), .val (.int (own_acc u_BUY u_BUY x0 x1)), .val (.int (0 : Int32))] []))
      refine go (fun tg kg => XS.goto X8.here hx rfl (pc0 := 61) (pc' := 81) rfl (hb hby at_61) (by decide) (by decide) kg) ?_
      show G (T8.setTop (mkF m 81 #[.val (.long x0), .second, .val (.long x1), .second, .val (.int x2), .val (.int (1 : Int32)), .val (.ref u_BUY), .val (.int (own_acc u_BUY u_BUY x0 x1)), .val (.int (0 : Int32))] []))
      refine go (fun tg kg => XS.iload X8.here hx rfl (hb hby at_81) rfl kg) ?_
      show G (T8.setTop (mkF m 83 #[.val (.long x0), .second, .val (.long x1), .second, .val (.int x2), .val (.int (1 : Int32)), .val (.ref u_BUY), .val (.int (own_acc u_BUY u_BUY x0 x1)), .val (.int (0 : Int32))] [(.int (own_acc u_BUY u_BUY x0 x1))]))
      refine go (fun tg kg => XS.iload X8.here hx rfl (hb hby at_83) rfl kg) ?_
      show G (T8.setTop (mkF m 85 #[.val (.long x0), .second, .val (.long x1), .second, .val (.int x2), .val (.int (1 : Int32)), .val (.ref u_BUY), .val (.int (own_acc u_BUY u_BUY x0 x1)), .val (.int (0 : Int32))] [(.int (0 : Int32)), (.int (own_acc u_BUY u_BUY x0 x1))]))
      refine go (fun tg kg => XS.icmpNo X8.here hx rfl (hb hby at_85) rfl (teq (own_b0 hc9)).2 kg) ?_
      show G (T8.setTop (mkF m 88 #[.val (.long x0), .second, .val (.long x1), .second, .val (.int x2), .val (.int (1 : Int32)), .val (.ref u_BUY), .val (.int (own_acc u_BUY u_BUY x0 x1)), .val (.int (0 : Int32))] []))
      refine go (fun tg kg => XS.iconst X8.here hx rfl (hb hby at_88) kg) ?_
      show G (T8.setTop (mkF m 89 #[.val (.long x0), .second, .val (.long x1), .second, .val (.int x2), .val (.int (1 : Int32)), .val (.ref u_BUY), .val (.int (own_acc u_BUY u_BUY x0 x1)), .val (.int (0 : Int32))] [(.int (1 : Int32))]))
      refine go (fun tg kg => XS.goto X8.here hx rfl (pc0 := 89) (pc' := 93) rfl (hb hby at_89) (by decide) (by decide) kg) ?_
      show G (T8.setTop (mkF m 93 #[.val (.long x0), .second, .val (.long x1), .second, .val (.int x2), .val (.int (1 : Int32)), .val (.ref u_BUY), .val (.int (own_acc u_BUY u_BUY x0 x1)), .val (.int (0 : Int32))] [(.int (1 : Int32))]))
      refine fin (some (.int (1 : Int32))) X8 (fun h => absurd h (by decide)) (fun fs hr => retN X8 hx (t := .boolean) hret (by simp) (hb hby at_93) hr) (by decide) (by decide) ?_
      rw [e8]
      exact ⟨rfl, N8⟩
set_option maxRecDepth 65536 in
set_option maxHeartbeats 40000000 in
theorem comes_1 {Post : Tables → Env → Array Value → State → Outcome → State → Prop} (hpost : ∀ tb e args s v u, (limb_1_1.after args s (.returned v) u = true ∧ limb_1_2.after args s (.returned v) u = true ∧ True) → FrameEnd s (.returned v) u (Jvm.fieldLocs frame_1_writes args s ++ Jvm.arrayLocs frame_1_arrays args s ++ Jvm.staticLocs frame_1_statics s) 0 0 → Post tb e args s (.returned v) u) :
    ArmFor flags0 classFile x code maxLocals ret World_1 tables_1 room_1 Calls_1 rest_1 Pre_1 Post := by
  intro l hfl _ _ p e ha hc hk s m args below hf hA hF happ hP
  obtain ⟨hcalls, hrest, hpre⟩ := hP
  obtain ⟨-, -, -, hnamed, -, -, -, hat⟩ := (Spec.applies_iff hf).mp happ
  obtain ⟨hg, hn⟩ := and_e (Cond.before_iff.mp (show (Jvm.Cond.and given_1 narrow_1).before args s = true from hpre))
  obtain ⟨gc, gr0⟩ := and_e hg
  obtain ⟨ga0, gr1⟩ := and_e gr0
  obtain ⟨ga1, gr2⟩ := and_e gr1
  have ga2 := gr2
  obtain ⟨w0, w1, w2, rfl⟩ : ∃ w0 w1 w2 : Value, args = #[w0, w1, w2] := by
    have hs : args.size = 3 := by simpa [Cond.value, given_1] using gc
    obtain ⟨L⟩ := args
    match L, hs with
    | [w0, w1, w2], _ => exact ⟨w0, w1, w2, rfl⟩
  have hw := fun d (hd : d ∈ tables_1) => atoms_spec (ws := Jvm.Cond.code x code maxLocals ret :: tables_1) hat d (List.mem_cons_of_mem _ hd)
  have hfit : Fit s := fun {y c} hc i hi => by
    obtain ⟨ha, rfl⟩ := Array.getElem?_eq_some_iff.mp hc
    have q := List.all_eq_true.mp ((Array.all_eq_true_iff_forall_mem.mp hF) _ (Array.getElem_mem ha)) i (List.mem_range.mpr hi)
    simpa [Array.getElem?_eq_getElem hi] using q
  obtain ⟨i0, ei0⟩ := isL_v ga0
  obtain rfl : w0 = (.long i0) := Option.some.inj ei0
  obtain ⟨i1, ei1⟩ := isL_v ga1
  obtain rfl : w1 = (.long i1) := Option.some.inj ei1
  obtain ⟨i2, ei2⟩ := is_v ga2
  obtain rfl : w2 = (.int i2) := Option.some.inj ei2
  obtain ⟨nl1, nr1⟩ := and_e hn
  obtain ⟨nl2, nr2⟩ := and_e nr1
  obtain ⟨nl3, nr3⟩ := and_e nr2
  obtain ⟨u_SELL, ev_u_SELL⟩ := exa_v nl1
  have S_u_SELL := Sta.start ev_u_SELL (Or.inr ⟨(hw _ (List.mem_of_getElem? (i := 1) rfl)), (hw _ (List.mem_of_getElem? (i := 2) rfl))⟩)
  have E_u_SELL := Exa.start ev_u_SELL nl1
  obtain ⟨u_BUY, ev_u_BUY⟩ := exa_v nl2
  have S_u_BUY := Sta.start ev_u_BUY (Or.inr ⟨(hw _ (List.mem_of_getElem? (i := 1) rfl)), (hw _ (List.mem_of_getElem? (i := 9) rfl))⟩)
  have E_u_BUY := Exa.start ev_u_BUY nl2
  have F_u_SELL_ordinal := Fld.start ((fld_at ev_u_SELL).symm.trans (own_eq_int nl3))
  have F_u_BUY_ordinal := Fld.start ((fld_at ev_u_BUY).symm.trans (own_eq_int nr3))
  obtain ⟨n, o, h1, h2, h3, _, L, rfl, ⟨rfl, N⟩, hq⟩ := rm0 l s _ hw tables_1 i0 i1 i2 u_BUY u_SELL s.heap s.heap.size (Nat.le_refl _) S_u_BUY S_u_SELL E_u_BUY E_u_SELL (F_u_SELL_ordinal.ne F_u_BUY_ordinal (by decide)) p e ha hc hk s m _ below hf ((Spec.applies_iff_loose hf).mp happ).1 ⟨rfl, State.Warmed39.refl s, rfl⟩ trivial
  refine ⟨n, _, h1, h2, h3, hpost _ _ _ _ _ _ ⟨Cond.after_iff.mpr rfl, Cond.after_iff.mpr (eq_i res_at (Term.int_eval (1)) rfl), trivial⟩ ⟨hq.1, hq.2.1, (hq.2.2.sift fun y hy => Or.inr (N y hy)).mono (by decide) (by decide)⟩⟩
theorem main_1_1 : Claimed_1_1 := comes_1 fun _ _ _ _ _ _ h hF => ⟨h.1, hF⟩
theorem main_1_2 : Claimed_1_2 := comes_1 fun _ _ _ _ _ _ h hF => ⟨h.2.1, hF⟩
end Jvm.Pilot.@@N@@
namespace Jvm.Pilot.@@N@@
open Jvm Jvm.ClassFile Sem Op Lib Jvm.Free Jvm.Stand Jvm.Pilot.@@N@@.Jvm.D
/-! MADE BY PROGRAM (witnessworld.py) out of the Statement's table words and the real class files: 13 classes; the members and pool entries that the words name. The judged class is class 1, her method 1. -/
namespace start1
open Jvm.ClassFile
def u (s : String) : CpInfo := .utf8 (stringToUtf16 s)
/-- a pool by its gaps: so many unusable entries, then the entry; so many at the end -/
def gap : Nat → List CpInfo → List CpInfo
  | 0, r => r
  | n + 1, r => .unusable :: gap n r
def poolList (es : List (Nat × CpInfo)) (last : Nat) : List CpInfo := es.foldr (fun e r => gap e.1 (e.2 :: r)) (gap last [])
def pool (es : List (Nat × CpInfo)) (last : Nat) : Array CpInfo := ⟨poolList es last⟩
def fileOf (pool : Array CpInfo) (this : Nat) (attrs : Array Attribute := #[]) (ms : Array MethodInfo := #[]) (fl : Nat := 33) (sup : Nat := 0) (ifs : Array Nat := #[]) (fds : Array FieldInfo := #[]) : ClassFile where
  minorVersion := 0
  majorVersion := 65
  constantPool := pool
  accessFlags := fl
  thisClass := this
  superClass := sup
  interfaces := ifs
  fields := fds
  methods := ms
  attributes := attrs
def plain (name : String) (sup : Option ClassId) : Class where
  name := name
  kind := .ordinary
  loader := none
  accessFlags := 33
  super := sup
  interfaces := #[]
  cf := none
  fields := #[]
  methods := #[]
  instanceTypes := #[]
  staticTypes := #[]
  resolved := #[]
  callSites := []
  init := .initialized
  statics := none
  mirror := none

def pool0 : Array CpInfo := pool [(5, u "<init>"), (0, u "()V"), (1, .class_ 10), (1, u "java/lang/Object")] 113

def k0m0 : Method := { name := "<init>", desc := "()V", sig := { parameters := [], returnType := none }, accessFlags := 1, code := none }
/-- java/lang/Object -/
def k0 : Class := { plain "java/lang/Object" none with
  accessFlags := 33
  interfaces := #[]
  cf := some (fileOf pool0 8 #[] #[{ accessFlags := 1, nameIndex := 5, descriptorIndex := 6, attributes := #[] }] 33 0 #[] #[])
  fields := #[]
  methods := #[k0m0]
  instanceTypes := #[]
  staticTypes := #[]
  resolved := Array.replicate 124 none
  statics := none }

def pool1 : Array CpInfo := pool [(2, .class_ 4), (1, u "java/lang/Object"), (0, u "<init>"), (0, u "()V"), (0, .fieldref 8 9), (0, .class_ 10), (0, .nameAndType 11 12), (0, u "com/example/orderwright/orderwright/model/Side"), (0, u "BUY"), (0, u "Lcom/example/orderwright/orderwright/model/Side;"), (0, .fieldref 8 14), (0, .nameAndType 15 12), (0, u "SELL"), (0, .methodref 8 17), (0, .nameAndType 18 19), (0, u "accepts"), (0, u "(JJ)Z"), (0, .methodref 21 22), (0, .class_ 23), (0, .nameAndType 24 25), (0, u "java/lang/Math"), (0, u "max"), (0, u "(JJ)J"), (0, .methodref 21 27), (0, .nameAndType 28 25), (0, u "min"), (0, .class_ 30), (0, u "com/example/orderwright/orderwright/model/SideAcceptsPinLaw"), (2, u "law"), (0, u "(JJI)Z")] 3

def k1m0 : Method := { name := "<init>", desc := "()V", sig := { parameters := [], returnType := none }, accessFlags := 1, code := none }
def k1c1 : Code := { maxStack := 5, maxLocals := 9, code := code, exceptionTable := #[], attributes := #[] }
def k1m1 : Method := { name := "law", desc := "(JJI)Z", sig := { parameters := [.long, .long, .int], returnType := some .boolean }, accessFlags := 9, code := some k1c1 }
/-- com/example/orderwright/orderwright/model/SideAcceptsPinLaw -/
def k1 : Class := { plain "com/example/orderwright/orderwright/model/SideAcceptsPinLaw" (some 0) with
  accessFlags := 49
  interfaces := #[]
  cf := some (fileOf pool1 29 #[] #[{ accessFlags := 1, nameIndex := 5, descriptorIndex := 6, attributes := #[] }, { accessFlags := 9, nameIndex := 33, descriptorIndex := 34, attributes := #[] }] 49 2 #[] #[])
  fields := #[]
  methods := #[k1m0, k1m1]
  instanceTypes := #[]
  staticTypes := #[]
  resolved := Array.replicate 38 none
  statics := none }

def pool2 : Array CpInfo := pool [(1, .class_ 2), (0, u "java/lang/constant/Constable"), (0, .class_ 4), (0, u "java/lang/Object")] 6

/-- java/lang/constant/Constable -/
def k2 : Class := { plain "java/lang/constant/Constable" (some 0) with
  accessFlags := 1537
  interfaces := #[]
  cf := some (fileOf pool2 1 #[] #[] 1537 3 #[] #[])
  fields := #[]
  methods := #[]
  instanceTypes := #[]
  staticTypes := #[]
  resolved := Array.replicate 11 none
  statics := none }

def pool3 : Array CpInfo := pool [(1, .class_ 2), (0, u "java/lang/Comparable"), (0, .class_ 4), (0, u "java/lang/Object")] 7

/-- java/lang/Comparable -/
def k3 : Class := { plain "java/lang/Comparable" (some 0) with
  accessFlags := 1537
  interfaces := #[]
  cf := some (fileOf pool3 1 #[] #[] 1537 3 #[] #[])
  fields := #[]
  methods := #[]
  instanceTypes := #[]
  staticTypes := #[]
  resolved := Array.replicate 12 none
  statics := none }

def pool4 : Array CpInfo := pool [(1, .class_ 2), (0, u "java/io/Serializable"), (0, .class_ 4), (0, u "java/lang/Object")] 2

/-- java/io/Serializable -/
def k4 : Class := { plain "java/io/Serializable" (some 0) with
  accessFlags := 1537
  interfaces := #[]
  cf := some (fileOf pool4 1 #[] #[] 1537 3 #[] #[])
  fields := #[]
  methods := #[]
  instanceTypes := #[]
  staticTypes := #[]
  resolved := Array.replicate 7 none
  statics := none }

def pool5 : Array CpInfo := pool [(2, .class_ 4), (1, u "java/lang/Enum"), (0, u "name"), (0, u "Ljava/lang/String;"), (2, u "ordinal"), (0, u "I"), (1, .class_ 14), (1, u "java/lang/Object"), (4, u "hash"), (86, .class_ 108), (1, u "java/lang/Enum$EnumDesc"), (2, .class_ 112), (0, u "java/lang/constant/Constable"), (0, .class_ 114), (0, u "java/lang/Comparable"), (0, .class_ 116), (0, u "java/io/Serializable")] 87

/-- java/lang/Enum -/
def k5 : Class := { plain "java/lang/Enum" (some 0) with
  accessFlags := 1057
  interfaces := #[2, 3, 4]
  cf := some (fileOf pool5 2 #[.nestMembers #[106]] #[] 1057 12 #[111, 113, 115] #[{ accessFlags := 18, nameIndex := 5, descriptorIndex := 6, attributes := #[] }, { accessFlags := 18, nameIndex := 9, descriptorIndex := 10, attributes := #[] }, { accessFlags := 2, nameIndex := 19, descriptorIndex := 10, attributes := #[] }])
  fields := #[{ name := "name", type := (.object "java/lang/String"), accessFlags := 18, slot := 0, constantValue := 0 }, { name := "ordinal", type := .int, accessFlags := 18, slot := 1, constantValue := 0 }, { name := "hash", type := .int, accessFlags := 2, slot := 2, constantValue := 0 }]
  methods := #[]
  instanceTypes := #[(.object "java/lang/String"), .int, .int]
  staticTypes := #[]
  resolved := Array.replicate 204 none
  statics := none }

def pool6 : Array CpInfo := pool [(1, .class_ 2), (0, u "com/example/orderwright/orderwright/model/Side"), (0, .fieldref 1 4), (0, .nameAndType 5 6), (0, u "BUY"), (0, u "Lcom/example/orderwright/orderwright/model/Side;"), (2, u "SELL"), (2, u "$VALUES"), (0, u "[Lcom/example/orderwright/orderwright/model/Side;"), (6, .class_ 22), (1, u "java/lang/Enum"), (23, u "accepts"), (0, u "(JJ)Z")] 4

def k6c0 : Code := { maxStack := 4, maxLocals := 5, code := prog_90_method_5_code, exceptionTable := #[], attributes := #[] }
def k6m0 : Method := { name := "accepts", desc := "(JJ)Z", sig := { parameters := [.long, .long], returnType := some .boolean }, accessFlags := 1, code := some k6c0 }
/-- com/example/orderwright/orderwright/model/Side -/
def k6 : Class := { plain "com/example/orderwright/orderwright/model/Side" (some 5) with
  accessFlags := 16433
  interfaces := #[]
  cf := some (fileOf pool6 1 #[] #[{ accessFlags := 1, nameIndex := 46, descriptorIndex := 47, attributes := #[] }] 16433 20 #[] #[{ accessFlags := 16409, nameIndex := 5, descriptorIndex := 6, attributes := #[] }, { accessFlags := 16409, nameIndex := 9, descriptorIndex := 6, attributes := #[] }, { accessFlags := 4122, nameIndex := 12, descriptorIndex := 13, attributes := #[] }])
  fields := #[{ name := "BUY", type := (.object "com/example/orderwright/orderwright/model/Side"), accessFlags := 16409, slot := 0, constantValue := 0 }, { name := "SELL", type := (.object "com/example/orderwright/orderwright/model/Side"), accessFlags := 16409, slot := 1, constantValue := 0 }, { name := "$VALUES", type := (.array (.object "com/example/orderwright/orderwright/model/Side")), accessFlags := 4122, slot := 2, constantValue := 0 }]
  methods := #[k6m0]
  instanceTypes := #[(.object "java/lang/String"), .int, .int]
  staticTypes := #[(.object "com/example/orderwright/orderwright/model/Side"), (.object "com/example/orderwright/orderwright/model/Side"), (.array (.object "com/example/orderwright/orderwright/model/Side"))]
  resolved := Array.replicate 52 none
  statics := some 0 }

def pool7 : Array CpInfo := pool [(1, .class_ 2), (0, u "java/lang/Math"), (1, .class_ 6), (1, u "java/lang/Object"), (0, u "<init>"), (0, u "()V"), (89, .class_ 100), (1, u "java/lang/Math$RandomNumberGeneratorHolder"), (20, u "(JJ)J"), (50, u "negativeZeroFloatBits"), (0, u "J"), (2, u "negativeZeroDoubleBits"), (21, u "max"), (2, u "min"), (43, u "$assertionsDisabled"), (0, u "Z"), (91, u "twoToTheDoubleScaleDown"), (0, u "D"), (4, u "twoToTheDoubleScaleUp"), (9, u "E"), (3, u "PI"), (2, u "TAU"), (2, u "DEGREES_TO_RADIANS"), (0, u "RADIANS_TO_DEGREES")] 94

def k7m0 : Method := { name := "<init>", desc := "()V", sig := { parameters := [], returnType := none }, accessFlags := 2, code := none }
def k7c1 : Code := { maxStack := 4, maxLocals := 4, code := jdk_29_method_66_code, exceptionTable := #[], attributes := #[] }
def k7m1 : Method := { name := "max", desc := "(JJ)J", sig := { parameters := [.long, .long], returnType := some .long }, accessFlags := 9, code := some k7c1 }
def k7c2 : Code := { maxStack := 4, maxLocals := 4, code := jdk_29_method_70_code, exceptionTable := #[], attributes := #[] }
def k7m2 : Method := { name := "min", desc := "(JJ)J", sig := { parameters := [.long, .long], returnType := some .long }, accessFlags := 9, code := some k7c2 }
/-- java/lang/Math -/
def k7 : Class := { plain "java/lang/Math" (some 0) with
  accessFlags := 49
  interfaces := #[]
  cf := some (fileOf pool7 1 #[.nestMembers #[98]] #[{ accessFlags := 2, nameIndex := 7, descriptorIndex := 8, attributes := #[] }, { accessFlags := 9, nameIndex := 198, descriptorIndex := 121, attributes := #[] }, { accessFlags := 9, nameIndex := 201, descriptorIndex := 121, attributes := #[] }] 49 4 #[] #[{ accessFlags := 25, nameIndex := 354, descriptorIndex := 339, attributes := #[] }, { accessFlags := 25, nameIndex := 358, descriptorIndex := 339, attributes := #[] }, { accessFlags := 25, nameIndex := 361, descriptorIndex := 339, attributes := #[] }, { accessFlags := 26, nameIndex := 364, descriptorIndex := 339, attributes := #[] }, { accessFlags := 26, nameIndex := 365, descriptorIndex := 339, attributes := #[] }, { accessFlags := 26, nameIndex := 172, descriptorIndex := 173, attributes := #[] }, { accessFlags := 26, nameIndex := 176, descriptorIndex := 173, attributes := #[] }, { accessFlags := 8, nameIndex := 344, descriptorIndex := 339, attributes := #[] }, { accessFlags := 8, nameIndex := 338, descriptorIndex := 339, attributes := #[] }, { accessFlags := 4120, nameIndex := 245, descriptorIndex := 246, attributes := #[] }])
  fields := #[{ name := "E", type := .double, accessFlags := 25, slot := 0, constantValue := 0 }, { name := "PI", type := .double, accessFlags := 25, slot := 1, constantValue := 0 }, { name := "TAU", type := .double, accessFlags := 25, slot := 2, constantValue := 0 }, { name := "DEGREES_TO_RADIANS", type := .double, accessFlags := 26, slot := 3, constantValue := 0 }, { name := "RADIANS_TO_DEGREES", type := .double, accessFlags := 26, slot := 4, constantValue := 0 }, { name := "negativeZeroFloatBits", type := .long, accessFlags := 26, slot := 5, constantValue := 0 }, { name := "negativeZeroDoubleBits", type := .long, accessFlags := 26, slot := 6, constantValue := 0 }, { name := "twoToTheDoubleScaleUp", type := .double, accessFlags := 8, slot := 7, constantValue := 0 }, { name := "twoToTheDoubleScaleDown", type := .double, accessFlags := 8, slot := 8, constantValue := 0 }, { name := "$assertionsDisabled", type := .boolean, accessFlags := 4120, slot := 9, constantValue := 0 }]
  methods := #[k7m0, k7m1, k7m2]
  instanceTypes := #[]
  staticTypes := #[.double, .double, .double, .double, .double, .long, .long, .double, .double, .boolean]
  resolved := Array.replicate 460 none
  statics := none }

def pool8 : Array CpInfo := pool [(1, u "java/lang/Cloneable"), (0, .class_ 1), (0, u "java/lang/Object"), (0, .class_ 3)] 3

/-- java/lang/Cloneable -/
def k8 : Class := { plain "java/lang/Cloneable" (some 0) with
  accessFlags := 1537
  interfaces := #[]
  cf := some (fileOf pool8 2 #[] #[] 1537 4 #[] #[])
  fields := #[]
  methods := #[]
  instanceTypes := #[]
  staticTypes := #[]
  resolved := Array.replicate 8 none
  statics := none }

/-- the primitive byte -/
def k9 : Class := { plain "byte" none with kind := .primitive 'B', accessFlags := 0x411 }
/-- [B -/
def k10 : Class := { plain "[B" (some 0) with kind := .array 9 .byte, interfaces := #[8, 4], accessFlags := 1041 }

/-- the primitive int -/
def k11 : Class := { plain "int" none with kind := .primitive 'I', accessFlags := 0x411 }
/-- [I -/
def k12 : Class := { plain "[I" (some 0) with kind := .array 11 .int, interfaces := #[8, 4], accessFlags := 1041 }

def heap : Heap := #[{ cls := 6, slots := #[.ref 2, .ref 1, .null], vm := .statics 6 },
  { cls := 6, slots := #[.null, .int 1, .int 0], vm := .none },
  { cls := 6, slots := #[.null, .int 0, .int 0], vm := .none }]
def classes : Array Class := #[k0, k1, k2, k3, k4, k5, k6, k7, k8, k9, k10, k11, k12]
def interned : List (Array UInt16 × Addr) := []
def slotsUsed : Nat := 9
def theMethod : MethodId := ⟨1, 1⟩
def args0 : Array Value := #[.long 3, .long 9, .int 1]
def aboutOver (below : List Frame) : State where
  vm := { classes := classes, interned := interned.toArray }
  heap := heap
  slotsUsed := slotsUsed
  threads := #[{ frames := .invoking theMethod args0 :: below }]
def below0 : List Frame := [.native { method := ⟨0, 0⟩, args := #[] }]
def about1 : State := aboutOver below0
def p0 : Program := .bare "" "" ""
def e0 : Env := launch0.env 0 0 0
theorem w_frames : about1.frames = Frame.invoking theMethod args0 :: below0 := rfl
set_option maxRecDepth 65536 in
theorem w_args : argsFit about1.vm theMethod args0 = true := by decide +kernel
set_option maxRecDepth 65536 in
theorem w_heap : heapFits about1 = true := by decide +kernel
set_option maxRecDepth 65536 in
theorem w_runnable : about1.curStatus? = some .runnable := by decide +kernel
set_option maxRecDepth 65536 in
theorem w_alone : about1.alone = true := by decide +kernel
set_option maxRecDepth 65536 in
theorem w_named : about1.methodNamed? x = some theMethod := by decide +kernel
set_option maxRecDepth 65536 in
theorem w_hears : about1.hears theMethod below0 = true := by decide +kernel
set_option maxRecDepth 65536 in
theorem w_ripe : about1.ripe theMethod args0 below0 = true := by decide +kernel
theorem w_running : about1.status = .running := rfl
set_option maxRecDepth 65536 in
theorem w_room : about1.hasRoom e0.platform room_1 = true :=
  launch0.hasRoom_least _ room_1 (by decide +kernel) (by decide +kernel) (by decide +kernel) (by decide +kernel) (by decide +kernel) (by decide +kernel)
theorem allAtoms_all (ts : List Jvm.Cond) (a : Array Jvm.Value) (st : Jvm.State) : (allAtoms ts).before a st = ts.all (fun c => c.before a st) := by
  induction ts with
  | nil => rfl
  | cons c t ih =>
    show (Jvm.Cond.and c (allAtoms t)).before a st = _
    rw [Jvm.Cond.before_and, ih, List.all_cons]
def words1 : List Jvm.Cond := Jvm.Cond.code x code maxLocals ret :: tables_1
/-- a 'code' word, met by the world's own term for the bytes: nothing is compared byte by byte -/
theorem code_word {y : MethodName} {bytes : ByteArray} {mx : Nat} {rt : Option FieldType} {a : Array Value} {s : State} {m : MethodId} {meth : Method} {c : Code} (h1 : s.methodNamed? y = some m) (h2 : s.vm.method? m = some meth) (h3 : meth.code = some c) (h4 : c.code = bytes)
    (h5 : (c.maxLocals == mx && c.exceptionTable.isEmpty && decide (c.maxStack ≤ mostOperands) && decide (meth.sig.returnType = rt) && !meth.locks && decide (parseMethodDescriptor y.desc = some meth.sig)) = true) : (Jvm.Cond.code y bytes mx rt).before a s = true := by
  simp only [Bool.and_eq_true, beq_iff_eq, Bool.not_eq_true', decide_eq_true_eq] at h5
  obtain ⟨⟨⟨⟨⟨g1, g2⟩, g3⟩, g4⟩, g5⟩, g6⟩ := h5
  simp [Cond.before, Cond.holds, Cond.value, h1, h2, h3, h4, g1, g2, g3, g4, g5, g6]
def isCode : Jvm.Cond → Bool
  | .code _ _ _ _ => true
  | _ => false
theorem all_split {L : List Jvm.Cond} {P : Jvm.Cond → Bool} (h1 : L.all (fun c => isCode c || P c) = true) (h2 : ∀ c ∈ L.filter isCode, P c = true) : L.all P = true := by
  refine List.all_eq_true.mpr fun c hc => ?_
  have h := List.all_eq_true.mp h1 c hc
  rcases Bool.eq_false_or_eq_true (isCode c) with hi | hi
  · exact h2 c (List.mem_filter.mpr ⟨hc, hi⟩)
  · simpa [hi] using h
set_option maxRecDepth 65536 in
theorem w_c0 : (Jvm.Cond.code x code maxLocals ret).before args0 about1 = true := code_word (m := ⟨1, 1⟩) (meth := k1m1) (c := k1c1) (by decide +kernel) rfl rfl rfl (by decide +kernel)
set_option maxRecDepth 65536 in
theorem w_c1 : (Jvm.Cond.code ({ cls := "com/example/orderwright/orderwright/model/Side", name := "accepts", desc := "(JJ)Z" } : Jvm.MethodName) prog_90_method_5_code (5 : Nat) (Option.some Jvm.ClassFile.FieldType.boolean)).before args0 about1 = true := code_word (m := ⟨6, 0⟩) (meth := k6m0) (c := k6c0) (by decide +kernel) rfl rfl rfl (by decide +kernel)
set_option maxRecDepth 65536 in
theorem w_c2 : (Jvm.Cond.code ({ cls := "java/lang/Math", name := "min", desc := "(JJ)J" } : Jvm.MethodName) jdk_29_method_70_code (4 : Nat) (Option.some Jvm.ClassFile.FieldType.long)).before args0 about1 = true := code_word (m := ⟨7, 2⟩) (meth := k7m2) (c := k7c2) (by decide +kernel) rfl rfl rfl (by decide +kernel)
set_option maxRecDepth 65536 in
theorem w_c3 : (Jvm.Cond.code ({ cls := "java/lang/Math", name := "max", desc := "(JJ)J" } : Jvm.MethodName) jdk_29_method_66_code (4 : Nat) (Option.some Jvm.ClassFile.FieldType.long)).before args0 about1 = true := code_word (m := ⟨7, 1⟩) (meth := k7m1) (c := k7c1) (by decide +kernel) rfl rfl rfl (by decide +kernel)
def codes1 : List Jvm.Cond := [Jvm.Cond.code x code maxLocals ret, Jvm.Cond.code ({ cls := "com/example/orderwright/orderwright/model/Side", name := "accepts", desc := "(JJ)Z" } : Jvm.MethodName) prog_90_method_5_code (5 : Nat) (Option.some Jvm.ClassFile.FieldType.boolean), Jvm.Cond.code ({ cls := "java/lang/Math", name := "min", desc := "(JJ)J" } : Jvm.MethodName) jdk_29_method_70_code (4 : Nat) (Option.some Jvm.ClassFile.FieldType.long), Jvm.Cond.code ({ cls := "java/lang/Math", name := "max", desc := "(JJ)J" } : Jvm.MethodName) jdk_29_method_66_code (4 : Nat) (Option.some Jvm.ClassFile.FieldType.long)]
set_option maxRecDepth 65536 in
theorem codes_eq : words1.filter isCode = codes1 := rfl
theorem w_codes : ∀ c ∈ words1.filter isCode, c.before args0 about1 = true := by
  rw [codes_eq]
  intro c hc
  simp only [codes1, List.mem_cons, List.not_mem_nil, or_false] at hc
  rcases hc with rfl | rfl | rfl | rfl
  · exact w_c0
  · exact w_c1
  · exact w_c2
  · exact w_c3
set_option maxRecDepth 65536 in
theorem w_t1 : words1.all (fun c => isCode c || c.before args0 about1) = true := by decide +kernel
theorem w_tables : (allAtoms (Jvm.Cond.code x code maxLocals ret :: tables_1)).before args0 about1 = true := by
  rw [allAtoms_all]
  show words1.all (fun c => c.before args0 about1) = true
  refine all_split ?_ w_codes
  rw [w_t1]
set_option maxRecDepth 65536 in
theorem w_case : (Jvm.Cond.and given_1 narrow_1).before args0 about1 = true := by decide +kernel
theorem w_applies : (headSpec (Jvm.Cond.code x code maxLocals ret :: tables_1) room_1).applies x e0.platform about1 = true :=
  (Spec.applies_iff w_frames).mpr ⟨w_running, w_runnable, w_alone, w_named, w_hears, w_ripe, w_room, w_tables⟩
theorem atStart : AtStart classFile x code maxLocals ret World_1 tables_1 room_1 Calls_1 rest_1 Pre_1 launch0 p0 e0 about1 theMethod args0 below0 :=
  ⟨lists_1, trivial, launch0.admits_env _ _ _, launch0.least_env, fairChoices_fair.cas, fairChoices_fair.clock, w_frames, w_args, w_heap, w_applies, trivial, trivial, w_case⟩
end start1
theorem witness_1 : WitnessClaimed_1 := ⟨start1.p0, start1.e0, start1.about1, start1.theMethod, start1.args0, start1.below0, start1.atStart⟩
end Jvm.Pilot.@@N@@
