import JvmDerived
import JvmDerived.Pilot.@@N@@Statement
import JvmDerived.Pilot.@@N@@Code
set_option linter.unusedVariables false
set_option linter.unusedSimpArgs false
namespace Jvm.Pilot.@@N@@
open Jvm Jvm.ClassFile Sem Op Lib Jvm.Free Jvm.Stand Jvm.LawKit Jvm.RoadKit Bundle Jvm.Pilot.@@N@@.Jvm.D
/-- a body's contract by a walk whose goal is a predicate G: 'go' takes a step, 'fin' a return -/
theorem own_enter {l : Launch} {y : MethodName} {cd : ByteArray} {ml : Nat} {rt : Option FieldType} {ws : List Jvm.Cond} {R : Room} {Z : State} {h0 : Heap} {as : Array Value} {Q : Option Value → Heap → List Loc → Prop} (hpl : plainFor y = true)
    (body : ∀ (p : Program) (e : Env) (s : State) (m : MethodId) (below : List Frame) (meth : Method) (c : Code) (s₁ : State) (G : State → Prop),
      Stand p l e R s m as below meth c s₁ [] 0 0 → p.tables.exec = Jvm.exec → c.code = cd → c.maxLocals = ml → Z.Warmed39 s.vm → s.vm.findClass y.cls = some m.cls → meth.name = y.name → meth.sig.returnType = rt → s₁.heap = h0 →
      (∀ {a b : State}, (∀ t, Steps p.tables e below b t → Steps p.tables e below a t) → G b → G a) →
      (∀ {T : State} {locs : List Loc} {cells slots : Nat} {g : JFrame} (v : Option Value), Stand p l e R s m as below meth c T locs cells slots → (rt = none → v = none) →
        (∀ fs, (∀ (f : JFrame) (acts : List Action), f.method = m → f.locked = none → f.entered = [] → (doReturn e (T.setTop f) acts v).1 = T.setFrames fs) → Steps p.tables e below (T.setTop g) (T.setFrames fs)) →
        cells ≤ R.cells → slots ≤ R.slots → Q v T.heap locs → G (T.setTop g)) →
      G (s₁.setTop (entryFrame m as ml))) :
    MetFree l y (head1 (Jvm.Cond.code y cd ml rt :: ws) R) (fun a U => a = as ∧ Z.Warmed39 U.vm ∧ U.heap = h0) (fun _ _ _ _ _ => True) (fun _ U o U' => ∃ v L, o = .returned v ∧ Q v U'.heap L ∧ FrameEnd U o U' L R.cells R.slots) := by
  refine MetFree.of_bodySF hpl hisR ?_
  intro p e s m args below meth c s₁ Bd hml0 hP hK
  obtain ⟨rfl, hZ, hh⟩ := hP
  have hlk : meth.locks = false := Bd.notSynchronized
  have key := body p e s m below meth c s₁ (fun a => ∃ t, Steps p.tables e below a t ∧ ∃ o, t.status = .running ∧ Ended t below o ∧ ∃ v L, o = .returned v ∧ Q v t.heap L ∧ FrameEnd s o t L R.cells R.slots)
    (Stand.of_body Bd) Bd.exec Bd.bytes hml0 hZ (findClass_of_methodNamed Bd.named) (name_of_methodNamed Bd.named Bd.method).1 Bd.returns (by rw [← hh, Bd.state]; rfl)
    (fun h g => by obtain ⟨t, h1, h2⟩ := g; exact ⟨t, h t h1, h2⟩)
    (fun {T locs cells slots g} v X hv hs hc hsl hQ => by
      obtain ⟨fs, hr, hrun, hended, hW, hsame⟩ := X.leave (v := v) (fun h => hv (Bd.returns.symm.trans h)) hlk
      exact ⟨_, hs fs hr, _, hrun, hended, v, locs, rfl, hQ, ⟨_, rfl⟩, hW, hsame.mono hc hsl⟩)
  obtain ⟨t, h1, o, h2, h3, h4⟩ := key
  exact ⟨t, o, h1, h2, h3, h4⟩
theorem own_lrem {p : Program} {l : Launch} {e : Env} {R : Room} {s : State} {m : MethodId} {args : Array Value} {below : List Frame} {meth : Method} {c : Code} {T : State} {locs : List Loc} {cells slots : Nat} {g : JFrame} {target : State} (X : Stand p l e R s m args below meth c T locs cells slots) (hx : p.tables.exec = Jvm.exec) (hg : g.method = m) {x y : Int64} {rest : List Value} (hd : decode c.code g.pc = .ok (.lrem, 1)) (hs : g.stack = .long y :: .long x :: rest) (hy : y ≠ 0)
    (hr : Steps p.tables e below (T.setTop { g with pc := g.pc + 1, stack := .long (x % y) :: rest }) target) : Steps p.tables e below (T.setTop g) target := XS.lrem X.here hx hg hd hs hy (by rw [lrem_mod]; exact hr)
theorem own_irr (x : Int32) : ¬ x < x := Int32.lt_irrefl
theorem own_irrL (x : Int64) : ¬ x < x := Int64.lt_irrefl
theorem own_eq_int {a : Term} {k : Int32} {args : Array Value} {first s : State} {o : Option Outcome} {idx : List Nat} (h : (Jvm.Cond.eq a (.int k)).value args first o s idx = some true) : a.eval args first o idx s = some (.int k) := by
  obtain ⟨x, y, ha, hb, k1, k2⟩ := cmp_v (Or.inl h)
  cases (show some (Value.int k) = some y from hb)
  obtain ⟨z, rfl⟩ := k2
  have q : (Jvm.Cond.eq a (.int k)).value args first o s idx = some (decide (z = k)) := by simp [Cond.value, ha, Term.eval]
  rw [gotT q h] at ha
  exact ha
theorem own_eq_ref {a b : Term} {u : Addr} {args : Array Value} {first s : State} {o : Option Outcome} {idx : List Nat} (h : (Jvm.Cond.eq a b).value args first o s idx = some true) (hb : b.eval args first o idx s = some (.ref u)) : a.eval args first o idx s = some (.ref u) := by
  obtain ⟨x, y, ha, hb', k1, k2⟩ := cmp_v (Or.inl h)
  cases hb.symm.trans hb'
  have hr : x.isRef = true := by cases x <;> simp_all [Kin, Value.isRef]
  have q := gotT (eq_R ha hb hr rfl) h
  rw [q] at ha
  exact ha
theorem own_exa_ns {Z : State} {h : Heap} {a : Addr} {C : String} (F : Exa Z h a C) : ∀ cell : Cell, h[a]? = some cell → cell.vm.isStatics = false := fun cell hc => by
  obtain ⟨c, k, h1, -, -, h4, -⟩ := F
  cases hc.symm.trans h1
  exact h4
theorem own_sta_keep {Z : State} {h h' : Heap} {C n d : String} {v : Value} {ws : List Addr} (F : Sta Z h C n d v) (K : Keep h h' ws) (q : ∀ a ∈ ws, ∀ cell : Cell, h[a]? = some cell → cell.vm.isStatics = false) : Sta Z h' C n d v := by
  obtain ⟨cf, i, k, f, st, cell, h1, h2, h3, h4, h5, h6, h7⟩ := F
  exact ⟨cf, i, k, f, st, cell, h1, h2, h3, h4, K.2.1 _ _ h5 (fun z => by rw [q _ z _ h5] at h6; cases h6), h6, h7⟩
theorem own_len {s : State} {args : Array Value} {t : Term} {a : Addr} {cl : Cell} {ty : FieldType} {z : Int32} (ht : t.eval args s none [] s = some (.ref a)) (A : Arr s s.heap a cl ty) (h : (Term.length t).eval args s none [] s = some (.int z)) : cl.slots.size < 2 ^ 31 ∧ cl.slots.size.toInt32 = z := by
  have ha := Arr.fin (State.Warmed39.refl s).alike A
  by_cases hn : cl.slots.size < 2 ^ 31
  · have q := (len_f ht ha hn).symm.trans h
    exact ⟨hn, Value.int.inj (Option.some.inj q)⟩
  · simp [Term.eval, ht, ha] at h
    omega
theorem own_elem {s : State} {args : Array Value} {t : Term} {a : Addr} {cl : Cell} {ty : FieldType} {j : Int32} {v : Value} (ht : t.eval args s none [] s = some (.ref a)) (A : Arr s s.heap a cl ty) (h : (Term.elem t (.int j)).eval args s none [] s = some v) (hn : ¬ j < 0) : cl.slots[j.toNatClampNeg]? = some v :=
  (elem_f ht rfl (Arr.fin (State.Warmed39.refl s).alike A) hn).symm.trans h
theorem own_selp {Z s : State} {a0 args : Array Value} {y : MethodName} {n : Nat} (hZ : Z.Warmed39 s.vm) (wi : (Jvm.Cond.instantiable y.cls n).before a0 Z = true) (wp : (Jvm.Cond.privateMethod y).before a0 Z = true) (wm : (Jvm.Cond.instanceMethod y).before a0 Z = true) (hy : y.cls ≠ "java/lang/invoke/MethodHandle" ∧ y.cls ≠ "java/lang/invoke/VarHandle") : (Jvm.Cond.selects y.cls y y).before args s = true := by
  have wi' : (Jvm.Cond.instantiable y.cls n).before args s = true := mvT hZ wi
  obtain ⟨c, k, h1, h2, -, h4, -⟩ := Cond.instantiable_spec wi'
  exact selects_self_of_private h1 h2 (Bool.or_eq_false_iff.mp h4).1 (Cond.privateMethod_at (mvP hZ wp (args := args))) (mvT hZ wm) hy
def own_keeps (a b kb kf ks : Int32) : Int32 := if a = (0 : Int32) then (if b = (0 : Int32) then 0 else if ks = (0 : Int32) then 0 else 1) else if b = (0 : Int32) then nar .boolean kf else nar .boolean kb
theorem pn_com_example_tightbits_tightbits_SetOperation : plainName "com/example/tightbits/tightbits/SetOperation" = true := by first | (simp [plainName, overriddenIn]; done) | decide +kernel
theorem ef_1 (m : MethodId) (x0 : Addr) (x1 : Int32) (x2 : Int32) : entryFrame m #[(.ref x0), (.int x1), (.int x2)] 3 = mkF m 0 #[.val (.ref x0), .val (.int x1), .val (.int x2)] [] := by first | (simp [entryFrame, mkF, argsToLocals, Value.category]; done) | rfl
theorem d1_0 : decode prog_36_method_4_code 0 = .ok (.iload_n 1, 1) := by decide +kernel
theorem d1_1 : decode prog_36_method_4_code 1 = .ok (.ifCond .eq 12, 3) := by decide +kernel
theorem d1_13 : decode prog_36_method_4_code 13 = .ok (.iload_n 1, 1) := by decide +kernel
theorem d1_14 : decode prog_36_method_4_code 14 = .ok (.ifCond .eq 8, 3) := by decide +kernel
theorem d1_22 : decode prog_36_method_4_code 22 = .ok (.iload_n 2, 1) := by decide +kernel
theorem d1_23 : decode prog_36_method_4_code 23 = .ok (.ifCond .eq 14, 3) := by decide +kernel
theorem d1_37 : decode prog_36_method_4_code 37 = .ok (.iconst 0, 1) := by decide +kernel
theorem d1_38 : decode prog_36_method_4_code 38 = .ok (.ireturn, 1) := by decide +kernel
theorem d1_26 : decode prog_36_method_4_code 26 = .ok (.aload_n 0, 1) := by decide +kernel
theorem d1_27 : decode prog_36_method_4_code 27 = .ok (.getfield 42, 3) := by decide +kernel
theorem d1_30 : decode prog_36_method_4_code 30 = .ok (.ifCond .eq 7, 3) := by decide +kernel
theorem d1_33 : decode prog_36_method_4_code 33 = .ok (.iconst 1, 1) := by decide +kernel
theorem d1_34 : decode prog_36_method_4_code 34 = .ok (.goto 4, 3) := by decide +kernel
theorem d1_4 : decode prog_36_method_4_code 4 = .ok (.iload_n 2, 1) := by decide +kernel
theorem d1_5 : decode prog_36_method_4_code 5 = .ok (.ifCond .eq 8, 3) := by decide +kernel
theorem d1_17 : decode prog_36_method_4_code 17 = .ok (.aload_n 0, 1) := by decide +kernel
theorem d1_18 : decode prog_36_method_4_code 18 = .ok (.getfield 39, 3) := by decide +kernel
theorem d1_21 : decode prog_36_method_4_code 21 = .ok (.ireturn, 1) := by decide +kernel
theorem d1_8 : decode prog_36_method_4_code 8 = .ok (.aload_n 0, 1) := by decide +kernel
theorem d1_9 : decode prog_36_method_4_code 9 = .ok (.getfield 35, 3) := by decide +kernel
theorem d1_12 : decode prog_36_method_4_code 12 = .ok (.ireturn, 1) := by decide +kernel
def Q_rm1 (Z : State) (ob : Addr) (xa : Int32) (xb : Int32) (y_keepsBoth : Int32) (y_keepsFirstOnly : Int32) (y_keepsSecondOnly : Int32) (h0 : Heap) (n0 : Nat) (v : Option Value) (h : Heap) (L : List Loc) : Prop := v = some (.int (own_keeps xa xb y_keepsBoth y_keepsFirstOnly y_keepsSecondOnly)) ∧ Fr n0 L ∧ h = h0
set_option maxRecDepth 65536 in
set_option maxHeartbeats 40000000 in
theorem rm1 (l : Launch) (Z : State) (a0 : Array Value) (hw : ∀ d ∈ tables_1, d.before a0 Z = true) (ws : List Jvm.Cond) (ob : Addr) (xa : Int32) (xb : Int32) (y_keepsBoth : Int32) (y_keepsFirstOnly : Int32) (y_keepsSecondOnly : Int32) (h0 : Heap) (n0 : Nat) (Z0 : n0 ≤ h0.size) (Fi_keepsBoth : Fld Z h0 ob "com/example/tightbits/tightbits/SetOperation" "keepsBoth" "Z" (.int y_keepsBoth)) (Fi_keepsFirstOnly : Fld Z h0 ob "com/example/tightbits/tightbits/SetOperation" "keepsFirstOnly" "Z" (.int y_keepsFirstOnly)) (Fi_keepsSecondOnly : Fld Z h0 ob "com/example/tightbits/tightbits/SetOperation" "keepsSecondOnly" "Z" (.int y_keepsSecondOnly)) :
    MetFree l (⟨"com/example/tightbits/tightbits/SetOperation", "keeps", "(ZZ)Z"⟩ : MethodName) (head1 (Jvm.Cond.code (⟨"com/example/tightbits/tightbits/SetOperation", "keeps", "(ZZ)Z"⟩ : MethodName) prog_36_method_4_code 3 (some .boolean) :: ws) ({ frames := 0, cells := 0, slots := 0, locals := 0 } : Room)) (fun a U => a = #[(.ref ob), (.int xa), (.int xb)] ∧ Z.Warmed39 U.vm ∧ U.heap = h0) (fun _ _ _ _ _ => True) (fun _ U o U' => ∃ v L, o = .returned v ∧ Q_rm1 Z ob xa xb y_keepsBoth y_keepsFirstOnly y_keepsSecondOnly h0 n0 v U'.heap L ∧ FrameEnd U o U' L ({ frames := 0, cells := 0, slots := 0, locals := 0 } : Room).cells ({ frames := 0, cells := 0, slots := 0, locals := 0 } : Room).slots) := by
  refine own_enter (Q := Q_rm1 Z ob xa xb y_keepsBoth y_keepsFirstOnly y_keepsSecondOnly h0 n0) (plainFor_of_name pn_com_example_tightbits_tightbits_SetOperation) ?_
  intro p e s m below meth c s₁ G X0 hx hby hml hZ hown hnm hret e0 go fin
  replace hown : s.vm.findClass "com/example/tightbits/tightbits/SetOperation" = some m.cls := hown
  replace hnm : meth.name = "keeps" := hnm
  replace hml : c.maxLocals = 3 := hml
  rw [ef_1 m ob xa xb]
  have N0 := Fr.nil n0
  show G (s₁.setTop (mkF m 0 #[.val (.ref ob), .val (.int xa), .val (.int xb)] []))
  refine go (fun tg kg => XS.iloadN X0.here hx rfl (hb hby d1_0) rfl kg) ?_
  show G (s₁.setTop (mkF m 1 #[.val (.ref ob), .val (.int xa), .val (.int xb)] [(.int xa)]))
  by_cases hc1 : xa = (0 : Int32)
  · refine go (fun tg kg => XS.ifYes X0.here hx rfl (pc0 := 1) (pc' := 13) rfl (hb hby d1_1) rfl ((if0 _ _).trans (teq hc1).1) (by decide) (by decide) kg) ?_
    show G (s₁.setTop (mkF m 13 #[.val (.ref ob), .val (.int xa), .val (.int xb)] []))
    refine go (fun tg kg => XS.iloadN X0.here hx rfl (hb hby d1_13) rfl kg) ?_
    show G (s₁.setTop (mkF m 14 #[.val (.ref ob), .val (.int xa), .val (.int xb)] [(.int xa)]))
    refine go (fun tg kg => XS.ifYes X0.here hx rfl (pc0 := 14) (pc' := 22) rfl (hb hby d1_14) rfl ((if0 _ _).trans (teq hc1).1) (by decide) (by decide) kg) ?_
    show G (s₁.setTop (mkF m 22 #[.val (.ref ob), .val (.int xa), .val (.int xb)] []))
    refine go (fun tg kg => XS.iloadN X0.here hx rfl (hb hby d1_22) rfl kg) ?_
    show G (s₁.setTop (mkF m 23 #[.val (.ref ob), .val (.int xa), .val (.int xb)] [(.int xb)]))
    by_cases hc2 : xb = (0 : Int32)
    · refine go (fun tg kg => XS.ifYes X0.here hx rfl (pc0 := 23) (pc' := 37) rfl (hb hby d1_23) rfl ((if0 _ _).trans (teq hc2).1) (by decide) (by decide) kg) ?_
      show G (s₁.setTop (mkF m 37 #[.val (.ref ob), .val (.int xa), .val (.int xb)] []))
      refine go (fun tg kg => XS.iconst X0.here hx rfl (hb hby d1_37) kg) ?_
      show G (s₁.setTop (mkF m 38 #[.val (.ref ob), .val (.int xa), .val (.int xb)] [(.int (0 : Int32))]))
      refine fin (some (.int (0 : Int32))) X0 (fun h => absurd h (by decide)) (fun fs hr => retN X0 hx (t := .boolean) hret (by simp) (hb hby d1_38) hr) (by decide) (by decide) ?_
      rw [e0]
      exact ⟨by simp only [own_keeps, if_pos hc1, if_pos hc2], N0, rfl⟩
    · refine go (fun tg kg => XS.ifNo X0.here hx rfl (hb hby d1_23) rfl ((if0 _ _).trans (feq hc2).1) kg) ?_
      show G (s₁.setTop (mkF m 26 #[.val (.ref ob), .val (.int xa), .val (.int xb)] []))
      refine go (fun tg kg => XS.aloadN X0.here hx rfl (hb hby d1_26) rfl rfl kg) ?_
      show G (s₁.setTop (mkF m 27 #[.val (.ref ob), .val (.int xa), .val (.int xb)] [(.ref ob)]))
      obtain ⟨T3, X3, e3, st3⟩ := getF X0 hx hZ hown (host := "") (Or.inl (hw _ (List.mem_of_getElem? (i := 12) rfl))) Via.refl e0 Fi_keepsSecondOnly (g := (mkF m 27 #[.val (.ref ob), .val (.int xa), .val (.int xb)] [(.ref ob)])) rfl rfl (hb hby d1_27)
      refine go st3 ?_
      show G (T3.setTop (mkF m 30 #[.val (.ref ob), .val (.int xa), .val (.int xb)] [(.int y_keepsSecondOnly)]))
      by_cases hc4 : y_keepsSecondOnly = (0 : Int32)
      · refine go (fun tg kg => XS.ifYes X3.here hx rfl (pc0 := 30) (pc' := 37) rfl (hb hby d1_30) rfl ((if0 _ _).trans (teq hc4).1) (by decide) (by decide) kg) ?_
        show G (T3.setTop (mkF m 37 #[.val (.ref ob), .val (.int xa), .val (.int xb)] []))
        refine go (fun tg kg => XS.iconst X3.here hx rfl (hb hby d1_37) kg) ?_
        show G (T3.setTop (mkF m 38 #[.val (.ref ob), .val (.int xa), .val (.int xb)] [(.int (0 : Int32))]))
        refine fin (some (.int (0 : Int32))) X3 (fun h => absurd h (by decide)) (fun fs hr => retN X3 hx (t := .boolean) hret (by simp) (hb hby d1_38) hr) (by decide) (by decide) ?_
        rw [e3]
        exact ⟨by simp only [own_keeps, if_pos hc1, if_neg hc2, if_pos hc4], N0, rfl⟩
      · refine go (fun tg kg => XS.ifNo X3.here hx rfl (hb hby d1_30) rfl ((if0 _ _).trans (feq hc4).1) kg) ?_
        show G (T3.setTop (mkF m 33 #[.val (.ref ob), .val (.int xa), .val (.int xb)] []))
        refine go (fun tg kg => XS.iconst X3.here hx rfl (hb hby d1_33) kg) ?_
        show G (T3.setTop (mkF m 34 #[.val (.ref ob), .val (.int xa), .val (.int xb)] [(.int (1 : Int32))]))
        refine go (fun tg kg => XS.goto X3.here hx rfl (pc0 := 34) (pc' := 38) rfl (hb hby d1_34) (by decide) (by decide) kg) ?_
        show G (T3.setTop (mkF m 38 #[.val (.ref ob), .val (.int xa), .val (.int xb)] [(.int (1 : Int32))]))
        refine fin (some (.int (1 : Int32))) X3 (fun h => absurd h (by decide)) (fun fs hr => retN X3 hx (t := .boolean) hret (by simp) (hb hby d1_38) hr) (by decide) (by decide) ?_
        rw [e3]
        exact ⟨by simp only [own_keeps, if_pos hc1, if_neg hc2, if_neg hc4], N0, rfl⟩
  · refine go (fun tg kg => XS.ifNo X0.here hx rfl (hb hby d1_1) rfl ((if0 _ _).trans (feq hc1).1) kg) ?_
    show G (s₁.setTop (mkF m 4 #[.val (.ref ob), .val (.int xa), .val (.int xb)] []))
    refine go (fun tg kg => XS.iloadN X0.here hx rfl (hb hby d1_4) rfl kg) ?_
    show G (s₁.setTop (mkF m 5 #[.val (.ref ob), .val (.int xa), .val (.int xb)] [(.int xb)]))
    by_cases hc5 : xb = (0 : Int32)
    · refine go (fun tg kg => XS.ifYes X0.here hx rfl (pc0 := 5) (pc' := 13) rfl (hb hby d1_5) rfl ((if0 _ _).trans (teq hc5).1) (by decide) (by decide) kg) ?_
      show G (s₁.setTop (mkF m 13 #[.val (.ref ob), .val (.int xa), .val (.int xb)] []))
      refine go (fun tg kg => XS.iloadN X0.here hx rfl (hb hby d1_13) rfl kg) ?_
      show G (s₁.setTop (mkF m 14 #[.val (.ref ob), .val (.int xa), .val (.int xb)] [(.int xa)]))
      refine go (fun tg kg => XS.ifNo X0.here hx rfl (hb hby d1_14) rfl ((if0 _ _).trans (feq hc1).1) kg) ?_
      show G (s₁.setTop (mkF m 17 #[.val (.ref ob), .val (.int xa), .val (.int xb)] []))
      refine go (fun tg kg => XS.aloadN X0.here hx rfl (hb hby d1_17) rfl rfl kg) ?_
      show G (s₁.setTop (mkF m 18 #[.val (.ref ob), .val (.int xa), .val (.int xb)] [(.ref ob)]))
      obtain ⟨T6, X6, e6, st6⟩ := getF X0 hx hZ hown (host := "") (Or.inl (hw _ (List.mem_of_getElem? (i := 8) rfl))) Via.refl e0 Fi_keepsFirstOnly (g := (mkF m 18 #[.val (.ref ob), .val (.int xa), .val (.int xb)] [(.ref ob)])) rfl rfl (hb hby d1_18)
      refine go st6 ?_
      show G (T6.setTop (mkF m 21 #[.val (.ref ob), .val (.int xa), .val (.int xb)] [(.int y_keepsFirstOnly)]))
      refine fin (some (.int (nar .boolean y_keepsFirstOnly))) X6 (fun h => absurd h (by decide)) (fun fs hr => retN X6 hx (t := .boolean) hret (by simp) (hb hby d1_21) hr) (by decide) (by decide) ?_
      rw [e6]
      exact ⟨by simp only [own_keeps, if_neg hc1, if_pos hc5], N0, rfl⟩
    · refine go (fun tg kg => XS.ifNo X0.here hx rfl (hb hby d1_5) rfl ((if0 _ _).trans (feq hc5).1) kg) ?_
      show G (s₁.setTop (mkF m 8 #[.val (.ref ob), .val (.int xa), .val (.int xb)] []))
      refine go (fun tg kg => XS.aloadN X0.here hx rfl (hb hby d1_8) rfl rfl kg) ?_
      show G (s₁.setTop (mkF m 9 #[.val (.ref ob), .val (.int xa), .val (.int xb)] [(.ref ob)]))
      obtain ⟨T7, X7, e7, st7⟩ := getF X0 hx hZ hown (host := "") (Or.inl (hw _ (List.mem_of_getElem? (i := 18) rfl))) Via.refl e0 Fi_keepsBoth (g := (mkF m 9 #[.val (.ref ob), .val (.int xa), .val (.int xb)] [(.ref ob)])) rfl rfl (hb hby d1_9)
      refine go st7 ?_
      show G (T7.setTop (mkF m 12 #[.val (.ref ob), .val (.int xa), .val (.int xb)] [(.int y_keepsBoth)]))
      refine fin (some (.int (nar .boolean y_keepsBoth))) X7 (fun h => absurd h (by decide)) (fun fs hr => retN X7 hx (t := .boolean) hret (by simp) (hb hby d1_12) hr) (by decide) (by decide) ?_
      rw [e7]
      exact ⟨by simp only [own_keeps, if_neg hc1, if_neg hc5], N0, rfl⟩
theorem pn_com_example_tightbits_tightbits_SetOperationKeepsPinLaw : plainName "com/example/tightbits/tightbits/SetOperationKeepsPinLaw" = true := by first | (simp [plainName, overriddenIn]; done) | decide +kernel
theorem ef_0 (m : MethodId) (x0 : Int32) (x1 : Int32) (x2 : Int32) : entryFrame m #[(.int x0), (.int x1), (.int x2)] maxLocals = mkF m 0 #[.val (.int x0), .val (.int x1), .val (.int x2), .unset, .unset, .unset, .unset, .unset] [] := by first | (simp [entryFrame, mkF, argsToLocals, Value.category, maxLocals]; done) | rfl
theorem pd__ZZ_Z : parseMethodDescriptor "(ZZ)Z" = some ⟨[.boolean, .boolean], some .boolean⟩ := by decide +kernel
def Q_rm0 (Z : State) (x0 : Int32) (x1 : Int32) (x2 : Int32) (u_AND : Addr) (u_OR : Addr) (u_XOR : Addr) (u_AND_NOT : Addr) (h0 : Heap) (n0 : Nat) (v : Option Value) (h : Heap) (L : List Loc) : Prop := v = some (.int 1) ∧ Fr n0 L
set_option maxRecDepth 65536 in
set_option maxHeartbeats 40000000 in
theorem rm0 (l : Launch) (Z : State) (a0 : Array Value) (hw : ∀ d ∈ tables_1, d.before a0 Z = true) (ws : List Jvm.Cond) (x0 : Int32) (x1 : Int32) (x2 : Int32) (u_AND : Addr) (u_OR : Addr) (u_XOR : Addr) (u_AND_NOT : Addr) (h0 : Heap) (n0 : Nat) (Z0 : n0 ≤ h0.size) (S_u_AND : Sta Z h0 "com/example/tightbits/tightbits/SetOperation" "AND" "Lcom/example/tightbits/tightbits/SetOperation;" (.ref u_AND)) (S_u_OR : Sta Z h0 "com/example/tightbits/tightbits/SetOperation" "OR" "Lcom/example/tightbits/tightbits/SetOperation;" (.ref u_OR)) (S_u_XOR : Sta Z h0 "com/example/tightbits/tightbits/SetOperation" "XOR" "Lcom/example/tightbits/tightbits/SetOperation;" (.ref u_XOR)) (S_u_AND_NOT : Sta Z h0 "com/example/tightbits/tightbits/SetOperation" "AND_NOT" "Lcom/example/tightbits/tightbits/SetOperation;" (.ref u_AND_NOT)) (E_u_AND : Exa Z h0 u_AND "com/example/tightbits/tightbits/SetOperation") (E_u_OR : Exa Z h0 u_OR "com/example/tightbits/tightbits/SetOperation") (E_u_XOR : Exa Z h0 u_XOR "com/example/tightbits/tightbits/SetOperation") (E_u_AND_NOT : Exa Z h0 u_AND_NOT "com/example/tightbits/tightbits/SetOperation") (F_u_AND_keepsBoth : Fld Z h0 u_AND "com/example/tightbits/tightbits/SetOperation" "keepsBoth" "Z" (.int (1 : Int32))) (F_u_AND_keepsFirstOnly : Fld Z h0 u_AND "com/example/tightbits/tightbits/SetOperation" "keepsFirstOnly" "Z" (.int (0 : Int32))) (F_u_AND_keepsSecondOnly : Fld Z h0 u_AND "com/example/tightbits/tightbits/SetOperation" "keepsSecondOnly" "Z" (.int (0 : Int32))) (F_u_OR_keepsBoth : Fld Z h0 u_OR "com/example/tightbits/tightbits/SetOperation" "keepsBoth" "Z" (.int (1 : Int32))) (F_u_OR_keepsFirstOnly : Fld Z h0 u_OR "com/example/tightbits/tightbits/SetOperation" "keepsFirstOnly" "Z" (.int (1 : Int32))) (F_u_OR_keepsSecondOnly : Fld Z h0 u_OR "com/example/tightbits/tightbits/SetOperation" "keepsSecondOnly" "Z" (.int (1 : Int32))) (F_u_XOR_keepsBoth : Fld Z h0 u_XOR "com/example/tightbits/tightbits/SetOperation" "keepsBoth" "Z" (.int (0 : Int32))) (F_u_XOR_keepsFirstOnly : Fld Z h0 u_XOR "com/example/tightbits/tightbits/SetOperation" "keepsFirstOnly" "Z" (.int (1 : Int32))) (F_u_XOR_keepsSecondOnly : Fld Z h0 u_XOR "com/example/tightbits/tightbits/SetOperation" "keepsSecondOnly" "Z" (.int (1 : Int32))) (F_u_AND_NOT_keepsBoth : Fld Z h0 u_AND_NOT "com/example/tightbits/tightbits/SetOperation" "keepsBoth" "Z" (.int (0 : Int32))) (F_u_AND_NOT_keepsFirstOnly : Fld Z h0 u_AND_NOT "com/example/tightbits/tightbits/SetOperation" "keepsFirstOnly" "Z" (.int (1 : Int32))) (F_u_AND_NOT_keepsSecondOnly : Fld Z h0 u_AND_NOT "com/example/tightbits/tightbits/SetOperation" "keepsSecondOnly" "Z" (.int (0 : Int32))) :
    MetFree l x (head1 (Jvm.Cond.code x code maxLocals ret :: ws) room_1) (fun a U => a = #[(.int x0), (.int x1), (.int x2)] ∧ Z.Warmed39 U.vm ∧ U.heap = h0) (fun _ _ _ _ _ => True) (fun _ U o U' => ∃ v L, o = .returned v ∧ Q_rm0 Z x0 x1 x2 u_AND u_OR u_XOR u_AND_NOT h0 n0 v U'.heap L ∧ FrameEnd U o U' L room_1.cells room_1.slots) := by
  refine own_enter (Q := Q_rm0 Z x0 x1 x2 u_AND u_OR u_XOR u_AND_NOT h0 n0) (plainFor_of_name pn_com_example_tightbits_tightbits_SetOperationKeepsPinLaw) ?_
  intro p e s m below meth c s₁ G X0 hx hby hml hZ hown hnm hret e0 go fin
  replace hown : s.vm.findClass "com/example/tightbits/tightbits/SetOperationKeepsPinLaw" = some m.cls := hown
  replace hnm : meth.name = "law" := hnm
  replace hml : c.maxLocals = 8 := hml
  rw [ef_0 m x0 x1 x2]
  have N0 := Fr.nil n0
  show G (s₁.setTop (mkF m 0 #[.val (.int x0), .val (.int x1), .val (.int x2), .unset, .unset, .unset, .unset, .unset] []))
  refine go (fun tg kg => XS.iloadN X0.here hx rfl (hb hby at_0) rfl kg) ?_
  show G (s₁.setTop (mkF m 1 #[.val (.int x0), .val (.int x1), .val (.int x2), .unset, .unset, .unset, .unset, .unset] [(.int x1)]))
  refine go (fun tg kg => XS.iconst X0.here hx rfl (hb hby at_1) kg) ?_
  show G (s₁.setTop (mkF m 2 #[.val (.int x0), .val (.int x1), .val (.int x2), .unset, .unset, .unset, .unset, .unset] [(.int (1 : Int32)), (.int x1)]))
  refine go (fun tg kg => XS.iand X0.here hx rfl (hb hby at_2) rfl kg) ?_
  show G (s₁.setTop (mkF m 3 #[.val (.int x0), .val (.int x1), .val (.int x2), .unset, .unset, .unset, .unset, .unset] [(.int (x1 &&& (1 : Int32)))]))
  by_cases hc1 : (x1 &&& (1 : Int32)) = (0 : Int32)
  · refine go (fun tg kg => XS.ifYes X0.here hx rfl (pc0 := 3) (pc' := 10) rfl (hb hby at_3) rfl ((if0 _ _).trans (teq hc1).1) (by decide) (by decide) kg) ?_
    show G (s₁.setTop (mkF m 10 #[.val (.int x0), .val (.int x1), .val (.int x2), .unset, .unset, .unset, .unset, .unset] []))
    refine go (fun tg kg => XS.iconst X0.here hx rfl (hb hby at_10) kg) ?_
    show G (s₁.setTop (mkF m 11 #[.val (.int x0), .val (.int x1), .val (.int x2), .unset, .unset, .unset, .unset, .unset] [(.int (0 : Int32))]))
    refine go (fun tg kg => XS.istoreN X0.here hx rfl (hb hby at_11) rfl (l' := #[.val (.int x0), .val (.int x1), .val (.int x2), .val (.int (0 : Int32)), .unset, .unset, .unset, .unset]) rfl kg) ?_
    show G (s₁.setTop (mkF m 12 #[.val (.int x0), .val (.int x1), .val (.int x2), .val (.int (0 : Int32)), .unset, .unset, .unset, .unset] []))
    refine go (fun tg kg => XS.iloadN X0.here hx rfl (hb hby at_12) rfl kg) ?_
    show G (s₁.setTop (mkF m 13 #[.val (.int x0), .val (.int x1), .val (.int x2), .val (.int (0 : Int32)), .unset, .unset, .unset, .unset] [(.int x2)]))
    refine go (fun tg kg => XS.iconst X0.here hx rfl (hb hby at_13) kg) ?_
    show G (s₁.setTop (mkF m 14 #[.val (.int x0), .val (.int x1), .val (.int x2), .val (.int (0 : Int32)), .unset, .unset, .unset, .unset] [(.int (1 : Int32)), (.int x2)]))
    refine go (fun tg kg => XS.iand X0.here hx rfl (hb hby at_14) rfl kg) ?_
    show G (s₁.setTop (mkF m 15 #[.val (.int x0), .val (.int x1), .val (.int x2), .val (.int (0 : Int32)), .unset, .unset, .unset, .unset] [(.int (x2 &&& (1 : Int32)))]))
    by_cases hc2 : (x2 &&& (1 : Int32)) = (0 : Int32)
    · refine go (fun tg kg => XS.ifYes X0.here hx rfl (pc0 := 15) (pc' := 22) rfl (hb hby at_15) rfl ((if0 _ _).trans (teq hc2).1) (by decide) (by decide) kg) ?_
      show G (s₁.setTop (mkF m 22 #[.val (.int x0), .val (.int x1), .val (.int x2), .val (.int (0 : Int32)), .unset, .unset, .unset, .unset] []))
      refine go (fun tg kg => XS.iconst X0.here hx rfl (hb hby at_22) kg) ?_
      show G (s₁.setTop (mkF m 23 #[.val (.int x0), .val (.int x1), .val (.int x2), .val (.int (0 : Int32)), .unset, .unset, .unset, .unset] [(.int (0 : Int32))]))
      refine go (fun tg kg => XS.istore X0.here hx rfl (hb hby at_23) rfl (l' := #[.val (.int x0), .val (.int x1), .val (.int x2), .val (.int (0 : Int32)), .val (.int (0 : Int32)), .unset, .unset, .unset]) rfl kg) ?_
      show G (s₁.setTop (mkF m 25 #[.val (.int x0), .val (.int x1), .val (.int x2), .val (.int (0 : Int32)), .val (.int (0 : Int32)), .unset, .unset, .unset] []))
      refine go (fun tg kg => XS.iloadN X0.here hx rfl (hb hby at_25) rfl kg) ?_
      show G (s₁.setTop (mkF m 26 #[.val (.int x0), .val (.int x1), .val (.int x2), .val (.int (0 : Int32)), .val (.int (0 : Int32)), .unset, .unset, .unset] [(.int x0)]))
      refine go (fun tg kg => XS.iconst X0.here hx rfl (hb hby at_26) kg) ?_
      show G (s₁.setTop (mkF m 27 #[.val (.int x0), .val (.int x1), .val (.int x2), .val (.int (0 : Int32)), .val (.int (0 : Int32)), .unset, .unset, .unset] [(.int (3 : Int32)), (.int x0)]))
      refine go (fun tg kg => XS.iand X0.here hx rfl (hb hby at_27) rfl kg) ?_
      show G (s₁.setTop (mkF m 28 #[.val (.int x0), .val (.int x1), .val (.int x2), .val (.int (0 : Int32)), .val (.int (0 : Int32)), .unset, .unset, .unset] [(.int (x0 &&& (3 : Int32)))]))
      refine go (fun tg kg => XS.istore X0.here hx rfl (hb hby at_28) rfl (l' := #[.val (.int x0), .val (.int x1), .val (.int x2), .val (.int (0 : Int32)), .val (.int (0 : Int32)), .val (.int (x0 &&& (3 : Int32))), .unset, .unset]) rfl kg) ?_
      show G (s₁.setTop (mkF m 30 #[.val (.int x0), .val (.int x1), .val (.int x2), .val (.int (0 : Int32)), .val (.int (0 : Int32)), .val (.int (x0 &&& (3 : Int32))), .unset, .unset] []))
      refine go (fun tg kg => XS.iload X0.here hx rfl (hb hby at_30) rfl kg) ?_
      show G (s₁.setTop (mkF m 32 #[.val (.int x0), .val (.int x1), .val (.int x2), .val (.int (0 : Int32)), .val (.int (0 : Int32)), .val (.int (x0 &&& (3 : Int32))), .unset, .unset] [(.int (x0 &&& (3 : Int32)))]))
      by_cases hc3 : (x0 &&& (3 : Int32)) = (0 : Int32)
      · refine go (fun tg kg => XS.ifNo X0.here hx rfl (hb hby at_32) rfl ((if0 _ _).trans (teq hc3).2) kg) ?_
        show G (s₁.setTop (mkF m 35 #[.val (.int x0), .val (.int x1), .val (.int x2), .val (.int (0 : Int32)), .val (.int (0 : Int32)), .val (.int (x0 &&& (3 : Int32))), .unset, .unset] []))
        obtain ⟨T4, X4, e4, st4⟩ := getS2 X0 hx hZ hown (host := "") (Or.inl (hw _ (List.mem_of_getElem? (i := 0) rfl))) Via.refl e0 S_u_AND (g := (mkF m 35 #[.val (.int x0), .val (.int x1), .val (.int x2), .val (.int (0 : Int32)), .val (.int (0 : Int32)), .val (.int (x0 &&& (3 : Int32))), .unset, .unset] [])) rfl (hb hby at_35)
        refine go st4 ?_
        show G (T4.setTop (mkF m 38 #[.val (.int x0), .val (.int x1), .val (.int x2), .val (.int (0 : Int32)), .val (.int (0 : Int32)), .val (.int (x0 &&& (3 : Int32))), .unset, .unset] [(.ref u_AND)]))
        refine go (fun tg kg => XS.astore X4.here hx rfl (hb hby at_38) rfl rfl (l' := #[.val (.int x0), .val (.int x1), .val (.int x2), .val (.int (0 : Int32)), .val (.int (0 : Int32)), .val (.int (x0 &&& (3 : Int32))), .val (.ref u_AND), .unset]) rfl kg) ?_
        show G (T4.setTop (mkF m 40 #[.val (.int x0), .val (.int x1), .val (.int x2), .val (.int (0 : Int32)), .val (.int (0 : Int32)), .val (.int (x0 &&& (3 : Int32))), .val (.ref u_AND), .unset] []))
        refine go (fun tg kg => XS.iloadN X4.here hx rfl (hb hby at_40) rfl kg) ?_
        show G (T4.setTop (mkF m 41 #[.val (.int x0), .val (.int x1), .val (.int x2), .val (.int (0 : Int32)), .val (.int (0 : Int32)), .val (.int (x0 &&& (3 : Int32))), .val (.ref u_AND), .unset] [(.int (0 : Int32))]))
        refine go (fun tg kg => XS.ifYes X4.here hx rfl (pc0 := 41) (pc' := 53) rfl (hb hby at_41) rfl ((if0 _ _).trans (teq (by decide)).1) (by decide) (by decide) kg) ?_
        show G (T4.setTop (mkF m 53 #[.val (.int x0), .val (.int x1), .val (.int x2), .val (.int (0 : Int32)), .val (.int (0 : Int32)), .val (.int (x0 &&& (3 : Int32))), .val (.ref u_AND), .unset] []))
        refine go (fun tg kg => XS.iconst X4.here hx rfl (hb hby at_53) kg) ?_
        show G (T4.setTop (mkF m 54 #[.val (.int x0), .val (.int x1), .val (.int x2), .val (.int (0 : Int32)), .val (.int (0 : Int32)), .val (.int (x0 &&& (3 : Int32))), .val (.ref u_AND), .unset] [(.int (0 : Int32))]))
        refine go (fun tg kg => XS.istore X4.here hx rfl (hb hby at_54) rfl (l' := #[.val (.int x0), .val (.int x1), .val (.int x2), .val (.int (0 : Int32)), .val (.int (0 : Int32)), .val (.int (x0 &&& (3 : Int32))), .val (.ref u_AND), .val (.int (0 : Int32))]) rfl kg) ?_
        show G (T4.setTop (mkF m 56 #[.val (.int x0), .val (.int x1), .val (.int x2), .val (.int (0 : Int32)), .val (.int (0 : Int32)), .val (.int (x0 &&& (3 : Int32))), .val (.ref u_AND), .val (.int (0 : Int32))] []))
        refine go (fun tg kg => XS.goto X4.here hx rfl (pc0 := 56) (pc' := 137) rfl (hb hby at_56) (by decide) (by decide) kg) ?_
        show G (T4.setTop (mkF m 137 #[.val (.int x0), .val (.int x1), .val (.int x2), .val (.int (0 : Int32)), .val (.int (0 : Int32)), .val (.int (x0 &&& (3 : Int32))), .val (.ref u_AND), .val (.int (0 : Int32))] []))
        refine go (fun tg kg => XS.aload X4.here hx rfl (hb hby at_137) rfl rfl kg) ?_
        show G (T4.setTop (mkF m 139 #[.val (.int x0), .val (.int x1), .val (.int x2), .val (.int (0 : Int32)), .val (.int (0 : Int32)), .val (.int (x0 &&& (3 : Int32))), .val (.ref u_AND), .val (.int (0 : Int32))] [(.ref u_AND)]))
        refine go (fun tg kg => XS.iloadN X4.here hx rfl (hb hby at_139) rfl kg) ?_
        show G (T4.setTop (mkF m 140 #[.val (.int x0), .val (.int x1), .val (.int x2), .val (.int (0 : Int32)), .val (.int (0 : Int32)), .val (.int (x0 &&& (3 : Int32))), .val (.ref u_AND), .val (.int (0 : Int32))] [(.int (0 : Int32)), (.ref u_AND)]))
        refine go (fun tg kg => XS.iload X4.here hx rfl (hb hby at_140) rfl kg) ?_
        show G (T4.setTop (mkF m 142 #[.val (.int x0), .val (.int x1), .val (.int x2), .val (.int (0 : Int32)), .val (.int (0 : Int32)), .val (.int (x0 &&& (3 : Int32))), .val (.ref u_AND), .val (.int (0 : Int32))] [(.int (0 : Int32)), (.int (0 : Int32)), (.ref u_AND)]))
        obtain ⟨cq5, kq5, q5a, q5b, q5c⟩ := isOf hZ e4 E_u_AND
        obtain ⟨_, _, ⟨T5, L5, k5, n5⟩, -, X5, ⟨Lc5, hQ5, l5, y5, z5⟩, st5⟩ := X4.virtualBack hx (y := (⟨"com/example/tightbits/tightbits/SetOperation", "keeps", "(ZZ)Z"⟩ : MethodName)) (z := (⟨"com/example/tightbits/tightbits/SetOperation", "keeps", "(ZZ)Z"⟩ : MethodName)) hown (mvT hZ (hw _ (List.mem_of_getElem? (i := 3) rfl))) (mvT hZ (hw _ (List.mem_of_getElem? (i := 4) rfl))) (notFace_of_selects (args := #[]) (mvT hZ (hw _ (List.mem_of_getElem? (i := 6) rfl)))) (mvT hZ (hw _ (List.mem_of_getElem? (i := 6) rfl))) (mvT hZ (hw _ (List.mem_of_getElem? (i := 5) rfl))) (by decide) (backOf (W := 0) (rm1 l Z a0 hw [] u_AND (0 : Int32) (0 : Int32) (1 : Int32) (0 : Int32) (0 : Int32) h0 n0 Z0 F_u_AND_keepsBoth F_u_AND_keepsFirstOnly F_u_AND_keepsSecondOnly) hZ (hw _ (List.mem_of_getElem? (i := 7) rfl)) (hw _ (List.mem_of_getElem? (i := 1) rfl)) (by decide) (by decide)) q5a q5c (g := (mkF m 142 #[.val (.int x0), .val (.int x1), .val (.int x2), .val (.int (0 : Int32)), .val (.int (0 : Int32)), .val (.int (x0 &&& (3 : Int32))), .val (.ref u_AND), .val (.int (0 : Int32))] [(.int (0 : Int32)), (.int (0 : Int32)), (.ref u_AND)])) rfl (by rw [hml]; rfl) (Steps.refl _) (argsL := [(.int (0 : Int32)), (.int (0 : Int32))]) (rest := []) (lenOf pd__ZZ_Z rfl) rfl (by show 2 * 0 + _ ≤ _; exact Nat.le_of_eq rfl) (hb hby at_142) (fun _ _ => ⟨rfl, e4, (by decide : 0 + 0 ≤ _), (by decide : 0 + 0 ≤ _)⟩)
        dsimp only [Pt.U, Pt.locs, Pt.cells, Pt.slots] at X5 l5 y5 z5 st5 hQ5
        subst l5 y5 z5
        obtain ⟨rfl, Nq5, e5⟩ := hQ5
        have N5 := Fr.app N0 Nq5
        refine go (fun tg kg => st5.trans kg) ?_
        show G (T5.setTop (mkF m 145 #[.val (.int x0), .val (.int x1), .val (.int x2), .val (.int (0 : Int32)), .val (.int (0 : Int32)), .val (.int (x0 &&& (3 : Int32))), .val (.ref u_AND), .val (.int (0 : Int32))] [(.int (own_keeps (0 : Int32) (0 : Int32) (1 : Int32) (0 : Int32) (0 : Int32)))]))
        refine go (fun tg kg => XS.iload X5.here hx rfl (hb hby at_145) rfl kg) ?_
        show G (T5.setTop (mkF m 147 #[.val (.int x0), .val (.int x1), .val (.int x2), .val (.int (0 : Int32)), .val (.int (0 : Int32)), .val (.int (x0 &&& (3 : Int32))), .val (.ref u_AND), .val (.int (0 : Int32))] [(.int (0 : Int32)), (.int (own_keeps (0 : Int32) (0 : Int32) (1 : Int32) (0 : Int32) (0 : Int32)))]))
        refine go (fun tg kg => XS.icmpNo X5.here hx rfl (hb hby at_147) rfl (teq (by decide)).2 kg) ?_
        show G (T5.setTop (mkF m 150 #[.val (.int x0), .val (.int x1), .val (.int x2), .val (.int (0 : Int32)), .val (.int (0 : Int32)), .val (.int (x0 &&& (3 : Int32))), .val (.ref u_AND), .val (.int (0 : Int32))] []))
        refine go (fun tg kg => XS.iconst X5.here hx rfl (hb hby at_150) kg) ?_
        show G (T5.setTop (mkF m 151 #[.val (.int x0), .val (.int x1), .val (.int x2), .val (.int (0 : Int32)), .val (.int (0 : Int32)), .val (.int (x0 &&& (3 : Int32))), .val (.ref u_AND), .val (.int (0 : Int32))] [(.int (1 : Int32))]))
        refine go (fun tg kg => XS.goto X5.here hx rfl (pc0 := 151) (pc' := 155) rfl (hb hby at_151) (by decide) (by decide) kg) ?_
        show G (T5.setTop (mkF m 155 #[.val (.int x0), .val (.int x1), .val (.int x2), .val (.int (0 : Int32)), .val (.int (0 : Int32)), .val (.int (x0 &&& (3 : Int32))), .val (.ref u_AND), .val (.int (0 : Int32))] [(.int (1 : Int32))]))
        refine fin (some (.int (1 : Int32))) X5 (fun h => absurd h (by decide)) (fun fs hr => retN X5 hx (t := .boolean) hret (by simp) (hb hby at_155) hr) (by decide) (by decide) ?_
        rw [e5]
        exact ⟨rfl, N5⟩
      · refine go (fun tg kg => XS.ifYes X0.here hx rfl (pc0 := 32) (pc' := 59) rfl (hb hby at_32) rfl ((if0 _ _).trans (feq hc3).2) (by decide) (by decide) kg) ?_
        show G (s₁.setTop (mkF m 59 #[.val (.int x0), .val (.int x1), .val (.int x2), .val (.int (0 : Int32)), .val (.int (0 : Int32)), .val (.int (x0 &&& (3 : Int32))), .unset, .unset] []))
        refine go (fun tg kg => XS.iload X0.here hx rfl (hb hby at_59) rfl kg) ?_
        show G (s₁.setTop (mkF m 61 #[.val (.int x0), .val (.int x1), .val (.int x2), .val (.int (0 : Int32)), .val (.int (0 : Int32)), .val (.int (x0 &&& (3 : Int32))), .unset, .unset] [(.int (x0 &&& (3 : Int32)))]))
        refine go (fun tg kg => XS.iconst X0.here hx rfl (hb hby at_61) kg) ?_
        show G (s₁.setTop (mkF m 62 #[.val (.int x0), .val (.int x1), .val (.int x2), .val (.int (0 : Int32)), .val (.int (0 : Int32)), .val (.int (x0 &&& (3 : Int32))), .unset, .unset] [(.int (1 : Int32)), (.int (x0 &&& (3 : Int32)))]))
        by_cases hc6 : (x0 &&& (3 : Int32)) = (1 : Int32)
        · refine go (fun tg kg => XS.icmpNo X0.here hx rfl (hb hby at_62) rfl (teq hc6).2 kg) ?_
          show G (s₁.setTop (mkF m 65 #[.val (.int x0), .val (.int x1), .val (.int x2), .val (.int (0 : Int32)), .val (.int (0 : Int32)), .val (.int (x0 &&& (3 : Int32))), .unset, .unset] []))
          obtain ⟨T7, X7, e7, st7⟩ := getS2 X0 hx hZ hown (host := "") (Or.inl (hw _ (List.mem_of_getElem? (i := 10) rfl))) Via.refl e0 S_u_OR (g := (mkF m 65 #[.val (.int x0), .val (.int x1), .val (.int x2), .val (.int (0 : Int32)), .val (.int (0 : Int32)), .val (.int (x0 &&& (3 : Int32))), .unset, .unset] [])) rfl (hb hby at_65)
          refine go st7 ?_
          show G (T7.setTop (mkF m 68 #[.val (.int x0), .val (.int x1), .val (.int x2), .val (.int (0 : Int32)), .val (.int (0 : Int32)), .val (.int (x0 &&& (3 : Int32))), .unset, .unset] [(.ref u_OR)]))
          refine go (fun tg kg => XS.astore X7.here hx rfl (hb hby at_68) rfl rfl (l' := #[.val (.int x0), .val (.int x1), .val (.int x2), .val (.int (0 : Int32)), .val (.int (0 : Int32)), .val (.int (x0 &&& (3 : Int32))), .val (.ref u_OR), .unset]) rfl kg) ?_
          show G (T7.setTop (mkF m 70 #[.val (.int x0), .val (.int x1), .val (.int x2), .val (.int (0 : Int32)), .val (.int (0 : Int32)), .val (.int (x0 &&& (3 : Int32))), .val (.ref u_OR), .unset] []))
          refine go (fun tg kg => XS.iloadN X7.here hx rfl (hb hby at_70) rfl kg) ?_
          show G (T7.setTop (mkF m 71 #[.val (.int x0), .val (.int x1), .val (.int x2), .val (.int (0 : Int32)), .val (.int (0 : Int32)), .val (.int (x0 &&& (3 : Int32))), .val (.ref u_OR), .unset] [(.int (0 : Int32))]))
          refine go (fun tg kg => XS.ifNo X7.here hx rfl (hb hby at_71) rfl ((if0 _ _).trans (teq (by decide)).2) kg) ?_
          show G (T7.setTop (mkF m 74 #[.val (.int x0), .val (.int x1), .val (.int x2), .val (.int (0 : Int32)), .val (.int (0 : Int32)), .val (.int (x0 &&& (3 : Int32))), .val (.ref u_OR), .unset] []))
          refine go (fun tg kg => XS.iload X7.here hx rfl (hb hby at_74) rfl kg) ?_
          show G (T7.setTop (mkF m 76 #[.val (.int x0), .val (.int x1), .val (.int x2), .val (.int (0 : Int32)), .val (.int (0 : Int32)), .val (.int (x0 &&& (3 : Int32))), .val (.ref u_OR), .unset] [(.int (0 : Int32))]))
          refine go (fun tg kg => XS.ifYes X7.here hx rfl (pc0 := 76) (pc' := 83) rfl (hb hby at_76) rfl ((if0 _ _).trans (teq (by decide)).1) (by decide) (by decide) kg) ?_
          show G (T7.setTop (mkF m 83 #[.val (.int x0), .val (.int x1), .val (.int x2), .val (.int (0 : Int32)), .val (.int (0 : Int32)), .val (.int (x0 &&& (3 : Int32))), .val (.ref u_OR), .unset] []))
          refine go (fun tg kg => XS.iconst X7.here hx rfl (hb hby at_83) kg) ?_
          show G (T7.setTop (mkF m 84 #[.val (.int x0), .val (.int x1), .val (.int x2), .val (.int (0 : Int32)), .val (.int (0 : Int32)), .val (.int (x0 &&& (3 : Int32))), .val (.ref u_OR), .unset] [(.int (0 : Int32))]))
          refine go (fun tg kg => XS.istore X7.here hx rfl (hb hby at_84) rfl (l' := #[.val (.int x0), .val (.int x1), .val (.int x2), .val (.int (0 : Int32)), .val (.int (0 : Int32)), .val (.int (x0 &&& (3 : Int32))), .val (.ref u_OR), .val (.int (0 : Int32))]) rfl kg) ?_
          show G (T7.setTop (mkF m 86 #[.val (.int x0), .val (.int x1), .val (.int x2), .val (.int (0 : Int32)), .val (.int (0 : Int32)), .val (.int (x0 &&& (3 : Int32))), .val (.ref u_OR), .val (.int (0 : Int32))] []))
          refine go (fun tg kg => XS.goto X7.here hx rfl (pc0 := 86) (pc' := 137) rfl (hb hby at_86) (by decide) (by decide) kg) ?_
          show G (T7.setTop (mkF m 137 #[.val (.int x0), .val (.int x1), .val (.int x2), .val (.int (0 : Int32)), .val (.int (0 : Int32)), .val (.int (x0 &&& (3 : Int32))), .val (.ref u_OR), .val (.int (0 : Int32))] []))
          refine go (fun tg kg => XS.aload X7.here hx rfl (hb hby at_137) rfl rfl kg) ?_
          show G (T7.setTop (mkF m 139 #[.val (.int x0), .val (.int x1), .val (.int x2), .val (.int (0 : Int32)), .val (.int (0 : Int32)), .val (.int (x0 &&& (3 : Int32))), .val (.ref u_OR), .val (.int (0 : Int32))] [(.ref u_OR)]))
          refine go (fun tg kg => XS.iloadN X7.here hx rfl (hb hby at_139) rfl kg) ?_
          show G (T7.setTop (mkF m 140 #[.val (.int x0), .val (.int x1), .val (.int x2), .val (.int (0 : Int32)), .val (.int (0 : Int32)), .val (.int (x0 &&& (3 : Int32))), .val (.ref u_OR), .val (.int (0 : Int32))] [(.int (0 : Int32)), (.ref u_OR)]))
          refine go (fun tg kg => XS.iload X7.here hx rfl (hb hby at_140) rfl kg) ?_
          show G (T7.setTop (mkF m 142 #[.val (.int x0), .val (.int x1), .val (.int x2), .val (.int (0 : Int32)), .val (.int (0 : Int32)), .val (.int (x0 &&& (3 : Int32))), .val (.ref u_OR), .val (.int (0 : Int32))] [(.int (0 : Int32)), (.int (0 : Int32)), (.ref u_OR)]))
          obtain ⟨cq8, kq8, q8a, q8b, q8c⟩ := isOf hZ e7 E_u_OR
          obtain ⟨_, _, ⟨T8, L8, k8, n8⟩, -, X8, ⟨Lc8, hQ8, l8, y8, z8⟩, st8⟩ := X7.virtualBack hx (y := (⟨"com/example/tightbits/tightbits/SetOperation", "keeps", "(ZZ)Z"⟩ : MethodName)) (z := (⟨"com/example/tightbits/tightbits/SetOperation", "keeps", "(ZZ)Z"⟩ : MethodName)) hown (mvT hZ (hw _ (List.mem_of_getElem? (i := 3) rfl))) (mvT hZ (hw _ (List.mem_of_getElem? (i := 4) rfl))) (notFace_of_selects (args := #[]) (mvT hZ (hw _ (List.mem_of_getElem? (i := 6) rfl)))) (mvT hZ (hw _ (List.mem_of_getElem? (i := 6) rfl))) (mvT hZ (hw _ (List.mem_of_getElem? (i := 5) rfl))) (by decide) (backOf (W := 0) (rm1 l Z a0 hw [] u_OR (0 : Int32) (0 : Int32) (1 : Int32) (1 : Int32) (1 : Int32) h0 n0 Z0 F_u_OR_keepsBoth F_u_OR_keepsFirstOnly F_u_OR_keepsSecondOnly) hZ (hw _ (List.mem_of_getElem? (i := 7) rfl)) (hw _ (List.mem_of_getElem? (i := 1) rfl)) (by decide) (by decide)) q8a q8c (g := (mkF m 142 #[.val (.int x0), .val (.int x1), .val (.int x2), .val (.int (0 : Int32)), .val (.int (0 : Int32)), .val (.int (x0 &&& (3 : Int32))), .val (.ref u_OR), .val (.int (0 : Int32))] [(.int (0 : Int32)), (.int (0 : Int32)), (.ref u_OR)])) rfl (by rw [hml]; rfl) (Steps.refl _) (argsL := [(.int (0 : Int32)), (.int (0 : Int32))]) (rest := []) (lenOf pd__ZZ_Z rfl) rfl (by show 2 * 0 + _ ≤ _; exact Nat.le_of_eq rfl) (hb hby at_142) (fun _ _ => ⟨rfl, e7, (by decide : 0 + 0 ≤ _), (by decide : 0 + 0 ≤ _)⟩)
          dsimp only [Pt.U, Pt.locs, Pt.cells, Pt.slots] at X8 l8 y8 z8 st8 hQ8
          subst l8 y8 z8
          obtain ⟨rfl, Nq8, e8⟩ := hQ8
          have N8 := Fr.app N0 Nq8
          refine go (fun tg kg => st8.trans kg) ?_
          show G (T8.setTop (mkF m 145 #[.val (.int x0), .val (.int x1), .val (.int x2), .val (.int (0 : Int32)), .val (.int (0 : Int32)), .val (.int (x0 &&& (3 : Int32))), .val (.ref u_OR), .val (.int (0 : Int32))] [(.int (own_keeps (0 : Int32) (0 : Int32) (1 : Int32) (1 : Int32) (1 : Int32)))]))
          refine go (fun tg kg => XS.iload X8.here hx rfl (hb hby at_145) rfl kg) ?_
          show G (T8.setTop (mkF m 147 #[.val (.int x0), .val (.int x1), .val (.int x2), .val (.int (0 : Int32)), .val (.int (0 : Int32)), .val (.int (x0 &&& (3 : Int32))), .val (.ref u_OR), .val (.int (0 : Int32))] [(.int (0 : Int32)), (.int (own_keeps (0 : Int32) (0 : Int32) (1 : Int32) (1 : Int32) (1 : Int32)))]))
          refine go (fun tg kg => XS.icmpNo X8.here hx rfl (hb hby at_147) rfl (teq (by decide)).2 kg) ?_
          show G (T8.setTop (mkF m 150 #[.val (.int x0), .val (.int x1), .val (.int x2), .val (.int (0 : Int32)), .val (.int (0 : Int32)), .val (.int (x0 &&& (3 : Int32))), .val (.ref u_OR), .val (.int (0 : Int32))] []))
          refine go (fun tg kg => XS.iconst X8.here hx rfl (hb hby at_150) kg) ?_
          show G (T8.setTop (mkF m 151 #[.val (.int x0), .val (.int x1), .val (.int x2), .val (.int (0 : Int32)), .val (.int (0 : Int32)), .val (.int (x0 &&& (3 : Int32))), .val (.ref u_OR), .val (.int (0 : Int32))] [(.int (1 : Int32))]))
          refine go (fun tg kg => XS.goto X8.here hx rfl (pc0 := 151) (pc' := 155) rfl (hb hby at_151) (by decide) (by decide) kg) ?_
          show G (T8.setTop (mkF m 155 #[.val (.int x0), .val (.int x1), .val (.int x2), .val (.int (0 : Int32)), .val (.int (0 : Int32)), .val (.int (x0 &&& (3 : Int32))), .val (.ref u_OR), .val (.int (0 : Int32))] [(.int (1 : Int32))]))
          refine fin (some (.int (1 : Int32))) X8 (fun h => absurd h (by decide)) (fun fs hr => retN X8 hx (t := .boolean) hret (by simp) (hb hby at_155) hr) (by decide) (by decide) ?_
          rw [e8]
          exact ⟨rfl, N8⟩
        · refine go (fun tg kg => XS.icmpYes X0.here hx rfl (pc0 := 62) (pc' := 89) rfl (hb hby at_62) rfl (feq hc6).2 (by decide) (by decide) kg) ?_
          show G (s₁.setTop (mkF m 89 #[.val (.int x0), .val (.int x1), .val (.int x2), .val (.int (0 : Int32)), .val (.int (0 : Int32)), .val (.int (x0 &&& (3 : Int32))), .unset, .unset] []))
          refine go (fun tg kg => XS.iload X0.here hx rfl (hb hby at_89) rfl kg) ?_
          show G (s₁.setTop (mkF m 91 #[.val (.int x0), .val (.int x1), .val (.int x2), .val (.int (0 : Int32)), .val (.int (0 : Int32)), .val (.int (x0 &&& (3 : Int32))), .unset, .unset] [(.int (x0 &&& (3 : Int32)))]))
          refine go (fun tg kg => XS.iconst X0.here hx rfl (hb hby at_91) kg) ?_
          show G (s₁.setTop (mkF m 92 #[.val (.int x0), .val (.int x1), .val (.int x2), .val (.int (0 : Int32)), .val (.int (0 : Int32)), .val (.int (x0 &&& (3 : Int32))), .unset, .unset] [(.int (2 : Int32)), (.int (x0 &&& (3 : Int32)))]))
          by_cases hc9 : (x0 &&& (3 : Int32)) = (2 : Int32)
          · refine go (fun tg kg => XS.icmpNo X0.here hx rfl (hb hby at_92) rfl (teq hc9).2 kg) ?_
            show G (s₁.setTop (mkF m 95 #[.val (.int x0), .val (.int x1), .val (.int x2), .val (.int (0 : Int32)), .val (.int (0 : Int32)), .val (.int (x0 &&& (3 : Int32))), .unset, .unset] []))
            obtain ⟨T10, X10, e10, st10⟩ := getS2 X0 hx hZ hown (host := "") (Or.inl (hw _ (List.mem_of_getElem? (i := 16) rfl))) Via.refl e0 S_u_XOR (g := (mkF m 95 #[.val (.int x0), .val (.int x1), .val (.int x2), .val (.int (0 : Int32)), .val (.int (0 : Int32)), .val (.int (x0 &&& (3 : Int32))), .unset, .unset] [])) rfl (hb hby at_95)
            refine go st10 ?_
            show G (T10.setTop (mkF m 98 #[.val (.int x0), .val (.int x1), .val (.int x2), .val (.int (0 : Int32)), .val (.int (0 : Int32)), .val (.int (x0 &&& (3 : Int32))), .unset, .unset] [(.ref u_XOR)]))
            refine go (fun tg kg => XS.astore X10.here hx rfl (hb hby at_98) rfl rfl (l' := #[.val (.int x0), .val (.int x1), .val (.int x2), .val (.int (0 : Int32)), .val (.int (0 : Int32)), .val (.int (x0 &&& (3 : Int32))), .val (.ref u_XOR), .unset]) rfl kg) ?_
            show G (T10.setTop (mkF m 100 #[.val (.int x0), .val (.int x1), .val (.int x2), .val (.int (0 : Int32)), .val (.int (0 : Int32)), .val (.int (x0 &&& (3 : Int32))), .val (.ref u_XOR), .unset] []))
            refine go (fun tg kg => XS.iloadN X10.here hx rfl (hb hby at_100) rfl kg) ?_
            show G (T10.setTop (mkF m 101 #[.val (.int x0), .val (.int x1), .val (.int x2), .val (.int (0 : Int32)), .val (.int (0 : Int32)), .val (.int (x0 &&& (3 : Int32))), .val (.ref u_XOR), .unset] [(.int (0 : Int32))]))
            refine go (fun tg kg => XS.iload X10.here hx rfl (hb hby at_101) rfl kg) ?_
            show G (T10.setTop (mkF m 103 #[.val (.int x0), .val (.int x1), .val (.int x2), .val (.int (0 : Int32)), .val (.int (0 : Int32)), .val (.int (x0 &&& (3 : Int32))), .val (.ref u_XOR), .unset] [(.int (0 : Int32)), (.int (0 : Int32))]))
            refine go (fun tg kg => XS.icmpYes X10.here hx rfl (pc0 := 103) (pc' := 110) rfl (hb hby at_103) rfl (teq (by decide)).1 (by decide) (by decide) kg) ?_
            show G (T10.setTop (mkF m 110 #[.val (.int x0), .val (.int x1), .val (.int x2), .val (.int (0 : Int32)), .val (.int (0 : Int32)), .val (.int (x0 &&& (3 : Int32))), .val (.ref u_XOR), .unset] []))
            refine go (fun tg kg => XS.iconst X10.here hx rfl (hb hby at_110) kg) ?_
            show G (T10.setTop (mkF m 111 #[.val (.int x0), .val (.int x1), .val (.int x2), .val (.int (0 : Int32)), .val (.int (0 : Int32)), .val (.int (x0 &&& (3 : Int32))), .val (.ref u_XOR), .unset] [(.int (0 : Int32))]))
            refine go (fun tg kg => XS.istore X10.here hx rfl (hb hby at_111) rfl (l' := #[.val (.int x0), .val (.int x1), .val (.int x2), .val (.int (0 : Int32)), .val (.int (0 : Int32)), .val (.int (x0 &&& (3 : Int32))), .val (.ref u_XOR), .val (.int (0 : Int32))]) rfl kg) ?_
            show G (T10.setTop (mkF m 113 #[.val (.int x0), .val (.int x1), .val (.int x2), .val (.int (0 : Int32)), .val (.int (0 : Int32)), .val (.int (x0 &&& (3 : Int32))), .val (.ref u_XOR), .val (.int (0 : Int32))] []))
            refine go (fun tg kg => XS.goto X10.here hx rfl (pc0 := 113) (pc' := 137) rfl (hb hby at_113) (by decide) (by decide) kg) ?_
            show G (T10.setTop (mkF m 137 #[.val (.int x0), .val (.int x1), .val (.int x2), .val (.int (0 : Int32)), .val (.int (0 : Int32)), .val (.int (x0 &&& (3 : Int32))), .val (.ref u_XOR), .val (.int (0 : Int32))] []))
            refine go (fun tg kg => XS.aload X10.here hx rfl (hb hby at_137) rfl rfl kg) ?_
            show G (T10.setTop (mkF m 139 #[.val (.int x0), .val (.int x1), .val (.int x2), .val (.int (0 : Int32)), .val (.int (0 : Int32)), .val (.int (x0 &&& (3 : Int32))), .val (.ref u_XOR), .val (.int (0 : Int32))] [(.ref u_XOR)]))
            refine go (fun tg kg => XS.iloadN X10.here hx rfl (hb hby at_139) rfl kg) ?_
            show G (T10.setTop (mkF m 140 #[.val (.int x0), .val (.int x1), .val (.int x2), .val (.int (0 : Int32)), .val (.int (0 : Int32)), .val (.int (x0 &&& (3 : Int32))), .val (.ref u_XOR), .val (.int (0 : Int32))] [(.int (0 : Int32)), (.ref u_XOR)]))
            refine go (fun tg kg => XS.iload X10.here hx rfl (hb hby at_140) rfl kg) ?_
            show G (T10.setTop (mkF m 142 #[.val (.int x0), .val (.int x1), .val (.int x2), .val (.int (0 : Int32)), .val (.int (0 : Int32)), .val (.int (x0 &&& (3 : Int32))), .val (.ref u_XOR), .val (.int (0 : Int32))] [(.int (0 : Int32)), (.int (0 : Int32)), (.ref u_XOR)]))
            obtain ⟨cq11, kq11, q11a, q11b, q11c⟩ := isOf hZ e10 E_u_XOR
            obtain ⟨_, _, ⟨T11, L11, k11, n11⟩, -, X11, ⟨Lc11, hQ11, l11, y11, z11⟩, st11⟩ := X10.virtualBack hx (y := (⟨"com/example/tightbits/tightbits/SetOperation", "keeps", "(ZZ)Z"⟩ : MethodName)) (z := (⟨"com/example/tightbits/tightbits/SetOperation", "keeps", "(ZZ)Z"⟩ : MethodName)) hown (mvT hZ (hw _ (List.mem_of_getElem? (i := 3) rfl))) (mvT hZ (hw _ (List.mem_of_getElem? (i := 4) rfl))) (notFace_of_selects (args := #[]) (mvT hZ (hw _ (List.mem_of_getElem? (i := 6) rfl)))) (mvT hZ (hw _ (List.mem_of_getElem? (i := 6) rfl))) (mvT hZ (hw _ (List.mem_of_getElem? (i := 5) rfl))) (by decide) (backOf (W := 0) (rm1 l Z a0 hw [] u_XOR (0 : Int32) (0 : Int32) (0 : Int32) (1 : Int32) (1 : Int32) h0 n0 Z0 F_u_XOR_keepsBoth F_u_XOR_keepsFirstOnly F_u_XOR_keepsSecondOnly) hZ (hw _ (List.mem_of_getElem? (i := 7) rfl)) (hw _ (List.mem_of_getElem? (i := 1) rfl)) (by decide) (by decide)) q11a q11c (g := (mkF m 142 #[.val (.int x0), .val (.int x1), .val (.int x2), .val (.int (0 : Int32)), .val (.int (0 : Int32)), .val (.int (x0 &&& (3 : Int32))), .val (.ref u_XOR), .val (.int (0 : Int32))] [(.int (0 : Int32)), (.int (0 : Int32)), (.ref u_XOR)])) rfl (by rw [hml]; rfl) (Steps.refl _) (argsL := [(.int (0 : Int32)), (.int (0 : Int32))]) (rest := []) (lenOf pd__ZZ_Z rfl) rfl (by show 2 * 0 + _ ≤ _; exact Nat.le_of_eq rfl) (hb hby at_142) (fun _ _ => ⟨rfl, e10, (by decide : 0 + 0 ≤ _), (by decide : 0 + 0 ≤ _)⟩)
            dsimp only [Pt.U, Pt.locs, Pt.cells, Pt.slots] at X11 l11 y11 z11 st11 hQ11
            subst l11 y11 z11
            obtain ⟨rfl, Nq11, e11⟩ := hQ11
            have N11 := Fr.app N0 Nq11
            refine go (fun tg kg => st11.trans kg) ?_
            show G (T11.setTop (mkF m 145 #[.val (.int x0), .val (.int x1), .val (.int x2), .val (.int (0 : Int32)), .val (.int (0 : Int32)), .val (.int (x0 &&& (3 : Int32))), .val (.ref u_XOR), .val (.int (0 : Int32))] [(.int (own_keeps (0 : Int32) (0 : Int32) (0 : Int32) (1 : Int32) (1 : Int32)))]))
            refine go (fun tg kg => XS.iload X11.here hx rfl (hb hby at_145) rfl kg) ?_
            show G (T11.setTop (mkF m 147 #[.val (.int x0), .val (.int x1), .val (.int x2), .val (.int (0 : Int32)), .val (.int (0 : Int32)), .val (.int (x0 &&& (3 : Int32))), .val (.ref u_XOR), .val (.int (0 : Int32))] [(.int (0 : Int32)), (.int (own_keeps (0 : Int32) (0 : Int32) (0 : Int32) (1 : Int32) (1 : Int32)))]))
            refine go (fun tg kg => XS.icmpNo X11.here hx rfl (hb hby at_147) rfl (teq (by decide)).2 kg) ?_
            show G (T11.setTop (mkF m 150 #[.val (.int x0), .val (.int x1), .val (.int x2), .val (.int (0 : Int32)), .val (.int (0 : Int32)), .val (.int (x0 &&& (3 : Int32))), .val (.ref u_XOR), .val (.int (0 : Int32))] []))
            refine go (fun tg kg => XS.iconst X11.here hx rfl (hb hby at_150) kg) ?_
            show G (T11.setTop (mkF m 151 #[.val (.int x0), .val (.int x1), .val (.int x2), .val (.int (0 : Int32)), .val (.int (0 : Int32)), .val (.int (x0 &&& (3 : Int32))), .val (.ref u_XOR), .val (.int (0 : Int32))] [(.int (1 : Int32))]))
            refine go (fun tg kg => XS.goto X11.here hx rfl (pc0 := 151) (pc' := 155) rfl (hb hby at_151) (by decide) (by decide) kg) ?_
            show G (T11.setTop (mkF m 155 #[.val (.int x0), .val (.int x1), .val (.int x2), .val (.int (0 : Int32)), .val (.int (0 : Int32)), .val (.int (x0 &&& (3 : Int32))), .val (.ref u_XOR), .val (.int (0 : Int32))] [(.int (1 : Int32))]))
            refine fin (some (.int (1 : Int32))) X11 (fun h => absurd h (by decide)) (fun fs hr => retN X11 hx (t := .boolean) hret (by simp) (hb hby at_155) hr) (by decide) (by decide) ?_
            rw [e11]
            exact ⟨rfl, N11⟩
          · refine go (fun tg kg => XS.icmpYes X0.here hx rfl (pc0 := 92) (pc' := 116) rfl (hb hby at_92) rfl (feq hc9).2 (by decide) (by decide) kg) ?_
            show G (s₁.setTop (mkF m 116 #[.val (.int x0), .val (.int x1), .val (.int x2), .val (.int (0 : Int32)), .val (.int (0 : Int32)), .val (.int (x0 &&& (3 : Int32))), .unset, .unset] []))
            obtain ⟨T12, X12, e12, st12⟩ := getS2 X0 hx hZ hown (host := "") (Or.inl (hw _ (List.mem_of_getElem? (i := 14) rfl))) Via.refl e0 S_u_AND_NOT (g := (mkF m 116 #[.val (.int x0), .val (.int x1), .val (.int x2), .val (.int (0 : Int32)), .val (.int (0 : Int32)), .val (.int (x0 &&& (3 : Int32))), .unset, .unset] [])) rfl (hb hby at_116)
            refine go st12 ?_
            show G (T12.setTop (mkF m 119 #[.val (.int x0), .val (.int x1), .val (.int x2), .val (.int (0 : Int32)), .val (.int (0 : Int32)), .val (.int (x0 &&& (3 : Int32))), .unset, .unset] [(.ref u_AND_NOT)]))
            refine go (fun tg kg => XS.astore X12.here hx rfl (hb hby at_119) rfl rfl (l' := #[.val (.int x0), .val (.int x1), .val (.int x2), .val (.int (0 : Int32)), .val (.int (0 : Int32)), .val (.int (x0 &&& (3 : Int32))), .val (.ref u_AND_NOT), .unset]) rfl kg) ?_
            show G (T12.setTop (mkF m 121 #[.val (.int x0), .val (.int x1), .val (.int x2), .val (.int (0 : Int32)), .val (.int (0 : Int32)), .val (.int (x0 &&& (3 : Int32))), .val (.ref u_AND_NOT), .unset] []))
            refine go (fun tg kg => XS.iloadN X12.here hx rfl (hb hby at_121) rfl kg) ?_
            show G (T12.setTop (mkF m 122 #[.val (.int x0), .val (.int x1), .val (.int x2), .val (.int (0 : Int32)), .val (.int (0 : Int32)), .val (.int (x0 &&& (3 : Int32))), .val (.ref u_AND_NOT), .unset] [(.int (0 : Int32))]))
            refine go (fun tg kg => XS.ifYes X12.here hx rfl (pc0 := 122) (pc' := 134) rfl (hb hby at_122) rfl ((if0 _ _).trans (teq (by decide)).1) (by decide) (by decide) kg) ?_
            show G (T12.setTop (mkF m 134 #[.val (.int x0), .val (.int x1), .val (.int x2), .val (.int (0 : Int32)), .val (.int (0 : Int32)), .val (.int (x0 &&& (3 : Int32))), .val (.ref u_AND_NOT), .unset] []))
            refine go (fun tg kg => XS.iconst X12.here hx rfl (hb hby at_134) kg) ?_
            show G (T12.setTop (mkF m 135 #[.val (.int x0), .val (.int x1), .val (.int x2), .val (.int (0 : Int32)), .val (.int (0 : Int32)), .val (.int (x0 &&& (3 : Int32))), .val (.ref u_AND_NOT), .unset] [(.int (0 : Int32))]))
            refine go (fun tg kg => XS.istore X12.here hx rfl (hb hby at_135) rfl (l' := #[.val (.int x0), .val (.int x1), .val (.int x2), .val (.int (0 : Int32)), .val (.int (0 : Int32)), .val (.int (x0 &&& (3 : Int32))), .val (.ref u_AND_NOT), .val (.int (0 : Int32))]) rfl kg) ?_
            show G (T12.setTop (mkF m 137 #[.val (.int x0), .val (.int x1), .val (.int x2), .val (.int (0 : Int32)), .val (.int (0 : Int32)), .val (.int (x0 &&& (3 : Int32))), .val (.ref u_AND_NOT), .val (.int (0 : Int32))] []))
            refine go (fun tg kg => XS.aload X12.here hx rfl (hb hby at_137) rfl rfl kg) ?_
            show G (T12.setTop (mkF m 139 #[.val (.int x0), .val (.int x1), .val (.int x2), .val (.int (0 : Int32)), .val (.int (0 : Int32)), .val (.int (x0 &&& (3 : Int32))), .val (.ref u_AND_NOT), .val (.int (0 : Int32))] [(.ref u_AND_NOT)]))
            refine go (fun tg kg => XS.iloadN X12.here hx rfl (hb hby at_139) rfl kg) ?_
            show G (T12.setTop (mkF m 140 #[.val (.int x0), .val (.int x1), .val (.int x2), .val (.int (0 : Int32)), .val (.int (0 : Int32)), .val (.int (x0 &&& (3 : Int32))), .val (.ref u_AND_NOT), .val (.int (0 : Int32))] [(.int (0 : Int32)), (.ref u_AND_NOT)]))
            refine go (fun tg kg => XS.iload X12.here hx rfl (hb hby at_140) rfl kg) ?_
            show G (T12.setTop (mkF m 142 #[.val (.int x0), .val (.int x1), .val (.int x2), .val (.int (0 : Int32)), .val (.int (0 : Int32)), .val (.int (x0 &&& (3 : Int32))), .val (.ref u_AND_NOT), .val (.int (0 : Int32))] [(.int (0 : Int32)), (.int (0 : Int32)), (.ref u_AND_NOT)]))
            obtain ⟨cq13, kq13, q13a, q13b, q13c⟩ := isOf hZ e12 E_u_AND_NOT
            obtain ⟨_, _, ⟨T13, L13, k13, n13⟩, -, X13, ⟨Lc13, hQ13, l13, y13, z13⟩, st13⟩ := X12.virtualBack hx (y := (⟨"com/example/tightbits/tightbits/SetOperation", "keeps", "(ZZ)Z"⟩ : MethodName)) (z := (⟨"com/example/tightbits/tightbits/SetOperation", "keeps", "(ZZ)Z"⟩ : MethodName)) hown (mvT hZ (hw _ (List.mem_of_getElem? (i := 3) rfl))) (mvT hZ (hw _ (List.mem_of_getElem? (i := 4) rfl))) (notFace_of_selects (args := #[]) (mvT hZ (hw _ (List.mem_of_getElem? (i := 6) rfl)))) (mvT hZ (hw _ (List.mem_of_getElem? (i := 6) rfl))) (mvT hZ (hw _ (List.mem_of_getElem? (i := 5) rfl))) (by decide) (backOf (W := 0) (rm1 l Z a0 hw [] u_AND_NOT (0 : Int32) (0 : Int32) (0 : Int32) (1 : Int32) (0 : Int32) h0 n0 Z0 F_u_AND_NOT_keepsBoth F_u_AND_NOT_keepsFirstOnly F_u_AND_NOT_keepsSecondOnly) hZ (hw _ (List.mem_of_getElem? (i := 7) rfl)) (hw _ (List.mem_of_getElem? (i := 1) rfl)) (by decide) (by decide)) q13a q13c (g := (mkF m 142 #[.val (.int x0), .val (.int x1), .val (.int x2), .val (.int (0 : Int32)), .val (.int (0 : Int32)), .val (.int (x0 &&& (3 : Int32))), .val (.ref u_AND_NOT), .val (.int (0 : Int32))] [(.int (0 : Int32)), (.int (0 : Int32)), (.ref u_AND_NOT)])) rfl (by rw [hml]; rfl) (Steps.refl _) (argsL := [(.int (0 : Int32)), (.int (0 : Int32))]) (rest := []) (lenOf pd__ZZ_Z rfl) rfl (by show 2 * 0 + _ ≤ _; exact Nat.le_of_eq rfl) (hb hby at_142) (fun _ _ => ⟨rfl, e12, (by decide : 0 + 0 ≤ _), (by decide : 0 + 0 ≤ _)⟩)
            dsimp only [Pt.U, Pt.locs, Pt.cells, Pt.slots] at X13 l13 y13 z13 st13 hQ13
            subst l13 y13 z13
            obtain ⟨rfl, Nq13, e13⟩ := hQ13
            have N13 := Fr.app N0 Nq13
            refine go (fun tg kg => st13.trans kg) ?_
            show G (T13.setTop (mkF m 145 #[.val (.int x0), .val (.int x1), .val (.int x2), .val (.int (0 : Int32)), .val (.int (0 : Int32)), .val (.int (x0 &&& (3 : Int32))), .val (.ref u_AND_NOT), .val (.int (0 : Int32))] [(.int (own_keeps (0 : Int32) (0 : Int32) (0 : Int32) (1 : Int32) (0 : Int32)))]))
            refine go (fun tg kg => XS.iload X13.here hx rfl (hb hby at_145) rfl kg) ?_
            show G (T13.setTop (mkF m 147 #[.val (.int x0), .val (.int x1), .val (.int x2), .val (.int (0 : Int32)), .val (.int (0 : Int32)), .val (.int (x0 &&& (3 : Int32))), .val (.ref u_AND_NOT), .val (.int (0 : Int32))] [(.int (0 : Int32)), (.int (own_keeps (0 : Int32) (0 : Int32) (0 : Int32) (1 : Int32) (0 : Int32)))]))
            refine go (fun tg kg => XS.icmpNo X13.here hx rfl (hb hby at_147) rfl (teq (by decide)).2 kg) ?_
            show G (T13.setTop (mkF m 150 #[.val (.int x0), .val (.int x1), .val (.int x2), .val (.int (0 : Int32)), .val (.int (0 : Int32)), .val (.int (x0 &&& (3 : Int32))), .val (.ref u_AND_NOT), .val (.int (0 : Int32))] []))
            refine go (fun tg kg => XS.iconst X13.here hx rfl (hb hby at_150) kg) ?_
            show G (T13.setTop (mkF m 151 #[.val (.int x0), .val (.int x1), .val (.int x2), .val (.int (0 : Int32)), .val (.int (0 : Int32)), .val (.int (x0 &&& (3 : Int32))), .val (.ref u_AND_NOT), .val (.int (0 : Int32))] [(.int (1 : Int32))]))
            refine go (fun tg kg => XS.goto X13.here hx rfl (pc0 := 151) (pc' := 155) rfl (hb hby at_151) (by decide) (by decide) kg) ?_
            show G (T13.setTop (mkF m 155 #[.val (.int x0), .val (.int x1), .val (.int x2), .val (.int (0 : Int32)), .val (.int (0 : Int32)), .val (.int (x0 &&& (3 : Int32))), .val (.ref u_AND_NOT), .val (.int (0 : Int32))] [(.int (1 : Int32))]))
            refine fin (some (.int (1 : Int32))) X13 (fun h => absurd h (by decide)) (fun fs hr => retN X13 hx (t := .boolean) hret (by simp) (hb hby at_155) hr) (by decide) (by decide) ?_
            rw [e13]
            exact ⟨rfl, N13⟩
    · refine go (fun tg kg => XS.ifNo X0.here hx rfl (hb hby at_15) rfl ((if0 _ _).trans (feq hc2).1) kg) ?_
      show G (s₁.setTop (mkF m 18 #[.val (.int x0), .val (.int x1), .val (.int x2), .val (.int (0 : Int32)), .unset, .unset, .unset, .unset] []))
      refine go (fun tg kg => XS.iconst X0.here hx rfl (hb hby at_18) kg) ?_
      show G (s₁.setTop (mkF m 19 #[.val (.int x0), .val (.int x1), .val (.int x2), .val (.int (0 : Int32)), .unset, .unset, .unset, .unset] [(.int (1 : Int32))]))
      refine go (fun tg kg => XS.goto X0.here hx rfl (pc0 := 19) (pc' := 23) rfl (hb hby at_19) (by decide) (by decide) kg) ?_
      show G (s₁.setTop (mkF m 23 #[.val (.int x0), .val (.int x1), .val (.int x2), .val (.int (0 : Int32)), .unset, .unset, .unset, .unset] [(.int (1 : Int32))]))
      refine go (fun tg kg => XS.istore X0.here hx rfl (hb hby at_23) rfl (l' := #[.val (.int x0), .val (.int x1), .val (.int x2), .val (.int (0 : Int32)), .val (.int (1 : Int32)), .unset, .unset, .unset]) rfl kg) ?_
      show G (s₁.setTop (mkF m 25 #[.val (.int x0), .val (.int x1), .val (.int x2), .val (.int (0 : Int32)), .val (.int (1 : Int32)), .unset, .unset, .unset] []))
      refine go (fun tg kg => XS.iloadN X0.here hx rfl (hb hby at_25) rfl kg) ?_
      show G (s₁.setTop (mkF m 26 #[.val (.int x0), .val (.int x1), .val (.int x2), .val (.int (0 : Int32)), .val (.int (1 : Int32)), .unset, .unset, .unset] [(.int x0)]))
      refine go (fun tg kg => XS.iconst X0.here hx rfl (hb hby at_26) kg) ?_
      show G (s₁.setTop (mkF m 27 #[.val (.int x0), .val (.int x1), .val (.int x2), .val (.int (0 : Int32)), .val (.int (1 : Int32)), .unset, .unset, .unset] [(.int (3 : Int32)), (.int x0)]))
      refine go (fun tg kg => XS.iand X0.here hx rfl (hb hby at_27) rfl kg) ?_
      show G (s₁.setTop (mkF m 28 #[.val (.int x0), .val (.int x1), .val (.int x2), .val (.int (0 : Int32)), .val (.int (1 : Int32)), .unset, .unset, .unset] [(.int (x0 &&& (3 : Int32)))]))
      refine go (fun tg kg => XS.istore X0.here hx rfl (hb hby at_28) rfl (l' := #[.val (.int x0), .val (.int x1), .val (.int x2), .val (.int (0 : Int32)), .val (.int (1 : Int32)), .val (.int (x0 &&& (3 : Int32))), .unset, .unset]) rfl kg) ?_
      show G (s₁.setTop (mkF m 30 #[.val (.int x0), .val (.int x1), .val (.int x2), .val (.int (0 : Int32)), .val (.int (1 : Int32)), .val (.int (x0 &&& (3 : Int32))), .unset, .unset] []))
      refine go (fun tg kg => XS.iload X0.here hx rfl (hb hby at_30) rfl kg) ?_
      show G (s₁.setTop (mkF m 32 #[.val (.int x0), .val (.int x1), .val (.int x2), .val (.int (0 : Int32)), .val (.int (1 : Int32)), .val (.int (x0 &&& (3 : Int32))), .unset, .unset] [(.int (x0 &&& (3 : Int32)))]))
      by_cases hc14 : (x0 &&& (3 : Int32)) = (0 : Int32)
      · refine go (fun tg kg => XS.ifNo X0.here hx rfl (hb hby at_32) rfl ((if0 _ _).trans (teq hc14).2) kg) ?_
        show G (s₁.setTop (mkF m 35 #[.val (.int x0), .val (.int x1), .val (.int x2), .val (.int (0 : Int32)), .val (.int (1 : Int32)), .val (.int (x0 &&& (3 : Int32))), .unset, .unset] []))
        obtain ⟨T15, X15, e15, st15⟩ := getS2 X0 hx hZ hown (host := "") (Or.inl (hw _ (List.mem_of_getElem? (i := 0) rfl))) Via.refl e0 S_u_AND (g := (mkF m 35 #[.val (.int x0), .val (.int x1), .val (.int x2), .val (.int (0 : Int32)), .val (.int (1 : Int32)), .val (.int (x0 &&& (3 : Int32))), .unset, .unset] [])) rfl (hb hby at_35)
        refine go st15 ?_
        show G (T15.setTop (mkF m 38 #[.val (.int x0), .val (.int x1), .val (.int x2), .val (.int (0 : Int32)), .val (.int (1 : Int32)), .val (.int (x0 &&& (3 : Int32))), .unset, .unset] [(.ref u_AND)]))
        refine go (fun tg kg => XS.astore X15.here hx rfl (hb hby at_38) rfl rfl (l' := #[.val (.int x0), .val (.int x1), .val (.int x2), .val (.int (0 : Int32)), .val (.int (1 : Int32)), .val (.int (x0 &&& (3 : Int32))), .val (.ref u_AND), .unset]) rfl kg) ?_
        show G (T15.setTop (mkF m 40 #[.val (.int x0), .val (.int x1), .val (.int x2), .val (.int (0 : Int32)), .val (.int (1 : Int32)), .val (.int (x0 &&& (3 : Int32))), .val (.ref u_AND), .unset] []))
        refine go (fun tg kg => XS.iloadN X15.here hx rfl (hb hby at_40) rfl kg) ?_
        show G (T15.setTop (mkF m 41 #[.val (.int x0), .val (.int x1), .val (.int x2), .val (.int (0 : Int32)), .val (.int (1 : Int32)), .val (.int (x0 &&& (3 : Int32))), .val (.ref u_AND), .unset] [(.int (0 : Int32))]))
        refine go (fun tg kg => XS.ifYes X15.here hx rfl (pc0 := 41) (pc' := 53) rfl (hb hby at_41) rfl ((if0 _ _).trans (teq (by decide)).1) (by decide) (by decide) kg) ?_
        show G (T15.setTop (mkF m 53 #[.val (.int x0), .val (.int x1), .val (.int x2), .val (.int (0 : Int32)), .val (.int (1 : Int32)), .val (.int (x0 &&& (3 : Int32))), .val (.ref u_AND), .unset] []))
        refine go (fun tg kg => XS.iconst X15.here hx rfl (hb hby at_53) kg) ?_
        show G (T15.setTop (mkF m 54 #[.val (.int x0), .val (.int x1), .val (.int x2), .val (.int (0 : Int32)), .val (.int (1 : Int32)), .val (.int (x0 &&& (3 : Int32))), .val (.ref u_AND), .unset] [(.int (0 : Int32))]))
        refine go (fun tg kg => XS.istore X15.here hx rfl (hb hby at_54) rfl (l' := #[.val (.int x0), .val (.int x1), .val (.int x2), .val (.int (0 : Int32)), .val (.int (1 : Int32)), .val (.int (x0 &&& (3 : Int32))), .val (.ref u_AND), .val (.int (0 : Int32))]) rfl kg) ?_
        show G (T15.setTop (mkF m 56 #[.val (.int x0), .val (.int x1), .val (.int x2), .val (.int (0 : Int32)), .val (.int (1 : Int32)), .val (.int (x0 &&& (3 : Int32))), .val (.ref u_AND), .val (.int (0 : Int32))] []))
        refine go (fun tg kg => XS.goto X15.here hx rfl (pc0 := 56) (pc' := 137) rfl (hb hby at_56) (by decide) (by decide) kg) ?_
        show G (T15.setTop (mkF m 137 #[.val (.int x0), .val (.int x1), .val (.int x2), .val (.int (0 : Int32)), .val (.int (1 : Int32)), .val (.int (x0 &&& (3 : Int32))), .val (.ref u_AND), .val (.int (0 : Int32))] []))
        refine go (fun tg kg => XS.aload X15.here hx rfl (hb hby at_137) rfl rfl kg) ?_
        show G (T15.setTop (mkF m 139 #[.val (.int x0), .val (.int x1), .val (.int x2), .val (.int (0 : Int32)), .val (.int (1 : Int32)), .val (.int (x0 &&& (3 : Int32))), .val (.ref u_AND), .val (.int (0 : Int32))] [(.ref u_AND)]))
        refine go (fun tg kg => XS.iloadN X15.here hx rfl (hb hby at_139) rfl kg) ?_
        show G (T15.setTop (mkF m 140 #[.val (.int x0), .val (.int x1), .val (.int x2), .val (.int (0 : Int32)), .val (.int (1 : Int32)), .val (.int (x0 &&& (3 : Int32))), .val (.ref u_AND), .val (.int (0 : Int32))] [(.int (0 : Int32)), (.ref u_AND)]))
        refine go (fun tg kg => XS.iload X15.here hx rfl (hb hby at_140) rfl kg) ?_
        show G (T15.setTop (mkF m 142 #[.val (.int x0), .val (.int x1), .val (.int x2), .val (.int (0 : Int32)), .val (.int (1 : Int32)), .val (.int (x0 &&& (3 : Int32))), .val (.ref u_AND), .val (.int (0 : Int32))] [(.int (1 : Int32)), (.int (0 : Int32)), (.ref u_AND)]))
        obtain ⟨cq16, kq16, q16a, q16b, q16c⟩ := isOf hZ e15 E_u_AND
        obtain ⟨_, _, ⟨T16, L16, k16, n16⟩, -, X16, ⟨Lc16, hQ16, l16, y16, z16⟩, st16⟩ := X15.virtualBack hx (y := (⟨"com/example/tightbits/tightbits/SetOperation", "keeps", "(ZZ)Z"⟩ : MethodName)) (z := (⟨"com/example/tightbits/tightbits/SetOperation", "keeps", "(ZZ)Z"⟩ : MethodName)) hown (mvT hZ (hw _ (List.mem_of_getElem? (i := 3) rfl))) (mvT hZ (hw _ (List.mem_of_getElem? (i := 4) rfl))) (notFace_of_selects (args := #[]) (mvT hZ (hw _ (List.mem_of_getElem? (i := 6) rfl)))) (mvT hZ (hw _ (List.mem_of_getElem? (i := 6) rfl))) (mvT hZ (hw _ (List.mem_of_getElem? (i := 5) rfl))) (by decide) (backOf (W := 0) (rm1 l Z a0 hw [] u_AND (0 : Int32) (1 : Int32) (1 : Int32) (0 : Int32) (0 : Int32) h0 n0 Z0 F_u_AND_keepsBoth F_u_AND_keepsFirstOnly F_u_AND_keepsSecondOnly) hZ (hw _ (List.mem_of_getElem? (i := 7) rfl)) (hw _ (List.mem_of_getElem? (i := 1) rfl)) (by decide) (by decide)) q16a q16c (g := (mkF m 142 #[.val (.int x0), .val (.int x1), .val (.int x2), .val (.int (0 : Int32)), .val (.int (1 : Int32)), .val (.int (x0 &&& (3 : Int32))), .val (.ref u_AND), .val (.int (0 : Int32))] [(.int (1 : Int32)), (.int (0 : Int32)), (.ref u_AND)])) rfl (by rw [hml]; rfl) (Steps.refl _) (argsL := [(.int (0 : Int32)), (.int (1 : Int32))]) (rest := []) (lenOf pd__ZZ_Z rfl) rfl (by show 2 * 0 + _ ≤ _; exact Nat.le_of_eq rfl) (hb hby at_142) (fun _ _ => ⟨rfl, e15, (by decide : 0 + 0 ≤ _), (by decide : 0 + 0 ≤ _)⟩)
        dsimp only [Pt.U, Pt.locs, Pt.cells, Pt.slots] at X16 l16 y16 z16 st16 hQ16
        subst l16 y16 z16
        obtain ⟨rfl, Nq16, e16⟩ := hQ16
        have N16 := Fr.app N0 Nq16
        refine go (fun tg kg => st16.trans kg) ?_
        show G (T16.setTop (mkF m 145 #[.val (.int x0), .val (.int x1), .val (.int x2), .val (.int (0 : Int32)), .val (.int (1 : Int32)), .val (.int (x0 &&& (3 : Int32))), .val (.ref u_AND), .val (.int (0 : Int32))] [(.int (own_keeps (0 : Int32) (1 : Int32) (1 : Int32) (0 : Int32) (0 : Int32)))]))
        refine go (fun tg kg => XS.iload X16.here hx rfl (hb hby at_145) rfl kg) ?_
        show G (T16.setTop (mkF m 147 #[.val (.int x0), .val (.int x1), .val (.int x2), .val (.int (0 : Int32)), .val (.int (1 : Int32)), .val (.int (x0 &&& (3 : Int32))), .val (.ref u_AND), .val (.int (0 : Int32))] [(.int (0 : Int32)), (.int (own_keeps (0 : Int32) (1 : Int32) (1 : Int32) (0 : Int32) (0 : Int32)))]))
        refine go (fun tg kg => XS.icmpNo X16.here hx rfl (hb hby at_147) rfl (teq (by decide)).2 kg) ?_
        show G (T16.setTop (mkF m 150 #[.val (.int x0), .val (.int x1), .val (.int x2), .val (.int (0 : Int32)), .val (.int (1 : Int32)), .val (.int (x0 &&& (3 : Int32))), .val (.ref u_AND), .val (.int (0 : Int32))] []))
        refine go (fun tg kg => XS.iconst X16.here hx rfl (hb hby at_150) kg) ?_
        show G (T16.setTop (mkF m 151 #[.val (.int x0), .val (.int x1), .val (.int x2), .val (.int (0 : Int32)), .val (.int (1 : Int32)), .val (.int (x0 &&& (3 : Int32))), .val (.ref u_AND), .val (.int (0 : Int32))] [(.int (1 : Int32))]))
        refine go (fun tg kg => XS.goto X16.here hx rfl (pc0 := 151) (pc' := 155) rfl (hb hby at_151) (by decide) (by decide) kg) ?_
        show G (T16.setTop (mkF m 155 #[.val (.int x0), .val (.int x1), .val (.int x2), .val (.int (0 : Int32)), .val (.int (1 : Int32)), .val (.int (x0 &&& (3 : Int32))), .val (.ref u_AND), .val (.int (0 : Int32))] [(.int (1 : Int32))]))
        refine fin (some (.int (1 : Int32))) X16 (fun h => absurd h (by decide)) (fun fs hr => retN X16 hx (t := .boolean) hret (by simp) (hb hby at_155) hr) (by decide) (by decide) ?_
        rw [e16]
        exact ⟨rfl, N16⟩
      · refine go (fun tg kg => XS.ifYes X0.here hx rfl (pc0 := 32) (pc' := 59) rfl (hb hby at_32) rfl ((if0 _ _).trans (feq hc14).2) (by decide) (by decide) kg) ?_
        show G (s₁.setTop (mkF m 59 #[.val (.int x0), .val (.int x1), .val (.int x2), .val (.int (0 : Int32)), .val (.int (1 : Int32)), .val (.int (x0 &&& (3 : Int32))), .unset, .unset] []))
        refine go (fun tg kg => XS.iload X0.here hx rfl (hb hby at_59) rfl kg) ?_
        show G (s₁.setTop (mkF m 61 #[.val (.int x0), .val (.int x1), .val (.int x2), .val (.int (0 : Int32)), .val (.int (1 : Int32)), .val (.int (x0 &&& (3 : Int32))), .unset, .unset] [(.int (x0 &&& (3 : Int32)))]))
        refine go (fun tg kg => XS.iconst X0.here hx rfl (hb hby at_61) kg) ?_
        show G (s₁.setTop (mkF m 62 #[.val (.int x0), .val (.int x1), .val (.int x2), .val (.int (0 : Int32)), .val (.int (1 : Int32)), .val (.int (x0 &&& (3 : Int32))), .unset, .unset] [(.int (1 : Int32)), (.int (x0 &&& (3 : Int32)))]))
        by_cases hc17 : (x0 &&& (3 : Int32)) = (1 : Int32)
        · refine go (fun tg kg => XS.icmpNo X0.here hx rfl (hb hby at_62) rfl (teq hc17).2 kg) ?_
          show G (s₁.setTop (mkF m 65 #[.val (.int x0), .val (.int x1), .val (.int x2), .val (.int (0 : Int32)), .val (.int (1 : Int32)), .val (.int (x0 &&& (3 : Int32))), .unset, .unset] []))
          obtain ⟨T18, X18, e18, st18⟩ := getS2 X0 hx hZ hown (host := "") (Or.inl (hw _ (List.mem_of_getElem? (i := 10) rfl))) Via.refl e0 S_u_OR (g := (mkF m 65 #[.val (.int x0), .val (.int x1), .val (.int x2), .val (.int (0 : Int32)), .val (.int (1 : Int32)), .val (.int (x0 &&& (3 : Int32))), .unset, .unset] [])) rfl (hb hby at_65)
          refine go st18 ?_
          show G (T18.setTop (mkF m 68 #[.val (.int x0), .val (.int x1), .val (.int x2), .val (.int (0 : Int32)), .val (.int (1 : Int32)), .val (.int (x0 &&& (3 : Int32))), .unset, .unset] [(.ref u_OR)]))
          refine go (fun tg kg => XS.astore X18.here hx rfl (hb hby at_68) rfl rfl (l' := #[.val (.int x0), .val (.int x1), .val (.int x2), .val (.int (0 : Int32)), .val (.int (1 : Int32)), .val (.int (x0 &&& (3 : Int32))), .val (.ref u_OR), .unset]) rfl kg) ?_
          show G (T18.setTop (mkF m 70 #[.val (.int x0), .val (.int x1), .val (.int x2), .val (.int (0 : Int32)), .val (.int (1 : Int32)), .val (.int (x0 &&& (3 : Int32))), .val (.ref u_OR), .unset] []))
          refine go (fun tg kg => XS.iloadN X18.here hx rfl (hb hby at_70) rfl kg) ?_
          show G (T18.setTop (mkF m 71 #[.val (.int x0), .val (.int x1), .val (.int x2), .val (.int (0 : Int32)), .val (.int (1 : Int32)), .val (.int (x0 &&& (3 : Int32))), .val (.ref u_OR), .unset] [(.int (0 : Int32))]))
          refine go (fun tg kg => XS.ifNo X18.here hx rfl (hb hby at_71) rfl ((if0 _ _).trans (teq (by decide)).2) kg) ?_
          show G (T18.setTop (mkF m 74 #[.val (.int x0), .val (.int x1), .val (.int x2), .val (.int (0 : Int32)), .val (.int (1 : Int32)), .val (.int (x0 &&& (3 : Int32))), .val (.ref u_OR), .unset] []))
          refine go (fun tg kg => XS.iload X18.here hx rfl (hb hby at_74) rfl kg) ?_
          show G (T18.setTop (mkF m 76 #[.val (.int x0), .val (.int x1), .val (.int x2), .val (.int (0 : Int32)), .val (.int (1 : Int32)), .val (.int (x0 &&& (3 : Int32))), .val (.ref u_OR), .unset] [(.int (1 : Int32))]))
          refine go (fun tg kg => XS.ifNo X18.here hx rfl (hb hby at_76) rfl ((if0 _ _).trans (feq (by decide)).1) kg) ?_
          show G (T18.setTop (mkF m 79 #[.val (.int x0), .val (.int x1), .val (.int x2), .val (.int (0 : Int32)), .val (.int (1 : Int32)), .val (.int (x0 &&& (3 : Int32))), .val (.ref u_OR), .unset] []))
          refine go (fun tg kg => XS.iconst X18.here hx rfl (hb hby at_79) kg) ?_
          show G (T18.setTop (mkF m 80 #[.val (.int x0), .val (.int x1), .val (.int x2), .val (.int (0 : Int32)), .val (.int (1 : Int32)), .val (.int (x0 &&& (3 : Int32))), .val (.ref u_OR), .unset] [(.int (1 : Int32))]))
          refine go (fun tg kg => XS.goto X18.here hx rfl (pc0 := 80) (pc' := 84) rfl (hb hby at_80) (by decide) (by decide) kg) ?_
          show G (T18.setTop (mkF m 84 #[.val (.int x0), .val (.int x1), .val (.int x2), .val (.int (0 : Int32)), .val (.int (1 : Int32)), .val (.int (x0 &&& (3 : Int32))), .val (.ref u_OR), .unset] [(.int (1 : Int32))]))
          refine go (fun tg kg => XS.istore X18.here hx rfl (hb hby at_84) rfl (l' := #[.val (.int x0), .val (.int x1), .val (.int x2), .val (.int (0 : Int32)), .val (.int (1 : Int32)), .val (.int (x0 &&& (3 : Int32))), .val (.ref u_OR), .val (.int (1 : Int32))]) rfl kg) ?_
          show G (T18.setTop (mkF m 86 #[.val (.int x0), .val (.int x1), .val (.int x2), .val (.int (0 : Int32)), .val (.int (1 : Int32)), .val (.int (x0 &&& (3 : Int32))), .val (.ref u_OR), .val (.int (1 : Int32))] []))
          refine go (fun tg kg => XS.goto X18.here hx rfl (pc0 := 86) (pc' := 137) rfl (hb hby at_86) (by decide) (by decide) kg) ?_
          show G (T18.setTop (mkF m 137 #[.val (.int x0), .val (.int x1), .val (.int x2), .val (.int (0 : Int32)), .val (.int (1 : Int32)), .val (.int (x0 &&& (3 : Int32))), .val (.ref u_OR), .val (.int (1 : Int32))] []))
          refine go (fun tg kg => XS.aload X18.here hx rfl (hb hby at_137) rfl rfl kg) ?_
          show G (T18.setTop (mkF m 139 #[.val (.int x0), .val (.int x1), .val (.int x2), .val (.int (0 : Int32)), .val (.int (1 : Int32)), .val (.int (x0 &&& (3 : Int32))), .val (.ref u_OR), .val (.int (1 : Int32))] [(.ref u_OR)]))
          refine go (fun tg kg => XS.iloadN X18.here hx rfl (hb hby at_139) rfl kg) ?_
          show G (T18.setTop (mkF m 140 #[.val (.int x0), .val (.int x1), .val (.int x2), .val (.int (0 : Int32)), .val (.int (1 : Int32)), .val (.int (x0 &&& (3 : Int32))), .val (.ref u_OR), .val (.int (1 : Int32))] [(.int (0 : Int32)), (.ref u_OR)]))
          refine go (fun tg kg => XS.iload X18.here hx rfl (hb hby at_140) rfl kg) ?_
          show G (T18.setTop (mkF m 142 #[.val (.int x0), .val (.int x1), .val (.int x2), .val (.int (0 : Int32)), .val (.int (1 : Int32)), .val (.int (x0 &&& (3 : Int32))), .val (.ref u_OR), .val (.int (1 : Int32))] [(.int (1 : Int32)), (.int (0 : Int32)), (.ref u_OR)]))
          obtain ⟨cq19, kq19, q19a, q19b, q19c⟩ := isOf hZ e18 E_u_OR
          obtain ⟨_, _, ⟨T19, L19, k19, n19⟩, -, X19, ⟨Lc19, hQ19, l19, y19, z19⟩, st19⟩ := X18.virtualBack hx (y := (⟨"com/example/tightbits/tightbits/SetOperation", "keeps", "(ZZ)Z"⟩ : MethodName)) (z := (⟨"com/example/tightbits/tightbits/SetOperation", "keeps", "(ZZ)Z"⟩ : MethodName)) hown (mvT hZ (hw _ (List.mem_of_getElem? (i := 3) rfl))) (mvT hZ (hw _ (List.mem_of_getElem? (i := 4) rfl))) (notFace_of_selects (args := #[]) (mvT hZ (hw _ (List.mem_of_getElem? (i := 6) rfl)))) (mvT hZ (hw _ (List.mem_of_getElem? (i := 6) rfl))) (mvT hZ (hw _ (List.mem_of_getElem? (i := 5) rfl))) (by decide) (backOf (W := 0) (rm1 l Z a0 hw [] u_OR (0 : Int32) (1 : Int32) (1 : Int32) (1 : Int32) (1 : Int32) h0 n0 Z0 F_u_OR_keepsBoth F_u_OR_keepsFirstOnly F_u_OR_keepsSecondOnly) hZ (hw _ (List.mem_of_getElem? (i := 7) rfl)) (hw _ (List.mem_of_getElem? (i := 1) rfl)) (by decide) (by decide)) q19a q19c (g := (mkF m 142 #[.val (.int x0), .val (.int x1), .val (.int x2), .val (.int (0 : Int32)), .val (.int (1 : Int32)), .val (.int (x0 &&& (3 : Int32))), .val (.ref u_OR), .val (.int (1 : Int32))] [(.int (1 : Int32)), (.int (0 : Int32)), (.ref u_OR)])) rfl (by rw [hml]; rfl) (Steps.refl _) (argsL := [(.int (0 : Int32)), (.int (1 : Int32))]) (rest := []) (lenOf pd__ZZ_Z rfl) rfl (by show 2 * 0 + _ ≤ _; exact Nat.le_of_eq rfl) (hb hby at_142) (fun _ _ => ⟨rfl, e18, (by decide : 0 + 0 ≤ _), (by decide : 0 + 0 ≤ _)⟩)
          dsimp only [Pt.U, Pt.locs, Pt.cells, Pt.slots] at X19 l19 y19 z19 st19 hQ19
          subst l19 y19 z19
          obtain ⟨rfl, Nq19, e19⟩ := hQ19
          have N19 := Fr.app N0 Nq19
          refine go (fun tg kg => st19.trans kg) ?_
          show G (T19.setTop (mkF m 145 #[.val (.int x0), .val (.int x1), .val (.int x2), .val (.int (0 : Int32)), .val (.int (1 : Int32)), .val (.int (x0 &&& (3 : Int32))), .val (.ref u_OR), .val (.int (1 : Int32))] [(.int (own_keeps (0 : Int32) (1 : Int32) (1 : Int32) (1 : Int32) (1 : Int32)))]))
          refine go (fun tg kg => XS.iload X19.here hx rfl (hb hby at_145) rfl kg) ?_
          show G (T19.setTop (mkF m 147 #[.val (.int x0), .val (.int x1), .val (.int x2), .val (.int (0 : Int32)), .val (.int (1 : Int32)), .val (.int (x0 &&& (3 : Int32))), .val (.ref u_OR), .val (.int (1 : Int32))] [(.int (1 : Int32)), (.int (own_keeps (0 : Int32) (1 : Int32) (1 : Int32) (1 : Int32) (1 : Int32)))]))
          refine go (fun tg kg => XS.icmpNo X19.here hx rfl (hb hby at_147) rfl (teq (by decide)).2 kg) ?_
          show G (T19.setTop (mkF m 150 #[.val (.int x0), .val (.int x1), .val (.int x2), .val (.int (0 : Int32)), .val (.int (1 : Int32)), .val (.int (x0 &&& (3 : Int32))), .val (.ref u_OR), .val (.int (1 : Int32))] []))
          refine go (fun tg kg => XS.iconst X19.here hx rfl (hb hby at_150) kg) ?_
          show G (T19.setTop (mkF m 151 #[.val (.int x0), .val (.int x1), .val (.int x2), .val (.int (0 : Int32)), .val (.int (1 : Int32)), .val (.int (x0 &&& (3 : Int32))), .val (.ref u_OR), .val (.int (1 : Int32))] [(.int (1 : Int32))]))
          refine go (fun tg kg => XS.goto X19.here hx rfl (pc0 := 151) (pc' := 155) rfl (hb hby at_151) (by decide) (by decide) kg) ?_
          show G (T19.setTop (mkF m 155 #[.val (.int x0), .val (.int x1), .val (.int x2), .val (.int (0 : Int32)), .val (.int (1 : Int32)), .val (.int (x0 &&& (3 : Int32))), .val (.ref u_OR), .val (.int (1 : Int32))] [(.int (1 : Int32))]))
          refine fin (some (.int (1 : Int32))) X19 (fun h => absurd h (by decide)) (fun fs hr => retN X19 hx (t := .boolean) hret (by simp) (hb hby at_155) hr) (by decide) (by decide) ?_
          rw [e19]
          exact ⟨rfl, N19⟩
        · refine go (fun tg kg => XS.icmpYes X0.here hx rfl (pc0 := 62) (pc' := 89) rfl (hb hby at_62) rfl (feq hc17).2 (by decide) (by decide) kg) ?_
          show G (s₁.setTop (mkF m 89 #[.val (.int x0), .val (.int x1), .val (.int x2), .val (.int (0 : Int32)), .val (.int (1 : Int32)), .val (.int (x0 &&& (3 : Int32))), .unset, .unset] []))
          refine go (fun tg kg => XS.iload X0.here hx rfl (hb hby at_89) rfl kg) ?_
          show G (s₁.setTop (mkF m 91 #[.val (.int x0), .val (.int x1), .val (.int x2), .val (.int (0 : Int32)), .val (.int (1 : Int32)), .val (.int (x0 &&& (3 : Int32))), .unset, .unset] [(.int (x0 &&& (3 : Int32)))]))
          refine go (fun tg kg => XS.iconst X0.here hx rfl (hb hby at_91) kg) ?_
          show G (s₁.setTop (mkF m 92 #[.val (.int x0), .val (.int x1), .val (.int x2), .val (.int (0 : Int32)), .val (.int (1 : Int32)), .val (.int (x0 &&& (3 : Int32))), .unset, .unset] [(.int (2 : Int32)), (.int (x0 &&& (3 : Int32)))]))
          by_cases hc20 : (x0 &&& (3 : Int32)) = (2 : Int32)
          · refine go (fun tg kg => XS.icmpNo X0.here hx rfl (hb hby at_92) rfl (teq hc20).2 kg) ?_
            show G (s₁.setTop (mkF m 95 #[.val (.int x0), .val (.int x1), .val (.int x2), .val (.int (0 : Int32)), .val (.int (1 : Int32)), .val (.int (x0 &&& (3 : Int32))), .unset, .unset] []))
            obtain ⟨T21, X21, e21, st21⟩ := getS2 X0 hx hZ hown (host := "") (Or.inl (hw _ (List.mem_of_getElem? (i := 16) rfl))) Via.refl e0 S_u_XOR (g := (mkF m 95 #[.val (.int x0), .val (.int x1), .val (.int x2), .val (.int (0 : Int32)), .val (.int (1 : Int32)), .val (.int (x0 &&& (3 : Int32))), .unset, .unset] [])) rfl (hb hby at_95)
            refine go st21 ?_
            show G (T21.setTop (mkF m 98 #[.val (.int x0), .val (.int x1), .val (.int x2), .val (.int (0 : Int32)), .val (.int (1 : Int32)), .val (.int (x0 &&& (3 : Int32))), .unset, .unset] [(.ref u_XOR)]))
            refine go (fun tg kg => XS.astore X21.here hx rfl (hb hby at_98) rfl rfl (l' := #[.val (.int x0), .val (.int x1), .val (.int x2), .val (.int (0 : Int32)), .val (.int (1 : Int32)), .val (.int (x0 &&& (3 : Int32))), .val (.ref u_XOR), .unset]) rfl kg) ?_
            show G (T21.setTop (mkF m 100 #[.val (.int x0), .val (.int x1), .val (.int x2), .val (.int (0 : Int32)), .val (.int (1 : Int32)), .val (.int (x0 &&& (3 : Int32))), .val (.ref u_XOR), .unset] []))
            refine go (fun tg kg => XS.iloadN X21.here hx rfl (hb hby at_100) rfl kg) ?_
            show G (T21.setTop (mkF m 101 #[.val (.int x0), .val (.int x1), .val (.int x2), .val (.int (0 : Int32)), .val (.int (1 : Int32)), .val (.int (x0 &&& (3 : Int32))), .val (.ref u_XOR), .unset] [(.int (0 : Int32))]))
            refine go (fun tg kg => XS.iload X21.here hx rfl (hb hby at_101) rfl kg) ?_
            show G (T21.setTop (mkF m 103 #[.val (.int x0), .val (.int x1), .val (.int x2), .val (.int (0 : Int32)), .val (.int (1 : Int32)), .val (.int (x0 &&& (3 : Int32))), .val (.ref u_XOR), .unset] [(.int (1 : Int32)), (.int (0 : Int32))]))
            refine go (fun tg kg => XS.icmpNo X21.here hx rfl (hb hby at_103) rfl (feq (by decide)).1 kg) ?_
            show G (T21.setTop (mkF m 106 #[.val (.int x0), .val (.int x1), .val (.int x2), .val (.int (0 : Int32)), .val (.int (1 : Int32)), .val (.int (x0 &&& (3 : Int32))), .val (.ref u_XOR), .unset] []))
            refine go (fun tg kg => XS.iconst X21.here hx rfl (hb hby at_106) kg) ?_
            show G (T21.setTop (mkF m 107 #[.val (.int x0), .val (.int x1), .val (.int x2), .val (.int (0 : Int32)), .val (.int (1 : Int32)), .val (.int (x0 &&& (3 : Int32))), .val (.ref u_XOR), .unset] [(.int (1 : Int32))]))
            refine go (fun tg kg => XS.goto X21.here hx rfl (pc0 := 107) (pc' := 111) rfl (hb hby at_107) (by decide) (by decide) kg) ?_
            show G (T21.setTop (mkF m 111 #[.val (.int x0), .val (.int x1), .val (.int x2), .val (.int (0 : Int32)), .val (.int (1 : Int32)), .val (.int (x0 &&& (3 : Int32))), .val (.ref u_XOR), .unset] [(.int (1 : Int32))]))
            refine go (fun tg kg => XS.istore X21.here hx rfl (hb hby at_111) rfl (l' := #[.val (.int x0), .val (.int x1), .val (.int x2), .val (.int (0 : Int32)), .val (.int (1 : Int32)), .val (.int (x0 &&& (3 : Int32))), .val (.ref u_XOR), .val (.int (1 : Int32))]) rfl kg) ?_
            show G (T21.setTop (mkF m 113 #[.val (.int x0), .val (.int x1), .val (.int x2), .val (.int (0 : Int32)), .val (.int (1 : Int32)), .val (.int (x0 &&& (3 : Int32))), .val (.ref u_XOR), .val (.int (1 : Int32))] []))
            refine go (fun tg kg => XS.goto X21.here hx rfl (pc0 := 113) (pc' := 137) rfl (hb hby at_113) (by decide) (by decide) kg) ?_
            show G (T21.setTop (mkF m 137 #[.val (.int x0), .val (.int x1), .val (.int x2), .val (.int (0 : Int32)), .val (.int (1 : Int32)), .val (.int (x0 &&& (3 : Int32))), .val (.ref u_XOR), .val (.int (1 : Int32))] []))
            refine go (fun tg kg => XS.aload X21.here hx rfl (hb hby at_137) rfl rfl kg) ?_
            show G (T21.setTop (mkF m 139 #[.val (.int x0), .val (.int x1), .val (.int x2), .val (.int (0 : Int32)), .val (.int (1 : Int32)), .val (.int (x0 &&& (3 : Int32))), .val (.ref u_XOR), .val (.int (1 : Int32))] [(.ref u_XOR)]))
            refine go (fun tg kg => XS.iloadN X21.here hx rfl (hb hby at_139) rfl kg) ?_
            show G (T21.setTop (mkF m 140 #[.val (.int x0), .val (.int x1), .val (.int x2), .val (.int (0 : Int32)), .val (.int (1 : Int32)), .val (.int (x0 &&& (3 : Int32))), .val (.ref u_XOR), .val (.int (1 : Int32))] [(.int (0 : Int32)), (.ref u_XOR)]))
            refine go (fun tg kg => XS.iload X21.here hx rfl (hb hby at_140) rfl kg) ?_
            show G (T21.setTop (mkF m 142 #[.val (.int x0), .val (.int x1), .val (.int x2), .val (.int (0 : Int32)), .val (.int (1 : Int32)), .val (.int (x0 &&& (3 : Int32))), .val (.ref u_XOR), .val (.int (1 : Int32))] [(.int (1 : Int32)), (.int (0 : Int32)), (.ref u_XOR)]))
            obtain ⟨cq22, kq22, q22a, q22b, q22c⟩ := isOf hZ e21 E_u_XOR
            obtain ⟨_, _, ⟨T22, L22, k22, n22⟩, -, X22, ⟨Lc22, hQ22, l22, y22, z22⟩, st22⟩ := X21.virtualBack hx (y := (⟨"com/example/tightbits/tightbits/SetOperation", "keeps", "(ZZ)Z"⟩ : MethodName)) (z := (⟨"com/example/tightbits/tightbits/SetOperation", "keeps", "(ZZ)Z"⟩ : MethodName)) hown (mvT hZ (hw _ (List.mem_of_getElem? (i := 3) rfl))) (mvT hZ (hw _ (List.mem_of_getElem? (i := 4) rfl))) (notFace_of_selects (args := #[]) (mvT hZ (hw _ (List.mem_of_getElem? (i := 6) rfl)))) (mvT hZ (hw _ (List.mem_of_getElem? (i := 6) rfl))) (mvT hZ (hw _ (List.mem_of_getElem? (i := 5) rfl))) (by decide) (backOf (W := 0) (rm1 l Z a0 hw [] u_XOR (0 : Int32) (1 : Int32) (0 : Int32) (1 : Int32) (1 : Int32) h0 n0 Z0 F_u_XOR_keepsBoth F_u_XOR_keepsFirstOnly F_u_XOR_keepsSecondOnly) hZ (hw _ (List.mem_of_getElem? (i := 7) rfl)) (hw _ (List.mem_of_getElem? (i := 1) rfl)) (by decide) (by decide)) q22a q22c (g := (mkF m 142 #[.val (.int x0), .val (.int x1), .val (.int x2), .val (.int (0 : Int32)), .val (.int (1 : Int32)), .val (.int (x0 &&& (3 : Int32))), .val (.ref u_XOR), .val (.int (1 : Int32))] [(.int (1 : Int32)), (.int (0 : Int32)), (.ref u_XOR)])) rfl (by rw [hml]; rfl) (Steps.refl _) (argsL := [(.int (0 : Int32)), (.int (1 : Int32))]) (rest := []) (lenOf pd__ZZ_Z rfl) rfl (by show 2 * 0 + _ ≤ _; exact Nat.le_of_eq rfl) (hb hby at_142) (fun _ _ => ⟨rfl, e21, (by decide : 0 + 0 ≤ _), (by decide : 0 + 0 ≤ _)⟩)
            dsimp only [Pt.U, Pt.locs, Pt.cells, Pt.slots] at X22 l22 y22 z22 st22 hQ22
            subst l22 y22 z22
            obtain ⟨rfl, Nq22, e22⟩ := hQ22
            have N22 := Fr.app N0 Nq22
            refine go (fun tg kg => st22.trans kg) ?_
            show G (T22.setTop (mkF m 145 #[.val (.int x0), .val (.int x1), .val (.int x2), .val (.int (0 : Int32)), .val (.int (1 : Int32)), .val (.int (x0 &&& (3 : Int32))), .val (.ref u_XOR), .val (.int (1 : Int32))] [(.int (own_keeps (0 : Int32) (1 : Int32) (0 : Int32) (1 : Int32) (1 : Int32)))]))
            refine go (fun tg kg => XS.iload X22.here hx rfl (hb hby at_145) rfl kg) ?_
            show G (T22.setTop (mkF m 147 #[.val (.int x0), .val (.int x1), .val (.int x2), .val (.int (0 : Int32)), .val (.int (1 : Int32)), .val (.int (x0 &&& (3 : Int32))), .val (.ref u_XOR), .val (.int (1 : Int32))] [(.int (1 : Int32)), (.int (own_keeps (0 : Int32) (1 : Int32) (0 : Int32) (1 : Int32) (1 : Int32)))]))
            refine go (fun tg kg => XS.icmpNo X22.here hx rfl (hb hby at_147) rfl (teq (by decide)).2 kg) ?_
            show G (T22.setTop (mkF m 150 #[.val (.int x0), .val (.int x1), .val (.int x2), .val (.int (0 : Int32)), .val (.int (1 : Int32)), .val (.int (x0 &&& (3 : Int32))), .val (.ref u_XOR), .val (.int (1 : Int32))] []))
            refine go (fun tg kg => XS.iconst X22.here hx rfl (hb hby at_150) kg) ?_
            show G (T22.setTop (mkF m 151 #[.val (.int x0), .val (.int x1), .val (.int x2), .val (.int (0 : Int32)), .val (.int (1 : Int32)), .val (.int (x0 &&& (3 : Int32))), .val (.ref u_XOR), .val (.int (1 : Int32))] [(.int (1 : Int32))]))
            refine go (fun tg kg => XS.goto X22.here hx rfl (pc0 := 151) (pc' := 155) rfl (hb hby at_151) (by decide) (by decide) kg) ?_
            show G (T22.setTop (mkF m 155 #[.val (.int x0), .val (.int x1), .val (.int x2), .val (.int (0 : Int32)), .val (.int (1 : Int32)), .val (.int (x0 &&& (3 : Int32))), .val (.ref u_XOR), .val (.int (1 : Int32))] [(.int (1 : Int32))]))
            refine fin (some (.int (1 : Int32))) X22 (fun h => absurd h (by decide)) (fun fs hr => retN X22 hx (t := .boolean) hret (by simp) (hb hby at_155) hr) (by decide) (by decide) ?_
            rw [e22]
            exact ⟨rfl, N22⟩
          · refine go (fun tg kg => XS.icmpYes X0.here hx rfl (pc0 := 92) (pc' := 116) rfl (hb hby at_92) rfl (feq hc20).2 (by decide) (by decide) kg) ?_
            show G (s₁.setTop (mkF m 116 #[.val (.int x0), .val (.int x1), .val (.int x2), .val (.int (0 : Int32)), .val (.int (1 : Int32)), .val (.int (x0 &&& (3 : Int32))), .unset, .unset] []))
            obtain ⟨T23, X23, e23, st23⟩ := getS2 X0 hx hZ hown (host := "") (Or.inl (hw _ (List.mem_of_getElem? (i := 14) rfl))) Via.refl e0 S_u_AND_NOT (g := (mkF m 116 #[.val (.int x0), .val (.int x1), .val (.int x2), .val (.int (0 : Int32)), .val (.int (1 : Int32)), .val (.int (x0 &&& (3 : Int32))), .unset, .unset] [])) rfl (hb hby at_116)
            refine go st23 ?_
            show G (T23.setTop (mkF m 119 #[.val (.int x0), .val (.int x1), .val (.int x2), .val (.int (0 : Int32)), .val (.int (1 : Int32)), .val (.int (x0 &&& (3 : Int32))), .unset, .unset] [(.ref u_AND_NOT)]))
            refine go (fun tg kg => XS.astore X23.here hx rfl (hb hby at_119) rfl rfl (l' := #[.val (.int x0), .val (.int x1), .val (.int x2), .val (.int (0 : Int32)), .val (.int (1 : Int32)), .val (.int (x0 &&& (3 : Int32))), .val (.ref u_AND_NOT), .unset]) rfl kg) ?_
            show G (T23.setTop (mkF m 121 #[.val (.int x0), .val (.int x1), .val (.int x2), .val (.int (0 : Int32)), .val (.int (1 : Int32)), .val (.int (x0 &&& (3 : Int32))), .val (.ref u_AND_NOT), .unset] []))
            refine go (fun tg kg => XS.iloadN X23.here hx rfl (hb hby at_121) rfl kg) ?_
            show G (T23.setTop (mkF m 122 #[.val (.int x0), .val (.int x1), .val (.int x2), .val (.int (0 : Int32)), .val (.int (1 : Int32)), .val (.int (x0 &&& (3 : Int32))), .val (.ref u_AND_NOT), .unset] [(.int (0 : Int32))]))
            refine go (fun tg kg => XS.ifYes X23.here hx rfl (pc0 := 122) (pc' := 134) rfl (hb hby at_122) rfl ((if0 _ _).trans (teq (by decide)).1) (by decide) (by decide) kg) ?_
            show G (T23.setTop (mkF m 134 #[.val (.int x0), .val (.int x1), .val (.int x2), .val (.int (0 : Int32)), .val (.int (1 : Int32)), .val (.int (x0 &&& (3 : Int32))), .val (.ref u_AND_NOT), .unset] []))
            refine go (fun tg kg => XS.iconst X23.here hx rfl (hb hby at_134) kg) ?_
            show G (T23.setTop (mkF m 135 #[.val (.int x0), .val (.int x1), .val (.int x2), .val (.int (0 : Int32)), .val (.int (1 : Int32)), .val (.int (x0 &&& (3 : Int32))), .val (.ref u_AND_NOT), .unset] [(.int (0 : Int32))]))
            refine go (fun tg kg => XS.istore X23.here hx rfl (hb hby at_135) rfl (l' := #[.val (.int x0), .val (.int x1), .val (.int x2), .val (.int (0 : Int32)), .val (.int (1 : Int32)), .val (.int (x0 &&& (3 : Int32))), .val (.ref u_AND_NOT), .val (.int (0 : Int32))]) rfl kg) ?_
            show G (T23.setTop (mkF m 137 #[.val (.int x0), .val (.int x1), .val (.int x2), .val (.int (0 : Int32)), .val (.int (1 : Int32)), .val (.int (x0 &&& (3 : Int32))), .val (.ref u_AND_NOT), .val (.int (0 : Int32))] []))
            refine go (fun tg kg => XS.aload X23.here hx rfl (hb hby at_137) rfl rfl kg) ?_
            show G (T23.setTop (mkF m 139 #[.val (.int x0), .val (.int x1), .val (.int x2), .val (.int (0 : Int32)), .val (.int (1 : Int32)), .val (.int (x0 &&& (3 : Int32))), .val (.ref u_AND_NOT), .val (.int (0 : Int32))] [(.ref u_AND_NOT)]))
            refine go (fun tg kg => XS.iloadN X23.here hx rfl (hb hby at_139) rfl kg) ?_
            show G (T23.setTop (mkF m 140 #[.val (.int x0), .val (.int x1), .val (.int x2), .val (.int (0 : Int32)), .val (.int (1 : Int32)), .val (.int (x0 &&& (3 : Int32))), .val (.ref u_AND_NOT), .val (.int (0 : Int32))] [(.int (0 : Int32)), (.ref u_AND_NOT)]))
            refine go (fun tg kg => XS.iload X23.here hx rfl (hb hby at_140) rfl kg) ?_
            show G (T23.setTop (mkF m 142 #[.val (.int x0), .val (.int x1), .val (.int x2), .val (.int (0 : Int32)), .val (.int (1 : Int32)), .val (.int (x0 &&& (3 : Int32))), .val (.ref u_AND_NOT), .val (.int (0 : Int32))] [(.int (1 : Int32)), (.int (0 : Int32)), (.ref u_AND_NOT)]))
            obtain ⟨cq24, kq24, q24a, q24b, q24c⟩ := isOf hZ e23 E_u_AND_NOT
            obtain ⟨_, _, ⟨T24, L24, k24, n24⟩, -, X24, ⟨Lc24, hQ24, l24, y24, z24⟩, st24⟩ := X23.virtualBack hx (y := (⟨"com/example/tightbits/tightbits/SetOperation", "keeps", "(ZZ)Z"⟩ : MethodName)) (z := (⟨"com/example/tightbits/tightbits/SetOperation", "keeps", "(ZZ)Z"⟩ : MethodName)) hown (mvT hZ (hw _ (List.mem_of_getElem? (i := 3) rfl))) (mvT hZ (hw _ (List.mem_of_getElem? (i := 4) rfl))) (notFace_of_selects (args := #[]) (mvT hZ (hw _ (List.mem_of_getElem? (i := 6) rfl)))) (mvT hZ (hw _ (List.mem_of_getElem? (i := 6) rfl))) (mvT hZ (hw _ (List.mem_of_getElem? (i := 5) rfl))) (by decide) (backOf (W := 0) (rm1 l Z a0 hw [] u_AND_NOT (0 : Int32) (1 : Int32) (0 : Int32) (1 : Int32) (0 : Int32) h0 n0 Z0 F_u_AND_NOT_keepsBoth F_u_AND_NOT_keepsFirstOnly F_u_AND_NOT_keepsSecondOnly) hZ (hw _ (List.mem_of_getElem? (i := 7) rfl)) (hw _ (List.mem_of_getElem? (i := 1) rfl)) (by decide) (by decide)) q24a q24c (g := (mkF m 142 #[.val (.int x0), .val (.int x1), .val (.int x2), .val (.int (0 : Int32)), .val (.int (1 : Int32)), .val (.int (x0 &&& (3 : Int32))), .val (.ref u_AND_NOT), .val (.int (0 : Int32))] [(.int (1 : Int32)), (.int (0 : Int32)), (.ref u_AND_NOT)])) rfl (by rw [hml]; rfl) (Steps.refl _) (argsL := [(.int (0 : Int32)), (.int (1 : Int32))]) (rest := []) (lenOf pd__ZZ_Z rfl) rfl (by show 2 * 0 + _ ≤ _; exact Nat.le_of_eq rfl) (hb hby at_142) (fun _ _ => ⟨rfl, e23, (by decide : 0 + 0 ≤ _), (by decide : 0 + 0 ≤ _)⟩)
            dsimp only [Pt.U, Pt.locs, Pt.cells, Pt.slots] at X24 l24 y24 z24 st24 hQ24
            subst l24 y24 z24
            obtain ⟨rfl, Nq24, e24⟩ := hQ24
            have N24 := Fr.app N0 Nq24
            refine go (fun tg kg => st24.trans kg) ?_
            show G (T24.setTop (mkF m 145 #[.val (.int x0), .val (.int x1), .val (.int x2), .val (.int (0 : Int32)), .val (.int (1 : Int32)), .val (.int (x0 &&& (3 : Int32))), .val (.ref u_AND_NOT), .val (.int (0 : Int32))] [(.int (own_keeps (0 : Int32) (1 : Int32) (0 : Int32) (1 : Int32) (0 : Int32)))]))
            refine go (fun tg kg => XS.iload X24.here hx rfl (hb hby at_145) rfl kg) ?_
            show G (T24.setTop (mkF m 147 #[.val (.int x0), .val (.int x1), .val (.int x2), .val (.int (0 : Int32)), .val (.int (1 : Int32)), .val (.int (x0 &&& (3 : Int32))), .val (.ref u_AND_NOT), .val (.int (0 : Int32))] [(.int (0 : Int32)), (.int (own_keeps (0 : Int32) (1 : Int32) (0 : Int32) (1 : Int32) (0 : Int32)))]))
            refine go (fun tg kg => XS.icmpNo X24.here hx rfl (hb hby at_147) rfl (teq (by decide)).2 kg) ?_
            show G (T24.setTop (mkF m 150 #[.val (.int x0), .val (.int x1), .val (.int x2), .val (.int (0 : Int32)), .val (.int (1 : Int32)), .val (.int (x0 &&& (3 : Int32))), .val (.ref u_AND_NOT), .val (.int (0 : Int32))] []))
            refine go (fun tg kg => XS.iconst X24.here hx rfl (hb hby at_150) kg) ?_
            show G (T24.setTop (mkF m 151 #[.val (.int x0), .val (.int x1), .val (.int x2), .val (.int (0 : Int32)), .val (.int (1 : Int32)), .val (.int (x0 &&& (3 : Int32))), .val (.ref u_AND_NOT), .val (.int (0 : Int32))] [(.int (1 : Int32))]))
            refine go (fun tg kg => XS.goto X24.here hx rfl (pc0 := 151) (pc' := 155) rfl (hb hby at_151) (by decide) (by decide) kg) ?_
            show G (T24.setTop (mkF m 155 #[.val (.int x0), .val (.int x1), .val (.int x2), .val (.int (0 : Int32)), .val (.int (1 : Int32)), .val (.int (x0 &&& (3 : Int32))), .val (.ref u_AND_NOT), .val (.int (0 : Int32))] [(.int (1 : Int32))]))
            refine fin (some (.int (1 : Int32))) X24 (fun h => absurd h (by decide)) (fun fs hr => retN X24 hx (t := .boolean) hret (by simp) (hb hby at_155) hr) (by decide) (by decide) ?_
            rw [e24]
            exact ⟨rfl, N24⟩
  · refine go (fun tg kg => XS.ifNo X0.here hx rfl (hb hby at_3) rfl ((if0 _ _).trans (feq hc1).1) kg) ?_
    show G (s₁.setTop (mkF m 6 #[.val (.int x0), .val (.int x1), .val (.int x2), .unset, .unset, .unset, .unset, .unset] []))
    refine go (fun tg kg => XS.iconst X0.here hx rfl (hb hby at_6) kg) ?_
    show G (s₁.setTop (mkF m 7 #[.val (.int x0), .val (.int x1), .val (.int x2), .unset, .unset, .unset, .unset, .unset] [(.int (1 : Int32))]))
    refine go (fun tg kg => XS.goto X0.here hx rfl (pc0 := 7) (pc' := 11) rfl (hb hby at_7) (by decide) (by decide) kg) ?_
    show G (s₁.setTop (mkF m 11 #[.val (.int x0), .val (.int x1), .val (.int x2), .unset, .unset, .unset, .unset, .unset] [(.int (1 : Int32))]))
    refine go (fun tg kg => XS.istoreN X0.here hx rfl (hb hby at_11) rfl (l' := #[.val (.int x0), .val (.int x1), .val (.int x2), .val (.int (1 : Int32)), .unset, .unset, .unset, .unset]) rfl kg) ?_
    show G (s₁.setTop (mkF m 12 #[.val (.int x0), .val (.int x1), .val (.int x2), .val (.int (1 : Int32)), .unset, .unset, .unset, .unset] []))
    refine go (fun tg kg => XS.iloadN X0.here hx rfl (hb hby at_12) rfl kg) ?_
    show G (s₁.setTop (mkF m 13 #[.val (.int x0), .val (.int x1), .val (.int x2), .val (.int (1 : Int32)), .unset, .unset, .unset, .unset] [(.int x2)]))
    refine go (fun tg kg => XS.iconst X0.here hx rfl (hb hby at_13) kg) ?_
    show G (s₁.setTop (mkF m 14 #[.val (.int x0), .val (.int x1), .val (.int x2), .val (.int (1 : Int32)), .unset, .unset, .unset, .unset] [(.int (1 : Int32)), (.int x2)]))
    refine go (fun tg kg => XS.iand X0.here hx rfl (hb hby at_14) rfl kg) ?_
    show G (s₁.setTop (mkF m 15 #[.val (.int x0), .val (.int x1), .val (.int x2), .val (.int (1 : Int32)), .unset, .unset, .unset, .unset] [(.int (x2 &&& (1 : Int32)))]))
    by_cases hc25 : (x2 &&& (1 : Int32)) = (0 : Int32)
    · refine go (fun tg kg => XS.ifYes X0.here hx rfl (pc0 := 15) (pc' := 22) rfl (hb hby at_15) rfl ((if0 _ _).trans (teq hc25).1) (by decide) (by decide) kg) ?_
      show G (s₁.setTop (mkF m 22 #[.val (.int x0), .val (.int x1), .val (.int x2), .val (.int (1 : Int32)), .unset, .unset, .unset, .unset] []))
      refine go (fun tg kg => XS.iconst X0.here hx rfl (hb hby at_22) kg) ?_
      show G (s₁.setTop (mkF m 23 #[.val (.int x0), .val (.int x1), .val (.int x2), .val (.int (1 : Int32)), .unset, .unset, .unset, .unset] [(.int (0 : Int32))]))
      refine go (fun tg kg => XS.istore X0.here hx rfl (hb hby at_23) rfl (l' := #[.val (.int x0), .val (.int x1), .val (.int x2), .val (.int (1 : Int32)), .val (.int (0 : Int32)), .unset, .unset, .unset]) rfl kg) ?_
      show G (s₁.setTop (mkF m 25 #[.val (.int x0), .val (.int x1), .val (.int x2), .val (.int (1 : Int32)), .val (.int (0 : Int32)), .unset, .unset, .unset] []))
      refine go (fun tg kg => XS.iloadN X0.here hx rfl (hb hby at_25) rfl kg) ?_
      show G (s₁.setTop (mkF m 26 #[.val (.int x0), .val (.int x1), .val (.int x2), .val (.int (1 : Int32)), .val (.int (0 : Int32)), .unset, .unset, .unset] [(.int x0)]))
      refine go (fun tg kg => XS.iconst X0.here hx rfl (hb hby at_26) kg) ?_
      show G (s₁.setTop (mkF m 27 #[.val (.int x0), .val (.int x1), .val (.int x2), .val (.int (1 : Int32)), .val (.int (0 : Int32)), .unset, .unset, .unset] [(.int (3 : Int32)), (.int x0)]))
      refine go (fun tg kg => XS.iand X0.here hx rfl (hb hby at_27) rfl kg) ?_
      show G (s₁.setTop (mkF m 28 #[.val (.int x0), .val (.int x1), .val (.int x2), .val (.int (1 : Int32)), .val (.int (0 : Int32)), .unset, .unset, .unset] [(.int (x0 &&& (3 : Int32)))]))
      refine go (fun tg kg => XS.istore X0.here hx rfl (hb hby at_28) rfl (l' := #[.val (.int x0), .val (.int x1), .val (.int x2), .val (.int (1 : Int32)), .val (.int (0 : Int32)), .val (.int (x0 &&& (3 : Int32))), .unset, .unset]) rfl kg) ?_
      show G (s₁.setTop (mkF m 30 #[.val (.int x0), .val (.int x1), .val (.int x2), .val (.int (1 : Int32)), .val (.int (0 : Int32)), .val (.int (x0 &&& (3 : Int32))), .unset, .unset] []))
      refine go (fun tg kg => XS.iload X0.here hx rfl (hb hby at_30) rfl kg) ?_
      show G (s₁.setTop (mkF m 32 #[.val (.int x0), .val (.int x1), .val (.int x2), .val (.int (1 : Int32)), .val (.int (0 : Int32)), .val (.int (x0 &&& (3 : Int32))), .unset, .unset] [(.int (x0 &&& (3 : Int32)))]))
      by_cases hc26 : (x0 &&& (3 : Int32)) = (0 : Int32)
      · refine go (fun tg kg => XS.ifNo X0.here hx rfl (hb hby at_32) rfl ((if0 _ _).trans (teq hc26).2) kg) ?_
        show G (s₁.setTop (mkF m 35 #[.val (.int x0), .val (.int x1), .val (.int x2), .val (.int (1 : Int32)), .val (.int (0 : Int32)), .val (.int (x0 &&& (3 : Int32))), .unset, .unset] []))
        obtain ⟨T27, X27, e27, st27⟩ := getS2 X0 hx hZ hown (host := "") (Or.inl (hw _ (List.mem_of_getElem? (i := 0) rfl))) Via.refl e0 S_u_AND (g := (mkF m 35 #[.val (.int x0), .val (.int x1), .val (.int x2), .val (.int (1 : Int32)), .val (.int (0 : Int32)), .val (.int (x0 &&& (3 : Int32))), .unset, .unset] [])) rfl (hb hby at_35)
        refine go st27 ?_
        show G (T27.setTop (mkF m 38 #[.val (.int x0), .val (.int x1), .val (.int x2), .val (.int (1 : Int32)), .val (.int (0 : Int32)), .val (.int (x0 &&& (3 : Int32))), .unset, .unset] [(.ref u_AND)]))
        refine go (fun tg kg => XS.astore X27.here hx rfl (hb hby at_38) rfl rfl (l' := #[.val (.int x0), .val (.int x1), .val (.int x2), .val (.int (1 : Int32)), .val (.int (0 : Int32)), .val (.int (x0 &&& (3 : Int32))), .val (.ref u_AND), .unset]) rfl kg) ?_
        show G (T27.setTop (mkF m 40 #[.val (.int x0), .val (.int x1), .val (.int x2), .val (.int (1 : Int32)), .val (.int (0 : Int32)), .val (.int (x0 &&& (3 : Int32))), .val (.ref u_AND), .unset] []))
        refine go (fun tg kg => XS.iloadN X27.here hx rfl (hb hby at_40) rfl kg) ?_
        show G (T27.setTop (mkF m 41 #[.val (.int x0), .val (.int x1), .val (.int x2), .val (.int (1 : Int32)), .val (.int (0 : Int32)), .val (.int (x0 &&& (3 : Int32))), .val (.ref u_AND), .unset] [(.int (1 : Int32))]))
        refine go (fun tg kg => XS.ifNo X27.here hx rfl (hb hby at_41) rfl ((if0 _ _).trans (feq (by decide)).1) kg) ?_
        show G (T27.setTop (mkF m 44 #[.val (.int x0), .val (.int x1), .val (.int x2), .val (.int (1 : Int32)), .val (.int (0 : Int32)), .val (.int (x0 &&& (3 : Int32))), .val (.ref u_AND), .unset] []))
        refine go (fun tg kg => XS.iload X27.here hx rfl (hb hby at_44) rfl kg) ?_
        show G (T27.setTop (mkF m 46 #[.val (.int x0), .val (.int x1), .val (.int x2), .val (.int (1 : Int32)), .val (.int (0 : Int32)), .val (.int (x0 &&& (3 : Int32))), .val (.ref u_AND), .unset] [(.int (0 : Int32))]))
        refine go (fun tg kg => XS.ifYes X27.here hx rfl (pc0 := 46) (pc' := 53) rfl (hb hby at_46) rfl ((if0 _ _).trans (teq (by decide)).1) (by decide) (by decide) kg) ?_
        show G (T27.setTop (mkF m 53 #[.val (.int x0), .val (.int x1), .val (.int x2), .val (.int (1 : Int32)), .val (.int (0 : Int32)), .val (.int (x0 &&& (3 : Int32))), .val (.ref u_AND), .unset] []))
        refine go (fun tg kg => XS.iconst X27.here hx rfl (hb hby at_53) kg) ?_
        show G (T27.setTop (mkF m 54 #[.val (.int x0), .val (.int x1), .val (.int x2), .val (.int (1 : Int32)), .val (.int (0 : Int32)), .val (.int (x0 &&& (3 : Int32))), .val (.ref u_AND), .unset] [(.int (0 : Int32))]))
        refine go (fun tg kg => XS.istore X27.here hx rfl (hb hby at_54) rfl (l' := #[.val (.int x0), .val (.int x1), .val (.int x2), .val (.int (1 : Int32)), .val (.int (0 : Int32)), .val (.int (x0 &&& (3 : Int32))), .val (.ref u_AND), .val (.int (0 : Int32))]) rfl kg) ?_
        show G (T27.setTop (mkF m 56 #[.val (.int x0), .val (.int x1), .val (.int x2), .val (.int (1 : Int32)), .val (.int (0 : Int32)), .val (.int (x0 &&& (3 : Int32))), .val (.ref u_AND), .val (.int (0 : Int32))] []))
        refine go (fun tg kg => XS.goto X27.here hx rfl (pc0 := 56) (pc' := 137) rfl (hb hby at_56) (by decide) (by decide) kg) ?_
        show G (T27.setTop (mkF m 137 #[.val (.int x0), .val (.int x1), .val (.int x2), .val (.int (1 : Int32)), .val (.int (0 : Int32)), .val (.int (x0 &&& (3 : Int32))), .val (.ref u_AND), .val (.int (0 : Int32))] []))
        refine go (fun tg kg => XS.aload X27.here hx rfl (hb hby at_137) rfl rfl kg) ?_
        show G (T27.setTop (mkF m 139 #[.val (.int x0), .val (.int x1), .val (.int x2), .val (.int (1 : Int32)), .val (.int (0 : Int32)), .val (.int (x0 &&& (3 : Int32))), .val (.ref u_AND), .val (.int (0 : Int32))] [(.ref u_AND)]))
        refine go (fun tg kg => XS.iloadN X27.here hx rfl (hb hby at_139) rfl kg) ?_
        show G (T27.setTop (mkF m 140 #[.val (.int x0), .val (.int x1), .val (.int x2), .val (.int (1 : Int32)), .val (.int (0 : Int32)), .val (.int (x0 &&& (3 : Int32))), .val (.ref u_AND), .val (.int (0 : Int32))] [(.int (1 : Int32)), (.ref u_AND)]))
        refine go (fun tg kg => XS.iload X27.here hx rfl (hb hby at_140) rfl kg) ?_
        show G (T27.setTop (mkF m 142 #[.val (.int x0), .val (.int x1), .val (.int x2), .val (.int (1 : Int32)), .val (.int (0 : Int32)), .val (.int (x0 &&& (3 : Int32))), .val (.ref u_AND), .val (.int (0 : Int32))] [(.int (0 : Int32)), (.int (1 : Int32)), (.ref u_AND)]))
        obtain ⟨cq28, kq28, q28a, q28b, q28c⟩ := isOf hZ e27 E_u_AND
        obtain ⟨_, _, ⟨T28, L28, k28, n28⟩, -, X28, ⟨Lc28, hQ28, l28, y28, z28⟩, st28⟩ := X27.virtualBack hx (y := (⟨"com/example/tightbits/tightbits/SetOperation", "keeps", "(ZZ)Z"⟩ : MethodName)) (z := (⟨"com/example/tightbits/tightbits/SetOperation", "keeps", "(ZZ)Z"⟩ : MethodName)) hown (mvT hZ (hw _ (List.mem_of_getElem? (i := 3) rfl))) (mvT hZ (hw _ (List.mem_of_getElem? (i := 4) rfl))) (notFace_of_selects (args := #[]) (mvT hZ (hw _ (List.mem_of_getElem? (i := 6) rfl)))) (mvT hZ (hw _ (List.mem_of_getElem? (i := 6) rfl))) (mvT hZ (hw _ (List.mem_of_getElem? (i := 5) rfl))) (by decide) (backOf (W := 0) (rm1 l Z a0 hw [] u_AND (1 : Int32) (0 : Int32) (1 : Int32) (0 : Int32) (0 : Int32) h0 n0 Z0 F_u_AND_keepsBoth F_u_AND_keepsFirstOnly F_u_AND_keepsSecondOnly) hZ (hw _ (List.mem_of_getElem? (i := 7) rfl)) (hw _ (List.mem_of_getElem? (i := 1) rfl)) (by decide) (by decide)) q28a q28c (g := (mkF m 142 #[.val (.int x0), .val (.int x1), .val (.int x2), .val (.int (1 : Int32)), .val (.int (0 : Int32)), .val (.int (x0 &&& (3 : Int32))), .val (.ref u_AND), .val (.int (0 : Int32))] [(.int (0 : Int32)), (.int (1 : Int32)), (.ref u_AND)])) rfl (by rw [hml]; rfl) (Steps.refl _) (argsL := [(.int (1 : Int32)), (.int (0 : Int32))]) (rest := []) (lenOf pd__ZZ_Z rfl) rfl (by show 2 * 0 + _ ≤ _; exact Nat.le_of_eq rfl) (hb hby at_142) (fun _ _ => ⟨rfl, e27, (by decide : 0 + 0 ≤ _), (by decide : 0 + 0 ≤ _)⟩)
        dsimp only [Pt.U, Pt.locs, Pt.cells, Pt.slots] at X28 l28 y28 z28 st28 hQ28
        subst l28 y28 z28
        obtain ⟨rfl, Nq28, e28⟩ := hQ28
        have N28 := Fr.app N0 Nq28
        refine go (fun tg kg => st28.trans kg) ?_
        show G (T28.setTop (mkF m 145 #[.val (.int x0), .val (.int x1), .val (.int x2), .val (.int (1 : Int32)), .val (.int (0 : Int32)), .val (.int (x0 &&& (3 : Int32))), .val (.ref u_AND), .val (.int (0 : Int32))] [(.int (own_keeps (1 : Int32) (0 : Int32) (1 : Int32) (0 : Int32) (0 : Int32)))]))
        refine go (fun tg kg => XS.iload X28.here hx rfl (hb hby at_145) rfl kg) ?_
        show G (T28.setTop (mkF m 147 #[.val (.int x0), .val (.int x1), .val (.int x2), .val (.int (1 : Int32)), .val (.int (0 : Int32)), .val (.int (x0 &&& (3 : Int32))), .val (.ref u_AND), .val (.int (0 : Int32))] [(.int (0 : Int32)), (.int (own_keeps (1 : Int32) (0 : Int32) (1 : Int32) (0 : Int32) (0 : Int32)))]))
        refine go (fun tg kg => XS.icmpNo X28.here hx rfl (hb hby at_147) rfl (teq (by decide)).2 kg) ?_
        show G (T28.setTop (mkF m 150 #[.val (.int x0), .val (.int x1), .val (.int x2), .val (.int (1 : Int32)), .val (.int (0 : Int32)), .val (.int (x0 &&& (3 : Int32))), .val (.ref u_AND), .val (.int (0 : Int32))] []))
        refine go (fun tg kg => XS.iconst X28.here hx rfl (hb hby at_150) kg) ?_
        show G (T28.setTop (mkF m 151 #[.val (.int x0), .val (.int x1), .val (.int x2), .val (.int (1 : Int32)), .val (.int (0 : Int32)), .val (.int (x0 &&& (3 : Int32))), .val (.ref u_AND), .val (.int (0 : Int32))] [(.int (1 : Int32))]))
        refine go (fun tg kg => XS.goto X28.here hx rfl (pc0 := 151) (pc' := 155) rfl (hb hby at_151) (by decide) (by decide) kg) ?_
        show G (T28.setTop (mkF m 155 #[.val (.int x0), .val (.int x1), .val (.int x2), .val (.int (1 : Int32)), .val (.int (0 : Int32)), .val (.int (x0 &&& (3 : Int32))), .val (.ref u_AND), .val (.int (0 : Int32))] [(.int (1 : Int32))]))
        refine fin (some (.int (1 : Int32))) X28 (fun h => absurd h (by decide)) (fun fs hr => retN X28 hx (t := .boolean) hret (by simp) (hb hby at_155) hr) (by decide) (by decide) ?_
        rw [e28]
        exact ⟨rfl, N28⟩
      · refine go (fun tg kg => XS.ifYes X0.here hx rfl (pc0 := 32) (pc' := 59) rfl (hb hby at_32) rfl ((if0 _ _).trans (feq hc26).2) (by decide) (by decide) kg) ?_
        show G (s₁.setTop (mkF m 59 #[.val (.int x0), .val (.int x1), .val (.int x2), .val (.int (1 : Int32)), .val (.int (0 : Int32)), .val (.int (x0 &&& (3 : Int32))), .unset, .unset] []))
        refine go (fun tg kg => XS.iload X0.here hx rfl (hb hby at_59) rfl kg) ?_
        show G (s₁.setTop (mkF m 61 #[.val (.int x0), .val (.int x1), .val (.int x2), .val (.int (1 : Int32)), .val (.int (0 : Int32)), .val (.int (x0 &&& (3 : Int32))), .unset, .unset] [(.int (x0 &&& (3 : Int32)))]))
        refine go (fun tg kg => XS.iconst X0.here hx rfl (hb hby at_61) kg) ?_
        show G (s₁.setTop (mkF m 62 #[.val (.int x0), .val (.int x1), .val (.int x2), .val (.int (1 : Int32)), .val (.int (0 : Int32)), .val (.int (x0 &&& (3 : Int32))), .unset, .unset] [(.int (1 : Int32)), (.int (x0 &&& (3 : Int32)))]))
        by_cases hc29 : (x0 &&& (3 : Int32)) = (1 : Int32)
        · refine go (fun tg kg => XS.icmpNo X0.here hx rfl (hb hby at_62) rfl (teq hc29).2 kg) ?_
          show G (s₁.setTop (mkF m 65 #[.val (.int x0), .val (.int x1), .val (.int x2), .val (.int (1 : Int32)), .val (.int (0 : Int32)), .val (.int (x0 &&& (3 : Int32))), .unset, .unset] []))
          obtain ⟨T30, X30, e30, st30⟩ := getS2 X0 hx hZ hown (host := "") (Or.inl (hw _ (List.mem_of_getElem? (i := 10) rfl))) Via.refl e0 S_u_OR (g := (mkF m 65 #[.val (.int x0), .val (.int x1), .val (.int x2), .val (.int (1 : Int32)), .val (.int (0 : Int32)), .val (.int (x0 &&& (3 : Int32))), .unset, .unset] [])) rfl (hb hby at_65)
          refine go st30 ?_
          show G (T30.setTop (mkF m 68 #[.val (.int x0), .val (.int x1), .val (.int x2), .val (.int (1 : Int32)), .val (.int (0 : Int32)), .val (.int (x0 &&& (3 : Int32))), .unset, .unset] [(.ref u_OR)]))
          refine go (fun tg kg => XS.astore X30.here hx rfl (hb hby at_68) rfl rfl (l' := #[.val (.int x0), .val (.int x1), .val (.int x2), .val (.int (1 : Int32)), .val (.int (0 : Int32)), .val (.int (x0 &&& (3 : Int32))), .val (.ref u_OR), .unset]) rfl kg) ?_
          show G (T30.setTop (mkF m 70 #[.val (.int x0), .val (.int x1), .val (.int x2), .val (.int (1 : Int32)), .val (.int (0 : Int32)), .val (.int (x0 &&& (3 : Int32))), .val (.ref u_OR), .unset] []))
          refine go (fun tg kg => XS.iloadN X30.here hx rfl (hb hby at_70) rfl kg) ?_
          show G (T30.setTop (mkF m 71 #[.val (.int x0), .val (.int x1), .val (.int x2), .val (.int (1 : Int32)), .val (.int (0 : Int32)), .val (.int (x0 &&& (3 : Int32))), .val (.ref u_OR), .unset] [(.int (1 : Int32))]))
          refine go (fun tg kg => XS.ifYes X30.here hx rfl (pc0 := 71) (pc' := 79) rfl (hb hby at_71) rfl ((if0 _ _).trans (feq (by decide)).2) (by decide) (by decide) kg) ?_
          show G (T30.setTop (mkF m 79 #[.val (.int x0), .val (.int x1), .val (.int x2), .val (.int (1 : Int32)), .val (.int (0 : Int32)), .val (.int (x0 &&& (3 : Int32))), .val (.ref u_OR), .unset] []))
          refine go (fun tg kg => XS.iconst X30.here hx rfl (hb hby at_79) kg) ?_
          show G (T30.setTop (mkF m 80 #[.val (.int x0), .val (.int x1), .val (.int x2), .val (.int (1 : Int32)), .val (.int (0 : Int32)), .val (.int (x0 &&& (3 : Int32))), .val (.ref u_OR), .unset] [(.int (1 : Int32))]))
          refine go (fun tg kg => XS.goto X30.here hx rfl (pc0 := 80) (pc' := 84) rfl (hb hby at_80) (by decide) (by decide) kg) ?_
          show G (T30.setTop (mkF m 84 #[.val (.int x0), .val (.int x1), .val (.int x2), .val (.int (1 : Int32)), .val (.int (0 : Int32)), .val (.int (x0 &&& (3 : Int32))), .val (.ref u_OR), .unset] [(.int (1 : Int32))]))
          refine go (fun tg kg => XS.istore X30.here hx rfl (hb hby at_84) rfl (l' := #[.val (.int x0), .val (.int x1), .val (.int x2), .val (.int (1 : Int32)), .val (.int (0 : Int32)), .val (.int (x0 &&& (3 : Int32))), .val (.ref u_OR), .val (.int (1 : Int32))]) rfl kg) ?_
          show G (T30.setTop (mkF m 86 #[.val (.int x0), .val (.int x1), .val (.int x2), .val (.int (1 : Int32)), .val (.int (0 : Int32)), .val (.int (x0 &&& (3 : Int32))), .val (.ref u_OR), .val (.int (1 : Int32))] []))
          refine go (fun tg kg => XS.goto X30.here hx rfl (pc0 := 86) (pc' := 137) rfl (hb hby at_86) (by decide) (by decide) kg) ?_
          show G (T30.setTop (mkF m 137 #[.val (.int x0), .val (.int x1), .val (.int x2), .val (.int (1 : Int32)), .val (.int (0 : Int32)), .val (.int (x0 &&& (3 : Int32))), .val (.ref u_OR), .val (.int (1 : Int32))] []))
          refine go (fun tg kg => XS.aload X30.here hx rfl (hb hby at_137) rfl rfl kg) ?_
          show G (T30.setTop (mkF m 139 #[.val (.int x0), .val (.int x1), .val (.int x2), .val (.int (1 : Int32)), .val (.int (0 : Int32)), .val (.int (x0 &&& (3 : Int32))), .val (.ref u_OR), .val (.int (1 : Int32))] [(.ref u_OR)]))
          refine go (fun tg kg => XS.iloadN X30.here hx rfl (hb hby at_139) rfl kg) ?_
          show G (T30.setTop (mkF m 140 #[.val (.int x0), .val (.int x1), .val (.int x2), .val (.int (1 : Int32)), .val (.int (0 : Int32)), .val (.int (x0 &&& (3 : Int32))), .val (.ref u_OR), .val (.int (1 : Int32))] [(.int (1 : Int32)), (.ref u_OR)]))
          refine go (fun tg kg => XS.iload X30.here hx rfl (hb hby at_140) rfl kg) ?_
          show G (T30.setTop (mkF m 142 #[.val (.int x0), .val (.int x1), .val (.int x2), .val (.int (1 : Int32)), .val (.int (0 : Int32)), .val (.int (x0 &&& (3 : Int32))), .val (.ref u_OR), .val (.int (1 : Int32))] [(.int (0 : Int32)), (.int (1 : Int32)), (.ref u_OR)]))
          obtain ⟨cq31, kq31, q31a, q31b, q31c⟩ := isOf hZ e30 E_u_OR
          obtain ⟨_, _, ⟨T31, L31, k31, n31⟩, -, X31, ⟨Lc31, hQ31, l31, y31, z31⟩, st31⟩ := X30.virtualBack hx (y := (⟨"com/example/tightbits/tightbits/SetOperation", "keeps", "(ZZ)Z"⟩ : MethodName)) (z := (⟨"com/example/tightbits/tightbits/SetOperation", "keeps", "(ZZ)Z"⟩ : MethodName)) hown (mvT hZ (hw _ (List.mem_of_getElem? (i := 3) rfl))) (mvT hZ (hw _ (List.mem_of_getElem? (i := 4) rfl))) (notFace_of_selects (args := #[]) (mvT hZ (hw _ (List.mem_of_getElem? (i := 6) rfl)))) (mvT hZ (hw _ (List.mem_of_getElem? (i := 6) rfl))) (mvT hZ (hw _ (List.mem_of_getElem? (i := 5) rfl))) (by decide) (backOf (W := 0) (rm1 l Z a0 hw [] u_OR (1 : Int32) (0 : Int32) (1 : Int32) (1 : Int32) (1 : Int32) h0 n0 Z0 F_u_OR_keepsBoth F_u_OR_keepsFirstOnly F_u_OR_keepsSecondOnly) hZ (hw _ (List.mem_of_getElem? (i := 7) rfl)) (hw _ (List.mem_of_getElem? (i := 1) rfl)) (by decide) (by decide)) q31a q31c (g := (mkF m 142 #[.val (.int x0), .val (.int x1), .val (.int x2), .val (.int (1 : Int32)), .val (.int (0 : Int32)), .val (.int (x0 &&& (3 : Int32))), .val (.ref u_OR), .val (.int (1 : Int32))] [(.int (0 : Int32)), (.int (1 : Int32)), (.ref u_OR)])) rfl (by rw [hml]; rfl) (Steps.refl _) (argsL := [(.int (1 : Int32)), (.int (0 : Int32))]) (rest := []) (lenOf pd__ZZ_Z rfl) rfl (by show 2 * 0 + _ ≤ _; exact Nat.le_of_eq rfl) (hb hby at_142) (fun _ _ => ⟨rfl, e30, (by decide : 0 + 0 ≤ _), (by decide : 0 + 0 ≤ _)⟩)
          dsimp only [Pt.U, Pt.locs, Pt.cells, Pt.slots] at X31 l31 y31 z31 st31 hQ31
          subst l31 y31 z31
          obtain ⟨rfl, Nq31, e31⟩ := hQ31
          have N31 := Fr.app N0 Nq31
          refine go (fun tg kg => st31.trans kg) ?_
          show G (T31.setTop (mkF m 145 #[.val (.int x0), .val (.int x1), .val (.int x2), .val (.int (1 : Int32)), .val (.int (0 : Int32)), .val (.int (x0 &&& (3 : Int32))), .val (.ref u_OR), .val (.int (1 : Int32))] [(.int (own_keeps (1 : Int32) (0 : Int32) (1 : Int32) (1 : Int32) (1 : Int32)))]))
          refine go (fun tg kg => XS.iload X31.here hx rfl (hb hby at_145) rfl kg) ?_
          show G (T31.setTop (mkF m 147 #[.val (.int x0), .val (.int x1), .val (.int x2), .val (.int (1 : Int32)), .val (.int (0 : Int32)), .val (.int (x0 &&& (3 : Int32))), .val (.ref u_OR), .val (.int (1 : Int32))] [(.int (1 : Int32)), (.int (own_keeps (1 : Int32) (0 : Int32) (1 : Int32) (1 : Int32) (1 : Int32)))]))
          refine go (fun tg kg => XS.icmpNo X31.here hx rfl (hb hby at_147) rfl (teq (by decide)).2 kg) ?_
          show G (T31.setTop (mkF m 150 #[.val (.int x0), .val (.int x1), .val (.int x2), .val (.int (1 : Int32)), .val (.int (0 : Int32)), .val (.int (x0 &&& (3 : Int32))), .val (.ref u_OR), .val (.int (1 : Int32))] []))
          refine go (fun tg kg => XS.iconst X31.here hx rfl (hb hby at_150) kg) ?_
          show G (T31.setTop (mkF m 151 #[.val (.int x0), .val (.int x1), .val (.int x2), .val (.int (1 : Int32)), .val (.int (0 : Int32)), .val (.int (x0 &&& (3 : Int32))), .val (.ref u_OR), .val (.int (1 : Int32))] [(.int (1 : Int32))]))
          refine go (fun tg kg => XS.goto X31.here hx rfl (pc0 := 151) (pc' := 155) rfl (hb hby at_151) (by decide) (by decide) kg) ?_
          show G (T31.setTop (mkF m 155 #[.val (.int x0), .val (.int x1), .val (.int x2), .val (.int (1 : Int32)), .val (.int (0 : Int32)), .val (.int (x0 &&& (3 : Int32))), .val (.ref u_OR), .val (.int (1 : Int32))] [(.int (1 : Int32))]))
          refine fin (some (.int (1 : Int32))) X31 (fun h => absurd h (by decide)) (fun fs hr => retN X31 hx (t := .boolean) hret (by simp) (hb hby at_155) hr) (by decide) (by decide) ?_
          rw [e31]
          exact ⟨rfl, N31⟩
        · refine go (fun tg kg => XS.icmpYes X0.here hx rfl (pc0 := 62) (pc' := 89) rfl (hb hby at_62) rfl (feq hc29).2 (by decide) (by decide) kg) ?_
          show G (s₁.setTop (mkF m 89 #[.val (.int x0), .val (.int x1), .val (.int x2), .val (.int (1 : Int32)), .val (.int (0 : Int32)), .val (.int (x0 &&& (3 : Int32))), .unset, .unset] []))
          refine go (fun tg kg => XS.iload X0.here hx rfl (hb hby at_89) rfl kg) ?_
          show G (s₁.setTop (mkF m 91 #[.val (.int x0), .val (.int x1), .val (.int x2), .val (.int (1 : Int32)), .val (.int (0 : Int32)), .val (.int (x0 &&& (3 : Int32))), .unset, .unset] [(.int (x0 &&& (3 : Int32)))]))
          refine go (fun tg kg => XS.iconst X0.here hx rfl (hb hby at_91) kg) ?_
          show G (s₁.setTop (mkF m 92 #[.val (.int x0), .val (.int x1), .val (.int x2), .val (.int (1 : Int32)), .val (.int (0 : Int32)), .val (.int (x0 &&& (3 : Int32))), .unset, .unset] [(.int (2 : Int32)), (.int (x0 &&& (3 : Int32)))]))
          by_cases hc32 : (x0 &&& (3 : Int32)) = (2 : Int32)
          · refine go (fun tg kg => XS.icmpNo X0.here hx rfl (hb hby at_92) rfl (teq hc32).2 kg) ?_
            show G (s₁.setTop (mkF m 95 #[.val (.int x0), .val (.int x1), .val (.int x2), .val (.int (1 : Int32)), .val (.int (0 : Int32)), .val (.int (x0 &&& (3 : Int32))), .unset, .unset] []))
            obtain ⟨T33, X33, e33, st33⟩ := getS2 X0 hx hZ hown (host := "") (Or.inl (hw _ (List.mem_of_getElem? (i := 16) rfl))) Via.refl e0 S_u_XOR (g := (mkF m 95 #[.val (.int x0), .val (.int x1), .val (.int x2), .val (.int (1 : Int32)), .val (.int (0 : Int32)), .val (.int (x0 &&& (3 : Int32))), .unset, .unset] [])) rfl (hb hby at_95)
            refine go st33 ?_
            show G (T33.setTop (mkF m 98 #[.val (.int x0), .val (.int x1), .val (.int x2), .val (.int (1 : Int32)), .val (.int (0 : Int32)), .val (.int (x0 &&& (3 : Int32))), .unset, .unset] [(.ref u_XOR)]))
            refine go (fun tg kg => XS.astore X33.here hx rfl (hb hby at_98) rfl rfl (l' := #[.val (.int x0), .val (.int x1), .val (.int x2), .val (.int (1 : Int32)), .val (.int (0 : Int32)), .val (.int (x0 &&& (3 : Int32))), .val (.ref u_XOR), .unset]) rfl kg) ?_
            show G (T33.setTop (mkF m 100 #[.val (.int x0), .val (.int x1), .val (.int x2), .val (.int (1 : Int32)), .val (.int (0 : Int32)), .val (.int (x0 &&& (3 : Int32))), .val (.ref u_XOR), .unset] []))
            refine go (fun tg kg => XS.iloadN X33.here hx rfl (hb hby at_100) rfl kg) ?_
            show G (T33.setTop (mkF m 101 #[.val (.int x0), .val (.int x1), .val (.int x2), .val (.int (1 : Int32)), .val (.int (0 : Int32)), .val (.int (x0 &&& (3 : Int32))), .val (.ref u_XOR), .unset] [(.int (1 : Int32))]))
            refine go (fun tg kg => XS.iload X33.here hx rfl (hb hby at_101) rfl kg) ?_
            show G (T33.setTop (mkF m 103 #[.val (.int x0), .val (.int x1), .val (.int x2), .val (.int (1 : Int32)), .val (.int (0 : Int32)), .val (.int (x0 &&& (3 : Int32))), .val (.ref u_XOR), .unset] [(.int (0 : Int32)), (.int (1 : Int32))]))
            refine go (fun tg kg => XS.icmpNo X33.here hx rfl (hb hby at_103) rfl (feq (by decide)).1 kg) ?_
            show G (T33.setTop (mkF m 106 #[.val (.int x0), .val (.int x1), .val (.int x2), .val (.int (1 : Int32)), .val (.int (0 : Int32)), .val (.int (x0 &&& (3 : Int32))), .val (.ref u_XOR), .unset] []))
            refine go (fun tg kg => XS.iconst X33.here hx rfl (hb hby at_106) kg) ?_
            show G (T33.setTop (mkF m 107 #[.val (.int x0), .val (.int x1), .val (.int x2), .val (.int (1 : Int32)), .val (.int (0 : Int32)), .val (.int (x0 &&& (3 : Int32))), .val (.ref u_XOR), .unset] [(.int (1 : Int32))]))
            refine go (fun tg kg => XS.goto X33.here hx rfl (pc0 := 107) (pc' := 111) rfl (hb hby at_107) (by decide) (by decide) kg) ?_
            show G (T33.setTop (mkF m 111 #[.val (.int x0), .val (.int x1), .val (.int x2), .val (.int (1 : Int32)), .val (.int (0 : Int32)), .val (.int (x0 &&& (3 : Int32))), .val (.ref u_XOR), .unset] [(.int (1 : Int32))]))
            refine go (fun tg kg => XS.istore X33.here hx rfl (hb hby at_111) rfl (l' := #[.val (.int x0), .val (.int x1), .val (.int x2), .val (.int (1 : Int32)), .val (.int (0 : Int32)), .val (.int (x0 &&& (3 : Int32))), .val (.ref u_XOR), .val (.int (1 : Int32))]) rfl kg) ?_
            show G (T33.setTop (mkF m 113 #[.val (.int x0), .val (.int x1), .val (.int x2), .val (.int (1 : Int32)), .val (.int (0 : Int32)), .val (.int (x0 &&& (3 : Int32))), .val (.ref u_XOR), .val (.int (1 : Int32))] []))
            refine go (fun tg kg => XS.goto X33.here hx rfl (pc0 := 113) (pc' := 137) rfl (hb hby at_113) (by decide) (by decide) kg) ?_
            show G (T33.setTop (mkF m 137 #[.val (.int x0), .val (.int x1), .val (.int x2), .val (.int (1 : Int32)), .val (.int (0 : Int32)), .val (.int (x0 &&& (3 : Int32))), .val (.ref u_XOR), .val (.int (1 : Int32))] []))
            refine go (fun tg kg => XS.aload X33.here hx rfl (hb hby at_137) rfl rfl kg) ?_
            show G (T33.setTop (mkF m 139 #[.val (.int x0), .val (.int x1), .val (.int x2), .val (.int (1 : Int32)), .val (.int (0 : Int32)), .val (.int (x0 &&& (3 : Int32))), .val (.ref u_XOR), .val (.int (1 : Int32))] [(.ref u_XOR)]))
            refine go (fun tg kg => XS.iloadN X33.here hx rfl (hb hby at_139) rfl kg) ?_
            show G (T33.setTop (mkF m 140 #[.val (.int x0), .val (.int x1), .val (.int x2), .val (.int (1 : Int32)), .val (.int (0 : Int32)), .val (.int (x0 &&& (3 : Int32))), .val (.ref u_XOR), .val (.int (1 : Int32))] [(.int (1 : Int32)), (.ref u_XOR)]))
            refine go (fun tg kg => XS.iload X33.here hx rfl (hb hby at_140) rfl kg) ?_
            show G (T33.setTop (mkF m 142 #[.val (.int x0), .val (.int x1), .val (.int x2), .val (.int (1 : Int32)), .val (.int (0 : Int32)), .val (.int (x0 &&& (3 : Int32))), .val (.ref u_XOR), .val (.int (1 : Int32))] [(.int (0 : Int32)), (.int (1 : Int32)), (.ref u_XOR)]))
            obtain ⟨cq34, kq34, q34a, q34b, q34c⟩ := isOf hZ e33 E_u_XOR
            obtain ⟨_, _, ⟨T34, L34, k34, n34⟩, -, X34, ⟨Lc34, hQ34, l34, y34, z34⟩, st34⟩ := X33.virtualBack hx (y := (⟨"com/example/tightbits/tightbits/SetOperation", "keeps", "(ZZ)Z"⟩ : MethodName)) (z := (⟨"com/example/tightbits/tightbits/SetOperation", "keeps", "(ZZ)Z"⟩ : MethodName)) hown (mvT hZ (hw _ (List.mem_of_getElem? (i := 3) rfl))) (mvT hZ (hw _ (List.mem_of_getElem? (i := 4) rfl))) (notFace_of_selects (args := #[]) (mvT hZ (hw _ (List.mem_of_getElem? (i := 6) rfl)))) (mvT hZ (hw _ (List.mem_of_getElem? (i := 6) rfl))) (mvT hZ (hw _ (List.mem_of_getElem? (i := 5) rfl))) (by decide) (backOf (W := 0) (rm1 l Z a0 hw [] u_XOR (1 : Int32) (0 : Int32) (0 : Int32) (1 : Int32) (1 : Int32) h0 n0 Z0 F_u_XOR_keepsBoth F_u_XOR_keepsFirstOnly F_u_XOR_keepsSecondOnly) hZ (hw _ (List.mem_of_getElem? (i := 7) rfl)) (hw _ (List.mem_of_getElem? (i := 1) rfl)) (by decide) (by decide)) q34a q34c (g := (mkF m 142 #[.val (.int x0), .val (.int x1), .val (.int x2), .val (.int (1 : Int32)), .val (.int (0 : Int32)), .val (.int (x0 &&& (3 : Int32))), .val (.ref u_XOR), .val (.int (1 : Int32))] [(.int (0 : Int32)), (.int (1 : Int32)), (.ref u_XOR)])) rfl (by rw [hml]; rfl) (Steps.refl _) (argsL := [(.int (1 : Int32)), (.int (0 : Int32))]) (rest := []) (lenOf pd__ZZ_Z rfl) rfl (by show 2 * 0 + _ ≤ _; exact Nat.le_of_eq rfl) (hb hby at_142) (fun _ _ => ⟨rfl, e33, (by decide : 0 + 0 ≤ _), (by decide : 0 + 0 ≤ _)⟩)
            dsimp only [Pt.U, Pt.locs, Pt.cells, Pt.slots] at X34 l34 y34 z34 st34 hQ34
            subst l34 y34 z34
            obtain ⟨rfl, Nq34, e34⟩ := hQ34
            have N34 := Fr.app N0 Nq34
            refine go (fun tg kg => st34.trans kg) ?_
            show G (T34.setTop (mkF m 145 #[.val (.int x0), .val (.int x1), .val (.int x2), .val (.int (1 : Int32)), .val (.int (0 : Int32)), .val (.int (x0 &&& (3 : Int32))), .val (.ref u_XOR), .val (.int (1 : Int32))] [(.int (own_keeps (1 : Int32) (0 : Int32) (0 : Int32) (1 : Int32) (1 : Int32)))]))
            refine go (fun tg kg => XS.iload X34.here hx rfl (hb hby at_145) rfl kg) ?_
            show G (T34.setTop (mkF m 147 #[.val (.int x0), .val (.int x1), .val (.int x2), .val (.int (1 : Int32)), .val (.int (0 : Int32)), .val (.int (x0 &&& (3 : Int32))), .val (.ref u_XOR), .val (.int (1 : Int32))] [(.int (1 : Int32)), (.int (own_keeps (1 : Int32) (0 : Int32) (0 : Int32) (1 : Int32) (1 : Int32)))]))
            refine go (fun tg kg => XS.icmpNo X34.here hx rfl (hb hby at_147) rfl (teq (by decide)).2 kg) ?_
            show G (T34.setTop (mkF m 150 #[.val (.int x0), .val (.int x1), .val (.int x2), .val (.int (1 : Int32)), .val (.int (0 : Int32)), .val (.int (x0 &&& (3 : Int32))), .val (.ref u_XOR), .val (.int (1 : Int32))] []))
            refine go (fun tg kg => XS.iconst X34.here hx rfl (hb hby at_150) kg) ?_
            show G (T34.setTop (mkF m 151 #[.val (.int x0), .val (.int x1), .val (.int x2), .val (.int (1 : Int32)), .val (.int (0 : Int32)), .val (.int (x0 &&& (3 : Int32))), .val (.ref u_XOR), .val (.int (1 : Int32))] [(.int (1 : Int32))]))
            refine go (fun tg kg => XS.goto X34.here hx rfl (pc0 := 151) (pc' := 155) rfl (hb hby at_151) (by decide) (by decide) kg) ?_
            show G (T34.setTop (mkF m 155 #[.val (.int x0), .val (.int x1), .val (.int x2), .val (.int (1 : Int32)), .val (.int (0 : Int32)), .val (.int (x0 &&& (3 : Int32))), .val (.ref u_XOR), .val (.int (1 : Int32))] [(.int (1 : Int32))]))
            refine fin (some (.int (1 : Int32))) X34 (fun h => absurd h (by decide)) (fun fs hr => retN X34 hx (t := .boolean) hret (by simp) (hb hby at_155) hr) (by decide) (by decide) ?_
            rw [e34]
            exact ⟨rfl, N34⟩
          · refine go (fun tg kg => XS.icmpYes X0.here hx rfl (pc0 := 92) (pc' := 116) rfl (hb hby at_92) rfl (feq hc32).2 (by decide) (by decide) kg) ?_
            show G (s₁.setTop (mkF m 116 #[.val (.int x0), .val (.int x1), .val (.int x2), .val (.int (1 : Int32)), .val (.int (0 : Int32)), .val (.int (x0 &&& (3 : Int32))), .unset, .unset] []))
            obtain ⟨T35, X35, e35, st35⟩ := getS2 X0 hx hZ hown (host := "") (Or.inl (hw _ (List.mem_of_getElem? (i := 14) rfl))) Via.refl e0 S_u_AND_NOT (g := (mkF m 116 #[.val (.int x0), .val (.int x1), .val (.int x2), .val (.int (1 : Int32)), .val (.int (0 : Int32)), .val (.int (x0 &&& (3 : Int32))), .unset, .unset] [])) rfl (hb hby at_116)
            refine go st35 ?_
            show G (T35.setTop (mkF m 119 #[.val (.int x0), .val (.int x1), .val (.int x2), .val (.int (1 : Int32)), .val (.int (0 : Int32)), .val (.int (x0 &&& (3 : Int32))), .unset, .unset] [(.ref u_AND_NOT)]))
            refine go (fun tg kg => XS.astore X35.here hx rfl (hb hby at_119) rfl rfl (l' := #[.val (.int x0), .val (.int x1), .val (.int x2), .val (.int (1 : Int32)), .val (.int (0 : Int32)), .val (.int (x0 &&& (3 : Int32))), .val (.ref u_AND_NOT), .unset]) rfl kg) ?_
            show G (T35.setTop (mkF m 121 #[.val (.int x0), .val (.int x1), .val (.int x2), .val (.int (1 : Int32)), .val (.int (0 : Int32)), .val (.int (x0 &&& (3 : Int32))), .val (.ref u_AND_NOT), .unset] []))
            refine go (fun tg kg => XS.iloadN X35.here hx rfl (hb hby at_121) rfl kg) ?_
            show G (T35.setTop (mkF m 122 #[.val (.int x0), .val (.int x1), .val (.int x2), .val (.int (1 : Int32)), .val (.int (0 : Int32)), .val (.int (x0 &&& (3 : Int32))), .val (.ref u_AND_NOT), .unset] [(.int (1 : Int32))]))
            refine go (fun tg kg => XS.ifNo X35.here hx rfl (hb hby at_122) rfl ((if0 _ _).trans (feq (by decide)).1) kg) ?_
            show G (T35.setTop (mkF m 125 #[.val (.int x0), .val (.int x1), .val (.int x2), .val (.int (1 : Int32)), .val (.int (0 : Int32)), .val (.int (x0 &&& (3 : Int32))), .val (.ref u_AND_NOT), .unset] []))
            refine go (fun tg kg => XS.iload X35.here hx rfl (hb hby at_125) rfl kg) ?_
            show G (T35.setTop (mkF m 127 #[.val (.int x0), .val (.int x1), .val (.int x2), .val (.int (1 : Int32)), .val (.int (0 : Int32)), .val (.int (x0 &&& (3 : Int32))), .val (.ref u_AND_NOT), .unset] [(.int (0 : Int32))]))
            refine go (fun tg kg => XS.ifNo X35.here hx rfl (hb hby at_127) rfl ((if0 _ _).trans (teq (by decide)).2) kg) ?_
            show G (T35.setTop (mkF m 130 #[.val (.int x0), .val (.int x1), .val (.int x2), .val (.int (1 : Int32)), .val (.int (0 : Int32)), .val (.int (x0 &&& (3 : Int32))), .val (.ref u_AND_NOT), .unset] []))
            refine go (fun tg kg => XS.iconst X35.here hx rfl (hb hby at_130) kg) ?_
            show G (T35.setTop (mkF m 131 #[.val (.int x0), .val (.int x1), .val (.int x2), .val (.int (1 : Int32)), .val (.int (0 : Int32)), .val (.int (x0 &&& (3 : Int32))), .val (.ref u_AND_NOT), .unset] [(.int (1 : Int32))]))
            refine go (fun tg kg => XS.goto X35.here hx rfl (pc0 := 131) (pc' := 135) rfl (hb hby at_131) (by decide) (by decide) kg) ?_
            show G (T35.setTop (mkF m 135 #[.val (.int x0), .val (.int x1), .val (.int x2), .val (.int (1 : Int32)), .val (.int (0 : Int32)), .val (.int (x0 &&& (3 : Int32))), .val (.ref u_AND_NOT), .unset] [(.int (1 : Int32))]))
            refine go (fun tg kg => XS.istore X35.here hx rfl (hb hby at_135) rfl (l' := #[.val (.int x0), .val (.int x1), .val (.int x2), .val (.int (1 : Int32)), .val (.int (0 : Int32)), .val (.int (x0 &&& (3 : Int32))), .val (.ref u_AND_NOT), .val (.int (1 : Int32))]) rfl kg) ?_
            show G (T35.setTop (mkF m 137 #[.val (.int x0), .val (.int x1), .val (.int x2), .val (.int (1 : Int32)), .val (.int (0 : Int32)), .val (.int (x0 &&& (3 : Int32))), .val (.ref u_AND_NOT), .val (.int (1 : Int32))] []))
            refine go (fun tg kg => XS.aload X35.here hx rfl (hb hby at_137) rfl rfl kg) ?_
            show G (T35.setTop (mkF m 139 #[.val (.int x0), .val (.int x1), .val (.int x2), .val (.int (1 : Int32)), .val (.int (0 : Int32)), .val (.int (x0 &&& (3 : Int32))), .val (.ref u_AND_NOT), .val (.int (1 : Int32))] [(.ref u_AND_NOT)]))
            refine go (fun tg kg => XS.iloadN X35.here hx rfl (hb hby at_139) rfl kg) ?_
            show G (T35.setTop (mkF m 140 #[.val (.int x0), .val (.int x1), .val (.int x2), .val (.int (1 : Int32)), .val (.int (0 : Int32)), .val (.int (x0 &&& (3 : Int32))), .val (.ref u_AND_NOT), .val (.int (1 : Int32))] [(.int (1 : Int32)), (.ref u_AND_NOT)]))
            refine go (fun tg kg => XS.iload X35.here hx rfl (hb hby at_140) rfl kg) ?_
            show G (T35.setTop (mkF m 142 #[.val (.int x0), .val (.int x1), .val (.int x2), .val (.int (1 : Int32)), .val (.int (0 : Int32)), .val (.int (x0 &&& (3 : Int32))), .val (.ref u_AND_NOT), .val (.int (1 : Int32))] [(.int (0 : Int32)), (.int (1 : Int32)), (.ref u_AND_NOT)]))
            obtain ⟨cq36, kq36, q36a, q36b, q36c⟩ := isOf hZ e35 E_u_AND_NOT
            obtain ⟨_, _, ⟨T36, L36, k36, n36⟩, -, X36, ⟨Lc36, hQ36, l36, y36, z36⟩, st36⟩ := X35.virtualBack hx (y := (⟨"com/example/tightbits/tightbits/SetOperation", "keeps", "(ZZ)Z"⟩ : MethodName)) (z := (⟨"com/example/tightbits/tightbits/SetOperation", "keeps", "(ZZ)Z"⟩ : MethodName)) hown (mvT hZ (hw _ (List.mem_of_getElem? (i := 3) rfl))) (mvT hZ (hw _ (List.mem_of_getElem? (i := 4) rfl))) (notFace_of_selects (args := #[]) (mvT hZ (hw _ (List.mem_of_getElem? (i := 6) rfl)))) (mvT hZ (hw _ (List.mem_of_getElem? (i := 6) rfl))) (mvT hZ (hw _ (List.mem_of_getElem? (i := 5) rfl))) (by decide) (backOf (W := 0) (rm1 l Z a0 hw [] u_AND_NOT (1 : Int32) (0 : Int32) (0 : Int32) (1 : Int32) (0 : Int32) h0 n0 Z0 F_u_AND_NOT_keepsBoth F_u_AND_NOT_keepsFirstOnly F_u_AND_NOT_keepsSecondOnly) hZ (hw _ (List.mem_of_getElem? (i := 7) rfl)) (hw _ (List.mem_of_getElem? (i := 1) rfl)) (by decide) (by decide)) q36a q36c (g := (mkF m 142 #[.val (.int x0), .val (.int x1), .val (.int x2), .val (.int (1 : Int32)), .val (.int (0 : Int32)), .val (.int (x0 &&& (3 : Int32))), .val (.ref u_AND_NOT), .val (.int (1 : Int32))] [(.int (0 : Int32)), (.int (1 : Int32)), (.ref u_AND_NOT)])) rfl (by rw [hml]; rfl) (Steps.refl _) (argsL := [(.int (1 : Int32)), (.int (0 : Int32))]) (rest := []) (lenOf pd__ZZ_Z rfl) rfl (by show 2 * 0 + _ ≤ _; exact Nat.le_of_eq rfl) (hb hby at_142) (fun _ _ => ⟨rfl, e35, (by decide : 0 + 0 ≤ _), (by decide : 0 + 0 ≤ _)⟩)
            dsimp only [Pt.U, Pt.locs, Pt.cells, Pt.slots] at X36 l36 y36 z36 st36 hQ36
            subst l36 y36 z36
            obtain ⟨rfl, Nq36, e36⟩ := hQ36
            have N36 := Fr.app N0 Nq36
            refine go (fun tg kg => st36.trans kg) ?_
            show G (T36.setTop (mkF m 145 #[.val (.int x0), .val (.int x1), .val (.int x2), .val (.int (1 : Int32)), .val (.int (0 : Int32)), .val (.int (x0 &&& (3 : Int32))), .val (.ref u_AND_NOT), .val (.int (1 : Int32))] [(.int (own_keeps (1 : Int32) (0 : Int32) (0 : Int32) (1 : Int32) (0 : Int32)))]))
            refine go (fun tg kg => XS.iload X36.here hx rfl (hb hby at_145) rfl kg) ?_
            show G (T36.setTop (mkF m 147 #[.val (.int x0), .val (.int x1), .val (.int x2), .val (.int (1 : Int32)), .val (.int (0 : Int32)), .val (.int (x0 &&& (3 : Int32))), .val (.ref u_AND_NOT), .val (.int (1 : Int32))] [(.int (1 : Int32)), (.int (own_keeps (1 : Int32) (0 : Int32) (0 : Int32) (1 : Int32) (0 : Int32)))]))
            refine go (fun tg kg => XS.icmpNo X36.here hx rfl (hb hby at_147) rfl (teq (by decide)).2 kg) ?_
            show G (T36.setTop (mkF m 150 #[.val (.int x0), .val (.int x1), .val (.int x2), .val (.int (1 : Int32)), .val (.int (0 : Int32)), .val (.int (x0 &&& (3 : Int32))), .val (.ref u_AND_NOT), .val (.int (1 : Int32))] []))
            refine go (fun tg kg => XS.iconst X36.here hx rfl (hb hby at_150) kg) ?_
            show G (T36.setTop (mkF m 151 #[.val (.int x0), .val (.int x1), .val (.int x2), .val (.int (1 : Int32)), .val (.int (0 : Int32)), .val (.int (x0 &&& (3 : Int32))), .val (.ref u_AND_NOT), .val (.int (1 : Int32))] [(.int (1 : Int32))]))
            refine go (fun tg kg => XS.goto X36.here hx rfl (pc0 := 151) (pc' := 155) rfl (hb hby at_151) (by decide) (by decide) kg) ?_
            show G (T36.setTop (mkF m 155 #[.val (.int x0), .val (.int x1), .val (.int x2), .val (.int (1 : Int32)), .val (.int (0 : Int32)), .val (.int (x0 &&& (3 : Int32))), .val (.ref u_AND_NOT), .val (.int (1 : Int32))] [(.int (1 : Int32))]))
            refine fin (some (.int (1 : Int32))) X36 (fun h => absurd h (by decide)) (fun fs hr => retN X36 hx (t := .boolean) hret (by simp) (hb hby at_155) hr) (by decide) (by decide) ?_
            rw [e36]
            exact ⟨rfl, N36⟩
    · refine go (fun tg kg => XS.ifNo X0.here hx rfl (hb hby at_15) rfl ((if0 _ _).trans (feq hc25).1) kg) ?_
      show G (s₁.setTop (mkF m 18 #[.val (.int x0), .val (.int x1), .val (.int x2), .val (.int (1 : Int32)), .unset, .unset, .unset, .unset] []))
      refine go (fun tg kg => XS.iconst X0.here hx rfl (hb hby at_18) kg) ?_
      show G (s₁.setTop (mkF m 19 #[.val (.int x0), .val (.int x1), .val (.int x2), .val (.int (1 : Int32)), .unset, .unset, .unset, .unset] [(.int (1 : Int32))]))
      refine go (fun tg kg => XS.goto X0.here hx rfl (pc0 := 19) (pc' := 23) rfl (hb hby at_19) (by decide) (by decide) kg) ?_
      show G (s₁.setTop (mkF m 23 #[.val (.int x0), .val (.int x1), .val (.int x2), .val (.int (1 : Int32)), .unset, .unset, .unset, .unset] [(.int (1 : Int32))]))
      refine go (fun tg kg => XS.istore X0.here hx rfl (hb hby at_23) rfl (l' := #[.val (.int x0), .val (.int x1), .val (.int x2), .val (.int (1 : Int32)), .val (.int (1 : Int32)), .unset, .unset, .unset]) rfl kg) ?_
      show G (s₁.setTop (mkF m 25 #[.val (.int x0), .val (.int x1), .val (.int x2), .val (.int (1 : Int32)), .val (.int (1 : Int32)), .unset, .unset, .unset] []))
      refine go (fun tg kg => XS.iloadN X0.here hx rfl (hb hby at_25) rfl kg) ?_
      show G (s₁.setTop (mkF m 26 #[.val (.int x0), .val (.int x1), .val (.int x2), .val (.int (1 : Int32)), .val (.int (1 : Int32)), .unset, .unset, .unset] [(.int x0)]))
      refine go (fun tg kg => XS.iconst X0.here hx rfl (hb hby at_26) kg) ?_
      show G (s₁.setTop (mkF m 27 #[.val (.int x0), .val (.int x1), .val (.int x2), .val (.int (1 : Int32)), .val (.int (1 : Int32)), .unset, .unset, .unset] [(.int (3 : Int32)), (.int x0)]))
      refine go (fun tg kg => XS.iand X0.here hx rfl (hb hby at_27) rfl kg) ?_
      show G (s₁.setTop (mkF m 28 #[.val (.int x0), .val (.int x1), .val (.int x2), .val (.int (1 : Int32)), .val (.int (1 : Int32)), .unset, .unset, .unset] [(.int (x0 &&& (3 : Int32)))]))
      refine go (fun tg kg => XS.istore X0.here hx rfl (hb hby at_28) rfl (l' := #[.val (.int x0), .val (.int x1), .val (.int x2), .val (.int (1 : Int32)), .val (.int (1 : Int32)), .val (.int (x0 &&& (3 : Int32))), .unset, .unset]) rfl kg) ?_
      show G (s₁.setTop (mkF m 30 #[.val (.int x0), .val (.int x1), .val (.int x2), .val (.int (1 : Int32)), .val (.int (1 : Int32)), .val (.int (x0 &&& (3 : Int32))), .unset, .unset] []))
      refine go (fun tg kg => XS.iload X0.here hx rfl (hb hby at_30) rfl kg) ?_
      show G (s₁.setTop (mkF m 32 #[.val (.int x0), .val (.int x1), .val (.int x2), .val (.int (1 : Int32)), .val (.int (1 : Int32)), .val (.int (x0 &&& (3 : Int32))), .unset, .unset] [(.int (x0 &&& (3 : Int32)))]))
      by_cases hc37 : (x0 &&& (3 : Int32)) = (0 : Int32)
      · refine go (fun tg kg => XS.ifNo X0.here hx rfl (hb hby at_32) rfl ((if0 _ _).trans (teq hc37).2) kg) ?_
        show G (s₁.setTop (mkF m 35 #[.val (.int x0), .val (.int x1), .val (.int x2), .val (.int (1 : Int32)), .val (.int (1 : Int32)), .val (.int (x0 &&& (3 : Int32))), .unset, .unset] []))
        obtain ⟨T38, X38, e38, st38⟩ := getS2 X0 hx hZ hown (host := "") (Or.inl (hw _ (List.mem_of_getElem? (i := 0) rfl))) Via.refl e0 S_u_AND (g := (mkF m 35 #[.val (.int x0), .val (.int x1), .val (.int x2), .val (.int (1 : Int32)), .val (.int (1 : Int32)), .val (.int (x0 &&& (3 : Int32))), .unset, .unset] [])) rfl (hb hby at_35)
        refine go st38 ?_
        show G (T38.setTop (mkF m 38 #[.val (.int x0), .val (.int x1), .val (.int x2), .val (.int (1 : Int32)), .val (.int (1 : Int32)), .val (.int (x0 &&& (3 : Int32))), .unset, .unset] [(.ref u_AND)]))
        refine go (fun tg kg => XS.astore X38.here hx rfl (hb hby at_38) rfl rfl (l' := #[.val (.int x0), .val (.int x1), .val (.int x2), .val (.int (1 : Int32)), .val (.int (1 : Int32)), .val (.int (x0 &&& (3 : Int32))), .val (.ref u_AND), .unset]) rfl kg) ?_
        show G (T38.setTop (mkF m 40 #[.val (.int x0), .val (.int x1), .val (.int x2), .val (.int (1 : Int32)), .val (.int (1 : Int32)), .val (.int (x0 &&& (3 : Int32))), .val (.ref u_AND), .unset] []))
        refine go (fun tg kg => XS.iloadN X38.here hx rfl (hb hby at_40) rfl kg) ?_
        show G (T38.setTop (mkF m 41 #[.val (.int x0), .val (.int x1), .val (.int x2), .val (.int (1 : Int32)), .val (.int (1 : Int32)), .val (.int (x0 &&& (3 : Int32))), .val (.ref u_AND), .unset] [(.int (1 : Int32))]))
        refine go (fun tg kg => XS.ifNo X38.here hx rfl (hb hby at_41) rfl ((if0 _ _).trans (feq (by decide)).1) kg) ?_
        show G (T38.setTop (mkF m 44 #[.val (.int x0), .val (.int x1), .val (.int x2), .val (.int (1 : Int32)), .val (.int (1 : Int32)), .val (.int (x0 &&& (3 : Int32))), .val (.ref u_AND), .unset] []))
        refine go (fun tg kg => XS.iload X38.here hx rfl (hb hby at_44) rfl kg) ?_
        show G (T38.setTop (mkF m 46 #[.val (.int x0), .val (.int x1), .val (.int x2), .val (.int (1 : Int32)), .val (.int (1 : Int32)), .val (.int (x0 &&& (3 : Int32))), .val (.ref u_AND), .unset] [(.int (1 : Int32))]))
        refine go (fun tg kg => XS.ifNo X38.here hx rfl (hb hby at_46) rfl ((if0 _ _).trans (feq (by decide)).1) kg) ?_
        show G (T38.setTop (mkF m 49 #[.val (.int x0), .val (.int x1), .val (.int x2), .val (.int (1 : Int32)), .val (.int (1 : Int32)), .val (.int (x0 &&& (3 : Int32))), .val (.ref u_AND), .unset] []))
        refine go (fun tg kg => XS.iconst X38.here hx rfl (hb hby at_49) kg) ?_
        show G (T38.setTop (mkF m 50 #[.val (.int x0), .val (.int x1), .val (.int x2), .val (.int (1 : Int32)), .val (.int (1 : Int32)), .val (.int (x0 &&& (3 : Int32))), .val (.ref u_AND), .unset] [(.int (1 : Int32))]))
        refine go (fun tg kg => XS.goto X38.here hx rfl (pc0 := 50) (pc' := 54) rfl (hb hby at_50) (by decide) (by decide) kg) ?_
        show G (T38.setTop (mkF m 54 #[.val (.int x0), .val (.int x1), .val (.int x2), .val (.int (1 : Int32)), .val (.int (1 : Int32)), .val (.int (x0 &&& (3 : Int32))), .val (.ref u_AND), .unset] [(.int (1 : Int32))]))
        refine go (fun tg kg => XS.istore X38.here hx rfl (hb hby at_54) rfl (l' := #[.val (.int x0), .val (.int x1), .val (.int x2), .val (.int (1 : Int32)), .val (.int (1 : Int32)), .val (.int (x0 &&& (3 : Int32))), .val (.ref u_AND), .val (.int (1 : Int32))]) rfl kg) ?_
        show G (T38.setTop (mkF m 56 #[.val (.int x0), .val (.int x1), .val (.int x2), .val (.int (1 : Int32)), .val (.int (1 : Int32)), .val (.int (x0 &&& (3 : Int32))), .val (.ref u_AND), .val (.int (1 : Int32))] []))
        refine go (fun tg kg => XS.goto X38.here hx rfl (pc0 := 56) (pc' := 137) rfl (hb hby at_56) (by decide) (by decide) kg) ?_
        show G (T38.setTop (mkF m 137 #[.val (.int x0), .val (.int x1), .val (.int x2), .val (.int (1 : Int32)), .val (.int (1 : Int32)), .val (.int (x0 &&& (3 : Int32))), .val (.ref u_AND), .val (.int (1 : Int32))] []))
        refine go (fun tg kg => XS.aload X38.here hx rfl (hb hby at_137) rfl rfl kg) ?_
        show G (T38.setTop (mkF m 139 #[.val (.int x0), .val (.int x1), .val (.int x2), .val (.int (1 : Int32)), .val (.int (1 : Int32)), .val (.int (x0 &&& (3 : Int32))), .val (.ref u_AND), .val (.int (1 : Int32))] [(.ref u_AND)]))
        refine go (fun tg kg => XS.iloadN X38.here hx rfl (hb hby at_139) rfl kg) ?_
        show G (T38.setTop (mkF m 140 #[.val (.int x0), .val (.int x1), .val (.int x2), .val (.int (1 : Int32)), .val (.int (1 : Int32)), .val (.int (x0 &&& (3 : Int32))), .val (.ref u_AND), .val (.int (1 : Int32))] [(.int (1 : Int32)), (.ref u_AND)]))
        refine go (fun tg kg => XS.iload X38.here hx rfl (hb hby at_140) rfl kg) ?_
        show G (T38.setTop (mkF m 142 #[.val (.int x0), .val (.int x1), .val (.int x2), .val (.int (1 : Int32)), .val (.int (1 : Int32)), .val (.int (x0 &&& (3 : Int32))), .val (.ref u_AND), .val (.int (1 : Int32))] [(.int (1 : Int32)), (.int (1 : Int32)), (.ref u_AND)]))
        obtain ⟨cq39, kq39, q39a, q39b, q39c⟩ := isOf hZ e38 E_u_AND
        obtain ⟨_, _, ⟨T39, L39, k39, n39⟩, -, X39, ⟨Lc39, hQ39, l39, y39, z39⟩, st39⟩ := X38.virtualBack hx (y := (⟨"com/example/tightbits/tightbits/SetOperation", "keeps", "(ZZ)Z"⟩ : MethodName)) (z := (⟨"com/example/tightbits/tightbits/SetOperation", "keeps", "(ZZ)Z"⟩ : MethodName)) hown (mvT hZ (hw _ (List.mem_of_getElem? (i := 3) rfl))) (mvT hZ (hw _ (List.mem_of_getElem? (i := 4) rfl))) (notFace_of_selects (args := #[]) (mvT hZ (hw _ (List.mem_of_getElem? (i := 6) rfl)))) (mvT hZ (hw _ (List.mem_of_getElem? (i := 6) rfl))) (mvT hZ (hw _ (List.mem_of_getElem? (i := 5) rfl))) (by decide) (backOf (W := 0) (rm1 l Z a0 hw [] u_AND (1 : Int32) (1 : Int32) (1 : Int32) (0 : Int32) (0 : Int32) h0 n0 Z0 F_u_AND_keepsBoth F_u_AND_keepsFirstOnly F_u_AND_keepsSecondOnly) hZ (hw _ (List.mem_of_getElem? (i := 7) rfl)) (hw _ (List.mem_of_getElem? (i := 1) rfl)) (by decide) (by decide)) q39a q39c (g := (mkF m 142 #[.val (.int x0), .val (.int x1), .val (.int x2), .val (.int (1 : Int32)), .val (.int (1 : Int32)), .val (.int (x0 &&& (3 : Int32))), .val (.ref u_AND), .val (.int (1 : Int32))] [(.int (1 : Int32)), (.int (1 : Int32)), (.ref u_AND)])) rfl (by rw [hml]; rfl) (Steps.refl _) (argsL := [(.int (1 : Int32)), (.int (1 : Int32))]) (rest := []) (lenOf pd__ZZ_Z rfl) rfl (by show 2 * 0 + _ ≤ _; exact Nat.le_of_eq rfl) (hb hby at_142) (fun _ _ => ⟨rfl, e38, (by decide : 0 + 0 ≤ _), (by decide : 0 + 0 ≤ _)⟩)
        dsimp only [Pt.U, Pt.locs, Pt.cells, Pt.slots] at X39 l39 y39 z39 st39 hQ39
        subst l39 y39 z39
        obtain ⟨rfl, Nq39, e39⟩ := hQ39
        have N39 := Fr.app N0 Nq39
        refine go (fun tg kg => st39.trans kg) ?_
        show G (T39.setTop (mkF m 145 #[.val (.int x0), .val (.int x1), .val (.int x2), .val (.int (1 : Int32)), .val (.int (1 : Int32)), .val (.int (x0 &&& (3 : Int32))), .val (.ref u_AND), .val (.int (1 : Int32))] [(.int (own_keeps (1 : Int32) (1 : Int32) (1 : Int32) (0 : Int32) (0 : Int32)))]))
        refine go (fun tg kg => XS.iload X39.here hx rfl (hb hby at_145) rfl kg) ?_
        show G (T39.setTop (mkF m 147 #[.val (.int x0), .val (.int x1), .val (.int x2), .val (.int (1 : Int32)), .val (.int (1 : Int32)), .val (.int (x0 &&& (3 : Int32))), .val (.ref u_AND), .val (.int (1 : Int32))] [(.int (1 : Int32)), (.int (own_keeps (1 : Int32) (1 : Int32) (1 : Int32) (0 : Int32) (0 : Int32)))]))
        refine go (fun tg kg => XS.icmpNo X39.here hx rfl (hb hby at_147) rfl (teq (by decide)).2 kg) ?_
        show G (T39.setTop (mkF m 150 #[.val (.int x0), .val (.int x1), .val (.int x2), .val (.int (1 : Int32)), .val (.int (1 : Int32)), .val (.int (x0 &&& (3 : Int32))), .val (.ref u_AND), .val (.int (1 : Int32))] []))
        refine go (fun tg kg => XS.iconst X39.here hx rfl (hb hby at_150) kg) ?_
        show G (T39.setTop (mkF m 151 #[.val (.int x0), .val (.int x1), .val (.int x2), .val (.int (1 : Int32)), .val (.int (1 : Int32)), .val (.int (x0 &&& (3 : Int32))), .val (.ref u_AND), .val (.int (1 : Int32))] [(.int (1 : Int32))]))
        refine go (fun tg kg => XS.goto X39.here hx rfl (pc0 := 151) (pc' := 155) rfl (hb hby at_151) (by decide) (by decide) kg) ?_
        show G (T39.setTop (mkF m 155 #[.val (.int x0), .val (.int x1), .val (.int x2), .val (.int (1 : Int32)), .val (.int (1 : Int32)), .val (.int (x0 &&& (3 : Int32))), .val (.ref u_AND), .val (.int (1 : Int32))] [(.int (1 : Int32))]))
        refine fin (some (.int (1 : Int32))) X39 (fun h => absurd h (by decide)) (fun fs hr => retN X39 hx (t := .boolean) hret (by simp) (hb hby at_155) hr) (by decide) (by decide) ?_
        rw [e39]
        exact ⟨rfl, N39⟩
      · refine go (fun tg kg => XS.ifYes X0.here hx rfl (pc0 := 32) (pc' := 59) rfl (hb hby at_32) rfl ((if0 _ _).trans (feq hc37).2) (by decide) (by decide) kg) ?_
        show G (s₁.setTop (mkF m 59 #[.val (.int x0), .val (.int x1), .val (.int x2), .val (.int (1 : Int32)), .val (.int (1 : Int32)), .val (.int (x0 &&& (3 : Int32))), .unset, .unset] []))
        refine go (fun tg kg => XS.iload X0.here hx rfl (hb hby at_59) rfl kg) ?_
        show G (s₁.setTop (mkF m 61 #[.val (.int x0), .val (.int x1), .val (.int x2), .val (.int (1 : Int32)), .val (.int (1 : Int32)), .val (.int (x0 &&& (3 : Int32))), .unset, .unset] [(.int (x0 &&& (3 : Int32)))]))
        refine go (fun tg kg => XS.iconst X0.here hx rfl (hb hby at_61) kg) ?_
        show G (s₁.setTop (mkF m 62 #[.val (.int x0), .val (.int x1), .val (.int x2), .val (.int (1 : Int32)), .val (.int (1 : Int32)), .val (.int (x0 &&& (3 : Int32))), .unset, .unset] [(.int (1 : Int32)), (.int (x0 &&& (3 : Int32)))]))
        by_cases hc40 : (x0 &&& (3 : Int32)) = (1 : Int32)
        · refine go (fun tg kg => XS.icmpNo X0.here hx rfl (hb hby at_62) rfl (teq hc40).2 kg) ?_
          show G (s₁.setTop (mkF m 65 #[.val (.int x0), .val (.int x1), .val (.int x2), .val (.int (1 : Int32)), .val (.int (1 : Int32)), .val (.int (x0 &&& (3 : Int32))), .unset, .unset] []))
          obtain ⟨T41, X41, e41, st41⟩ := getS2 X0 hx hZ hown (host := "") (Or.inl (hw _ (List.mem_of_getElem? (i := 10) rfl))) Via.refl e0 S_u_OR (g := (mkF m 65 #[.val (.int x0), .val (.int x1), .val (.int x2), .val (.int (1 : Int32)), .val (.int (1 : Int32)), .val (.int (x0 &&& (3 : Int32))), .unset, .unset] [])) rfl (hb hby at_65)
          refine go st41 ?_
          show G (T41.setTop (mkF m 68 #[.val (.int x0), .val (.int x1), .val (.int x2), .val (.int (1 : Int32)), .val (.int (1 : Int32)), .val (.int (x0 &&& (3 : Int32))), .unset, .unset] [(.ref u_OR)]))
          refine go (fun tg kg => XS.astore X41.here hx rfl (hb hby at_68) rfl rfl (l' := #[.val (.int x0), .val (.int x1), .val (.int x2), .val (.int (1 : Int32)), .val (.int (1 : Int32)), .val (.int (x0 &&& (3 : Int32))), .val (.ref u_OR), .unset]) rfl kg) ?_
          show G (T41.setTop (mkF m 70 #[.val (.int x0), .val (.int x1), .val (.int x2), .val (.int (1 : Int32)), .val (.int (1 : Int32)), .val (.int (x0 &&& (3 : Int32))), .val (.ref u_OR), .unset] []))
          refine go (fun tg kg => XS.iloadN X41.here hx rfl (hb hby at_70) rfl kg) ?_
          show G (T41.setTop (mkF m 71 #[.val (.int x0), .val (.int x1), .val (.int x2), .val (.int (1 : Int32)), .val (.int (1 : Int32)), .val (.int (x0 &&& (3 : Int32))), .val (.ref u_OR), .unset] [(.int (1 : Int32))]))
          refine go (fun tg kg => XS.ifYes X41.here hx rfl (pc0 := 71) (pc' := 79) rfl (hb hby at_71) rfl ((if0 _ _).trans (feq (by decide)).2) (by decide) (by decide) kg) ?_
          show G (T41.setTop (mkF m 79 #[.val (.int x0), .val (.int x1), .val (.int x2), .val (.int (1 : Int32)), .val (.int (1 : Int32)), .val (.int (x0 &&& (3 : Int32))), .val (.ref u_OR), .unset] []))
          refine go (fun tg kg => XS.iconst X41.here hx rfl (hb hby at_79) kg) ?_
          show G (T41.setTop (mkF m 80 #[.val (.int x0), .val (.int x1), .val (.int x2), .val (.int (1 : Int32)), .val (.int (1 : Int32)), .val (.int (x0 &&& (3 : Int32))), .val (.ref u_OR), .unset] [(.int (1 : Int32))]))
          refine go (fun tg kg => XS.goto X41.here hx rfl (pc0 := 80) (pc' := 84) rfl (hb hby at_80) (by decide) (by decide) kg) ?_
          show G (T41.setTop (mkF m 84 #[.val (.int x0), .val (.int x1), .val (.int x2), .val (.int (1 : Int32)), .val (.int (1 : Int32)), .val (.int (x0 &&& (3 : Int32))), .val (.ref u_OR), .unset] [(.int (1 : Int32))]))
          refine go (fun tg kg => XS.istore X41.here hx rfl (hb hby at_84) rfl (l' := #[.val (.int x0), .val (.int x1), .val (.int x2), .val (.int (1 : Int32)), .val (.int (1 : Int32)), .val (.int (x0 &&& (3 : Int32))), .val (.ref u_OR), .val (.int (1 : Int32))]) rfl kg) ?_
          show G (T41.setTop (mkF m 86 #[.val (.int x0), .val (.int x1), .val (.int x2), .val (.int (1 : Int32)), .val (.int (1 : Int32)), .val (.int (x0 &&& (3 : Int32))), .val (.ref u_OR), .val (.int (1 : Int32))] []))
          refine go (fun tg kg => XS.goto X41.here hx rfl (pc0 := 86) (pc' := 137) rfl (hb hby at_86) (by decide) (by decide) kg) ?_
          show G (T41.setTop (mkF m 137 #[.val (.int x0), .val (.int x1), .val (.int x2), .val (.int (1 : Int32)), .val (.int (1 : Int32)), .val (.int (x0 &&& (3 : Int32))), .val (.ref u_OR), .val (.int (1 : Int32))] []))
          refine go (fun tg kg => XS.aload X41.here hx rfl (hb hby at_137) rfl rfl kg) ?_
          show G (T41.setTop (mkF m 139 #[.val (.int x0), .val (.int x1), .val (.int x2), .val (.int (1 : Int32)), .val (.int (1 : Int32)), .val (.int (x0 &&& (3 : Int32))), .val (.ref u_OR), .val (.int (1 : Int32))] [(.ref u_OR)]))
          refine go (fun tg kg => XS.iloadN X41.here hx rfl (hb hby at_139) rfl kg) ?_
          show G (T41.setTop (mkF m 140 #[.val (.int x0), .val (.int x1), .val (.int x2), .val (.int (1 : Int32)), .val (.int (1 : Int32)), .val (.int (x0 &&& (3 : Int32))), .val (.ref u_OR), .val (.int (1 : Int32))] [(.int (1 : Int32)), (.ref u_OR)]))
          refine go (fun tg kg => XS.iload X41.here hx rfl (hb hby at_140) rfl kg) ?_
          show G (T41.setTop (mkF m 142 #[.val (.int x0), .val (.int x1), .val (.int x2), .val (.int (1 : Int32)), .val (.int (1 : Int32)), .val (.int (x0 &&& (3 : Int32))), .val (.ref u_OR), .val (.int (1 : Int32))] [(.int (1 : Int32)), (.int (1 : Int32)), (.ref u_OR)]))
          obtain ⟨cq42, kq42, q42a, q42b, q42c⟩ := isOf hZ e41 E_u_OR
          obtain ⟨_, _, ⟨T42, L42, k42, n42⟩, -, X42, ⟨Lc42, hQ42, l42, y42, z42⟩, st42⟩ := X41.virtualBack hx (y := (⟨"com/example/tightbits/tightbits/SetOperation", "keeps", "(ZZ)Z"⟩ : MethodName)) (z := (⟨"com/example/tightbits/tightbits/SetOperation", "keeps", "(ZZ)Z"⟩ : MethodName)) hown (mvT hZ (hw _ (List.mem_of_getElem? (i := 3) rfl))) (mvT hZ (hw _ (List.mem_of_getElem? (i := 4) rfl))) (notFace_of_selects (args := #[]) (mvT hZ (hw _ (List.mem_of_getElem? (i := 6) rfl)))) (mvT hZ (hw _ (List.mem_of_getElem? (i := 6) rfl))) (mvT hZ (hw _ (List.mem_of_getElem? (i := 5) rfl))) (by decide) (backOf (W := 0) (rm1 l Z a0 hw [] u_OR (1 : Int32) (1 : Int32) (1 : Int32) (1 : Int32) (1 : Int32) h0 n0 Z0 F_u_OR_keepsBoth F_u_OR_keepsFirstOnly F_u_OR_keepsSecondOnly) hZ (hw _ (List.mem_of_getElem? (i := 7) rfl)) (hw _ (List.mem_of_getElem? (i := 1) rfl)) (by decide) (by decide)) q42a q42c (g := (mkF m 142 #[.val (.int x0), .val (.int x1), .val (.int x2), .val (.int (1 : Int32)), .val (.int (1 : Int32)), .val (.int (x0 &&& (3 : Int32))), .val (.ref u_OR), .val (.int (1 : Int32))] [(.int (1 : Int32)), (.int (1 : Int32)), (.ref u_OR)])) rfl (by rw [hml]; rfl) (Steps.refl _) (argsL := [(.int (1 : Int32)), (.int (1 : Int32))]) (rest := []) (lenOf pd__ZZ_Z rfl) rfl (by show 2 * 0 + _ ≤ _; exact Nat.le_of_eq rfl) (hb hby at_142) (fun _ _ => ⟨rfl, e41, (by decide : 0 + 0 ≤ _), (by decide : 0 + 0 ≤ _)⟩)
          dsimp only [Pt.U, Pt.locs, Pt.cells, Pt.slots] at X42 l42 y42 z42 st42 hQ42
          subst l42 y42 z42
          obtain ⟨rfl, Nq42, e42⟩ := hQ42
          have N42 := Fr.app N0 Nq42
          refine go (fun tg kg => st42.trans kg) ?_
          show G (T42.setTop (mkF m 145 #[.val (.int x0), .val (.int x1), .val (.int x2), .val (.int (1 : Int32)), .val (.int (1 : Int32)), .val (.int (x0 &&& (3 : Int32))), .val (.ref u_OR), .val (.int (1 : Int32))] [(.int (own_keeps (1 : Int32) (1 : Int32) (1 : Int32) (1 : Int32) (1 : Int32)))]))
          refine go (fun tg kg => XS.iload X42.here hx rfl (hb hby at_145) rfl kg) ?_
          show G (T42.setTop (mkF m 147 #[.val (.int x0), .val (.int x1), .val (.int x2), .val (.int (1 : Int32)), .val (.int (1 : Int32)), .val (.int (x0 &&& (3 : Int32))), .val (.ref u_OR), .val (.int (1 : Int32))] [(.int (1 : Int32)), (.int (own_keeps (1 : Int32) (1 : Int32) (1 : Int32) (1 : Int32) (1 : Int32)))]))
          refine go (fun tg kg => XS.icmpNo X42.here hx rfl (hb hby at_147) rfl (teq (by decide)).2 kg) ?_
          show G (T42.setTop (mkF m 150 #[.val (.int x0), .val (.int x1), .val (.int x2), .val (.int (1 : Int32)), .val (.int (1 : Int32)), .val (.int (x0 &&& (3 : Int32))), .val (.ref u_OR), .val (.int (1 : Int32))] []))
          refine go (fun tg kg => XS.iconst X42.here hx rfl (hb hby at_150) kg) ?_
          show G (T42.setTop (mkF m 151 #[.val (.int x0), .val (.int x1), .val (.int x2), .val (.int (1 : Int32)), .val (.int (1 : Int32)), .val (.int (x0 &&& (3 : Int32))), .val (.ref u_OR), .val (.int (1 : Int32))] [(.int (1 : Int32))]))
          refine go (fun tg kg => XS.goto X42.here hx rfl (pc0 := 151) (pc' := 155) rfl (hb hby at_151) (by decide) (by decide) kg) ?_
          show G (T42.setTop (mkF m 155 #[.val (.int x0), .val (.int x1), .val (.int x2), .val (.int (1 : Int32)), .val (.int (1 : Int32)), .val (.int (x0 &&& (3 : Int32))), .val (.ref u_OR), .val (.int (1 : Int32))] [(.int (1 : Int32))]))
          refine fin (some (.int (1 : Int32))) X42 (fun h => absurd h (by decide)) (fun fs hr => retN X42 hx (t := .boolean) hret (by simp) (hb hby at_155) hr) (by decide) (by decide) ?_
          rw [e42]
          exact ⟨rfl, N42⟩
        · refine go (fun tg kg => XS.icmpYes X0.here hx rfl (pc0 := 62) (pc' := 89) rfl (hb hby at_62) rfl (feq hc40).2 (by decide) (by decide) kg) ?_
          show G (s₁.setTop (mkF m 89 #[.val (.int x0), .val (.int x1), .val (.int x2), .val (.int (1 : Int32)), .val (.int (1 : Int32)), .val (.int (x0 &&& (3 : Int32))), .unset, .unset] []))
          refine go (fun tg kg => XS.iload X0.here hx rfl (hb hby at_89) rfl kg) ?_
          show G (s₁.setTop (mkF m 91 #[.val (.int x0), .val (.int x1), .val (.int x2), .val (.int (1 : Int32)), .val (.int (1 : Int32)), .val (.int (x0 &&& (3 : Int32))), .unset, .unset] [(.int (x0 &&& (3 : Int32)))]))
          refine go (fun tg kg => XS.iconst X0.here hx rfl (hb hby at_91) kg) ?_
          show G (s₁.setTop (mkF m 92 #[.val (.int x0), .val (.int x1), .val (.int x2), .val (.int (1 : Int32)), .val (.int (1 : Int32)), .val (.int (x0 &&& (3 : Int32))), .unset, .unset] [(.int (2 : Int32)), (.int (x0 &&& (3 : Int32)))]))
          by_cases hc43 : (x0 &&& (3 : Int32)) = (2 : Int32)
          · refine go (fun tg kg => XS.icmpNo X0.here hx rfl (hb hby at_92) rfl (teq hc43).2 kg) ?_
            show G (s₁.setTop (mkF m 95 #[.val (.int x0), .val (.int x1), .val (.int x2), .val (.int (1 : Int32)), .val (.int (1 : Int32)), .val (.int (x0 &&& (3 : Int32))), .unset, .unset] []))
            obtain ⟨T44, X44, e44, st44⟩ := getS2 X0 hx hZ hown (host := "") (Or.inl (hw _ (List.mem_of_getElem? (i := 16) rfl))) Via.refl e0 S_u_XOR (g := (mkF m 95 #[.val (.int x0), .val (.int x1), .val (.int x2), .val (.int (1 : Int32)), .val (.int (1 : Int32)), .val (.int (x0 &&& (3 : Int32))), .unset, .unset] [])) rfl (hb hby at_95)
            refine go st44 ?_
            show G (T44.setTop (mkF m 98 #[.val (.int x0), .val (.int x1), .val (.int x2), .val (.int (1 : Int32)), .val (.int (1 : Int32)), .val (.int (x0 &&& (3 : Int32))), .unset, .unset] [(.ref u_XOR)]))
            refine go (fun tg kg => XS.astore X44.here hx rfl (hb hby at_98) rfl rfl (l' := #[.val (.int x0), .val (.int x1), .val (.int x2), .val (.int (1 : Int32)), .val (.int (1 : Int32)), .val (.int (x0 &&& (3 : Int32))), .val (.ref u_XOR), .unset]) rfl kg) ?_
            show G (T44.setTop (mkF m 100 #[.val (.int x0), .val (.int x1), .val (.int x2), .val (.int (1 : Int32)), .val (.int (1 : Int32)), .val (.int (x0 &&& (3 : Int32))), .val (.ref u_XOR), .unset] []))
            refine go (fun tg kg => XS.iloadN X44.here hx rfl (hb hby at_100) rfl kg) ?_
            show G (T44.setTop (mkF m 101 #[.val (.int x0), .val (.int x1), .val (.int x2), .val (.int (1 : Int32)), .val (.int (1 : Int32)), .val (.int (x0 &&& (3 : Int32))), .val (.ref u_XOR), .unset] [(.int (1 : Int32))]))
            refine go (fun tg kg => XS.iload X44.here hx rfl (hb hby at_101) rfl kg) ?_
            show G (T44.setTop (mkF m 103 #[.val (.int x0), .val (.int x1), .val (.int x2), .val (.int (1 : Int32)), .val (.int (1 : Int32)), .val (.int (x0 &&& (3 : Int32))), .val (.ref u_XOR), .unset] [(.int (1 : Int32)), (.int (1 : Int32))]))
            refine go (fun tg kg => XS.icmpYes X44.here hx rfl (pc0 := 103) (pc' := 110) rfl (hb hby at_103) rfl (teq (by decide)).1 (by decide) (by decide) kg) ?_
            show G (T44.setTop (mkF m 110 #[.val (.int x0), .val (.int x1), .val (.int x2), .val (.int (1 : Int32)), .val (.int (1 : Int32)), .val (.int (x0 &&& (3 : Int32))), .val (.ref u_XOR), .unset] []))
            refine go (fun tg kg => XS.iconst X44.here hx rfl (hb hby at_110) kg) ?_
            show G (T44.setTop (mkF m 111 #[.val (.int x0), .val (.int x1), .val (.int x2), .val (.int (1 : Int32)), .val (.int (1 : Int32)), .val (.int (x0 &&& (3 : Int32))), .val (.ref u_XOR), .unset] [(.int (0 : Int32))]))
            refine go (fun tg kg => XS.istore X44.here hx rfl (hb hby at_111) rfl (l' := #[.val (.int x0), .val (.int x1), .val (.int x2), .val (.int (1 : Int32)), .val (.int (1 : Int32)), .val (.int (x0 &&& (3 : Int32))), .val (.ref u_XOR), .val (.int (0 : Int32))]) rfl kg) ?_
            show G (T44.setTop (mkF m 113 #[.val (.int x0), .val (.int x1), .val (.int x2), .val (.int (1 : Int32)), .val (.int (1 : Int32)), .val (.int (x0 &&& (3 : Int32))), .val (.ref u_XOR), .val (.int (0 : Int32))] []))
            refine go (fun tg kg => XS.goto X44.here hx rfl (pc0 := 113) (pc' := 137) rfl (hb hby at_113) (by decide) (by decide) kg) ?_
            show G (T44.setTop (mkF m 137 #[.val (.int x0), .val (.int x1), .val (.int x2), .val (.int (1 : Int32)), .val (.int (1 : Int32)), .val (.int (x0 &&& (3 : Int32))), .val (.ref u_XOR), .val (.int (0 : Int32))] []))
            refine go (fun tg kg => XS.aload X44.here hx rfl (hb hby at_137) rfl rfl kg) ?_
            show G (T44.setTop (mkF m 139 #[.val (.int x0), .val (.int x1), .val (.int x2), .val (.int (1 : Int32)), .val (.int (1 : Int32)), .val (.int (x0 &&& (3 : Int32))), .val (.ref u_XOR), .val (.int (0 : Int32))] [(.ref u_XOR)]))
            refine go (fun tg kg => XS.iloadN X44.here hx rfl (hb hby at_139) rfl kg) ?_
            show G (T44.setTop (mkF m 140 #[.val (.int x0), .val (.int x1), .val (.int x2), .val (.int (1 : Int32)), .val (.int (1 : Int32)), .val (.int (x0 &&& (3 : Int32))), .val (.ref u_XOR), .val (.int (0 : Int32))] [(.int (1 : Int32)), (.ref u_XOR)]))
            refine go (fun tg kg => XS.iload X44.here hx rfl (hb hby at_140) rfl kg) ?_
            show G (T44.setTop (mkF m 142 #[.val (.int x0), .val (.int x1), .val (.int x2), .val (.int (1 : Int32)), .val (.int (1 : Int32)), .val (.int (x0 &&& (3 : Int32))), .val (.ref u_XOR), .val (.int (0 : Int32))] [(.int (1 : Int32)), (.int (1 : Int32)), (.ref u_XOR)]))
            obtain ⟨cq45, kq45, q45a, q45b, q45c⟩ := isOf hZ e44 E_u_XOR
            obtain ⟨_, _, ⟨T45, L45, k45, n45⟩, -, X45, ⟨Lc45, hQ45, l45, y45, z45⟩, st45⟩ := X44.virtualBack hx (y := (⟨"com/example/tightbits/tightbits/SetOperation", "keeps", "(ZZ)Z"⟩ : MethodName)) (z := (⟨"com/example/tightbits/tightbits/SetOperation", "keeps", "(ZZ)Z"⟩ : MethodName)) hown (mvT hZ (hw _ (List.mem_of_getElem? (i := 3) rfl))) (mvT hZ (hw _ (List.mem_of_getElem? (i := 4) rfl))) (notFace_of_selects (args := #[]) (mvT hZ (hw _ (List.mem_of_getElem? (i := 6) rfl)))) (mvT hZ (hw _ (List.mem_of_getElem? (i := 6) rfl))) (mvT hZ (hw _ (List.mem_of_getElem? (i := 5) rfl))) (by decide) (backOf (W := 0) (rm1 l Z a0 hw [] u_XOR (1 : Int32) (1 : Int32) (0 : Int32) (1 : Int32) (1 : Int32) h0 n0 Z0 F_u_XOR_keepsBoth F_u_XOR_keepsFirstOnly F_u_XOR_keepsSecondOnly) hZ (hw _ (List.mem_of_getElem? (i := 7) rfl)) (hw _ (List.mem_of_getElem? (i := 1) rfl)) (by decide) (by decide)) q45a q45c (g := (mkF m 142 #[.val (.int x0), .val (.int x1), .val (.int x2), .val (.int (1 : Int32)), .val (.int (1 : Int32)), .val (.int (x0 &&& (3 : Int32))), .val (.ref u_XOR), .val (.int (0 : Int32))] [(.int (1 : Int32)), (.int (1 : Int32)), (.ref u_XOR)])) rfl (by rw [hml]; rfl) (Steps.refl _) (argsL := [(.int (1 : Int32)), (.int (1 : Int32))]) (rest := []) (lenOf pd__ZZ_Z rfl) rfl (by show 2 * 0 + _ ≤ _; exact Nat.le_of_eq rfl) (hb hby at_142) (fun _ _ => ⟨rfl, e44, (by decide : 0 + 0 ≤ _), (by decide : 0 + 0 ≤ _)⟩)
            dsimp only [Pt.U, Pt.locs, Pt.cells, Pt.slots] at X45 l45 y45 z45 st45 hQ45
            subst l45 y45 z45
            obtain ⟨rfl, Nq45, e45⟩ := hQ45
            have N45 := Fr.app N0 Nq45
            refine go (fun tg kg => st45.trans kg) ?_
            show G (T45.setTop (mkF m 145 #[.val (.int x0), .val (.int x1), .val (.int x2), .val (.int (1 : Int32)), .val (.int (1 : Int32)), .val (.int (x0 &&& (3 : Int32))), .val (.ref u_XOR), .val (.int (0 : Int32))] [(.int (own_keeps (1 : Int32) (1 : Int32) (0 : Int32) (1 : Int32) (1 : Int32)))]))
            refine go (fun tg kg => XS.iload X45.here hx rfl (hb hby at_145) rfl kg) ?_
            show G (T45.setTop (mkF m 147 #[.val (.int x0), .val (.int x1), .val (.int x2), .val (.int (1 : Int32)), .val (.int (1 : Int32)), .val (.int (x0 &&& (3 : Int32))), .val (.ref u_XOR), .val (.int (0 : Int32))] [(.int (0 : Int32)), (.int (own_keeps (1 : Int32) (1 : Int32) (0 : Int32) (1 : Int32) (1 : Int32)))]))
            refine go (fun tg kg => XS.icmpNo X45.here hx rfl (hb hby at_147) rfl (teq (by decide)).2 kg) ?_
            show G (T45.setTop (mkF m 150 #[.val (.int x0), .val (.int x1), .val (.int x2), .val (.int (1 : Int32)), .val (.int (1 : Int32)), .val (.int (x0 &&& (3 : Int32))), .val (.ref u_XOR), .val (.int (0 : Int32))] []))
            refine go (fun tg kg => XS.iconst X45.here hx rfl (hb hby at_150) kg) ?_
            show G (T45.setTop (mkF m 151 #[.val (.int x0), .val (.int x1), .val (.int x2), .val (.int (1 : Int32)), .val (.int (1 : Int32)), .val (.int (x0 &&& (3 : Int32))), .val (.ref u_XOR), .val (.int (0 : Int32))] [(.int (1 : Int32))]))
            refine go (fun tg kg => XS.goto X45.here hx rfl (pc0 := 151) (pc' := 155) rfl (hb hby at_151) (by decide) (by decide) kg) ?_
            show G (T45.setTop (mkF m 155 #[.val (.int x0), .val (.int x1), .val (.int x2), .val (.int (1 : Int32)), .val (.int (1 : Int32)), .val (.int (x0 &&& (3 : Int32))), .val (.ref u_XOR), .val (.int (0 : Int32))] [(.int (1 : Int32))]))
            refine fin (some (.int (1 : Int32))) X45 (fun h => absurd h (by decide)) (fun fs hr => retN X45 hx (t := .boolean) hret (by simp) (hb hby at_155) hr) (by decide) (by decide) ?_
            rw [e45]
            exact ⟨rfl, N45⟩
          · refine go (fun tg kg => XS.icmpYes X0.here hx rfl (pc0 := 92) (pc' := 116) rfl (hb hby at_92) rfl (feq hc43).2 (by decide) (by decide) kg) ?_
            show G (s₁.setTop (mkF m 116 #[.val (.int x0), .val (.int x1), .val (.int x2), .val (.int (1 : Int32)), .val (.int (1 : Int32)), .val (.int (x0 &&& (3 : Int32))), .unset, .unset] []))
            obtain ⟨T46, X46, e46, st46⟩ := getS2 X0 hx hZ hown (host := "") (Or.inl (hw _ (List.mem_of_getElem? (i := 14) rfl))) Via.refl e0 S_u_AND_NOT (g := (mkF m 116 #[.val (.int x0), .val (.int x1), .val (.int x2), .val (.int (1 : Int32)), .val (.int (1 : Int32)), .val (.int (x0 &&& (3 : Int32))), .unset, .unset] [])) rfl (hb hby at_116)
            refine go st46 ?_
            show G (T46.setTop (mkF m 119 #[.val (.int x0), .val (.int x1), .val (.int x2), .val (.int (1 : Int32)), .val (.int (1 : Int32)), .val (.int (x0 &&& (3 : Int32))), .unset, .unset] [(.ref u_AND_NOT)]))
            refine go (fun tg kg => XS.astore X46.here hx rfl (hb hby at_119) rfl rfl (l' := #[.val (.int x0), .val (.int x1), .val (.int x2), .val (.int (1 : Int32)), .val (.int (1 : Int32)), .val (.int (x0 &&& (3 : Int32))), .val (.ref u_AND_NOT), .unset]) rfl kg) ?_
            show G (T46.setTop (mkF m 121 #[.val (.int x0), .val (.int x1), .val (.int x2), .val (.int (1 : Int32)), .val (.int (1 : Int32)), .val (.int (x0 &&& (3 : Int32))), .val (.ref u_AND_NOT), .unset] []))
            refine go (fun tg kg => XS.iloadN X46.here hx rfl (hb hby at_121) rfl kg) ?_
            show G (T46.setTop (mkF m 122 #[.val (.int x0), .val (.int x1), .val (.int x2), .val (.int (1 : Int32)), .val (.int (1 : Int32)), .val (.int (x0 &&& (3 : Int32))), .val (.ref u_AND_NOT), .unset] [(.int (1 : Int32))]))
            refine go (fun tg kg => XS.ifNo X46.here hx rfl (hb hby at_122) rfl ((if0 _ _).trans (feq (by decide)).1) kg) ?_
            show G (T46.setTop (mkF m 125 #[.val (.int x0), .val (.int x1), .val (.int x2), .val (.int (1 : Int32)), .val (.int (1 : Int32)), .val (.int (x0 &&& (3 : Int32))), .val (.ref u_AND_NOT), .unset] []))
            refine go (fun tg kg => XS.iload X46.here hx rfl (hb hby at_125) rfl kg) ?_
            show G (T46.setTop (mkF m 127 #[.val (.int x0), .val (.int x1), .val (.int x2), .val (.int (1 : Int32)), .val (.int (1 : Int32)), .val (.int (x0 &&& (3 : Int32))), .val (.ref u_AND_NOT), .unset] [(.int (1 : Int32))]))
            refine go (fun tg kg => XS.ifYes X46.here hx rfl (pc0 := 127) (pc' := 134) rfl (hb hby at_127) rfl ((if0 _ _).trans (feq (by decide)).2) (by decide) (by decide) kg) ?_
            show G (T46.setTop (mkF m 134 #[.val (.int x0), .val (.int x1), .val (.int x2), .val (.int (1 : Int32)), .val (.int (1 : Int32)), .val (.int (x0 &&& (3 : Int32))), .val (.ref u_AND_NOT), .unset] []))
            refine go (fun tg kg => XS.iconst X46.here hx rfl (hb hby at_134) kg) ?_
            show G (T46.setTop (mkF m 135 #[.val (.int x0), .val (.int x1), .val (.int x2), .val (.int (1 : Int32)), .val (.int (1 : Int32)), .val (.int (x0 &&& (3 : Int32))), .val (.ref u_AND_NOT), .unset] [(.int (0 : Int32))]))
            refine go (fun tg kg => XS.istore X46.here hx rfl (hb hby at_135) rfl (l' := #[.val (.int x0), .val (.int x1), .val (.int x2), .val (.int (1 : Int32)), .val (.int (1 : Int32)), .val (.int (x0 &&& (3 : Int32))), .val (.ref u_AND_NOT), .val (.int (0 : Int32))]) rfl kg) ?_
            show G (T46.setTop (mkF m 137 #[.val (.int x0), .val (.int x1), .val (.int x2), .val (.int (1 : Int32)), .val (.int (1 : Int32)), .val (.int (x0 &&& (3 : Int32))), .val (.ref u_AND_NOT), .val (.int (0 : Int32))] []))
            refine go (fun tg kg => XS.aload X46.here hx rfl (hb hby at_137) rfl rfl kg) ?_
            show G (T46.setTop (mkF m 139 #[.val (.int x0), .val (.int x1), .val (.int x2), .val (.int (1 : Int32)), .val (.int (1 : Int32)), .val (.int (x0 &&& (3 : Int32))), .val (.ref u_AND_NOT), .val (.int (0 : Int32))] [(.ref u_AND_NOT)]))
            refine go (fun tg kg => XS.iloadN X46.here hx rfl (hb hby at_139) rfl kg) ?_
            show G (T46.setTop (mkF m 140 #[.val (.int x0), .val (.int x1), .val (.int x2), .val (.int (1 : Int32)), .val (.int (1 : Int32)), .val (.int (x0 &&& (3 : Int32))), .val (.ref u_AND_NOT), .val (.int (0 : Int32))] [(.int (1 : Int32)), (.ref u_AND_NOT)]))
            refine go (fun tg kg => XS.iload X46.here hx rfl (hb hby at_140) rfl kg) ?_
            show G (T46.setTop (mkF m 142 #[.val (.int x0), .val (.int x1), .val (.int x2), .val (.int (1 : Int32)), .val (.int (1 : Int32)), .val (.int (x0 &&& (3 : Int32))), .val (.ref u_AND_NOT), .val (.int (0 : Int32))] [(.int (1 : Int32)), (.int (1 : Int32)), (.ref u_AND_NOT)]))
            obtain ⟨cq47, kq47, q47a, q47b, q47c⟩ := isOf hZ e46 E_u_AND_NOT
            obtain ⟨_, _, ⟨T47, L47, k47, n47⟩, -, X47, ⟨Lc47, hQ47, l47, y47, z47⟩, st47⟩ := X46.virtualBack hx (y := (⟨"com/example/tightbits/tightbits/SetOperation", "keeps", "(ZZ)Z"⟩ : MethodName)) (z := (⟨"com/example/tightbits/tightbits/SetOperation", "keeps", "(ZZ)Z"⟩ : MethodName)) hown (mvT hZ (hw _ (List.mem_of_getElem? (i := 3) rfl))) (mvT hZ (hw _ (List.mem_of_getElem? (i := 4) rfl))) (notFace_of_selects (args := #[]) (mvT hZ (hw _ (List.mem_of_getElem? (i := 6) rfl)))) (mvT hZ (hw _ (List.mem_of_getElem? (i := 6) rfl))) (mvT hZ (hw _ (List.mem_of_getElem? (i := 5) rfl))) (by decide) (backOf (W := 0) (rm1 l Z a0 hw [] u_AND_NOT (1 : Int32) (1 : Int32) (0 : Int32) (1 : Int32) (0 : Int32) h0 n0 Z0 F_u_AND_NOT_keepsBoth F_u_AND_NOT_keepsFirstOnly F_u_AND_NOT_keepsSecondOnly) hZ (hw _ (List.mem_of_getElem? (i := 7) rfl)) (hw _ (List.mem_of_getElem? (i := 1) rfl)) (by decide) (by decide)) q47a q47c (g := (mkF m 142 #[.val (.int x0), .val (.int x1), .val (.int x2), .val (.int (1 : Int32)), .val (.int (1 : Int32)), .val (.int (x0 &&& (3 : Int32))), .val (.ref u_AND_NOT), .val (.int (0 : Int32))] [(.int (1 : Int32)), (.int (1 : Int32)), (.ref u_AND_NOT)])) rfl (by rw [hml]; rfl) (Steps.refl _) (argsL := [(.int (1 : Int32)), (.int (1 : Int32))]) (rest := []) (lenOf pd__ZZ_Z rfl) rfl (by show 2 * 0 + _ ≤ _; exact Nat.le_of_eq rfl) (hb hby at_142) (fun _ _ => ⟨rfl, e46, (by decide : 0 + 0 ≤ _), (by decide : 0 + 0 ≤ _)⟩)
            dsimp only [Pt.U, Pt.locs, Pt.cells, Pt.slots] at X47 l47 y47 z47 st47 hQ47
            subst l47 y47 z47
            obtain ⟨rfl, Nq47, e47⟩ := hQ47
            have N47 := Fr.app N0 Nq47
            refine go (fun tg kg => st47.trans kg) ?_
            show G (T47.setTop (mkF m 145 #[.val (.int x0), .val (.int x1), .val (.int x2), .val (.int (1 : Int32)), .val (.int (1 : Int32)), .val (.int (x0 &&& (3 : Int32))), .val (.ref u_AND_NOT), .val (.int (0 : Int32))] [(.int (own_keeps (1 : Int32) (1 : Int32) (0 : Int32) (1 : Int32) (0 : Int32)))]))
            refine go (fun tg kg => XS.iload X47.here hx rfl (hb hby at_145) rfl kg) ?_
            show G (T47.setTop (mkF m 147 #[.val (.int x0), .val (.int x1), .val (.int x2), .val (.int (1 : Int32)), .val (.int (1 : Int32)), .val (.int (x0 &&& (3 : Int32))), .val (.ref u_AND_NOT), .val (.int (0 : Int32))] [(.int (0 : Int32)), (.int (own_keeps (1 : Int32) (1 : Int32) (0 : Int32) (1 : Int32) (0 : Int32)))]))
            refine go (fun tg kg => XS.icmpNo X47.here hx rfl (hb hby at_147) rfl (teq (by decide)).2 kg) ?_
            show G (T47.setTop (mkF m 150 #[.val (.int x0), .val (.int x1), .val (.int x2), .val (.int (1 : Int32)), .val (.int (1 : Int32)), .val (.int (x0 &&& (3 : Int32))), .val (.ref u_AND_NOT), .val (.int (0 : Int32))] []))
            refine go (fun tg kg => XS.iconst X47.here hx rfl (hb hby at_150) kg) ?_
            show G (T47.setTop (mkF m 151 #[.val (.int x0), .val (.int x1), .val (.int x2), .val (.int (1 : Int32)), .val (.int (1 : Int32)), .val (.int (x0 &&& (3 : Int32))), .val (.ref u_AND_NOT), .val (.int (0 : Int32))] [(.int (1 : Int32))]))
            refine go (fun tg kg => XS.goto X47.here hx rfl (pc0 := 151) (pc' := 155) rfl (hb hby at_151) (by decide) (by decide) kg) ?_
            show G (T47.setTop (mkF m 155 #[.val (.int x0), .val (.int x1), .val (.int x2), .val (.int (1 : Int32)), .val (.int (1 : Int32)), .val (.int (x0 &&& (3 : Int32))), .val (.ref u_AND_NOT), .val (.int (0 : Int32))] [(.int (1 : Int32))]))
            refine fin (some (.int (1 : Int32))) X47 (fun h => absurd h (by decide)) (fun fs hr => retN X47 hx (t := .boolean) hret (by simp) (hb hby at_155) hr) (by decide) (by decide) ?_
            rw [e47]
            exact ⟨rfl, N47⟩
set_option maxRecDepth 65536 in
set_option maxHeartbeats 40000000 in
theorem comes_1 {Post : Tables → Env → Array Value → State → Outcome → State → Prop} (hpost : ∀ tb e args s v u, (limb_1_1.after args s (.returned v) u = true ∧ limb_1_2.after args s (.returned v) u = true ∧ True) → FrameEnd s (.returned v) u (Jvm.fieldLocs frame_1_writes args s ++ Jvm.arrayLocs frame_1_arrays args s ++ Jvm.staticLocs frame_1_statics s) 0 0 → Post tb e args s (.returned v) u) :
    ArmFor flags0 classFile x code maxLocals ret World_1 tables_1 room_1 Calls_1 rest_1 Pre_1 Post := by
  intro l hfl _ _ p e ha hc hk s m args below hf hA hF happ hP
  obtain ⟨hcalls, hrest, hpre⟩ := hP
  obtain ⟨-, -, -, hnamed, -, -, -, hat⟩ := (Spec.applies_iff hf).mp happ
  obtain ⟨hg, hn⟩ := and_e (Cond.before_iff.mp (show (Jvm.Cond.and given_1 narrow_1).before args s = true from hpre))
  obtain ⟨gc, gr0⟩ := and_e hg
  obtain ⟨ga0, gr1⟩ := and_e gr0
  obtain ⟨ga1, gr2⟩ := and_e gr1
  have ga2 := gr2
  obtain ⟨w0, w1, w2, rfl⟩ : ∃ w0 w1 w2 : Value, args = #[w0, w1, w2] := by
    have hs : args.size = 3 := by simpa [Cond.value, given_1] using gc
    obtain ⟨L⟩ := args
    match L, hs with
    | [w0, w1, w2], _ => exact ⟨w0, w1, w2, rfl⟩
  have hw := fun d (hd : d ∈ tables_1) => atoms_spec (ws := Jvm.Cond.code x code maxLocals ret :: tables_1) hat d (List.mem_cons_of_mem _ hd)
  have hfit : Fit s := fun {y c} hc i hi => by
    obtain ⟨ha, rfl⟩ := Array.getElem?_eq_some_iff.mp hc
    have q := List.all_eq_true.mp ((Array.all_eq_true_iff_forall_mem.mp hF) _ (Array.getElem_mem ha)) i (List.mem_range.mpr hi)
    simpa [Array.getElem?_eq_getElem hi] using q
  obtain ⟨i0, ei0⟩ := is_v ga0
  obtain rfl : w0 = (.int i0) := Option.some.inj ei0
  obtain ⟨i1, ei1⟩ := is_v ga1
  obtain rfl : w1 = (.int i1) := Option.some.inj ei1
  obtain ⟨i2, ei2⟩ := is_v ga2
  obtain rfl : w2 = (.int i2) := Option.some.inj ei2
  obtain ⟨nl1, nr1⟩ := and_e hn
  obtain ⟨nl2, nr2⟩ := and_e nr1
  obtain ⟨nl3, nr3⟩ := and_e nr2
  obtain ⟨nl4, nr4⟩ := and_e nr3
  obtain ⟨nl5, nr5⟩ := and_e nr4
  obtain ⟨nl6, nr6⟩ := and_e nr5
  obtain ⟨nl7, nr7⟩ := and_e nr6
  obtain ⟨nl8, nr8⟩ := and_e nr7
  obtain ⟨nl9, nr9⟩ := and_e nr8
  obtain ⟨nl10, nr10⟩ := and_e nr9
  obtain ⟨nl11, nr11⟩ := and_e nr10
  obtain ⟨nl12, nr12⟩ := and_e nr11
  obtain ⟨nl13, nr13⟩ := and_e nr12
  obtain ⟨nl14, nr14⟩ := and_e nr13
  obtain ⟨nl15, nr15⟩ := and_e nr14
  obtain ⟨u_AND, ev_u_AND⟩ := exa_v nl1
  have S_u_AND := Sta.start ev_u_AND (Or.inr ⟨(hw _ (List.mem_of_getElem? (i := 1) rfl)), (hw _ (List.mem_of_getElem? (i := 2) rfl))⟩)
  have E_u_AND := Exa.start ev_u_AND nl1
  obtain ⟨u_OR, ev_u_OR⟩ := exa_v nl3
  have S_u_OR := Sta.start ev_u_OR (Or.inr ⟨(hw _ (List.mem_of_getElem? (i := 1) rfl)), (hw _ (List.mem_of_getElem? (i := 11) rfl))⟩)
  have E_u_OR := Exa.start ev_u_OR nl3
  obtain ⟨u_AND_NOT, ev_u_AND_NOT⟩ := exa_v nl6
  have S_u_AND_NOT := Sta.start ev_u_AND_NOT (Or.inr ⟨(hw _ (List.mem_of_getElem? (i := 1) rfl)), (hw _ (List.mem_of_getElem? (i := 15) rfl))⟩)
  have E_u_AND_NOT := Exa.start ev_u_AND_NOT nl6
  obtain ⟨u_XOR, ev_u_XOR⟩ := exa_v nl8
  have S_u_XOR := Sta.start ev_u_XOR (Or.inr ⟨(hw _ (List.mem_of_getElem? (i := 1) rfl)), (hw _ (List.mem_of_getElem? (i := 17) rfl))⟩)
  have E_u_XOR := Exa.start ev_u_XOR nl8
  have F_u_AND_keepsFirstOnly := Fld.start ((fld_at ev_u_AND).symm.trans (own_eq_int nl2))
  have F_u_OR_keepsSecondOnly := Fld.start ((fld_at ev_u_OR).symm.trans (own_eq_int nl4))
  have F_u_AND_keepsSecondOnly := Fld.start ((fld_at ev_u_AND).symm.trans (own_eq_int nl5))
  have F_u_AND_NOT_keepsSecondOnly := Fld.start ((fld_at ev_u_AND_NOT).symm.trans (own_eq_int nl7))
  have F_u_XOR_keepsBoth := Fld.start ((fld_at ev_u_XOR).symm.trans (own_eq_int nl9))
  have F_u_AND_keepsBoth := Fld.start ((fld_at ev_u_AND).symm.trans (own_eq_int nl10))
  have F_u_AND_NOT_keepsBoth := Fld.start ((fld_at ev_u_AND_NOT).symm.trans (own_eq_int nl11))
  have F_u_OR_keepsBoth := Fld.start ((fld_at ev_u_OR).symm.trans (own_eq_int nl12))
  have F_u_XOR_keepsSecondOnly := Fld.start ((fld_at ev_u_XOR).symm.trans (own_eq_int nl13))
  have F_u_OR_keepsFirstOnly := Fld.start ((fld_at ev_u_OR).symm.trans (own_eq_int nl14))
  have F_u_XOR_keepsFirstOnly := Fld.start ((fld_at ev_u_XOR).symm.trans (own_eq_int nl15))
  have F_u_AND_NOT_keepsFirstOnly := Fld.start ((fld_at ev_u_AND_NOT).symm.trans (own_eq_int nr15))
  obtain ⟨n, o, h1, h2, h3, _, L, rfl, ⟨rfl, N⟩, hq⟩ := rm0 l s _ hw tables_1 i0 i1 i2 u_AND u_OR u_XOR u_AND_NOT s.heap s.heap.size (Nat.le_refl _) S_u_AND S_u_OR S_u_XOR S_u_AND_NOT E_u_AND E_u_OR E_u_XOR E_u_AND_NOT F_u_AND_keepsBoth F_u_AND_keepsFirstOnly F_u_AND_keepsSecondOnly F_u_OR_keepsBoth F_u_OR_keepsFirstOnly F_u_OR_keepsSecondOnly F_u_XOR_keepsBoth F_u_XOR_keepsFirstOnly F_u_XOR_keepsSecondOnly F_u_AND_NOT_keepsBoth F_u_AND_NOT_keepsFirstOnly F_u_AND_NOT_keepsSecondOnly p e ha hc hk s m _ below hf ((Spec.applies_iff_loose hf).mp happ).1 ⟨rfl, State.Warmed39.refl s, rfl⟩ trivial
  refine ⟨n, _, h1, h2, h3, hpost _ _ _ _ _ _ ⟨Cond.after_iff.mpr rfl, Cond.after_iff.mpr (eq_i res_at (Term.int_eval (1)) rfl), trivial⟩ ⟨hq.1, hq.2.1, (hq.2.2.sift fun y hy => Or.inr (N y hy)).mono (by decide) (by decide)⟩⟩
theorem main_1_1 : Claimed_1_1 := comes_1 fun _ _ _ _ _ _ h hF => ⟨h.1, hF⟩
theorem main_1_2 : Claimed_1_2 := comes_1 fun _ _ _ _ _ _ h hF => ⟨h.2.1, hF⟩
end Jvm.Pilot.@@N@@
namespace Jvm.Pilot.@@N@@
open Jvm Jvm.ClassFile Sem Op Lib Jvm.Free Jvm.Stand Jvm.Pilot.@@N@@.Jvm.D
/-! MADE BY PROGRAM (witnessworld.py) out of the Statement's table words and the real class files: 12 classes; the members and pool entries that the words name. The judged class is class 1, her method 1. -/
namespace start1
open Jvm.ClassFile
def u (s : String) : CpInfo := .utf8 (stringToUtf16 s)
/-- a pool by its gaps: so many unusable entries, then the entry; so many at the end -/
def gap : Nat → List CpInfo → List CpInfo
  | 0, r => r
  | n + 1, r => .unusable :: gap n r
def poolList (es : List (Nat × CpInfo)) (last : Nat) : List CpInfo := es.foldr (fun e r => gap e.1 (e.2 :: r)) (gap last [])
def pool (es : List (Nat × CpInfo)) (last : Nat) : Array CpInfo := ⟨poolList es last⟩
def fileOf (pool : Array CpInfo) (this : Nat) (attrs : Array Attribute := #[]) (ms : Array MethodInfo := #[]) (fl : Nat := 33) (sup : Nat := 0) (ifs : Array Nat := #[]) (fds : Array FieldInfo := #[]) : ClassFile where
  minorVersion := 0
  majorVersion := 65
  constantPool := pool
  accessFlags := fl
  thisClass := this
  superClass := sup
  interfaces := ifs
  fields := fds
  methods := ms
  attributes := attrs
def plain (name : String) (sup : Option ClassId) : Class where
  name := name
  kind := .ordinary
  loader := none
  accessFlags := 33
  super := sup
  interfaces := #[]
  cf := none
  fields := #[]
  methods := #[]
  instanceTypes := #[]
  staticTypes := #[]
  resolved := #[]
  callSites := []
  init := .initialized
  statics := none
  mirror := none

def pool0 : Array CpInfo := pool [(5, u "<init>"), (0, u "()V"), (1, .class_ 10), (1, u "java/lang/Object")] 113

def k0m0 : Method := { name := "<init>", desc := "()V", sig := { parameters := [], returnType := none }, accessFlags := 1, code := none }
/-- java/lang/Object -/
def k0 : Class := { plain "java/lang/Object" none with
  accessFlags := 33
  interfaces := #[]
  cf := some (fileOf pool0 8 #[] #[{ accessFlags := 1, nameIndex := 5, descriptorIndex := 6, attributes := #[] }] 33 0 #[] #[])
  fields := #[]
  methods := #[k0m0]
  instanceTypes := #[]
  staticTypes := #[]
  resolved := Array.replicate 124 none
  statics := none }

def pool1 : Array CpInfo := pool [(2, .class_ 4), (1, u "java/lang/Object"), (0, u "<init>"), (0, u "()V"), (0, .fieldref 8 9), (0, .class_ 10), (0, .nameAndType 11 12), (0, u "com/example/tightbits/tightbits/SetOperation"), (0, u "AND"), (0, u "Lcom/example/tightbits/tightbits/SetOperation;"), (0, .fieldref 8 14), (0, .nameAndType 15 12), (0, u "OR"), (0, .fieldref 8 17), (0, .nameAndType 18 12), (0, u "XOR"), (0, .fieldref 8 20), (0, .nameAndType 21 12), (0, u "AND_NOT"), (0, .methodref 8 23), (0, .nameAndType 24 25), (0, u "keeps"), (0, u "(ZZ)Z"), (0, .class_ 27), (0, u "com/example/tightbits/tightbits/SetOperationKeepsPinLaw"), (2, u "law"), (0, u "(III)Z")] 3

def k1m0 : Method := { name := "<init>", desc := "()V", sig := { parameters := [], returnType := none }, accessFlags := 1, code := none }
def k1c1 : Code := { maxStack := 3, maxLocals := 8, code := code, exceptionTable := #[], attributes := #[] }
def k1m1 : Method := { name := "law", desc := "(III)Z", sig := { parameters := [.int, .int, .int], returnType := some .boolean }, accessFlags := 9, code := some k1c1 }
/-- com/example/tightbits/tightbits/SetOperationKeepsPinLaw -/
def k1 : Class := { plain "com/example/tightbits/tightbits/SetOperationKeepsPinLaw" (some 0) with
  accessFlags := 49
  interfaces := #[]
  cf := some (fileOf pool1 26 #[] #[{ accessFlags := 1, nameIndex := 5, descriptorIndex := 6, attributes := #[] }, { accessFlags := 9, nameIndex := 30, descriptorIndex := 31, attributes := #[] }] 49 2 #[] #[])
  fields := #[]
  methods := #[k1m0, k1m1]
  instanceTypes := #[]
  staticTypes := #[]
  resolved := Array.replicate 35 none
  statics := none }

def pool2 : Array CpInfo := pool [(1, .class_ 2), (0, u "java/lang/constant/Constable"), (0, .class_ 4), (0, u "java/lang/Object")] 6

/-- java/lang/constant/Constable -/
def k2 : Class := { plain "java/lang/constant/Constable" (some 0) with
  accessFlags := 1537
  interfaces := #[]
  cf := some (fileOf pool2 1 #[] #[] 1537 3 #[] #[])
  fields := #[]
  methods := #[]
  instanceTypes := #[]
  staticTypes := #[]
  resolved := Array.replicate 11 none
  statics := none }

def pool3 : Array CpInfo := pool [(1, .class_ 2), (0, u "java/lang/Comparable"), (0, .class_ 4), (0, u "java/lang/Object")] 7

/-- java/lang/Comparable -/
def k3 : Class := { plain "java/lang/Comparable" (some 0) with
  accessFlags := 1537
  interfaces := #[]
  cf := some (fileOf pool3 1 #[] #[] 1537 3 #[] #[])
  fields := #[]
  methods := #[]
  instanceTypes := #[]
  staticTypes := #[]
  resolved := Array.replicate 12 none
  statics := none }

def pool4 : Array CpInfo := pool [(1, .class_ 2), (0, u "java/io/Serializable"), (0, .class_ 4), (0, u "java/lang/Object")] 2

/-- java/io/Serializable -/
def k4 : Class := { plain "java/io/Serializable" (some 0) with
  accessFlags := 1537
  interfaces := #[]
  cf := some (fileOf pool4 1 #[] #[] 1537 3 #[] #[])
  fields := #[]
  methods := #[]
  instanceTypes := #[]
  staticTypes := #[]
  resolved := Array.replicate 7 none
  statics := none }

def pool5 : Array CpInfo := pool [(2, .class_ 4), (1, u "java/lang/Enum"), (0, u "name"), (0, u "Ljava/lang/String;"), (2, u "ordinal"), (0, u "I"), (1, .class_ 14), (1, u "java/lang/Object"), (4, u "hash"), (86, .class_ 108), (1, u "java/lang/Enum$EnumDesc"), (2, .class_ 112), (0, u "java/lang/constant/Constable"), (0, .class_ 114), (0, u "java/lang/Comparable"), (0, .class_ 116), (0, u "java/io/Serializable")] 87

/-- java/lang/Enum -/
def k5 : Class := { plain "java/lang/Enum" (some 0) with
  accessFlags := 1057
  interfaces := #[2, 3, 4]
  cf := some (fileOf pool5 2 #[.nestMembers #[106]] #[] 1057 12 #[111, 113, 115] #[{ accessFlags := 18, nameIndex := 5, descriptorIndex := 6, attributes := #[] }, { accessFlags := 18, nameIndex := 9, descriptorIndex := 10, attributes := #[] }, { accessFlags := 2, nameIndex := 19, descriptorIndex := 10, attributes := #[] }])
  fields := #[{ name := "name", type := (.object "java/lang/String"), accessFlags := 18, slot := 0, constantValue := 0 }, { name := "ordinal", type := .int, accessFlags := 18, slot := 1, constantValue := 0 }, { name := "hash", type := .int, accessFlags := 2, slot := 2, constantValue := 0 }]
  methods := #[]
  instanceTypes := #[(.object "java/lang/String"), .int, .int]
  staticTypes := #[]
  resolved := Array.replicate 204 none
  statics := none }

def pool6 : Array CpInfo := pool [(1, .class_ 2), (0, u "com/example/tightbits/tightbits/SetOperation"), (2, u "AND"), (0, u "Lcom/example/tightbits/tightbits/SetOperation;"), (2, u "OR"), (2, u "XOR"), (2, u "AND_NOT"), (2, u "$VALUES"), (0, u "[Lcom/example/tightbits/tightbits/SetOperation;"), (6, .class_ 28), (1, u "java/lang/Enum"), (6, .fieldref 1 36), (0, .nameAndType 37 38), (0, u "keepsBoth"), (0, u "Z"), (0, .fieldref 1 40), (0, .nameAndType 41 38), (0, u "keepsFirstOnly"), (0, .fieldref 1 43), (0, .nameAndType 44 38), (0, u "keepsSecondOnly"), (4, u "bothMask"), (0, u "J"), (2, u "firstOnlyMask"), (2, u "secondOnlyMask"), (27, u "keeps"), (0, u "(ZZ)Z")] 9

def k6c0 : Code := { maxStack := 1, maxLocals := 3, code := prog_36_method_4_code, exceptionTable := #[], attributes := #[] }
def k6m0 : Method := { name := "keeps", desc := "(ZZ)Z", sig := { parameters := [.boolean, .boolean], returnType := some .boolean }, accessFlags := 0, code := some k6c0 }
/-- com/example/tightbits/tightbits/SetOperation -/
def k6 : Class := { plain "com/example/tightbits/tightbits/SetOperation" (some 5) with
  accessFlags := 16432
  interfaces := #[]
  cf := some (fileOf pool6 1 #[] #[{ accessFlags := 0, nameIndex := 84, descriptorIndex := 85, attributes := #[] }] 16432 26 #[] #[{ accessFlags := 16409, nameIndex := 5, descriptorIndex := 6, attributes := #[] }, { accessFlags := 16409, nameIndex := 9, descriptorIndex := 6, attributes := #[] }, { accessFlags := 16409, nameIndex := 12, descriptorIndex := 6, attributes := #[] }, { accessFlags := 16409, nameIndex := 15, descriptorIndex := 6, attributes := #[] }, { accessFlags := 16, nameIndex := 37, descriptorIndex := 38, attributes := #[] }, { accessFlags := 16, nameIndex := 41, descriptorIndex := 38, attributes := #[] }, { accessFlags := 16, nameIndex := 44, descriptorIndex := 38, attributes := #[] }, { accessFlags := 18, nameIndex := 49, descriptorIndex := 50, attributes := #[] }, { accessFlags := 18, nameIndex := 53, descriptorIndex := 50, attributes := #[] }, { accessFlags := 18, nameIndex := 56, descriptorIndex := 50, attributes := #[] }, { accessFlags := 4122, nameIndex := 18, descriptorIndex := 19, attributes := #[] }])
  fields := #[{ name := "AND", type := (.object "com/example/tightbits/tightbits/SetOperation"), accessFlags := 16409, slot := 0, constantValue := 0 }, { name := "OR", type := (.object "com/example/tightbits/tightbits/SetOperation"), accessFlags := 16409, slot := 1, constantValue := 0 }, { name := "XOR", type := (.object "com/example/tightbits/tightbits/SetOperation"), accessFlags := 16409, slot := 2, constantValue := 0 }, { name := "AND_NOT", type := (.object "com/example/tightbits/tightbits/SetOperation"), accessFlags := 16409, slot := 3, constantValue := 0 }, { name := "keepsBoth", type := .boolean, accessFlags := 16, slot := 3, constantValue := 0 }, { name := "keepsFirstOnly", type := .boolean, accessFlags := 16, slot := 4, constantValue := 0 }, { name := "keepsSecondOnly", type := .boolean, accessFlags := 16, slot := 5, constantValue := 0 }, { name := "bothMask", type := .long, accessFlags := 18, slot := 6, constantValue := 0 }, { name := "firstOnlyMask", type := .long, accessFlags := 18, slot := 7, constantValue := 0 }, { name := "secondOnlyMask", type := .long, accessFlags := 18, slot := 8, constantValue := 0 }, { name := "$VALUES", type := (.array (.object "com/example/tightbits/tightbits/SetOperation")), accessFlags := 4122, slot := 4, constantValue := 0 }]
  methods := #[k6m0]
  instanceTypes := #[(.object "java/lang/String"), .int, .int, .boolean, .boolean, .boolean, .long, .long, .long]
  staticTypes := #[(.object "com/example/tightbits/tightbits/SetOperation"), (.object "com/example/tightbits/tightbits/SetOperation"), (.object "com/example/tightbits/tightbits/SetOperation"), (.object "com/example/tightbits/tightbits/SetOperation"), (.array (.object "com/example/tightbits/tightbits/SetOperation"))]
  resolved := Array.replicate 95 none
  statics := some 0 }

def pool7 : Array CpInfo := pool [(1, u "java/lang/Cloneable"), (0, .class_ 1), (0, u "java/lang/Object"), (0, .class_ 3)] 3

/-- java/lang/Cloneable -/
def k7 : Class := { plain "java/lang/Cloneable" (some 0) with
  accessFlags := 1537
  interfaces := #[]
  cf := some (fileOf pool7 2 #[] #[] 1537 4 #[] #[])
  fields := #[]
  methods := #[]
  instanceTypes := #[]
  staticTypes := #[]
  resolved := Array.replicate 8 none
  statics := none }

/-- the primitive byte -/
def k8 : Class := { plain "byte" none with kind := .primitive 'B', accessFlags := 0x411 }
/-- [B -/
def k9 : Class := { plain "[B" (some 0) with kind := .array 8 .byte, interfaces := #[7, 4], accessFlags := 1041 }

/-- the primitive int -/
def k10 : Class := { plain "int" none with kind := .primitive 'I', accessFlags := 0x411 }
/-- [I -/
def k11 : Class := { plain "[I" (some 0) with kind := .array 10 .int, interfaces := #[7, 4], accessFlags := 1041 }

def heap : Heap := #[{ cls := 6, slots := #[.ref 1, .ref 2, .ref 4, .ref 3, .null], vm := .statics 6 },
  { cls := 6, slots := #[.null, .int 0, .int 0, .int 1, .int 0, .int 0, .long 0, .long 0, .long 0], vm := .none },
  { cls := 6, slots := #[.null, .int 0, .int 0, .int 1, .int 1, .int 1, .long 0, .long 0, .long 0], vm := .none },
  { cls := 6, slots := #[.null, .int 0, .int 0, .int 0, .int 1, .int 0, .long 0, .long 0, .long 0], vm := .none },
  { cls := 6, slots := #[.null, .int 0, .int 0, .int 0, .int 1, .int 1, .long 0, .long 0, .long 0], vm := .none }]
def classes : Array Class := #[k0, k1, k2, k3, k4, k5, k6, k7, k8, k9, k10, k11]
def interned : List (Array UInt16 × Addr) := []
def slotsUsed : Nat := 41
def theMethod : MethodId := ⟨1, 1⟩
def args0 : Array Value := #[.int 3, .int 1, .int 0]
def aboutOver (below : List Frame) : State where
  vm := { classes := classes, interned := interned.toArray }
  heap := heap
  slotsUsed := slotsUsed
  threads := #[{ frames := .invoking theMethod args0 :: below }]
def below0 : List Frame := [.native { method := ⟨0, 0⟩, args := #[] }]
def about1 : State := aboutOver below0
def p0 : Program := .bare "" "" ""
def e0 : Env := launch0.env 0 0 0
theorem w_frames : about1.frames = Frame.invoking theMethod args0 :: below0 := rfl
set_option maxRecDepth 65536 in
theorem w_args : argsFit about1.vm theMethod args0 = true := by decide +kernel
set_option maxRecDepth 65536 in
theorem w_heap : heapFits about1 = true := by decide +kernel
set_option maxRecDepth 65536 in
theorem w_runnable : about1.curStatus? = some .runnable := by decide +kernel
set_option maxRecDepth 65536 in
theorem w_alone : about1.alone = true := by decide +kernel
set_option maxRecDepth 65536 in
theorem w_named : about1.methodNamed? x = some theMethod := by decide +kernel
set_option maxRecDepth 65536 in
theorem w_hears : about1.hears theMethod below0 = true := by decide +kernel
set_option maxRecDepth 65536 in
theorem w_ripe : about1.ripe theMethod args0 below0 = true := by decide +kernel
theorem w_running : about1.status = .running := rfl
set_option maxRecDepth 65536 in
theorem w_room : about1.hasRoom e0.platform room_1 = true :=
  launch0.hasRoom_least _ room_1 (by decide +kernel) (by decide +kernel) (by decide +kernel) (by decide +kernel) (by decide +kernel) (by decide +kernel)
theorem allAtoms_all (ts : List Jvm.Cond) (a : Array Jvm.Value) (st : Jvm.State) : (allAtoms ts).before a st = ts.all (fun c => c.before a st) := by
  induction ts with
  | nil => rfl
  | cons c t ih =>
    show (Jvm.Cond.and c (allAtoms t)).before a st = _
    rw [Jvm.Cond.before_and, ih, List.all_cons]
def words1 : List Jvm.Cond := Jvm.Cond.code x code maxLocals ret :: tables_1
/-- a 'code' word, met by the world's own term for the bytes: nothing is compared byte by byte -/
theorem code_word {y : MethodName} {bytes : ByteArray} {mx : Nat} {rt : Option FieldType} {a : Array Value} {s : State} {m : MethodId} {meth : Method} {c : Code} (h1 : s.methodNamed? y = some m) (h2 : s.vm.method? m = some meth) (h3 : meth.code = some c) (h4 : c.code = bytes)
    (h5 : (c.maxLocals == mx && c.exceptionTable.isEmpty && decide (c.maxStack ≤ mostOperands) && decide (meth.sig.returnType = rt) && !meth.locks && decide (parseMethodDescriptor y.desc = some meth.sig)) = true) : (Jvm.Cond.code y bytes mx rt).before a s = true := by
  simp only [Bool.and_eq_true, beq_iff_eq, Bool.not_eq_true', decide_eq_true_eq] at h5
  obtain ⟨⟨⟨⟨⟨g1, g2⟩, g3⟩, g4⟩, g5⟩, g6⟩ := h5
  simp [Cond.before, Cond.holds, Cond.value, h1, h2, h3, h4, g1, g2, g3, g4, g5, g6]
def isCode : Jvm.Cond → Bool
  | .code _ _ _ _ => true
  | _ => false
theorem all_split {L : List Jvm.Cond} {P : Jvm.Cond → Bool} (h1 : L.all (fun c => isCode c || P c) = true) (h2 : ∀ c ∈ L.filter isCode, P c = true) : L.all P = true := by
  refine List.all_eq_true.mpr fun c hc => ?_
  have h := List.all_eq_true.mp h1 c hc
  rcases Bool.eq_false_or_eq_true (isCode c) with hi | hi
  · exact h2 c (List.mem_filter.mpr ⟨hc, hi⟩)
  · simpa [hi] using h
set_option maxRecDepth 65536 in
theorem w_c0 : (Jvm.Cond.code x code maxLocals ret).before args0 about1 = true := code_word (m := ⟨1, 1⟩) (meth := k1m1) (c := k1c1) (by decide +kernel) rfl rfl rfl (by decide +kernel)
set_option maxRecDepth 65536 in
theorem w_c1 : (Jvm.Cond.code ({ cls := "com/example/tightbits/tightbits/SetOperation", name := "keeps", desc := "(ZZ)Z" } : Jvm.MethodName) prog_36_method_4_code (3 : Nat) (Option.some Jvm.ClassFile.FieldType.boolean)).before args0 about1 = true := code_word (m := ⟨6, 0⟩) (meth := k6m0) (c := k6c0) (by decide +kernel) rfl rfl rfl (by decide +kernel)
def codes1 : List Jvm.Cond := [Jvm.Cond.code x code maxLocals ret, Jvm.Cond.code ({ cls := "com/example/tightbits/tightbits/SetOperation", name := "keeps", desc := "(ZZ)Z" } : Jvm.MethodName) prog_36_method_4_code (3 : Nat) (Option.some Jvm.ClassFile.FieldType.boolean)]
set_option maxRecDepth 65536 in
theorem codes_eq : words1.filter isCode = codes1 := rfl
theorem w_codes : ∀ c ∈ words1.filter isCode, c.before args0 about1 = true := by
  rw [codes_eq]
  intro c hc
  simp only [codes1, List.mem_cons, List.not_mem_nil, or_false] at hc
  rcases hc with rfl | rfl
  · exact w_c0
  · exact w_c1
set_option maxRecDepth 65536 in
theorem w_t1 : words1.all (fun c => isCode c || c.before args0 about1) = true := by decide +kernel
theorem w_tables : (allAtoms (Jvm.Cond.code x code maxLocals ret :: tables_1)).before args0 about1 = true := by
  rw [allAtoms_all]
  show words1.all (fun c => c.before args0 about1) = true
  refine all_split ?_ w_codes
  rw [w_t1]
set_option maxRecDepth 65536 in
theorem w_case : (Jvm.Cond.and given_1 narrow_1).before args0 about1 = true := by decide +kernel
theorem w_applies : (headSpec (Jvm.Cond.code x code maxLocals ret :: tables_1) room_1).applies x e0.platform about1 = true :=
  (Spec.applies_iff w_frames).mpr ⟨w_running, w_runnable, w_alone, w_named, w_hears, w_ripe, w_room, w_tables⟩
theorem atStart : AtStart classFile x code maxLocals ret World_1 tables_1 room_1 Calls_1 rest_1 Pre_1 launch0 p0 e0 about1 theMethod args0 below0 :=
  ⟨lists_1, trivial, launch0.admits_env _ _ _, launch0.least_env, fairChoices_fair.cas, fairChoices_fair.clock, w_frames, w_args, w_heap, w_applies, trivial, trivial, w_case⟩
end start1
theorem witness_1 : WitnessClaimed_1 := ⟨start1.p0, start1.e0, start1.about1, start1.theMethod, start1.args0, start1.below0, start1.atStart⟩
end Jvm.Pilot.@@N@@
