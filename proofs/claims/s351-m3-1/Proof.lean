import JvmDerived
import JvmDerived.Pilot.@@N@@Statement
import JvmDerived.Pilot.@@N@@Code
set_option linter.unusedVariables false
set_option linter.unusedSimpArgs false
namespace Jvm.Pilot.@@N@@
open Jvm Jvm.ClassFile Sem Op Lib Jvm.Free Jvm.Stand Jvm.LawKit Jvm.RoadKit Bundle Jvm.Pilot.@@N@@.Jvm.D
/-- a body's contract by a walk whose goal is a predicate G: 'go' takes a step, 'fin' a return -/
theorem own_enter {l : Launch} {y : MethodName} {cd : ByteArray} {ml : Nat} {rt : Option FieldType} {ws : List Jvm.Cond} {R : Room} {Z : State} {h0 : Heap} {as : Array Value} {Q : Option Value → Heap → List Loc → Prop} (hpl : plainFor y = true)
    (body : ∀ (p : Program) (e : Env) (s : State) (m : MethodId) (below : List Frame) (meth : Method) (c : Code) (s₁ : State) (G : State → Prop),
      Stand p l e R s m as below meth c s₁ [] 0 0 → p.tables.exec = Jvm.exec → c.code = cd → c.maxLocals = ml → Z.Warmed39 s.vm → s.vm.findClass y.cls = some m.cls → meth.name = y.name → meth.sig.returnType = rt → s₁.heap = h0 →
      (∀ {a b : State}, (∀ t, Steps p.tables e below b t → Steps p.tables e below a t) → G b → G a) →
      (∀ {T : State} {locs : List Loc} {cells slots : Nat} {g : JFrame} (v : Option Value), Stand p l e R s m as below meth c T locs cells slots → (rt = none → v = none) →
        (∀ fs, (∀ (f : JFrame) (acts : List Action), f.method = m → f.locked = none → f.entered = [] → (doReturn e (T.setTop f) acts v).1 = T.setFrames fs) → Steps p.tables e below (T.setTop g) (T.setFrames fs)) →
        cells ≤ R.cells → slots ≤ R.slots → Q v T.heap locs → G (T.setTop g)) →
      G (s₁.setTop (entryFrame m as ml))) :
    MetFree l y (head1 (Jvm.Cond.code y cd ml rt :: ws) R) (fun a U => a = as ∧ Z.Warmed39 U.vm ∧ U.heap = h0) (fun _ _ _ _ _ => True) (fun _ U o U' => ∃ v L, o = .returned v ∧ Q v U'.heap L ∧ FrameEnd U o U' L R.cells R.slots) := by
  refine MetFree.of_bodySF hpl hisR ?_
  intro p e s m args below meth c s₁ Bd hml0 hP hK
  obtain ⟨rfl, hZ, hh⟩ := hP
  have hlk : meth.locks = false := Bd.notSynchronized
  have key := body p e s m below meth c s₁ (fun a => ∃ t, Steps p.tables e below a t ∧ ∃ o, t.status = .running ∧ Ended t below o ∧ ∃ v L, o = .returned v ∧ Q v t.heap L ∧ FrameEnd s o t L R.cells R.slots)
    (Stand.of_body Bd) Bd.exec Bd.bytes hml0 hZ (findClass_of_methodNamed Bd.named) (name_of_methodNamed Bd.named Bd.method).1 Bd.returns (by rw [← hh, Bd.state]; rfl)
    (fun h g => by obtain ⟨t, h1, h2⟩ := g; exact ⟨t, h t h1, h2⟩)
    (fun {T locs cells slots g} v X hv hs hc hsl hQ => by
      obtain ⟨fs, hr, hrun, hended, hW, hsame⟩ := X.leave (v := v) (fun h => hv (Bd.returns.symm.trans h)) hlk
      exact ⟨_, hs fs hr, _, hrun, hended, v, locs, rfl, hQ, ⟨_, rfl⟩, hW, hsame.mono hc hsl⟩)
  obtain ⟨t, h1, o, h2, h3, h4⟩ := key
  exact ⟨t, o, h1, h2, h3, h4⟩
theorem own_lrem {p : Program} {l : Launch} {e : Env} {R : Room} {s : State} {m : MethodId} {args : Array Value} {below : List Frame} {meth : Method} {c : Code} {T : State} {locs : List Loc} {cells slots : Nat} {g : JFrame} {target : State} (X : Stand p l e R s m args below meth c T locs cells slots) (hx : p.tables.exec = Jvm.exec) (hg : g.method = m) {x y : Int64} {rest : List Value} (hd : decode c.code g.pc = .ok (.lrem, 1)) (hs : g.stack = .long y :: .long x :: rest) (hy : y ≠ 0)
    (hr : Steps p.tables e below (T.setTop { g with pc := g.pc + 1, stack := .long (x % y) :: rest }) target) : Steps p.tables e below (T.setTop g) target := XS.lrem X.here hx hg hd hs hy (by rw [lrem_mod]; exact hr)
theorem own_irr (x : Int32) : ¬ x < x := Int32.lt_irrefl
theorem own_irrL (x : Int64) : ¬ x < x := Int64.lt_irrefl
theorem own_eq_int {a : Term} {k : Int32} {args : Array Value} {first s : State} {o : Option Outcome} {idx : List Nat} (h : (Jvm.Cond.eq a (.int k)).value args first o s idx = some true) : a.eval args first o idx s = some (.int k) := by
  obtain ⟨x, y, ha, hb, k1, k2⟩ := cmp_v (Or.inl h)
  cases (show some (Value.int k) = some y from hb)
  obtain ⟨z, rfl⟩ := k2
  have q : (Jvm.Cond.eq a (.int k)).value args first o s idx = some (decide (z = k)) := by simp [Cond.value, ha, Term.eval]
  rw [gotT q h] at ha
  exact ha
theorem own_eq_ref {a b : Term} {u : Addr} {args : Array Value} {first s : State} {o : Option Outcome} {idx : List Nat} (h : (Jvm.Cond.eq a b).value args first o s idx = some true) (hb : b.eval args first o idx s = some (.ref u)) : a.eval args first o idx s = some (.ref u) := by
  obtain ⟨x, y, ha, hb', k1, k2⟩ := cmp_v (Or.inl h)
  cases hb.symm.trans hb'
  have hr : x.isRef = true := by cases x <;> simp_all [Kin, Value.isRef]
  have q := gotT (eq_R ha hb hr rfl) h
  rw [q] at ha
  exact ha
theorem own_exa_ns {Z : State} {h : Heap} {a : Addr} {C : String} (F : Exa Z h a C) : ∀ cell : Cell, h[a]? = some cell → cell.vm.isStatics = false := fun cell hc => by
  obtain ⟨c, k, h1, -, -, h4, -⟩ := F
  cases hc.symm.trans h1
  exact h4
theorem own_sta_keep {Z : State} {h h' : Heap} {C n d : String} {v : Value} {ws : List Addr} (F : Sta Z h C n d v) (K : Keep h h' ws) (q : ∀ a ∈ ws, ∀ cell : Cell, h[a]? = some cell → cell.vm.isStatics = false) : Sta Z h' C n d v := by
  obtain ⟨cf, i, k, f, st, cell, h1, h2, h3, h4, h5, h6, h7⟩ := F
  exact ⟨cf, i, k, f, st, cell, h1, h2, h3, h4, K.2.1 _ _ h5 (fun z => by rw [q _ z _ h5] at h6; cases h6), h6, h7⟩
theorem own_len {s : State} {args : Array Value} {t : Term} {a : Addr} {cl : Cell} {ty : FieldType} {z : Int32} (ht : t.eval args s none [] s = some (.ref a)) (A : Arr s s.heap a cl ty) (h : (Term.length t).eval args s none [] s = some (.int z)) : cl.slots.size < 2 ^ 31 ∧ cl.slots.size.toInt32 = z := by
  have ha := Arr.fin (State.Warmed39.refl s).alike A
  by_cases hn : cl.slots.size < 2 ^ 31
  · have q := (len_f ht ha hn).symm.trans h
    exact ⟨hn, Value.int.inj (Option.some.inj q)⟩
  · simp [Term.eval, ht, ha] at h
    omega
theorem own_elem {s : State} {args : Array Value} {t : Term} {a : Addr} {cl : Cell} {ty : FieldType} {j : Int32} {v : Value} (ht : t.eval args s none [] s = some (.ref a)) (A : Arr s s.heap a cl ty) (h : (Term.elem t (.int j)).eval args s none [] s = some v) (hn : ¬ j < 0) : cl.slots[j.toNatClampNeg]? = some v :=
  (elem_f ht rfl (Arr.fin (State.Warmed39.refl s).alike A) hn).symm.trans h
theorem own_selp {Z s : State} {a0 args : Array Value} {y : MethodName} {n : Nat} (hZ : Z.Warmed39 s.vm) (wi : (Jvm.Cond.instantiable y.cls n).before a0 Z = true) (wp : (Jvm.Cond.privateMethod y).before a0 Z = true) (wm : (Jvm.Cond.instanceMethod y).before a0 Z = true) (hy : y.cls ≠ "java/lang/invoke/MethodHandle" ∧ y.cls ≠ "java/lang/invoke/VarHandle") : (Jvm.Cond.selects y.cls y y).before args s = true := by
  have wi' : (Jvm.Cond.instantiable y.cls n).before args s = true := mvT hZ wi
  obtain ⟨c, k, h1, h2, -, h4, -⟩ := Cond.instantiable_spec wi'
  exact selects_self_of_private h1 h2 (Bool.or_eq_false_iff.mp h4).1 (Cond.privateMethod_at (mvP hZ wp (args := args))) (mvT hZ wm) hy
def own_ref (t : Int64) : Int32 := if (0 : Int64) < t then (if (9999999999 : Int64) < t then 0 else 1) else (if t < (-9999999999 : Int64) then 0 else 1)
def own_net (t : Int64) : Int32 := if t < (-9999999999 : Int64) then 0 else if (9999999999 : Int64) < t then 0 else 1
theorem own_k1 : (9999999999 : Int64).toInt = 9999999999 := by decide
theorem own_k2 : (-9999999999 : Int64).toInt = -9999999999 := by decide
theorem own_k3 : (-9223372036854775808 : Int64).toInt = -9223372036854775808 := by decide
theorem own_k0 : (0 : Int64).toInt = 0 := by decide
theorem own_net_ref (t : Int64) : own_net t = own_ref t := by
  simp only [own_net, own_ref, Int64.lt_iff_toInt_lt, own_k0, own_k1, own_k2]
  repeat' split
  all_goals first | rfl | (exfalso; omega)
theorem own_net_neg {t : Int64} (h : ¬ t = (-9223372036854775808 : Int64)) : own_net (-t) = own_ref t := by
  have h1 : t.toInt ≠ -9223372036854775808 := fun q => h (Int64.toInt_inj.mp (q.trans own_k3.symm))
  have h2 := c_lneg t
  have h3 := rng64 t
  have h4 := rng64 (-t)
  have h5 : (-t).toInt = -t.toInt := by omega
  simp only [own_net, own_ref, Int64.lt_iff_toInt_lt, own_k0, own_k1, own_k2, h5]
  repeat' split
  all_goals first | rfl | (exfalso; omega)
theorem pn_com_example_orderwright_orderwright_model_PriceIsNetPinLaw : plainName "com/example/orderwright/orderwright/model/PriceIsNetPinLaw" = true := by first | (simp [plainName, overriddenIn]; done) | decide +kernel
theorem ef_1 (m : MethodId) (x0 : Int64) : entryFrame m #[(.long x0)] 2 = mkF m 0 #[.val (.long x0), .second] [] := by first | (simp [entryFrame, mkF, argsToLocals, Value.category]; done) | rfl
theorem d1_0 : decode method_2_code 0 = .ok (.lload_n 0, 1) := by decide +kernel
theorem d1_1 : decode method_2_code 1 = .ok (.lconst 0, 1) := by decide +kernel
theorem d1_2 : decode method_2_code 2 = .ok (.lcmp, 1) := by decide +kernel
theorem d1_3 : decode method_2_code 3 = .ok (.ifCond .le 17, 3) := by decide +kernel
theorem d1_6 : decode method_2_code 6 = .ok (.lload_n 0, 1) := by decide +kernel
theorem d1_7 : decode method_2_code 7 = .ok (.ldc2_w 7, 3) := by decide +kernel
theorem d1_10 : decode method_2_code 10 = .ok (.lcmp, 1) := by decide +kernel
theorem d1_11 : decode method_2_code 11 = .ok (.ifCond .gt 7, 3) := by decide +kernel
theorem d1_18 : decode method_2_code 18 = .ok (.iconst 0, 1) := by decide +kernel
theorem d1_19 : decode method_2_code 19 = .ok (.ireturn, 1) := by decide +kernel
theorem d1_14 : decode method_2_code 14 = .ok (.iconst 1, 1) := by decide +kernel
theorem d1_15 : decode method_2_code 15 = .ok (.goto 4, 3) := by decide +kernel
theorem d1_20 : decode method_2_code 20 = .ok (.lload_n 0, 1) := by decide +kernel
theorem d1_21 : decode method_2_code 21 = .ok (.ldc2_w 9, 3) := by decide +kernel
theorem d1_24 : decode method_2_code 24 = .ok (.lcmp, 1) := by decide +kernel
theorem d1_25 : decode method_2_code 25 = .ok (.ifCond .lt 7, 3) := by decide +kernel
theorem d1_32 : decode method_2_code 32 = .ok (.iconst 0, 1) := by decide +kernel
theorem d1_33 : decode method_2_code 33 = .ok (.ireturn, 1) := by decide +kernel
theorem d1_28 : decode method_2_code 28 = .ok (.iconst 1, 1) := by decide +kernel
theorem d1_29 : decode method_2_code 29 = .ok (.goto 4, 3) := by decide +kernel
def Q_rm1 (Z : State) (t : Int64) (h0 : Heap) (n0 : Nat) (v : Option Value) (h : Heap) (L : List Loc) : Prop := v = some (.int (own_ref t)) ∧ Fr n0 L ∧ h = h0
set_option maxRecDepth 65536 in
set_option maxHeartbeats 40000000 in
theorem rm1 (l : Launch) (Z : State) (a0 : Array Value) (hw : ∀ d ∈ tables_1, d.before a0 Z = true) (ws : List Jvm.Cond) (t : Int64) (h0 : Heap) (n0 : Nat) (Z0 : n0 ≤ h0.size) :
    MetFree l (⟨"com/example/orderwright/orderwright/model/PriceIsNetPinLaw", "reference", "(J)Z"⟩ : MethodName) (head1 (Jvm.Cond.code (⟨"com/example/orderwright/orderwright/model/PriceIsNetPinLaw", "reference", "(J)Z"⟩ : MethodName) method_2_code 2 (some .boolean) :: ws) ({ frames := 0, cells := 0, slots := 0, locals := 0 } : Room)) (fun a U => a = #[(.long t)] ∧ Z.Warmed39 U.vm ∧ U.heap = h0) (fun _ _ _ _ _ => True) (fun _ U o U' => ∃ v L, o = .returned v ∧ Q_rm1 Z t h0 n0 v U'.heap L ∧ FrameEnd U o U' L ({ frames := 0, cells := 0, slots := 0, locals := 0 } : Room).cells ({ frames := 0, cells := 0, slots := 0, locals := 0 } : Room).slots) := by
  refine own_enter (Q := Q_rm1 Z t h0 n0) (plainFor_of_name pn_com_example_orderwright_orderwright_model_PriceIsNetPinLaw) ?_
  intro p e s m below meth c s₁ G X0 hx hby hml hZ hown hnm hret e0 go fin
  replace hown : s.vm.findClass "com/example/orderwright/orderwright/model/PriceIsNetPinLaw" = some m.cls := hown
  replace hnm : meth.name = "reference" := hnm
  replace hml : c.maxLocals = 2 := hml
  rw [ef_1 m t]
  have N0 := Fr.nil n0
  show G (s₁.setTop (mkF m 0 #[.val (.long t), .second] []))
  refine go (fun tg kg => XS.lloadN X0.here hx rfl (hb hby d1_0) rfl kg) ?_
  show G (s₁.setTop (mkF m 1 #[.val (.long t), .second] [(.long t)]))
  refine go (fun tg kg => XS.lconst X0.here hx rfl (hb hby d1_1) kg) ?_
  show G (s₁.setTop (mkF m 2 #[.val (.long t), .second] [(.long (0 : Int64)), (.long t)]))
  refine go (fun tg kg => XS.lcmp X0.here hx rfl (hb hby d1_2) rfl kg) ?_
  show G (s₁.setTop (mkF m 3 #[.val (.long t), .second] [(.int (lcmpW t (0 : Int64)))]))
  by_cases hc1 : (0 : Int64) < t
  · refine go (fun tg kg => XS.ifNo X0.here hx rfl (hb hby d1_3) rfl ((if0 _ _).trans (tlt ((lw_gt t (0 : Int64)).mpr hc1)).2.2.2) kg) ?_
    show G (s₁.setTop (mkF m 6 #[.val (.long t), .second] []))
    refine go (fun tg kg => XS.lloadN X0.here hx rfl (hb hby d1_6) rfl kg) ?_
    show G (s₁.setTop (mkF m 7 #[.val (.long t), .second] [(.long t)]))
    refine go (fun tg kg => X0.ldc2Long hx hown (mvT hZ (hw _ (List.mem_of_getElem? (i := 0) rfl))) (g := (mkF m 7 #[.val (.long t), .second] [(.long t)])) rfl (hb hby d1_7) _ kg) ?_
    show G (s₁.setTop (mkF m 10 #[.val (.long t), .second] [(.long (9999999999 : Int64)), (.long t)]))
    refine go (fun tg kg => XS.lcmp X0.here hx rfl (hb hby d1_10) rfl kg) ?_
    show G (s₁.setTop (mkF m 11 #[.val (.long t), .second] [(.int (lcmpW t (9999999999 : Int64)))]))
    by_cases hc2 : (9999999999 : Int64) < t
    · refine go (fun tg kg => XS.ifYes X0.here hx rfl (pc0 := 11) (pc' := 18) rfl (hb hby d1_11) rfl ((if0 _ _).trans (tlt ((lw_gt t (9999999999 : Int64)).mpr hc2)).2.2.1) (by decide) (by decide) kg) ?_
      show G (s₁.setTop (mkF m 18 #[.val (.long t), .second] []))
      refine go (fun tg kg => XS.iconst X0.here hx rfl (hb hby d1_18) kg) ?_
      show G (s₁.setTop (mkF m 19 #[.val (.long t), .second] [(.int (0 : Int32))]))
      refine fin (some (.int (0 : Int32))) X0 (fun h => absurd h (by decide)) (fun fs hr => retN X0 hx (t := .boolean) hret (by simp) (hb hby d1_19) hr) (by decide) (by decide) ?_
      rw [e0]
      exact ⟨by simp only [own_ref, hc1, hc2, reduceIte], N0, rfl⟩
    · refine go (fun tg kg => XS.ifNo X0.here hx rfl (hb hby d1_11) rfl ((if0 _ _).trans (flt (mt (lw_gt t (9999999999 : Int64)).mp hc2)).2.2.1) kg) ?_
      show G (s₁.setTop (mkF m 14 #[.val (.long t), .second] []))
      refine go (fun tg kg => XS.iconst X0.here hx rfl (hb hby d1_14) kg) ?_
      show G (s₁.setTop (mkF m 15 #[.val (.long t), .second] [(.int (1 : Int32))]))
      refine go (fun tg kg => XS.goto X0.here hx rfl (pc0 := 15) (pc' := 19) rfl (hb hby d1_15) (by decide) (by decide) kg) ?_
      show G (s₁.setTop (mkF m 19 #[.val (.long t), .second] [(.int (1 : Int32))]))
      refine fin (some (.int (1 : Int32))) X0 (fun h => absurd h (by decide)) (fun fs hr => retN X0 hx (t := .boolean) hret (by simp) (hb hby d1_19) hr) (by decide) (by decide) ?_
      rw [e0]
      exact ⟨by simp only [own_ref, hc1, hc2, reduceIte], N0, rfl⟩
  · refine go (fun tg kg => XS.ifYes X0.here hx rfl (pc0 := 3) (pc' := 20) rfl (hb hby d1_3) rfl ((if0 _ _).trans (flt (mt (lw_gt t (0 : Int64)).mp hc1)).2.2.2) (by decide) (by decide) kg) ?_
    show G (s₁.setTop (mkF m 20 #[.val (.long t), .second] []))
    refine go (fun tg kg => XS.lloadN X0.here hx rfl (hb hby d1_20) rfl kg) ?_
    show G (s₁.setTop (mkF m 21 #[.val (.long t), .second] [(.long t)]))
    refine go (fun tg kg => X0.ldc2Long hx hown (mvT hZ (hw _ (List.mem_of_getElem? (i := 13) rfl))) (g := (mkF m 21 #[.val (.long t), .second] [(.long t)])) rfl (hb hby d1_21) _ kg) ?_
    show G (s₁.setTop (mkF m 24 #[.val (.long t), .second] [(.long (-9999999999 : Int64)), (.long t)]))
    refine go (fun tg kg => XS.lcmp X0.here hx rfl (hb hby d1_24) rfl kg) ?_
    show G (s₁.setTop (mkF m 25 #[.val (.long t), .second] [(.int (lcmpW t (-9999999999 : Int64)))]))
    by_cases hc3 : t < (-9999999999 : Int64)
    · refine go (fun tg kg => XS.ifYes X0.here hx rfl (pc0 := 25) (pc' := 32) rfl (hb hby d1_25) rfl ((if0 _ _).trans (tlt ((lw_lt t (-9999999999 : Int64)).mpr hc3)).1) (by decide) (by decide) kg) ?_
      show G (s₁.setTop (mkF m 32 #[.val (.long t), .second] []))
      refine go (fun tg kg => XS.iconst X0.here hx rfl (hb hby d1_32) kg) ?_
      show G (s₁.setTop (mkF m 33 #[.val (.long t), .second] [(.int (0 : Int32))]))
      refine fin (some (.int (0 : Int32))) X0 (fun h => absurd h (by decide)) (fun fs hr => retN X0 hx (t := .boolean) hret (by simp) (hb hby d1_33) hr) (by decide) (by decide) ?_
      rw [e0]
      exact ⟨by simp only [own_ref, hc1, hc3, reduceIte], N0, rfl⟩
    · refine go (fun tg kg => XS.ifNo X0.here hx rfl (hb hby d1_25) rfl ((if0 _ _).trans (flt (mt (lw_lt t (-9999999999 : Int64)).mp hc3)).1) kg) ?_
      show G (s₁.setTop (mkF m 28 #[.val (.long t), .second] []))
      refine go (fun tg kg => XS.iconst X0.here hx rfl (hb hby d1_28) kg) ?_
      show G (s₁.setTop (mkF m 29 #[.val (.long t), .second] [(.int (1 : Int32))]))
      refine go (fun tg kg => XS.goto X0.here hx rfl (pc0 := 29) (pc' := 33) rfl (hb hby d1_29) (by decide) (by decide) kg) ?_
      show G (s₁.setTop (mkF m 33 #[.val (.long t), .second] [(.int (1 : Int32))]))
      refine fin (some (.int (1 : Int32))) X0 (fun h => absurd h (by decide)) (fun fs hr => retN X0 hx (t := .boolean) hret (by simp) (hb hby d1_33) hr) (by decide) (by decide) ?_
      rw [e0]
      exact ⟨by simp only [own_ref, hc1, hc3, reduceIte], N0, rfl⟩
theorem pn_com_example_orderwright_orderwright_model_Price : plainName "com/example/orderwright/orderwright/model/Price" = true := by first | (simp [plainName, overriddenIn]; done) | decide +kernel
theorem ef_2 (m : MethodId) (x0 : Int64) : entryFrame m #[(.long x0)] 2 = mkF m 0 #[.val (.long x0), .second] [] := by first | (simp [entryFrame, mkF, argsToLocals, Value.category]; done) | rfl
theorem d2_0 : decode prog_81_method_4_code 0 = .ok (.lload_n 0, 1) := by decide +kernel
theorem d2_1 : decode prog_81_method_4_code 1 = .ok (.ldc2_w 22, 3) := by decide +kernel
theorem d2_4 : decode prog_81_method_4_code 4 = .ok (.lcmp, 1) := by decide +kernel
theorem d2_5 : decode prog_81_method_4_code 5 = .ok (.ifCond .lt 15, 3) := by decide +kernel
theorem d2_20 : decode prog_81_method_4_code 20 = .ok (.iconst 0, 1) := by decide +kernel
theorem d2_21 : decode prog_81_method_4_code 21 = .ok (.ireturn, 1) := by decide +kernel
theorem d2_8 : decode prog_81_method_4_code 8 = .ok (.lload_n 0, 1) := by decide +kernel
theorem d2_9 : decode prog_81_method_4_code 9 = .ok (.ldc2_w 9, 3) := by decide +kernel
theorem d2_12 : decode prog_81_method_4_code 12 = .ok (.lcmp, 1) := by decide +kernel
theorem d2_13 : decode prog_81_method_4_code 13 = .ok (.ifCond .gt 7, 3) := by decide +kernel
theorem d2_16 : decode prog_81_method_4_code 16 = .ok (.iconst 1, 1) := by decide +kernel
theorem d2_17 : decode prog_81_method_4_code 17 = .ok (.goto 4, 3) := by decide +kernel
def Q_rm2 (Z : State) (t : Int64) (h0 : Heap) (n0 : Nat) (v : Option Value) (h : Heap) (L : List Loc) : Prop := v = some (.int (own_net t)) ∧ Fr n0 L ∧ h = h0
set_option maxRecDepth 65536 in
set_option maxHeartbeats 40000000 in
theorem rm2 (l : Launch) (Z : State) (a0 : Array Value) (hw : ∀ d ∈ tables_1, d.before a0 Z = true) (ws : List Jvm.Cond) (t : Int64) (h0 : Heap) (n0 : Nat) (Z0 : n0 ≤ h0.size) :
    MetFree l (⟨"com/example/orderwright/orderwright/model/Price", "isNet", "(J)Z"⟩ : MethodName) (head1 (Jvm.Cond.code (⟨"com/example/orderwright/orderwright/model/Price", "isNet", "(J)Z"⟩ : MethodName) prog_81_method_4_code 2 (some .boolean) :: ws) ({ frames := 0, cells := 0, slots := 0, locals := 0 } : Room)) (fun a U => a = #[(.long t)] ∧ Z.Warmed39 U.vm ∧ U.heap = h0) (fun _ _ _ _ _ => True) (fun _ U o U' => ∃ v L, o = .returned v ∧ Q_rm2 Z t h0 n0 v U'.heap L ∧ FrameEnd U o U' L ({ frames := 0, cells := 0, slots := 0, locals := 0 } : Room).cells ({ frames := 0, cells := 0, slots := 0, locals := 0 } : Room).slots) := by
  refine own_enter (Q := Q_rm2 Z t h0 n0) (plainFor_of_name pn_com_example_orderwright_orderwright_model_Price) ?_
  intro p e s m below meth c s₁ G X0 hx hby hml hZ hown hnm hret e0 go fin
  replace hown : s.vm.findClass "com/example/orderwright/orderwright/model/Price" = some m.cls := hown
  replace hnm : meth.name = "isNet" := hnm
  replace hml : c.maxLocals = 2 := hml
  rw [ef_2 m t]
  have N0 := Fr.nil n0
  show G (s₁.setTop (mkF m 0 #[.val (.long t), .second] []))
  refine go (fun tg kg => XS.lloadN X0.here hx rfl (hb hby d2_0) rfl kg) ?_
  show G (s₁.setTop (mkF m 1 #[.val (.long t), .second] [(.long t)]))
  refine go (fun tg kg => X0.ldc2Long hx hown (mvT hZ (hw _ (List.mem_of_getElem? (i := 9) rfl))) (g := (mkF m 1 #[.val (.long t), .second] [(.long t)])) rfl (hb hby d2_1) _ kg) ?_
  show G (s₁.setTop (mkF m 4 #[.val (.long t), .second] [(.long (-9999999999 : Int64)), (.long t)]))
  refine go (fun tg kg => XS.lcmp X0.here hx rfl (hb hby d2_4) rfl kg) ?_
  show G (s₁.setTop (mkF m 5 #[.val (.long t), .second] [(.int (lcmpW t (-9999999999 : Int64)))]))
  by_cases hc1 : t < (-9999999999 : Int64)
  · refine go (fun tg kg => XS.ifYes X0.here hx rfl (pc0 := 5) (pc' := 20) rfl (hb hby d2_5) rfl ((if0 _ _).trans (tlt ((lw_lt t (-9999999999 : Int64)).mpr hc1)).1) (by decide) (by decide) kg) ?_
    show G (s₁.setTop (mkF m 20 #[.val (.long t), .second] []))
    refine go (fun tg kg => XS.iconst X0.here hx rfl (hb hby d2_20) kg) ?_
    show G (s₁.setTop (mkF m 21 #[.val (.long t), .second] [(.int (0 : Int32))]))
    refine fin (some (.int (0 : Int32))) X0 (fun h => absurd h (by decide)) (fun fs hr => retN X0 hx (t := .boolean) hret (by simp) (hb hby d2_21) hr) (by decide) (by decide) ?_
    rw [e0]
    exact ⟨by simp only [own_net, hc1, reduceIte], N0, rfl⟩
  · refine go (fun tg kg => XS.ifNo X0.here hx rfl (hb hby d2_5) rfl ((if0 _ _).trans (flt (mt (lw_lt t (-9999999999 : Int64)).mp hc1)).1) kg) ?_
    show G (s₁.setTop (mkF m 8 #[.val (.long t), .second] []))
    refine go (fun tg kg => XS.lloadN X0.here hx rfl (hb hby d2_8) rfl kg) ?_
    show G (s₁.setTop (mkF m 9 #[.val (.long t), .second] [(.long t)]))
    refine go (fun tg kg => X0.ldc2Long hx hown (mvT hZ (hw _ (List.mem_of_getElem? (i := 10) rfl))) (g := (mkF m 9 #[.val (.long t), .second] [(.long t)])) rfl (hb hby d2_9) _ kg) ?_
    show G (s₁.setTop (mkF m 12 #[.val (.long t), .second] [(.long (9999999999 : Int64)), (.long t)]))
    refine go (fun tg kg => XS.lcmp X0.here hx rfl (hb hby d2_12) rfl kg) ?_
    show G (s₁.setTop (mkF m 13 #[.val (.long t), .second] [(.int (lcmpW t (9999999999 : Int64)))]))
    by_cases hc2 : (9999999999 : Int64) < t
    · refine go (fun tg kg => XS.ifYes X0.here hx rfl (pc0 := 13) (pc' := 20) rfl (hb hby d2_13) rfl ((if0 _ _).trans (tlt ((lw_gt t (9999999999 : Int64)).mpr hc2)).2.2.1) (by decide) (by decide) kg) ?_
      show G (s₁.setTop (mkF m 20 #[.val (.long t), .second] []))
      refine go (fun tg kg => XS.iconst X0.here hx rfl (hb hby d2_20) kg) ?_
      show G (s₁.setTop (mkF m 21 #[.val (.long t), .second] [(.int (0 : Int32))]))
      refine fin (some (.int (0 : Int32))) X0 (fun h => absurd h (by decide)) (fun fs hr => retN X0 hx (t := .boolean) hret (by simp) (hb hby d2_21) hr) (by decide) (by decide) ?_
      rw [e0]
      exact ⟨by simp only [own_net, hc1, hc2, reduceIte], N0, rfl⟩
    · refine go (fun tg kg => XS.ifNo X0.here hx rfl (hb hby d2_13) rfl ((if0 _ _).trans (flt (mt (lw_gt t (9999999999 : Int64)).mp hc2)).2.2.1) kg) ?_
      show G (s₁.setTop (mkF m 16 #[.val (.long t), .second] []))
      refine go (fun tg kg => XS.iconst X0.here hx rfl (hb hby d2_16) kg) ?_
      show G (s₁.setTop (mkF m 17 #[.val (.long t), .second] [(.int (1 : Int32))]))
      refine go (fun tg kg => XS.goto X0.here hx rfl (pc0 := 17) (pc' := 21) rfl (hb hby d2_17) (by decide) (by decide) kg) ?_
      show G (s₁.setTop (mkF m 21 #[.val (.long t), .second] [(.int (1 : Int32))]))
      refine fin (some (.int (1 : Int32))) X0 (fun h => absurd h (by decide)) (fun fs hr => retN X0 hx (t := .boolean) hret (by simp) (hb hby d2_21) hr) (by decide) (by decide) ?_
      rw [e0]
      exact ⟨by simp only [own_net, hc1, hc2, reduceIte], N0, rfl⟩
theorem ef_0 (m : MethodId) (x0 : Int64) (x1 : Int32) (x2 : Int32) : entryFrame m #[(.long x0), (.int x1), (.int x2)] maxLocals = mkF m 0 #[.val (.long x0), .second, .val (.int x1), .val (.int x2), .unset, .unset, .unset, .unset, .unset, .unset, .unset] [] := by first | (simp [entryFrame, mkF, argsToLocals, Value.category, maxLocals]; done) | rfl
theorem pd__J_Z : parseMethodDescriptor "(J)Z" = some ⟨[.long], some .boolean⟩ := by decide +kernel
def Q_rm0 (Z : State) (xx : Int64) (kk : Int32) (sel : Int32) (h0 : Heap) (n0 : Nat) (v : Option Value) (h : Heap) (L : List Loc) : Prop := v = some (.int 1) ∧ Fr n0 L
set_option maxRecDepth 65536 in
set_option maxHeartbeats 40000000 in
theorem rm0 (l : Launch) (Z : State) (a0 : Array Value) (hw : ∀ d ∈ tables_1, d.before a0 Z = true) (ws : List Jvm.Cond) (xx : Int64) (kk : Int32) (sel : Int32) (h0 : Heap) (n0 : Nat) (Z0 : n0 ≤ h0.size) :
    MetFree l x (head1 (Jvm.Cond.code x code maxLocals ret :: ws) room_1) (fun a U => a = #[(.long xx), (.int kk), (.int sel)] ∧ Z.Warmed39 U.vm ∧ U.heap = h0) (fun _ _ _ _ _ => True) (fun _ U o U' => ∃ v L, o = .returned v ∧ Q_rm0 Z xx kk sel h0 n0 v U'.heap L ∧ FrameEnd U o U' L room_1.cells room_1.slots) := by
  refine own_enter (Q := Q_rm0 Z xx kk sel h0 n0) (plainFor_of_name pn_com_example_orderwright_orderwright_model_PriceIsNetPinLaw) ?_
  intro p e s m below meth c s₁ G X0 hx hby hml hZ hown hnm hret e0 go fin
  replace hown : s.vm.findClass "com/example/orderwright/orderwright/model/PriceIsNetPinLaw" = some m.cls := hown
  replace hnm : meth.name = "law" := hnm
  replace hml : c.maxLocals = 11 := hml
  rw [ef_0 m xx kk sel]
  have N0 := Fr.nil n0
  show G (s₁.setTop (mkF m 0 #[.val (.long xx), .second, .val (.int kk), .val (.int sel), .unset, .unset, .unset, .unset, .unset, .unset, .unset] []))
  refine go (fun tg kg => XS.iloadN X0.here hx rfl (hb hby at_0) rfl kg) ?_
  show G (s₁.setTop (mkF m 1 #[.val (.long xx), .second, .val (.int kk), .val (.int sel), .unset, .unset, .unset, .unset, .unset, .unset, .unset] [(.int sel)]))
  refine go (fun tg kg => XS.iconst X0.here hx rfl (hb hby at_1) kg) ?_
  show G (s₁.setTop (mkF m 2 #[.val (.long xx), .second, .val (.int kk), .val (.int sel), .unset, .unset, .unset, .unset, .unset, .unset, .unset] [(.int (3 : Int32)), (.int sel)]))
  refine go (fun tg kg => XS.iand X0.here hx rfl (hb hby at_2) rfl kg) ?_
  show G (s₁.setTop (mkF m 3 #[.val (.long xx), .second, .val (.int kk), .val (.int sel), .unset, .unset, .unset, .unset, .unset, .unset, .unset] [(.int (sel &&& (3 : Int32)))]))
  refine go (fun tg kg => XS.istore X0.here hx rfl (hb hby at_3) rfl (l' := #[.val (.long xx), .second, .val (.int kk), .val (.int sel), .val (.int (sel &&& (3 : Int32))), .unset, .unset, .unset, .unset, .unset, .unset]) rfl kg) ?_
  show G (s₁.setTop (mkF m 5 #[.val (.long xx), .second, .val (.int kk), .val (.int sel), .val (.int (sel &&& (3 : Int32))), .unset, .unset, .unset, .unset, .unset, .unset] []))
  refine go (fun tg kg => XS.iloadN X0.here hx rfl (hb hby at_5) rfl kg) ?_
  show G (s₁.setTop (mkF m 6 #[.val (.long xx), .second, .val (.int kk), .val (.int sel), .val (.int (sel &&& (3 : Int32))), .unset, .unset, .unset, .unset, .unset, .unset] [(.int kk)]))
  refine go (fun tg kg => XS.iconst X0.here hx rfl (hb hby at_6) kg) ?_
  show G (s₁.setTop (mkF m 7 #[.val (.long xx), .second, .val (.int kk), .val (.int sel), .val (.int (sel &&& (3 : Int32))), .unset, .unset, .unset, .unset, .unset, .unset] [(.int (4 : Int32)), (.int kk)]))
  refine go (fun tg kg => iremM X0 hx rfl (hb hby at_7) rfl (by decide) kg) ?_
  show G (s₁.setTop (mkF m 8 #[.val (.long xx), .second, .val (.int kk), .val (.int sel), .val (.int (sel &&& (3 : Int32))), .unset, .unset, .unset, .unset, .unset, .unset] [(.int (kk % (4 : Int32)))]))
  refine go (fun tg kg => XS.i2l X0.here hx rfl (hb hby at_8) rfl kg) ?_
  show G (s₁.setTop (mkF m 9 #[.val (.long xx), .second, .val (.int kk), .val (.int sel), .val (.int (sel &&& (3 : Int32))), .unset, .unset, .unset, .unset, .unset, .unset] [(.long ((kk % (4 : Int32)).toInt64))]))
  refine go (fun tg kg => XS.lstore X0.here hx rfl (hb hby at_9) rfl (l' := #[.val (.long xx), .second, .val (.int kk), .val (.int sel), .val (.int (sel &&& (3 : Int32))), .val (.long ((kk % (4 : Int32)).toInt64)), .second, .unset, .unset, .unset, .unset]) rfl kg) ?_
  show G (s₁.setTop (mkF m 11 #[.val (.long xx), .second, .val (.int kk), .val (.int sel), .val (.int (sel &&& (3 : Int32))), .val (.long ((kk % (4 : Int32)).toInt64)), .second, .unset, .unset, .unset, .unset] []))
  refine go (fun tg kg => XS.iload X0.here hx rfl (hb hby at_11) rfl kg) ?_
  show G (s₁.setTop (mkF m 13 #[.val (.long xx), .second, .val (.int kk), .val (.int sel), .val (.int (sel &&& (3 : Int32))), .val (.long ((kk % (4 : Int32)).toInt64)), .second, .unset, .unset, .unset, .unset] [(.int (sel &&& (3 : Int32)))]))
  by_cases hc1 : (sel &&& (3 : Int32)) = (0 : Int32)
  · refine go (fun tg kg => XS.ifNo X0.here hx rfl (hb hby at_13) rfl ((if0 _ _).trans (teq hc1).2) kg) ?_
    show G (s₁.setTop (mkF m 16 #[.val (.long xx), .second, .val (.int kk), .val (.int sel), .val (.int (sel &&& (3 : Int32))), .val (.long ((kk % (4 : Int32)).toInt64)), .second, .unset, .unset, .unset, .unset] []))
    refine go (fun tg kg => XS.lloadN X0.here hx rfl (hb hby at_16) rfl kg) ?_
    show G (s₁.setTop (mkF m 17 #[.val (.long xx), .second, .val (.int kk), .val (.int sel), .val (.int (sel &&& (3 : Int32))), .val (.long ((kk % (4 : Int32)).toInt64)), .second, .unset, .unset, .unset, .unset] [(.long xx)]))
    refine go (fun tg kg => XS.lstore X0.here hx rfl (hb hby at_17) rfl (l' := #[.val (.long xx), .second, .val (.int kk), .val (.int sel), .val (.int (sel &&& (3 : Int32))), .val (.long ((kk % (4 : Int32)).toInt64)), .second, .val (.long xx), .second, .unset, .unset]) rfl kg) ?_
    show G (s₁.setTop (mkF m 19 #[.val (.long xx), .second, .val (.int kk), .val (.int sel), .val (.int (sel &&& (3 : Int32))), .val (.long ((kk % (4 : Int32)).toInt64)), .second, .val (.long xx), .second, .unset, .unset] []))
    refine go (fun tg kg => XS.goto X0.here hx rfl (pc0 := 19) (pc' := 88) rfl (hb hby at_19) (by decide) (by decide) kg) ?_
    show G (s₁.setTop (mkF m 88 #[.val (.long xx), .second, .val (.int kk), .val (.int sel), .val (.int (sel &&& (3 : Int32))), .val (.long ((kk % (4 : Int32)).toInt64)), .second, .val (.long xx), .second, .unset, .unset] []))
    refine go (fun tg kg => XS.lload X0.here hx rfl (hb hby at_88) rfl kg) ?_
    show G (s₁.setTop (mkF m 90 #[.val (.long xx), .second, .val (.int kk), .val (.int sel), .val (.int (sel &&& (3 : Int32))), .val (.long ((kk % (4 : Int32)).toInt64)), .second, .val (.long xx), .second, .unset, .unset] [(.long xx)]))
    obtain ⟨_, _, ⟨T2, L2, k2, n2⟩, -, X2, ⟨Lc2, hQ2, l2, y2, z2⟩, st2⟩ := Jvm.LawKit.callS X0 hx (y := (⟨"com/example/orderwright/orderwright/model/PriceIsNetPinLaw", "reference", "(J)Z"⟩ : MethodName)) hown (mvT hZ (hw _ (List.mem_of_getElem? (i := 1) rfl))) (mvT hZ (hw _ (List.mem_of_getElem? (i := 2) rfl))) (mvT hZ (hw _ (List.mem_of_getElem? (i := 3) rfl))) (mvT hZ (hw _ (List.mem_of_getElem? (i := 4) rfl))) (by decide) (backOf (W := 0) (rm1 l Z a0 hw [] xx h0 n0 Z0 ) hZ (hw _ (List.mem_of_getElem? (i := 4) rfl)) (hw _ (List.mem_of_getElem? (i := 3) rfl)) (by decide) (by decide)) (g := (mkF m 90 #[.val (.long xx), .second, .val (.int kk), .val (.int sel), .val (.int (sel &&& (3 : Int32))), .val (.long ((kk % (4 : Int32)).toInt64)), .second, .val (.long xx), .second, .unset, .unset] [(.long xx)])) rfl (by rw [hml]; rfl) (argsL := [(.long xx)]) (rest := []) (lenOf pd__J_Z rfl) rfl (by show 2 * 0 + _ ≤ _; exact Nat.le_of_eq rfl) (hb hby at_90) (fun _ _ => ⟨rfl, e0, (by decide : 0 + 0 ≤ _), (by decide : 0 + 0 ≤ _)⟩)
    dsimp only [Pt.U, Pt.locs, Pt.cells, Pt.slots] at X2 l2 y2 z2 st2 hQ2
    subst l2 y2 z2
    obtain ⟨rfl, Nq2, e2⟩ := hQ2
    have N2 := Fr.app N0 Nq2
    refine go st2 ?_
    show G (T2.setTop (mkF m 93 #[.val (.long xx), .second, .val (.int kk), .val (.int sel), .val (.int (sel &&& (3 : Int32))), .val (.long ((kk % (4 : Int32)).toInt64)), .second, .val (.long xx), .second, .unset, .unset] [(.int (own_ref xx))]))
    refine go (fun tg kg => XS.istore X2.here hx rfl (hb hby at_93) rfl (l' := #[.val (.long xx), .second, .val (.int kk), .val (.int sel), .val (.int (sel &&& (3 : Int32))), .val (.long ((kk % (4 : Int32)).toInt64)), .second, .val (.long xx), .second, .val (.int (own_ref xx)), .unset]) rfl kg) ?_
    show G (T2.setTop (mkF m 95 #[.val (.long xx), .second, .val (.int kk), .val (.int sel), .val (.int (sel &&& (3 : Int32))), .val (.long ((kk % (4 : Int32)).toInt64)), .second, .val (.long xx), .second, .val (.int (own_ref xx)), .unset] []))
    refine go (fun tg kg => XS.lload X2.here hx rfl (hb hby at_95) rfl kg) ?_
    show G (T2.setTop (mkF m 97 #[.val (.long xx), .second, .val (.int kk), .val (.int sel), .val (.int (sel &&& (3 : Int32))), .val (.long ((kk % (4 : Int32)).toInt64)), .second, .val (.long xx), .second, .val (.int (own_ref xx)), .unset] [(.long xx)]))
    obtain ⟨_, _, ⟨T3, L3, k3, n3⟩, -, X3, ⟨Lc3, hQ3, l3, y3, z3⟩, st3⟩ := Jvm.LawKit.callS X2 hx (y := (⟨"com/example/orderwright/orderwright/model/Price", "isNet", "(J)Z"⟩ : MethodName)) hown (mvT hZ (hw _ (List.mem_of_getElem? (i := 5) rfl))) (mvT hZ (hw _ (List.mem_of_getElem? (i := 6) rfl))) (mvT hZ (hw _ (List.mem_of_getElem? (i := 7) rfl))) (mvT hZ (hw _ (List.mem_of_getElem? (i := 8) rfl))) (by decide) (backOf (W := 0) (rm2 l Z a0 hw [] xx h0 n0 Z0 ) hZ (hw _ (List.mem_of_getElem? (i := 8) rfl)) (hw _ (List.mem_of_getElem? (i := 7) rfl)) (by decide) (by decide)) (g := (mkF m 97 #[.val (.long xx), .second, .val (.int kk), .val (.int sel), .val (.int (sel &&& (3 : Int32))), .val (.long ((kk % (4 : Int32)).toInt64)), .second, .val (.long xx), .second, .val (.int (own_ref xx)), .unset] [(.long xx)])) rfl (by rw [hml]; rfl) (argsL := [(.long xx)]) (rest := []) (lenOf pd__J_Z rfl) rfl (by show 2 * 0 + _ ≤ _; exact Nat.le_of_eq rfl) (hb hby at_97) (fun _ _ => ⟨rfl, e2, (by decide : 0 + 0 ≤ _), (by decide : 0 + 0 ≤ _)⟩)
    dsimp only [Pt.U, Pt.locs, Pt.cells, Pt.slots] at X3 l3 y3 z3 st3 hQ3
    subst l3 y3 z3
    obtain ⟨rfl, Nq3, e3⟩ := hQ3
    have N3 := Fr.app N2 Nq3
    refine go st3 ?_
    show G (T3.setTop (mkF m 100 #[.val (.long xx), .second, .val (.int kk), .val (.int sel), .val (.int (sel &&& (3 : Int32))), .val (.long ((kk % (4 : Int32)).toInt64)), .second, .val (.long xx), .second, .val (.int (own_ref xx)), .unset] [(.int (own_net xx))]))
    refine go (fun tg kg => XS.iload X3.here hx rfl (hb hby at_100) rfl kg) ?_
    show G (T3.setTop (mkF m 102 #[.val (.long xx), .second, .val (.int kk), .val (.int sel), .val (.int (sel &&& (3 : Int32))), .val (.long ((kk % (4 : Int32)).toInt64)), .second, .val (.long xx), .second, .val (.int (own_ref xx)), .unset] [(.int (own_ref xx)), (.int (own_net xx))]))
    refine go (fun tg kg => XS.icmpYes X3.here hx rfl (pc0 := 102) (pc' := 107) rfl (hb hby at_102) rfl (teq (own_net_ref _)).1 (by decide) (by decide) kg) ?_
    show G (T3.setTop (mkF m 107 #[.val (.long xx), .second, .val (.int kk), .val (.int sel), .val (.int (sel &&& (3 : Int32))), .val (.long ((kk % (4 : Int32)).toInt64)), .second, .val (.long xx), .second, .val (.int (own_ref xx)), .unset] []))
    refine go (fun tg kg => XS.lload X3.here hx rfl (hb hby at_107) rfl kg) ?_
    show G (T3.setTop (mkF m 109 #[.val (.long xx), .second, .val (.int kk), .val (.int sel), .val (.int (sel &&& (3 : Int32))), .val (.long ((kk % (4 : Int32)).toInt64)), .second, .val (.long xx), .second, .val (.int (own_ref xx)), .unset] [(.long xx)]))
    refine go (fun tg kg => X3.ldc2Long hx hown (mvT hZ (hw _ (List.mem_of_getElem? (i := 11) rfl))) (g := (mkF m 109 #[.val (.long xx), .second, .val (.int kk), .val (.int sel), .val (.int (sel &&& (3 : Int32))), .val (.long ((kk % (4 : Int32)).toInt64)), .second, .val (.long xx), .second, .val (.int (own_ref xx)), .unset] [(.long xx)])) rfl (hb hby at_109) _ kg) ?_
    show G (T3.setTop (mkF m 112 #[.val (.long xx), .second, .val (.int kk), .val (.int sel), .val (.int (sel &&& (3 : Int32))), .val (.long ((kk % (4 : Int32)).toInt64)), .second, .val (.long xx), .second, .val (.int (own_ref xx)), .unset] [(.long (-9223372036854775808 : Int64)), (.long xx)]))
    refine go (fun tg kg => XS.lcmp X3.here hx rfl (hb hby at_112) rfl kg) ?_
    show G (T3.setTop (mkF m 113 #[.val (.long xx), .second, .val (.int kk), .val (.int sel), .val (.int (sel &&& (3 : Int32))), .val (.long ((kk % (4 : Int32)).toInt64)), .second, .val (.long xx), .second, .val (.int (own_ref xx)), .unset] [(.int (lcmpW xx (-9223372036854775808 : Int64)))]))
    by_cases hc4 : xx = (-9223372036854775808 : Int64)
    · refine go (fun tg kg => XS.ifYes X3.here hx rfl (pc0 := 113) (pc' := 129) rfl (hb hby at_113) rfl ((if0 _ _).trans (teq ((lw_eq xx (-9223372036854775808 : Int64)).mpr hc4)).1) (by decide) (by decide) kg) ?_
      show G (T3.setTop (mkF m 129 #[.val (.long xx), .second, .val (.int kk), .val (.int sel), .val (.int (sel &&& (3 : Int32))), .val (.long ((kk % (4 : Int32)).toInt64)), .second, .val (.long xx), .second, .val (.int (own_ref xx)), .unset] []))
      refine go (fun tg kg => XS.iconst X3.here hx rfl (hb hby at_129) kg) ?_
      show G (T3.setTop (mkF m 130 #[.val (.long xx), .second, .val (.int kk), .val (.int sel), .val (.int (sel &&& (3 : Int32))), .val (.long ((kk % (4 : Int32)).toInt64)), .second, .val (.long xx), .second, .val (.int (own_ref xx)), .unset] [(.int (1 : Int32))]))
      refine fin (some (.int (1 : Int32))) X3 (fun h => absurd h (by decide)) (fun fs hr => retN X3 hx (t := .boolean) hret (by simp) (hb hby at_130) hr) (by decide) (by decide) ?_
      rw [e3]
      exact ⟨rfl, N3⟩
    · refine go (fun tg kg => XS.ifNo X3.here hx rfl (hb hby at_113) rfl ((if0 _ _).trans (feq (mt (lw_eq xx (-9223372036854775808 : Int64)).mp hc4)).1) kg) ?_
      show G (T3.setTop (mkF m 116 #[.val (.long xx), .second, .val (.int kk), .val (.int sel), .val (.int (sel &&& (3 : Int32))), .val (.long ((kk % (4 : Int32)).toInt64)), .second, .val (.long xx), .second, .val (.int (own_ref xx)), .unset] []))
      refine go (fun tg kg => XS.lload X3.here hx rfl (hb hby at_116) rfl kg) ?_
      show G (T3.setTop (mkF m 118 #[.val (.long xx), .second, .val (.int kk), .val (.int sel), .val (.int (sel &&& (3 : Int32))), .val (.long ((kk % (4 : Int32)).toInt64)), .second, .val (.long xx), .second, .val (.int (own_ref xx)), .unset] [(.long xx)]))
      refine go (fun tg kg => XS.lneg X3.here hx rfl (hb hby at_118) rfl kg) ?_
      show G (T3.setTop (mkF m 119 #[.val (.long xx), .second, .val (.int kk), .val (.int sel), .val (.int (sel &&& (3 : Int32))), .val (.long ((kk % (4 : Int32)).toInt64)), .second, .val (.long xx), .second, .val (.int (own_ref xx)), .unset] [(.long (-xx))]))
      obtain ⟨_, _, ⟨T5, L5, k5, n5⟩, -, X5, ⟨Lc5, hQ5, l5, y5, z5⟩, st5⟩ := Jvm.LawKit.callS X3 hx (y := (⟨"com/example/orderwright/orderwright/model/Price", "isNet", "(J)Z"⟩ : MethodName)) hown (mvT hZ (hw _ (List.mem_of_getElem? (i := 5) rfl))) (mvT hZ (hw _ (List.mem_of_getElem? (i := 6) rfl))) (mvT hZ (hw _ (List.mem_of_getElem? (i := 7) rfl))) (mvT hZ (hw _ (List.mem_of_getElem? (i := 8) rfl))) (by decide) (backOf (W := 0) (rm2 l Z a0 hw [] (-xx) h0 n0 Z0 ) hZ (hw _ (List.mem_of_getElem? (i := 8) rfl)) (hw _ (List.mem_of_getElem? (i := 7) rfl)) (by decide) (by decide)) (g := (mkF m 119 #[.val (.long xx), .second, .val (.int kk), .val (.int sel), .val (.int (sel &&& (3 : Int32))), .val (.long ((kk % (4 : Int32)).toInt64)), .second, .val (.long xx), .second, .val (.int (own_ref xx)), .unset] [(.long (-xx))])) rfl (by rw [hml]; rfl) (argsL := [(.long (-xx))]) (rest := []) (lenOf pd__J_Z rfl) rfl (by show 2 * 0 + _ ≤ _; exact Nat.le_of_eq rfl) (hb hby at_119) (fun _ _ => ⟨rfl, e3, (by decide : 0 + 0 ≤ _), (by decide : 0 + 0 ≤ _)⟩)
      dsimp only [Pt.U, Pt.locs, Pt.cells, Pt.slots] at X5 l5 y5 z5 st5 hQ5
      subst l5 y5 z5
      obtain ⟨rfl, Nq5, e5⟩ := hQ5
      have N5 := Fr.app N3 Nq5
      refine go st5 ?_
      show G (T5.setTop (mkF m 122 #[.val (.long xx), .second, .val (.int kk), .val (.int sel), .val (.int (sel &&& (3 : Int32))), .val (.long ((kk % (4 : Int32)).toInt64)), .second, .val (.long xx), .second, .val (.int (own_ref xx)), .unset] [(.int (own_net (-xx)))]))
      refine go (fun tg kg => XS.iload X5.here hx rfl (hb hby at_122) rfl kg) ?_
      show G (T5.setTop (mkF m 124 #[.val (.long xx), .second, .val (.int kk), .val (.int sel), .val (.int (sel &&& (3 : Int32))), .val (.long ((kk % (4 : Int32)).toInt64)), .second, .val (.long xx), .second, .val (.int (own_ref xx)), .unset] [(.int (own_ref xx)), (.int (own_net (-xx)))]))
      refine go (fun tg kg => XS.icmpYes X5.here hx rfl (pc0 := 124) (pc' := 129) rfl (hb hby at_124) rfl (teq (own_net_neg hc4)).1 (by decide) (by decide) kg) ?_
      show G (T5.setTop (mkF m 129 #[.val (.long xx), .second, .val (.int kk), .val (.int sel), .val (.int (sel &&& (3 : Int32))), .val (.long ((kk % (4 : Int32)).toInt64)), .second, .val (.long xx), .second, .val (.int (own_ref xx)), .unset] []))
      refine go (fun tg kg => XS.iconst X5.here hx rfl (hb hby at_129) kg) ?_
      show G (T5.setTop (mkF m 130 #[.val (.long xx), .second, .val (.int kk), .val (.int sel), .val (.int (sel &&& (3 : Int32))), .val (.long ((kk % (4 : Int32)).toInt64)), .second, .val (.long xx), .second, .val (.int (own_ref xx)), .unset] [(.int (1 : Int32))]))
      refine fin (some (.int (1 : Int32))) X5 (fun h => absurd h (by decide)) (fun fs hr => retN X5 hx (t := .boolean) hret (by simp) (hb hby at_130) hr) (by decide) (by decide) ?_
      rw [e5]
      exact ⟨rfl, N5⟩
  · refine go (fun tg kg => XS.ifYes X0.here hx rfl (pc0 := 13) (pc' := 22) rfl (hb hby at_13) rfl ((if0 _ _).trans (feq hc1).2) (by decide) (by decide) kg) ?_
    show G (s₁.setTop (mkF m 22 #[.val (.long xx), .second, .val (.int kk), .val (.int sel), .val (.int (sel &&& (3 : Int32))), .val (.long ((kk % (4 : Int32)).toInt64)), .second, .unset, .unset, .unset, .unset] []))
    refine go (fun tg kg => XS.iload X0.here hx rfl (hb hby at_22) rfl kg) ?_
    show G (s₁.setTop (mkF m 24 #[.val (.long xx), .second, .val (.int kk), .val (.int sel), .val (.int (sel &&& (3 : Int32))), .val (.long ((kk % (4 : Int32)).toInt64)), .second, .unset, .unset, .unset, .unset] [(.int (sel &&& (3 : Int32)))]))
    refine go (fun tg kg => XS.iconst X0.here hx rfl (hb hby at_24) kg) ?_
    show G (s₁.setTop (mkF m 25 #[.val (.long xx), .second, .val (.int kk), .val (.int sel), .val (.int (sel &&& (3 : Int32))), .val (.long ((kk % (4 : Int32)).toInt64)), .second, .unset, .unset, .unset, .unset] [(.int (1 : Int32)), (.int (sel &&& (3 : Int32)))]))
    by_cases hc6 : (sel &&& (3 : Int32)) = (1 : Int32)
    · refine go (fun tg kg => XS.icmpNo X0.here hx rfl (hb hby at_25) rfl (teq hc6).2 kg) ?_
      show G (s₁.setTop (mkF m 28 #[.val (.long xx), .second, .val (.int kk), .val (.int sel), .val (.int (sel &&& (3 : Int32))), .val (.long ((kk % (4 : Int32)).toInt64)), .second, .unset, .unset, .unset, .unset] []))
      refine go (fun tg kg => X0.ldc2Long hx hown (mvT hZ (hw _ (List.mem_of_getElem? (i := 0) rfl))) (g := (mkF m 28 #[.val (.long xx), .second, .val (.int kk), .val (.int sel), .val (.int (sel &&& (3 : Int32))), .val (.long ((kk % (4 : Int32)).toInt64)), .second, .unset, .unset, .unset, .unset] [])) rfl (hb hby at_28) _ kg) ?_
      show G (s₁.setTop (mkF m 31 #[.val (.long xx), .second, .val (.int kk), .val (.int sel), .val (.int (sel &&& (3 : Int32))), .val (.long ((kk % (4 : Int32)).toInt64)), .second, .unset, .unset, .unset, .unset] [(.long (9999999999 : Int64))]))
      refine go (fun tg kg => XS.lload X0.here hx rfl (hb hby at_31) rfl kg) ?_
      show G (s₁.setTop (mkF m 33 #[.val (.long xx), .second, .val (.int kk), .val (.int sel), .val (.int (sel &&& (3 : Int32))), .val (.long ((kk % (4 : Int32)).toInt64)), .second, .unset, .unset, .unset, .unset] [(.long ((kk % (4 : Int32)).toInt64)), (.long (9999999999 : Int64))]))
      refine go (fun tg kg => XS.ladd X0.here hx rfl (hb hby at_33) rfl kg) ?_
      show G (s₁.setTop (mkF m 34 #[.val (.long xx), .second, .val (.int kk), .val (.int sel), .val (.int (sel &&& (3 : Int32))), .val (.long ((kk % (4 : Int32)).toInt64)), .second, .unset, .unset, .unset, .unset] [(.long ((9999999999 : Int64) + ((kk % (4 : Int32)).toInt64)))]))
      refine go (fun tg kg => XS.lstore X0.here hx rfl (hb hby at_34) rfl (l' := #[.val (.long xx), .second, .val (.int kk), .val (.int sel), .val (.int (sel &&& (3 : Int32))), .val (.long ((kk % (4 : Int32)).toInt64)), .second, .val (.long ((9999999999 : Int64) + ((kk % (4 : Int32)).toInt64))), .second, .unset, .unset]) rfl kg) ?_
      show G (s₁.setTop (mkF m 36 #[.val (.long xx), .second, .val (.int kk), .val (.int sel), .val (.int (sel &&& (3 : Int32))), .val (.long ((kk % (4 : Int32)).toInt64)), .second, .val (.long ((9999999999 : Int64) + ((kk % (4 : Int32)).toInt64))), .second, .unset, .unset] []))
      refine go (fun tg kg => XS.goto X0.here hx rfl (pc0 := 36) (pc' := 88) rfl (hb hby at_36) (by decide) (by decide) kg) ?_
      show G (s₁.setTop (mkF m 88 #[.val (.long xx), .second, .val (.int kk), .val (.int sel), .val (.int (sel &&& (3 : Int32))), .val (.long ((kk % (4 : Int32)).toInt64)), .second, .val (.long ((9999999999 : Int64) + ((kk % (4 : Int32)).toInt64))), .second, .unset, .unset] []))
      refine go (fun tg kg => XS.lload X0.here hx rfl (hb hby at_88) rfl kg) ?_
      show G (s₁.setTop (mkF m 90 #[.val (.long xx), .second, .val (.int kk), .val (.int sel), .val (.int (sel &&& (3 : Int32))), .val (.long ((kk % (4 : Int32)).toInt64)), .second, .val (.long ((9999999999 : Int64) + ((kk % (4 : Int32)).toInt64))), .second, .unset, .unset] [(.long ((9999999999 : Int64) + ((kk % (4 : Int32)).toInt64)))]))
      obtain ⟨_, _, ⟨T7, L7, k7, n7⟩, -, X7, ⟨Lc7, hQ7, l7, y7, z7⟩, st7⟩ := Jvm.LawKit.callS X0 hx (y := (⟨"com/example/orderwright/orderwright/model/PriceIsNetPinLaw", "reference", "(J)Z"⟩ : MethodName)) hown (mvT hZ (hw _ (List.mem_of_getElem? (i := 1) rfl))) (mvT hZ (hw _ (List.mem_of_getElem? (i := 2) rfl))) (mvT hZ (hw _ (List.mem_of_getElem? (i := 3) rfl))) (mvT hZ (hw _ (List.mem_of_getElem? (i := 4) rfl))) (by decide) (backOf (W := 0) (rm1 l Z a0 hw [] ((9999999999 : Int64) + ((kk % (4 : Int32)).toInt64)) h0 n0 Z0 ) hZ (hw _ (List.mem_of_getElem? (i := 4) rfl)) (hw _ (List.mem_of_getElem? (i := 3) rfl)) (by decide) (by decide)) (g := (mkF m 90 #[.val (.long xx), .second, .val (.int kk), .val (.int sel), .val (.int (sel &&& (3 : Int32))), .val (.long ((kk % (4 : Int32)).toInt64)), .second, .val (.long ((9999999999 : Int64) + ((kk % (4 : Int32)).toInt64))), .second, .unset, .unset] [(.long ((9999999999 : Int64) + ((kk % (4 : Int32)).toInt64)))])) rfl (by rw [hml]; rfl) (argsL := [(.long ((9999999999 : Int64) + ((kk % (4 : Int32)).toInt64)))]) (rest := []) (lenOf pd__J_Z rfl) rfl (by show 2 * 0 + _ ≤ _; exact Nat.le_of_eq rfl) (hb hby at_90) (fun _ _ => ⟨rfl, e0, (by decide : 0 + 0 ≤ _), (by decide : 0 + 0 ≤ _)⟩)
      dsimp only [Pt.U, Pt.locs, Pt.cells, Pt.slots] at X7 l7 y7 z7 st7 hQ7
      subst l7 y7 z7
      obtain ⟨rfl, Nq7, e7⟩ := hQ7
      have N7 := Fr.app N0 Nq7
      refine go st7 ?_
      show G (T7.setTop (mkF m 93 #[.val (.long xx), .second, .val (.int kk), .val (.int sel), .val (.int (sel &&& (3 : Int32))), .val (.long ((kk % (4 : Int32)).toInt64)), .second, .val (.long ((9999999999 : Int64) + ((kk % (4 : Int32)).toInt64))), .second, .unset, .unset] [(.int (own_ref ((9999999999 : Int64) + ((kk % (4 : Int32)).toInt64))))]))
      refine go (fun tg kg => XS.istore X7.here hx rfl (hb hby at_93) rfl (l' := #[.val (.long xx), .second, .val (.int kk), .val (.int sel), .val (.int (sel &&& (3 : Int32))), .val (.long ((kk % (4 : Int32)).toInt64)), .second, .val (.long ((9999999999 : Int64) + ((kk % (4 : Int32)).toInt64))), .second, .val (.int (own_ref ((9999999999 : Int64) + ((kk % (4 : Int32)).toInt64)))), .unset]) rfl kg) ?_
      show G (T7.setTop (mkF m 95 #[.val (.long xx), .second, .val (.int kk), .val (.int sel), .val (.int (sel &&& (3 : Int32))), .val (.long ((kk % (4 : Int32)).toInt64)), .second, .val (.long ((9999999999 : Int64) + ((kk % (4 : Int32)).toInt64))), .second, .val (.int (own_ref ((9999999999 : Int64) + ((kk % (4 : Int32)).toInt64)))), .unset] []))
      refine go (fun tg kg => XS.lload X7.here hx rfl (hb hby at_95) rfl kg) ?_
      show G (T7.setTop (mkF m 97 #[.val (.long xx), .second, .val (.int kk), .val (.int sel), .val (.int (sel &&& (3 : Int32))), .val (.long ((kk % (4 : Int32)).toInt64)), .second, .val (.long ((9999999999 : Int64) + ((kk % (4 : Int32)).toInt64))), .second, .val (.int (own_ref ((9999999999 : Int64) + ((kk % (4 : Int32)).toInt64)))), .unset] [(.long ((9999999999 : Int64) + ((kk % (4 : Int32)).toInt64)))]))
      obtain ⟨_, _, ⟨T8, L8, k8, n8⟩, -, X8, ⟨Lc8, hQ8, l8, y8, z8⟩, st8⟩ := Jvm.LawKit.callS X7 hx (y := (⟨"com/example/orderwright/orderwright/model/Price", "isNet", "(J)Z"⟩ : MethodName)) hown (mvT hZ (hw _ (List.mem_of_getElem? (i := 5) rfl))) (mvT hZ (hw _ (List.mem_of_getElem? (i := 6) rfl))) (mvT hZ (hw _ (List.mem_of_getElem? (i := 7) rfl))) (mvT hZ (hw _ (List.mem_of_getElem? (i := 8) rfl))) (by decide) (backOf (W := 0) (rm2 l Z a0 hw [] ((9999999999 : Int64) + ((kk % (4 : Int32)).toInt64)) h0 n0 Z0 ) hZ (hw _ (List.mem_of_getElem? (i := 8) rfl)) (hw _ (List.mem_of_getElem? (i := 7) rfl)) (by decide) (by decide)) (g := (mkF m 97 #[.val (.long xx), .second, .val (.int kk), .val (.int sel), .val (.int (sel &&& (3 : Int32))), .val (.long ((kk % (4 : Int32)).toInt64)), .second, .val (.long ((9999999999 : Int64) + ((kk % (4 : Int32)).toInt64))), .second, .val (.int (own_ref ((9999999999 : Int64) + ((kk % (4 : Int32)).toInt64)))), .unset] [(.long ((9999999999 : Int64) + ((kk % (4 : Int32)).toInt64)))])) rfl (by rw [hml]; rfl) (argsL := [(.long ((9999999999 : Int64) + ((kk % (4 : Int32)).toInt64)))]) (rest := []) (lenOf pd__J_Z rfl) rfl (by show 2 * 0 + _ ≤ _; exact Nat.le_of_eq rfl) (hb hby at_97) (fun _ _ => ⟨rfl, e7, (by decide : 0 + 0 ≤ _), (by decide : 0 + 0 ≤ _)⟩)
      dsimp only [Pt.U, Pt.locs, Pt.cells, Pt.slots] at X8 l8 y8 z8 st8 hQ8
      subst l8 y8 z8
      obtain ⟨rfl, Nq8, e8⟩ := hQ8
      have N8 := Fr.app N7 Nq8
      refine go st8 ?_
      show G (T8.setTop (mkF m 100 #[.val (.long xx), .second, .val (.int kk), .val (.int sel), .val (.int (sel &&& (3 : Int32))), .val (.long ((kk % (4 : Int32)).toInt64)), .second, .val (.long ((9999999999 : Int64) + ((kk % (4 : Int32)).toInt64))), .second, .val (.int (own_ref ((9999999999 : Int64) + ((kk % (4 : Int32)).toInt64)))), .unset] [(.int (own_net ((9999999999 : Int64) + ((kk % (4 : Int32)).toInt64))))]))
      refine go (fun tg kg => XS.iload X8.here hx rfl (hb hby at_100) rfl kg) ?_
      show G (T8.setTop (mkF m 102 #[.val (.long xx), .second, .val (.int kk), .val (.int sel), .val (.int (sel &&& (3 : Int32))), .val (.long ((kk % (4 : Int32)).toInt64)), .second, .val (.long ((9999999999 : Int64) + ((kk % (4 : Int32)).toInt64))), .second, .val (.int (own_ref ((9999999999 : Int64) + ((kk % (4 : Int32)).toInt64)))), .unset] [(.int (own_ref ((9999999999 : Int64) + ((kk % (4 : Int32)).toInt64)))), (.int (own_net ((9999999999 : Int64) + ((kk % (4 : Int32)).toInt64))))]))
      refine go (fun tg kg => XS.icmpYes X8.here hx rfl (pc0 := 102) (pc' := 107) rfl (hb hby at_102) rfl (teq (own_net_ref _)).1 (by decide) (by decide) kg) ?_
      show G (T8.setTop (mkF m 107 #[.val (.long xx), .second, .val (.int kk), .val (.int sel), .val (.int (sel &&& (3 : Int32))), .val (.long ((kk % (4 : Int32)).toInt64)), .second, .val (.long ((9999999999 : Int64) + ((kk % (4 : Int32)).toInt64))), .second, .val (.int (own_ref ((9999999999 : Int64) + ((kk % (4 : Int32)).toInt64)))), .unset] []))
      refine go (fun tg kg => XS.lload X8.here hx rfl (hb hby at_107) rfl kg) ?_
      show G (T8.setTop (mkF m 109 #[.val (.long xx), .second, .val (.int kk), .val (.int sel), .val (.int (sel &&& (3 : Int32))), .val (.long ((kk % (4 : Int32)).toInt64)), .second, .val (.long ((9999999999 : Int64) + ((kk % (4 : Int32)).toInt64))), .second, .val (.int (own_ref ((9999999999 : Int64) + ((kk % (4 : Int32)).toInt64)))), .unset] [(.long ((9999999999 : Int64) + ((kk % (4 : Int32)).toInt64)))]))
      refine go (fun tg kg => X8.ldc2Long hx hown (mvT hZ (hw _ (List.mem_of_getElem? (i := 11) rfl))) (g := (mkF m 109 #[.val (.long xx), .second, .val (.int kk), .val (.int sel), .val (.int (sel &&& (3 : Int32))), .val (.long ((kk % (4 : Int32)).toInt64)), .second, .val (.long ((9999999999 : Int64) + ((kk % (4 : Int32)).toInt64))), .second, .val (.int (own_ref ((9999999999 : Int64) + ((kk % (4 : Int32)).toInt64)))), .unset] [(.long ((9999999999 : Int64) + ((kk % (4 : Int32)).toInt64)))])) rfl (hb hby at_109) _ kg) ?_
      show G (T8.setTop (mkF m 112 #[.val (.long xx), .second, .val (.int kk), .val (.int sel), .val (.int (sel &&& (3 : Int32))), .val (.long ((kk % (4 : Int32)).toInt64)), .second, .val (.long ((9999999999 : Int64) + ((kk % (4 : Int32)).toInt64))), .second, .val (.int (own_ref ((9999999999 : Int64) + ((kk % (4 : Int32)).toInt64)))), .unset] [(.long (-9223372036854775808 : Int64)), (.long ((9999999999 : Int64) + ((kk % (4 : Int32)).toInt64)))]))
      refine go (fun tg kg => XS.lcmp X8.here hx rfl (hb hby at_112) rfl kg) ?_
      show G (T8.setTop (mkF m 113 #[.val (.long xx), .second, .val (.int kk), .val (.int sel), .val (.int (sel &&& (3 : Int32))), .val (.long ((kk % (4 : Int32)).toInt64)), .second, .val (.long ((9999999999 : Int64) + ((kk % (4 : Int32)).toInt64))), .second, .val (.int (own_ref ((9999999999 : Int64) + ((kk % (4 : Int32)).toInt64)))), .unset] [(.int (lcmpW ((9999999999 : Int64) + ((kk % (4 : Int32)).toInt64)) (-9223372036854775808 : Int64)))]))
      by_cases hc9 : ((9999999999 : Int64) + ((kk % (4 : Int32)).toInt64)) = (-9223372036854775808 : Int64)
      · refine go (fun tg kg => XS.ifYes X8.here hx rfl (pc0 := 113) (pc' := 129) rfl (hb hby at_113) rfl ((if0 _ _).trans (teq ((lw_eq ((9999999999 : Int64) + ((kk % (4 : Int32)).toInt64)) (-9223372036854775808 : Int64)).mpr hc9)).1) (by decide) (by decide) kg) ?_
        show G (T8.setTop (mkF m 129 #[.val (.long xx), .second, .val (.int kk), .val (.int sel), .val (.int (sel &&& (3 : Int32))), .val (.long ((kk % (4 : Int32)).toInt64)), .second, .val (.long ((9999999999 : Int64) + ((kk % (4 : Int32)).toInt64))), .second, .val (.int (own_ref ((9999999999 : Int64) + ((kk % (4 : Int32)).toInt64)))), .unset] []))
        refine go (fun tg kg => XS.iconst X8.here hx rfl (hb hby at_129) kg) ?_
        show G (T8.setTop (mkF m 130 #[.val (.long xx), .second, .val (.int kk), .val (.int sel), .val (.int (sel &&& (3 : Int32))), .val (.long ((kk % (4 : Int32)).toInt64)), .second, .val (.long ((9999999999 : Int64) + ((kk % (4 : Int32)).toInt64))), .second, .val (.int (own_ref ((9999999999 : Int64) + ((kk % (4 : Int32)).toInt64)))), .unset] [(.int (1 : Int32))]))
        refine fin (some (.int (1 : Int32))) X8 (fun h => absurd h (by decide)) (fun fs hr => retN X8 hx (t := .boolean) hret (by simp) (hb hby at_130) hr) (by decide) (by decide) ?_
        rw [e8]
        exact ⟨rfl, N8⟩
      · refine go (fun tg kg => XS.ifNo X8.here hx rfl (hb hby at_113) rfl ((if0 _ _).trans (feq (mt (lw_eq ((9999999999 : Int64) + ((kk % (4 : Int32)).toInt64)) (-9223372036854775808 : Int64)).mp hc9)).1) kg) ?_
        show G (T8.setTop (mkF m 116 #[.val (.long xx), .second, .val (.int kk), .val (.int sel), .val (.int (sel &&& (3 : Int32))), .val (.long ((kk % (4 : Int32)).toInt64)), .second, .val (.long ((9999999999 : Int64) + ((kk % (4 : Int32)).toInt64))), .second, .val (.int (own_ref ((9999999999 : Int64) + ((kk % (4 : Int32)).toInt64)))), .unset] []))
        refine go (fun tg kg => XS.lload X8.here hx rfl (hb hby at_116) rfl kg) ?_
        show G (T8.setTop (mkF m 118 #[.val (.long xx), .second, .val (.int kk), .val (.int sel), .val (.int (sel &&& (3 : Int32))), .val (.long ((kk % (4 : Int32)).toInt64)), .second, .val (.long ((9999999999 : Int64) + ((kk % (4 : Int32)).toInt64))), .second, .val (.int (own_ref ((9999999999 : Int64) + ((kk % (4 : Int32)).toInt64)))), .unset] [(.long ((9999999999 : Int64) + ((kk % (4 : Int32)).toInt64)))]))
        refine go (fun tg kg => XS.lneg X8.here hx rfl (hb hby at_118) rfl kg) ?_
        show G (T8.setTop (mkF m 119 #[.val (.long xx), .second, .val (.int kk), .val (.int sel), .val (.int (sel &&& (3 : Int32))), .val (.long ((kk % (4 : Int32)).toInt64)), .second, .val (.long ((9999999999 : Int64) + ((kk % (4 : Int32)).toInt64))), .second, .val (.int (own_ref ((9999999999 : Int64) + ((kk % (4 : Int32)).toInt64)))), .unset] [(.long (-((9999999999 : Int64) + ((kk % (4 : Int32)).toInt64))))]))
        obtain ⟨_, _, ⟨T10, L10, k10, n10⟩, -, X10, ⟨Lc10, hQ10, l10, y10, z10⟩, st10⟩ := Jvm.LawKit.callS X8 hx (y := (⟨"com/example/orderwright/orderwright/model/Price", "isNet", "(J)Z"⟩ : MethodName)) hown (mvT hZ (hw _ (List.mem_of_getElem? (i := 5) rfl))) (mvT hZ (hw _ (List.mem_of_getElem? (i := 6) rfl))) (mvT hZ (hw _ (List.mem_of_getElem? (i := 7) rfl))) (mvT hZ (hw _ (List.mem_of_getElem? (i := 8) rfl))) (by decide) (backOf (W := 0) (rm2 l Z a0 hw [] (-((9999999999 : Int64) + ((kk % (4 : Int32)).toInt64))) h0 n0 Z0 ) hZ (hw _ (List.mem_of_getElem? (i := 8) rfl)) (hw _ (List.mem_of_getElem? (i := 7) rfl)) (by decide) (by decide)) (g := (mkF m 119 #[.val (.long xx), .second, .val (.int kk), .val (.int sel), .val (.int (sel &&& (3 : Int32))), .val (.long ((kk % (4 : Int32)).toInt64)), .second, .val (.long ((9999999999 : Int64) + ((kk % (4 : Int32)).toInt64))), .second, .val (.int (own_ref ((9999999999 : Int64) + ((kk % (4 : Int32)).toInt64)))), .unset] [(.long (-((9999999999 : Int64) + ((kk % (4 : Int32)).toInt64))))])) rfl (by rw [hml]; rfl) (argsL := [(.long (-((9999999999 : Int64) + ((kk % (4 : Int32)).toInt64))))]) (rest := []) (lenOf pd__J_Z rfl) rfl (by show 2 * 0 + _ ≤ _; exact Nat.le_of_eq rfl) (hb hby at_119) (fun _ _ => ⟨rfl, e8, (by decide : 0 + 0 ≤ _), (by decide : 0 + 0 ≤ _)⟩)
        dsimp only [Pt.U, Pt.locs, Pt.cells, Pt.slots] at X10 l10 y10 z10 st10 hQ10
        subst l10 y10 z10
        obtain ⟨rfl, Nq10, e10⟩ := hQ10
        have N10 := Fr.app N8 Nq10
        refine go st10 ?_
        show G (T10.setTop (mkF m 122 #[.val (.long xx), .second, .val (.int kk), .val (.int sel), .val (.int (sel &&& (3 : Int32))), .val (.long ((kk % (4 : Int32)).toInt64)), .second, .val (.long ((9999999999 : Int64) + ((kk % (4 : Int32)).toInt64))), .second, .val (.int (own_ref ((9999999999 : Int64) + ((kk % (4 : Int32)).toInt64)))), .unset] [(.int (own_net (-((9999999999 : Int64) + ((kk % (4 : Int32)).toInt64)))))]))
        refine go (fun tg kg => XS.iload X10.here hx rfl (hb hby at_122) rfl kg) ?_
        show G (T10.setTop (mkF m 124 #[.val (.long xx), .second, .val (.int kk), .val (.int sel), .val (.int (sel &&& (3 : Int32))), .val (.long ((kk % (4 : Int32)).toInt64)), .second, .val (.long ((9999999999 : Int64) + ((kk % (4 : Int32)).toInt64))), .second, .val (.int (own_ref ((9999999999 : Int64) + ((kk % (4 : Int32)).toInt64)))), .unset] [(.int (own_ref ((9999999999 : Int64) + ((kk % (4 : Int32)).toInt64)))), (.int (own_net (-((9999999999 : Int64) + ((kk % (4 : Int32)).toInt64)))))]))
        refine go (fun tg kg => XS.icmpYes X10.here hx rfl (pc0 := 124) (pc' := 129) rfl (hb hby at_124) rfl (teq (own_net_neg hc9)).1 (by decide) (by decide) kg) ?_
        show G (T10.setTop (mkF m 129 #[.val (.long xx), .second, .val (.int kk), .val (.int sel), .val (.int (sel &&& (3 : Int32))), .val (.long ((kk % (4 : Int32)).toInt64)), .second, .val (.long ((9999999999 : Int64) + ((kk % (4 : Int32)).toInt64))), .second, .val (.int (own_ref ((9999999999 : Int64) + ((kk % (4 : Int32)).toInt64)))), .unset] []))
        refine go (fun tg kg => XS.iconst X10.here hx rfl (hb hby at_129) kg) ?_
        show G (T10.setTop (mkF m 130 #[.val (.long xx), .second, .val (.int kk), .val (.int sel), .val (.int (sel &&& (3 : Int32))), .val (.long ((kk % (4 : Int32)).toInt64)), .second, .val (.long ((9999999999 : Int64) + ((kk % (4 : Int32)).toInt64))), .second, .val (.int (own_ref ((9999999999 : Int64) + ((kk % (4 : Int32)).toInt64)))), .unset] [(.int (1 : Int32))]))
        refine fin (some (.int (1 : Int32))) X10 (fun h => absurd h (by decide)) (fun fs hr => retN X10 hx (t := .boolean) hret (by simp) (hb hby at_130) hr) (by decide) (by decide) ?_
        rw [e10]
        exact ⟨rfl, N10⟩
    · refine go (fun tg kg => XS.icmpYes X0.here hx rfl (pc0 := 25) (pc' := 39) rfl (hb hby at_25) rfl (feq hc6).2 (by decide) (by decide) kg) ?_
      show G (s₁.setTop (mkF m 39 #[.val (.long xx), .second, .val (.int kk), .val (.int sel), .val (.int (sel &&& (3 : Int32))), .val (.long ((kk % (4 : Int32)).toInt64)), .second, .unset, .unset, .unset, .unset] []))
      refine go (fun tg kg => XS.iload X0.here hx rfl (hb hby at_39) rfl kg) ?_
      show G (s₁.setTop (mkF m 41 #[.val (.long xx), .second, .val (.int kk), .val (.int sel), .val (.int (sel &&& (3 : Int32))), .val (.long ((kk % (4 : Int32)).toInt64)), .second, .unset, .unset, .unset, .unset] [(.int (sel &&& (3 : Int32)))]))
      refine go (fun tg kg => XS.iconst X0.here hx rfl (hb hby at_41) kg) ?_
      show G (s₁.setTop (mkF m 42 #[.val (.long xx), .second, .val (.int kk), .val (.int sel), .val (.int (sel &&& (3 : Int32))), .val (.long ((kk % (4 : Int32)).toInt64)), .second, .unset, .unset, .unset, .unset] [(.int (2 : Int32)), (.int (sel &&& (3 : Int32)))]))
      by_cases hc11 : (sel &&& (3 : Int32)) = (2 : Int32)
      · refine go (fun tg kg => XS.icmpNo X0.here hx rfl (hb hby at_42) rfl (teq hc11).2 kg) ?_
        show G (s₁.setTop (mkF m 45 #[.val (.long xx), .second, .val (.int kk), .val (.int sel), .val (.int (sel &&& (3 : Int32))), .val (.long ((kk % (4 : Int32)).toInt64)), .second, .unset, .unset, .unset, .unset] []))
        refine go (fun tg kg => X0.ldc2Long hx hown (mvT hZ (hw _ (List.mem_of_getElem? (i := 13) rfl))) (g := (mkF m 45 #[.val (.long xx), .second, .val (.int kk), .val (.int sel), .val (.int (sel &&& (3 : Int32))), .val (.long ((kk % (4 : Int32)).toInt64)), .second, .unset, .unset, .unset, .unset] [])) rfl (hb hby at_45) _ kg) ?_
        show G (s₁.setTop (mkF m 48 #[.val (.long xx), .second, .val (.int kk), .val (.int sel), .val (.int (sel &&& (3 : Int32))), .val (.long ((kk % (4 : Int32)).toInt64)), .second, .unset, .unset, .unset, .unset] [(.long (-9999999999 : Int64))]))
        refine go (fun tg kg => XS.lload X0.here hx rfl (hb hby at_48) rfl kg) ?_
        show G (s₁.setTop (mkF m 50 #[.val (.long xx), .second, .val (.int kk), .val (.int sel), .val (.int (sel &&& (3 : Int32))), .val (.long ((kk % (4 : Int32)).toInt64)), .second, .unset, .unset, .unset, .unset] [(.long ((kk % (4 : Int32)).toInt64)), (.long (-9999999999 : Int64))]))
        refine go (fun tg kg => XS.ladd X0.here hx rfl (hb hby at_50) rfl kg) ?_
        show G (s₁.setTop (mkF m 51 #[.val (.long xx), .second, .val (.int kk), .val (.int sel), .val (.int (sel &&& (3 : Int32))), .val (.long ((kk % (4 : Int32)).toInt64)), .second, .unset, .unset, .unset, .unset] [(.long ((-9999999999 : Int64) + ((kk % (4 : Int32)).toInt64)))]))
        refine go (fun tg kg => XS.lstore X0.here hx rfl (hb hby at_51) rfl (l' := #[.val (.long xx), .second, .val (.int kk), .val (.int sel), .val (.int (sel &&& (3 : Int32))), .val (.long ((kk % (4 : Int32)).toInt64)), .second, .val (.long ((-9999999999 : Int64) + ((kk % (4 : Int32)).toInt64))), .second, .unset, .unset]) rfl kg) ?_
        show G (s₁.setTop (mkF m 53 #[.val (.long xx), .second, .val (.int kk), .val (.int sel), .val (.int (sel &&& (3 : Int32))), .val (.long ((kk % (4 : Int32)).toInt64)), .second, .val (.long ((-9999999999 : Int64) + ((kk % (4 : Int32)).toInt64))), .second, .unset, .unset] []))
        refine go (fun tg kg => XS.goto X0.here hx rfl (pc0 := 53) (pc' := 88) rfl (hb hby at_53) (by decide) (by decide) kg) ?_
        show G (s₁.setTop (mkF m 88 #[.val (.long xx), .second, .val (.int kk), .val (.int sel), .val (.int (sel &&& (3 : Int32))), .val (.long ((kk % (4 : Int32)).toInt64)), .second, .val (.long ((-9999999999 : Int64) + ((kk % (4 : Int32)).toInt64))), .second, .unset, .unset] []))
        refine go (fun tg kg => XS.lload X0.here hx rfl (hb hby at_88) rfl kg) ?_
        show G (s₁.setTop (mkF m 90 #[.val (.long xx), .second, .val (.int kk), .val (.int sel), .val (.int (sel &&& (3 : Int32))), .val (.long ((kk % (4 : Int32)).toInt64)), .second, .val (.long ((-9999999999 : Int64) + ((kk % (4 : Int32)).toInt64))), .second, .unset, .unset] [(.long ((-9999999999 : Int64) + ((kk % (4 : Int32)).toInt64)))]))
        obtain ⟨_, _, ⟨T12, L12, k12, n12⟩, -, X12, ⟨Lc12, hQ12, l12, y12, z12⟩, st12⟩ := Jvm.LawKit.callS X0 hx (y := (⟨"com/example/orderwright/orderwright/model/PriceIsNetPinLaw", "reference", "(J)Z"⟩ : MethodName)) hown (mvT hZ (hw _ (List.mem_of_getElem? (i := 1) rfl))) (mvT hZ (hw _ (List.mem_of_getElem? (i := 2) rfl))) (mvT hZ (hw _ (List.mem_of_getElem? (i := 3) rfl))) (mvT hZ (hw _ (List.mem_of_getElem? (i := 4) rfl))) (by decide) (backOf (W := 0) (rm1 l Z a0 hw [] ((-9999999999 : Int64) + ((kk % (4 : Int32)).toInt64)) h0 n0 Z0 ) hZ (hw _ (List.mem_of_getElem? (i := 4) rfl)) (hw _ (List.mem_of_getElem? (i := 3) rfl)) (by decide) (by decide)) (g := (mkF m 90 #[.val (.long xx), .second, .val (.int kk), .val (.int sel), .val (.int (sel &&& (3 : Int32))), .val (.long ((kk % (4 : Int32)).toInt64)), .second, .val (.long ((-9999999999 : Int64) + ((kk % (4 : Int32)).toInt64))), .second, .unset, .unset] [(.long ((-9999999999 : Int64) + ((kk % (4 : Int32)).toInt64)))])) rfl (by rw [hml]; rfl) (argsL := [(.long ((-9999999999 : Int64) + ((kk % (4 : Int32)).toInt64)))]) (rest := []) (lenOf pd__J_Z rfl) rfl (by show 2 * 0 + _ ≤ _; exact Nat.le_of_eq rfl) (hb hby at_90) (fun _ _ => ⟨rfl, e0, (by decide : 0 + 0 ≤ _), (by decide : 0 + 0 ≤ _)⟩)
        dsimp only [Pt.U, Pt.locs, Pt.cells, Pt.slots] at X12 l12 y12 z12 st12 hQ12
        subst l12 y12 z12
        obtain ⟨rfl, Nq12, e12⟩ := hQ12
        have N12 := Fr.app N0 Nq12
        refine go st12 ?_
        show G (T12.setTop (mkF m 93 #[.val (.long xx), .second, .val (.int kk), .val (.int sel), .val (.int (sel &&& (3 : Int32))), .val (.long ((kk % (4 : Int32)).toInt64)), .second, .val (.long ((-9999999999 : Int64) + ((kk % (4 : Int32)).toInt64))), .second, .unset, .unset] [(.int (own_ref ((-9999999999 : Int64) + ((kk % (4 : Int32)).toInt64))))]))
        refine go (fun tg kg => XS.istore X12.here hx rfl (hb hby at_93) rfl (l' := #[.val (.long xx), .second, .val (.int kk), .val (.int sel), .val (.int (sel &&& (3 : Int32))), .val (.long ((kk % (4 : Int32)).toInt64)), .second, .val (.long ((-9999999999 : Int64) + ((kk % (4 : Int32)).toInt64))), .second, .val (.int (own_ref ((-9999999999 : Int64) + ((kk % (4 : Int32)).toInt64)))), .unset]) rfl kg) ?_
        show G (T12.setTop (mkF m 95 #[.val (.long xx), .second, .val (.int kk), .val (.int sel), .val (.int (sel &&& (3 : Int32))), .val (.long ((kk % (4 : Int32)).toInt64)), .second, .val (.long ((-9999999999 : Int64) + ((kk % (4 : Int32)).toInt64))), .second, .val (.int (own_ref ((-9999999999 : Int64) + ((kk % (4 : Int32)).toInt64)))), .unset] []))
        refine go (fun tg kg => XS.lload X12.here hx rfl (hb hby at_95) rfl kg) ?_
        show G (T12.setTop (mkF m 97 #[.val (.long xx), .second, .val (.int kk), .val (.int sel), .val (.int (sel &&& (3 : Int32))), .val (.long ((kk % (4 : Int32)).toInt64)), .second, .val (.long ((-9999999999 : Int64) + ((kk % (4 : Int32)).toInt64))), .second, .val (.int (own_ref ((-9999999999 : Int64) + ((kk % (4 : Int32)).toInt64)))), .unset] [(.long ((-9999999999 : Int64) + ((kk % (4 : Int32)).toInt64)))]))
        obtain ⟨_, _, ⟨T13, L13, k13, n13⟩, -, X13, ⟨Lc13, hQ13, l13, y13, z13⟩, st13⟩ := Jvm.LawKit.callS X12 hx (y := (⟨"com/example/orderwright/orderwright/model/Price", "isNet", "(J)Z"⟩ : MethodName)) hown (mvT hZ (hw _ (List.mem_of_getElem? (i := 5) rfl))) (mvT hZ (hw _ (List.mem_of_getElem? (i := 6) rfl))) (mvT hZ (hw _ (List.mem_of_getElem? (i := 7) rfl))) (mvT hZ (hw _ (List.mem_of_getElem? (i := 8) rfl))) (by decide) (backOf (W := 0) (rm2 l Z a0 hw [] ((-9999999999 : Int64) + ((kk % (4 : Int32)).toInt64)) h0 n0 Z0 ) hZ (hw _ (List.mem_of_getElem? (i := 8) rfl)) (hw _ (List.mem_of_getElem? (i := 7) rfl)) (by decide) (by decide)) (g := (mkF m 97 #[.val (.long xx), .second, .val (.int kk), .val (.int sel), .val (.int (sel &&& (3 : Int32))), .val (.long ((kk % (4 : Int32)).toInt64)), .second, .val (.long ((-9999999999 : Int64) + ((kk % (4 : Int32)).toInt64))), .second, .val (.int (own_ref ((-9999999999 : Int64) + ((kk % (4 : Int32)).toInt64)))), .unset] [(.long ((-9999999999 : Int64) + ((kk % (4 : Int32)).toInt64)))])) rfl (by rw [hml]; rfl) (argsL := [(.long ((-9999999999 : Int64) + ((kk % (4 : Int32)).toInt64)))]) (rest := []) (lenOf pd__J_Z rfl) rfl (by show 2 * 0 + _ ≤ _; exact Nat.le_of_eq rfl) (hb hby at_97) (fun _ _ => ⟨rfl, e12, (by decide : 0 + 0 ≤ _), (by decide : 0 + 0 ≤ _)⟩)
        dsimp only [Pt.U, Pt.locs, Pt.cells, Pt.slots] at X13 l13 y13 z13 st13 hQ13
        subst l13 y13 z13
        obtain ⟨rfl, Nq13, e13⟩ := hQ13
        have N13 := Fr.app N12 Nq13
        refine go st13 ?_
        show G (T13.setTop (mkF m 100 #[.val (.long xx), .second, .val (.int kk), .val (.int sel), .val (.int (sel &&& (3 : Int32))), .val (.long ((kk % (4 : Int32)).toInt64)), .second, .val (.long ((-9999999999 : Int64) + ((kk % (4 : Int32)).toInt64))), .second, .val (.int (own_ref ((-9999999999 : Int64) + ((kk % (4 : Int32)).toInt64)))), .unset] [(.int (own_net ((-9999999999 : Int64) + ((kk % (4 : Int32)).toInt64))))]))
        refine go (fun tg kg => XS.iload X13.here hx rfl (hb hby at_100) rfl kg) ?_
        show G (T13.setTop (mkF m 102 #[.val (.long xx), .second, .val (.int kk), .val (.int sel), .val (.int (sel &&& (3 : Int32))), .val (.long ((kk % (4 : Int32)).toInt64)), .second, .val (.long ((-9999999999 : Int64) + ((kk % (4 : Int32)).toInt64))), .second, .val (.int (own_ref ((-9999999999 : Int64) + ((kk % (4 : Int32)).toInt64)))), .unset] [(.int (own_ref ((-9999999999 : Int64) + ((kk % (4 : Int32)).toInt64)))), (.int (own_net ((-9999999999 : Int64) + ((kk % (4 : Int32)).toInt64))))]))
        refine go (fun tg kg => XS.icmpYes X13.here hx rfl (pc0 := 102) (pc' := 107) rfl (hb hby at_102) rfl (teq (own_net_ref _)).1 (by decide) (by decide) kg) ?_
        show G (T13.setTop (mkF m 107 #[.val (.long xx), .second, .val (.int kk), .val (.int sel), .val (.int (sel &&& (3 : Int32))), .val (.long ((kk % (4 : Int32)).toInt64)), .second, .val (.long ((-9999999999 : Int64) + ((kk % (4 : Int32)).toInt64))), .second, .val (.int (own_ref ((-9999999999 : Int64) + ((kk % (4 : Int32)).toInt64)))), .unset] []))
        refine go (fun tg kg => XS.lload X13.here hx rfl (hb hby at_107) rfl kg) ?_
        show G (T13.setTop (mkF m 109 #[.val (.long xx), .second, .val (.int kk), .val (.int sel), .val (.int (sel &&& (3 : Int32))), .val (.long ((kk % (4 : Int32)).toInt64)), .second, .val (.long ((-9999999999 : Int64) + ((kk % (4 : Int32)).toInt64))), .second, .val (.int (own_ref ((-9999999999 : Int64) + ((kk % (4 : Int32)).toInt64)))), .unset] [(.long ((-9999999999 : Int64) + ((kk % (4 : Int32)).toInt64)))]))
        refine go (fun tg kg => X13.ldc2Long hx hown (mvT hZ (hw _ (List.mem_of_getElem? (i := 11) rfl))) (g := (mkF m 109 #[.val (.long xx), .second, .val (.int kk), .val (.int sel), .val (.int (sel &&& (3 : Int32))), .val (.long ((kk % (4 : Int32)).toInt64)), .second, .val (.long ((-9999999999 : Int64) + ((kk % (4 : Int32)).toInt64))), .second, .val (.int (own_ref ((-9999999999 : Int64) + ((kk % (4 : Int32)).toInt64)))), .unset] [(.long ((-9999999999 : Int64) + ((kk % (4 : Int32)).toInt64)))])) rfl (hb hby at_109) _ kg) ?_
        show G (T13.setTop (mkF m 112 #[.val (.long xx), .second, .val (.int kk), .val (.int sel), .val (.int (sel &&& (3 : Int32))), .val (.long ((kk % (4 : Int32)).toInt64)), .second, .val (.long ((-9999999999 : Int64) + ((kk % (4 : Int32)).toInt64))), .second, .val (.int (own_ref ((-9999999999 : Int64) + ((kk % (4 : Int32)).toInt64)))), .unset] [(.long (-9223372036854775808 : Int64)), (.long ((-9999999999 : Int64) + ((kk % (4 : Int32)).toInt64)))]))
        refine go (fun tg kg => XS.lcmp X13.here hx rfl (hb hby at_112) rfl kg) ?_
        show G (T13.setTop (mkF m 113 #[.val (.long xx), .second, .val (.int kk), .val (.int sel), .val (.int (sel &&& (3 : Int32))), .val (.long ((kk % (4 : Int32)).toInt64)), .second, .val (.long ((-9999999999 : Int64) + ((kk % (4 : Int32)).toInt64))), .second, .val (.int (own_ref ((-9999999999 : Int64) + ((kk % (4 : Int32)).toInt64)))), .unset] [(.int (lcmpW ((-9999999999 : Int64) + ((kk % (4 : Int32)).toInt64)) (-9223372036854775808 : Int64)))]))
        by_cases hc14 : ((-9999999999 : Int64) + ((kk % (4 : Int32)).toInt64)) = (-9223372036854775808 : Int64)
        · refine go (fun tg kg => XS.ifYes X13.here hx rfl (pc0 := 113) (pc' := 129) rfl (hb hby at_113) rfl ((if0 _ _).trans (teq ((lw_eq ((-9999999999 : Int64) + ((kk % (4 : Int32)).toInt64)) (-9223372036854775808 : Int64)).mpr hc14)).1) (by decide) (by decide) kg) ?_
          show G (T13.setTop (mkF m 129 #[.val (.long xx), .second, .val (.int kk), .val (.int sel), .val (.int (sel &&& (3 : Int32))), .val (.long ((kk % (4 : Int32)).toInt64)), .second, .val (.long ((-9999999999 : Int64) + ((kk % (4 : Int32)).toInt64))), .second, .val (.int (own_ref ((-9999999999 : Int64) + ((kk % (4 : Int32)).toInt64)))), .unset] []))
          refine go (fun tg kg => XS.iconst X13.here hx rfl (hb hby at_129) kg) ?_
          show G (T13.setTop (mkF m 130 #[.val (.long xx), .second, .val (.int kk), .val (.int sel), .val (.int (sel &&& (3 : Int32))), .val (.long ((kk % (4 : Int32)).toInt64)), .second, .val (.long ((-9999999999 : Int64) + ((kk % (4 : Int32)).toInt64))), .second, .val (.int (own_ref ((-9999999999 : Int64) + ((kk % (4 : Int32)).toInt64)))), .unset] [(.int (1 : Int32))]))
          refine fin (some (.int (1 : Int32))) X13 (fun h => absurd h (by decide)) (fun fs hr => retN X13 hx (t := .boolean) hret (by simp) (hb hby at_130) hr) (by decide) (by decide) ?_
          rw [e13]
          exact ⟨rfl, N13⟩
        · refine go (fun tg kg => XS.ifNo X13.here hx rfl (hb hby at_113) rfl ((if0 _ _).trans (feq (mt (lw_eq ((-9999999999 : Int64) + ((kk % (4 : Int32)).toInt64)) (-9223372036854775808 : Int64)).mp hc14)).1) kg) ?_
          show G (T13.setTop (mkF m 116 #[.val (.long xx), .second, .val (.int kk), .val (.int sel), .val (.int (sel &&& (3 : Int32))), .val (.long ((kk % (4 : Int32)).toInt64)), .second, .val (.long ((-9999999999 : Int64) + ((kk % (4 : Int32)).toInt64))), .second, .val (.int (own_ref ((-9999999999 : Int64) + ((kk % (4 : Int32)).toInt64)))), .unset] []))
          refine go (fun tg kg => XS.lload X13.here hx rfl (hb hby at_116) rfl kg) ?_
          show G (T13.setTop (mkF m 118 #[.val (.long xx), .second, .val (.int kk), .val (.int sel), .val (.int (sel &&& (3 : Int32))), .val (.long ((kk % (4 : Int32)).toInt64)), .second, .val (.long ((-9999999999 : Int64) + ((kk % (4 : Int32)).toInt64))), .second, .val (.int (own_ref ((-9999999999 : Int64) + ((kk % (4 : Int32)).toInt64)))), .unset] [(.long ((-9999999999 : Int64) + ((kk % (4 : Int32)).toInt64)))]))
          refine go (fun tg kg => XS.lneg X13.here hx rfl (hb hby at_118) rfl kg) ?_
          show G (T13.setTop (mkF m 119 #[.val (.long xx), .second, .val (.int kk), .val (.int sel), .val (.int (sel &&& (3 : Int32))), .val (.long ((kk % (4 : Int32)).toInt64)), .second, .val (.long ((-9999999999 : Int64) + ((kk % (4 : Int32)).toInt64))), .second, .val (.int (own_ref ((-9999999999 : Int64) + ((kk % (4 : Int32)).toInt64)))), .unset] [(.long (-((-9999999999 : Int64) + ((kk % (4 : Int32)).toInt64))))]))
          obtain ⟨_, _, ⟨T15, L15, k15, n15⟩, -, X15, ⟨Lc15, hQ15, l15, y15, z15⟩, st15⟩ := Jvm.LawKit.callS X13 hx (y := (⟨"com/example/orderwright/orderwright/model/Price", "isNet", "(J)Z"⟩ : MethodName)) hown (mvT hZ (hw _ (List.mem_of_getElem? (i := 5) rfl))) (mvT hZ (hw _ (List.mem_of_getElem? (i := 6) rfl))) (mvT hZ (hw _ (List.mem_of_getElem? (i := 7) rfl))) (mvT hZ (hw _ (List.mem_of_getElem? (i := 8) rfl))) (by decide) (backOf (W := 0) (rm2 l Z a0 hw [] (-((-9999999999 : Int64) + ((kk % (4 : Int32)).toInt64))) h0 n0 Z0 ) hZ (hw _ (List.mem_of_getElem? (i := 8) rfl)) (hw _ (List.mem_of_getElem? (i := 7) rfl)) (by decide) (by decide)) (g := (mkF m 119 #[.val (.long xx), .second, .val (.int kk), .val (.int sel), .val (.int (sel &&& (3 : Int32))), .val (.long ((kk % (4 : Int32)).toInt64)), .second, .val (.long ((-9999999999 : Int64) + ((kk % (4 : Int32)).toInt64))), .second, .val (.int (own_ref ((-9999999999 : Int64) + ((kk % (4 : Int32)).toInt64)))), .unset] [(.long (-((-9999999999 : Int64) + ((kk % (4 : Int32)).toInt64))))])) rfl (by rw [hml]; rfl) (argsL := [(.long (-((-9999999999 : Int64) + ((kk % (4 : Int32)).toInt64))))]) (rest := []) (lenOf pd__J_Z rfl) rfl (by show 2 * 0 + _ ≤ _; exact Nat.le_of_eq rfl) (hb hby at_119) (fun _ _ => ⟨rfl, e13, (by decide : 0 + 0 ≤ _), (by decide : 0 + 0 ≤ _)⟩)
          dsimp only [Pt.U, Pt.locs, Pt.cells, Pt.slots] at X15 l15 y15 z15 st15 hQ15
          subst l15 y15 z15
          obtain ⟨rfl, Nq15, e15⟩ := hQ15
          have N15 := Fr.app N13 Nq15
          refine go st15 ?_
          show G (T15.setTop (mkF m 122 #[.val (.long xx), .second, .val (.int kk), .val (.int sel), .val (.int (sel &&& (3 : Int32))), .val (.long ((kk % (4 : Int32)).toInt64)), .second, .val (.long ((-9999999999 : Int64) + ((kk % (4 : Int32)).toInt64))), .second, .val (.int (own_ref ((-9999999999 : Int64) + ((kk % (4 : Int32)).toInt64)))), .unset] [(.int (own_net (-((-9999999999 : Int64) + ((kk % (4 : Int32)).toInt64)))))]))
          refine go (fun tg kg => XS.iload X15.here hx rfl (hb hby at_122) rfl kg) ?_
          show G (T15.setTop (mkF m 124 #[.val (.long xx), .second, .val (.int kk), .val (.int sel), .val (.int (sel &&& (3 : Int32))), .val (.long ((kk % (4 : Int32)).toInt64)), .second, .val (.long ((-9999999999 : Int64) + ((kk % (4 : Int32)).toInt64))), .second, .val (.int (own_ref ((-9999999999 : Int64) + ((kk % (4 : Int32)).toInt64)))), .unset] [(.int (own_ref ((-9999999999 : Int64) + ((kk % (4 : Int32)).toInt64)))), (.int (own_net (-((-9999999999 : Int64) + ((kk % (4 : Int32)).toInt64)))))]))
          refine go (fun tg kg => XS.icmpYes X15.here hx rfl (pc0 := 124) (pc' := 129) rfl (hb hby at_124) rfl (teq (own_net_neg hc14)).1 (by decide) (by decide) kg) ?_
          show G (T15.setTop (mkF m 129 #[.val (.long xx), .second, .val (.int kk), .val (.int sel), .val (.int (sel &&& (3 : Int32))), .val (.long ((kk % (4 : Int32)).toInt64)), .second, .val (.long ((-9999999999 : Int64) + ((kk % (4 : Int32)).toInt64))), .second, .val (.int (own_ref ((-9999999999 : Int64) + ((kk % (4 : Int32)).toInt64)))), .unset] []))
          refine go (fun tg kg => XS.iconst X15.here hx rfl (hb hby at_129) kg) ?_
          show G (T15.setTop (mkF m 130 #[.val (.long xx), .second, .val (.int kk), .val (.int sel), .val (.int (sel &&& (3 : Int32))), .val (.long ((kk % (4 : Int32)).toInt64)), .second, .val (.long ((-9999999999 : Int64) + ((kk % (4 : Int32)).toInt64))), .second, .val (.int (own_ref ((-9999999999 : Int64) + ((kk % (4 : Int32)).toInt64)))), .unset] [(.int (1 : Int32))]))
          refine fin (some (.int (1 : Int32))) X15 (fun h => absurd h (by decide)) (fun fs hr => retN X15 hx (t := .boolean) hret (by simp) (hb hby at_130) hr) (by decide) (by decide) ?_
          rw [e15]
          exact ⟨rfl, N15⟩
      · refine go (fun tg kg => XS.icmpYes X0.here hx rfl (pc0 := 42) (pc' := 56) rfl (hb hby at_42) rfl (feq hc11).2 (by decide) (by decide) kg) ?_
        show G (s₁.setTop (mkF m 56 #[.val (.long xx), .second, .val (.int kk), .val (.int sel), .val (.int (sel &&& (3 : Int32))), .val (.long ((kk % (4 : Int32)).toInt64)), .second, .unset, .unset, .unset, .unset] []))
        refine go (fun tg kg => XS.iloadN X0.here hx rfl (hb hby at_56) rfl kg) ?_
        show G (s₁.setTop (mkF m 57 #[.val (.long xx), .second, .val (.int kk), .val (.int sel), .val (.int (sel &&& (3 : Int32))), .val (.long ((kk % (4 : Int32)).toInt64)), .second, .unset, .unset, .unset, .unset] [(.int kk)]))
        refine go (fun tg kg => XS.iconst X0.here hx rfl (hb hby at_57) kg) ?_
        show G (s₁.setTop (mkF m 58 #[.val (.long xx), .second, .val (.int kk), .val (.int sel), .val (.int (sel &&& (3 : Int32))), .val (.long ((kk % (4 : Int32)).toInt64)), .second, .unset, .unset, .unset, .unset] [(.int (1 : Int32)), (.int kk)]))
        refine go (fun tg kg => XS.iushr X0.here hx rfl (hb hby at_58) rfl kg) ?_
        show G (s₁.setTop (mkF m 59 #[.val (.long xx), .second, .val (.int kk), .val (.int sel), .val (.int (sel &&& (3 : Int32))), .val (.long ((kk % (4 : Int32)).toInt64)), .second, .unset, .unset, .unset, .unset] [(.int ((kk.toUInt32 >>> ((1 : Int32) &&& 31).toUInt32).toInt32))]))
        refine go (fun tg kg => XS.bipush X0.here hx rfl (hb hby at_59) kg) ?_
        show G (s₁.setTop (mkF m 61 #[.val (.long xx), .second, .val (.int kk), .val (.int sel), .val (.int (sel &&& (3 : Int32))), .val (.long ((kk % (4 : Int32)).toInt64)), .second, .unset, .unset, .unset, .unset] [(.int (7 : Int32)), (.int ((kk.toUInt32 >>> ((1 : Int32) &&& 31).toUInt32).toInt32))]))
        refine go (fun tg kg => XS.iand X0.here hx rfl (hb hby at_61) rfl kg) ?_
        show G (s₁.setTop (mkF m 62 #[.val (.long xx), .second, .val (.int kk), .val (.int sel), .val (.int (sel &&& (3 : Int32))), .val (.long ((kk % (4 : Int32)).toInt64)), .second, .unset, .unset, .unset, .unset] [(.int (((kk.toUInt32 >>> ((1 : Int32) &&& 31).toUInt32).toInt32) &&& (7 : Int32)))]))
        refine go (fun tg kg => XS.i2l X0.here hx rfl (hb hby at_62) rfl kg) ?_
        show G (s₁.setTop (mkF m 63 #[.val (.long xx), .second, .val (.int kk), .val (.int sel), .val (.int (sel &&& (3 : Int32))), .val (.long ((kk % (4 : Int32)).toInt64)), .second, .unset, .unset, .unset, .unset] [(.long ((((kk.toUInt32 >>> ((1 : Int32) &&& 31).toUInt32).toInt32) &&& (7 : Int32)).toInt64))]))
        refine go (fun tg kg => XS.lstore X0.here hx rfl (hb hby at_63) rfl (l' := #[.val (.long xx), .second, .val (.int kk), .val (.int sel), .val (.int (sel &&& (3 : Int32))), .val (.long ((kk % (4 : Int32)).toInt64)), .second, .unset, .unset, .val (.long ((((kk.toUInt32 >>> ((1 : Int32) &&& 31).toUInt32).toInt32) &&& (7 : Int32)).toInt64)), .second]) rfl kg) ?_
        show G (s₁.setTop (mkF m 65 #[.val (.long xx), .second, .val (.int kk), .val (.int sel), .val (.int (sel &&& (3 : Int32))), .val (.long ((kk % (4 : Int32)).toInt64)), .second, .unset, .unset, .val (.long ((((kk.toUInt32 >>> ((1 : Int32) &&& 31).toUInt32).toInt32) &&& (7 : Int32)).toInt64)), .second] []))
        refine go (fun tg kg => XS.iloadN X0.here hx rfl (hb hby at_65) rfl kg) ?_
        show G (s₁.setTop (mkF m 66 #[.val (.long xx), .second, .val (.int kk), .val (.int sel), .val (.int (sel &&& (3 : Int32))), .val (.long ((kk % (4 : Int32)).toInt64)), .second, .unset, .unset, .val (.long ((((kk.toUInt32 >>> ((1 : Int32) &&& 31).toUInt32).toInt32) &&& (7 : Int32)).toInt64)), .second] [(.int kk)]))
        refine go (fun tg kg => XS.iconst X0.here hx rfl (hb hby at_66) kg) ?_
        show G (s₁.setTop (mkF m 67 #[.val (.long xx), .second, .val (.int kk), .val (.int sel), .val (.int (sel &&& (3 : Int32))), .val (.long ((kk % (4 : Int32)).toInt64)), .second, .unset, .unset, .val (.long ((((kk.toUInt32 >>> ((1 : Int32) &&& 31).toUInt32).toInt32) &&& (7 : Int32)).toInt64)), .second] [(.int (1 : Int32)), (.int kk)]))
        refine go (fun tg kg => XS.iand X0.here hx rfl (hb hby at_67) rfl kg) ?_
        show G (s₁.setTop (mkF m 68 #[.val (.long xx), .second, .val (.int kk), .val (.int sel), .val (.int (sel &&& (3 : Int32))), .val (.long ((kk % (4 : Int32)).toInt64)), .second, .unset, .unset, .val (.long ((((kk.toUInt32 >>> ((1 : Int32) &&& 31).toUInt32).toInt32) &&& (7 : Int32)).toInt64)), .second] [(.int (kk &&& (1 : Int32)))]))
        by_cases hc16 : (kk &&& (1 : Int32)) = (0 : Int32)
        · refine go (fun tg kg => XS.ifNo X0.here hx rfl (hb hby at_68) rfl ((if0 _ _).trans (teq hc16).2) kg) ?_
          show G (s₁.setTop (mkF m 71 #[.val (.long xx), .second, .val (.int kk), .val (.int sel), .val (.int (sel &&& (3 : Int32))), .val (.long ((kk % (4 : Int32)).toInt64)), .second, .unset, .unset, .val (.long ((((kk.toUInt32 >>> ((1 : Int32) &&& 31).toUInt32).toInt32) &&& (7 : Int32)).toInt64)), .second] []))
          refine go (fun tg kg => X0.ldc2Long hx hown (mvT hZ (hw _ (List.mem_of_getElem? (i := 12) rfl))) (g := (mkF m 71 #[.val (.long xx), .second, .val (.int kk), .val (.int sel), .val (.int (sel &&& (3 : Int32))), .val (.long ((kk % (4 : Int32)).toInt64)), .second, .unset, .unset, .val (.long ((((kk.toUInt32 >>> ((1 : Int32) &&& 31).toUInt32).toInt32) &&& (7 : Int32)).toInt64)), .second] [])) rfl (hb hby at_71) _ kg) ?_
          show G (s₁.setTop (mkF m 74 #[.val (.long xx), .second, .val (.int kk), .val (.int sel), .val (.int (sel &&& (3 : Int32))), .val (.long ((kk % (4 : Int32)).toInt64)), .second, .unset, .unset, .val (.long ((((kk.toUInt32 >>> ((1 : Int32) &&& 31).toUInt32).toInt32) &&& (7 : Int32)).toInt64)), .second] [(.long (9223372036854775807 : Int64))]))
          refine go (fun tg kg => XS.lload X0.here hx rfl (hb hby at_74) rfl kg) ?_
          show G (s₁.setTop (mkF m 76 #[.val (.long xx), .second, .val (.int kk), .val (.int sel), .val (.int (sel &&& (3 : Int32))), .val (.long ((kk % (4 : Int32)).toInt64)), .second, .unset, .unset, .val (.long ((((kk.toUInt32 >>> ((1 : Int32) &&& 31).toUInt32).toInt32) &&& (7 : Int32)).toInt64)), .second] [(.long ((((kk.toUInt32 >>> ((1 : Int32) &&& 31).toUInt32).toInt32) &&& (7 : Int32)).toInt64)), (.long (9223372036854775807 : Int64))]))
          refine go (fun tg kg => XS.lsub X0.here hx rfl (hb hby at_76) rfl kg) ?_
          show G (s₁.setTop (mkF m 77 #[.val (.long xx), .second, .val (.int kk), .val (.int sel), .val (.int (sel &&& (3 : Int32))), .val (.long ((kk % (4 : Int32)).toInt64)), .second, .unset, .unset, .val (.long ((((kk.toUInt32 >>> ((1 : Int32) &&& 31).toUInt32).toInt32) &&& (7 : Int32)).toInt64)), .second] [(.long ((9223372036854775807 : Int64) - ((((kk.toUInt32 >>> ((1 : Int32) &&& 31).toUInt32).toInt32) &&& (7 : Int32)).toInt64)))]))
          refine go (fun tg kg => XS.goto X0.here hx rfl (pc0 := 77) (pc' := 86) rfl (hb hby at_77) (by decide) (by decide) kg) ?_
          show G (s₁.setTop (mkF m 86 #[.val (.long xx), .second, .val (.int kk), .val (.int sel), .val (.int (sel &&& (3 : Int32))), .val (.long ((kk % (4 : Int32)).toInt64)), .second, .unset, .unset, .val (.long ((((kk.toUInt32 >>> ((1 : Int32) &&& 31).toUInt32).toInt32) &&& (7 : Int32)).toInt64)), .second] [(.long ((9223372036854775807 : Int64) - ((((kk.toUInt32 >>> ((1 : Int32) &&& 31).toUInt32).toInt32) &&& (7 : Int32)).toInt64)))]))
          refine go (fun tg kg => XS.lstore X0.here hx rfl (hb hby at_86) rfl (l' := #[.val (.long xx), .second, .val (.int kk), .val (.int sel), .val (.int (sel &&& (3 : Int32))), .val (.long ((kk % (4 : Int32)).toInt64)), .second, .val (.long ((9223372036854775807 : Int64) - ((((kk.toUInt32 >>> ((1 : Int32) &&& 31).toUInt32).toInt32) &&& (7 : Int32)).toInt64))), .second, .val (.long ((((kk.toUInt32 >>> ((1 : Int32) &&& 31).toUInt32).toInt32) &&& (7 : Int32)).toInt64)), .second]) rfl kg) ?_
          show G (s₁.setTop (mkF m 88 #[.val (.long xx), .second, .val (.int kk), .val (.int sel), .val (.int (sel &&& (3 : Int32))), .val (.long ((kk % (4 : Int32)).toInt64)), .second, .val (.long ((9223372036854775807 : Int64) - ((((kk.toUInt32 >>> ((1 : Int32) &&& 31).toUInt32).toInt32) &&& (7 : Int32)).toInt64))), .second, .val (.long ((((kk.toUInt32 >>> ((1 : Int32) &&& 31).toUInt32).toInt32) &&& (7 : Int32)).toInt64)), .second] []))
          refine go (fun tg kg => XS.lload X0.here hx rfl (hb hby at_88) rfl kg) ?_
          show G (s₁.setTop (mkF m 90 #[.val (.long xx), .second, .val (.int kk), .val (.int sel), .val (.int (sel &&& (3 : Int32))), .val (.long ((kk % (4 : Int32)).toInt64)), .second, .val (.long ((9223372036854775807 : Int64) - ((((kk.toUInt32 >>> ((1 : Int32) &&& 31).toUInt32).toInt32) &&& (7 : Int32)).toInt64))), .second, .val (.long ((((kk.toUInt32 >>> ((1 : Int32) &&& 31).toUInt32).toInt32) &&& (7 : Int32)).toInt64)), .second] [(.long ((9223372036854775807 : Int64) - ((((kk.toUInt32 >>> ((1 : Int32) &&& 31).toUInt32).toInt32) &&& (7 : Int32)).toInt64)))]))
          obtain ⟨_, _, ⟨T17, L17, k17, n17⟩, -, X17, ⟨Lc17, hQ17, l17, y17, z17⟩, st17⟩ := Jvm.LawKit.callS X0 hx (y := (⟨"com/example/orderwright/orderwright/model/PriceIsNetPinLaw", "reference", "(J)Z"⟩ : MethodName)) hown (mvT hZ (hw _ (List.mem_of_getElem? (i := 1) rfl))) (mvT hZ (hw _ (List.mem_of_getElem? (i := 2) rfl))) (mvT hZ (hw _ (List.mem_of_getElem? (i := 3) rfl))) (mvT hZ (hw _ (List.mem_of_getElem? (i := 4) rfl))) (by decide) (backOf (W := 0) (rm1 l Z a0 hw [] ((9223372036854775807 : Int64) - ((((kk.toUInt32 >>> ((1 : Int32) &&& 31).toUInt32).toInt32) &&& (7 : Int32)).toInt64)) h0 n0 Z0 ) hZ (hw _ (List.mem_of_getElem? (i := 4) rfl)) (hw _ (List.mem_of_getElem? (i := 3) rfl)) (by decide) (by decide)) (g := (mkF m 90 #[.val (.long xx), .second, .val (.int kk), .val (.int sel), .val (.int (sel &&& (3 : Int32))), .val (.long ((kk % (4 : Int32)).toInt64)), .second, .val (.long ((9223372036854775807 : Int64) - ((((kk.toUInt32 >>> ((1 : Int32) &&& 31).toUInt32).toInt32) &&& (7 : Int32)).toInt64))), .second, .val (.long ((((kk.toUInt32 >>> ((1 : Int32) &&& 31).toUInt32).toInt32) &&& (7 : Int32)).toInt64)), .second] [(.long ((9223372036854775807 : Int64) - ((((kk.toUInt32 >>> ((1 : Int32) &&& 31).toUInt32).toInt32) &&& (7 : Int32)).toInt64)))])) rfl (by rw [hml]; rfl) (argsL := [(.long ((9223372036854775807 : Int64) - ((((kk.toUInt32 >>> ((1 : Int32) &&& 31).toUInt32).toInt32) &&& (7 : Int32)).toInt64)))]) (rest := []) (lenOf pd__J_Z rfl) rfl (by show 2 * 0 + _ ≤ _; exact Nat.le_of_eq rfl) (hb hby at_90) (fun _ _ => ⟨rfl, e0, (by decide : 0 + 0 ≤ _), (by decide : 0 + 0 ≤ _)⟩)
          dsimp only [Pt.U, Pt.locs, Pt.cells, Pt.slots] at X17 l17 y17 z17 st17 hQ17
          subst l17 y17 z17
          obtain ⟨rfl, Nq17, e17⟩ := hQ17
          have N17 := Fr.app N0 Nq17
          refine go st17 ?_
          show G (T17.setTop (mkF m 93 #[.val (.long xx), .second, .val (.int kk), .val (.int sel), .val (.int (sel &&& (3 : Int32))), .val (.long ((kk % (4 : Int32)).toInt64)), .second, .val (.long ((9223372036854775807 : Int64) - ((((kk.toUInt32 >>> ((1 : Int32) &&& 31).toUInt32).toInt32) &&& (7 : Int32)).toInt64))), .second, .val (.long ((((kk.toUInt32 >>> ((1 : Int32) &&& 31).toUInt32).toInt32) &&& (7 : Int32)).toInt64)), .second] [(.int (own_ref ((9223372036854775807 : Int64) - ((((kk.toUInt32 >>> ((1 : Int32) &&& 31).toUInt32).toInt32) &&& (7 : Int32)).toInt64))))]))
          refine go (fun tg kg => XS.istore X17.here hx rfl (hb hby at_93) rfl (l' := #[.val (.long xx), .second, .val (.int kk), .val (.int sel), .val (.int (sel &&& (3 : Int32))), .val (.long ((kk % (4 : Int32)).toInt64)), .second, .val (.long ((9223372036854775807 : Int64) - ((((kk.toUInt32 >>> ((1 : Int32) &&& 31).toUInt32).toInt32) &&& (7 : Int32)).toInt64))), .second, .val (.int (own_ref ((9223372036854775807 : Int64) - ((((kk.toUInt32 >>> ((1 : Int32) &&& 31).toUInt32).toInt32) &&& (7 : Int32)).toInt64)))), .unset]) rfl kg) ?_
          show G (T17.setTop (mkF m 95 #[.val (.long xx), .second, .val (.int kk), .val (.int sel), .val (.int (sel &&& (3 : Int32))), .val (.long ((kk % (4 : Int32)).toInt64)), .second, .val (.long ((9223372036854775807 : Int64) - ((((kk.toUInt32 >>> ((1 : Int32) &&& 31).toUInt32).toInt32) &&& (7 : Int32)).toInt64))), .second, .val (.int (own_ref ((9223372036854775807 : Int64) - ((((kk.toUInt32 >>> ((1 : Int32) &&& 31).toUInt32).toInt32) &&& (7 : Int32)).toInt64)))), .unset] []))
          refine go (fun tg kg => XS.lload X17.here hx rfl (hb hby at_95) rfl kg) ?_
          show G (T17.setTop (mkF m 97 #[.val (.long xx), .second, .val (.int kk), .val (.int sel), .val (.int (sel &&& (3 : Int32))), .val (.long ((kk % (4 : Int32)).toInt64)), .second, .val (.long ((9223372036854775807 : Int64) - ((((kk.toUInt32 >>> ((1 : Int32) &&& 31).toUInt32).toInt32) &&& (7 : Int32)).toInt64))), .second, .val (.int (own_ref ((9223372036854775807 : Int64) - ((((kk.toUInt32 >>> ((1 : Int32) &&& 31).toUInt32).toInt32) &&& (7 : Int32)).toInt64)))), .unset] [(.long ((9223372036854775807 : Int64) - ((((kk.toUInt32 >>> ((1 : Int32) &&& 31).toUInt32).toInt32) &&& (7 : Int32)).toInt64)))]))
          obtain ⟨_, _, ⟨T18, L18, k18, n18⟩, -, X18, ⟨Lc18, hQ18, l18, y18, z18⟩, st18⟩ := Jvm.LawKit.callS X17 hx (y := (⟨"com/example/orderwright/orderwright/model/Price", "isNet", "(J)Z"⟩ : MethodName)) hown (mvT hZ (hw _ (List.mem_of_getElem? (i := 5) rfl))) (mvT hZ (hw _ (List.mem_of_getElem? (i := 6) rfl))) (mvT hZ (hw _ (List.mem_of_getElem? (i := 7) rfl))) (mvT hZ (hw _ (List.mem_of_getElem? (i := 8) rfl))) (by decide) (backOf (W := 0) (rm2 l Z a0 hw [] ((9223372036854775807 : Int64) - ((((kk.toUInt32 >>> ((1 : Int32) &&& 31).toUInt32).toInt32) &&& (7 : Int32)).toInt64)) h0 n0 Z0 ) hZ (hw _ (List.mem_of_getElem? (i := 8) rfl)) (hw _ (List.mem_of_getElem? (i := 7) rfl)) (by decide) (by decide)) (g := (mkF m 97 #[.val (.long xx), .second, .val (.int kk), .val (.int sel), .val (.int (sel &&& (3 : Int32))), .val (.long ((kk % (4 : Int32)).toInt64)), .second, .val (.long ((9223372036854775807 : Int64) - ((((kk.toUInt32 >>> ((1 : Int32) &&& 31).toUInt32).toInt32) &&& (7 : Int32)).toInt64))), .second, .val (.int (own_ref ((9223372036854775807 : Int64) - ((((kk.toUInt32 >>> ((1 : Int32) &&& 31).toUInt32).toInt32) &&& (7 : Int32)).toInt64)))), .unset] [(.long ((9223372036854775807 : Int64) - ((((kk.toUInt32 >>> ((1 : Int32) &&& 31).toUInt32).toInt32) &&& (7 : Int32)).toInt64)))])) rfl (by rw [hml]; rfl) (argsL := [(.long ((9223372036854775807 : Int64) - ((((kk.toUInt32 >>> ((1 : Int32) &&& 31).toUInt32).toInt32) &&& (7 : Int32)).toInt64)))]) (rest := []) (lenOf pd__J_Z rfl) rfl (by show 2 * 0 + _ ≤ _; exact Nat.le_of_eq rfl) (hb hby at_97) (fun _ _ => ⟨rfl, e17, (by decide : 0 + 0 ≤ _), (by decide : 0 + 0 ≤ _)⟩)
          dsimp only [Pt.U, Pt.locs, Pt.cells, Pt.slots] at X18 l18 y18 z18 st18 hQ18
          subst l18 y18 z18
          obtain ⟨rfl, Nq18, e18⟩ := hQ18
          have N18 := Fr.app N17 Nq18
          refine go st18 ?_
          show G (T18.setTop (mkF m 100 #[.val (.long xx), .second, .val (.int kk), .val (.int sel), .val (.int (sel &&& (3 : Int32))), .val (.long ((kk % (4 : Int32)).toInt64)), .second, .val (.long ((9223372036854775807 : Int64) - ((((kk.toUInt32 >>> ((1 : Int32) &&& 31).toUInt32).toInt32) &&& (7 : Int32)).toInt64))), .second, .val (.int (own_ref ((9223372036854775807 : Int64) - ((((kk.toUInt32 >>> ((1 : Int32) &&& 31).toUInt32).toInt32) &&& (7 : Int32)).toInt64)))), .unset] [(.int (own_net ((9223372036854775807 : Int64) - ((((kk.toUInt32 >>> ((1 : Int32) &&& 31).toUInt32).toInt32) &&& (7 : Int32)).toInt64))))]))
          refine go (fun tg kg => XS.iload X18.here hx rfl (hb hby at_100) rfl kg) ?_
          show G (T18.setTop (mkF m 102 #[.val (.long xx), .second, .val (.int kk), .val (.int sel), .val (.int (sel &&& (3 : Int32))), .val (.long ((kk % (4 : Int32)).toInt64)), .second, .val (.long ((9223372036854775807 : Int64) - ((((kk.toUInt32 >>> ((1 : Int32) &&& 31).toUInt32).toInt32) &&& (7 : Int32)).toInt64))), .second, .val (.int (own_ref ((9223372036854775807 : Int64) - ((((kk.toUInt32 >>> ((1 : Int32) &&& 31).toUInt32).toInt32) &&& (7 : Int32)).toInt64)))), .unset] [(.int (own_ref ((9223372036854775807 : Int64) - ((((kk.toUInt32 >>> ((1 : Int32) &&& 31).toUInt32).toInt32) &&& (7 : Int32)).toInt64)))), (.int (own_net ((9223372036854775807 : Int64) - ((((kk.toUInt32 >>> ((1 : Int32) &&& 31).toUInt32).toInt32) &&& (7 : Int32)).toInt64))))]))
          refine go (fun tg kg => XS.icmpYes X18.here hx rfl (pc0 := 102) (pc' := 107) rfl (hb hby at_102) rfl (teq (own_net_ref _)).1 (by decide) (by decide) kg) ?_
          show G (T18.setTop (mkF m 107 #[.val (.long xx), .second, .val (.int kk), .val (.int sel), .val (.int (sel &&& (3 : Int32))), .val (.long ((kk % (4 : Int32)).toInt64)), .second, .val (.long ((9223372036854775807 : Int64) - ((((kk.toUInt32 >>> ((1 : Int32) &&& 31).toUInt32).toInt32) &&& (7 : Int32)).toInt64))), .second, .val (.int (own_ref ((9223372036854775807 : Int64) - ((((kk.toUInt32 >>> ((1 : Int32) &&& 31).toUInt32).toInt32) &&& (7 : Int32)).toInt64)))), .unset] []))
          refine go (fun tg kg => XS.lload X18.here hx rfl (hb hby at_107) rfl kg) ?_
          show G (T18.setTop (mkF m 109 #[.val (.long xx), .second, .val (.int kk), .val (.int sel), .val (.int (sel &&& (3 : Int32))), .val (.long ((kk % (4 : Int32)).toInt64)), .second, .val (.long ((9223372036854775807 : Int64) - ((((kk.toUInt32 >>> ((1 : Int32) &&& 31).toUInt32).toInt32) &&& (7 : Int32)).toInt64))), .second, .val (.int (own_ref ((9223372036854775807 : Int64) - ((((kk.toUInt32 >>> ((1 : Int32) &&& 31).toUInt32).toInt32) &&& (7 : Int32)).toInt64)))), .unset] [(.long ((9223372036854775807 : Int64) - ((((kk.toUInt32 >>> ((1 : Int32) &&& 31).toUInt32).toInt32) &&& (7 : Int32)).toInt64)))]))
          refine go (fun tg kg => X18.ldc2Long hx hown (mvT hZ (hw _ (List.mem_of_getElem? (i := 11) rfl))) (g := (mkF m 109 #[.val (.long xx), .second, .val (.int kk), .val (.int sel), .val (.int (sel &&& (3 : Int32))), .val (.long ((kk % (4 : Int32)).toInt64)), .second, .val (.long ((9223372036854775807 : Int64) - ((((kk.toUInt32 >>> ((1 : Int32) &&& 31).toUInt32).toInt32) &&& (7 : Int32)).toInt64))), .second, .val (.int (own_ref ((9223372036854775807 : Int64) - ((((kk.toUInt32 >>> ((1 : Int32) &&& 31).toUInt32).toInt32) &&& (7 : Int32)).toInt64)))), .unset] [(.long ((9223372036854775807 : Int64) - ((((kk.toUInt32 >>> ((1 : Int32) &&& 31).toUInt32).toInt32) &&& (7 : Int32)).toInt64)))])) rfl (hb hby at_109) _ kg) ?_
          show G (T18.setTop (mkF m 112 #[.val (.long xx), .second, .val (.int kk), .val (.int sel), .val (.int (sel &&& (3 : Int32))), .val (.long ((kk % (4 : Int32)).toInt64)), .second, .val (.long ((9223372036854775807 : Int64) - ((((kk.toUInt32 >>> ((1 : Int32) &&& 31).toUInt32).toInt32) &&& (7 : Int32)).toInt64))), .second, .val (.int (own_ref ((9223372036854775807 : Int64) - ((((kk.toUInt32 >>> ((1 : Int32) &&& 31).toUInt32).toInt32) &&& (7 : Int32)).toInt64)))), .unset] [(.long (-9223372036854775808 : Int64)), (.long ((9223372036854775807 : Int64) - ((((kk.toUInt32 >>> ((1 : Int32) &&& 31).toUInt32).toInt32) &&& (7 : Int32)).toInt64)))]))
          refine go (fun tg kg => XS.lcmp X18.here hx rfl (hb hby at_112) rfl kg) ?_
          show G (T18.setTop (mkF m 113 #[.val (.long xx), .second, .val (.int kk), .val (.int sel), .val (.int (sel &&& (3 : Int32))), .val (.long ((kk % (4 : Int32)).toInt64)), .second, .val (.long ((9223372036854775807 : Int64) - ((((kk.toUInt32 >>> ((1 : Int32) &&& 31).toUInt32).toInt32) &&& (7 : Int32)).toInt64))), .second, .val (.int (own_ref ((9223372036854775807 : Int64) - ((((kk.toUInt32 >>> ((1 : Int32) &&& 31).toUInt32).toInt32) &&& (7 : Int32)).toInt64)))), .unset] [(.int (lcmpW ((9223372036854775807 : Int64) - ((((kk.toUInt32 >>> ((1 : Int32) &&& 31).toUInt32).toInt32) &&& (7 : Int32)).toInt64)) (-9223372036854775808 : Int64)))]))
          by_cases hc19 : ((9223372036854775807 : Int64) - ((((kk.toUInt32 >>> ((1 : Int32) &&& 31).toUInt32).toInt32) &&& (7 : Int32)).toInt64)) = (-9223372036854775808 : Int64)
          · refine go (fun tg kg => XS.ifYes X18.here hx rfl (pc0 := 113) (pc' := 129) rfl (hb hby at_113) rfl ((if0 _ _).trans (teq ((lw_eq ((9223372036854775807 : Int64) - ((((kk.toUInt32 >>> ((1 : Int32) &&& 31).toUInt32).toInt32) &&& (7 : Int32)).toInt64)) (-9223372036854775808 : Int64)).mpr hc19)).1) (by decide) (by decide) kg) ?_
            show G (T18.setTop (mkF m 129 #[.val (.long xx), .second, .val (.int kk), .val (.int sel), .val (.int (sel &&& (3 : Int32))), .val (.long ((kk % (4 : Int32)).toInt64)), .second, .val (.long ((9223372036854775807 : Int64) - ((((kk.toUInt32 >>> ((1 : Int32) &&& 31).toUInt32).toInt32) &&& (7 : Int32)).toInt64))), .second, .val (.int (own_ref ((9223372036854775807 : Int64) - ((((kk.toUInt32 >>> ((1 : Int32) &&& 31).toUInt32).toInt32) &&& (7 : Int32)).toInt64)))), .unset] []))
            refine go (fun tg kg => XS.iconst X18.here hx rfl (hb hby at_129) kg) ?_
            show G (T18.setTop (mkF m 130 #[.val (.long xx), .second, .val (.int kk), .val (.int sel), .val (.int (sel &&& (3 : Int32))), .val (.long ((kk % (4 : Int32)).toInt64)), .second, .val (.long ((9223372036854775807 : Int64) - ((((kk.toUInt32 >>> ((1 : Int32) &&& 31).toUInt32).toInt32) &&& (7 : Int32)).toInt64))), .second, .val (.int (own_ref ((9223372036854775807 : Int64) - ((((kk.toUInt32 >>> ((1 : Int32) &&& 31).toUInt32).toInt32) &&& (7 : Int32)).toInt64)))), .unset] [(.int (1 : Int32))]))
            refine fin (some (.int (1 : Int32))) X18 (fun h => absurd h (by decide)) (fun fs hr => retN X18 hx (t := .boolean) hret (by simp) (hb hby at_130) hr) (by decide) (by decide) ?_
            rw [e18]
            exact ⟨rfl, N18⟩
          · refine go (fun tg kg => XS.ifNo X18.here hx rfl (hb hby at_113) rfl ((if0 _ _).trans (feq (mt (lw_eq ((9223372036854775807 : Int64) - ((((kk.toUInt32 >>> ((1 : Int32) &&& 31).toUInt32).toInt32) &&& (7 : Int32)).toInt64)) (-9223372036854775808 : Int64)).mp hc19)).1) kg) ?_
            show G (T18.setTop (mkF m 116 #[.val (.long xx), .second, .val (.int kk), .val (.int sel), .val (.int (sel &&& (3 : Int32))), .val (.long ((kk % (4 : Int32)).toInt64)), .second, .val (.long ((9223372036854775807 : Int64) - ((((kk.toUInt32 >>> ((1 : Int32) &&& 31).toUInt32).toInt32) &&& (7 : Int32)).toInt64))), .second, .val (.int (own_ref ((9223372036854775807 : Int64) - ((((kk.toUInt32 >>> ((1 : Int32) &&& 31).toUInt32).toInt32) &&& (7 : Int32)).toInt64)))), .unset] []))
            refine go (fun tg kg => XS.lload X18.here hx rfl (hb hby at_116) rfl kg) ?_
            show G (T18.setTop (mkF m 118 #[.val (.long xx), .second, .val (.int kk), .val (.int sel), .val (.int (sel &&& (3 : Int32))), .val (.long ((kk % (4 : Int32)).toInt64)), .second, .val (.long ((9223372036854775807 : Int64) - ((((kk.toUInt32 >>> ((1 : Int32) &&& 31).toUInt32).toInt32) &&& (7 : Int32)).toInt64))), .second, .val (.int (own_ref ((9223372036854775807 : Int64) - ((((kk.toUInt32 >>> ((1 : Int32) &&& 31).toUInt32).toInt32) &&& (7 : Int32)).toInt64)))), .unset] [(.long ((9223372036854775807 : Int64) - ((((kk.toUInt32 >>> ((1 : Int32) &&& 31).toUInt32).toInt32) &&& (7 : Int32)).toInt64)))]))
            refine go (fun tg kg => XS.lneg X18.here hx rfl (hb hby at_118) rfl kg) ?_
            show G (T18.setTop (mkF m 119 #[.val (.long xx), .second, .val (.int kk), .val (.int sel), .val (.int (sel &&& (3 : Int32))), .val (.long ((kk % (4 : Int32)).toInt64)), .second, .val (.long ((9223372036854775807 : Int64) - ((((kk.toUInt32 >>> ((1 : Int32) &&& 31).toUInt32).toInt32) &&& (7 : Int32)).toInt64))), .second, .val (.int (own_ref ((9223372036854775807 : Int64) - ((((kk.toUInt32 >>> ((1 : Int32) &&& 31).toUInt32).toInt32) &&& (7 : Int32)).toInt64)))), .unset] [(.long (-((9223372036854775807 : Int64) - ((((kk.toUInt32 >>> ((1 : Int32) &&& 31).toUInt32).toInt32) &&& (7 : Int32)).toInt64))))]))
            obtain ⟨_, _, ⟨T20, L20, k20, n20⟩, -, X20, ⟨Lc20, hQ20, l20, y20, z20⟩, st20⟩ := Jvm.LawKit.callS X18 hx (y := (⟨"com/example/orderwright/orderwright/model/Price", "isNet", "(J)Z"⟩ : MethodName)) hown (mvT hZ (hw _ (List.mem_of_getElem? (i := 5) rfl))) (mvT hZ (hw _ (List.mem_of_getElem? (i := 6) rfl))) (mvT hZ (hw _ (List.mem_of_getElem? (i := 7) rfl))) (mvT hZ (hw _ (List.mem_of_getElem? (i := 8) rfl))) (by decide) (backOf (W := 0) (rm2 l Z a0 hw [] (-((9223372036854775807 : Int64) - ((((kk.toUInt32 >>> ((1 : Int32) &&& 31).toUInt32).toInt32) &&& (7 : Int32)).toInt64))) h0 n0 Z0 ) hZ (hw _ (List.mem_of_getElem? (i := 8) rfl)) (hw _ (List.mem_of_getElem? (i := 7) rfl)) (by decide) (by decide)) (g := (mkF m 119 #[.val (.long xx), .second, .val (.int kk), .val (.int sel), .val (.int (sel &&& (3 : Int32))), .val (.long ((kk % (4 : Int32)).toInt64)), .second, .val (.long ((9223372036854775807 : Int64) - ((((kk.toUInt32 >>> ((1 : Int32) &&& 31).toUInt32).toInt32) &&& (7 : Int32)).toInt64))), .second, .val (.int (own_ref ((9223372036854775807 : Int64) - ((((kk.toUInt32 >>> ((1 : Int32) &&& 31).toUInt32).toInt32) &&& (7 : Int32)).toInt64)))), .unset] [(.long (-((9223372036854775807 : Int64) - ((((kk.toUInt32 >>> ((1 : Int32) &&& 31).toUInt32).toInt32) &&& (7 : Int32)).toInt64))))])) rfl (by rw [hml]; rfl) (argsL := [(.long (-((9223372036854775807 : Int64) - ((((kk.toUInt32 >>> ((1 : Int32) &&& 31).toUInt32).toInt32) &&& (7 : Int32)).toInt64))))]) (rest := []) (lenOf pd__J_Z rfl) rfl (by show 2 * 0 + _ ≤ _; exact Nat.le_of_eq rfl) (hb hby at_119) (fun _ _ => ⟨rfl, e18, (by decide : 0 + 0 ≤ _), (by decide : 0 + 0 ≤ _)⟩)
            dsimp only [Pt.U, Pt.locs, Pt.cells, Pt.slots] at X20 l20 y20 z20 st20 hQ20
            subst l20 y20 z20
            obtain ⟨rfl, Nq20, e20⟩ := hQ20
            have N20 := Fr.app N18 Nq20
            refine go st20 ?_
            show G (T20.setTop (mkF m 122 #[.val (.long xx), .second, .val (.int kk), .val (.int sel), .val (.int (sel &&& (3 : Int32))), .val (.long ((kk % (4 : Int32)).toInt64)), .second, .val (.long ((9223372036854775807 : Int64) - ((((kk.toUInt32 >>> ((1 : Int32) &&& 31).toUInt32).toInt32) &&& (7 : Int32)).toInt64))), .second, .val (.int (own_ref ((9223372036854775807 : Int64) - ((((kk.toUInt32 >>> ((1 : Int32) &&& 31).toUInt32).toInt32) &&& (7 : Int32)).toInt64)))), .unset] [(.int (own_net (-((9223372036854775807 : Int64) - ((((kk.toUInt32 >>> ((1 : Int32) &&& 31).toUInt32).toInt32) &&& (7 : Int32)).toInt64)))))]))
            refine go (fun tg kg => XS.iload X20.here hx rfl (hb hby at_122) rfl kg) ?_
            show G (T20.setTop (mkF m 124 #[.val (.long xx), .second, .val (.int kk), .val (.int sel), .val (.int (sel &&& (3 : Int32))), .val (.long ((kk % (4 : Int32)).toInt64)), .second, .val (.long ((9223372036854775807 : Int64) - ((((kk.toUInt32 >>> ((1 : Int32) &&& 31).toUInt32).toInt32) &&& (7 : Int32)).toInt64))), .second, .val (.int (own_ref ((9223372036854775807 : Int64) - ((((kk.toUInt32 >>> ((1 : Int32) &&& 31).toUInt32).toInt32) &&& (7 : Int32)).toInt64)))), .unset] [(.int (own_ref ((9223372036854775807 : Int64) - ((((kk.toUInt32 >>> ((1 : Int32) &&& 31).toUInt32).toInt32) &&& (7 : Int32)).toInt64)))), (.int (own_net (-((9223372036854775807 : Int64) - ((((kk.toUInt32 >>> ((1 : Int32) &&& 31).toUInt32).toInt32) &&& (7 : Int32)).toInt64)))))]))
            refine go (fun tg kg => XS.icmpYes X20.here hx rfl (pc0 := 124) (pc' := 129) rfl (hb hby at_124) rfl (teq (own_net_neg hc19)).1 (by decide) (by decide) kg) ?_
            show G (T20.setTop (mkF m 129 #[.val (.long xx), .second, .val (.int kk), .val (.int sel), .val (.int (sel &&& (3 : Int32))), .val (.long ((kk % (4 : Int32)).toInt64)), .second, .val (.long ((9223372036854775807 : Int64) - ((((kk.toUInt32 >>> ((1 : Int32) &&& 31).toUInt32).toInt32) &&& (7 : Int32)).toInt64))), .second, .val (.int (own_ref ((9223372036854775807 : Int64) - ((((kk.toUInt32 >>> ((1 : Int32) &&& 31).toUInt32).toInt32) &&& (7 : Int32)).toInt64)))), .unset] []))
            refine go (fun tg kg => XS.iconst X20.here hx rfl (hb hby at_129) kg) ?_
            show G (T20.setTop (mkF m 130 #[.val (.long xx), .second, .val (.int kk), .val (.int sel), .val (.int (sel &&& (3 : Int32))), .val (.long ((kk % (4 : Int32)).toInt64)), .second, .val (.long ((9223372036854775807 : Int64) - ((((kk.toUInt32 >>> ((1 : Int32) &&& 31).toUInt32).toInt32) &&& (7 : Int32)).toInt64))), .second, .val (.int (own_ref ((9223372036854775807 : Int64) - ((((kk.toUInt32 >>> ((1 : Int32) &&& 31).toUInt32).toInt32) &&& (7 : Int32)).toInt64)))), .unset] [(.int (1 : Int32))]))
            refine fin (some (.int (1 : Int32))) X20 (fun h => absurd h (by decide)) (fun fs hr => retN X20 hx (t := .boolean) hret (by simp) (hb hby at_130) hr) (by decide) (by decide) ?_
            rw [e20]
            exact ⟨rfl, N20⟩
        · refine go (fun tg kg => XS.ifYes X0.here hx rfl (pc0 := 68) (pc' := 80) rfl (hb hby at_68) rfl ((if0 _ _).trans (feq hc16).2) (by decide) (by decide) kg) ?_
          show G (s₁.setTop (mkF m 80 #[.val (.long xx), .second, .val (.int kk), .val (.int sel), .val (.int (sel &&& (3 : Int32))), .val (.long ((kk % (4 : Int32)).toInt64)), .second, .unset, .unset, .val (.long ((((kk.toUInt32 >>> ((1 : Int32) &&& 31).toUInt32).toInt32) &&& (7 : Int32)).toInt64)), .second] []))
          refine go (fun tg kg => X0.ldc2Long hx hown (mvT hZ (hw _ (List.mem_of_getElem? (i := 11) rfl))) (g := (mkF m 80 #[.val (.long xx), .second, .val (.int kk), .val (.int sel), .val (.int (sel &&& (3 : Int32))), .val (.long ((kk % (4 : Int32)).toInt64)), .second, .unset, .unset, .val (.long ((((kk.toUInt32 >>> ((1 : Int32) &&& 31).toUInt32).toInt32) &&& (7 : Int32)).toInt64)), .second] [])) rfl (hb hby at_80) _ kg) ?_
          show G (s₁.setTop (mkF m 83 #[.val (.long xx), .second, .val (.int kk), .val (.int sel), .val (.int (sel &&& (3 : Int32))), .val (.long ((kk % (4 : Int32)).toInt64)), .second, .unset, .unset, .val (.long ((((kk.toUInt32 >>> ((1 : Int32) &&& 31).toUInt32).toInt32) &&& (7 : Int32)).toInt64)), .second] [(.long (-9223372036854775808 : Int64))]))
          refine go (fun tg kg => XS.lload X0.here hx rfl (hb hby at_83) rfl kg) ?_
          show G (s₁.setTop (mkF m 85 #[.val (.long xx), .second, .val (.int kk), .val (.int sel), .val (.int (sel &&& (3 : Int32))), .val (.long ((kk % (4 : Int32)).toInt64)), .second, .unset, .unset, .val (.long ((((kk.toUInt32 >>> ((1 : Int32) &&& 31).toUInt32).toInt32) &&& (7 : Int32)).toInt64)), .second] [(.long ((((kk.toUInt32 >>> ((1 : Int32) &&& 31).toUInt32).toInt32) &&& (7 : Int32)).toInt64)), (.long (-9223372036854775808 : Int64))]))
          refine go (fun tg kg => XS.ladd X0.here hx rfl (hb hby at_85) rfl kg) ?_
          show G (s₁.setTop (mkF m 86 #[.val (.long xx), .second, .val (.int kk), .val (.int sel), .val (.int (sel &&& (3 : Int32))), .val (.long ((kk % (4 : Int32)).toInt64)), .second, .unset, .unset, .val (.long ((((kk.toUInt32 >>> ((1 : Int32) &&& 31).toUInt32).toInt32) &&& (7 : Int32)).toInt64)), .second] [(.long ((-9223372036854775808 : Int64) + ((((kk.toUInt32 >>> ((1 : Int32) &&& 31).toUInt32).toInt32) &&& (7 : Int32)).toInt64)))]))
          refine go (fun tg kg => XS.lstore X0.here hx rfl (hb hby at_86) rfl (l' := #[.val (.long xx), .second, .val (.int kk), .val (.int sel), .val (.int (sel &&& (3 : Int32))), .val (.long ((kk % (4 : Int32)).toInt64)), .second, .val (.long ((-9223372036854775808 : Int64) + ((((kk.toUInt32 >>> ((1 : Int32) &&& 31).toUInt32).toInt32) &&& (7 : Int32)).toInt64))), .second, .val (.long ((((kk.toUInt32 >>> ((1 : Int32) &&& 31).toUInt32).toInt32) &&& (7 : Int32)).toInt64)), .second]) rfl kg) ?_
          show G (s₁.setTop (mkF m 88 #[.val (.long xx), .second, .val (.int kk), .val (.int sel), .val (.int (sel &&& (3 : Int32))), .val (.long ((kk % (4 : Int32)).toInt64)), .second, .val (.long ((-9223372036854775808 : Int64) + ((((kk.toUInt32 >>> ((1 : Int32) &&& 31).toUInt32).toInt32) &&& (7 : Int32)).toInt64))), .second, .val (.long ((((kk.toUInt32 >>> ((1 : Int32) &&& 31).toUInt32).toInt32) &&& (7 : Int32)).toInt64)), .second] []))
          refine go (fun tg kg => XS.lload X0.here hx rfl (hb hby at_88) rfl kg) ?_
          show G (s₁.setTop (mkF m 90 #[.val (.long xx), .second, .val (.int kk), .val (.int sel), .val (.int (sel &&& (3 : Int32))), .val (.long ((kk % (4 : Int32)).toInt64)), .second, .val (.long ((-9223372036854775808 : Int64) + ((((kk.toUInt32 >>> ((1 : Int32) &&& 31).toUInt32).toInt32) &&& (7 : Int32)).toInt64))), .second, .val (.long ((((kk.toUInt32 >>> ((1 : Int32) &&& 31).toUInt32).toInt32) &&& (7 : Int32)).toInt64)), .second] [(.long ((-9223372036854775808 : Int64) + ((((kk.toUInt32 >>> ((1 : Int32) &&& 31).toUInt32).toInt32) &&& (7 : Int32)).toInt64)))]))
          obtain ⟨_, _, ⟨T21, L21, k21, n21⟩, -, X21, ⟨Lc21, hQ21, l21, y21, z21⟩, st21⟩ := Jvm.LawKit.callS X0 hx (y := (⟨"com/example/orderwright/orderwright/model/PriceIsNetPinLaw", "reference", "(J)Z"⟩ : MethodName)) hown (mvT hZ (hw _ (List.mem_of_getElem? (i := 1) rfl))) (mvT hZ (hw _ (List.mem_of_getElem? (i := 2) rfl))) (mvT hZ (hw _ (List.mem_of_getElem? (i := 3) rfl))) (mvT hZ (hw _ (List.mem_of_getElem? (i := 4) rfl))) (by decide) (backOf (W := 0) (rm1 l Z a0 hw [] ((-9223372036854775808 : Int64) + ((((kk.toUInt32 >>> ((1 : Int32) &&& 31).toUInt32).toInt32) &&& (7 : Int32)).toInt64)) h0 n0 Z0 ) hZ (hw _ (List.mem_of_getElem? (i := 4) rfl)) (hw _ (List.mem_of_getElem? (i := 3) rfl)) (by decide) (by decide)) (g := (mkF m 90 #[.val (.long xx), .second, .val (.int kk), .val (.int sel), .val (.int (sel &&& (3 : Int32))), .val (.long ((kk % (4 : Int32)).toInt64)), .second, .val (.long ((-9223372036854775808 : Int64) + ((((kk.toUInt32 >>> ((1 : Int32) &&& 31).toUInt32).toInt32) &&& (7 : Int32)).toInt64))), .second, .val (.long ((((kk.toUInt32 >>> ((1 : Int32) &&& 31).toUInt32).toInt32) &&& (7 : Int32)).toInt64)), .second] [(.long ((-9223372036854775808 : Int64) + ((((kk.toUInt32 >>> ((1 : Int32) &&& 31).toUInt32).toInt32) &&& (7 : Int32)).toInt64)))])) rfl (by rw [hml]; rfl) (argsL := [(.long ((-9223372036854775808 : Int64) + ((((kk.toUInt32 >>> ((1 : Int32) &&& 31).toUInt32).toInt32) &&& (7 : Int32)).toInt64)))]) (rest := []) (lenOf pd__J_Z rfl) rfl (by show 2 * 0 + _ ≤ _; exact Nat.le_of_eq rfl) (hb hby at_90) (fun _ _ => ⟨rfl, e0, (by decide : 0 + 0 ≤ _), (by decide : 0 + 0 ≤ _)⟩)
          dsimp only [Pt.U, Pt.locs, Pt.cells, Pt.slots] at X21 l21 y21 z21 st21 hQ21
          subst l21 y21 z21
          obtain ⟨rfl, Nq21, e21⟩ := hQ21
          have N21 := Fr.app N0 Nq21
          refine go st21 ?_
          show G (T21.setTop (mkF m 93 #[.val (.long xx), .second, .val (.int kk), .val (.int sel), .val (.int (sel &&& (3 : Int32))), .val (.long ((kk % (4 : Int32)).toInt64)), .second, .val (.long ((-9223372036854775808 : Int64) + ((((kk.toUInt32 >>> ((1 : Int32) &&& 31).toUInt32).toInt32) &&& (7 : Int32)).toInt64))), .second, .val (.long ((((kk.toUInt32 >>> ((1 : Int32) &&& 31).toUInt32).toInt32) &&& (7 : Int32)).toInt64)), .second] [(.int (own_ref ((-9223372036854775808 : Int64) + ((((kk.toUInt32 >>> ((1 : Int32) &&& 31).toUInt32).toInt32) &&& (7 : Int32)).toInt64))))]))
          refine go (fun tg kg => XS.istore X21.here hx rfl (hb hby at_93) rfl (l' := #[.val (.long xx), .second, .val (.int kk), .val (.int sel), .val (.int (sel &&& (3 : Int32))), .val (.long ((kk % (4 : Int32)).toInt64)), .second, .val (.long ((-9223372036854775808 : Int64) + ((((kk.toUInt32 >>> ((1 : Int32) &&& 31).toUInt32).toInt32) &&& (7 : Int32)).toInt64))), .second, .val (.int (own_ref ((-9223372036854775808 : Int64) + ((((kk.toUInt32 >>> ((1 : Int32) &&& 31).toUInt32).toInt32) &&& (7 : Int32)).toInt64)))), .unset]) rfl kg) ?_
          show G (T21.setTop (mkF m 95 #[.val (.long xx), .second, .val (.int kk), .val (.int sel), .val (.int (sel &&& (3 : Int32))), .val (.long ((kk % (4 : Int32)).toInt64)), .second, .val (.long ((-9223372036854775808 : Int64) + ((((kk.toUInt32 >>> ((1 : Int32) &&& 31).toUInt32).toInt32) &&& (7 : Int32)).toInt64))), .second, .val (.int (own_ref ((-9223372036854775808 : Int64) + ((((kk.toUInt32 >>> ((1 : Int32) &&& 31).toUInt32).toInt32) &&& (7 : Int32)).toInt64)))), .unset] []))
          refine go (fun tg kg => XS.lload X21.here hx rfl (hb hby at_95) rfl kg) ?_
          show G (T21.setTop (mkF m 97 #[.val (.long xx), .second, .val (.int kk), .val (.int sel), .val (.int (sel &&& (3 : Int32))), .val (.long ((kk % (4 : Int32)).toInt64)), .second, .val (.long ((-9223372036854775808 : Int64) + ((((kk.toUInt32 >>> ((1 : Int32) &&& 31).toUInt32).toInt32) &&& (7 : Int32)).toInt64))), .second, .val (.int (own_ref ((-9223372036854775808 : Int64) + ((((kk.toUInt32 >>> ((1 : Int32) &&& 31).toUInt32).toInt32) &&& (7 : Int32)).toInt64)))), .unset] [(.long ((-9223372036854775808 : Int64) + ((((kk.toUInt32 >>> ((1 : Int32) &&& 31).toUInt32).toInt32) &&& (7 : Int32)).toInt64)))]))
          obtain ⟨_, _, ⟨T22, L22, k22, n22⟩, -, X22, ⟨Lc22, hQ22, l22, y22, z22⟩, st22⟩ := Jvm.LawKit.callS X21 hx (y := (⟨"com/example/orderwright/orderwright/model/Price", "isNet", "(J)Z"⟩ : MethodName)) hown (mvT hZ (hw _ (List.mem_of_getElem? (i := 5) rfl))) (mvT hZ (hw _ (List.mem_of_getElem? (i := 6) rfl))) (mvT hZ (hw _ (List.mem_of_getElem? (i := 7) rfl))) (mvT hZ (hw _ (List.mem_of_getElem? (i := 8) rfl))) (by decide) (backOf (W := 0) (rm2 l Z a0 hw [] ((-9223372036854775808 : Int64) + ((((kk.toUInt32 >>> ((1 : Int32) &&& 31).toUInt32).toInt32) &&& (7 : Int32)).toInt64)) h0 n0 Z0 ) hZ (hw _ (List.mem_of_getElem? (i := 8) rfl)) (hw _ (List.mem_of_getElem? (i := 7) rfl)) (by decide) (by decide)) (g := (mkF m 97 #[.val (.long xx), .second, .val (.int kk), .val (.int sel), .val (.int (sel &&& (3 : Int32))), .val (.long ((kk % (4 : Int32)).toInt64)), .second, .val (.long ((-9223372036854775808 : Int64) + ((((kk.toUInt32 >>> ((1 : Int32) &&& 31).toUInt32).toInt32) &&& (7 : Int32)).toInt64))), .second, .val (.int (own_ref ((-9223372036854775808 : Int64) + ((((kk.toUInt32 >>> ((1 : Int32) &&& 31).toUInt32).toInt32) &&& (7 : Int32)).toInt64)))), .unset] [(.long ((-9223372036854775808 : Int64) + ((((kk.toUInt32 >>> ((1 : Int32) &&& 31).toUInt32).toInt32) &&& (7 : Int32)).toInt64)))])) rfl (by rw [hml]; rfl) (argsL := [(.long ((-9223372036854775808 : Int64) + ((((kk.toUInt32 >>> ((1 : Int32) &&& 31).toUInt32).toInt32) &&& (7 : Int32)).toInt64)))]) (rest := []) (lenOf pd__J_Z rfl) rfl (by show 2 * 0 + _ ≤ _; exact Nat.le_of_eq rfl) (hb hby at_97) (fun _ _ => ⟨rfl, e21, (by decide : 0 + 0 ≤ _), (by decide : 0 + 0 ≤ _)⟩)
          dsimp only [Pt.U, Pt.locs, Pt.cells, Pt.slots] at X22 l22 y22 z22 st22 hQ22
          subst l22 y22 z22
          obtain ⟨rfl, Nq22, e22⟩ := hQ22
          have N22 := Fr.app N21 Nq22
          refine go st22 ?_
          show G (T22.setTop (mkF m 100 #[.val (.long xx), .second, .val (.int kk), .val (.int sel), .val (.int (sel &&& (3 : Int32))), .val (.long ((kk % (4 : Int32)).toInt64)), .second, .val (.long ((-9223372036854775808 : Int64) + ((((kk.toUInt32 >>> ((1 : Int32) &&& 31).toUInt32).toInt32) &&& (7 : Int32)).toInt64))), .second, .val (.int (own_ref ((-9223372036854775808 : Int64) + ((((kk.toUInt32 >>> ((1 : Int32) &&& 31).toUInt32).toInt32) &&& (7 : Int32)).toInt64)))), .unset] [(.int (own_net ((-9223372036854775808 : Int64) + ((((kk.toUInt32 >>> ((1 : Int32) &&& 31).toUInt32).toInt32) &&& (7 : Int32)).toInt64))))]))
          refine go (fun tg kg => XS.iload X22.here hx rfl (hb hby at_100) rfl kg) ?_
          show G (T22.setTop (mkF m 102 #[.val (.long xx), .second, .val (.int kk), .val (.int sel), .val (.int (sel &&& (3 : Int32))), .val (.long ((kk % (4 : Int32)).toInt64)), .second, .val (.long ((-9223372036854775808 : Int64) + ((((kk.toUInt32 >>> ((1 : Int32) &&& 31).toUInt32).toInt32) &&& (7 : Int32)).toInt64))), .second, .val (.int (own_ref ((-9223372036854775808 : Int64) + ((((kk.toUInt32 >>> ((1 : Int32) &&& 31).toUInt32).toInt32) &&& (7 : Int32)).toInt64)))), .unset] [(.int (own_ref ((-9223372036854775808 : Int64) + ((((kk.toUInt32 >>> ((1 : Int32) &&& 31).toUInt32).toInt32) &&& (7 : Int32)).toInt64)))), (.int (own_net ((-9223372036854775808 : Int64) + ((((kk.toUInt32 >>> ((1 : Int32) &&& 31).toUInt32).toInt32) &&& (7 : Int32)).toInt64))))]))
          refine go (fun tg kg => XS.icmpYes X22.here hx rfl (pc0 := 102) (pc' := 107) rfl (hb hby at_102) rfl (teq (own_net_ref _)).1 (by decide) (by decide) kg) ?_
          show G (T22.setTop (mkF m 107 #[.val (.long xx), .second, .val (.int kk), .val (.int sel), .val (.int (sel &&& (3 : Int32))), .val (.long ((kk % (4 : Int32)).toInt64)), .second, .val (.long ((-9223372036854775808 : Int64) + ((((kk.toUInt32 >>> ((1 : Int32) &&& 31).toUInt32).toInt32) &&& (7 : Int32)).toInt64))), .second, .val (.int (own_ref ((-9223372036854775808 : Int64) + ((((kk.toUInt32 >>> ((1 : Int32) &&& 31).toUInt32).toInt32) &&& (7 : Int32)).toInt64)))), .unset] []))
          refine go (fun tg kg => XS.lload X22.here hx rfl (hb hby at_107) rfl kg) ?_
          show G (T22.setTop (mkF m 109 #[.val (.long xx), .second, .val (.int kk), .val (.int sel), .val (.int (sel &&& (3 : Int32))), .val (.long ((kk % (4 : Int32)).toInt64)), .second, .val (.long ((-9223372036854775808 : Int64) + ((((kk.toUInt32 >>> ((1 : Int32) &&& 31).toUInt32).toInt32) &&& (7 : Int32)).toInt64))), .second, .val (.int (own_ref ((-9223372036854775808 : Int64) + ((((kk.toUInt32 >>> ((1 : Int32) &&& 31).toUInt32).toInt32) &&& (7 : Int32)).toInt64)))), .unset] [(.long ((-9223372036854775808 : Int64) + ((((kk.toUInt32 >>> ((1 : Int32) &&& 31).toUInt32).toInt32) &&& (7 : Int32)).toInt64)))]))
          refine go (fun tg kg => X22.ldc2Long hx hown (mvT hZ (hw _ (List.mem_of_getElem? (i := 11) rfl))) (g := (mkF m 109 #[.val (.long xx), .second, .val (.int kk), .val (.int sel), .val (.int (sel &&& (3 : Int32))), .val (.long ((kk % (4 : Int32)).toInt64)), .second, .val (.long ((-9223372036854775808 : Int64) + ((((kk.toUInt32 >>> ((1 : Int32) &&& 31).toUInt32).toInt32) &&& (7 : Int32)).toInt64))), .second, .val (.int (own_ref ((-9223372036854775808 : Int64) + ((((kk.toUInt32 >>> ((1 : Int32) &&& 31).toUInt32).toInt32) &&& (7 : Int32)).toInt64)))), .unset] [(.long ((-9223372036854775808 : Int64) + ((((kk.toUInt32 >>> ((1 : Int32) &&& 31).toUInt32).toInt32) &&& (7 : Int32)).toInt64)))])) rfl (hb hby at_109) _ kg) ?_
          show G (T22.setTop (mkF m 112 #[.val (.long xx), .second, .val (.int kk), .val (.int sel), .val (.int (sel &&& (3 : Int32))), .val (.long ((kk % (4 : Int32)).toInt64)), .second, .val (.long ((-9223372036854775808 : Int64) + ((((kk.toUInt32 >>> ((1 : Int32) &&& 31).toUInt32).toInt32) &&& (7 : Int32)).toInt64))), .second, .val (.int (own_ref ((-9223372036854775808 : Int64) + ((((kk.toUInt32 >>> ((1 : Int32) &&& 31).toUInt32).toInt32) &&& (7 : Int32)).toInt64)))), .unset] [(.long (-9223372036854775808 : Int64)), (.long ((-9223372036854775808 : Int64) + ((((kk.toUInt32 >>> ((1 : Int32) &&& 31).toUInt32).toInt32) &&& (7 : Int32)).toInt64)))]))
          refine go (fun tg kg => XS.lcmp X22.here hx rfl (hb hby at_112) rfl kg) ?_
          show G (T22.setTop (mkF m 113 #[.val (.long xx), .second, .val (.int kk), .val (.int sel), .val (.int (sel &&& (3 : Int32))), .val (.long ((kk % (4 : Int32)).toInt64)), .second, .val (.long ((-9223372036854775808 : Int64) + ((((kk.toUInt32 >>> ((1 : Int32) &&& 31).toUInt32).toInt32) &&& (7 : Int32)).toInt64))), .second, .val (.int (own_ref ((-9223372036854775808 : Int64) + ((((kk.toUInt32 >>> ((1 : Int32) &&& 31).toUInt32).toInt32) &&& (7 : Int32)).toInt64)))), .unset] [(.int (lcmpW ((-9223372036854775808 : Int64) + ((((kk.toUInt32 >>> ((1 : Int32) &&& 31).toUInt32).toInt32) &&& (7 : Int32)).toInt64)) (-9223372036854775808 : Int64)))]))
          by_cases hc23 : ((-9223372036854775808 : Int64) + ((((kk.toUInt32 >>> ((1 : Int32) &&& 31).toUInt32).toInt32) &&& (7 : Int32)).toInt64)) = (-9223372036854775808 : Int64)
          · refine go (fun tg kg => XS.ifYes X22.here hx rfl (pc0 := 113) (pc' := 129) rfl (hb hby at_113) rfl ((if0 _ _).trans (teq ((lw_eq ((-9223372036854775808 : Int64) + ((((kk.toUInt32 >>> ((1 : Int32) &&& 31).toUInt32).toInt32) &&& (7 : Int32)).toInt64)) (-9223372036854775808 : Int64)).mpr hc23)).1) (by decide) (by decide) kg) ?_
            show G (T22.setTop (mkF m 129 #[.val (.long xx), .second, .val (.int kk), .val (.int sel), .val (.int (sel &&& (3 : Int32))), .val (.long ((kk % (4 : Int32)).toInt64)), .second, .val (.long ((-9223372036854775808 : Int64) + ((((kk.toUInt32 >>> ((1 : Int32) &&& 31).toUInt32).toInt32) &&& (7 : Int32)).toInt64))), .second, .val (.int (own_ref ((-9223372036854775808 : Int64) + ((((kk.toUInt32 >>> ((1 : Int32) &&& 31).toUInt32).toInt32) &&& (7 : Int32)).toInt64)))), .unset] []))
            refine go (fun tg kg => XS.iconst X22.here hx rfl (hb hby at_129) kg) ?_
            show G (T22.setTop (mkF m 130 #[.val (.long xx), .second, .val (.int kk), .val (.int sel), .val (.int (sel &&& (3 : Int32))), .val (.long ((kk % (4 : Int32)).toInt64)), .second, .val (.long ((-9223372036854775808 : Int64) + ((((kk.toUInt32 >>> ((1 : Int32) &&& 31).toUInt32).toInt32) &&& (7 : Int32)).toInt64))), .second, .val (.int (own_ref ((-9223372036854775808 : Int64) + ((((kk.toUInt32 >>> ((1 : Int32) &&& 31).toUInt32).toInt32) &&& (7 : Int32)).toInt64)))), .unset] [(.int (1 : Int32))]))
            refine fin (some (.int (1 : Int32))) X22 (fun h => absurd h (by decide)) (fun fs hr => retN X22 hx (t := .boolean) hret (by simp) (hb hby at_130) hr) (by decide) (by decide) ?_
            rw [e22]
            exact ⟨rfl, N22⟩
          · refine go (fun tg kg => XS.ifNo X22.here hx rfl (hb hby at_113) rfl ((if0 _ _).trans (feq (mt (lw_eq ((-9223372036854775808 : Int64) + ((((kk.toUInt32 >>> ((1 : Int32) &&& 31).toUInt32).toInt32) &&& (7 : Int32)).toInt64)) (-9223372036854775808 : Int64)).mp hc23)).1) kg) ?_
            show G (T22.setTop (mkF m 116 #[.val (.long xx), .second, .val (.int kk), .val (.int sel), .val (.int (sel &&& (3 : Int32))), .val (.long ((kk % (4 : Int32)).toInt64)), .second, .val (.long ((-9223372036854775808 : Int64) + ((((kk.toUInt32 >>> ((1 : Int32) &&& 31).toUInt32).toInt32) &&& (7 : Int32)).toInt64))), .second, .val (.int (own_ref ((-9223372036854775808 : Int64) + ((((kk.toUInt32 >>> ((1 : Int32) &&& 31).toUInt32).toInt32) &&& (7 : Int32)).toInt64)))), .unset] []))
            refine go (fun tg kg => XS.lload X22.here hx rfl (hb hby at_116) rfl kg) ?_
            show G (T22.setTop (mkF m 118 #[.val (.long xx), .second, .val (.int kk), .val (.int sel), .val (.int (sel &&& (3 : Int32))), .val (.long ((kk % (4 : Int32)).toInt64)), .second, .val (.long ((-9223372036854775808 : Int64) + ((((kk.toUInt32 >>> ((1 : Int32) &&& 31).toUInt32).toInt32) &&& (7 : Int32)).toInt64))), .second, .val (.int (own_ref ((-9223372036854775808 : Int64) + ((((kk.toUInt32 >>> ((1 : Int32) &&& 31).toUInt32).toInt32) &&& (7 : Int32)).toInt64)))), .unset] [(.long ((-9223372036854775808 : Int64) + ((((kk.toUInt32 >>> ((1 : Int32) &&& 31).toUInt32).toInt32) &&& (7 : Int32)).toInt64)))]))
            refine go (fun tg kg => XS.lneg X22.here hx rfl (hb hby at_118) rfl kg) ?_
            show G (T22.setTop (mkF m 119 #[.val (.long xx), .second, .val (.int kk), .val (.int sel), .val (.int (sel &&& (3 : Int32))), .val (.long ((kk % (4 : Int32)).toInt64)), .second, .val (.long ((-9223372036854775808 : Int64) + ((((kk.toUInt32 >>> ((1 : Int32) &&& 31).toUInt32).toInt32) &&& (7 : Int32)).toInt64))), .second, .val (.int (own_ref ((-9223372036854775808 : Int64) + ((((kk.toUInt32 >>> ((1 : Int32) &&& 31).toUInt32).toInt32) &&& (7 : Int32)).toInt64)))), .unset] [(.long (-((-9223372036854775808 : Int64) + ((((kk.toUInt32 >>> ((1 : Int32) &&& 31).toUInt32).toInt32) &&& (7 : Int32)).toInt64))))]))
            obtain ⟨_, _, ⟨T24, L24, k24, n24⟩, -, X24, ⟨Lc24, hQ24, l24, y24, z24⟩, st24⟩ := Jvm.LawKit.callS X22 hx (y := (⟨"com/example/orderwright/orderwright/model/Price", "isNet", "(J)Z"⟩ : MethodName)) hown (mvT hZ (hw _ (List.mem_of_getElem? (i := 5) rfl))) (mvT hZ (hw _ (List.mem_of_getElem? (i := 6) rfl))) (mvT hZ (hw _ (List.mem_of_getElem? (i := 7) rfl))) (mvT hZ (hw _ (List.mem_of_getElem? (i := 8) rfl))) (by decide) (backOf (W := 0) (rm2 l Z a0 hw [] (-((-9223372036854775808 : Int64) + ((((kk.toUInt32 >>> ((1 : Int32) &&& 31).toUInt32).toInt32) &&& (7 : Int32)).toInt64))) h0 n0 Z0 ) hZ (hw _ (List.mem_of_getElem? (i := 8) rfl)) (hw _ (List.mem_of_getElem? (i := 7) rfl)) (by decide) (by decide)) (g := (mkF m 119 #[.val (.long xx), .second, .val (.int kk), .val (.int sel), .val (.int (sel &&& (3 : Int32))), .val (.long ((kk % (4 : Int32)).toInt64)), .second, .val (.long ((-9223372036854775808 : Int64) + ((((kk.toUInt32 >>> ((1 : Int32) &&& 31).toUInt32).toInt32) &&& (7 : Int32)).toInt64))), .second, .val (.int (own_ref ((-9223372036854775808 : Int64) + ((((kk.toUInt32 >>> ((1 : Int32) &&& 31).toUInt32).toInt32) &&& (7 : Int32)).toInt64)))), .unset] [(.long (-((-9223372036854775808 : Int64) + ((((kk.toUInt32 >>> ((1 : Int32) &&& 31).toUInt32).toInt32) &&& (7 : Int32)).toInt64))))])) rfl (by rw [hml]; rfl) (argsL := [(.long (-((-9223372036854775808 : Int64) + ((((kk.toUInt32 >>> ((1 : Int32) &&& 31).toUInt32).toInt32) &&& (7 : Int32)).toInt64))))]) (rest := []) (lenOf pd__J_Z rfl) rfl (by show 2 * 0 + _ ≤ _; exact Nat.le_of_eq rfl) (hb hby at_119) (fun _ _ => ⟨rfl, e22, (by decide : 0 + 0 ≤ _), (by decide : 0 + 0 ≤ _)⟩)
            dsimp only [Pt.U, Pt.locs, Pt.cells, Pt.slots] at X24 l24 y24 z24 st24 hQ24
            subst l24 y24 z24
            obtain ⟨rfl, Nq24, e24⟩ := hQ24
            have N24 := Fr.app N22 Nq24
            refine go st24 ?_
            show G (T24.setTop (mkF m 122 #[.val (.long xx), .second, .val (.int kk), .val (.int sel), .val (.int (sel &&& (3 : Int32))), .val (.long ((kk % (4 : Int32)).toInt64)), .second, .val (.long ((-9223372036854775808 : Int64) + ((((kk.toUInt32 >>> ((1 : Int32) &&& 31).toUInt32).toInt32) &&& (7 : Int32)).toInt64))), .second, .val (.int (own_ref ((-9223372036854775808 : Int64) + ((((kk.toUInt32 >>> ((1 : Int32) &&& 31).toUInt32).toInt32) &&& (7 : Int32)).toInt64)))), .unset] [(.int (own_net (-((-9223372036854775808 : Int64) + ((((kk.toUInt32 >>> ((1 : Int32) &&& 31).toUInt32).toInt32) &&& (7 : Int32)).toInt64)))))]))
            refine go (fun tg kg => XS.iload X24.here hx rfl (hb hby at_122) rfl kg) ?_
            show G (T24.setTop (mkF m 124 #[.val (.long xx), .second, .val (.int kk), .val (.int sel), .val (.int (sel &&& (3 : Int32))), .val (.long ((kk % (4 : Int32)).toInt64)), .second, .val (.long ((-9223372036854775808 : Int64) + ((((kk.toUInt32 >>> ((1 : Int32) &&& 31).toUInt32).toInt32) &&& (7 : Int32)).toInt64))), .second, .val (.int (own_ref ((-9223372036854775808 : Int64) + ((((kk.toUInt32 >>> ((1 : Int32) &&& 31).toUInt32).toInt32) &&& (7 : Int32)).toInt64)))), .unset] [(.int (own_ref ((-9223372036854775808 : Int64) + ((((kk.toUInt32 >>> ((1 : Int32) &&& 31).toUInt32).toInt32) &&& (7 : Int32)).toInt64)))), (.int (own_net (-((-9223372036854775808 : Int64) + ((((kk.toUInt32 >>> ((1 : Int32) &&& 31).toUInt32).toInt32) &&& (7 : Int32)).toInt64)))))]))
            refine go (fun tg kg => XS.icmpYes X24.here hx rfl (pc0 := 124) (pc' := 129) rfl (hb hby at_124) rfl (teq (own_net_neg hc23)).1 (by decide) (by decide) kg) ?_
            show G (T24.setTop (mkF m 129 #[.val (.long xx), .second, .val (.int kk), .val (.int sel), .val (.int (sel &&& (3 : Int32))), .val (.long ((kk % (4 : Int32)).toInt64)), .second, .val (.long ((-9223372036854775808 : Int64) + ((((kk.toUInt32 >>> ((1 : Int32) &&& 31).toUInt32).toInt32) &&& (7 : Int32)).toInt64))), .second, .val (.int (own_ref ((-9223372036854775808 : Int64) + ((((kk.toUInt32 >>> ((1 : Int32) &&& 31).toUInt32).toInt32) &&& (7 : Int32)).toInt64)))), .unset] []))
            refine go (fun tg kg => XS.iconst X24.here hx rfl (hb hby at_129) kg) ?_
            show G (T24.setTop (mkF m 130 #[.val (.long xx), .second, .val (.int kk), .val (.int sel), .val (.int (sel &&& (3 : Int32))), .val (.long ((kk % (4 : Int32)).toInt64)), .second, .val (.long ((-9223372036854775808 : Int64) + ((((kk.toUInt32 >>> ((1 : Int32) &&& 31).toUInt32).toInt32) &&& (7 : Int32)).toInt64))), .second, .val (.int (own_ref ((-9223372036854775808 : Int64) + ((((kk.toUInt32 >>> ((1 : Int32) &&& 31).toUInt32).toInt32) &&& (7 : Int32)).toInt64)))), .unset] [(.int (1 : Int32))]))
            refine fin (some (.int (1 : Int32))) X24 (fun h => absurd h (by decide)) (fun fs hr => retN X24 hx (t := .boolean) hret (by simp) (hb hby at_130) hr) (by decide) (by decide) ?_
            rw [e24]
            exact ⟨rfl, N24⟩
set_option maxRecDepth 65536 in
set_option maxHeartbeats 40000000 in
theorem comes_1 {Post : Tables → Env → Array Value → State → Outcome → State → Prop} (hpost : ∀ tb e args s v u, (limb_1_1.after args s (.returned v) u = true ∧ limb_1_2.after args s (.returned v) u = true ∧ True) → FrameEnd s (.returned v) u (Jvm.fieldLocs frame_1_writes args s ++ Jvm.arrayLocs frame_1_arrays args s ++ Jvm.staticLocs frame_1_statics s) 0 0 → Post tb e args s (.returned v) u) :
    ArmFor flags0 classFile x code maxLocals ret World_1 tables_1 room_1 Calls_1 rest_1 Pre_1 Post := by
  intro l hfl _ _ p e ha hc hk s m args below hf hA hF happ hP
  obtain ⟨hcalls, hrest, hpre⟩ := hP
  obtain ⟨-, -, -, hnamed, -, -, -, hat⟩ := (Spec.applies_iff hf).mp happ
  obtain ⟨hg, hn⟩ := and_e (Cond.before_iff.mp (show (Jvm.Cond.and given_1 narrow_1).before args s = true from hpre))
  obtain ⟨gc, gr0⟩ := and_e hg
  obtain ⟨ga0, gr1⟩ := and_e gr0
  obtain ⟨ga1, gr2⟩ := and_e gr1
  have ga2 := gr2
  obtain ⟨w0, w1, w2, rfl⟩ : ∃ w0 w1 w2 : Value, args = #[w0, w1, w2] := by
    have hs : args.size = 3 := by simpa [Cond.value, given_1] using gc
    obtain ⟨L⟩ := args
    match L, hs with
    | [w0, w1, w2], _ => exact ⟨w0, w1, w2, rfl⟩
  have hw := fun d (hd : d ∈ tables_1) => atoms_spec (ws := Jvm.Cond.code x code maxLocals ret :: tables_1) hat d (List.mem_cons_of_mem _ hd)
  have hfit : Fit s := fun {y c} hc i hi => by
    obtain ⟨ha, rfl⟩ := Array.getElem?_eq_some_iff.mp hc
    have q := List.all_eq_true.mp ((Array.all_eq_true_iff_forall_mem.mp hF) _ (Array.getElem_mem ha)) i (List.mem_range.mpr hi)
    simpa [Array.getElem?_eq_getElem hi] using q
  obtain ⟨i0, ei0⟩ := isL_v ga0
  obtain rfl : w0 = (.long i0) := Option.some.inj ei0
  obtain ⟨i1, ei1⟩ := is_v ga1
  obtain rfl : w1 = (.int i1) := Option.some.inj ei1
  obtain ⟨i2, ei2⟩ := is_v ga2
  obtain rfl : w2 = (.int i2) := Option.some.inj ei2
  obtain ⟨n, o, h1, h2, h3, _, L, rfl, ⟨rfl, N⟩, hq⟩ := rm0 l s _ hw tables_1 i0 i1 i2  s.heap s.heap.size (Nat.le_refl _)  p e ha hc hk s m _ below hf ((Spec.applies_iff_loose hf).mp happ).1 ⟨rfl, State.Warmed39.refl s, rfl⟩ trivial
  refine ⟨n, _, h1, h2, h3, hpost _ _ _ _ _ _ ⟨Cond.after_iff.mpr rfl, Cond.after_iff.mpr (eq_i res_at (Term.int_eval (1)) rfl), trivial⟩ ⟨hq.1, hq.2.1, (hq.2.2.sift fun y hy => Or.inr (N y hy)).mono (by decide) (by decide)⟩⟩
theorem main_1_1 : Claimed_1_1 := comes_1 fun _ _ _ _ _ _ h hF => ⟨h.1, hF⟩
theorem main_1_2 : Claimed_1_2 := comes_1 fun _ _ _ _ _ _ h hF => ⟨h.2.1, hF⟩
end Jvm.Pilot.@@N@@
namespace Jvm.Pilot.@@N@@
open Jvm Jvm.ClassFile Sem Op Lib Jvm.Free Jvm.Stand Jvm.Pilot.@@N@@.Jvm.D
/-! MADE BY PROGRAM (witnessworld.py) out of the Statement's table words and the real class files: 9 classes; the members and pool entries that the words name. The judged class is class 1, her method 2. -/
namespace start1
open Jvm.ClassFile
def u (s : String) : CpInfo := .utf8 (stringToUtf16 s)
/-- a pool by its gaps: so many unusable entries, then the entry; so many at the end -/
def gap : Nat → List CpInfo → List CpInfo
  | 0, r => r
  | n + 1, r => .unusable :: gap n r
def poolList (es : List (Nat × CpInfo)) (last : Nat) : List CpInfo := es.foldr (fun e r => gap e.1 (e.2 :: r)) (gap last [])
def pool (es : List (Nat × CpInfo)) (last : Nat) : Array CpInfo := ⟨poolList es last⟩
def fileOf (pool : Array CpInfo) (this : Nat) (attrs : Array Attribute := #[]) (ms : Array MethodInfo := #[]) (fl : Nat := 33) (sup : Nat := 0) (ifs : Array Nat := #[]) (fds : Array FieldInfo := #[]) : ClassFile where
  minorVersion := 0
  majorVersion := 65
  constantPool := pool
  accessFlags := fl
  thisClass := this
  superClass := sup
  interfaces := ifs
  fields := fds
  methods := ms
  attributes := attrs
def plain (name : String) (sup : Option ClassId) : Class where
  name := name
  kind := .ordinary
  loader := none
  accessFlags := 33
  super := sup
  interfaces := #[]
  cf := none
  fields := #[]
  methods := #[]
  instanceTypes := #[]
  staticTypes := #[]
  resolved := #[]
  callSites := []
  init := .initialized
  statics := none
  mirror := none

def pool0 : Array CpInfo := pool [(5, u "<init>"), (0, u "()V"), (1, .class_ 10), (1, u "java/lang/Object")] 113

def k0m0 : Method := { name := "<init>", desc := "()V", sig := { parameters := [], returnType := none }, accessFlags := 1, code := none }
/-- java/lang/Object -/
def k0 : Class := { plain "java/lang/Object" none with
  accessFlags := 33
  interfaces := #[]
  cf := some (fileOf pool0 8 #[] #[{ accessFlags := 1, nameIndex := 5, descriptorIndex := 6, attributes := #[] }] 33 0 #[] #[])
  fields := #[]
  methods := #[k0m0]
  instanceTypes := #[]
  staticTypes := #[]
  resolved := Array.replicate 124 none
  statics := none }

def pool1 : Array CpInfo := pool [(2, .class_ 4), (1, u "java/lang/Object"), (0, u "<init>"), (0, u "()V"), (0, .long 9999999999), (1, .long 18446744063709551617), (3, .long 9223372036854775807), (1, .long 9223372036854775808), (1, .methodref 18 19), (0, .class_ 20), (0, .nameAndType 21 22), (0, u "com/example/orderwright/orderwright/model/PriceIsNetPinLaw"), (0, u "reference"), (0, u "(J)Z"), (0, .methodref 24 25), (0, .class_ 26), (0, .nameAndType 27 22), (0, u "com/example/orderwright/orderwright/model/Price"), (0, u "isNet"), (3, u "law"), (0, u "(JII)Z")] 2

def k1m0 : Method := { name := "<init>", desc := "()V", sig := { parameters := [], returnType := none }, accessFlags := 2, code := none }
def k1c1 : Code := { maxStack := 4, maxLocals := 2, code := method_2_code, exceptionTable := #[], attributes := #[] }
def k1m1 : Method := { name := "reference", desc := "(J)Z", sig := { parameters := [.long], returnType := some .boolean }, accessFlags := 10, code := some k1c1 }
def k1c2 : Code := { maxStack := 4, maxLocals := 11, code := code, exceptionTable := #[], attributes := #[] }
def k1m2 : Method := { name := "law", desc := "(JII)Z", sig := { parameters := [.long, .int, .int], returnType := some .boolean }, accessFlags := 9, code := some k1c2 }
/-- com/example/orderwright/orderwright/model/PriceIsNetPinLaw -/
def k1 : Class := { plain "com/example/orderwright/orderwright/model/PriceIsNetPinLaw" (some 0) with
  accessFlags := 49
  interfaces := #[]
  cf := some (fileOf pool1 18 #[] #[{ accessFlags := 2, nameIndex := 5, descriptorIndex := 6, attributes := #[] }, { accessFlags := 10, nameIndex := 21, descriptorIndex := 22, attributes := #[] }, { accessFlags := 9, nameIndex := 31, descriptorIndex := 32, attributes := #[] }] 49 2 #[] #[])
  fields := #[]
  methods := #[k1m0, k1m1, k1m2]
  instanceTypes := #[]
  staticTypes := #[]
  resolved := Array.replicate 35 none
  statics := none }

def pool2 : Array CpInfo := pool [(1, .class_ 2), (0, u "com/example/orderwright/orderwright/model/Price"), (1, .class_ 6), (1, u "java/lang/Object"), (0, u "<init>"), (0, u "()V"), (0, .long 9999999999), (12, .long 18446744063709551617), (117, u "SCALE"), (0, u "I"), (2, u "TICKS_PER_UNIT"), (0, u "J"), (0, u "MAX_LIMIT"), (0, u "MAX_WHOLE"), (0, u "NOT_ABOVE_ZERO"), (0, u "Ljava/lang/String;"), (3, u "(J)Z"), (2, u "isNet")] 22

def k2m0 : Method := { name := "<init>", desc := "()V", sig := { parameters := [], returnType := none }, accessFlags := 2, code := none }
def k2c1 : Code := { maxStack := 4, maxLocals := 2, code := prog_81_method_4_code, exceptionTable := #[], attributes := #[] }
def k2m1 : Method := { name := "isNet", desc := "(J)Z", sig := { parameters := [.long], returnType := some .boolean }, accessFlags := 9, code := some k2c1 }
/-- com/example/orderwright/orderwright/model/Price -/
def k2 : Class := { plain "com/example/orderwright/orderwright/model/Price" (some 0) with
  accessFlags := 49
  interfaces := #[]
  cf := some (fileOf pool2 1 #[] #[{ accessFlags := 2, nameIndex := 7, descriptorIndex := 8, attributes := #[] }, { accessFlags := 9, nameIndex := 156, descriptorIndex := 153, attributes := #[] }] 49 4 #[] #[{ accessFlags := 25, nameIndex := 140, descriptorIndex := 141, attributes := #[] }, { accessFlags := 25, nameIndex := 144, descriptorIndex := 145, attributes := #[] }, { accessFlags := 25, nameIndex := 146, descriptorIndex := 145, attributes := #[] }, { accessFlags := 26, nameIndex := 147, descriptorIndex := 145, attributes := #[] }, { accessFlags := 24, nameIndex := 148, descriptorIndex := 149, attributes := #[] }])
  fields := #[{ name := "SCALE", type := .int, accessFlags := 25, slot := 0, constantValue := 0 }, { name := "TICKS_PER_UNIT", type := .long, accessFlags := 25, slot := 1, constantValue := 0 }, { name := "MAX_LIMIT", type := .long, accessFlags := 25, slot := 2, constantValue := 0 }, { name := "MAX_WHOLE", type := .long, accessFlags := 26, slot := 3, constantValue := 0 }, { name := "NOT_ABOVE_ZERO", type := (.object "java/lang/String"), accessFlags := 24, slot := 4, constantValue := 0 }]
  methods := #[k2m0, k2m1]
  instanceTypes := #[]
  staticTypes := #[.int, .long, .long, .long, (.object "java/lang/String")]
  resolved := Array.replicate 179 none
  statics := none }

def pool3 : Array CpInfo := pool [(1, u "java/lang/Cloneable"), (0, .class_ 1), (0, u "java/lang/Object"), (0, .class_ 3)] 3

/-- java/lang/Cloneable -/
def k3 : Class := { plain "java/lang/Cloneable" (some 0) with
  accessFlags := 1537
  interfaces := #[]
  cf := some (fileOf pool3 2 #[] #[] 1537 4 #[] #[])
  fields := #[]
  methods := #[]
  instanceTypes := #[]
  staticTypes := #[]
  resolved := Array.replicate 8 none
  statics := none }

def pool4 : Array CpInfo := pool [(1, u "java/io/Serializable"), (0, .class_ 1), (0, u "java/lang/Object"), (0, .class_ 3)] 3

/-- java/io/Serializable -/
def k4 : Class := { plain "java/io/Serializable" (some 0) with
  accessFlags := 1537
  interfaces := #[]
  cf := some (fileOf pool4 2 #[] #[] 1537 4 #[] #[])
  fields := #[]
  methods := #[]
  instanceTypes := #[]
  staticTypes := #[]
  resolved := Array.replicate 8 none
  statics := none }

/-- the primitive byte -/
def k5 : Class := { plain "byte" none with kind := .primitive 'B', accessFlags := 0x411 }
/-- [B -/
def k6 : Class := { plain "[B" (some 0) with kind := .array 5 .byte, interfaces := #[3, 4], accessFlags := 1041 }

/-- the primitive int -/
def k7 : Class := { plain "int" none with kind := .primitive 'I', accessFlags := 0x411 }
/-- [I -/
def k8 : Class := { plain "[I" (some 0) with kind := .array 7 .int, interfaces := #[3, 4], accessFlags := 1041 }

def heap : Heap := #[]
def classes : Array Class := #[k0, k1, k2, k3, k4, k5, k6, k7, k8]
def interned : List (Array UInt16 × Addr) := []
def slotsUsed : Nat := 0
def theMethod : MethodId := ⟨1, 2⟩
def args0 : Array Value := #[.long 5, .int 3, .int 1]
def aboutOver (below : List Frame) : State where
  vm := { classes := classes, interned := interned.toArray }
  heap := heap
  slotsUsed := slotsUsed
  threads := #[{ frames := .invoking theMethod args0 :: below }]
def below0 : List Frame := [.native { method := ⟨0, 0⟩, args := #[] }]
def about1 : State := aboutOver below0
def p0 : Program := .bare "" "" ""
def e0 : Env := launch0.env 0 0 0
theorem w_frames : about1.frames = Frame.invoking theMethod args0 :: below0 := rfl
set_option maxRecDepth 65536 in
theorem w_args : argsFit about1.vm theMethod args0 = true := by decide +kernel
set_option maxRecDepth 65536 in
theorem w_heap : heapFits about1 = true := by decide +kernel
set_option maxRecDepth 65536 in
theorem w_runnable : about1.curStatus? = some .runnable := by decide +kernel
set_option maxRecDepth 65536 in
theorem w_alone : about1.alone = true := by decide +kernel
set_option maxRecDepth 65536 in
theorem w_named : about1.methodNamed? x = some theMethod := by decide +kernel
set_option maxRecDepth 65536 in
theorem w_hears : about1.hears theMethod below0 = true := by decide +kernel
set_option maxRecDepth 65536 in
theorem w_ripe : about1.ripe theMethod args0 below0 = true := by decide +kernel
theorem w_running : about1.status = .running := rfl
set_option maxRecDepth 65536 in
theorem w_room : about1.hasRoom e0.platform room_1 = true :=
  launch0.hasRoom_least _ room_1 (by decide +kernel) (by decide +kernel) (by decide +kernel) (by decide +kernel) (by decide +kernel) (by decide +kernel)
theorem allAtoms_all (ts : List Jvm.Cond) (a : Array Jvm.Value) (st : Jvm.State) : (allAtoms ts).before a st = ts.all (fun c => c.before a st) := by
  induction ts with
  | nil => rfl
  | cons c t ih =>
    show (Jvm.Cond.and c (allAtoms t)).before a st = _
    rw [Jvm.Cond.before_and, ih, List.all_cons]
def words1 : List Jvm.Cond := Jvm.Cond.code x code maxLocals ret :: tables_1
/-- a 'code' word, met by the world's own term for the bytes: nothing is compared byte by byte -/
theorem code_word {y : MethodName} {bytes : ByteArray} {mx : Nat} {rt : Option FieldType} {a : Array Value} {s : State} {m : MethodId} {meth : Method} {c : Code} (h1 : s.methodNamed? y = some m) (h2 : s.vm.method? m = some meth) (h3 : meth.code = some c) (h4 : c.code = bytes)
    (h5 : (c.maxLocals == mx && c.exceptionTable.isEmpty && decide (c.maxStack ≤ mostOperands) && decide (meth.sig.returnType = rt) && !meth.locks && decide (parseMethodDescriptor y.desc = some meth.sig)) = true) : (Jvm.Cond.code y bytes mx rt).before a s = true := by
  simp only [Bool.and_eq_true, beq_iff_eq, Bool.not_eq_true', decide_eq_true_eq] at h5
  obtain ⟨⟨⟨⟨⟨g1, g2⟩, g3⟩, g4⟩, g5⟩, g6⟩ := h5
  simp [Cond.before, Cond.holds, Cond.value, h1, h2, h3, h4, g1, g2, g3, g4, g5, g6]
def isCode : Jvm.Cond → Bool
  | .code _ _ _ _ => true
  | _ => false
theorem all_split {L : List Jvm.Cond} {P : Jvm.Cond → Bool} (h1 : L.all (fun c => isCode c || P c) = true) (h2 : ∀ c ∈ L.filter isCode, P c = true) : L.all P = true := by
  refine List.all_eq_true.mpr fun c hc => ?_
  have h := List.all_eq_true.mp h1 c hc
  rcases Bool.eq_false_or_eq_true (isCode c) with hi | hi
  · exact h2 c (List.mem_filter.mpr ⟨hc, hi⟩)
  · simpa [hi] using h
set_option maxRecDepth 65536 in
theorem w_c0 : (Jvm.Cond.code x code maxLocals ret).before args0 about1 = true := code_word (m := ⟨1, 2⟩) (meth := k1m2) (c := k1c2) (by decide +kernel) rfl rfl rfl (by decide +kernel)
set_option maxRecDepth 65536 in
theorem w_c1 : (Jvm.Cond.code ({ cls := "com/example/orderwright/orderwright/model/PriceIsNetPinLaw", name := "reference", desc := "(J)Z" } : Jvm.MethodName) method_2_code (2 : Nat) (Option.some Jvm.ClassFile.FieldType.boolean)).before args0 about1 = true := code_word (m := ⟨1, 1⟩) (meth := k1m1) (c := k1c1) (by decide +kernel) rfl rfl rfl (by decide +kernel)
set_option maxRecDepth 65536 in
theorem w_c2 : (Jvm.Cond.code ({ cls := "com/example/orderwright/orderwright/model/Price", name := "isNet", desc := "(J)Z" } : Jvm.MethodName) prog_81_method_4_code (2 : Nat) (Option.some Jvm.ClassFile.FieldType.boolean)).before args0 about1 = true := code_word (m := ⟨2, 1⟩) (meth := k2m1) (c := k2c1) (by decide +kernel) rfl rfl rfl (by decide +kernel)
def codes1 : List Jvm.Cond := [Jvm.Cond.code x code maxLocals ret, Jvm.Cond.code ({ cls := "com/example/orderwright/orderwright/model/PriceIsNetPinLaw", name := "reference", desc := "(J)Z" } : Jvm.MethodName) method_2_code (2 : Nat) (Option.some Jvm.ClassFile.FieldType.boolean), Jvm.Cond.code ({ cls := "com/example/orderwright/orderwright/model/Price", name := "isNet", desc := "(J)Z" } : Jvm.MethodName) prog_81_method_4_code (2 : Nat) (Option.some Jvm.ClassFile.FieldType.boolean)]
set_option maxRecDepth 65536 in
theorem codes_eq : words1.filter isCode = codes1 := rfl
theorem w_codes : ∀ c ∈ words1.filter isCode, c.before args0 about1 = true := by
  rw [codes_eq]
  intro c hc
  simp only [codes1, List.mem_cons, List.not_mem_nil, or_false] at hc
  rcases hc with rfl | rfl | rfl
  · exact w_c0
  · exact w_c1
  · exact w_c2
set_option maxRecDepth 65536 in
theorem w_t1 : words1.all (fun c => isCode c || c.before args0 about1) = true := by decide +kernel
theorem w_tables : (allAtoms (Jvm.Cond.code x code maxLocals ret :: tables_1)).before args0 about1 = true := by
  rw [allAtoms_all]
  show words1.all (fun c => c.before args0 about1) = true
  refine all_split ?_ w_codes
  rw [w_t1]
set_option maxRecDepth 65536 in
theorem w_case : (Jvm.Cond.and given_1 narrow_1).before args0 about1 = true := by decide +kernel
theorem w_applies : (headSpec (Jvm.Cond.code x code maxLocals ret :: tables_1) room_1).applies x e0.platform about1 = true :=
  (Spec.applies_iff w_frames).mpr ⟨w_running, w_runnable, w_alone, w_named, w_hears, w_ripe, w_room, w_tables⟩
theorem atStart : AtStart classFile x code maxLocals ret World_1 tables_1 room_1 Calls_1 rest_1 Pre_1 launch0 p0 e0 about1 theMethod args0 below0 :=
  ⟨lists_1, trivial, launch0.admits_env _ _ _, launch0.least_env, fairChoices_fair.cas, fairChoices_fair.clock, w_frames, w_args, w_heap, w_applies, trivial, trivial, w_case⟩
end start1
theorem witness_1 : WitnessClaimed_1 := ⟨start1.p0, start1.e0, start1.about1, start1.theMethod, start1.args0, start1.below0, start1.atStart⟩
end Jvm.Pilot.@@N@@
