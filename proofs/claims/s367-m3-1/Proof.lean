import JvmDerived
import JvmDerived.Pilot.@@N@@Statement
import JvmDerived.Pilot.@@N@@Code
set_option linter.unusedVariables false
set_option linter.unusedSimpArgs false
namespace Jvm.Pilot.@@N@@
open Jvm Jvm.ClassFile Sem Op Lib Jvm.Free Jvm.Stand Jvm.LawKit Jvm.RoadKit Bundle Jvm.Pilot.@@N@@.Jvm.D
/-- a body's contract by a walk whose goal is a predicate G: 'go' takes a step, 'fin' a return -/
theorem own_enter {l : Launch} {y : MethodName} {cd : ByteArray} {ml : Nat} {rt : Option FieldType} {ws : List Jvm.Cond} {R : Room} {Z : State} {h0 : Heap} {as : Array Value} {Q : Option Value → Heap → List Loc → Prop} (hpl : plainFor y = true)
    (body : ∀ (p : Program) (e : Env) (s : State) (m : MethodId) (below : List Frame) (meth : Method) (c : Code) (s₁ : State) (G : State → Prop),
      Stand p l e R s m as below meth c s₁ [] 0 0 → p.tables.exec = Jvm.exec → c.code = cd → c.maxLocals = ml → Z.Warmed39 s.vm → s.vm.findClass y.cls = some m.cls → meth.name = y.name → meth.sig.returnType = rt → s₁.heap = h0 →
      (∀ {a b : State}, (∀ t, Steps p.tables e below b t → Steps p.tables e below a t) → G b → G a) →
      (∀ {T : State} {locs : List Loc} {cells slots : Nat} {g : JFrame} (v : Option Value), Stand p l e R s m as below meth c T locs cells slots → (rt = none → v = none) →
        (∀ fs, (∀ (f : JFrame) (acts : List Action), f.method = m → f.locked = none → f.entered = [] → (doReturn e (T.setTop f) acts v).1 = T.setFrames fs) → Steps p.tables e below (T.setTop g) (T.setFrames fs)) →
        cells ≤ R.cells → slots ≤ R.slots → Q v T.heap locs → G (T.setTop g)) →
      G (s₁.setTop (entryFrame m as ml))) :
    MetFree l y (head1 (Jvm.Cond.code y cd ml rt :: ws) R) (fun a U => a = as ∧ Z.Warmed39 U.vm ∧ U.heap = h0) (fun _ _ _ _ _ => True) (fun _ U o U' => ∃ v L, o = .returned v ∧ Q v U'.heap L ∧ FrameEnd U o U' L R.cells R.slots) := by
  refine MetFree.of_bodySF hpl hisR ?_
  intro p e s m args below meth c s₁ Bd hml0 hP hK
  obtain ⟨rfl, hZ, hh⟩ := hP
  have hlk : meth.locks = false := Bd.notSynchronized
  have key := body p e s m below meth c s₁ (fun a => ∃ t, Steps p.tables e below a t ∧ ∃ o, t.status = .running ∧ Ended t below o ∧ ∃ v L, o = .returned v ∧ Q v t.heap L ∧ FrameEnd s o t L R.cells R.slots)
    (Stand.of_body Bd) Bd.exec Bd.bytes hml0 hZ (findClass_of_methodNamed Bd.named) (name_of_methodNamed Bd.named Bd.method).1 Bd.returns (by rw [← hh, Bd.state]; rfl)
    (fun h g => by obtain ⟨t, h1, h2⟩ := g; exact ⟨t, h t h1, h2⟩)
    (fun {T locs cells slots g} v X hv hs hc hsl hQ => by
      obtain ⟨fs, hr, hrun, hended, hW, hsame⟩ := X.leave (v := v) (fun h => hv (Bd.returns.symm.trans h)) hlk
      exact ⟨_, hs fs hr, _, hrun, hended, v, locs, rfl, hQ, ⟨_, rfl⟩, hW, hsame.mono hc hsl⟩)
  obtain ⟨t, h1, o, h2, h3, h4⟩ := key
  exact ⟨t, o, h1, h2, h3, h4⟩
theorem own_lrem {p : Program} {l : Launch} {e : Env} {R : Room} {s : State} {m : MethodId} {args : Array Value} {below : List Frame} {meth : Method} {c : Code} {T : State} {locs : List Loc} {cells slots : Nat} {g : JFrame} {target : State} (X : Stand p l e R s m args below meth c T locs cells slots) (hx : p.tables.exec = Jvm.exec) (hg : g.method = m) {x y : Int64} {rest : List Value} (hd : decode c.code g.pc = .ok (.lrem, 1)) (hs : g.stack = .long y :: .long x :: rest) (hy : y ≠ 0)
    (hr : Steps p.tables e below (T.setTop { g with pc := g.pc + 1, stack := .long (x % y) :: rest }) target) : Steps p.tables e below (T.setTop g) target := XS.lrem X.here hx hg hd hs hy (by rw [lrem_mod]; exact hr)
theorem own_irr (x : Int32) : ¬ x < x := Int32.lt_irrefl
theorem own_irrL (x : Int64) : ¬ x < x := Int64.lt_irrefl
theorem own_eq_int {a : Term} {k : Int32} {args : Array Value} {first s : State} {o : Option Outcome} {idx : List Nat} (h : (Jvm.Cond.eq a (.int k)).value args first o s idx = some true) : a.eval args first o idx s = some (.int k) := by
  obtain ⟨x, y, ha, hb, k1, k2⟩ := cmp_v (Or.inl h)
  cases (show some (Value.int k) = some y from hb)
  obtain ⟨z, rfl⟩ := k2
  have q : (Jvm.Cond.eq a (.int k)).value args first o s idx = some (decide (z = k)) := by simp [Cond.value, ha, Term.eval]
  rw [gotT q h] at ha
  exact ha
theorem own_eq_ref {a b : Term} {u : Addr} {args : Array Value} {first s : State} {o : Option Outcome} {idx : List Nat} (h : (Jvm.Cond.eq a b).value args first o s idx = some true) (hb : b.eval args first o idx s = some (.ref u)) : a.eval args first o idx s = some (.ref u) := by
  obtain ⟨x, y, ha, hb', k1, k2⟩ := cmp_v (Or.inl h)
  cases hb.symm.trans hb'
  have hr : x.isRef = true := by cases x <;> simp_all [Kin, Value.isRef]
  have q := gotT (eq_R ha hb hr rfl) h
  rw [q] at ha
  exact ha
theorem own_exa_ns {Z : State} {h : Heap} {a : Addr} {C : String} (F : Exa Z h a C) : ∀ cell : Cell, h[a]? = some cell → cell.vm.isStatics = false := fun cell hc => by
  obtain ⟨c, k, h1, -, -, h4, -⟩ := F
  cases hc.symm.trans h1
  exact h4
theorem own_sta_keep {Z : State} {h h' : Heap} {C n d : String} {v : Value} {ws : List Addr} (F : Sta Z h C n d v) (K : Keep h h' ws) (q : ∀ a ∈ ws, ∀ cell : Cell, h[a]? = some cell → cell.vm.isStatics = false) : Sta Z h' C n d v := by
  obtain ⟨cf, i, k, f, st, cell, h1, h2, h3, h4, h5, h6, h7⟩ := F
  exact ⟨cf, i, k, f, st, cell, h1, h2, h3, h4, K.2.1 _ _ h5 (fun z => by rw [q _ z _ h5] at h6; cases h6), h6, h7⟩
theorem own_len {s : State} {args : Array Value} {t : Term} {a : Addr} {cl : Cell} {ty : FieldType} {z : Int32} (ht : t.eval args s none [] s = some (.ref a)) (A : Arr s s.heap a cl ty) (h : (Term.length t).eval args s none [] s = some (.int z)) : cl.slots.size < 2 ^ 31 ∧ cl.slots.size.toInt32 = z := by
  have ha := Arr.fin (State.Warmed39.refl s).alike A
  by_cases hn : cl.slots.size < 2 ^ 31
  · have q := (len_f ht ha hn).symm.trans h
    exact ⟨hn, Value.int.inj (Option.some.inj q)⟩
  · simp [Term.eval, ht, ha] at h
    omega
theorem own_elem {s : State} {args : Array Value} {t : Term} {a : Addr} {cl : Cell} {ty : FieldType} {j : Int32} {v : Value} (ht : t.eval args s none [] s = some (.ref a)) (A : Arr s s.heap a cl ty) (h : (Term.elem t (.int j)).eval args s none [] s = some v) (hn : ¬ j < 0) : cl.slots[j.toNatClampNeg]? = some v :=
  (elem_f ht rfl (Arr.fin (State.Warmed39.refl s).alike A) hn).symm.trans h
theorem own_selp {Z s : State} {a0 args : Array Value} {y : MethodName} {n : Nat} (hZ : Z.Warmed39 s.vm) (wi : (Jvm.Cond.instantiable y.cls n).before a0 Z = true) (wp : (Jvm.Cond.privateMethod y).before a0 Z = true) (wm : (Jvm.Cond.instanceMethod y).before a0 Z = true) (hy : y.cls ≠ "java/lang/invoke/MethodHandle" ∧ y.cls ≠ "java/lang/invoke/VarHandle") : (Jvm.Cond.selects y.cls y y).before args s = true := by
  have wi' : (Jvm.Cond.instantiable y.cls n).before args s = true := mvT hZ wi
  obtain ⟨c, k, h1, h2, -, h4, -⟩ := Cond.instantiable_spec wi'
  exact selects_self_of_private h1 h2 (Bool.or_eq_false_iff.mp h4).1 (Cond.privateMethod_at (mvP hZ wp (args := args))) (mvT hZ wm) hy
theorem own_n0 {c : Int32} (h : c < (0 : Int32)) (q : ¬ c = (-2147483648 : Int32)) : (¬ (-c) < (0 : Int32)) ∧ (0 : Int32) < -c := by
  have h1 : c.toInt ≠ -2147483648 := fun z => q (Int32.toInt_inj.mp (z.trans (by decide)))
  have h2 := c_ineg c
  have h3 := rng32 c
  have h4 := rng32 (-c)
  have h5 : (0 : Int32).toInt = 0 := by decide
  rw [Int32.lt_iff_toInt_lt] at h ⊢
  rw [Int32.lt_iff_toInt_lt]
  omega
theorem own_p0 {c : Int32} (h : (0 : Int32) < c) : (-c) < (0 : Int32) := by
  have h2 := c_ineg c
  have h3 := rng32 c
  have h4 := rng32 (-c)
  have h5 : (0 : Int32).toInt = 0 := by decide
  rw [Int32.lt_iff_toInt_lt] at h ⊢
  omega
theorem own_z0 {c : Int32} (h : ¬ c < (0 : Int32)) (h' : ¬ (0 : Int32) < c) : (¬ (-c) < (0 : Int32)) ∧ ¬ (0 : Int32) < -c := by
  have h2 := c_ineg c
  have h3 := rng32 c
  have h4 := rng32 (-c)
  have h5 : (0 : Int32).toInt = 0 := by decide
  rw [Int32.lt_iff_toInt_lt] at h h' ⊢
  rw [Int32.lt_iff_toInt_lt]
  omega
theorem own_zz {c : Int32} (h : ¬ c < (0 : Int32)) (h' : ¬ (0 : Int32) < c) : c = (0 : Int32) := by
  have h5 : (0 : Int32).toInt = 0 := by decide
  rw [Int32.lt_iff_toInt_lt] at h h'
  exact Int32.toInt_inj.mp (by omega)
theorem own_pz {c : Int32} (h' : (0 : Int32) < c) : ¬ c = (0 : Int32) := fun q => by subst q; exact absurd h' (by decide)
theorem pn_com_example_schema_dates_schemadates_XsdOrder : plainName "com/example/schema_dates/schemadates/XsdOrder" = true := by first | (simp [plainName, overriddenIn]; done) | decide +kernel
theorem ef_1 (m : MethodId) (x0 : Int32) : entryFrame m #[(.int x0)] 1 = mkF m 0 #[.val (.int x0)] [] := by first | (simp [entryFrame, mkF, argsToLocals, Value.category]; done) | rfl
theorem d1_0 : decode prog_46_method_4_code 0 = .ok (.iload_n 0, 1) := by decide +kernel
theorem d1_1 : decode prog_46_method_4_code 1 = .ok (.ifCond .ge 7, 3) := by decide +kernel
theorem d1_4 : decode prog_46_method_4_code 4 = .ok (.getstatic 3, 3) := by decide +kernel
theorem d1_7 : decode prog_46_method_4_code 7 = .ok (.areturn, 1) := by decide +kernel
theorem d1_8 : decode prog_46_method_4_code 8 = .ok (.iload_n 0, 1) := by decide +kernel
theorem d1_9 : decode prog_46_method_4_code 9 = .ok (.ifCond .le 9, 3) := by decide +kernel
theorem d1_12 : decode prog_46_method_4_code 12 = .ok (.getstatic 10, 3) := by decide +kernel
theorem d1_15 : decode prog_46_method_4_code 15 = .ok (.goto 6, 3) := by decide +kernel
theorem d1_21 : decode prog_46_method_4_code 21 = .ok (.areturn, 1) := by decide +kernel
theorem d1_18 : decode prog_46_method_4_code 18 = .ok (.getstatic 7, 3) := by decide +kernel
def Q_rm1 (Z : State) (xc : Int32) (u_LESS : Addr) (u_EQUAL : Addr) (u_GREATER : Addr) (h0 : Heap) (n0 : Nat) (v : Option Value) (h : Heap) (L : List Loc) : Prop := (∃ w, v = some (.ref w) ∧ (xc < (0 : Int32) → u_LESS = w) ∧ (¬ xc < (0 : Int32) → (0 : Int32) < xc → u_GREATER = w) ∧ (¬ xc < (0 : Int32) → ¬ (0 : Int32) < xc → u_EQUAL = w)) ∧ Fr n0 L ∧ h = h0
set_option maxRecDepth 65536 in
set_option maxHeartbeats 40000000 in
theorem rm1 (l : Launch) (Z : State) (a0 : Array Value) (hw : ∀ d ∈ tables_1, d.before a0 Z = true) (ws : List Jvm.Cond) (xc : Int32) (u_LESS : Addr) (u_EQUAL : Addr) (u_GREATER : Addr) (h0 : Heap) (n0 : Nat) (Z0 : n0 ≤ h0.size) (S_u_LESS : Sta Z h0 "com/example/schema_dates/schemadates/XsdOrder" "LESS" "Lcom/example/schema_dates/schemadates/XsdOrder;" (.ref u_LESS)) (S_u_EQUAL : Sta Z h0 "com/example/schema_dates/schemadates/XsdOrder" "EQUAL" "Lcom/example/schema_dates/schemadates/XsdOrder;" (.ref u_EQUAL)) (S_u_GREATER : Sta Z h0 "com/example/schema_dates/schemadates/XsdOrder" "GREATER" "Lcom/example/schema_dates/schemadates/XsdOrder;" (.ref u_GREATER)) :
    MetFree l (⟨"com/example/schema_dates/schemadates/XsdOrder", "ofSign", "(I)Lcom/example/schema_dates/schemadates/XsdOrder;"⟩ : MethodName) (head1 (Jvm.Cond.code (⟨"com/example/schema_dates/schemadates/XsdOrder", "ofSign", "(I)Lcom/example/schema_dates/schemadates/XsdOrder;"⟩ : MethodName) prog_46_method_4_code 1 (some (.object "com/example/schema_dates/schemadates/XsdOrder")) :: ws) ({ frames := 0, cells := 0, slots := 0, locals := 0 } : Room)) (fun a U => a = #[(.int xc)] ∧ Z.Warmed39 U.vm ∧ U.heap = h0) (fun _ _ _ _ _ => True) (fun _ U o U' => ∃ v L, o = .returned v ∧ Q_rm1 Z xc u_LESS u_EQUAL u_GREATER h0 n0 v U'.heap L ∧ FrameEnd U o U' L ({ frames := 0, cells := 0, slots := 0, locals := 0 } : Room).cells ({ frames := 0, cells := 0, slots := 0, locals := 0 } : Room).slots) := by
  refine own_enter (Q := Q_rm1 Z xc u_LESS u_EQUAL u_GREATER h0 n0) (plainFor_of_name pn_com_example_schema_dates_schemadates_XsdOrder) ?_
  intro p e s m below meth c s₁ G X0 hx hby hml hZ hown hnm hret e0 go fin
  replace hown : s.vm.findClass "com/example/schema_dates/schemadates/XsdOrder" = some m.cls := hown
  replace hnm : meth.name = "ofSign" := hnm
  replace hml : c.maxLocals = 1 := hml
  rw [ef_1 m xc]
  have N0 := Fr.nil n0
  show G (s₁.setTop (mkF m 0 #[.val (.int xc)] []))
  refine go (fun tg kg => XS.iloadN X0.here hx rfl (hb hby d1_0) rfl kg) ?_
  show G (s₁.setTop (mkF m 1 #[.val (.int xc)] [(.int xc)]))
  by_cases hc1 : xc < (0 : Int32)
  · refine go (fun tg kg => XS.ifNo X0.here hx rfl (hb hby d1_1) rfl ((if0 _ _).trans (tlt hc1).2.1) kg) ?_
    show G (s₁.setTop (mkF m 4 #[.val (.int xc)] []))
    obtain ⟨T2, X2, e2, st2⟩ := getS2 X0 hx hZ hown (host := "") (Or.inl (hw _ (List.mem_of_getElem? (i := 25) rfl))) Via.refl e0 S_u_LESS (g := (mkF m 4 #[.val (.int xc)] [])) rfl (hb hby d1_4)
    refine go st2 ?_
    show G (T2.setTop (mkF m 7 #[.val (.int xc)] [(.ref u_LESS)]))
    refine fin (some (.ref u_LESS)) X2 (fun h => absurd h (by decide)) (fun fs hr => retOut X2 hx hret rfl (Or.inr (Or.inr (Or.inr (Or.inr ⟨rfl, rfl, rfl⟩)))) (hb hby d1_7) hr) (by decide) (by decide) ?_
    rw [e2]
    exact ⟨⟨_, rfl, fun a => rfl, fun a b => absurd hc1 a, fun a b => absurd hc1 a⟩, N0, rfl⟩
  · refine go (fun tg kg => XS.ifYes X0.here hx rfl (pc0 := 1) (pc' := 8) rfl (hb hby d1_1) rfl ((if0 _ _).trans (flt hc1).2.1) (by decide) (by decide) kg) ?_
    show G (s₁.setTop (mkF m 8 #[.val (.int xc)] []))
    refine go (fun tg kg => XS.iloadN X0.here hx rfl (hb hby d1_8) rfl kg) ?_
    show G (s₁.setTop (mkF m 9 #[.val (.int xc)] [(.int xc)]))
    by_cases hc3 : (0 : Int32) < xc
    · refine go (fun tg kg => XS.ifNo X0.here hx rfl (hb hby d1_9) rfl ((if0 _ _).trans (tlt hc3).2.2.2) kg) ?_
      show G (s₁.setTop (mkF m 12 #[.val (.int xc)] []))
      obtain ⟨T4, X4, e4, st4⟩ := getS2 X0 hx hZ hown (host := "") (Or.inl (hw _ (List.mem_of_getElem? (i := 22) rfl))) Via.refl e0 S_u_GREATER (g := (mkF m 12 #[.val (.int xc)] [])) rfl (hb hby d1_12)
      refine go st4 ?_
      show G (T4.setTop (mkF m 15 #[.val (.int xc)] [(.ref u_GREATER)]))
      refine go (fun tg kg => XS.goto X4.here hx rfl (pc0 := 15) (pc' := 21) rfl (hb hby d1_15) (by decide) (by decide) kg) ?_
      show G (T4.setTop (mkF m 21 #[.val (.int xc)] [(.ref u_GREATER)]))
      refine fin (some (.ref u_GREATER)) X4 (fun h => absurd h (by decide)) (fun fs hr => retOut X4 hx hret rfl (Or.inr (Or.inr (Or.inr (Or.inr ⟨rfl, rfl, rfl⟩)))) (hb hby d1_21) hr) (by decide) (by decide) ?_
      rw [e4]
      exact ⟨⟨_, rfl, fun a => absurd a hc1, fun a b => rfl, fun a b => absurd hc3 b⟩, N0, rfl⟩
    · refine go (fun tg kg => XS.ifYes X0.here hx rfl (pc0 := 9) (pc' := 18) rfl (hb hby d1_9) rfl ((if0 _ _).trans (flt hc3).2.2.2) (by decide) (by decide) kg) ?_
      show G (s₁.setTop (mkF m 18 #[.val (.int xc)] []))
      obtain ⟨T5, X5, e5, st5⟩ := getS2 X0 hx hZ hown (host := "") (Or.inl (hw _ (List.mem_of_getElem? (i := 4) rfl))) Via.refl e0 S_u_EQUAL (g := (mkF m 18 #[.val (.int xc)] [])) rfl (hb hby d1_18)
      refine go st5 ?_
      show G (T5.setTop (mkF m 21 #[.val (.int xc)] [(.ref u_EQUAL)]))
      refine fin (some (.ref u_EQUAL)) X5 (fun h => absurd h (by decide)) (fun fs hr => retOut X5 hx hret rfl (Or.inr (Or.inr (Or.inr (Or.inr ⟨rfl, rfl, rfl⟩)))) (hb hby d1_21) hr) (by decide) (by decide) ?_
      rw [e5]
      exact ⟨⟨_, rfl, fun a => absurd a hc1, fun a b => absurd b hc3, fun a b => rfl⟩, N0, rfl⟩
theorem pn_java_lang_Enum : plainName "java/lang/Enum" = true := by first | (simp [plainName, overriddenIn]; done) | decide +kernel
theorem ef_3 (m : MethodId) (x0 : Addr) : entryFrame m #[(.ref x0)] 1 = mkF m 0 #[.val (.ref x0)] [] := by first | (simp [entryFrame, mkF, argsToLocals, Value.category]; done) | rfl
theorem d3_0 : decode jdk_37_method_2_code 0 = .ok (.aload_n 0, 1) := by decide +kernel
theorem d3_1 : decode jdk_37_method_2_code 1 = .ok (.getfield 7, 3) := by decide +kernel
theorem d3_4 : decode jdk_37_method_2_code 4 = .ok (.ireturn, 1) := by decide +kernel
def Q_rm3 (Z : State) (ob : Addr) (xk : Int32) (h0 : Heap) (n0 : Nat) (v : Option Value) (h : Heap) (L : List Loc) : Prop := v = some (.int xk) ∧ Fr n0 L ∧ h = h0
set_option maxRecDepth 65536 in
set_option maxHeartbeats 40000000 in
theorem rm3 (l : Launch) (Z : State) (a0 : Array Value) (hw : ∀ d ∈ tables_1, d.before a0 Z = true) (ws : List Jvm.Cond) (ob : Addr) (xk : Int32) (h0 : Heap) (n0 : Nat) (Z0 : n0 ≤ h0.size) (Fi : Fld Z h0 ob "java/lang/Enum" "ordinal" "I" (.int xk)) :
    MetFree l (⟨"java/lang/Enum", "ordinal", "()I"⟩ : MethodName) (head1 (Jvm.Cond.code (⟨"java/lang/Enum", "ordinal", "()I"⟩ : MethodName) jdk_37_method_2_code 1 (some .int) :: ws) ({ frames := 0, cells := 0, slots := 0, locals := 0 } : Room)) (fun a U => a = #[(.ref ob)] ∧ Z.Warmed39 U.vm ∧ U.heap = h0) (fun _ _ _ _ _ => True) (fun _ U o U' => ∃ v L, o = .returned v ∧ Q_rm3 Z ob xk h0 n0 v U'.heap L ∧ FrameEnd U o U' L ({ frames := 0, cells := 0, slots := 0, locals := 0 } : Room).cells ({ frames := 0, cells := 0, slots := 0, locals := 0 } : Room).slots) := by
  refine own_enter (Q := Q_rm3 Z ob xk h0 n0) (plainFor_of_name pn_java_lang_Enum) ?_
  intro p e s m below meth c s₁ G X0 hx hby hml hZ hown hnm hret e0 go fin
  replace hown : s.vm.findClass "java/lang/Enum" = some m.cls := hown
  replace hnm : meth.name = "ordinal" := hnm
  replace hml : c.maxLocals = 1 := hml
  rw [ef_3 m ob]
  have N0 := Fr.nil n0
  show G (s₁.setTop (mkF m 0 #[.val (.ref ob)] []))
  refine go (fun tg kg => XS.aloadN X0.here hx rfl (hb hby d3_0) rfl rfl kg) ?_
  show G (s₁.setTop (mkF m 1 #[.val (.ref ob)] [(.ref ob)]))
  obtain ⟨T1, X1, e1, st1⟩ := getF X0 hx hZ hown (host := "") (Or.inl (hw _ (List.mem_of_getElem? (i := 20) rfl))) Via.refl e0 Fi (g := (mkF m 1 #[.val (.ref ob)] [(.ref ob)])) rfl rfl (hb hby d3_1)
  refine go st1 ?_
  show G (T1.setTop (mkF m 4 #[.val (.ref ob)] [(.int xk)]))
  refine fin (some (.int xk)) X1 (fun h => absurd h (by decide)) (fun fs hr => retOut X1 hx hret rfl (Or.inl ⟨rfl, Or.inl rfl, _, rfl⟩) (hb hby d3_4) hr) (by decide) (by decide) ?_
  rw [e1]
  exact ⟨rfl, N0, rfl⟩
theorem ef_2 (m : MethodId) (x0 : Addr) : entryFrame m #[(.ref x0)] 1 = mkF m 0 #[.val (.ref x0)] [] := by first | (simp [entryFrame, mkF, argsToLocals, Value.category]; done) | rfl
theorem d2_0 : decode prog_46_method_5_code 0 = .ok (.aload_n 0, 1) := by decide +kernel
theorem d2_1 : decode prog_46_method_5_code 1 = .ok (.invokevirtual 35, 3) := by decide +kernel
theorem pd___I : parseMethodDescriptor "()I" = some ⟨[], some .int⟩ := by decide +kernel
theorem d2_4 : decode prog_46_method_5_code 4 = .ok (.lookupswitch 40 #[(0, 28), (2, 34)], 28) := by decide +kernel
theorem d2_32 : decode prog_46_method_5_code 32 = .ok (.getstatic 10, 3) := by decide +kernel
theorem d2_35 : decode prog_46_method_5_code 35 = .ok (.goto 10, 3) := by decide +kernel
theorem d2_45 : decode prog_46_method_5_code 45 = .ok (.areturn, 1) := by decide +kernel
def Q_rm2_0 (Z : State) (ob : Addr) (u_LESS : Addr) (u_EQUAL : Addr) (u_GREATER : Addr) (h0 : Heap) (n0 : Nat) (v : Option Value) (h : Heap) (L : List Loc) : Prop := v = some (.ref u_GREATER) ∧ Fr n0 L ∧ h = h0
set_option maxRecDepth 65536 in
set_option maxHeartbeats 40000000 in
theorem rm2_0 (l : Launch) (Z : State) (a0 : Array Value) (hw : ∀ d ∈ tables_1, d.before a0 Z = true) (ws : List Jvm.Cond) (ob : Addr) (u_LESS : Addr) (u_EQUAL : Addr) (u_GREATER : Addr) (h0 : Heap) (n0 : Nat) (Z0 : n0 ≤ h0.size) (S_u_LESS : Sta Z h0 "com/example/schema_dates/schemadates/XsdOrder" "LESS" "Lcom/example/schema_dates/schemadates/XsdOrder;" (.ref u_LESS)) (S_u_EQUAL : Sta Z h0 "com/example/schema_dates/schemadates/XsdOrder" "EQUAL" "Lcom/example/schema_dates/schemadates/XsdOrder;" (.ref u_EQUAL)) (S_u_GREATER : Sta Z h0 "com/example/schema_dates/schemadates/XsdOrder" "GREATER" "Lcom/example/schema_dates/schemadates/XsdOrder;" (.ref u_GREATER)) (Ex : Exa Z h0 ob "com/example/schema_dates/schemadates/XsdOrder") (Fi : Fld Z h0 ob "java/lang/Enum" "ordinal" "I" (.int (0 : Int32))) :
    MetFree l (⟨"com/example/schema_dates/schemadates/XsdOrder", "mirror", "()Lcom/example/schema_dates/schemadates/XsdOrder;"⟩ : MethodName) (head1 (Jvm.Cond.code (⟨"com/example/schema_dates/schemadates/XsdOrder", "mirror", "()Lcom/example/schema_dates/schemadates/XsdOrder;"⟩ : MethodName) prog_46_method_5_code 1 (some (.object "com/example/schema_dates/schemadates/XsdOrder")) :: ws) ({ frames := 1, cells := 0, slots := 0, locals := 12 } : Room)) (fun a U => a = #[(.ref ob)] ∧ Z.Warmed39 U.vm ∧ U.heap = h0) (fun _ _ _ _ _ => True) (fun _ U o U' => ∃ v L, o = .returned v ∧ Q_rm2_0 Z ob u_LESS u_EQUAL u_GREATER h0 n0 v U'.heap L ∧ FrameEnd U o U' L ({ frames := 1, cells := 0, slots := 0, locals := 12 } : Room).cells ({ frames := 1, cells := 0, slots := 0, locals := 12 } : Room).slots) := by
  refine own_enter (Q := Q_rm2_0 Z ob u_LESS u_EQUAL u_GREATER h0 n0) (plainFor_of_name pn_com_example_schema_dates_schemadates_XsdOrder) ?_
  intro p e s m below meth c s₁ G X0 hx hby hml hZ hown hnm hret e0 go fin
  replace hown : s.vm.findClass "com/example/schema_dates/schemadates/XsdOrder" = some m.cls := hown
  replace hnm : meth.name = "mirror" := hnm
  replace hml : c.maxLocals = 1 := hml
  rw [ef_2 m ob]
  have N0 := Fr.nil n0
  show G (s₁.setTop (mkF m 0 #[.val (.ref ob)] []))
  refine go (fun tg kg => XS.aloadN X0.here hx rfl (hb hby d2_0) rfl rfl kg) ?_
  show G (s₁.setTop (mkF m 1 #[.val (.ref ob)] [(.ref ob)]))
  obtain ⟨cq1, kq1, q1a, q1b, q1c⟩ := isOf hZ e0 Ex
  obtain ⟨_, _, ⟨T1, L1, k1, n1⟩, -, X1, ⟨Lc1, hQ1, l1, y1, z1⟩, st1⟩ := X0.virtualBackUp hx (x := (⟨"com/example/schema_dates/schemadates/XsdOrder", "ordinal", "()I"⟩ : MethodName)) (y := (⟨"java/lang/Enum", "ordinal", "()I"⟩ : MethodName)) (owner := "java/lang/Enum") hown (mvT hZ (hw _ (List.mem_of_getElem? (i := 13) rfl))) (mvT hZ (hw _ (List.mem_of_getElem? (i := 14) rfl))) (mvT hZ (hw _ (List.mem_of_getElem? (i := 15) rfl))) (by decide) (mvT hZ (hw _ (List.mem_of_getElem? (i := 17) rfl))) (mvT hZ (hw _ (List.mem_of_getElem? (i := 16) rfl))) (backOf (W := 0) (rm3 l Z a0 hw [] ob (0 : Int32) h0 n0 Z0 Fi) hZ (hw _ (List.mem_of_getElem? (i := 19) rfl)) (hw _ (List.mem_of_getElem? (i := 18) rfl)) (by decide) (by decide)) q1a q1c (g := (mkF m 1 #[.val (.ref ob)] [(.ref ob)])) rfl (by rw [hml]; rfl) (Steps.refl _) (argsL := []) (rest := []) (lenOf pd___I rfl) rfl (by show 2 * 0 + _ ≤ _; exact Nat.le_of_eq rfl) (hb hby d2_1) (fun _ _ => ⟨rfl, e0, (by decide : 0 + 0 ≤ _), (by decide : 0 + 0 ≤ _)⟩)
  dsimp only [Pt.U, Pt.locs, Pt.cells, Pt.slots] at X1 l1 y1 z1 st1 hQ1
  subst l1 y1 z1
  obtain ⟨rfl, Nq1, e1⟩ := hQ1
  have N1 := Fr.app N0 Nq1
  refine go (fun tg kg => st1.trans kg) ?_
  show G (T1.setTop (mkF m 4 #[.val (.ref ob)] [(.int (0 : Int32))]))
  refine go (fun tg kg => X1.lookupswitchHit hx (g := (mkF m 4 #[.val (.ref ob)] [(.int (0 : Int32))])) rfl rfl (hb hby d2_4) (by decide) (a := 0) (off := 28) (by decide) (by show (0 : Int) ≤ ((4 : Nat) : Int) + (28); decide) _ kg) ?_
  show G (T1.setTop (mkF m 32 #[.val (.ref ob)] []))
  obtain ⟨T2, X2, e2, st2⟩ := getS2 X1 hx hZ hown (host := "") (Or.inl (hw _ (List.mem_of_getElem? (i := 22) rfl))) Via.refl e1 S_u_GREATER (g := (mkF m 32 #[.val (.ref ob)] [])) rfl (hb hby d2_32)
  refine go st2 ?_
  show G (T2.setTop (mkF m 35 #[.val (.ref ob)] [(.ref u_GREATER)]))
  refine go (fun tg kg => XS.goto X2.here hx rfl (pc0 := 35) (pc' := 45) rfl (hb hby d2_35) (by decide) (by decide) kg) ?_
  show G (T2.setTop (mkF m 45 #[.val (.ref ob)] [(.ref u_GREATER)]))
  refine fin (some (.ref u_GREATER)) X2 (fun h => absurd h (by decide)) (fun fs hr => retOut X2 hx hret rfl (Or.inr (Or.inr (Or.inr (Or.inr ⟨rfl, rfl, rfl⟩)))) (hb hby d2_45) hr) (by decide) (by decide) ?_
  rw [e2]
  exact ⟨rfl, N1, rfl⟩
theorem d2_44 : decode prog_46_method_5_code 44 = .ok (.aload_n 0, 1) := by decide +kernel
def Q_rm2_1 (Z : State) (ob : Addr) (u_LESS : Addr) (u_EQUAL : Addr) (u_GREATER : Addr) (h0 : Heap) (n0 : Nat) (v : Option Value) (h : Heap) (L : List Loc) : Prop := v = some (.ref ob) ∧ Fr n0 L ∧ h = h0
set_option maxRecDepth 65536 in
set_option maxHeartbeats 40000000 in
theorem rm2_1 (l : Launch) (Z : State) (a0 : Array Value) (hw : ∀ d ∈ tables_1, d.before a0 Z = true) (ws : List Jvm.Cond) (ob : Addr) (u_LESS : Addr) (u_EQUAL : Addr) (u_GREATER : Addr) (h0 : Heap) (n0 : Nat) (Z0 : n0 ≤ h0.size) (S_u_LESS : Sta Z h0 "com/example/schema_dates/schemadates/XsdOrder" "LESS" "Lcom/example/schema_dates/schemadates/XsdOrder;" (.ref u_LESS)) (S_u_EQUAL : Sta Z h0 "com/example/schema_dates/schemadates/XsdOrder" "EQUAL" "Lcom/example/schema_dates/schemadates/XsdOrder;" (.ref u_EQUAL)) (S_u_GREATER : Sta Z h0 "com/example/schema_dates/schemadates/XsdOrder" "GREATER" "Lcom/example/schema_dates/schemadates/XsdOrder;" (.ref u_GREATER)) (Ex : Exa Z h0 ob "com/example/schema_dates/schemadates/XsdOrder") (Fi : Fld Z h0 ob "java/lang/Enum" "ordinal" "I" (.int (1 : Int32))) :
    MetFree l (⟨"com/example/schema_dates/schemadates/XsdOrder", "mirror", "()Lcom/example/schema_dates/schemadates/XsdOrder;"⟩ : MethodName) (head1 (Jvm.Cond.code (⟨"com/example/schema_dates/schemadates/XsdOrder", "mirror", "()Lcom/example/schema_dates/schemadates/XsdOrder;"⟩ : MethodName) prog_46_method_5_code 1 (some (.object "com/example/schema_dates/schemadates/XsdOrder")) :: ws) ({ frames := 1, cells := 0, slots := 0, locals := 12 } : Room)) (fun a U => a = #[(.ref ob)] ∧ Z.Warmed39 U.vm ∧ U.heap = h0) (fun _ _ _ _ _ => True) (fun _ U o U' => ∃ v L, o = .returned v ∧ Q_rm2_1 Z ob u_LESS u_EQUAL u_GREATER h0 n0 v U'.heap L ∧ FrameEnd U o U' L ({ frames := 1, cells := 0, slots := 0, locals := 12 } : Room).cells ({ frames := 1, cells := 0, slots := 0, locals := 12 } : Room).slots) := by
  refine own_enter (Q := Q_rm2_1 Z ob u_LESS u_EQUAL u_GREATER h0 n0) (plainFor_of_name pn_com_example_schema_dates_schemadates_XsdOrder) ?_
  intro p e s m below meth c s₁ G X0 hx hby hml hZ hown hnm hret e0 go fin
  replace hown : s.vm.findClass "com/example/schema_dates/schemadates/XsdOrder" = some m.cls := hown
  replace hnm : meth.name = "mirror" := hnm
  replace hml : c.maxLocals = 1 := hml
  rw [ef_2 m ob]
  have N0 := Fr.nil n0
  show G (s₁.setTop (mkF m 0 #[.val (.ref ob)] []))
  refine go (fun tg kg => XS.aloadN X0.here hx rfl (hb hby d2_0) rfl rfl kg) ?_
  show G (s₁.setTop (mkF m 1 #[.val (.ref ob)] [(.ref ob)]))
  obtain ⟨cq1, kq1, q1a, q1b, q1c⟩ := isOf hZ e0 Ex
  obtain ⟨_, _, ⟨T1, L1, k1, n1⟩, -, X1, ⟨Lc1, hQ1, l1, y1, z1⟩, st1⟩ := X0.virtualBackUp hx (x := (⟨"com/example/schema_dates/schemadates/XsdOrder", "ordinal", "()I"⟩ : MethodName)) (y := (⟨"java/lang/Enum", "ordinal", "()I"⟩ : MethodName)) (owner := "java/lang/Enum") hown (mvT hZ (hw _ (List.mem_of_getElem? (i := 13) rfl))) (mvT hZ (hw _ (List.mem_of_getElem? (i := 14) rfl))) (mvT hZ (hw _ (List.mem_of_getElem? (i := 15) rfl))) (by decide) (mvT hZ (hw _ (List.mem_of_getElem? (i := 17) rfl))) (mvT hZ (hw _ (List.mem_of_getElem? (i := 16) rfl))) (backOf (W := 0) (rm3 l Z a0 hw [] ob (1 : Int32) h0 n0 Z0 Fi) hZ (hw _ (List.mem_of_getElem? (i := 19) rfl)) (hw _ (List.mem_of_getElem? (i := 18) rfl)) (by decide) (by decide)) q1a q1c (g := (mkF m 1 #[.val (.ref ob)] [(.ref ob)])) rfl (by rw [hml]; rfl) (Steps.refl _) (argsL := []) (rest := []) (lenOf pd___I rfl) rfl (by show 2 * 0 + _ ≤ _; exact Nat.le_of_eq rfl) (hb hby d2_1) (fun _ _ => ⟨rfl, e0, (by decide : 0 + 0 ≤ _), (by decide : 0 + 0 ≤ _)⟩)
  dsimp only [Pt.U, Pt.locs, Pt.cells, Pt.slots] at X1 l1 y1 z1 st1 hQ1
  subst l1 y1 z1
  obtain ⟨rfl, Nq1, e1⟩ := hQ1
  have N1 := Fr.app N0 Nq1
  refine go (fun tg kg => st1.trans kg) ?_
  show G (T1.setTop (mkF m 4 #[.val (.ref ob)] [(.int (1 : Int32))]))
  refine go (fun tg kg => X1.lookupswitchMiss hx (g := (mkF m 4 #[.val (.ref ob)] [(.int (1 : Int32))])) rfl rfl (hb hby d2_4) (by decide) (by decide) (by show (0 : Int) ≤ ((4 : Nat) : Int) + (40); decide) _ kg) ?_
  show G (T1.setTop (mkF m 44 #[.val (.ref ob)] []))
  refine go (fun tg kg => XS.aloadN X1.here hx rfl (hb hby d2_44) rfl rfl kg) ?_
  show G (T1.setTop (mkF m 45 #[.val (.ref ob)] [(.ref ob)]))
  refine fin (some (.ref ob)) X1 (fun h => absurd h (by decide)) (fun fs hr => retOut X1 hx hret rfl (Or.inr (Or.inr (Or.inr (Or.inr ⟨rfl, rfl, rfl⟩)))) (hb hby d2_45) hr) (by decide) (by decide) ?_
  rw [e1]
  exact ⟨rfl, N1, rfl⟩
theorem d2_38 : decode prog_46_method_5_code 38 = .ok (.getstatic 3, 3) := by decide +kernel
theorem d2_41 : decode prog_46_method_5_code 41 = .ok (.goto 4, 3) := by decide +kernel
def Q_rm2_2 (Z : State) (ob : Addr) (u_LESS : Addr) (u_EQUAL : Addr) (u_GREATER : Addr) (h0 : Heap) (n0 : Nat) (v : Option Value) (h : Heap) (L : List Loc) : Prop := v = some (.ref u_LESS) ∧ Fr n0 L ∧ h = h0
set_option maxRecDepth 65536 in
set_option maxHeartbeats 40000000 in
theorem rm2_2 (l : Launch) (Z : State) (a0 : Array Value) (hw : ∀ d ∈ tables_1, d.before a0 Z = true) (ws : List Jvm.Cond) (ob : Addr) (u_LESS : Addr) (u_EQUAL : Addr) (u_GREATER : Addr) (h0 : Heap) (n0 : Nat) (Z0 : n0 ≤ h0.size) (S_u_LESS : Sta Z h0 "com/example/schema_dates/schemadates/XsdOrder" "LESS" "Lcom/example/schema_dates/schemadates/XsdOrder;" (.ref u_LESS)) (S_u_EQUAL : Sta Z h0 "com/example/schema_dates/schemadates/XsdOrder" "EQUAL" "Lcom/example/schema_dates/schemadates/XsdOrder;" (.ref u_EQUAL)) (S_u_GREATER : Sta Z h0 "com/example/schema_dates/schemadates/XsdOrder" "GREATER" "Lcom/example/schema_dates/schemadates/XsdOrder;" (.ref u_GREATER)) (Ex : Exa Z h0 ob "com/example/schema_dates/schemadates/XsdOrder") (Fi : Fld Z h0 ob "java/lang/Enum" "ordinal" "I" (.int (2 : Int32))) :
    MetFree l (⟨"com/example/schema_dates/schemadates/XsdOrder", "mirror", "()Lcom/example/schema_dates/schemadates/XsdOrder;"⟩ : MethodName) (head1 (Jvm.Cond.code (⟨"com/example/schema_dates/schemadates/XsdOrder", "mirror", "()Lcom/example/schema_dates/schemadates/XsdOrder;"⟩ : MethodName) prog_46_method_5_code 1 (some (.object "com/example/schema_dates/schemadates/XsdOrder")) :: ws) ({ frames := 1, cells := 0, slots := 0, locals := 12 } : Room)) (fun a U => a = #[(.ref ob)] ∧ Z.Warmed39 U.vm ∧ U.heap = h0) (fun _ _ _ _ _ => True) (fun _ U o U' => ∃ v L, o = .returned v ∧ Q_rm2_2 Z ob u_LESS u_EQUAL u_GREATER h0 n0 v U'.heap L ∧ FrameEnd U o U' L ({ frames := 1, cells := 0, slots := 0, locals := 12 } : Room).cells ({ frames := 1, cells := 0, slots := 0, locals := 12 } : Room).slots) := by
  refine own_enter (Q := Q_rm2_2 Z ob u_LESS u_EQUAL u_GREATER h0 n0) (plainFor_of_name pn_com_example_schema_dates_schemadates_XsdOrder) ?_
  intro p e s m below meth c s₁ G X0 hx hby hml hZ hown hnm hret e0 go fin
  replace hown : s.vm.findClass "com/example/schema_dates/schemadates/XsdOrder" = some m.cls := hown
  replace hnm : meth.name = "mirror" := hnm
  replace hml : c.maxLocals = 1 := hml
  rw [ef_2 m ob]
  have N0 := Fr.nil n0
  show G (s₁.setTop (mkF m 0 #[.val (.ref ob)] []))
  refine go (fun tg kg => XS.aloadN X0.here hx rfl (hb hby d2_0) rfl rfl kg) ?_
  show G (s₁.setTop (mkF m 1 #[.val (.ref ob)] [(.ref ob)]))
  obtain ⟨cq1, kq1, q1a, q1b, q1c⟩ := isOf hZ e0 Ex
  obtain ⟨_, _, ⟨T1, L1, k1, n1⟩, -, X1, ⟨Lc1, hQ1, l1, y1, z1⟩, st1⟩ := X0.virtualBackUp hx (x := (⟨"com/example/schema_dates/schemadates/XsdOrder", "ordinal", "()I"⟩ : MethodName)) (y := (⟨"java/lang/Enum", "ordinal", "()I"⟩ : MethodName)) (owner := "java/lang/Enum") hown (mvT hZ (hw _ (List.mem_of_getElem? (i := 13) rfl))) (mvT hZ (hw _ (List.mem_of_getElem? (i := 14) rfl))) (mvT hZ (hw _ (List.mem_of_getElem? (i := 15) rfl))) (by decide) (mvT hZ (hw _ (List.mem_of_getElem? (i := 17) rfl))) (mvT hZ (hw _ (List.mem_of_getElem? (i := 16) rfl))) (backOf (W := 0) (rm3 l Z a0 hw [] ob (2 : Int32) h0 n0 Z0 Fi) hZ (hw _ (List.mem_of_getElem? (i := 19) rfl)) (hw _ (List.mem_of_getElem? (i := 18) rfl)) (by decide) (by decide)) q1a q1c (g := (mkF m 1 #[.val (.ref ob)] [(.ref ob)])) rfl (by rw [hml]; rfl) (Steps.refl _) (argsL := []) (rest := []) (lenOf pd___I rfl) rfl (by show 2 * 0 + _ ≤ _; exact Nat.le_of_eq rfl) (hb hby d2_1) (fun _ _ => ⟨rfl, e0, (by decide : 0 + 0 ≤ _), (by decide : 0 + 0 ≤ _)⟩)
  dsimp only [Pt.U, Pt.locs, Pt.cells, Pt.slots] at X1 l1 y1 z1 st1 hQ1
  subst l1 y1 z1
  obtain ⟨rfl, Nq1, e1⟩ := hQ1
  have N1 := Fr.app N0 Nq1
  refine go (fun tg kg => st1.trans kg) ?_
  show G (T1.setTop (mkF m 4 #[.val (.ref ob)] [(.int (2 : Int32))]))
  refine go (fun tg kg => X1.lookupswitchHit hx (g := (mkF m 4 #[.val (.ref ob)] [(.int (2 : Int32))])) rfl rfl (hb hby d2_4) (by decide) (a := 2) (off := 34) (by decide) (by show (0 : Int) ≤ ((4 : Nat) : Int) + (34); decide) _ kg) ?_
  show G (T1.setTop (mkF m 38 #[.val (.ref ob)] []))
  obtain ⟨T2, X2, e2, st2⟩ := getS2 X1 hx hZ hown (host := "") (Or.inl (hw _ (List.mem_of_getElem? (i := 25) rfl))) Via.refl e1 S_u_LESS (g := (mkF m 38 #[.val (.ref ob)] [])) rfl (hb hby d2_38)
  refine go st2 ?_
  show G (T2.setTop (mkF m 41 #[.val (.ref ob)] [(.ref u_LESS)]))
  refine go (fun tg kg => XS.goto X2.here hx rfl (pc0 := 41) (pc' := 45) rfl (hb hby d2_41) (by decide) (by decide) kg) ?_
  show G (T2.setTop (mkF m 45 #[.val (.ref ob)] [(.ref u_LESS)]))
  refine fin (some (.ref u_LESS)) X2 (fun h => absurd h (by decide)) (fun fs hr => retOut X2 hx hret rfl (Or.inr (Or.inr (Or.inr (Or.inr ⟨rfl, rfl, rfl⟩)))) (hb hby d2_45) hr) (by decide) (by decide) ?_
  rw [e2]
  exact ⟨rfl, N1, rfl⟩
theorem pn_com_example_schema_dates_schemadates_XsdOrderOfSignPinLaw : plainName "com/example/schema_dates/schemadates/XsdOrderOfSignPinLaw" = true := by first | (simp [plainName, overriddenIn]; done) | decide +kernel
theorem ef_0 (m : MethodId) (x0 : Int32) : entryFrame m #[(.int x0)] maxLocals = mkF m 0 #[.val (.int x0), .unset, .unset] [] := by first | (simp [entryFrame, mkF, argsToLocals, Value.category, maxLocals]; done) | rfl
theorem pd__I_Lcom_example_schema_dates_schemadates_XsdOrder_ : parseMethodDescriptor "(I)Lcom/example/schema_dates/schemadates/XsdOrder;" = some ⟨[.int], some (.object "com/example/schema_dates/schemadates/XsdOrder")⟩ := by decide +kernel
theorem pd___Lcom_example_schema_dates_schemadates_XsdOrder_ : parseMethodDescriptor "()Lcom/example/schema_dates/schemadates/XsdOrder;" = some ⟨[], some (.object "com/example/schema_dates/schemadates/XsdOrder")⟩ := by decide +kernel
def Q_rm0 (Z : State) (x0 : Int32) (u_LESS : Addr) (u_EQUAL : Addr) (u_GREATER : Addr) (h0 : Heap) (n0 : Nat) (v : Option Value) (h : Heap) (L : List Loc) : Prop := v = some (.int 1) ∧ Fr n0 L
set_option maxRecDepth 65536 in
set_option maxHeartbeats 40000000 in
theorem rm0 (l : Launch) (Z : State) (a0 : Array Value) (hw : ∀ d ∈ tables_1, d.before a0 Z = true) (ws : List Jvm.Cond) (x0 : Int32) (u_LESS : Addr) (u_EQUAL : Addr) (u_GREATER : Addr) (h0 : Heap) (n0 : Nat) (Z0 : n0 ≤ h0.size) (S_u_LESS : Sta Z h0 "com/example/schema_dates/schemadates/XsdOrder" "LESS" "Lcom/example/schema_dates/schemadates/XsdOrder;" (.ref u_LESS)) (S_u_EQUAL : Sta Z h0 "com/example/schema_dates/schemadates/XsdOrder" "EQUAL" "Lcom/example/schema_dates/schemadates/XsdOrder;" (.ref u_EQUAL)) (S_u_GREATER : Sta Z h0 "com/example/schema_dates/schemadates/XsdOrder" "GREATER" "Lcom/example/schema_dates/schemadates/XsdOrder;" (.ref u_GREATER)) (E_u_LESS : Exa Z h0 u_LESS "com/example/schema_dates/schemadates/XsdOrder") (E_u_EQUAL : Exa Z h0 u_EQUAL "com/example/schema_dates/schemadates/XsdOrder") (E_u_GREATER : Exa Z h0 u_GREATER "com/example/schema_dates/schemadates/XsdOrder") (F_u_LESS_ordinal : Fld Z h0 u_LESS "java/lang/Enum" "ordinal" "I" (.int (0 : Int32))) (F_u_EQUAL_ordinal : Fld Z h0 u_EQUAL "java/lang/Enum" "ordinal" "I" (.int (1 : Int32))) (F_u_GREATER_ordinal : Fld Z h0 u_GREATER "java/lang/Enum" "ordinal" "I" (.int (2 : Int32))) :
    MetFree l x (head1 (Jvm.Cond.code x code maxLocals ret :: ws) room_1) (fun a U => a = #[(.int x0)] ∧ Z.Warmed39 U.vm ∧ U.heap = h0) (fun _ _ _ _ _ => True) (fun _ U o U' => ∃ v L, o = .returned v ∧ Q_rm0 Z x0 u_LESS u_EQUAL u_GREATER h0 n0 v U'.heap L ∧ FrameEnd U o U' L room_1.cells room_1.slots) := by
  refine own_enter (Q := Q_rm0 Z x0 u_LESS u_EQUAL u_GREATER h0 n0) (plainFor_of_name pn_com_example_schema_dates_schemadates_XsdOrderOfSignPinLaw) ?_
  intro p e s m below meth c s₁ G X0 hx hby hml hZ hown hnm hret e0 go fin
  replace hown : s.vm.findClass "com/example/schema_dates/schemadates/XsdOrderOfSignPinLaw" = some m.cls := hown
  replace hnm : meth.name = "law" := hnm
  replace hml : c.maxLocals = 3 := hml
  rw [ef_0 m x0]
  have N0 := Fr.nil n0
  show G (s₁.setTop (mkF m 0 #[.val (.int x0), .unset, .unset] []))
  by_cases hl : x0 < (0 : Int32)
  · skip
    refine go (fun tg kg => XS.iloadN X0.here hx rfl (hb hby at_0) rfl kg) ?_
    show G (s₁.setTop (mkF m 1 #[.val (.int x0), .unset, .unset] [(.int x0)]))
    obtain ⟨_, _, ⟨T1, L1, k1, n1⟩, -, X1, ⟨Lc1, hQ1, l1, y1, z1⟩, st1⟩ := Jvm.LawKit.callS X0 hx (y := (⟨"com/example/schema_dates/schemadates/XsdOrder", "ofSign", "(I)Lcom/example/schema_dates/schemadates/XsdOrder;"⟩ : MethodName)) hown (mvT hZ (hw _ (List.mem_of_getElem? (i := 0) rfl))) (mvT hZ (hw _ (List.mem_of_getElem? (i := 1) rfl))) (mvT hZ (hw _ (List.mem_of_getElem? (i := 2) rfl))) (mvT hZ (hw _ (List.mem_of_getElem? (i := 3) rfl))) (by decide) (backOf (W := 0) (rm1 l Z a0 hw [] x0 u_LESS u_EQUAL u_GREATER h0 n0 Z0 S_u_LESS S_u_EQUAL S_u_GREATER) hZ (hw _ (List.mem_of_getElem? (i := 3) rfl)) (hw _ (List.mem_of_getElem? (i := 2) rfl)) (by decide) (by decide)) (g := (mkF m 1 #[.val (.int x0), .unset, .unset] [(.int x0)])) rfl (by rw [hml]; rfl) (argsL := [(.int x0)]) (rest := []) (lenOf pd__I_Lcom_example_schema_dates_schemadates_XsdOrder_ rfl) rfl (by show 2 * 0 + _ ≤ _; exact Nat.le_of_eq rfl) (hb hby at_1) (fun _ _ => ⟨rfl, e0, (by decide : 0 + 0 ≤ _), (by decide : 0 + 0 ≤ _)⟩)
    dsimp only [Pt.U, Pt.locs, Pt.cells, Pt.slots] at X1 l1 y1 z1 st1 hQ1
    subst l1 y1 z1
    obtain ⟨⟨w1, rfl, wa1, wb1, wc1⟩, Nq1, e1⟩ := hQ1
    obtain rfl := wa1 hl
    have N1 := Fr.app N0 Nq1
    refine go st1 ?_
    show G (T1.setTop (mkF m 4 #[.val (.int x0), .unset, .unset] [(.ref u_LESS)]))
    refine go (fun tg kg => XS.astoreN X1.here hx rfl (hb hby at_4) rfl rfl (l' := #[.val (.int x0), .val (.ref u_LESS), .unset]) rfl kg) ?_
    show G (T1.setTop (mkF m 5 #[.val (.int x0), .val (.ref u_LESS), .unset] []))
    refine go (fun tg kg => XS.iloadN X1.here hx rfl (hb hby at_5) rfl kg) ?_
    show G (T1.setTop (mkF m 6 #[.val (.int x0), .val (.ref u_LESS), .unset] [(.int x0)]))
    refine go (fun tg kg => XS.ifNo X1.here hx rfl (hb hby at_6) rfl ((if0 _ _).trans (tlt hl).2.1) kg) ?_
    show G (T1.setTop (mkF m 9 #[.val (.int x0), .val (.ref u_LESS), .unset] []))
    refine go (fun tg kg => XS.aloadN X1.here hx rfl (hb hby at_9) rfl rfl kg) ?_
    show G (T1.setTop (mkF m 10 #[.val (.int x0), .val (.ref u_LESS), .unset] [(.ref u_LESS)]))
    obtain ⟨T2, X2, e2, st2⟩ := getS2 X1 hx hZ hown (host := "") (Or.inl (hw _ (List.mem_of_getElem? (i := 27) rfl))) Via.refl e1 S_u_LESS (g := (mkF m 10 #[.val (.int x0), .val (.ref u_LESS), .unset] [(.ref u_LESS)])) rfl (hb hby at_10)
    refine go st2 ?_
    show G (T2.setTop (mkF m 13 #[.val (.int x0), .val (.ref u_LESS), .unset] [(.ref u_LESS), (.ref u_LESS)]))
    refine go (fun tg kg => Jvm.RoadKit.acmp (g := (mkF m 13 #[.val (.int x0), .val (.ref u_LESS), .unset] [(.ref u_LESS), (.ref u_LESS)])) X2 hx rfl rfl rfl (pc0 := 13) (pc' := 16) (same := true) rfl (hb hby at_13) rfl (decide_eq_true rfl) (by decide) (by decide) kg) ?_
    show G (T2.setTop (mkF m 16 #[.val (.int x0), .val (.ref u_LESS), .unset] []))
    refine go (fun tg kg => XS.iconst X2.here hx rfl (hb hby at_16) kg) ?_
    show G (T2.setTop (mkF m 17 #[.val (.int x0), .val (.ref u_LESS), .unset] [(.int (1 : Int32))]))
    refine go (fun tg kg => XS.goto X2.here hx rfl (pc0 := 17) (pc' := 21) rfl (hb hby at_17) (by decide) (by decide) kg) ?_
    show G (T2.setTop (mkF m 21 #[.val (.int x0), .val (.ref u_LESS), .unset] [(.int (1 : Int32))]))
    refine go (fun tg kg => XS.istoreN X2.here hx rfl (hb hby at_21) rfl (l' := #[.val (.int x0), .val (.ref u_LESS), .val (.int (1 : Int32))]) rfl kg) ?_
    show G (T2.setTop (mkF m 22 #[.val (.int x0), .val (.ref u_LESS), .val (.int (1 : Int32))] []))
    refine go (fun tg kg => XS.goto X2.here hx rfl (pc0 := 22) (pc' := 58) rfl (hb hby at_22) (by decide) (by decide) kg) ?_
    show G (T2.setTop (mkF m 58 #[.val (.int x0), .val (.ref u_LESS), .val (.int (1 : Int32))] []))
    refine go (fun tg kg => XS.iloadN X2.here hx rfl (hb hby at_58) rfl kg) ?_
    show G (T2.setTop (mkF m 59 #[.val (.int x0), .val (.ref u_LESS), .val (.int (1 : Int32))] [(.int x0)]))
    refine go (fun tg kg => X2.ldcInt hx hown (mvT hZ (hw _ (List.mem_of_getElem? (i := 7) rfl))) (g := (mkF m 59 #[.val (.int x0), .val (.ref u_LESS), .val (.int (1 : Int32))] [(.int x0)])) rfl (hb hby at_59) _ kg) ?_
    show G (T2.setTop (mkF m 61 #[.val (.int x0), .val (.ref u_LESS), .val (.int (1 : Int32))] [(.int (-2147483648 : Int32)), (.int x0)]))
    by_cases hc3 : x0 = (-2147483648 : Int32)
    · refine go (fun tg kg => XS.icmpYes X2.here hx rfl (pc0 := 61) (pc' := 86) rfl (hb hby at_61) rfl (teq hc3).1 (by decide) (by decide) kg) ?_
      show G (T2.setTop (mkF m 86 #[.val (.int x0), .val (.ref u_LESS), .val (.int (1 : Int32))] []))
      refine go (fun tg kg => XS.iloadN X2.here hx rfl (hb hby at_86) rfl kg) ?_
      show G (T2.setTop (mkF m 87 #[.val (.int x0), .val (.ref u_LESS), .val (.int (1 : Int32))] [(.int (1 : Int32))]))
      refine fin (some (.int (1 : Int32))) X2 (fun h => absurd h (by decide)) (fun fs hr => retN X2 hx (t := .boolean) hret (by simp) (hb hby at_87) hr) (by decide) (by decide) ?_
      rw [e2]
      exact ⟨rfl, N1⟩
    · refine go (fun tg kg => XS.icmpNo X2.here hx rfl (hb hby at_61) rfl (feq hc3).1 kg) ?_
      show G (T2.setTop (mkF m 64 #[.val (.int x0), .val (.ref u_LESS), .val (.int (1 : Int32))] []))
      refine go (fun tg kg => XS.iloadN X2.here hx rfl (hb hby at_64) rfl kg) ?_
      show G (T2.setTop (mkF m 65 #[.val (.int x0), .val (.ref u_LESS), .val (.int (1 : Int32))] [(.int (1 : Int32))]))
      refine go (fun tg kg => XS.ifNo X2.here hx rfl (hb hby at_65) rfl ((if0 _ _).trans (feq (by decide)).1) kg) ?_
      show G (T2.setTop (mkF m 68 #[.val (.int x0), .val (.ref u_LESS), .val (.int (1 : Int32))] []))
      refine go (fun tg kg => XS.iloadN X2.here hx rfl (hb hby at_68) rfl kg) ?_
      show G (T2.setTop (mkF m 69 #[.val (.int x0), .val (.ref u_LESS), .val (.int (1 : Int32))] [(.int x0)]))
      refine go (fun tg kg => XS.ineg X2.here hx rfl (hb hby at_69) rfl kg) ?_
      show G (T2.setTop (mkF m 70 #[.val (.int x0), .val (.ref u_LESS), .val (.int (1 : Int32))] [(.int (-x0))]))
      obtain ⟨_, _, ⟨T4, L4, k4, n4⟩, -, X4, ⟨Lc4, hQ4, l4, y4, z4⟩, st4⟩ := Jvm.LawKit.callS X2 hx (y := (⟨"com/example/schema_dates/schemadates/XsdOrder", "ofSign", "(I)Lcom/example/schema_dates/schemadates/XsdOrder;"⟩ : MethodName)) hown (mvT hZ (hw _ (List.mem_of_getElem? (i := 0) rfl))) (mvT hZ (hw _ (List.mem_of_getElem? (i := 1) rfl))) (mvT hZ (hw _ (List.mem_of_getElem? (i := 2) rfl))) (mvT hZ (hw _ (List.mem_of_getElem? (i := 3) rfl))) (by decide) (backOf (W := 0) (rm1 l Z a0 hw [] (-x0) u_LESS u_EQUAL u_GREATER h0 n0 Z0 S_u_LESS S_u_EQUAL S_u_GREATER) hZ (hw _ (List.mem_of_getElem? (i := 3) rfl)) (hw _ (List.mem_of_getElem? (i := 2) rfl)) (by decide) (by decide)) (g := (mkF m 70 #[.val (.int x0), .val (.ref u_LESS), .val (.int (1 : Int32))] [(.int (-x0))])) rfl (by rw [hml]; rfl) (argsL := [(.int (-x0))]) (rest := []) (lenOf pd__I_Lcom_example_schema_dates_schemadates_XsdOrder_ rfl) rfl (by show 2 * 0 + _ ≤ _; exact Nat.le_of_eq rfl) (hb hby at_70) (fun _ _ => ⟨rfl, e2, (by decide : 0 + 0 ≤ _), (by decide : 0 + 0 ≤ _)⟩)
      dsimp only [Pt.U, Pt.locs, Pt.cells, Pt.slots] at X4 l4 y4 z4 st4 hQ4
      subst l4 y4 z4
      obtain ⟨⟨w4, rfl, wa4, wb4, wc4⟩, Nq4, e4⟩ := hQ4
      obtain rfl := wb4 (own_n0 hl hc3).1 (own_n0 hl hc3).2
      have N4 := Fr.app N1 Nq4
      refine go st4 ?_
      show G (T4.setTop (mkF m 73 #[.val (.int x0), .val (.ref u_LESS), .val (.int (1 : Int32))] [(.ref u_GREATER)]))
      refine go (fun tg kg => XS.aloadN X4.here hx rfl (hb hby at_73) rfl rfl kg) ?_
      show G (T4.setTop (mkF m 74 #[.val (.int x0), .val (.ref u_LESS), .val (.int (1 : Int32))] [(.ref u_LESS), (.ref u_GREATER)]))
      obtain ⟨cq5, kq5, q5a, q5b, q5c⟩ := isOf hZ e4 E_u_LESS
      obtain ⟨_, _, ⟨T5, L5, k5, n5⟩, -, X5, ⟨Lc5, hQ5, l5, y5, z5⟩, st5⟩ := X4.virtualBack hx (y := (⟨"com/example/schema_dates/schemadates/XsdOrder", "mirror", "()Lcom/example/schema_dates/schemadates/XsdOrder;"⟩ : MethodName)) (z := (⟨"com/example/schema_dates/schemadates/XsdOrder", "mirror", "()Lcom/example/schema_dates/schemadates/XsdOrder;"⟩ : MethodName)) hown (mvT hZ (hw _ (List.mem_of_getElem? (i := 8) rfl))) (mvT hZ (hw _ (List.mem_of_getElem? (i := 9) rfl))) (notFace_of_selects (args := #[]) (mvT hZ (hw _ (List.mem_of_getElem? (i := 11) rfl)))) (mvT hZ (hw _ (List.mem_of_getElem? (i := 11) rfl))) (mvT hZ (hw _ (List.mem_of_getElem? (i := 10) rfl))) (by decide) (backOf (W := 1) (rm2_0 l Z a0 hw [] u_LESS u_LESS u_EQUAL u_GREATER h0 n0 Z0 S_u_LESS S_u_EQUAL S_u_GREATER E_u_LESS F_u_LESS_ordinal) hZ (hw _ (List.mem_of_getElem? (i := 12) rfl)) (hw _ (List.mem_of_getElem? (i := 2) rfl)) (by decide) (by decide)) q5a q5c (g := (mkF m 74 #[.val (.int x0), .val (.ref u_LESS), .val (.int (1 : Int32))] [(.ref u_LESS), (.ref u_GREATER)])) rfl (by rw [hml]; rfl) (Steps.refl _) (argsL := []) (rest := [(.ref u_GREATER)]) (lenOf pd___Lcom_example_schema_dates_schemadates_XsdOrder_ rfl) rfl (by show 2 * 0 + _ ≤ _; exact Nat.le_of_eq rfl) (hb hby at_74) (fun _ _ => ⟨rfl, e4, (by decide : 0 + 0 ≤ _), (by decide : 0 + 0 ≤ _)⟩)
      dsimp only [Pt.U, Pt.locs, Pt.cells, Pt.slots] at X5 l5 y5 z5 st5 hQ5
      subst l5 y5 z5
      obtain ⟨rfl, Nq5, e5⟩ := hQ5
      have N5 := Fr.app N4 Nq5
      refine go (fun tg kg => st5.trans kg) ?_
      show G (T5.setTop (mkF m 77 #[.val (.int x0), .val (.ref u_LESS), .val (.int (1 : Int32))] [(.ref u_GREATER), (.ref u_GREATER)]))
      refine go (fun tg kg => Jvm.RoadKit.acmp (g := (mkF m 77 #[.val (.int x0), .val (.ref u_LESS), .val (.int (1 : Int32))] [(.ref u_GREATER), (.ref u_GREATER)])) X5 hx rfl rfl rfl (pc0 := 77) (pc' := 80) (same := true) rfl (hb hby at_77) rfl (decide_eq_true rfl) (by decide) (by decide) kg) ?_
      show G (T5.setTop (mkF m 80 #[.val (.int x0), .val (.ref u_LESS), .val (.int (1 : Int32))] []))
      refine go (fun tg kg => XS.iconst X5.here hx rfl (hb hby at_80) kg) ?_
      show G (T5.setTop (mkF m 81 #[.val (.int x0), .val (.ref u_LESS), .val (.int (1 : Int32))] [(.int (1 : Int32))]))
      refine go (fun tg kg => XS.goto X5.here hx rfl (pc0 := 81) (pc' := 85) rfl (hb hby at_81) (by decide) (by decide) kg) ?_
      show G (T5.setTop (mkF m 85 #[.val (.int x0), .val (.ref u_LESS), .val (.int (1 : Int32))] [(.int (1 : Int32))]))
      refine go (fun tg kg => XS.istoreN X5.here hx rfl (hb hby at_85) rfl (l' := #[.val (.int x0), .val (.ref u_LESS), .val (.int (1 : Int32))]) rfl kg) ?_
      show G (T5.setTop (mkF m 86 #[.val (.int x0), .val (.ref u_LESS), .val (.int (1 : Int32))] []))
      refine go (fun tg kg => XS.iloadN X5.here hx rfl (hb hby at_86) rfl kg) ?_
      show G (T5.setTop (mkF m 87 #[.val (.int x0), .val (.ref u_LESS), .val (.int (1 : Int32))] [(.int (1 : Int32))]))
      refine fin (some (.int (1 : Int32))) X5 (fun h => absurd h (by decide)) (fun fs hr => retN X5 hx (t := .boolean) hret (by simp) (hb hby at_87) hr) (by decide) (by decide) ?_
      rw [e5]
      exact ⟨rfl, N5⟩
  · skip
    by_cases hg : (0 : Int32) < x0
    · skip
      refine go (fun tg kg => XS.iloadN X0.here hx rfl (hb hby at_0) rfl kg) ?_
      show G (s₁.setTop (mkF m 1 #[.val (.int x0), .unset, .unset] [(.int x0)]))
      obtain ⟨_, _, ⟨T6, L6, k6, n6⟩, -, X6, ⟨Lc6, hQ6, l6, y6, z6⟩, st6⟩ := Jvm.LawKit.callS X0 hx (y := (⟨"com/example/schema_dates/schemadates/XsdOrder", "ofSign", "(I)Lcom/example/schema_dates/schemadates/XsdOrder;"⟩ : MethodName)) hown (mvT hZ (hw _ (List.mem_of_getElem? (i := 0) rfl))) (mvT hZ (hw _ (List.mem_of_getElem? (i := 1) rfl))) (mvT hZ (hw _ (List.mem_of_getElem? (i := 2) rfl))) (mvT hZ (hw _ (List.mem_of_getElem? (i := 3) rfl))) (by decide) (backOf (W := 0) (rm1 l Z a0 hw [] x0 u_LESS u_EQUAL u_GREATER h0 n0 Z0 S_u_LESS S_u_EQUAL S_u_GREATER) hZ (hw _ (List.mem_of_getElem? (i := 3) rfl)) (hw _ (List.mem_of_getElem? (i := 2) rfl)) (by decide) (by decide)) (g := (mkF m 1 #[.val (.int x0), .unset, .unset] [(.int x0)])) rfl (by rw [hml]; rfl) (argsL := [(.int x0)]) (rest := []) (lenOf pd__I_Lcom_example_schema_dates_schemadates_XsdOrder_ rfl) rfl (by show 2 * 0 + _ ≤ _; exact Nat.le_of_eq rfl) (hb hby at_1) (fun _ _ => ⟨rfl, e0, (by decide : 0 + 0 ≤ _), (by decide : 0 + 0 ≤ _)⟩)
      dsimp only [Pt.U, Pt.locs, Pt.cells, Pt.slots] at X6 l6 y6 z6 st6 hQ6
      subst l6 y6 z6
      obtain ⟨⟨w6, rfl, wa6, wb6, wc6⟩, Nq6, e6⟩ := hQ6
      obtain rfl := wb6 hl hg
      have N6 := Fr.app N0 Nq6
      refine go st6 ?_
      show G (T6.setTop (mkF m 4 #[.val (.int x0), .unset, .unset] [(.ref u_GREATER)]))
      refine go (fun tg kg => XS.astoreN X6.here hx rfl (hb hby at_4) rfl rfl (l' := #[.val (.int x0), .val (.ref u_GREATER), .unset]) rfl kg) ?_
      show G (T6.setTop (mkF m 5 #[.val (.int x0), .val (.ref u_GREATER), .unset] []))
      refine go (fun tg kg => XS.iloadN X6.here hx rfl (hb hby at_5) rfl kg) ?_
      show G (T6.setTop (mkF m 6 #[.val (.int x0), .val (.ref u_GREATER), .unset] [(.int x0)]))
      refine go (fun tg kg => XS.ifYes X6.here hx rfl (pc0 := 6) (pc' := 25) rfl (hb hby at_6) rfl ((if0 _ _).trans (flt hl).2.1) (by decide) (by decide) kg) ?_
      show G (T6.setTop (mkF m 25 #[.val (.int x0), .val (.ref u_GREATER), .unset] []))
      refine go (fun tg kg => XS.iloadN X6.here hx rfl (hb hby at_25) rfl kg) ?_
      show G (T6.setTop (mkF m 26 #[.val (.int x0), .val (.ref u_GREATER), .unset] [(.int x0)]))
      refine go (fun tg kg => XS.ifYes X6.here hx rfl (pc0 := 26) (pc' := 45) rfl (hb hby at_26) rfl ((if0 _ _).trans (feq (own_pz hg)).2) (by decide) (by decide) kg) ?_
      show G (T6.setTop (mkF m 45 #[.val (.int x0), .val (.ref u_GREATER), .unset] []))
      refine go (fun tg kg => XS.aloadN X6.here hx rfl (hb hby at_45) rfl rfl kg) ?_
      show G (T6.setTop (mkF m 46 #[.val (.int x0), .val (.ref u_GREATER), .unset] [(.ref u_GREATER)]))
      obtain ⟨T7, X7, e7, st7⟩ := getS2 X6 hx hZ hown (host := "") (Or.inl (hw _ (List.mem_of_getElem? (i := 24) rfl))) Via.refl e6 S_u_GREATER (g := (mkF m 46 #[.val (.int x0), .val (.ref u_GREATER), .unset] [(.ref u_GREATER)])) rfl (hb hby at_46)
      refine go st7 ?_
      show G (T7.setTop (mkF m 49 #[.val (.int x0), .val (.ref u_GREATER), .unset] [(.ref u_GREATER), (.ref u_GREATER)]))
      refine go (fun tg kg => Jvm.RoadKit.acmp (g := (mkF m 49 #[.val (.int x0), .val (.ref u_GREATER), .unset] [(.ref u_GREATER), (.ref u_GREATER)])) X7 hx rfl rfl rfl (pc0 := 49) (pc' := 52) (same := true) rfl (hb hby at_49) rfl (decide_eq_true rfl) (by decide) (by decide) kg) ?_
      show G (T7.setTop (mkF m 52 #[.val (.int x0), .val (.ref u_GREATER), .unset] []))
      refine go (fun tg kg => XS.iconst X7.here hx rfl (hb hby at_52) kg) ?_
      show G (T7.setTop (mkF m 53 #[.val (.int x0), .val (.ref u_GREATER), .unset] [(.int (1 : Int32))]))
      refine go (fun tg kg => XS.goto X7.here hx rfl (pc0 := 53) (pc' := 57) rfl (hb hby at_53) (by decide) (by decide) kg) ?_
      show G (T7.setTop (mkF m 57 #[.val (.int x0), .val (.ref u_GREATER), .unset] [(.int (1 : Int32))]))
      refine go (fun tg kg => XS.istoreN X7.here hx rfl (hb hby at_57) rfl (l' := #[.val (.int x0), .val (.ref u_GREATER), .val (.int (1 : Int32))]) rfl kg) ?_
      show G (T7.setTop (mkF m 58 #[.val (.int x0), .val (.ref u_GREATER), .val (.int (1 : Int32))] []))
      refine go (fun tg kg => XS.iloadN X7.here hx rfl (hb hby at_58) rfl kg) ?_
      show G (T7.setTop (mkF m 59 #[.val (.int x0), .val (.ref u_GREATER), .val (.int (1 : Int32))] [(.int x0)]))
      refine go (fun tg kg => X7.ldcInt hx hown (mvT hZ (hw _ (List.mem_of_getElem? (i := 7) rfl))) (g := (mkF m 59 #[.val (.int x0), .val (.ref u_GREATER), .val (.int (1 : Int32))] [(.int x0)])) rfl (hb hby at_59) _ kg) ?_
      show G (T7.setTop (mkF m 61 #[.val (.int x0), .val (.ref u_GREATER), .val (.int (1 : Int32))] [(.int (-2147483648 : Int32)), (.int x0)]))
      by_cases hc8 : x0 = (-2147483648 : Int32)
      · refine go (fun tg kg => XS.icmpYes X7.here hx rfl (pc0 := 61) (pc' := 86) rfl (hb hby at_61) rfl (teq hc8).1 (by decide) (by decide) kg) ?_
        show G (T7.setTop (mkF m 86 #[.val (.int x0), .val (.ref u_GREATER), .val (.int (1 : Int32))] []))
        refine go (fun tg kg => XS.iloadN X7.here hx rfl (hb hby at_86) rfl kg) ?_
        show G (T7.setTop (mkF m 87 #[.val (.int x0), .val (.ref u_GREATER), .val (.int (1 : Int32))] [(.int (1 : Int32))]))
        refine fin (some (.int (1 : Int32))) X7 (fun h => absurd h (by decide)) (fun fs hr => retN X7 hx (t := .boolean) hret (by simp) (hb hby at_87) hr) (by decide) (by decide) ?_
        rw [e7]
        exact ⟨rfl, N6⟩
      · refine go (fun tg kg => XS.icmpNo X7.here hx rfl (hb hby at_61) rfl (feq hc8).1 kg) ?_
        show G (T7.setTop (mkF m 64 #[.val (.int x0), .val (.ref u_GREATER), .val (.int (1 : Int32))] []))
        refine go (fun tg kg => XS.iloadN X7.here hx rfl (hb hby at_64) rfl kg) ?_
        show G (T7.setTop (mkF m 65 #[.val (.int x0), .val (.ref u_GREATER), .val (.int (1 : Int32))] [(.int (1 : Int32))]))
        refine go (fun tg kg => XS.ifNo X7.here hx rfl (hb hby at_65) rfl ((if0 _ _).trans (feq (by decide)).1) kg) ?_
        show G (T7.setTop (mkF m 68 #[.val (.int x0), .val (.ref u_GREATER), .val (.int (1 : Int32))] []))
        refine go (fun tg kg => XS.iloadN X7.here hx rfl (hb hby at_68) rfl kg) ?_
        show G (T7.setTop (mkF m 69 #[.val (.int x0), .val (.ref u_GREATER), .val (.int (1 : Int32))] [(.int x0)]))
        refine go (fun tg kg => XS.ineg X7.here hx rfl (hb hby at_69) rfl kg) ?_
        show G (T7.setTop (mkF m 70 #[.val (.int x0), .val (.ref u_GREATER), .val (.int (1 : Int32))] [(.int (-x0))]))
        obtain ⟨_, _, ⟨T9, L9, k9, n9⟩, -, X9, ⟨Lc9, hQ9, l9, y9, z9⟩, st9⟩ := Jvm.LawKit.callS X7 hx (y := (⟨"com/example/schema_dates/schemadates/XsdOrder", "ofSign", "(I)Lcom/example/schema_dates/schemadates/XsdOrder;"⟩ : MethodName)) hown (mvT hZ (hw _ (List.mem_of_getElem? (i := 0) rfl))) (mvT hZ (hw _ (List.mem_of_getElem? (i := 1) rfl))) (mvT hZ (hw _ (List.mem_of_getElem? (i := 2) rfl))) (mvT hZ (hw _ (List.mem_of_getElem? (i := 3) rfl))) (by decide) (backOf (W := 0) (rm1 l Z a0 hw [] (-x0) u_LESS u_EQUAL u_GREATER h0 n0 Z0 S_u_LESS S_u_EQUAL S_u_GREATER) hZ (hw _ (List.mem_of_getElem? (i := 3) rfl)) (hw _ (List.mem_of_getElem? (i := 2) rfl)) (by decide) (by decide)) (g := (mkF m 70 #[.val (.int x0), .val (.ref u_GREATER), .val (.int (1 : Int32))] [(.int (-x0))])) rfl (by rw [hml]; rfl) (argsL := [(.int (-x0))]) (rest := []) (lenOf pd__I_Lcom_example_schema_dates_schemadates_XsdOrder_ rfl) rfl (by show 2 * 0 + _ ≤ _; exact Nat.le_of_eq rfl) (hb hby at_70) (fun _ _ => ⟨rfl, e7, (by decide : 0 + 0 ≤ _), (by decide : 0 + 0 ≤ _)⟩)
        dsimp only [Pt.U, Pt.locs, Pt.cells, Pt.slots] at X9 l9 y9 z9 st9 hQ9
        subst l9 y9 z9
        obtain ⟨⟨w9, rfl, wa9, wb9, wc9⟩, Nq9, e9⟩ := hQ9
        obtain rfl := wa9 (own_p0 hg)
        have N9 := Fr.app N6 Nq9
        refine go st9 ?_
        show G (T9.setTop (mkF m 73 #[.val (.int x0), .val (.ref u_GREATER), .val (.int (1 : Int32))] [(.ref u_LESS)]))
        refine go (fun tg kg => XS.aloadN X9.here hx rfl (hb hby at_73) rfl rfl kg) ?_
        show G (T9.setTop (mkF m 74 #[.val (.int x0), .val (.ref u_GREATER), .val (.int (1 : Int32))] [(.ref u_GREATER), (.ref u_LESS)]))
        obtain ⟨cq10, kq10, q10a, q10b, q10c⟩ := isOf hZ e9 E_u_GREATER
        obtain ⟨_, _, ⟨T10, L10, k10, n10⟩, -, X10, ⟨Lc10, hQ10, l10, y10, z10⟩, st10⟩ := X9.virtualBack hx (y := (⟨"com/example/schema_dates/schemadates/XsdOrder", "mirror", "()Lcom/example/schema_dates/schemadates/XsdOrder;"⟩ : MethodName)) (z := (⟨"com/example/schema_dates/schemadates/XsdOrder", "mirror", "()Lcom/example/schema_dates/schemadates/XsdOrder;"⟩ : MethodName)) hown (mvT hZ (hw _ (List.mem_of_getElem? (i := 8) rfl))) (mvT hZ (hw _ (List.mem_of_getElem? (i := 9) rfl))) (notFace_of_selects (args := #[]) (mvT hZ (hw _ (List.mem_of_getElem? (i := 11) rfl)))) (mvT hZ (hw _ (List.mem_of_getElem? (i := 11) rfl))) (mvT hZ (hw _ (List.mem_of_getElem? (i := 10) rfl))) (by decide) (backOf (W := 1) (rm2_2 l Z a0 hw [] u_GREATER u_LESS u_EQUAL u_GREATER h0 n0 Z0 S_u_LESS S_u_EQUAL S_u_GREATER E_u_GREATER F_u_GREATER_ordinal) hZ (hw _ (List.mem_of_getElem? (i := 12) rfl)) (hw _ (List.mem_of_getElem? (i := 2) rfl)) (by decide) (by decide)) q10a q10c (g := (mkF m 74 #[.val (.int x0), .val (.ref u_GREATER), .val (.int (1 : Int32))] [(.ref u_GREATER), (.ref u_LESS)])) rfl (by rw [hml]; rfl) (Steps.refl _) (argsL := []) (rest := [(.ref u_LESS)]) (lenOf pd___Lcom_example_schema_dates_schemadates_XsdOrder_ rfl) rfl (by show 2 * 0 + _ ≤ _; exact Nat.le_of_eq rfl) (hb hby at_74) (fun _ _ => ⟨rfl, e9, (by decide : 0 + 0 ≤ _), (by decide : 0 + 0 ≤ _)⟩)
        dsimp only [Pt.U, Pt.locs, Pt.cells, Pt.slots] at X10 l10 y10 z10 st10 hQ10
        subst l10 y10 z10
        obtain ⟨rfl, Nq10, e10⟩ := hQ10
        have N10 := Fr.app N9 Nq10
        refine go (fun tg kg => st10.trans kg) ?_
        show G (T10.setTop (mkF m 77 #[.val (.int x0), .val (.ref u_GREATER), .val (.int (1 : Int32))] [(.ref u_LESS), (.ref u_LESS)]))
        refine go (fun tg kg => Jvm.RoadKit.acmp (g := (mkF m 77 #[.val (.int x0), .val (.ref u_GREATER), .val (.int (1 : Int32))] [(.ref u_LESS), (.ref u_LESS)])) X10 hx rfl rfl rfl (pc0 := 77) (pc' := 80) (same := true) rfl (hb hby at_77) rfl (decide_eq_true rfl) (by decide) (by decide) kg) ?_
        show G (T10.setTop (mkF m 80 #[.val (.int x0), .val (.ref u_GREATER), .val (.int (1 : Int32))] []))
        refine go (fun tg kg => XS.iconst X10.here hx rfl (hb hby at_80) kg) ?_
        show G (T10.setTop (mkF m 81 #[.val (.int x0), .val (.ref u_GREATER), .val (.int (1 : Int32))] [(.int (1 : Int32))]))
        refine go (fun tg kg => XS.goto X10.here hx rfl (pc0 := 81) (pc' := 85) rfl (hb hby at_81) (by decide) (by decide) kg) ?_
        show G (T10.setTop (mkF m 85 #[.val (.int x0), .val (.ref u_GREATER), .val (.int (1 : Int32))] [(.int (1 : Int32))]))
        refine go (fun tg kg => XS.istoreN X10.here hx rfl (hb hby at_85) rfl (l' := #[.val (.int x0), .val (.ref u_GREATER), .val (.int (1 : Int32))]) rfl kg) ?_
        show G (T10.setTop (mkF m 86 #[.val (.int x0), .val (.ref u_GREATER), .val (.int (1 : Int32))] []))
        refine go (fun tg kg => XS.iloadN X10.here hx rfl (hb hby at_86) rfl kg) ?_
        show G (T10.setTop (mkF m 87 #[.val (.int x0), .val (.ref u_GREATER), .val (.int (1 : Int32))] [(.int (1 : Int32))]))
        refine fin (some (.int (1 : Int32))) X10 (fun h => absurd h (by decide)) (fun fs hr => retN X10 hx (t := .boolean) hret (by simp) (hb hby at_87) hr) (by decide) (by decide) ?_
        rw [e10]
        exact ⟨rfl, N10⟩
    · skip
      refine go (fun tg kg => XS.iloadN X0.here hx rfl (hb hby at_0) rfl kg) ?_
      show G (s₁.setTop (mkF m 1 #[.val (.int x0), .unset, .unset] [(.int x0)]))
      obtain ⟨_, _, ⟨T11, L11, k11, n11⟩, -, X11, ⟨Lc11, hQ11, l11, y11, z11⟩, st11⟩ := Jvm.LawKit.callS X0 hx (y := (⟨"com/example/schema_dates/schemadates/XsdOrder", "ofSign", "(I)Lcom/example/schema_dates/schemadates/XsdOrder;"⟩ : MethodName)) hown (mvT hZ (hw _ (List.mem_of_getElem? (i := 0) rfl))) (mvT hZ (hw _ (List.mem_of_getElem? (i := 1) rfl))) (mvT hZ (hw _ (List.mem_of_getElem? (i := 2) rfl))) (mvT hZ (hw _ (List.mem_of_getElem? (i := 3) rfl))) (by decide) (backOf (W := 0) (rm1 l Z a0 hw [] x0 u_LESS u_EQUAL u_GREATER h0 n0 Z0 S_u_LESS S_u_EQUAL S_u_GREATER) hZ (hw _ (List.mem_of_getElem? (i := 3) rfl)) (hw _ (List.mem_of_getElem? (i := 2) rfl)) (by decide) (by decide)) (g := (mkF m 1 #[.val (.int x0), .unset, .unset] [(.int x0)])) rfl (by rw [hml]; rfl) (argsL := [(.int x0)]) (rest := []) (lenOf pd__I_Lcom_example_schema_dates_schemadates_XsdOrder_ rfl) rfl (by show 2 * 0 + _ ≤ _; exact Nat.le_of_eq rfl) (hb hby at_1) (fun _ _ => ⟨rfl, e0, (by decide : 0 + 0 ≤ _), (by decide : 0 + 0 ≤ _)⟩)
      dsimp only [Pt.U, Pt.locs, Pt.cells, Pt.slots] at X11 l11 y11 z11 st11 hQ11
      subst l11 y11 z11
      obtain ⟨⟨w11, rfl, wa11, wb11, wc11⟩, Nq11, e11⟩ := hQ11
      obtain rfl := wc11 hl hg
      have N11 := Fr.app N0 Nq11
      refine go st11 ?_
      show G (T11.setTop (mkF m 4 #[.val (.int x0), .unset, .unset] [(.ref u_EQUAL)]))
      refine go (fun tg kg => XS.astoreN X11.here hx rfl (hb hby at_4) rfl rfl (l' := #[.val (.int x0), .val (.ref u_EQUAL), .unset]) rfl kg) ?_
      show G (T11.setTop (mkF m 5 #[.val (.int x0), .val (.ref u_EQUAL), .unset] []))
      refine go (fun tg kg => XS.iloadN X11.here hx rfl (hb hby at_5) rfl kg) ?_
      show G (T11.setTop (mkF m 6 #[.val (.int x0), .val (.ref u_EQUAL), .unset] [(.int x0)]))
      refine go (fun tg kg => XS.ifYes X11.here hx rfl (pc0 := 6) (pc' := 25) rfl (hb hby at_6) rfl ((if0 _ _).trans (flt hl).2.1) (by decide) (by decide) kg) ?_
      show G (T11.setTop (mkF m 25 #[.val (.int x0), .val (.ref u_EQUAL), .unset] []))
      refine go (fun tg kg => XS.iloadN X11.here hx rfl (hb hby at_25) rfl kg) ?_
      show G (T11.setTop (mkF m 26 #[.val (.int x0), .val (.ref u_EQUAL), .unset] [(.int x0)]))
      refine go (fun tg kg => XS.ifNo X11.here hx rfl (hb hby at_26) rfl ((if0 _ _).trans (teq (own_zz hl hg)).2) kg) ?_
      show G (T11.setTop (mkF m 29 #[.val (.int x0), .val (.ref u_EQUAL), .unset] []))
      refine go (fun tg kg => XS.aloadN X11.here hx rfl (hb hby at_29) rfl rfl kg) ?_
      show G (T11.setTop (mkF m 30 #[.val (.int x0), .val (.ref u_EQUAL), .unset] [(.ref u_EQUAL)]))
      obtain ⟨T12, X12, e12, st12⟩ := getS2 X11 hx hZ hown (host := "") (Or.inl (hw _ (List.mem_of_getElem? (i := 6) rfl))) Via.refl e11 S_u_EQUAL (g := (mkF m 30 #[.val (.int x0), .val (.ref u_EQUAL), .unset] [(.ref u_EQUAL)])) rfl (hb hby at_30)
      refine go st12 ?_
      show G (T12.setTop (mkF m 33 #[.val (.int x0), .val (.ref u_EQUAL), .unset] [(.ref u_EQUAL), (.ref u_EQUAL)]))
      refine go (fun tg kg => Jvm.RoadKit.acmp (g := (mkF m 33 #[.val (.int x0), .val (.ref u_EQUAL), .unset] [(.ref u_EQUAL), (.ref u_EQUAL)])) X12 hx rfl rfl rfl (pc0 := 33) (pc' := 36) (same := true) rfl (hb hby at_33) rfl (decide_eq_true rfl) (by decide) (by decide) kg) ?_
      show G (T12.setTop (mkF m 36 #[.val (.int x0), .val (.ref u_EQUAL), .unset] []))
      refine go (fun tg kg => XS.iconst X12.here hx rfl (hb hby at_36) kg) ?_
      show G (T12.setTop (mkF m 37 #[.val (.int x0), .val (.ref u_EQUAL), .unset] [(.int (1 : Int32))]))
      refine go (fun tg kg => XS.goto X12.here hx rfl (pc0 := 37) (pc' := 41) rfl (hb hby at_37) (by decide) (by decide) kg) ?_
      show G (T12.setTop (mkF m 41 #[.val (.int x0), .val (.ref u_EQUAL), .unset] [(.int (1 : Int32))]))
      refine go (fun tg kg => XS.istoreN X12.here hx rfl (hb hby at_41) rfl (l' := #[.val (.int x0), .val (.ref u_EQUAL), .val (.int (1 : Int32))]) rfl kg) ?_
      show G (T12.setTop (mkF m 42 #[.val (.int x0), .val (.ref u_EQUAL), .val (.int (1 : Int32))] []))
      refine go (fun tg kg => XS.goto X12.here hx rfl (pc0 := 42) (pc' := 58) rfl (hb hby at_42) (by decide) (by decide) kg) ?_
      show G (T12.setTop (mkF m 58 #[.val (.int x0), .val (.ref u_EQUAL), .val (.int (1 : Int32))] []))
      refine go (fun tg kg => XS.iloadN X12.here hx rfl (hb hby at_58) rfl kg) ?_
      show G (T12.setTop (mkF m 59 #[.val (.int x0), .val (.ref u_EQUAL), .val (.int (1 : Int32))] [(.int x0)]))
      refine go (fun tg kg => X12.ldcInt hx hown (mvT hZ (hw _ (List.mem_of_getElem? (i := 7) rfl))) (g := (mkF m 59 #[.val (.int x0), .val (.ref u_EQUAL), .val (.int (1 : Int32))] [(.int x0)])) rfl (hb hby at_59) _ kg) ?_
      show G (T12.setTop (mkF m 61 #[.val (.int x0), .val (.ref u_EQUAL), .val (.int (1 : Int32))] [(.int (-2147483648 : Int32)), (.int x0)]))
      by_cases hc13 : x0 = (-2147483648 : Int32)
      · refine go (fun tg kg => XS.icmpYes X12.here hx rfl (pc0 := 61) (pc' := 86) rfl (hb hby at_61) rfl (teq hc13).1 (by decide) (by decide) kg) ?_
        show G (T12.setTop (mkF m 86 #[.val (.int x0), .val (.ref u_EQUAL), .val (.int (1 : Int32))] []))
        refine go (fun tg kg => XS.iloadN X12.here hx rfl (hb hby at_86) rfl kg) ?_
        show G (T12.setTop (mkF m 87 #[.val (.int x0), .val (.ref u_EQUAL), .val (.int (1 : Int32))] [(.int (1 : Int32))]))
        refine fin (some (.int (1 : Int32))) X12 (fun h => absurd h (by decide)) (fun fs hr => retN X12 hx (t := .boolean) hret (by simp) (hb hby at_87) hr) (by decide) (by decide) ?_
        rw [e12]
        exact ⟨rfl, N11⟩
      · refine go (fun tg kg => XS.icmpNo X12.here hx rfl (hb hby at_61) rfl (feq hc13).1 kg) ?_
        show G (T12.setTop (mkF m 64 #[.val (.int x0), .val (.ref u_EQUAL), .val (.int (1 : Int32))] []))
        refine go (fun tg kg => XS.iloadN X12.here hx rfl (hb hby at_64) rfl kg) ?_
        show G (T12.setTop (mkF m 65 #[.val (.int x0), .val (.ref u_EQUAL), .val (.int (1 : Int32))] [(.int (1 : Int32))]))
        refine go (fun tg kg => XS.ifNo X12.here hx rfl (hb hby at_65) rfl ((if0 _ _).trans (feq (by decide)).1) kg) ?_
        show G (T12.setTop (mkF m 68 #[.val (.int x0), .val (.ref u_EQUAL), .val (.int (1 : Int32))] []))
        refine go (fun tg kg => XS.iloadN X12.here hx rfl (hb hby at_68) rfl kg) ?_
        show G (T12.setTop (mkF m 69 #[.val (.int x0), .val (.ref u_EQUAL), .val (.int (1 : Int32))] [(.int x0)]))
        refine go (fun tg kg => XS.ineg X12.here hx rfl (hb hby at_69) rfl kg) ?_
        show G (T12.setTop (mkF m 70 #[.val (.int x0), .val (.ref u_EQUAL), .val (.int (1 : Int32))] [(.int (-x0))]))
        obtain ⟨_, _, ⟨T14, L14, k14, n14⟩, -, X14, ⟨Lc14, hQ14, l14, y14, z14⟩, st14⟩ := Jvm.LawKit.callS X12 hx (y := (⟨"com/example/schema_dates/schemadates/XsdOrder", "ofSign", "(I)Lcom/example/schema_dates/schemadates/XsdOrder;"⟩ : MethodName)) hown (mvT hZ (hw _ (List.mem_of_getElem? (i := 0) rfl))) (mvT hZ (hw _ (List.mem_of_getElem? (i := 1) rfl))) (mvT hZ (hw _ (List.mem_of_getElem? (i := 2) rfl))) (mvT hZ (hw _ (List.mem_of_getElem? (i := 3) rfl))) (by decide) (backOf (W := 0) (rm1 l Z a0 hw [] (-x0) u_LESS u_EQUAL u_GREATER h0 n0 Z0 S_u_LESS S_u_EQUAL S_u_GREATER) hZ (hw _ (List.mem_of_getElem? (i := 3) rfl)) (hw _ (List.mem_of_getElem? (i := 2) rfl)) (by decide) (by decide)) (g := (mkF m 70 #[.val (.int x0), .val (.ref u_EQUAL), .val (.int (1 : Int32))] [(.int (-x0))])) rfl (by rw [hml]; rfl) (argsL := [(.int (-x0))]) (rest := []) (lenOf pd__I_Lcom_example_schema_dates_schemadates_XsdOrder_ rfl) rfl (by show 2 * 0 + _ ≤ _; exact Nat.le_of_eq rfl) (hb hby at_70) (fun _ _ => ⟨rfl, e12, (by decide : 0 + 0 ≤ _), (by decide : 0 + 0 ≤ _)⟩)
        dsimp only [Pt.U, Pt.locs, Pt.cells, Pt.slots] at X14 l14 y14 z14 st14 hQ14
        subst l14 y14 z14
        obtain ⟨⟨w14, rfl, wa14, wb14, wc14⟩, Nq14, e14⟩ := hQ14
        obtain rfl := wc14 (own_z0 hl hg).1 (own_z0 hl hg).2
        have N14 := Fr.app N11 Nq14
        refine go st14 ?_
        show G (T14.setTop (mkF m 73 #[.val (.int x0), .val (.ref u_EQUAL), .val (.int (1 : Int32))] [(.ref u_EQUAL)]))
        refine go (fun tg kg => XS.aloadN X14.here hx rfl (hb hby at_73) rfl rfl kg) ?_
        show G (T14.setTop (mkF m 74 #[.val (.int x0), .val (.ref u_EQUAL), .val (.int (1 : Int32))] [(.ref u_EQUAL), (.ref u_EQUAL)]))
        obtain ⟨cq15, kq15, q15a, q15b, q15c⟩ := isOf hZ e14 E_u_EQUAL
        obtain ⟨_, _, ⟨T15, L15, k15, n15⟩, -, X15, ⟨Lc15, hQ15, l15, y15, z15⟩, st15⟩ := X14.virtualBack hx (y := (⟨"com/example/schema_dates/schemadates/XsdOrder", "mirror", "()Lcom/example/schema_dates/schemadates/XsdOrder;"⟩ : MethodName)) (z := (⟨"com/example/schema_dates/schemadates/XsdOrder", "mirror", "()Lcom/example/schema_dates/schemadates/XsdOrder;"⟩ : MethodName)) hown (mvT hZ (hw _ (List.mem_of_getElem? (i := 8) rfl))) (mvT hZ (hw _ (List.mem_of_getElem? (i := 9) rfl))) (notFace_of_selects (args := #[]) (mvT hZ (hw _ (List.mem_of_getElem? (i := 11) rfl)))) (mvT hZ (hw _ (List.mem_of_getElem? (i := 11) rfl))) (mvT hZ (hw _ (List.mem_of_getElem? (i := 10) rfl))) (by decide) (backOf (W := 1) (rm2_1 l Z a0 hw [] u_EQUAL u_LESS u_EQUAL u_GREATER h0 n0 Z0 S_u_LESS S_u_EQUAL S_u_GREATER E_u_EQUAL F_u_EQUAL_ordinal) hZ (hw _ (List.mem_of_getElem? (i := 12) rfl)) (hw _ (List.mem_of_getElem? (i := 2) rfl)) (by decide) (by decide)) q15a q15c (g := (mkF m 74 #[.val (.int x0), .val (.ref u_EQUAL), .val (.int (1 : Int32))] [(.ref u_EQUAL), (.ref u_EQUAL)])) rfl (by rw [hml]; rfl) (Steps.refl _) (argsL := []) (rest := [(.ref u_EQUAL)]) (lenOf pd___Lcom_example_schema_dates_schemadates_XsdOrder_ rfl) rfl (by show 2 * 0 + _ ≤ _; exact Nat.le_of_eq rfl) (hb hby at_74) (fun _ _ => ⟨rfl, e14, (by decide : 0 + 0 ≤ _), (by decide : 0 + 0 ≤ _)⟩)
        dsimp only [Pt.U, Pt.locs, Pt.cells, Pt.slots] at X15 l15 y15 z15 st15 hQ15
        subst l15 y15 z15
        obtain ⟨rfl, Nq15, e15⟩ := hQ15
        have N15 := Fr.app N14 Nq15
        refine go (fun tg kg => st15.trans kg) ?_
        show G (T15.setTop (mkF m 77 #[.val (.int x0), .val (.ref u_EQUAL), .val (.int (1 : Int32))] [(.ref u_EQUAL), (.ref u_EQUAL)]))
        refine go (fun tg kg => Jvm.RoadKit.acmp (g := (mkF m 77 #[.val (.int x0), .val (.ref u_EQUAL), .val (.int (1 : Int32))] [(.ref u_EQUAL), (.ref u_EQUAL)])) X15 hx rfl rfl rfl (pc0 := 77) (pc' := 80) (same := true) rfl (hb hby at_77) rfl (decide_eq_true rfl) (by decide) (by decide) kg) ?_
        show G (T15.setTop (mkF m 80 #[.val (.int x0), .val (.ref u_EQUAL), .val (.int (1 : Int32))] []))
        refine go (fun tg kg => XS.iconst X15.here hx rfl (hb hby at_80) kg) ?_
        show G (T15.setTop (mkF m 81 #[.val (.int x0), .val (.ref u_EQUAL), .val (.int (1 : Int32))] [(.int (1 : Int32))]))
        refine go (fun tg kg => XS.goto X15.here hx rfl (pc0 := 81) (pc' := 85) rfl (hb hby at_81) (by decide) (by decide) kg) ?_
        show G (T15.setTop (mkF m 85 #[.val (.int x0), .val (.ref u_EQUAL), .val (.int (1 : Int32))] [(.int (1 : Int32))]))
        refine go (fun tg kg => XS.istoreN X15.here hx rfl (hb hby at_85) rfl (l' := #[.val (.int x0), .val (.ref u_EQUAL), .val (.int (1 : Int32))]) rfl kg) ?_
        show G (T15.setTop (mkF m 86 #[.val (.int x0), .val (.ref u_EQUAL), .val (.int (1 : Int32))] []))
        refine go (fun tg kg => XS.iloadN X15.here hx rfl (hb hby at_86) rfl kg) ?_
        show G (T15.setTop (mkF m 87 #[.val (.int x0), .val (.ref u_EQUAL), .val (.int (1 : Int32))] [(.int (1 : Int32))]))
        refine fin (some (.int (1 : Int32))) X15 (fun h => absurd h (by decide)) (fun fs hr => retN X15 hx (t := .boolean) hret (by simp) (hb hby at_87) hr) (by decide) (by decide) ?_
        rw [e15]
        exact ⟨rfl, N15⟩
set_option maxRecDepth 65536 in
set_option maxHeartbeats 40000000 in
theorem comes_1 {Post : Tables → Env → Array Value → State → Outcome → State → Prop} (hpost : ∀ tb e args s v u, (limb_1_1.after args s (.returned v) u = true ∧ limb_1_2.after args s (.returned v) u = true ∧ True) → FrameEnd s (.returned v) u (Jvm.fieldLocs frame_1_writes args s ++ Jvm.arrayLocs frame_1_arrays args s ++ Jvm.staticLocs frame_1_statics s) 0 0 → Post tb e args s (.returned v) u) :
    ArmFor flags0 classFile x code maxLocals ret World_1 tables_1 room_1 Calls_1 rest_1 Pre_1 Post := by
  intro l hfl _ _ p e ha hc hk s m args below hf hA hF happ hP
  obtain ⟨hcalls, hrest, hpre⟩ := hP
  obtain ⟨-, -, -, hnamed, -, -, -, hat⟩ := (Spec.applies_iff hf).mp happ
  obtain ⟨hg, hn⟩ := and_e (Cond.before_iff.mp (show (Jvm.Cond.and given_1 narrow_1).before args s = true from hpre))
  obtain ⟨gc, gr0⟩ := and_e hg
  have ga0 := gr0
  obtain ⟨w0, rfl⟩ : ∃ w0 : Value, args = #[w0] := by
    have hs : args.size = 1 := by simpa [Cond.value, given_1] using gc
    obtain ⟨L⟩ := args
    match L, hs with
    | [w0], _ => exact ⟨w0, rfl⟩
  have hw := fun d (hd : d ∈ tables_1) => atoms_spec (ws := Jvm.Cond.code x code maxLocals ret :: tables_1) hat d (List.mem_cons_of_mem _ hd)
  have hfit : Fit s := fun {y c} hc i hi => by
    obtain ⟨ha, rfl⟩ := Array.getElem?_eq_some_iff.mp hc
    have q := List.all_eq_true.mp ((Array.all_eq_true_iff_forall_mem.mp hF) _ (Array.getElem_mem ha)) i (List.mem_range.mpr hi)
    simpa [Array.getElem?_eq_getElem hi] using q
  obtain ⟨i0, ei0⟩ := is_v ga0
  obtain rfl : w0 = (.int i0) := Option.some.inj ei0
  obtain ⟨nl1, nr1⟩ := and_e hn
  obtain ⟨nl2, nr2⟩ := and_e nr1
  obtain ⟨nl3, nr3⟩ := and_e nr2
  obtain ⟨nl4, nr4⟩ := and_e nr3
  obtain ⟨nl5, nr5⟩ := and_e nr4
  obtain ⟨u_EQUAL, ev_u_EQUAL⟩ := exa_v nl1
  have S_u_EQUAL := Sta.start ev_u_EQUAL (Or.inr ⟨(hw _ (List.mem_of_getElem? (i := 2) rfl)), (hw _ (List.mem_of_getElem? (i := 5) rfl))⟩)
  have E_u_EQUAL := Exa.start ev_u_EQUAL nl1
  obtain ⟨u_GREATER, ev_u_GREATER⟩ := exa_v nl3
  have S_u_GREATER := Sta.start ev_u_GREATER (Or.inr ⟨(hw _ (List.mem_of_getElem? (i := 2) rfl)), (hw _ (List.mem_of_getElem? (i := 23) rfl))⟩)
  have E_u_GREATER := Exa.start ev_u_GREATER nl3
  obtain ⟨u_LESS, ev_u_LESS⟩ := exa_v nl4
  have S_u_LESS := Sta.start ev_u_LESS (Or.inr ⟨(hw _ (List.mem_of_getElem? (i := 2) rfl)), (hw _ (List.mem_of_getElem? (i := 26) rfl))⟩)
  have E_u_LESS := Exa.start ev_u_LESS nl4
  have F_u_EQUAL_ordinal := Fld.start ((fld_at ev_u_EQUAL).symm.trans (own_eq_int nl2))
  have F_u_GREATER_ordinal := Fld.start ((fld_at ev_u_GREATER).symm.trans (own_eq_int nl5))
  have F_u_LESS_ordinal := Fld.start ((fld_at ev_u_LESS).symm.trans (own_eq_int nr5))
  obtain ⟨n, o, h1, h2, h3, _, L, rfl, ⟨rfl, N⟩, hq⟩ := rm0 l s _ hw tables_1 i0 u_LESS u_EQUAL u_GREATER s.heap s.heap.size (Nat.le_refl _) S_u_LESS S_u_EQUAL S_u_GREATER E_u_LESS E_u_EQUAL E_u_GREATER F_u_LESS_ordinal F_u_EQUAL_ordinal F_u_GREATER_ordinal p e ha hc hk s m _ below hf ((Spec.applies_iff_loose hf).mp happ).1 ⟨rfl, State.Warmed39.refl s, rfl⟩ trivial
  refine ⟨n, _, h1, h2, h3, hpost _ _ _ _ _ _ ⟨Cond.after_iff.mpr rfl, Cond.after_iff.mpr (eq_i res_at (Term.int_eval (1)) rfl), trivial⟩ ⟨hq.1, hq.2.1, (hq.2.2.sift fun y hy => Or.inr (N y hy)).mono (by decide) (by decide)⟩⟩
theorem main_1_1 : Claimed_1_1 := comes_1 fun _ _ _ _ _ _ h hF => ⟨h.1, hF⟩
theorem main_1_2 : Claimed_1_2 := comes_1 fun _ _ _ _ _ _ h hF => ⟨h.2.1, hF⟩
end Jvm.Pilot.@@N@@
namespace Jvm.Pilot.@@N@@
open Jvm Jvm.ClassFile Sem Op Lib Jvm.Free Jvm.Stand Jvm.Pilot.@@N@@.Jvm.D
/-! MADE BY PROGRAM (witnessworld.py) out of the Statement's table words and the real class files: 12 classes; the members and pool entries that the words name. The judged class is class 1, her method 1. -/
namespace start1
open Jvm.ClassFile
def u (s : String) : CpInfo := .utf8 (stringToUtf16 s)
/-- a pool by its gaps: so many unusable entries, then the entry; so many at the end -/
def gap : Nat → List CpInfo → List CpInfo
  | 0, r => r
  | n + 1, r => .unusable :: gap n r
def poolList (es : List (Nat × CpInfo)) (last : Nat) : List CpInfo := es.foldr (fun e r => gap e.1 (e.2 :: r)) (gap last [])
def pool (es : List (Nat × CpInfo)) (last : Nat) : Array CpInfo := ⟨poolList es last⟩
def fileOf (pool : Array CpInfo) (this : Nat) (attrs : Array Attribute := #[]) (ms : Array MethodInfo := #[]) (fl : Nat := 33) (sup : Nat := 0) (ifs : Array Nat := #[]) (fds : Array FieldInfo := #[]) : ClassFile where
  minorVersion := 0
  majorVersion := 65
  constantPool := pool
  accessFlags := fl
  thisClass := this
  superClass := sup
  interfaces := ifs
  fields := fds
  methods := ms
  attributes := attrs
def plain (name : String) (sup : Option ClassId) : Class where
  name := name
  kind := .ordinary
  loader := none
  accessFlags := 33
  super := sup
  interfaces := #[]
  cf := none
  fields := #[]
  methods := #[]
  instanceTypes := #[]
  staticTypes := #[]
  resolved := #[]
  callSites := []
  init := .initialized
  statics := none
  mirror := none

def pool0 : Array CpInfo := pool [(5, u "<init>"), (0, u "()V"), (1, .class_ 10), (1, u "java/lang/Object")] 113

def k0m0 : Method := { name := "<init>", desc := "()V", sig := { parameters := [], returnType := none }, accessFlags := 1, code := none }
/-- java/lang/Object -/
def k0 : Class := { plain "java/lang/Object" none with
  accessFlags := 33
  interfaces := #[]
  cf := some (fileOf pool0 8 #[] #[{ accessFlags := 1, nameIndex := 5, descriptorIndex := 6, attributes := #[] }] 33 0 #[] #[])
  fields := #[]
  methods := #[k0m0]
  instanceTypes := #[]
  staticTypes := #[]
  resolved := Array.replicate 124 none
  statics := none }

def pool1 : Array CpInfo := pool [(2, .class_ 4), (1, u "java/lang/Object"), (0, u "<init>"), (0, u "()V"), (0, .methodref 8 9), (0, .class_ 10), (0, .nameAndType 11 12), (0, u "com/example/schema_dates/schemadates/XsdOrder"), (0, u "ofSign"), (0, u "(I)Lcom/example/schema_dates/schemadates/XsdOrder;"), (0, .fieldref 8 14), (0, .nameAndType 15 16), (0, u "LESS"), (0, u "Lcom/example/schema_dates/schemadates/XsdOrder;"), (0, .fieldref 8 18), (0, .nameAndType 19 16), (0, u "EQUAL"), (0, .fieldref 8 21), (0, .nameAndType 22 16), (0, u "GREATER"), (2, .integer 2147483648), (0, .methodref 8 27), (0, .nameAndType 28 29), (0, u "mirror"), (0, u "()Lcom/example/schema_dates/schemadates/XsdOrder;"), (0, .class_ 31), (0, u "com/example/schema_dates/schemadates/XsdOrderOfSignPinLaw"), (2, u "law"), (0, u "(I)Z")] 3

def k1m0 : Method := { name := "<init>", desc := "()V", sig := { parameters := [], returnType := none }, accessFlags := 1, code := none }
def k1c1 : Code := { maxStack := 2, maxLocals := 3, code := code, exceptionTable := #[], attributes := #[] }
def k1m1 : Method := { name := "law", desc := "(I)Z", sig := { parameters := [.int], returnType := some .boolean }, accessFlags := 9, code := some k1c1 }
/-- com/example/schema_dates/schemadates/XsdOrderOfSignPinLaw -/
def k1 : Class := { plain "com/example/schema_dates/schemadates/XsdOrderOfSignPinLaw" (some 0) with
  accessFlags := 49
  interfaces := #[]
  cf := some (fileOf pool1 30 #[] #[{ accessFlags := 1, nameIndex := 5, descriptorIndex := 6, attributes := #[] }, { accessFlags := 9, nameIndex := 34, descriptorIndex := 35, attributes := #[] }] 49 2 #[] #[])
  fields := #[]
  methods := #[k1m0, k1m1]
  instanceTypes := #[]
  staticTypes := #[]
  resolved := Array.replicate 39 none
  statics := none }

def pool2 : Array CpInfo := pool [(1, .class_ 2), (0, u "java/lang/constant/Constable"), (0, .class_ 4), (0, u "java/lang/Object")] 6

/-- java/lang/constant/Constable -/
def k2 : Class := { plain "java/lang/constant/Constable" (some 0) with
  accessFlags := 1537
  interfaces := #[]
  cf := some (fileOf pool2 1 #[] #[] 1537 3 #[] #[])
  fields := #[]
  methods := #[]
  instanceTypes := #[]
  staticTypes := #[]
  resolved := Array.replicate 11 none
  statics := none }

def pool3 : Array CpInfo := pool [(1, .class_ 2), (0, u "java/lang/Comparable"), (0, .class_ 4), (0, u "java/lang/Object")] 7

/-- java/lang/Comparable -/
def k3 : Class := { plain "java/lang/Comparable" (some 0) with
  accessFlags := 1537
  interfaces := #[]
  cf := some (fileOf pool3 1 #[] #[] 1537 3 #[] #[])
  fields := #[]
  methods := #[]
  instanceTypes := #[]
  staticTypes := #[]
  resolved := Array.replicate 12 none
  statics := none }

def pool4 : Array CpInfo := pool [(1, .class_ 2), (0, u "java/io/Serializable"), (0, .class_ 4), (0, u "java/lang/Object")] 2

/-- java/io/Serializable -/
def k4 : Class := { plain "java/io/Serializable" (some 0) with
  accessFlags := 1537
  interfaces := #[]
  cf := some (fileOf pool4 1 #[] #[] 1537 3 #[] #[])
  fields := #[]
  methods := #[]
  instanceTypes := #[]
  staticTypes := #[]
  resolved := Array.replicate 7 none
  statics := none }

def pool5 : Array CpInfo := pool [(2, .class_ 4), (1, u "java/lang/Enum"), (0, u "name"), (0, u "Ljava/lang/String;"), (0, .fieldref 2 8), (0, .nameAndType 9 10), (0, u "ordinal"), (0, u "I"), (1, .class_ 14), (1, u "java/lang/Object"), (4, u "hash"), (86, .class_ 108), (1, u "java/lang/Enum$EnumDesc"), (2, .class_ 112), (0, u "java/lang/constant/Constable"), (0, .class_ 114), (0, u "java/lang/Comparable"), (0, .class_ 116), (0, u "java/io/Serializable"), (9, u "()I")] 77

def k5c0 : Code := { maxStack := 1, maxLocals := 1, code := jdk_37_method_2_code, exceptionTable := #[], attributes := #[] }
def k5m0 : Method := { name := "ordinal", desc := "()I", sig := { parameters := [], returnType := some .int }, accessFlags := 17, code := some k5c0 }
/-- java/lang/Enum -/
def k5 : Class := { plain "java/lang/Enum" (some 0) with
  accessFlags := 1057
  interfaces := #[2, 3, 4]
  cf := some (fileOf pool5 2 #[.nestMembers #[106]] #[{ accessFlags := 17, nameIndex := 9, descriptorIndex := 126, attributes := #[] }] 1057 12 #[111, 113, 115] #[{ accessFlags := 18, nameIndex := 5, descriptorIndex := 6, attributes := #[] }, { accessFlags := 18, nameIndex := 9, descriptorIndex := 10, attributes := #[] }, { accessFlags := 2, nameIndex := 19, descriptorIndex := 10, attributes := #[] }])
  fields := #[{ name := "name", type := (.object "java/lang/String"), accessFlags := 18, slot := 0, constantValue := 0 }, { name := "ordinal", type := .int, accessFlags := 18, slot := 1, constantValue := 0 }, { name := "hash", type := .int, accessFlags := 2, slot := 2, constantValue := 0 }]
  methods := #[k5m0]
  instanceTypes := #[(.object "java/lang/String"), .int, .int]
  staticTypes := #[]
  resolved := Array.replicate 204 none
  statics := none }

def pool6 : Array CpInfo := pool [(1, .class_ 2), (0, u "com/example/schema_dates/schemadates/XsdOrder"), (0, .fieldref 1 4), (0, .nameAndType 5 6), (0, u "LESS"), (0, u "Lcom/example/schema_dates/schemadates/XsdOrder;"), (0, .fieldref 1 8), (0, .nameAndType 9 6), (0, u "EQUAL"), (0, .fieldref 1 11), (0, .nameAndType 12 6), (0, u "GREATER"), (2, u "INDETERMINATE"), (2, u "$VALUES"), (0, u "[Lcom/example/schema_dates/schemadates/XsdOrder;"), (6, .class_ 28), (1, u "java/lang/Enum"), (6, .methodref 1 36), (0, .nameAndType 37 38), (0, u "ordinal"), (0, u "()I"), (16, u "ofSign"), (0, u "(I)Lcom/example/schema_dates/schemadates/XsdOrder;"), (1, u "mirror"), (0, u "()Lcom/example/schema_dates/schemadates/XsdOrder;")] 4

def k6c0 : Code := { maxStack := 1, maxLocals := 1, code := prog_46_method_4_code, exceptionTable := #[], attributes := #[] }
def k6m0 : Method := { name := "ofSign", desc := "(I)Lcom/example/schema_dates/schemadates/XsdOrder;", sig := { parameters := [.int], returnType := some (.object "com/example/schema_dates/schemadates/XsdOrder") }, accessFlags := 8, code := some k6c0 }
def k6c1 : Code := { maxStack := 1, maxLocals := 1, code := prog_46_method_5_code, exceptionTable := #[], attributes := #[] }
def k6m1 : Method := { name := "mirror", desc := "()Lcom/example/schema_dates/schemadates/XsdOrder;", sig := { parameters := [], returnType := some (.object "com/example/schema_dates/schemadates/XsdOrder") }, accessFlags := 0, code := some k6c1 }
/-- com/example/schema_dates/schemadates/XsdOrder -/
def k6 : Class := { plain "com/example/schema_dates/schemadates/XsdOrder" (some 5) with
  accessFlags := 16433
  interfaces := #[]
  cf := some (fileOf pool6 1 #[] #[{ accessFlags := 8, nameIndex := 55, descriptorIndex := 56, attributes := #[] }, { accessFlags := 0, nameIndex := 58, descriptorIndex := 59, attributes := #[] }] 16433 26 #[] #[{ accessFlags := 16409, nameIndex := 5, descriptorIndex := 6, attributes := #[] }, { accessFlags := 16409, nameIndex := 9, descriptorIndex := 6, attributes := #[] }, { accessFlags := 16409, nameIndex := 12, descriptorIndex := 6, attributes := #[] }, { accessFlags := 16409, nameIndex := 15, descriptorIndex := 6, attributes := #[] }, { accessFlags := 4122, nameIndex := 18, descriptorIndex := 19, attributes := #[] }])
  fields := #[{ name := "LESS", type := (.object "com/example/schema_dates/schemadates/XsdOrder"), accessFlags := 16409, slot := 0, constantValue := 0 }, { name := "EQUAL", type := (.object "com/example/schema_dates/schemadates/XsdOrder"), accessFlags := 16409, slot := 1, constantValue := 0 }, { name := "GREATER", type := (.object "com/example/schema_dates/schemadates/XsdOrder"), accessFlags := 16409, slot := 2, constantValue := 0 }, { name := "INDETERMINATE", type := (.object "com/example/schema_dates/schemadates/XsdOrder"), accessFlags := 16409, slot := 3, constantValue := 0 }, { name := "$VALUES", type := (.array (.object "com/example/schema_dates/schemadates/XsdOrder")), accessFlags := 4122, slot := 4, constantValue := 0 }]
  methods := #[k6m0, k6m1]
  instanceTypes := #[(.object "java/lang/String"), .int, .int]
  staticTypes := #[(.object "com/example/schema_dates/schemadates/XsdOrder"), (.object "com/example/schema_dates/schemadates/XsdOrder"), (.object "com/example/schema_dates/schemadates/XsdOrder"), (.object "com/example/schema_dates/schemadates/XsdOrder"), (.array (.object "com/example/schema_dates/schemadates/XsdOrder"))]
  resolved := Array.replicate 64 none
  statics := some 0 }

def pool7 : Array CpInfo := pool [(1, u "java/lang/Cloneable"), (0, .class_ 1), (0, u "java/lang/Object"), (0, .class_ 3)] 3

/-- java/lang/Cloneable -/
def k7 : Class := { plain "java/lang/Cloneable" (some 0) with
  accessFlags := 1537
  interfaces := #[]
  cf := some (fileOf pool7 2 #[] #[] 1537 4 #[] #[])
  fields := #[]
  methods := #[]
  instanceTypes := #[]
  staticTypes := #[]
  resolved := Array.replicate 8 none
  statics := none }

/-- the primitive byte -/
def k8 : Class := { plain "byte" none with kind := .primitive 'B', accessFlags := 0x411 }
/-- [B -/
def k9 : Class := { plain "[B" (some 0) with kind := .array 8 .byte, interfaces := #[7, 4], accessFlags := 1041 }

/-- the primitive int -/
def k10 : Class := { plain "int" none with kind := .primitive 'I', accessFlags := 0x411 }
/-- [I -/
def k11 : Class := { plain "[I" (some 0) with kind := .array 10 .int, interfaces := #[7, 4], accessFlags := 1041 }

def heap : Heap := #[{ cls := 6, slots := #[.ref 3, .ref 1, .ref 2, .null, .null], vm := .statics 6 },
  { cls := 6, slots := #[.null, .int 1, .int 0], vm := .none },
  { cls := 6, slots := #[.null, .int 2, .int 0], vm := .none },
  { cls := 6, slots := #[.null, .int 0, .int 0], vm := .none }]
def classes : Array Class := #[k0, k1, k2, k3, k4, k5, k6, k7, k8, k9, k10, k11]
def interned : List (Array UInt16 × Addr) := []
def slotsUsed : Nat := 14
def theMethod : MethodId := ⟨1, 1⟩
def args0 : Array Value := #[.int 3]
def aboutOver (below : List Frame) : State where
  vm := { classes := classes, interned := interned.toArray }
  heap := heap
  slotsUsed := slotsUsed
  threads := #[{ frames := .invoking theMethod args0 :: below }]
def below0 : List Frame := [.native { method := ⟨0, 0⟩, args := #[] }]
def about1 : State := aboutOver below0
def p0 : Program := .bare "" "" ""
def e0 : Env := launch0.env 0 0 0
theorem w_frames : about1.frames = Frame.invoking theMethod args0 :: below0 := rfl
set_option maxRecDepth 65536 in
theorem w_args : argsFit about1.vm theMethod args0 = true := by decide +kernel
set_option maxRecDepth 65536 in
theorem w_heap : heapFits about1 = true := by decide +kernel
set_option maxRecDepth 65536 in
theorem w_runnable : about1.curStatus? = some .runnable := by decide +kernel
set_option maxRecDepth 65536 in
theorem w_alone : about1.alone = true := by decide +kernel
set_option maxRecDepth 65536 in
theorem w_named : about1.methodNamed? x = some theMethod := by decide +kernel
set_option maxRecDepth 65536 in
theorem w_hears : about1.hears theMethod below0 = true := by decide +kernel
set_option maxRecDepth 65536 in
theorem w_ripe : about1.ripe theMethod args0 below0 = true := by decide +kernel
theorem w_running : about1.status = .running := rfl
set_option maxRecDepth 65536 in
theorem w_room : about1.hasRoom e0.platform room_1 = true :=
  launch0.hasRoom_least _ room_1 (by decide +kernel) (by decide +kernel) (by decide +kernel) (by decide +kernel) (by decide +kernel) (by decide +kernel)
theorem allAtoms_all (ts : List Jvm.Cond) (a : Array Jvm.Value) (st : Jvm.State) : (allAtoms ts).before a st = ts.all (fun c => c.before a st) := by
  induction ts with
  | nil => rfl
  | cons c t ih =>
    show (Jvm.Cond.and c (allAtoms t)).before a st = _
    rw [Jvm.Cond.before_and, ih, List.all_cons]
def words1 : List Jvm.Cond := Jvm.Cond.code x code maxLocals ret :: tables_1
/-- a 'code' word, met by the world's own term for the bytes: nothing is compared byte by byte -/
theorem code_word {y : MethodName} {bytes : ByteArray} {mx : Nat} {rt : Option FieldType} {a : Array Value} {s : State} {m : MethodId} {meth : Method} {c : Code} (h1 : s.methodNamed? y = some m) (h2 : s.vm.method? m = some meth) (h3 : meth.code = some c) (h4 : c.code = bytes)
    (h5 : (c.maxLocals == mx && c.exceptionTable.isEmpty && decide (c.maxStack ≤ mostOperands) && decide (meth.sig.returnType = rt) && !meth.locks && decide (parseMethodDescriptor y.desc = some meth.sig)) = true) : (Jvm.Cond.code y bytes mx rt).before a s = true := by
  simp only [Bool.and_eq_true, beq_iff_eq, Bool.not_eq_true', decide_eq_true_eq] at h5
  obtain ⟨⟨⟨⟨⟨g1, g2⟩, g3⟩, g4⟩, g5⟩, g6⟩ := h5
  simp [Cond.before, Cond.holds, Cond.value, h1, h2, h3, h4, g1, g2, g3, g4, g5, g6]
def isCode : Jvm.Cond → Bool
  | .code _ _ _ _ => true
  | _ => false
theorem all_split {L : List Jvm.Cond} {P : Jvm.Cond → Bool} (h1 : L.all (fun c => isCode c || P c) = true) (h2 : ∀ c ∈ L.filter isCode, P c = true) : L.all P = true := by
  refine List.all_eq_true.mpr fun c hc => ?_
  have h := List.all_eq_true.mp h1 c hc
  rcases Bool.eq_false_or_eq_true (isCode c) with hi | hi
  · exact h2 c (List.mem_filter.mpr ⟨hc, hi⟩)
  · simpa [hi] using h
set_option maxRecDepth 65536 in
theorem w_c0 : (Jvm.Cond.code x code maxLocals ret).before args0 about1 = true := code_word (m := ⟨1, 1⟩) (meth := k1m1) (c := k1c1) (by decide +kernel) rfl rfl rfl (by decide +kernel)
set_option maxRecDepth 65536 in
theorem w_c1 : (Jvm.Cond.code ({ cls := "com/example/schema_dates/schemadates/XsdOrder", name := "ofSign", desc := "(I)Lcom/example/schema_dates/schemadates/XsdOrder;" } : Jvm.MethodName) prog_46_method_4_code (1 : Nat) (Option.some (Jvm.ClassFile.FieldType.object "com/example/schema_dates/schemadates/XsdOrder"))).before args0 about1 = true := code_word (m := ⟨6, 0⟩) (meth := k6m0) (c := k6c0) (by decide +kernel) rfl rfl rfl (by decide +kernel)
set_option maxRecDepth 65536 in
theorem w_c2 : (Jvm.Cond.code ({ cls := "com/example/schema_dates/schemadates/XsdOrder", name := "mirror", desc := "()Lcom/example/schema_dates/schemadates/XsdOrder;" } : Jvm.MethodName) prog_46_method_5_code (1 : Nat) (Option.some (Jvm.ClassFile.FieldType.object "com/example/schema_dates/schemadates/XsdOrder"))).before args0 about1 = true := code_word (m := ⟨6, 1⟩) (meth := k6m1) (c := k6c1) (by decide +kernel) rfl rfl rfl (by decide +kernel)
set_option maxRecDepth 65536 in
theorem w_c3 : (Jvm.Cond.code ({ cls := "java/lang/Enum", name := "ordinal", desc := "()I" } : Jvm.MethodName) jdk_37_method_2_code (1 : Nat) (Option.some Jvm.ClassFile.FieldType.int)).before args0 about1 = true := code_word (m := ⟨5, 0⟩) (meth := k5m0) (c := k5c0) (by decide +kernel) rfl rfl rfl (by decide +kernel)
def codes1 : List Jvm.Cond := [Jvm.Cond.code x code maxLocals ret, Jvm.Cond.code ({ cls := "com/example/schema_dates/schemadates/XsdOrder", name := "ofSign", desc := "(I)Lcom/example/schema_dates/schemadates/XsdOrder;" } : Jvm.MethodName) prog_46_method_4_code (1 : Nat) (Option.some (Jvm.ClassFile.FieldType.object "com/example/schema_dates/schemadates/XsdOrder")), Jvm.Cond.code ({ cls := "com/example/schema_dates/schemadates/XsdOrder", name := "mirror", desc := "()Lcom/example/schema_dates/schemadates/XsdOrder;" } : Jvm.MethodName) prog_46_method_5_code (1 : Nat) (Option.some (Jvm.ClassFile.FieldType.object "com/example/schema_dates/schemadates/XsdOrder")), Jvm.Cond.code ({ cls := "java/lang/Enum", name := "ordinal", desc := "()I" } : Jvm.MethodName) jdk_37_method_2_code (1 : Nat) (Option.some Jvm.ClassFile.FieldType.int)]
set_option maxRecDepth 65536 in
theorem codes_eq : words1.filter isCode = codes1 := rfl
theorem w_codes : ∀ c ∈ words1.filter isCode, c.before args0 about1 = true := by
  rw [codes_eq]
  intro c hc
  simp only [codes1, List.mem_cons, List.not_mem_nil, or_false] at hc
  rcases hc with rfl | rfl | rfl | rfl
  · exact w_c0
  · exact w_c1
  · exact w_c2
  · exact w_c3
set_option maxRecDepth 65536 in
theorem w_t1 : (words1.take 24).all (fun c => isCode c || c.before args0 about1) = true := by decide +kernel
set_option maxRecDepth 65536 in
theorem w_t2 : (words1.drop 24).all (fun c => isCode c || c.before args0 about1) = true := by decide +kernel
theorem w_tables : (allAtoms (Jvm.Cond.code x code maxLocals ret :: tables_1)).before args0 about1 = true := by
  rw [allAtoms_all]
  show words1.all (fun c => c.before args0 about1) = true
  refine all_split ?_ w_codes
  rw [← List.take_append_drop 24 words1, List.all_append, w_t1, w_t2]
  rfl
set_option maxRecDepth 65536 in
theorem w_case : (Jvm.Cond.and given_1 narrow_1).before args0 about1 = true := by decide +kernel
theorem w_applies : (headSpec (Jvm.Cond.code x code maxLocals ret :: tables_1) room_1).applies x e0.platform about1 = true :=
  (Spec.applies_iff w_frames).mpr ⟨w_running, w_runnable, w_alone, w_named, w_hears, w_ripe, w_room, w_tables⟩
theorem atStart : AtStart classFile x code maxLocals ret World_1 tables_1 room_1 Calls_1 rest_1 Pre_1 launch0 p0 e0 about1 theMethod args0 below0 :=
  ⟨lists_1, trivial, launch0.admits_env _ _ _, launch0.least_env, fairChoices_fair.cas, fairChoices_fair.clock, w_frames, w_args, w_heap, w_applies, trivial, trivial, w_case⟩
end start1
theorem witness_1 : WitnessClaimed_1 := ⟨start1.p0, start1.e0, start1.about1, start1.theMethod, start1.args0, start1.below0, start1.atStart⟩
end Jvm.Pilot.@@N@@
