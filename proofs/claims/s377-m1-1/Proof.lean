import JvmDerived
import JvmDerived.Pilot.@@N@@Statement
import JvmDerived.Pilot.@@N@@Code
set_option linter.unusedVariables false
set_option linter.unusedSimpArgs false
namespace Jvm.Pilot.@@N@@
open Jvm Jvm.ClassFile Sem Op Lib Jvm.Free Jvm.Stand Jvm.LawKit Jvm.RoadKit Bundle Jvm.Pilot.@@N@@.Jvm.D
/-- a body's contract by a walk whose goal is a predicate G: 'go' takes a step, 'fin' a return -/
theorem own_enter {l : Launch} {y : MethodName} {cd : ByteArray} {ml : Nat} {rt : Option FieldType} {ws : List Jvm.Cond} {R : Room} {Z : State} {h0 : Heap} {as : Array Value} {Q : Option Value → Heap → List Loc → Prop} (hpl : plainFor y = true)
    (body : ∀ (p : Program) (e : Env) (s : State) (m : MethodId) (below : List Frame) (meth : Method) (c : Code) (s₁ : State) (G : State → Prop),
      Stand p l e R s m as below meth c s₁ [] 0 0 → p.tables.exec = Jvm.exec → c.code = cd → c.maxLocals = ml → Z.Warmed39 s.vm → s.vm.findClass y.cls = some m.cls → meth.name = y.name → meth.sig.returnType = rt → s₁.heap = h0 →
      (∀ {a b : State}, (∀ t, Steps p.tables e below b t → Steps p.tables e below a t) → G b → G a) →
      (∀ {T : State} {locs : List Loc} {cells slots : Nat} {g : JFrame} (v : Option Value), Stand p l e R s m as below meth c T locs cells slots → (rt = none → v = none) →
        (∀ fs, (∀ (f : JFrame) (acts : List Action), f.method = m → f.locked = none → f.entered = [] → (doReturn e (T.setTop f) acts v).1 = T.setFrames fs) → Steps p.tables e below (T.setTop g) (T.setFrames fs)) →
        cells ≤ R.cells → slots ≤ R.slots → Q v T.heap locs → G (T.setTop g)) →
      G (s₁.setTop (entryFrame m as ml))) :
    MetFree l y (head1 (Jvm.Cond.code y cd ml rt :: ws) R) (fun a U => a = as ∧ Z.Warmed39 U.vm ∧ U.heap = h0) (fun _ _ _ _ _ => True) (fun _ U o U' => ∃ v L, o = .returned v ∧ Q v U'.heap L ∧ FrameEnd U o U' L R.cells R.slots) := by
  refine MetFree.of_bodySF hpl hisR ?_
  intro p e s m args below meth c s₁ Bd hml0 hP hK
  obtain ⟨rfl, hZ, hh⟩ := hP
  have hlk : meth.locks = false := Bd.notSynchronized
  have key := body p e s m below meth c s₁ (fun a => ∃ t, Steps p.tables e below a t ∧ ∃ o, t.status = .running ∧ Ended t below o ∧ ∃ v L, o = .returned v ∧ Q v t.heap L ∧ FrameEnd s o t L R.cells R.slots)
    (Stand.of_body Bd) Bd.exec Bd.bytes hml0 hZ (findClass_of_methodNamed Bd.named) (name_of_methodNamed Bd.named Bd.method).1 Bd.returns (by rw [← hh, Bd.state]; rfl)
    (fun h g => by obtain ⟨t, h1, h2⟩ := g; exact ⟨t, h t h1, h2⟩)
    (fun {T locs cells slots g} v X hv hs hc hsl hQ => by
      obtain ⟨fs, hr, hrun, hended, hW, hsame⟩ := X.leave (v := v) (fun h => hv (Bd.returns.symm.trans h)) hlk
      exact ⟨_, hs fs hr, _, hrun, hended, v, locs, rfl, hQ, ⟨_, rfl⟩, hW, hsame.mono hc hsl⟩)
  obtain ⟨t, h1, o, h2, h3, h4⟩ := key
  exact ⟨t, o, h1, h2, h3, h4⟩
theorem own_lrem {p : Program} {l : Launch} {e : Env} {R : Room} {s : State} {m : MethodId} {args : Array Value} {below : List Frame} {meth : Method} {c : Code} {T : State} {locs : List Loc} {cells slots : Nat} {g : JFrame} {target : State} (X : Stand p l e R s m args below meth c T locs cells slots) (hx : p.tables.exec = Jvm.exec) (hg : g.method = m) {x y : Int64} {rest : List Value} (hd : decode c.code g.pc = .ok (.lrem, 1)) (hs : g.stack = .long y :: .long x :: rest) (hy : y ≠ 0)
    (hr : Steps p.tables e below (T.setTop { g with pc := g.pc + 1, stack := .long (x % y) :: rest }) target) : Steps p.tables e below (T.setTop g) target := XS.lrem X.here hx hg hd hs hy (by rw [lrem_mod]; exact hr)
theorem own_irr (x : Int32) : ¬ x < x := Int32.lt_irrefl
theorem own_irrL (x : Int64) : ¬ x < x := Int64.lt_irrefl
theorem own_eq_int {a : Term} {k : Int32} {args : Array Value} {first s : State} {o : Option Outcome} {idx : List Nat} (h : (Jvm.Cond.eq a (.int k)).value args first o s idx = some true) : a.eval args first o idx s = some (.int k) := by
  obtain ⟨x, y, ha, hb, k1, k2⟩ := cmp_v (Or.inl h)
  cases (show some (Value.int k) = some y from hb)
  obtain ⟨z, rfl⟩ := k2
  have q : (Jvm.Cond.eq a (.int k)).value args first o s idx = some (decide (z = k)) := by simp [Cond.value, ha, Term.eval]
  rw [gotT q h] at ha
  exact ha
theorem own_eq_ref {a b : Term} {u : Addr} {args : Array Value} {first s : State} {o : Option Outcome} {idx : List Nat} (h : (Jvm.Cond.eq a b).value args first o s idx = some true) (hb : b.eval args first o idx s = some (.ref u)) : a.eval args first o idx s = some (.ref u) := by
  obtain ⟨x, y, ha, hb', k1, k2⟩ := cmp_v (Or.inl h)
  cases hb.symm.trans hb'
  have hr : x.isRef = true := by cases x <;> simp_all [Kin, Value.isRef]
  have q := gotT (eq_R ha hb hr rfl) h
  rw [q] at ha
  exact ha
theorem own_exa_ns {Z : State} {h : Heap} {a : Addr} {C : String} (F : Exa Z h a C) : ∀ cell : Cell, h[a]? = some cell → cell.vm.isStatics = false := fun cell hc => by
  obtain ⟨c, k, h1, -, -, h4, -⟩ := F
  cases hc.symm.trans h1
  exact h4
theorem own_sta_keep {Z : State} {h h' : Heap} {C n d : String} {v : Value} {ws : List Addr} (F : Sta Z h C n d v) (K : Keep h h' ws) (q : ∀ a ∈ ws, ∀ cell : Cell, h[a]? = some cell → cell.vm.isStatics = false) : Sta Z h' C n d v := by
  obtain ⟨cf, i, k, f, st, cell, h1, h2, h3, h4, h5, h6, h7⟩ := F
  exact ⟨cf, i, k, f, st, cell, h1, h2, h3, h4, K.2.1 _ _ h5 (fun z => by rw [q _ z _ h5] at h6; cases h6), h6, h7⟩
theorem own_len {s : State} {args : Array Value} {t : Term} {a : Addr} {cl : Cell} {ty : FieldType} {z : Int32} (ht : t.eval args s none [] s = some (.ref a)) (A : Arr s s.heap a cl ty) (h : (Term.length t).eval args s none [] s = some (.int z)) : cl.slots.size < 2 ^ 31 ∧ cl.slots.size.toInt32 = z := by
  have ha := Arr.fin (State.Warmed39.refl s).alike A
  by_cases hn : cl.slots.size < 2 ^ 31
  · have q := (len_f ht ha hn).symm.trans h
    exact ⟨hn, Value.int.inj (Option.some.inj q)⟩
  · simp [Term.eval, ht, ha] at h
    omega
theorem own_elem {s : State} {args : Array Value} {t : Term} {a : Addr} {cl : Cell} {ty : FieldType} {j : Int32} {v : Value} (ht : t.eval args s none [] s = some (.ref a)) (A : Arr s s.heap a cl ty) (h : (Term.elem t (.int j)).eval args s none [] s = some v) (hn : ¬ j < 0) : cl.slots[j.toNatClampNeg]? = some v :=
  (elem_f ht rfl (Arr.fin (State.Warmed39.refl s).alike A) hn).symm.trans h
theorem own_selp {Z s : State} {a0 args : Array Value} {y : MethodName} {n : Nat} (hZ : Z.Warmed39 s.vm) (wi : (Jvm.Cond.instantiable y.cls n).before a0 Z = true) (wp : (Jvm.Cond.privateMethod y).before a0 Z = true) (wm : (Jvm.Cond.instanceMethod y).before a0 Z = true) (hy : y.cls ≠ "java/lang/invoke/MethodHandle" ∧ y.cls ≠ "java/lang/invoke/VarHandle") : (Jvm.Cond.selects y.cls y y).before args s = true := by
  have wi' : (Jvm.Cond.instantiable y.cls n).before args s = true := mvT hZ wi
  obtain ⟨c, k, h1, h2, -, h4, -⟩ := Cond.instantiable_spec wi'
  exact selects_self_of_private h1 h2 (Bool.or_eq_false_iff.mp h4).1 (Cond.privateMethod_at (mvP hZ wp (args := args))) (mvT hZ wm) hy
def own_min (a b : Int32) : Int32 := if b < a then b else a
def own_max (a b : Int32) : Int32 := if a < b then b else a
theorem own_min_p {a b : Int32} (h : b < a) : own_min a b = b := if_pos h
theorem own_min_n {a b : Int32} (h : ¬ b < a) : own_min a b = a := if_neg h
theorem own_cnt1 (c : Int32) : (0 : Int32) < ((1 : Int32) + ((c.toUInt32 >>> ((1 : Int32) &&& 31).toUInt32).toInt32 &&& (3 : Int32))) := by
  have h1 := c_and ((c.toUInt32 >>> ((1 : Int32) &&& 31).toUInt32).toInt32) 3 (by decide)
  generalize ((c.toUInt32 >>> ((1 : Int32) &&& 31).toUInt32).toInt32 &&& (3 : Int32)) = z at *
  have h2 := c_iadd 1 z
  have h3 := rng32 ((1 : Int32) + z)
  have h4 : (1 : Int32).toInt = 1 := by decide
  have h5 : (0 : Int32).toInt = 0 := by decide
  have h6 : (3 : Int32).toInt = 3 := by decide
  rw [Int32.lt_iff_toInt_lt]
  omega
theorem own_cnt2 (c : Int32) : (0 : Int32) < (own_max (1 : Int32) c) := by
  have h4 : (1 : Int32).toInt = 1 := by decide
  have h5 : (0 : Int32).toInt = 0 := by decide
  unfold own_max
  split
  · rename_i h; rw [Int32.lt_iff_toInt_lt] at h ⊢; omega
  · decide
theorem own_lt {a b c : Int32} (h : a < b) (q : b.toInt ≤ c.toInt) : a < c := by
  rw [Int32.lt_iff_toInt_lt] at h ⊢; omega
theorem own_nlt {a b : Int32} (h : ¬ a < b) : b.toInt ≤ a.toInt := by
  rw [Int32.lt_iff_toInt_lt] at h; omega
theorem own_up {n : Int32} {k : Int32} (h : ¬ n < k) (j : Int32) (q : j.toInt < k.toInt) : j < n := by
  rw [Int32.lt_iff_toInt_lt] at h ⊢; omega
theorem own_dn {n : Int32} {k : Int32} (h : n < k) (j : Int32) (q : k.toInt ≤ j.toInt + 1) : ¬ j < n := by
  rw [Int32.lt_iff_toInt_lt] at h ⊢; omega
theorem own_wk {n : Int32} {k : Int32} (h : n < k) (j : Int32) (q : k.toInt ≤ j.toInt) : n < j := by
  rw [Int32.lt_iff_toInt_lt] at h ⊢; omega
theorem own_st {n : Int32} {k : Int32} (h : ¬ n < k) (j : Int32) (q : j.toInt ≤ k.toInt) : ¬ n < j := by
  rw [Int32.lt_iff_toInt_lt] at h ⊢; omega
theorem own_eq {n : Int32} {k j : Int32} (h : n < k) (h' : ¬ n < j) (q : k.toInt = j.toInt + 1) : j = n := by
  rw [Int32.lt_iff_toInt_lt] at h h'; exact Int32.toInt_inj.mp (by omega)
theorem own_0 {n : Int32} (h : (0 : Int32) < n) : ¬ n < (1 : Int32) := by
  have h4 : (1 : Int32).toInt = 1 := by decide
  have h5 : (0 : Int32).toInt = 0 := by decide
  rw [Int32.lt_iff_toInt_lt] at h ⊢; omega
theorem ef_9 (m : MethodId) (x0 : Int32) (x1 : Int32) : entryFrame m #[(.int x0), (.int x1)] 2 = mkF m 0 #[.val (.int x0), .val (.int x1)] [] := by first | (simp [entryFrame, mkF, argsToLocals, Value.category]; done) | rfl
theorem d9_0 : decode jdk_29_method_69_code 0 = .ok (.iload_n 0, 1) := by decide +kernel
theorem d9_1 : decode jdk_29_method_69_code 1 = .ok (.iload_n 1, 1) := by decide +kernel
theorem d9_2 : decode jdk_29_method_69_code 2 = .ok (.if_icmp .gt 7, 3) := by decide +kernel
theorem d9_9 : decode jdk_29_method_69_code 9 = .ok (.iload_n 1, 1) := by decide +kernel
theorem d9_10 : decode jdk_29_method_69_code 10 = .ok (.ireturn, 1) := by decide +kernel
theorem d9_5 : decode jdk_29_method_69_code 5 = .ok (.iload_n 0, 1) := by decide +kernel
theorem d9_6 : decode jdk_29_method_69_code 6 = .ok (.goto 4, 3) := by decide +kernel
def Q_rm9 (Z : State) (xa : Int32) (xb : Int32) (h0 : Heap) (n0 : Nat) (v : Option Value) (h : Heap) (L : List Loc) : Prop := v = some (.int (own_min xa xb)) ∧ Fr n0 L ∧ h = h0
set_option maxRecDepth 65536 in
set_option maxHeartbeats 40000000 in
theorem rm9 (l : Launch) (Z : State) (a0 : Array Value) (hw : ∀ d ∈ tables_1, d.before a0 Z = true) (ws : List Jvm.Cond) (xa : Int32) (xb : Int32) (h0 : Heap) (n0 : Nat) (Z0 : n0 ≤ h0.size) :
    MetFree l (⟨"java/lang/Math", "min", "(II)I"⟩ : MethodName) (head1 (Jvm.Cond.code (⟨"java/lang/Math", "min", "(II)I"⟩ : MethodName) jdk_29_method_69_code 2 (some .int) :: ws) ({ frames := 0, cells := 0, slots := 0, locals := 0 } : Room)) (fun a U => a = #[(.int xa), (.int xb)] ∧ Z.Warmed39 U.vm ∧ U.heap = h0) (fun _ _ _ _ _ => True) (fun _ U o U' => ∃ v L, o = .returned v ∧ Q_rm9 Z xa xb h0 n0 v U'.heap L ∧ FrameEnd U o U' L ({ frames := 0, cells := 0, slots := 0, locals := 0 } : Room).cells ({ frames := 0, cells := 0, slots := 0, locals := 0 } : Room).slots) := by
  refine own_enter (Q := Q_rm9 Z xa xb h0 n0) (Jvm.Free.JP.mathPlain rfl (by decide +kernel)) ?_
  intro p e s m below meth c s₁ G X0 hx hby hml hZ hown hnm hret e0 go fin
  replace hown : s.vm.findClass "java/lang/Math" = some m.cls := hown
  replace hnm : meth.name = "min" := hnm
  replace hml : c.maxLocals = 2 := hml
  rw [ef_9 m xa xb]
  have N0 := Fr.nil n0
  show G (s₁.setTop (mkF m 0 #[.val (.int xa), .val (.int xb)] []))
  refine go (fun tg kg => XS.iloadN X0.here hx rfl (hb hby d9_0) rfl kg) ?_
  show G (s₁.setTop (mkF m 1 #[.val (.int xa), .val (.int xb)] [(.int xa)]))
  refine go (fun tg kg => XS.iloadN X0.here hx rfl (hb hby d9_1) rfl kg) ?_
  show G (s₁.setTop (mkF m 2 #[.val (.int xa), .val (.int xb)] [(.int xb), (.int xa)]))
  by_cases hc1 : xb < xa
  · refine go (fun tg kg => XS.icmpYes X0.here hx rfl (pc0 := 2) (pc' := 9) rfl (hb hby d9_2) rfl (tlt hc1).2.2.1 (by decide) (by decide) kg) ?_
    show G (s₁.setTop (mkF m 9 #[.val (.int xa), .val (.int xb)] []))
    refine go (fun tg kg => XS.iloadN X0.here hx rfl (hb hby d9_9) rfl kg) ?_
    show G (s₁.setTop (mkF m 10 #[.val (.int xa), .val (.int xb)] [(.int xb)]))
    refine fin (some (.int xb)) X0 (fun h => absurd h (by decide)) (fun fs hr => retOut X0 hx hret rfl (Or.inl ⟨rfl, Or.inl rfl, _, rfl⟩) (hb hby d9_10) hr) (by decide) (by decide) ?_
    rw [e0]
    exact ⟨by simp only [own_min, if_pos hc1], N0, rfl⟩
  · refine go (fun tg kg => XS.icmpNo X0.here hx rfl (hb hby d9_2) rfl (flt hc1).2.2.1 kg) ?_
    show G (s₁.setTop (mkF m 5 #[.val (.int xa), .val (.int xb)] []))
    refine go (fun tg kg => XS.iloadN X0.here hx rfl (hb hby d9_5) rfl kg) ?_
    show G (s₁.setTop (mkF m 6 #[.val (.int xa), .val (.int xb)] [(.int xa)]))
    refine go (fun tg kg => XS.goto X0.here hx rfl (pc0 := 6) (pc' := 10) rfl (hb hby d9_6) (by decide) (by decide) kg) ?_
    show G (s₁.setTop (mkF m 10 #[.val (.int xa), .val (.int xb)] [(.int xa)]))
    refine fin (some (.int xa)) X0 (fun h => absurd h (by decide)) (fun fs hr => retOut X0 hx hret rfl (Or.inl ⟨rfl, Or.inl rfl, _, rfl⟩) (hb hby d9_10) hr) (by decide) (by decide) ?_
    rw [e0]
    exact ⟨by simp only [own_min, if_neg hc1], N0, rfl⟩
theorem ef_1 (m : MethodId) (x0 : Int32) (x1 : Int32) : entryFrame m #[(.int x0), (.int x1)] 2 = mkF m 0 #[.val (.int x0), .val (.int x1)] [] := by first | (simp [entryFrame, mkF, argsToLocals, Value.category]; done) | rfl
theorem d1_0 : decode jdk_29_method_65_code 0 = .ok (.iload_n 0, 1) := by decide +kernel
theorem d1_1 : decode jdk_29_method_65_code 1 = .ok (.iload_n 1, 1) := by decide +kernel
theorem d1_2 : decode jdk_29_method_65_code 2 = .ok (.if_icmp .lt 7, 3) := by decide +kernel
theorem d1_9 : decode jdk_29_method_65_code 9 = .ok (.iload_n 1, 1) := by decide +kernel
theorem d1_10 : decode jdk_29_method_65_code 10 = .ok (.ireturn, 1) := by decide +kernel
theorem d1_5 : decode jdk_29_method_65_code 5 = .ok (.iload_n 0, 1) := by decide +kernel
theorem d1_6 : decode jdk_29_method_65_code 6 = .ok (.goto 4, 3) := by decide +kernel
def Q_rm1 (Z : State) (xa : Int32) (xb : Int32) (h0 : Heap) (n0 : Nat) (v : Option Value) (h : Heap) (L : List Loc) : Prop := v = some (.int (own_max xa xb)) ∧ Fr n0 L ∧ h = h0
set_option maxRecDepth 65536 in
set_option maxHeartbeats 40000000 in
theorem rm1 (l : Launch) (Z : State) (a0 : Array Value) (hw : ∀ d ∈ tables_1, d.before a0 Z = true) (ws : List Jvm.Cond) (xa : Int32) (xb : Int32) (h0 : Heap) (n0 : Nat) (Z0 : n0 ≤ h0.size) :
    MetFree l (⟨"java/lang/Math", "max", "(II)I"⟩ : MethodName) (head1 (Jvm.Cond.code (⟨"java/lang/Math", "max", "(II)I"⟩ : MethodName) jdk_29_method_65_code 2 (some .int) :: ws) ({ frames := 0, cells := 0, slots := 0, locals := 0 } : Room)) (fun a U => a = #[(.int xa), (.int xb)] ∧ Z.Warmed39 U.vm ∧ U.heap = h0) (fun _ _ _ _ _ => True) (fun _ U o U' => ∃ v L, o = .returned v ∧ Q_rm1 Z xa xb h0 n0 v U'.heap L ∧ FrameEnd U o U' L ({ frames := 0, cells := 0, slots := 0, locals := 0 } : Room).cells ({ frames := 0, cells := 0, slots := 0, locals := 0 } : Room).slots) := by
  refine own_enter (Q := Q_rm1 Z xa xb h0 n0) (Jvm.Free.JP.mathPlain rfl (by decide +kernel)) ?_
  intro p e s m below meth c s₁ G X0 hx hby hml hZ hown hnm hret e0 go fin
  replace hown : s.vm.findClass "java/lang/Math" = some m.cls := hown
  replace hnm : meth.name = "max" := hnm
  replace hml : c.maxLocals = 2 := hml
  rw [ef_1 m xa xb]
  have N0 := Fr.nil n0
  show G (s₁.setTop (mkF m 0 #[.val (.int xa), .val (.int xb)] []))
  refine go (fun tg kg => XS.iloadN X0.here hx rfl (hb hby d1_0) rfl kg) ?_
  show G (s₁.setTop (mkF m 1 #[.val (.int xa), .val (.int xb)] [(.int xa)]))
  refine go (fun tg kg => XS.iloadN X0.here hx rfl (hb hby d1_1) rfl kg) ?_
  show G (s₁.setTop (mkF m 2 #[.val (.int xa), .val (.int xb)] [(.int xb), (.int xa)]))
  by_cases hc1 : xa < xb
  · refine go (fun tg kg => XS.icmpYes X0.here hx rfl (pc0 := 2) (pc' := 9) rfl (hb hby d1_2) rfl (tlt hc1).1 (by decide) (by decide) kg) ?_
    show G (s₁.setTop (mkF m 9 #[.val (.int xa), .val (.int xb)] []))
    refine go (fun tg kg => XS.iloadN X0.here hx rfl (hb hby d1_9) rfl kg) ?_
    show G (s₁.setTop (mkF m 10 #[.val (.int xa), .val (.int xb)] [(.int xb)]))
    refine fin (some (.int xb)) X0 (fun h => absurd h (by decide)) (fun fs hr => retOut X0 hx hret rfl (Or.inl ⟨rfl, Or.inl rfl, _, rfl⟩) (hb hby d1_10) hr) (by decide) (by decide) ?_
    rw [e0]
    exact ⟨by simp only [own_max, if_pos hc1], N0, rfl⟩
  · refine go (fun tg kg => XS.icmpNo X0.here hx rfl (hb hby d1_2) rfl (flt hc1).1 kg) ?_
    show G (s₁.setTop (mkF m 5 #[.val (.int xa), .val (.int xb)] []))
    refine go (fun tg kg => XS.iloadN X0.here hx rfl (hb hby d1_5) rfl kg) ?_
    show G (s₁.setTop (mkF m 6 #[.val (.int xa), .val (.int xb)] [(.int xa)]))
    refine go (fun tg kg => XS.goto X0.here hx rfl (pc0 := 6) (pc' := 10) rfl (hb hby d1_6) (by decide) (by decide) kg) ?_
    show G (s₁.setTop (mkF m 10 #[.val (.int xa), .val (.int xb)] [(.int xa)]))
    refine fin (some (.int xa)) X0 (fun h => absurd h (by decide)) (fun fs hr => retOut X0 hx hret rfl (Or.inl ⟨rfl, Or.inl rfl, _, rfl⟩) (hb hby d1_10) hr) (by decide) (by decide) ?_
    rw [e0]
    exact ⟨by simp only [own_max, if_neg hc1], N0, rfl⟩
theorem pn_java_util_AbstractCollection : plainName "java/util/AbstractCollection" = true := by first | (simp [plainName, overriddenIn]; done) | decide +kernel
theorem ef_5 (m : MethodId) (x0 : Addr) : entryFrame m #[(.ref x0)] 1 = mkF m 0 #[.val (.ref x0)] [] := by first | (simp [entryFrame, mkF, argsToLocals, Value.category]; done) | rfl
theorem d5_0 : decode jdk_22_method_1_code 0 = .ok (.aload_n 0, 1) := by decide +kernel
theorem d5_1 : decode jdk_22_method_1_code 1 = .ok (.invokespecial 1, 3) := by decide +kernel
theorem d5_4 : decode jdk_22_method_1_code 4 = .ok (.return_, 1) := by decide +kernel
def Q_rm5 (Z : State) (ob : Addr) (h0 : Heap) (n0 : Nat) (v : Option Value) (h : Heap) (L : List Loc) : Prop := v = none ∧ Fr n0 L ∧ h = h0
set_option maxRecDepth 65536 in
set_option maxHeartbeats 40000000 in
theorem rm5 (l : Launch) (Z : State) (a0 : Array Value) (hw : ∀ d ∈ tables_1, d.before a0 Z = true) (ws : List Jvm.Cond) (ob : Addr) (h0 : Heap) (n0 : Nat) (Z0 : n0 ≤ h0.size) :
    MetFree l (⟨"java/util/AbstractCollection", "<init>", "()V"⟩ : MethodName) (head1 (Jvm.Cond.code (⟨"java/util/AbstractCollection", "<init>", "()V"⟩ : MethodName) jdk_22_method_1_code 1 none :: ws) ({ frames := 1, cells := 0, slots := 0, locals := 12 } : Room)) (fun a U => a = #[(.ref ob)] ∧ Z.Warmed39 U.vm ∧ U.heap = h0) (fun _ _ _ _ _ => True) (fun _ U o U' => ∃ v L, o = .returned v ∧ Q_rm5 Z ob h0 n0 v U'.heap L ∧ FrameEnd U o U' L ({ frames := 1, cells := 0, slots := 0, locals := 12 } : Room).cells ({ frames := 1, cells := 0, slots := 0, locals := 12 } : Room).slots) := by
  refine own_enter (Q := Q_rm5 Z ob h0 n0) (plainFor_of_name pn_java_util_AbstractCollection) ?_
  intro p e s m below meth c s₁ G X0 hx hby hml hZ hown hnm hret e0 go fin
  replace hown : s.vm.findClass "java/util/AbstractCollection" = some m.cls := hown
  replace hnm : meth.name = "<init>" := hnm
  replace hml : c.maxLocals = 1 := hml
  rw [ef_5 m ob]
  have N0 := Fr.nil n0
  show G (s₁.setTop (mkF m 0 #[.val (.ref ob)] []))
  refine go (fun tg kg => XS.aloadN X0.here hx rfl (hb hby d5_0) rfl rfl kg) ?_
  show G (s₁.setTop (mkF m 1 #[.val (.ref ob)] [(.ref ob)]))
  obtain ⟨T1, X1, e1, st1⟩ := initO X0 hx hZ hown (hw _ (List.mem_of_getElem? (i := 25) rfl)) (hw _ (List.mem_of_getElem? (i := 11) rfl)) (hw _ (List.mem_of_getElem? (i := 12) rfl)) e0 (g := (mkF m 1 #[.val (.ref ob)] [(.ref ob)])) rfl (by rw [hml]; rfl) rfl (hb hby d5_1) (by decide) (W := 0) (by show 2 * 0 + _ ≤ _; exact Nat.le_of_eq rfl) (by decide)
  refine go st1 ?_
  show G (T1.setTop (mkF m 4 #[.val (.ref ob)] []))
  refine fin (none) X1 (fun h => rfl) (fun fs hr => X1.returnOut hx hret (hb hby d5_4) hr) (by decide) (by decide) ?_
  rw [e1]
  exact ⟨rfl, N0, rfl⟩
theorem pn_java_util_ArrayDeque : plainName "java/util/ArrayDeque" = true := by first | (simp [plainName, overriddenIn]; done) | decide +kernel
theorem ef_4 (m : MethodId) (x0 : Addr) : entryFrame m #[(.ref x0)] 1 = mkF m 0 #[.val (.ref x0)] [] := by first | (simp [entryFrame, mkF, argsToLocals, Value.category]; done) | rfl
theorem d4_0 : decode jdk_21_method_3_code 0 = .ok (.aload_n 0, 1) := by decide +kernel
theorem d4_1 : decode jdk_21_method_3_code 1 = .ok (.invokespecial 42, 3) := by decide +kernel
theorem pd___V : parseMethodDescriptor "()V" = some ⟨[], none⟩ := by decide +kernel
theorem d4_4 : decode jdk_21_method_3_code 4 = .ok (.aload_n 0, 1) := by decide +kernel
theorem d4_5 : decode jdk_21_method_3_code 5 = .ok (.bipush 17, 2) := by decide +kernel
theorem d4_7 : decode jdk_21_method_3_code 7 = .ok (.anewarray 47, 3) := by decide +kernel
theorem d4_10 : decode jdk_21_method_3_code 10 = .ok (.putfield 3, 3) := by decide +kernel
theorem d4_13 : decode jdk_21_method_3_code 13 = .ok (.return_, 1) := by decide +kernel
def Q_rm4 (Z : State) (ob : Addr) (h0 : Heap) (n0 : Nat) (v : Option Value) (h : Heap) (L : List Loc) : Prop := v = none ∧ Fr n0 L ∧ Keep h0 h [ob] ∧ Exa Z h ob "java/util/ArrayDeque"
set_option maxRecDepth 65536 in
set_option maxHeartbeats 40000000 in
theorem rm4 (l : Launch) (Z : State) (a0 : Array Value) (hw : ∀ d ∈ tables_1, d.before a0 Z = true) (ws : List Jvm.Cond) (ob : Addr) (h0 : Heap) (n0 : Nat) (Z0 : n0 ≤ h0.size) (Ex : Exa Z h0 ob "java/util/ArrayDeque") (g0 : n0 ≤ ob) (Fi_elements : Fld Z h0 ob "java/util/ArrayDeque" "elements" "[Ljava/lang/Object;" .null) :
    MetFree l (⟨"java/util/ArrayDeque", "<init>", "()V"⟩ : MethodName) (head1 (Jvm.Cond.code (⟨"java/util/ArrayDeque", "<init>", "()V"⟩ : MethodName) jdk_21_method_3_code 1 none :: ws) ({ frames := 2, cells := 1, slots := 17, locals := 24 } : Room)) (fun a U => a = #[(.ref ob)] ∧ Z.Warmed39 U.vm ∧ U.heap = h0) (fun _ _ _ _ _ => True) (fun _ U o U' => ∃ v L, o = .returned v ∧ Q_rm4 Z ob h0 n0 v U'.heap L ∧ FrameEnd U o U' L ({ frames := 2, cells := 1, slots := 17, locals := 24 } : Room).cells ({ frames := 2, cells := 1, slots := 17, locals := 24 } : Room).slots) := by
  refine own_enter (Q := Q_rm4 Z ob h0 n0) (plainFor_of_name pn_java_util_ArrayDeque) ?_
  intro p e s m below meth c s₁ G X0 hx hby hml hZ hown hnm hret e0 go fin
  replace hown : s.vm.findClass "java/util/ArrayDeque" = some m.cls := hown
  replace hnm : meth.name = "<init>" := hnm
  replace hml : c.maxLocals = 1 := hml
  rw [ef_4 m ob]
  have N0 := Fr.nil n0
  show G (s₁.setTop (mkF m 0 #[.val (.ref ob)] []))
  refine go (fun tg kg => XS.aloadN X0.here hx rfl (hb hby d4_0) rfl rfl kg) ?_
  show G (s₁.setTop (mkF m 1 #[.val (.ref ob)] [(.ref ob)]))
  obtain ⟨_, _, ⟨T1, L1, k1, n1⟩, -, X1, ⟨Lc1, hQ1, l1, y1, z1⟩, st1⟩ := X0.specialBack hx (y := (⟨"java/util/AbstractCollection", "<init>", "()V"⟩ : MethodName)) rfl hown (mvT hZ (hw _ (List.mem_of_getElem? (i := 19) rfl))) (mvT hZ (hw _ (List.mem_of_getElem? (i := 20) rfl))) (mvT hZ (hw _ (List.mem_of_getElem? (i := 24) rfl))) (by decide) (backOf (W := 0) (rm5 l Z a0 hw [] ob h0 n0 Z0 ) hZ (hw _ (List.mem_of_getElem? (i := 24) rfl)) (hw _ (List.mem_of_getElem? (i := 23) rfl)) (by decide) (by decide)) (g := (mkF m 1 #[.val (.ref ob)] [(.ref ob)])) rfl (by rw [hml]; rfl) (Steps.refl _) (a := ob) (argsL := []) (rest := []) (lenOf pd___V rfl) rfl (by show 2 * 0 + _ ≤ _; exact Nat.le_of_eq rfl) (hb hby d4_1) (fun _ _ => ⟨rfl, e0, (by decide : 0 + 0 ≤ _), (by decide : 0 + 0 ≤ _)⟩)
  dsimp only [Pt.U, Pt.locs, Pt.cells, Pt.slots] at X1 l1 y1 z1 st1 hQ1
  subst l1 y1 z1
  obtain ⟨rfl, Nq1, e1⟩ := hQ1
  have N1 := Fr.app N0 Nq1
  refine go (fun tg kg => st1.trans kg) ?_
  show G (T1.setTop (mkF m 4 #[.val (.ref ob)] []))
  refine go (fun tg kg => XS.aloadN X1.here hx rfl (hb hby d4_4) rfl rfl kg) ?_
  show G (T1.setTop (mkF m 5 #[.val (.ref ob)] [(.ref ob)]))
  refine go (fun tg kg => XS.bipush X1.here hx rfl (hb hby d4_5) kg) ?_
  show G (T1.setTop (mkF m 7 #[.val (.ref ob)] [(.int (17 : Int32)), (.ref ob)]))
  obtain ⟨T2, h2, k2, X2, e2, E2, A2, O2, st2⟩ := newR X1 hx hZ hown (hw _ (List.mem_of_getElem? (i := 26) rfl)) (hw _ (List.mem_of_getElem? (i := 27) rfl)) e1 (g := (mkF m 7 #[.val (.ref ob)] [(.int (17 : Int32)), (.ref ob)])) rfl (hb hby d4_7) rfl (by decide) (cap := 17) (by decide) (by decide) (by decide) (by decide)
  obtain ⟨b2, g2⟩ : ∃ z, z = h0.size := ⟨_, rfl⟩
  rw [← g2] at A2 st2
  refine go st2 ?_
  have V2 : Arv Z h2 b2 k2 (.object "java/lang/Object") (17 : Int32) [.null, .null, .null, .null, .null, .null, .null, .null, .null, .null, .null, .null, .null, .null, .null, .null, .null] .null := (Arv.new A2 (by decide)).pad (pad_rep [] .null 17)
  have ge_b2 : n0 ≤ b2 := Nat.le_trans Z0 (Nat.le_of_eq g2.symm)
  have sz_b2 : h0.size ≤ b2 := Nat.le_trans (Keep.refl h0 [ob]).1 (Nat.le_of_eq g2.symm)
  have K2 : Keep h0 h2 [ob] := (Keep.refl h0 [ob]).ext E2
  have Z2 := Nat.le_trans Z0 E2.1
  show G (T2.setTop (mkF m 10 #[.val (.ref ob)] [(.ref b2), (.ref ob)]))
  have Fa3 := (Ex.ext E2)
  have Fa4 := (Fi_elements.ext E2)
  obtain ⟨T5, h5, X5, e5, W5, st5⟩ := putF X2 hx hZ hown (host := "") (Or.inl (hw _ (List.mem_of_getElem? (i := 28) rfl))) Via.refl e2 Fa4 Fa3 (Or.inl (hw _ (List.mem_of_getElem? (i := 29) rfl))) (hw _ (List.mem_of_getElem? (i := 14) rfl)) (ty := (.array (.object "java/lang/Object"))) (by decide) rfl rfl (g := (mkF m 10 #[.val (.ref ob)] [(.ref b2), (.ref ob)])) rfl rfl (hb hby d4_10)
  refine go st5 ?_
  have Fw5 : Fld Z h5 ob "java/util/ArrayDeque" "elements" "[Ljava/lang/Object;" (.ref b2) := Fa4.same W5
  have N5 := Fr.snoc X5 N1 g0
  have K5 : Keep h0 h5 [ob] := K2.wr W5 (Or.inl (List.mem_of_getElem? (i := 0) rfl))
  have Z5 := Nat.le_trans Z2 (Keep.of_wr W5).1
  show G (T5.setTop (mkF m 13 #[.val (.ref ob)] []))
  refine fin (none) X5 (fun h => rfl) (fun fs hr => X5.returnOut hx hret (hb hby d4_13) hr) (by decide) (by decide) ?_
  rw [e5]
  have Fa6 := (Fa3.wr W5)
  exact ⟨rfl, N5, K5, Fa6⟩
theorem pn_com_example_drumline_drumline_engine_Slots : plainName "com/example/drumline/drumline/engine/Slots" = true := by first | (simp [plainName, overriddenIn]; done) | decide +kernel
theorem ef_2 (m : MethodId) (x0 : Addr) (x1 : Int32) : entryFrame m #[(.ref x0), (.int x1)] 2 = mkF m 0 #[.val (.ref x0), .val (.int x1)] [] := by first | (simp [entryFrame, mkF, argsToLocals, Value.category]; done) | rfl
theorem d2_0 : decode prog_18_method_1_code 0 = .ok (.aload_n 0, 1) := by decide +kernel
theorem d2_1 : decode prog_18_method_1_code 1 = .ok (.invokespecial 1, 3) := by decide +kernel
theorem d2_4 : decode prog_18_method_1_code 4 = .ok (.aload_n 0, 1) := by decide +kernel
theorem d2_5 : decode prog_18_method_1_code 5 = .ok (.new 7, 3) := by decide +kernel
theorem d2_8 : decode prog_18_method_1_code 8 = .ok (.dup, 1) := by decide +kernel
theorem d2_9 : decode prog_18_method_1_code 9 = .ok (.invokespecial 9, 3) := by decide +kernel
theorem d2_12 : decode prog_18_method_1_code 12 = .ok (.putfield 10, 3) := by decide +kernel
theorem d2_15 : decode prog_18_method_1_code 15 = .ok (.aload_n 0, 1) := by decide +kernel
theorem d2_16 : decode prog_18_method_1_code 16 = .ok (.iload_n 1, 1) := by decide +kernel
theorem d2_17 : decode prog_18_method_1_code 17 = .ok (.putfield 16, 3) := by decide +kernel
theorem d2_20 : decode prog_18_method_1_code 20 = .ok (.return_, 1) := by decide +kernel
def Q_rm2 (Z : State) (ob : Addr) (xa : Int32) (h0 : Heap) (n0 : Nat) (v : Option Value) (h : Heap) (L : List Loc) : Prop := v = none ∧ Fr n0 L ∧ Keep h0 h [ob] ∧ Exa Z h ob "com/example/drumline/drumline/engine/Slots" ∧ Fld Z h ob "com/example/drumline/drumline/engine/Slots" "count" "I" (.int xa) ∧ Fld Z h ob "com/example/drumline/drumline/engine/Slots" "taken" "I" (.int (0 : Int32))
set_option maxRecDepth 65536 in
set_option maxHeartbeats 40000000 in
theorem rm2 (l : Launch) (Z : State) (a0 : Array Value) (hw : ∀ d ∈ tables_1, d.before a0 Z = true) (ws : List Jvm.Cond) (ob : Addr) (xa : Int32) (h0 : Heap) (n0 : Nat) (Z0 : n0 ≤ h0.size) (Ex : Exa Z h0 ob "com/example/drumline/drumline/engine/Slots") (g0 : n0 ≤ ob) (Fi_held : Fld Z h0 ob "com/example/drumline/drumline/engine/Slots" "held" "Ljava/util/Deque;" .null) (Fi_count : Fld Z h0 ob "com/example/drumline/drumline/engine/Slots" "count" "I" (.int (0 : Int32))) (Fi_taken : Fld Z h0 ob "com/example/drumline/drumline/engine/Slots" "taken" "I" (.int (0 : Int32))) :
    MetFree l (⟨"com/example/drumline/drumline/engine/Slots", "<init>", "(I)V"⟩ : MethodName) (head1 (Jvm.Cond.code (⟨"com/example/drumline/drumline/engine/Slots", "<init>", "(I)V"⟩ : MethodName) prog_18_method_1_code 2 none :: ws) ({ frames := 3, cells := 2, slots := 20, locals := 38 } : Room)) (fun a U => a = #[(.ref ob), (.int xa)] ∧ Z.Warmed39 U.vm ∧ U.heap = h0) (fun _ _ _ _ _ => True) (fun _ U o U' => ∃ v L, o = .returned v ∧ Q_rm2 Z ob xa h0 n0 v U'.heap L ∧ FrameEnd U o U' L ({ frames := 3, cells := 2, slots := 20, locals := 38 } : Room).cells ({ frames := 3, cells := 2, slots := 20, locals := 38 } : Room).slots) := by
  refine own_enter (Q := Q_rm2 Z ob xa h0 n0) (plainFor_of_name pn_com_example_drumline_drumline_engine_Slots) ?_
  intro p e s m below meth c s₁ G X0 hx hby hml hZ hown hnm hret e0 go fin
  replace hown : s.vm.findClass "com/example/drumline/drumline/engine/Slots" = some m.cls := hown
  replace hnm : meth.name = "<init>" := hnm
  replace hml : c.maxLocals = 2 := hml
  rw [ef_2 m ob xa]
  have N0 := Fr.nil n0
  show G (s₁.setTop (mkF m 0 #[.val (.ref ob), .val (.int xa)] []))
  refine go (fun tg kg => XS.aloadN X0.here hx rfl (hb hby d2_0) rfl rfl kg) ?_
  show G (s₁.setTop (mkF m 1 #[.val (.ref ob), .val (.int xa)] [(.ref ob)]))
  obtain ⟨T1, X1, e1, st1⟩ := initO X0 hx hZ hown (hw _ (List.mem_of_getElem? (i := 10) rfl)) (hw _ (List.mem_of_getElem? (i := 11) rfl)) (hw _ (List.mem_of_getElem? (i := 12) rfl)) e0 (g := (mkF m 1 #[.val (.ref ob), .val (.int xa)] [(.ref ob)])) rfl (by rw [hml]; rfl) rfl (hb hby d2_1) (by decide) (W := 0) (by show 2 * 0 + _ ≤ _; exact Nat.le_of_eq rfl) (by decide)
  refine go st1 ?_
  show G (T1.setTop (mkF m 4 #[.val (.ref ob), .val (.int xa)] []))
  refine go (fun tg kg => XS.aloadN X1.here hx rfl (hb hby d2_4) rfl rfl kg) ?_
  show G (T1.setTop (mkF m 5 #[.val (.ref ob), .val (.int xa)] [(.ref ob)]))
  obtain ⟨T2, h2, X2, e2, E2, A2, D2, -, st2⟩ := newO X1 hx hZ hown (hw _ (List.mem_of_getElem? (i := 13) rfl)) (hw _ (List.mem_of_getElem? (i := 14) rfl)) (hw _ (List.mem_of_getElem? (i := 15) rfl)) e1 (g := (mkF m 5 #[.val (.ref ob), .val (.int xa)] [(.ref ob)])) rfl (hb hby d2_5) (by decide) (by decide)
  obtain ⟨b2, g2⟩ : ∃ z, z = h0.size := ⟨_, rfl⟩
  rw [← g2] at A2 D2 st2
  refine go st2 ?_
  have ge_b2 : n0 ≤ b2 := Nat.le_trans Z0 (Nat.le_of_eq g2.symm)
  have sz_b2 : h0.size ≤ b2 := Nat.le_trans (Keep.refl h0 [ob]).1 (Nat.le_of_eq g2.symm)
  have K2 : Keep h0 h2 [ob] := (Keep.refl h0 [ob]).ext E2
  have Z2 := Nat.le_trans Z0 E2.1
  have F2_elements : Fld Z h2 b2 "java/util/ArrayDeque" "elements" "[Ljava/lang/Object;" .null := D2 (Or.inl (hw _ (List.mem_of_getElem? (i := 29) rfl))) (ty := (.array (.object "java/lang/Object"))) (by decide)
  show G (T2.setTop (mkF m 8 #[.val (.ref ob), .val (.int xa)] [(.ref b2), (.ref ob)]))
  refine go (fun tg kg => XS.dup X2.here hx rfl (hb hby d2_8) rfl rfl kg) ?_
  show G (T2.setTop (mkF m 9 #[.val (.ref ob), .val (.int xa)] [(.ref b2), (.ref b2), (.ref ob)]))
  obtain ⟨_, _, ⟨T3, L3, k3, n3⟩, -, X3, ⟨Lc3, hQ3, l3, y3, z3⟩, st3⟩ := X2.specialBack hx (y := (⟨"java/util/ArrayDeque", "<init>", "()V"⟩ : MethodName)) rfl hown (mvT hZ (hw _ (List.mem_of_getElem? (i := 16) rfl))) (mvT hZ (hw _ (List.mem_of_getElem? (i := 17) rfl))) (mvT hZ (hw _ (List.mem_of_getElem? (i := 18) rfl))) (by decide) (backOf (W := 2) (rm4 l Z a0 hw [] b2 h2 n0 Z2 A2 ge_b2 F2_elements) hZ (hw _ (List.mem_of_getElem? (i := 18) rfl)) (hw _ (List.mem_of_getElem? (i := 15) rfl)) (by decide) (by decide)) (g := (mkF m 9 #[.val (.ref ob), .val (.int xa)] [(.ref b2), (.ref b2), (.ref ob)])) rfl (by rw [hml]; rfl) (Steps.refl _) (a := b2) (argsL := []) (rest := [(.ref b2), (.ref ob)]) (lenOf pd___V rfl) rfl (by show 2 * 0 + _ ≤ _; exact Nat.le_of_eq rfl) (hb hby d2_9) (fun _ _ => ⟨rfl, e2, (by decide : 1 + 1 ≤ _), (by decide : 3 + 17 ≤ _)⟩)
  dsimp only [Pt.U, Pt.locs, Pt.cells, Pt.slots] at X3 l3 y3 z3 st3 hQ3
  subst l3 y3 z3
  obtain ⟨rfl, Nq3, K3, Ge3⟩ := hQ3
  have Kk3 : Keep h0 T3.heap [ob] := K2.trans K3 (allS (Or.inr sz_b2) all0)
  have Z3 := Nat.le_trans Z2 K3.1
  have N3 := Fr.app N0 Nq3
  refine go (fun tg kg => st3.trans kg) ?_
  show G (T3.setTop (mkF m 12 #[.val (.ref ob), .val (.int xa)] [(.ref b2), (.ref ob)]))
  have Fa4 := ((Ex.ext E2).keep K3)
  have Fa5 := ((Fi_held.ext E2).keep K3 (ninS (Nat.ne_of_lt (Nat.lt_of_lt_of_le Fi_held.lt (Nat.le_of_eq g2.symm))) nin0))
  obtain ⟨T6, h6, X6, e6, W6, st6⟩ := putF X3 hx hZ hown (host := "") (Or.inl (hw _ (List.mem_of_getElem? (i := 30) rfl))) Via.refl rfl Fa5 Fa4 (Or.inr ⟨(hw _ (List.mem_of_getElem? (i := 31) rfl)), rfl, hnm⟩) (hw _ (List.mem_of_getElem? (i := 5) rfl)) (ty := (.object "java/util/Deque")) (by decide) rfl rfl (g := (mkF m 12 #[.val (.ref ob), .val (.int xa)] [(.ref b2), (.ref ob)])) rfl rfl (hb hby d2_12)
  refine go st6 ?_
  have Fw6 : Fld Z h6 ob "com/example/drumline/drumline/engine/Slots" "held" "Ljava/util/Deque;" (.ref b2) := Fa5.same W6
  have N6 := Fr.snoc X6 N3 g0
  have K6 : Keep h0 h6 [ob] := Kk3.wr W6 (Or.inl (List.mem_of_getElem? (i := 0) rfl))
  have Z6 := Nat.le_trans Z3 (Keep.of_wr W6).1
  show G (T6.setTop (mkF m 15 #[.val (.ref ob), .val (.int xa)] []))
  refine go (fun tg kg => XS.aloadN X6.here hx rfl (hb hby d2_15) rfl rfl kg) ?_
  show G (T6.setTop (mkF m 16 #[.val (.ref ob), .val (.int xa)] [(.ref ob)]))
  refine go (fun tg kg => XS.iloadN X6.here hx rfl (hb hby d2_16) rfl kg) ?_
  show G (T6.setTop (mkF m 17 #[.val (.ref ob), .val (.int xa)] [(.int xa), (.ref ob)]))
  have Fa7 := (Fa4.wr W6)
  have Fa8 := (((Fi_count.ext E2).keep K3 (ninS (Nat.ne_of_lt (Nat.lt_of_lt_of_le Fi_count.lt (Nat.le_of_eq g2.symm))) nin0)).other W6 (Or.inr (slot_ne (Or.inr (hw _ (List.mem_of_getElem? (i := 33) rfl))) (Or.inr (hw _ (List.mem_of_getElem? (i := 31) rfl))) (by decide) (t := .int) (t' := (.object "java/util/Deque")) (by decide) (by decide))))
  obtain ⟨T9, h9, X9, e9, W9, st9⟩ := putF X6 hx hZ hown (host := "") (Or.inl (hw _ (List.mem_of_getElem? (i := 32) rfl))) Via.refl e6 Fa8 Fa7 (Or.inr ⟨(hw _ (List.mem_of_getElem? (i := 33) rfl)), rfl, hnm⟩) (hw _ (List.mem_of_getElem? (i := 5) rfl)) (ty := .int) (by decide) rfl rfl (g := (mkF m 17 #[.val (.ref ob), .val (.int xa)] [(.int xa), (.ref ob)])) rfl rfl (hb hby d2_17)
  refine go st9 ?_
  have Fw9 : Fld Z h9 ob "com/example/drumline/drumline/engine/Slots" "count" "I" (.int xa) := Fa8.same W9
  have N9 := Fr.snoc X9 N6 g0
  have K9 : Keep h0 h9 [ob] := K6.wr W9 (Or.inl (List.mem_of_getElem? (i := 0) rfl))
  have Z9 := Nat.le_trans Z6 (Keep.of_wr W9).1
  show G (T9.setTop (mkF m 20 #[.val (.ref ob), .val (.int xa)] []))
  refine fin (none) X9 (fun h => rfl) (fun fs hr => X9.returnOut hx hret (hb hby d2_20) hr) (by decide) (by decide) ?_
  rw [e9]
  have Fa10 := (Fa7.wr W9)
  have Fa11 := ((((Fi_taken.ext E2).keep K3 (ninS (Nat.ne_of_lt (Nat.lt_of_lt_of_le Fi_taken.lt (Nat.le_of_eq g2.symm))) nin0)).other W6 (Or.inr (slot_ne (Or.inl (hw _ (List.mem_of_getElem? (i := 40) rfl))) (Or.inr (hw _ (List.mem_of_getElem? (i := 31) rfl))) (by decide) (t := .int) (t' := (.object "java/util/Deque")) (by decide) (by decide)))).other W9 (Or.inr (slot_ne (Or.inl (hw _ (List.mem_of_getElem? (i := 40) rfl))) (Or.inr (hw _ (List.mem_of_getElem? (i := 33) rfl))) (by decide) (t := .int) (t' := .int) (by decide) (by decide))))
  exact ⟨rfl, N9, K9, Fa10, Fw9, Fa11⟩
theorem ef_6 (m : MethodId) (x0 : Addr) : entryFrame m #[(.ref x0)] 2 = mkF m 0 #[.val (.ref x0), .unset] [] := by first | (simp [entryFrame, mkF, argsToLocals, Value.category]; done) | rfl
theorem d6_0 : decode prog_18_method_2_code 0 = .ok (.aload_n 0, 1) := by decide +kernel
theorem d6_1 : decode prog_18_method_2_code 1 = .ok (.getfield 20, 3) := by decide +kernel
theorem d6_4 : decode prog_18_method_2_code 4 = .ok (.aload_n 0, 1) := by decide +kernel
theorem d6_5 : decode prog_18_method_2_code 5 = .ok (.getfield 16, 3) := by decide +kernel
theorem d6_8 : decode prog_18_method_2_code 8 = .ok (.if_icmp .ge 7, 3) := by decide +kernel
theorem d6_11 : decode prog_18_method_2_code 11 = .ok (.iconst 1, 1) := by decide +kernel
theorem d6_12 : decode prog_18_method_2_code 12 = .ok (.goto 4, 3) := by decide +kernel
theorem d6_16 : decode prog_18_method_2_code 16 = .ok (.istore_n 1, 1) := by decide +kernel
theorem d6_17 : decode prog_18_method_2_code 17 = .ok (.iload_n 1, 1) := by decide +kernel
theorem d6_18 : decode prog_18_method_2_code 18 = .ok (.ifCond .eq 13, 3) := by decide +kernel
theorem d6_21 : decode prog_18_method_2_code 21 = .ok (.aload_n 0, 1) := by decide +kernel
theorem d6_22 : decode prog_18_method_2_code 22 = .ok (.dup, 1) := by decide +kernel
theorem d6_23 : decode prog_18_method_2_code 23 = .ok (.getfield 20, 3) := by decide +kernel
theorem d6_26 : decode prog_18_method_2_code 26 = .ok (.iconst 1, 1) := by decide +kernel
theorem d6_27 : decode prog_18_method_2_code 27 = .ok (.iadd, 1) := by decide +kernel
theorem d6_28 : decode prog_18_method_2_code 28 = .ok (.putfield 20, 3) := by decide +kernel
theorem d6_31 : decode prog_18_method_2_code 31 = .ok (.iload_n 1, 1) := by decide +kernel
theorem d6_32 : decode prog_18_method_2_code 32 = .ok (.ireturn, 1) := by decide +kernel
def Q_rm6_1 (Z : State) (ob : Addr) (yc : Int32) (yt : Int32) (h0 : Heap) (n0 : Nat) (v : Option Value) (h : Heap) (L : List Loc) : Prop := v = some (.int 1) ∧ Fr n0 L ∧ Keep h0 h [ob] ∧ Exa Z h ob "com/example/drumline/drumline/engine/Slots" ∧ Fld Z h ob "com/example/drumline/drumline/engine/Slots" "count" "I" (.int yc) ∧ Fld Z h ob "com/example/drumline/drumline/engine/Slots" "taken" "I" (.int (yt + (1 : Int32)))
set_option maxRecDepth 65536 in
set_option maxHeartbeats 40000000 in
theorem rm6_1 (l : Launch) (Z : State) (a0 : Array Value) (hw : ∀ d ∈ tables_1, d.before a0 Z = true) (ws : List Jvm.Cond) (ob : Addr) (yc : Int32) (yt : Int32) (h0 : Heap) (n0 : Nat) (Z0 : n0 ≤ h0.size) (Ex : Exa Z h0 ob "com/example/drumline/drumline/engine/Slots") (g0 : n0 ≤ ob) (Fi_count : Fld Z h0 ob "com/example/drumline/drumline/engine/Slots" "count" "I" (.int yc)) (Fi_taken : Fld Z h0 ob "com/example/drumline/drumline/engine/Slots" "taken" "I" (.int yt)) (hc : yt < yc) :
    MetFree l (⟨"com/example/drumline/drumline/engine/Slots", "take", "()Z"⟩ : MethodName) (head1 (Jvm.Cond.code (⟨"com/example/drumline/drumline/engine/Slots", "take", "()Z"⟩ : MethodName) prog_18_method_2_code 2 (some .boolean) :: ws) ({ frames := 0, cells := 0, slots := 0, locals := 0 } : Room)) (fun a U => a = #[(.ref ob)] ∧ Z.Warmed39 U.vm ∧ U.heap = h0) (fun _ _ _ _ _ => True) (fun _ U o U' => ∃ v L, o = .returned v ∧ Q_rm6_1 Z ob yc yt h0 n0 v U'.heap L ∧ FrameEnd U o U' L ({ frames := 0, cells := 0, slots := 0, locals := 0 } : Room).cells ({ frames := 0, cells := 0, slots := 0, locals := 0 } : Room).slots) := by
  refine own_enter (Q := Q_rm6_1 Z ob yc yt h0 n0) (plainFor_of_name pn_com_example_drumline_drumline_engine_Slots) ?_
  intro p e s m below meth c s₁ G X0 hx hby hml hZ hown hnm hret e0 go fin
  replace hown : s.vm.findClass "com/example/drumline/drumline/engine/Slots" = some m.cls := hown
  replace hnm : meth.name = "take" := hnm
  replace hml : c.maxLocals = 2 := hml
  rw [ef_6 m ob]
  have N0 := Fr.nil n0
  show G (s₁.setTop (mkF m 0 #[.val (.ref ob), .unset] []))
  refine go (fun tg kg => XS.aloadN X0.here hx rfl (hb hby d6_0) rfl rfl kg) ?_
  show G (s₁.setTop (mkF m 1 #[.val (.ref ob), .unset] [(.ref ob)]))
  obtain ⟨T1, X1, e1, st1⟩ := getF X0 hx hZ hown (host := "") (Or.inl (hw _ (List.mem_of_getElem? (i := 39) rfl))) Via.refl e0 Fi_taken (g := (mkF m 1 #[.val (.ref ob), .unset] [(.ref ob)])) rfl rfl (hb hby d6_1)
  refine go st1 ?_
  show G (T1.setTop (mkF m 4 #[.val (.ref ob), .unset] [(.int yt)]))
  refine go (fun tg kg => XS.aloadN X1.here hx rfl (hb hby d6_4) rfl rfl kg) ?_
  show G (T1.setTop (mkF m 5 #[.val (.ref ob), .unset] [(.ref ob), (.int yt)]))
  obtain ⟨T2, X2, e2, st2⟩ := getF X1 hx hZ hown (host := "") (Or.inl (hw _ (List.mem_of_getElem? (i := 32) rfl))) Via.refl e1 Fi_count (g := (mkF m 5 #[.val (.ref ob), .unset] [(.ref ob), (.int yt)])) rfl rfl (hb hby d6_5)
  refine go st2 ?_
  show G (T2.setTop (mkF m 8 #[.val (.ref ob), .unset] [(.int yc), (.int yt)]))
  refine go (fun tg kg => XS.icmpNo X2.here hx rfl (hb hby d6_8) rfl (tlt hc).2.1 kg) ?_
  show G (T2.setTop (mkF m 11 #[.val (.ref ob), .unset] []))
  refine go (fun tg kg => XS.iconst X2.here hx rfl (hb hby d6_11) kg) ?_
  show G (T2.setTop (mkF m 12 #[.val (.ref ob), .unset] [(.int (1 : Int32))]))
  refine go (fun tg kg => XS.goto X2.here hx rfl (pc0 := 12) (pc' := 16) rfl (hb hby d6_12) (by decide) (by decide) kg) ?_
  show G (T2.setTop (mkF m 16 #[.val (.ref ob), .unset] [(.int (1 : Int32))]))
  refine go (fun tg kg => XS.istoreN X2.here hx rfl (hb hby d6_16) rfl (l' := #[.val (.ref ob), .val (.int (1 : Int32))]) rfl kg) ?_
  show G (T2.setTop (mkF m 17 #[.val (.ref ob), .val (.int (1 : Int32))] []))
  refine go (fun tg kg => XS.iloadN X2.here hx rfl (hb hby d6_17) rfl kg) ?_
  show G (T2.setTop (mkF m 18 #[.val (.ref ob), .val (.int (1 : Int32))] [(.int (1 : Int32))]))
  refine go (fun tg kg => XS.ifNo X2.here hx rfl (hb hby d6_18) rfl ((if0 _ _).trans (feq (by decide)).1) kg) ?_
  show G (T2.setTop (mkF m 21 #[.val (.ref ob), .val (.int (1 : Int32))] []))
  refine go (fun tg kg => XS.aloadN X2.here hx rfl (hb hby d6_21) rfl rfl kg) ?_
  show G (T2.setTop (mkF m 22 #[.val (.ref ob), .val (.int (1 : Int32))] [(.ref ob)]))
  refine go (fun tg kg => XS.dup X2.here hx rfl (hb hby d6_22) rfl rfl kg) ?_
  show G (T2.setTop (mkF m 23 #[.val (.ref ob), .val (.int (1 : Int32))] [(.ref ob), (.ref ob)]))
  obtain ⟨T3, X3, e3, st3⟩ := getF X2 hx hZ hown (host := "") (Or.inl (hw _ (List.mem_of_getElem? (i := 39) rfl))) Via.refl e2 Fi_taken (g := (mkF m 23 #[.val (.ref ob), .val (.int (1 : Int32))] [(.ref ob), (.ref ob)])) rfl rfl (hb hby d6_23)
  refine go st3 ?_
  show G (T3.setTop (mkF m 26 #[.val (.ref ob), .val (.int (1 : Int32))] [(.int yt), (.ref ob)]))
  refine go (fun tg kg => XS.iconst X3.here hx rfl (hb hby d6_26) kg) ?_
  show G (T3.setTop (mkF m 27 #[.val (.ref ob), .val (.int (1 : Int32))] [(.int (1 : Int32)), (.int yt), (.ref ob)]))
  refine go (fun tg kg => XS.iadd X3.here hx rfl (hb hby d6_27) rfl kg) ?_
  show G (T3.setTop (mkF m 28 #[.val (.ref ob), .val (.int (1 : Int32))] [(.int (yt + (1 : Int32))), (.ref ob)]))
  obtain ⟨T4, h4, X4, e4, W4, st4⟩ := putF X3 hx hZ hown (host := "") (Or.inl (hw _ (List.mem_of_getElem? (i := 39) rfl))) Via.refl e3 Fi_taken Ex (Or.inl (hw _ (List.mem_of_getElem? (i := 40) rfl))) (hw _ (List.mem_of_getElem? (i := 5) rfl)) (ty := .int) (by decide) rfl rfl (g := (mkF m 28 #[.val (.ref ob), .val (.int (1 : Int32))] [(.int (yt + (1 : Int32))), (.ref ob)])) rfl rfl (hb hby d6_28)
  refine go st4 ?_
  have Fw4 : Fld Z h4 ob "com/example/drumline/drumline/engine/Slots" "taken" "I" (.int (yt + (1 : Int32))) := Fi_taken.same W4
  have N4 := Fr.snoc X4 N0 g0
  have K4 : Keep h0 h4 [ob] := (Keep.refl h0 [ob]).wr W4 (Or.inl (List.mem_of_getElem? (i := 0) rfl))
  have Z4 := Nat.le_trans Z0 (Keep.of_wr W4).1
  show G (T4.setTop (mkF m 31 #[.val (.ref ob), .val (.int (1 : Int32))] []))
  refine go (fun tg kg => XS.iloadN X4.here hx rfl (hb hby d6_31) rfl kg) ?_
  show G (T4.setTop (mkF m 32 #[.val (.ref ob), .val (.int (1 : Int32))] [(.int (1 : Int32))]))
  refine fin (some (.int (1 : Int32))) X4 (fun h => absurd h (by decide)) (fun fs hr => retN X4 hx (t := .boolean) hret (by simp) (hb hby d6_32) hr) (by decide) (by decide) ?_
  rw [e4]
  have Fa5 := (Ex.wr W4)
  have Fa6 := (Fi_count.other W4 (Or.inr (slot_ne (Or.inr (hw _ (List.mem_of_getElem? (i := 33) rfl))) (Or.inl (hw _ (List.mem_of_getElem? (i := 40) rfl))) (by decide) (t := .int) (t' := .int) (by decide) (by decide))))
  exact ⟨rfl, N4, K4, Fa5, Fa6, Fw4⟩
theorem d6_15 : decode prog_18_method_2_code 15 = .ok (.iconst 0, 1) := by decide +kernel
def Q_rm6_0 (Z : State) (ob : Addr) (yc : Int32) (yt : Int32) (h0 : Heap) (n0 : Nat) (v : Option Value) (h : Heap) (L : List Loc) : Prop := v = some (.int 0) ∧ Fr n0 L ∧ Keep h0 h [ob] ∧ Exa Z h ob "com/example/drumline/drumline/engine/Slots" ∧ Fld Z h ob "com/example/drumline/drumline/engine/Slots" "count" "I" (.int yc) ∧ Fld Z h ob "com/example/drumline/drumline/engine/Slots" "taken" "I" (.int yt)
set_option maxRecDepth 65536 in
set_option maxHeartbeats 40000000 in
theorem rm6_0 (l : Launch) (Z : State) (a0 : Array Value) (hw : ∀ d ∈ tables_1, d.before a0 Z = true) (ws : List Jvm.Cond) (ob : Addr) (yc : Int32) (yt : Int32) (h0 : Heap) (n0 : Nat) (Z0 : n0 ≤ h0.size) (Ex : Exa Z h0 ob "com/example/drumline/drumline/engine/Slots") (g0 : n0 ≤ ob) (Fi_count : Fld Z h0 ob "com/example/drumline/drumline/engine/Slots" "count" "I" (.int yc)) (Fi_taken : Fld Z h0 ob "com/example/drumline/drumline/engine/Slots" "taken" "I" (.int yt)) (hc : ¬ yt < yc) :
    MetFree l (⟨"com/example/drumline/drumline/engine/Slots", "take", "()Z"⟩ : MethodName) (head1 (Jvm.Cond.code (⟨"com/example/drumline/drumline/engine/Slots", "take", "()Z"⟩ : MethodName) prog_18_method_2_code 2 (some .boolean) :: ws) ({ frames := 0, cells := 0, slots := 0, locals := 0 } : Room)) (fun a U => a = #[(.ref ob)] ∧ Z.Warmed39 U.vm ∧ U.heap = h0) (fun _ _ _ _ _ => True) (fun _ U o U' => ∃ v L, o = .returned v ∧ Q_rm6_0 Z ob yc yt h0 n0 v U'.heap L ∧ FrameEnd U o U' L ({ frames := 0, cells := 0, slots := 0, locals := 0 } : Room).cells ({ frames := 0, cells := 0, slots := 0, locals := 0 } : Room).slots) := by
  refine own_enter (Q := Q_rm6_0 Z ob yc yt h0 n0) (plainFor_of_name pn_com_example_drumline_drumline_engine_Slots) ?_
  intro p e s m below meth c s₁ G X0 hx hby hml hZ hown hnm hret e0 go fin
  replace hown : s.vm.findClass "com/example/drumline/drumline/engine/Slots" = some m.cls := hown
  replace hnm : meth.name = "take" := hnm
  replace hml : c.maxLocals = 2 := hml
  rw [ef_6 m ob]
  have N0 := Fr.nil n0
  show G (s₁.setTop (mkF m 0 #[.val (.ref ob), .unset] []))
  refine go (fun tg kg => XS.aloadN X0.here hx rfl (hb hby d6_0) rfl rfl kg) ?_
  show G (s₁.setTop (mkF m 1 #[.val (.ref ob), .unset] [(.ref ob)]))
  obtain ⟨T1, X1, e1, st1⟩ := getF X0 hx hZ hown (host := "") (Or.inl (hw _ (List.mem_of_getElem? (i := 39) rfl))) Via.refl e0 Fi_taken (g := (mkF m 1 #[.val (.ref ob), .unset] [(.ref ob)])) rfl rfl (hb hby d6_1)
  refine go st1 ?_
  show G (T1.setTop (mkF m 4 #[.val (.ref ob), .unset] [(.int yt)]))
  refine go (fun tg kg => XS.aloadN X1.here hx rfl (hb hby d6_4) rfl rfl kg) ?_
  show G (T1.setTop (mkF m 5 #[.val (.ref ob), .unset] [(.ref ob), (.int yt)]))
  obtain ⟨T2, X2, e2, st2⟩ := getF X1 hx hZ hown (host := "") (Or.inl (hw _ (List.mem_of_getElem? (i := 32) rfl))) Via.refl e1 Fi_count (g := (mkF m 5 #[.val (.ref ob), .unset] [(.ref ob), (.int yt)])) rfl rfl (hb hby d6_5)
  refine go st2 ?_
  show G (T2.setTop (mkF m 8 #[.val (.ref ob), .unset] [(.int yc), (.int yt)]))
  refine go (fun tg kg => XS.icmpYes X2.here hx rfl (pc0 := 8) (pc' := 15) rfl (hb hby d6_8) rfl (flt hc).2.1 (by decide) (by decide) kg) ?_
  show G (T2.setTop (mkF m 15 #[.val (.ref ob), .unset] []))
  refine go (fun tg kg => XS.iconst X2.here hx rfl (hb hby d6_15) kg) ?_
  show G (T2.setTop (mkF m 16 #[.val (.ref ob), .unset] [(.int (0 : Int32))]))
  refine go (fun tg kg => XS.istoreN X2.here hx rfl (hb hby d6_16) rfl (l' := #[.val (.ref ob), .val (.int (0 : Int32))]) rfl kg) ?_
  show G (T2.setTop (mkF m 17 #[.val (.ref ob), .val (.int (0 : Int32))] []))
  refine go (fun tg kg => XS.iloadN X2.here hx rfl (hb hby d6_17) rfl kg) ?_
  show G (T2.setTop (mkF m 18 #[.val (.ref ob), .val (.int (0 : Int32))] [(.int (0 : Int32))]))
  refine go (fun tg kg => XS.ifYes X2.here hx rfl (pc0 := 18) (pc' := 31) rfl (hb hby d6_18) rfl ((if0 _ _).trans (teq (by decide)).1) (by decide) (by decide) kg) ?_
  show G (T2.setTop (mkF m 31 #[.val (.ref ob), .val (.int (0 : Int32))] []))
  refine go (fun tg kg => XS.iloadN X2.here hx rfl (hb hby d6_31) rfl kg) ?_
  show G (T2.setTop (mkF m 32 #[.val (.ref ob), .val (.int (0 : Int32))] [(.int (0 : Int32))]))
  refine fin (some (.int (0 : Int32))) X2 (fun h => absurd h (by decide)) (fun fs hr => retN X2 hx (t := .boolean) hret (by simp) (hb hby d6_32) hr) (by decide) (by decide) ?_
  rw [e2]
  exact ⟨rfl, N0, (Keep.refl h0 [ob]), Ex, Fi_count, Fi_taken⟩
theorem ef_7 (m : MethodId) (x0 : Addr) : entryFrame m #[(.ref x0)] 1 = mkF m 0 #[.val (.ref x0)] [] := by first | (simp [entryFrame, mkF, argsToLocals, Value.category]; done) | rfl
theorem d7_0 : decode prog_18_method_4_code 0 = .ok (.aload_n 0, 1) := by decide +kernel
theorem d7_1 : decode prog_18_method_4_code 1 = .ok (.getfield 20, 3) := by decide +kernel
theorem d7_4 : decode prog_18_method_4_code 4 = .ok (.ireturn, 1) := by decide +kernel
def Q_rm7 (Z : State) (ob : Addr) (yt : Int32) (h0 : Heap) (n0 : Nat) (v : Option Value) (h : Heap) (L : List Loc) : Prop := v = some (.int yt) ∧ Fr n0 L ∧ h = h0
set_option maxRecDepth 65536 in
set_option maxHeartbeats 40000000 in
theorem rm7 (l : Launch) (Z : State) (a0 : Array Value) (hw : ∀ d ∈ tables_1, d.before a0 Z = true) (ws : List Jvm.Cond) (ob : Addr) (yt : Int32) (h0 : Heap) (n0 : Nat) (Z0 : n0 ≤ h0.size) (Fi : Fld Z h0 ob "com/example/drumline/drumline/engine/Slots" "taken" "I" (.int yt)) :
    MetFree l (⟨"com/example/drumline/drumline/engine/Slots", "taken", "()I"⟩ : MethodName) (head1 (Jvm.Cond.code (⟨"com/example/drumline/drumline/engine/Slots", "taken", "()I"⟩ : MethodName) prog_18_method_4_code 1 (some .int) :: ws) ({ frames := 0, cells := 0, slots := 0, locals := 0 } : Room)) (fun a U => a = #[(.ref ob)] ∧ Z.Warmed39 U.vm ∧ U.heap = h0) (fun _ _ _ _ _ => True) (fun _ U o U' => ∃ v L, o = .returned v ∧ Q_rm7 Z ob yt h0 n0 v U'.heap L ∧ FrameEnd U o U' L ({ frames := 0, cells := 0, slots := 0, locals := 0 } : Room).cells ({ frames := 0, cells := 0, slots := 0, locals := 0 } : Room).slots) := by
  refine own_enter (Q := Q_rm7 Z ob yt h0 n0) (plainFor_of_name pn_com_example_drumline_drumline_engine_Slots) ?_
  intro p e s m below meth c s₁ G X0 hx hby hml hZ hown hnm hret e0 go fin
  replace hown : s.vm.findClass "com/example/drumline/drumline/engine/Slots" = some m.cls := hown
  replace hnm : meth.name = "taken" := hnm
  replace hml : c.maxLocals = 1 := hml
  rw [ef_7 m ob]
  have N0 := Fr.nil n0
  show G (s₁.setTop (mkF m 0 #[.val (.ref ob)] []))
  refine go (fun tg kg => XS.aloadN X0.here hx rfl (hb hby d7_0) rfl rfl kg) ?_
  show G (s₁.setTop (mkF m 1 #[.val (.ref ob)] [(.ref ob)]))
  obtain ⟨T1, X1, e1, st1⟩ := getF X0 hx hZ hown (host := "") (Or.inl (hw _ (List.mem_of_getElem? (i := 39) rfl))) Via.refl e0 Fi (g := (mkF m 1 #[.val (.ref ob)] [(.ref ob)])) rfl rfl (hb hby d7_1)
  refine go st1 ?_
  show G (T1.setTop (mkF m 4 #[.val (.ref ob)] [(.int yt)]))
  refine fin (some (.int yt)) X1 (fun h => absurd h (by decide)) (fun fs hr => retOut X1 hx hret rfl (Or.inl ⟨rfl, Or.inl rfl, _, rfl⟩) (hb hby d7_4) hr) (by decide) (by decide) ?_
  rw [e1]
  exact ⟨rfl, N0, rfl⟩
theorem ef_8 (m : MethodId) (x0 : Addr) : entryFrame m #[(.ref x0)] 1 = mkF m 0 #[.val (.ref x0)] [] := by first | (simp [entryFrame, mkF, argsToLocals, Value.category]; done) | rfl
theorem d8_0 : decode prog_18_method_7_code 0 = .ok (.aload_n 0, 1) := by decide +kernel
theorem d8_1 : decode prog_18_method_7_code 1 = .ok (.dup, 1) := by decide +kernel
theorem d8_2 : decode prog_18_method_7_code 2 = .ok (.getfield 20, 3) := by decide +kernel
theorem d8_5 : decode prog_18_method_7_code 5 = .ok (.iconst 1, 1) := by decide +kernel
theorem d8_6 : decode prog_18_method_7_code 6 = .ok (.isub, 1) := by decide +kernel
theorem d8_7 : decode prog_18_method_7_code 7 = .ok (.putfield 20, 3) := by decide +kernel
theorem d8_10 : decode prog_18_method_7_code 10 = .ok (.return_, 1) := by decide +kernel
def Q_rm8 (Z : State) (ob : Addr) (yc : Int32) (yt : Int32) (h0 : Heap) (n0 : Nat) (v : Option Value) (h : Heap) (L : List Loc) : Prop := v = none ∧ Fr n0 L ∧ Keep h0 h [ob] ∧ Exa Z h ob "com/example/drumline/drumline/engine/Slots" ∧ Fld Z h ob "com/example/drumline/drumline/engine/Slots" "count" "I" (.int yc) ∧ Fld Z h ob "com/example/drumline/drumline/engine/Slots" "taken" "I" (.int (yt - (1 : Int32)))
set_option maxRecDepth 65536 in
set_option maxHeartbeats 40000000 in
theorem rm8 (l : Launch) (Z : State) (a0 : Array Value) (hw : ∀ d ∈ tables_1, d.before a0 Z = true) (ws : List Jvm.Cond) (ob : Addr) (yc : Int32) (yt : Int32) (h0 : Heap) (n0 : Nat) (Z0 : n0 ≤ h0.size) (Ex : Exa Z h0 ob "com/example/drumline/drumline/engine/Slots") (g0 : n0 ≤ ob) (Fi_count : Fld Z h0 ob "com/example/drumline/drumline/engine/Slots" "count" "I" (.int yc)) (Fi_taken : Fld Z h0 ob "com/example/drumline/drumline/engine/Slots" "taken" "I" (.int yt)) :
    MetFree l (⟨"com/example/drumline/drumline/engine/Slots", "free", "()V"⟩ : MethodName) (head1 (Jvm.Cond.code (⟨"com/example/drumline/drumline/engine/Slots", "free", "()V"⟩ : MethodName) prog_18_method_7_code 1 none :: ws) ({ frames := 0, cells := 0, slots := 0, locals := 0 } : Room)) (fun a U => a = #[(.ref ob)] ∧ Z.Warmed39 U.vm ∧ U.heap = h0) (fun _ _ _ _ _ => True) (fun _ U o U' => ∃ v L, o = .returned v ∧ Q_rm8 Z ob yc yt h0 n0 v U'.heap L ∧ FrameEnd U o U' L ({ frames := 0, cells := 0, slots := 0, locals := 0 } : Room).cells ({ frames := 0, cells := 0, slots := 0, locals := 0 } : Room).slots) := by
  refine own_enter (Q := Q_rm8 Z ob yc yt h0 n0) (plainFor_of_name pn_com_example_drumline_drumline_engine_Slots) ?_
  intro p e s m below meth c s₁ G X0 hx hby hml hZ hown hnm hret e0 go fin
  replace hown : s.vm.findClass "com/example/drumline/drumline/engine/Slots" = some m.cls := hown
  replace hnm : meth.name = "free" := hnm
  replace hml : c.maxLocals = 1 := hml
  rw [ef_8 m ob]
  have N0 := Fr.nil n0
  show G (s₁.setTop (mkF m 0 #[.val (.ref ob)] []))
  refine go (fun tg kg => XS.aloadN X0.here hx rfl (hb hby d8_0) rfl rfl kg) ?_
  show G (s₁.setTop (mkF m 1 #[.val (.ref ob)] [(.ref ob)]))
  refine go (fun tg kg => XS.dup X0.here hx rfl (hb hby d8_1) rfl rfl kg) ?_
  show G (s₁.setTop (mkF m 2 #[.val (.ref ob)] [(.ref ob), (.ref ob)]))
  obtain ⟨T1, X1, e1, st1⟩ := getF X0 hx hZ hown (host := "") (Or.inl (hw _ (List.mem_of_getElem? (i := 39) rfl))) Via.refl e0 Fi_taken (g := (mkF m 2 #[.val (.ref ob)] [(.ref ob), (.ref ob)])) rfl rfl (hb hby d8_2)
  refine go st1 ?_
  show G (T1.setTop (mkF m 5 #[.val (.ref ob)] [(.int yt), (.ref ob)]))
  refine go (fun tg kg => XS.iconst X1.here hx rfl (hb hby d8_5) kg) ?_
  show G (T1.setTop (mkF m 6 #[.val (.ref ob)] [(.int (1 : Int32)), (.int yt), (.ref ob)]))
  refine go (fun tg kg => XS.isub X1.here hx rfl (hb hby d8_6) rfl kg) ?_
  show G (T1.setTop (mkF m 7 #[.val (.ref ob)] [(.int (yt - (1 : Int32))), (.ref ob)]))
  obtain ⟨T2, h2, X2, e2, W2, st2⟩ := putF X1 hx hZ hown (host := "") (Or.inl (hw _ (List.mem_of_getElem? (i := 39) rfl))) Via.refl e1 Fi_taken Ex (Or.inl (hw _ (List.mem_of_getElem? (i := 40) rfl))) (hw _ (List.mem_of_getElem? (i := 5) rfl)) (ty := .int) (by decide) rfl rfl (g := (mkF m 7 #[.val (.ref ob)] [(.int (yt - (1 : Int32))), (.ref ob)])) rfl rfl (hb hby d8_7)
  refine go st2 ?_
  have Fw2 : Fld Z h2 ob "com/example/drumline/drumline/engine/Slots" "taken" "I" (.int (yt - (1 : Int32))) := Fi_taken.same W2
  have N2 := Fr.snoc X2 N0 g0
  have K2 : Keep h0 h2 [ob] := (Keep.refl h0 [ob]).wr W2 (Or.inl (List.mem_of_getElem? (i := 0) rfl))
  have Z2 := Nat.le_trans Z0 (Keep.of_wr W2).1
  show G (T2.setTop (mkF m 10 #[.val (.ref ob)] []))
  refine fin (none) X2 (fun h => rfl) (fun fs hr => X2.returnOut hx hret (hb hby d8_10) hr) (by decide) (by decide) ?_
  rw [e2]
  have Fa3 := (Ex.wr W2)
  have Fa4 := (Fi_count.other W2 (Or.inr (slot_ne (Or.inr (hw _ (List.mem_of_getElem? (i := 33) rfl))) (Or.inl (hw _ (List.mem_of_getElem? (i := 40) rfl))) (by decide) (t := .int) (t' := .int) (by decide) (by decide))))
  exact ⟨rfl, N2, K2, Fa3, Fa4, Fw2⟩
theorem pn_com_example_drumline_drumline_engine_SlotsTakePinLaw : plainName "com/example/drumline/drumline/engine/SlotsTakePinLaw" = true := by first | (simp [plainName, overriddenIn]; done) | decide +kernel
theorem ef_0 (m : MethodId) (x0 : Int32) : entryFrame m #[(.int x0)] maxLocals = mkF m 0 #[.val (.int x0), .unset, .unset, .unset, .unset, .unset, .unset, .unset, .unset, .unset, .unset] [] := by first | (simp [entryFrame, mkF, argsToLocals, Value.category, maxLocals]; done) | rfl
theorem pd__II_I : parseMethodDescriptor "(II)I" = some ⟨[.int, .int], some .int⟩ := by decide +kernel
theorem pd__I_V : parseMethodDescriptor "(I)V" = some ⟨[.int], none⟩ := by decide +kernel
theorem pd___Z : parseMethodDescriptor "()Z" = some ⟨[], some .boolean⟩ := by decide +kernel
theorem pd___I : parseMethodDescriptor "()I" = some ⟨[], some .int⟩ := by decide +kernel
def Q_rm0 (Z : State) (x0 : Int32) (h0 : Heap) (n0 : Nat) (v : Option Value) (h : Heap) (L : List Loc) : Prop := v = some (.int 1) ∧ Fr n0 L
set_option maxRecDepth 65536 in
set_option maxHeartbeats 40000000 in
theorem rm0 (l : Launch) (Z : State) (a0 : Array Value) (hw : ∀ d ∈ tables_1, d.before a0 Z = true) (ws : List Jvm.Cond) (x0 : Int32) (h0 : Heap) (n0 : Nat) (Z0 : n0 ≤ h0.size) :
    MetFree l x (head1 (Jvm.Cond.code x code maxLocals ret :: ws) room_1) (fun a U => a = #[(.int x0)] ∧ Z.Warmed39 U.vm ∧ U.heap = h0) (fun _ _ _ _ _ => True) (fun _ U o U' => ∃ v L, o = .returned v ∧ Q_rm0 Z x0 h0 n0 v U'.heap L ∧ FrameEnd U o U' L room_1.cells room_1.slots) := by
  refine own_enter (Q := Q_rm0 Z x0 h0 n0) (plainFor_of_name pn_com_example_drumline_drumline_engine_SlotsTakePinLaw) ?_
  intro p e s m below meth c s₁ G X0 hx hby hml hZ hown hnm hret e0 go fin
  replace hown : s.vm.findClass "com/example/drumline/drumline/engine/SlotsTakePinLaw" = some m.cls := hown
  replace hnm : meth.name = "law" := hnm
  replace hml : c.maxLocals = 11 := hml
  rw [ef_0 m x0]
  have N0 := Fr.nil n0
  show G (s₁.setTop (mkF m 0 #[.val (.int x0), .unset, .unset, .unset, .unset, .unset, .unset, .unset, .unset, .unset, .unset] []))
  refine go (fun tg kg => XS.iloadN X0.here hx rfl (hb hby at_0) rfl kg) ?_
  show G (s₁.setTop (mkF m 1 #[.val (.int x0), .unset, .unset, .unset, .unset, .unset, .unset, .unset, .unset, .unset, .unset] [(.int x0)]))
  refine go (fun tg kg => XS.iconst X0.here hx rfl (hb hby at_1) kg) ?_
  show G (s₁.setTop (mkF m 2 #[.val (.int x0), .unset, .unset, .unset, .unset, .unset, .unset, .unset, .unset, .unset, .unset] [(.int (1 : Int32)), (.int x0)]))
  refine go (fun tg kg => XS.iand X0.here hx rfl (hb hby at_2) rfl kg) ?_
  show G (s₁.setTop (mkF m 3 #[.val (.int x0), .unset, .unset, .unset, .unset, .unset, .unset, .unset, .unset, .unset, .unset] [(.int (x0 &&& (1 : Int32)))]))
  by_cases hc1 : (x0 &&& (1 : Int32)) = (0 : Int32)
  · refine go (fun tg kg => XS.ifYes X0.here hx rfl (pc0 := 3) (pc' := 16) rfl (hb hby at_3) rfl ((if0 _ _).trans (teq hc1).1) (by decide) (by decide) kg) ?_
    show G (s₁.setTop (mkF m 16 #[.val (.int x0), .unset, .unset, .unset, .unset, .unset, .unset, .unset, .unset, .unset, .unset] []))
    refine go (fun tg kg => XS.iconst X0.here hx rfl (hb hby at_16) kg) ?_
    show G (s₁.setTop (mkF m 17 #[.val (.int x0), .unset, .unset, .unset, .unset, .unset, .unset, .unset, .unset, .unset, .unset] [(.int (1 : Int32))]))
    refine go (fun tg kg => XS.iloadN X0.here hx rfl (hb hby at_17) rfl kg) ?_
    show G (s₁.setTop (mkF m 18 #[.val (.int x0), .unset, .unset, .unset, .unset, .unset, .unset, .unset, .unset, .unset, .unset] [(.int x0), (.int (1 : Int32))]))
    obtain ⟨_, _, ⟨T2, L2, k2, n2⟩, -, X2, ⟨Lc2, hQ2, l2, y2, z2⟩, st2⟩ := Jvm.LawKit.callS X0 hx (y := (⟨"java/lang/Math", "max", "(II)I"⟩ : MethodName)) hown (mvT hZ (hw _ (List.mem_of_getElem? (i := 0) rfl))) (mvT hZ (hw _ (List.mem_of_getElem? (i := 1) rfl))) (mvT hZ (hw _ (List.mem_of_getElem? (i := 2) rfl))) (mvT hZ (hw _ (List.mem_of_getElem? (i := 3) rfl))) (by decide) (backOf (W := 0) (rm1 l Z a0 hw [] (1 : Int32) x0 h0 n0 Z0 ) hZ (hw _ (List.mem_of_getElem? (i := 3) rfl)) (hw _ (List.mem_of_getElem? (i := 2) rfl)) (by decide) (by decide)) (g := (mkF m 18 #[.val (.int x0), .unset, .unset, .unset, .unset, .unset, .unset, .unset, .unset, .unset, .unset] [(.int x0), (.int (1 : Int32))])) rfl (by rw [hml]; rfl) (argsL := [(.int (1 : Int32)), (.int x0)]) (rest := []) (lenOf pd__II_I rfl) rfl (by show 2 * 0 + _ ≤ _; exact Nat.le_of_eq rfl) (hb hby at_18) (fun _ _ => ⟨rfl, e0, (by decide : 0 + 0 ≤ _), (by decide : 0 + 0 ≤ _)⟩)
    dsimp only [Pt.U, Pt.locs, Pt.cells, Pt.slots] at X2 l2 y2 z2 st2 hQ2
    subst l2 y2 z2
    obtain ⟨rfl, Nq2, e2⟩ := hQ2
    have N2 := Fr.app N0 Nq2
    refine go st2 ?_
    show G (T2.setTop (mkF m 21 #[.val (.int x0), .unset, .unset, .unset, .unset, .unset, .unset, .unset, .unset, .unset, .unset] [(.int (own_max (1 : Int32) x0))]))
    refine go (fun tg kg => XS.istoreN X2.here hx rfl (hb hby at_21) rfl (l' := #[.val (.int x0), .val (.int (own_max (1 : Int32) x0)), .unset, .unset, .unset, .unset, .unset, .unset, .unset, .unset, .unset]) rfl kg) ?_
    show G (T2.setTop (mkF m 22 #[.val (.int x0), .val (.int (own_max (1 : Int32) x0)), .unset, .unset, .unset, .unset, .unset, .unset, .unset, .unset, .unset] []))
    obtain ⟨cnt, hcnt⟩ : ∃ z : Int32, z = (own_max (1 : Int32) x0) := ⟨_, rfl⟩
    have h0c : (0 : Int32) < cnt := hcnt ▸ own_cnt2 _
    rw [← hcnt]
    show G (T2.setTop (mkF m 22 #[.val (.int x0), .val (.int cnt), .unset, .unset, .unset, .unset, .unset, .unset, .unset, .unset, .unset] []))
    have hp1 := own_0 h0c
    by_cases hk1 : cnt < (2 : Int32)
    · skip
      obtain ⟨T3, h3, X3, e3, E3, A3, D3, -, st3⟩ := newO X2 hx hZ hown (hw _ (List.mem_of_getElem? (i := 4) rfl)) (hw _ (List.mem_of_getElem? (i := 5) rfl)) (hw _ (List.mem_of_getElem? (i := 6) rfl)) e2 (g := (mkF m 22 #[.val (.int x0), .val (.int cnt), .unset, .unset, .unset, .unset, .unset, .unset, .unset, .unset, .unset] [])) rfl (hb hby at_22) (by decide) (by decide)
      obtain ⟨b3, g3⟩ : ∃ z, z = h0.size := ⟨_, rfl⟩
      rw [← g3] at A3 D3 st3
      refine go st3 ?_
      have ge_b3 : n0 ≤ b3 := Nat.le_trans Z0 (Nat.le_of_eq g3.symm)
      have Z3 := Nat.le_trans Z0 E3.1
      have F3_held : Fld Z h3 b3 "com/example/drumline/drumline/engine/Slots" "held" "Ljava/util/Deque;" .null := D3 (Or.inr (hw _ (List.mem_of_getElem? (i := 31) rfl))) (ty := (.object "java/util/Deque")) (by decide)
      have F3_count : Fld Z h3 b3 "com/example/drumline/drumline/engine/Slots" "count" "I" (.int (0 : Int32)) := D3 (Or.inr (hw _ (List.mem_of_getElem? (i := 33) rfl))) (ty := .int) (by decide)
      have F3_taken : Fld Z h3 b3 "com/example/drumline/drumline/engine/Slots" "taken" "I" (.int (0 : Int32)) := D3 (Or.inl (hw _ (List.mem_of_getElem? (i := 40) rfl))) (ty := .int) (by decide)
      show G (T3.setTop (mkF m 25 #[.val (.int x0), .val (.int cnt), .unset, .unset, .unset, .unset, .unset, .unset, .unset, .unset, .unset] [(.ref b3)]))
      refine go (fun tg kg => XS.dup X3.here hx rfl (hb hby at_25) rfl rfl kg) ?_
      show G (T3.setTop (mkF m 26 #[.val (.int x0), .val (.int cnt), .unset, .unset, .unset, .unset, .unset, .unset, .unset, .unset, .unset] [(.ref b3), (.ref b3)]))
      refine go (fun tg kg => XS.iloadN X3.here hx rfl (hb hby at_26) rfl kg) ?_
      show G (T3.setTop (mkF m 27 #[.val (.int x0), .val (.int cnt), .unset, .unset, .unset, .unset, .unset, .unset, .unset, .unset, .unset] [(.int cnt), (.ref b3), (.ref b3)]))
      obtain ⟨_, _, ⟨T4, L4, k4, n4⟩, -, X4, ⟨Lc4, hQ4, l4, y4, z4⟩, st4⟩ := X3.specialBack hx (y := (⟨"com/example/drumline/drumline/engine/Slots", "<init>", "(I)V"⟩ : MethodName)) rfl hown (mvT hZ (hw _ (List.mem_of_getElem? (i := 7) rfl))) (mvT hZ (hw _ (List.mem_of_getElem? (i := 8) rfl))) (mvT hZ (hw _ (List.mem_of_getElem? (i := 9) rfl))) (by decide) (backOf (W := 1) (rm2 l Z a0 hw [] b3 cnt h3 n0 Z3 A3 ge_b3 F3_held F3_count F3_taken) hZ (hw _ (List.mem_of_getElem? (i := 9) rfl)) (hw _ (List.mem_of_getElem? (i := 6) rfl)) (by decide) (by decide)) (g := (mkF m 27 #[.val (.int x0), .val (.int cnt), .unset, .unset, .unset, .unset, .unset, .unset, .unset, .unset, .unset] [(.int cnt), (.ref b3), (.ref b3)])) rfl (by rw [hml]; rfl) (Steps.refl _) (a := b3) (argsL := [(.int cnt)]) (rest := [(.ref b3)]) (lenOf pd__I_V rfl) rfl (by show 2 * 0 + _ ≤ _; exact Nat.le_of_eq rfl) (hb hby at_27) (fun _ _ => ⟨rfl, e3, (by decide : 1 + 2 ≤ _), (by decide : 3 + 20 ≤ _)⟩)
      dsimp only [Pt.U, Pt.locs, Pt.cells, Pt.slots] at X4 l4 y4 z4 st4 hQ4
      subst l4 y4 z4
      obtain ⟨rfl, Nq4, K4, Ge4, Gf4_count, Gf4_taken⟩ := hQ4
      have Z4 := Nat.le_trans Z3 K4.1
      have N4 := Fr.app N2 Nq4
      refine go (fun tg kg => st4.trans kg) ?_
      show G (T4.setTop (mkF m 30 #[.val (.int x0), .val (.int cnt), .unset, .unset, .unset, .unset, .unset, .unset, .unset, .unset, .unset] [(.ref b3)]))
      refine go (fun tg kg => XS.astoreN X4.here hx rfl (hb hby at_30) rfl rfl (l' := #[.val (.int x0), .val (.int cnt), .val (.ref b3), .unset, .unset, .unset, .unset, .unset, .unset, .unset, .unset]) rfl kg) ?_
      show G (T4.setTop (mkF m 31 #[.val (.int x0), .val (.int cnt), .val (.ref b3), .unset, .unset, .unset, .unset, .unset, .unset, .unset, .unset] []))
      refine go (fun tg kg => XS.aloadN X4.here hx rfl (hb hby at_31) rfl rfl kg) ?_
      show G (T4.setTop (mkF m 32 #[.val (.int x0), .val (.int cnt), .val (.ref b3), .unset, .unset, .unset, .unset, .unset, .unset, .unset, .unset] [(.ref b3)]))
      obtain ⟨cq5, kq5, q5a, q5b, q5c⟩ := isOf hZ rfl Ge4
      obtain ⟨_, _, ⟨T5, L5, k5, n5⟩, -, X5, ⟨Lc5, hQ5, l5, y5, z5⟩, st5⟩ := X4.virtualBack hx (y := (⟨"com/example/drumline/drumline/engine/Slots", "take", "()Z"⟩ : MethodName)) (z := (⟨"com/example/drumline/drumline/engine/Slots", "take", "()Z"⟩ : MethodName)) hown (mvT hZ (hw _ (List.mem_of_getElem? (i := 34) rfl))) (mvT hZ (hw _ (List.mem_of_getElem? (i := 35) rfl))) (notFace_of_selects (args := #[]) (mvT hZ (hw _ (List.mem_of_getElem? (i := 37) rfl)))) (mvT hZ (hw _ (List.mem_of_getElem? (i := 37) rfl))) (mvT hZ (hw _ (List.mem_of_getElem? (i := 36) rfl))) (by decide) (backOf (W := 0) (rm6_1 l Z a0 hw [] b3 cnt (0 : Int32) T4.heap n0 Z4 Ge4 ge_b3 Gf4_count Gf4_taken (own_up hp1 0 (by decide))) hZ (hw _ (List.mem_of_getElem? (i := 38) rfl)) (hw _ (List.mem_of_getElem? (i := 6) rfl)) (by decide) (by decide)) q5a q5c (g := (mkF m 32 #[.val (.int x0), .val (.int cnt), .val (.ref b3), .unset, .unset, .unset, .unset, .unset, .unset, .unset, .unset] [(.ref b3)])) rfl (by rw [hml]; rfl) (Steps.refl _) (argsL := []) (rest := []) (lenOf pd___Z rfl) rfl (by show 2 * 0 + _ ≤ _; exact Nat.le_of_eq rfl) (hb hby at_32) (fun _ _ => ⟨rfl, rfl, (by decide : 3 + 0 ≤ _), (by decide : 23 + 0 ≤ _)⟩)
      dsimp only [Pt.U, Pt.locs, Pt.cells, Pt.slots] at X5 l5 y5 z5 st5 hQ5
      subst l5 y5 z5
      obtain ⟨rfl, Nq5, K5, Ge5, Gf5_count, Gf5_taken⟩ := hQ5
      have Z5 := Nat.le_trans Z4 K5.1
      replace Gf5_taken : Fld Z T5.heap b3 "com/example/drumline/drumline/engine/Slots" "taken" "I" (.int (1 : Int32)) := Gf5_taken
      have N5 := Fr.app N4 Nq5
      refine go (fun tg kg => st5.trans kg) ?_
      show G (T5.setTop (mkF m 35 #[.val (.int x0), .val (.int cnt), .val (.ref b3), .unset, .unset, .unset, .unset, .unset, .unset, .unset, .unset] [(.int (1 : Int32))]))
      refine go (fun tg kg => XS.istoreN X5.here hx rfl (hb hby at_35) rfl (l' := #[.val (.int x0), .val (.int cnt), .val (.ref b3), .val (.int (1 : Int32)), .unset, .unset, .unset, .unset, .unset, .unset, .unset]) rfl kg) ?_
      show G (T5.setTop (mkF m 36 #[.val (.int x0), .val (.int cnt), .val (.ref b3), .val (.int (1 : Int32)), .unset, .unset, .unset, .unset, .unset, .unset, .unset] []))
      refine go (fun tg kg => XS.aloadN X5.here hx rfl (hb hby at_36) rfl rfl kg) ?_
      show G (T5.setTop (mkF m 37 #[.val (.int x0), .val (.int cnt), .val (.ref b3), .val (.int (1 : Int32)), .unset, .unset, .unset, .unset, .unset, .unset, .unset] [(.ref b3)]))
      obtain ⟨cq6, kq6, q6a, q6b, q6c⟩ := isOf hZ rfl Ge5
      obtain ⟨_, _, ⟨T6, L6, k6, n6⟩, -, X6, ⟨Lc6, hQ6, l6, y6, z6⟩, st6⟩ := X5.virtualBack hx (y := (⟨"com/example/drumline/drumline/engine/Slots", "take", "()Z"⟩ : MethodName)) (z := (⟨"com/example/drumline/drumline/engine/Slots", "take", "()Z"⟩ : MethodName)) hown (mvT hZ (hw _ (List.mem_of_getElem? (i := 34) rfl))) (mvT hZ (hw _ (List.mem_of_getElem? (i := 35) rfl))) (notFace_of_selects (args := #[]) (mvT hZ (hw _ (List.mem_of_getElem? (i := 37) rfl)))) (mvT hZ (hw _ (List.mem_of_getElem? (i := 37) rfl))) (mvT hZ (hw _ (List.mem_of_getElem? (i := 36) rfl))) (by decide) (backOf (W := 0) (rm6_0 l Z a0 hw [] b3 cnt (1 : Int32) T5.heap n0 Z5 Ge5 ge_b3 Gf5_count Gf5_taken (own_dn hk1 1 (by decide))) hZ (hw _ (List.mem_of_getElem? (i := 38) rfl)) (hw _ (List.mem_of_getElem? (i := 6) rfl)) (by decide) (by decide)) q6a q6c (g := (mkF m 37 #[.val (.int x0), .val (.int cnt), .val (.ref b3), .val (.int (1 : Int32)), .unset, .unset, .unset, .unset, .unset, .unset, .unset] [(.ref b3)])) rfl (by rw [hml]; rfl) (Steps.refl _) (argsL := []) (rest := []) (lenOf pd___Z rfl) rfl (by show 2 * 0 + _ ≤ _; exact Nat.le_of_eq rfl) (hb hby at_37) (fun _ _ => ⟨rfl, rfl, (by decide : 3 + 0 ≤ _), (by decide : 23 + 0 ≤ _)⟩)
      dsimp only [Pt.U, Pt.locs, Pt.cells, Pt.slots] at X6 l6 y6 z6 st6 hQ6
      subst l6 y6 z6
      obtain ⟨rfl, Nq6, K6, Ge6, Gf6_count, Gf6_taken⟩ := hQ6
      have Z6 := Nat.le_trans Z5 K6.1
      replace Gf6_taken : Fld Z T6.heap b3 "com/example/drumline/drumline/engine/Slots" "taken" "I" (.int (1 : Int32)) := Gf6_taken
      have N6 := Fr.app N5 Nq6
      refine go (fun tg kg => st6.trans kg) ?_
      show G (T6.setTop (mkF m 40 #[.val (.int x0), .val (.int cnt), .val (.ref b3), .val (.int (1 : Int32)), .unset, .unset, .unset, .unset, .unset, .unset, .unset] [(.int (0 : Int32))]))
      refine go (fun tg kg => XS.istore X6.here hx rfl (hb hby at_40) rfl (l' := #[.val (.int x0), .val (.int cnt), .val (.ref b3), .val (.int (1 : Int32)), .val (.int (0 : Int32)), .unset, .unset, .unset, .unset, .unset, .unset]) rfl kg) ?_
      show G (T6.setTop (mkF m 42 #[.val (.int x0), .val (.int cnt), .val (.ref b3), .val (.int (1 : Int32)), .val (.int (0 : Int32)), .unset, .unset, .unset, .unset, .unset, .unset] []))
      refine go (fun tg kg => XS.aloadN X6.here hx rfl (hb hby at_42) rfl rfl kg) ?_
      show G (T6.setTop (mkF m 43 #[.val (.int x0), .val (.int cnt), .val (.ref b3), .val (.int (1 : Int32)), .val (.int (0 : Int32)), .unset, .unset, .unset, .unset, .unset, .unset] [(.ref b3)]))
      obtain ⟨cq7, kq7, q7a, q7b, q7c⟩ := isOf hZ rfl Ge6
      obtain ⟨_, _, ⟨T7, L7, k7, n7⟩, -, X7, ⟨Lc7, hQ7, l7, y7, z7⟩, st7⟩ := X6.virtualBack hx (y := (⟨"com/example/drumline/drumline/engine/Slots", "take", "()Z"⟩ : MethodName)) (z := (⟨"com/example/drumline/drumline/engine/Slots", "take", "()Z"⟩ : MethodName)) hown (mvT hZ (hw _ (List.mem_of_getElem? (i := 34) rfl))) (mvT hZ (hw _ (List.mem_of_getElem? (i := 35) rfl))) (notFace_of_selects (args := #[]) (mvT hZ (hw _ (List.mem_of_getElem? (i := 37) rfl)))) (mvT hZ (hw _ (List.mem_of_getElem? (i := 37) rfl))) (mvT hZ (hw _ (List.mem_of_getElem? (i := 36) rfl))) (by decide) (backOf (W := 0) (rm6_0 l Z a0 hw [] b3 cnt (1 : Int32) T6.heap n0 Z6 Ge6 ge_b3 Gf6_count Gf6_taken (own_dn hk1 1 (by decide))) hZ (hw _ (List.mem_of_getElem? (i := 38) rfl)) (hw _ (List.mem_of_getElem? (i := 6) rfl)) (by decide) (by decide)) q7a q7c (g := (mkF m 43 #[.val (.int x0), .val (.int cnt), .val (.ref b3), .val (.int (1 : Int32)), .val (.int (0 : Int32)), .unset, .unset, .unset, .unset, .unset, .unset] [(.ref b3)])) rfl (by rw [hml]; rfl) (Steps.refl _) (argsL := []) (rest := []) (lenOf pd___Z rfl) rfl (by show 2 * 0 + _ ≤ _; exact Nat.le_of_eq rfl) (hb hby at_43) (fun _ _ => ⟨rfl, rfl, (by decide : 3 + 0 ≤ _), (by decide : 23 + 0 ≤ _)⟩)
      dsimp only [Pt.U, Pt.locs, Pt.cells, Pt.slots] at X7 l7 y7 z7 st7 hQ7
      subst l7 y7 z7
      obtain ⟨rfl, Nq7, K7, Ge7, Gf7_count, Gf7_taken⟩ := hQ7
      have Z7 := Nat.le_trans Z6 K7.1
      replace Gf7_taken : Fld Z T7.heap b3 "com/example/drumline/drumline/engine/Slots" "taken" "I" (.int (1 : Int32)) := Gf7_taken
      have N7 := Fr.app N6 Nq7
      refine go (fun tg kg => st7.trans kg) ?_
      show G (T7.setTop (mkF m 46 #[.val (.int x0), .val (.int cnt), .val (.ref b3), .val (.int (1 : Int32)), .val (.int (0 : Int32)), .unset, .unset, .unset, .unset, .unset, .unset] [(.int (0 : Int32))]))
      refine go (fun tg kg => XS.istore X7.here hx rfl (hb hby at_46) rfl (l' := #[.val (.int x0), .val (.int cnt), .val (.ref b3), .val (.int (1 : Int32)), .val (.int (0 : Int32)), .val (.int (0 : Int32)), .unset, .unset, .unset, .unset, .unset]) rfl kg) ?_
      show G (T7.setTop (mkF m 48 #[.val (.int x0), .val (.int cnt), .val (.ref b3), .val (.int (1 : Int32)), .val (.int (0 : Int32)), .val (.int (0 : Int32)), .unset, .unset, .unset, .unset, .unset] []))
      refine go (fun tg kg => XS.aloadN X7.here hx rfl (hb hby at_48) rfl rfl kg) ?_
      show G (T7.setTop (mkF m 49 #[.val (.int x0), .val (.int cnt), .val (.ref b3), .val (.int (1 : Int32)), .val (.int (0 : Int32)), .val (.int (0 : Int32)), .unset, .unset, .unset, .unset, .unset] [(.ref b3)]))
      obtain ⟨cq8, kq8, q8a, q8b, q8c⟩ := isOf hZ rfl Ge7
      obtain ⟨_, _, ⟨T8, L8, k8, n8⟩, -, X8, ⟨Lc8, hQ8, l8, y8, z8⟩, st8⟩ := X7.virtualBack hx (y := (⟨"com/example/drumline/drumline/engine/Slots", "take", "()Z"⟩ : MethodName)) (z := (⟨"com/example/drumline/drumline/engine/Slots", "take", "()Z"⟩ : MethodName)) hown (mvT hZ (hw _ (List.mem_of_getElem? (i := 34) rfl))) (mvT hZ (hw _ (List.mem_of_getElem? (i := 35) rfl))) (notFace_of_selects (args := #[]) (mvT hZ (hw _ (List.mem_of_getElem? (i := 37) rfl)))) (mvT hZ (hw _ (List.mem_of_getElem? (i := 37) rfl))) (mvT hZ (hw _ (List.mem_of_getElem? (i := 36) rfl))) (by decide) (backOf (W := 0) (rm6_0 l Z a0 hw [] b3 cnt (1 : Int32) T7.heap n0 Z7 Ge7 ge_b3 Gf7_count Gf7_taken (own_dn hk1 1 (by decide))) hZ (hw _ (List.mem_of_getElem? (i := 38) rfl)) (hw _ (List.mem_of_getElem? (i := 6) rfl)) (by decide) (by decide)) q8a q8c (g := (mkF m 49 #[.val (.int x0), .val (.int cnt), .val (.ref b3), .val (.int (1 : Int32)), .val (.int (0 : Int32)), .val (.int (0 : Int32)), .unset, .unset, .unset, .unset, .unset] [(.ref b3)])) rfl (by rw [hml]; rfl) (Steps.refl _) (argsL := []) (rest := []) (lenOf pd___Z rfl) rfl (by show 2 * 0 + _ ≤ _; exact Nat.le_of_eq rfl) (hb hby at_49) (fun _ _ => ⟨rfl, rfl, (by decide : 3 + 0 ≤ _), (by decide : 23 + 0 ≤ _)⟩)
      dsimp only [Pt.U, Pt.locs, Pt.cells, Pt.slots] at X8 l8 y8 z8 st8 hQ8
      subst l8 y8 z8
      obtain ⟨rfl, Nq8, K8, Ge8, Gf8_count, Gf8_taken⟩ := hQ8
      have Z8 := Nat.le_trans Z7 K8.1
      replace Gf8_taken : Fld Z T8.heap b3 "com/example/drumline/drumline/engine/Slots" "taken" "I" (.int (1 : Int32)) := Gf8_taken
      have N8 := Fr.app N7 Nq8
      refine go (fun tg kg => st8.trans kg) ?_
      show G (T8.setTop (mkF m 52 #[.val (.int x0), .val (.int cnt), .val (.ref b3), .val (.int (1 : Int32)), .val (.int (0 : Int32)), .val (.int (0 : Int32)), .unset, .unset, .unset, .unset, .unset] [(.int (0 : Int32))]))
      refine go (fun tg kg => XS.istore X8.here hx rfl (hb hby at_52) rfl (l' := #[.val (.int x0), .val (.int cnt), .val (.ref b3), .val (.int (1 : Int32)), .val (.int (0 : Int32)), .val (.int (0 : Int32)), .val (.int (0 : Int32)), .unset, .unset, .unset, .unset]) rfl kg) ?_
      show G (T8.setTop (mkF m 54 #[.val (.int x0), .val (.int cnt), .val (.ref b3), .val (.int (1 : Int32)), .val (.int (0 : Int32)), .val (.int (0 : Int32)), .val (.int (0 : Int32)), .unset, .unset, .unset, .unset] []))
      refine go (fun tg kg => XS.aloadN X8.here hx rfl (hb hby at_54) rfl rfl kg) ?_
      show G (T8.setTop (mkF m 55 #[.val (.int x0), .val (.int cnt), .val (.ref b3), .val (.int (1 : Int32)), .val (.int (0 : Int32)), .val (.int (0 : Int32)), .val (.int (0 : Int32)), .unset, .unset, .unset, .unset] [(.ref b3)]))
      obtain ⟨cq9, kq9, q9a, q9b, q9c⟩ := isOf hZ rfl Ge8
      obtain ⟨_, _, ⟨T9, L9, k9, n9⟩, -, X9, ⟨Lc9, hQ9, l9, y9, z9⟩, st9⟩ := X8.virtualBack hx (y := (⟨"com/example/drumline/drumline/engine/Slots", "taken", "()I"⟩ : MethodName)) (z := (⟨"com/example/drumline/drumline/engine/Slots", "taken", "()I"⟩ : MethodName)) hown (mvT hZ (hw _ (List.mem_of_getElem? (i := 41) rfl))) (mvT hZ (hw _ (List.mem_of_getElem? (i := 42) rfl))) (notFace_of_selects (args := #[]) (mvT hZ (hw _ (List.mem_of_getElem? (i := 44) rfl)))) (mvT hZ (hw _ (List.mem_of_getElem? (i := 44) rfl))) (mvT hZ (hw _ (List.mem_of_getElem? (i := 43) rfl))) (by decide) (backOf (W := 0) (rm7 l Z a0 hw [] b3 (1 : Int32) T8.heap n0 Z8 Gf8_taken) hZ (hw _ (List.mem_of_getElem? (i := 45) rfl)) (hw _ (List.mem_of_getElem? (i := 6) rfl)) (by decide) (by decide)) q9a q9c (g := (mkF m 55 #[.val (.int x0), .val (.int cnt), .val (.ref b3), .val (.int (1 : Int32)), .val (.int (0 : Int32)), .val (.int (0 : Int32)), .val (.int (0 : Int32)), .unset, .unset, .unset, .unset] [(.ref b3)])) rfl (by rw [hml]; rfl) (Steps.refl _) (argsL := []) (rest := []) (lenOf pd___I rfl) rfl (by show 2 * 0 + _ ≤ _; exact Nat.le_of_eq rfl) (hb hby at_55) (fun _ _ => ⟨rfl, rfl, (by decide : 3 + 0 ≤ _), (by decide : 23 + 0 ≤ _)⟩)
      dsimp only [Pt.U, Pt.locs, Pt.cells, Pt.slots] at X9 l9 y9 z9 st9 hQ9
      subst l9 y9 z9
      obtain ⟨rfl, Nq9, e9⟩ := hQ9
      have N9 := Fr.app N8 Nq9
      refine go (fun tg kg => st9.trans kg) ?_
      show G (T9.setTop (mkF m 58 #[.val (.int x0), .val (.int cnt), .val (.ref b3), .val (.int (1 : Int32)), .val (.int (0 : Int32)), .val (.int (0 : Int32)), .val (.int (0 : Int32)), .unset, .unset, .unset, .unset] [(.int (1 : Int32))]))
      refine go (fun tg kg => XS.istore X9.here hx rfl (hb hby at_58) rfl (l' := #[.val (.int x0), .val (.int cnt), .val (.ref b3), .val (.int (1 : Int32)), .val (.int (0 : Int32)), .val (.int (0 : Int32)), .val (.int (0 : Int32)), .val (.int (1 : Int32)), .unset, .unset, .unset]) rfl kg) ?_
      show G (T9.setTop (mkF m 60 #[.val (.int x0), .val (.int cnt), .val (.ref b3), .val (.int (1 : Int32)), .val (.int (0 : Int32)), .val (.int (0 : Int32)), .val (.int (0 : Int32)), .val (.int (1 : Int32)), .unset, .unset, .unset] []))
      refine go (fun tg kg => XS.aloadN X9.here hx rfl (hb hby at_60) rfl rfl kg) ?_
      show G (T9.setTop (mkF m 61 #[.val (.int x0), .val (.int cnt), .val (.ref b3), .val (.int (1 : Int32)), .val (.int (0 : Int32)), .val (.int (0 : Int32)), .val (.int (0 : Int32)), .val (.int (1 : Int32)), .unset, .unset, .unset] [(.ref b3)]))
      obtain ⟨cq10, kq10, q10a, q10b, q10c⟩ := isOf hZ e9 Ge8
      obtain ⟨_, _, ⟨T10, L10, k10, n10⟩, -, X10, ⟨Lc10, hQ10, l10, y10, z10⟩, st10⟩ := X9.virtualBack hx (y := (⟨"com/example/drumline/drumline/engine/Slots", "free", "()V"⟩ : MethodName)) (z := (⟨"com/example/drumline/drumline/engine/Slots", "free", "()V"⟩ : MethodName)) hown (mvT hZ (hw _ (List.mem_of_getElem? (i := 46) rfl))) (mvT hZ (hw _ (List.mem_of_getElem? (i := 47) rfl))) (notFace_of_selects (args := #[]) (mvT hZ (hw _ (List.mem_of_getElem? (i := 49) rfl)))) (mvT hZ (hw _ (List.mem_of_getElem? (i := 49) rfl))) (mvT hZ (hw _ (List.mem_of_getElem? (i := 48) rfl))) (by decide) (backOf (W := 0) (rm8 l Z a0 hw [] b3 cnt (1 : Int32) T8.heap n0 Z8 Ge8 ge_b3 Gf8_count Gf8_taken) hZ (hw _ (List.mem_of_getElem? (i := 50) rfl)) (hw _ (List.mem_of_getElem? (i := 6) rfl)) (by decide) (by decide)) q10a q10c (g := (mkF m 61 #[.val (.int x0), .val (.int cnt), .val (.ref b3), .val (.int (1 : Int32)), .val (.int (0 : Int32)), .val (.int (0 : Int32)), .val (.int (0 : Int32)), .val (.int (1 : Int32)), .unset, .unset, .unset] [(.ref b3)])) rfl (by rw [hml]; rfl) (Steps.refl _) (argsL := []) (rest := []) (lenOf pd___V rfl) rfl (by show 2 * 0 + _ ≤ _; exact Nat.le_of_eq rfl) (hb hby at_61) (fun _ _ => ⟨rfl, e9, (by decide : 3 + 0 ≤ _), (by decide : 23 + 0 ≤ _)⟩)
      dsimp only [Pt.U, Pt.locs, Pt.cells, Pt.slots] at X10 l10 y10 z10 st10 hQ10
      subst l10 y10 z10
      obtain ⟨rfl, Nq10, K10, Ge10, Gf10_count, Gf10_taken⟩ := hQ10
      have Z10 := Nat.le_trans Z8 K10.1
      replace Gf10_taken : Fld Z T10.heap b3 "com/example/drumline/drumline/engine/Slots" "taken" "I" (.int (0 : Int32)) := Gf10_taken
      have N10 := Fr.app N9 Nq10
      refine go (fun tg kg => st10.trans kg) ?_
      show G (T10.setTop (mkF m 64 #[.val (.int x0), .val (.int cnt), .val (.ref b3), .val (.int (1 : Int32)), .val (.int (0 : Int32)), .val (.int (0 : Int32)), .val (.int (0 : Int32)), .val (.int (1 : Int32)), .unset, .unset, .unset] []))
      refine go (fun tg kg => XS.aloadN X10.here hx rfl (hb hby at_64) rfl rfl kg) ?_
      show G (T10.setTop (mkF m 65 #[.val (.int x0), .val (.int cnt), .val (.ref b3), .val (.int (1 : Int32)), .val (.int (0 : Int32)), .val (.int (0 : Int32)), .val (.int (0 : Int32)), .val (.int (1 : Int32)), .unset, .unset, .unset] [(.ref b3)]))
      obtain ⟨cq11, kq11, q11a, q11b, q11c⟩ := isOf hZ rfl Ge10
      obtain ⟨_, _, ⟨T11, L11, k11, n11⟩, -, X11, ⟨Lc11, hQ11, l11, y11, z11⟩, st11⟩ := X10.virtualBack hx (y := (⟨"com/example/drumline/drumline/engine/Slots", "take", "()Z"⟩ : MethodName)) (z := (⟨"com/example/drumline/drumline/engine/Slots", "take", "()Z"⟩ : MethodName)) hown (mvT hZ (hw _ (List.mem_of_getElem? (i := 34) rfl))) (mvT hZ (hw _ (List.mem_of_getElem? (i := 35) rfl))) (notFace_of_selects (args := #[]) (mvT hZ (hw _ (List.mem_of_getElem? (i := 37) rfl)))) (mvT hZ (hw _ (List.mem_of_getElem? (i := 37) rfl))) (mvT hZ (hw _ (List.mem_of_getElem? (i := 36) rfl))) (by decide) (backOf (W := 0) (rm6_1 l Z a0 hw [] b3 cnt (0 : Int32) T10.heap n0 Z10 Ge10 ge_b3 Gf10_count Gf10_taken (own_up hp1 0 (by decide))) hZ (hw _ (List.mem_of_getElem? (i := 38) rfl)) (hw _ (List.mem_of_getElem? (i := 6) rfl)) (by decide) (by decide)) q11a q11c (g := (mkF m 65 #[.val (.int x0), .val (.int cnt), .val (.ref b3), .val (.int (1 : Int32)), .val (.int (0 : Int32)), .val (.int (0 : Int32)), .val (.int (0 : Int32)), .val (.int (1 : Int32)), .unset, .unset, .unset] [(.ref b3)])) rfl (by rw [hml]; rfl) (Steps.refl _) (argsL := []) (rest := []) (lenOf pd___Z rfl) rfl (by show 2 * 0 + _ ≤ _; exact Nat.le_of_eq rfl) (hb hby at_65) (fun _ _ => ⟨rfl, rfl, (by decide : 3 + 0 ≤ _), (by decide : 23 + 0 ≤ _)⟩)
      dsimp only [Pt.U, Pt.locs, Pt.cells, Pt.slots] at X11 l11 y11 z11 st11 hQ11
      subst l11 y11 z11
      obtain ⟨rfl, Nq11, K11, Ge11, Gf11_count, Gf11_taken⟩ := hQ11
      have Z11 := Nat.le_trans Z10 K11.1
      replace Gf11_taken : Fld Z T11.heap b3 "com/example/drumline/drumline/engine/Slots" "taken" "I" (.int (1 : Int32)) := Gf11_taken
      have N11 := Fr.app N10 Nq11
      refine go (fun tg kg => st11.trans kg) ?_
      show G (T11.setTop (mkF m 68 #[.val (.int x0), .val (.int cnt), .val (.ref b3), .val (.int (1 : Int32)), .val (.int (0 : Int32)), .val (.int (0 : Int32)), .val (.int (0 : Int32)), .val (.int (1 : Int32)), .unset, .unset, .unset] [(.int (1 : Int32))]))
      refine go (fun tg kg => XS.istore X11.here hx rfl (hb hby at_68) rfl (l' := #[.val (.int x0), .val (.int cnt), .val (.ref b3), .val (.int (1 : Int32)), .val (.int (0 : Int32)), .val (.int (0 : Int32)), .val (.int (0 : Int32)), .val (.int (1 : Int32)), .val (.int (1 : Int32)), .unset, .unset]) rfl kg) ?_
      show G (T11.setTop (mkF m 70 #[.val (.int x0), .val (.int cnt), .val (.ref b3), .val (.int (1 : Int32)), .val (.int (0 : Int32)), .val (.int (0 : Int32)), .val (.int (0 : Int32)), .val (.int (1 : Int32)), .val (.int (1 : Int32)), .unset, .unset] []))
      refine go (fun tg kg => XS.aloadN X11.here hx rfl (hb hby at_70) rfl rfl kg) ?_
      show G (T11.setTop (mkF m 71 #[.val (.int x0), .val (.int cnt), .val (.ref b3), .val (.int (1 : Int32)), .val (.int (0 : Int32)), .val (.int (0 : Int32)), .val (.int (0 : Int32)), .val (.int (1 : Int32)), .val (.int (1 : Int32)), .unset, .unset] [(.ref b3)]))
      obtain ⟨cq12, kq12, q12a, q12b, q12c⟩ := isOf hZ rfl Ge11
      obtain ⟨_, _, ⟨T12, L12, k12, n12⟩, -, X12, ⟨Lc12, hQ12, l12, y12, z12⟩, st12⟩ := X11.virtualBack hx (y := (⟨"com/example/drumline/drumline/engine/Slots", "taken", "()I"⟩ : MethodName)) (z := (⟨"com/example/drumline/drumline/engine/Slots", "taken", "()I"⟩ : MethodName)) hown (mvT hZ (hw _ (List.mem_of_getElem? (i := 41) rfl))) (mvT hZ (hw _ (List.mem_of_getElem? (i := 42) rfl))) (notFace_of_selects (args := #[]) (mvT hZ (hw _ (List.mem_of_getElem? (i := 44) rfl)))) (mvT hZ (hw _ (List.mem_of_getElem? (i := 44) rfl))) (mvT hZ (hw _ (List.mem_of_getElem? (i := 43) rfl))) (by decide) (backOf (W := 0) (rm7 l Z a0 hw [] b3 (1 : Int32) T11.heap n0 Z11 Gf11_taken) hZ (hw _ (List.mem_of_getElem? (i := 45) rfl)) (hw _ (List.mem_of_getElem? (i := 6) rfl)) (by decide) (by decide)) q12a q12c (g := (mkF m 71 #[.val (.int x0), .val (.int cnt), .val (.ref b3), .val (.int (1 : Int32)), .val (.int (0 : Int32)), .val (.int (0 : Int32)), .val (.int (0 : Int32)), .val (.int (1 : Int32)), .val (.int (1 : Int32)), .unset, .unset] [(.ref b3)])) rfl (by rw [hml]; rfl) (Steps.refl _) (argsL := []) (rest := []) (lenOf pd___I rfl) rfl (by show 2 * 0 + _ ≤ _; exact Nat.le_of_eq rfl) (hb hby at_71) (fun _ _ => ⟨rfl, rfl, (by decide : 3 + 0 ≤ _), (by decide : 23 + 0 ≤ _)⟩)
      dsimp only [Pt.U, Pt.locs, Pt.cells, Pt.slots] at X12 l12 y12 z12 st12 hQ12
      subst l12 y12 z12
      obtain ⟨rfl, Nq12, e12⟩ := hQ12
      have N12 := Fr.app N11 Nq12
      refine go (fun tg kg => st12.trans kg) ?_
      show G (T12.setTop (mkF m 74 #[.val (.int x0), .val (.int cnt), .val (.ref b3), .val (.int (1 : Int32)), .val (.int (0 : Int32)), .val (.int (0 : Int32)), .val (.int (0 : Int32)), .val (.int (1 : Int32)), .val (.int (1 : Int32)), .unset, .unset] [(.int (1 : Int32))]))
      refine go (fun tg kg => XS.istore X12.here hx rfl (hb hby at_74) rfl (l' := #[.val (.int x0), .val (.int cnt), .val (.ref b3), .val (.int (1 : Int32)), .val (.int (0 : Int32)), .val (.int (0 : Int32)), .val (.int (0 : Int32)), .val (.int (1 : Int32)), .val (.int (1 : Int32)), .val (.int (1 : Int32)), .unset]) rfl kg) ?_
      show G (T12.setTop (mkF m 76 #[.val (.int x0), .val (.int cnt), .val (.ref b3), .val (.int (1 : Int32)), .val (.int (0 : Int32)), .val (.int (0 : Int32)), .val (.int (0 : Int32)), .val (.int (1 : Int32)), .val (.int (1 : Int32)), .val (.int (1 : Int32)), .unset] []))
      refine go (fun tg kg => XS.iconst X12.here hx rfl (hb hby at_76) kg) ?_
      show G (T12.setTop (mkF m 77 #[.val (.int x0), .val (.int cnt), .val (.ref b3), .val (.int (1 : Int32)), .val (.int (0 : Int32)), .val (.int (0 : Int32)), .val (.int (0 : Int32)), .val (.int (1 : Int32)), .val (.int (1 : Int32)), .val (.int (1 : Int32)), .unset] [(.int (4 : Int32))]))
      refine go (fun tg kg => XS.iloadN X12.here hx rfl (hb hby at_77) rfl kg) ?_
      show G (T12.setTop (mkF m 78 #[.val (.int x0), .val (.int cnt), .val (.ref b3), .val (.int (1 : Int32)), .val (.int (0 : Int32)), .val (.int (0 : Int32)), .val (.int (0 : Int32)), .val (.int (1 : Int32)), .val (.int (1 : Int32)), .val (.int (1 : Int32)), .unset] [(.int cnt), (.int (4 : Int32))]))
      obtain ⟨_, _, ⟨T13, L13, k13, n13⟩, -, X13, ⟨Lc13, hQ13, l13, y13, z13⟩, st13⟩ := Jvm.LawKit.callS X12 hx (y := (⟨"java/lang/Math", "min", "(II)I"⟩ : MethodName)) hown (mvT hZ (hw _ (List.mem_of_getElem? (i := 51) rfl))) (mvT hZ (hw _ (List.mem_of_getElem? (i := 52) rfl))) (mvT hZ (hw _ (List.mem_of_getElem? (i := 2) rfl))) (mvT hZ (hw _ (List.mem_of_getElem? (i := 53) rfl))) (by decide) (backOf (W := 0) (rm9 l Z a0 hw [] (4 : Int32) cnt T11.heap n0 Z11 ) hZ (hw _ (List.mem_of_getElem? (i := 53) rfl)) (hw _ (List.mem_of_getElem? (i := 2) rfl)) (by decide) (by decide)) (g := (mkF m 78 #[.val (.int x0), .val (.int cnt), .val (.ref b3), .val (.int (1 : Int32)), .val (.int (0 : Int32)), .val (.int (0 : Int32)), .val (.int (0 : Int32)), .val (.int (1 : Int32)), .val (.int (1 : Int32)), .val (.int (1 : Int32)), .unset] [(.int cnt), (.int (4 : Int32))])) rfl (by rw [hml]; rfl) (argsL := [(.int (4 : Int32)), (.int cnt)]) (rest := []) (lenOf pd__II_I rfl) rfl (by show 2 * 0 + _ ≤ _; exact Nat.le_of_eq rfl) (hb hby at_78) (fun _ _ => ⟨rfl, e12, (by decide : 3 + 0 ≤ _), (by decide : 23 + 0 ≤ _)⟩)
      dsimp only [Pt.U, Pt.locs, Pt.cells, Pt.slots] at X13 l13 y13 z13 st13 hQ13
      subst l13 y13 z13
      obtain ⟨rfl, Nq13, e13⟩ := hQ13
      rw [own_min_p (own_wk hk1 4 (by decide))] at st13
      have N13 := Fr.app N12 Nq13
      refine go st13 ?_
      show G (T13.setTop (mkF m 81 #[.val (.int x0), .val (.int cnt), .val (.ref b3), .val (.int (1 : Int32)), .val (.int (0 : Int32)), .val (.int (0 : Int32)), .val (.int (0 : Int32)), .val (.int (1 : Int32)), .val (.int (1 : Int32)), .val (.int (1 : Int32)), .unset] [(.int cnt)]))
      refine go (fun tg kg => XS.istore X13.here hx rfl (hb hby at_81) rfl (l' := #[.val (.int x0), .val (.int cnt), .val (.ref b3), .val (.int (1 : Int32)), .val (.int (0 : Int32)), .val (.int (0 : Int32)), .val (.int (0 : Int32)), .val (.int (1 : Int32)), .val (.int (1 : Int32)), .val (.int (1 : Int32)), .val (.int cnt)]) rfl kg) ?_
      show G (T13.setTop (mkF m 83 #[.val (.int x0), .val (.int cnt), .val (.ref b3), .val (.int (1 : Int32)), .val (.int (0 : Int32)), .val (.int (0 : Int32)), .val (.int (0 : Int32)), .val (.int (1 : Int32)), .val (.int (1 : Int32)), .val (.int (1 : Int32)), .val (.int cnt)] []))
      refine go (fun tg kg => XS.iloadN X13.here hx rfl (hb hby at_83) rfl kg) ?_
      show G (T13.setTop (mkF m 84 #[.val (.int x0), .val (.int cnt), .val (.ref b3), .val (.int (1 : Int32)), .val (.int (0 : Int32)), .val (.int (0 : Int32)), .val (.int (0 : Int32)), .val (.int (1 : Int32)), .val (.int (1 : Int32)), .val (.int (1 : Int32)), .val (.int cnt)] [(.int (1 : Int32))]))
      refine go (fun tg kg => XS.iconst X13.here hx rfl (hb hby at_84) kg) ?_
      show G (T13.setTop (mkF m 85 #[.val (.int x0), .val (.int cnt), .val (.ref b3), .val (.int (1 : Int32)), .val (.int (0 : Int32)), .val (.int (0 : Int32)), .val (.int (0 : Int32)), .val (.int (1 : Int32)), .val (.int (1 : Int32)), .val (.int (1 : Int32)), .val (.int cnt)] [(.int (1 : Int32)), (.int (1 : Int32))]))
      refine go (fun tg kg => XS.iloadN X13.here hx rfl (hb hby at_85) rfl kg) ?_
      show G (T13.setTop (mkF m 86 #[.val (.int x0), .val (.int cnt), .val (.ref b3), .val (.int (1 : Int32)), .val (.int (0 : Int32)), .val (.int (0 : Int32)), .val (.int (0 : Int32)), .val (.int (1 : Int32)), .val (.int (1 : Int32)), .val (.int (1 : Int32)), .val (.int cnt)] [(.int cnt), (.int (1 : Int32)), (.int (1 : Int32))]))
      refine go (fun tg kg => XS.icmpNo X13.here hx rfl (hb hby at_86) rfl (flt (own_st hp1 1 (by decide))).2.2.1 kg) ?_
      show G (T13.setTop (mkF m 89 #[.val (.int x0), .val (.int cnt), .val (.ref b3), .val (.int (1 : Int32)), .val (.int (0 : Int32)), .val (.int (0 : Int32)), .val (.int (0 : Int32)), .val (.int (1 : Int32)), .val (.int (1 : Int32)), .val (.int (1 : Int32)), .val (.int cnt)] [(.int (1 : Int32))]))
      refine go (fun tg kg => XS.iconst X13.here hx rfl (hb hby at_89) kg) ?_
      show G (T13.setTop (mkF m 90 #[.val (.int x0), .val (.int cnt), .val (.ref b3), .val (.int (1 : Int32)), .val (.int (0 : Int32)), .val (.int (0 : Int32)), .val (.int (0 : Int32)), .val (.int (1 : Int32)), .val (.int (1 : Int32)), .val (.int (1 : Int32)), .val (.int cnt)] [(.int (1 : Int32)), (.int (1 : Int32))]))
      refine go (fun tg kg => XS.goto X13.here hx rfl (pc0 := 90) (pc' := 94) rfl (hb hby at_90) (by decide) (by decide) kg) ?_
      show G (T13.setTop (mkF m 94 #[.val (.int x0), .val (.int cnt), .val (.ref b3), .val (.int (1 : Int32)), .val (.int (0 : Int32)), .val (.int (0 : Int32)), .val (.int (0 : Int32)), .val (.int (1 : Int32)), .val (.int (1 : Int32)), .val (.int (1 : Int32)), .val (.int cnt)] [(.int (1 : Int32)), (.int (1 : Int32))]))
      refine go (fun tg kg => XS.icmpNo X13.here hx rfl (hb hby at_94) rfl (teq (by decide)).2 kg) ?_
      show G (T13.setTop (mkF m 97 #[.val (.int x0), .val (.int cnt), .val (.ref b3), .val (.int (1 : Int32)), .val (.int (0 : Int32)), .val (.int (0 : Int32)), .val (.int (0 : Int32)), .val (.int (1 : Int32)), .val (.int (1 : Int32)), .val (.int (1 : Int32)), .val (.int cnt)] []))
      refine go (fun tg kg => XS.iload X13.here hx rfl (hb hby at_97) rfl kg) ?_
      show G (T13.setTop (mkF m 99 #[.val (.int x0), .val (.int cnt), .val (.ref b3), .val (.int (1 : Int32)), .val (.int (0 : Int32)), .val (.int (0 : Int32)), .val (.int (0 : Int32)), .val (.int (1 : Int32)), .val (.int (1 : Int32)), .val (.int (1 : Int32)), .val (.int cnt)] [(.int (0 : Int32))]))
      refine go (fun tg kg => XS.iconst X13.here hx rfl (hb hby at_99) kg) ?_
      show G (T13.setTop (mkF m 100 #[.val (.int x0), .val (.int cnt), .val (.ref b3), .val (.int (1 : Int32)), .val (.int (0 : Int32)), .val (.int (0 : Int32)), .val (.int (0 : Int32)), .val (.int (1 : Int32)), .val (.int (1 : Int32)), .val (.int (1 : Int32)), .val (.int cnt)] [(.int (2 : Int32)), (.int (0 : Int32))]))
      refine go (fun tg kg => XS.iloadN X13.here hx rfl (hb hby at_100) rfl kg) ?_
      show G (T13.setTop (mkF m 101 #[.val (.int x0), .val (.int cnt), .val (.ref b3), .val (.int (1 : Int32)), .val (.int (0 : Int32)), .val (.int (0 : Int32)), .val (.int (0 : Int32)), .val (.int (1 : Int32)), .val (.int (1 : Int32)), .val (.int (1 : Int32)), .val (.int cnt)] [(.int cnt), (.int (2 : Int32)), (.int (0 : Int32))]))
      refine go (fun tg kg => XS.icmpYes X13.here hx rfl (pc0 := 101) (pc' := 108) rfl (hb hby at_101) rfl (tlt (own_wk hk1 2 (by decide))).2.2.1 (by decide) (by decide) kg) ?_
      show G (T13.setTop (mkF m 108 #[.val (.int x0), .val (.int cnt), .val (.ref b3), .val (.int (1 : Int32)), .val (.int (0 : Int32)), .val (.int (0 : Int32)), .val (.int (0 : Int32)), .val (.int (1 : Int32)), .val (.int (1 : Int32)), .val (.int (1 : Int32)), .val (.int cnt)] [(.int (0 : Int32))]))
      refine go (fun tg kg => XS.iconst X13.here hx rfl (hb hby at_108) kg) ?_
      show G (T13.setTop (mkF m 109 #[.val (.int x0), .val (.int cnt), .val (.ref b3), .val (.int (1 : Int32)), .val (.int (0 : Int32)), .val (.int (0 : Int32)), .val (.int (0 : Int32)), .val (.int (1 : Int32)), .val (.int (1 : Int32)), .val (.int (1 : Int32)), .val (.int cnt)] [(.int (0 : Int32)), (.int (0 : Int32))]))
      refine go (fun tg kg => XS.icmpNo X13.here hx rfl (hb hby at_109) rfl (teq (by decide)).2 kg) ?_
      show G (T13.setTop (mkF m 112 #[.val (.int x0), .val (.int cnt), .val (.ref b3), .val (.int (1 : Int32)), .val (.int (0 : Int32)), .val (.int (0 : Int32)), .val (.int (0 : Int32)), .val (.int (1 : Int32)), .val (.int (1 : Int32)), .val (.int (1 : Int32)), .val (.int cnt)] []))
      refine go (fun tg kg => XS.iload X13.here hx rfl (hb hby at_112) rfl kg) ?_
      show G (T13.setTop (mkF m 114 #[.val (.int x0), .val (.int cnt), .val (.ref b3), .val (.int (1 : Int32)), .val (.int (0 : Int32)), .val (.int (0 : Int32)), .val (.int (0 : Int32)), .val (.int (1 : Int32)), .val (.int (1 : Int32)), .val (.int (1 : Int32)), .val (.int cnt)] [(.int (0 : Int32))]))
      refine go (fun tg kg => XS.iconst X13.here hx rfl (hb hby at_114) kg) ?_
      show G (T13.setTop (mkF m 115 #[.val (.int x0), .val (.int cnt), .val (.ref b3), .val (.int (1 : Int32)), .val (.int (0 : Int32)), .val (.int (0 : Int32)), .val (.int (0 : Int32)), .val (.int (1 : Int32)), .val (.int (1 : Int32)), .val (.int (1 : Int32)), .val (.int cnt)] [(.int (3 : Int32)), (.int (0 : Int32))]))
      refine go (fun tg kg => XS.iloadN X13.here hx rfl (hb hby at_115) rfl kg) ?_
      show G (T13.setTop (mkF m 116 #[.val (.int x0), .val (.int cnt), .val (.ref b3), .val (.int (1 : Int32)), .val (.int (0 : Int32)), .val (.int (0 : Int32)), .val (.int (0 : Int32)), .val (.int (1 : Int32)), .val (.int (1 : Int32)), .val (.int (1 : Int32)), .val (.int cnt)] [(.int cnt), (.int (3 : Int32)), (.int (0 : Int32))]))
      refine go (fun tg kg => XS.icmpYes X13.here hx rfl (pc0 := 116) (pc' := 123) rfl (hb hby at_116) rfl (tlt (own_wk hk1 3 (by decide))).2.2.1 (by decide) (by decide) kg) ?_
      show G (T13.setTop (mkF m 123 #[.val (.int x0), .val (.int cnt), .val (.ref b3), .val (.int (1 : Int32)), .val (.int (0 : Int32)), .val (.int (0 : Int32)), .val (.int (0 : Int32)), .val (.int (1 : Int32)), .val (.int (1 : Int32)), .val (.int (1 : Int32)), .val (.int cnt)] [(.int (0 : Int32))]))
      refine go (fun tg kg => XS.iconst X13.here hx rfl (hb hby at_123) kg) ?_
      show G (T13.setTop (mkF m 124 #[.val (.int x0), .val (.int cnt), .val (.ref b3), .val (.int (1 : Int32)), .val (.int (0 : Int32)), .val (.int (0 : Int32)), .val (.int (0 : Int32)), .val (.int (1 : Int32)), .val (.int (1 : Int32)), .val (.int (1 : Int32)), .val (.int cnt)] [(.int (0 : Int32)), (.int (0 : Int32))]))
      refine go (fun tg kg => XS.icmpNo X13.here hx rfl (hb hby at_124) rfl (teq (by decide)).2 kg) ?_
      show G (T13.setTop (mkF m 127 #[.val (.int x0), .val (.int cnt), .val (.ref b3), .val (.int (1 : Int32)), .val (.int (0 : Int32)), .val (.int (0 : Int32)), .val (.int (0 : Int32)), .val (.int (1 : Int32)), .val (.int (1 : Int32)), .val (.int (1 : Int32)), .val (.int cnt)] []))
      refine go (fun tg kg => XS.iload X13.here hx rfl (hb hby at_127) rfl kg) ?_
      show G (T13.setTop (mkF m 129 #[.val (.int x0), .val (.int cnt), .val (.ref b3), .val (.int (1 : Int32)), .val (.int (0 : Int32)), .val (.int (0 : Int32)), .val (.int (0 : Int32)), .val (.int (1 : Int32)), .val (.int (1 : Int32)), .val (.int (1 : Int32)), .val (.int cnt)] [(.int (0 : Int32))]))
      refine go (fun tg kg => XS.iconst X13.here hx rfl (hb hby at_129) kg) ?_
      show G (T13.setTop (mkF m 130 #[.val (.int x0), .val (.int cnt), .val (.ref b3), .val (.int (1 : Int32)), .val (.int (0 : Int32)), .val (.int (0 : Int32)), .val (.int (0 : Int32)), .val (.int (1 : Int32)), .val (.int (1 : Int32)), .val (.int (1 : Int32)), .val (.int cnt)] [(.int (4 : Int32)), (.int (0 : Int32))]))
      refine go (fun tg kg => XS.iloadN X13.here hx rfl (hb hby at_130) rfl kg) ?_
      show G (T13.setTop (mkF m 131 #[.val (.int x0), .val (.int cnt), .val (.ref b3), .val (.int (1 : Int32)), .val (.int (0 : Int32)), .val (.int (0 : Int32)), .val (.int (0 : Int32)), .val (.int (1 : Int32)), .val (.int (1 : Int32)), .val (.int (1 : Int32)), .val (.int cnt)] [(.int cnt), (.int (4 : Int32)), (.int (0 : Int32))]))
      refine go (fun tg kg => XS.icmpYes X13.here hx rfl (pc0 := 131) (pc' := 138) rfl (hb hby at_131) rfl (tlt (own_wk hk1 4 (by decide))).2.2.1 (by decide) (by decide) kg) ?_
      show G (T13.setTop (mkF m 138 #[.val (.int x0), .val (.int cnt), .val (.ref b3), .val (.int (1 : Int32)), .val (.int (0 : Int32)), .val (.int (0 : Int32)), .val (.int (0 : Int32)), .val (.int (1 : Int32)), .val (.int (1 : Int32)), .val (.int (1 : Int32)), .val (.int cnt)] [(.int (0 : Int32))]))
      refine go (fun tg kg => XS.iconst X13.here hx rfl (hb hby at_138) kg) ?_
      show G (T13.setTop (mkF m 139 #[.val (.int x0), .val (.int cnt), .val (.ref b3), .val (.int (1 : Int32)), .val (.int (0 : Int32)), .val (.int (0 : Int32)), .val (.int (0 : Int32)), .val (.int (1 : Int32)), .val (.int (1 : Int32)), .val (.int (1 : Int32)), .val (.int cnt)] [(.int (0 : Int32)), (.int (0 : Int32))]))
      refine go (fun tg kg => XS.icmpNo X13.here hx rfl (hb hby at_139) rfl (teq (by decide)).2 kg) ?_
      show G (T13.setTop (mkF m 142 #[.val (.int x0), .val (.int cnt), .val (.ref b3), .val (.int (1 : Int32)), .val (.int (0 : Int32)), .val (.int (0 : Int32)), .val (.int (0 : Int32)), .val (.int (1 : Int32)), .val (.int (1 : Int32)), .val (.int (1 : Int32)), .val (.int cnt)] []))
      refine go (fun tg kg => XS.iload X13.here hx rfl (hb hby at_142) rfl kg) ?_
      show G (T13.setTop (mkF m 144 #[.val (.int x0), .val (.int cnt), .val (.ref b3), .val (.int (1 : Int32)), .val (.int (0 : Int32)), .val (.int (0 : Int32)), .val (.int (0 : Int32)), .val (.int (1 : Int32)), .val (.int (1 : Int32)), .val (.int (1 : Int32)), .val (.int cnt)] [(.int (1 : Int32))]))
      refine go (fun tg kg => XS.iload X13.here hx rfl (hb hby at_144) rfl kg) ?_
      show G (T13.setTop (mkF m 146 #[.val (.int x0), .val (.int cnt), .val (.ref b3), .val (.int (1 : Int32)), .val (.int (0 : Int32)), .val (.int (0 : Int32)), .val (.int (0 : Int32)), .val (.int (1 : Int32)), .val (.int (1 : Int32)), .val (.int (1 : Int32)), .val (.int cnt)] [(.int cnt), (.int (1 : Int32))]))
      refine go (fun tg kg => XS.icmpNo X13.here hx rfl (hb hby at_146) rfl (teq (own_eq hk1 hp1 (by decide))).2 kg) ?_
      show G (T13.setTop (mkF m 149 #[.val (.int x0), .val (.int cnt), .val (.ref b3), .val (.int (1 : Int32)), .val (.int (0 : Int32)), .val (.int (0 : Int32)), .val (.int (0 : Int32)), .val (.int (1 : Int32)), .val (.int (1 : Int32)), .val (.int (1 : Int32)), .val (.int cnt)] []))
      refine go (fun tg kg => XS.iload X13.here hx rfl (hb hby at_149) rfl kg) ?_
      show G (T13.setTop (mkF m 151 #[.val (.int x0), .val (.int cnt), .val (.ref b3), .val (.int (1 : Int32)), .val (.int (0 : Int32)), .val (.int (0 : Int32)), .val (.int (0 : Int32)), .val (.int (1 : Int32)), .val (.int (1 : Int32)), .val (.int (1 : Int32)), .val (.int cnt)] [(.int (1 : Int32))]))
      refine go (fun tg kg => XS.ifNo X13.here hx rfl (hb hby at_151) rfl ((if0 _ _).trans (feq (by decide)).1) kg) ?_
      show G (T13.setTop (mkF m 154 #[.val (.int x0), .val (.int cnt), .val (.ref b3), .val (.int (1 : Int32)), .val (.int (0 : Int32)), .val (.int (0 : Int32)), .val (.int (0 : Int32)), .val (.int (1 : Int32)), .val (.int (1 : Int32)), .val (.int (1 : Int32)), .val (.int cnt)] []))
      refine go (fun tg kg => XS.iload X13.here hx rfl (hb hby at_154) rfl kg) ?_
      show G (T13.setTop (mkF m 156 #[.val (.int x0), .val (.int cnt), .val (.ref b3), .val (.int (1 : Int32)), .val (.int (0 : Int32)), .val (.int (0 : Int32)), .val (.int (0 : Int32)), .val (.int (1 : Int32)), .val (.int (1 : Int32)), .val (.int (1 : Int32)), .val (.int cnt)] [(.int (1 : Int32))]))
      refine go (fun tg kg => XS.iload X13.here hx rfl (hb hby at_156) rfl kg) ?_
      show G (T13.setTop (mkF m 158 #[.val (.int x0), .val (.int cnt), .val (.ref b3), .val (.int (1 : Int32)), .val (.int (0 : Int32)), .val (.int (0 : Int32)), .val (.int (0 : Int32)), .val (.int (1 : Int32)), .val (.int (1 : Int32)), .val (.int (1 : Int32)), .val (.int cnt)] [(.int cnt), (.int (1 : Int32))]))
      refine go (fun tg kg => XS.icmpNo X13.here hx rfl (hb hby at_158) rfl (teq (own_eq hk1 hp1 (by decide))).2 kg) ?_
      show G (T13.setTop (mkF m 161 #[.val (.int x0), .val (.int cnt), .val (.ref b3), .val (.int (1 : Int32)), .val (.int (0 : Int32)), .val (.int (0 : Int32)), .val (.int (0 : Int32)), .val (.int (1 : Int32)), .val (.int (1 : Int32)), .val (.int (1 : Int32)), .val (.int cnt)] []))
      refine go (fun tg kg => XS.iconst X13.here hx rfl (hb hby at_161) kg) ?_
      show G (T13.setTop (mkF m 162 #[.val (.int x0), .val (.int cnt), .val (.ref b3), .val (.int (1 : Int32)), .val (.int (0 : Int32)), .val (.int (0 : Int32)), .val (.int (0 : Int32)), .val (.int (1 : Int32)), .val (.int (1 : Int32)), .val (.int (1 : Int32)), .val (.int cnt)] [(.int (1 : Int32))]))
      refine go (fun tg kg => XS.goto X13.here hx rfl (pc0 := 162) (pc' := 166) rfl (hb hby at_162) (by decide) (by decide) kg) ?_
      show G (T13.setTop (mkF m 166 #[.val (.int x0), .val (.int cnt), .val (.ref b3), .val (.int (1 : Int32)), .val (.int (0 : Int32)), .val (.int (0 : Int32)), .val (.int (0 : Int32)), .val (.int (1 : Int32)), .val (.int (1 : Int32)), .val (.int (1 : Int32)), .val (.int cnt)] [(.int (1 : Int32))]))
      refine fin (some (.int (1 : Int32))) X13 (fun h => absurd h (by decide)) (fun fs hr => retN X13 hx (t := .boolean) hret (by simp) (hb hby at_166) hr) (by decide) (by decide) ?_
      rw [e13]
      exact ⟨rfl, N13⟩
    · have hp2 := hk1
      by_cases hk2 : cnt < (3 : Int32)
      · skip
        obtain ⟨T14, h14, X14, e14, E14, A14, D14, -, st14⟩ := newO X2 hx hZ hown (hw _ (List.mem_of_getElem? (i := 4) rfl)) (hw _ (List.mem_of_getElem? (i := 5) rfl)) (hw _ (List.mem_of_getElem? (i := 6) rfl)) e2 (g := (mkF m 22 #[.val (.int x0), .val (.int cnt), .unset, .unset, .unset, .unset, .unset, .unset, .unset, .unset, .unset] [])) rfl (hb hby at_22) (by decide) (by decide)
        obtain ⟨b14, g14⟩ : ∃ z, z = h0.size := ⟨_, rfl⟩
        rw [← g14] at A14 D14 st14
        refine go st14 ?_
        have ge_b14 : n0 ≤ b14 := Nat.le_trans Z0 (Nat.le_of_eq g14.symm)
        have Z14 := Nat.le_trans Z0 E14.1
        have F14_held : Fld Z h14 b14 "com/example/drumline/drumline/engine/Slots" "held" "Ljava/util/Deque;" .null := D14 (Or.inr (hw _ (List.mem_of_getElem? (i := 31) rfl))) (ty := (.object "java/util/Deque")) (by decide)
        have F14_count : Fld Z h14 b14 "com/example/drumline/drumline/engine/Slots" "count" "I" (.int (0 : Int32)) := D14 (Or.inr (hw _ (List.mem_of_getElem? (i := 33) rfl))) (ty := .int) (by decide)
        have F14_taken : Fld Z h14 b14 "com/example/drumline/drumline/engine/Slots" "taken" "I" (.int (0 : Int32)) := D14 (Or.inl (hw _ (List.mem_of_getElem? (i := 40) rfl))) (ty := .int) (by decide)
        show G (T14.setTop (mkF m 25 #[.val (.int x0), .val (.int cnt), .unset, .unset, .unset, .unset, .unset, .unset, .unset, .unset, .unset] [(.ref b14)]))
        refine go (fun tg kg => XS.dup X14.here hx rfl (hb hby at_25) rfl rfl kg) ?_
        show G (T14.setTop (mkF m 26 #[.val (.int x0), .val (.int cnt), .unset, .unset, .unset, .unset, .unset, .unset, .unset, .unset, .unset] [(.ref b14), (.ref b14)]))
        refine go (fun tg kg => XS.iloadN X14.here hx rfl (hb hby at_26) rfl kg) ?_
        show G (T14.setTop (mkF m 27 #[.val (.int x0), .val (.int cnt), .unset, .unset, .unset, .unset, .unset, .unset, .unset, .unset, .unset] [(.int cnt), (.ref b14), (.ref b14)]))
        obtain ⟨_, _, ⟨T15, L15, k15, n15⟩, -, X15, ⟨Lc15, hQ15, l15, y15, z15⟩, st15⟩ := X14.specialBack hx (y := (⟨"com/example/drumline/drumline/engine/Slots", "<init>", "(I)V"⟩ : MethodName)) rfl hown (mvT hZ (hw _ (List.mem_of_getElem? (i := 7) rfl))) (mvT hZ (hw _ (List.mem_of_getElem? (i := 8) rfl))) (mvT hZ (hw _ (List.mem_of_getElem? (i := 9) rfl))) (by decide) (backOf (W := 1) (rm2 l Z a0 hw [] b14 cnt h14 n0 Z14 A14 ge_b14 F14_held F14_count F14_taken) hZ (hw _ (List.mem_of_getElem? (i := 9) rfl)) (hw _ (List.mem_of_getElem? (i := 6) rfl)) (by decide) (by decide)) (g := (mkF m 27 #[.val (.int x0), .val (.int cnt), .unset, .unset, .unset, .unset, .unset, .unset, .unset, .unset, .unset] [(.int cnt), (.ref b14), (.ref b14)])) rfl (by rw [hml]; rfl) (Steps.refl _) (a := b14) (argsL := [(.int cnt)]) (rest := [(.ref b14)]) (lenOf pd__I_V rfl) rfl (by show 2 * 0 + _ ≤ _; exact Nat.le_of_eq rfl) (hb hby at_27) (fun _ _ => ⟨rfl, e14, (by decide : 1 + 2 ≤ _), (by decide : 3 + 20 ≤ _)⟩)
        dsimp only [Pt.U, Pt.locs, Pt.cells, Pt.slots] at X15 l15 y15 z15 st15 hQ15
        subst l15 y15 z15
        obtain ⟨rfl, Nq15, K15, Ge15, Gf15_count, Gf15_taken⟩ := hQ15
        have Z15 := Nat.le_trans Z14 K15.1
        have N15 := Fr.app N2 Nq15
        refine go (fun tg kg => st15.trans kg) ?_
        show G (T15.setTop (mkF m 30 #[.val (.int x0), .val (.int cnt), .unset, .unset, .unset, .unset, .unset, .unset, .unset, .unset, .unset] [(.ref b14)]))
        refine go (fun tg kg => XS.astoreN X15.here hx rfl (hb hby at_30) rfl rfl (l' := #[.val (.int x0), .val (.int cnt), .val (.ref b14), .unset, .unset, .unset, .unset, .unset, .unset, .unset, .unset]) rfl kg) ?_
        show G (T15.setTop (mkF m 31 #[.val (.int x0), .val (.int cnt), .val (.ref b14), .unset, .unset, .unset, .unset, .unset, .unset, .unset, .unset] []))
        refine go (fun tg kg => XS.aloadN X15.here hx rfl (hb hby at_31) rfl rfl kg) ?_
        show G (T15.setTop (mkF m 32 #[.val (.int x0), .val (.int cnt), .val (.ref b14), .unset, .unset, .unset, .unset, .unset, .unset, .unset, .unset] [(.ref b14)]))
        obtain ⟨cq16, kq16, q16a, q16b, q16c⟩ := isOf hZ rfl Ge15
        obtain ⟨_, _, ⟨T16, L16, k16, n16⟩, -, X16, ⟨Lc16, hQ16, l16, y16, z16⟩, st16⟩ := X15.virtualBack hx (y := (⟨"com/example/drumline/drumline/engine/Slots", "take", "()Z"⟩ : MethodName)) (z := (⟨"com/example/drumline/drumline/engine/Slots", "take", "()Z"⟩ : MethodName)) hown (mvT hZ (hw _ (List.mem_of_getElem? (i := 34) rfl))) (mvT hZ (hw _ (List.mem_of_getElem? (i := 35) rfl))) (notFace_of_selects (args := #[]) (mvT hZ (hw _ (List.mem_of_getElem? (i := 37) rfl)))) (mvT hZ (hw _ (List.mem_of_getElem? (i := 37) rfl))) (mvT hZ (hw _ (List.mem_of_getElem? (i := 36) rfl))) (by decide) (backOf (W := 0) (rm6_1 l Z a0 hw [] b14 cnt (0 : Int32) T15.heap n0 Z15 Ge15 ge_b14 Gf15_count Gf15_taken (own_up hp2 0 (by decide))) hZ (hw _ (List.mem_of_getElem? (i := 38) rfl)) (hw _ (List.mem_of_getElem? (i := 6) rfl)) (by decide) (by decide)) q16a q16c (g := (mkF m 32 #[.val (.int x0), .val (.int cnt), .val (.ref b14), .unset, .unset, .unset, .unset, .unset, .unset, .unset, .unset] [(.ref b14)])) rfl (by rw [hml]; rfl) (Steps.refl _) (argsL := []) (rest := []) (lenOf pd___Z rfl) rfl (by show 2 * 0 + _ ≤ _; exact Nat.le_of_eq rfl) (hb hby at_32) (fun _ _ => ⟨rfl, rfl, (by decide : 3 + 0 ≤ _), (by decide : 23 + 0 ≤ _)⟩)
        dsimp only [Pt.U, Pt.locs, Pt.cells, Pt.slots] at X16 l16 y16 z16 st16 hQ16
        subst l16 y16 z16
        obtain ⟨rfl, Nq16, K16, Ge16, Gf16_count, Gf16_taken⟩ := hQ16
        have Z16 := Nat.le_trans Z15 K16.1
        replace Gf16_taken : Fld Z T16.heap b14 "com/example/drumline/drumline/engine/Slots" "taken" "I" (.int (1 : Int32)) := Gf16_taken
        have N16 := Fr.app N15 Nq16
        refine go (fun tg kg => st16.trans kg) ?_
        show G (T16.setTop (mkF m 35 #[.val (.int x0), .val (.int cnt), .val (.ref b14), .unset, .unset, .unset, .unset, .unset, .unset, .unset, .unset] [(.int (1 : Int32))]))
        refine go (fun tg kg => XS.istoreN X16.here hx rfl (hb hby at_35) rfl (l' := #[.val (.int x0), .val (.int cnt), .val (.ref b14), .val (.int (1 : Int32)), .unset, .unset, .unset, .unset, .unset, .unset, .unset]) rfl kg) ?_
        show G (T16.setTop (mkF m 36 #[.val (.int x0), .val (.int cnt), .val (.ref b14), .val (.int (1 : Int32)), .unset, .unset, .unset, .unset, .unset, .unset, .unset] []))
        refine go (fun tg kg => XS.aloadN X16.here hx rfl (hb hby at_36) rfl rfl kg) ?_
        show G (T16.setTop (mkF m 37 #[.val (.int x0), .val (.int cnt), .val (.ref b14), .val (.int (1 : Int32)), .unset, .unset, .unset, .unset, .unset, .unset, .unset] [(.ref b14)]))
        obtain ⟨cq17, kq17, q17a, q17b, q17c⟩ := isOf hZ rfl Ge16
        obtain ⟨_, _, ⟨T17, L17, k17, n17⟩, -, X17, ⟨Lc17, hQ17, l17, y17, z17⟩, st17⟩ := X16.virtualBack hx (y := (⟨"com/example/drumline/drumline/engine/Slots", "take", "()Z"⟩ : MethodName)) (z := (⟨"com/example/drumline/drumline/engine/Slots", "take", "()Z"⟩ : MethodName)) hown (mvT hZ (hw _ (List.mem_of_getElem? (i := 34) rfl))) (mvT hZ (hw _ (List.mem_of_getElem? (i := 35) rfl))) (notFace_of_selects (args := #[]) (mvT hZ (hw _ (List.mem_of_getElem? (i := 37) rfl)))) (mvT hZ (hw _ (List.mem_of_getElem? (i := 37) rfl))) (mvT hZ (hw _ (List.mem_of_getElem? (i := 36) rfl))) (by decide) (backOf (W := 0) (rm6_1 l Z a0 hw [] b14 cnt (1 : Int32) T16.heap n0 Z16 Ge16 ge_b14 Gf16_count Gf16_taken (own_up hp2 1 (by decide))) hZ (hw _ (List.mem_of_getElem? (i := 38) rfl)) (hw _ (List.mem_of_getElem? (i := 6) rfl)) (by decide) (by decide)) q17a q17c (g := (mkF m 37 #[.val (.int x0), .val (.int cnt), .val (.ref b14), .val (.int (1 : Int32)), .unset, .unset, .unset, .unset, .unset, .unset, .unset] [(.ref b14)])) rfl (by rw [hml]; rfl) (Steps.refl _) (argsL := []) (rest := []) (lenOf pd___Z rfl) rfl (by show 2 * 0 + _ ≤ _; exact Nat.le_of_eq rfl) (hb hby at_37) (fun _ _ => ⟨rfl, rfl, (by decide : 3 + 0 ≤ _), (by decide : 23 + 0 ≤ _)⟩)
        dsimp only [Pt.U, Pt.locs, Pt.cells, Pt.slots] at X17 l17 y17 z17 st17 hQ17
        subst l17 y17 z17
        obtain ⟨rfl, Nq17, K17, Ge17, Gf17_count, Gf17_taken⟩ := hQ17
        have Z17 := Nat.le_trans Z16 K17.1
        replace Gf17_taken : Fld Z T17.heap b14 "com/example/drumline/drumline/engine/Slots" "taken" "I" (.int (2 : Int32)) := Gf17_taken
        have N17 := Fr.app N16 Nq17
        refine go (fun tg kg => st17.trans kg) ?_
        show G (T17.setTop (mkF m 40 #[.val (.int x0), .val (.int cnt), .val (.ref b14), .val (.int (1 : Int32)), .unset, .unset, .unset, .unset, .unset, .unset, .unset] [(.int (1 : Int32))]))
        refine go (fun tg kg => XS.istore X17.here hx rfl (hb hby at_40) rfl (l' := #[.val (.int x0), .val (.int cnt), .val (.ref b14), .val (.int (1 : Int32)), .val (.int (1 : Int32)), .unset, .unset, .unset, .unset, .unset, .unset]) rfl kg) ?_
        show G (T17.setTop (mkF m 42 #[.val (.int x0), .val (.int cnt), .val (.ref b14), .val (.int (1 : Int32)), .val (.int (1 : Int32)), .unset, .unset, .unset, .unset, .unset, .unset] []))
        refine go (fun tg kg => XS.aloadN X17.here hx rfl (hb hby at_42) rfl rfl kg) ?_
        show G (T17.setTop (mkF m 43 #[.val (.int x0), .val (.int cnt), .val (.ref b14), .val (.int (1 : Int32)), .val (.int (1 : Int32)), .unset, .unset, .unset, .unset, .unset, .unset] [(.ref b14)]))
        obtain ⟨cq18, kq18, q18a, q18b, q18c⟩ := isOf hZ rfl Ge17
        obtain ⟨_, _, ⟨T18, L18, k18, n18⟩, -, X18, ⟨Lc18, hQ18, l18, y18, z18⟩, st18⟩ := X17.virtualBack hx (y := (⟨"com/example/drumline/drumline/engine/Slots", "take", "()Z"⟩ : MethodName)) (z := (⟨"com/example/drumline/drumline/engine/Slots", "take", "()Z"⟩ : MethodName)) hown (mvT hZ (hw _ (List.mem_of_getElem? (i := 34) rfl))) (mvT hZ (hw _ (List.mem_of_getElem? (i := 35) rfl))) (notFace_of_selects (args := #[]) (mvT hZ (hw _ (List.mem_of_getElem? (i := 37) rfl)))) (mvT hZ (hw _ (List.mem_of_getElem? (i := 37) rfl))) (mvT hZ (hw _ (List.mem_of_getElem? (i := 36) rfl))) (by decide) (backOf (W := 0) (rm6_0 l Z a0 hw [] b14 cnt (2 : Int32) T17.heap n0 Z17 Ge17 ge_b14 Gf17_count Gf17_taken (own_dn hk2 2 (by decide))) hZ (hw _ (List.mem_of_getElem? (i := 38) rfl)) (hw _ (List.mem_of_getElem? (i := 6) rfl)) (by decide) (by decide)) q18a q18c (g := (mkF m 43 #[.val (.int x0), .val (.int cnt), .val (.ref b14), .val (.int (1 : Int32)), .val (.int (1 : Int32)), .unset, .unset, .unset, .unset, .unset, .unset] [(.ref b14)])) rfl (by rw [hml]; rfl) (Steps.refl _) (argsL := []) (rest := []) (lenOf pd___Z rfl) rfl (by show 2 * 0 + _ ≤ _; exact Nat.le_of_eq rfl) (hb hby at_43) (fun _ _ => ⟨rfl, rfl, (by decide : 3 + 0 ≤ _), (by decide : 23 + 0 ≤ _)⟩)
        dsimp only [Pt.U, Pt.locs, Pt.cells, Pt.slots] at X18 l18 y18 z18 st18 hQ18
        subst l18 y18 z18
        obtain ⟨rfl, Nq18, K18, Ge18, Gf18_count, Gf18_taken⟩ := hQ18
        have Z18 := Nat.le_trans Z17 K18.1
        replace Gf18_taken : Fld Z T18.heap b14 "com/example/drumline/drumline/engine/Slots" "taken" "I" (.int (2 : Int32)) := Gf18_taken
        have N18 := Fr.app N17 Nq18
        refine go (fun tg kg => st18.trans kg) ?_
        show G (T18.setTop (mkF m 46 #[.val (.int x0), .val (.int cnt), .val (.ref b14), .val (.int (1 : Int32)), .val (.int (1 : Int32)), .unset, .unset, .unset, .unset, .unset, .unset] [(.int (0 : Int32))]))
        refine go (fun tg kg => XS.istore X18.here hx rfl (hb hby at_46) rfl (l' := #[.val (.int x0), .val (.int cnt), .val (.ref b14), .val (.int (1 : Int32)), .val (.int (1 : Int32)), .val (.int (0 : Int32)), .unset, .unset, .unset, .unset, .unset]) rfl kg) ?_
        show G (T18.setTop (mkF m 48 #[.val (.int x0), .val (.int cnt), .val (.ref b14), .val (.int (1 : Int32)), .val (.int (1 : Int32)), .val (.int (0 : Int32)), .unset, .unset, .unset, .unset, .unset] []))
        refine go (fun tg kg => XS.aloadN X18.here hx rfl (hb hby at_48) rfl rfl kg) ?_
        show G (T18.setTop (mkF m 49 #[.val (.int x0), .val (.int cnt), .val (.ref b14), .val (.int (1 : Int32)), .val (.int (1 : Int32)), .val (.int (0 : Int32)), .unset, .unset, .unset, .unset, .unset] [(.ref b14)]))
        obtain ⟨cq19, kq19, q19a, q19b, q19c⟩ := isOf hZ rfl Ge18
        obtain ⟨_, _, ⟨T19, L19, k19, n19⟩, -, X19, ⟨Lc19, hQ19, l19, y19, z19⟩, st19⟩ := X18.virtualBack hx (y := (⟨"com/example/drumline/drumline/engine/Slots", "take", "()Z"⟩ : MethodName)) (z := (⟨"com/example/drumline/drumline/engine/Slots", "take", "()Z"⟩ : MethodName)) hown (mvT hZ (hw _ (List.mem_of_getElem? (i := 34) rfl))) (mvT hZ (hw _ (List.mem_of_getElem? (i := 35) rfl))) (notFace_of_selects (args := #[]) (mvT hZ (hw _ (List.mem_of_getElem? (i := 37) rfl)))) (mvT hZ (hw _ (List.mem_of_getElem? (i := 37) rfl))) (mvT hZ (hw _ (List.mem_of_getElem? (i := 36) rfl))) (by decide) (backOf (W := 0) (rm6_0 l Z a0 hw [] b14 cnt (2 : Int32) T18.heap n0 Z18 Ge18 ge_b14 Gf18_count Gf18_taken (own_dn hk2 2 (by decide))) hZ (hw _ (List.mem_of_getElem? (i := 38) rfl)) (hw _ (List.mem_of_getElem? (i := 6) rfl)) (by decide) (by decide)) q19a q19c (g := (mkF m 49 #[.val (.int x0), .val (.int cnt), .val (.ref b14), .val (.int (1 : Int32)), .val (.int (1 : Int32)), .val (.int (0 : Int32)), .unset, .unset, .unset, .unset, .unset] [(.ref b14)])) rfl (by rw [hml]; rfl) (Steps.refl _) (argsL := []) (rest := []) (lenOf pd___Z rfl) rfl (by show 2 * 0 + _ ≤ _; exact Nat.le_of_eq rfl) (hb hby at_49) (fun _ _ => ⟨rfl, rfl, (by decide : 3 + 0 ≤ _), (by decide : 23 + 0 ≤ _)⟩)
        dsimp only [Pt.U, Pt.locs, Pt.cells, Pt.slots] at X19 l19 y19 z19 st19 hQ19
        subst l19 y19 z19
        obtain ⟨rfl, Nq19, K19, Ge19, Gf19_count, Gf19_taken⟩ := hQ19
        have Z19 := Nat.le_trans Z18 K19.1
        replace Gf19_taken : Fld Z T19.heap b14 "com/example/drumline/drumline/engine/Slots" "taken" "I" (.int (2 : Int32)) := Gf19_taken
        have N19 := Fr.app N18 Nq19
        refine go (fun tg kg => st19.trans kg) ?_
        show G (T19.setTop (mkF m 52 #[.val (.int x0), .val (.int cnt), .val (.ref b14), .val (.int (1 : Int32)), .val (.int (1 : Int32)), .val (.int (0 : Int32)), .unset, .unset, .unset, .unset, .unset] [(.int (0 : Int32))]))
        refine go (fun tg kg => XS.istore X19.here hx rfl (hb hby at_52) rfl (l' := #[.val (.int x0), .val (.int cnt), .val (.ref b14), .val (.int (1 : Int32)), .val (.int (1 : Int32)), .val (.int (0 : Int32)), .val (.int (0 : Int32)), .unset, .unset, .unset, .unset]) rfl kg) ?_
        show G (T19.setTop (mkF m 54 #[.val (.int x0), .val (.int cnt), .val (.ref b14), .val (.int (1 : Int32)), .val (.int (1 : Int32)), .val (.int (0 : Int32)), .val (.int (0 : Int32)), .unset, .unset, .unset, .unset] []))
        refine go (fun tg kg => XS.aloadN X19.here hx rfl (hb hby at_54) rfl rfl kg) ?_
        show G (T19.setTop (mkF m 55 #[.val (.int x0), .val (.int cnt), .val (.ref b14), .val (.int (1 : Int32)), .val (.int (1 : Int32)), .val (.int (0 : Int32)), .val (.int (0 : Int32)), .unset, .unset, .unset, .unset] [(.ref b14)]))
        obtain ⟨cq20, kq20, q20a, q20b, q20c⟩ := isOf hZ rfl Ge19
        obtain ⟨_, _, ⟨T20, L20, k20, n20⟩, -, X20, ⟨Lc20, hQ20, l20, y20, z20⟩, st20⟩ := X19.virtualBack hx (y := (⟨"com/example/drumline/drumline/engine/Slots", "taken", "()I"⟩ : MethodName)) (z := (⟨"com/example/drumline/drumline/engine/Slots", "taken", "()I"⟩ : MethodName)) hown (mvT hZ (hw _ (List.mem_of_getElem? (i := 41) rfl))) (mvT hZ (hw _ (List.mem_of_getElem? (i := 42) rfl))) (notFace_of_selects (args := #[]) (mvT hZ (hw _ (List.mem_of_getElem? (i := 44) rfl)))) (mvT hZ (hw _ (List.mem_of_getElem? (i := 44) rfl))) (mvT hZ (hw _ (List.mem_of_getElem? (i := 43) rfl))) (by decide) (backOf (W := 0) (rm7 l Z a0 hw [] b14 (2 : Int32) T19.heap n0 Z19 Gf19_taken) hZ (hw _ (List.mem_of_getElem? (i := 45) rfl)) (hw _ (List.mem_of_getElem? (i := 6) rfl)) (by decide) (by decide)) q20a q20c (g := (mkF m 55 #[.val (.int x0), .val (.int cnt), .val (.ref b14), .val (.int (1 : Int32)), .val (.int (1 : Int32)), .val (.int (0 : Int32)), .val (.int (0 : Int32)), .unset, .unset, .unset, .unset] [(.ref b14)])) rfl (by rw [hml]; rfl) (Steps.refl _) (argsL := []) (rest := []) (lenOf pd___I rfl) rfl (by show 2 * 0 + _ ≤ _; exact Nat.le_of_eq rfl) (hb hby at_55) (fun _ _ => ⟨rfl, rfl, (by decide : 3 + 0 ≤ _), (by decide : 23 + 0 ≤ _)⟩)
        dsimp only [Pt.U, Pt.locs, Pt.cells, Pt.slots] at X20 l20 y20 z20 st20 hQ20
        subst l20 y20 z20
        obtain ⟨rfl, Nq20, e20⟩ := hQ20
        have N20 := Fr.app N19 Nq20
        refine go (fun tg kg => st20.trans kg) ?_
        show G (T20.setTop (mkF m 58 #[.val (.int x0), .val (.int cnt), .val (.ref b14), .val (.int (1 : Int32)), .val (.int (1 : Int32)), .val (.int (0 : Int32)), .val (.int (0 : Int32)), .unset, .unset, .unset, .unset] [(.int (2 : Int32))]))
        refine go (fun tg kg => XS.istore X20.here hx rfl (hb hby at_58) rfl (l' := #[.val (.int x0), .val (.int cnt), .val (.ref b14), .val (.int (1 : Int32)), .val (.int (1 : Int32)), .val (.int (0 : Int32)), .val (.int (0 : Int32)), .val (.int (2 : Int32)), .unset, .unset, .unset]) rfl kg) ?_
        show G (T20.setTop (mkF m 60 #[.val (.int x0), .val (.int cnt), .val (.ref b14), .val (.int (1 : Int32)), .val (.int (1 : Int32)), .val (.int (0 : Int32)), .val (.int (0 : Int32)), .val (.int (2 : Int32)), .unset, .unset, .unset] []))
        refine go (fun tg kg => XS.aloadN X20.here hx rfl (hb hby at_60) rfl rfl kg) ?_
        show G (T20.setTop (mkF m 61 #[.val (.int x0), .val (.int cnt), .val (.ref b14), .val (.int (1 : Int32)), .val (.int (1 : Int32)), .val (.int (0 : Int32)), .val (.int (0 : Int32)), .val (.int (2 : Int32)), .unset, .unset, .unset] [(.ref b14)]))
        obtain ⟨cq21, kq21, q21a, q21b, q21c⟩ := isOf hZ e20 Ge19
        obtain ⟨_, _, ⟨T21, L21, k21, n21⟩, -, X21, ⟨Lc21, hQ21, l21, y21, z21⟩, st21⟩ := X20.virtualBack hx (y := (⟨"com/example/drumline/drumline/engine/Slots", "free", "()V"⟩ : MethodName)) (z := (⟨"com/example/drumline/drumline/engine/Slots", "free", "()V"⟩ : MethodName)) hown (mvT hZ (hw _ (List.mem_of_getElem? (i := 46) rfl))) (mvT hZ (hw _ (List.mem_of_getElem? (i := 47) rfl))) (notFace_of_selects (args := #[]) (mvT hZ (hw _ (List.mem_of_getElem? (i := 49) rfl)))) (mvT hZ (hw _ (List.mem_of_getElem? (i := 49) rfl))) (mvT hZ (hw _ (List.mem_of_getElem? (i := 48) rfl))) (by decide) (backOf (W := 0) (rm8 l Z a0 hw [] b14 cnt (2 : Int32) T19.heap n0 Z19 Ge19 ge_b14 Gf19_count Gf19_taken) hZ (hw _ (List.mem_of_getElem? (i := 50) rfl)) (hw _ (List.mem_of_getElem? (i := 6) rfl)) (by decide) (by decide)) q21a q21c (g := (mkF m 61 #[.val (.int x0), .val (.int cnt), .val (.ref b14), .val (.int (1 : Int32)), .val (.int (1 : Int32)), .val (.int (0 : Int32)), .val (.int (0 : Int32)), .val (.int (2 : Int32)), .unset, .unset, .unset] [(.ref b14)])) rfl (by rw [hml]; rfl) (Steps.refl _) (argsL := []) (rest := []) (lenOf pd___V rfl) rfl (by show 2 * 0 + _ ≤ _; exact Nat.le_of_eq rfl) (hb hby at_61) (fun _ _ => ⟨rfl, e20, (by decide : 3 + 0 ≤ _), (by decide : 23 + 0 ≤ _)⟩)
        dsimp only [Pt.U, Pt.locs, Pt.cells, Pt.slots] at X21 l21 y21 z21 st21 hQ21
        subst l21 y21 z21
        obtain ⟨rfl, Nq21, K21, Ge21, Gf21_count, Gf21_taken⟩ := hQ21
        have Z21 := Nat.le_trans Z19 K21.1
        replace Gf21_taken : Fld Z T21.heap b14 "com/example/drumline/drumline/engine/Slots" "taken" "I" (.int (1 : Int32)) := Gf21_taken
        have N21 := Fr.app N20 Nq21
        refine go (fun tg kg => st21.trans kg) ?_
        show G (T21.setTop (mkF m 64 #[.val (.int x0), .val (.int cnt), .val (.ref b14), .val (.int (1 : Int32)), .val (.int (1 : Int32)), .val (.int (0 : Int32)), .val (.int (0 : Int32)), .val (.int (2 : Int32)), .unset, .unset, .unset] []))
        refine go (fun tg kg => XS.aloadN X21.here hx rfl (hb hby at_64) rfl rfl kg) ?_
        show G (T21.setTop (mkF m 65 #[.val (.int x0), .val (.int cnt), .val (.ref b14), .val (.int (1 : Int32)), .val (.int (1 : Int32)), .val (.int (0 : Int32)), .val (.int (0 : Int32)), .val (.int (2 : Int32)), .unset, .unset, .unset] [(.ref b14)]))
        obtain ⟨cq22, kq22, q22a, q22b, q22c⟩ := isOf hZ rfl Ge21
        obtain ⟨_, _, ⟨T22, L22, k22, n22⟩, -, X22, ⟨Lc22, hQ22, l22, y22, z22⟩, st22⟩ := X21.virtualBack hx (y := (⟨"com/example/drumline/drumline/engine/Slots", "take", "()Z"⟩ : MethodName)) (z := (⟨"com/example/drumline/drumline/engine/Slots", "take", "()Z"⟩ : MethodName)) hown (mvT hZ (hw _ (List.mem_of_getElem? (i := 34) rfl))) (mvT hZ (hw _ (List.mem_of_getElem? (i := 35) rfl))) (notFace_of_selects (args := #[]) (mvT hZ (hw _ (List.mem_of_getElem? (i := 37) rfl)))) (mvT hZ (hw _ (List.mem_of_getElem? (i := 37) rfl))) (mvT hZ (hw _ (List.mem_of_getElem? (i := 36) rfl))) (by decide) (backOf (W := 0) (rm6_1 l Z a0 hw [] b14 cnt (1 : Int32) T21.heap n0 Z21 Ge21 ge_b14 Gf21_count Gf21_taken (own_up hp2 1 (by decide))) hZ (hw _ (List.mem_of_getElem? (i := 38) rfl)) (hw _ (List.mem_of_getElem? (i := 6) rfl)) (by decide) (by decide)) q22a q22c (g := (mkF m 65 #[.val (.int x0), .val (.int cnt), .val (.ref b14), .val (.int (1 : Int32)), .val (.int (1 : Int32)), .val (.int (0 : Int32)), .val (.int (0 : Int32)), .val (.int (2 : Int32)), .unset, .unset, .unset] [(.ref b14)])) rfl (by rw [hml]; rfl) (Steps.refl _) (argsL := []) (rest := []) (lenOf pd___Z rfl) rfl (by show 2 * 0 + _ ≤ _; exact Nat.le_of_eq rfl) (hb hby at_65) (fun _ _ => ⟨rfl, rfl, (by decide : 3 + 0 ≤ _), (by decide : 23 + 0 ≤ _)⟩)
        dsimp only [Pt.U, Pt.locs, Pt.cells, Pt.slots] at X22 l22 y22 z22 st22 hQ22
        subst l22 y22 z22
        obtain ⟨rfl, Nq22, K22, Ge22, Gf22_count, Gf22_taken⟩ := hQ22
        have Z22 := Nat.le_trans Z21 K22.1
        replace Gf22_taken : Fld Z T22.heap b14 "com/example/drumline/drumline/engine/Slots" "taken" "I" (.int (2 : Int32)) := Gf22_taken
        have N22 := Fr.app N21 Nq22
        refine go (fun tg kg => st22.trans kg) ?_
        show G (T22.setTop (mkF m 68 #[.val (.int x0), .val (.int cnt), .val (.ref b14), .val (.int (1 : Int32)), .val (.int (1 : Int32)), .val (.int (0 : Int32)), .val (.int (0 : Int32)), .val (.int (2 : Int32)), .unset, .unset, .unset] [(.int (1 : Int32))]))
        refine go (fun tg kg => XS.istore X22.here hx rfl (hb hby at_68) rfl (l' := #[.val (.int x0), .val (.int cnt), .val (.ref b14), .val (.int (1 : Int32)), .val (.int (1 : Int32)), .val (.int (0 : Int32)), .val (.int (0 : Int32)), .val (.int (2 : Int32)), .val (.int (1 : Int32)), .unset, .unset]) rfl kg) ?_
        show G (T22.setTop (mkF m 70 #[.val (.int x0), .val (.int cnt), .val (.ref b14), .val (.int (1 : Int32)), .val (.int (1 : Int32)), .val (.int (0 : Int32)), .val (.int (0 : Int32)), .val (.int (2 : Int32)), .val (.int (1 : Int32)), .unset, .unset] []))
        refine go (fun tg kg => XS.aloadN X22.here hx rfl (hb hby at_70) rfl rfl kg) ?_
        show G (T22.setTop (mkF m 71 #[.val (.int x0), .val (.int cnt), .val (.ref b14), .val (.int (1 : Int32)), .val (.int (1 : Int32)), .val (.int (0 : Int32)), .val (.int (0 : Int32)), .val (.int (2 : Int32)), .val (.int (1 : Int32)), .unset, .unset] [(.ref b14)]))
        obtain ⟨cq23, kq23, q23a, q23b, q23c⟩ := isOf hZ rfl Ge22
        obtain ⟨_, _, ⟨T23, L23, k23, n23⟩, -, X23, ⟨Lc23, hQ23, l23, y23, z23⟩, st23⟩ := X22.virtualBack hx (y := (⟨"com/example/drumline/drumline/engine/Slots", "taken", "()I"⟩ : MethodName)) (z := (⟨"com/example/drumline/drumline/engine/Slots", "taken", "()I"⟩ : MethodName)) hown (mvT hZ (hw _ (List.mem_of_getElem? (i := 41) rfl))) (mvT hZ (hw _ (List.mem_of_getElem? (i := 42) rfl))) (notFace_of_selects (args := #[]) (mvT hZ (hw _ (List.mem_of_getElem? (i := 44) rfl)))) (mvT hZ (hw _ (List.mem_of_getElem? (i := 44) rfl))) (mvT hZ (hw _ (List.mem_of_getElem? (i := 43) rfl))) (by decide) (backOf (W := 0) (rm7 l Z a0 hw [] b14 (2 : Int32) T22.heap n0 Z22 Gf22_taken) hZ (hw _ (List.mem_of_getElem? (i := 45) rfl)) (hw _ (List.mem_of_getElem? (i := 6) rfl)) (by decide) (by decide)) q23a q23c (g := (mkF m 71 #[.val (.int x0), .val (.int cnt), .val (.ref b14), .val (.int (1 : Int32)), .val (.int (1 : Int32)), .val (.int (0 : Int32)), .val (.int (0 : Int32)), .val (.int (2 : Int32)), .val (.int (1 : Int32)), .unset, .unset] [(.ref b14)])) rfl (by rw [hml]; rfl) (Steps.refl _) (argsL := []) (rest := []) (lenOf pd___I rfl) rfl (by show 2 * 0 + _ ≤ _; exact Nat.le_of_eq rfl) (hb hby at_71) (fun _ _ => ⟨rfl, rfl, (by decide : 3 + 0 ≤ _), (by decide : 23 + 0 ≤ _)⟩)
        dsimp only [Pt.U, Pt.locs, Pt.cells, Pt.slots] at X23 l23 y23 z23 st23 hQ23
        subst l23 y23 z23
        obtain ⟨rfl, Nq23, e23⟩ := hQ23
        have N23 := Fr.app N22 Nq23
        refine go (fun tg kg => st23.trans kg) ?_
        show G (T23.setTop (mkF m 74 #[.val (.int x0), .val (.int cnt), .val (.ref b14), .val (.int (1 : Int32)), .val (.int (1 : Int32)), .val (.int (0 : Int32)), .val (.int (0 : Int32)), .val (.int (2 : Int32)), .val (.int (1 : Int32)), .unset, .unset] [(.int (2 : Int32))]))
        refine go (fun tg kg => XS.istore X23.here hx rfl (hb hby at_74) rfl (l' := #[.val (.int x0), .val (.int cnt), .val (.ref b14), .val (.int (1 : Int32)), .val (.int (1 : Int32)), .val (.int (0 : Int32)), .val (.int (0 : Int32)), .val (.int (2 : Int32)), .val (.int (1 : Int32)), .val (.int (2 : Int32)), .unset]) rfl kg) ?_
        show G (T23.setTop (mkF m 76 #[.val (.int x0), .val (.int cnt), .val (.ref b14), .val (.int (1 : Int32)), .val (.int (1 : Int32)), .val (.int (0 : Int32)), .val (.int (0 : Int32)), .val (.int (2 : Int32)), .val (.int (1 : Int32)), .val (.int (2 : Int32)), .unset] []))
        refine go (fun tg kg => XS.iconst X23.here hx rfl (hb hby at_76) kg) ?_
        show G (T23.setTop (mkF m 77 #[.val (.int x0), .val (.int cnt), .val (.ref b14), .val (.int (1 : Int32)), .val (.int (1 : Int32)), .val (.int (0 : Int32)), .val (.int (0 : Int32)), .val (.int (2 : Int32)), .val (.int (1 : Int32)), .val (.int (2 : Int32)), .unset] [(.int (4 : Int32))]))
        refine go (fun tg kg => XS.iloadN X23.here hx rfl (hb hby at_77) rfl kg) ?_
        show G (T23.setTop (mkF m 78 #[.val (.int x0), .val (.int cnt), .val (.ref b14), .val (.int (1 : Int32)), .val (.int (1 : Int32)), .val (.int (0 : Int32)), .val (.int (0 : Int32)), .val (.int (2 : Int32)), .val (.int (1 : Int32)), .val (.int (2 : Int32)), .unset] [(.int cnt), (.int (4 : Int32))]))
        obtain ⟨_, _, ⟨T24, L24, k24, n24⟩, -, X24, ⟨Lc24, hQ24, l24, y24, z24⟩, st24⟩ := Jvm.LawKit.callS X23 hx (y := (⟨"java/lang/Math", "min", "(II)I"⟩ : MethodName)) hown (mvT hZ (hw _ (List.mem_of_getElem? (i := 51) rfl))) (mvT hZ (hw _ (List.mem_of_getElem? (i := 52) rfl))) (mvT hZ (hw _ (List.mem_of_getElem? (i := 2) rfl))) (mvT hZ (hw _ (List.mem_of_getElem? (i := 53) rfl))) (by decide) (backOf (W := 0) (rm9 l Z a0 hw [] (4 : Int32) cnt T22.heap n0 Z22 ) hZ (hw _ (List.mem_of_getElem? (i := 53) rfl)) (hw _ (List.mem_of_getElem? (i := 2) rfl)) (by decide) (by decide)) (g := (mkF m 78 #[.val (.int x0), .val (.int cnt), .val (.ref b14), .val (.int (1 : Int32)), .val (.int (1 : Int32)), .val (.int (0 : Int32)), .val (.int (0 : Int32)), .val (.int (2 : Int32)), .val (.int (1 : Int32)), .val (.int (2 : Int32)), .unset] [(.int cnt), (.int (4 : Int32))])) rfl (by rw [hml]; rfl) (argsL := [(.int (4 : Int32)), (.int cnt)]) (rest := []) (lenOf pd__II_I rfl) rfl (by show 2 * 0 + _ ≤ _; exact Nat.le_of_eq rfl) (hb hby at_78) (fun _ _ => ⟨rfl, e23, (by decide : 3 + 0 ≤ _), (by decide : 23 + 0 ≤ _)⟩)
        dsimp only [Pt.U, Pt.locs, Pt.cells, Pt.slots] at X24 l24 y24 z24 st24 hQ24
        subst l24 y24 z24
        obtain ⟨rfl, Nq24, e24⟩ := hQ24
        rw [own_min_p (own_wk hk2 4 (by decide))] at st24
        have N24 := Fr.app N23 Nq24
        refine go st24 ?_
        show G (T24.setTop (mkF m 81 #[.val (.int x0), .val (.int cnt), .val (.ref b14), .val (.int (1 : Int32)), .val (.int (1 : Int32)), .val (.int (0 : Int32)), .val (.int (0 : Int32)), .val (.int (2 : Int32)), .val (.int (1 : Int32)), .val (.int (2 : Int32)), .unset] [(.int cnt)]))
        refine go (fun tg kg => XS.istore X24.here hx rfl (hb hby at_81) rfl (l' := #[.val (.int x0), .val (.int cnt), .val (.ref b14), .val (.int (1 : Int32)), .val (.int (1 : Int32)), .val (.int (0 : Int32)), .val (.int (0 : Int32)), .val (.int (2 : Int32)), .val (.int (1 : Int32)), .val (.int (2 : Int32)), .val (.int cnt)]) rfl kg) ?_
        show G (T24.setTop (mkF m 83 #[.val (.int x0), .val (.int cnt), .val (.ref b14), .val (.int (1 : Int32)), .val (.int (1 : Int32)), .val (.int (0 : Int32)), .val (.int (0 : Int32)), .val (.int (2 : Int32)), .val (.int (1 : Int32)), .val (.int (2 : Int32)), .val (.int cnt)] []))
        refine go (fun tg kg => XS.iloadN X24.here hx rfl (hb hby at_83) rfl kg) ?_
        show G (T24.setTop (mkF m 84 #[.val (.int x0), .val (.int cnt), .val (.ref b14), .val (.int (1 : Int32)), .val (.int (1 : Int32)), .val (.int (0 : Int32)), .val (.int (0 : Int32)), .val (.int (2 : Int32)), .val (.int (1 : Int32)), .val (.int (2 : Int32)), .val (.int cnt)] [(.int (1 : Int32))]))
        refine go (fun tg kg => XS.iconst X24.here hx rfl (hb hby at_84) kg) ?_
        show G (T24.setTop (mkF m 85 #[.val (.int x0), .val (.int cnt), .val (.ref b14), .val (.int (1 : Int32)), .val (.int (1 : Int32)), .val (.int (0 : Int32)), .val (.int (0 : Int32)), .val (.int (2 : Int32)), .val (.int (1 : Int32)), .val (.int (2 : Int32)), .val (.int cnt)] [(.int (1 : Int32)), (.int (1 : Int32))]))
        refine go (fun tg kg => XS.iloadN X24.here hx rfl (hb hby at_85) rfl kg) ?_
        show G (T24.setTop (mkF m 86 #[.val (.int x0), .val (.int cnt), .val (.ref b14), .val (.int (1 : Int32)), .val (.int (1 : Int32)), .val (.int (0 : Int32)), .val (.int (0 : Int32)), .val (.int (2 : Int32)), .val (.int (1 : Int32)), .val (.int (2 : Int32)), .val (.int cnt)] [(.int cnt), (.int (1 : Int32)), (.int (1 : Int32))]))
        refine go (fun tg kg => XS.icmpNo X24.here hx rfl (hb hby at_86) rfl (flt (own_st hp2 1 (by decide))).2.2.1 kg) ?_
        show G (T24.setTop (mkF m 89 #[.val (.int x0), .val (.int cnt), .val (.ref b14), .val (.int (1 : Int32)), .val (.int (1 : Int32)), .val (.int (0 : Int32)), .val (.int (0 : Int32)), .val (.int (2 : Int32)), .val (.int (1 : Int32)), .val (.int (2 : Int32)), .val (.int cnt)] [(.int (1 : Int32))]))
        refine go (fun tg kg => XS.iconst X24.here hx rfl (hb hby at_89) kg) ?_
        show G (T24.setTop (mkF m 90 #[.val (.int x0), .val (.int cnt), .val (.ref b14), .val (.int (1 : Int32)), .val (.int (1 : Int32)), .val (.int (0 : Int32)), .val (.int (0 : Int32)), .val (.int (2 : Int32)), .val (.int (1 : Int32)), .val (.int (2 : Int32)), .val (.int cnt)] [(.int (1 : Int32)), (.int (1 : Int32))]))
        refine go (fun tg kg => XS.goto X24.here hx rfl (pc0 := 90) (pc' := 94) rfl (hb hby at_90) (by decide) (by decide) kg) ?_
        show G (T24.setTop (mkF m 94 #[.val (.int x0), .val (.int cnt), .val (.ref b14), .val (.int (1 : Int32)), .val (.int (1 : Int32)), .val (.int (0 : Int32)), .val (.int (0 : Int32)), .val (.int (2 : Int32)), .val (.int (1 : Int32)), .val (.int (2 : Int32)), .val (.int cnt)] [(.int (1 : Int32)), (.int (1 : Int32))]))
        refine go (fun tg kg => XS.icmpNo X24.here hx rfl (hb hby at_94) rfl (teq (by decide)).2 kg) ?_
        show G (T24.setTop (mkF m 97 #[.val (.int x0), .val (.int cnt), .val (.ref b14), .val (.int (1 : Int32)), .val (.int (1 : Int32)), .val (.int (0 : Int32)), .val (.int (0 : Int32)), .val (.int (2 : Int32)), .val (.int (1 : Int32)), .val (.int (2 : Int32)), .val (.int cnt)] []))
        refine go (fun tg kg => XS.iload X24.here hx rfl (hb hby at_97) rfl kg) ?_
        show G (T24.setTop (mkF m 99 #[.val (.int x0), .val (.int cnt), .val (.ref b14), .val (.int (1 : Int32)), .val (.int (1 : Int32)), .val (.int (0 : Int32)), .val (.int (0 : Int32)), .val (.int (2 : Int32)), .val (.int (1 : Int32)), .val (.int (2 : Int32)), .val (.int cnt)] [(.int (1 : Int32))]))
        refine go (fun tg kg => XS.iconst X24.here hx rfl (hb hby at_99) kg) ?_
        show G (T24.setTop (mkF m 100 #[.val (.int x0), .val (.int cnt), .val (.ref b14), .val (.int (1 : Int32)), .val (.int (1 : Int32)), .val (.int (0 : Int32)), .val (.int (0 : Int32)), .val (.int (2 : Int32)), .val (.int (1 : Int32)), .val (.int (2 : Int32)), .val (.int cnt)] [(.int (2 : Int32)), (.int (1 : Int32))]))
        refine go (fun tg kg => XS.iloadN X24.here hx rfl (hb hby at_100) rfl kg) ?_
        show G (T24.setTop (mkF m 101 #[.val (.int x0), .val (.int cnt), .val (.ref b14), .val (.int (1 : Int32)), .val (.int (1 : Int32)), .val (.int (0 : Int32)), .val (.int (0 : Int32)), .val (.int (2 : Int32)), .val (.int (1 : Int32)), .val (.int (2 : Int32)), .val (.int cnt)] [(.int cnt), (.int (2 : Int32)), (.int (1 : Int32))]))
        refine go (fun tg kg => XS.icmpNo X24.here hx rfl (hb hby at_101) rfl (flt (own_st hp2 2 (by decide))).2.2.1 kg) ?_
        show G (T24.setTop (mkF m 104 #[.val (.int x0), .val (.int cnt), .val (.ref b14), .val (.int (1 : Int32)), .val (.int (1 : Int32)), .val (.int (0 : Int32)), .val (.int (0 : Int32)), .val (.int (2 : Int32)), .val (.int (1 : Int32)), .val (.int (2 : Int32)), .val (.int cnt)] [(.int (1 : Int32))]))
        refine go (fun tg kg => XS.iconst X24.here hx rfl (hb hby at_104) kg) ?_
        show G (T24.setTop (mkF m 105 #[.val (.int x0), .val (.int cnt), .val (.ref b14), .val (.int (1 : Int32)), .val (.int (1 : Int32)), .val (.int (0 : Int32)), .val (.int (0 : Int32)), .val (.int (2 : Int32)), .val (.int (1 : Int32)), .val (.int (2 : Int32)), .val (.int cnt)] [(.int (1 : Int32)), (.int (1 : Int32))]))
        refine go (fun tg kg => XS.goto X24.here hx rfl (pc0 := 105) (pc' := 109) rfl (hb hby at_105) (by decide) (by decide) kg) ?_
        show G (T24.setTop (mkF m 109 #[.val (.int x0), .val (.int cnt), .val (.ref b14), .val (.int (1 : Int32)), .val (.int (1 : Int32)), .val (.int (0 : Int32)), .val (.int (0 : Int32)), .val (.int (2 : Int32)), .val (.int (1 : Int32)), .val (.int (2 : Int32)), .val (.int cnt)] [(.int (1 : Int32)), (.int (1 : Int32))]))
        refine go (fun tg kg => XS.icmpNo X24.here hx rfl (hb hby at_109) rfl (teq (by decide)).2 kg) ?_
        show G (T24.setTop (mkF m 112 #[.val (.int x0), .val (.int cnt), .val (.ref b14), .val (.int (1 : Int32)), .val (.int (1 : Int32)), .val (.int (0 : Int32)), .val (.int (0 : Int32)), .val (.int (2 : Int32)), .val (.int (1 : Int32)), .val (.int (2 : Int32)), .val (.int cnt)] []))
        refine go (fun tg kg => XS.iload X24.here hx rfl (hb hby at_112) rfl kg) ?_
        show G (T24.setTop (mkF m 114 #[.val (.int x0), .val (.int cnt), .val (.ref b14), .val (.int (1 : Int32)), .val (.int (1 : Int32)), .val (.int (0 : Int32)), .val (.int (0 : Int32)), .val (.int (2 : Int32)), .val (.int (1 : Int32)), .val (.int (2 : Int32)), .val (.int cnt)] [(.int (0 : Int32))]))
        refine go (fun tg kg => XS.iconst X24.here hx rfl (hb hby at_114) kg) ?_
        show G (T24.setTop (mkF m 115 #[.val (.int x0), .val (.int cnt), .val (.ref b14), .val (.int (1 : Int32)), .val (.int (1 : Int32)), .val (.int (0 : Int32)), .val (.int (0 : Int32)), .val (.int (2 : Int32)), .val (.int (1 : Int32)), .val (.int (2 : Int32)), .val (.int cnt)] [(.int (3 : Int32)), (.int (0 : Int32))]))
        refine go (fun tg kg => XS.iloadN X24.here hx rfl (hb hby at_115) rfl kg) ?_
        show G (T24.setTop (mkF m 116 #[.val (.int x0), .val (.int cnt), .val (.ref b14), .val (.int (1 : Int32)), .val (.int (1 : Int32)), .val (.int (0 : Int32)), .val (.int (0 : Int32)), .val (.int (2 : Int32)), .val (.int (1 : Int32)), .val (.int (2 : Int32)), .val (.int cnt)] [(.int cnt), (.int (3 : Int32)), (.int (0 : Int32))]))
        refine go (fun tg kg => XS.icmpYes X24.here hx rfl (pc0 := 116) (pc' := 123) rfl (hb hby at_116) rfl (tlt (own_wk hk2 3 (by decide))).2.2.1 (by decide) (by decide) kg) ?_
        show G (T24.setTop (mkF m 123 #[.val (.int x0), .val (.int cnt), .val (.ref b14), .val (.int (1 : Int32)), .val (.int (1 : Int32)), .val (.int (0 : Int32)), .val (.int (0 : Int32)), .val (.int (2 : Int32)), .val (.int (1 : Int32)), .val (.int (2 : Int32)), .val (.int cnt)] [(.int (0 : Int32))]))
        refine go (fun tg kg => XS.iconst X24.here hx rfl (hb hby at_123) kg) ?_
        show G (T24.setTop (mkF m 124 #[.val (.int x0), .val (.int cnt), .val (.ref b14), .val (.int (1 : Int32)), .val (.int (1 : Int32)), .val (.int (0 : Int32)), .val (.int (0 : Int32)), .val (.int (2 : Int32)), .val (.int (1 : Int32)), .val (.int (2 : Int32)), .val (.int cnt)] [(.int (0 : Int32)), (.int (0 : Int32))]))
        refine go (fun tg kg => XS.icmpNo X24.here hx rfl (hb hby at_124) rfl (teq (by decide)).2 kg) ?_
        show G (T24.setTop (mkF m 127 #[.val (.int x0), .val (.int cnt), .val (.ref b14), .val (.int (1 : Int32)), .val (.int (1 : Int32)), .val (.int (0 : Int32)), .val (.int (0 : Int32)), .val (.int (2 : Int32)), .val (.int (1 : Int32)), .val (.int (2 : Int32)), .val (.int cnt)] []))
        refine go (fun tg kg => XS.iload X24.here hx rfl (hb hby at_127) rfl kg) ?_
        show G (T24.setTop (mkF m 129 #[.val (.int x0), .val (.int cnt), .val (.ref b14), .val (.int (1 : Int32)), .val (.int (1 : Int32)), .val (.int (0 : Int32)), .val (.int (0 : Int32)), .val (.int (2 : Int32)), .val (.int (1 : Int32)), .val (.int (2 : Int32)), .val (.int cnt)] [(.int (0 : Int32))]))
        refine go (fun tg kg => XS.iconst X24.here hx rfl (hb hby at_129) kg) ?_
        show G (T24.setTop (mkF m 130 #[.val (.int x0), .val (.int cnt), .val (.ref b14), .val (.int (1 : Int32)), .val (.int (1 : Int32)), .val (.int (0 : Int32)), .val (.int (0 : Int32)), .val (.int (2 : Int32)), .val (.int (1 : Int32)), .val (.int (2 : Int32)), .val (.int cnt)] [(.int (4 : Int32)), (.int (0 : Int32))]))
        refine go (fun tg kg => XS.iloadN X24.here hx rfl (hb hby at_130) rfl kg) ?_
        show G (T24.setTop (mkF m 131 #[.val (.int x0), .val (.int cnt), .val (.ref b14), .val (.int (1 : Int32)), .val (.int (1 : Int32)), .val (.int (0 : Int32)), .val (.int (0 : Int32)), .val (.int (2 : Int32)), .val (.int (1 : Int32)), .val (.int (2 : Int32)), .val (.int cnt)] [(.int cnt), (.int (4 : Int32)), (.int (0 : Int32))]))
        refine go (fun tg kg => XS.icmpYes X24.here hx rfl (pc0 := 131) (pc' := 138) rfl (hb hby at_131) rfl (tlt (own_wk hk2 4 (by decide))).2.2.1 (by decide) (by decide) kg) ?_
        show G (T24.setTop (mkF m 138 #[.val (.int x0), .val (.int cnt), .val (.ref b14), .val (.int (1 : Int32)), .val (.int (1 : Int32)), .val (.int (0 : Int32)), .val (.int (0 : Int32)), .val (.int (2 : Int32)), .val (.int (1 : Int32)), .val (.int (2 : Int32)), .val (.int cnt)] [(.int (0 : Int32))]))
        refine go (fun tg kg => XS.iconst X24.here hx rfl (hb hby at_138) kg) ?_
        show G (T24.setTop (mkF m 139 #[.val (.int x0), .val (.int cnt), .val (.ref b14), .val (.int (1 : Int32)), .val (.int (1 : Int32)), .val (.int (0 : Int32)), .val (.int (0 : Int32)), .val (.int (2 : Int32)), .val (.int (1 : Int32)), .val (.int (2 : Int32)), .val (.int cnt)] [(.int (0 : Int32)), (.int (0 : Int32))]))
        refine go (fun tg kg => XS.icmpNo X24.here hx rfl (hb hby at_139) rfl (teq (by decide)).2 kg) ?_
        show G (T24.setTop (mkF m 142 #[.val (.int x0), .val (.int cnt), .val (.ref b14), .val (.int (1 : Int32)), .val (.int (1 : Int32)), .val (.int (0 : Int32)), .val (.int (0 : Int32)), .val (.int (2 : Int32)), .val (.int (1 : Int32)), .val (.int (2 : Int32)), .val (.int cnt)] []))
        refine go (fun tg kg => XS.iload X24.here hx rfl (hb hby at_142) rfl kg) ?_
        show G (T24.setTop (mkF m 144 #[.val (.int x0), .val (.int cnt), .val (.ref b14), .val (.int (1 : Int32)), .val (.int (1 : Int32)), .val (.int (0 : Int32)), .val (.int (0 : Int32)), .val (.int (2 : Int32)), .val (.int (1 : Int32)), .val (.int (2 : Int32)), .val (.int cnt)] [(.int (2 : Int32))]))
        refine go (fun tg kg => XS.iload X24.here hx rfl (hb hby at_144) rfl kg) ?_
        show G (T24.setTop (mkF m 146 #[.val (.int x0), .val (.int cnt), .val (.ref b14), .val (.int (1 : Int32)), .val (.int (1 : Int32)), .val (.int (0 : Int32)), .val (.int (0 : Int32)), .val (.int (2 : Int32)), .val (.int (1 : Int32)), .val (.int (2 : Int32)), .val (.int cnt)] [(.int cnt), (.int (2 : Int32))]))
        refine go (fun tg kg => XS.icmpNo X24.here hx rfl (hb hby at_146) rfl (teq (own_eq hk2 hp2 (by decide))).2 kg) ?_
        show G (T24.setTop (mkF m 149 #[.val (.int x0), .val (.int cnt), .val (.ref b14), .val (.int (1 : Int32)), .val (.int (1 : Int32)), .val (.int (0 : Int32)), .val (.int (0 : Int32)), .val (.int (2 : Int32)), .val (.int (1 : Int32)), .val (.int (2 : Int32)), .val (.int cnt)] []))
        refine go (fun tg kg => XS.iload X24.here hx rfl (hb hby at_149) rfl kg) ?_
        show G (T24.setTop (mkF m 151 #[.val (.int x0), .val (.int cnt), .val (.ref b14), .val (.int (1 : Int32)), .val (.int (1 : Int32)), .val (.int (0 : Int32)), .val (.int (0 : Int32)), .val (.int (2 : Int32)), .val (.int (1 : Int32)), .val (.int (2 : Int32)), .val (.int cnt)] [(.int (1 : Int32))]))
        refine go (fun tg kg => XS.ifNo X24.here hx rfl (hb hby at_151) rfl ((if0 _ _).trans (feq (by decide)).1) kg) ?_
        show G (T24.setTop (mkF m 154 #[.val (.int x0), .val (.int cnt), .val (.ref b14), .val (.int (1 : Int32)), .val (.int (1 : Int32)), .val (.int (0 : Int32)), .val (.int (0 : Int32)), .val (.int (2 : Int32)), .val (.int (1 : Int32)), .val (.int (2 : Int32)), .val (.int cnt)] []))
        refine go (fun tg kg => XS.iload X24.here hx rfl (hb hby at_154) rfl kg) ?_
        show G (T24.setTop (mkF m 156 #[.val (.int x0), .val (.int cnt), .val (.ref b14), .val (.int (1 : Int32)), .val (.int (1 : Int32)), .val (.int (0 : Int32)), .val (.int (0 : Int32)), .val (.int (2 : Int32)), .val (.int (1 : Int32)), .val (.int (2 : Int32)), .val (.int cnt)] [(.int (2 : Int32))]))
        refine go (fun tg kg => XS.iload X24.here hx rfl (hb hby at_156) rfl kg) ?_
        show G (T24.setTop (mkF m 158 #[.val (.int x0), .val (.int cnt), .val (.ref b14), .val (.int (1 : Int32)), .val (.int (1 : Int32)), .val (.int (0 : Int32)), .val (.int (0 : Int32)), .val (.int (2 : Int32)), .val (.int (1 : Int32)), .val (.int (2 : Int32)), .val (.int cnt)] [(.int cnt), (.int (2 : Int32))]))
        refine go (fun tg kg => XS.icmpNo X24.here hx rfl (hb hby at_158) rfl (teq (own_eq hk2 hp2 (by decide))).2 kg) ?_
        show G (T24.setTop (mkF m 161 #[.val (.int x0), .val (.int cnt), .val (.ref b14), .val (.int (1 : Int32)), .val (.int (1 : Int32)), .val (.int (0 : Int32)), .val (.int (0 : Int32)), .val (.int (2 : Int32)), .val (.int (1 : Int32)), .val (.int (2 : Int32)), .val (.int cnt)] []))
        refine go (fun tg kg => XS.iconst X24.here hx rfl (hb hby at_161) kg) ?_
        show G (T24.setTop (mkF m 162 #[.val (.int x0), .val (.int cnt), .val (.ref b14), .val (.int (1 : Int32)), .val (.int (1 : Int32)), .val (.int (0 : Int32)), .val (.int (0 : Int32)), .val (.int (2 : Int32)), .val (.int (1 : Int32)), .val (.int (2 : Int32)), .val (.int cnt)] [(.int (1 : Int32))]))
        refine go (fun tg kg => XS.goto X24.here hx rfl (pc0 := 162) (pc' := 166) rfl (hb hby at_162) (by decide) (by decide) kg) ?_
        show G (T24.setTop (mkF m 166 #[.val (.int x0), .val (.int cnt), .val (.ref b14), .val (.int (1 : Int32)), .val (.int (1 : Int32)), .val (.int (0 : Int32)), .val (.int (0 : Int32)), .val (.int (2 : Int32)), .val (.int (1 : Int32)), .val (.int (2 : Int32)), .val (.int cnt)] [(.int (1 : Int32))]))
        refine fin (some (.int (1 : Int32))) X24 (fun h => absurd h (by decide)) (fun fs hr => retN X24 hx (t := .boolean) hret (by simp) (hb hby at_166) hr) (by decide) (by decide) ?_
        rw [e24]
        exact ⟨rfl, N24⟩
      · have hp3 := hk2
        by_cases hk3 : cnt < (4 : Int32)
        · skip
          obtain ⟨T25, h25, X25, e25, E25, A25, D25, -, st25⟩ := newO X2 hx hZ hown (hw _ (List.mem_of_getElem? (i := 4) rfl)) (hw _ (List.mem_of_getElem? (i := 5) rfl)) (hw _ (List.mem_of_getElem? (i := 6) rfl)) e2 (g := (mkF m 22 #[.val (.int x0), .val (.int cnt), .unset, .unset, .unset, .unset, .unset, .unset, .unset, .unset, .unset] [])) rfl (hb hby at_22) (by decide) (by decide)
          obtain ⟨b25, g25⟩ : ∃ z, z = h0.size := ⟨_, rfl⟩
          rw [← g25] at A25 D25 st25
          refine go st25 ?_
          have ge_b25 : n0 ≤ b25 := Nat.le_trans Z0 (Nat.le_of_eq g25.symm)
          have Z25 := Nat.le_trans Z0 E25.1
          have F25_held : Fld Z h25 b25 "com/example/drumline/drumline/engine/Slots" "held" "Ljava/util/Deque;" .null := D25 (Or.inr (hw _ (List.mem_of_getElem? (i := 31) rfl))) (ty := (.object "java/util/Deque")) (by decide)
          have F25_count : Fld Z h25 b25 "com/example/drumline/drumline/engine/Slots" "count" "I" (.int (0 : Int32)) := D25 (Or.inr (hw _ (List.mem_of_getElem? (i := 33) rfl))) (ty := .int) (by decide)
          have F25_taken : Fld Z h25 b25 "com/example/drumline/drumline/engine/Slots" "taken" "I" (.int (0 : Int32)) := D25 (Or.inl (hw _ (List.mem_of_getElem? (i := 40) rfl))) (ty := .int) (by decide)
          show G (T25.setTop (mkF m 25 #[.val (.int x0), .val (.int cnt), .unset, .unset, .unset, .unset, .unset, .unset, .unset, .unset, .unset] [(.ref b25)]))
          refine go (fun tg kg => XS.dup X25.here hx rfl (hb hby at_25) rfl rfl kg) ?_
          show G (T25.setTop (mkF m 26 #[.val (.int x0), .val (.int cnt), .unset, .unset, .unset, .unset, .unset, .unset, .unset, .unset, .unset] [(.ref b25), (.ref b25)]))
          refine go (fun tg kg => XS.iloadN X25.here hx rfl (hb hby at_26) rfl kg) ?_
          show G (T25.setTop (mkF m 27 #[.val (.int x0), .val (.int cnt), .unset, .unset, .unset, .unset, .unset, .unset, .unset, .unset, .unset] [(.int cnt), (.ref b25), (.ref b25)]))
          obtain ⟨_, _, ⟨T26, L26, k26, n26⟩, -, X26, ⟨Lc26, hQ26, l26, y26, z26⟩, st26⟩ := X25.specialBack hx (y := (⟨"com/example/drumline/drumline/engine/Slots", "<init>", "(I)V"⟩ : MethodName)) rfl hown (mvT hZ (hw _ (List.mem_of_getElem? (i := 7) rfl))) (mvT hZ (hw _ (List.mem_of_getElem? (i := 8) rfl))) (mvT hZ (hw _ (List.mem_of_getElem? (i := 9) rfl))) (by decide) (backOf (W := 1) (rm2 l Z a0 hw [] b25 cnt h25 n0 Z25 A25 ge_b25 F25_held F25_count F25_taken) hZ (hw _ (List.mem_of_getElem? (i := 9) rfl)) (hw _ (List.mem_of_getElem? (i := 6) rfl)) (by decide) (by decide)) (g := (mkF m 27 #[.val (.int x0), .val (.int cnt), .unset, .unset, .unset, .unset, .unset, .unset, .unset, .unset, .unset] [(.int cnt), (.ref b25), (.ref b25)])) rfl (by rw [hml]; rfl) (Steps.refl _) (a := b25) (argsL := [(.int cnt)]) (rest := [(.ref b25)]) (lenOf pd__I_V rfl) rfl (by show 2 * 0 + _ ≤ _; exact Nat.le_of_eq rfl) (hb hby at_27) (fun _ _ => ⟨rfl, e25, (by decide : 1 + 2 ≤ _), (by decide : 3 + 20 ≤ _)⟩)
          dsimp only [Pt.U, Pt.locs, Pt.cells, Pt.slots] at X26 l26 y26 z26 st26 hQ26
          subst l26 y26 z26
          obtain ⟨rfl, Nq26, K26, Ge26, Gf26_count, Gf26_taken⟩ := hQ26
          have Z26 := Nat.le_trans Z25 K26.1
          have N26 := Fr.app N2 Nq26
          refine go (fun tg kg => st26.trans kg) ?_
          show G (T26.setTop (mkF m 30 #[.val (.int x0), .val (.int cnt), .unset, .unset, .unset, .unset, .unset, .unset, .unset, .unset, .unset] [(.ref b25)]))
          refine go (fun tg kg => XS.astoreN X26.here hx rfl (hb hby at_30) rfl rfl (l' := #[.val (.int x0), .val (.int cnt), .val (.ref b25), .unset, .unset, .unset, .unset, .unset, .unset, .unset, .unset]) rfl kg) ?_
          show G (T26.setTop (mkF m 31 #[.val (.int x0), .val (.int cnt), .val (.ref b25), .unset, .unset, .unset, .unset, .unset, .unset, .unset, .unset] []))
          refine go (fun tg kg => XS.aloadN X26.here hx rfl (hb hby at_31) rfl rfl kg) ?_
          show G (T26.setTop (mkF m 32 #[.val (.int x0), .val (.int cnt), .val (.ref b25), .unset, .unset, .unset, .unset, .unset, .unset, .unset, .unset] [(.ref b25)]))
          obtain ⟨cq27, kq27, q27a, q27b, q27c⟩ := isOf hZ rfl Ge26
          obtain ⟨_, _, ⟨T27, L27, k27, n27⟩, -, X27, ⟨Lc27, hQ27, l27, y27, z27⟩, st27⟩ := X26.virtualBack hx (y := (⟨"com/example/drumline/drumline/engine/Slots", "take", "()Z"⟩ : MethodName)) (z := (⟨"com/example/drumline/drumline/engine/Slots", "take", "()Z"⟩ : MethodName)) hown (mvT hZ (hw _ (List.mem_of_getElem? (i := 34) rfl))) (mvT hZ (hw _ (List.mem_of_getElem? (i := 35) rfl))) (notFace_of_selects (args := #[]) (mvT hZ (hw _ (List.mem_of_getElem? (i := 37) rfl)))) (mvT hZ (hw _ (List.mem_of_getElem? (i := 37) rfl))) (mvT hZ (hw _ (List.mem_of_getElem? (i := 36) rfl))) (by decide) (backOf (W := 0) (rm6_1 l Z a0 hw [] b25 cnt (0 : Int32) T26.heap n0 Z26 Ge26 ge_b25 Gf26_count Gf26_taken (own_up hp3 0 (by decide))) hZ (hw _ (List.mem_of_getElem? (i := 38) rfl)) (hw _ (List.mem_of_getElem? (i := 6) rfl)) (by decide) (by decide)) q27a q27c (g := (mkF m 32 #[.val (.int x0), .val (.int cnt), .val (.ref b25), .unset, .unset, .unset, .unset, .unset, .unset, .unset, .unset] [(.ref b25)])) rfl (by rw [hml]; rfl) (Steps.refl _) (argsL := []) (rest := []) (lenOf pd___Z rfl) rfl (by show 2 * 0 + _ ≤ _; exact Nat.le_of_eq rfl) (hb hby at_32) (fun _ _ => ⟨rfl, rfl, (by decide : 3 + 0 ≤ _), (by decide : 23 + 0 ≤ _)⟩)
          dsimp only [Pt.U, Pt.locs, Pt.cells, Pt.slots] at X27 l27 y27 z27 st27 hQ27
          subst l27 y27 z27
          obtain ⟨rfl, Nq27, K27, Ge27, Gf27_count, Gf27_taken⟩ := hQ27
          have Z27 := Nat.le_trans Z26 K27.1
          replace Gf27_taken : Fld Z T27.heap b25 "com/example/drumline/drumline/engine/Slots" "taken" "I" (.int (1 : Int32)) := Gf27_taken
          have N27 := Fr.app N26 Nq27
          refine go (fun tg kg => st27.trans kg) ?_
          show G (T27.setTop (mkF m 35 #[.val (.int x0), .val (.int cnt), .val (.ref b25), .unset, .unset, .unset, .unset, .unset, .unset, .unset, .unset] [(.int (1 : Int32))]))
          refine go (fun tg kg => XS.istoreN X27.here hx rfl (hb hby at_35) rfl (l' := #[.val (.int x0), .val (.int cnt), .val (.ref b25), .val (.int (1 : Int32)), .unset, .unset, .unset, .unset, .unset, .unset, .unset]) rfl kg) ?_
          show G (T27.setTop (mkF m 36 #[.val (.int x0), .val (.int cnt), .val (.ref b25), .val (.int (1 : Int32)), .unset, .unset, .unset, .unset, .unset, .unset, .unset] []))
          refine go (fun tg kg => XS.aloadN X27.here hx rfl (hb hby at_36) rfl rfl kg) ?_
          show G (T27.setTop (mkF m 37 #[.val (.int x0), .val (.int cnt), .val (.ref b25), .val (.int (1 : Int32)), .unset, .unset, .unset, .unset, .unset, .unset, .unset] [(.ref b25)]))
          obtain ⟨cq28, kq28, q28a, q28b, q28c⟩ := isOf hZ rfl Ge27
          obtain ⟨_, _, ⟨T28, L28, k28, n28⟩, -, X28, ⟨Lc28, hQ28, l28, y28, z28⟩, st28⟩ := X27.virtualBack hx (y := (⟨"com/example/drumline/drumline/engine/Slots", "take", "()Z"⟩ : MethodName)) (z := (⟨"com/example/drumline/drumline/engine/Slots", "take", "()Z"⟩ : MethodName)) hown (mvT hZ (hw _ (List.mem_of_getElem? (i := 34) rfl))) (mvT hZ (hw _ (List.mem_of_getElem? (i := 35) rfl))) (notFace_of_selects (args := #[]) (mvT hZ (hw _ (List.mem_of_getElem? (i := 37) rfl)))) (mvT hZ (hw _ (List.mem_of_getElem? (i := 37) rfl))) (mvT hZ (hw _ (List.mem_of_getElem? (i := 36) rfl))) (by decide) (backOf (W := 0) (rm6_1 l Z a0 hw [] b25 cnt (1 : Int32) T27.heap n0 Z27 Ge27 ge_b25 Gf27_count Gf27_taken (own_up hp3 1 (by decide))) hZ (hw _ (List.mem_of_getElem? (i := 38) rfl)) (hw _ (List.mem_of_getElem? (i := 6) rfl)) (by decide) (by decide)) q28a q28c (g := (mkF m 37 #[.val (.int x0), .val (.int cnt), .val (.ref b25), .val (.int (1 : Int32)), .unset, .unset, .unset, .unset, .unset, .unset, .unset] [(.ref b25)])) rfl (by rw [hml]; rfl) (Steps.refl _) (argsL := []) (rest := []) (lenOf pd___Z rfl) rfl (by show 2 * 0 + _ ≤ _; exact Nat.le_of_eq rfl) (hb hby at_37) (fun _ _ => ⟨rfl, rfl, (by decide : 3 + 0 ≤ _), (by decide : 23 + 0 ≤ _)⟩)
          dsimp only [Pt.U, Pt.locs, Pt.cells, Pt.slots] at X28 l28 y28 z28 st28 hQ28
          subst l28 y28 z28
          obtain ⟨rfl, Nq28, K28, Ge28, Gf28_count, Gf28_taken⟩ := hQ28
          have Z28 := Nat.le_trans Z27 K28.1
          replace Gf28_taken : Fld Z T28.heap b25 "com/example/drumline/drumline/engine/Slots" "taken" "I" (.int (2 : Int32)) := Gf28_taken
          have N28 := Fr.app N27 Nq28
          refine go (fun tg kg => st28.trans kg) ?_
          show G (T28.setTop (mkF m 40 #[.val (.int x0), .val (.int cnt), .val (.ref b25), .val (.int (1 : Int32)), .unset, .unset, .unset, .unset, .unset, .unset, .unset] [(.int (1 : Int32))]))
          refine go (fun tg kg => XS.istore X28.here hx rfl (hb hby at_40) rfl (l' := #[.val (.int x0), .val (.int cnt), .val (.ref b25), .val (.int (1 : Int32)), .val (.int (1 : Int32)), .unset, .unset, .unset, .unset, .unset, .unset]) rfl kg) ?_
          show G (T28.setTop (mkF m 42 #[.val (.int x0), .val (.int cnt), .val (.ref b25), .val (.int (1 : Int32)), .val (.int (1 : Int32)), .unset, .unset, .unset, .unset, .unset, .unset] []))
          refine go (fun tg kg => XS.aloadN X28.here hx rfl (hb hby at_42) rfl rfl kg) ?_
          show G (T28.setTop (mkF m 43 #[.val (.int x0), .val (.int cnt), .val (.ref b25), .val (.int (1 : Int32)), .val (.int (1 : Int32)), .unset, .unset, .unset, .unset, .unset, .unset] [(.ref b25)]))
          obtain ⟨cq29, kq29, q29a, q29b, q29c⟩ := isOf hZ rfl Ge28
          obtain ⟨_, _, ⟨T29, L29, k29, n29⟩, -, X29, ⟨Lc29, hQ29, l29, y29, z29⟩, st29⟩ := X28.virtualBack hx (y := (⟨"com/example/drumline/drumline/engine/Slots", "take", "()Z"⟩ : MethodName)) (z := (⟨"com/example/drumline/drumline/engine/Slots", "take", "()Z"⟩ : MethodName)) hown (mvT hZ (hw _ (List.mem_of_getElem? (i := 34) rfl))) (mvT hZ (hw _ (List.mem_of_getElem? (i := 35) rfl))) (notFace_of_selects (args := #[]) (mvT hZ (hw _ (List.mem_of_getElem? (i := 37) rfl)))) (mvT hZ (hw _ (List.mem_of_getElem? (i := 37) rfl))) (mvT hZ (hw _ (List.mem_of_getElem? (i := 36) rfl))) (by decide) (backOf (W := 0) (rm6_1 l Z a0 hw [] b25 cnt (2 : Int32) T28.heap n0 Z28 Ge28 ge_b25 Gf28_count Gf28_taken (own_up hp3 2 (by decide))) hZ (hw _ (List.mem_of_getElem? (i := 38) rfl)) (hw _ (List.mem_of_getElem? (i := 6) rfl)) (by decide) (by decide)) q29a q29c (g := (mkF m 43 #[.val (.int x0), .val (.int cnt), .val (.ref b25), .val (.int (1 : Int32)), .val (.int (1 : Int32)), .unset, .unset, .unset, .unset, .unset, .unset] [(.ref b25)])) rfl (by rw [hml]; rfl) (Steps.refl _) (argsL := []) (rest := []) (lenOf pd___Z rfl) rfl (by show 2 * 0 + _ ≤ _; exact Nat.le_of_eq rfl) (hb hby at_43) (fun _ _ => ⟨rfl, rfl, (by decide : 3 + 0 ≤ _), (by decide : 23 + 0 ≤ _)⟩)
          dsimp only [Pt.U, Pt.locs, Pt.cells, Pt.slots] at X29 l29 y29 z29 st29 hQ29
          subst l29 y29 z29
          obtain ⟨rfl, Nq29, K29, Ge29, Gf29_count, Gf29_taken⟩ := hQ29
          have Z29 := Nat.le_trans Z28 K29.1
          replace Gf29_taken : Fld Z T29.heap b25 "com/example/drumline/drumline/engine/Slots" "taken" "I" (.int (3 : Int32)) := Gf29_taken
          have N29 := Fr.app N28 Nq29
          refine go (fun tg kg => st29.trans kg) ?_
          show G (T29.setTop (mkF m 46 #[.val (.int x0), .val (.int cnt), .val (.ref b25), .val (.int (1 : Int32)), .val (.int (1 : Int32)), .unset, .unset, .unset, .unset, .unset, .unset] [(.int (1 : Int32))]))
          refine go (fun tg kg => XS.istore X29.here hx rfl (hb hby at_46) rfl (l' := #[.val (.int x0), .val (.int cnt), .val (.ref b25), .val (.int (1 : Int32)), .val (.int (1 : Int32)), .val (.int (1 : Int32)), .unset, .unset, .unset, .unset, .unset]) rfl kg) ?_
          show G (T29.setTop (mkF m 48 #[.val (.int x0), .val (.int cnt), .val (.ref b25), .val (.int (1 : Int32)), .val (.int (1 : Int32)), .val (.int (1 : Int32)), .unset, .unset, .unset, .unset, .unset] []))
          refine go (fun tg kg => XS.aloadN X29.here hx rfl (hb hby at_48) rfl rfl kg) ?_
          show G (T29.setTop (mkF m 49 #[.val (.int x0), .val (.int cnt), .val (.ref b25), .val (.int (1 : Int32)), .val (.int (1 : Int32)), .val (.int (1 : Int32)), .unset, .unset, .unset, .unset, .unset] [(.ref b25)]))
          obtain ⟨cq30, kq30, q30a, q30b, q30c⟩ := isOf hZ rfl Ge29
          obtain ⟨_, _, ⟨T30, L30, k30, n30⟩, -, X30, ⟨Lc30, hQ30, l30, y30, z30⟩, st30⟩ := X29.virtualBack hx (y := (⟨"com/example/drumline/drumline/engine/Slots", "take", "()Z"⟩ : MethodName)) (z := (⟨"com/example/drumline/drumline/engine/Slots", "take", "()Z"⟩ : MethodName)) hown (mvT hZ (hw _ (List.mem_of_getElem? (i := 34) rfl))) (mvT hZ (hw _ (List.mem_of_getElem? (i := 35) rfl))) (notFace_of_selects (args := #[]) (mvT hZ (hw _ (List.mem_of_getElem? (i := 37) rfl)))) (mvT hZ (hw _ (List.mem_of_getElem? (i := 37) rfl))) (mvT hZ (hw _ (List.mem_of_getElem? (i := 36) rfl))) (by decide) (backOf (W := 0) (rm6_0 l Z a0 hw [] b25 cnt (3 : Int32) T29.heap n0 Z29 Ge29 ge_b25 Gf29_count Gf29_taken (own_dn hk3 3 (by decide))) hZ (hw _ (List.mem_of_getElem? (i := 38) rfl)) (hw _ (List.mem_of_getElem? (i := 6) rfl)) (by decide) (by decide)) q30a q30c (g := (mkF m 49 #[.val (.int x0), .val (.int cnt), .val (.ref b25), .val (.int (1 : Int32)), .val (.int (1 : Int32)), .val (.int (1 : Int32)), .unset, .unset, .unset, .unset, .unset] [(.ref b25)])) rfl (by rw [hml]; rfl) (Steps.refl _) (argsL := []) (rest := []) (lenOf pd___Z rfl) rfl (by show 2 * 0 + _ ≤ _; exact Nat.le_of_eq rfl) (hb hby at_49) (fun _ _ => ⟨rfl, rfl, (by decide : 3 + 0 ≤ _), (by decide : 23 + 0 ≤ _)⟩)
          dsimp only [Pt.U, Pt.locs, Pt.cells, Pt.slots] at X30 l30 y30 z30 st30 hQ30
          subst l30 y30 z30
          obtain ⟨rfl, Nq30, K30, Ge30, Gf30_count, Gf30_taken⟩ := hQ30
          have Z30 := Nat.le_trans Z29 K30.1
          replace Gf30_taken : Fld Z T30.heap b25 "com/example/drumline/drumline/engine/Slots" "taken" "I" (.int (3 : Int32)) := Gf30_taken
          have N30 := Fr.app N29 Nq30
          refine go (fun tg kg => st30.trans kg) ?_
          show G (T30.setTop (mkF m 52 #[.val (.int x0), .val (.int cnt), .val (.ref b25), .val (.int (1 : Int32)), .val (.int (1 : Int32)), .val (.int (1 : Int32)), .unset, .unset, .unset, .unset, .unset] [(.int (0 : Int32))]))
          refine go (fun tg kg => XS.istore X30.here hx rfl (hb hby at_52) rfl (l' := #[.val (.int x0), .val (.int cnt), .val (.ref b25), .val (.int (1 : Int32)), .val (.int (1 : Int32)), .val (.int (1 : Int32)), .val (.int (0 : Int32)), .unset, .unset, .unset, .unset]) rfl kg) ?_
          show G (T30.setTop (mkF m 54 #[.val (.int x0), .val (.int cnt), .val (.ref b25), .val (.int (1 : Int32)), .val (.int (1 : Int32)), .val (.int (1 : Int32)), .val (.int (0 : Int32)), .unset, .unset, .unset, .unset] []))
          refine go (fun tg kg => XS.aloadN X30.here hx rfl (hb hby at_54) rfl rfl kg) ?_
          show G (T30.setTop (mkF m 55 #[.val (.int x0), .val (.int cnt), .val (.ref b25), .val (.int (1 : Int32)), .val (.int (1 : Int32)), .val (.int (1 : Int32)), .val (.int (0 : Int32)), .unset, .unset, .unset, .unset] [(.ref b25)]))
          obtain ⟨cq31, kq31, q31a, q31b, q31c⟩ := isOf hZ rfl Ge30
          obtain ⟨_, _, ⟨T31, L31, k31, n31⟩, -, X31, ⟨Lc31, hQ31, l31, y31, z31⟩, st31⟩ := X30.virtualBack hx (y := (⟨"com/example/drumline/drumline/engine/Slots", "taken", "()I"⟩ : MethodName)) (z := (⟨"com/example/drumline/drumline/engine/Slots", "taken", "()I"⟩ : MethodName)) hown (mvT hZ (hw _ (List.mem_of_getElem? (i := 41) rfl))) (mvT hZ (hw _ (List.mem_of_getElem? (i := 42) rfl))) (notFace_of_selects (args := #[]) (mvT hZ (hw _ (List.mem_of_getElem? (i := 44) rfl)))) (mvT hZ (hw _ (List.mem_of_getElem? (i := 44) rfl))) (mvT hZ (hw _ (List.mem_of_getElem? (i := 43) rfl))) (by decide) (backOf (W := 0) (rm7 l Z a0 hw [] b25 (3 : Int32) T30.heap n0 Z30 Gf30_taken) hZ (hw _ (List.mem_of_getElem? (i := 45) rfl)) (hw _ (List.mem_of_getElem? (i := 6) rfl)) (by decide) (by decide)) q31a q31c (g := (mkF m 55 #[.val (.int x0), .val (.int cnt), .val (.ref b25), .val (.int (1 : Int32)), .val (.int (1 : Int32)), .val (.int (1 : Int32)), .val (.int (0 : Int32)), .unset, .unset, .unset, .unset] [(.ref b25)])) rfl (by rw [hml]; rfl) (Steps.refl _) (argsL := []) (rest := []) (lenOf pd___I rfl) rfl (by show 2 * 0 + _ ≤ _; exact Nat.le_of_eq rfl) (hb hby at_55) (fun _ _ => ⟨rfl, rfl, (by decide : 3 + 0 ≤ _), (by decide : 23 + 0 ≤ _)⟩)
          dsimp only [Pt.U, Pt.locs, Pt.cells, Pt.slots] at X31 l31 y31 z31 st31 hQ31
          subst l31 y31 z31
          obtain ⟨rfl, Nq31, e31⟩ := hQ31
          have N31 := Fr.app N30 Nq31
          refine go (fun tg kg => st31.trans kg) ?_
          show G (T31.setTop (mkF m 58 #[.val (.int x0), .val (.int cnt), .val (.ref b25), .val (.int (1 : Int32)), .val (.int (1 : Int32)), .val (.int (1 : Int32)), .val (.int (0 : Int32)), .unset, .unset, .unset, .unset] [(.int (3 : Int32))]))
          refine go (fun tg kg => XS.istore X31.here hx rfl (hb hby at_58) rfl (l' := #[.val (.int x0), .val (.int cnt), .val (.ref b25), .val (.int (1 : Int32)), .val (.int (1 : Int32)), .val (.int (1 : Int32)), .val (.int (0 : Int32)), .val (.int (3 : Int32)), .unset, .unset, .unset]) rfl kg) ?_
          show G (T31.setTop (mkF m 60 #[.val (.int x0), .val (.int cnt), .val (.ref b25), .val (.int (1 : Int32)), .val (.int (1 : Int32)), .val (.int (1 : Int32)), .val (.int (0 : Int32)), .val (.int (3 : Int32)), .unset, .unset, .unset] []))
          refine go (fun tg kg => XS.aloadN X31.here hx rfl (hb hby at_60) rfl rfl kg) ?_
          show G (T31.setTop (mkF m 61 #[.val (.int x0), .val (.int cnt), .val (.ref b25), .val (.int (1 : Int32)), .val (.int (1 : Int32)), .val (.int (1 : Int32)), .val (.int (0 : Int32)), .val (.int (3 : Int32)), .unset, .unset, .unset] [(.ref b25)]))
          obtain ⟨cq32, kq32, q32a, q32b, q32c⟩ := isOf hZ e31 Ge30
          obtain ⟨_, _, ⟨T32, L32, k32, n32⟩, -, X32, ⟨Lc32, hQ32, l32, y32, z32⟩, st32⟩ := X31.virtualBack hx (y := (⟨"com/example/drumline/drumline/engine/Slots", "free", "()V"⟩ : MethodName)) (z := (⟨"com/example/drumline/drumline/engine/Slots", "free", "()V"⟩ : MethodName)) hown (mvT hZ (hw _ (List.mem_of_getElem? (i := 46) rfl))) (mvT hZ (hw _ (List.mem_of_getElem? (i := 47) rfl))) (notFace_of_selects (args := #[]) (mvT hZ (hw _ (List.mem_of_getElem? (i := 49) rfl)))) (mvT hZ (hw _ (List.mem_of_getElem? (i := 49) rfl))) (mvT hZ (hw _ (List.mem_of_getElem? (i := 48) rfl))) (by decide) (backOf (W := 0) (rm8 l Z a0 hw [] b25 cnt (3 : Int32) T30.heap n0 Z30 Ge30 ge_b25 Gf30_count Gf30_taken) hZ (hw _ (List.mem_of_getElem? (i := 50) rfl)) (hw _ (List.mem_of_getElem? (i := 6) rfl)) (by decide) (by decide)) q32a q32c (g := (mkF m 61 #[.val (.int x0), .val (.int cnt), .val (.ref b25), .val (.int (1 : Int32)), .val (.int (1 : Int32)), .val (.int (1 : Int32)), .val (.int (0 : Int32)), .val (.int (3 : Int32)), .unset, .unset, .unset] [(.ref b25)])) rfl (by rw [hml]; rfl) (Steps.refl _) (argsL := []) (rest := []) (lenOf pd___V rfl) rfl (by show 2 * 0 + _ ≤ _; exact Nat.le_of_eq rfl) (hb hby at_61) (fun _ _ => ⟨rfl, e31, (by decide : 3 + 0 ≤ _), (by decide : 23 + 0 ≤ _)⟩)
          dsimp only [Pt.U, Pt.locs, Pt.cells, Pt.slots] at X32 l32 y32 z32 st32 hQ32
          subst l32 y32 z32
          obtain ⟨rfl, Nq32, K32, Ge32, Gf32_count, Gf32_taken⟩ := hQ32
          have Z32 := Nat.le_trans Z30 K32.1
          replace Gf32_taken : Fld Z T32.heap b25 "com/example/drumline/drumline/engine/Slots" "taken" "I" (.int (2 : Int32)) := Gf32_taken
          have N32 := Fr.app N31 Nq32
          refine go (fun tg kg => st32.trans kg) ?_
          show G (T32.setTop (mkF m 64 #[.val (.int x0), .val (.int cnt), .val (.ref b25), .val (.int (1 : Int32)), .val (.int (1 : Int32)), .val (.int (1 : Int32)), .val (.int (0 : Int32)), .val (.int (3 : Int32)), .unset, .unset, .unset] []))
          refine go (fun tg kg => XS.aloadN X32.here hx rfl (hb hby at_64) rfl rfl kg) ?_
          show G (T32.setTop (mkF m 65 #[.val (.int x0), .val (.int cnt), .val (.ref b25), .val (.int (1 : Int32)), .val (.int (1 : Int32)), .val (.int (1 : Int32)), .val (.int (0 : Int32)), .val (.int (3 : Int32)), .unset, .unset, .unset] [(.ref b25)]))
          obtain ⟨cq33, kq33, q33a, q33b, q33c⟩ := isOf hZ rfl Ge32
          obtain ⟨_, _, ⟨T33, L33, k33, n33⟩, -, X33, ⟨Lc33, hQ33, l33, y33, z33⟩, st33⟩ := X32.virtualBack hx (y := (⟨"com/example/drumline/drumline/engine/Slots", "take", "()Z"⟩ : MethodName)) (z := (⟨"com/example/drumline/drumline/engine/Slots", "take", "()Z"⟩ : MethodName)) hown (mvT hZ (hw _ (List.mem_of_getElem? (i := 34) rfl))) (mvT hZ (hw _ (List.mem_of_getElem? (i := 35) rfl))) (notFace_of_selects (args := #[]) (mvT hZ (hw _ (List.mem_of_getElem? (i := 37) rfl)))) (mvT hZ (hw _ (List.mem_of_getElem? (i := 37) rfl))) (mvT hZ (hw _ (List.mem_of_getElem? (i := 36) rfl))) (by decide) (backOf (W := 0) (rm6_1 l Z a0 hw [] b25 cnt (2 : Int32) T32.heap n0 Z32 Ge32 ge_b25 Gf32_count Gf32_taken (own_up hp3 2 (by decide))) hZ (hw _ (List.mem_of_getElem? (i := 38) rfl)) (hw _ (List.mem_of_getElem? (i := 6) rfl)) (by decide) (by decide)) q33a q33c (g := (mkF m 65 #[.val (.int x0), .val (.int cnt), .val (.ref b25), .val (.int (1 : Int32)), .val (.int (1 : Int32)), .val (.int (1 : Int32)), .val (.int (0 : Int32)), .val (.int (3 : Int32)), .unset, .unset, .unset] [(.ref b25)])) rfl (by rw [hml]; rfl) (Steps.refl _) (argsL := []) (rest := []) (lenOf pd___Z rfl) rfl (by show 2 * 0 + _ ≤ _; exact Nat.le_of_eq rfl) (hb hby at_65) (fun _ _ => ⟨rfl, rfl, (by decide : 3 + 0 ≤ _), (by decide : 23 + 0 ≤ _)⟩)
          dsimp only [Pt.U, Pt.locs, Pt.cells, Pt.slots] at X33 l33 y33 z33 st33 hQ33
          subst l33 y33 z33
          obtain ⟨rfl, Nq33, K33, Ge33, Gf33_count, Gf33_taken⟩ := hQ33
          have Z33 := Nat.le_trans Z32 K33.1
          replace Gf33_taken : Fld Z T33.heap b25 "com/example/drumline/drumline/engine/Slots" "taken" "I" (.int (3 : Int32)) := Gf33_taken
          have N33 := Fr.app N32 Nq33
          refine go (fun tg kg => st33.trans kg) ?_
          show G (T33.setTop (mkF m 68 #[.val (.int x0), .val (.int cnt), .val (.ref b25), .val (.int (1 : Int32)), .val (.int (1 : Int32)), .val (.int (1 : Int32)), .val (.int (0 : Int32)), .val (.int (3 : Int32)), .unset, .unset, .unset] [(.int (1 : Int32))]))
          refine go (fun tg kg => XS.istore X33.here hx rfl (hb hby at_68) rfl (l' := #[.val (.int x0), .val (.int cnt), .val (.ref b25), .val (.int (1 : Int32)), .val (.int (1 : Int32)), .val (.int (1 : Int32)), .val (.int (0 : Int32)), .val (.int (3 : Int32)), .val (.int (1 : Int32)), .unset, .unset]) rfl kg) ?_
          show G (T33.setTop (mkF m 70 #[.val (.int x0), .val (.int cnt), .val (.ref b25), .val (.int (1 : Int32)), .val (.int (1 : Int32)), .val (.int (1 : Int32)), .val (.int (0 : Int32)), .val (.int (3 : Int32)), .val (.int (1 : Int32)), .unset, .unset] []))
          refine go (fun tg kg => XS.aloadN X33.here hx rfl (hb hby at_70) rfl rfl kg) ?_
          show G (T33.setTop (mkF m 71 #[.val (.int x0), .val (.int cnt), .val (.ref b25), .val (.int (1 : Int32)), .val (.int (1 : Int32)), .val (.int (1 : Int32)), .val (.int (0 : Int32)), .val (.int (3 : Int32)), .val (.int (1 : Int32)), .unset, .unset] [(.ref b25)]))
          obtain ⟨cq34, kq34, q34a, q34b, q34c⟩ := isOf hZ rfl Ge33
          obtain ⟨_, _, ⟨T34, L34, k34, n34⟩, -, X34, ⟨Lc34, hQ34, l34, y34, z34⟩, st34⟩ := X33.virtualBack hx (y := (⟨"com/example/drumline/drumline/engine/Slots", "taken", "()I"⟩ : MethodName)) (z := (⟨"com/example/drumline/drumline/engine/Slots", "taken", "()I"⟩ : MethodName)) hown (mvT hZ (hw _ (List.mem_of_getElem? (i := 41) rfl))) (mvT hZ (hw _ (List.mem_of_getElem? (i := 42) rfl))) (notFace_of_selects (args := #[]) (mvT hZ (hw _ (List.mem_of_getElem? (i := 44) rfl)))) (mvT hZ (hw _ (List.mem_of_getElem? (i := 44) rfl))) (mvT hZ (hw _ (List.mem_of_getElem? (i := 43) rfl))) (by decide) (backOf (W := 0) (rm7 l Z a0 hw [] b25 (3 : Int32) T33.heap n0 Z33 Gf33_taken) hZ (hw _ (List.mem_of_getElem? (i := 45) rfl)) (hw _ (List.mem_of_getElem? (i := 6) rfl)) (by decide) (by decide)) q34a q34c (g := (mkF m 71 #[.val (.int x0), .val (.int cnt), .val (.ref b25), .val (.int (1 : Int32)), .val (.int (1 : Int32)), .val (.int (1 : Int32)), .val (.int (0 : Int32)), .val (.int (3 : Int32)), .val (.int (1 : Int32)), .unset, .unset] [(.ref b25)])) rfl (by rw [hml]; rfl) (Steps.refl _) (argsL := []) (rest := []) (lenOf pd___I rfl) rfl (by show 2 * 0 + _ ≤ _; exact Nat.le_of_eq rfl) (hb hby at_71) (fun _ _ => ⟨rfl, rfl, (by decide : 3 + 0 ≤ _), (by decide : 23 + 0 ≤ _)⟩)
          dsimp only [Pt.U, Pt.locs, Pt.cells, Pt.slots] at X34 l34 y34 z34 st34 hQ34
          subst l34 y34 z34
          obtain ⟨rfl, Nq34, e34⟩ := hQ34
          have N34 := Fr.app N33 Nq34
          refine go (fun tg kg => st34.trans kg) ?_
          show G (T34.setTop (mkF m 74 #[.val (.int x0), .val (.int cnt), .val (.ref b25), .val (.int (1 : Int32)), .val (.int (1 : Int32)), .val (.int (1 : Int32)), .val (.int (0 : Int32)), .val (.int (3 : Int32)), .val (.int (1 : Int32)), .unset, .unset] [(.int (3 : Int32))]))
          refine go (fun tg kg => XS.istore X34.here hx rfl (hb hby at_74) rfl (l' := #[.val (.int x0), .val (.int cnt), .val (.ref b25), .val (.int (1 : Int32)), .val (.int (1 : Int32)), .val (.int (1 : Int32)), .val (.int (0 : Int32)), .val (.int (3 : Int32)), .val (.int (1 : Int32)), .val (.int (3 : Int32)), .unset]) rfl kg) ?_
          show G (T34.setTop (mkF m 76 #[.val (.int x0), .val (.int cnt), .val (.ref b25), .val (.int (1 : Int32)), .val (.int (1 : Int32)), .val (.int (1 : Int32)), .val (.int (0 : Int32)), .val (.int (3 : Int32)), .val (.int (1 : Int32)), .val (.int (3 : Int32)), .unset] []))
          refine go (fun tg kg => XS.iconst X34.here hx rfl (hb hby at_76) kg) ?_
          show G (T34.setTop (mkF m 77 #[.val (.int x0), .val (.int cnt), .val (.ref b25), .val (.int (1 : Int32)), .val (.int (1 : Int32)), .val (.int (1 : Int32)), .val (.int (0 : Int32)), .val (.int (3 : Int32)), .val (.int (1 : Int32)), .val (.int (3 : Int32)), .unset] [(.int (4 : Int32))]))
          refine go (fun tg kg => XS.iloadN X34.here hx rfl (hb hby at_77) rfl kg) ?_
          show G (T34.setTop (mkF m 78 #[.val (.int x0), .val (.int cnt), .val (.ref b25), .val (.int (1 : Int32)), .val (.int (1 : Int32)), .val (.int (1 : Int32)), .val (.int (0 : Int32)), .val (.int (3 : Int32)), .val (.int (1 : Int32)), .val (.int (3 : Int32)), .unset] [(.int cnt), (.int (4 : Int32))]))
          obtain ⟨_, _, ⟨T35, L35, k35, n35⟩, -, X35, ⟨Lc35, hQ35, l35, y35, z35⟩, st35⟩ := Jvm.LawKit.callS X34 hx (y := (⟨"java/lang/Math", "min", "(II)I"⟩ : MethodName)) hown (mvT hZ (hw _ (List.mem_of_getElem? (i := 51) rfl))) (mvT hZ (hw _ (List.mem_of_getElem? (i := 52) rfl))) (mvT hZ (hw _ (List.mem_of_getElem? (i := 2) rfl))) (mvT hZ (hw _ (List.mem_of_getElem? (i := 53) rfl))) (by decide) (backOf (W := 0) (rm9 l Z a0 hw [] (4 : Int32) cnt T33.heap n0 Z33 ) hZ (hw _ (List.mem_of_getElem? (i := 53) rfl)) (hw _ (List.mem_of_getElem? (i := 2) rfl)) (by decide) (by decide)) (g := (mkF m 78 #[.val (.int x0), .val (.int cnt), .val (.ref b25), .val (.int (1 : Int32)), .val (.int (1 : Int32)), .val (.int (1 : Int32)), .val (.int (0 : Int32)), .val (.int (3 : Int32)), .val (.int (1 : Int32)), .val (.int (3 : Int32)), .unset] [(.int cnt), (.int (4 : Int32))])) rfl (by rw [hml]; rfl) (argsL := [(.int (4 : Int32)), (.int cnt)]) (rest := []) (lenOf pd__II_I rfl) rfl (by show 2 * 0 + _ ≤ _; exact Nat.le_of_eq rfl) (hb hby at_78) (fun _ _ => ⟨rfl, e34, (by decide : 3 + 0 ≤ _), (by decide : 23 + 0 ≤ _)⟩)
          dsimp only [Pt.U, Pt.locs, Pt.cells, Pt.slots] at X35 l35 y35 z35 st35 hQ35
          subst l35 y35 z35
          obtain ⟨rfl, Nq35, e35⟩ := hQ35
          rw [own_min_p (own_wk hk3 4 (by decide))] at st35
          have N35 := Fr.app N34 Nq35
          refine go st35 ?_
          show G (T35.setTop (mkF m 81 #[.val (.int x0), .val (.int cnt), .val (.ref b25), .val (.int (1 : Int32)), .val (.int (1 : Int32)), .val (.int (1 : Int32)), .val (.int (0 : Int32)), .val (.int (3 : Int32)), .val (.int (1 : Int32)), .val (.int (3 : Int32)), .unset] [(.int cnt)]))
          refine go (fun tg kg => XS.istore X35.here hx rfl (hb hby at_81) rfl (l' := #[.val (.int x0), .val (.int cnt), .val (.ref b25), .val (.int (1 : Int32)), .val (.int (1 : Int32)), .val (.int (1 : Int32)), .val (.int (0 : Int32)), .val (.int (3 : Int32)), .val (.int (1 : Int32)), .val (.int (3 : Int32)), .val (.int cnt)]) rfl kg) ?_
          show G (T35.setTop (mkF m 83 #[.val (.int x0), .val (.int cnt), .val (.ref b25), .val (.int (1 : Int32)), .val (.int (1 : Int32)), .val (.int (1 : Int32)), .val (.int (0 : Int32)), .val (.int (3 : Int32)), .val (.int (1 : Int32)), .val (.int (3 : Int32)), .val (.int cnt)] []))
          refine go (fun tg kg => XS.iloadN X35.here hx rfl (hb hby at_83) rfl kg) ?_
          show G (T35.setTop (mkF m 84 #[.val (.int x0), .val (.int cnt), .val (.ref b25), .val (.int (1 : Int32)), .val (.int (1 : Int32)), .val (.int (1 : Int32)), .val (.int (0 : Int32)), .val (.int (3 : Int32)), .val (.int (1 : Int32)), .val (.int (3 : Int32)), .val (.int cnt)] [(.int (1 : Int32))]))
          refine go (fun tg kg => XS.iconst X35.here hx rfl (hb hby at_84) kg) ?_
          show G (T35.setTop (mkF m 85 #[.val (.int x0), .val (.int cnt), .val (.ref b25), .val (.int (1 : Int32)), .val (.int (1 : Int32)), .val (.int (1 : Int32)), .val (.int (0 : Int32)), .val (.int (3 : Int32)), .val (.int (1 : Int32)), .val (.int (3 : Int32)), .val (.int cnt)] [(.int (1 : Int32)), (.int (1 : Int32))]))
          refine go (fun tg kg => XS.iloadN X35.here hx rfl (hb hby at_85) rfl kg) ?_
          show G (T35.setTop (mkF m 86 #[.val (.int x0), .val (.int cnt), .val (.ref b25), .val (.int (1 : Int32)), .val (.int (1 : Int32)), .val (.int (1 : Int32)), .val (.int (0 : Int32)), .val (.int (3 : Int32)), .val (.int (1 : Int32)), .val (.int (3 : Int32)), .val (.int cnt)] [(.int cnt), (.int (1 : Int32)), (.int (1 : Int32))]))
          refine go (fun tg kg => XS.icmpNo X35.here hx rfl (hb hby at_86) rfl (flt (own_st hp3 1 (by decide))).2.2.1 kg) ?_
          show G (T35.setTop (mkF m 89 #[.val (.int x0), .val (.int cnt), .val (.ref b25), .val (.int (1 : Int32)), .val (.int (1 : Int32)), .val (.int (1 : Int32)), .val (.int (0 : Int32)), .val (.int (3 : Int32)), .val (.int (1 : Int32)), .val (.int (3 : Int32)), .val (.int cnt)] [(.int (1 : Int32))]))
          refine go (fun tg kg => XS.iconst X35.here hx rfl (hb hby at_89) kg) ?_
          show G (T35.setTop (mkF m 90 #[.val (.int x0), .val (.int cnt), .val (.ref b25), .val (.int (1 : Int32)), .val (.int (1 : Int32)), .val (.int (1 : Int32)), .val (.int (0 : Int32)), .val (.int (3 : Int32)), .val (.int (1 : Int32)), .val (.int (3 : Int32)), .val (.int cnt)] [(.int (1 : Int32)), (.int (1 : Int32))]))
          refine go (fun tg kg => XS.goto X35.here hx rfl (pc0 := 90) (pc' := 94) rfl (hb hby at_90) (by decide) (by decide) kg) ?_
          show G (T35.setTop (mkF m 94 #[.val (.int x0), .val (.int cnt), .val (.ref b25), .val (.int (1 : Int32)), .val (.int (1 : Int32)), .val (.int (1 : Int32)), .val (.int (0 : Int32)), .val (.int (3 : Int32)), .val (.int (1 : Int32)), .val (.int (3 : Int32)), .val (.int cnt)] [(.int (1 : Int32)), (.int (1 : Int32))]))
          refine go (fun tg kg => XS.icmpNo X35.here hx rfl (hb hby at_94) rfl (teq (by decide)).2 kg) ?_
          show G (T35.setTop (mkF m 97 #[.val (.int x0), .val (.int cnt), .val (.ref b25), .val (.int (1 : Int32)), .val (.int (1 : Int32)), .val (.int (1 : Int32)), .val (.int (0 : Int32)), .val (.int (3 : Int32)), .val (.int (1 : Int32)), .val (.int (3 : Int32)), .val (.int cnt)] []))
          refine go (fun tg kg => XS.iload X35.here hx rfl (hb hby at_97) rfl kg) ?_
          show G (T35.setTop (mkF m 99 #[.val (.int x0), .val (.int cnt), .val (.ref b25), .val (.int (1 : Int32)), .val (.int (1 : Int32)), .val (.int (1 : Int32)), .val (.int (0 : Int32)), .val (.int (3 : Int32)), .val (.int (1 : Int32)), .val (.int (3 : Int32)), .val (.int cnt)] [(.int (1 : Int32))]))
          refine go (fun tg kg => XS.iconst X35.here hx rfl (hb hby at_99) kg) ?_
          show G (T35.setTop (mkF m 100 #[.val (.int x0), .val (.int cnt), .val (.ref b25), .val (.int (1 : Int32)), .val (.int (1 : Int32)), .val (.int (1 : Int32)), .val (.int (0 : Int32)), .val (.int (3 : Int32)), .val (.int (1 : Int32)), .val (.int (3 : Int32)), .val (.int cnt)] [(.int (2 : Int32)), (.int (1 : Int32))]))
          refine go (fun tg kg => XS.iloadN X35.here hx rfl (hb hby at_100) rfl kg) ?_
          show G (T35.setTop (mkF m 101 #[.val (.int x0), .val (.int cnt), .val (.ref b25), .val (.int (1 : Int32)), .val (.int (1 : Int32)), .val (.int (1 : Int32)), .val (.int (0 : Int32)), .val (.int (3 : Int32)), .val (.int (1 : Int32)), .val (.int (3 : Int32)), .val (.int cnt)] [(.int cnt), (.int (2 : Int32)), (.int (1 : Int32))]))
          refine go (fun tg kg => XS.icmpNo X35.here hx rfl (hb hby at_101) rfl (flt (own_st hp3 2 (by decide))).2.2.1 kg) ?_
          show G (T35.setTop (mkF m 104 #[.val (.int x0), .val (.int cnt), .val (.ref b25), .val (.int (1 : Int32)), .val (.int (1 : Int32)), .val (.int (1 : Int32)), .val (.int (0 : Int32)), .val (.int (3 : Int32)), .val (.int (1 : Int32)), .val (.int (3 : Int32)), .val (.int cnt)] [(.int (1 : Int32))]))
          refine go (fun tg kg => XS.iconst X35.here hx rfl (hb hby at_104) kg) ?_
          show G (T35.setTop (mkF m 105 #[.val (.int x0), .val (.int cnt), .val (.ref b25), .val (.int (1 : Int32)), .val (.int (1 : Int32)), .val (.int (1 : Int32)), .val (.int (0 : Int32)), .val (.int (3 : Int32)), .val (.int (1 : Int32)), .val (.int (3 : Int32)), .val (.int cnt)] [(.int (1 : Int32)), (.int (1 : Int32))]))
          refine go (fun tg kg => XS.goto X35.here hx rfl (pc0 := 105) (pc' := 109) rfl (hb hby at_105) (by decide) (by decide) kg) ?_
          show G (T35.setTop (mkF m 109 #[.val (.int x0), .val (.int cnt), .val (.ref b25), .val (.int (1 : Int32)), .val (.int (1 : Int32)), .val (.int (1 : Int32)), .val (.int (0 : Int32)), .val (.int (3 : Int32)), .val (.int (1 : Int32)), .val (.int (3 : Int32)), .val (.int cnt)] [(.int (1 : Int32)), (.int (1 : Int32))]))
          refine go (fun tg kg => XS.icmpNo X35.here hx rfl (hb hby at_109) rfl (teq (by decide)).2 kg) ?_
          show G (T35.setTop (mkF m 112 #[.val (.int x0), .val (.int cnt), .val (.ref b25), .val (.int (1 : Int32)), .val (.int (1 : Int32)), .val (.int (1 : Int32)), .val (.int (0 : Int32)), .val (.int (3 : Int32)), .val (.int (1 : Int32)), .val (.int (3 : Int32)), .val (.int cnt)] []))
          refine go (fun tg kg => XS.iload X35.here hx rfl (hb hby at_112) rfl kg) ?_
          show G (T35.setTop (mkF m 114 #[.val (.int x0), .val (.int cnt), .val (.ref b25), .val (.int (1 : Int32)), .val (.int (1 : Int32)), .val (.int (1 : Int32)), .val (.int (0 : Int32)), .val (.int (3 : Int32)), .val (.int (1 : Int32)), .val (.int (3 : Int32)), .val (.int cnt)] [(.int (1 : Int32))]))
          refine go (fun tg kg => XS.iconst X35.here hx rfl (hb hby at_114) kg) ?_
          show G (T35.setTop (mkF m 115 #[.val (.int x0), .val (.int cnt), .val (.ref b25), .val (.int (1 : Int32)), .val (.int (1 : Int32)), .val (.int (1 : Int32)), .val (.int (0 : Int32)), .val (.int (3 : Int32)), .val (.int (1 : Int32)), .val (.int (3 : Int32)), .val (.int cnt)] [(.int (3 : Int32)), (.int (1 : Int32))]))
          refine go (fun tg kg => XS.iloadN X35.here hx rfl (hb hby at_115) rfl kg) ?_
          show G (T35.setTop (mkF m 116 #[.val (.int x0), .val (.int cnt), .val (.ref b25), .val (.int (1 : Int32)), .val (.int (1 : Int32)), .val (.int (1 : Int32)), .val (.int (0 : Int32)), .val (.int (3 : Int32)), .val (.int (1 : Int32)), .val (.int (3 : Int32)), .val (.int cnt)] [(.int cnt), (.int (3 : Int32)), (.int (1 : Int32))]))
          refine go (fun tg kg => XS.icmpNo X35.here hx rfl (hb hby at_116) rfl (flt (own_st hp3 3 (by decide))).2.2.1 kg) ?_
          show G (T35.setTop (mkF m 119 #[.val (.int x0), .val (.int cnt), .val (.ref b25), .val (.int (1 : Int32)), .val (.int (1 : Int32)), .val (.int (1 : Int32)), .val (.int (0 : Int32)), .val (.int (3 : Int32)), .val (.int (1 : Int32)), .val (.int (3 : Int32)), .val (.int cnt)] [(.int (1 : Int32))]))
          refine go (fun tg kg => XS.iconst X35.here hx rfl (hb hby at_119) kg) ?_
          show G (T35.setTop (mkF m 120 #[.val (.int x0), .val (.int cnt), .val (.ref b25), .val (.int (1 : Int32)), .val (.int (1 : Int32)), .val (.int (1 : Int32)), .val (.int (0 : Int32)), .val (.int (3 : Int32)), .val (.int (1 : Int32)), .val (.int (3 : Int32)), .val (.int cnt)] [(.int (1 : Int32)), (.int (1 : Int32))]))
          refine go (fun tg kg => XS.goto X35.here hx rfl (pc0 := 120) (pc' := 124) rfl (hb hby at_120) (by decide) (by decide) kg) ?_
          show G (T35.setTop (mkF m 124 #[.val (.int x0), .val (.int cnt), .val (.ref b25), .val (.int (1 : Int32)), .val (.int (1 : Int32)), .val (.int (1 : Int32)), .val (.int (0 : Int32)), .val (.int (3 : Int32)), .val (.int (1 : Int32)), .val (.int (3 : Int32)), .val (.int cnt)] [(.int (1 : Int32)), (.int (1 : Int32))]))
          refine go (fun tg kg => XS.icmpNo X35.here hx rfl (hb hby at_124) rfl (teq (by decide)).2 kg) ?_
          show G (T35.setTop (mkF m 127 #[.val (.int x0), .val (.int cnt), .val (.ref b25), .val (.int (1 : Int32)), .val (.int (1 : Int32)), .val (.int (1 : Int32)), .val (.int (0 : Int32)), .val (.int (3 : Int32)), .val (.int (1 : Int32)), .val (.int (3 : Int32)), .val (.int cnt)] []))
          refine go (fun tg kg => XS.iload X35.here hx rfl (hb hby at_127) rfl kg) ?_
          show G (T35.setTop (mkF m 129 #[.val (.int x0), .val (.int cnt), .val (.ref b25), .val (.int (1 : Int32)), .val (.int (1 : Int32)), .val (.int (1 : Int32)), .val (.int (0 : Int32)), .val (.int (3 : Int32)), .val (.int (1 : Int32)), .val (.int (3 : Int32)), .val (.int cnt)] [(.int (0 : Int32))]))
          refine go (fun tg kg => XS.iconst X35.here hx rfl (hb hby at_129) kg) ?_
          show G (T35.setTop (mkF m 130 #[.val (.int x0), .val (.int cnt), .val (.ref b25), .val (.int (1 : Int32)), .val (.int (1 : Int32)), .val (.int (1 : Int32)), .val (.int (0 : Int32)), .val (.int (3 : Int32)), .val (.int (1 : Int32)), .val (.int (3 : Int32)), .val (.int cnt)] [(.int (4 : Int32)), (.int (0 : Int32))]))
          refine go (fun tg kg => XS.iloadN X35.here hx rfl (hb hby at_130) rfl kg) ?_
          show G (T35.setTop (mkF m 131 #[.val (.int x0), .val (.int cnt), .val (.ref b25), .val (.int (1 : Int32)), .val (.int (1 : Int32)), .val (.int (1 : Int32)), .val (.int (0 : Int32)), .val (.int (3 : Int32)), .val (.int (1 : Int32)), .val (.int (3 : Int32)), .val (.int cnt)] [(.int cnt), (.int (4 : Int32)), (.int (0 : Int32))]))
          refine go (fun tg kg => XS.icmpYes X35.here hx rfl (pc0 := 131) (pc' := 138) rfl (hb hby at_131) rfl (tlt (own_wk hk3 4 (by decide))).2.2.1 (by decide) (by decide) kg) ?_
          show G (T35.setTop (mkF m 138 #[.val (.int x0), .val (.int cnt), .val (.ref b25), .val (.int (1 : Int32)), .val (.int (1 : Int32)), .val (.int (1 : Int32)), .val (.int (0 : Int32)), .val (.int (3 : Int32)), .val (.int (1 : Int32)), .val (.int (3 : Int32)), .val (.int cnt)] [(.int (0 : Int32))]))
          refine go (fun tg kg => XS.iconst X35.here hx rfl (hb hby at_138) kg) ?_
          show G (T35.setTop (mkF m 139 #[.val (.int x0), .val (.int cnt), .val (.ref b25), .val (.int (1 : Int32)), .val (.int (1 : Int32)), .val (.int (1 : Int32)), .val (.int (0 : Int32)), .val (.int (3 : Int32)), .val (.int (1 : Int32)), .val (.int (3 : Int32)), .val (.int cnt)] [(.int (0 : Int32)), (.int (0 : Int32))]))
          refine go (fun tg kg => XS.icmpNo X35.here hx rfl (hb hby at_139) rfl (teq (by decide)).2 kg) ?_
          show G (T35.setTop (mkF m 142 #[.val (.int x0), .val (.int cnt), .val (.ref b25), .val (.int (1 : Int32)), .val (.int (1 : Int32)), .val (.int (1 : Int32)), .val (.int (0 : Int32)), .val (.int (3 : Int32)), .val (.int (1 : Int32)), .val (.int (3 : Int32)), .val (.int cnt)] []))
          refine go (fun tg kg => XS.iload X35.here hx rfl (hb hby at_142) rfl kg) ?_
          show G (T35.setTop (mkF m 144 #[.val (.int x0), .val (.int cnt), .val (.ref b25), .val (.int (1 : Int32)), .val (.int (1 : Int32)), .val (.int (1 : Int32)), .val (.int (0 : Int32)), .val (.int (3 : Int32)), .val (.int (1 : Int32)), .val (.int (3 : Int32)), .val (.int cnt)] [(.int (3 : Int32))]))
          refine go (fun tg kg => XS.iload X35.here hx rfl (hb hby at_144) rfl kg) ?_
          show G (T35.setTop (mkF m 146 #[.val (.int x0), .val (.int cnt), .val (.ref b25), .val (.int (1 : Int32)), .val (.int (1 : Int32)), .val (.int (1 : Int32)), .val (.int (0 : Int32)), .val (.int (3 : Int32)), .val (.int (1 : Int32)), .val (.int (3 : Int32)), .val (.int cnt)] [(.int cnt), (.int (3 : Int32))]))
          refine go (fun tg kg => XS.icmpNo X35.here hx rfl (hb hby at_146) rfl (teq (own_eq hk3 hp3 (by decide))).2 kg) ?_
          show G (T35.setTop (mkF m 149 #[.val (.int x0), .val (.int cnt), .val (.ref b25), .val (.int (1 : Int32)), .val (.int (1 : Int32)), .val (.int (1 : Int32)), .val (.int (0 : Int32)), .val (.int (3 : Int32)), .val (.int (1 : Int32)), .val (.int (3 : Int32)), .val (.int cnt)] []))
          refine go (fun tg kg => XS.iload X35.here hx rfl (hb hby at_149) rfl kg) ?_
          show G (T35.setTop (mkF m 151 #[.val (.int x0), .val (.int cnt), .val (.ref b25), .val (.int (1 : Int32)), .val (.int (1 : Int32)), .val (.int (1 : Int32)), .val (.int (0 : Int32)), .val (.int (3 : Int32)), .val (.int (1 : Int32)), .val (.int (3 : Int32)), .val (.int cnt)] [(.int (1 : Int32))]))
          refine go (fun tg kg => XS.ifNo X35.here hx rfl (hb hby at_151) rfl ((if0 _ _).trans (feq (by decide)).1) kg) ?_
          show G (T35.setTop (mkF m 154 #[.val (.int x0), .val (.int cnt), .val (.ref b25), .val (.int (1 : Int32)), .val (.int (1 : Int32)), .val (.int (1 : Int32)), .val (.int (0 : Int32)), .val (.int (3 : Int32)), .val (.int (1 : Int32)), .val (.int (3 : Int32)), .val (.int cnt)] []))
          refine go (fun tg kg => XS.iload X35.here hx rfl (hb hby at_154) rfl kg) ?_
          show G (T35.setTop (mkF m 156 #[.val (.int x0), .val (.int cnt), .val (.ref b25), .val (.int (1 : Int32)), .val (.int (1 : Int32)), .val (.int (1 : Int32)), .val (.int (0 : Int32)), .val (.int (3 : Int32)), .val (.int (1 : Int32)), .val (.int (3 : Int32)), .val (.int cnt)] [(.int (3 : Int32))]))
          refine go (fun tg kg => XS.iload X35.here hx rfl (hb hby at_156) rfl kg) ?_
          show G (T35.setTop (mkF m 158 #[.val (.int x0), .val (.int cnt), .val (.ref b25), .val (.int (1 : Int32)), .val (.int (1 : Int32)), .val (.int (1 : Int32)), .val (.int (0 : Int32)), .val (.int (3 : Int32)), .val (.int (1 : Int32)), .val (.int (3 : Int32)), .val (.int cnt)] [(.int cnt), (.int (3 : Int32))]))
          refine go (fun tg kg => XS.icmpNo X35.here hx rfl (hb hby at_158) rfl (teq (own_eq hk3 hp3 (by decide))).2 kg) ?_
          show G (T35.setTop (mkF m 161 #[.val (.int x0), .val (.int cnt), .val (.ref b25), .val (.int (1 : Int32)), .val (.int (1 : Int32)), .val (.int (1 : Int32)), .val (.int (0 : Int32)), .val (.int (3 : Int32)), .val (.int (1 : Int32)), .val (.int (3 : Int32)), .val (.int cnt)] []))
          refine go (fun tg kg => XS.iconst X35.here hx rfl (hb hby at_161) kg) ?_
          show G (T35.setTop (mkF m 162 #[.val (.int x0), .val (.int cnt), .val (.ref b25), .val (.int (1 : Int32)), .val (.int (1 : Int32)), .val (.int (1 : Int32)), .val (.int (0 : Int32)), .val (.int (3 : Int32)), .val (.int (1 : Int32)), .val (.int (3 : Int32)), .val (.int cnt)] [(.int (1 : Int32))]))
          refine go (fun tg kg => XS.goto X35.here hx rfl (pc0 := 162) (pc' := 166) rfl (hb hby at_162) (by decide) (by decide) kg) ?_
          show G (T35.setTop (mkF m 166 #[.val (.int x0), .val (.int cnt), .val (.ref b25), .val (.int (1 : Int32)), .val (.int (1 : Int32)), .val (.int (1 : Int32)), .val (.int (0 : Int32)), .val (.int (3 : Int32)), .val (.int (1 : Int32)), .val (.int (3 : Int32)), .val (.int cnt)] [(.int (1 : Int32))]))
          refine fin (some (.int (1 : Int32))) X35 (fun h => absurd h (by decide)) (fun fs hr => retN X35 hx (t := .boolean) hret (by simp) (hb hby at_166) hr) (by decide) (by decide) ?_
          rw [e35]
          exact ⟨rfl, N35⟩
        · have hp4 := hk3
          obtain ⟨T36, h36, X36, e36, E36, A36, D36, -, st36⟩ := newO X2 hx hZ hown (hw _ (List.mem_of_getElem? (i := 4) rfl)) (hw _ (List.mem_of_getElem? (i := 5) rfl)) (hw _ (List.mem_of_getElem? (i := 6) rfl)) e2 (g := (mkF m 22 #[.val (.int x0), .val (.int cnt), .unset, .unset, .unset, .unset, .unset, .unset, .unset, .unset, .unset] [])) rfl (hb hby at_22) (by decide) (by decide)
          obtain ⟨b36, g36⟩ : ∃ z, z = h0.size := ⟨_, rfl⟩
          rw [← g36] at A36 D36 st36
          refine go st36 ?_
          have ge_b36 : n0 ≤ b36 := Nat.le_trans Z0 (Nat.le_of_eq g36.symm)
          have Z36 := Nat.le_trans Z0 E36.1
          have F36_held : Fld Z h36 b36 "com/example/drumline/drumline/engine/Slots" "held" "Ljava/util/Deque;" .null := D36 (Or.inr (hw _ (List.mem_of_getElem? (i := 31) rfl))) (ty := (.object "java/util/Deque")) (by decide)
          have F36_count : Fld Z h36 b36 "com/example/drumline/drumline/engine/Slots" "count" "I" (.int (0 : Int32)) := D36 (Or.inr (hw _ (List.mem_of_getElem? (i := 33) rfl))) (ty := .int) (by decide)
          have F36_taken : Fld Z h36 b36 "com/example/drumline/drumline/engine/Slots" "taken" "I" (.int (0 : Int32)) := D36 (Or.inl (hw _ (List.mem_of_getElem? (i := 40) rfl))) (ty := .int) (by decide)
          show G (T36.setTop (mkF m 25 #[.val (.int x0), .val (.int cnt), .unset, .unset, .unset, .unset, .unset, .unset, .unset, .unset, .unset] [(.ref b36)]))
          refine go (fun tg kg => XS.dup X36.here hx rfl (hb hby at_25) rfl rfl kg) ?_
          show G (T36.setTop (mkF m 26 #[.val (.int x0), .val (.int cnt), .unset, .unset, .unset, .unset, .unset, .unset, .unset, .unset, .unset] [(.ref b36), (.ref b36)]))
          refine go (fun tg kg => XS.iloadN X36.here hx rfl (hb hby at_26) rfl kg) ?_
          show G (T36.setTop (mkF m 27 #[.val (.int x0), .val (.int cnt), .unset, .unset, .unset, .unset, .unset, .unset, .unset, .unset, .unset] [(.int cnt), (.ref b36), (.ref b36)]))
          obtain ⟨_, _, ⟨T37, L37, k37, n37⟩, -, X37, ⟨Lc37, hQ37, l37, y37, z37⟩, st37⟩ := X36.specialBack hx (y := (⟨"com/example/drumline/drumline/engine/Slots", "<init>", "(I)V"⟩ : MethodName)) rfl hown (mvT hZ (hw _ (List.mem_of_getElem? (i := 7) rfl))) (mvT hZ (hw _ (List.mem_of_getElem? (i := 8) rfl))) (mvT hZ (hw _ (List.mem_of_getElem? (i := 9) rfl))) (by decide) (backOf (W := 1) (rm2 l Z a0 hw [] b36 cnt h36 n0 Z36 A36 ge_b36 F36_held F36_count F36_taken) hZ (hw _ (List.mem_of_getElem? (i := 9) rfl)) (hw _ (List.mem_of_getElem? (i := 6) rfl)) (by decide) (by decide)) (g := (mkF m 27 #[.val (.int x0), .val (.int cnt), .unset, .unset, .unset, .unset, .unset, .unset, .unset, .unset, .unset] [(.int cnt), (.ref b36), (.ref b36)])) rfl (by rw [hml]; rfl) (Steps.refl _) (a := b36) (argsL := [(.int cnt)]) (rest := [(.ref b36)]) (lenOf pd__I_V rfl) rfl (by show 2 * 0 + _ ≤ _; exact Nat.le_of_eq rfl) (hb hby at_27) (fun _ _ => ⟨rfl, e36, (by decide : 1 + 2 ≤ _), (by decide : 3 + 20 ≤ _)⟩)
          dsimp only [Pt.U, Pt.locs, Pt.cells, Pt.slots] at X37 l37 y37 z37 st37 hQ37
          subst l37 y37 z37
          obtain ⟨rfl, Nq37, K37, Ge37, Gf37_count, Gf37_taken⟩ := hQ37
          have Z37 := Nat.le_trans Z36 K37.1
          have N37 := Fr.app N2 Nq37
          refine go (fun tg kg => st37.trans kg) ?_
          show G (T37.setTop (mkF m 30 #[.val (.int x0), .val (.int cnt), .unset, .unset, .unset, .unset, .unset, .unset, .unset, .unset, .unset] [(.ref b36)]))
          refine go (fun tg kg => XS.astoreN X37.here hx rfl (hb hby at_30) rfl rfl (l' := #[.val (.int x0), .val (.int cnt), .val (.ref b36), .unset, .unset, .unset, .unset, .unset, .unset, .unset, .unset]) rfl kg) ?_
          show G (T37.setTop (mkF m 31 #[.val (.int x0), .val (.int cnt), .val (.ref b36), .unset, .unset, .unset, .unset, .unset, .unset, .unset, .unset] []))
          refine go (fun tg kg => XS.aloadN X37.here hx rfl (hb hby at_31) rfl rfl kg) ?_
          show G (T37.setTop (mkF m 32 #[.val (.int x0), .val (.int cnt), .val (.ref b36), .unset, .unset, .unset, .unset, .unset, .unset, .unset, .unset] [(.ref b36)]))
          obtain ⟨cq38, kq38, q38a, q38b, q38c⟩ := isOf hZ rfl Ge37
          obtain ⟨_, _, ⟨T38, L38, k38, n38⟩, -, X38, ⟨Lc38, hQ38, l38, y38, z38⟩, st38⟩ := X37.virtualBack hx (y := (⟨"com/example/drumline/drumline/engine/Slots", "take", "()Z"⟩ : MethodName)) (z := (⟨"com/example/drumline/drumline/engine/Slots", "take", "()Z"⟩ : MethodName)) hown (mvT hZ (hw _ (List.mem_of_getElem? (i := 34) rfl))) (mvT hZ (hw _ (List.mem_of_getElem? (i := 35) rfl))) (notFace_of_selects (args := #[]) (mvT hZ (hw _ (List.mem_of_getElem? (i := 37) rfl)))) (mvT hZ (hw _ (List.mem_of_getElem? (i := 37) rfl))) (mvT hZ (hw _ (List.mem_of_getElem? (i := 36) rfl))) (by decide) (backOf (W := 0) (rm6_1 l Z a0 hw [] b36 cnt (0 : Int32) T37.heap n0 Z37 Ge37 ge_b36 Gf37_count Gf37_taken (own_up hp4 0 (by decide))) hZ (hw _ (List.mem_of_getElem? (i := 38) rfl)) (hw _ (List.mem_of_getElem? (i := 6) rfl)) (by decide) (by decide)) q38a q38c (g := (mkF m 32 #[.val (.int x0), .val (.int cnt), .val (.ref b36), .unset, .unset, .unset, .unset, .unset, .unset, .unset, .unset] [(.ref b36)])) rfl (by rw [hml]; rfl) (Steps.refl _) (argsL := []) (rest := []) (lenOf pd___Z rfl) rfl (by show 2 * 0 + _ ≤ _; exact Nat.le_of_eq rfl) (hb hby at_32) (fun _ _ => ⟨rfl, rfl, (by decide : 3 + 0 ≤ _), (by decide : 23 + 0 ≤ _)⟩)
          dsimp only [Pt.U, Pt.locs, Pt.cells, Pt.slots] at X38 l38 y38 z38 st38 hQ38
          subst l38 y38 z38
          obtain ⟨rfl, Nq38, K38, Ge38, Gf38_count, Gf38_taken⟩ := hQ38
          have Z38 := Nat.le_trans Z37 K38.1
          replace Gf38_taken : Fld Z T38.heap b36 "com/example/drumline/drumline/engine/Slots" "taken" "I" (.int (1 : Int32)) := Gf38_taken
          have N38 := Fr.app N37 Nq38
          refine go (fun tg kg => st38.trans kg) ?_
          show G (T38.setTop (mkF m 35 #[.val (.int x0), .val (.int cnt), .val (.ref b36), .unset, .unset, .unset, .unset, .unset, .unset, .unset, .unset] [(.int (1 : Int32))]))
          refine go (fun tg kg => XS.istoreN X38.here hx rfl (hb hby at_35) rfl (l' := #[.val (.int x0), .val (.int cnt), .val (.ref b36), .val (.int (1 : Int32)), .unset, .unset, .unset, .unset, .unset, .unset, .unset]) rfl kg) ?_
          show G (T38.setTop (mkF m 36 #[.val (.int x0), .val (.int cnt), .val (.ref b36), .val (.int (1 : Int32)), .unset, .unset, .unset, .unset, .unset, .unset, .unset] []))
          refine go (fun tg kg => XS.aloadN X38.here hx rfl (hb hby at_36) rfl rfl kg) ?_
          show G (T38.setTop (mkF m 37 #[.val (.int x0), .val (.int cnt), .val (.ref b36), .val (.int (1 : Int32)), .unset, .unset, .unset, .unset, .unset, .unset, .unset] [(.ref b36)]))
          obtain ⟨cq39, kq39, q39a, q39b, q39c⟩ := isOf hZ rfl Ge38
          obtain ⟨_, _, ⟨T39, L39, k39, n39⟩, -, X39, ⟨Lc39, hQ39, l39, y39, z39⟩, st39⟩ := X38.virtualBack hx (y := (⟨"com/example/drumline/drumline/engine/Slots", "take", "()Z"⟩ : MethodName)) (z := (⟨"com/example/drumline/drumline/engine/Slots", "take", "()Z"⟩ : MethodName)) hown (mvT hZ (hw _ (List.mem_of_getElem? (i := 34) rfl))) (mvT hZ (hw _ (List.mem_of_getElem? (i := 35) rfl))) (notFace_of_selects (args := #[]) (mvT hZ (hw _ (List.mem_of_getElem? (i := 37) rfl)))) (mvT hZ (hw _ (List.mem_of_getElem? (i := 37) rfl))) (mvT hZ (hw _ (List.mem_of_getElem? (i := 36) rfl))) (by decide) (backOf (W := 0) (rm6_1 l Z a0 hw [] b36 cnt (1 : Int32) T38.heap n0 Z38 Ge38 ge_b36 Gf38_count Gf38_taken (own_up hp4 1 (by decide))) hZ (hw _ (List.mem_of_getElem? (i := 38) rfl)) (hw _ (List.mem_of_getElem? (i := 6) rfl)) (by decide) (by decide)) q39a q39c (g := (mkF m 37 #[.val (.int x0), .val (.int cnt), .val (.ref b36), .val (.int (1 : Int32)), .unset, .unset, .unset, .unset, .unset, .unset, .unset] [(.ref b36)])) rfl (by rw [hml]; rfl) (Steps.refl _) (argsL := []) (rest := []) (lenOf pd___Z rfl) rfl (by show 2 * 0 + _ ≤ _; exact Nat.le_of_eq rfl) (hb hby at_37) (fun _ _ => ⟨rfl, rfl, (by decide : 3 + 0 ≤ _), (by decide : 23 + 0 ≤ _)⟩)
          dsimp only [Pt.U, Pt.locs, Pt.cells, Pt.slots] at X39 l39 y39 z39 st39 hQ39
          subst l39 y39 z39
          obtain ⟨rfl, Nq39, K39, Ge39, Gf39_count, Gf39_taken⟩ := hQ39
          have Z39 := Nat.le_trans Z38 K39.1
          replace Gf39_taken : Fld Z T39.heap b36 "com/example/drumline/drumline/engine/Slots" "taken" "I" (.int (2 : Int32)) := Gf39_taken
          have N39 := Fr.app N38 Nq39
          refine go (fun tg kg => st39.trans kg) ?_
          show G (T39.setTop (mkF m 40 #[.val (.int x0), .val (.int cnt), .val (.ref b36), .val (.int (1 : Int32)), .unset, .unset, .unset, .unset, .unset, .unset, .unset] [(.int (1 : Int32))]))
          refine go (fun tg kg => XS.istore X39.here hx rfl (hb hby at_40) rfl (l' := #[.val (.int x0), .val (.int cnt), .val (.ref b36), .val (.int (1 : Int32)), .val (.int (1 : Int32)), .unset, .unset, .unset, .unset, .unset, .unset]) rfl kg) ?_
          show G (T39.setTop (mkF m 42 #[.val (.int x0), .val (.int cnt), .val (.ref b36), .val (.int (1 : Int32)), .val (.int (1 : Int32)), .unset, .unset, .unset, .unset, .unset, .unset] []))
          refine go (fun tg kg => XS.aloadN X39.here hx rfl (hb hby at_42) rfl rfl kg) ?_
          show G (T39.setTop (mkF m 43 #[.val (.int x0), .val (.int cnt), .val (.ref b36), .val (.int (1 : Int32)), .val (.int (1 : Int32)), .unset, .unset, .unset, .unset, .unset, .unset] [(.ref b36)]))
          obtain ⟨cq40, kq40, q40a, q40b, q40c⟩ := isOf hZ rfl Ge39
          obtain ⟨_, _, ⟨T40, L40, k40, n40⟩, -, X40, ⟨Lc40, hQ40, l40, y40, z40⟩, st40⟩ := X39.virtualBack hx (y := (⟨"com/example/drumline/drumline/engine/Slots", "take", "()Z"⟩ : MethodName)) (z := (⟨"com/example/drumline/drumline/engine/Slots", "take", "()Z"⟩ : MethodName)) hown (mvT hZ (hw _ (List.mem_of_getElem? (i := 34) rfl))) (mvT hZ (hw _ (List.mem_of_getElem? (i := 35) rfl))) (notFace_of_selects (args := #[]) (mvT hZ (hw _ (List.mem_of_getElem? (i := 37) rfl)))) (mvT hZ (hw _ (List.mem_of_getElem? (i := 37) rfl))) (mvT hZ (hw _ (List.mem_of_getElem? (i := 36) rfl))) (by decide) (backOf (W := 0) (rm6_1 l Z a0 hw [] b36 cnt (2 : Int32) T39.heap n0 Z39 Ge39 ge_b36 Gf39_count Gf39_taken (own_up hp4 2 (by decide))) hZ (hw _ (List.mem_of_getElem? (i := 38) rfl)) (hw _ (List.mem_of_getElem? (i := 6) rfl)) (by decide) (by decide)) q40a q40c (g := (mkF m 43 #[.val (.int x0), .val (.int cnt), .val (.ref b36), .val (.int (1 : Int32)), .val (.int (1 : Int32)), .unset, .unset, .unset, .unset, .unset, .unset] [(.ref b36)])) rfl (by rw [hml]; rfl) (Steps.refl _) (argsL := []) (rest := []) (lenOf pd___Z rfl) rfl (by show 2 * 0 + _ ≤ _; exact Nat.le_of_eq rfl) (hb hby at_43) (fun _ _ => ⟨rfl, rfl, (by decide : 3 + 0 ≤ _), (by decide : 23 + 0 ≤ _)⟩)
          dsimp only [Pt.U, Pt.locs, Pt.cells, Pt.slots] at X40 l40 y40 z40 st40 hQ40
          subst l40 y40 z40
          obtain ⟨rfl, Nq40, K40, Ge40, Gf40_count, Gf40_taken⟩ := hQ40
          have Z40 := Nat.le_trans Z39 K40.1
          replace Gf40_taken : Fld Z T40.heap b36 "com/example/drumline/drumline/engine/Slots" "taken" "I" (.int (3 : Int32)) := Gf40_taken
          have N40 := Fr.app N39 Nq40
          refine go (fun tg kg => st40.trans kg) ?_
          show G (T40.setTop (mkF m 46 #[.val (.int x0), .val (.int cnt), .val (.ref b36), .val (.int (1 : Int32)), .val (.int (1 : Int32)), .unset, .unset, .unset, .unset, .unset, .unset] [(.int (1 : Int32))]))
          refine go (fun tg kg => XS.istore X40.here hx rfl (hb hby at_46) rfl (l' := #[.val (.int x0), .val (.int cnt), .val (.ref b36), .val (.int (1 : Int32)), .val (.int (1 : Int32)), .val (.int (1 : Int32)), .unset, .unset, .unset, .unset, .unset]) rfl kg) ?_
          show G (T40.setTop (mkF m 48 #[.val (.int x0), .val (.int cnt), .val (.ref b36), .val (.int (1 : Int32)), .val (.int (1 : Int32)), .val (.int (1 : Int32)), .unset, .unset, .unset, .unset, .unset] []))
          refine go (fun tg kg => XS.aloadN X40.here hx rfl (hb hby at_48) rfl rfl kg) ?_
          show G (T40.setTop (mkF m 49 #[.val (.int x0), .val (.int cnt), .val (.ref b36), .val (.int (1 : Int32)), .val (.int (1 : Int32)), .val (.int (1 : Int32)), .unset, .unset, .unset, .unset, .unset] [(.ref b36)]))
          obtain ⟨cq41, kq41, q41a, q41b, q41c⟩ := isOf hZ rfl Ge40
          obtain ⟨_, _, ⟨T41, L41, k41, n41⟩, -, X41, ⟨Lc41, hQ41, l41, y41, z41⟩, st41⟩ := X40.virtualBack hx (y := (⟨"com/example/drumline/drumline/engine/Slots", "take", "()Z"⟩ : MethodName)) (z := (⟨"com/example/drumline/drumline/engine/Slots", "take", "()Z"⟩ : MethodName)) hown (mvT hZ (hw _ (List.mem_of_getElem? (i := 34) rfl))) (mvT hZ (hw _ (List.mem_of_getElem? (i := 35) rfl))) (notFace_of_selects (args := #[]) (mvT hZ (hw _ (List.mem_of_getElem? (i := 37) rfl)))) (mvT hZ (hw _ (List.mem_of_getElem? (i := 37) rfl))) (mvT hZ (hw _ (List.mem_of_getElem? (i := 36) rfl))) (by decide) (backOf (W := 0) (rm6_1 l Z a0 hw [] b36 cnt (3 : Int32) T40.heap n0 Z40 Ge40 ge_b36 Gf40_count Gf40_taken (own_up hp4 3 (by decide))) hZ (hw _ (List.mem_of_getElem? (i := 38) rfl)) (hw _ (List.mem_of_getElem? (i := 6) rfl)) (by decide) (by decide)) q41a q41c (g := (mkF m 49 #[.val (.int x0), .val (.int cnt), .val (.ref b36), .val (.int (1 : Int32)), .val (.int (1 : Int32)), .val (.int (1 : Int32)), .unset, .unset, .unset, .unset, .unset] [(.ref b36)])) rfl (by rw [hml]; rfl) (Steps.refl _) (argsL := []) (rest := []) (lenOf pd___Z rfl) rfl (by show 2 * 0 + _ ≤ _; exact Nat.le_of_eq rfl) (hb hby at_49) (fun _ _ => ⟨rfl, rfl, (by decide : 3 + 0 ≤ _), (by decide : 23 + 0 ≤ _)⟩)
          dsimp only [Pt.U, Pt.locs, Pt.cells, Pt.slots] at X41 l41 y41 z41 st41 hQ41
          subst l41 y41 z41
          obtain ⟨rfl, Nq41, K41, Ge41, Gf41_count, Gf41_taken⟩ := hQ41
          have Z41 := Nat.le_trans Z40 K41.1
          replace Gf41_taken : Fld Z T41.heap b36 "com/example/drumline/drumline/engine/Slots" "taken" "I" (.int (4 : Int32)) := Gf41_taken
          have N41 := Fr.app N40 Nq41
          refine go (fun tg kg => st41.trans kg) ?_
          show G (T41.setTop (mkF m 52 #[.val (.int x0), .val (.int cnt), .val (.ref b36), .val (.int (1 : Int32)), .val (.int (1 : Int32)), .val (.int (1 : Int32)), .unset, .unset, .unset, .unset, .unset] [(.int (1 : Int32))]))
          refine go (fun tg kg => XS.istore X41.here hx rfl (hb hby at_52) rfl (l' := #[.val (.int x0), .val (.int cnt), .val (.ref b36), .val (.int (1 : Int32)), .val (.int (1 : Int32)), .val (.int (1 : Int32)), .val (.int (1 : Int32)), .unset, .unset, .unset, .unset]) rfl kg) ?_
          show G (T41.setTop (mkF m 54 #[.val (.int x0), .val (.int cnt), .val (.ref b36), .val (.int (1 : Int32)), .val (.int (1 : Int32)), .val (.int (1 : Int32)), .val (.int (1 : Int32)), .unset, .unset, .unset, .unset] []))
          refine go (fun tg kg => XS.aloadN X41.here hx rfl (hb hby at_54) rfl rfl kg) ?_
          show G (T41.setTop (mkF m 55 #[.val (.int x0), .val (.int cnt), .val (.ref b36), .val (.int (1 : Int32)), .val (.int (1 : Int32)), .val (.int (1 : Int32)), .val (.int (1 : Int32)), .unset, .unset, .unset, .unset] [(.ref b36)]))
          obtain ⟨cq42, kq42, q42a, q42b, q42c⟩ := isOf hZ rfl Ge41
          obtain ⟨_, _, ⟨T42, L42, k42, n42⟩, -, X42, ⟨Lc42, hQ42, l42, y42, z42⟩, st42⟩ := X41.virtualBack hx (y := (⟨"com/example/drumline/drumline/engine/Slots", "taken", "()I"⟩ : MethodName)) (z := (⟨"com/example/drumline/drumline/engine/Slots", "taken", "()I"⟩ : MethodName)) hown (mvT hZ (hw _ (List.mem_of_getElem? (i := 41) rfl))) (mvT hZ (hw _ (List.mem_of_getElem? (i := 42) rfl))) (notFace_of_selects (args := #[]) (mvT hZ (hw _ (List.mem_of_getElem? (i := 44) rfl)))) (mvT hZ (hw _ (List.mem_of_getElem? (i := 44) rfl))) (mvT hZ (hw _ (List.mem_of_getElem? (i := 43) rfl))) (by decide) (backOf (W := 0) (rm7 l Z a0 hw [] b36 (4 : Int32) T41.heap n0 Z41 Gf41_taken) hZ (hw _ (List.mem_of_getElem? (i := 45) rfl)) (hw _ (List.mem_of_getElem? (i := 6) rfl)) (by decide) (by decide)) q42a q42c (g := (mkF m 55 #[.val (.int x0), .val (.int cnt), .val (.ref b36), .val (.int (1 : Int32)), .val (.int (1 : Int32)), .val (.int (1 : Int32)), .val (.int (1 : Int32)), .unset, .unset, .unset, .unset] [(.ref b36)])) rfl (by rw [hml]; rfl) (Steps.refl _) (argsL := []) (rest := []) (lenOf pd___I rfl) rfl (by show 2 * 0 + _ ≤ _; exact Nat.le_of_eq rfl) (hb hby at_55) (fun _ _ => ⟨rfl, rfl, (by decide : 3 + 0 ≤ _), (by decide : 23 + 0 ≤ _)⟩)
          dsimp only [Pt.U, Pt.locs, Pt.cells, Pt.slots] at X42 l42 y42 z42 st42 hQ42
          subst l42 y42 z42
          obtain ⟨rfl, Nq42, e42⟩ := hQ42
          have N42 := Fr.app N41 Nq42
          refine go (fun tg kg => st42.trans kg) ?_
          show G (T42.setTop (mkF m 58 #[.val (.int x0), .val (.int cnt), .val (.ref b36), .val (.int (1 : Int32)), .val (.int (1 : Int32)), .val (.int (1 : Int32)), .val (.int (1 : Int32)), .unset, .unset, .unset, .unset] [(.int (4 : Int32))]))
          refine go (fun tg kg => XS.istore X42.here hx rfl (hb hby at_58) rfl (l' := #[.val (.int x0), .val (.int cnt), .val (.ref b36), .val (.int (1 : Int32)), .val (.int (1 : Int32)), .val (.int (1 : Int32)), .val (.int (1 : Int32)), .val (.int (4 : Int32)), .unset, .unset, .unset]) rfl kg) ?_
          show G (T42.setTop (mkF m 60 #[.val (.int x0), .val (.int cnt), .val (.ref b36), .val (.int (1 : Int32)), .val (.int (1 : Int32)), .val (.int (1 : Int32)), .val (.int (1 : Int32)), .val (.int (4 : Int32)), .unset, .unset, .unset] []))
          refine go (fun tg kg => XS.aloadN X42.here hx rfl (hb hby at_60) rfl rfl kg) ?_
          show G (T42.setTop (mkF m 61 #[.val (.int x0), .val (.int cnt), .val (.ref b36), .val (.int (1 : Int32)), .val (.int (1 : Int32)), .val (.int (1 : Int32)), .val (.int (1 : Int32)), .val (.int (4 : Int32)), .unset, .unset, .unset] [(.ref b36)]))
          obtain ⟨cq43, kq43, q43a, q43b, q43c⟩ := isOf hZ e42 Ge41
          obtain ⟨_, _, ⟨T43, L43, k43, n43⟩, -, X43, ⟨Lc43, hQ43, l43, y43, z43⟩, st43⟩ := X42.virtualBack hx (y := (⟨"com/example/drumline/drumline/engine/Slots", "free", "()V"⟩ : MethodName)) (z := (⟨"com/example/drumline/drumline/engine/Slots", "free", "()V"⟩ : MethodName)) hown (mvT hZ (hw _ (List.mem_of_getElem? (i := 46) rfl))) (mvT hZ (hw _ (List.mem_of_getElem? (i := 47) rfl))) (notFace_of_selects (args := #[]) (mvT hZ (hw _ (List.mem_of_getElem? (i := 49) rfl)))) (mvT hZ (hw _ (List.mem_of_getElem? (i := 49) rfl))) (mvT hZ (hw _ (List.mem_of_getElem? (i := 48) rfl))) (by decide) (backOf (W := 0) (rm8 l Z a0 hw [] b36 cnt (4 : Int32) T41.heap n0 Z41 Ge41 ge_b36 Gf41_count Gf41_taken) hZ (hw _ (List.mem_of_getElem? (i := 50) rfl)) (hw _ (List.mem_of_getElem? (i := 6) rfl)) (by decide) (by decide)) q43a q43c (g := (mkF m 61 #[.val (.int x0), .val (.int cnt), .val (.ref b36), .val (.int (1 : Int32)), .val (.int (1 : Int32)), .val (.int (1 : Int32)), .val (.int (1 : Int32)), .val (.int (4 : Int32)), .unset, .unset, .unset] [(.ref b36)])) rfl (by rw [hml]; rfl) (Steps.refl _) (argsL := []) (rest := []) (lenOf pd___V rfl) rfl (by show 2 * 0 + _ ≤ _; exact Nat.le_of_eq rfl) (hb hby at_61) (fun _ _ => ⟨rfl, e42, (by decide : 3 + 0 ≤ _), (by decide : 23 + 0 ≤ _)⟩)
          dsimp only [Pt.U, Pt.locs, Pt.cells, Pt.slots] at X43 l43 y43 z43 st43 hQ43
          subst l43 y43 z43
          obtain ⟨rfl, Nq43, K43, Ge43, Gf43_count, Gf43_taken⟩ := hQ43
          have Z43 := Nat.le_trans Z41 K43.1
          replace Gf43_taken : Fld Z T43.heap b36 "com/example/drumline/drumline/engine/Slots" "taken" "I" (.int (3 : Int32)) := Gf43_taken
          have N43 := Fr.app N42 Nq43
          refine go (fun tg kg => st43.trans kg) ?_
          show G (T43.setTop (mkF m 64 #[.val (.int x0), .val (.int cnt), .val (.ref b36), .val (.int (1 : Int32)), .val (.int (1 : Int32)), .val (.int (1 : Int32)), .val (.int (1 : Int32)), .val (.int (4 : Int32)), .unset, .unset, .unset] []))
          refine go (fun tg kg => XS.aloadN X43.here hx rfl (hb hby at_64) rfl rfl kg) ?_
          show G (T43.setTop (mkF m 65 #[.val (.int x0), .val (.int cnt), .val (.ref b36), .val (.int (1 : Int32)), .val (.int (1 : Int32)), .val (.int (1 : Int32)), .val (.int (1 : Int32)), .val (.int (4 : Int32)), .unset, .unset, .unset] [(.ref b36)]))
          obtain ⟨cq44, kq44, q44a, q44b, q44c⟩ := isOf hZ rfl Ge43
          obtain ⟨_, _, ⟨T44, L44, k44, n44⟩, -, X44, ⟨Lc44, hQ44, l44, y44, z44⟩, st44⟩ := X43.virtualBack hx (y := (⟨"com/example/drumline/drumline/engine/Slots", "take", "()Z"⟩ : MethodName)) (z := (⟨"com/example/drumline/drumline/engine/Slots", "take", "()Z"⟩ : MethodName)) hown (mvT hZ (hw _ (List.mem_of_getElem? (i := 34) rfl))) (mvT hZ (hw _ (List.mem_of_getElem? (i := 35) rfl))) (notFace_of_selects (args := #[]) (mvT hZ (hw _ (List.mem_of_getElem? (i := 37) rfl)))) (mvT hZ (hw _ (List.mem_of_getElem? (i := 37) rfl))) (mvT hZ (hw _ (List.mem_of_getElem? (i := 36) rfl))) (by decide) (backOf (W := 0) (rm6_1 l Z a0 hw [] b36 cnt (3 : Int32) T43.heap n0 Z43 Ge43 ge_b36 Gf43_count Gf43_taken (own_up hp4 3 (by decide))) hZ (hw _ (List.mem_of_getElem? (i := 38) rfl)) (hw _ (List.mem_of_getElem? (i := 6) rfl)) (by decide) (by decide)) q44a q44c (g := (mkF m 65 #[.val (.int x0), .val (.int cnt), .val (.ref b36), .val (.int (1 : Int32)), .val (.int (1 : Int32)), .val (.int (1 : Int32)), .val (.int (1 : Int32)), .val (.int (4 : Int32)), .unset, .unset, .unset] [(.ref b36)])) rfl (by rw [hml]; rfl) (Steps.refl _) (argsL := []) (rest := []) (lenOf pd___Z rfl) rfl (by show 2 * 0 + _ ≤ _; exact Nat.le_of_eq rfl) (hb hby at_65) (fun _ _ => ⟨rfl, rfl, (by decide : 3 + 0 ≤ _), (by decide : 23 + 0 ≤ _)⟩)
          dsimp only [Pt.U, Pt.locs, Pt.cells, Pt.slots] at X44 l44 y44 z44 st44 hQ44
          subst l44 y44 z44
          obtain ⟨rfl, Nq44, K44, Ge44, Gf44_count, Gf44_taken⟩ := hQ44
          have Z44 := Nat.le_trans Z43 K44.1
          replace Gf44_taken : Fld Z T44.heap b36 "com/example/drumline/drumline/engine/Slots" "taken" "I" (.int (4 : Int32)) := Gf44_taken
          have N44 := Fr.app N43 Nq44
          refine go (fun tg kg => st44.trans kg) ?_
          show G (T44.setTop (mkF m 68 #[.val (.int x0), .val (.int cnt), .val (.ref b36), .val (.int (1 : Int32)), .val (.int (1 : Int32)), .val (.int (1 : Int32)), .val (.int (1 : Int32)), .val (.int (4 : Int32)), .unset, .unset, .unset] [(.int (1 : Int32))]))
          refine go (fun tg kg => XS.istore X44.here hx rfl (hb hby at_68) rfl (l' := #[.val (.int x0), .val (.int cnt), .val (.ref b36), .val (.int (1 : Int32)), .val (.int (1 : Int32)), .val (.int (1 : Int32)), .val (.int (1 : Int32)), .val (.int (4 : Int32)), .val (.int (1 : Int32)), .unset, .unset]) rfl kg) ?_
          show G (T44.setTop (mkF m 70 #[.val (.int x0), .val (.int cnt), .val (.ref b36), .val (.int (1 : Int32)), .val (.int (1 : Int32)), .val (.int (1 : Int32)), .val (.int (1 : Int32)), .val (.int (4 : Int32)), .val (.int (1 : Int32)), .unset, .unset] []))
          refine go (fun tg kg => XS.aloadN X44.here hx rfl (hb hby at_70) rfl rfl kg) ?_
          show G (T44.setTop (mkF m 71 #[.val (.int x0), .val (.int cnt), .val (.ref b36), .val (.int (1 : Int32)), .val (.int (1 : Int32)), .val (.int (1 : Int32)), .val (.int (1 : Int32)), .val (.int (4 : Int32)), .val (.int (1 : Int32)), .unset, .unset] [(.ref b36)]))
          obtain ⟨cq45, kq45, q45a, q45b, q45c⟩ := isOf hZ rfl Ge44
          obtain ⟨_, _, ⟨T45, L45, k45, n45⟩, -, X45, ⟨Lc45, hQ45, l45, y45, z45⟩, st45⟩ := X44.virtualBack hx (y := (⟨"com/example/drumline/drumline/engine/Slots", "taken", "()I"⟩ : MethodName)) (z := (⟨"com/example/drumline/drumline/engine/Slots", "taken", "()I"⟩ : MethodName)) hown (mvT hZ (hw _ (List.mem_of_getElem? (i := 41) rfl))) (mvT hZ (hw _ (List.mem_of_getElem? (i := 42) rfl))) (notFace_of_selects (args := #[]) (mvT hZ (hw _ (List.mem_of_getElem? (i := 44) rfl)))) (mvT hZ (hw _ (List.mem_of_getElem? (i := 44) rfl))) (mvT hZ (hw _ (List.mem_of_getElem? (i := 43) rfl))) (by decide) (backOf (W := 0) (rm7 l Z a0 hw [] b36 (4 : Int32) T44.heap n0 Z44 Gf44_taken) hZ (hw _ (List.mem_of_getElem? (i := 45) rfl)) (hw _ (List.mem_of_getElem? (i := 6) rfl)) (by decide) (by decide)) q45a q45c (g := (mkF m 71 #[.val (.int x0), .val (.int cnt), .val (.ref b36), .val (.int (1 : Int32)), .val (.int (1 : Int32)), .val (.int (1 : Int32)), .val (.int (1 : Int32)), .val (.int (4 : Int32)), .val (.int (1 : Int32)), .unset, .unset] [(.ref b36)])) rfl (by rw [hml]; rfl) (Steps.refl _) (argsL := []) (rest := []) (lenOf pd___I rfl) rfl (by show 2 * 0 + _ ≤ _; exact Nat.le_of_eq rfl) (hb hby at_71) (fun _ _ => ⟨rfl, rfl, (by decide : 3 + 0 ≤ _), (by decide : 23 + 0 ≤ _)⟩)
          dsimp only [Pt.U, Pt.locs, Pt.cells, Pt.slots] at X45 l45 y45 z45 st45 hQ45
          subst l45 y45 z45
          obtain ⟨rfl, Nq45, e45⟩ := hQ45
          have N45 := Fr.app N44 Nq45
          refine go (fun tg kg => st45.trans kg) ?_
          show G (T45.setTop (mkF m 74 #[.val (.int x0), .val (.int cnt), .val (.ref b36), .val (.int (1 : Int32)), .val (.int (1 : Int32)), .val (.int (1 : Int32)), .val (.int (1 : Int32)), .val (.int (4 : Int32)), .val (.int (1 : Int32)), .unset, .unset] [(.int (4 : Int32))]))
          refine go (fun tg kg => XS.istore X45.here hx rfl (hb hby at_74) rfl (l' := #[.val (.int x0), .val (.int cnt), .val (.ref b36), .val (.int (1 : Int32)), .val (.int (1 : Int32)), .val (.int (1 : Int32)), .val (.int (1 : Int32)), .val (.int (4 : Int32)), .val (.int (1 : Int32)), .val (.int (4 : Int32)), .unset]) rfl kg) ?_
          show G (T45.setTop (mkF m 76 #[.val (.int x0), .val (.int cnt), .val (.ref b36), .val (.int (1 : Int32)), .val (.int (1 : Int32)), .val (.int (1 : Int32)), .val (.int (1 : Int32)), .val (.int (4 : Int32)), .val (.int (1 : Int32)), .val (.int (4 : Int32)), .unset] []))
          refine go (fun tg kg => XS.iconst X45.here hx rfl (hb hby at_76) kg) ?_
          show G (T45.setTop (mkF m 77 #[.val (.int x0), .val (.int cnt), .val (.ref b36), .val (.int (1 : Int32)), .val (.int (1 : Int32)), .val (.int (1 : Int32)), .val (.int (1 : Int32)), .val (.int (4 : Int32)), .val (.int (1 : Int32)), .val (.int (4 : Int32)), .unset] [(.int (4 : Int32))]))
          refine go (fun tg kg => XS.iloadN X45.here hx rfl (hb hby at_77) rfl kg) ?_
          show G (T45.setTop (mkF m 78 #[.val (.int x0), .val (.int cnt), .val (.ref b36), .val (.int (1 : Int32)), .val (.int (1 : Int32)), .val (.int (1 : Int32)), .val (.int (1 : Int32)), .val (.int (4 : Int32)), .val (.int (1 : Int32)), .val (.int (4 : Int32)), .unset] [(.int cnt), (.int (4 : Int32))]))
          obtain ⟨_, _, ⟨T46, L46, k46, n46⟩, -, X46, ⟨Lc46, hQ46, l46, y46, z46⟩, st46⟩ := Jvm.LawKit.callS X45 hx (y := (⟨"java/lang/Math", "min", "(II)I"⟩ : MethodName)) hown (mvT hZ (hw _ (List.mem_of_getElem? (i := 51) rfl))) (mvT hZ (hw _ (List.mem_of_getElem? (i := 52) rfl))) (mvT hZ (hw _ (List.mem_of_getElem? (i := 2) rfl))) (mvT hZ (hw _ (List.mem_of_getElem? (i := 53) rfl))) (by decide) (backOf (W := 0) (rm9 l Z a0 hw [] (4 : Int32) cnt T44.heap n0 Z44 ) hZ (hw _ (List.mem_of_getElem? (i := 53) rfl)) (hw _ (List.mem_of_getElem? (i := 2) rfl)) (by decide) (by decide)) (g := (mkF m 78 #[.val (.int x0), .val (.int cnt), .val (.ref b36), .val (.int (1 : Int32)), .val (.int (1 : Int32)), .val (.int (1 : Int32)), .val (.int (1 : Int32)), .val (.int (4 : Int32)), .val (.int (1 : Int32)), .val (.int (4 : Int32)), .unset] [(.int cnt), (.int (4 : Int32))])) rfl (by rw [hml]; rfl) (argsL := [(.int (4 : Int32)), (.int cnt)]) (rest := []) (lenOf pd__II_I rfl) rfl (by show 2 * 0 + _ ≤ _; exact Nat.le_of_eq rfl) (hb hby at_78) (fun _ _ => ⟨rfl, e45, (by decide : 3 + 0 ≤ _), (by decide : 23 + 0 ≤ _)⟩)
          dsimp only [Pt.U, Pt.locs, Pt.cells, Pt.slots] at X46 l46 y46 z46 st46 hQ46
          subst l46 y46 z46
          obtain ⟨rfl, Nq46, e46⟩ := hQ46
          rw [own_min_n (own_st hp4 4 (by decide))] at st46
          have N46 := Fr.app N45 Nq46
          refine go st46 ?_
          show G (T46.setTop (mkF m 81 #[.val (.int x0), .val (.int cnt), .val (.ref b36), .val (.int (1 : Int32)), .val (.int (1 : Int32)), .val (.int (1 : Int32)), .val (.int (1 : Int32)), .val (.int (4 : Int32)), .val (.int (1 : Int32)), .val (.int (4 : Int32)), .unset] [(.int (4 : Int32))]))
          refine go (fun tg kg => XS.istore X46.here hx rfl (hb hby at_81) rfl (l' := #[.val (.int x0), .val (.int cnt), .val (.ref b36), .val (.int (1 : Int32)), .val (.int (1 : Int32)), .val (.int (1 : Int32)), .val (.int (1 : Int32)), .val (.int (4 : Int32)), .val (.int (1 : Int32)), .val (.int (4 : Int32)), .val (.int (4 : Int32))]) rfl kg) ?_
          show G (T46.setTop (mkF m 83 #[.val (.int x0), .val (.int cnt), .val (.ref b36), .val (.int (1 : Int32)), .val (.int (1 : Int32)), .val (.int (1 : Int32)), .val (.int (1 : Int32)), .val (.int (4 : Int32)), .val (.int (1 : Int32)), .val (.int (4 : Int32)), .val (.int (4 : Int32))] []))
          refine go (fun tg kg => XS.iloadN X46.here hx rfl (hb hby at_83) rfl kg) ?_
          show G (T46.setTop (mkF m 84 #[.val (.int x0), .val (.int cnt), .val (.ref b36), .val (.int (1 : Int32)), .val (.int (1 : Int32)), .val (.int (1 : Int32)), .val (.int (1 : Int32)), .val (.int (4 : Int32)), .val (.int (1 : Int32)), .val (.int (4 : Int32)), .val (.int (4 : Int32))] [(.int (1 : Int32))]))
          refine go (fun tg kg => XS.iconst X46.here hx rfl (hb hby at_84) kg) ?_
          show G (T46.setTop (mkF m 85 #[.val (.int x0), .val (.int cnt), .val (.ref b36), .val (.int (1 : Int32)), .val (.int (1 : Int32)), .val (.int (1 : Int32)), .val (.int (1 : Int32)), .val (.int (4 : Int32)), .val (.int (1 : Int32)), .val (.int (4 : Int32)), .val (.int (4 : Int32))] [(.int (1 : Int32)), (.int (1 : Int32))]))
          refine go (fun tg kg => XS.iloadN X46.here hx rfl (hb hby at_85) rfl kg) ?_
          show G (T46.setTop (mkF m 86 #[.val (.int x0), .val (.int cnt), .val (.ref b36), .val (.int (1 : Int32)), .val (.int (1 : Int32)), .val (.int (1 : Int32)), .val (.int (1 : Int32)), .val (.int (4 : Int32)), .val (.int (1 : Int32)), .val (.int (4 : Int32)), .val (.int (4 : Int32))] [(.int cnt), (.int (1 : Int32)), (.int (1 : Int32))]))
          refine go (fun tg kg => XS.icmpNo X46.here hx rfl (hb hby at_86) rfl (flt (own_st hp4 1 (by decide))).2.2.1 kg) ?_
          show G (T46.setTop (mkF m 89 #[.val (.int x0), .val (.int cnt), .val (.ref b36), .val (.int (1 : Int32)), .val (.int (1 : Int32)), .val (.int (1 : Int32)), .val (.int (1 : Int32)), .val (.int (4 : Int32)), .val (.int (1 : Int32)), .val (.int (4 : Int32)), .val (.int (4 : Int32))] [(.int (1 : Int32))]))
          refine go (fun tg kg => XS.iconst X46.here hx rfl (hb hby at_89) kg) ?_
          show G (T46.setTop (mkF m 90 #[.val (.int x0), .val (.int cnt), .val (.ref b36), .val (.int (1 : Int32)), .val (.int (1 : Int32)), .val (.int (1 : Int32)), .val (.int (1 : Int32)), .val (.int (4 : Int32)), .val (.int (1 : Int32)), .val (.int (4 : Int32)), .val (.int (4 : Int32))] [(.int (1 : Int32)), (.int (1 : Int32))]))
          refine go (fun tg kg => XS.goto X46.here hx rfl (pc0 := 90) (pc' := 94) rfl (hb hby at_90) (by decide) (by decide) kg) ?_
          show G (T46.setTop (mkF m 94 #[.val (.int x0), .val (.int cnt), .val (.ref b36), .val (.int (1 : Int32)), .val (.int (1 : Int32)), .val (.int (1 : Int32)), .val (.int (1 : Int32)), .val (.int (4 : Int32)), .val (.int (1 : Int32)), .val (.int (4 : Int32)), .val (.int (4 : Int32))] [(.int (1 : Int32)), (.int (1 : Int32))]))
          refine go (fun tg kg => XS.icmpNo X46.here hx rfl (hb hby at_94) rfl (teq (by decide)).2 kg) ?_
          show G (T46.setTop (mkF m 97 #[.val (.int x0), .val (.int cnt), .val (.ref b36), .val (.int (1 : Int32)), .val (.int (1 : Int32)), .val (.int (1 : Int32)), .val (.int (1 : Int32)), .val (.int (4 : Int32)), .val (.int (1 : Int32)), .val (.int (4 : Int32)), .val (.int (4 : Int32))] []))
          refine go (fun tg kg => XS.iload X46.here hx rfl (hb hby at_97) rfl kg) ?_
          show G (T46.setTop (mkF m 99 #[.val (.int x0), .val (.int cnt), .val (.ref b36), .val (.int (1 : Int32)), .val (.int (1 : Int32)), .val (.int (1 : Int32)), .val (.int (1 : Int32)), .val (.int (4 : Int32)), .val (.int (1 : Int32)), .val (.int (4 : Int32)), .val (.int (4 : Int32))] [(.int (1 : Int32))]))
          refine go (fun tg kg => XS.iconst X46.here hx rfl (hb hby at_99) kg) ?_
          show G (T46.setTop (mkF m 100 #[.val (.int x0), .val (.int cnt), .val (.ref b36), .val (.int (1 : Int32)), .val (.int (1 : Int32)), .val (.int (1 : Int32)), .val (.int (1 : Int32)), .val (.int (4 : Int32)), .val (.int (1 : Int32)), .val (.int (4 : Int32)), .val (.int (4 : Int32))] [(.int (2 : Int32)), (.int (1 : Int32))]))
          refine go (fun tg kg => XS.iloadN X46.here hx rfl (hb hby at_100) rfl kg) ?_
          show G (T46.setTop (mkF m 101 #[.val (.int x0), .val (.int cnt), .val (.ref b36), .val (.int (1 : Int32)), .val (.int (1 : Int32)), .val (.int (1 : Int32)), .val (.int (1 : Int32)), .val (.int (4 : Int32)), .val (.int (1 : Int32)), .val (.int (4 : Int32)), .val (.int (4 : Int32))] [(.int cnt), (.int (2 : Int32)), (.int (1 : Int32))]))
          refine go (fun tg kg => XS.icmpNo X46.here hx rfl (hb hby at_101) rfl (flt (own_st hp4 2 (by decide))).2.2.1 kg) ?_
          show G (T46.setTop (mkF m 104 #[.val (.int x0), .val (.int cnt), .val (.ref b36), .val (.int (1 : Int32)), .val (.int (1 : Int32)), .val (.int (1 : Int32)), .val (.int (1 : Int32)), .val (.int (4 : Int32)), .val (.int (1 : Int32)), .val (.int (4 : Int32)), .val (.int (4 : Int32))] [(.int (1 : Int32))]))
          refine go (fun tg kg => XS.iconst X46.here hx rfl (hb hby at_104) kg) ?_
          show G (T46.setTop (mkF m 105 #[.val (.int x0), .val (.int cnt), .val (.ref b36), .val (.int (1 : Int32)), .val (.int (1 : Int32)), .val (.int (1 : Int32)), .val (.int (1 : Int32)), .val (.int (4 : Int32)), .val (.int (1 : Int32)), .val (.int (4 : Int32)), .val (.int (4 : Int32))] [(.int (1 : Int32)), (.int (1 : Int32))]))
          refine go (fun tg kg => XS.goto X46.here hx rfl (pc0 := 105) (pc' := 109) rfl (hb hby at_105) (by decide) (by decide) kg) ?_
          show G (T46.setTop (mkF m 109 #[.val (.int x0), .val (.int cnt), .val (.ref b36), .val (.int (1 : Int32)), .val (.int (1 : Int32)), .val (.int (1 : Int32)), .val (.int (1 : Int32)), .val (.int (4 : Int32)), .val (.int (1 : Int32)), .val (.int (4 : Int32)), .val (.int (4 : Int32))] [(.int (1 : Int32)), (.int (1 : Int32))]))
          refine go (fun tg kg => XS.icmpNo X46.here hx rfl (hb hby at_109) rfl (teq (by decide)).2 kg) ?_
          show G (T46.setTop (mkF m 112 #[.val (.int x0), .val (.int cnt), .val (.ref b36), .val (.int (1 : Int32)), .val (.int (1 : Int32)), .val (.int (1 : Int32)), .val (.int (1 : Int32)), .val (.int (4 : Int32)), .val (.int (1 : Int32)), .val (.int (4 : Int32)), .val (.int (4 : Int32))] []))
          refine go (fun tg kg => XS.iload X46.here hx rfl (hb hby at_112) rfl kg) ?_
          show G (T46.setTop (mkF m 114 #[.val (.int x0), .val (.int cnt), .val (.ref b36), .val (.int (1 : Int32)), .val (.int (1 : Int32)), .val (.int (1 : Int32)), .val (.int (1 : Int32)), .val (.int (4 : Int32)), .val (.int (1 : Int32)), .val (.int (4 : Int32)), .val (.int (4 : Int32))] [(.int (1 : Int32))]))
          refine go (fun tg kg => XS.iconst X46.here hx rfl (hb hby at_114) kg) ?_
          show G (T46.setTop (mkF m 115 #[.val (.int x0), .val (.int cnt), .val (.ref b36), .val (.int (1 : Int32)), .val (.int (1 : Int32)), .val (.int (1 : Int32)), .val (.int (1 : Int32)), .val (.int (4 : Int32)), .val (.int (1 : Int32)), .val (.int (4 : Int32)), .val (.int (4 : Int32))] [(.int (3 : Int32)), (.int (1 : Int32))]))
          refine go (fun tg kg => XS.iloadN X46.here hx rfl (hb hby at_115) rfl kg) ?_
          show G (T46.setTop (mkF m 116 #[.val (.int x0), .val (.int cnt), .val (.ref b36), .val (.int (1 : Int32)), .val (.int (1 : Int32)), .val (.int (1 : Int32)), .val (.int (1 : Int32)), .val (.int (4 : Int32)), .val (.int (1 : Int32)), .val (.int (4 : Int32)), .val (.int (4 : Int32))] [(.int cnt), (.int (3 : Int32)), (.int (1 : Int32))]))
          refine go (fun tg kg => XS.icmpNo X46.here hx rfl (hb hby at_116) rfl (flt (own_st hp4 3 (by decide))).2.2.1 kg) ?_
          show G (T46.setTop (mkF m 119 #[.val (.int x0), .val (.int cnt), .val (.ref b36), .val (.int (1 : Int32)), .val (.int (1 : Int32)), .val (.int (1 : Int32)), .val (.int (1 : Int32)), .val (.int (4 : Int32)), .val (.int (1 : Int32)), .val (.int (4 : Int32)), .val (.int (4 : Int32))] [(.int (1 : Int32))]))
          refine go (fun tg kg => XS.iconst X46.here hx rfl (hb hby at_119) kg) ?_
          show G (T46.setTop (mkF m 120 #[.val (.int x0), .val (.int cnt), .val (.ref b36), .val (.int (1 : Int32)), .val (.int (1 : Int32)), .val (.int (1 : Int32)), .val (.int (1 : Int32)), .val (.int (4 : Int32)), .val (.int (1 : Int32)), .val (.int (4 : Int32)), .val (.int (4 : Int32))] [(.int (1 : Int32)), (.int (1 : Int32))]))
          refine go (fun tg kg => XS.goto X46.here hx rfl (pc0 := 120) (pc' := 124) rfl (hb hby at_120) (by decide) (by decide) kg) ?_
          show G (T46.setTop (mkF m 124 #[.val (.int x0), .val (.int cnt), .val (.ref b36), .val (.int (1 : Int32)), .val (.int (1 : Int32)), .val (.int (1 : Int32)), .val (.int (1 : Int32)), .val (.int (4 : Int32)), .val (.int (1 : Int32)), .val (.int (4 : Int32)), .val (.int (4 : Int32))] [(.int (1 : Int32)), (.int (1 : Int32))]))
          refine go (fun tg kg => XS.icmpNo X46.here hx rfl (hb hby at_124) rfl (teq (by decide)).2 kg) ?_
          show G (T46.setTop (mkF m 127 #[.val (.int x0), .val (.int cnt), .val (.ref b36), .val (.int (1 : Int32)), .val (.int (1 : Int32)), .val (.int (1 : Int32)), .val (.int (1 : Int32)), .val (.int (4 : Int32)), .val (.int (1 : Int32)), .val (.int (4 : Int32)), .val (.int (4 : Int32))] []))
          refine go (fun tg kg => XS.iload X46.here hx rfl (hb hby at_127) rfl kg) ?_
          show G (T46.setTop (mkF m 129 #[.val (.int x0), .val (.int cnt), .val (.ref b36), .val (.int (1 : Int32)), .val (.int (1 : Int32)), .val (.int (1 : Int32)), .val (.int (1 : Int32)), .val (.int (4 : Int32)), .val (.int (1 : Int32)), .val (.int (4 : Int32)), .val (.int (4 : Int32))] [(.int (1 : Int32))]))
          refine go (fun tg kg => XS.iconst X46.here hx rfl (hb hby at_129) kg) ?_
          show G (T46.setTop (mkF m 130 #[.val (.int x0), .val (.int cnt), .val (.ref b36), .val (.int (1 : Int32)), .val (.int (1 : Int32)), .val (.int (1 : Int32)), .val (.int (1 : Int32)), .val (.int (4 : Int32)), .val (.int (1 : Int32)), .val (.int (4 : Int32)), .val (.int (4 : Int32))] [(.int (4 : Int32)), (.int (1 : Int32))]))
          refine go (fun tg kg => XS.iloadN X46.here hx rfl (hb hby at_130) rfl kg) ?_
          show G (T46.setTop (mkF m 131 #[.val (.int x0), .val (.int cnt), .val (.ref b36), .val (.int (1 : Int32)), .val (.int (1 : Int32)), .val (.int (1 : Int32)), .val (.int (1 : Int32)), .val (.int (4 : Int32)), .val (.int (1 : Int32)), .val (.int (4 : Int32)), .val (.int (4 : Int32))] [(.int cnt), (.int (4 : Int32)), (.int (1 : Int32))]))
          refine go (fun tg kg => XS.icmpNo X46.here hx rfl (hb hby at_131) rfl (flt (own_st hp4 4 (by decide))).2.2.1 kg) ?_
          show G (T46.setTop (mkF m 134 #[.val (.int x0), .val (.int cnt), .val (.ref b36), .val (.int (1 : Int32)), .val (.int (1 : Int32)), .val (.int (1 : Int32)), .val (.int (1 : Int32)), .val (.int (4 : Int32)), .val (.int (1 : Int32)), .val (.int (4 : Int32)), .val (.int (4 : Int32))] [(.int (1 : Int32))]))
          refine go (fun tg kg => XS.iconst X46.here hx rfl (hb hby at_134) kg) ?_
          show G (T46.setTop (mkF m 135 #[.val (.int x0), .val (.int cnt), .val (.ref b36), .val (.int (1 : Int32)), .val (.int (1 : Int32)), .val (.int (1 : Int32)), .val (.int (1 : Int32)), .val (.int (4 : Int32)), .val (.int (1 : Int32)), .val (.int (4 : Int32)), .val (.int (4 : Int32))] [(.int (1 : Int32)), (.int (1 : Int32))]))
          refine go (fun tg kg => XS.goto X46.here hx rfl (pc0 := 135) (pc' := 139) rfl (hb hby at_135) (by decide) (by decide) kg) ?_
          show G (T46.setTop (mkF m 139 #[.val (.int x0), .val (.int cnt), .val (.ref b36), .val (.int (1 : Int32)), .val (.int (1 : Int32)), .val (.int (1 : Int32)), .val (.int (1 : Int32)), .val (.int (4 : Int32)), .val (.int (1 : Int32)), .val (.int (4 : Int32)), .val (.int (4 : Int32))] [(.int (1 : Int32)), (.int (1 : Int32))]))
          refine go (fun tg kg => XS.icmpNo X46.here hx rfl (hb hby at_139) rfl (teq (by decide)).2 kg) ?_
          show G (T46.setTop (mkF m 142 #[.val (.int x0), .val (.int cnt), .val (.ref b36), .val (.int (1 : Int32)), .val (.int (1 : Int32)), .val (.int (1 : Int32)), .val (.int (1 : Int32)), .val (.int (4 : Int32)), .val (.int (1 : Int32)), .val (.int (4 : Int32)), .val (.int (4 : Int32))] []))
          refine go (fun tg kg => XS.iload X46.here hx rfl (hb hby at_142) rfl kg) ?_
          show G (T46.setTop (mkF m 144 #[.val (.int x0), .val (.int cnt), .val (.ref b36), .val (.int (1 : Int32)), .val (.int (1 : Int32)), .val (.int (1 : Int32)), .val (.int (1 : Int32)), .val (.int (4 : Int32)), .val (.int (1 : Int32)), .val (.int (4 : Int32)), .val (.int (4 : Int32))] [(.int (4 : Int32))]))
          refine go (fun tg kg => XS.iload X46.here hx rfl (hb hby at_144) rfl kg) ?_
          show G (T46.setTop (mkF m 146 #[.val (.int x0), .val (.int cnt), .val (.ref b36), .val (.int (1 : Int32)), .val (.int (1 : Int32)), .val (.int (1 : Int32)), .val (.int (1 : Int32)), .val (.int (4 : Int32)), .val (.int (1 : Int32)), .val (.int (4 : Int32)), .val (.int (4 : Int32))] [(.int (4 : Int32)), (.int (4 : Int32))]))
          refine go (fun tg kg => XS.icmpNo X46.here hx rfl (hb hby at_146) rfl (teq (by decide)).2 kg) ?_
          show G (T46.setTop (mkF m 149 #[.val (.int x0), .val (.int cnt), .val (.ref b36), .val (.int (1 : Int32)), .val (.int (1 : Int32)), .val (.int (1 : Int32)), .val (.int (1 : Int32)), .val (.int (4 : Int32)), .val (.int (1 : Int32)), .val (.int (4 : Int32)), .val (.int (4 : Int32))] []))
          refine go (fun tg kg => XS.iload X46.here hx rfl (hb hby at_149) rfl kg) ?_
          show G (T46.setTop (mkF m 151 #[.val (.int x0), .val (.int cnt), .val (.ref b36), .val (.int (1 : Int32)), .val (.int (1 : Int32)), .val (.int (1 : Int32)), .val (.int (1 : Int32)), .val (.int (4 : Int32)), .val (.int (1 : Int32)), .val (.int (4 : Int32)), .val (.int (4 : Int32))] [(.int (1 : Int32))]))
          refine go (fun tg kg => XS.ifNo X46.here hx rfl (hb hby at_151) rfl ((if0 _ _).trans (feq (by decide)).1) kg) ?_
          show G (T46.setTop (mkF m 154 #[.val (.int x0), .val (.int cnt), .val (.ref b36), .val (.int (1 : Int32)), .val (.int (1 : Int32)), .val (.int (1 : Int32)), .val (.int (1 : Int32)), .val (.int (4 : Int32)), .val (.int (1 : Int32)), .val (.int (4 : Int32)), .val (.int (4 : Int32))] []))
          refine go (fun tg kg => XS.iload X46.here hx rfl (hb hby at_154) rfl kg) ?_
          show G (T46.setTop (mkF m 156 #[.val (.int x0), .val (.int cnt), .val (.ref b36), .val (.int (1 : Int32)), .val (.int (1 : Int32)), .val (.int (1 : Int32)), .val (.int (1 : Int32)), .val (.int (4 : Int32)), .val (.int (1 : Int32)), .val (.int (4 : Int32)), .val (.int (4 : Int32))] [(.int (4 : Int32))]))
          refine go (fun tg kg => XS.iload X46.here hx rfl (hb hby at_156) rfl kg) ?_
          show G (T46.setTop (mkF m 158 #[.val (.int x0), .val (.int cnt), .val (.ref b36), .val (.int (1 : Int32)), .val (.int (1 : Int32)), .val (.int (1 : Int32)), .val (.int (1 : Int32)), .val (.int (4 : Int32)), .val (.int (1 : Int32)), .val (.int (4 : Int32)), .val (.int (4 : Int32))] [(.int (4 : Int32)), (.int (4 : Int32))]))
          refine go (fun tg kg => XS.icmpNo X46.here hx rfl (hb hby at_158) rfl (teq (by decide)).2 kg) ?_
          show G (T46.setTop (mkF m 161 #[.val (.int x0), .val (.int cnt), .val (.ref b36), .val (.int (1 : Int32)), .val (.int (1 : Int32)), .val (.int (1 : Int32)), .val (.int (1 : Int32)), .val (.int (4 : Int32)), .val (.int (1 : Int32)), .val (.int (4 : Int32)), .val (.int (4 : Int32))] []))
          refine go (fun tg kg => XS.iconst X46.here hx rfl (hb hby at_161) kg) ?_
          show G (T46.setTop (mkF m 162 #[.val (.int x0), .val (.int cnt), .val (.ref b36), .val (.int (1 : Int32)), .val (.int (1 : Int32)), .val (.int (1 : Int32)), .val (.int (1 : Int32)), .val (.int (4 : Int32)), .val (.int (1 : Int32)), .val (.int (4 : Int32)), .val (.int (4 : Int32))] [(.int (1 : Int32))]))
          refine go (fun tg kg => XS.goto X46.here hx rfl (pc0 := 162) (pc' := 166) rfl (hb hby at_162) (by decide) (by decide) kg) ?_
          show G (T46.setTop (mkF m 166 #[.val (.int x0), .val (.int cnt), .val (.ref b36), .val (.int (1 : Int32)), .val (.int (1 : Int32)), .val (.int (1 : Int32)), .val (.int (1 : Int32)), .val (.int (4 : Int32)), .val (.int (1 : Int32)), .val (.int (4 : Int32)), .val (.int (4 : Int32))] [(.int (1 : Int32))]))
          refine fin (some (.int (1 : Int32))) X46 (fun h => absurd h (by decide)) (fun fs hr => retN X46 hx (t := .boolean) hret (by simp) (hb hby at_166) hr) (by decide) (by decide) ?_
          rw [e46]
          exact ⟨rfl, N46⟩
  · refine go (fun tg kg => XS.ifNo X0.here hx rfl (hb hby at_3) rfl ((if0 _ _).trans (feq hc1).1) kg) ?_
    show G (s₁.setTop (mkF m 6 #[.val (.int x0), .unset, .unset, .unset, .unset, .unset, .unset, .unset, .unset, .unset, .unset] []))
    refine go (fun tg kg => XS.iconst X0.here hx rfl (hb hby at_6) kg) ?_
    show G (s₁.setTop (mkF m 7 #[.val (.int x0), .unset, .unset, .unset, .unset, .unset, .unset, .unset, .unset, .unset, .unset] [(.int (1 : Int32))]))
    refine go (fun tg kg => XS.iloadN X0.here hx rfl (hb hby at_7) rfl kg) ?_
    show G (s₁.setTop (mkF m 8 #[.val (.int x0), .unset, .unset, .unset, .unset, .unset, .unset, .unset, .unset, .unset, .unset] [(.int x0), (.int (1 : Int32))]))
    refine go (fun tg kg => XS.iconst X0.here hx rfl (hb hby at_8) kg) ?_
    show G (s₁.setTop (mkF m 9 #[.val (.int x0), .unset, .unset, .unset, .unset, .unset, .unset, .unset, .unset, .unset, .unset] [(.int (1 : Int32)), (.int x0), (.int (1 : Int32))]))
    refine go (fun tg kg => XS.iushr X0.here hx rfl (hb hby at_9) rfl kg) ?_
    show G (s₁.setTop (mkF m 10 #[.val (.int x0), .unset, .unset, .unset, .unset, .unset, .unset, .unset, .unset, .unset, .unset] [(.int ((x0.toUInt32 >>> ((1 : Int32) &&& 31).toUInt32).toInt32)), (.int (1 : Int32))]))
    refine go (fun tg kg => XS.iconst X0.here hx rfl (hb hby at_10) kg) ?_
    show G (s₁.setTop (mkF m 11 #[.val (.int x0), .unset, .unset, .unset, .unset, .unset, .unset, .unset, .unset, .unset, .unset] [(.int (3 : Int32)), (.int ((x0.toUInt32 >>> ((1 : Int32) &&& 31).toUInt32).toInt32)), (.int (1 : Int32))]))
    refine go (fun tg kg => XS.iand X0.here hx rfl (hb hby at_11) rfl kg) ?_
    show G (s₁.setTop (mkF m 12 #[.val (.int x0), .unset, .unset, .unset, .unset, .unset, .unset, .unset, .unset, .unset, .unset] [(.int (((x0.toUInt32 >>> ((1 : Int32) &&& 31).toUInt32).toInt32) &&& (3 : Int32))), (.int (1 : Int32))]))
    refine go (fun tg kg => XS.iadd X0.here hx rfl (hb hby at_12) rfl kg) ?_
    show G (s₁.setTop (mkF m 13 #[.val (.int x0), .unset, .unset, .unset, .unset, .unset, .unset, .unset, .unset, .unset, .unset] [(.int ((1 : Int32) + (((x0.toUInt32 >>> ((1 : Int32) &&& 31).toUInt32).toInt32) &&& (3 : Int32))))]))
    refine go (fun tg kg => XS.goto X0.here hx rfl (pc0 := 13) (pc' := 21) rfl (hb hby at_13) (by decide) (by decide) kg) ?_
    show G (s₁.setTop (mkF m 21 #[.val (.int x0), .unset, .unset, .unset, .unset, .unset, .unset, .unset, .unset, .unset, .unset] [(.int ((1 : Int32) + (((x0.toUInt32 >>> ((1 : Int32) &&& 31).toUInt32).toInt32) &&& (3 : Int32))))]))
    refine go (fun tg kg => XS.istoreN X0.here hx rfl (hb hby at_21) rfl (l' := #[.val (.int x0), .val (.int ((1 : Int32) + (((x0.toUInt32 >>> ((1 : Int32) &&& 31).toUInt32).toInt32) &&& (3 : Int32)))), .unset, .unset, .unset, .unset, .unset, .unset, .unset, .unset, .unset]) rfl kg) ?_
    show G (s₁.setTop (mkF m 22 #[.val (.int x0), .val (.int ((1 : Int32) + (((x0.toUInt32 >>> ((1 : Int32) &&& 31).toUInt32).toInt32) &&& (3 : Int32)))), .unset, .unset, .unset, .unset, .unset, .unset, .unset, .unset, .unset] []))
    obtain ⟨cnt, hcnt⟩ : ∃ z : Int32, z = ((1 : Int32) + (((x0.toUInt32 >>> ((1 : Int32) &&& 31).toUInt32).toInt32) &&& (3 : Int32))) := ⟨_, rfl⟩
    have h0c : (0 : Int32) < cnt := hcnt ▸ own_cnt1 _
    rw [← hcnt]
    show G (s₁.setTop (mkF m 22 #[.val (.int x0), .val (.int cnt), .unset, .unset, .unset, .unset, .unset, .unset, .unset, .unset, .unset] []))
    have hp1 := own_0 h0c
    by_cases hk1 : cnt < (2 : Int32)
    · skip
      obtain ⟨T47, h47, X47, e47, E47, A47, D47, -, st47⟩ := newO X0 hx hZ hown (hw _ (List.mem_of_getElem? (i := 4) rfl)) (hw _ (List.mem_of_getElem? (i := 5) rfl)) (hw _ (List.mem_of_getElem? (i := 6) rfl)) e0 (g := (mkF m 22 #[.val (.int x0), .val (.int cnt), .unset, .unset, .unset, .unset, .unset, .unset, .unset, .unset, .unset] [])) rfl (hb hby at_22) (by decide) (by decide)
      obtain ⟨b47, g47⟩ : ∃ z, z = h0.size := ⟨_, rfl⟩
      rw [← g47] at A47 D47 st47
      refine go st47 ?_
      have ge_b47 : n0 ≤ b47 := Nat.le_trans Z0 (Nat.le_of_eq g47.symm)
      have Z47 := Nat.le_trans Z0 E47.1
      have F47_held : Fld Z h47 b47 "com/example/drumline/drumline/engine/Slots" "held" "Ljava/util/Deque;" .null := D47 (Or.inr (hw _ (List.mem_of_getElem? (i := 31) rfl))) (ty := (.object "java/util/Deque")) (by decide)
      have F47_count : Fld Z h47 b47 "com/example/drumline/drumline/engine/Slots" "count" "I" (.int (0 : Int32)) := D47 (Or.inr (hw _ (List.mem_of_getElem? (i := 33) rfl))) (ty := .int) (by decide)
      have F47_taken : Fld Z h47 b47 "com/example/drumline/drumline/engine/Slots" "taken" "I" (.int (0 : Int32)) := D47 (Or.inl (hw _ (List.mem_of_getElem? (i := 40) rfl))) (ty := .int) (by decide)
      show G (T47.setTop (mkF m 25 #[.val (.int x0), .val (.int cnt), .unset, .unset, .unset, .unset, .unset, .unset, .unset, .unset, .unset] [(.ref b47)]))
      refine go (fun tg kg => XS.dup X47.here hx rfl (hb hby at_25) rfl rfl kg) ?_
      show G (T47.setTop (mkF m 26 #[.val (.int x0), .val (.int cnt), .unset, .unset, .unset, .unset, .unset, .unset, .unset, .unset, .unset] [(.ref b47), (.ref b47)]))
      refine go (fun tg kg => XS.iloadN X47.here hx rfl (hb hby at_26) rfl kg) ?_
      show G (T47.setTop (mkF m 27 #[.val (.int x0), .val (.int cnt), .unset, .unset, .unset, .unset, .unset, .unset, .unset, .unset, .unset] [(.int cnt), (.ref b47), (.ref b47)]))
      obtain ⟨_, _, ⟨T48, L48, k48, n48⟩, -, X48, ⟨Lc48, hQ48, l48, y48, z48⟩, st48⟩ := X47.specialBack hx (y := (⟨"com/example/drumline/drumline/engine/Slots", "<init>", "(I)V"⟩ : MethodName)) rfl hown (mvT hZ (hw _ (List.mem_of_getElem? (i := 7) rfl))) (mvT hZ (hw _ (List.mem_of_getElem? (i := 8) rfl))) (mvT hZ (hw _ (List.mem_of_getElem? (i := 9) rfl))) (by decide) (backOf (W := 1) (rm2 l Z a0 hw [] b47 cnt h47 n0 Z47 A47 ge_b47 F47_held F47_count F47_taken) hZ (hw _ (List.mem_of_getElem? (i := 9) rfl)) (hw _ (List.mem_of_getElem? (i := 6) rfl)) (by decide) (by decide)) (g := (mkF m 27 #[.val (.int x0), .val (.int cnt), .unset, .unset, .unset, .unset, .unset, .unset, .unset, .unset, .unset] [(.int cnt), (.ref b47), (.ref b47)])) rfl (by rw [hml]; rfl) (Steps.refl _) (a := b47) (argsL := [(.int cnt)]) (rest := [(.ref b47)]) (lenOf pd__I_V rfl) rfl (by show 2 * 0 + _ ≤ _; exact Nat.le_of_eq rfl) (hb hby at_27) (fun _ _ => ⟨rfl, e47, (by decide : 1 + 2 ≤ _), (by decide : 3 + 20 ≤ _)⟩)
      dsimp only [Pt.U, Pt.locs, Pt.cells, Pt.slots] at X48 l48 y48 z48 st48 hQ48
      subst l48 y48 z48
      obtain ⟨rfl, Nq48, K48, Ge48, Gf48_count, Gf48_taken⟩ := hQ48
      have Z48 := Nat.le_trans Z47 K48.1
      have N48 := Fr.app N0 Nq48
      refine go (fun tg kg => st48.trans kg) ?_
      show G (T48.setTop (mkF m 30 #[.val (.int x0), .val (.int cnt), .unset, .unset, .unset, .unset, .unset, .unset, .unset, .unset, .unset] [(.ref b47)]))
      refine go (fun tg kg => XS.astoreN X48.here hx rfl (hb hby at_30) rfl rfl (l' := #[.val (.int x0), .val (.int cnt), .val (.ref b47), .unset, .unset, .unset, .unset, .unset, .unset, .unset, .unset]) rfl kg) ?_
      show G (T48.setTop (mkF m 31 #[.val (.int x0), .val (.int cnt), .val (.ref b47), .unset, .unset, .unset, .unset, .unset, .unset, .unset, .unset] []))
      refine go (fun tg kg => XS.aloadN X48.here hx rfl (hb hby at_31) rfl rfl kg) ?_
      show G (T48.setTop (mkF m 32 #[.val (.int x0), .val (.int cnt), .val (.ref b47), .unset, .unset, .unset, .unset, .unset, .unset, .unset, .unset] [(.ref b47)]))
      obtain ⟨cq49, kq49, q49a, q49b, q49c⟩ := isOf hZ rfl Ge48
      obtain ⟨_, _, ⟨T49, L49, k49, n49⟩, -, X49, ⟨Lc49, hQ49, l49, y49, z49⟩, st49⟩ := X48.virtualBack hx (y := (⟨"com/example/drumline/drumline/engine/Slots", "take", "()Z"⟩ : MethodName)) (z := (⟨"com/example/drumline/drumline/engine/Slots", "take", "()Z"⟩ : MethodName)) hown (mvT hZ (hw _ (List.mem_of_getElem? (i := 34) rfl))) (mvT hZ (hw _ (List.mem_of_getElem? (i := 35) rfl))) (notFace_of_selects (args := #[]) (mvT hZ (hw _ (List.mem_of_getElem? (i := 37) rfl)))) (mvT hZ (hw _ (List.mem_of_getElem? (i := 37) rfl))) (mvT hZ (hw _ (List.mem_of_getElem? (i := 36) rfl))) (by decide) (backOf (W := 0) (rm6_1 l Z a0 hw [] b47 cnt (0 : Int32) T48.heap n0 Z48 Ge48 ge_b47 Gf48_count Gf48_taken (own_up hp1 0 (by decide))) hZ (hw _ (List.mem_of_getElem? (i := 38) rfl)) (hw _ (List.mem_of_getElem? (i := 6) rfl)) (by decide) (by decide)) q49a q49c (g := (mkF m 32 #[.val (.int x0), .val (.int cnt), .val (.ref b47), .unset, .unset, .unset, .unset, .unset, .unset, .unset, .unset] [(.ref b47)])) rfl (by rw [hml]; rfl) (Steps.refl _) (argsL := []) (rest := []) (lenOf pd___Z rfl) rfl (by show 2 * 0 + _ ≤ _; exact Nat.le_of_eq rfl) (hb hby at_32) (fun _ _ => ⟨rfl, rfl, (by decide : 3 + 0 ≤ _), (by decide : 23 + 0 ≤ _)⟩)
      dsimp only [Pt.U, Pt.locs, Pt.cells, Pt.slots] at X49 l49 y49 z49 st49 hQ49
      subst l49 y49 z49
      obtain ⟨rfl, Nq49, K49, Ge49, Gf49_count, Gf49_taken⟩ := hQ49
      have Z49 := Nat.le_trans Z48 K49.1
      replace Gf49_taken : Fld Z T49.heap b47 "com/example/drumline/drumline/engine/Slots" "taken" "I" (.int (1 : Int32)) := Gf49_taken
      have N49 := Fr.app N48 Nq49
      refine go (fun tg kg => st49.trans kg) ?_
      show G (T49.setTop (mkF m 35 #[.val (.int x0), .val (.int cnt), .val (.ref b47), .unset, .unset, .unset, .unset, .unset, .unset, .unset, .unset] [(.int (1 : Int32))]))
      refine go (fun tg kg => XS.istoreN X49.here hx rfl (hb hby at_35) rfl (l' := #[.val (.int x0), .val (.int cnt), .val (.ref b47), .val (.int (1 : Int32)), .unset, .unset, .unset, .unset, .unset, .unset, .unset]) rfl kg) ?_
      show G (T49.setTop (mkF m 36 #[.val (.int x0), .val (.int cnt), .val (.ref b47), .val (.int (1 : Int32)), .unset, .unset, .unset, .unset, .unset, .unset, .unset] []))
      refine go (fun tg kg => XS.aloadN X49.here hx rfl (hb hby at_36) rfl rfl kg) ?_
      show G (T49.setTop (mkF m 37 #[.val (.int x0), .val (.int cnt), .val (.ref b47), .val (.int (1 : Int32)), .unset, .unset, .unset, .unset, .unset, .unset, .unset] [(.ref b47)]))
      obtain ⟨cq50, kq50, q50a, q50b, q50c⟩ := isOf hZ rfl Ge49
      obtain ⟨_, _, ⟨T50, L50, k50, n50⟩, -, X50, ⟨Lc50, hQ50, l50, y50, z50⟩, st50⟩ := X49.virtualBack hx (y := (⟨"com/example/drumline/drumline/engine/Slots", "take", "()Z"⟩ : MethodName)) (z := (⟨"com/example/drumline/drumline/engine/Slots", "take", "()Z"⟩ : MethodName)) hown (mvT hZ (hw _ (List.mem_of_getElem? (i := 34) rfl))) (mvT hZ (hw _ (List.mem_of_getElem? (i := 35) rfl))) (notFace_of_selects (args := #[]) (mvT hZ (hw _ (List.mem_of_getElem? (i := 37) rfl)))) (mvT hZ (hw _ (List.mem_of_getElem? (i := 37) rfl))) (mvT hZ (hw _ (List.mem_of_getElem? (i := 36) rfl))) (by decide) (backOf (W := 0) (rm6_0 l Z a0 hw [] b47 cnt (1 : Int32) T49.heap n0 Z49 Ge49 ge_b47 Gf49_count Gf49_taken (own_dn hk1 1 (by decide))) hZ (hw _ (List.mem_of_getElem? (i := 38) rfl)) (hw _ (List.mem_of_getElem? (i := 6) rfl)) (by decide) (by decide)) q50a q50c (g := (mkF m 37 #[.val (.int x0), .val (.int cnt), .val (.ref b47), .val (.int (1 : Int32)), .unset, .unset, .unset, .unset, .unset, .unset, .unset] [(.ref b47)])) rfl (by rw [hml]; rfl) (Steps.refl _) (argsL := []) (rest := []) (lenOf pd___Z rfl) rfl (by show 2 * 0 + _ ≤ _; exact Nat.le_of_eq rfl) (hb hby at_37) (fun _ _ => ⟨rfl, rfl, (by decide : 3 + 0 ≤ _), (by decide : 23 + 0 ≤ _)⟩)
      dsimp only [Pt.U, Pt.locs, Pt.cells, Pt.slots] at X50 l50 y50 z50 st50 hQ50
      subst l50 y50 z50
      obtain ⟨rfl, Nq50, K50, Ge50, Gf50_count, Gf50_taken⟩ := hQ50
      have Z50 := Nat.le_trans Z49 K50.1
      replace Gf50_taken : Fld Z T50.heap b47 "com/example/drumline/drumline/engine/Slots" "taken" "I" (.int (1 : Int32)) := Gf50_taken
      have N50 := Fr.app N49 Nq50
      refine go (fun tg kg => st50.trans kg) ?_
      show G (T50.setTop (mkF m 40 #[.val (.int x0), .val (.int cnt), .val (.ref b47), .val (.int (1 : Int32)), .unset, .unset, .unset, .unset, .unset, .unset, .unset] [(.int (0 : Int32))]))
      refine go (fun tg kg => XS.istore X50.here hx rfl (hb hby at_40) rfl (l' := #[.val (.int x0), .val (.int cnt), .val (.ref b47), .val (.int (1 : Int32)), .val (.int (0 : Int32)), .unset, .unset, .unset, .unset, .unset, .unset]) rfl kg) ?_
      show G (T50.setTop (mkF m 42 #[.val (.int x0), .val (.int cnt), .val (.ref b47), .val (.int (1 : Int32)), .val (.int (0 : Int32)), .unset, .unset, .unset, .unset, .unset, .unset] []))
      refine go (fun tg kg => XS.aloadN X50.here hx rfl (hb hby at_42) rfl rfl kg) ?_
      show G (T50.setTop (mkF m 43 #[.val (.int x0), .val (.int cnt), .val (.ref b47), .val (.int (1 : Int32)), .val (.int (0 : Int32)), .unset, .unset, .unset, .unset, .unset, .unset] [(.ref b47)]))
      obtain ⟨cq51, kq51, q51a, q51b, q51c⟩ := isOf hZ rfl Ge50
      obtain ⟨_, _, ⟨T51, L51, k51, n51⟩, -, X51, ⟨Lc51, hQ51, l51, y51, z51⟩, st51⟩ := X50.virtualBack hx (y := (⟨"com/example/drumline/drumline/engine/Slots", "take", "()Z"⟩ : MethodName)) (z := (⟨"com/example/drumline/drumline/engine/Slots", "take", "()Z"⟩ : MethodName)) hown (mvT hZ (hw _ (List.mem_of_getElem? (i := 34) rfl))) (mvT hZ (hw _ (List.mem_of_getElem? (i := 35) rfl))) (notFace_of_selects (args := #[]) (mvT hZ (hw _ (List.mem_of_getElem? (i := 37) rfl)))) (mvT hZ (hw _ (List.mem_of_getElem? (i := 37) rfl))) (mvT hZ (hw _ (List.mem_of_getElem? (i := 36) rfl))) (by decide) (backOf (W := 0) (rm6_0 l Z a0 hw [] b47 cnt (1 : Int32) T50.heap n0 Z50 Ge50 ge_b47 Gf50_count Gf50_taken (own_dn hk1 1 (by decide))) hZ (hw _ (List.mem_of_getElem? (i := 38) rfl)) (hw _ (List.mem_of_getElem? (i := 6) rfl)) (by decide) (by decide)) q51a q51c (g := (mkF m 43 #[.val (.int x0), .val (.int cnt), .val (.ref b47), .val (.int (1 : Int32)), .val (.int (0 : Int32)), .unset, .unset, .unset, .unset, .unset, .unset] [(.ref b47)])) rfl (by rw [hml]; rfl) (Steps.refl _) (argsL := []) (rest := []) (lenOf pd___Z rfl) rfl (by show 2 * 0 + _ ≤ _; exact Nat.le_of_eq rfl) (hb hby at_43) (fun _ _ => ⟨rfl, rfl, (by decide : 3 + 0 ≤ _), (by decide : 23 + 0 ≤ _)⟩)
      dsimp only [Pt.U, Pt.locs, Pt.cells, Pt.slots] at X51 l51 y51 z51 st51 hQ51
      subst l51 y51 z51
      obtain ⟨rfl, Nq51, K51, Ge51, Gf51_count, Gf51_taken⟩ := hQ51
      have Z51 := Nat.le_trans Z50 K51.1
      replace Gf51_taken : Fld Z T51.heap b47 "com/example/drumline/drumline/engine/Slots" "taken" "I" (.int (1 : Int32)) := Gf51_taken
      have N51 := Fr.app N50 Nq51
      refine go (fun tg kg => st51.trans kg) ?_
      show G (T51.setTop (mkF m 46 #[.val (.int x0), .val (.int cnt), .val (.ref b47), .val (.int (1 : Int32)), .val (.int (0 : Int32)), .unset, .unset, .unset, .unset, .unset, .unset] [(.int (0 : Int32))]))
      refine go (fun tg kg => XS.istore X51.here hx rfl (hb hby at_46) rfl (l' := #[.val (.int x0), .val (.int cnt), .val (.ref b47), .val (.int (1 : Int32)), .val (.int (0 : Int32)), .val (.int (0 : Int32)), .unset, .unset, .unset, .unset, .unset]) rfl kg) ?_
      show G (T51.setTop (mkF m 48 #[.val (.int x0), .val (.int cnt), .val (.ref b47), .val (.int (1 : Int32)), .val (.int (0 : Int32)), .val (.int (0 : Int32)), .unset, .unset, .unset, .unset, .unset] []))
      refine go (fun tg kg => XS.aloadN X51.here hx rfl (hb hby at_48) rfl rfl kg) ?_
      show G (T51.setTop (mkF m 49 #[.val (.int x0), .val (.int cnt), .val (.ref b47), .val (.int (1 : Int32)), .val (.int (0 : Int32)), .val (.int (0 : Int32)), .unset, .unset, .unset, .unset, .unset] [(.ref b47)]))
      obtain ⟨cq52, kq52, q52a, q52b, q52c⟩ := isOf hZ rfl Ge51
      obtain ⟨_, _, ⟨T52, L52, k52, n52⟩, -, X52, ⟨Lc52, hQ52, l52, y52, z52⟩, st52⟩ := X51.virtualBack hx (y := (⟨"com/example/drumline/drumline/engine/Slots", "take", "()Z"⟩ : MethodName)) (z := (⟨"com/example/drumline/drumline/engine/Slots", "take", "()Z"⟩ : MethodName)) hown (mvT hZ (hw _ (List.mem_of_getElem? (i := 34) rfl))) (mvT hZ (hw _ (List.mem_of_getElem? (i := 35) rfl))) (notFace_of_selects (args := #[]) (mvT hZ (hw _ (List.mem_of_getElem? (i := 37) rfl)))) (mvT hZ (hw _ (List.mem_of_getElem? (i := 37) rfl))) (mvT hZ (hw _ (List.mem_of_getElem? (i := 36) rfl))) (by decide) (backOf (W := 0) (rm6_0 l Z a0 hw [] b47 cnt (1 : Int32) T51.heap n0 Z51 Ge51 ge_b47 Gf51_count Gf51_taken (own_dn hk1 1 (by decide))) hZ (hw _ (List.mem_of_getElem? (i := 38) rfl)) (hw _ (List.mem_of_getElem? (i := 6) rfl)) (by decide) (by decide)) q52a q52c (g := (mkF m 49 #[.val (.int x0), .val (.int cnt), .val (.ref b47), .val (.int (1 : Int32)), .val (.int (0 : Int32)), .val (.int (0 : Int32)), .unset, .unset, .unset, .unset, .unset] [(.ref b47)])) rfl (by rw [hml]; rfl) (Steps.refl _) (argsL := []) (rest := []) (lenOf pd___Z rfl) rfl (by show 2 * 0 + _ ≤ _; exact Nat.le_of_eq rfl) (hb hby at_49) (fun _ _ => ⟨rfl, rfl, (by decide : 3 + 0 ≤ _), (by decide : 23 + 0 ≤ _)⟩)
      dsimp only [Pt.U, Pt.locs, Pt.cells, Pt.slots] at X52 l52 y52 z52 st52 hQ52
      subst l52 y52 z52
      obtain ⟨rfl, Nq52, K52, Ge52, Gf52_count, Gf52_taken⟩ := hQ52
      have Z52 := Nat.le_trans Z51 K52.1
      replace Gf52_taken : Fld Z T52.heap b47 "com/example/drumline/drumline/engine/Slots" "taken" "I" (.int (1 : Int32)) := Gf52_taken
      have N52 := Fr.app N51 Nq52
      refine go (fun tg kg => st52.trans kg) ?_
      show G (T52.setTop (mkF m 52 #[.val (.int x0), .val (.int cnt), .val (.ref b47), .val (.int (1 : Int32)), .val (.int (0 : Int32)), .val (.int (0 : Int32)), .unset, .unset, .unset, .unset, .unset] [(.int (0 : Int32))]))
      refine go (fun tg kg => XS.istore X52.here hx rfl (hb hby at_52) rfl (l' := #[.val (.int x0), .val (.int cnt), .val (.ref b47), .val (.int (1 : Int32)), .val (.int (0 : Int32)), .val (.int (0 : Int32)), .val (.int (0 : Int32)), .unset, .unset, .unset, .unset]) rfl kg) ?_
      show G (T52.setTop (mkF m 54 #[.val (.int x0), .val (.int cnt), .val (.ref b47), .val (.int (1 : Int32)), .val (.int (0 : Int32)), .val (.int (0 : Int32)), .val (.int (0 : Int32)), .unset, .unset, .unset, .unset] []))
      refine go (fun tg kg => XS.aloadN X52.here hx rfl (hb hby at_54) rfl rfl kg) ?_
      show G (T52.setTop (mkF m 55 #[.val (.int x0), .val (.int cnt), .val (.ref b47), .val (.int (1 : Int32)), .val (.int (0 : Int32)), .val (.int (0 : Int32)), .val (.int (0 : Int32)), .unset, .unset, .unset, .unset] [(.ref b47)]))
      obtain ⟨cq53, kq53, q53a, q53b, q53c⟩ := isOf hZ rfl Ge52
      obtain ⟨_, _, ⟨T53, L53, k53, n53⟩, -, X53, ⟨Lc53, hQ53, l53, y53, z53⟩, st53⟩ := X52.virtualBack hx (y := (⟨"com/example/drumline/drumline/engine/Slots", "taken", "()I"⟩ : MethodName)) (z := (⟨"com/example/drumline/drumline/engine/Slots", "taken", "()I"⟩ : MethodName)) hown (mvT hZ (hw _ (List.mem_of_getElem? (i := 41) rfl))) (mvT hZ (hw _ (List.mem_of_getElem? (i := 42) rfl))) (notFace_of_selects (args := #[]) (mvT hZ (hw _ (List.mem_of_getElem? (i := 44) rfl)))) (mvT hZ (hw _ (List.mem_of_getElem? (i := 44) rfl))) (mvT hZ (hw _ (List.mem_of_getElem? (i := 43) rfl))) (by decide) (backOf (W := 0) (rm7 l Z a0 hw [] b47 (1 : Int32) T52.heap n0 Z52 Gf52_taken) hZ (hw _ (List.mem_of_getElem? (i := 45) rfl)) (hw _ (List.mem_of_getElem? (i := 6) rfl)) (by decide) (by decide)) q53a q53c (g := (mkF m 55 #[.val (.int x0), .val (.int cnt), .val (.ref b47), .val (.int (1 : Int32)), .val (.int (0 : Int32)), .val (.int (0 : Int32)), .val (.int (0 : Int32)), .unset, .unset, .unset, .unset] [(.ref b47)])) rfl (by rw [hml]; rfl) (Steps.refl _) (argsL := []) (rest := []) (lenOf pd___I rfl) rfl (by show 2 * 0 + _ ≤ _; exact Nat.le_of_eq rfl) (hb hby at_55) (fun _ _ => ⟨rfl, rfl, (by decide : 3 + 0 ≤ _), (by decide : 23 + 0 ≤ _)⟩)
      dsimp only [Pt.U, Pt.locs, Pt.cells, Pt.slots] at X53 l53 y53 z53 st53 hQ53
      subst l53 y53 z53
      obtain ⟨rfl, Nq53, e53⟩ := hQ53
      have N53 := Fr.app N52 Nq53
      refine go (fun tg kg => st53.trans kg) ?_
      show G (T53.setTop (mkF m 58 #[.val (.int x0), .val (.int cnt), .val (.ref b47), .val (.int (1 : Int32)), .val (.int (0 : Int32)), .val (.int (0 : Int32)), .val (.int (0 : Int32)), .unset, .unset, .unset, .unset] [(.int (1 : Int32))]))
      refine go (fun tg kg => XS.istore X53.here hx rfl (hb hby at_58) rfl (l' := #[.val (.int x0), .val (.int cnt), .val (.ref b47), .val (.int (1 : Int32)), .val (.int (0 : Int32)), .val (.int (0 : Int32)), .val (.int (0 : Int32)), .val (.int (1 : Int32)), .unset, .unset, .unset]) rfl kg) ?_
      show G (T53.setTop (mkF m 60 #[.val (.int x0), .val (.int cnt), .val (.ref b47), .val (.int (1 : Int32)), .val (.int (0 : Int32)), .val (.int (0 : Int32)), .val (.int (0 : Int32)), .val (.int (1 : Int32)), .unset, .unset, .unset] []))
      refine go (fun tg kg => XS.aloadN X53.here hx rfl (hb hby at_60) rfl rfl kg) ?_
      show G (T53.setTop (mkF m 61 #[.val (.int x0), .val (.int cnt), .val (.ref b47), .val (.int (1 : Int32)), .val (.int (0 : Int32)), .val (.int (0 : Int32)), .val (.int (0 : Int32)), .val (.int (1 : Int32)), .unset, .unset, .unset] [(.ref b47)]))
      obtain ⟨cq54, kq54, q54a, q54b, q54c⟩ := isOf hZ e53 Ge52
      obtain ⟨_, _, ⟨T54, L54, k54, n54⟩, -, X54, ⟨Lc54, hQ54, l54, y54, z54⟩, st54⟩ := X53.virtualBack hx (y := (⟨"com/example/drumline/drumline/engine/Slots", "free", "()V"⟩ : MethodName)) (z := (⟨"com/example/drumline/drumline/engine/Slots", "free", "()V"⟩ : MethodName)) hown (mvT hZ (hw _ (List.mem_of_getElem? (i := 46) rfl))) (mvT hZ (hw _ (List.mem_of_getElem? (i := 47) rfl))) (notFace_of_selects (args := #[]) (mvT hZ (hw _ (List.mem_of_getElem? (i := 49) rfl)))) (mvT hZ (hw _ (List.mem_of_getElem? (i := 49) rfl))) (mvT hZ (hw _ (List.mem_of_getElem? (i := 48) rfl))) (by decide) (backOf (W := 0) (rm8 l Z a0 hw [] b47 cnt (1 : Int32) T52.heap n0 Z52 Ge52 ge_b47 Gf52_count Gf52_taken) hZ (hw _ (List.mem_of_getElem? (i := 50) rfl)) (hw _ (List.mem_of_getElem? (i := 6) rfl)) (by decide) (by decide)) q54a q54c (g := (mkF m 61 #[.val (.int x0), .val (.int cnt), .val (.ref b47), .val (.int (1 : Int32)), .val (.int (0 : Int32)), .val (.int (0 : Int32)), .val (.int (0 : Int32)), .val (.int (1 : Int32)), .unset, .unset, .unset] [(.ref b47)])) rfl (by rw [hml]; rfl) (Steps.refl _) (argsL := []) (rest := []) (lenOf pd___V rfl) rfl (by show 2 * 0 + _ ≤ _; exact Nat.le_of_eq rfl) (hb hby at_61) (fun _ _ => ⟨rfl, e53, (by decide : 3 + 0 ≤ _), (by decide : 23 + 0 ≤ _)⟩)
      dsimp only [Pt.U, Pt.locs, Pt.cells, Pt.slots] at X54 l54 y54 z54 st54 hQ54
      subst l54 y54 z54
      obtain ⟨rfl, Nq54, K54, Ge54, Gf54_count, Gf54_taken⟩ := hQ54
      have Z54 := Nat.le_trans Z52 K54.1
      replace Gf54_taken : Fld Z T54.heap b47 "com/example/drumline/drumline/engine/Slots" "taken" "I" (.int (0 : Int32)) := Gf54_taken
      have N54 := Fr.app N53 Nq54
      refine go (fun tg kg => st54.trans kg) ?_
      show G (T54.setTop (mkF m 64 #[.val (.int x0), .val (.int cnt), .val (.ref b47), .val (.int (1 : Int32)), .val (.int (0 : Int32)), .val (.int (0 : Int32)), .val (.int (0 : Int32)), .val (.int (1 : Int32)), .unset, .unset, .unset] []))
      refine go (fun tg kg => XS.aloadN X54.here hx rfl (hb hby at_64) rfl rfl kg) ?_
      show G (T54.setTop (mkF m 65 #[.val (.int x0), .val (.int cnt), .val (.ref b47), .val (.int (1 : Int32)), .val (.int (0 : Int32)), .val (.int (0 : Int32)), .val (.int (0 : Int32)), .val (.int (1 : Int32)), .unset, .unset, .unset] [(.ref b47)]))
      obtain ⟨cq55, kq55, q55a, q55b, q55c⟩ := isOf hZ rfl Ge54
      obtain ⟨_, _, ⟨T55, L55, k55, n55⟩, -, X55, ⟨Lc55, hQ55, l55, y55, z55⟩, st55⟩ := X54.virtualBack hx (y := (⟨"com/example/drumline/drumline/engine/Slots", "take", "()Z"⟩ : MethodName)) (z := (⟨"com/example/drumline/drumline/engine/Slots", "take", "()Z"⟩ : MethodName)) hown (mvT hZ (hw _ (List.mem_of_getElem? (i := 34) rfl))) (mvT hZ (hw _ (List.mem_of_getElem? (i := 35) rfl))) (notFace_of_selects (args := #[]) (mvT hZ (hw _ (List.mem_of_getElem? (i := 37) rfl)))) (mvT hZ (hw _ (List.mem_of_getElem? (i := 37) rfl))) (mvT hZ (hw _ (List.mem_of_getElem? (i := 36) rfl))) (by decide) (backOf (W := 0) (rm6_1 l Z a0 hw [] b47 cnt (0 : Int32) T54.heap n0 Z54 Ge54 ge_b47 Gf54_count Gf54_taken (own_up hp1 0 (by decide))) hZ (hw _ (List.mem_of_getElem? (i := 38) rfl)) (hw _ (List.mem_of_getElem? (i := 6) rfl)) (by decide) (by decide)) q55a q55c (g := (mkF m 65 #[.val (.int x0), .val (.int cnt), .val (.ref b47), .val (.int (1 : Int32)), .val (.int (0 : Int32)), .val (.int (0 : Int32)), .val (.int (0 : Int32)), .val (.int (1 : Int32)), .unset, .unset, .unset] [(.ref b47)])) rfl (by rw [hml]; rfl) (Steps.refl _) (argsL := []) (rest := []) (lenOf pd___Z rfl) rfl (by show 2 * 0 + _ ≤ _; exact Nat.le_of_eq rfl) (hb hby at_65) (fun _ _ => ⟨rfl, rfl, (by decide : 3 + 0 ≤ _), (by decide : 23 + 0 ≤ _)⟩)
      dsimp only [Pt.U, Pt.locs, Pt.cells, Pt.slots] at X55 l55 y55 z55 st55 hQ55
      subst l55 y55 z55
      obtain ⟨rfl, Nq55, K55, Ge55, Gf55_count, Gf55_taken⟩ := hQ55
      have Z55 := Nat.le_trans Z54 K55.1
      replace Gf55_taken : Fld Z T55.heap b47 "com/example/drumline/drumline/engine/Slots" "taken" "I" (.int (1 : Int32)) := Gf55_taken
      have N55 := Fr.app N54 Nq55
      refine go (fun tg kg => st55.trans kg) ?_
      show G (T55.setTop (mkF m 68 #[.val (.int x0), .val (.int cnt), .val (.ref b47), .val (.int (1 : Int32)), .val (.int (0 : Int32)), .val (.int (0 : Int32)), .val (.int (0 : Int32)), .val (.int (1 : Int32)), .unset, .unset, .unset] [(.int (1 : Int32))]))
      refine go (fun tg kg => XS.istore X55.here hx rfl (hb hby at_68) rfl (l' := #[.val (.int x0), .val (.int cnt), .val (.ref b47), .val (.int (1 : Int32)), .val (.int (0 : Int32)), .val (.int (0 : Int32)), .val (.int (0 : Int32)), .val (.int (1 : Int32)), .val (.int (1 : Int32)), .unset, .unset]) rfl kg) ?_
      show G (T55.setTop (mkF m 70 #[.val (.int x0), .val (.int cnt), .val (.ref b47), .val (.int (1 : Int32)), .val (.int (0 : Int32)), .val (.int (0 : Int32)), .val (.int (0 : Int32)), .val (.int (1 : Int32)), .val (.int (1 : Int32)), .unset, .unset] []))
      refine go (fun tg kg => XS.aloadN X55.here hx rfl (hb hby at_70) rfl rfl kg) ?_
      show G (T55.setTop (mkF m 71 #[.val (.int x0), .val (.int cnt), .val (.ref b47), .val (.int (1 : Int32)), .val (.int (0 : Int32)), .val (.int (0 : Int32)), .val (.int (0 : Int32)), .val (.int (1 : Int32)), .val (.int (1 : Int32)), .unset, .unset] [(.ref b47)]))
      obtain ⟨cq56, kq56, q56a, q56b, q56c⟩ := isOf hZ rfl Ge55
      obtain ⟨_, _, ⟨T56, L56, k56, n56⟩, -, X56, ⟨Lc56, hQ56, l56, y56, z56⟩, st56⟩ := X55.virtualBack hx (y := (⟨"com/example/drumline/drumline/engine/Slots", "taken", "()I"⟩ : MethodName)) (z := (⟨"com/example/drumline/drumline/engine/Slots", "taken", "()I"⟩ : MethodName)) hown (mvT hZ (hw _ (List.mem_of_getElem? (i := 41) rfl))) (mvT hZ (hw _ (List.mem_of_getElem? (i := 42) rfl))) (notFace_of_selects (args := #[]) (mvT hZ (hw _ (List.mem_of_getElem? (i := 44) rfl)))) (mvT hZ (hw _ (List.mem_of_getElem? (i := 44) rfl))) (mvT hZ (hw _ (List.mem_of_getElem? (i := 43) rfl))) (by decide) (backOf (W := 0) (rm7 l Z a0 hw [] b47 (1 : Int32) T55.heap n0 Z55 Gf55_taken) hZ (hw _ (List.mem_of_getElem? (i := 45) rfl)) (hw _ (List.mem_of_getElem? (i := 6) rfl)) (by decide) (by decide)) q56a q56c (g := (mkF m 71 #[.val (.int x0), .val (.int cnt), .val (.ref b47), .val (.int (1 : Int32)), .val (.int (0 : Int32)), .val (.int (0 : Int32)), .val (.int (0 : Int32)), .val (.int (1 : Int32)), .val (.int (1 : Int32)), .unset, .unset] [(.ref b47)])) rfl (by rw [hml]; rfl) (Steps.refl _) (argsL := []) (rest := []) (lenOf pd___I rfl) rfl (by show 2 * 0 + _ ≤ _; exact Nat.le_of_eq rfl) (hb hby at_71) (fun _ _ => ⟨rfl, rfl, (by decide : 3 + 0 ≤ _), (by decide : 23 + 0 ≤ _)⟩)
      dsimp only [Pt.U, Pt.locs, Pt.cells, Pt.slots] at X56 l56 y56 z56 st56 hQ56
      subst l56 y56 z56
      obtain ⟨rfl, Nq56, e56⟩ := hQ56
      have N56 := Fr.app N55 Nq56
      refine go (fun tg kg => st56.trans kg) ?_
      show G (T56.setTop (mkF m 74 #[.val (.int x0), .val (.int cnt), .val (.ref b47), .val (.int (1 : Int32)), .val (.int (0 : Int32)), .val (.int (0 : Int32)), .val (.int (0 : Int32)), .val (.int (1 : Int32)), .val (.int (1 : Int32)), .unset, .unset] [(.int (1 : Int32))]))
      refine go (fun tg kg => XS.istore X56.here hx rfl (hb hby at_74) rfl (l' := #[.val (.int x0), .val (.int cnt), .val (.ref b47), .val (.int (1 : Int32)), .val (.int (0 : Int32)), .val (.int (0 : Int32)), .val (.int (0 : Int32)), .val (.int (1 : Int32)), .val (.int (1 : Int32)), .val (.int (1 : Int32)), .unset]) rfl kg) ?_
      show G (T56.setTop (mkF m 76 #[.val (.int x0), .val (.int cnt), .val (.ref b47), .val (.int (1 : Int32)), .val (.int (0 : Int32)), .val (.int (0 : Int32)), .val (.int (0 : Int32)), .val (.int (1 : Int32)), .val (.int (1 : Int32)), .val (.int (1 : Int32)), .unset] []))
      refine go (fun tg kg => XS.iconst X56.here hx rfl (hb hby at_76) kg) ?_
      show G (T56.setTop (mkF m 77 #[.val (.int x0), .val (.int cnt), .val (.ref b47), .val (.int (1 : Int32)), .val (.int (0 : Int32)), .val (.int (0 : Int32)), .val (.int (0 : Int32)), .val (.int (1 : Int32)), .val (.int (1 : Int32)), .val (.int (1 : Int32)), .unset] [(.int (4 : Int32))]))
      refine go (fun tg kg => XS.iloadN X56.here hx rfl (hb hby at_77) rfl kg) ?_
      show G (T56.setTop (mkF m 78 #[.val (.int x0), .val (.int cnt), .val (.ref b47), .val (.int (1 : Int32)), .val (.int (0 : Int32)), .val (.int (0 : Int32)), .val (.int (0 : Int32)), .val (.int (1 : Int32)), .val (.int (1 : Int32)), .val (.int (1 : Int32)), .unset] [(.int cnt), (.int (4 : Int32))]))
      obtain ⟨_, _, ⟨T57, L57, k57, n57⟩, -, X57, ⟨Lc57, hQ57, l57, y57, z57⟩, st57⟩ := Jvm.LawKit.callS X56 hx (y := (⟨"java/lang/Math", "min", "(II)I"⟩ : MethodName)) hown (mvT hZ (hw _ (List.mem_of_getElem? (i := 51) rfl))) (mvT hZ (hw _ (List.mem_of_getElem? (i := 52) rfl))) (mvT hZ (hw _ (List.mem_of_getElem? (i := 2) rfl))) (mvT hZ (hw _ (List.mem_of_getElem? (i := 53) rfl))) (by decide) (backOf (W := 0) (rm9 l Z a0 hw [] (4 : Int32) cnt T55.heap n0 Z55 ) hZ (hw _ (List.mem_of_getElem? (i := 53) rfl)) (hw _ (List.mem_of_getElem? (i := 2) rfl)) (by decide) (by decide)) (g := (mkF m 78 #[.val (.int x0), .val (.int cnt), .val (.ref b47), .val (.int (1 : Int32)), .val (.int (0 : Int32)), .val (.int (0 : Int32)), .val (.int (0 : Int32)), .val (.int (1 : Int32)), .val (.int (1 : Int32)), .val (.int (1 : Int32)), .unset] [(.int cnt), (.int (4 : Int32))])) rfl (by rw [hml]; rfl) (argsL := [(.int (4 : Int32)), (.int cnt)]) (rest := []) (lenOf pd__II_I rfl) rfl (by show 2 * 0 + _ ≤ _; exact Nat.le_of_eq rfl) (hb hby at_78) (fun _ _ => ⟨rfl, e56, (by decide : 3 + 0 ≤ _), (by decide : 23 + 0 ≤ _)⟩)
      dsimp only [Pt.U, Pt.locs, Pt.cells, Pt.slots] at X57 l57 y57 z57 st57 hQ57
      subst l57 y57 z57
      obtain ⟨rfl, Nq57, e57⟩ := hQ57
      rw [own_min_p (own_wk hk1 4 (by decide))] at st57
      have N57 := Fr.app N56 Nq57
      refine go st57 ?_
      show G (T57.setTop (mkF m 81 #[.val (.int x0), .val (.int cnt), .val (.ref b47), .val (.int (1 : Int32)), .val (.int (0 : Int32)), .val (.int (0 : Int32)), .val (.int (0 : Int32)), .val (.int (1 : Int32)), .val (.int (1 : Int32)), .val (.int (1 : Int32)), .unset] [(.int cnt)]))
      refine go (fun tg kg => XS.istore X57.here hx rfl (hb hby at_81) rfl (l' := #[.val (.int x0), .val (.int cnt), .val (.ref b47), .val (.int (1 : Int32)), .val (.int (0 : Int32)), .val (.int (0 : Int32)), .val (.int (0 : Int32)), .val (.int (1 : Int32)), .val (.int (1 : Int32)), .val (.int (1 : Int32)), .val (.int cnt)]) rfl kg) ?_
      show G (T57.setTop (mkF m 83 #[.val (.int x0), .val (.int cnt), .val (.ref b47), .val (.int (1 : Int32)), .val (.int (0 : Int32)), .val (.int (0 : Int32)), .val (.int (0 : Int32)), .val (.int (1 : Int32)), .val (.int (1 : Int32)), .val (.int (1 : Int32)), .val (.int cnt)] []))
      refine go (fun tg kg => XS.iloadN X57.here hx rfl (hb hby at_83) rfl kg) ?_
      show G (T57.setTop (mkF m 84 #[.val (.int x0), .val (.int cnt), .val (.ref b47), .val (.int (1 : Int32)), .val (.int (0 : Int32)), .val (.int (0 : Int32)), .val (.int (0 : Int32)), .val (.int (1 : Int32)), .val (.int (1 : Int32)), .val (.int (1 : Int32)), .val (.int cnt)] [(.int (1 : Int32))]))
      refine go (fun tg kg => XS.iconst X57.here hx rfl (hb hby at_84) kg) ?_
      show G (T57.setTop (mkF m 85 #[.val (.int x0), .val (.int cnt), .val (.ref b47), .val (.int (1 : Int32)), .val (.int (0 : Int32)), .val (.int (0 : Int32)), .val (.int (0 : Int32)), .val (.int (1 : Int32)), .val (.int (1 : Int32)), .val (.int (1 : Int32)), .val (.int cnt)] [(.int (1 : Int32)), (.int (1 : Int32))]))
      refine go (fun tg kg => XS.iloadN X57.here hx rfl (hb hby at_85) rfl kg) ?_
      show G (T57.setTop (mkF m 86 #[.val (.int x0), .val (.int cnt), .val (.ref b47), .val (.int (1 : Int32)), .val (.int (0 : Int32)), .val (.int (0 : Int32)), .val (.int (0 : Int32)), .val (.int (1 : Int32)), .val (.int (1 : Int32)), .val (.int (1 : Int32)), .val (.int cnt)] [(.int cnt), (.int (1 : Int32)), (.int (1 : Int32))]))
      refine go (fun tg kg => XS.icmpNo X57.here hx rfl (hb hby at_86) rfl (flt (own_st hp1 1 (by decide))).2.2.1 kg) ?_
      show G (T57.setTop (mkF m 89 #[.val (.int x0), .val (.int cnt), .val (.ref b47), .val (.int (1 : Int32)), .val (.int (0 : Int32)), .val (.int (0 : Int32)), .val (.int (0 : Int32)), .val (.int (1 : Int32)), .val (.int (1 : Int32)), .val (.int (1 : Int32)), .val (.int cnt)] [(.int (1 : Int32))]))
      refine go (fun tg kg => XS.iconst X57.here hx rfl (hb hby at_89) kg) ?_
      show G (T57.setTop (mkF m 90 #[.val (.int x0), .val (.int cnt), .val (.ref b47), .val (.int (1 : Int32)), .val (.int (0 : Int32)), .val (.int (0 : Int32)), .val (.int (0 : Int32)), .val (.int (1 : Int32)), .val (.int (1 : Int32)), .val (.int (1 : Int32)), .val (.int cnt)] [(.int (1 : Int32)), (.int (1 : Int32))]))
      refine go (fun tg kg => XS.goto X57.here hx rfl (pc0 := 90) (pc' := 94) rfl (hb hby at_90) (by decide) (by decide) kg) ?_
      show G (T57.setTop (mkF m 94 #[.val (.int x0), .val (.int cnt), .val (.ref b47), .val (.int (1 : Int32)), .val (.int (0 : Int32)), .val (.int (0 : Int32)), .val (.int (0 : Int32)), .val (.int (1 : Int32)), .val (.int (1 : Int32)), .val (.int (1 : Int32)), .val (.int cnt)] [(.int (1 : Int32)), (.int (1 : Int32))]))
      refine go (fun tg kg => XS.icmpNo X57.here hx rfl (hb hby at_94) rfl (teq (by decide)).2 kg) ?_
      show G (T57.setTop (mkF m 97 #[.val (.int x0), .val (.int cnt), .val (.ref b47), .val (.int (1 : Int32)), .val (.int (0 : Int32)), .val (.int (0 : Int32)), .val (.int (0 : Int32)), .val (.int (1 : Int32)), .val (.int (1 : Int32)), .val (.int (1 : Int32)), .val (.int cnt)] []))
      refine go (fun tg kg => XS.iload X57.here hx rfl (hb hby at_97) rfl kg) ?_
      show G (T57.setTop (mkF m 99 #[.val (.int x0), .val (.int cnt), .val (.ref b47), .val (.int (1 : Int32)), .val (.int (0 : Int32)), .val (.int (0 : Int32)), .val (.int (0 : Int32)), .val (.int (1 : Int32)), .val (.int (1 : Int32)), .val (.int (1 : Int32)), .val (.int cnt)] [(.int (0 : Int32))]))
      refine go (fun tg kg => XS.iconst X57.here hx rfl (hb hby at_99) kg) ?_
      show G (T57.setTop (mkF m 100 #[.val (.int x0), .val (.int cnt), .val (.ref b47), .val (.int (1 : Int32)), .val (.int (0 : Int32)), .val (.int (0 : Int32)), .val (.int (0 : Int32)), .val (.int (1 : Int32)), .val (.int (1 : Int32)), .val (.int (1 : Int32)), .val (.int cnt)] [(.int (2 : Int32)), (.int (0 : Int32))]))
      refine go (fun tg kg => XS.iloadN X57.here hx rfl (hb hby at_100) rfl kg) ?_
      show G (T57.setTop (mkF m 101 #[.val (.int x0), .val (.int cnt), .val (.ref b47), .val (.int (1 : Int32)), .val (.int (0 : Int32)), .val (.int (0 : Int32)), .val (.int (0 : Int32)), .val (.int (1 : Int32)), .val (.int (1 : Int32)), .val (.int (1 : Int32)), .val (.int cnt)] [(.int cnt), (.int (2 : Int32)), (.int (0 : Int32))]))
      refine go (fun tg kg => XS.icmpYes X57.here hx rfl (pc0 := 101) (pc' := 108) rfl (hb hby at_101) rfl (tlt (own_wk hk1 2 (by decide))).2.2.1 (by decide) (by decide) kg) ?_
      show G (T57.setTop (mkF m 108 #[.val (.int x0), .val (.int cnt), .val (.ref b47), .val (.int (1 : Int32)), .val (.int (0 : Int32)), .val (.int (0 : Int32)), .val (.int (0 : Int32)), .val (.int (1 : Int32)), .val (.int (1 : Int32)), .val (.int (1 : Int32)), .val (.int cnt)] [(.int (0 : Int32))]))
      refine go (fun tg kg => XS.iconst X57.here hx rfl (hb hby at_108) kg) ?_
      show G (T57.setTop (mkF m 109 #[.val (.int x0), .val (.int cnt), .val (.ref b47), .val (.int (1 : Int32)), .val (.int (0 : Int32)), .val (.int (0 : Int32)), .val (.int (0 : Int32)), .val (.int (1 : Int32)), .val (.int (1 : Int32)), .val (.int (1 : Int32)), .val (.int cnt)] [(.int (0 : Int32)), (.int (0 : Int32))]))
      refine go (fun tg kg => XS.icmpNo X57.here hx rfl (hb hby at_109) rfl (teq (by decide)).2 kg) ?_
      show G (T57.setTop (mkF m 112 #[.val (.int x0), .val (.int cnt), .val (.ref b47), .val (.int (1 : Int32)), .val (.int (0 : Int32)), .val (.int (0 : Int32)), .val (.int (0 : Int32)), .val (.int (1 : Int32)), .val (.int (1 : Int32)), .val (.int (1 : Int32)), .val (.int cnt)] []))
      refine go (fun tg kg => XS.iload X57.here hx rfl (hb hby at_112) rfl kg) ?_
      show G (T57.setTop (mkF m 114 #[.val (.int x0), .val (.int cnt), .val (.ref b47), .val (.int (1 : Int32)), .val (.int (0 : Int32)), .val (.int (0 : Int32)), .val (.int (0 : Int32)), .val (.int (1 : Int32)), .val (.int (1 : Int32)), .val (.int (1 : Int32)), .val (.int cnt)] [(.int (0 : Int32))]))
      refine go (fun tg kg => XS.iconst X57.here hx rfl (hb hby at_114) kg) ?_
      show G (T57.setTop (mkF m 115 #[.val (.int x0), .val (.int cnt), .val (.ref b47), .val (.int (1 : Int32)), .val (.int (0 : Int32)), .val (.int (0 : Int32)), .val (.int (0 : Int32)), .val (.int (1 : Int32)), .val (.int (1 : Int32)), .val (.int (1 : Int32)), .val (.int cnt)] [(.int (3 : Int32)), (.int (0 : Int32))]))
      refine go (fun tg kg => XS.iloadN X57.here hx rfl (hb hby at_115) rfl kg) ?_
      show G (T57.setTop (mkF m 116 #[.val (.int x0), .val (.int cnt), .val (.ref b47), .val (.int (1 : Int32)), .val (.int (0 : Int32)), .val (.int (0 : Int32)), .val (.int (0 : Int32)), .val (.int (1 : Int32)), .val (.int (1 : Int32)), .val (.int (1 : Int32)), .val (.int cnt)] [(.int cnt), (.int (3 : Int32)), (.int (0 : Int32))]))
      refine go (fun tg kg => XS.icmpYes X57.here hx rfl (pc0 := 116) (pc' := 123) rfl (hb hby at_116) rfl (tlt (own_wk hk1 3 (by decide))).2.2.1 (by decide) (by decide) kg) ?_
      show G (T57.setTop (mkF m 123 #[.val (.int x0), .val (.int cnt), .val (.ref b47), .val (.int (1 : Int32)), .val (.int (0 : Int32)), .val (.int (0 : Int32)), .val (.int (0 : Int32)), .val (.int (1 : Int32)), .val (.int (1 : Int32)), .val (.int (1 : Int32)), .val (.int cnt)] [(.int (0 : Int32))]))
      refine go (fun tg kg => XS.iconst X57.here hx rfl (hb hby at_123) kg) ?_
      show G (T57.setTop (mkF m 124 #[.val (.int x0), .val (.int cnt), .val (.ref b47), .val (.int (1 : Int32)), .val (.int (0 : Int32)), .val (.int (0 : Int32)), .val (.int (0 : Int32)), .val (.int (1 : Int32)), .val (.int (1 : Int32)), .val (.int (1 : Int32)), .val (.int cnt)] [(.int (0 : Int32)), (.int (0 : Int32))]))
      refine go (fun tg kg => XS.icmpNo X57.here hx rfl (hb hby at_124) rfl (teq (by decide)).2 kg) ?_
      show G (T57.setTop (mkF m 127 #[.val (.int x0), .val (.int cnt), .val (.ref b47), .val (.int (1 : Int32)), .val (.int (0 : Int32)), .val (.int (0 : Int32)), .val (.int (0 : Int32)), .val (.int (1 : Int32)), .val (.int (1 : Int32)), .val (.int (1 : Int32)), .val (.int cnt)] []))
      refine go (fun tg kg => XS.iload X57.here hx rfl (hb hby at_127) rfl kg) ?_
      show G (T57.setTop (mkF m 129 #[.val (.int x0), .val (.int cnt), .val (.ref b47), .val (.int (1 : Int32)), .val (.int (0 : Int32)), .val (.int (0 : Int32)), .val (.int (0 : Int32)), .val (.int (1 : Int32)), .val (.int (1 : Int32)), .val (.int (1 : Int32)), .val (.int cnt)] [(.int (0 : Int32))]))
      refine go (fun tg kg => XS.iconst X57.here hx rfl (hb hby at_129) kg) ?_
      show G (T57.setTop (mkF m 130 #[.val (.int x0), .val (.int cnt), .val (.ref b47), .val (.int (1 : Int32)), .val (.int (0 : Int32)), .val (.int (0 : Int32)), .val (.int (0 : Int32)), .val (.int (1 : Int32)), .val (.int (1 : Int32)), .val (.int (1 : Int32)), .val (.int cnt)] [(.int (4 : Int32)), (.int (0 : Int32))]))
      refine go (fun tg kg => XS.iloadN X57.here hx rfl (hb hby at_130) rfl kg) ?_
      show G (T57.setTop (mkF m 131 #[.val (.int x0), .val (.int cnt), .val (.ref b47), .val (.int (1 : Int32)), .val (.int (0 : Int32)), .val (.int (0 : Int32)), .val (.int (0 : Int32)), .val (.int (1 : Int32)), .val (.int (1 : Int32)), .val (.int (1 : Int32)), .val (.int cnt)] [(.int cnt), (.int (4 : Int32)), (.int (0 : Int32))]))
      refine go (fun tg kg => XS.icmpYes X57.here hx rfl (pc0 := 131) (pc' := 138) rfl (hb hby at_131) rfl (tlt (own_wk hk1 4 (by decide))).2.2.1 (by decide) (by decide) kg) ?_
      show G (T57.setTop (mkF m 138 #[.val (.int x0), .val (.int cnt), .val (.ref b47), .val (.int (1 : Int32)), .val (.int (0 : Int32)), .val (.int (0 : Int32)), .val (.int (0 : Int32)), .val (.int (1 : Int32)), .val (.int (1 : Int32)), .val (.int (1 : Int32)), .val (.int cnt)] [(.int (0 : Int32))]))
      refine go (fun tg kg => XS.iconst X57.here hx rfl (hb hby at_138) kg) ?_
      show G (T57.setTop (mkF m 139 #[.val (.int x0), .val (.int cnt), .val (.ref b47), .val (.int (1 : Int32)), .val (.int (0 : Int32)), .val (.int (0 : Int32)), .val (.int (0 : Int32)), .val (.int (1 : Int32)), .val (.int (1 : Int32)), .val (.int (1 : Int32)), .val (.int cnt)] [(.int (0 : Int32)), (.int (0 : Int32))]))
      refine go (fun tg kg => XS.icmpNo X57.here hx rfl (hb hby at_139) rfl (teq (by decide)).2 kg) ?_
      show G (T57.setTop (mkF m 142 #[.val (.int x0), .val (.int cnt), .val (.ref b47), .val (.int (1 : Int32)), .val (.int (0 : Int32)), .val (.int (0 : Int32)), .val (.int (0 : Int32)), .val (.int (1 : Int32)), .val (.int (1 : Int32)), .val (.int (1 : Int32)), .val (.int cnt)] []))
      refine go (fun tg kg => XS.iload X57.here hx rfl (hb hby at_142) rfl kg) ?_
      show G (T57.setTop (mkF m 144 #[.val (.int x0), .val (.int cnt), .val (.ref b47), .val (.int (1 : Int32)), .val (.int (0 : Int32)), .val (.int (0 : Int32)), .val (.int (0 : Int32)), .val (.int (1 : Int32)), .val (.int (1 : Int32)), .val (.int (1 : Int32)), .val (.int cnt)] [(.int (1 : Int32))]))
      refine go (fun tg kg => XS.iload X57.here hx rfl (hb hby at_144) rfl kg) ?_
      show G (T57.setTop (mkF m 146 #[.val (.int x0), .val (.int cnt), .val (.ref b47), .val (.int (1 : Int32)), .val (.int (0 : Int32)), .val (.int (0 : Int32)), .val (.int (0 : Int32)), .val (.int (1 : Int32)), .val (.int (1 : Int32)), .val (.int (1 : Int32)), .val (.int cnt)] [(.int cnt), (.int (1 : Int32))]))
      refine go (fun tg kg => XS.icmpNo X57.here hx rfl (hb hby at_146) rfl (teq (own_eq hk1 hp1 (by decide))).2 kg) ?_
      show G (T57.setTop (mkF m 149 #[.val (.int x0), .val (.int cnt), .val (.ref b47), .val (.int (1 : Int32)), .val (.int (0 : Int32)), .val (.int (0 : Int32)), .val (.int (0 : Int32)), .val (.int (1 : Int32)), .val (.int (1 : Int32)), .val (.int (1 : Int32)), .val (.int cnt)] []))
      refine go (fun tg kg => XS.iload X57.here hx rfl (hb hby at_149) rfl kg) ?_
      show G (T57.setTop (mkF m 151 #[.val (.int x0), .val (.int cnt), .val (.ref b47), .val (.int (1 : Int32)), .val (.int (0 : Int32)), .val (.int (0 : Int32)), .val (.int (0 : Int32)), .val (.int (1 : Int32)), .val (.int (1 : Int32)), .val (.int (1 : Int32)), .val (.int cnt)] [(.int (1 : Int32))]))
      refine go (fun tg kg => XS.ifNo X57.here hx rfl (hb hby at_151) rfl ((if0 _ _).trans (feq (by decide)).1) kg) ?_
      show G (T57.setTop (mkF m 154 #[.val (.int x0), .val (.int cnt), .val (.ref b47), .val (.int (1 : Int32)), .val (.int (0 : Int32)), .val (.int (0 : Int32)), .val (.int (0 : Int32)), .val (.int (1 : Int32)), .val (.int (1 : Int32)), .val (.int (1 : Int32)), .val (.int cnt)] []))
      refine go (fun tg kg => XS.iload X57.here hx rfl (hb hby at_154) rfl kg) ?_
      show G (T57.setTop (mkF m 156 #[.val (.int x0), .val (.int cnt), .val (.ref b47), .val (.int (1 : Int32)), .val (.int (0 : Int32)), .val (.int (0 : Int32)), .val (.int (0 : Int32)), .val (.int (1 : Int32)), .val (.int (1 : Int32)), .val (.int (1 : Int32)), .val (.int cnt)] [(.int (1 : Int32))]))
      refine go (fun tg kg => XS.iload X57.here hx rfl (hb hby at_156) rfl kg) ?_
      show G (T57.setTop (mkF m 158 #[.val (.int x0), .val (.int cnt), .val (.ref b47), .val (.int (1 : Int32)), .val (.int (0 : Int32)), .val (.int (0 : Int32)), .val (.int (0 : Int32)), .val (.int (1 : Int32)), .val (.int (1 : Int32)), .val (.int (1 : Int32)), .val (.int cnt)] [(.int cnt), (.int (1 : Int32))]))
      refine go (fun tg kg => XS.icmpNo X57.here hx rfl (hb hby at_158) rfl (teq (own_eq hk1 hp1 (by decide))).2 kg) ?_
      show G (T57.setTop (mkF m 161 #[.val (.int x0), .val (.int cnt), .val (.ref b47), .val (.int (1 : Int32)), .val (.int (0 : Int32)), .val (.int (0 : Int32)), .val (.int (0 : Int32)), .val (.int (1 : Int32)), .val (.int (1 : Int32)), .val (.int (1 : Int32)), .val (.int cnt)] []))
      refine go (fun tg kg => XS.iconst X57.here hx rfl (hb hby at_161) kg) ?_
      show G (T57.setTop (mkF m 162 #[.val (.int x0), .val (.int cnt), .val (.ref b47), .val (.int (1 : Int32)), .val (.int (0 : Int32)), .val (.int (0 : Int32)), .val (.int (0 : Int32)), .val (.int (1 : Int32)), .val (.int (1 : Int32)), .val (.int (1 : Int32)), .val (.int cnt)] [(.int (1 : Int32))]))
      refine go (fun tg kg => XS.goto X57.here hx rfl (pc0 := 162) (pc' := 166) rfl (hb hby at_162) (by decide) (by decide) kg) ?_
      show G (T57.setTop (mkF m 166 #[.val (.int x0), .val (.int cnt), .val (.ref b47), .val (.int (1 : Int32)), .val (.int (0 : Int32)), .val (.int (0 : Int32)), .val (.int (0 : Int32)), .val (.int (1 : Int32)), .val (.int (1 : Int32)), .val (.int (1 : Int32)), .val (.int cnt)] [(.int (1 : Int32))]))
      refine fin (some (.int (1 : Int32))) X57 (fun h => absurd h (by decide)) (fun fs hr => retN X57 hx (t := .boolean) hret (by simp) (hb hby at_166) hr) (by decide) (by decide) ?_
      rw [e57]
      exact ⟨rfl, N57⟩
    · have hp2 := hk1
      by_cases hk2 : cnt < (3 : Int32)
      · skip
        obtain ⟨T58, h58, X58, e58, E58, A58, D58, -, st58⟩ := newO X0 hx hZ hown (hw _ (List.mem_of_getElem? (i := 4) rfl)) (hw _ (List.mem_of_getElem? (i := 5) rfl)) (hw _ (List.mem_of_getElem? (i := 6) rfl)) e0 (g := (mkF m 22 #[.val (.int x0), .val (.int cnt), .unset, .unset, .unset, .unset, .unset, .unset, .unset, .unset, .unset] [])) rfl (hb hby at_22) (by decide) (by decide)
        obtain ⟨b58, g58⟩ : ∃ z, z = h0.size := ⟨_, rfl⟩
        rw [← g58] at A58 D58 st58
        refine go st58 ?_
        have ge_b58 : n0 ≤ b58 := Nat.le_trans Z0 (Nat.le_of_eq g58.symm)
        have Z58 := Nat.le_trans Z0 E58.1
        have F58_held : Fld Z h58 b58 "com/example/drumline/drumline/engine/Slots" "held" "Ljava/util/Deque;" .null := D58 (Or.inr (hw _ (List.mem_of_getElem? (i := 31) rfl))) (ty := (.object "java/util/Deque")) (by decide)
        have F58_count : Fld Z h58 b58 "com/example/drumline/drumline/engine/Slots" "count" "I" (.int (0 : Int32)) := D58 (Or.inr (hw _ (List.mem_of_getElem? (i := 33) rfl))) (ty := .int) (by decide)
        have F58_taken : Fld Z h58 b58 "com/example/drumline/drumline/engine/Slots" "taken" "I" (.int (0 : Int32)) := D58 (Or.inl (hw _ (List.mem_of_getElem? (i := 40) rfl))) (ty := .int) (by decide)
        show G (T58.setTop (mkF m 25 #[.val (.int x0), .val (.int cnt), .unset, .unset, .unset, .unset, .unset, .unset, .unset, .unset, .unset] [(.ref b58)]))
        refine go (fun tg kg => XS.dup X58.here hx rfl (hb hby at_25) rfl rfl kg) ?_
        show G (T58.setTop (mkF m 26 #[.val (.int x0), .val (.int cnt), .unset, .unset, .unset, .unset, .unset, .unset, .unset, .unset, .unset] [(.ref b58), (.ref b58)]))
        refine go (fun tg kg => XS.iloadN X58.here hx rfl (hb hby at_26) rfl kg) ?_
        show G (T58.setTop (mkF m 27 #[.val (.int x0), .val (.int cnt), .unset, .unset, .unset, .unset, .unset, .unset, .unset, .unset, .unset] [(.int cnt), (.ref b58), (.ref b58)]))
        obtain ⟨_, _, ⟨T59, L59, k59, n59⟩, -, X59, ⟨Lc59, hQ59, l59, y59, z59⟩, st59⟩ := X58.specialBack hx (y := (⟨"com/example/drumline/drumline/engine/Slots", "<init>", "(I)V"⟩ : MethodName)) rfl hown (mvT hZ (hw _ (List.mem_of_getElem? (i := 7) rfl))) (mvT hZ (hw _ (List.mem_of_getElem? (i := 8) rfl))) (mvT hZ (hw _ (List.mem_of_getElem? (i := 9) rfl))) (by decide) (backOf (W := 1) (rm2 l Z a0 hw [] b58 cnt h58 n0 Z58 A58 ge_b58 F58_held F58_count F58_taken) hZ (hw _ (List.mem_of_getElem? (i := 9) rfl)) (hw _ (List.mem_of_getElem? (i := 6) rfl)) (by decide) (by decide)) (g := (mkF m 27 #[.val (.int x0), .val (.int cnt), .unset, .unset, .unset, .unset, .unset, .unset, .unset, .unset, .unset] [(.int cnt), (.ref b58), (.ref b58)])) rfl (by rw [hml]; rfl) (Steps.refl _) (a := b58) (argsL := [(.int cnt)]) (rest := [(.ref b58)]) (lenOf pd__I_V rfl) rfl (by show 2 * 0 + _ ≤ _; exact Nat.le_of_eq rfl) (hb hby at_27) (fun _ _ => ⟨rfl, e58, (by decide : 1 + 2 ≤ _), (by decide : 3 + 20 ≤ _)⟩)
        dsimp only [Pt.U, Pt.locs, Pt.cells, Pt.slots] at X59 l59 y59 z59 st59 hQ59
        subst l59 y59 z59
        obtain ⟨rfl, Nq59, K59, Ge59, Gf59_count, Gf59_taken⟩ := hQ59
        have Z59 := Nat.le_trans Z58 K59.1
        have N59 := Fr.app N0 Nq59
        refine go (fun tg kg => st59.trans kg) ?_
        show G (T59.setTop (mkF m 30 #[.val (.int x0), .val (.int cnt), .unset, .unset, .unset, .unset, .unset, .unset, .unset, .unset, .unset] [(.ref b58)]))
        refine go (fun tg kg => XS.astoreN X59.here hx rfl (hb hby at_30) rfl rfl (l' := #[.val (.int x0), .val (.int cnt), .val (.ref b58), .unset, .unset, .unset, .unset, .unset, .unset, .unset, .unset]) rfl kg) ?_
        show G (T59.setTop (mkF m 31 #[.val (.int x0), .val (.int cnt), .val (.ref b58), .unset, .unset, .unset, .unset, .unset, .unset, .unset, .unset] []))
        refine go (fun tg kg => XS.aloadN X59.here hx rfl (hb hby at_31) rfl rfl kg) ?_
        show G (T59.setTop (mkF m 32 #[.val (.int x0), .val (.int cnt), .val (.ref b58), .unset, .unset, .unset, .unset, .unset, .unset, .unset, .unset] [(.ref b58)]))
        obtain ⟨cq60, kq60, q60a, q60b, q60c⟩ := isOf hZ rfl Ge59
        obtain ⟨_, _, ⟨T60, L60, k60, n60⟩, -, X60, ⟨Lc60, hQ60, l60, y60, z60⟩, st60⟩ := X59.virtualBack hx (y := (⟨"com/example/drumline/drumline/engine/Slots", "take", "()Z"⟩ : MethodName)) (z := (⟨"com/example/drumline/drumline/engine/Slots", "take", "()Z"⟩ : MethodName)) hown (mvT hZ (hw _ (List.mem_of_getElem? (i := 34) rfl))) (mvT hZ (hw _ (List.mem_of_getElem? (i := 35) rfl))) (notFace_of_selects (args := #[]) (mvT hZ (hw _ (List.mem_of_getElem? (i := 37) rfl)))) (mvT hZ (hw _ (List.mem_of_getElem? (i := 37) rfl))) (mvT hZ (hw _ (List.mem_of_getElem? (i := 36) rfl))) (by decide) (backOf (W := 0) (rm6_1 l Z a0 hw [] b58 cnt (0 : Int32) T59.heap n0 Z59 Ge59 ge_b58 Gf59_count Gf59_taken (own_up hp2 0 (by decide))) hZ (hw _ (List.mem_of_getElem? (i := 38) rfl)) (hw _ (List.mem_of_getElem? (i := 6) rfl)) (by decide) (by decide)) q60a q60c (g := (mkF m 32 #[.val (.int x0), .val (.int cnt), .val (.ref b58), .unset, .unset, .unset, .unset, .unset, .unset, .unset, .unset] [(.ref b58)])) rfl (by rw [hml]; rfl) (Steps.refl _) (argsL := []) (rest := []) (lenOf pd___Z rfl) rfl (by show 2 * 0 + _ ≤ _; exact Nat.le_of_eq rfl) (hb hby at_32) (fun _ _ => ⟨rfl, rfl, (by decide : 3 + 0 ≤ _), (by decide : 23 + 0 ≤ _)⟩)
        dsimp only [Pt.U, Pt.locs, Pt.cells, Pt.slots] at X60 l60 y60 z60 st60 hQ60
        subst l60 y60 z60
        obtain ⟨rfl, Nq60, K60, Ge60, Gf60_count, Gf60_taken⟩ := hQ60
        have Z60 := Nat.le_trans Z59 K60.1
        replace Gf60_taken : Fld Z T60.heap b58 "com/example/drumline/drumline/engine/Slots" "taken" "I" (.int (1 : Int32)) := Gf60_taken
        have N60 := Fr.app N59 Nq60
        refine go (fun tg kg => st60.trans kg) ?_
        show G (T60.setTop (mkF m 35 #[.val (.int x0), .val (.int cnt), .val (.ref b58), .unset, .unset, .unset, .unset, .unset, .unset, .unset, .unset] [(.int (1 : Int32))]))
        refine go (fun tg kg => XS.istoreN X60.here hx rfl (hb hby at_35) rfl (l' := #[.val (.int x0), .val (.int cnt), .val (.ref b58), .val (.int (1 : Int32)), .unset, .unset, .unset, .unset, .unset, .unset, .unset]) rfl kg) ?_
        show G (T60.setTop (mkF m 36 #[.val (.int x0), .val (.int cnt), .val (.ref b58), .val (.int (1 : Int32)), .unset, .unset, .unset, .unset, .unset, .unset, .unset] []))
        refine go (fun tg kg => XS.aloadN X60.here hx rfl (hb hby at_36) rfl rfl kg) ?_
        show G (T60.setTop (mkF m 37 #[.val (.int x0), .val (.int cnt), .val (.ref b58), .val (.int (1 : Int32)), .unset, .unset, .unset, .unset, .unset, .unset, .unset] [(.ref b58)]))
        obtain ⟨cq61, kq61, q61a, q61b, q61c⟩ := isOf hZ rfl Ge60
        obtain ⟨_, _, ⟨T61, L61, k61, n61⟩, -, X61, ⟨Lc61, hQ61, l61, y61, z61⟩, st61⟩ := X60.virtualBack hx (y := (⟨"com/example/drumline/drumline/engine/Slots", "take", "()Z"⟩ : MethodName)) (z := (⟨"com/example/drumline/drumline/engine/Slots", "take", "()Z"⟩ : MethodName)) hown (mvT hZ (hw _ (List.mem_of_getElem? (i := 34) rfl))) (mvT hZ (hw _ (List.mem_of_getElem? (i := 35) rfl))) (notFace_of_selects (args := #[]) (mvT hZ (hw _ (List.mem_of_getElem? (i := 37) rfl)))) (mvT hZ (hw _ (List.mem_of_getElem? (i := 37) rfl))) (mvT hZ (hw _ (List.mem_of_getElem? (i := 36) rfl))) (by decide) (backOf (W := 0) (rm6_1 l Z a0 hw [] b58 cnt (1 : Int32) T60.heap n0 Z60 Ge60 ge_b58 Gf60_count Gf60_taken (own_up hp2 1 (by decide))) hZ (hw _ (List.mem_of_getElem? (i := 38) rfl)) (hw _ (List.mem_of_getElem? (i := 6) rfl)) (by decide) (by decide)) q61a q61c (g := (mkF m 37 #[.val (.int x0), .val (.int cnt), .val (.ref b58), .val (.int (1 : Int32)), .unset, .unset, .unset, .unset, .unset, .unset, .unset] [(.ref b58)])) rfl (by rw [hml]; rfl) (Steps.refl _) (argsL := []) (rest := []) (lenOf pd___Z rfl) rfl (by show 2 * 0 + _ ≤ _; exact Nat.le_of_eq rfl) (hb hby at_37) (fun _ _ => ⟨rfl, rfl, (by decide : 3 + 0 ≤ _), (by decide : 23 + 0 ≤ _)⟩)
        dsimp only [Pt.U, Pt.locs, Pt.cells, Pt.slots] at X61 l61 y61 z61 st61 hQ61
        subst l61 y61 z61
        obtain ⟨rfl, Nq61, K61, Ge61, Gf61_count, Gf61_taken⟩ := hQ61
        have Z61 := Nat.le_trans Z60 K61.1
        replace Gf61_taken : Fld Z T61.heap b58 "com/example/drumline/drumline/engine/Slots" "taken" "I" (.int (2 : Int32)) := Gf61_taken
        have N61 := Fr.app N60 Nq61
        refine go (fun tg kg => st61.trans kg) ?_
        show G (T61.setTop (mkF m 40 #[.val (.int x0), .val (.int cnt), .val (.ref b58), .val (.int (1 : Int32)), .unset, .unset, .unset, .unset, .unset, .unset, .unset] [(.int (1 : Int32))]))
        refine go (fun tg kg => XS.istore X61.here hx rfl (hb hby at_40) rfl (l' := #[.val (.int x0), .val (.int cnt), .val (.ref b58), .val (.int (1 : Int32)), .val (.int (1 : Int32)), .unset, .unset, .unset, .unset, .unset, .unset]) rfl kg) ?_
        show G (T61.setTop (mkF m 42 #[.val (.int x0), .val (.int cnt), .val (.ref b58), .val (.int (1 : Int32)), .val (.int (1 : Int32)), .unset, .unset, .unset, .unset, .unset, .unset] []))
        refine go (fun tg kg => XS.aloadN X61.here hx rfl (hb hby at_42) rfl rfl kg) ?_
        show G (T61.setTop (mkF m 43 #[.val (.int x0), .val (.int cnt), .val (.ref b58), .val (.int (1 : Int32)), .val (.int (1 : Int32)), .unset, .unset, .unset, .unset, .unset, .unset] [(.ref b58)]))
        obtain ⟨cq62, kq62, q62a, q62b, q62c⟩ := isOf hZ rfl Ge61
        obtain ⟨_, _, ⟨T62, L62, k62, n62⟩, -, X62, ⟨Lc62, hQ62, l62, y62, z62⟩, st62⟩ := X61.virtualBack hx (y := (⟨"com/example/drumline/drumline/engine/Slots", "take", "()Z"⟩ : MethodName)) (z := (⟨"com/example/drumline/drumline/engine/Slots", "take", "()Z"⟩ : MethodName)) hown (mvT hZ (hw _ (List.mem_of_getElem? (i := 34) rfl))) (mvT hZ (hw _ (List.mem_of_getElem? (i := 35) rfl))) (notFace_of_selects (args := #[]) (mvT hZ (hw _ (List.mem_of_getElem? (i := 37) rfl)))) (mvT hZ (hw _ (List.mem_of_getElem? (i := 37) rfl))) (mvT hZ (hw _ (List.mem_of_getElem? (i := 36) rfl))) (by decide) (backOf (W := 0) (rm6_0 l Z a0 hw [] b58 cnt (2 : Int32) T61.heap n0 Z61 Ge61 ge_b58 Gf61_count Gf61_taken (own_dn hk2 2 (by decide))) hZ (hw _ (List.mem_of_getElem? (i := 38) rfl)) (hw _ (List.mem_of_getElem? (i := 6) rfl)) (by decide) (by decide)) q62a q62c (g := (mkF m 43 #[.val (.int x0), .val (.int cnt), .val (.ref b58), .val (.int (1 : Int32)), .val (.int (1 : Int32)), .unset, .unset, .unset, .unset, .unset, .unset] [(.ref b58)])) rfl (by rw [hml]; rfl) (Steps.refl _) (argsL := []) (rest := []) (lenOf pd___Z rfl) rfl (by show 2 * 0 + _ ≤ _; exact Nat.le_of_eq rfl) (hb hby at_43) (fun _ _ => ⟨rfl, rfl, (by decide : 3 + 0 ≤ _), (by decide : 23 + 0 ≤ _)⟩)
        dsimp only [Pt.U, Pt.locs, Pt.cells, Pt.slots] at X62 l62 y62 z62 st62 hQ62
        subst l62 y62 z62
        obtain ⟨rfl, Nq62, K62, Ge62, Gf62_count, Gf62_taken⟩ := hQ62
        have Z62 := Nat.le_trans Z61 K62.1
        replace Gf62_taken : Fld Z T62.heap b58 "com/example/drumline/drumline/engine/Slots" "taken" "I" (.int (2 : Int32)) := Gf62_taken
        have N62 := Fr.app N61 Nq62
        refine go (fun tg kg => st62.trans kg) ?_
        show G (T62.setTop (mkF m 46 #[.val (.int x0), .val (.int cnt), .val (.ref b58), .val (.int (1 : Int32)), .val (.int (1 : Int32)), .unset, .unset, .unset, .unset, .unset, .unset] [(.int (0 : Int32))]))
        refine go (fun tg kg => XS.istore X62.here hx rfl (hb hby at_46) rfl (l' := #[.val (.int x0), .val (.int cnt), .val (.ref b58), .val (.int (1 : Int32)), .val (.int (1 : Int32)), .val (.int (0 : Int32)), .unset, .unset, .unset, .unset, .unset]) rfl kg) ?_
        show G (T62.setTop (mkF m 48 #[.val (.int x0), .val (.int cnt), .val (.ref b58), .val (.int (1 : Int32)), .val (.int (1 : Int32)), .val (.int (0 : Int32)), .unset, .unset, .unset, .unset, .unset] []))
        refine go (fun tg kg => XS.aloadN X62.here hx rfl (hb hby at_48) rfl rfl kg) ?_
        show G (T62.setTop (mkF m 49 #[.val (.int x0), .val (.int cnt), .val (.ref b58), .val (.int (1 : Int32)), .val (.int (1 : Int32)), .val (.int (0 : Int32)), .unset, .unset, .unset, .unset, .unset] [(.ref b58)]))
        obtain ⟨cq63, kq63, q63a, q63b, q63c⟩ := isOf hZ rfl Ge62
        obtain ⟨_, _, ⟨T63, L63, k63, n63⟩, -, X63, ⟨Lc63, hQ63, l63, y63, z63⟩, st63⟩ := X62.virtualBack hx (y := (⟨"com/example/drumline/drumline/engine/Slots", "take", "()Z"⟩ : MethodName)) (z := (⟨"com/example/drumline/drumline/engine/Slots", "take", "()Z"⟩ : MethodName)) hown (mvT hZ (hw _ (List.mem_of_getElem? (i := 34) rfl))) (mvT hZ (hw _ (List.mem_of_getElem? (i := 35) rfl))) (notFace_of_selects (args := #[]) (mvT hZ (hw _ (List.mem_of_getElem? (i := 37) rfl)))) (mvT hZ (hw _ (List.mem_of_getElem? (i := 37) rfl))) (mvT hZ (hw _ (List.mem_of_getElem? (i := 36) rfl))) (by decide) (backOf (W := 0) (rm6_0 l Z a0 hw [] b58 cnt (2 : Int32) T62.heap n0 Z62 Ge62 ge_b58 Gf62_count Gf62_taken (own_dn hk2 2 (by decide))) hZ (hw _ (List.mem_of_getElem? (i := 38) rfl)) (hw _ (List.mem_of_getElem? (i := 6) rfl)) (by decide) (by decide)) q63a q63c (g := (mkF m 49 #[.val (.int x0), .val (.int cnt), .val (.ref b58), .val (.int (1 : Int32)), .val (.int (1 : Int32)), .val (.int (0 : Int32)), .unset, .unset, .unset, .unset, .unset] [(.ref b58)])) rfl (by rw [hml]; rfl) (Steps.refl _) (argsL := []) (rest := []) (lenOf pd___Z rfl) rfl (by show 2 * 0 + _ ≤ _; exact Nat.le_of_eq rfl) (hb hby at_49) (fun _ _ => ⟨rfl, rfl, (by decide : 3 + 0 ≤ _), (by decide : 23 + 0 ≤ _)⟩)
        dsimp only [Pt.U, Pt.locs, Pt.cells, Pt.slots] at X63 l63 y63 z63 st63 hQ63
        subst l63 y63 z63
        obtain ⟨rfl, Nq63, K63, Ge63, Gf63_count, Gf63_taken⟩ := hQ63
        have Z63 := Nat.le_trans Z62 K63.1
        replace Gf63_taken : Fld Z T63.heap b58 "com/example/drumline/drumline/engine/Slots" "taken" "I" (.int (2 : Int32)) := Gf63_taken
        have N63 := Fr.app N62 Nq63
        refine go (fun tg kg => st63.trans kg) ?_
        show G (T63.setTop (mkF m 52 #[.val (.int x0), .val (.int cnt), .val (.ref b58), .val (.int (1 : Int32)), .val (.int (1 : Int32)), .val (.int (0 : Int32)), .unset, .unset, .unset, .unset, .unset] [(.int (0 : Int32))]))
        refine go (fun tg kg => XS.istore X63.here hx rfl (hb hby at_52) rfl (l' := #[.val (.int x0), .val (.int cnt), .val (.ref b58), .val (.int (1 : Int32)), .val (.int (1 : Int32)), .val (.int (0 : Int32)), .val (.int (0 : Int32)), .unset, .unset, .unset, .unset]) rfl kg) ?_
        show G (T63.setTop (mkF m 54 #[.val (.int x0), .val (.int cnt), .val (.ref b58), .val (.int (1 : Int32)), .val (.int (1 : Int32)), .val (.int (0 : Int32)), .val (.int (0 : Int32)), .unset, .unset, .unset, .unset] []))
        refine go (fun tg kg => XS.aloadN X63.here hx rfl (hb hby at_54) rfl rfl kg) ?_
        show G (T63.setTop (mkF m 55 #[.val (.int x0), .val (.int cnt), .val (.ref b58), .val (.int (1 : Int32)), .val (.int (1 : Int32)), .val (.int (0 : Int32)), .val (.int (0 : Int32)), .unset, .unset, .unset, .unset] [(.ref b58)]))
        obtain ⟨cq64, kq64, q64a, q64b, q64c⟩ := isOf hZ rfl Ge63
        obtain ⟨_, _, ⟨T64, L64, k64, n64⟩, -, X64, ⟨Lc64, hQ64, l64, y64, z64⟩, st64⟩ := X63.virtualBack hx (y := (⟨"com/example/drumline/drumline/engine/Slots", "taken", "()I"⟩ : MethodName)) (z := (⟨"com/example/drumline/drumline/engine/Slots", "taken", "()I"⟩ : MethodName)) hown (mvT hZ (hw _ (List.mem_of_getElem? (i := 41) rfl))) (mvT hZ (hw _ (List.mem_of_getElem? (i := 42) rfl))) (notFace_of_selects (args := #[]) (mvT hZ (hw _ (List.mem_of_getElem? (i := 44) rfl)))) (mvT hZ (hw _ (List.mem_of_getElem? (i := 44) rfl))) (mvT hZ (hw _ (List.mem_of_getElem? (i := 43) rfl))) (by decide) (backOf (W := 0) (rm7 l Z a0 hw [] b58 (2 : Int32) T63.heap n0 Z63 Gf63_taken) hZ (hw _ (List.mem_of_getElem? (i := 45) rfl)) (hw _ (List.mem_of_getElem? (i := 6) rfl)) (by decide) (by decide)) q64a q64c (g := (mkF m 55 #[.val (.int x0), .val (.int cnt), .val (.ref b58), .val (.int (1 : Int32)), .val (.int (1 : Int32)), .val (.int (0 : Int32)), .val (.int (0 : Int32)), .unset, .unset, .unset, .unset] [(.ref b58)])) rfl (by rw [hml]; rfl) (Steps.refl _) (argsL := []) (rest := []) (lenOf pd___I rfl) rfl (by show 2 * 0 + _ ≤ _; exact Nat.le_of_eq rfl) (hb hby at_55) (fun _ _ => ⟨rfl, rfl, (by decide : 3 + 0 ≤ _), (by decide : 23 + 0 ≤ _)⟩)
        dsimp only [Pt.U, Pt.locs, Pt.cells, Pt.slots] at X64 l64 y64 z64 st64 hQ64
        subst l64 y64 z64
        obtain ⟨rfl, Nq64, e64⟩ := hQ64
        have N64 := Fr.app N63 Nq64
        refine go (fun tg kg => st64.trans kg) ?_
        show G (T64.setTop (mkF m 58 #[.val (.int x0), .val (.int cnt), .val (.ref b58), .val (.int (1 : Int32)), .val (.int (1 : Int32)), .val (.int (0 : Int32)), .val (.int (0 : Int32)), .unset, .unset, .unset, .unset] [(.int (2 : Int32))]))
        refine go (fun tg kg => XS.istore X64.here hx rfl (hb hby at_58) rfl (l' := #[.val (.int x0), .val (.int cnt), .val (.ref b58), .val (.int (1 : Int32)), .val (.int (1 : Int32)), .val (.int (0 : Int32)), .val (.int (0 : Int32)), .val (.int (2 : Int32)), .unset, .unset, .unset]) rfl kg) ?_
        show G (T64.setTop (mkF m 60 #[.val (.int x0), .val (.int cnt), .val (.ref b58), .val (.int (1 : Int32)), .val (.int (1 : Int32)), .val (.int (0 : Int32)), .val (.int (0 : Int32)), .val (.int (2 : Int32)), .unset, .unset, .unset] []))
        refine go (fun tg kg => XS.aloadN X64.here hx rfl (hb hby at_60) rfl rfl kg) ?_
        show G (T64.setTop (mkF m 61 #[.val (.int x0), .val (.int cnt), .val (.ref b58), .val (.int (1 : Int32)), .val (.int (1 : Int32)), .val (.int (0 : Int32)), .val (.int (0 : Int32)), .val (.int (2 : Int32)), .unset, .unset, .unset] [(.ref b58)]))
        obtain ⟨cq65, kq65, q65a, q65b, q65c⟩ := isOf hZ e64 Ge63
        obtain ⟨_, _, ⟨T65, L65, k65, n65⟩, -, X65, ⟨Lc65, hQ65, l65, y65, z65⟩, st65⟩ := X64.virtualBack hx (y := (⟨"com/example/drumline/drumline/engine/Slots", "free", "()V"⟩ : MethodName)) (z := (⟨"com/example/drumline/drumline/engine/Slots", "free", "()V"⟩ : MethodName)) hown (mvT hZ (hw _ (List.mem_of_getElem? (i := 46) rfl))) (mvT hZ (hw _ (List.mem_of_getElem? (i := 47) rfl))) (notFace_of_selects (args := #[]) (mvT hZ (hw _ (List.mem_of_getElem? (i := 49) rfl)))) (mvT hZ (hw _ (List.mem_of_getElem? (i := 49) rfl))) (mvT hZ (hw _ (List.mem_of_getElem? (i := 48) rfl))) (by decide) (backOf (W := 0) (rm8 l Z a0 hw [] b58 cnt (2 : Int32) T63.heap n0 Z63 Ge63 ge_b58 Gf63_count Gf63_taken) hZ (hw _ (List.mem_of_getElem? (i := 50) rfl)) (hw _ (List.mem_of_getElem? (i := 6) rfl)) (by decide) (by decide)) q65a q65c (g := (mkF m 61 #[.val (.int x0), .val (.int cnt), .val (.ref b58), .val (.int (1 : Int32)), .val (.int (1 : Int32)), .val (.int (0 : Int32)), .val (.int (0 : Int32)), .val (.int (2 : Int32)), .unset, .unset, .unset] [(.ref b58)])) rfl (by rw [hml]; rfl) (Steps.refl _) (argsL := []) (rest := []) (lenOf pd___V rfl) rfl (by show 2 * 0 + _ ≤ _; exact Nat.le_of_eq rfl) (hb hby at_61) (fun _ _ => ⟨rfl, e64, (by decide : 3 + 0 ≤ _), (by decide : 23 + 0 ≤ _)⟩)
        dsimp only [Pt.U, Pt.locs, Pt.cells, Pt.slots] at X65 l65 y65 z65 st65 hQ65
        subst l65 y65 z65
        obtain ⟨rfl, Nq65, K65, Ge65, Gf65_count, Gf65_taken⟩ := hQ65
        have Z65 := Nat.le_trans Z63 K65.1
        replace Gf65_taken : Fld Z T65.heap b58 "com/example/drumline/drumline/engine/Slots" "taken" "I" (.int (1 : Int32)) := Gf65_taken
        have N65 := Fr.app N64 Nq65
        refine go (fun tg kg => st65.trans kg) ?_
        show G (T65.setTop (mkF m 64 #[.val (.int x0), .val (.int cnt), .val (.ref b58), .val (.int (1 : Int32)), .val (.int (1 : Int32)), .val (.int (0 : Int32)), .val (.int (0 : Int32)), .val (.int (2 : Int32)), .unset, .unset, .unset] []))
        refine go (fun tg kg => XS.aloadN X65.here hx rfl (hb hby at_64) rfl rfl kg) ?_
        show G (T65.setTop (mkF m 65 #[.val (.int x0), .val (.int cnt), .val (.ref b58), .val (.int (1 : Int32)), .val (.int (1 : Int32)), .val (.int (0 : Int32)), .val (.int (0 : Int32)), .val (.int (2 : Int32)), .unset, .unset, .unset] [(.ref b58)]))
        obtain ⟨cq66, kq66, q66a, q66b, q66c⟩ := isOf hZ rfl Ge65
        obtain ⟨_, _, ⟨T66, L66, k66, n66⟩, -, X66, ⟨Lc66, hQ66, l66, y66, z66⟩, st66⟩ := X65.virtualBack hx (y := (⟨"com/example/drumline/drumline/engine/Slots", "take", "()Z"⟩ : MethodName)) (z := (⟨"com/example/drumline/drumline/engine/Slots", "take", "()Z"⟩ : MethodName)) hown (mvT hZ (hw _ (List.mem_of_getElem? (i := 34) rfl))) (mvT hZ (hw _ (List.mem_of_getElem? (i := 35) rfl))) (notFace_of_selects (args := #[]) (mvT hZ (hw _ (List.mem_of_getElem? (i := 37) rfl)))) (mvT hZ (hw _ (List.mem_of_getElem? (i := 37) rfl))) (mvT hZ (hw _ (List.mem_of_getElem? (i := 36) rfl))) (by decide) (backOf (W := 0) (rm6_1 l Z a0 hw [] b58 cnt (1 : Int32) T65.heap n0 Z65 Ge65 ge_b58 Gf65_count Gf65_taken (own_up hp2 1 (by decide))) hZ (hw _ (List.mem_of_getElem? (i := 38) rfl)) (hw _ (List.mem_of_getElem? (i := 6) rfl)) (by decide) (by decide)) q66a q66c (g := (mkF m 65 #[.val (.int x0), .val (.int cnt), .val (.ref b58), .val (.int (1 : Int32)), .val (.int (1 : Int32)), .val (.int (0 : Int32)), .val (.int (0 : Int32)), .val (.int (2 : Int32)), .unset, .unset, .unset] [(.ref b58)])) rfl (by rw [hml]; rfl) (Steps.refl _) (argsL := []) (rest := []) (lenOf pd___Z rfl) rfl (by show 2 * 0 + _ ≤ _; exact Nat.le_of_eq rfl) (hb hby at_65) (fun _ _ => ⟨rfl, rfl, (by decide : 3 + 0 ≤ _), (by decide : 23 + 0 ≤ _)⟩)
        dsimp only [Pt.U, Pt.locs, Pt.cells, Pt.slots] at X66 l66 y66 z66 st66 hQ66
        subst l66 y66 z66
        obtain ⟨rfl, Nq66, K66, Ge66, Gf66_count, Gf66_taken⟩ := hQ66
        have Z66 := Nat.le_trans Z65 K66.1
        replace Gf66_taken : Fld Z T66.heap b58 "com/example/drumline/drumline/engine/Slots" "taken" "I" (.int (2 : Int32)) := Gf66_taken
        have N66 := Fr.app N65 Nq66
        refine go (fun tg kg => st66.trans kg) ?_
        show G (T66.setTop (mkF m 68 #[.val (.int x0), .val (.int cnt), .val (.ref b58), .val (.int (1 : Int32)), .val (.int (1 : Int32)), .val (.int (0 : Int32)), .val (.int (0 : Int32)), .val (.int (2 : Int32)), .unset, .unset, .unset] [(.int (1 : Int32))]))
        refine go (fun tg kg => XS.istore X66.here hx rfl (hb hby at_68) rfl (l' := #[.val (.int x0), .val (.int cnt), .val (.ref b58), .val (.int (1 : Int32)), .val (.int (1 : Int32)), .val (.int (0 : Int32)), .val (.int (0 : Int32)), .val (.int (2 : Int32)), .val (.int (1 : Int32)), .unset, .unset]) rfl kg) ?_
        show G (T66.setTop (mkF m 70 #[.val (.int x0), .val (.int cnt), .val (.ref b58), .val (.int (1 : Int32)), .val (.int (1 : Int32)), .val (.int (0 : Int32)), .val (.int (0 : Int32)), .val (.int (2 : Int32)), .val (.int (1 : Int32)), .unset, .unset] []))
        refine go (fun tg kg => XS.aloadN X66.here hx rfl (hb hby at_70) rfl rfl kg) ?_
        show G (T66.setTop (mkF m 71 #[.val (.int x0), .val (.int cnt), .val (.ref b58), .val (.int (1 : Int32)), .val (.int (1 : Int32)), .val (.int (0 : Int32)), .val (.int (0 : Int32)), .val (.int (2 : Int32)), .val (.int (1 : Int32)), .unset, .unset] [(.ref b58)]))
        obtain ⟨cq67, kq67, q67a, q67b, q67c⟩ := isOf hZ rfl Ge66
        obtain ⟨_, _, ⟨T67, L67, k67, n67⟩, -, X67, ⟨Lc67, hQ67, l67, y67, z67⟩, st67⟩ := X66.virtualBack hx (y := (⟨"com/example/drumline/drumline/engine/Slots", "taken", "()I"⟩ : MethodName)) (z := (⟨"com/example/drumline/drumline/engine/Slots", "taken", "()I"⟩ : MethodName)) hown (mvT hZ (hw _ (List.mem_of_getElem? (i := 41) rfl))) (mvT hZ (hw _ (List.mem_of_getElem? (i := 42) rfl))) (notFace_of_selects (args := #[]) (mvT hZ (hw _ (List.mem_of_getElem? (i := 44) rfl)))) (mvT hZ (hw _ (List.mem_of_getElem? (i := 44) rfl))) (mvT hZ (hw _ (List.mem_of_getElem? (i := 43) rfl))) (by decide) (backOf (W := 0) (rm7 l Z a0 hw [] b58 (2 : Int32) T66.heap n0 Z66 Gf66_taken) hZ (hw _ (List.mem_of_getElem? (i := 45) rfl)) (hw _ (List.mem_of_getElem? (i := 6) rfl)) (by decide) (by decide)) q67a q67c (g := (mkF m 71 #[.val (.int x0), .val (.int cnt), .val (.ref b58), .val (.int (1 : Int32)), .val (.int (1 : Int32)), .val (.int (0 : Int32)), .val (.int (0 : Int32)), .val (.int (2 : Int32)), .val (.int (1 : Int32)), .unset, .unset] [(.ref b58)])) rfl (by rw [hml]; rfl) (Steps.refl _) (argsL := []) (rest := []) (lenOf pd___I rfl) rfl (by show 2 * 0 + _ ≤ _; exact Nat.le_of_eq rfl) (hb hby at_71) (fun _ _ => ⟨rfl, rfl, (by decide : 3 + 0 ≤ _), (by decide : 23 + 0 ≤ _)⟩)
        dsimp only [Pt.U, Pt.locs, Pt.cells, Pt.slots] at X67 l67 y67 z67 st67 hQ67
        subst l67 y67 z67
        obtain ⟨rfl, Nq67, e67⟩ := hQ67
        have N67 := Fr.app N66 Nq67
        refine go (fun tg kg => st67.trans kg) ?_
        show G (T67.setTop (mkF m 74 #[.val (.int x0), .val (.int cnt), .val (.ref b58), .val (.int (1 : Int32)), .val (.int (1 : Int32)), .val (.int (0 : Int32)), .val (.int (0 : Int32)), .val (.int (2 : Int32)), .val (.int (1 : Int32)), .unset, .unset] [(.int (2 : Int32))]))
        refine go (fun tg kg => XS.istore X67.here hx rfl (hb hby at_74) rfl (l' := #[.val (.int x0), .val (.int cnt), .val (.ref b58), .val (.int (1 : Int32)), .val (.int (1 : Int32)), .val (.int (0 : Int32)), .val (.int (0 : Int32)), .val (.int (2 : Int32)), .val (.int (1 : Int32)), .val (.int (2 : Int32)), .unset]) rfl kg) ?_
        show G (T67.setTop (mkF m 76 #[.val (.int x0), .val (.int cnt), .val (.ref b58), .val (.int (1 : Int32)), .val (.int (1 : Int32)), .val (.int (0 : Int32)), .val (.int (0 : Int32)), .val (.int (2 : Int32)), .val (.int (1 : Int32)), .val (.int (2 : Int32)), .unset] []))
        refine go (fun tg kg => XS.iconst X67.here hx rfl (hb hby at_76) kg) ?_
        show G (T67.setTop (mkF m 77 #[.val (.int x0), .val (.int cnt), .val (.ref b58), .val (.int (1 : Int32)), .val (.int (1 : Int32)), .val (.int (0 : Int32)), .val (.int (0 : Int32)), .val (.int (2 : Int32)), .val (.int (1 : Int32)), .val (.int (2 : Int32)), .unset] [(.int (4 : Int32))]))
        refine go (fun tg kg => XS.iloadN X67.here hx rfl (hb hby at_77) rfl kg) ?_
        show G (T67.setTop (mkF m 78 #[.val (.int x0), .val (.int cnt), .val (.ref b58), .val (.int (1 : Int32)), .val (.int (1 : Int32)), .val (.int (0 : Int32)), .val (.int (0 : Int32)), .val (.int (2 : Int32)), .val (.int (1 : Int32)), .val (.int (2 : Int32)), .unset] [(.int cnt), (.int (4 : Int32))]))
        obtain ⟨_, _, ⟨T68, L68, k68, n68⟩, -, X68, ⟨Lc68, hQ68, l68, y68, z68⟩, st68⟩ := Jvm.LawKit.callS X67 hx (y := (⟨"java/lang/Math", "min", "(II)I"⟩ : MethodName)) hown (mvT hZ (hw _ (List.mem_of_getElem? (i := 51) rfl))) (mvT hZ (hw _ (List.mem_of_getElem? (i := 52) rfl))) (mvT hZ (hw _ (List.mem_of_getElem? (i := 2) rfl))) (mvT hZ (hw _ (List.mem_of_getElem? (i := 53) rfl))) (by decide) (backOf (W := 0) (rm9 l Z a0 hw [] (4 : Int32) cnt T66.heap n0 Z66 ) hZ (hw _ (List.mem_of_getElem? (i := 53) rfl)) (hw _ (List.mem_of_getElem? (i := 2) rfl)) (by decide) (by decide)) (g := (mkF m 78 #[.val (.int x0), .val (.int cnt), .val (.ref b58), .val (.int (1 : Int32)), .val (.int (1 : Int32)), .val (.int (0 : Int32)), .val (.int (0 : Int32)), .val (.int (2 : Int32)), .val (.int (1 : Int32)), .val (.int (2 : Int32)), .unset] [(.int cnt), (.int (4 : Int32))])) rfl (by rw [hml]; rfl) (argsL := [(.int (4 : Int32)), (.int cnt)]) (rest := []) (lenOf pd__II_I rfl) rfl (by show 2 * 0 + _ ≤ _; exact Nat.le_of_eq rfl) (hb hby at_78) (fun _ _ => ⟨rfl, e67, (by decide : 3 + 0 ≤ _), (by decide : 23 + 0 ≤ _)⟩)
        dsimp only [Pt.U, Pt.locs, Pt.cells, Pt.slots] at X68 l68 y68 z68 st68 hQ68
        subst l68 y68 z68
        obtain ⟨rfl, Nq68, e68⟩ := hQ68
        rw [own_min_p (own_wk hk2 4 (by decide))] at st68
        have N68 := Fr.app N67 Nq68
        refine go st68 ?_
        show G (T68.setTop (mkF m 81 #[.val (.int x0), .val (.int cnt), .val (.ref b58), .val (.int (1 : Int32)), .val (.int (1 : Int32)), .val (.int (0 : Int32)), .val (.int (0 : Int32)), .val (.int (2 : Int32)), .val (.int (1 : Int32)), .val (.int (2 : Int32)), .unset] [(.int cnt)]))
        refine go (fun tg kg => XS.istore X68.here hx rfl (hb hby at_81) rfl (l' := #[.val (.int x0), .val (.int cnt), .val (.ref b58), .val (.int (1 : Int32)), .val (.int (1 : Int32)), .val (.int (0 : Int32)), .val (.int (0 : Int32)), .val (.int (2 : Int32)), .val (.int (1 : Int32)), .val (.int (2 : Int32)), .val (.int cnt)]) rfl kg) ?_
        show G (T68.setTop (mkF m 83 #[.val (.int x0), .val (.int cnt), .val (.ref b58), .val (.int (1 : Int32)), .val (.int (1 : Int32)), .val (.int (0 : Int32)), .val (.int (0 : Int32)), .val (.int (2 : Int32)), .val (.int (1 : Int32)), .val (.int (2 : Int32)), .val (.int cnt)] []))
        refine go (fun tg kg => XS.iloadN X68.here hx rfl (hb hby at_83) rfl kg) ?_
        show G (T68.setTop (mkF m 84 #[.val (.int x0), .val (.int cnt), .val (.ref b58), .val (.int (1 : Int32)), .val (.int (1 : Int32)), .val (.int (0 : Int32)), .val (.int (0 : Int32)), .val (.int (2 : Int32)), .val (.int (1 : Int32)), .val (.int (2 : Int32)), .val (.int cnt)] [(.int (1 : Int32))]))
        refine go (fun tg kg => XS.iconst X68.here hx rfl (hb hby at_84) kg) ?_
        show G (T68.setTop (mkF m 85 #[.val (.int x0), .val (.int cnt), .val (.ref b58), .val (.int (1 : Int32)), .val (.int (1 : Int32)), .val (.int (0 : Int32)), .val (.int (0 : Int32)), .val (.int (2 : Int32)), .val (.int (1 : Int32)), .val (.int (2 : Int32)), .val (.int cnt)] [(.int (1 : Int32)), (.int (1 : Int32))]))
        refine go (fun tg kg => XS.iloadN X68.here hx rfl (hb hby at_85) rfl kg) ?_
        show G (T68.setTop (mkF m 86 #[.val (.int x0), .val (.int cnt), .val (.ref b58), .val (.int (1 : Int32)), .val (.int (1 : Int32)), .val (.int (0 : Int32)), .val (.int (0 : Int32)), .val (.int (2 : Int32)), .val (.int (1 : Int32)), .val (.int (2 : Int32)), .val (.int cnt)] [(.int cnt), (.int (1 : Int32)), (.int (1 : Int32))]))
        refine go (fun tg kg => XS.icmpNo X68.here hx rfl (hb hby at_86) rfl (flt (own_st hp2 1 (by decide))).2.2.1 kg) ?_
        show G (T68.setTop (mkF m 89 #[.val (.int x0), .val (.int cnt), .val (.ref b58), .val (.int (1 : Int32)), .val (.int (1 : Int32)), .val (.int (0 : Int32)), .val (.int (0 : Int32)), .val (.int (2 : Int32)), .val (.int (1 : Int32)), .val (.int (2 : Int32)), .val (.int cnt)] [(.int (1 : Int32))]))
        refine go (fun tg kg => XS.iconst X68.here hx rfl (hb hby at_89) kg) ?_
        show G (T68.setTop (mkF m 90 #[.val (.int x0), .val (.int cnt), .val (.ref b58), .val (.int (1 : Int32)), .val (.int (1 : Int32)), .val (.int (0 : Int32)), .val (.int (0 : Int32)), .val (.int (2 : Int32)), .val (.int (1 : Int32)), .val (.int (2 : Int32)), .val (.int cnt)] [(.int (1 : Int32)), (.int (1 : Int32))]))
        refine go (fun tg kg => XS.goto X68.here hx rfl (pc0 := 90) (pc' := 94) rfl (hb hby at_90) (by decide) (by decide) kg) ?_
        show G (T68.setTop (mkF m 94 #[.val (.int x0), .val (.int cnt), .val (.ref b58), .val (.int (1 : Int32)), .val (.int (1 : Int32)), .val (.int (0 : Int32)), .val (.int (0 : Int32)), .val (.int (2 : Int32)), .val (.int (1 : Int32)), .val (.int (2 : Int32)), .val (.int cnt)] [(.int (1 : Int32)), (.int (1 : Int32))]))
        refine go (fun tg kg => XS.icmpNo X68.here hx rfl (hb hby at_94) rfl (teq (by decide)).2 kg) ?_
        show G (T68.setTop (mkF m 97 #[.val (.int x0), .val (.int cnt), .val (.ref b58), .val (.int (1 : Int32)), .val (.int (1 : Int32)), .val (.int (0 : Int32)), .val (.int (0 : Int32)), .val (.int (2 : Int32)), .val (.int (1 : Int32)), .val (.int (2 : Int32)), .val (.int cnt)] []))
        refine go (fun tg kg => XS.iload X68.here hx rfl (hb hby at_97) rfl kg) ?_
        show G (T68.setTop (mkF m 99 #[.val (.int x0), .val (.int cnt), .val (.ref b58), .val (.int (1 : Int32)), .val (.int (1 : Int32)), .val (.int (0 : Int32)), .val (.int (0 : Int32)), .val (.int (2 : Int32)), .val (.int (1 : Int32)), .val (.int (2 : Int32)), .val (.int cnt)] [(.int (1 : Int32))]))
        refine go (fun tg kg => XS.iconst X68.here hx rfl (hb hby at_99) kg) ?_
        show G (T68.setTop (mkF m 100 #[.val (.int x0), .val (.int cnt), .val (.ref b58), .val (.int (1 : Int32)), .val (.int (1 : Int32)), .val (.int (0 : Int32)), .val (.int (0 : Int32)), .val (.int (2 : Int32)), .val (.int (1 : Int32)), .val (.int (2 : Int32)), .val (.int cnt)] [(.int (2 : Int32)), (.int (1 : Int32))]))
        refine go (fun tg kg => XS.iloadN X68.here hx rfl (hb hby at_100) rfl kg) ?_
        show G (T68.setTop (mkF m 101 #[.val (.int x0), .val (.int cnt), .val (.ref b58), .val (.int (1 : Int32)), .val (.int (1 : Int32)), .val (.int (0 : Int32)), .val (.int (0 : Int32)), .val (.int (2 : Int32)), .val (.int (1 : Int32)), .val (.int (2 : Int32)), .val (.int cnt)] [(.int cnt), (.int (2 : Int32)), (.int (1 : Int32))]))
        refine go (fun tg kg => XS.icmpNo X68.here hx rfl (hb hby at_101) rfl (flt (own_st hp2 2 (by decide))).2.2.1 kg) ?_
        show G (T68.setTop (mkF m 104 #[.val (.int x0), .val (.int cnt), .val (.ref b58), .val (.int (1 : Int32)), .val (.int (1 : Int32)), .val (.int (0 : Int32)), .val (.int (0 : Int32)), .val (.int (2 : Int32)), .val (.int (1 : Int32)), .val (.int (2 : Int32)), .val (.int cnt)] [(.int (1 : Int32))]))
        refine go (fun tg kg => XS.iconst X68.here hx rfl (hb hby at_104) kg) ?_
        show G (T68.setTop (mkF m 105 #[.val (.int x0), .val (.int cnt), .val (.ref b58), .val (.int (1 : Int32)), .val (.int (1 : Int32)), .val (.int (0 : Int32)), .val (.int (0 : Int32)), .val (.int (2 : Int32)), .val (.int (1 : Int32)), .val (.int (2 : Int32)), .val (.int cnt)] [(.int (1 : Int32)), (.int (1 : Int32))]))
        refine go (fun tg kg => XS.goto X68.here hx rfl (pc0 := 105) (pc' := 109) rfl (hb hby at_105) (by decide) (by decide) kg) ?_
        show G (T68.setTop (mkF m 109 #[.val (.int x0), .val (.int cnt), .val (.ref b58), .val (.int (1 : Int32)), .val (.int (1 : Int32)), .val (.int (0 : Int32)), .val (.int (0 : Int32)), .val (.int (2 : Int32)), .val (.int (1 : Int32)), .val (.int (2 : Int32)), .val (.int cnt)] [(.int (1 : Int32)), (.int (1 : Int32))]))
        refine go (fun tg kg => XS.icmpNo X68.here hx rfl (hb hby at_109) rfl (teq (by decide)).2 kg) ?_
        show G (T68.setTop (mkF m 112 #[.val (.int x0), .val (.int cnt), .val (.ref b58), .val (.int (1 : Int32)), .val (.int (1 : Int32)), .val (.int (0 : Int32)), .val (.int (0 : Int32)), .val (.int (2 : Int32)), .val (.int (1 : Int32)), .val (.int (2 : Int32)), .val (.int cnt)] []))
        refine go (fun tg kg => XS.iload X68.here hx rfl (hb hby at_112) rfl kg) ?_
        show G (T68.setTop (mkF m 114 #[.val (.int x0), .val (.int cnt), .val (.ref b58), .val (.int (1 : Int32)), .val (.int (1 : Int32)), .val (.int (0 : Int32)), .val (.int (0 : Int32)), .val (.int (2 : Int32)), .val (.int (1 : Int32)), .val (.int (2 : Int32)), .val (.int cnt)] [(.int (0 : Int32))]))
        refine go (fun tg kg => XS.iconst X68.here hx rfl (hb hby at_114) kg) ?_
        show G (T68.setTop (mkF m 115 #[.val (.int x0), .val (.int cnt), .val (.ref b58), .val (.int (1 : Int32)), .val (.int (1 : Int32)), .val (.int (0 : Int32)), .val (.int (0 : Int32)), .val (.int (2 : Int32)), .val (.int (1 : Int32)), .val (.int (2 : Int32)), .val (.int cnt)] [(.int (3 : Int32)), (.int (0 : Int32))]))
        refine go (fun tg kg => XS.iloadN X68.here hx rfl (hb hby at_115) rfl kg) ?_
        show G (T68.setTop (mkF m 116 #[.val (.int x0), .val (.int cnt), .val (.ref b58), .val (.int (1 : Int32)), .val (.int (1 : Int32)), .val (.int (0 : Int32)), .val (.int (0 : Int32)), .val (.int (2 : Int32)), .val (.int (1 : Int32)), .val (.int (2 : Int32)), .val (.int cnt)] [(.int cnt), (.int (3 : Int32)), (.int (0 : Int32))]))
        refine go (fun tg kg => XS.icmpYes X68.here hx rfl (pc0 := 116) (pc' := 123) rfl (hb hby at_116) rfl (tlt (own_wk hk2 3 (by decide))).2.2.1 (by decide) (by decide) kg) ?_
        show G (T68.setTop (mkF m 123 #[.val (.int x0), .val (.int cnt), .val (.ref b58), .val (.int (1 : Int32)), .val (.int (1 : Int32)), .val (.int (0 : Int32)), .val (.int (0 : Int32)), .val (.int (2 : Int32)), .val (.int (1 : Int32)), .val (.int (2 : Int32)), .val (.int cnt)] [(.int (0 : Int32))]))
        refine go (fun tg kg => XS.iconst X68.here hx rfl (hb hby at_123) kg) ?_
        show G (T68.setTop (mkF m 124 #[.val (.int x0), .val (.int cnt), .val (.ref b58), .val (.int (1 : Int32)), .val (.int (1 : Int32)), .val (.int (0 : Int32)), .val (.int (0 : Int32)), .val (.int (2 : Int32)), .val (.int (1 : Int32)), .val (.int (2 : Int32)), .val (.int cnt)] [(.int (0 : Int32)), (.int (0 : Int32))]))
        refine go (fun tg kg => XS.icmpNo X68.here hx rfl (hb hby at_124) rfl (teq (by decide)).2 kg) ?_
        show G (T68.setTop (mkF m 127 #[.val (.int x0), .val (.int cnt), .val (.ref b58), .val (.int (1 : Int32)), .val (.int (1 : Int32)), .val (.int (0 : Int32)), .val (.int (0 : Int32)), .val (.int (2 : Int32)), .val (.int (1 : Int32)), .val (.int (2 : Int32)), .val (.int cnt)] []))
        refine go (fun tg kg => XS.iload X68.here hx rfl (hb hby at_127) rfl kg) ?_
        show G (T68.setTop (mkF m 129 #[.val (.int x0), .val (.int cnt), .val (.ref b58), .val (.int (1 : Int32)), .val (.int (1 : Int32)), .val (.int (0 : Int32)), .val (.int (0 : Int32)), .val (.int (2 : Int32)), .val (.int (1 : Int32)), .val (.int (2 : Int32)), .val (.int cnt)] [(.int (0 : Int32))]))
        refine go (fun tg kg => XS.iconst X68.here hx rfl (hb hby at_129) kg) ?_
        show G (T68.setTop (mkF m 130 #[.val (.int x0), .val (.int cnt), .val (.ref b58), .val (.int (1 : Int32)), .val (.int (1 : Int32)), .val (.int (0 : Int32)), .val (.int (0 : Int32)), .val (.int (2 : Int32)), .val (.int (1 : Int32)), .val (.int (2 : Int32)), .val (.int cnt)] [(.int (4 : Int32)), (.int (0 : Int32))]))
        refine go (fun tg kg => XS.iloadN X68.here hx rfl (hb hby at_130) rfl kg) ?_
        show G (T68.setTop (mkF m 131 #[.val (.int x0), .val (.int cnt), .val (.ref b58), .val (.int (1 : Int32)), .val (.int (1 : Int32)), .val (.int (0 : Int32)), .val (.int (0 : Int32)), .val (.int (2 : Int32)), .val (.int (1 : Int32)), .val (.int (2 : Int32)), .val (.int cnt)] [(.int cnt), (.int (4 : Int32)), (.int (0 : Int32))]))
        refine go (fun tg kg => XS.icmpYes X68.here hx rfl (pc0 := 131) (pc' := 138) rfl (hb hby at_131) rfl (tlt (own_wk hk2 4 (by decide))).2.2.1 (by decide) (by decide) kg) ?_
        show G (T68.setTop (mkF m 138 #[.val (.int x0), .val (.int cnt), .val (.ref b58), .val (.int (1 : Int32)), .val (.int (1 : Int32)), .val (.int (0 : Int32)), .val (.int (0 : Int32)), .val (.int (2 : Int32)), .val (.int (1 : Int32)), .val (.int (2 : Int32)), .val (.int cnt)] [(.int (0 : Int32))]))
        refine go (fun tg kg => XS.iconst X68.here hx rfl (hb hby at_138) kg) ?_
        show G (T68.setTop (mkF m 139 #[.val (.int x0), .val (.int cnt), .val (.ref b58), .val (.int (1 : Int32)), .val (.int (1 : Int32)), .val (.int (0 : Int32)), .val (.int (0 : Int32)), .val (.int (2 : Int32)), .val (.int (1 : Int32)), .val (.int (2 : Int32)), .val (.int cnt)] [(.int (0 : Int32)), (.int (0 : Int32))]))
        refine go (fun tg kg => XS.icmpNo X68.here hx rfl (hb hby at_139) rfl (teq (by decide)).2 kg) ?_
        show G (T68.setTop (mkF m 142 #[.val (.int x0), .val (.int cnt), .val (.ref b58), .val (.int (1 : Int32)), .val (.int (1 : Int32)), .val (.int (0 : Int32)), .val (.int (0 : Int32)), .val (.int (2 : Int32)), .val (.int (1 : Int32)), .val (.int (2 : Int32)), .val (.int cnt)] []))
        refine go (fun tg kg => XS.iload X68.here hx rfl (hb hby at_142) rfl kg) ?_
        show G (T68.setTop (mkF m 144 #[.val (.int x0), .val (.int cnt), .val (.ref b58), .val (.int (1 : Int32)), .val (.int (1 : Int32)), .val (.int (0 : Int32)), .val (.int (0 : Int32)), .val (.int (2 : Int32)), .val (.int (1 : Int32)), .val (.int (2 : Int32)), .val (.int cnt)] [(.int (2 : Int32))]))
        refine go (fun tg kg => XS.iload X68.here hx rfl (hb hby at_144) rfl kg) ?_
        show G (T68.setTop (mkF m 146 #[.val (.int x0), .val (.int cnt), .val (.ref b58), .val (.int (1 : Int32)), .val (.int (1 : Int32)), .val (.int (0 : Int32)), .val (.int (0 : Int32)), .val (.int (2 : Int32)), .val (.int (1 : Int32)), .val (.int (2 : Int32)), .val (.int cnt)] [(.int cnt), (.int (2 : Int32))]))
        refine go (fun tg kg => XS.icmpNo X68.here hx rfl (hb hby at_146) rfl (teq (own_eq hk2 hp2 (by decide))).2 kg) ?_
        show G (T68.setTop (mkF m 149 #[.val (.int x0), .val (.int cnt), .val (.ref b58), .val (.int (1 : Int32)), .val (.int (1 : Int32)), .val (.int (0 : Int32)), .val (.int (0 : Int32)), .val (.int (2 : Int32)), .val (.int (1 : Int32)), .val (.int (2 : Int32)), .val (.int cnt)] []))
        refine go (fun tg kg => XS.iload X68.here hx rfl (hb hby at_149) rfl kg) ?_
        show G (T68.setTop (mkF m 151 #[.val (.int x0), .val (.int cnt), .val (.ref b58), .val (.int (1 : Int32)), .val (.int (1 : Int32)), .val (.int (0 : Int32)), .val (.int (0 : Int32)), .val (.int (2 : Int32)), .val (.int (1 : Int32)), .val (.int (2 : Int32)), .val (.int cnt)] [(.int (1 : Int32))]))
        refine go (fun tg kg => XS.ifNo X68.here hx rfl (hb hby at_151) rfl ((if0 _ _).trans (feq (by decide)).1) kg) ?_
        show G (T68.setTop (mkF m 154 #[.val (.int x0), .val (.int cnt), .val (.ref b58), .val (.int (1 : Int32)), .val (.int (1 : Int32)), .val (.int (0 : Int32)), .val (.int (0 : Int32)), .val (.int (2 : Int32)), .val (.int (1 : Int32)), .val (.int (2 : Int32)), .val (.int cnt)] []))
        refine go (fun tg kg => XS.iload X68.here hx rfl (hb hby at_154) rfl kg) ?_
        show G (T68.setTop (mkF m 156 #[.val (.int x0), .val (.int cnt), .val (.ref b58), .val (.int (1 : Int32)), .val (.int (1 : Int32)), .val (.int (0 : Int32)), .val (.int (0 : Int32)), .val (.int (2 : Int32)), .val (.int (1 : Int32)), .val (.int (2 : Int32)), .val (.int cnt)] [(.int (2 : Int32))]))
        refine go (fun tg kg => XS.iload X68.here hx rfl (hb hby at_156) rfl kg) ?_
        show G (T68.setTop (mkF m 158 #[.val (.int x0), .val (.int cnt), .val (.ref b58), .val (.int (1 : Int32)), .val (.int (1 : Int32)), .val (.int (0 : Int32)), .val (.int (0 : Int32)), .val (.int (2 : Int32)), .val (.int (1 : Int32)), .val (.int (2 : Int32)), .val (.int cnt)] [(.int cnt), (.int (2 : Int32))]))
        refine go (fun tg kg => XS.icmpNo X68.here hx rfl (hb hby at_158) rfl (teq (own_eq hk2 hp2 (by decide))).2 kg) ?_
        show G (T68.setTop (mkF m 161 #[.val (.int x0), .val (.int cnt), .val (.ref b58), .val (.int (1 : Int32)), .val (.int (1 : Int32)), .val (.int (0 : Int32)), .val (.int (0 : Int32)), .val (.int (2 : Int32)), .val (.int (1 : Int32)), .val (.int (2 : Int32)), .val (.int cnt)] []))
        refine go (fun tg kg => XS.iconst X68.here hx rfl (hb hby at_161) kg) ?_
        show G (T68.setTop (mkF m 162 #[.val (.int x0), .val (.int cnt), .val (.ref b58), .val (.int (1 : Int32)), .val (.int (1 : Int32)), .val (.int (0 : Int32)), .val (.int (0 : Int32)), .val (.int (2 : Int32)), .val (.int (1 : Int32)), .val (.int (2 : Int32)), .val (.int cnt)] [(.int (1 : Int32))]))
        refine go (fun tg kg => XS.goto X68.here hx rfl (pc0 := 162) (pc' := 166) rfl (hb hby at_162) (by decide) (by decide) kg) ?_
        show G (T68.setTop (mkF m 166 #[.val (.int x0), .val (.int cnt), .val (.ref b58), .val (.int (1 : Int32)), .val (.int (1 : Int32)), .val (.int (0 : Int32)), .val (.int (0 : Int32)), .val (.int (2 : Int32)), .val (.int (1 : Int32)), .val (.int (2 : Int32)), .val (.int cnt)] [(.int (1 : Int32))]))
        refine fin (some (.int (1 : Int32))) X68 (fun h => absurd h (by decide)) (fun fs hr => retN X68 hx (t := .boolean) hret (by simp) (hb hby at_166) hr) (by decide) (by decide) ?_
        rw [e68]
        exact ⟨rfl, N68⟩
      · have hp3 := hk2
        by_cases hk3 : cnt < (4 : Int32)
        · skip
          obtain ⟨T69, h69, X69, e69, E69, A69, D69, -, st69⟩ := newO X0 hx hZ hown (hw _ (List.mem_of_getElem? (i := 4) rfl)) (hw _ (List.mem_of_getElem? (i := 5) rfl)) (hw _ (List.mem_of_getElem? (i := 6) rfl)) e0 (g := (mkF m 22 #[.val (.int x0), .val (.int cnt), .unset, .unset, .unset, .unset, .unset, .unset, .unset, .unset, .unset] [])) rfl (hb hby at_22) (by decide) (by decide)
          obtain ⟨b69, g69⟩ : ∃ z, z = h0.size := ⟨_, rfl⟩
          rw [← g69] at A69 D69 st69
          refine go st69 ?_
          have ge_b69 : n0 ≤ b69 := Nat.le_trans Z0 (Nat.le_of_eq g69.symm)
          have Z69 := Nat.le_trans Z0 E69.1
          have F69_held : Fld Z h69 b69 "com/example/drumline/drumline/engine/Slots" "held" "Ljava/util/Deque;" .null := D69 (Or.inr (hw _ (List.mem_of_getElem? (i := 31) rfl))) (ty := (.object "java/util/Deque")) (by decide)
          have F69_count : Fld Z h69 b69 "com/example/drumline/drumline/engine/Slots" "count" "I" (.int (0 : Int32)) := D69 (Or.inr (hw _ (List.mem_of_getElem? (i := 33) rfl))) (ty := .int) (by decide)
          have F69_taken : Fld Z h69 b69 "com/example/drumline/drumline/engine/Slots" "taken" "I" (.int (0 : Int32)) := D69 (Or.inl (hw _ (List.mem_of_getElem? (i := 40) rfl))) (ty := .int) (by decide)
          show G (T69.setTop (mkF m 25 #[.val (.int x0), .val (.int cnt), .unset, .unset, .unset, .unset, .unset, .unset, .unset, .unset, .unset] [(.ref b69)]))
          refine go (fun tg kg => XS.dup X69.here hx rfl (hb hby at_25) rfl rfl kg) ?_
          show G (T69.setTop (mkF m 26 #[.val (.int x0), .val (.int cnt), .unset, .unset, .unset, .unset, .unset, .unset, .unset, .unset, .unset] [(.ref b69), (.ref b69)]))
          refine go (fun tg kg => XS.iloadN X69.here hx rfl (hb hby at_26) rfl kg) ?_
          show G (T69.setTop (mkF m 27 #[.val (.int x0), .val (.int cnt), .unset, .unset, .unset, .unset, .unset, .unset, .unset, .unset, .unset] [(.int cnt), (.ref b69), (.ref b69)]))
          obtain ⟨_, _, ⟨T70, L70, k70, n70⟩, -, X70, ⟨Lc70, hQ70, l70, y70, z70⟩, st70⟩ := X69.specialBack hx (y := (⟨"com/example/drumline/drumline/engine/Slots", "<init>", "(I)V"⟩ : MethodName)) rfl hown (mvT hZ (hw _ (List.mem_of_getElem? (i := 7) rfl))) (mvT hZ (hw _ (List.mem_of_getElem? (i := 8) rfl))) (mvT hZ (hw _ (List.mem_of_getElem? (i := 9) rfl))) (by decide) (backOf (W := 1) (rm2 l Z a0 hw [] b69 cnt h69 n0 Z69 A69 ge_b69 F69_held F69_count F69_taken) hZ (hw _ (List.mem_of_getElem? (i := 9) rfl)) (hw _ (List.mem_of_getElem? (i := 6) rfl)) (by decide) (by decide)) (g := (mkF m 27 #[.val (.int x0), .val (.int cnt), .unset, .unset, .unset, .unset, .unset, .unset, .unset, .unset, .unset] [(.int cnt), (.ref b69), (.ref b69)])) rfl (by rw [hml]; rfl) (Steps.refl _) (a := b69) (argsL := [(.int cnt)]) (rest := [(.ref b69)]) (lenOf pd__I_V rfl) rfl (by show 2 * 0 + _ ≤ _; exact Nat.le_of_eq rfl) (hb hby at_27) (fun _ _ => ⟨rfl, e69, (by decide : 1 + 2 ≤ _), (by decide : 3 + 20 ≤ _)⟩)
          dsimp only [Pt.U, Pt.locs, Pt.cells, Pt.slots] at X70 l70 y70 z70 st70 hQ70
          subst l70 y70 z70
          obtain ⟨rfl, Nq70, K70, Ge70, Gf70_count, Gf70_taken⟩ := hQ70
          have Z70 := Nat.le_trans Z69 K70.1
          have N70 := Fr.app N0 Nq70
          refine go (fun tg kg => st70.trans kg) ?_
          show G (T70.setTop (mkF m 30 #[.val (.int x0), .val (.int cnt), .unset, .unset, .unset, .unset, .unset, .unset, .unset, .unset, .unset] [(.ref b69)]))
          refine go (fun tg kg => XS.astoreN X70.here hx rfl (hb hby at_30) rfl rfl (l' := #[.val (.int x0), .val (.int cnt), .val (.ref b69), .unset, .unset, .unset, .unset, .unset, .unset, .unset, .unset]) rfl kg) ?_
          show G (T70.setTop (mkF m 31 #[.val (.int x0), .val (.int cnt), .val (.ref b69), .unset, .unset, .unset, .unset, .unset, .unset, .unset, .unset] []))
          refine go (fun tg kg => XS.aloadN X70.here hx rfl (hb hby at_31) rfl rfl kg) ?_
          show G (T70.setTop (mkF m 32 #[.val (.int x0), .val (.int cnt), .val (.ref b69), .unset, .unset, .unset, .unset, .unset, .unset, .unset, .unset] [(.ref b69)]))
          obtain ⟨cq71, kq71, q71a, q71b, q71c⟩ := isOf hZ rfl Ge70
          obtain ⟨_, _, ⟨T71, L71, k71, n71⟩, -, X71, ⟨Lc71, hQ71, l71, y71, z71⟩, st71⟩ := X70.virtualBack hx (y := (⟨"com/example/drumline/drumline/engine/Slots", "take", "()Z"⟩ : MethodName)) (z := (⟨"com/example/drumline/drumline/engine/Slots", "take", "()Z"⟩ : MethodName)) hown (mvT hZ (hw _ (List.mem_of_getElem? (i := 34) rfl))) (mvT hZ (hw _ (List.mem_of_getElem? (i := 35) rfl))) (notFace_of_selects (args := #[]) (mvT hZ (hw _ (List.mem_of_getElem? (i := 37) rfl)))) (mvT hZ (hw _ (List.mem_of_getElem? (i := 37) rfl))) (mvT hZ (hw _ (List.mem_of_getElem? (i := 36) rfl))) (by decide) (backOf (W := 0) (rm6_1 l Z a0 hw [] b69 cnt (0 : Int32) T70.heap n0 Z70 Ge70 ge_b69 Gf70_count Gf70_taken (own_up hp3 0 (by decide))) hZ (hw _ (List.mem_of_getElem? (i := 38) rfl)) (hw _ (List.mem_of_getElem? (i := 6) rfl)) (by decide) (by decide)) q71a q71c (g := (mkF m 32 #[.val (.int x0), .val (.int cnt), .val (.ref b69), .unset, .unset, .unset, .unset, .unset, .unset, .unset, .unset] [(.ref b69)])) rfl (by rw [hml]; rfl) (Steps.refl _) (argsL := []) (rest := []) (lenOf pd___Z rfl) rfl (by show 2 * 0 + _ ≤ _; exact Nat.le_of_eq rfl) (hb hby at_32) (fun _ _ => ⟨rfl, rfl, (by decide : 3 + 0 ≤ _), (by decide : 23 + 0 ≤ _)⟩)
          dsimp only [Pt.U, Pt.locs, Pt.cells, Pt.slots] at X71 l71 y71 z71 st71 hQ71
          subst l71 y71 z71
          obtain ⟨rfl, Nq71, K71, Ge71, Gf71_count, Gf71_taken⟩ := hQ71
          have Z71 := Nat.le_trans Z70 K71.1
          replace Gf71_taken : Fld Z T71.heap b69 "com/example/drumline/drumline/engine/Slots" "taken" "I" (.int (1 : Int32)) := Gf71_taken
          have N71 := Fr.app N70 Nq71
          refine go (fun tg kg => st71.trans kg) ?_
          show G (T71.setTop (mkF m 35 #[.val (.int x0), .val (.int cnt), .val (.ref b69), .unset, .unset, .unset, .unset, .unset, .unset, .unset, .unset] [(.int (1 : Int32))]))
          refine go (fun tg kg => XS.istoreN X71.here hx rfl (hb hby at_35) rfl (l' := #[.val (.int x0), .val (.int cnt), .val (.ref b69), .val (.int (1 : Int32)), .unset, .unset, .unset, .unset, .unset, .unset, .unset]) rfl kg) ?_
          show G (T71.setTop (mkF m 36 #[.val (.int x0), .val (.int cnt), .val (.ref b69), .val (.int (1 : Int32)), .unset, .unset, .unset, .unset, .unset, .unset, .unset] []))
          refine go (fun tg kg => XS.aloadN X71.here hx rfl (hb hby at_36) rfl rfl kg) ?_
          show G (T71.setTop (mkF m 37 #[.val (.int x0), .val (.int cnt), .val (.ref b69), .val (.int (1 : Int32)), .unset, .unset, .unset, .unset, .unset, .unset, .unset] [(.ref b69)]))
          obtain ⟨cq72, kq72, q72a, q72b, q72c⟩ := isOf hZ rfl Ge71
          obtain ⟨_, _, ⟨T72, L72, k72, n72⟩, -, X72, ⟨Lc72, hQ72, l72, y72, z72⟩, st72⟩ := X71.virtualBack hx (y := (⟨"com/example/drumline/drumline/engine/Slots", "take", "()Z"⟩ : MethodName)) (z := (⟨"com/example/drumline/drumline/engine/Slots", "take", "()Z"⟩ : MethodName)) hown (mvT hZ (hw _ (List.mem_of_getElem? (i := 34) rfl))) (mvT hZ (hw _ (List.mem_of_getElem? (i := 35) rfl))) (notFace_of_selects (args := #[]) (mvT hZ (hw _ (List.mem_of_getElem? (i := 37) rfl)))) (mvT hZ (hw _ (List.mem_of_getElem? (i := 37) rfl))) (mvT hZ (hw _ (List.mem_of_getElem? (i := 36) rfl))) (by decide) (backOf (W := 0) (rm6_1 l Z a0 hw [] b69 cnt (1 : Int32) T71.heap n0 Z71 Ge71 ge_b69 Gf71_count Gf71_taken (own_up hp3 1 (by decide))) hZ (hw _ (List.mem_of_getElem? (i := 38) rfl)) (hw _ (List.mem_of_getElem? (i := 6) rfl)) (by decide) (by decide)) q72a q72c (g := (mkF m 37 #[.val (.int x0), .val (.int cnt), .val (.ref b69), .val (.int (1 : Int32)), .unset, .unset, .unset, .unset, .unset, .unset, .unset] [(.ref b69)])) rfl (by rw [hml]; rfl) (Steps.refl _) (argsL := []) (rest := []) (lenOf pd___Z rfl) rfl (by show 2 * 0 + _ ≤ _; exact Nat.le_of_eq rfl) (hb hby at_37) (fun _ _ => ⟨rfl, rfl, (by decide : 3 + 0 ≤ _), (by decide : 23 + 0 ≤ _)⟩)
          dsimp only [Pt.U, Pt.locs, Pt.cells, Pt.slots] at X72 l72 y72 z72 st72 hQ72
          subst l72 y72 z72
          obtain ⟨rfl, Nq72, K72, Ge72, Gf72_count, Gf72_taken⟩ := hQ72
          have Z72 := Nat.le_trans Z71 K72.1
          replace Gf72_taken : Fld Z T72.heap b69 "com/example/drumline/drumline/engine/Slots" "taken" "I" (.int (2 : Int32)) := Gf72_taken
          have N72 := Fr.app N71 Nq72
          refine go (fun tg kg => st72.trans kg) ?_
          show G (T72.setTop (mkF m 40 #[.val (.int x0), .val (.int cnt), .val (.ref b69), .val (.int (1 : Int32)), .unset, .unset, .unset, .unset, .unset, .unset, .unset] [(.int (1 : Int32))]))
          refine go (fun tg kg => XS.istore X72.here hx rfl (hb hby at_40) rfl (l' := #[.val (.int x0), .val (.int cnt), .val (.ref b69), .val (.int (1 : Int32)), .val (.int (1 : Int32)), .unset, .unset, .unset, .unset, .unset, .unset]) rfl kg) ?_
          show G (T72.setTop (mkF m 42 #[.val (.int x0), .val (.int cnt), .val (.ref b69), .val (.int (1 : Int32)), .val (.int (1 : Int32)), .unset, .unset, .unset, .unset, .unset, .unset] []))
          refine go (fun tg kg => XS.aloadN X72.here hx rfl (hb hby at_42) rfl rfl kg) ?_
          show G (T72.setTop (mkF m 43 #[.val (.int x0), .val (.int cnt), .val (.ref b69), .val (.int (1 : Int32)), .val (.int (1 : Int32)), .unset, .unset, .unset, .unset, .unset, .unset] [(.ref b69)]))
          obtain ⟨cq73, kq73, q73a, q73b, q73c⟩ := isOf hZ rfl Ge72
          obtain ⟨_, _, ⟨T73, L73, k73, n73⟩, -, X73, ⟨Lc73, hQ73, l73, y73, z73⟩, st73⟩ := X72.virtualBack hx (y := (⟨"com/example/drumline/drumline/engine/Slots", "take", "()Z"⟩ : MethodName)) (z := (⟨"com/example/drumline/drumline/engine/Slots", "take", "()Z"⟩ : MethodName)) hown (mvT hZ (hw _ (List.mem_of_getElem? (i := 34) rfl))) (mvT hZ (hw _ (List.mem_of_getElem? (i := 35) rfl))) (notFace_of_selects (args := #[]) (mvT hZ (hw _ (List.mem_of_getElem? (i := 37) rfl)))) (mvT hZ (hw _ (List.mem_of_getElem? (i := 37) rfl))) (mvT hZ (hw _ (List.mem_of_getElem? (i := 36) rfl))) (by decide) (backOf (W := 0) (rm6_1 l Z a0 hw [] b69 cnt (2 : Int32) T72.heap n0 Z72 Ge72 ge_b69 Gf72_count Gf72_taken (own_up hp3 2 (by decide))) hZ (hw _ (List.mem_of_getElem? (i := 38) rfl)) (hw _ (List.mem_of_getElem? (i := 6) rfl)) (by decide) (by decide)) q73a q73c (g := (mkF m 43 #[.val (.int x0), .val (.int cnt), .val (.ref b69), .val (.int (1 : Int32)), .val (.int (1 : Int32)), .unset, .unset, .unset, .unset, .unset, .unset] [(.ref b69)])) rfl (by rw [hml]; rfl) (Steps.refl _) (argsL := []) (rest := []) (lenOf pd___Z rfl) rfl (by show 2 * 0 + _ ≤ _; exact Nat.le_of_eq rfl) (hb hby at_43) (fun _ _ => ⟨rfl, rfl, (by decide : 3 + 0 ≤ _), (by decide : 23 + 0 ≤ _)⟩)
          dsimp only [Pt.U, Pt.locs, Pt.cells, Pt.slots] at X73 l73 y73 z73 st73 hQ73
          subst l73 y73 z73
          obtain ⟨rfl, Nq73, K73, Ge73, Gf73_count, Gf73_taken⟩ := hQ73
          have Z73 := Nat.le_trans Z72 K73.1
          replace Gf73_taken : Fld Z T73.heap b69 "com/example/drumline/drumline/engine/Slots" "taken" "I" (.int (3 : Int32)) := Gf73_taken
          have N73 := Fr.app N72 Nq73
          refine go (fun tg kg => st73.trans kg) ?_
          show G (T73.setTop (mkF m 46 #[.val (.int x0), .val (.int cnt), .val (.ref b69), .val (.int (1 : Int32)), .val (.int (1 : Int32)), .unset, .unset, .unset, .unset, .unset, .unset] [(.int (1 : Int32))]))
          refine go (fun tg kg => XS.istore X73.here hx rfl (hb hby at_46) rfl (l' := #[.val (.int x0), .val (.int cnt), .val (.ref b69), .val (.int (1 : Int32)), .val (.int (1 : Int32)), .val (.int (1 : Int32)), .unset, .unset, .unset, .unset, .unset]) rfl kg) ?_
          show G (T73.setTop (mkF m 48 #[.val (.int x0), .val (.int cnt), .val (.ref b69), .val (.int (1 : Int32)), .val (.int (1 : Int32)), .val (.int (1 : Int32)), .unset, .unset, .unset, .unset, .unset] []))
          refine go (fun tg kg => XS.aloadN X73.here hx rfl (hb hby at_48) rfl rfl kg) ?_
          show G (T73.setTop (mkF m 49 #[.val (.int x0), .val (.int cnt), .val (.ref b69), .val (.int (1 : Int32)), .val (.int (1 : Int32)), .val (.int (1 : Int32)), .unset, .unset, .unset, .unset, .unset] [(.ref b69)]))
          obtain ⟨cq74, kq74, q74a, q74b, q74c⟩ := isOf hZ rfl Ge73
          obtain ⟨_, _, ⟨T74, L74, k74, n74⟩, -, X74, ⟨Lc74, hQ74, l74, y74, z74⟩, st74⟩ := X73.virtualBack hx (y := (⟨"com/example/drumline/drumline/engine/Slots", "take", "()Z"⟩ : MethodName)) (z := (⟨"com/example/drumline/drumline/engine/Slots", "take", "()Z"⟩ : MethodName)) hown (mvT hZ (hw _ (List.mem_of_getElem? (i := 34) rfl))) (mvT hZ (hw _ (List.mem_of_getElem? (i := 35) rfl))) (notFace_of_selects (args := #[]) (mvT hZ (hw _ (List.mem_of_getElem? (i := 37) rfl)))) (mvT hZ (hw _ (List.mem_of_getElem? (i := 37) rfl))) (mvT hZ (hw _ (List.mem_of_getElem? (i := 36) rfl))) (by decide) (backOf (W := 0) (rm6_0 l Z a0 hw [] b69 cnt (3 : Int32) T73.heap n0 Z73 Ge73 ge_b69 Gf73_count Gf73_taken (own_dn hk3 3 (by decide))) hZ (hw _ (List.mem_of_getElem? (i := 38) rfl)) (hw _ (List.mem_of_getElem? (i := 6) rfl)) (by decide) (by decide)) q74a q74c (g := (mkF m 49 #[.val (.int x0), .val (.int cnt), .val (.ref b69), .val (.int (1 : Int32)), .val (.int (1 : Int32)), .val (.int (1 : Int32)), .unset, .unset, .unset, .unset, .unset] [(.ref b69)])) rfl (by rw [hml]; rfl) (Steps.refl _) (argsL := []) (rest := []) (lenOf pd___Z rfl) rfl (by show 2 * 0 + _ ≤ _; exact Nat.le_of_eq rfl) (hb hby at_49) (fun _ _ => ⟨rfl, rfl, (by decide : 3 + 0 ≤ _), (by decide : 23 + 0 ≤ _)⟩)
          dsimp only [Pt.U, Pt.locs, Pt.cells, Pt.slots] at X74 l74 y74 z74 st74 hQ74
          subst l74 y74 z74
          obtain ⟨rfl, Nq74, K74, Ge74, Gf74_count, Gf74_taken⟩ := hQ74
          have Z74 := Nat.le_trans Z73 K74.1
          replace Gf74_taken : Fld Z T74.heap b69 "com/example/drumline/drumline/engine/Slots" "taken" "I" (.int (3 : Int32)) := Gf74_taken
          have N74 := Fr.app N73 Nq74
          refine go (fun tg kg => st74.trans kg) ?_
          show G (T74.setTop (mkF m 52 #[.val (.int x0), .val (.int cnt), .val (.ref b69), .val (.int (1 : Int32)), .val (.int (1 : Int32)), .val (.int (1 : Int32)), .unset, .unset, .unset, .unset, .unset] [(.int (0 : Int32))]))
          refine go (fun tg kg => XS.istore X74.here hx rfl (hb hby at_52) rfl (l' := #[.val (.int x0), .val (.int cnt), .val (.ref b69), .val (.int (1 : Int32)), .val (.int (1 : Int32)), .val (.int (1 : Int32)), .val (.int (0 : Int32)), .unset, .unset, .unset, .unset]) rfl kg) ?_
          show G (T74.setTop (mkF m 54 #[.val (.int x0), .val (.int cnt), .val (.ref b69), .val (.int (1 : Int32)), .val (.int (1 : Int32)), .val (.int (1 : Int32)), .val (.int (0 : Int32)), .unset, .unset, .unset, .unset] []))
          refine go (fun tg kg => XS.aloadN X74.here hx rfl (hb hby at_54) rfl rfl kg) ?_
          show G (T74.setTop (mkF m 55 #[.val (.int x0), .val (.int cnt), .val (.ref b69), .val (.int (1 : Int32)), .val (.int (1 : Int32)), .val (.int (1 : Int32)), .val (.int (0 : Int32)), .unset, .unset, .unset, .unset] [(.ref b69)]))
          obtain ⟨cq75, kq75, q75a, q75b, q75c⟩ := isOf hZ rfl Ge74
          obtain ⟨_, _, ⟨T75, L75, k75, n75⟩, -, X75, ⟨Lc75, hQ75, l75, y75, z75⟩, st75⟩ := X74.virtualBack hx (y := (⟨"com/example/drumline/drumline/engine/Slots", "taken", "()I"⟩ : MethodName)) (z := (⟨"com/example/drumline/drumline/engine/Slots", "taken", "()I"⟩ : MethodName)) hown (mvT hZ (hw _ (List.mem_of_getElem? (i := 41) rfl))) (mvT hZ (hw _ (List.mem_of_getElem? (i := 42) rfl))) (notFace_of_selects (args := #[]) (mvT hZ (hw _ (List.mem_of_getElem? (i := 44) rfl)))) (mvT hZ (hw _ (List.mem_of_getElem? (i := 44) rfl))) (mvT hZ (hw _ (List.mem_of_getElem? (i := 43) rfl))) (by decide) (backOf (W := 0) (rm7 l Z a0 hw [] b69 (3 : Int32) T74.heap n0 Z74 Gf74_taken) hZ (hw _ (List.mem_of_getElem? (i := 45) rfl)) (hw _ (List.mem_of_getElem? (i := 6) rfl)) (by decide) (by decide)) q75a q75c (g := (mkF m 55 #[.val (.int x0), .val (.int cnt), .val (.ref b69), .val (.int (1 : Int32)), .val (.int (1 : Int32)), .val (.int (1 : Int32)), .val (.int (0 : Int32)), .unset, .unset, .unset, .unset] [(.ref b69)])) rfl (by rw [hml]; rfl) (Steps.refl _) (argsL := []) (rest := []) (lenOf pd___I rfl) rfl (by show 2 * 0 + _ ≤ _; exact Nat.le_of_eq rfl) (hb hby at_55) (fun _ _ => ⟨rfl, rfl, (by decide : 3 + 0 ≤ _), (by decide : 23 + 0 ≤ _)⟩)
          dsimp only [Pt.U, Pt.locs, Pt.cells, Pt.slots] at X75 l75 y75 z75 st75 hQ75
          subst l75 y75 z75
          obtain ⟨rfl, Nq75, e75⟩ := hQ75
          have N75 := Fr.app N74 Nq75
          refine go (fun tg kg => st75.trans kg) ?_
          show G (T75.setTop (mkF m 58 #[.val (.int x0), .val (.int cnt), .val (.ref b69), .val (.int (1 : Int32)), .val (.int (1 : Int32)), .val (.int (1 : Int32)), .val (.int (0 : Int32)), .unset, .unset, .unset, .unset] [(.int (3 : Int32))]))
          refine go (fun tg kg => XS.istore X75.here hx rfl (hb hby at_58) rfl (l' := #[.val (.int x0), .val (.int cnt), .val (.ref b69), .val (.int (1 : Int32)), .val (.int (1 : Int32)), .val (.int (1 : Int32)), .val (.int (0 : Int32)), .val (.int (3 : Int32)), .unset, .unset, .unset]) rfl kg) ?_
          show G (T75.setTop (mkF m 60 #[.val (.int x0), .val (.int cnt), .val (.ref b69), .val (.int (1 : Int32)), .val (.int (1 : Int32)), .val (.int (1 : Int32)), .val (.int (0 : Int32)), .val (.int (3 : Int32)), .unset, .unset, .unset] []))
          refine go (fun tg kg => XS.aloadN X75.here hx rfl (hb hby at_60) rfl rfl kg) ?_
          show G (T75.setTop (mkF m 61 #[.val (.int x0), .val (.int cnt), .val (.ref b69), .val (.int (1 : Int32)), .val (.int (1 : Int32)), .val (.int (1 : Int32)), .val (.int (0 : Int32)), .val (.int (3 : Int32)), .unset, .unset, .unset] [(.ref b69)]))
          obtain ⟨cq76, kq76, q76a, q76b, q76c⟩ := isOf hZ e75 Ge74
          obtain ⟨_, _, ⟨T76, L76, k76, n76⟩, -, X76, ⟨Lc76, hQ76, l76, y76, z76⟩, st76⟩ := X75.virtualBack hx (y := (⟨"com/example/drumline/drumline/engine/Slots", "free", "()V"⟩ : MethodName)) (z := (⟨"com/example/drumline/drumline/engine/Slots", "free", "()V"⟩ : MethodName)) hown (mvT hZ (hw _ (List.mem_of_getElem? (i := 46) rfl))) (mvT hZ (hw _ (List.mem_of_getElem? (i := 47) rfl))) (notFace_of_selects (args := #[]) (mvT hZ (hw _ (List.mem_of_getElem? (i := 49) rfl)))) (mvT hZ (hw _ (List.mem_of_getElem? (i := 49) rfl))) (mvT hZ (hw _ (List.mem_of_getElem? (i := 48) rfl))) (by decide) (backOf (W := 0) (rm8 l Z a0 hw [] b69 cnt (3 : Int32) T74.heap n0 Z74 Ge74 ge_b69 Gf74_count Gf74_taken) hZ (hw _ (List.mem_of_getElem? (i := 50) rfl)) (hw _ (List.mem_of_getElem? (i := 6) rfl)) (by decide) (by decide)) q76a q76c (g := (mkF m 61 #[.val (.int x0), .val (.int cnt), .val (.ref b69), .val (.int (1 : Int32)), .val (.int (1 : Int32)), .val (.int (1 : Int32)), .val (.int (0 : Int32)), .val (.int (3 : Int32)), .unset, .unset, .unset] [(.ref b69)])) rfl (by rw [hml]; rfl) (Steps.refl _) (argsL := []) (rest := []) (lenOf pd___V rfl) rfl (by show 2 * 0 + _ ≤ _; exact Nat.le_of_eq rfl) (hb hby at_61) (fun _ _ => ⟨rfl, e75, (by decide : 3 + 0 ≤ _), (by decide : 23 + 0 ≤ _)⟩)
          dsimp only [Pt.U, Pt.locs, Pt.cells, Pt.slots] at X76 l76 y76 z76 st76 hQ76
          subst l76 y76 z76
          obtain ⟨rfl, Nq76, K76, Ge76, Gf76_count, Gf76_taken⟩ := hQ76
          have Z76 := Nat.le_trans Z74 K76.1
          replace Gf76_taken : Fld Z T76.heap b69 "com/example/drumline/drumline/engine/Slots" "taken" "I" (.int (2 : Int32)) := Gf76_taken
          have N76 := Fr.app N75 Nq76
          refine go (fun tg kg => st76.trans kg) ?_
          show G (T76.setTop (mkF m 64 #[.val (.int x0), .val (.int cnt), .val (.ref b69), .val (.int (1 : Int32)), .val (.int (1 : Int32)), .val (.int (1 : Int32)), .val (.int (0 : Int32)), .val (.int (3 : Int32)), .unset, .unset, .unset] []))
          refine go (fun tg kg => XS.aloadN X76.here hx rfl (hb hby at_64) rfl rfl kg) ?_
          show G (T76.setTop (mkF m 65 #[.val (.int x0), .val (.int cnt), .val (.ref b69), .val (.int (1 : Int32)), .val (.int (1 : Int32)), .val (.int (1 : Int32)), .val (.int (0 : Int32)), .val (.int (3 : Int32)), .unset, .unset, .unset] [(.ref b69)]))
          obtain ⟨cq77, kq77, q77a, q77b, q77c⟩ := isOf hZ rfl Ge76
          obtain ⟨_, _, ⟨T77, L77, k77, n77⟩, -, X77, ⟨Lc77, hQ77, l77, y77, z77⟩, st77⟩ := X76.virtualBack hx (y := (⟨"com/example/drumline/drumline/engine/Slots", "take", "()Z"⟩ : MethodName)) (z := (⟨"com/example/drumline/drumline/engine/Slots", "take", "()Z"⟩ : MethodName)) hown (mvT hZ (hw _ (List.mem_of_getElem? (i := 34) rfl))) (mvT hZ (hw _ (List.mem_of_getElem? (i := 35) rfl))) (notFace_of_selects (args := #[]) (mvT hZ (hw _ (List.mem_of_getElem? (i := 37) rfl)))) (mvT hZ (hw _ (List.mem_of_getElem? (i := 37) rfl))) (mvT hZ (hw _ (List.mem_of_getElem? (i := 36) rfl))) (by decide) (backOf (W := 0) (rm6_1 l Z a0 hw [] b69 cnt (2 : Int32) T76.heap n0 Z76 Ge76 ge_b69 Gf76_count Gf76_taken (own_up hp3 2 (by decide))) hZ (hw _ (List.mem_of_getElem? (i := 38) rfl)) (hw _ (List.mem_of_getElem? (i := 6) rfl)) (by decide) (by decide)) q77a q77c (g := (mkF m 65 #[.val (.int x0), .val (.int cnt), .val (.ref b69), .val (.int (1 : Int32)), .val (.int (1 : Int32)), .val (.int (1 : Int32)), .val (.int (0 : Int32)), .val (.int (3 : Int32)), .unset, .unset, .unset] [(.ref b69)])) rfl (by rw [hml]; rfl) (Steps.refl _) (argsL := []) (rest := []) (lenOf pd___Z rfl) rfl (by show 2 * 0 + _ ≤ _; exact Nat.le_of_eq rfl) (hb hby at_65) (fun _ _ => ⟨rfl, rfl, (by decide : 3 + 0 ≤ _), (by decide : 23 + 0 ≤ _)⟩)
          dsimp only [Pt.U, Pt.locs, Pt.cells, Pt.slots] at X77 l77 y77 z77 st77 hQ77
          subst l77 y77 z77
          obtain ⟨rfl, Nq77, K77, Ge77, Gf77_count, Gf77_taken⟩ := hQ77
          have Z77 := Nat.le_trans Z76 K77.1
          replace Gf77_taken : Fld Z T77.heap b69 "com/example/drumline/drumline/engine/Slots" "taken" "I" (.int (3 : Int32)) := Gf77_taken
          have N77 := Fr.app N76 Nq77
          refine go (fun tg kg => st77.trans kg) ?_
          show G (T77.setTop (mkF m 68 #[.val (.int x0), .val (.int cnt), .val (.ref b69), .val (.int (1 : Int32)), .val (.int (1 : Int32)), .val (.int (1 : Int32)), .val (.int (0 : Int32)), .val (.int (3 : Int32)), .unset, .unset, .unset] [(.int (1 : Int32))]))
          refine go (fun tg kg => XS.istore X77.here hx rfl (hb hby at_68) rfl (l' := #[.val (.int x0), .val (.int cnt), .val (.ref b69), .val (.int (1 : Int32)), .val (.int (1 : Int32)), .val (.int (1 : Int32)), .val (.int (0 : Int32)), .val (.int (3 : Int32)), .val (.int (1 : Int32)), .unset, .unset]) rfl kg) ?_
          show G (T77.setTop (mkF m 70 #[.val (.int x0), .val (.int cnt), .val (.ref b69), .val (.int (1 : Int32)), .val (.int (1 : Int32)), .val (.int (1 : Int32)), .val (.int (0 : Int32)), .val (.int (3 : Int32)), .val (.int (1 : Int32)), .unset, .unset] []))
          refine go (fun tg kg => XS.aloadN X77.here hx rfl (hb hby at_70) rfl rfl kg) ?_
          show G (T77.setTop (mkF m 71 #[.val (.int x0), .val (.int cnt), .val (.ref b69), .val (.int (1 : Int32)), .val (.int (1 : Int32)), .val (.int (1 : Int32)), .val (.int (0 : Int32)), .val (.int (3 : Int32)), .val (.int (1 : Int32)), .unset, .unset] [(.ref b69)]))
          obtain ⟨cq78, kq78, q78a, q78b, q78c⟩ := isOf hZ rfl Ge77
          obtain ⟨_, _, ⟨T78, L78, k78, n78⟩, -, X78, ⟨Lc78, hQ78, l78, y78, z78⟩, st78⟩ := X77.virtualBack hx (y := (⟨"com/example/drumline/drumline/engine/Slots", "taken", "()I"⟩ : MethodName)) (z := (⟨"com/example/drumline/drumline/engine/Slots", "taken", "()I"⟩ : MethodName)) hown (mvT hZ (hw _ (List.mem_of_getElem? (i := 41) rfl))) (mvT hZ (hw _ (List.mem_of_getElem? (i := 42) rfl))) (notFace_of_selects (args := #[]) (mvT hZ (hw _ (List.mem_of_getElem? (i := 44) rfl)))) (mvT hZ (hw _ (List.mem_of_getElem? (i := 44) rfl))) (mvT hZ (hw _ (List.mem_of_getElem? (i := 43) rfl))) (by decide) (backOf (W := 0) (rm7 l Z a0 hw [] b69 (3 : Int32) T77.heap n0 Z77 Gf77_taken) hZ (hw _ (List.mem_of_getElem? (i := 45) rfl)) (hw _ (List.mem_of_getElem? (i := 6) rfl)) (by decide) (by decide)) q78a q78c (g := (mkF m 71 #[.val (.int x0), .val (.int cnt), .val (.ref b69), .val (.int (1 : Int32)), .val (.int (1 : Int32)), .val (.int (1 : Int32)), .val (.int (0 : Int32)), .val (.int (3 : Int32)), .val (.int (1 : Int32)), .unset, .unset] [(.ref b69)])) rfl (by rw [hml]; rfl) (Steps.refl _) (argsL := []) (rest := []) (lenOf pd___I rfl) rfl (by show 2 * 0 + _ ≤ _; exact Nat.le_of_eq rfl) (hb hby at_71) (fun _ _ => ⟨rfl, rfl, (by decide : 3 + 0 ≤ _), (by decide : 23 + 0 ≤ _)⟩)
          dsimp only [Pt.U, Pt.locs, Pt.cells, Pt.slots] at X78 l78 y78 z78 st78 hQ78
          subst l78 y78 z78
          obtain ⟨rfl, Nq78, e78⟩ := hQ78
          have N78 := Fr.app N77 Nq78
          refine go (fun tg kg => st78.trans kg) ?_
          show G (T78.setTop (mkF m 74 #[.val (.int x0), .val (.int cnt), .val (.ref b69), .val (.int (1 : Int32)), .val (.int (1 : Int32)), .val (.int (1 : Int32)), .val (.int (0 : Int32)), .val (.int (3 : Int32)), .val (.int (1 : Int32)), .unset, .unset] [(.int (3 : Int32))]))
          refine go (fun tg kg => XS.istore X78.here hx rfl (hb hby at_74) rfl (l' := #[.val (.int x0), .val (.int cnt), .val (.ref b69), .val (.int (1 : Int32)), .val (.int (1 : Int32)), .val (.int (1 : Int32)), .val (.int (0 : Int32)), .val (.int (3 : Int32)), .val (.int (1 : Int32)), .val (.int (3 : Int32)), .unset]) rfl kg) ?_
          show G (T78.setTop (mkF m 76 #[.val (.int x0), .val (.int cnt), .val (.ref b69), .val (.int (1 : Int32)), .val (.int (1 : Int32)), .val (.int (1 : Int32)), .val (.int (0 : Int32)), .val (.int (3 : Int32)), .val (.int (1 : Int32)), .val (.int (3 : Int32)), .unset] []))
          refine go (fun tg kg => XS.iconst X78.here hx rfl (hb hby at_76) kg) ?_
          show G (T78.setTop (mkF m 77 #[.val (.int x0), .val (.int cnt), .val (.ref b69), .val (.int (1 : Int32)), .val (.int (1 : Int32)), .val (.int (1 : Int32)), .val (.int (0 : Int32)), .val (.int (3 : Int32)), .val (.int (1 : Int32)), .val (.int (3 : Int32)), .unset] [(.int (4 : Int32))]))
          refine go (fun tg kg => XS.iloadN X78.here hx rfl (hb hby at_77) rfl kg) ?_
          show G (T78.setTop (mkF m 78 #[.val (.int x0), .val (.int cnt), .val (.ref b69), .val (.int (1 : Int32)), .val (.int (1 : Int32)), .val (.int (1 : Int32)), .val (.int (0 : Int32)), .val (.int (3 : Int32)), .val (.int (1 : Int32)), .val (.int (3 : Int32)), .unset] [(.int cnt), (.int (4 : Int32))]))
          obtain ⟨_, _, ⟨T79, L79, k79, n79⟩, -, X79, ⟨Lc79, hQ79, l79, y79, z79⟩, st79⟩ := Jvm.LawKit.callS X78 hx (y := (⟨"java/lang/Math", "min", "(II)I"⟩ : MethodName)) hown (mvT hZ (hw _ (List.mem_of_getElem? (i := 51) rfl))) (mvT hZ (hw _ (List.mem_of_getElem? (i := 52) rfl))) (mvT hZ (hw _ (List.mem_of_getElem? (i := 2) rfl))) (mvT hZ (hw _ (List.mem_of_getElem? (i := 53) rfl))) (by decide) (backOf (W := 0) (rm9 l Z a0 hw [] (4 : Int32) cnt T77.heap n0 Z77 ) hZ (hw _ (List.mem_of_getElem? (i := 53) rfl)) (hw _ (List.mem_of_getElem? (i := 2) rfl)) (by decide) (by decide)) (g := (mkF m 78 #[.val (.int x0), .val (.int cnt), .val (.ref b69), .val (.int (1 : Int32)), .val (.int (1 : Int32)), .val (.int (1 : Int32)), .val (.int (0 : Int32)), .val (.int (3 : Int32)), .val (.int (1 : Int32)), .val (.int (3 : Int32)), .unset] [(.int cnt), (.int (4 : Int32))])) rfl (by rw [hml]; rfl) (argsL := [(.int (4 : Int32)), (.int cnt)]) (rest := []) (lenOf pd__II_I rfl) rfl (by show 2 * 0 + _ ≤ _; exact Nat.le_of_eq rfl) (hb hby at_78) (fun _ _ => ⟨rfl, e78, (by decide : 3 + 0 ≤ _), (by decide : 23 + 0 ≤ _)⟩)
          dsimp only [Pt.U, Pt.locs, Pt.cells, Pt.slots] at X79 l79 y79 z79 st79 hQ79
          subst l79 y79 z79
          obtain ⟨rfl, Nq79, e79⟩ := hQ79
          rw [own_min_p (own_wk hk3 4 (by decide))] at st79
          have N79 := Fr.app N78 Nq79
          refine go st79 ?_
          show G (T79.setTop (mkF m 81 #[.val (.int x0), .val (.int cnt), .val (.ref b69), .val (.int (1 : Int32)), .val (.int (1 : Int32)), .val (.int (1 : Int32)), .val (.int (0 : Int32)), .val (.int (3 : Int32)), .val (.int (1 : Int32)), .val (.int (3 : Int32)), .unset] [(.int cnt)]))
          refine go (fun tg kg => XS.istore X79.here hx rfl (hb hby at_81) rfl (l' := #[.val (.int x0), .val (.int cnt), .val (.ref b69), .val (.int (1 : Int32)), .val (.int (1 : Int32)), .val (.int (1 : Int32)), .val (.int (0 : Int32)), .val (.int (3 : Int32)), .val (.int (1 : Int32)), .val (.int (3 : Int32)), .val (.int cnt)]) rfl kg) ?_
          show G (T79.setTop (mkF m 83 #[.val (.int x0), .val (.int cnt), .val (.ref b69), .val (.int (1 : Int32)), .val (.int (1 : Int32)), .val (.int (1 : Int32)), .val (.int (0 : Int32)), .val (.int (3 : Int32)), .val (.int (1 : Int32)), .val (.int (3 : Int32)), .val (.int cnt)] []))
          refine go (fun tg kg => XS.iloadN X79.here hx rfl (hb hby at_83) rfl kg) ?_
          show G (T79.setTop (mkF m 84 #[.val (.int x0), .val (.int cnt), .val (.ref b69), .val (.int (1 : Int32)), .val (.int (1 : Int32)), .val (.int (1 : Int32)), .val (.int (0 : Int32)), .val (.int (3 : Int32)), .val (.int (1 : Int32)), .val (.int (3 : Int32)), .val (.int cnt)] [(.int (1 : Int32))]))
          refine go (fun tg kg => XS.iconst X79.here hx rfl (hb hby at_84) kg) ?_
          show G (T79.setTop (mkF m 85 #[.val (.int x0), .val (.int cnt), .val (.ref b69), .val (.int (1 : Int32)), .val (.int (1 : Int32)), .val (.int (1 : Int32)), .val (.int (0 : Int32)), .val (.int (3 : Int32)), .val (.int (1 : Int32)), .val (.int (3 : Int32)), .val (.int cnt)] [(.int (1 : Int32)), (.int (1 : Int32))]))
          refine go (fun tg kg => XS.iloadN X79.here hx rfl (hb hby at_85) rfl kg) ?_
          show G (T79.setTop (mkF m 86 #[.val (.int x0), .val (.int cnt), .val (.ref b69), .val (.int (1 : Int32)), .val (.int (1 : Int32)), .val (.int (1 : Int32)), .val (.int (0 : Int32)), .val (.int (3 : Int32)), .val (.int (1 : Int32)), .val (.int (3 : Int32)), .val (.int cnt)] [(.int cnt), (.int (1 : Int32)), (.int (1 : Int32))]))
          refine go (fun tg kg => XS.icmpNo X79.here hx rfl (hb hby at_86) rfl (flt (own_st hp3 1 (by decide))).2.2.1 kg) ?_
          show G (T79.setTop (mkF m 89 #[.val (.int x0), .val (.int cnt), .val (.ref b69), .val (.int (1 : Int32)), .val (.int (1 : Int32)), .val (.int (1 : Int32)), .val (.int (0 : Int32)), .val (.int (3 : Int32)), .val (.int (1 : Int32)), .val (.int (3 : Int32)), .val (.int cnt)] [(.int (1 : Int32))]))
          refine go (fun tg kg => XS.iconst X79.here hx rfl (hb hby at_89) kg) ?_
          show G (T79.setTop (mkF m 90 #[.val (.int x0), .val (.int cnt), .val (.ref b69), .val (.int (1 : Int32)), .val (.int (1 : Int32)), .val (.int (1 : Int32)), .val (.int (0 : Int32)), .val (.int (3 : Int32)), .val (.int (1 : Int32)), .val (.int (3 : Int32)), .val (.int cnt)] [(.int (1 : Int32)), (.int (1 : Int32))]))
          refine go (fun tg kg => XS.goto X79.here hx rfl (pc0 := 90) (pc' := 94) rfl (hb hby at_90) (by decide) (by decide) kg) ?_
          show G (T79.setTop (mkF m 94 #[.val (.int x0), .val (.int cnt), .val (.ref b69), .val (.int (1 : Int32)), .val (.int (1 : Int32)), .val (.int (1 : Int32)), .val (.int (0 : Int32)), .val (.int (3 : Int32)), .val (.int (1 : Int32)), .val (.int (3 : Int32)), .val (.int cnt)] [(.int (1 : Int32)), (.int (1 : Int32))]))
          refine go (fun tg kg => XS.icmpNo X79.here hx rfl (hb hby at_94) rfl (teq (by decide)).2 kg) ?_
          show G (T79.setTop (mkF m 97 #[.val (.int x0), .val (.int cnt), .val (.ref b69), .val (.int (1 : Int32)), .val (.int (1 : Int32)), .val (.int (1 : Int32)), .val (.int (0 : Int32)), .val (.int (3 : Int32)), .val (.int (1 : Int32)), .val (.int (3 : Int32)), .val (.int cnt)] []))
          refine go (fun tg kg => XS.iload X79.here hx rfl (hb hby at_97) rfl kg) ?_
          show G (T79.setTop (mkF m 99 #[.val (.int x0), .val (.int cnt), .val (.ref b69), .val (.int (1 : Int32)), .val (.int (1 : Int32)), .val (.int (1 : Int32)), .val (.int (0 : Int32)), .val (.int (3 : Int32)), .val (.int (1 : Int32)), .val (.int (3 : Int32)), .val (.int cnt)] [(.int (1 : Int32))]))
          refine go (fun tg kg => XS.iconst X79.here hx rfl (hb hby at_99) kg) ?_
          show G (T79.setTop (mkF m 100 #[.val (.int x0), .val (.int cnt), .val (.ref b69), .val (.int (1 : Int32)), .val (.int (1 : Int32)), .val (.int (1 : Int32)), .val (.int (0 : Int32)), .val (.int (3 : Int32)), .val (.int (1 : Int32)), .val (.int (3 : Int32)), .val (.int cnt)] [(.int (2 : Int32)), (.int (1 : Int32))]))
          refine go (fun tg kg => XS.iloadN X79.here hx rfl (hb hby at_100) rfl kg) ?_
          show G (T79.setTop (mkF m 101 #[.val (.int x0), .val (.int cnt), .val (.ref b69), .val (.int (1 : Int32)), .val (.int (1 : Int32)), .val (.int (1 : Int32)), .val (.int (0 : Int32)), .val (.int (3 : Int32)), .val (.int (1 : Int32)), .val (.int (3 : Int32)), .val (.int cnt)] [(.int cnt), (.int (2 : Int32)), (.int (1 : Int32))]))
          refine go (fun tg kg => XS.icmpNo X79.here hx rfl (hb hby at_101) rfl (flt (own_st hp3 2 (by decide))).2.2.1 kg) ?_
          show G (T79.setTop (mkF m 104 #[.val (.int x0), .val (.int cnt), .val (.ref b69), .val (.int (1 : Int32)), .val (.int (1 : Int32)), .val (.int (1 : Int32)), .val (.int (0 : Int32)), .val (.int (3 : Int32)), .val (.int (1 : Int32)), .val (.int (3 : Int32)), .val (.int cnt)] [(.int (1 : Int32))]))
          refine go (fun tg kg => XS.iconst X79.here hx rfl (hb hby at_104) kg) ?_
          show G (T79.setTop (mkF m 105 #[.val (.int x0), .val (.int cnt), .val (.ref b69), .val (.int (1 : Int32)), .val (.int (1 : Int32)), .val (.int (1 : Int32)), .val (.int (0 : Int32)), .val (.int (3 : Int32)), .val (.int (1 : Int32)), .val (.int (3 : Int32)), .val (.int cnt)] [(.int (1 : Int32)), (.int (1 : Int32))]))
          refine go (fun tg kg => XS.goto X79.here hx rfl (pc0 := 105) (pc' := 109) rfl (hb hby at_105) (by decide) (by decide) kg) ?_
          show G (T79.setTop (mkF m 109 #[.val (.int x0), .val (.int cnt), .val (.ref b69), .val (.int (1 : Int32)), .val (.int (1 : Int32)), .val (.int (1 : Int32)), .val (.int (0 : Int32)), .val (.int (3 : Int32)), .val (.int (1 : Int32)), .val (.int (3 : Int32)), .val (.int cnt)] [(.int (1 : Int32)), (.int (1 : Int32))]))
          refine go (fun tg kg => XS.icmpNo X79.here hx rfl (hb hby at_109) rfl (teq (by decide)).2 kg) ?_
          show G (T79.setTop (mkF m 112 #[.val (.int x0), .val (.int cnt), .val (.ref b69), .val (.int (1 : Int32)), .val (.int (1 : Int32)), .val (.int (1 : Int32)), .val (.int (0 : Int32)), .val (.int (3 : Int32)), .val (.int (1 : Int32)), .val (.int (3 : Int32)), .val (.int cnt)] []))
          refine go (fun tg kg => XS.iload X79.here hx rfl (hb hby at_112) rfl kg) ?_
          show G (T79.setTop (mkF m 114 #[.val (.int x0), .val (.int cnt), .val (.ref b69), .val (.int (1 : Int32)), .val (.int (1 : Int32)), .val (.int (1 : Int32)), .val (.int (0 : Int32)), .val (.int (3 : Int32)), .val (.int (1 : Int32)), .val (.int (3 : Int32)), .val (.int cnt)] [(.int (1 : Int32))]))
          refine go (fun tg kg => XS.iconst X79.here hx rfl (hb hby at_114) kg) ?_
          show G (T79.setTop (mkF m 115 #[.val (.int x0), .val (.int cnt), .val (.ref b69), .val (.int (1 : Int32)), .val (.int (1 : Int32)), .val (.int (1 : Int32)), .val (.int (0 : Int32)), .val (.int (3 : Int32)), .val (.int (1 : Int32)), .val (.int (3 : Int32)), .val (.int cnt)] [(.int (3 : Int32)), (.int (1 : Int32))]))
          refine go (fun tg kg => XS.iloadN X79.here hx rfl (hb hby at_115) rfl kg) ?_
          show G (T79.setTop (mkF m 116 #[.val (.int x0), .val (.int cnt), .val (.ref b69), .val (.int (1 : Int32)), .val (.int (1 : Int32)), .val (.int (1 : Int32)), .val (.int (0 : Int32)), .val (.int (3 : Int32)), .val (.int (1 : Int32)), .val (.int (3 : Int32)), .val (.int cnt)] [(.int cnt), (.int (3 : Int32)), (.int (1 : Int32))]))
          refine go (fun tg kg => XS.icmpNo X79.here hx rfl (hb hby at_116) rfl (flt (own_st hp3 3 (by decide))).2.2.1 kg) ?_
          show G (T79.setTop (mkF m 119 #[.val (.int x0), .val (.int cnt), .val (.ref b69), .val (.int (1 : Int32)), .val (.int (1 : Int32)), .val (.int (1 : Int32)), .val (.int (0 : Int32)), .val (.int (3 : Int32)), .val (.int (1 : Int32)), .val (.int (3 : Int32)), .val (.int cnt)] [(.int (1 : Int32))]))
          refine go (fun tg kg => XS.iconst X79.here hx rfl (hb hby at_119) kg) ?_
          show G (T79.setTop (mkF m 120 #[.val (.int x0), .val (.int cnt), .val (.ref b69), .val (.int (1 : Int32)), .val (.int (1 : Int32)), .val (.int (1 : Int32)), .val (.int (0 : Int32)), .val (.int (3 : Int32)), .val (.int (1 : Int32)), .val (.int (3 : Int32)), .val (.int cnt)] [(.int (1 : Int32)), (.int (1 : Int32))]))
          refine go (fun tg kg => XS.goto X79.here hx rfl (pc0 := 120) (pc' := 124) rfl (hb hby at_120) (by decide) (by decide) kg) ?_
          show G (T79.setTop (mkF m 124 #[.val (.int x0), .val (.int cnt), .val (.ref b69), .val (.int (1 : Int32)), .val (.int (1 : Int32)), .val (.int (1 : Int32)), .val (.int (0 : Int32)), .val (.int (3 : Int32)), .val (.int (1 : Int32)), .val (.int (3 : Int32)), .val (.int cnt)] [(.int (1 : Int32)), (.int (1 : Int32))]))
          refine go (fun tg kg => XS.icmpNo X79.here hx rfl (hb hby at_124) rfl (teq (by decide)).2 kg) ?_
          show G (T79.setTop (mkF m 127 #[.val (.int x0), .val (.int cnt), .val (.ref b69), .val (.int (1 : Int32)), .val (.int (1 : Int32)), .val (.int (1 : Int32)), .val (.int (0 : Int32)), .val (.int (3 : Int32)), .val (.int (1 : Int32)), .val (.int (3 : Int32)), .val (.int cnt)] []))
          refine go (fun tg kg => XS.iload X79.here hx rfl (hb hby at_127) rfl kg) ?_
          show G (T79.setTop (mkF m 129 #[.val (.int x0), .val (.int cnt), .val (.ref b69), .val (.int (1 : Int32)), .val (.int (1 : Int32)), .val (.int (1 : Int32)), .val (.int (0 : Int32)), .val (.int (3 : Int32)), .val (.int (1 : Int32)), .val (.int (3 : Int32)), .val (.int cnt)] [(.int (0 : Int32))]))
          refine go (fun tg kg => XS.iconst X79.here hx rfl (hb hby at_129) kg) ?_
          show G (T79.setTop (mkF m 130 #[.val (.int x0), .val (.int cnt), .val (.ref b69), .val (.int (1 : Int32)), .val (.int (1 : Int32)), .val (.int (1 : Int32)), .val (.int (0 : Int32)), .val (.int (3 : Int32)), .val (.int (1 : Int32)), .val (.int (3 : Int32)), .val (.int cnt)] [(.int (4 : Int32)), (.int (0 : Int32))]))
          refine go (fun tg kg => XS.iloadN X79.here hx rfl (hb hby at_130) rfl kg) ?_
          show G (T79.setTop (mkF m 131 #[.val (.int x0), .val (.int cnt), .val (.ref b69), .val (.int (1 : Int32)), .val (.int (1 : Int32)), .val (.int (1 : Int32)), .val (.int (0 : Int32)), .val (.int (3 : Int32)), .val (.int (1 : Int32)), .val (.int (3 : Int32)), .val (.int cnt)] [(.int cnt), (.int (4 : Int32)), (.int (0 : Int32))]))
          refine go (fun tg kg => XS.icmpYes X79.here hx rfl (pc0 := 131) (pc' := 138) rfl (hb hby at_131) rfl (tlt (own_wk hk3 4 (by decide))).2.2.1 (by decide) (by decide) kg) ?_
          show G (T79.setTop (mkF m 138 #[.val (.int x0), .val (.int cnt), .val (.ref b69), .val (.int (1 : Int32)), .val (.int (1 : Int32)), .val (.int (1 : Int32)), .val (.int (0 : Int32)), .val (.int (3 : Int32)), .val (.int (1 : Int32)), .val (.int (3 : Int32)), .val (.int cnt)] [(.int (0 : Int32))]))
          refine go (fun tg kg => XS.iconst X79.here hx rfl (hb hby at_138) kg) ?_
          show G (T79.setTop (mkF m 139 #[.val (.int x0), .val (.int cnt), .val (.ref b69), .val (.int (1 : Int32)), .val (.int (1 : Int32)), .val (.int (1 : Int32)), .val (.int (0 : Int32)), .val (.int (3 : Int32)), .val (.int (1 : Int32)), .val (.int (3 : Int32)), .val (.int cnt)] [(.int (0 : Int32)), (.int (0 : Int32))]))
          refine go (fun tg kg => XS.icmpNo X79.here hx rfl (hb hby at_139) rfl (teq (by decide)).2 kg) ?_
          show G (T79.setTop (mkF m 142 #[.val (.int x0), .val (.int cnt), .val (.ref b69), .val (.int (1 : Int32)), .val (.int (1 : Int32)), .val (.int (1 : Int32)), .val (.int (0 : Int32)), .val (.int (3 : Int32)), .val (.int (1 : Int32)), .val (.int (3 : Int32)), .val (.int cnt)] []))
          refine go (fun tg kg => XS.iload X79.here hx rfl (hb hby at_142) rfl kg) ?_
          show G (T79.setTop (mkF m 144 #[.val (.int x0), .val (.int cnt), .val (.ref b69), .val (.int (1 : Int32)), .val (.int (1 : Int32)), .val (.int (1 : Int32)), .val (.int (0 : Int32)), .val (.int (3 : Int32)), .val (.int (1 : Int32)), .val (.int (3 : Int32)), .val (.int cnt)] [(.int (3 : Int32))]))
          refine go (fun tg kg => XS.iload X79.here hx rfl (hb hby at_144) rfl kg) ?_
          show G (T79.setTop (mkF m 146 #[.val (.int x0), .val (.int cnt), .val (.ref b69), .val (.int (1 : Int32)), .val (.int (1 : Int32)), .val (.int (1 : Int32)), .val (.int (0 : Int32)), .val (.int (3 : Int32)), .val (.int (1 : Int32)), .val (.int (3 : Int32)), .val (.int cnt)] [(.int cnt), (.int (3 : Int32))]))
          refine go (fun tg kg => XS.icmpNo X79.here hx rfl (hb hby at_146) rfl (teq (own_eq hk3 hp3 (by decide))).2 kg) ?_
          show G (T79.setTop (mkF m 149 #[.val (.int x0), .val (.int cnt), .val (.ref b69), .val (.int (1 : Int32)), .val (.int (1 : Int32)), .val (.int (1 : Int32)), .val (.int (0 : Int32)), .val (.int (3 : Int32)), .val (.int (1 : Int32)), .val (.int (3 : Int32)), .val (.int cnt)] []))
          refine go (fun tg kg => XS.iload X79.here hx rfl (hb hby at_149) rfl kg) ?_
          show G (T79.setTop (mkF m 151 #[.val (.int x0), .val (.int cnt), .val (.ref b69), .val (.int (1 : Int32)), .val (.int (1 : Int32)), .val (.int (1 : Int32)), .val (.int (0 : Int32)), .val (.int (3 : Int32)), .val (.int (1 : Int32)), .val (.int (3 : Int32)), .val (.int cnt)] [(.int (1 : Int32))]))
          refine go (fun tg kg => XS.ifNo X79.here hx rfl (hb hby at_151) rfl ((if0 _ _).trans (feq (by decide)).1) kg) ?_
          show G (T79.setTop (mkF m 154 #[.val (.int x0), .val (.int cnt), .val (.ref b69), .val (.int (1 : Int32)), .val (.int (1 : Int32)), .val (.int (1 : Int32)), .val (.int (0 : Int32)), .val (.int (3 : Int32)), .val (.int (1 : Int32)), .val (.int (3 : Int32)), .val (.int cnt)] []))
          refine go (fun tg kg => XS.iload X79.here hx rfl (hb hby at_154) rfl kg) ?_
          show G (T79.setTop (mkF m 156 #[.val (.int x0), .val (.int cnt), .val (.ref b69), .val (.int (1 : Int32)), .val (.int (1 : Int32)), .val (.int (1 : Int32)), .val (.int (0 : Int32)), .val (.int (3 : Int32)), .val (.int (1 : Int32)), .val (.int (3 : Int32)), .val (.int cnt)] [(.int (3 : Int32))]))
          refine go (fun tg kg => XS.iload X79.here hx rfl (hb hby at_156) rfl kg) ?_
          show G (T79.setTop (mkF m 158 #[.val (.int x0), .val (.int cnt), .val (.ref b69), .val (.int (1 : Int32)), .val (.int (1 : Int32)), .val (.int (1 : Int32)), .val (.int (0 : Int32)), .val (.int (3 : Int32)), .val (.int (1 : Int32)), .val (.int (3 : Int32)), .val (.int cnt)] [(.int cnt), (.int (3 : Int32))]))
          refine go (fun tg kg => XS.icmpNo X79.here hx rfl (hb hby at_158) rfl (teq (own_eq hk3 hp3 (by decide))).2 kg) ?_
          show G (T79.setTop (mkF m 161 #[.val (.int x0), .val (.int cnt), .val (.ref b69), .val (.int (1 : Int32)), .val (.int (1 : Int32)), .val (.int (1 : Int32)), .val (.int (0 : Int32)), .val (.int (3 : Int32)), .val (.int (1 : Int32)), .val (.int (3 : Int32)), .val (.int cnt)] []))
          refine go (fun tg kg => XS.iconst X79.here hx rfl (hb hby at_161) kg) ?_
          show G (T79.setTop (mkF m 162 #[.val (.int x0), .val (.int cnt), .val (.ref b69), .val (.int (1 : Int32)), .val (.int (1 : Int32)), .val (.int (1 : Int32)), .val (.int (0 : Int32)), .val (.int (3 : Int32)), .val (.int (1 : Int32)), .val (.int (3 : Int32)), .val (.int cnt)] [(.int (1 : Int32))]))
          refine go (fun tg kg => XS.goto X79.here hx rfl (pc0 := 162) (pc' := 166) rfl (hb hby at_162) (by decide) (by decide) kg) ?_
          show G (T79.setTop (mkF m 166 #[.val (.int x0), .val (.int cnt), .val (.ref b69), .val (.int (1 : Int32)), .val (.int (1 : Int32)), .val (.int (1 : Int32)), .val (.int (0 : Int32)), .val (.int (3 : Int32)), .val (.int (1 : Int32)), .val (.int (3 : Int32)), .val (.int cnt)] [(.int (1 : Int32))]))
          refine fin (some (.int (1 : Int32))) X79 (fun h => absurd h (by decide)) (fun fs hr => retN X79 hx (t := .boolean) hret (by simp) (hb hby at_166) hr) (by decide) (by decide) ?_
          rw [e79]
          exact ⟨rfl, N79⟩
        · have hp4 := hk3
          obtain ⟨T80, h80, X80, e80, E80, A80, D80, -, st80⟩ := newO X0 hx hZ hown (hw _ (List.mem_of_getElem? (i := 4) rfl)) (hw _ (List.mem_of_getElem? (i := 5) rfl)) (hw _ (List.mem_of_getElem? (i := 6) rfl)) e0 (g := (mkF m 22 #[.val (.int x0), .val (.int cnt), .unset, .unset, .unset, .unset, .unset, .unset, .unset, .unset, .unset] [])) rfl (hb hby at_22) (by decide) (by decide)
          obtain ⟨b80, g80⟩ : ∃ z, z = h0.size := ⟨_, rfl⟩
          rw [← g80] at A80 D80 st80
          refine go st80 ?_
          have ge_b80 : n0 ≤ b80 := Nat.le_trans Z0 (Nat.le_of_eq g80.symm)
          have Z80 := Nat.le_trans Z0 E80.1
          have F80_held : Fld Z h80 b80 "com/example/drumline/drumline/engine/Slots" "held" "Ljava/util/Deque;" .null := D80 (Or.inr (hw _ (List.mem_of_getElem? (i := 31) rfl))) (ty := (.object "java/util/Deque")) (by decide)
          have F80_count : Fld Z h80 b80 "com/example/drumline/drumline/engine/Slots" "count" "I" (.int (0 : Int32)) := D80 (Or.inr (hw _ (List.mem_of_getElem? (i := 33) rfl))) (ty := .int) (by decide)
          have F80_taken : Fld Z h80 b80 "com/example/drumline/drumline/engine/Slots" "taken" "I" (.int (0 : Int32)) := D80 (Or.inl (hw _ (List.mem_of_getElem? (i := 40) rfl))) (ty := .int) (by decide)
          show G (T80.setTop (mkF m 25 #[.val (.int x0), .val (.int cnt), .unset, .unset, .unset, .unset, .unset, .unset, .unset, .unset, .unset] [(.ref b80)]))
          refine go (fun tg kg => XS.dup X80.here hx rfl (hb hby at_25) rfl rfl kg) ?_
          show G (T80.setTop (mkF m 26 #[.val (.int x0), .val (.int cnt), .unset, .unset, .unset, .unset, .unset, .unset, .unset, .unset, .unset] [(.ref b80), (.ref b80)]))
          refine go (fun tg kg => XS.iloadN X80.here hx rfl (hb hby at_26) rfl kg) ?_
          show G (T80.setTop (mkF m 27 #[.val (.int x0), .val (.int cnt), .unset, .unset, .unset, .unset, .unset, .unset, .unset, .unset, .unset] [(.int cnt), (.ref b80), (.ref b80)]))
          obtain ⟨_, _, ⟨T81, L81, k81, n81⟩, -, X81, ⟨Lc81, hQ81, l81, y81, z81⟩, st81⟩ := X80.specialBack hx (y := (⟨"com/example/drumline/drumline/engine/Slots", "<init>", "(I)V"⟩ : MethodName)) rfl hown (mvT hZ (hw _ (List.mem_of_getElem? (i := 7) rfl))) (mvT hZ (hw _ (List.mem_of_getElem? (i := 8) rfl))) (mvT hZ (hw _ (List.mem_of_getElem? (i := 9) rfl))) (by decide) (backOf (W := 1) (rm2 l Z a0 hw [] b80 cnt h80 n0 Z80 A80 ge_b80 F80_held F80_count F80_taken) hZ (hw _ (List.mem_of_getElem? (i := 9) rfl)) (hw _ (List.mem_of_getElem? (i := 6) rfl)) (by decide) (by decide)) (g := (mkF m 27 #[.val (.int x0), .val (.int cnt), .unset, .unset, .unset, .unset, .unset, .unset, .unset, .unset, .unset] [(.int cnt), (.ref b80), (.ref b80)])) rfl (by rw [hml]; rfl) (Steps.refl _) (a := b80) (argsL := [(.int cnt)]) (rest := [(.ref b80)]) (lenOf pd__I_V rfl) rfl (by show 2 * 0 + _ ≤ _; exact Nat.le_of_eq rfl) (hb hby at_27) (fun _ _ => ⟨rfl, e80, (by decide : 1 + 2 ≤ _), (by decide : 3 + 20 ≤ _)⟩)
          dsimp only [Pt.U, Pt.locs, Pt.cells, Pt.slots] at X81 l81 y81 z81 st81 hQ81
          subst l81 y81 z81
          obtain ⟨rfl, Nq81, K81, Ge81, Gf81_count, Gf81_taken⟩ := hQ81
          have Z81 := Nat.le_trans Z80 K81.1
          have N81 := Fr.app N0 Nq81
          refine go (fun tg kg => st81.trans kg) ?_
          show G (T81.setTop (mkF m 30 #[.val (.int x0), .val (.int cnt), .unset, .unset, .unset, .unset, .unset, .unset, .unset, .unset, .unset] [(.ref b80)]))
          refine go (fun tg kg => XS.astoreN X81.here hx rfl (hb hby at_30) rfl rfl (l' := #[.val (.int x0), .val (.int cnt), .val (.ref b80), .unset, .unset, .unset, .unset, .unset, .unset, .unset, .unset]) rfl kg) ?_
          show G (T81.setTop (mkF m 31 #[.val (.int x0), .val (.int cnt), .val (.ref b80), .unset, .unset, .unset, .unset, .unset, .unset, .unset, .unset] []))
          refine go (fun tg kg => XS.aloadN X81.here hx rfl (hb hby at_31) rfl rfl kg) ?_
          show G (T81.setTop (mkF m 32 #[.val (.int x0), .val (.int cnt), .val (.ref b80), .unset, .unset, .unset, .unset, .unset, .unset, .unset, .unset] [(.ref b80)]))
          obtain ⟨cq82, kq82, q82a, q82b, q82c⟩ := isOf hZ rfl Ge81
          obtain ⟨_, _, ⟨T82, L82, k82, n82⟩, -, X82, ⟨Lc82, hQ82, l82, y82, z82⟩, st82⟩ := X81.virtualBack hx (y := (⟨"com/example/drumline/drumline/engine/Slots", "take", "()Z"⟩ : MethodName)) (z := (⟨"com/example/drumline/drumline/engine/Slots", "take", "()Z"⟩ : MethodName)) hown (mvT hZ (hw _ (List.mem_of_getElem? (i := 34) rfl))) (mvT hZ (hw _ (List.mem_of_getElem? (i := 35) rfl))) (notFace_of_selects (args := #[]) (mvT hZ (hw _ (List.mem_of_getElem? (i := 37) rfl)))) (mvT hZ (hw _ (List.mem_of_getElem? (i := 37) rfl))) (mvT hZ (hw _ (List.mem_of_getElem? (i := 36) rfl))) (by decide) (backOf (W := 0) (rm6_1 l Z a0 hw [] b80 cnt (0 : Int32) T81.heap n0 Z81 Ge81 ge_b80 Gf81_count Gf81_taken (own_up hp4 0 (by decide))) hZ (hw _ (List.mem_of_getElem? (i := 38) rfl)) (hw _ (List.mem_of_getElem? (i := 6) rfl)) (by decide) (by decide)) q82a q82c (g := (mkF m 32 #[.val (.int x0), .val (.int cnt), .val (.ref b80), .unset, .unset, .unset, .unset, .unset, .unset, .unset, .unset] [(.ref b80)])) rfl (by rw [hml]; rfl) (Steps.refl _) (argsL := []) (rest := []) (lenOf pd___Z rfl) rfl (by show 2 * 0 + _ ≤ _; exact Nat.le_of_eq rfl) (hb hby at_32) (fun _ _ => ⟨rfl, rfl, (by decide : 3 + 0 ≤ _), (by decide : 23 + 0 ≤ _)⟩)
          dsimp only [Pt.U, Pt.locs, Pt.cells, Pt.slots] at X82 l82 y82 z82 st82 hQ82
          subst l82 y82 z82
          obtain ⟨rfl, Nq82, K82, Ge82, Gf82_count, Gf82_taken⟩ := hQ82
          have Z82 := Nat.le_trans Z81 K82.1
          replace Gf82_taken : Fld Z T82.heap b80 "com/example/drumline/drumline/engine/Slots" "taken" "I" (.int (1 : Int32)) := Gf82_taken
          have N82 := Fr.app N81 Nq82
          refine go (fun tg kg => st82.trans kg) ?_
          show G (T82.setTop (mkF m 35 #[.val (.int x0), .val (.int cnt), .val (.ref b80), .unset, .unset, .unset, .unset, .unset, .unset, .unset, .unset] [(.int (1 : Int32))]))
          refine go (fun tg kg => XS.istoreN X82.here hx rfl (hb hby at_35) rfl (l' := #[.val (.int x0), .val (.int cnt), .val (.ref b80), .val (.int (1 : Int32)), .unset, .unset, .unset, .unset, .unset, .unset, .unset]) rfl kg) ?_
          show G (T82.setTop (mkF m 36 #[.val (.int x0), .val (.int cnt), .val (.ref b80), .val (.int (1 : Int32)), .unset, .unset, .unset, .unset, .unset, .unset, .unset] []))
          refine go (fun tg kg => XS.aloadN X82.here hx rfl (hb hby at_36) rfl rfl kg) ?_
          show G (T82.setTop (mkF m 37 #[.val (.int x0), .val (.int cnt), .val (.ref b80), .val (.int (1 : Int32)), .unset, .unset, .unset, .unset, .unset, .unset, .unset] [(.ref b80)]))
          obtain ⟨cq83, kq83, q83a, q83b, q83c⟩ := isOf hZ rfl Ge82
          obtain ⟨_, _, ⟨T83, L83, k83, n83⟩, -, X83, ⟨Lc83, hQ83, l83, y83, z83⟩, st83⟩ := X82.virtualBack hx (y := (⟨"com/example/drumline/drumline/engine/Slots", "take", "()Z"⟩ : MethodName)) (z := (⟨"com/example/drumline/drumline/engine/Slots", "take", "()Z"⟩ : MethodName)) hown (mvT hZ (hw _ (List.mem_of_getElem? (i := 34) rfl))) (mvT hZ (hw _ (List.mem_of_getElem? (i := 35) rfl))) (notFace_of_selects (args := #[]) (mvT hZ (hw _ (List.mem_of_getElem? (i := 37) rfl)))) (mvT hZ (hw _ (List.mem_of_getElem? (i := 37) rfl))) (mvT hZ (hw _ (List.mem_of_getElem? (i := 36) rfl))) (by decide) (backOf (W := 0) (rm6_1 l Z a0 hw [] b80 cnt (1 : Int32) T82.heap n0 Z82 Ge82 ge_b80 Gf82_count Gf82_taken (own_up hp4 1 (by decide))) hZ (hw _ (List.mem_of_getElem? (i := 38) rfl)) (hw _ (List.mem_of_getElem? (i := 6) rfl)) (by decide) (by decide)) q83a q83c (g := (mkF m 37 #[.val (.int x0), .val (.int cnt), .val (.ref b80), .val (.int (1 : Int32)), .unset, .unset, .unset, .unset, .unset, .unset, .unset] [(.ref b80)])) rfl (by rw [hml]; rfl) (Steps.refl _) (argsL := []) (rest := []) (lenOf pd___Z rfl) rfl (by show 2 * 0 + _ ≤ _; exact Nat.le_of_eq rfl) (hb hby at_37) (fun _ _ => ⟨rfl, rfl, (by decide : 3 + 0 ≤ _), (by decide : 23 + 0 ≤ _)⟩)
          dsimp only [Pt.U, Pt.locs, Pt.cells, Pt.slots] at X83 l83 y83 z83 st83 hQ83
          subst l83 y83 z83
          obtain ⟨rfl, Nq83, K83, Ge83, Gf83_count, Gf83_taken⟩ := hQ83
          have Z83 := Nat.le_trans Z82 K83.1
          replace Gf83_taken : Fld Z T83.heap b80 "com/example/drumline/drumline/engine/Slots" "taken" "I" (.int (2 : Int32)) := Gf83_taken
          have N83 := Fr.app N82 Nq83
          refine go (fun tg kg => st83.trans kg) ?_
          show G (T83.setTop (mkF m 40 #[.val (.int x0), .val (.int cnt), .val (.ref b80), .val (.int (1 : Int32)), .unset, .unset, .unset, .unset, .unset, .unset, .unset] [(.int (1 : Int32))]))
          refine go (fun tg kg => XS.istore X83.here hx rfl (hb hby at_40) rfl (l' := #[.val (.int x0), .val (.int cnt), .val (.ref b80), .val (.int (1 : Int32)), .val (.int (1 : Int32)), .unset, .unset, .unset, .unset, .unset, .unset]) rfl kg) ?_
          show G (T83.setTop (mkF m 42 #[.val (.int x0), .val (.int cnt), .val (.ref b80), .val (.int (1 : Int32)), .val (.int (1 : Int32)), .unset, .unset, .unset, .unset, .unset, .unset] []))
          refine go (fun tg kg => XS.aloadN X83.here hx rfl (hb hby at_42) rfl rfl kg) ?_
          show G (T83.setTop (mkF m 43 #[.val (.int x0), .val (.int cnt), .val (.ref b80), .val (.int (1 : Int32)), .val (.int (1 : Int32)), .unset, .unset, .unset, .unset, .unset, .unset] [(.ref b80)]))
          obtain ⟨cq84, kq84, q84a, q84b, q84c⟩ := isOf hZ rfl Ge83
          obtain ⟨_, _, ⟨T84, L84, k84, n84⟩, -, X84, ⟨Lc84, hQ84, l84, y84, z84⟩, st84⟩ := X83.virtualBack hx (y := (⟨"com/example/drumline/drumline/engine/Slots", "take", "()Z"⟩ : MethodName)) (z := (⟨"com/example/drumline/drumline/engine/Slots", "take", "()Z"⟩ : MethodName)) hown (mvT hZ (hw _ (List.mem_of_getElem? (i := 34) rfl))) (mvT hZ (hw _ (List.mem_of_getElem? (i := 35) rfl))) (notFace_of_selects (args := #[]) (mvT hZ (hw _ (List.mem_of_getElem? (i := 37) rfl)))) (mvT hZ (hw _ (List.mem_of_getElem? (i := 37) rfl))) (mvT hZ (hw _ (List.mem_of_getElem? (i := 36) rfl))) (by decide) (backOf (W := 0) (rm6_1 l Z a0 hw [] b80 cnt (2 : Int32) T83.heap n0 Z83 Ge83 ge_b80 Gf83_count Gf83_taken (own_up hp4 2 (by decide))) hZ (hw _ (List.mem_of_getElem? (i := 38) rfl)) (hw _ (List.mem_of_getElem? (i := 6) rfl)) (by decide) (by decide)) q84a q84c (g := (mkF m 43 #[.val (.int x0), .val (.int cnt), .val (.ref b80), .val (.int (1 : Int32)), .val (.int (1 : Int32)), .unset, .unset, .unset, .unset, .unset, .unset] [(.ref b80)])) rfl (by rw [hml]; rfl) (Steps.refl _) (argsL := []) (rest := []) (lenOf pd___Z rfl) rfl (by show 2 * 0 + _ ≤ _; exact Nat.le_of_eq rfl) (hb hby at_43) (fun _ _ => ⟨rfl, rfl, (by decide : 3 + 0 ≤ _), (by decide : 23 + 0 ≤ _)⟩)
          dsimp only [Pt.U, Pt.locs, Pt.cells, Pt.slots] at X84 l84 y84 z84 st84 hQ84
          subst l84 y84 z84
          obtain ⟨rfl, Nq84, K84, Ge84, Gf84_count, Gf84_taken⟩ := hQ84
          have Z84 := Nat.le_trans Z83 K84.1
          replace Gf84_taken : Fld Z T84.heap b80 "com/example/drumline/drumline/engine/Slots" "taken" "I" (.int (3 : Int32)) := Gf84_taken
          have N84 := Fr.app N83 Nq84
          refine go (fun tg kg => st84.trans kg) ?_
          show G (T84.setTop (mkF m 46 #[.val (.int x0), .val (.int cnt), .val (.ref b80), .val (.int (1 : Int32)), .val (.int (1 : Int32)), .unset, .unset, .unset, .unset, .unset, .unset] [(.int (1 : Int32))]))
          refine go (fun tg kg => XS.istore X84.here hx rfl (hb hby at_46) rfl (l' := #[.val (.int x0), .val (.int cnt), .val (.ref b80), .val (.int (1 : Int32)), .val (.int (1 : Int32)), .val (.int (1 : Int32)), .unset, .unset, .unset, .unset, .unset]) rfl kg) ?_
          show G (T84.setTop (mkF m 48 #[.val (.int x0), .val (.int cnt), .val (.ref b80), .val (.int (1 : Int32)), .val (.int (1 : Int32)), .val (.int (1 : Int32)), .unset, .unset, .unset, .unset, .unset] []))
          refine go (fun tg kg => XS.aloadN X84.here hx rfl (hb hby at_48) rfl rfl kg) ?_
          show G (T84.setTop (mkF m 49 #[.val (.int x0), .val (.int cnt), .val (.ref b80), .val (.int (1 : Int32)), .val (.int (1 : Int32)), .val (.int (1 : Int32)), .unset, .unset, .unset, .unset, .unset] [(.ref b80)]))
          obtain ⟨cq85, kq85, q85a, q85b, q85c⟩ := isOf hZ rfl Ge84
          obtain ⟨_, _, ⟨T85, L85, k85, n85⟩, -, X85, ⟨Lc85, hQ85, l85, y85, z85⟩, st85⟩ := X84.virtualBack hx (y := (⟨"com/example/drumline/drumline/engine/Slots", "take", "()Z"⟩ : MethodName)) (z := (⟨"com/example/drumline/drumline/engine/Slots", "take", "()Z"⟩ : MethodName)) hown (mvT hZ (hw _ (List.mem_of_getElem? (i := 34) rfl))) (mvT hZ (hw _ (List.mem_of_getElem? (i := 35) rfl))) (notFace_of_selects (args := #[]) (mvT hZ (hw _ (List.mem_of_getElem? (i := 37) rfl)))) (mvT hZ (hw _ (List.mem_of_getElem? (i := 37) rfl))) (mvT hZ (hw _ (List.mem_of_getElem? (i := 36) rfl))) (by decide) (backOf (W := 0) (rm6_1 l Z a0 hw [] b80 cnt (3 : Int32) T84.heap n0 Z84 Ge84 ge_b80 Gf84_count Gf84_taken (own_up hp4 3 (by decide))) hZ (hw _ (List.mem_of_getElem? (i := 38) rfl)) (hw _ (List.mem_of_getElem? (i := 6) rfl)) (by decide) (by decide)) q85a q85c (g := (mkF m 49 #[.val (.int x0), .val (.int cnt), .val (.ref b80), .val (.int (1 : Int32)), .val (.int (1 : Int32)), .val (.int (1 : Int32)), .unset, .unset, .unset, .unset, .unset] [(.ref b80)])) rfl (by rw [hml]; rfl) (Steps.refl _) (argsL := []) (rest := []) (lenOf pd___Z rfl) rfl (by show 2 * 0 + _ ≤ _; exact Nat.le_of_eq rfl) (hb hby at_49) (fun _ _ => ⟨rfl, rfl, (by decide : 3 + 0 ≤ _), (by decide : 23 + 0 ≤ _)⟩)
          dsimp only [Pt.U, Pt.locs, Pt.cells, Pt.slots] at X85 l85 y85 z85 st85 hQ85
          subst l85 y85 z85
          obtain ⟨rfl, Nq85, K85, Ge85, Gf85_count, Gf85_taken⟩ := hQ85
          have Z85 := Nat.le_trans Z84 K85.1
          replace Gf85_taken : Fld Z T85.heap b80 "com/example/drumline/drumline/engine/Slots" "taken" "I" (.int (4 : Int32)) := Gf85_taken
          have N85 := Fr.app N84 Nq85
          refine go (fun tg kg => st85.trans kg) ?_
          show G (T85.setTop (mkF m 52 #[.val (.int x0), .val (.int cnt), .val (.ref b80), .val (.int (1 : Int32)), .val (.int (1 : Int32)), .val (.int (1 : Int32)), .unset, .unset, .unset, .unset, .unset] [(.int (1 : Int32))]))
          refine go (fun tg kg => XS.istore X85.here hx rfl (hb hby at_52) rfl (l' := #[.val (.int x0), .val (.int cnt), .val (.ref b80), .val (.int (1 : Int32)), .val (.int (1 : Int32)), .val (.int (1 : Int32)), .val (.int (1 : Int32)), .unset, .unset, .unset, .unset]) rfl kg) ?_
          show G (T85.setTop (mkF m 54 #[.val (.int x0), .val (.int cnt), .val (.ref b80), .val (.int (1 : Int32)), .val (.int (1 : Int32)), .val (.int (1 : Int32)), .val (.int (1 : Int32)), .unset, .unset, .unset, .unset] []))
          refine go (fun tg kg => XS.aloadN X85.here hx rfl (hb hby at_54) rfl rfl kg) ?_
          show G (T85.setTop (mkF m 55 #[.val (.int x0), .val (.int cnt), .val (.ref b80), .val (.int (1 : Int32)), .val (.int (1 : Int32)), .val (.int (1 : Int32)), .val (.int (1 : Int32)), .unset, .unset, .unset, .unset] [(.ref b80)]))
          obtain ⟨cq86, kq86, q86a, q86b, q86c⟩ := isOf hZ rfl Ge85
          obtain ⟨_, _, ⟨T86, L86, k86, n86⟩, -, X86, ⟨Lc86, hQ86, l86, y86, z86⟩, st86⟩ := X85.virtualBack hx (y := (⟨"com/example/drumline/drumline/engine/Slots", "taken", "()I"⟩ : MethodName)) (z := (⟨"com/example/drumline/drumline/engine/Slots", "taken", "()I"⟩ : MethodName)) hown (mvT hZ (hw _ (List.mem_of_getElem? (i := 41) rfl))) (mvT hZ (hw _ (List.mem_of_getElem? (i := 42) rfl))) (notFace_of_selects (args := #[]) (mvT hZ (hw _ (List.mem_of_getElem? (i := 44) rfl)))) (mvT hZ (hw _ (List.mem_of_getElem? (i := 44) rfl))) (mvT hZ (hw _ (List.mem_of_getElem? (i := 43) rfl))) (by decide) (backOf (W := 0) (rm7 l Z a0 hw [] b80 (4 : Int32) T85.heap n0 Z85 Gf85_taken) hZ (hw _ (List.mem_of_getElem? (i := 45) rfl)) (hw _ (List.mem_of_getElem? (i := 6) rfl)) (by decide) (by decide)) q86a q86c (g := (mkF m 55 #[.val (.int x0), .val (.int cnt), .val (.ref b80), .val (.int (1 : Int32)), .val (.int (1 : Int32)), .val (.int (1 : Int32)), .val (.int (1 : Int32)), .unset, .unset, .unset, .unset] [(.ref b80)])) rfl (by rw [hml]; rfl) (Steps.refl _) (argsL := []) (rest := []) (lenOf pd___I rfl) rfl (by show 2 * 0 + _ ≤ _; exact Nat.le_of_eq rfl) (hb hby at_55) (fun _ _ => ⟨rfl, rfl, (by decide : 3 + 0 ≤ _), (by decide : 23 + 0 ≤ _)⟩)
          dsimp only [Pt.U, Pt.locs, Pt.cells, Pt.slots] at X86 l86 y86 z86 st86 hQ86
          subst l86 y86 z86
          obtain ⟨rfl, Nq86, e86⟩ := hQ86
          have N86 := Fr.app N85 Nq86
          refine go (fun tg kg => st86.trans kg) ?_
          show G (T86.setTop (mkF m 58 #[.val (.int x0), .val (.int cnt), .val (.ref b80), .val (.int (1 : Int32)), .val (.int (1 : Int32)), .val (.int (1 : Int32)), .val (.int (1 : Int32)), .unset, .unset, .unset, .unset] [(.int (4 : Int32))]))
          refine go (fun tg kg => XS.istore X86.here hx rfl (hb hby at_58) rfl (l' := #[.val (.int x0), .val (.int cnt), .val (.ref b80), .val (.int (1 : Int32)), .val (.int (1 : Int32)), .val (.int (1 : Int32)), .val (.int (1 : Int32)), .val (.int (4 : Int32)), .unset, .unset, .unset]) rfl kg) ?_
          show G (T86.setTop (mkF m 60 #[.val (.int x0), .val (.int cnt), .val (.ref b80), .val (.int (1 : Int32)), .val (.int (1 : Int32)), .val (.int (1 : Int32)), .val (.int (1 : Int32)), .val (.int (4 : Int32)), .unset, .unset, .unset] []))
          refine go (fun tg kg => XS.aloadN X86.here hx rfl (hb hby at_60) rfl rfl kg) ?_
          show G (T86.setTop (mkF m 61 #[.val (.int x0), .val (.int cnt), .val (.ref b80), .val (.int (1 : Int32)), .val (.int (1 : Int32)), .val (.int (1 : Int32)), .val (.int (1 : Int32)), .val (.int (4 : Int32)), .unset, .unset, .unset] [(.ref b80)]))
          obtain ⟨cq87, kq87, q87a, q87b, q87c⟩ := isOf hZ e86 Ge85
          obtain ⟨_, _, ⟨T87, L87, k87, n87⟩, -, X87, ⟨Lc87, hQ87, l87, y87, z87⟩, st87⟩ := X86.virtualBack hx (y := (⟨"com/example/drumline/drumline/engine/Slots", "free", "()V"⟩ : MethodName)) (z := (⟨"com/example/drumline/drumline/engine/Slots", "free", "()V"⟩ : MethodName)) hown (mvT hZ (hw _ (List.mem_of_getElem? (i := 46) rfl))) (mvT hZ (hw _ (List.mem_of_getElem? (i := 47) rfl))) (notFace_of_selects (args := #[]) (mvT hZ (hw _ (List.mem_of_getElem? (i := 49) rfl)))) (mvT hZ (hw _ (List.mem_of_getElem? (i := 49) rfl))) (mvT hZ (hw _ (List.mem_of_getElem? (i := 48) rfl))) (by decide) (backOf (W := 0) (rm8 l Z a0 hw [] b80 cnt (4 : Int32) T85.heap n0 Z85 Ge85 ge_b80 Gf85_count Gf85_taken) hZ (hw _ (List.mem_of_getElem? (i := 50) rfl)) (hw _ (List.mem_of_getElem? (i := 6) rfl)) (by decide) (by decide)) q87a q87c (g := (mkF m 61 #[.val (.int x0), .val (.int cnt), .val (.ref b80), .val (.int (1 : Int32)), .val (.int (1 : Int32)), .val (.int (1 : Int32)), .val (.int (1 : Int32)), .val (.int (4 : Int32)), .unset, .unset, .unset] [(.ref b80)])) rfl (by rw [hml]; rfl) (Steps.refl _) (argsL := []) (rest := []) (lenOf pd___V rfl) rfl (by show 2 * 0 + _ ≤ _; exact Nat.le_of_eq rfl) (hb hby at_61) (fun _ _ => ⟨rfl, e86, (by decide : 3 + 0 ≤ _), (by decide : 23 + 0 ≤ _)⟩)
          dsimp only [Pt.U, Pt.locs, Pt.cells, Pt.slots] at X87 l87 y87 z87 st87 hQ87
          subst l87 y87 z87
          obtain ⟨rfl, Nq87, K87, Ge87, Gf87_count, Gf87_taken⟩ := hQ87
          have Z87 := Nat.le_trans Z85 K87.1
          replace Gf87_taken : Fld Z T87.heap b80 "com/example/drumline/drumline/engine/Slots" "taken" "I" (.int (3 : Int32)) := Gf87_taken
          have N87 := Fr.app N86 Nq87
          refine go (fun tg kg => st87.trans kg) ?_
          show G (T87.setTop (mkF m 64 #[.val (.int x0), .val (.int cnt), .val (.ref b80), .val (.int (1 : Int32)), .val (.int (1 : Int32)), .val (.int (1 : Int32)), .val (.int (1 : Int32)), .val (.int (4 : Int32)), .unset, .unset, .unset] []))
          refine go (fun tg kg => XS.aloadN X87.here hx rfl (hb hby at_64) rfl rfl kg) ?_
          show G (T87.setTop (mkF m 65 #[.val (.int x0), .val (.int cnt), .val (.ref b80), .val (.int (1 : Int32)), .val (.int (1 : Int32)), .val (.int (1 : Int32)), .val (.int (1 : Int32)), .val (.int (4 : Int32)), .unset, .unset, .unset] [(.ref b80)]))
          obtain ⟨cq88, kq88, q88a, q88b, q88c⟩ := isOf hZ rfl Ge87
          obtain ⟨_, _, ⟨T88, L88, k88, n88⟩, -, X88, ⟨Lc88, hQ88, l88, y88, z88⟩, st88⟩ := X87.virtualBack hx (y := (⟨"com/example/drumline/drumline/engine/Slots", "take", "()Z"⟩ : MethodName)) (z := (⟨"com/example/drumline/drumline/engine/Slots", "take", "()Z"⟩ : MethodName)) hown (mvT hZ (hw _ (List.mem_of_getElem? (i := 34) rfl))) (mvT hZ (hw _ (List.mem_of_getElem? (i := 35) rfl))) (notFace_of_selects (args := #[]) (mvT hZ (hw _ (List.mem_of_getElem? (i := 37) rfl)))) (mvT hZ (hw _ (List.mem_of_getElem? (i := 37) rfl))) (mvT hZ (hw _ (List.mem_of_getElem? (i := 36) rfl))) (by decide) (backOf (W := 0) (rm6_1 l Z a0 hw [] b80 cnt (3 : Int32) T87.heap n0 Z87 Ge87 ge_b80 Gf87_count Gf87_taken (own_up hp4 3 (by decide))) hZ (hw _ (List.mem_of_getElem? (i := 38) rfl)) (hw _ (List.mem_of_getElem? (i := 6) rfl)) (by decide) (by decide)) q88a q88c (g := (mkF m 65 #[.val (.int x0), .val (.int cnt), .val (.ref b80), .val (.int (1 : Int32)), .val (.int (1 : Int32)), .val (.int (1 : Int32)), .val (.int (1 : Int32)), .val (.int (4 : Int32)), .unset, .unset, .unset] [(.ref b80)])) rfl (by rw [hml]; rfl) (Steps.refl _) (argsL := []) (rest := []) (lenOf pd___Z rfl) rfl (by show 2 * 0 + _ ≤ _; exact Nat.le_of_eq rfl) (hb hby at_65) (fun _ _ => ⟨rfl, rfl, (by decide : 3 + 0 ≤ _), (by decide : 23 + 0 ≤ _)⟩)
          dsimp only [Pt.U, Pt.locs, Pt.cells, Pt.slots] at X88 l88 y88 z88 st88 hQ88
          subst l88 y88 z88
          obtain ⟨rfl, Nq88, K88, Ge88, Gf88_count, Gf88_taken⟩ := hQ88
          have Z88 := Nat.le_trans Z87 K88.1
          replace Gf88_taken : Fld Z T88.heap b80 "com/example/drumline/drumline/engine/Slots" "taken" "I" (.int (4 : Int32)) := Gf88_taken
          have N88 := Fr.app N87 Nq88
          refine go (fun tg kg => st88.trans kg) ?_
          show G (T88.setTop (mkF m 68 #[.val (.int x0), .val (.int cnt), .val (.ref b80), .val (.int (1 : Int32)), .val (.int (1 : Int32)), .val (.int (1 : Int32)), .val (.int (1 : Int32)), .val (.int (4 : Int32)), .unset, .unset, .unset] [(.int (1 : Int32))]))
          refine go (fun tg kg => XS.istore X88.here hx rfl (hb hby at_68) rfl (l' := #[.val (.int x0), .val (.int cnt), .val (.ref b80), .val (.int (1 : Int32)), .val (.int (1 : Int32)), .val (.int (1 : Int32)), .val (.int (1 : Int32)), .val (.int (4 : Int32)), .val (.int (1 : Int32)), .unset, .unset]) rfl kg) ?_
          show G (T88.setTop (mkF m 70 #[.val (.int x0), .val (.int cnt), .val (.ref b80), .val (.int (1 : Int32)), .val (.int (1 : Int32)), .val (.int (1 : Int32)), .val (.int (1 : Int32)), .val (.int (4 : Int32)), .val (.int (1 : Int32)), .unset, .unset] []))
          refine go (fun tg kg => XS.aloadN X88.here hx rfl (hb hby at_70) rfl rfl kg) ?_
          show G (T88.setTop (mkF m 71 #[.val (.int x0), .val (.int cnt), .val (.ref b80), .val (.int (1 : Int32)), .val (.int (1 : Int32)), .val (.int (1 : Int32)), .val (.int (1 : Int32)), .val (.int (4 : Int32)), .val (.int (1 : Int32)), .unset, .unset] [(.ref b80)]))
          obtain ⟨cq89, kq89, q89a, q89b, q89c⟩ := isOf hZ rfl Ge88
          obtain ⟨_, _, ⟨T89, L89, k89, n89⟩, -, X89, ⟨Lc89, hQ89, l89, y89, z89⟩, st89⟩ := X88.virtualBack hx (y := (⟨"com/example/drumline/drumline/engine/Slots", "taken", "()I"⟩ : MethodName)) (z := (⟨"com/example/drumline/drumline/engine/Slots", "taken", "()I"⟩ : MethodName)) hown (mvT hZ (hw _ (List.mem_of_getElem? (i := 41) rfl))) (mvT hZ (hw _ (List.mem_of_getElem? (i := 42) rfl))) (notFace_of_selects (args := #[]) (mvT hZ (hw _ (List.mem_of_getElem? (i := 44) rfl)))) (mvT hZ (hw _ (List.mem_of_getElem? (i := 44) rfl))) (mvT hZ (hw _ (List.mem_of_getElem? (i := 43) rfl))) (by decide) (backOf (W := 0) (rm7 l Z a0 hw [] b80 (4 : Int32) T88.heap n0 Z88 Gf88_taken) hZ (hw _ (List.mem_of_getElem? (i := 45) rfl)) (hw _ (List.mem_of_getElem? (i := 6) rfl)) (by decide) (by decide)) q89a q89c (g := (mkF m 71 #[.val (.int x0), .val (.int cnt), .val (.ref b80), .val (.int (1 : Int32)), .val (.int (1 : Int32)), .val (.int (1 : Int32)), .val (.int (1 : Int32)), .val (.int (4 : Int32)), .val (.int (1 : Int32)), .unset, .unset] [(.ref b80)])) rfl (by rw [hml]; rfl) (Steps.refl _) (argsL := []) (rest := []) (lenOf pd___I rfl) rfl (by show 2 * 0 + _ ≤ _; exact Nat.le_of_eq rfl) (hb hby at_71) (fun _ _ => ⟨rfl, rfl, (by decide : 3 + 0 ≤ _), (by decide : 23 + 0 ≤ _)⟩)
          dsimp only [Pt.U, Pt.locs, Pt.cells, Pt.slots] at X89 l89 y89 z89 st89 hQ89
          subst l89 y89 z89
          obtain ⟨rfl, Nq89, e89⟩ := hQ89
          have N89 := Fr.app N88 Nq89
          refine go (fun tg kg => st89.trans kg) ?_
          show G (T89.setTop (mkF m 74 #[.val (.int x0), .val (.int cnt), .val (.ref b80), .val (.int (1 : Int32)), .val (.int (1 : Int32)), .val (.int (1 : Int32)), .val (.int (1 : Int32)), .val (.int (4 : Int32)), .val (.int (1 : Int32)), .unset, .unset] [(.int (4 : Int32))]))
          refine go (fun tg kg => XS.istore X89.here hx rfl (hb hby at_74) rfl (l' := #[.val (.int x0), .val (.int cnt), .val (.ref b80), .val (.int (1 : Int32)), .val (.int (1 : Int32)), .val (.int (1 : Int32)), .val (.int (1 : Int32)), .val (.int (4 : Int32)), .val (.int (1 : Int32)), .val (.int (4 : Int32)), .unset]) rfl kg) ?_
          show G (T89.setTop (mkF m 76 #[.val (.int x0), .val (.int cnt), .val (.ref b80), .val (.int (1 : Int32)), .val (.int (1 : Int32)), .val (.int (1 : Int32)), .val (.int (1 : Int32)), .val (.int (4 : Int32)), .val (.int (1 : Int32)), .val (.int (4 : Int32)), .unset] []))
          refine go (fun tg kg => XS.iconst X89.here hx rfl (hb hby at_76) kg) ?_
          show G (T89.setTop (mkF m 77 #[.val (.int x0), .val (.int cnt), .val (.ref b80), .val (.int (1 : Int32)), .val (.int (1 : Int32)), .val (.int (1 : Int32)), .val (.int (1 : Int32)), .val (.int (4 : Int32)), .val (.int (1 : Int32)), .val (.int (4 : Int32)), .unset] [(.int (4 : Int32))]))
          refine go (fun tg kg => XS.iloadN X89.here hx rfl (hb hby at_77) rfl kg) ?_
          show G (T89.setTop (mkF m 78 #[.val (.int x0), .val (.int cnt), .val (.ref b80), .val (.int (1 : Int32)), .val (.int (1 : Int32)), .val (.int (1 : Int32)), .val (.int (1 : Int32)), .val (.int (4 : Int32)), .val (.int (1 : Int32)), .val (.int (4 : Int32)), .unset] [(.int cnt), (.int (4 : Int32))]))
          obtain ⟨_, _, ⟨T90, L90, k90, n90⟩, -, X90, ⟨Lc90, hQ90, l90, y90, z90⟩, st90⟩ := Jvm.LawKit.callS X89 hx (y := (⟨"java/lang/Math", "min", "(II)I"⟩ : MethodName)) hown (mvT hZ (hw _ (List.mem_of_getElem? (i := 51) rfl))) (mvT hZ (hw _ (List.mem_of_getElem? (i := 52) rfl))) (mvT hZ (hw _ (List.mem_of_getElem? (i := 2) rfl))) (mvT hZ (hw _ (List.mem_of_getElem? (i := 53) rfl))) (by decide) (backOf (W := 0) (rm9 l Z a0 hw [] (4 : Int32) cnt T88.heap n0 Z88 ) hZ (hw _ (List.mem_of_getElem? (i := 53) rfl)) (hw _ (List.mem_of_getElem? (i := 2) rfl)) (by decide) (by decide)) (g := (mkF m 78 #[.val (.int x0), .val (.int cnt), .val (.ref b80), .val (.int (1 : Int32)), .val (.int (1 : Int32)), .val (.int (1 : Int32)), .val (.int (1 : Int32)), .val (.int (4 : Int32)), .val (.int (1 : Int32)), .val (.int (4 : Int32)), .unset] [(.int cnt), (.int (4 : Int32))])) rfl (by rw [hml]; rfl) (argsL := [(.int (4 : Int32)), (.int cnt)]) (rest := []) (lenOf pd__II_I rfl) rfl (by show 2 * 0 + _ ≤ _; exact Nat.le_of_eq rfl) (hb hby at_78) (fun _ _ => ⟨rfl, e89, (by decide : 3 + 0 ≤ _), (by decide : 23 + 0 ≤ _)⟩)
          dsimp only [Pt.U, Pt.locs, Pt.cells, Pt.slots] at X90 l90 y90 z90 st90 hQ90
          subst l90 y90 z90
          obtain ⟨rfl, Nq90, e90⟩ := hQ90
          rw [own_min_n (own_st hp4 4 (by decide))] at st90
          have N90 := Fr.app N89 Nq90
          refine go st90 ?_
          show G (T90.setTop (mkF m 81 #[.val (.int x0), .val (.int cnt), .val (.ref b80), .val (.int (1 : Int32)), .val (.int (1 : Int32)), .val (.int (1 : Int32)), .val (.int (1 : Int32)), .val (.int (4 : Int32)), .val (.int (1 : Int32)), .val (.int (4 : Int32)), .unset] [(.int (4 : Int32))]))
          refine go (fun tg kg => XS.istore X90.here hx rfl (hb hby at_81) rfl (l' := #[.val (.int x0), .val (.int cnt), .val (.ref b80), .val (.int (1 : Int32)), .val (.int (1 : Int32)), .val (.int (1 : Int32)), .val (.int (1 : Int32)), .val (.int (4 : Int32)), .val (.int (1 : Int32)), .val (.int (4 : Int32)), .val (.int (4 : Int32))]) rfl kg) ?_
          show G (T90.setTop (mkF m 83 #[.val (.int x0), .val (.int cnt), .val (.ref b80), .val (.int (1 : Int32)), .val (.int (1 : Int32)), .val (.int (1 : Int32)), .val (.int (1 : Int32)), .val (.int (4 : Int32)), .val (.int (1 : Int32)), .val (.int (4 : Int32)), .val (.int (4 : Int32))] []))
          refine go (fun tg kg => XS.iloadN X90.here hx rfl (hb hby at_83) rfl kg) ?_
          show G (T90.setTop (mkF m 84 #[.val (.int x0), .val (.int cnt), .val (.ref b80), .val (.int (1 : Int32)), .val (.int (1 : Int32)), .val (.int (1 : Int32)), .val (.int (1 : Int32)), .val (.int (4 : Int32)), .val (.int (1 : Int32)), .val (.int (4 : Int32)), .val (.int (4 : Int32))] [(.int (1 : Int32))]))
          refine go (fun tg kg => XS.iconst X90.here hx rfl (hb hby at_84) kg) ?_
          show G (T90.setTop (mkF m 85 #[.val (.int x0), .val (.int cnt), .val (.ref b80), .val (.int (1 : Int32)), .val (.int (1 : Int32)), .val (.int (1 : Int32)), .val (.int (1 : Int32)), .val (.int (4 : Int32)), .val (.int (1 : Int32)), .val (.int (4 : Int32)), .val (.int (4 : Int32))] [(.int (1 : Int32)), (.int (1 : Int32))]))
          refine go (fun tg kg => XS.iloadN X90.here hx rfl (hb hby at_85) rfl kg) ?_
          show G (T90.setTop (mkF m 86 #[.val (.int x0), .val (.int cnt), .val (.ref b80), .val (.int (1 : Int32)), .val (.int (1 : Int32)), .val (.int (1 : Int32)), .val (.int (1 : Int32)), .val (.int (4 : Int32)), .val (.int (1 : Int32)), .val (.int (4 : Int32)), .val (.int (4 : Int32))] [(.int cnt), (.int (1 : Int32)), (.int (1 : Int32))]))
          refine go (fun tg kg => XS.icmpNo X90.here hx rfl (hb hby at_86) rfl (flt (own_st hp4 1 (by decide))).2.2.1 kg) ?_
          show G (T90.setTop (mkF m 89 #[.val (.int x0), .val (.int cnt), .val (.ref b80), .val (.int (1 : Int32)), .val (.int (1 : Int32)), .val (.int (1 : Int32)), .val (.int (1 : Int32)), .val (.int (4 : Int32)), .val (.int (1 : Int32)), .val (.int (4 : Int32)), .val (.int (4 : Int32))] [(.int (1 : Int32))]))
          refine go (fun tg kg => XS.iconst X90.here hx rfl (hb hby at_89) kg) ?_
          show G (T90.setTop (mkF m 90 #[.val (.int x0), .val (.int cnt), .val (.ref b80), .val (.int (1 : Int32)), .val (.int (1 : Int32)), .val (.int (1 : Int32)), .val (.int (1 : Int32)), .val (.int (4 : Int32)), .val (.int (1 : Int32)), .val (.int (4 : Int32)), .val (.int (4 : Int32))] [(.int (1 : Int32)), (.int (1 : Int32))]))
          refine go (fun tg kg => XS.goto X90.here hx rfl (pc0 := 90) (pc' := 94) rfl (hb hby at_90) (by decide) (by decide) kg) ?_
          show G (T90.setTop (mkF m 94 #[.val (.int x0), .val (.int cnt), .val (.ref b80), .val (.int (1 : Int32)), .val (.int (1 : Int32)), .val (.int (1 : Int32)), .val (.int (1 : Int32)), .val (.int (4 : Int32)), .val (.int (1 : Int32)), .val (.int (4 : Int32)), .val (.int (4 : Int32))] [(.int (1 : Int32)), (.int (1 : Int32))]))
          refine go (fun tg kg => XS.icmpNo X90.here hx rfl (hb hby at_94) rfl (teq (by decide)).2 kg) ?_
          show G (T90.setTop (mkF m 97 #[.val (.int x0), .val (.int cnt), .val (.ref b80), .val (.int (1 : Int32)), .val (.int (1 : Int32)), .val (.int (1 : Int32)), .val (.int (1 : Int32)), .val (.int (4 : Int32)), .val (.int (1 : Int32)), .val (.int (4 : Int32)), .val (.int (4 : Int32))] []))
          refine go (fun tg kg => XS.iload X90.here hx rfl (hb hby at_97) rfl kg) ?_
          show G (T90.setTop (mkF m 99 #[.val (.int x0), .val (.int cnt), .val (.ref b80), .val (.int (1 : Int32)), .val (.int (1 : Int32)), .val (.int (1 : Int32)), .val (.int (1 : Int32)), .val (.int (4 : Int32)), .val (.int (1 : Int32)), .val (.int (4 : Int32)), .val (.int (4 : Int32))] [(.int (1 : Int32))]))
          refine go (fun tg kg => XS.iconst X90.here hx rfl (hb hby at_99) kg) ?_
          show G (T90.setTop (mkF m 100 #[.val (.int x0), .val (.int cnt), .val (.ref b80), .val (.int (1 : Int32)), .val (.int (1 : Int32)), .val (.int (1 : Int32)), .val (.int (1 : Int32)), .val (.int (4 : Int32)), .val (.int (1 : Int32)), .val (.int (4 : Int32)), .val (.int (4 : Int32))] [(.int (2 : Int32)), (.int (1 : Int32))]))
          refine go (fun tg kg => XS.iloadN X90.here hx rfl (hb hby at_100) rfl kg) ?_
          show G (T90.setTop (mkF m 101 #[.val (.int x0), .val (.int cnt), .val (.ref b80), .val (.int (1 : Int32)), .val (.int (1 : Int32)), .val (.int (1 : Int32)), .val (.int (1 : Int32)), .val (.int (4 : Int32)), .val (.int (1 : Int32)), .val (.int (4 : Int32)), .val (.int (4 : Int32))] [(.int cnt), (.int (2 : Int32)), (.int (1 : Int32))]))
          refine go (fun tg kg => XS.icmpNo X90.here hx rfl (hb hby at_101) rfl (flt (own_st hp4 2 (by decide))).2.2.1 kg) ?_
          show G (T90.setTop (mkF m 104 #[.val (.int x0), .val (.int cnt), .val (.ref b80), .val (.int (1 : Int32)), .val (.int (1 : Int32)), .val (.int (1 : Int32)), .val (.int (1 : Int32)), .val (.int (4 : Int32)), .val (.int (1 : Int32)), .val (.int (4 : Int32)), .val (.int (4 : Int32))] [(.int (1 : Int32))]))
          refine go (fun tg kg => XS.iconst X90.here hx rfl (hb hby at_104) kg) ?_
          show G (T90.setTop (mkF m 105 #[.val (.int x0), .val (.int cnt), .val (.ref b80), .val (.int (1 : Int32)), .val (.int (1 : Int32)), .val (.int (1 : Int32)), .val (.int (1 : Int32)), .val (.int (4 : Int32)), .val (.int (1 : Int32)), .val (.int (4 : Int32)), .val (.int (4 : Int32))] [(.int (1 : Int32)), (.int (1 : Int32))]))
          refine go (fun tg kg => XS.goto X90.here hx rfl (pc0 := 105) (pc' := 109) rfl (hb hby at_105) (by decide) (by decide) kg) ?_
          show G (T90.setTop (mkF m 109 #[.val (.int x0), .val (.int cnt), .val (.ref b80), .val (.int (1 : Int32)), .val (.int (1 : Int32)), .val (.int (1 : Int32)), .val (.int (1 : Int32)), .val (.int (4 : Int32)), .val (.int (1 : Int32)), .val (.int (4 : Int32)), .val (.int (4 : Int32))] [(.int (1 : Int32)), (.int (1 : Int32))]))
          refine go (fun tg kg => XS.icmpNo X90.here hx rfl (hb hby at_109) rfl (teq (by decide)).2 kg) ?_
          show G (T90.setTop (mkF m 112 #[.val (.int x0), .val (.int cnt), .val (.ref b80), .val (.int (1 : Int32)), .val (.int (1 : Int32)), .val (.int (1 : Int32)), .val (.int (1 : Int32)), .val (.int (4 : Int32)), .val (.int (1 : Int32)), .val (.int (4 : Int32)), .val (.int (4 : Int32))] []))
          refine go (fun tg kg => XS.iload X90.here hx rfl (hb hby at_112) rfl kg) ?_
          show G (T90.setTop (mkF m 114 #[.val (.int x0), .val (.int cnt), .val (.ref b80), .val (.int (1 : Int32)), .val (.int (1 : Int32)), .val (.int (1 : Int32)), .val (.int (1 : Int32)), .val (.int (4 : Int32)), .val (.int (1 : Int32)), .val (.int (4 : Int32)), .val (.int (4 : Int32))] [(.int (1 : Int32))]))
          refine go (fun tg kg => XS.iconst X90.here hx rfl (hb hby at_114) kg) ?_
          show G (T90.setTop (mkF m 115 #[.val (.int x0), .val (.int cnt), .val (.ref b80), .val (.int (1 : Int32)), .val (.int (1 : Int32)), .val (.int (1 : Int32)), .val (.int (1 : Int32)), .val (.int (4 : Int32)), .val (.int (1 : Int32)), .val (.int (4 : Int32)), .val (.int (4 : Int32))] [(.int (3 : Int32)), (.int (1 : Int32))]))
          refine go (fun tg kg => XS.iloadN X90.here hx rfl (hb hby at_115) rfl kg) ?_
          show G (T90.setTop (mkF m 116 #[.val (.int x0), .val (.int cnt), .val (.ref b80), .val (.int (1 : Int32)), .val (.int (1 : Int32)), .val (.int (1 : Int32)), .val (.int (1 : Int32)), .val (.int (4 : Int32)), .val (.int (1 : Int32)), .val (.int (4 : Int32)), .val (.int (4 : Int32))] [(.int cnt), (.int (3 : Int32)), (.int (1 : Int32))]))
          refine go (fun tg kg => XS.icmpNo X90.here hx rfl (hb hby at_116) rfl (flt (own_st hp4 3 (by decide))).2.2.1 kg) ?_
          show G (T90.setTop (mkF m 119 #[.val (.int x0), .val (.int cnt), .val (.ref b80), .val (.int (1 : Int32)), .val (.int (1 : Int32)), .val (.int (1 : Int32)), .val (.int (1 : Int32)), .val (.int (4 : Int32)), .val (.int (1 : Int32)), .val (.int (4 : Int32)), .val (.int (4 : Int32))] [(.int (1 : Int32))]))
          refine go (fun tg kg => XS.iconst X90.here hx rfl (hb hby at_119) kg) ?_
          show G (T90.setTop (mkF m 120 #[.val (.int x0), .val (.int cnt), .val (.ref b80), .val (.int (1 : Int32)), .val (.int (1 : Int32)), .val (.int (1 : Int32)), .val (.int (1 : Int32)), .val (.int (4 : Int32)), .val (.int (1 : Int32)), .val (.int (4 : Int32)), .val (.int (4 : Int32))] [(.int (1 : Int32)), (.int (1 : Int32))]))
          refine go (fun tg kg => XS.goto X90.here hx rfl (pc0 := 120) (pc' := 124) rfl (hb hby at_120) (by decide) (by decide) kg) ?_
          show G (T90.setTop (mkF m 124 #[.val (.int x0), .val (.int cnt), .val (.ref b80), .val (.int (1 : Int32)), .val (.int (1 : Int32)), .val (.int (1 : Int32)), .val (.int (1 : Int32)), .val (.int (4 : Int32)), .val (.int (1 : Int32)), .val (.int (4 : Int32)), .val (.int (4 : Int32))] [(.int (1 : Int32)), (.int (1 : Int32))]))
          refine go (fun tg kg => XS.icmpNo X90.here hx rfl (hb hby at_124) rfl (teq (by decide)).2 kg) ?_
          show G (T90.setTop (mkF m 127 #[.val (.int x0), .val (.int cnt), .val (.ref b80), .val (.int (1 : Int32)), .val (.int (1 : Int32)), .val (.int (1 : Int32)), .val (.int (1 : Int32)), .val (.int (4 : Int32)), .val (.int (1 : Int32)), .val (.int (4 : Int32)), .val (.int (4 : Int32))] []))
          refine go (fun tg kg => XS.iload X90.here hx rfl (hb hby at_127) rfl kg) ?_
          show G (T90.setTop (mkF m 129 #[.val (.int x0), .val (.int cnt), .val (.ref b80), .val (.int (1 : Int32)), .val (.int (1 : Int32)), .val (.int (1 : Int32)), .val (.int (1 : Int32)), .val (.int (4 : Int32)), .val (.int (1 : Int32)), .val (.int (4 : Int32)), .val (.int (4 : Int32))] [(.int (1 : Int32))]))
          refine go (fun tg kg => XS.iconst X90.here hx rfl (hb hby at_129) kg) ?_
          show G (T90.setTop (mkF m 130 #[.val (.int x0), .val (.int cnt), .val (.ref b80), .val (.int (1 : Int32)), .val (.int (1 : Int32)), .val (.int (1 : Int32)), .val (.int (1 : Int32)), .val (.int (4 : Int32)), .val (.int (1 : Int32)), .val (.int (4 : Int32)), .val (.int (4 : Int32))] [(.int (4 : Int32)), (.int (1 : Int32))]))
          refine go (fun tg kg => XS.iloadN X90.here hx rfl (hb hby at_130) rfl kg) ?_
          show G (T90.setTop (mkF m 131 #[.val (.int x0), .val (.int cnt), .val (.ref b80), .val (.int (1 : Int32)), .val (.int (1 : Int32)), .val (.int (1 : Int32)), .val (.int (1 : Int32)), .val (.int (4 : Int32)), .val (.int (1 : Int32)), .val (.int (4 : Int32)), .val (.int (4 : Int32))] [(.int cnt), (.int (4 : Int32)), (.int (1 : Int32))]))
          refine go (fun tg kg => XS.icmpNo X90.here hx rfl (hb hby at_131) rfl (flt (own_st hp4 4 (by decide))).2.2.1 kg) ?_
          show G (T90.setTop (mkF m 134 #[.val (.int x0), .val (.int cnt), .val (.ref b80), .val (.int (1 : Int32)), .val (.int (1 : Int32)), .val (.int (1 : Int32)), .val (.int (1 : Int32)), .val (.int (4 : Int32)), .val (.int (1 : Int32)), .val (.int (4 : Int32)), .val (.int (4 : Int32))] [(.int (1 : Int32))]))
          refine go (fun tg kg => XS.iconst X90.here hx rfl (hb hby at_134) kg) ?_
          show G (T90.setTop (mkF m 135 #[.val (.int x0), .val (.int cnt), .val (.ref b80), .val (.int (1 : Int32)), .val (.int (1 : Int32)), .val (.int (1 : Int32)), .val (.int (1 : Int32)), .val (.int (4 : Int32)), .val (.int (1 : Int32)), .val (.int (4 : Int32)), .val (.int (4 : Int32))] [(.int (1 : Int32)), (.int (1 : Int32))]))
          refine go (fun tg kg => XS.goto X90.here hx rfl (pc0 := 135) (pc' := 139) rfl (hb hby at_135) (by decide) (by decide) kg) ?_
          show G (T90.setTop (mkF m 139 #[.val (.int x0), .val (.int cnt), .val (.ref b80), .val (.int (1 : Int32)), .val (.int (1 : Int32)), .val (.int (1 : Int32)), .val (.int (1 : Int32)), .val (.int (4 : Int32)), .val (.int (1 : Int32)), .val (.int (4 : Int32)), .val (.int (4 : Int32))] [(.int (1 : Int32)), (.int (1 : Int32))]))
          refine go (fun tg kg => XS.icmpNo X90.here hx rfl (hb hby at_139) rfl (teq (by decide)).2 kg) ?_
          show G (T90.setTop (mkF m 142 #[.val (.int x0), .val (.int cnt), .val (.ref b80), .val (.int (1 : Int32)), .val (.int (1 : Int32)), .val (.int (1 : Int32)), .val (.int (1 : Int32)), .val (.int (4 : Int32)), .val (.int (1 : Int32)), .val (.int (4 : Int32)), .val (.int (4 : Int32))] []))
          refine go (fun tg kg => XS.iload X90.here hx rfl (hb hby at_142) rfl kg) ?_
          show G (T90.setTop (mkF m 144 #[.val (.int x0), .val (.int cnt), .val (.ref b80), .val (.int (1 : Int32)), .val (.int (1 : Int32)), .val (.int (1 : Int32)), .val (.int (1 : Int32)), .val (.int (4 : Int32)), .val (.int (1 : Int32)), .val (.int (4 : Int32)), .val (.int (4 : Int32))] [(.int (4 : Int32))]))
          refine go (fun tg kg => XS.iload X90.here hx rfl (hb hby at_144) rfl kg) ?_
          show G (T90.setTop (mkF m 146 #[.val (.int x0), .val (.int cnt), .val (.ref b80), .val (.int (1 : Int32)), .val (.int (1 : Int32)), .val (.int (1 : Int32)), .val (.int (1 : Int32)), .val (.int (4 : Int32)), .val (.int (1 : Int32)), .val (.int (4 : Int32)), .val (.int (4 : Int32))] [(.int (4 : Int32)), (.int (4 : Int32))]))
          refine go (fun tg kg => XS.icmpNo X90.here hx rfl (hb hby at_146) rfl (teq (by decide)).2 kg) ?_
          show G (T90.setTop (mkF m 149 #[.val (.int x0), .val (.int cnt), .val (.ref b80), .val (.int (1 : Int32)), .val (.int (1 : Int32)), .val (.int (1 : Int32)), .val (.int (1 : Int32)), .val (.int (4 : Int32)), .val (.int (1 : Int32)), .val (.int (4 : Int32)), .val (.int (4 : Int32))] []))
          refine go (fun tg kg => XS.iload X90.here hx rfl (hb hby at_149) rfl kg) ?_
          show G (T90.setTop (mkF m 151 #[.val (.int x0), .val (.int cnt), .val (.ref b80), .val (.int (1 : Int32)), .val (.int (1 : Int32)), .val (.int (1 : Int32)), .val (.int (1 : Int32)), .val (.int (4 : Int32)), .val (.int (1 : Int32)), .val (.int (4 : Int32)), .val (.int (4 : Int32))] [(.int (1 : Int32))]))
          refine go (fun tg kg => XS.ifNo X90.here hx rfl (hb hby at_151) rfl ((if0 _ _).trans (feq (by decide)).1) kg) ?_
          show G (T90.setTop (mkF m 154 #[.val (.int x0), .val (.int cnt), .val (.ref b80), .val (.int (1 : Int32)), .val (.int (1 : Int32)), .val (.int (1 : Int32)), .val (.int (1 : Int32)), .val (.int (4 : Int32)), .val (.int (1 : Int32)), .val (.int (4 : Int32)), .val (.int (4 : Int32))] []))
          refine go (fun tg kg => XS.iload X90.here hx rfl (hb hby at_154) rfl kg) ?_
          show G (T90.setTop (mkF m 156 #[.val (.int x0), .val (.int cnt), .val (.ref b80), .val (.int (1 : Int32)), .val (.int (1 : Int32)), .val (.int (1 : Int32)), .val (.int (1 : Int32)), .val (.int (4 : Int32)), .val (.int (1 : Int32)), .val (.int (4 : Int32)), .val (.int (4 : Int32))] [(.int (4 : Int32))]))
          refine go (fun tg kg => XS.iload X90.here hx rfl (hb hby at_156) rfl kg) ?_
          show G (T90.setTop (mkF m 158 #[.val (.int x0), .val (.int cnt), .val (.ref b80), .val (.int (1 : Int32)), .val (.int (1 : Int32)), .val (.int (1 : Int32)), .val (.int (1 : Int32)), .val (.int (4 : Int32)), .val (.int (1 : Int32)), .val (.int (4 : Int32)), .val (.int (4 : Int32))] [(.int (4 : Int32)), (.int (4 : Int32))]))
          refine go (fun tg kg => XS.icmpNo X90.here hx rfl (hb hby at_158) rfl (teq (by decide)).2 kg) ?_
          show G (T90.setTop (mkF m 161 #[.val (.int x0), .val (.int cnt), .val (.ref b80), .val (.int (1 : Int32)), .val (.int (1 : Int32)), .val (.int (1 : Int32)), .val (.int (1 : Int32)), .val (.int (4 : Int32)), .val (.int (1 : Int32)), .val (.int (4 : Int32)), .val (.int (4 : Int32))] []))
          refine go (fun tg kg => XS.iconst X90.here hx rfl (hb hby at_161) kg) ?_
          show G (T90.setTop (mkF m 162 #[.val (.int x0), .val (.int cnt), .val (.ref b80), .val (.int (1 : Int32)), .val (.int (1 : Int32)), .val (.int (1 : Int32)), .val (.int (1 : Int32)), .val (.int (4 : Int32)), .val (.int (1 : Int32)), .val (.int (4 : Int32)), .val (.int (4 : Int32))] [(.int (1 : Int32))]))
          refine go (fun tg kg => XS.goto X90.here hx rfl (pc0 := 162) (pc' := 166) rfl (hb hby at_162) (by decide) (by decide) kg) ?_
          show G (T90.setTop (mkF m 166 #[.val (.int x0), .val (.int cnt), .val (.ref b80), .val (.int (1 : Int32)), .val (.int (1 : Int32)), .val (.int (1 : Int32)), .val (.int (1 : Int32)), .val (.int (4 : Int32)), .val (.int (1 : Int32)), .val (.int (4 : Int32)), .val (.int (4 : Int32))] [(.int (1 : Int32))]))
          refine fin (some (.int (1 : Int32))) X90 (fun h => absurd h (by decide)) (fun fs hr => retN X90 hx (t := .boolean) hret (by simp) (hb hby at_166) hr) (by decide) (by decide) ?_
          rw [e90]
          exact ⟨rfl, N90⟩
set_option maxRecDepth 65536 in
set_option maxHeartbeats 40000000 in
theorem comes_1 {Post : Tables → Env → Array Value → State → Outcome → State → Prop} (hpost : ∀ tb e args s v u, (limb_1_1.after args s (.returned v) u = true ∧ limb_1_2.after args s (.returned v) u = true ∧ True) → FrameEnd s (.returned v) u (Jvm.fieldLocs frame_1_writes args s ++ Jvm.arrayLocs frame_1_arrays args s ++ Jvm.staticLocs frame_1_statics s) 16 128 → Post tb e args s (.returned v) u) :
    ArmFor flags0 classFile x code maxLocals ret World_1 tables_1 room_1 Calls_1 rest_1 Pre_1 Post := by
  intro l hfl _ _ p e ha hc hk s m args below hf hA hF happ hP
  obtain ⟨hcalls, hrest, hpre⟩ := hP
  obtain ⟨-, -, -, hnamed, -, -, -, hat⟩ := (Spec.applies_iff hf).mp happ
  obtain ⟨hg, hn⟩ := and_e (Cond.before_iff.mp (show (Jvm.Cond.and given_1 narrow_1).before args s = true from hpre))
  obtain ⟨gc, gr0⟩ := and_e hg
  have ga0 := gr0
  obtain ⟨w0, rfl⟩ : ∃ w0 : Value, args = #[w0] := by
    have hs : args.size = 1 := by simpa [Cond.value, given_1] using gc
    obtain ⟨L⟩ := args
    match L, hs with
    | [w0], _ => exact ⟨w0, rfl⟩
  have hw := fun d (hd : d ∈ tables_1) => atoms_spec (ws := Jvm.Cond.code x code maxLocals ret :: tables_1) hat d (List.mem_cons_of_mem _ hd)
  have hfit : Fit s := fun {y c} hc i hi => by
    obtain ⟨ha, rfl⟩ := Array.getElem?_eq_some_iff.mp hc
    have q := List.all_eq_true.mp ((Array.all_eq_true_iff_forall_mem.mp hF) _ (Array.getElem_mem ha)) i (List.mem_range.mpr hi)
    simpa [Array.getElem?_eq_getElem hi] using q
  obtain ⟨i0, ei0⟩ := is_v ga0
  obtain rfl : w0 = (.int i0) := Option.some.inj ei0
  obtain ⟨n, o, h1, h2, h3, _, L, rfl, ⟨rfl, N⟩, hq⟩ := rm0 l s _ hw tables_1 i0  s.heap s.heap.size (Nat.le_refl _)  p e ha hc hk s m _ below hf ((Spec.applies_iff_loose hf).mp happ).1 ⟨rfl, State.Warmed39.refl s, rfl⟩ trivial
  refine ⟨n, _, h1, h2, h3, hpost _ _ _ _ _ _ ⟨Cond.after_iff.mpr rfl, Cond.after_iff.mpr (eq_i res_at (Term.int_eval (1)) rfl), trivial⟩ ⟨hq.1, hq.2.1, (hq.2.2.sift fun y hy => Or.inr (N y hy)).mono (by decide) (by decide)⟩⟩
theorem main_1_1 : Claimed_1_1 := comes_1 fun _ _ _ _ _ _ h hF => ⟨h.1, hF⟩
theorem main_1_2 : Claimed_1_2 := comes_1 fun _ _ _ _ _ _ h hF => ⟨h.2.1, hF⟩
end Jvm.Pilot.@@N@@
namespace Jvm.Pilot.@@N@@
open Jvm Jvm.ClassFile Sem Op Lib Jvm.Free Jvm.Stand Jvm.Pilot.@@N@@.Jvm.D
/-! MADE BY PROGRAM (witnessworld.py) out of the Statement's table words and the real class files: 18 classes; the members and pool entries that the words name. The judged class is class 1, her method 1. -/
namespace start1
open Jvm.ClassFile
def u (s : String) : CpInfo := .utf8 (stringToUtf16 s)
/-- a pool by its gaps: so many unusable entries, then the entry; so many at the end -/
def gap : Nat → List CpInfo → List CpInfo
  | 0, r => r
  | n + 1, r => .unusable :: gap n r
def poolList (es : List (Nat × CpInfo)) (last : Nat) : List CpInfo := es.foldr (fun e r => gap e.1 (e.2 :: r)) (gap last [])
def pool (es : List (Nat × CpInfo)) (last : Nat) : Array CpInfo := ⟨poolList es last⟩
def fileOf (pool : Array CpInfo) (this : Nat) (attrs : Array Attribute := #[]) (ms : Array MethodInfo := #[]) (fl : Nat := 33) (sup : Nat := 0) (ifs : Array Nat := #[]) (fds : Array FieldInfo := #[]) : ClassFile where
  minorVersion := 0
  majorVersion := 65
  constantPool := pool
  accessFlags := fl
  thisClass := this
  superClass := sup
  interfaces := ifs
  fields := fds
  methods := ms
  attributes := attrs
def plain (name : String) (sup : Option ClassId) : Class where
  name := name
  kind := .ordinary
  loader := none
  accessFlags := 33
  super := sup
  interfaces := #[]
  cf := none
  fields := #[]
  methods := #[]
  instanceTypes := #[]
  staticTypes := #[]
  resolved := #[]
  callSites := []
  init := .initialized
  statics := none
  mirror := none

def pool0 : Array CpInfo := pool [(5, u "<init>"), (0, u "()V"), (1, .class_ 10), (1, u "java/lang/Object")] 113

def k0c0 : Code := { maxStack := 0, maxLocals := 1, code := object_method_1_code, exceptionTable := #[], attributes := #[] }
def k0m0 : Method := { name := "<init>", desc := "()V", sig := { parameters := [], returnType := none }, accessFlags := 1, code := some k0c0 }
/-- java/lang/Object -/
def k0 : Class := { plain "java/lang/Object" none with
  accessFlags := 33
  interfaces := #[]
  cf := some (fileOf pool0 8 #[] #[{ accessFlags := 1, nameIndex := 5, descriptorIndex := 6, attributes := #[] }] 33 0 #[] #[])
  fields := #[]
  methods := #[k0m0]
  instanceTypes := #[]
  staticTypes := #[]
  resolved := Array.replicate 124 none
  statics := none }

def pool1 : Array CpInfo := pool [(2, .class_ 4), (1, u "java/lang/Object"), (0, u "<init>"), (0, u "()V"), (0, .methodref 8 9), (0, .class_ 10), (0, .nameAndType 11 12), (0, u "java/lang/Math"), (0, u "max"), (0, u "(II)I"), (0, .class_ 14), (0, u "com/example/drumline/drumline/engine/Slots"), (0, .methodref 13 16), (0, .nameAndType 5 17), (0, u "(I)V"), (0, .methodref 13 19), (0, .nameAndType 20 21), (0, u "take"), (0, u "()Z"), (0, .methodref 13 23), (0, .nameAndType 24 25), (0, u "taken"), (0, u "()I"), (0, .methodref 13 27), (0, .nameAndType 28 6), (0, u "free"), (0, .methodref 8 30), (0, .nameAndType 31 12), (0, u "min"), (0, .class_ 33), (0, u "com/example/drumline/drumline/engine/SlotsTakePinLaw"), (2, u "law"), (0, u "(I)Z")] 3

def k1m0 : Method := { name := "<init>", desc := "()V", sig := { parameters := [], returnType := none }, accessFlags := 1, code := none }
def k1c1 : Code := { maxStack := 3, maxLocals := 11, code := code, exceptionTable := #[], attributes := #[] }
def k1m1 : Method := { name := "law", desc := "(I)Z", sig := { parameters := [.int], returnType := some .boolean }, accessFlags := 9, code := some k1c1 }
/-- com/example/drumline/drumline/engine/SlotsTakePinLaw -/
def k1 : Class := { plain "com/example/drumline/drumline/engine/SlotsTakePinLaw" (some 0) with
  accessFlags := 49
  interfaces := #[]
  cf := some (fileOf pool1 32 #[] #[{ accessFlags := 1, nameIndex := 5, descriptorIndex := 6, attributes := #[] }, { accessFlags := 9, nameIndex := 36, descriptorIndex := 37, attributes := #[] }] 49 2 #[] #[])
  fields := #[]
  methods := #[k1m0, k1m1]
  instanceTypes := #[]
  staticTypes := #[]
  resolved := Array.replicate 41 none
  statics := none }

def pool2 : Array CpInfo := pool [(1, .class_ 2), (0, u "java/lang/Math"), (1, .class_ 6), (1, u "java/lang/Object"), (0, u "<init>"), (0, u "()V"), (89, .class_ 100), (1, u "java/lang/Math$RandomNumberGeneratorHolder"), (71, u "negativeZeroFloatBits"), (0, u "J"), (2, u "negativeZeroDoubleBits"), (21, u "max"), (2, u "min"), (43, u "$assertionsDisabled"), (0, u "Z"), (88, u "(II)I"), (2, u "twoToTheDoubleScaleDown"), (0, u "D"), (4, u "twoToTheDoubleScaleUp"), (9, u "E"), (3, u "PI"), (2, u "TAU"), (2, u "DEGREES_TO_RADIANS"), (0, u "RADIANS_TO_DEGREES")] 94

def k2m0 : Method := { name := "<init>", desc := "()V", sig := { parameters := [], returnType := none }, accessFlags := 2, code := none }
def k2c1 : Code := { maxStack := 2, maxLocals := 2, code := jdk_29_method_65_code, exceptionTable := #[], attributes := #[] }
def k2m1 : Method := { name := "max", desc := "(II)I", sig := { parameters := [.int, .int], returnType := some .int }, accessFlags := 9, code := some k2c1 }
def k2c2 : Code := { maxStack := 2, maxLocals := 2, code := jdk_29_method_69_code, exceptionTable := #[], attributes := #[] }
def k2m2 : Method := { name := "min", desc := "(II)I", sig := { parameters := [.int, .int], returnType := some .int }, accessFlags := 9, code := some k2c2 }
/-- java/lang/Math -/
def k2 : Class := { plain "java/lang/Math" (some 0) with
  accessFlags := 49
  interfaces := #[]
  cf := some (fileOf pool2 1 #[.nestMembers #[98]] #[{ accessFlags := 2, nameIndex := 7, descriptorIndex := 8, attributes := #[] }, { accessFlags := 9, nameIndex := 198, descriptorIndex := 335, attributes := #[] }, { accessFlags := 9, nameIndex := 201, descriptorIndex := 335, attributes := #[] }] 49 4 #[] #[{ accessFlags := 25, nameIndex := 354, descriptorIndex := 339, attributes := #[] }, { accessFlags := 25, nameIndex := 358, descriptorIndex := 339, attributes := #[] }, { accessFlags := 25, nameIndex := 361, descriptorIndex := 339, attributes := #[] }, { accessFlags := 26, nameIndex := 364, descriptorIndex := 339, attributes := #[] }, { accessFlags := 26, nameIndex := 365, descriptorIndex := 339, attributes := #[] }, { accessFlags := 26, nameIndex := 172, descriptorIndex := 173, attributes := #[] }, { accessFlags := 26, nameIndex := 176, descriptorIndex := 173, attributes := #[] }, { accessFlags := 8, nameIndex := 344, descriptorIndex := 339, attributes := #[] }, { accessFlags := 8, nameIndex := 338, descriptorIndex := 339, attributes := #[] }, { accessFlags := 4120, nameIndex := 245, descriptorIndex := 246, attributes := #[] }])
  fields := #[{ name := "E", type := .double, accessFlags := 25, slot := 0, constantValue := 0 }, { name := "PI", type := .double, accessFlags := 25, slot := 1, constantValue := 0 }, { name := "TAU", type := .double, accessFlags := 25, slot := 2, constantValue := 0 }, { name := "DEGREES_TO_RADIANS", type := .double, accessFlags := 26, slot := 3, constantValue := 0 }, { name := "RADIANS_TO_DEGREES", type := .double, accessFlags := 26, slot := 4, constantValue := 0 }, { name := "negativeZeroFloatBits", type := .long, accessFlags := 26, slot := 5, constantValue := 0 }, { name := "negativeZeroDoubleBits", type := .long, accessFlags := 26, slot := 6, constantValue := 0 }, { name := "twoToTheDoubleScaleUp", type := .double, accessFlags := 8, slot := 7, constantValue := 0 }, { name := "twoToTheDoubleScaleDown", type := .double, accessFlags := 8, slot := 8, constantValue := 0 }, { name := "$assertionsDisabled", type := .boolean, accessFlags := 4120, slot := 9, constantValue := 0 }]
  methods := #[k2m0, k2m1, k2m2]
  instanceTypes := #[]
  staticTypes := #[.double, .double, .double, .double, .double, .long, .long, .double, .double, .boolean]
  resolved := Array.replicate 460 none
  statics := none }

def pool3 : Array CpInfo := pool [(1, .methodref 2 3), (0, .class_ 4), (0, .nameAndType 5 6), (0, u "java/lang/Object"), (0, u "<init>"), (0, u "()V"), (0, .class_ 8), (0, u "java/util/ArrayDeque"), (0, .methodref 7 3), (0, .fieldref 11 12), (0, .class_ 13), (0, .nameAndType 14 15), (0, u "com/example/drumline/drumline/engine/Slots"), (0, u "held"), (0, u "Ljava/util/Deque;"), (0, .fieldref 11 17), (0, .nameAndType 18 19), (0, u "count"), (0, u "I"), (0, .fieldref 11 21), (0, .nameAndType 22 19), (0, u "taken"), (8, u "take"), (0, u "()Z"), (15, u "free"), (25, u "()I"), (10, u "(I)V")] 14

def k3c0 : Code := { maxStack := 3, maxLocals := 2, code := prog_18_method_1_code, exceptionTable := #[], attributes := #[] }
def k3m0 : Method := { name := "<init>", desc := "(I)V", sig := { parameters := [.int], returnType := none }, accessFlags := 0, code := some k3c0 }
def k3c1 : Code := { maxStack := 3, maxLocals := 2, code := prog_18_method_2_code, exceptionTable := #[], attributes := #[] }
def k3m1 : Method := { name := "take", desc := "()Z", sig := { parameters := [], returnType := some .boolean }, accessFlags := 0, code := some k3c1 }
def k3c2 : Code := { maxStack := 1, maxLocals := 1, code := prog_18_method_4_code, exceptionTable := #[], attributes := #[] }
def k3m2 : Method := { name := "taken", desc := "()I", sig := { parameters := [], returnType := some .int }, accessFlags := 0, code := some k3c2 }
def k3c3 : Code := { maxStack := 3, maxLocals := 1, code := prog_18_method_7_code, exceptionTable := #[], attributes := #[] }
def k3m3 : Method := { name := "free", desc := "()V", sig := { parameters := [], returnType := none }, accessFlags := 0, code := some k3c3 }
/-- com/example/drumline/drumline/engine/Slots -/
def k3 : Class := { plain "com/example/drumline/drumline/engine/Slots" (some 0) with
  accessFlags := 48
  interfaces := #[]
  cf := some (fileOf pool3 11 #[] #[{ accessFlags := 0, nameIndex := 5, descriptorIndex := 85, attributes := #[] }, { accessFlags := 0, nameIndex := 31, descriptorIndex := 32, attributes := #[] }, { accessFlags := 0, nameIndex := 22, descriptorIndex := 74, attributes := #[] }, { accessFlags := 0, nameIndex := 48, descriptorIndex := 6, attributes := #[] }] 48 2 #[] #[{ accessFlags := 18, nameIndex := 18, descriptorIndex := 19, attributes := #[] }, { accessFlags := 18, nameIndex := 14, descriptorIndex := 15, attributes := #[] }, { accessFlags := 2, nameIndex := 22, descriptorIndex := 19, attributes := #[] }])
  fields := #[{ name := "count", type := .int, accessFlags := 18, slot := 0, constantValue := 0 }, { name := "held", type := (.object "java/util/Deque"), accessFlags := 18, slot := 1, constantValue := 0 }, { name := "taken", type := .int, accessFlags := 2, slot := 2, constantValue := 0 }]
  methods := #[k3m0, k3m1, k3m2, k3m3]
  instanceTypes := #[.int, (.object "java/util/Deque"), .int]
  staticTypes := #[]
  resolved := Array.replicate 100 none
  statics := none }

def pool4 : Array CpInfo := pool [(8, .class_ 10), (1, u "java/lang/Iterable"), (24, .class_ 36), (0, u "java/lang/Object")] 25

/-- java/lang/Iterable -/
def k4 : Class := { plain "java/lang/Iterable" (some 0) with
  accessFlags := 1537
  interfaces := #[]
  cf := some (fileOf pool4 8 #[] #[] 1537 35 #[] #[])
  fields := #[]
  methods := #[]
  instanceTypes := #[]
  staticTypes := #[]
  resolved := Array.replicate 62 none
  statics := none }

def pool5 : Array CpInfo := pool [(10, .class_ 12), (1, u "java/util/Collection"), (47, .class_ 61), (0, u "java/lang/Object"), (0, .class_ 63), (0, u "java/lang/Iterable")] 51

/-- java/util/Collection -/
def k5 : Class := { plain "java/util/Collection" (some 0) with
  accessFlags := 1537
  interfaces := #[4]
  cf := some (fileOf pool5 10 #[] #[] 1537 60 #[62] #[])
  fields := #[]
  methods := #[]
  instanceTypes := #[]
  staticTypes := #[]
  resolved := Array.replicate 115 none
  statics := none }

def pool6 : Array CpInfo := pool [(1, .methodref 2 3), (0, .class_ 4), (0, .nameAndType 5 6), (0, u "java/lang/Object"), (0, u "<init>"), (0, u "()V"), (1, .class_ 10), (1, u "java/util/AbstractCollection"), (66, .class_ 78), (0, u "java/util/Collection")] 81

def k6c0 : Code := { maxStack := 1, maxLocals := 1, code := jdk_22_method_1_code, exceptionTable := #[], attributes := #[] }
def k6m0 : Method := { name := "<init>", desc := "()V", sig := { parameters := [], returnType := none }, accessFlags := 4, code := some k6c0 }
/-- java/util/AbstractCollection -/
def k6 : Class := { plain "java/util/AbstractCollection" (some 0) with
  accessFlags := 1057
  interfaces := #[5]
  cf := some (fileOf pool6 8 #[] #[{ accessFlags := 4, nameIndex := 5, descriptorIndex := 6, attributes := #[] }] 1057 2 #[77] #[])
  fields := #[]
  methods := #[k6m0]
  instanceTypes := #[]
  staticTypes := #[]
  resolved := Array.replicate 160 none
  statics := none }

def pool7 : Array CpInfo := pool [(1, .class_ 2), (0, u "java/util/Queue"), (0, .class_ 4), (0, u "java/lang/Object"), (0, .class_ 6), (0, u "java/util/Collection")] 14

/-- java/util/Queue -/
def k7 : Class := { plain "java/util/Queue" (some 0) with
  accessFlags := 1537
  interfaces := #[5]
  cf := some (fileOf pool7 1 #[] #[] 1537 3 #[5] #[])
  fields := #[]
  methods := #[]
  instanceTypes := #[]
  staticTypes := #[]
  resolved := Array.replicate 21 none
  statics := none }

def pool8 : Array CpInfo := pool [(8, .class_ 10), (1, u "java/util/SequencedCollection"), (15, .class_ 27), (0, u "java/lang/Object"), (0, .class_ 29), (0, u "java/util/Collection")] 27

/-- java/util/SequencedCollection -/
def k8 : Class := { plain "java/util/SequencedCollection" (some 0) with
  accessFlags := 1537
  interfaces := #[5]
  cf := some (fileOf pool8 8 #[] #[] 1537 26 #[28] #[])
  fields := #[]
  methods := #[]
  instanceTypes := #[]
  staticTypes := #[]
  resolved := Array.replicate 57 none
  statics := none }

def pool9 : Array CpInfo := pool [(8, .class_ 10), (1, u "java/util/Deque"), (2, .class_ 14), (0, u "java/lang/Object"), (0, .class_ 16), (0, u "java/util/Queue"), (0, .class_ 18), (0, u "java/util/SequencedCollection")] 51

/-- java/util/Deque -/
def k9 : Class := { plain "java/util/Deque" (some 0) with
  accessFlags := 1537
  interfaces := #[7, 8]
  cf := some (fileOf pool9 8 #[] #[] 1537 13 #[15, 17] #[])
  fields := #[]
  methods := #[]
  instanceTypes := #[]
  staticTypes := #[]
  resolved := Array.replicate 70 none
  statics := none }

def pool10 : Array CpInfo := pool [(1, .class_ 2), (0, u "java/lang/Cloneable"), (0, .class_ 4), (0, u "java/lang/Object")] 2

/-- java/lang/Cloneable -/
def k10 : Class := { plain "java/lang/Cloneable" (some 0) with
  accessFlags := 1537
  interfaces := #[]
  cf := some (fileOf pool10 1 #[] #[] 1537 3 #[] #[])
  fields := #[]
  methods := #[]
  instanceTypes := #[]
  staticTypes := #[]
  resolved := Array.replicate 7 none
  statics := none }

def pool11 : Array CpInfo := pool [(1, .class_ 2), (0, u "java/io/Serializable"), (0, .class_ 4), (0, u "java/lang/Object")] 2

/-- java/io/Serializable -/
def k11 : Class := { plain "java/io/Serializable" (some 0) with
  accessFlags := 1537
  interfaces := #[]
  cf := some (fileOf pool11 1 #[] #[] 1537 3 #[] #[])
  fields := #[]
  methods := #[]
  instanceTypes := #[]
  staticTypes := #[]
  resolved := Array.replicate 7 none
  statics := none }

def pool12 : Array CpInfo := pool [(3, .fieldref 4 5), (0, .class_ 6), (0, .nameAndType 7 8), (0, u "java/util/ArrayDeque"), (0, u "elements"), (0, u "[Ljava/lang/Object;"), (13, u "tail"), (0, u "I"), (2, u "head"), (12, u "<init>"), (2, .methodref 43 44), (0, .class_ 45), (0, .nameAndType 39 46), (0, u "java/util/AbstractCollection"), (0, u "()V"), (0, .class_ 48), (0, u "java/lang/Object"), (82, .class_ 132), (0, u "java/util/ArrayDeque$DeqIterator"), (3, .class_ 137), (0, u "java/util/ArrayDeque$DescendingIterator"), (1, .class_ 140), (0, u "java/util/ArrayDeque$DeqSpliterator"), (137, .class_ 279), (0, u "java/util/Deque"), (0, .class_ 281), (0, u "java/lang/Cloneable"), (0, .class_ 283), (0, u "java/io/Serializable"), (0, u "MAX_ARRAY_SIZE"), (1, u "serialVersionUID"), (0, u "J")] 150

def k12c0 : Code := { maxStack := 2, maxLocals := 1, code := jdk_21_method_3_code, exceptionTable := #[], attributes := #[] }
def k12m0 : Method := { name := "<init>", desc := "()V", sig := { parameters := [], returnType := none }, accessFlags := 1, code := some k12c0 }
/-- java/util/ArrayDeque -/
def k12 : Class := { plain "java/util/ArrayDeque" (some 6) with
  accessFlags := 33
  interfaces := #[9, 10, 11]
  cf := some (fileOf pool12 4 #[.nestMembers #[139, 136, 131]] #[{ accessFlags := 1, nameIndex := 39, descriptorIndex := 46, attributes := #[] }] 33 43 #[278, 280, 282] #[{ accessFlags := 128, nameIndex := 7, descriptorIndex := 8, attributes := #[] }, { accessFlags := 128, nameIndex := 26, descriptorIndex := 23, attributes := #[] }, { accessFlags := 128, nameIndex := 22, descriptorIndex := 23, attributes := #[] }, { accessFlags := 26, nameIndex := 284, descriptorIndex := 23, attributes := #[] }, { accessFlags := 26, nameIndex := 286, descriptorIndex := 287, attributes := #[] }])
  fields := #[{ name := "elements", type := (.array (.object "java/lang/Object")), accessFlags := 128, slot := 0, constantValue := 0 }, { name := "head", type := .int, accessFlags := 128, slot := 1, constantValue := 0 }, { name := "tail", type := .int, accessFlags := 128, slot := 2, constantValue := 0 }, { name := "MAX_ARRAY_SIZE", type := .int, accessFlags := 26, slot := 0, constantValue := 0 }, { name := "serialVersionUID", type := .long, accessFlags := 26, slot := 1, constantValue := 0 }]
  methods := #[k12m0]
  instanceTypes := #[(.array (.object "java/lang/Object")), .int, .int]
  staticTypes := #[.int, .long]
  resolved := Array.replicate 438 none
  statics := none }

/-- the primitive byte -/
def k13 : Class := { plain "byte" none with kind := .primitive 'B', accessFlags := 0x411 }
/-- [B -/
def k14 : Class := { plain "[B" (some 0) with kind := .array 13 .byte, interfaces := #[10, 11], accessFlags := 1041 }

/-- the primitive int -/
def k15 : Class := { plain "int" none with kind := .primitive 'I', accessFlags := 0x411 }
/-- [I -/
def k16 : Class := { plain "[I" (some 0) with kind := .array 15 .int, interfaces := #[10, 11], accessFlags := 1041 }

/-- [Ljava/lang/Object; -/
def k17 : Class := { plain "[Ljava/lang/Object;" (some 0) with kind := .array 0 (.object "java/lang/Object"), interfaces := #[10, 11], accessFlags := 1041 }

def heap : Heap := #[]
def classes : Array Class := #[k0, k1, k2, k3, k4, k5, k6, k7, k8, k9, k10, k11, k12, k13, k14, k15, k16, k17]
def interned : List (Array UInt16 × Addr) := []
def slotsUsed : Nat := 0
def theMethod : MethodId := ⟨1, 1⟩
def args0 : Array Value := #[.int 3]
def aboutOver (below : List Frame) : State where
  vm := { classes := classes, interned := interned.toArray }
  heap := heap
  slotsUsed := slotsUsed
  threads := #[{ frames := .invoking theMethod args0 :: below }]
def below0 : List Frame := [.native { method := ⟨0, 0⟩, args := #[] }]
def about1 : State := aboutOver below0
def p0 : Program := .bare "" "" ""
def e0 : Env := launch0.env 0 0 0
theorem w_frames : about1.frames = Frame.invoking theMethod args0 :: below0 := rfl
set_option maxRecDepth 65536 in
theorem w_args : argsFit about1.vm theMethod args0 = true := by decide +kernel
set_option maxRecDepth 65536 in
theorem w_heap : heapFits about1 = true := by decide +kernel
set_option maxRecDepth 65536 in
theorem w_runnable : about1.curStatus? = some .runnable := by decide +kernel
set_option maxRecDepth 65536 in
theorem w_alone : about1.alone = true := by decide +kernel
set_option maxRecDepth 65536 in
theorem w_named : about1.methodNamed? x = some theMethod := by decide +kernel
set_option maxRecDepth 65536 in
theorem w_hears : about1.hears theMethod below0 = true := by decide +kernel
set_option maxRecDepth 65536 in
theorem w_ripe : about1.ripe theMethod args0 below0 = true := by decide +kernel
theorem w_running : about1.status = .running := rfl
set_option maxRecDepth 65536 in
theorem w_room : about1.hasRoom e0.platform room_1 = true :=
  launch0.hasRoom_least _ room_1 (by decide +kernel) (by decide +kernel) (by decide +kernel) (by decide +kernel) (by decide +kernel) (by decide +kernel)
theorem allAtoms_all (ts : List Jvm.Cond) (a : Array Jvm.Value) (st : Jvm.State) : (allAtoms ts).before a st = ts.all (fun c => c.before a st) := by
  induction ts with
  | nil => rfl
  | cons c t ih =>
    show (Jvm.Cond.and c (allAtoms t)).before a st = _
    rw [Jvm.Cond.before_and, ih, List.all_cons]
def words1 : List Jvm.Cond := Jvm.Cond.code x code maxLocals ret :: tables_1
/-- a 'code' word, met by the world's own term for the bytes: nothing is compared byte by byte -/
theorem code_word {y : MethodName} {bytes : ByteArray} {mx : Nat} {rt : Option FieldType} {a : Array Value} {s : State} {m : MethodId} {meth : Method} {c : Code} (h1 : s.methodNamed? y = some m) (h2 : s.vm.method? m = some meth) (h3 : meth.code = some c) (h4 : c.code = bytes)
    (h5 : (c.maxLocals == mx && c.exceptionTable.isEmpty && decide (c.maxStack ≤ mostOperands) && decide (meth.sig.returnType = rt) && !meth.locks && decide (parseMethodDescriptor y.desc = some meth.sig)) = true) : (Jvm.Cond.code y bytes mx rt).before a s = true := by
  simp only [Bool.and_eq_true, beq_iff_eq, Bool.not_eq_true', decide_eq_true_eq] at h5
  obtain ⟨⟨⟨⟨⟨g1, g2⟩, g3⟩, g4⟩, g5⟩, g6⟩ := h5
  simp [Cond.before, Cond.holds, Cond.value, h1, h2, h3, h4, g1, g2, g3, g4, g5, g6]
def isCode : Jvm.Cond → Bool
  | .code _ _ _ _ => true
  | _ => false
theorem all_split {L : List Jvm.Cond} {P : Jvm.Cond → Bool} (h1 : L.all (fun c => isCode c || P c) = true) (h2 : ∀ c ∈ L.filter isCode, P c = true) : L.all P = true := by
  refine List.all_eq_true.mpr fun c hc => ?_
  have h := List.all_eq_true.mp h1 c hc
  rcases Bool.eq_false_or_eq_true (isCode c) with hi | hi
  · exact h2 c (List.mem_filter.mpr ⟨hc, hi⟩)
  · simpa [hi] using h
set_option maxRecDepth 65536 in
theorem w_c0 : (Jvm.Cond.code x code maxLocals ret).before args0 about1 = true := code_word (m := ⟨1, 1⟩) (meth := k1m1) (c := k1c1) (by decide +kernel) rfl rfl rfl (by decide +kernel)
set_option maxRecDepth 65536 in
theorem w_c1 : (Jvm.Cond.code ({ cls := "java/lang/Math", name := "max", desc := "(II)I" } : Jvm.MethodName) jdk_29_method_65_code (2 : Nat) (Option.some Jvm.ClassFile.FieldType.int)).before args0 about1 = true := code_word (m := ⟨2, 1⟩) (meth := k2m1) (c := k2c1) (by decide +kernel) rfl rfl rfl (by decide +kernel)
set_option maxRecDepth 65536 in
theorem w_c2 : (Jvm.Cond.code ({ cls := "com/example/drumline/drumline/engine/Slots", name := "<init>", desc := "(I)V" } : Jvm.MethodName) prog_18_method_1_code (2 : Nat) (Option.none : Option Jvm.ClassFile.FieldType)).before args0 about1 = true := code_word (m := ⟨3, 0⟩) (meth := k3m0) (c := k3c0) (by decide +kernel) rfl rfl rfl (by decide +kernel)
set_option maxRecDepth 65536 in
theorem w_c3 : (Jvm.Cond.code ({ cls := "java/lang/Object", name := "<init>", desc := "()V" } : Jvm.MethodName) object_method_1_code (1 : Nat) (Option.none : Option Jvm.ClassFile.FieldType)).before args0 about1 = true := code_word (m := ⟨0, 0⟩) (meth := k0m0) (c := k0c0) (by decide +kernel) rfl rfl rfl (by decide +kernel)
set_option maxRecDepth 65536 in
theorem w_c4 : (Jvm.Cond.code ({ cls := "java/util/ArrayDeque", name := "<init>", desc := "()V" } : Jvm.MethodName) jdk_21_method_3_code (1 : Nat) (Option.none : Option Jvm.ClassFile.FieldType)).before args0 about1 = true := code_word (m := ⟨12, 0⟩) (meth := k12m0) (c := k12c0) (by decide +kernel) rfl rfl rfl (by decide +kernel)
set_option maxRecDepth 65536 in
theorem w_c5 : (Jvm.Cond.code ({ cls := "java/util/AbstractCollection", name := "<init>", desc := "()V" } : Jvm.MethodName) jdk_22_method_1_code (1 : Nat) (Option.none : Option Jvm.ClassFile.FieldType)).before args0 about1 = true := code_word (m := ⟨6, 0⟩) (meth := k6m0) (c := k6c0) (by decide +kernel) rfl rfl rfl (by decide +kernel)
set_option maxRecDepth 65536 in
theorem w_c6 : (Jvm.Cond.code ({ cls := "com/example/drumline/drumline/engine/Slots", name := "take", desc := "()Z" } : Jvm.MethodName) prog_18_method_2_code (2 : Nat) (Option.some Jvm.ClassFile.FieldType.boolean)).before args0 about1 = true := code_word (m := ⟨3, 1⟩) (meth := k3m1) (c := k3c1) (by decide +kernel) rfl rfl rfl (by decide +kernel)
set_option maxRecDepth 65536 in
theorem w_c7 : (Jvm.Cond.code ({ cls := "com/example/drumline/drumline/engine/Slots", name := "taken", desc := "()I" } : Jvm.MethodName) prog_18_method_4_code (1 : Nat) (Option.some Jvm.ClassFile.FieldType.int)).before args0 about1 = true := code_word (m := ⟨3, 2⟩) (meth := k3m2) (c := k3c2) (by decide +kernel) rfl rfl rfl (by decide +kernel)
set_option maxRecDepth 65536 in
theorem w_c8 : (Jvm.Cond.code ({ cls := "com/example/drumline/drumline/engine/Slots", name := "free", desc := "()V" } : Jvm.MethodName) prog_18_method_7_code (1 : Nat) (Option.none : Option Jvm.ClassFile.FieldType)).before args0 about1 = true := code_word (m := ⟨3, 3⟩) (meth := k3m3) (c := k3c3) (by decide +kernel) rfl rfl rfl (by decide +kernel)
set_option maxRecDepth 65536 in
theorem w_c9 : (Jvm.Cond.code ({ cls := "java/lang/Math", name := "min", desc := "(II)I" } : Jvm.MethodName) jdk_29_method_69_code (2 : Nat) (Option.some Jvm.ClassFile.FieldType.int)).before args0 about1 = true := code_word (m := ⟨2, 2⟩) (meth := k2m2) (c := k2c2) (by decide +kernel) rfl rfl rfl (by decide +kernel)
def codes1 : List Jvm.Cond := [Jvm.Cond.code x code maxLocals ret, Jvm.Cond.code ({ cls := "java/lang/Math", name := "max", desc := "(II)I" } : Jvm.MethodName) jdk_29_method_65_code (2 : Nat) (Option.some Jvm.ClassFile.FieldType.int), Jvm.Cond.code ({ cls := "com/example/drumline/drumline/engine/Slots", name := "<init>", desc := "(I)V" } : Jvm.MethodName) prog_18_method_1_code (2 : Nat) (Option.none : Option Jvm.ClassFile.FieldType), Jvm.Cond.code ({ cls := "java/lang/Object", name := "<init>", desc := "()V" } : Jvm.MethodName) object_method_1_code (1 : Nat) (Option.none : Option Jvm.ClassFile.FieldType), Jvm.Cond.code ({ cls := "java/util/ArrayDeque", name := "<init>", desc := "()V" } : Jvm.MethodName) jdk_21_method_3_code (1 : Nat) (Option.none : Option Jvm.ClassFile.FieldType), Jvm.Cond.code ({ cls := "java/util/AbstractCollection", name := "<init>", desc := "()V" } : Jvm.MethodName) jdk_22_method_1_code (1 : Nat) (Option.none : Option Jvm.ClassFile.FieldType), Jvm.Cond.code ({ cls := "com/example/drumline/drumline/engine/Slots", name := "take", desc := "()Z" } : Jvm.MethodName) prog_18_method_2_code (2 : Nat) (Option.some Jvm.ClassFile.FieldType.boolean), Jvm.Cond.code ({ cls := "com/example/drumline/drumline/engine/Slots", name := "taken", desc := "()I" } : Jvm.MethodName) prog_18_method_4_code (1 : Nat) (Option.some Jvm.ClassFile.FieldType.int), Jvm.Cond.code ({ cls := "com/example/drumline/drumline/engine/Slots", name := "free", desc := "()V" } : Jvm.MethodName) prog_18_method_7_code (1 : Nat) (Option.none : Option Jvm.ClassFile.FieldType), Jvm.Cond.code ({ cls := "java/lang/Math", name := "min", desc := "(II)I" } : Jvm.MethodName) jdk_29_method_69_code (2 : Nat) (Option.some Jvm.ClassFile.FieldType.int)]
set_option maxRecDepth 65536 in
theorem codes_eq : words1.filter isCode = codes1 := rfl
theorem w_codes : ∀ c ∈ words1.filter isCode, c.before args0 about1 = true := by
  rw [codes_eq]
  intro c hc
  simp only [codes1, List.mem_cons, List.not_mem_nil, or_false] at hc
  rcases hc with rfl | rfl | rfl | rfl | rfl | rfl | rfl | rfl | rfl | rfl
  · exact w_c0
  · exact w_c1
  · exact w_c2
  · exact w_c3
  · exact w_c4
  · exact w_c5
  · exact w_c6
  · exact w_c7
  · exact w_c8
  · exact w_c9
set_option maxRecDepth 65536 in
theorem w_t1 : (words1.take 24).all (fun c => isCode c || c.before args0 about1) = true := by decide +kernel
set_option maxRecDepth 65536 in
theorem w_t2 : ((words1.drop 24).take 24).all (fun c => isCode c || c.before args0 about1) = true := by decide +kernel
set_option maxRecDepth 65536 in
theorem w_t3 : ((words1.drop 24).drop 24).all (fun c => isCode c || c.before args0 about1) = true := by decide +kernel
theorem w_tables : (allAtoms (Jvm.Cond.code x code maxLocals ret :: tables_1)).before args0 about1 = true := by
  rw [allAtoms_all]
  show words1.all (fun c => c.before args0 about1) = true
  refine all_split ?_ w_codes
  rw [← List.take_append_drop 24 words1, List.all_append, w_t1, ← List.take_append_drop 24 (words1.drop 24), List.all_append, w_t2, w_t3]
  rfl
set_option maxRecDepth 65536 in
theorem w_case : (Jvm.Cond.and given_1 narrow_1).before args0 about1 = true := by decide +kernel
theorem w_applies : (headSpec (Jvm.Cond.code x code maxLocals ret :: tables_1) room_1).applies x e0.platform about1 = true :=
  (Spec.applies_iff w_frames).mpr ⟨w_running, w_runnable, w_alone, w_named, w_hears, w_ripe, w_room, w_tables⟩
theorem atStart : AtStart classFile x code maxLocals ret World_1 tables_1 room_1 Calls_1 rest_1 Pre_1 launch0 p0 e0 about1 theMethod args0 below0 :=
  ⟨lists_1, trivial, launch0.admits_env _ _ _, launch0.least_env, fairChoices_fair.cas, fairChoices_fair.clock, w_frames, w_args, w_heap, w_applies, trivial, trivial, w_case⟩
end start1
theorem witness_1 : WitnessClaimed_1 := ⟨start1.p0, start1.e0, start1.about1, start1.theMethod, start1.args0, start1.below0, start1.atStart⟩
end Jvm.Pilot.@@N@@
