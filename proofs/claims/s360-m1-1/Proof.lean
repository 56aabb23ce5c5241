import JvmDerived
import JvmDerived.Pilot.@@N@@Statement
import JvmDerived.Pilot.@@N@@Code
set_option linter.unusedVariables false
set_option linter.unusedSimpArgs false
namespace Jvm.Pilot.@@N@@
open Jvm Jvm.ClassFile Sem Op Lib Jvm.Free Jvm.Stand Jvm.LawKit Jvm.RoadKit Bundle Jvm.Pilot.@@N@@.Jvm.D
/-- a body's contract by a walk whose goal is a predicate G: 'go' takes a step, 'fin' a return -/
theorem own_enter {l : Launch} {y : MethodName} {cd : ByteArray} {ml : Nat} {rt : Option FieldType} {ws : List Jvm.Cond} {R : Room} {Z : State} {h0 : Heap} {as : Array Value} {Q : Option Value → Heap → List Loc → Prop} (hpl : plainFor y = true)
    (body : ∀ (p : Program) (e : Env) (s : State) (m : MethodId) (below : List Frame) (meth : Method) (c : Code) (s₁ : State) (G : State → Prop),
      Stand p l e R s m as below meth c s₁ [] 0 0 → p.tables.exec = Jvm.exec → c.code = cd → c.maxLocals = ml → Z.Warmed39 s.vm → s.vm.findClass y.cls = some m.cls → meth.name = y.name → meth.sig.returnType = rt → s₁.heap = h0 →
      (∀ {a b : State}, (∀ t, Steps p.tables e below b t → Steps p.tables e below a t) → G b → G a) →
      (∀ {T : State} {locs : List Loc} {cells slots : Nat} {g : JFrame} (v : Option Value), Stand p l e R s m as below meth c T locs cells slots → (rt = none → v = none) →
        (∀ fs, (∀ (f : JFrame) (acts : List Action), f.method = m → f.locked = none → f.entered = [] → (doReturn e (T.setTop f) acts v).1 = T.setFrames fs) → Steps p.tables e below (T.setTop g) (T.setFrames fs)) →
        cells ≤ R.cells → slots ≤ R.slots → Q v T.heap locs → G (T.setTop g)) →
      G (s₁.setTop (entryFrame m as ml))) :
    MetFree l y (head1 (Jvm.Cond.code y cd ml rt :: ws) R) (fun a U => a = as ∧ Z.Warmed39 U.vm ∧ U.heap = h0) (fun _ _ _ _ _ => True) (fun _ U o U' => ∃ v L, o = .returned v ∧ Q v U'.heap L ∧ FrameEnd U o U' L R.cells R.slots) := by
  refine MetFree.of_bodySF hpl hisR ?_
  intro p e s m args below meth c s₁ Bd hml0 hP hK
  obtain ⟨rfl, hZ, hh⟩ := hP
  have hlk : meth.locks = false := Bd.notSynchronized
  have key := body p e s m below meth c s₁ (fun a => ∃ t, Steps p.tables e below a t ∧ ∃ o, t.status = .running ∧ Ended t below o ∧ ∃ v L, o = .returned v ∧ Q v t.heap L ∧ FrameEnd s o t L R.cells R.slots)
    (Stand.of_body Bd) Bd.exec Bd.bytes hml0 hZ (findClass_of_methodNamed Bd.named) (name_of_methodNamed Bd.named Bd.method).1 Bd.returns (by rw [← hh, Bd.state]; rfl)
    (fun h g => by obtain ⟨t, h1, h2⟩ := g; exact ⟨t, h t h1, h2⟩)
    (fun {T locs cells slots g} v X hv hs hc hsl hQ => by
      obtain ⟨fs, hr, hrun, hended, hW, hsame⟩ := X.leave (v := v) (fun h => hv (Bd.returns.symm.trans h)) hlk
      exact ⟨_, hs fs hr, _, hrun, hended, v, locs, rfl, hQ, ⟨_, rfl⟩, hW, hsame.mono hc hsl⟩)
  obtain ⟨t, h1, o, h2, h3, h4⟩ := key
  exact ⟨t, o, h1, h2, h3, h4⟩
theorem own_lrem {p : Program} {l : Launch} {e : Env} {R : Room} {s : State} {m : MethodId} {args : Array Value} {below : List Frame} {meth : Method} {c : Code} {T : State} {locs : List Loc} {cells slots : Nat} {g : JFrame} {target : State} (X : Stand p l e R s m args below meth c T locs cells slots) (hx : p.tables.exec = Jvm.exec) (hg : g.method = m) {x y : Int64} {rest : List Value} (hd : decode c.code g.pc = .ok (.lrem, 1)) (hs : g.stack = .long y :: .long x :: rest) (hy : y ≠ 0)
    (hr : Steps p.tables e below (T.setTop { g with pc := g.pc + 1, stack := .long (x % y) :: rest }) target) : Steps p.tables e below (T.setTop g) target := XS.lrem X.here hx hg hd hs hy (by rw [lrem_mod]; exact hr)
theorem own_irr (x : Int32) : ¬ x < x := Int32.lt_irrefl
theorem own_irrL (x : Int64) : ¬ x < x := Int64.lt_irrefl
theorem own_eq_int {a : Term} {k : Int32} {args : Array Value} {first s : State} {o : Option Outcome} {idx : List Nat} (h : (Jvm.Cond.eq a (.int k)).value args first o s idx = some true) : a.eval args first o idx s = some (.int k) := by
  obtain ⟨x, y, ha, hb, k1, k2⟩ := cmp_v (Or.inl h)
  cases (show some (Value.int k) = some y from hb)
  obtain ⟨z, rfl⟩ := k2
  have q : (Jvm.Cond.eq a (.int k)).value args first o s idx = some (decide (z = k)) := by simp [Cond.value, ha, Term.eval]
  rw [gotT q h] at ha
  exact ha
theorem own_eq_ref {a b : Term} {u : Addr} {args : Array Value} {first s : State} {o : Option Outcome} {idx : List Nat} (h : (Jvm.Cond.eq a b).value args first o s idx = some true) (hb : b.eval args first o idx s = some (.ref u)) : a.eval args first o idx s = some (.ref u) := by
  obtain ⟨x, y, ha, hb', k1, k2⟩ := cmp_v (Or.inl h)
  cases hb.symm.trans hb'
  have hr : x.isRef = true := by cases x <;> simp_all [Kin, Value.isRef]
  have q := gotT (eq_R ha hb hr rfl) h
  rw [q] at ha
  exact ha
theorem own_exa_ns {Z : State} {h : Heap} {a : Addr} {C : String} (F : Exa Z h a C) : ∀ cell : Cell, h[a]? = some cell → cell.vm.isStatics = false := fun cell hc => by
  obtain ⟨c, k, h1, -, -, h4, -⟩ := F
  cases hc.symm.trans h1
  exact h4
theorem own_sta_keep {Z : State} {h h' : Heap} {C n d : String} {v : Value} {ws : List Addr} (F : Sta Z h C n d v) (K : Keep h h' ws) (q : ∀ a ∈ ws, ∀ cell : Cell, h[a]? = some cell → cell.vm.isStatics = false) : Sta Z h' C n d v := by
  obtain ⟨cf, i, k, f, st, cell, h1, h2, h3, h4, h5, h6, h7⟩ := F
  exact ⟨cf, i, k, f, st, cell, h1, h2, h3, h4, K.2.1 _ _ h5 (fun z => by rw [q _ z _ h5] at h6; cases h6), h6, h7⟩
theorem own_len {s : State} {args : Array Value} {t : Term} {a : Addr} {cl : Cell} {ty : FieldType} {z : Int32} (ht : t.eval args s none [] s = some (.ref a)) (A : Arr s s.heap a cl ty) (h : (Term.length t).eval args s none [] s = some (.int z)) : cl.slots.size < 2 ^ 31 ∧ cl.slots.size.toInt32 = z := by
  have ha := Arr.fin (State.Warmed39.refl s).alike A
  by_cases hn : cl.slots.size < 2 ^ 31
  · have q := (len_f ht ha hn).symm.trans h
    exact ⟨hn, Value.int.inj (Option.some.inj q)⟩
  · simp [Term.eval, ht, ha] at h
    omega
theorem own_elem {s : State} {args : Array Value} {t : Term} {a : Addr} {cl : Cell} {ty : FieldType} {j : Int32} {v : Value} (ht : t.eval args s none [] s = some (.ref a)) (A : Arr s s.heap a cl ty) (h : (Term.elem t (.int j)).eval args s none [] s = some v) (hn : ¬ j < 0) : cl.slots[j.toNatClampNeg]? = some v :=
  (elem_f ht rfl (Arr.fin (State.Warmed39.refl s).alike A) hn).symm.trans h
theorem own_selp {Z s : State} {a0 args : Array Value} {y : MethodName} {n : Nat} (hZ : Z.Warmed39 s.vm) (wi : (Jvm.Cond.instantiable y.cls n).before a0 Z = true) (wp : (Jvm.Cond.privateMethod y).before a0 Z = true) (wm : (Jvm.Cond.instanceMethod y).before a0 Z = true) (hy : y.cls ≠ "java/lang/invoke/MethodHandle" ∧ y.cls ≠ "java/lang/invoke/VarHandle") : (Jvm.Cond.selects y.cls y y).before args s = true := by
  have wi' : (Jvm.Cond.instantiable y.cls n).before args s = true := mvT hZ wi
  obtain ⟨c, k, h1, h2, -, h4, -⟩ := Cond.instantiable_spec wi'
  exact selects_self_of_private h1 h2 (Bool.or_eq_false_iff.mp h4).1 (Cond.privateMethod_at (mvP hZ wp (args := args))) (mvT hZ wm) hy
def own_once (o uf ue ur : Addr) (r : Int32) : Addr := if (o = uf ∨ o = ue) ∧ (0 : Int32) < r then ur else o
theorem own_o1 {o uf ue ur : Addr} {r : Int32} (h : o = uf ∨ o = ue) (q : (0 : Int32) < r) : own_once o uf ue ur r = ur := if_pos ⟨h, q⟩
theorem own_o2 {o uf ue ur : Addr} {r : Int32} (q : ¬ (0 : Int32) < r) : own_once o uf ue ur r = o := if_neg fun z => q z.2
theorem own_o3 {o uf ue ur : Addr} {r : Int32} (h : ¬ o = uf) (h' : ¬ o = ue) : own_once o uf ue ur r = o := if_neg fun z => z.1.elim h h'
theorem own_r1 {r : Int32} (h : (0 : Int32) < r) : ¬ r < (1 : Int32) := by
  have h4 : (1 : Int32).toInt = 1 := by decide
  have h5 : (0 : Int32).toInt = 0 := by decide
  rw [Int32.lt_iff_toInt_lt] at h ⊢; omega
theorem own_r0 {r : Int32} (h : ¬ (0 : Int32) < r) : r < (1 : Int32) := by
  have h4 : (1 : Int32).toInt = 1 := by decide
  have h5 : (0 : Int32).toInt = 0 := by decide
  rw [Int32.lt_iff_toInt_lt] at h ⊢; omega
theorem own_lt8 (x : Int32) : (x &&& (7 : Int32)) = 0 ∨ (x &&& (7 : Int32)) = 1 ∨ (x &&& (7 : Int32)) = 2 ∨ (x &&& (7 : Int32)) = 3 ∨ (x &&& (7 : Int32)) = 4 ∨ (x &&& (7 : Int32)) = 5 ∨ (x &&& (7 : Int32)) = 6 ∨ (x &&& (7 : Int32)) = 7 := by
  have h1 := c_and x 7 (by decide)
  have h7 : (7 : Int32).toInt = 7 := by decide
  have k0 : (0 : Int32).toInt = 0 := by decide
  have k1 : (1 : Int32).toInt = 1 := by decide
  have k2 : (2 : Int32).toInt = 2 := by decide
  have k3 : (3 : Int32).toInt = 3 := by decide
  have k4 : (4 : Int32).toInt = 4 := by decide
  have k5 : (5 : Int32).toInt = 5 := by decide
  have k6 : (6 : Int32).toInt = 6 := by decide
  simp only [← Int32.toInt_inj]
  omega
theorem pn_com_example_scatterd_scatterd_model_JobState : plainName "com/example/scatterd/scatterd/model/JobState" = true := by first | (simp [plainName, overriddenIn]; done) | decide +kernel
theorem ef_1 (m : MethodId) (x0 : Addr) (x1 : Int32) : entryFrame m #[(.ref x0), (.int x1)] 3 = mkF m 0 #[.val (.ref x0), .val (.int x1), .unset] [] := by first | (simp [entryFrame, mkF, argsToLocals, Value.category]; done) | rfl
theorem d1_0 : decode prog_32_method_9_code 0 = .ok (.aload_n 0, 1) := by decide +kernel
theorem d1_1 : decode prog_32_method_9_code 1 = .ok (.getstatic 19, 3) := by decide +kernel
theorem d1_4 : decode prog_32_method_9_code 4 = .ok (.if_acmp .eq 10, 3) := by decide +kernel
theorem d1_14 : decode prog_32_method_9_code 14 = .ok (.iload_n 1, 1) := by decide +kernel
theorem d1_15 : decode prog_32_method_9_code 15 = .ok (.ifCond .le 7, 3) := by decide +kernel
theorem d1_18 : decode prog_32_method_9_code 18 = .ok (.iconst 1, 1) := by decide +kernel
theorem d1_19 : decode prog_32_method_9_code 19 = .ok (.goto 4, 3) := by decide +kernel
theorem d1_23 : decode prog_32_method_9_code 23 = .ok (.istore_n 2, 1) := by decide +kernel
theorem d1_24 : decode prog_32_method_9_code 24 = .ok (.iload_n 2, 1) := by decide +kernel
theorem d1_25 : decode prog_32_method_9_code 25 = .ok (.ifCond .eq 9, 3) := by decide +kernel
theorem d1_28 : decode prog_32_method_9_code 28 = .ok (.getstatic 7, 3) := by decide +kernel
theorem d1_31 : decode prog_32_method_9_code 31 = .ok (.goto 4, 3) := by decide +kernel
theorem d1_35 : decode prog_32_method_9_code 35 = .ok (.areturn, 1) := by decide +kernel
theorem d1_22 : decode prog_32_method_9_code 22 = .ok (.iconst 0, 1) := by decide +kernel
theorem d1_34 : decode prog_32_method_9_code 34 = .ok (.aload_n 0, 1) := by decide +kernel
theorem d1_7 : decode prog_32_method_9_code 7 = .ok (.aload_n 0, 1) := by decide +kernel
theorem d1_8 : decode prog_32_method_9_code 8 = .ok (.getstatic 22, 3) := by decide +kernel
theorem d1_11 : decode prog_32_method_9_code 11 = .ok (.if_acmp .ne 11, 3) := by decide +kernel
def Q_rm1 (Z : State) (oe : Addr) (xr : Int32) (u_FAILED : Addr) (u_ERROR : Addr) (u_READY : Addr) (h0 : Heap) (n0 : Nat) (v : Option Value) (h : Heap) (L : List Loc) : Prop := v = some (.ref (own_once oe u_FAILED u_ERROR u_READY xr)) ∧ Fr n0 L ∧ h = h0
set_option maxRecDepth 65536 in
set_option maxHeartbeats 40000000 in
theorem rm1 (l : Launch) (Z : State) (a0 : Array Value) (hw : ∀ d ∈ tables_1, d.before a0 Z = true) (ws : List Jvm.Cond) (oe : Addr) (xr : Int32) (u_FAILED : Addr) (u_ERROR : Addr) (u_READY : Addr) (h0 : Heap) (n0 : Nat) (Z0 : n0 ≤ h0.size) (S_u_FAILED : Sta Z h0 "com/example/scatterd/scatterd/model/JobState" "FAILED" "Lcom/example/scatterd/scatterd/model/JobState;" (.ref u_FAILED)) (S_u_ERROR : Sta Z h0 "com/example/scatterd/scatterd/model/JobState" "ERROR" "Lcom/example/scatterd/scatterd/model/JobState;" (.ref u_ERROR)) (S_u_READY : Sta Z h0 "com/example/scatterd/scatterd/model/JobState" "READY" "Lcom/example/scatterd/scatterd/model/JobState;" (.ref u_READY)) :
    MetFree l (⟨"com/example/scatterd/scatterd/model/JobState", "onceAttemptEnded", "(Lcom/example/scatterd/scatterd/model/JobState;I)Lcom/example/scatterd/scatterd/model/JobState;"⟩ : MethodName) (head1 (Jvm.Cond.code (⟨"com/example/scatterd/scatterd/model/JobState", "onceAttemptEnded", "(Lcom/example/scatterd/scatterd/model/JobState;I)Lcom/example/scatterd/scatterd/model/JobState;"⟩ : MethodName) prog_32_method_9_code 3 (some (.object "com/example/scatterd/scatterd/model/JobState")) :: ws) ({ frames := 0, cells := 0, slots := 0, locals := 0 } : Room)) (fun a U => a = #[(.ref oe), (.int xr)] ∧ Z.Warmed39 U.vm ∧ U.heap = h0) (fun _ _ _ _ _ => True) (fun _ U o U' => ∃ v L, o = .returned v ∧ Q_rm1 Z oe xr u_FAILED u_ERROR u_READY h0 n0 v U'.heap L ∧ FrameEnd U o U' L ({ frames := 0, cells := 0, slots := 0, locals := 0 } : Room).cells ({ frames := 0, cells := 0, slots := 0, locals := 0 } : Room).slots) := by
  refine own_enter (Q := Q_rm1 Z oe xr u_FAILED u_ERROR u_READY h0 n0) (plainFor_of_name pn_com_example_scatterd_scatterd_model_JobState) ?_
  intro p e s m below meth c s₁ G X0 hx hby hml hZ hown hnm hret e0 go fin
  replace hown : s.vm.findClass "com/example/scatterd/scatterd/model/JobState" = some m.cls := hown
  replace hnm : meth.name = "onceAttemptEnded" := hnm
  replace hml : c.maxLocals = 3 := hml
  rw [ef_1 m oe xr]
  have N0 := Fr.nil n0
  show G (s₁.setTop (mkF m 0 #[.val (.ref oe), .val (.int xr), .unset] []))
  refine go (fun tg kg => XS.aloadN X0.here hx rfl (hb hby d1_0) rfl rfl kg) ?_
  show G (s₁.setTop (mkF m 1 #[.val (.ref oe), .val (.int xr), .unset] [(.ref oe)]))
  obtain ⟨T1, X1, e1, st1⟩ := getS2 X0 hx hZ hown (host := "") (Or.inl (hw _ (List.mem_of_getElem? (i := 23) rfl))) Via.refl e0 S_u_FAILED (g := (mkF m 1 #[.val (.ref oe), .val (.int xr), .unset] [(.ref oe)])) rfl (hb hby d1_1)
  refine go st1 ?_
  show G (T1.setTop (mkF m 4 #[.val (.ref oe), .val (.int xr), .unset] [(.ref u_FAILED), (.ref oe)]))
  by_cases ha2 : oe = u_FAILED
  · refine go (fun tg kg => Jvm.RoadKit.acmp (g := (mkF m 4 #[.val (.ref oe), .val (.int xr), .unset] [(.ref u_FAILED), (.ref oe)])) X1 hx rfl rfl rfl (pc0 := 4) (pc' := 14) (same := true) rfl (hb hby d1_4) rfl (decide_eq_true (congrArg Value.ref ha2)) (by decide) (by decide) kg) ?_
    show G (T1.setTop (mkF m 14 #[.val (.ref oe), .val (.int xr), .unset] []))
    refine go (fun tg kg => XS.iloadN X1.here hx rfl (hb hby d1_14) rfl kg) ?_
    show G (T1.setTop (mkF m 15 #[.val (.ref oe), .val (.int xr), .unset] [(.int xr)]))
    by_cases hc3 : (0 : Int32) < xr
    · refine go (fun tg kg => XS.ifNo X1.here hx rfl (hb hby d1_15) rfl ((if0 _ _).trans (tlt hc3).2.2.2) kg) ?_
      show G (T1.setTop (mkF m 18 #[.val (.ref oe), .val (.int xr), .unset] []))
      refine go (fun tg kg => XS.iconst X1.here hx rfl (hb hby d1_18) kg) ?_
      show G (T1.setTop (mkF m 19 #[.val (.ref oe), .val (.int xr), .unset] [(.int (1 : Int32))]))
      refine go (fun tg kg => XS.goto X1.here hx rfl (pc0 := 19) (pc' := 23) rfl (hb hby d1_19) (by decide) (by decide) kg) ?_
      show G (T1.setTop (mkF m 23 #[.val (.ref oe), .val (.int xr), .unset] [(.int (1 : Int32))]))
      refine go (fun tg kg => XS.istoreN X1.here hx rfl (hb hby d1_23) rfl (l' := #[.val (.ref oe), .val (.int xr), .val (.int (1 : Int32))]) rfl kg) ?_
      show G (T1.setTop (mkF m 24 #[.val (.ref oe), .val (.int xr), .val (.int (1 : Int32))] []))
      refine go (fun tg kg => XS.iloadN X1.here hx rfl (hb hby d1_24) rfl kg) ?_
      show G (T1.setTop (mkF m 25 #[.val (.ref oe), .val (.int xr), .val (.int (1 : Int32))] [(.int (1 : Int32))]))
      refine go (fun tg kg => XS.ifNo X1.here hx rfl (hb hby d1_25) rfl ((if0 _ _).trans (feq (by decide)).1) kg) ?_
      show G (T1.setTop (mkF m 28 #[.val (.ref oe), .val (.int xr), .val (.int (1 : Int32))] []))
      obtain ⟨T4, X4, e4, st4⟩ := getS2 X1 hx hZ hown (host := "") (Or.inl (hw _ (List.mem_of_getElem? (i := 25) rfl))) Via.refl e1 S_u_READY (g := (mkF m 28 #[.val (.ref oe), .val (.int xr), .val (.int (1 : Int32))] [])) rfl (hb hby d1_28)
      refine go st4 ?_
      show G (T4.setTop (mkF m 31 #[.val (.ref oe), .val (.int xr), .val (.int (1 : Int32))] [(.ref u_READY)]))
      refine go (fun tg kg => XS.goto X4.here hx rfl (pc0 := 31) (pc' := 35) rfl (hb hby d1_31) (by decide) (by decide) kg) ?_
      show G (T4.setTop (mkF m 35 #[.val (.ref oe), .val (.int xr), .val (.int (1 : Int32))] [(.ref u_READY)]))
      refine fin (some (.ref u_READY)) X4 (fun h => absurd h (by decide)) (fun fs hr => retOut X4 hx hret rfl (Or.inr (Or.inr (Or.inr (Or.inr ⟨rfl, rfl, rfl⟩)))) (hb hby d1_35) hr) (by decide) (by decide) ?_
      rw [e4]
      refine ⟨?_, N0, rfl⟩
      unfold own_once
      simp [ha2, hc3]
    · refine go (fun tg kg => XS.ifYes X1.here hx rfl (pc0 := 15) (pc' := 22) rfl (hb hby d1_15) rfl ((if0 _ _).trans (flt hc3).2.2.2) (by decide) (by decide) kg) ?_
      show G (T1.setTop (mkF m 22 #[.val (.ref oe), .val (.int xr), .unset] []))
      refine go (fun tg kg => XS.iconst X1.here hx rfl (hb hby d1_22) kg) ?_
      show G (T1.setTop (mkF m 23 #[.val (.ref oe), .val (.int xr), .unset] [(.int (0 : Int32))]))
      refine go (fun tg kg => XS.istoreN X1.here hx rfl (hb hby d1_23) rfl (l' := #[.val (.ref oe), .val (.int xr), .val (.int (0 : Int32))]) rfl kg) ?_
      show G (T1.setTop (mkF m 24 #[.val (.ref oe), .val (.int xr), .val (.int (0 : Int32))] []))
      refine go (fun tg kg => XS.iloadN X1.here hx rfl (hb hby d1_24) rfl kg) ?_
      show G (T1.setTop (mkF m 25 #[.val (.ref oe), .val (.int xr), .val (.int (0 : Int32))] [(.int (0 : Int32))]))
      refine go (fun tg kg => XS.ifYes X1.here hx rfl (pc0 := 25) (pc' := 34) rfl (hb hby d1_25) rfl ((if0 _ _).trans (teq (by decide)).1) (by decide) (by decide) kg) ?_
      show G (T1.setTop (mkF m 34 #[.val (.ref oe), .val (.int xr), .val (.int (0 : Int32))] []))
      refine go (fun tg kg => XS.aloadN X1.here hx rfl (hb hby d1_34) rfl rfl kg) ?_
      show G (T1.setTop (mkF m 35 #[.val (.ref oe), .val (.int xr), .val (.int (0 : Int32))] [(.ref oe)]))
      refine fin (some (.ref oe)) X1 (fun h => absurd h (by decide)) (fun fs hr => retOut X1 hx hret rfl (Or.inr (Or.inr (Or.inr (Or.inr ⟨rfl, rfl, rfl⟩)))) (hb hby d1_35) hr) (by decide) (by decide) ?_
      rw [e1]
      refine ⟨?_, N0, rfl⟩
      unfold own_once
      simp [ha2, hc3]
  · refine go (fun tg kg => Jvm.RoadKit.acmp (g := (mkF m 4 #[.val (.ref oe), .val (.int xr), .unset] [(.ref u_FAILED), (.ref oe)])) X1 hx rfl rfl rfl (pc0 := 4) (pc' := 7) (same := false) rfl (hb hby d1_4) rfl (decide_eq_false fun q => ha2 (Value.ref.inj q)) (by decide) (by decide) kg) ?_
    show G (T1.setTop (mkF m 7 #[.val (.ref oe), .val (.int xr), .unset] []))
    refine go (fun tg kg => XS.aloadN X1.here hx rfl (hb hby d1_7) rfl rfl kg) ?_
    show G (T1.setTop (mkF m 8 #[.val (.ref oe), .val (.int xr), .unset] [(.ref oe)]))
    obtain ⟨T5, X5, e5, st5⟩ := getS2 X1 hx hZ hown (host := "") (Or.inl (hw _ (List.mem_of_getElem? (i := 24) rfl))) Via.refl e1 S_u_ERROR (g := (mkF m 8 #[.val (.ref oe), .val (.int xr), .unset] [(.ref oe)])) rfl (hb hby d1_8)
    refine go st5 ?_
    show G (T5.setTop (mkF m 11 #[.val (.ref oe), .val (.int xr), .unset] [(.ref u_ERROR), (.ref oe)]))
    by_cases ha6 : oe = u_ERROR
    · refine go (fun tg kg => Jvm.RoadKit.acmp (g := (mkF m 11 #[.val (.ref oe), .val (.int xr), .unset] [(.ref u_ERROR), (.ref oe)])) X5 hx rfl rfl rfl (pc0 := 11) (pc' := 14) (same := true) rfl (hb hby d1_11) rfl (decide_eq_true (congrArg Value.ref ha6)) (by decide) (by decide) kg) ?_
      show G (T5.setTop (mkF m 14 #[.val (.ref oe), .val (.int xr), .unset] []))
      refine go (fun tg kg => XS.iloadN X5.here hx rfl (hb hby d1_14) rfl kg) ?_
      show G (T5.setTop (mkF m 15 #[.val (.ref oe), .val (.int xr), .unset] [(.int xr)]))
      by_cases hc7 : (0 : Int32) < xr
      · refine go (fun tg kg => XS.ifNo X5.here hx rfl (hb hby d1_15) rfl ((if0 _ _).trans (tlt hc7).2.2.2) kg) ?_
        show G (T5.setTop (mkF m 18 #[.val (.ref oe), .val (.int xr), .unset] []))
        refine go (fun tg kg => XS.iconst X5.here hx rfl (hb hby d1_18) kg) ?_
        show G (T5.setTop (mkF m 19 #[.val (.ref oe), .val (.int xr), .unset] [(.int (1 : Int32))]))
        refine go (fun tg kg => XS.goto X5.here hx rfl (pc0 := 19) (pc' := 23) rfl (hb hby d1_19) (by decide) (by decide) kg) ?_
        show G (T5.setTop (mkF m 23 #[.val (.ref oe), .val (.int xr), .unset] [(.int (1 : Int32))]))
        refine go (fun tg kg => XS.istoreN X5.here hx rfl (hb hby d1_23) rfl (l' := #[.val (.ref oe), .val (.int xr), .val (.int (1 : Int32))]) rfl kg) ?_
        show G (T5.setTop (mkF m 24 #[.val (.ref oe), .val (.int xr), .val (.int (1 : Int32))] []))
        refine go (fun tg kg => XS.iloadN X5.here hx rfl (hb hby d1_24) rfl kg) ?_
        show G (T5.setTop (mkF m 25 #[.val (.ref oe), .val (.int xr), .val (.int (1 : Int32))] [(.int (1 : Int32))]))
        refine go (fun tg kg => XS.ifNo X5.here hx rfl (hb hby d1_25) rfl ((if0 _ _).trans (feq (by decide)).1) kg) ?_
        show G (T5.setTop (mkF m 28 #[.val (.ref oe), .val (.int xr), .val (.int (1 : Int32))] []))
        obtain ⟨T8, X8, e8, st8⟩ := getS2 X5 hx hZ hown (host := "") (Or.inl (hw _ (List.mem_of_getElem? (i := 25) rfl))) Via.refl e5 S_u_READY (g := (mkF m 28 #[.val (.ref oe), .val (.int xr), .val (.int (1 : Int32))] [])) rfl (hb hby d1_28)
        refine go st8 ?_
        show G (T8.setTop (mkF m 31 #[.val (.ref oe), .val (.int xr), .val (.int (1 : Int32))] [(.ref u_READY)]))
        refine go (fun tg kg => XS.goto X8.here hx rfl (pc0 := 31) (pc' := 35) rfl (hb hby d1_31) (by decide) (by decide) kg) ?_
        show G (T8.setTop (mkF m 35 #[.val (.ref oe), .val (.int xr), .val (.int (1 : Int32))] [(.ref u_READY)]))
        refine fin (some (.ref u_READY)) X8 (fun h => absurd h (by decide)) (fun fs hr => retOut X8 hx hret rfl (Or.inr (Or.inr (Or.inr (Or.inr ⟨rfl, rfl, rfl⟩)))) (hb hby d1_35) hr) (by decide) (by decide) ?_
        rw [e8]
        refine ⟨?_, N0, rfl⟩
        unfold own_once
        simp [ha2, ha6, hc7]
      · refine go (fun tg kg => XS.ifYes X5.here hx rfl (pc0 := 15) (pc' := 22) rfl (hb hby d1_15) rfl ((if0 _ _).trans (flt hc7).2.2.2) (by decide) (by decide) kg) ?_
        show G (T5.setTop (mkF m 22 #[.val (.ref oe), .val (.int xr), .unset] []))
        refine go (fun tg kg => XS.iconst X5.here hx rfl (hb hby d1_22) kg) ?_
        show G (T5.setTop (mkF m 23 #[.val (.ref oe), .val (.int xr), .unset] [(.int (0 : Int32))]))
        refine go (fun tg kg => XS.istoreN X5.here hx rfl (hb hby d1_23) rfl (l' := #[.val (.ref oe), .val (.int xr), .val (.int (0 : Int32))]) rfl kg) ?_
        show G (T5.setTop (mkF m 24 #[.val (.ref oe), .val (.int xr), .val (.int (0 : Int32))] []))
        refine go (fun tg kg => XS.iloadN X5.here hx rfl (hb hby d1_24) rfl kg) ?_
        show G (T5.setTop (mkF m 25 #[.val (.ref oe), .val (.int xr), .val (.int (0 : Int32))] [(.int (0 : Int32))]))
        refine go (fun tg kg => XS.ifYes X5.here hx rfl (pc0 := 25) (pc' := 34) rfl (hb hby d1_25) rfl ((if0 _ _).trans (teq (by decide)).1) (by decide) (by decide) kg) ?_
        show G (T5.setTop (mkF m 34 #[.val (.ref oe), .val (.int xr), .val (.int (0 : Int32))] []))
        refine go (fun tg kg => XS.aloadN X5.here hx rfl (hb hby d1_34) rfl rfl kg) ?_
        show G (T5.setTop (mkF m 35 #[.val (.ref oe), .val (.int xr), .val (.int (0 : Int32))] [(.ref oe)]))
        refine fin (some (.ref oe)) X5 (fun h => absurd h (by decide)) (fun fs hr => retOut X5 hx hret rfl (Or.inr (Or.inr (Or.inr (Or.inr ⟨rfl, rfl, rfl⟩)))) (hb hby d1_35) hr) (by decide) (by decide) ?_
        rw [e5]
        refine ⟨?_, N0, rfl⟩
        unfold own_once
        simp [ha2, ha6, hc7]
    · refine go (fun tg kg => Jvm.RoadKit.acmp (g := (mkF m 11 #[.val (.ref oe), .val (.int xr), .unset] [(.ref u_ERROR), (.ref oe)])) X5 hx rfl rfl rfl (pc0 := 11) (pc' := 22) (same := false) rfl (hb hby d1_11) rfl (decide_eq_false fun q => ha6 (Value.ref.inj q)) (by decide) (by decide) kg) ?_
      show G (T5.setTop (mkF m 22 #[.val (.ref oe), .val (.int xr), .unset] []))
      refine go (fun tg kg => XS.iconst X5.here hx rfl (hb hby d1_22) kg) ?_
      show G (T5.setTop (mkF m 23 #[.val (.ref oe), .val (.int xr), .unset] [(.int (0 : Int32))]))
      refine go (fun tg kg => XS.istoreN X5.here hx rfl (hb hby d1_23) rfl (l' := #[.val (.ref oe), .val (.int xr), .val (.int (0 : Int32))]) rfl kg) ?_
      show G (T5.setTop (mkF m 24 #[.val (.ref oe), .val (.int xr), .val (.int (0 : Int32))] []))
      refine go (fun tg kg => XS.iloadN X5.here hx rfl (hb hby d1_24) rfl kg) ?_
      show G (T5.setTop (mkF m 25 #[.val (.ref oe), .val (.int xr), .val (.int (0 : Int32))] [(.int (0 : Int32))]))
      refine go (fun tg kg => XS.ifYes X5.here hx rfl (pc0 := 25) (pc' := 34) rfl (hb hby d1_25) rfl ((if0 _ _).trans (teq (by decide)).1) (by decide) (by decide) kg) ?_
      show G (T5.setTop (mkF m 34 #[.val (.ref oe), .val (.int xr), .val (.int (0 : Int32))] []))
      refine go (fun tg kg => XS.aloadN X5.here hx rfl (hb hby d1_34) rfl rfl kg) ?_
      show G (T5.setTop (mkF m 35 #[.val (.ref oe), .val (.int xr), .val (.int (0 : Int32))] [(.ref oe)]))
      refine fin (some (.ref oe)) X5 (fun h => absurd h (by decide)) (fun fs hr => retOut X5 hx hret rfl (Or.inr (Or.inr (Or.inr (Or.inr ⟨rfl, rfl, rfl⟩)))) (hb hby d1_35) hr) (by decide) (by decide) ?_
      rw [e5]
      refine ⟨?_, N0, rfl⟩
      unfold own_once
      simp [ha2, ha6]
theorem pn_com_example_scatterd_scatterd_model_JobStateOnceAttemptEndedPinLaw : plainName "com/example/scatterd/scatterd/model/JobStateOnceAttemptEndedPinLaw" = true := by first | (simp [plainName, overriddenIn]; done) | decide +kernel
theorem ef_0 (m : MethodId) (x0 : Int32) (x1 : Int32) : entryFrame m #[(.int x0), (.int x1)] maxLocals = mkF m 0 #[.val (.int x0), .val (.int x1), .unset, .unset, .unset, .unset, .unset] [] := by first | (simp [entryFrame, mkF, argsToLocals, Value.category, maxLocals]; done) | rfl
theorem pd__Lcom_example_scatterd_scatterd_model_JobState_I_Lcom_example_scatterd_scatterd_model_JobState_ : parseMethodDescriptor "(Lcom/example/scatterd/scatterd/model/JobState;I)Lcom/example/scatterd/scatterd/model/JobState;" = some ⟨[(.object "com/example/scatterd/scatterd/model/JobState"), .int], some (.object "com/example/scatterd/scatterd/model/JobState")⟩ := by decide +kernel
def Q_rm0 (Z : State) (x0 : Int32) (x1 : Int32) (u_PENDING : Addr) (u_READY : Addr) (u_CREATING : Addr) (u_RUNNING : Addr) (u_SUCCESS : Addr) (u_FAILED : Addr) (u_ERROR : Addr) (u_CANCELLED : Addr) (h0 : Heap) (n0 : Nat) (v : Option Value) (h : Heap) (L : List Loc) : Prop := v = some (.int 1) ∧ Fr n0 L
set_option maxRecDepth 65536 in
set_option maxHeartbeats 40000000 in
theorem rm0 (l : Launch) (Z : State) (a0 : Array Value) (hw : ∀ d ∈ tables_1, d.before a0 Z = true) (ws : List Jvm.Cond) (x0 : Int32) (x1 : Int32) (u_PENDING : Addr) (u_READY : Addr) (u_CREATING : Addr) (u_RUNNING : Addr) (u_SUCCESS : Addr) (u_FAILED : Addr) (u_ERROR : Addr) (u_CANCELLED : Addr) (h0 : Heap) (n0 : Nat) (Z0 : n0 ≤ h0.size) (S_u_PENDING : Sta Z h0 "com/example/scatterd/scatterd/model/JobState" "PENDING" "Lcom/example/scatterd/scatterd/model/JobState;" (.ref u_PENDING)) (S_u_READY : Sta Z h0 "com/example/scatterd/scatterd/model/JobState" "READY" "Lcom/example/scatterd/scatterd/model/JobState;" (.ref u_READY)) (S_u_CREATING : Sta Z h0 "com/example/scatterd/scatterd/model/JobState" "CREATING" "Lcom/example/scatterd/scatterd/model/JobState;" (.ref u_CREATING)) (S_u_RUNNING : Sta Z h0 "com/example/scatterd/scatterd/model/JobState" "RUNNING" "Lcom/example/scatterd/scatterd/model/JobState;" (.ref u_RUNNING)) (S_u_SUCCESS : Sta Z h0 "com/example/scatterd/scatterd/model/JobState" "SUCCESS" "Lcom/example/scatterd/scatterd/model/JobState;" (.ref u_SUCCESS)) (S_u_FAILED : Sta Z h0 "com/example/scatterd/scatterd/model/JobState" "FAILED" "Lcom/example/scatterd/scatterd/model/JobState;" (.ref u_FAILED)) (S_u_ERROR : Sta Z h0 "com/example/scatterd/scatterd/model/JobState" "ERROR" "Lcom/example/scatterd/scatterd/model/JobState;" (.ref u_ERROR)) (S_u_CANCELLED : Sta Z h0 "com/example/scatterd/scatterd/model/JobState" "CANCELLED" "Lcom/example/scatterd/scatterd/model/JobState;" (.ref u_CANCELLED)) (E_u_PENDING : Exa Z h0 u_PENDING "com/example/scatterd/scatterd/model/JobState") (E_u_READY : Exa Z h0 u_READY "com/example/scatterd/scatterd/model/JobState") (E_u_CREATING : Exa Z h0 u_CREATING "com/example/scatterd/scatterd/model/JobState") (E_u_RUNNING : Exa Z h0 u_RUNNING "com/example/scatterd/scatterd/model/JobState") (E_u_SUCCESS : Exa Z h0 u_SUCCESS "com/example/scatterd/scatterd/model/JobState") (E_u_FAILED : Exa Z h0 u_FAILED "com/example/scatterd/scatterd/model/JobState") (E_u_ERROR : Exa Z h0 u_ERROR "com/example/scatterd/scatterd/model/JobState") (E_u_CANCELLED : Exa Z h0 u_CANCELLED "com/example/scatterd/scatterd/model/JobState") (hn_PENDING_FAILED : ¬ u_PENDING = u_FAILED) (hn_PENDING_ERROR : ¬ u_PENDING = u_ERROR) (hn_READY_FAILED : ¬ u_READY = u_FAILED) (hn_READY_ERROR : ¬ u_READY = u_ERROR) (hn_CREATING_FAILED : ¬ u_CREATING = u_FAILED) (hn_CREATING_ERROR : ¬ u_CREATING = u_ERROR) (hn_RUNNING_FAILED : ¬ u_RUNNING = u_FAILED) (hn_RUNNING_ERROR : ¬ u_RUNNING = u_ERROR) (hn_SUCCESS_FAILED : ¬ u_SUCCESS = u_FAILED) (hn_SUCCESS_ERROR : ¬ u_SUCCESS = u_ERROR) (hn_CANCELLED_FAILED : ¬ u_CANCELLED = u_FAILED) (hn_CANCELLED_ERROR : ¬ u_CANCELLED = u_ERROR) :
    MetFree l x (head1 (Jvm.Cond.code x code maxLocals ret :: ws) room_1) (fun a U => a = #[(.int x0), (.int x1)] ∧ Z.Warmed39 U.vm ∧ U.heap = h0) (fun _ _ _ _ _ => True) (fun _ U o U' => ∃ v L, o = .returned v ∧ Q_rm0 Z x0 x1 u_PENDING u_READY u_CREATING u_RUNNING u_SUCCESS u_FAILED u_ERROR u_CANCELLED h0 n0 v U'.heap L ∧ FrameEnd U o U' L room_1.cells room_1.slots) := by
  refine own_enter (Q := Q_rm0 Z x0 x1 u_PENDING u_READY u_CREATING u_RUNNING u_SUCCESS u_FAILED u_ERROR u_CANCELLED h0 n0) (plainFor_of_name pn_com_example_scatterd_scatterd_model_JobStateOnceAttemptEndedPinLaw) ?_
  intro p e s m below meth c s₁ G X0 hx hby hml hZ hown hnm hret e0 go fin
  replace hown : s.vm.findClass "com/example/scatterd/scatterd/model/JobStateOnceAttemptEndedPinLaw" = some m.cls := hown
  replace hnm : meth.name = "law" := hnm
  replace hml : c.maxLocals = 7 := hml
  rw [ef_0 m x0 x1]
  have N0 := Fr.nil n0
  show G (s₁.setTop (mkF m 0 #[.val (.int x0), .val (.int x1), .unset, .unset, .unset, .unset, .unset] []))
  refine go (fun tg kg => XS.bipush X0.here hx rfl (hb hby at_0) kg) ?_
  show G (s₁.setTop (mkF m 2 #[.val (.int x0), .val (.int x1), .unset, .unset, .unset, .unset, .unset] [(.int (8 : Int32))]))
  obtain ⟨T1, h1, k1, X1, e1, E1, A1, O1, st1⟩ := newR X0 hx hZ hown (hw _ (List.mem_of_getElem? (i := 0) rfl)) (hw _ (List.mem_of_getElem? (i := 1) rfl)) e0 (g := (mkF m 2 #[.val (.int x0), .val (.int x1), .unset, .unset, .unset, .unset, .unset] [(.int (8 : Int32))])) rfl (hb hby at_2) rfl (by decide) (cap := 8) (by decide) (by decide) (by decide) (by decide)
  obtain ⟨b1, g1⟩ : ∃ z, z = h0.size := ⟨_, rfl⟩
  rw [← g1] at A1 st1
  refine go st1 ?_
  have V1 : Arv Z h1 b1 k1 (.object "com/example/scatterd/scatterd/model/JobState") (8 : Int32) [.null, .null, .null, .null, .null, .null, .null, .null] .null := (Arv.new A1 (by decide)).pad (pad_rep [] .null 8)
  have ge_b1 : n0 ≤ b1 := Nat.le_trans Z0 (Nat.le_of_eq g1.symm)
  have Z1 := Nat.le_trans Z0 E1.1
  show G (T1.setTop (mkF m 5 #[.val (.int x0), .val (.int x1), .unset, .unset, .unset, .unset, .unset] [(.ref b1)]))
  refine go (fun tg kg => XS.dup X1.here hx rfl (hb hby at_5) rfl rfl kg) ?_
  show G (T1.setTop (mkF m 6 #[.val (.int x0), .val (.int x1), .unset, .unset, .unset, .unset, .unset] [(.ref b1), (.ref b1)]))
  refine go (fun tg kg => XS.iconst X1.here hx rfl (hb hby at_6) kg) ?_
  show G (T1.setTop (mkF m 7 #[.val (.int x0), .val (.int x1), .unset, .unset, .unset, .unset, .unset] [(.int (0 : Int32)), (.ref b1), (.ref b1)]))
  have Fa2 := (S_u_PENDING.ext E1)
  obtain ⟨T3, X3, e3, st3⟩ := getS2 X1 hx hZ hown (host := "") (Or.inl (hw _ (List.mem_of_getElem? (i := 2) rfl))) Via.refl e1 Fa2 (g := (mkF m 7 #[.val (.int x0), .val (.int x1), .unset, .unset, .unset, .unset, .unset] [(.int (0 : Int32)), (.ref b1), (.ref b1)])) rfl (hb hby at_7)
  refine go st3 ?_
  show G (T3.setTop (mkF m 10 #[.val (.int x0), .val (.int x1), .unset, .unset, .unset, .unset, .unset] [(.ref u_PENDING), (.int (0 : Int32)), (.ref b1), (.ref b1)]))
  obtain ⟨cl4, Ar4, q4, S4, M4, H4, U4⟩ := id V1
  have hin4 : ¬ ((0 : Int32) < 0 ∨ cl4.slots.size ≤ ((0 : Int32)).toNatClampNeg) := inb_of S4 ⟨by decide, by decide⟩
  have Fa5 := (E_u_PENDING.ext E1)
  obtain ⟨T4, h4, X4, e4, W4, st4⟩ := stR X3 hx hZ e3 Ar4 (j := (0 : Int32)) hin4 rfl (Sto.ofV Ar4 q4 O1 (Ins.self Fa5)) (g := (mkF m 10 #[.val (.int x0), .val (.int x1), .unset, .unset, .unset, .unset, .unset] [(.ref u_PENDING), (.int (0 : Int32)), (.ref b1), (.ref b1)])) rfl rfl (hb hby at_10)
  refine go st4 ?_
  have V4 : Arv Z h4 b1 k1 (.object "com/example/scatterd/scatterd/model/JobState") (8 : Int32) [(.ref u_PENDING), .null, .null, .null, .null, .null, .null, .null] .null := Arv.set Ar4 q4 S4 M4 H4 U4 rfl W4 0 rfl (Nat.le_of_ble_eq_true rfl)
  have N4 := Fr.snoc X4 N0 ge_b1
  have Z4 := Nat.le_trans Z1 (Keep.of_wr W4).1
  show G (T4.setTop (mkF m 11 #[.val (.int x0), .val (.int x1), .unset, .unset, .unset, .unset, .unset] [(.ref b1)]))
  refine go (fun tg kg => XS.dup X4.here hx rfl (hb hby at_11) rfl rfl kg) ?_
  show G (T4.setTop (mkF m 12 #[.val (.int x0), .val (.int x1), .unset, .unset, .unset, .unset, .unset] [(.ref b1), (.ref b1)]))
  refine go (fun tg kg => XS.iconst X4.here hx rfl (hb hby at_12) kg) ?_
  show G (T4.setTop (mkF m 13 #[.val (.int x0), .val (.int x1), .unset, .unset, .unset, .unset, .unset] [(.int (1 : Int32)), (.ref b1), (.ref b1)]))
  have Fa6 := ((S_u_READY.ext E1).wr W4)
  obtain ⟨T7, X7, e7, st7⟩ := getS2 X4 hx hZ hown (host := "") (Or.inl (hw _ (List.mem_of_getElem? (i := 6) rfl))) Via.refl e4 Fa6 (g := (mkF m 13 #[.val (.int x0), .val (.int x1), .unset, .unset, .unset, .unset, .unset] [(.int (1 : Int32)), (.ref b1), (.ref b1)])) rfl (hb hby at_13)
  refine go st7 ?_
  show G (T7.setTop (mkF m 16 #[.val (.int x0), .val (.int x1), .unset, .unset, .unset, .unset, .unset] [(.ref u_READY), (.int (1 : Int32)), (.ref b1), (.ref b1)]))
  obtain ⟨cl8, Ar8, q8, S8, M8, H8, U8⟩ := id V4
  have hin8 : ¬ ((1 : Int32) < 0 ∨ cl8.slots.size ≤ ((1 : Int32)).toNatClampNeg) := inb_of S8 ⟨by decide, by decide⟩
  have Fa9 := ((E_u_READY.ext E1).wr W4)
  obtain ⟨T8, h8, X8, e8, W8, st8⟩ := stR X7 hx hZ e7 Ar8 (j := (1 : Int32)) hin8 rfl (Sto.ofV Ar8 q8 O1 (Ins.self Fa9)) (g := (mkF m 16 #[.val (.int x0), .val (.int x1), .unset, .unset, .unset, .unset, .unset] [(.ref u_READY), (.int (1 : Int32)), (.ref b1), (.ref b1)])) rfl rfl (hb hby at_16)
  refine go st8 ?_
  have V8 : Arv Z h8 b1 k1 (.object "com/example/scatterd/scatterd/model/JobState") (8 : Int32) [(.ref u_PENDING), (.ref u_READY), .null, .null, .null, .null, .null, .null] .null := Arv.set Ar8 q8 S8 M8 H8 U8 rfl W8 1 rfl (Nat.le_of_ble_eq_true rfl)
  have N8 := Fr.snoc X8 N4 ge_b1
  have Z8 := Nat.le_trans Z4 (Keep.of_wr W8).1
  show G (T8.setTop (mkF m 17 #[.val (.int x0), .val (.int x1), .unset, .unset, .unset, .unset, .unset] [(.ref b1)]))
  refine go (fun tg kg => XS.dup X8.here hx rfl (hb hby at_17) rfl rfl kg) ?_
  show G (T8.setTop (mkF m 18 #[.val (.int x0), .val (.int x1), .unset, .unset, .unset, .unset, .unset] [(.ref b1), (.ref b1)]))
  refine go (fun tg kg => XS.iconst X8.here hx rfl (hb hby at_18) kg) ?_
  show G (T8.setTop (mkF m 19 #[.val (.int x0), .val (.int x1), .unset, .unset, .unset, .unset, .unset] [(.int (2 : Int32)), (.ref b1), (.ref b1)]))
  have Fa10 := (((S_u_CREATING.ext E1).wr W4).wr W8)
  obtain ⟨T11, X11, e11, st11⟩ := getS2 X8 hx hZ hown (host := "") (Or.inl (hw _ (List.mem_of_getElem? (i := 8) rfl))) Via.refl e8 Fa10 (g := (mkF m 19 #[.val (.int x0), .val (.int x1), .unset, .unset, .unset, .unset, .unset] [(.int (2 : Int32)), (.ref b1), (.ref b1)])) rfl (hb hby at_19)
  refine go st11 ?_
  show G (T11.setTop (mkF m 22 #[.val (.int x0), .val (.int x1), .unset, .unset, .unset, .unset, .unset] [(.ref u_CREATING), (.int (2 : Int32)), (.ref b1), (.ref b1)]))
  obtain ⟨cl12, Ar12, q12, S12, M12, H12, U12⟩ := id V8
  have hin12 : ¬ ((2 : Int32) < 0 ∨ cl12.slots.size ≤ ((2 : Int32)).toNatClampNeg) := inb_of S12 ⟨by decide, by decide⟩
  have Fa13 := (((E_u_CREATING.ext E1).wr W4).wr W8)
  obtain ⟨T12, h12, X12, e12, W12, st12⟩ := stR X11 hx hZ e11 Ar12 (j := (2 : Int32)) hin12 rfl (Sto.ofV Ar12 q12 O1 (Ins.self Fa13)) (g := (mkF m 22 #[.val (.int x0), .val (.int x1), .unset, .unset, .unset, .unset, .unset] [(.ref u_CREATING), (.int (2 : Int32)), (.ref b1), (.ref b1)])) rfl rfl (hb hby at_22)
  refine go st12 ?_
  have V12 : Arv Z h12 b1 k1 (.object "com/example/scatterd/scatterd/model/JobState") (8 : Int32) [(.ref u_PENDING), (.ref u_READY), (.ref u_CREATING), .null, .null, .null, .null, .null] .null := Arv.set Ar12 q12 S12 M12 H12 U12 rfl W12 2 rfl (Nat.le_of_ble_eq_true rfl)
  have N12 := Fr.snoc X12 N8 ge_b1
  have Z12 := Nat.le_trans Z8 (Keep.of_wr W12).1
  show G (T12.setTop (mkF m 23 #[.val (.int x0), .val (.int x1), .unset, .unset, .unset, .unset, .unset] [(.ref b1)]))
  refine go (fun tg kg => XS.dup X12.here hx rfl (hb hby at_23) rfl rfl kg) ?_
  show G (T12.setTop (mkF m 24 #[.val (.int x0), .val (.int x1), .unset, .unset, .unset, .unset, .unset] [(.ref b1), (.ref b1)]))
  refine go (fun tg kg => XS.iconst X12.here hx rfl (hb hby at_24) kg) ?_
  show G (T12.setTop (mkF m 25 #[.val (.int x0), .val (.int x1), .unset, .unset, .unset, .unset, .unset] [(.int (3 : Int32)), (.ref b1), (.ref b1)]))
  have Fa14 := ((((S_u_RUNNING.ext E1).wr W4).wr W8).wr W12)
  obtain ⟨T15, X15, e15, st15⟩ := getS2 X12 hx hZ hown (host := "") (Or.inl (hw _ (List.mem_of_getElem? (i := 10) rfl))) Via.refl e12 Fa14 (g := (mkF m 25 #[.val (.int x0), .val (.int x1), .unset, .unset, .unset, .unset, .unset] [(.int (3 : Int32)), (.ref b1), (.ref b1)])) rfl (hb hby at_25)
  refine go st15 ?_
  show G (T15.setTop (mkF m 28 #[.val (.int x0), .val (.int x1), .unset, .unset, .unset, .unset, .unset] [(.ref u_RUNNING), (.int (3 : Int32)), (.ref b1), (.ref b1)]))
  obtain ⟨cl16, Ar16, q16, S16, M16, H16, U16⟩ := id V12
  have hin16 : ¬ ((3 : Int32) < 0 ∨ cl16.slots.size ≤ ((3 : Int32)).toNatClampNeg) := inb_of S16 ⟨by decide, by decide⟩
  have Fa17 := ((((E_u_RUNNING.ext E1).wr W4).wr W8).wr W12)
  obtain ⟨T16, h16, X16, e16, W16, st16⟩ := stR X15 hx hZ e15 Ar16 (j := (3 : Int32)) hin16 rfl (Sto.ofV Ar16 q16 O1 (Ins.self Fa17)) (g := (mkF m 28 #[.val (.int x0), .val (.int x1), .unset, .unset, .unset, .unset, .unset] [(.ref u_RUNNING), (.int (3 : Int32)), (.ref b1), (.ref b1)])) rfl rfl (hb hby at_28)
  refine go st16 ?_
  have V16 : Arv Z h16 b1 k1 (.object "com/example/scatterd/scatterd/model/JobState") (8 : Int32) [(.ref u_PENDING), (.ref u_READY), (.ref u_CREATING), (.ref u_RUNNING), .null, .null, .null, .null] .null := Arv.set Ar16 q16 S16 M16 H16 U16 rfl W16 3 rfl (Nat.le_of_ble_eq_true rfl)
  have N16 := Fr.snoc X16 N12 ge_b1
  have Z16 := Nat.le_trans Z12 (Keep.of_wr W16).1
  show G (T16.setTop (mkF m 29 #[.val (.int x0), .val (.int x1), .unset, .unset, .unset, .unset, .unset] [(.ref b1)]))
  refine go (fun tg kg => XS.dup X16.here hx rfl (hb hby at_29) rfl rfl kg) ?_
  show G (T16.setTop (mkF m 30 #[.val (.int x0), .val (.int x1), .unset, .unset, .unset, .unset, .unset] [(.ref b1), (.ref b1)]))
  refine go (fun tg kg => XS.iconst X16.here hx rfl (hb hby at_30) kg) ?_
  show G (T16.setTop (mkF m 31 #[.val (.int x0), .val (.int x1), .unset, .unset, .unset, .unset, .unset] [(.int (4 : Int32)), (.ref b1), (.ref b1)]))
  have Fa18 := (((((S_u_SUCCESS.ext E1).wr W4).wr W8).wr W12).wr W16)
  obtain ⟨T19, X19, e19, st19⟩ := getS2 X16 hx hZ hown (host := "") (Or.inl (hw _ (List.mem_of_getElem? (i := 12) rfl))) Via.refl e16 Fa18 (g := (mkF m 31 #[.val (.int x0), .val (.int x1), .unset, .unset, .unset, .unset, .unset] [(.int (4 : Int32)), (.ref b1), (.ref b1)])) rfl (hb hby at_31)
  refine go st19 ?_
  show G (T19.setTop (mkF m 34 #[.val (.int x0), .val (.int x1), .unset, .unset, .unset, .unset, .unset] [(.ref u_SUCCESS), (.int (4 : Int32)), (.ref b1), (.ref b1)]))
  obtain ⟨cl20, Ar20, q20, S20, M20, H20, U20⟩ := id V16
  have hin20 : ¬ ((4 : Int32) < 0 ∨ cl20.slots.size ≤ ((4 : Int32)).toNatClampNeg) := inb_of S20 ⟨by decide, by decide⟩
  have Fa21 := (((((E_u_SUCCESS.ext E1).wr W4).wr W8).wr W12).wr W16)
  obtain ⟨T20, h20, X20, e20, W20, st20⟩ := stR X19 hx hZ e19 Ar20 (j := (4 : Int32)) hin20 rfl (Sto.ofV Ar20 q20 O1 (Ins.self Fa21)) (g := (mkF m 34 #[.val (.int x0), .val (.int x1), .unset, .unset, .unset, .unset, .unset] [(.ref u_SUCCESS), (.int (4 : Int32)), (.ref b1), (.ref b1)])) rfl rfl (hb hby at_34)
  refine go st20 ?_
  have V20 : Arv Z h20 b1 k1 (.object "com/example/scatterd/scatterd/model/JobState") (8 : Int32) [(.ref u_PENDING), (.ref u_READY), (.ref u_CREATING), (.ref u_RUNNING), (.ref u_SUCCESS), .null, .null, .null] .null := Arv.set Ar20 q20 S20 M20 H20 U20 rfl W20 4 rfl (Nat.le_of_ble_eq_true rfl)
  have N20 := Fr.snoc X20 N16 ge_b1
  have Z20 := Nat.le_trans Z16 (Keep.of_wr W20).1
  show G (T20.setTop (mkF m 35 #[.val (.int x0), .val (.int x1), .unset, .unset, .unset, .unset, .unset] [(.ref b1)]))
  refine go (fun tg kg => XS.dup X20.here hx rfl (hb hby at_35) rfl rfl kg) ?_
  show G (T20.setTop (mkF m 36 #[.val (.int x0), .val (.int x1), .unset, .unset, .unset, .unset, .unset] [(.ref b1), (.ref b1)]))
  refine go (fun tg kg => XS.iconst X20.here hx rfl (hb hby at_36) kg) ?_
  show G (T20.setTop (mkF m 37 #[.val (.int x0), .val (.int x1), .unset, .unset, .unset, .unset, .unset] [(.int (5 : Int32)), (.ref b1), (.ref b1)]))
  have Fa22 := ((((((S_u_FAILED.ext E1).wr W4).wr W8).wr W12).wr W16).wr W20)
  obtain ⟨T23, X23, e23, st23⟩ := getS2 X20 hx hZ hown (host := "") (Or.inl (hw _ (List.mem_of_getElem? (i := 14) rfl))) Via.refl e20 Fa22 (g := (mkF m 37 #[.val (.int x0), .val (.int x1), .unset, .unset, .unset, .unset, .unset] [(.int (5 : Int32)), (.ref b1), (.ref b1)])) rfl (hb hby at_37)
  refine go st23 ?_
  show G (T23.setTop (mkF m 40 #[.val (.int x0), .val (.int x1), .unset, .unset, .unset, .unset, .unset] [(.ref u_FAILED), (.int (5 : Int32)), (.ref b1), (.ref b1)]))
  obtain ⟨cl24, Ar24, q24, S24, M24, H24, U24⟩ := id V20
  have hin24 : ¬ ((5 : Int32) < 0 ∨ cl24.slots.size ≤ ((5 : Int32)).toNatClampNeg) := inb_of S24 ⟨by decide, by decide⟩
  have Fa25 := ((((((E_u_FAILED.ext E1).wr W4).wr W8).wr W12).wr W16).wr W20)
  obtain ⟨T24, h24, X24, e24, W24, st24⟩ := stR X23 hx hZ e23 Ar24 (j := (5 : Int32)) hin24 rfl (Sto.ofV Ar24 q24 O1 (Ins.self Fa25)) (g := (mkF m 40 #[.val (.int x0), .val (.int x1), .unset, .unset, .unset, .unset, .unset] [(.ref u_FAILED), (.int (5 : Int32)), (.ref b1), (.ref b1)])) rfl rfl (hb hby at_40)
  refine go st24 ?_
  have V24 : Arv Z h24 b1 k1 (.object "com/example/scatterd/scatterd/model/JobState") (8 : Int32) [(.ref u_PENDING), (.ref u_READY), (.ref u_CREATING), (.ref u_RUNNING), (.ref u_SUCCESS), (.ref u_FAILED), .null, .null] .null := Arv.set Ar24 q24 S24 M24 H24 U24 rfl W24 5 rfl (Nat.le_of_ble_eq_true rfl)
  have N24 := Fr.snoc X24 N20 ge_b1
  have Z24 := Nat.le_trans Z20 (Keep.of_wr W24).1
  show G (T24.setTop (mkF m 41 #[.val (.int x0), .val (.int x1), .unset, .unset, .unset, .unset, .unset] [(.ref b1)]))
  refine go (fun tg kg => XS.dup X24.here hx rfl (hb hby at_41) rfl rfl kg) ?_
  show G (T24.setTop (mkF m 42 #[.val (.int x0), .val (.int x1), .unset, .unset, .unset, .unset, .unset] [(.ref b1), (.ref b1)]))
  refine go (fun tg kg => XS.bipush X24.here hx rfl (hb hby at_42) kg) ?_
  show G (T24.setTop (mkF m 44 #[.val (.int x0), .val (.int x1), .unset, .unset, .unset, .unset, .unset] [(.int (6 : Int32)), (.ref b1), (.ref b1)]))
  have Fa26 := (((((((S_u_ERROR.ext E1).wr W4).wr W8).wr W12).wr W16).wr W20).wr W24)
  obtain ⟨T27, X27, e27, st27⟩ := getS2 X24 hx hZ hown (host := "") (Or.inl (hw _ (List.mem_of_getElem? (i := 16) rfl))) Via.refl e24 Fa26 (g := (mkF m 44 #[.val (.int x0), .val (.int x1), .unset, .unset, .unset, .unset, .unset] [(.int (6 : Int32)), (.ref b1), (.ref b1)])) rfl (hb hby at_44)
  refine go st27 ?_
  show G (T27.setTop (mkF m 47 #[.val (.int x0), .val (.int x1), .unset, .unset, .unset, .unset, .unset] [(.ref u_ERROR), (.int (6 : Int32)), (.ref b1), (.ref b1)]))
  obtain ⟨cl28, Ar28, q28, S28, M28, H28, U28⟩ := id V24
  have hin28 : ¬ ((6 : Int32) < 0 ∨ cl28.slots.size ≤ ((6 : Int32)).toNatClampNeg) := inb_of S28 ⟨by decide, by decide⟩
  have Fa29 := (((((((E_u_ERROR.ext E1).wr W4).wr W8).wr W12).wr W16).wr W20).wr W24)
  obtain ⟨T28, h28, X28, e28, W28, st28⟩ := stR X27 hx hZ e27 Ar28 (j := (6 : Int32)) hin28 rfl (Sto.ofV Ar28 q28 O1 (Ins.self Fa29)) (g := (mkF m 47 #[.val (.int x0), .val (.int x1), .unset, .unset, .unset, .unset, .unset] [(.ref u_ERROR), (.int (6 : Int32)), (.ref b1), (.ref b1)])) rfl rfl (hb hby at_47)
  refine go st28 ?_
  have V28 : Arv Z h28 b1 k1 (.object "com/example/scatterd/scatterd/model/JobState") (8 : Int32) [(.ref u_PENDING), (.ref u_READY), (.ref u_CREATING), (.ref u_RUNNING), (.ref u_SUCCESS), (.ref u_FAILED), (.ref u_ERROR), .null] .null := Arv.set Ar28 q28 S28 M28 H28 U28 rfl W28 6 rfl (Nat.le_of_ble_eq_true rfl)
  have N28 := Fr.snoc X28 N24 ge_b1
  have Z28 := Nat.le_trans Z24 (Keep.of_wr W28).1
  show G (T28.setTop (mkF m 48 #[.val (.int x0), .val (.int x1), .unset, .unset, .unset, .unset, .unset] [(.ref b1)]))
  refine go (fun tg kg => XS.dup X28.here hx rfl (hb hby at_48) rfl rfl kg) ?_
  show G (T28.setTop (mkF m 49 #[.val (.int x0), .val (.int x1), .unset, .unset, .unset, .unset, .unset] [(.ref b1), (.ref b1)]))
  refine go (fun tg kg => XS.bipush X28.here hx rfl (hb hby at_49) kg) ?_
  show G (T28.setTop (mkF m 51 #[.val (.int x0), .val (.int x1), .unset, .unset, .unset, .unset, .unset] [(.int (7 : Int32)), (.ref b1), (.ref b1)]))
  have Fa30 := ((((((((S_u_CANCELLED.ext E1).wr W4).wr W8).wr W12).wr W16).wr W20).wr W24).wr W28)
  obtain ⟨T31, X31, e31, st31⟩ := getS2 X28 hx hZ hown (host := "") (Or.inl (hw _ (List.mem_of_getElem? (i := 18) rfl))) Via.refl e28 Fa30 (g := (mkF m 51 #[.val (.int x0), .val (.int x1), .unset, .unset, .unset, .unset, .unset] [(.int (7 : Int32)), (.ref b1), (.ref b1)])) rfl (hb hby at_51)
  refine go st31 ?_
  show G (T31.setTop (mkF m 54 #[.val (.int x0), .val (.int x1), .unset, .unset, .unset, .unset, .unset] [(.ref u_CANCELLED), (.int (7 : Int32)), (.ref b1), (.ref b1)]))
  obtain ⟨cl32, Ar32, q32, S32, M32, H32, U32⟩ := id V28
  have hin32 : ¬ ((7 : Int32) < 0 ∨ cl32.slots.size ≤ ((7 : Int32)).toNatClampNeg) := inb_of S32 ⟨by decide, by decide⟩
  have Fa33 := ((((((((E_u_CANCELLED.ext E1).wr W4).wr W8).wr W12).wr W16).wr W20).wr W24).wr W28)
  obtain ⟨T32, h32, X32, e32, W32, st32⟩ := stR X31 hx hZ e31 Ar32 (j := (7 : Int32)) hin32 rfl (Sto.ofV Ar32 q32 O1 (Ins.self Fa33)) (g := (mkF m 54 #[.val (.int x0), .val (.int x1), .unset, .unset, .unset, .unset, .unset] [(.ref u_CANCELLED), (.int (7 : Int32)), (.ref b1), (.ref b1)])) rfl rfl (hb hby at_54)
  refine go st32 ?_
  have V32 : Arv Z h32 b1 k1 (.object "com/example/scatterd/scatterd/model/JobState") (8 : Int32) [(.ref u_PENDING), (.ref u_READY), (.ref u_CREATING), (.ref u_RUNNING), (.ref u_SUCCESS), (.ref u_FAILED), (.ref u_ERROR), (.ref u_CANCELLED)] .null := Arv.set Ar32 q32 S32 M32 H32 U32 rfl W32 7 rfl (Nat.le_of_ble_eq_true rfl)
  have N32 := Fr.snoc X32 N28 ge_b1
  have Z32 := Nat.le_trans Z28 (Keep.of_wr W32).1
  show G (T32.setTop (mkF m 55 #[.val (.int x0), .val (.int x1), .unset, .unset, .unset, .unset, .unset] [(.ref b1)]))
  refine go (fun tg kg => XS.astoreN X32.here hx rfl (hb hby at_55) rfl rfl (l' := #[.val (.int x0), .val (.int x1), .val (.ref b1), .unset, .unset, .unset, .unset]) rfl kg) ?_
  show G (T32.setTop (mkF m 56 #[.val (.int x0), .val (.int x1), .val (.ref b1), .unset, .unset, .unset, .unset] []))
  refine go (fun tg kg => XS.iloadN X32.here hx rfl (hb hby at_56) rfl kg) ?_
  show G (T32.setTop (mkF m 57 #[.val (.int x0), .val (.int x1), .val (.ref b1), .unset, .unset, .unset, .unset] [(.int x0)]))
  refine go (fun tg kg => XS.bipush X32.here hx rfl (hb hby at_57) kg) ?_
  show G (T32.setTop (mkF m 59 #[.val (.int x0), .val (.int x1), .val (.ref b1), .unset, .unset, .unset, .unset] [(.int (7 : Int32)), (.int x0)]))
  refine go (fun tg kg => XS.iand X32.here hx rfl (hb hby at_59) rfl kg) ?_
  show G (T32.setTop (mkF m 60 #[.val (.int x0), .val (.int x1), .val (.ref b1), .unset, .unset, .unset, .unset] [(.int (x0 &&& (7 : Int32)))]))
  refine go (fun tg kg => XS.istoreN X32.here hx rfl (hb hby at_60) rfl (l' := #[.val (.int x0), .val (.int x1), .val (.ref b1), .val (.int (x0 &&& (7 : Int32))), .unset, .unset, .unset]) rfl kg) ?_
  show G (T32.setTop (mkF m 61 #[.val (.int x0), .val (.int x1), .val (.ref b1), .val (.int (x0 &&& (7 : Int32))), .unset, .unset, .unset] []))
  obtain ⟨kk, hkk⟩ : ∃ z : Int32, z = (x0 &&& (7 : Int32)) := ⟨_, rfl⟩
  have h8 := own_lt8 x0
  rw [← hkk] at h8 ⊢
  show G (T32.setTop (mkF m 61 #[.val (.int x0), .val (.int x1), .val (.ref b1), .val (.int kk), .unset, .unset, .unset] []))
  by_cases hr : (0 : Int32) < x1
  · clear hkk
    rcases h8 with rfl | rfl | rfl | rfl | rfl | rfl | rfl | rfl
    · skip
      refine go (fun tg kg => XS.aloadN X32.here hx rfl (hb hby at_61) rfl rfl kg) ?_
      show G (T32.setTop (mkF m 62 #[.val (.int x0), .val (.int x1), .val (.ref b1), .val (.int (0 : Int32)), .unset, .unset, .unset] [(.ref b1)]))
      refine go (fun tg kg => XS.iloadN X32.here hx rfl (hb hby at_62) rfl kg) ?_
      show G (T32.setTop (mkF m 63 #[.val (.int x0), .val (.int x1), .val (.ref b1), .val (.int (0 : Int32)), .unset, .unset, .unset] [(.int (0 : Int32)), (.ref b1)]))
      obtain ⟨cl34, Ar34, q34, S34, M34, H34, U34⟩ := id V32
      have hin34 : ¬ ((0 : Int32) < 0 ∨ cl34.slots.size ≤ ((0 : Int32)).toNatClampNeg) := inb_of S34 ⟨by decide, by decide⟩
      refine go (fun tg kg => X32.aaload hx (j := (0 : Int32)) (v := (.ref u_PENDING)) (by rw [e32]; exact Ar34.1) (State.isArrayOf_alike hZ.alike Ar34.2.1) rfl Ar34.2.2 hin34 (H34.at hin34 rfl) (g := (mkF m 63 #[.val (.int x0), .val (.int x1), .val (.ref b1), .val (.int (0 : Int32)), .unset, .unset, .unset] [(.int (0 : Int32)), (.ref b1)])) rfl rfl (hb hby at_63) _ kg) ?_
      show G (T32.setTop (mkF m 64 #[.val (.int x0), .val (.int x1), .val (.ref b1), .val (.int (0 : Int32)), .unset, .unset, .unset] [(.ref u_PENDING)]))
      refine go (fun tg kg => XS.astore X32.here hx rfl (hb hby at_64) rfl rfl (l' := #[.val (.int x0), .val (.int x1), .val (.ref b1), .val (.int (0 : Int32)), .val (.ref u_PENDING), .unset, .unset]) rfl kg) ?_
      show G (T32.setTop (mkF m 66 #[.val (.int x0), .val (.int x1), .val (.ref b1), .val (.int (0 : Int32)), .val (.ref u_PENDING), .unset, .unset] []))
      refine go (fun tg kg => XS.aload X32.here hx rfl (hb hby at_66) rfl rfl kg) ?_
      show G (T32.setTop (mkF m 68 #[.val (.int x0), .val (.int x1), .val (.ref b1), .val (.int (0 : Int32)), .val (.ref u_PENDING), .unset, .unset] [(.ref u_PENDING)]))
      refine go (fun tg kg => XS.iloadN X32.here hx rfl (hb hby at_68) rfl kg) ?_
      show G (T32.setTop (mkF m 69 #[.val (.int x0), .val (.int x1), .val (.ref b1), .val (.int (0 : Int32)), .val (.ref u_PENDING), .unset, .unset] [(.int x1), (.ref u_PENDING)]))
      have Fa36 := (((Fa22.wr W24).wr W28).wr W32)
      have Fa37 := ((Fa26.wr W28).wr W32)
      have Fa38 := (((((((Fa6.wr W8).wr W12).wr W16).wr W20).wr W24).wr W28).wr W32)
      obtain ⟨_, _, ⟨T35, L35, k35, n35⟩, -, X35, ⟨Lc35, hQ35, l35, y35, z35⟩, st35⟩ := Jvm.LawKit.callS X32 hx (y := (⟨"com/example/scatterd/scatterd/model/JobState", "onceAttemptEnded", "(Lcom/example/scatterd/scatterd/model/JobState;I)Lcom/example/scatterd/scatterd/model/JobState;"⟩ : MethodName)) hown (mvT hZ (hw _ (List.mem_of_getElem? (i := 20) rfl))) (mvT hZ (hw _ (List.mem_of_getElem? (i := 21) rfl))) (mvT hZ (hw _ (List.mem_of_getElem? (i := 3) rfl))) (mvT hZ (hw _ (List.mem_of_getElem? (i := 22) rfl))) (by decide) (backOf (W := 0) (rm1 l Z a0 hw [] u_PENDING x1 u_FAILED u_ERROR u_READY h32 n0 Z32 Fa36 Fa37 Fa38) hZ (hw _ (List.mem_of_getElem? (i := 22) rfl)) (hw _ (List.mem_of_getElem? (i := 3) rfl)) (by decide) (by decide)) (g := (mkF m 69 #[.val (.int x0), .val (.int x1), .val (.ref b1), .val (.int (0 : Int32)), .val (.ref u_PENDING), .unset, .unset] [(.int x1), (.ref u_PENDING)])) rfl (by rw [hml]; rfl) (argsL := [(.ref u_PENDING), (.int x1)]) (rest := []) (lenOf pd__Lcom_example_scatterd_scatterd_model_JobState_I_Lcom_example_scatterd_scatterd_model_JobState_ rfl) rfl (by show 2 * 0 + _ ≤ _; exact Nat.le_of_eq rfl) (hb hby at_69) (fun _ _ => ⟨rfl, e32, (by decide : 1 + 0 ≤ _), (by decide : 8 + 0 ≤ _)⟩)
      dsimp only [Pt.U, Pt.locs, Pt.cells, Pt.slots] at X35 l35 y35 z35 st35 hQ35
      subst l35 y35 z35
      obtain ⟨rfl, Nq35, e35⟩ := hQ35
      rw [own_o3 hn_PENDING_FAILED hn_PENDING_ERROR] at st35
      have N35 := Fr.app N32 Nq35
      refine go st35 ?_
      show G (T35.setTop (mkF m 72 #[.val (.int x0), .val (.int x1), .val (.ref b1), .val (.int (0 : Int32)), .val (.ref u_PENDING), .unset, .unset] [(.ref u_PENDING)]))
      refine go (fun tg kg => XS.astore X35.here hx rfl (hb hby at_72) rfl rfl (l' := #[.val (.int x0), .val (.int x1), .val (.ref b1), .val (.int (0 : Int32)), .val (.ref u_PENDING), .val (.ref u_PENDING), .unset]) rfl kg) ?_
      show G (T35.setTop (mkF m 74 #[.val (.int x0), .val (.int x1), .val (.ref b1), .val (.int (0 : Int32)), .val (.ref u_PENDING), .val (.ref u_PENDING), .unset] []))
      refine go (fun tg kg => XS.iloadN X35.here hx rfl (hb hby at_74) rfl kg) ?_
      show G (T35.setTop (mkF m 75 #[.val (.int x0), .val (.int x1), .val (.ref b1), .val (.int (0 : Int32)), .val (.ref u_PENDING), .val (.ref u_PENDING), .unset] [(.int x1)]))
      refine go (fun tg kg => XS.iconst X35.here hx rfl (hb hby at_75) kg) ?_
      show G (T35.setTop (mkF m 76 #[.val (.int x0), .val (.int x1), .val (.ref b1), .val (.int (0 : Int32)), .val (.ref u_PENDING), .val (.ref u_PENDING), .unset] [(.int (1 : Int32)), (.int x1)]))
      refine go (fun tg kg => XS.icmpNo X35.here hx rfl (hb hby at_76) rfl (flt (own_r1 hr)).1 kg) ?_
      show G (T35.setTop (mkF m 79 #[.val (.int x0), .val (.int x1), .val (.ref b1), .val (.int (0 : Int32)), .val (.ref u_PENDING), .val (.ref u_PENDING), .unset] []))
      refine go (fun tg kg => XS.iloadN X35.here hx rfl (hb hby at_79) rfl kg) ?_
      show G (T35.setTop (mkF m 80 #[.val (.int x0), .val (.int x1), .val (.ref b1), .val (.int (0 : Int32)), .val (.ref u_PENDING), .val (.ref u_PENDING), .unset] [(.int (0 : Int32))]))
      refine go (fun tg kg => XS.iconst X35.here hx rfl (hb hby at_80) kg) ?_
      show G (T35.setTop (mkF m 81 #[.val (.int x0), .val (.int x1), .val (.ref b1), .val (.int (0 : Int32)), .val (.ref u_PENDING), .val (.ref u_PENDING), .unset] [(.int (5 : Int32)), (.int (0 : Int32))]))
      refine go (fun tg kg => XS.icmpYes X35.here hx rfl (pc0 := 81) (pc' := 92) rfl (hb hby at_81) rfl (feq (by decide)).2 (by decide) (by decide) kg) ?_
      show G (T35.setTop (mkF m 92 #[.val (.int x0), .val (.int x1), .val (.ref b1), .val (.int (0 : Int32)), .val (.ref u_PENDING), .val (.ref u_PENDING), .unset] []))
      refine go (fun tg kg => XS.iloadN X35.here hx rfl (hb hby at_92) rfl kg) ?_
      show G (T35.setTop (mkF m 93 #[.val (.int x0), .val (.int x1), .val (.ref b1), .val (.int (0 : Int32)), .val (.ref u_PENDING), .val (.ref u_PENDING), .unset] [(.int (0 : Int32))]))
      refine go (fun tg kg => XS.bipush X35.here hx rfl (hb hby at_93) kg) ?_
      show G (T35.setTop (mkF m 95 #[.val (.int x0), .val (.int x1), .val (.ref b1), .val (.int (0 : Int32)), .val (.ref u_PENDING), .val (.ref u_PENDING), .unset] [(.int (6 : Int32)), (.int (0 : Int32))]))
      refine go (fun tg kg => XS.icmpYes X35.here hx rfl (pc0 := 95) (pc' := 106) rfl (hb hby at_95) rfl (feq (by decide)).2 (by decide) (by decide) kg) ?_
      show G (T35.setTop (mkF m 106 #[.val (.int x0), .val (.int x1), .val (.ref b1), .val (.int (0 : Int32)), .val (.ref u_PENDING), .val (.ref u_PENDING), .unset] []))
      refine go (fun tg kg => XS.aload X35.here hx rfl (hb hby at_106) rfl rfl kg) ?_
      show G (T35.setTop (mkF m 108 #[.val (.int x0), .val (.int x1), .val (.ref b1), .val (.int (0 : Int32)), .val (.ref u_PENDING), .val (.ref u_PENDING), .unset] [(.ref u_PENDING)]))
      refine go (fun tg kg => XS.astore X35.here hx rfl (hb hby at_108) rfl rfl (l' := #[.val (.int x0), .val (.int x1), .val (.ref b1), .val (.int (0 : Int32)), .val (.ref u_PENDING), .val (.ref u_PENDING), .val (.ref u_PENDING)]) rfl kg) ?_
      show G (T35.setTop (mkF m 110 #[.val (.int x0), .val (.int x1), .val (.ref b1), .val (.int (0 : Int32)), .val (.ref u_PENDING), .val (.ref u_PENDING), .val (.ref u_PENDING)] []))
      refine go (fun tg kg => XS.goto X35.here hx rfl (pc0 := 110) (pc' := 117) rfl (hb hby at_110) (by decide) (by decide) kg) ?_
      show G (T35.setTop (mkF m 117 #[.val (.int x0), .val (.int x1), .val (.ref b1), .val (.int (0 : Int32)), .val (.ref u_PENDING), .val (.ref u_PENDING), .val (.ref u_PENDING)] []))
      refine go (fun tg kg => XS.aload X35.here hx rfl (hb hby at_117) rfl rfl kg) ?_
      show G (T35.setTop (mkF m 119 #[.val (.int x0), .val (.int x1), .val (.ref b1), .val (.int (0 : Int32)), .val (.ref u_PENDING), .val (.ref u_PENDING), .val (.ref u_PENDING)] [(.ref u_PENDING)]))
      refine go (fun tg kg => XS.aload X35.here hx rfl (hb hby at_119) rfl rfl kg) ?_
      show G (T35.setTop (mkF m 121 #[.val (.int x0), .val (.int x1), .val (.ref b1), .val (.int (0 : Int32)), .val (.ref u_PENDING), .val (.ref u_PENDING), .val (.ref u_PENDING)] [(.ref u_PENDING), (.ref u_PENDING)]))
      refine go (fun tg kg => Jvm.RoadKit.acmp (g := (mkF m 121 #[.val (.int x0), .val (.int x1), .val (.ref b1), .val (.int (0 : Int32)), .val (.ref u_PENDING), .val (.ref u_PENDING), .val (.ref u_PENDING)] [(.ref u_PENDING), (.ref u_PENDING)])) X35 hx rfl rfl rfl (pc0 := 121) (pc' := 124) (same := true) rfl (hb hby at_121) rfl (decide_eq_true rfl) (by decide) (by decide) kg) ?_
      show G (T35.setTop (mkF m 124 #[.val (.int x0), .val (.int x1), .val (.ref b1), .val (.int (0 : Int32)), .val (.ref u_PENDING), .val (.ref u_PENDING), .val (.ref u_PENDING)] []))
      refine go (fun tg kg => XS.iconst X35.here hx rfl (hb hby at_124) kg) ?_
      show G (T35.setTop (mkF m 125 #[.val (.int x0), .val (.int x1), .val (.ref b1), .val (.int (0 : Int32)), .val (.ref u_PENDING), .val (.ref u_PENDING), .val (.ref u_PENDING)] [(.int (1 : Int32))]))
      refine go (fun tg kg => XS.goto X35.here hx rfl (pc0 := 125) (pc' := 129) rfl (hb hby at_125) (by decide) (by decide) kg) ?_
      show G (T35.setTop (mkF m 129 #[.val (.int x0), .val (.int x1), .val (.ref b1), .val (.int (0 : Int32)), .val (.ref u_PENDING), .val (.ref u_PENDING), .val (.ref u_PENDING)] [(.int (1 : Int32))]))
      refine fin (some (.int (1 : Int32))) X35 (fun h => absurd h (by decide)) (fun fs hr => retN X35 hx (t := .boolean) hret (by simp) (hb hby at_129) hr) (by decide) (by decide) ?_
      rw [e35]
      exact ⟨rfl, N35⟩
    · skip
      refine go (fun tg kg => XS.aloadN X32.here hx rfl (hb hby at_61) rfl rfl kg) ?_
      show G (T32.setTop (mkF m 62 #[.val (.int x0), .val (.int x1), .val (.ref b1), .val (.int (1 : Int32)), .unset, .unset, .unset] [(.ref b1)]))
      refine go (fun tg kg => XS.iloadN X32.here hx rfl (hb hby at_62) rfl kg) ?_
      show G (T32.setTop (mkF m 63 #[.val (.int x0), .val (.int x1), .val (.ref b1), .val (.int (1 : Int32)), .unset, .unset, .unset] [(.int (1 : Int32)), (.ref b1)]))
      obtain ⟨cl39, Ar39, q39, S39, M39, H39, U39⟩ := id V32
      have hin39 : ¬ ((1 : Int32) < 0 ∨ cl39.slots.size ≤ ((1 : Int32)).toNatClampNeg) := inb_of S39 ⟨by decide, by decide⟩
      refine go (fun tg kg => X32.aaload hx (j := (1 : Int32)) (v := (.ref u_READY)) (by rw [e32]; exact Ar39.1) (State.isArrayOf_alike hZ.alike Ar39.2.1) rfl Ar39.2.2 hin39 (H39.at hin39 rfl) (g := (mkF m 63 #[.val (.int x0), .val (.int x1), .val (.ref b1), .val (.int (1 : Int32)), .unset, .unset, .unset] [(.int (1 : Int32)), (.ref b1)])) rfl rfl (hb hby at_63) _ kg) ?_
      show G (T32.setTop (mkF m 64 #[.val (.int x0), .val (.int x1), .val (.ref b1), .val (.int (1 : Int32)), .unset, .unset, .unset] [(.ref u_READY)]))
      refine go (fun tg kg => XS.astore X32.here hx rfl (hb hby at_64) rfl rfl (l' := #[.val (.int x0), .val (.int x1), .val (.ref b1), .val (.int (1 : Int32)), .val (.ref u_READY), .unset, .unset]) rfl kg) ?_
      show G (T32.setTop (mkF m 66 #[.val (.int x0), .val (.int x1), .val (.ref b1), .val (.int (1 : Int32)), .val (.ref u_READY), .unset, .unset] []))
      refine go (fun tg kg => XS.aload X32.here hx rfl (hb hby at_66) rfl rfl kg) ?_
      show G (T32.setTop (mkF m 68 #[.val (.int x0), .val (.int x1), .val (.ref b1), .val (.int (1 : Int32)), .val (.ref u_READY), .unset, .unset] [(.ref u_READY)]))
      refine go (fun tg kg => XS.iloadN X32.here hx rfl (hb hby at_68) rfl kg) ?_
      show G (T32.setTop (mkF m 69 #[.val (.int x0), .val (.int x1), .val (.ref b1), .val (.int (1 : Int32)), .val (.ref u_READY), .unset, .unset] [(.int x1), (.ref u_READY)]))
      have Fa41 := (((Fa22.wr W24).wr W28).wr W32)
      have Fa42 := ((Fa26.wr W28).wr W32)
      have Fa43 := (((((((Fa6.wr W8).wr W12).wr W16).wr W20).wr W24).wr W28).wr W32)
      obtain ⟨_, _, ⟨T40, L40, k40, n40⟩, -, X40, ⟨Lc40, hQ40, l40, y40, z40⟩, st40⟩ := Jvm.LawKit.callS X32 hx (y := (⟨"com/example/scatterd/scatterd/model/JobState", "onceAttemptEnded", "(Lcom/example/scatterd/scatterd/model/JobState;I)Lcom/example/scatterd/scatterd/model/JobState;"⟩ : MethodName)) hown (mvT hZ (hw _ (List.mem_of_getElem? (i := 20) rfl))) (mvT hZ (hw _ (List.mem_of_getElem? (i := 21) rfl))) (mvT hZ (hw _ (List.mem_of_getElem? (i := 3) rfl))) (mvT hZ (hw _ (List.mem_of_getElem? (i := 22) rfl))) (by decide) (backOf (W := 0) (rm1 l Z a0 hw [] u_READY x1 u_FAILED u_ERROR u_READY h32 n0 Z32 Fa41 Fa42 Fa43) hZ (hw _ (List.mem_of_getElem? (i := 22) rfl)) (hw _ (List.mem_of_getElem? (i := 3) rfl)) (by decide) (by decide)) (g := (mkF m 69 #[.val (.int x0), .val (.int x1), .val (.ref b1), .val (.int (1 : Int32)), .val (.ref u_READY), .unset, .unset] [(.int x1), (.ref u_READY)])) rfl (by rw [hml]; rfl) (argsL := [(.ref u_READY), (.int x1)]) (rest := []) (lenOf pd__Lcom_example_scatterd_scatterd_model_JobState_I_Lcom_example_scatterd_scatterd_model_JobState_ rfl) rfl (by show 2 * 0 + _ ≤ _; exact Nat.le_of_eq rfl) (hb hby at_69) (fun _ _ => ⟨rfl, e32, (by decide : 1 + 0 ≤ _), (by decide : 8 + 0 ≤ _)⟩)
      dsimp only [Pt.U, Pt.locs, Pt.cells, Pt.slots] at X40 l40 y40 z40 st40 hQ40
      subst l40 y40 z40
      obtain ⟨rfl, Nq40, e40⟩ := hQ40
      rw [own_o3 hn_READY_FAILED hn_READY_ERROR] at st40
      have N40 := Fr.app N32 Nq40
      refine go st40 ?_
      show G (T40.setTop (mkF m 72 #[.val (.int x0), .val (.int x1), .val (.ref b1), .val (.int (1 : Int32)), .val (.ref u_READY), .unset, .unset] [(.ref u_READY)]))
      refine go (fun tg kg => XS.astore X40.here hx rfl (hb hby at_72) rfl rfl (l' := #[.val (.int x0), .val (.int x1), .val (.ref b1), .val (.int (1 : Int32)), .val (.ref u_READY), .val (.ref u_READY), .unset]) rfl kg) ?_
      show G (T40.setTop (mkF m 74 #[.val (.int x0), .val (.int x1), .val (.ref b1), .val (.int (1 : Int32)), .val (.ref u_READY), .val (.ref u_READY), .unset] []))
      refine go (fun tg kg => XS.iloadN X40.here hx rfl (hb hby at_74) rfl kg) ?_
      show G (T40.setTop (mkF m 75 #[.val (.int x0), .val (.int x1), .val (.ref b1), .val (.int (1 : Int32)), .val (.ref u_READY), .val (.ref u_READY), .unset] [(.int x1)]))
      refine go (fun tg kg => XS.iconst X40.here hx rfl (hb hby at_75) kg) ?_
      show G (T40.setTop (mkF m 76 #[.val (.int x0), .val (.int x1), .val (.ref b1), .val (.int (1 : Int32)), .val (.ref u_READY), .val (.ref u_READY), .unset] [(.int (1 : Int32)), (.int x1)]))
      refine go (fun tg kg => XS.icmpNo X40.here hx rfl (hb hby at_76) rfl (flt (own_r1 hr)).1 kg) ?_
      show G (T40.setTop (mkF m 79 #[.val (.int x0), .val (.int x1), .val (.ref b1), .val (.int (1 : Int32)), .val (.ref u_READY), .val (.ref u_READY), .unset] []))
      refine go (fun tg kg => XS.iloadN X40.here hx rfl (hb hby at_79) rfl kg) ?_
      show G (T40.setTop (mkF m 80 #[.val (.int x0), .val (.int x1), .val (.ref b1), .val (.int (1 : Int32)), .val (.ref u_READY), .val (.ref u_READY), .unset] [(.int (1 : Int32))]))
      refine go (fun tg kg => XS.iconst X40.here hx rfl (hb hby at_80) kg) ?_
      show G (T40.setTop (mkF m 81 #[.val (.int x0), .val (.int x1), .val (.ref b1), .val (.int (1 : Int32)), .val (.ref u_READY), .val (.ref u_READY), .unset] [(.int (5 : Int32)), (.int (1 : Int32))]))
      refine go (fun tg kg => XS.icmpYes X40.here hx rfl (pc0 := 81) (pc' := 92) rfl (hb hby at_81) rfl (feq (by decide)).2 (by decide) (by decide) kg) ?_
      show G (T40.setTop (mkF m 92 #[.val (.int x0), .val (.int x1), .val (.ref b1), .val (.int (1 : Int32)), .val (.ref u_READY), .val (.ref u_READY), .unset] []))
      refine go (fun tg kg => XS.iloadN X40.here hx rfl (hb hby at_92) rfl kg) ?_
      show G (T40.setTop (mkF m 93 #[.val (.int x0), .val (.int x1), .val (.ref b1), .val (.int (1 : Int32)), .val (.ref u_READY), .val (.ref u_READY), .unset] [(.int (1 : Int32))]))
      refine go (fun tg kg => XS.bipush X40.here hx rfl (hb hby at_93) kg) ?_
      show G (T40.setTop (mkF m 95 #[.val (.int x0), .val (.int x1), .val (.ref b1), .val (.int (1 : Int32)), .val (.ref u_READY), .val (.ref u_READY), .unset] [(.int (6 : Int32)), (.int (1 : Int32))]))
      refine go (fun tg kg => XS.icmpYes X40.here hx rfl (pc0 := 95) (pc' := 106) rfl (hb hby at_95) rfl (feq (by decide)).2 (by decide) (by decide) kg) ?_
      show G (T40.setTop (mkF m 106 #[.val (.int x0), .val (.int x1), .val (.ref b1), .val (.int (1 : Int32)), .val (.ref u_READY), .val (.ref u_READY), .unset] []))
      refine go (fun tg kg => XS.aload X40.here hx rfl (hb hby at_106) rfl rfl kg) ?_
      show G (T40.setTop (mkF m 108 #[.val (.int x0), .val (.int x1), .val (.ref b1), .val (.int (1 : Int32)), .val (.ref u_READY), .val (.ref u_READY), .unset] [(.ref u_READY)]))
      refine go (fun tg kg => XS.astore X40.here hx rfl (hb hby at_108) rfl rfl (l' := #[.val (.int x0), .val (.int x1), .val (.ref b1), .val (.int (1 : Int32)), .val (.ref u_READY), .val (.ref u_READY), .val (.ref u_READY)]) rfl kg) ?_
      show G (T40.setTop (mkF m 110 #[.val (.int x0), .val (.int x1), .val (.ref b1), .val (.int (1 : Int32)), .val (.ref u_READY), .val (.ref u_READY), .val (.ref u_READY)] []))
      refine go (fun tg kg => XS.goto X40.here hx rfl (pc0 := 110) (pc' := 117) rfl (hb hby at_110) (by decide) (by decide) kg) ?_
      show G (T40.setTop (mkF m 117 #[.val (.int x0), .val (.int x1), .val (.ref b1), .val (.int (1 : Int32)), .val (.ref u_READY), .val (.ref u_READY), .val (.ref u_READY)] []))
      refine go (fun tg kg => XS.aload X40.here hx rfl (hb hby at_117) rfl rfl kg) ?_
      show G (T40.setTop (mkF m 119 #[.val (.int x0), .val (.int x1), .val (.ref b1), .val (.int (1 : Int32)), .val (.ref u_READY), .val (.ref u_READY), .val (.ref u_READY)] [(.ref u_READY)]))
      refine go (fun tg kg => XS.aload X40.here hx rfl (hb hby at_119) rfl rfl kg) ?_
      show G (T40.setTop (mkF m 121 #[.val (.int x0), .val (.int x1), .val (.ref b1), .val (.int (1 : Int32)), .val (.ref u_READY), .val (.ref u_READY), .val (.ref u_READY)] [(.ref u_READY), (.ref u_READY)]))
      refine go (fun tg kg => Jvm.RoadKit.acmp (g := (mkF m 121 #[.val (.int x0), .val (.int x1), .val (.ref b1), .val (.int (1 : Int32)), .val (.ref u_READY), .val (.ref u_READY), .val (.ref u_READY)] [(.ref u_READY), (.ref u_READY)])) X40 hx rfl rfl rfl (pc0 := 121) (pc' := 124) (same := true) rfl (hb hby at_121) rfl (decide_eq_true rfl) (by decide) (by decide) kg) ?_
      show G (T40.setTop (mkF m 124 #[.val (.int x0), .val (.int x1), .val (.ref b1), .val (.int (1 : Int32)), .val (.ref u_READY), .val (.ref u_READY), .val (.ref u_READY)] []))
      refine go (fun tg kg => XS.iconst X40.here hx rfl (hb hby at_124) kg) ?_
      show G (T40.setTop (mkF m 125 #[.val (.int x0), .val (.int x1), .val (.ref b1), .val (.int (1 : Int32)), .val (.ref u_READY), .val (.ref u_READY), .val (.ref u_READY)] [(.int (1 : Int32))]))
      refine go (fun tg kg => XS.goto X40.here hx rfl (pc0 := 125) (pc' := 129) rfl (hb hby at_125) (by decide) (by decide) kg) ?_
      show G (T40.setTop (mkF m 129 #[.val (.int x0), .val (.int x1), .val (.ref b1), .val (.int (1 : Int32)), .val (.ref u_READY), .val (.ref u_READY), .val (.ref u_READY)] [(.int (1 : Int32))]))
      refine fin (some (.int (1 : Int32))) X40 (fun h => absurd h (by decide)) (fun fs hr => retN X40 hx (t := .boolean) hret (by simp) (hb hby at_129) hr) (by decide) (by decide) ?_
      rw [e40]
      exact ⟨rfl, N40⟩
    · skip
      refine go (fun tg kg => XS.aloadN X32.here hx rfl (hb hby at_61) rfl rfl kg) ?_
      show G (T32.setTop (mkF m 62 #[.val (.int x0), .val (.int x1), .val (.ref b1), .val (.int (2 : Int32)), .unset, .unset, .unset] [(.ref b1)]))
      refine go (fun tg kg => XS.iloadN X32.here hx rfl (hb hby at_62) rfl kg) ?_
      show G (T32.setTop (mkF m 63 #[.val (.int x0), .val (.int x1), .val (.ref b1), .val (.int (2 : Int32)), .unset, .unset, .unset] [(.int (2 : Int32)), (.ref b1)]))
      obtain ⟨cl44, Ar44, q44, S44, M44, H44, U44⟩ := id V32
      have hin44 : ¬ ((2 : Int32) < 0 ∨ cl44.slots.size ≤ ((2 : Int32)).toNatClampNeg) := inb_of S44 ⟨by decide, by decide⟩
      refine go (fun tg kg => X32.aaload hx (j := (2 : Int32)) (v := (.ref u_CREATING)) (by rw [e32]; exact Ar44.1) (State.isArrayOf_alike hZ.alike Ar44.2.1) rfl Ar44.2.2 hin44 (H44.at hin44 rfl) (g := (mkF m 63 #[.val (.int x0), .val (.int x1), .val (.ref b1), .val (.int (2 : Int32)), .unset, .unset, .unset] [(.int (2 : Int32)), (.ref b1)])) rfl rfl (hb hby at_63) _ kg) ?_
      show G (T32.setTop (mkF m 64 #[.val (.int x0), .val (.int x1), .val (.ref b1), .val (.int (2 : Int32)), .unset, .unset, .unset] [(.ref u_CREATING)]))
      refine go (fun tg kg => XS.astore X32.here hx rfl (hb hby at_64) rfl rfl (l' := #[.val (.int x0), .val (.int x1), .val (.ref b1), .val (.int (2 : Int32)), .val (.ref u_CREATING), .unset, .unset]) rfl kg) ?_
      show G (T32.setTop (mkF m 66 #[.val (.int x0), .val (.int x1), .val (.ref b1), .val (.int (2 : Int32)), .val (.ref u_CREATING), .unset, .unset] []))
      refine go (fun tg kg => XS.aload X32.here hx rfl (hb hby at_66) rfl rfl kg) ?_
      show G (T32.setTop (mkF m 68 #[.val (.int x0), .val (.int x1), .val (.ref b1), .val (.int (2 : Int32)), .val (.ref u_CREATING), .unset, .unset] [(.ref u_CREATING)]))
      refine go (fun tg kg => XS.iloadN X32.here hx rfl (hb hby at_68) rfl kg) ?_
      show G (T32.setTop (mkF m 69 #[.val (.int x0), .val (.int x1), .val (.ref b1), .val (.int (2 : Int32)), .val (.ref u_CREATING), .unset, .unset] [(.int x1), (.ref u_CREATING)]))
      have Fa46 := (((Fa22.wr W24).wr W28).wr W32)
      have Fa47 := ((Fa26.wr W28).wr W32)
      have Fa48 := (((((((Fa6.wr W8).wr W12).wr W16).wr W20).wr W24).wr W28).wr W32)
      obtain ⟨_, _, ⟨T45, L45, k45, n45⟩, -, X45, ⟨Lc45, hQ45, l45, y45, z45⟩, st45⟩ := Jvm.LawKit.callS X32 hx (y := (⟨"com/example/scatterd/scatterd/model/JobState", "onceAttemptEnded", "(Lcom/example/scatterd/scatterd/model/JobState;I)Lcom/example/scatterd/scatterd/model/JobState;"⟩ : MethodName)) hown (mvT hZ (hw _ (List.mem_of_getElem? (i := 20) rfl))) (mvT hZ (hw _ (List.mem_of_getElem? (i := 21) rfl))) (mvT hZ (hw _ (List.mem_of_getElem? (i := 3) rfl))) (mvT hZ (hw _ (List.mem_of_getElem? (i := 22) rfl))) (by decide) (backOf (W := 0) (rm1 l Z a0 hw [] u_CREATING x1 u_FAILED u_ERROR u_READY h32 n0 Z32 Fa46 Fa47 Fa48) hZ (hw _ (List.mem_of_getElem? (i := 22) rfl)) (hw _ (List.mem_of_getElem? (i := 3) rfl)) (by decide) (by decide)) (g := (mkF m 69 #[.val (.int x0), .val (.int x1), .val (.ref b1), .val (.int (2 : Int32)), .val (.ref u_CREATING), .unset, .unset] [(.int x1), (.ref u_CREATING)])) rfl (by rw [hml]; rfl) (argsL := [(.ref u_CREATING), (.int x1)]) (rest := []) (lenOf pd__Lcom_example_scatterd_scatterd_model_JobState_I_Lcom_example_scatterd_scatterd_model_JobState_ rfl) rfl (by show 2 * 0 + _ ≤ _; exact Nat.le_of_eq rfl) (hb hby at_69) (fun _ _ => ⟨rfl, e32, (by decide : 1 + 0 ≤ _), (by decide : 8 + 0 ≤ _)⟩)
      dsimp only [Pt.U, Pt.locs, Pt.cells, Pt.slots] at X45 l45 y45 z45 st45 hQ45
      subst l45 y45 z45
      obtain ⟨rfl, Nq45, e45⟩ := hQ45
      rw [own_o3 hn_CREATING_FAILED hn_CREATING_ERROR] at st45
      have N45 := Fr.app N32 Nq45
      refine go st45 ?_
      show G (T45.setTop (mkF m 72 #[.val (.int x0), .val (.int x1), .val (.ref b1), .val (.int (2 : Int32)), .val (.ref u_CREATING), .unset, .unset] [(.ref u_CREATING)]))
      refine go (fun tg kg => XS.astore X45.here hx rfl (hb hby at_72) rfl rfl (l' := #[.val (.int x0), .val (.int x1), .val (.ref b1), .val (.int (2 : Int32)), .val (.ref u_CREATING), .val (.ref u_CREATING), .unset]) rfl kg) ?_
      show G (T45.setTop (mkF m 74 #[.val (.int x0), .val (.int x1), .val (.ref b1), .val (.int (2 : Int32)), .val (.ref u_CREATING), .val (.ref u_CREATING), .unset] []))
      refine go (fun tg kg => XS.iloadN X45.here hx rfl (hb hby at_74) rfl kg) ?_
      show G (T45.setTop (mkF m 75 #[.val (.int x0), .val (.int x1), .val (.ref b1), .val (.int (2 : Int32)), .val (.ref u_CREATING), .val (.ref u_CREATING), .unset] [(.int x1)]))
      refine go (fun tg kg => XS.iconst X45.here hx rfl (hb hby at_75) kg) ?_
      show G (T45.setTop (mkF m 76 #[.val (.int x0), .val (.int x1), .val (.ref b1), .val (.int (2 : Int32)), .val (.ref u_CREATING), .val (.ref u_CREATING), .unset] [(.int (1 : Int32)), (.int x1)]))
      refine go (fun tg kg => XS.icmpNo X45.here hx rfl (hb hby at_76) rfl (flt (own_r1 hr)).1 kg) ?_
      show G (T45.setTop (mkF m 79 #[.val (.int x0), .val (.int x1), .val (.ref b1), .val (.int (2 : Int32)), .val (.ref u_CREATING), .val (.ref u_CREATING), .unset] []))
      refine go (fun tg kg => XS.iloadN X45.here hx rfl (hb hby at_79) rfl kg) ?_
      show G (T45.setTop (mkF m 80 #[.val (.int x0), .val (.int x1), .val (.ref b1), .val (.int (2 : Int32)), .val (.ref u_CREATING), .val (.ref u_CREATING), .unset] [(.int (2 : Int32))]))
      refine go (fun tg kg => XS.iconst X45.here hx rfl (hb hby at_80) kg) ?_
      show G (T45.setTop (mkF m 81 #[.val (.int x0), .val (.int x1), .val (.ref b1), .val (.int (2 : Int32)), .val (.ref u_CREATING), .val (.ref u_CREATING), .unset] [(.int (5 : Int32)), (.int (2 : Int32))]))
      refine go (fun tg kg => XS.icmpYes X45.here hx rfl (pc0 := 81) (pc' := 92) rfl (hb hby at_81) rfl (feq (by decide)).2 (by decide) (by decide) kg) ?_
      show G (T45.setTop (mkF m 92 #[.val (.int x0), .val (.int x1), .val (.ref b1), .val (.int (2 : Int32)), .val (.ref u_CREATING), .val (.ref u_CREATING), .unset] []))
      refine go (fun tg kg => XS.iloadN X45.here hx rfl (hb hby at_92) rfl kg) ?_
      show G (T45.setTop (mkF m 93 #[.val (.int x0), .val (.int x1), .val (.ref b1), .val (.int (2 : Int32)), .val (.ref u_CREATING), .val (.ref u_CREATING), .unset] [(.int (2 : Int32))]))
      refine go (fun tg kg => XS.bipush X45.here hx rfl (hb hby at_93) kg) ?_
      show G (T45.setTop (mkF m 95 #[.val (.int x0), .val (.int x1), .val (.ref b1), .val (.int (2 : Int32)), .val (.ref u_CREATING), .val (.ref u_CREATING), .unset] [(.int (6 : Int32)), (.int (2 : Int32))]))
      refine go (fun tg kg => XS.icmpYes X45.here hx rfl (pc0 := 95) (pc' := 106) rfl (hb hby at_95) rfl (feq (by decide)).2 (by decide) (by decide) kg) ?_
      show G (T45.setTop (mkF m 106 #[.val (.int x0), .val (.int x1), .val (.ref b1), .val (.int (2 : Int32)), .val (.ref u_CREATING), .val (.ref u_CREATING), .unset] []))
      refine go (fun tg kg => XS.aload X45.here hx rfl (hb hby at_106) rfl rfl kg) ?_
      show G (T45.setTop (mkF m 108 #[.val (.int x0), .val (.int x1), .val (.ref b1), .val (.int (2 : Int32)), .val (.ref u_CREATING), .val (.ref u_CREATING), .unset] [(.ref u_CREATING)]))
      refine go (fun tg kg => XS.astore X45.here hx rfl (hb hby at_108) rfl rfl (l' := #[.val (.int x0), .val (.int x1), .val (.ref b1), .val (.int (2 : Int32)), .val (.ref u_CREATING), .val (.ref u_CREATING), .val (.ref u_CREATING)]) rfl kg) ?_
      show G (T45.setTop (mkF m 110 #[.val (.int x0), .val (.int x1), .val (.ref b1), .val (.int (2 : Int32)), .val (.ref u_CREATING), .val (.ref u_CREATING), .val (.ref u_CREATING)] []))
      refine go (fun tg kg => XS.goto X45.here hx rfl (pc0 := 110) (pc' := 117) rfl (hb hby at_110) (by decide) (by decide) kg) ?_
      show G (T45.setTop (mkF m 117 #[.val (.int x0), .val (.int x1), .val (.ref b1), .val (.int (2 : Int32)), .val (.ref u_CREATING), .val (.ref u_CREATING), .val (.ref u_CREATING)] []))
      refine go (fun tg kg => XS.aload X45.here hx rfl (hb hby at_117) rfl rfl kg) ?_
      show G (T45.setTop (mkF m 119 #[.val (.int x0), .val (.int x1), .val (.ref b1), .val (.int (2 : Int32)), .val (.ref u_CREATING), .val (.ref u_CREATING), .val (.ref u_CREATING)] [(.ref u_CREATING)]))
      refine go (fun tg kg => XS.aload X45.here hx rfl (hb hby at_119) rfl rfl kg) ?_
      show G (T45.setTop (mkF m 121 #[.val (.int x0), .val (.int x1), .val (.ref b1), .val (.int (2 : Int32)), .val (.ref u_CREATING), .val (.ref u_CREATING), .val (.ref u_CREATING)] [(.ref u_CREATING), (.ref u_CREATING)]))
      refine go (fun tg kg => Jvm.RoadKit.acmp (g := (mkF m 121 #[.val (.int x0), .val (.int x1), .val (.ref b1), .val (.int (2 : Int32)), .val (.ref u_CREATING), .val (.ref u_CREATING), .val (.ref u_CREATING)] [(.ref u_CREATING), (.ref u_CREATING)])) X45 hx rfl rfl rfl (pc0 := 121) (pc' := 124) (same := true) rfl (hb hby at_121) rfl (decide_eq_true rfl) (by decide) (by decide) kg) ?_
      show G (T45.setTop (mkF m 124 #[.val (.int x0), .val (.int x1), .val (.ref b1), .val (.int (2 : Int32)), .val (.ref u_CREATING), .val (.ref u_CREATING), .val (.ref u_CREATING)] []))
      refine go (fun tg kg => XS.iconst X45.here hx rfl (hb hby at_124) kg) ?_
      show G (T45.setTop (mkF m 125 #[.val (.int x0), .val (.int x1), .val (.ref b1), .val (.int (2 : Int32)), .val (.ref u_CREATING), .val (.ref u_CREATING), .val (.ref u_CREATING)] [(.int (1 : Int32))]))
      refine go (fun tg kg => XS.goto X45.here hx rfl (pc0 := 125) (pc' := 129) rfl (hb hby at_125) (by decide) (by decide) kg) ?_
      show G (T45.setTop (mkF m 129 #[.val (.int x0), .val (.int x1), .val (.ref b1), .val (.int (2 : Int32)), .val (.ref u_CREATING), .val (.ref u_CREATING), .val (.ref u_CREATING)] [(.int (1 : Int32))]))
      refine fin (some (.int (1 : Int32))) X45 (fun h => absurd h (by decide)) (fun fs hr => retN X45 hx (t := .boolean) hret (by simp) (hb hby at_129) hr) (by decide) (by decide) ?_
      rw [e45]
      exact ⟨rfl, N45⟩
    · skip
      refine go (fun tg kg => XS.aloadN X32.here hx rfl (hb hby at_61) rfl rfl kg) ?_
      show G (T32.setTop (mkF m 62 #[.val (.int x0), .val (.int x1), .val (.ref b1), .val (.int (3 : Int32)), .unset, .unset, .unset] [(.ref b1)]))
      refine go (fun tg kg => XS.iloadN X32.here hx rfl (hb hby at_62) rfl kg) ?_
      show G (T32.setTop (mkF m 63 #[.val (.int x0), .val (.int x1), .val (.ref b1), .val (.int (3 : Int32)), .unset, .unset, .unset] [(.int (3 : Int32)), (.ref b1)]))
      obtain ⟨cl49, Ar49, q49, S49, M49, H49, U49⟩ := id V32
      have hin49 : ¬ ((3 : Int32) < 0 ∨ cl49.slots.size ≤ ((3 : Int32)).toNatClampNeg) := inb_of S49 ⟨by decide, by decide⟩
      refine go (fun tg kg => X32.aaload hx (j := (3 : Int32)) (v := (.ref u_RUNNING)) (by rw [e32]; exact Ar49.1) (State.isArrayOf_alike hZ.alike Ar49.2.1) rfl Ar49.2.2 hin49 (H49.at hin49 rfl) (g := (mkF m 63 #[.val (.int x0), .val (.int x1), .val (.ref b1), .val (.int (3 : Int32)), .unset, .unset, .unset] [(.int (3 : Int32)), (.ref b1)])) rfl rfl (hb hby at_63) _ kg) ?_
      show G (T32.setTop (mkF m 64 #[.val (.int x0), .val (.int x1), .val (.ref b1), .val (.int (3 : Int32)), .unset, .unset, .unset] [(.ref u_RUNNING)]))
      refine go (fun tg kg => XS.astore X32.here hx rfl (hb hby at_64) rfl rfl (l' := #[.val (.int x0), .val (.int x1), .val (.ref b1), .val (.int (3 : Int32)), .val (.ref u_RUNNING), .unset, .unset]) rfl kg) ?_
      show G (T32.setTop (mkF m 66 #[.val (.int x0), .val (.int x1), .val (.ref b1), .val (.int (3 : Int32)), .val (.ref u_RUNNING), .unset, .unset] []))
      refine go (fun tg kg => XS.aload X32.here hx rfl (hb hby at_66) rfl rfl kg) ?_
      show G (T32.setTop (mkF m 68 #[.val (.int x0), .val (.int x1), .val (.ref b1), .val (.int (3 : Int32)), .val (.ref u_RUNNING), .unset, .unset] [(.ref u_RUNNING)]))
      refine go (fun tg kg => XS.iloadN X32.here hx rfl (hb hby at_68) rfl kg) ?_
      show G (T32.setTop (mkF m 69 #[.val (.int x0), .val (.int x1), .val (.ref b1), .val (.int (3 : Int32)), .val (.ref u_RUNNING), .unset, .unset] [(.int x1), (.ref u_RUNNING)]))
      have Fa51 := (((Fa22.wr W24).wr W28).wr W32)
      have Fa52 := ((Fa26.wr W28).wr W32)
      have Fa53 := (((((((Fa6.wr W8).wr W12).wr W16).wr W20).wr W24).wr W28).wr W32)
      obtain ⟨_, _, ⟨T50, L50, k50, n50⟩, -, X50, ⟨Lc50, hQ50, l50, y50, z50⟩, st50⟩ := Jvm.LawKit.callS X32 hx (y := (⟨"com/example/scatterd/scatterd/model/JobState", "onceAttemptEnded", "(Lcom/example/scatterd/scatterd/model/JobState;I)Lcom/example/scatterd/scatterd/model/JobState;"⟩ : MethodName)) hown (mvT hZ (hw _ (List.mem_of_getElem? (i := 20) rfl))) (mvT hZ (hw _ (List.mem_of_getElem? (i := 21) rfl))) (mvT hZ (hw _ (List.mem_of_getElem? (i := 3) rfl))) (mvT hZ (hw _ (List.mem_of_getElem? (i := 22) rfl))) (by decide) (backOf (W := 0) (rm1 l Z a0 hw [] u_RUNNING x1 u_FAILED u_ERROR u_READY h32 n0 Z32 Fa51 Fa52 Fa53) hZ (hw _ (List.mem_of_getElem? (i := 22) rfl)) (hw _ (List.mem_of_getElem? (i := 3) rfl)) (by decide) (by decide)) (g := (mkF m 69 #[.val (.int x0), .val (.int x1), .val (.ref b1), .val (.int (3 : Int32)), .val (.ref u_RUNNING), .unset, .unset] [(.int x1), (.ref u_RUNNING)])) rfl (by rw [hml]; rfl) (argsL := [(.ref u_RUNNING), (.int x1)]) (rest := []) (lenOf pd__Lcom_example_scatterd_scatterd_model_JobState_I_Lcom_example_scatterd_scatterd_model_JobState_ rfl) rfl (by show 2 * 0 + _ ≤ _; exact Nat.le_of_eq rfl) (hb hby at_69) (fun _ _ => ⟨rfl, e32, (by decide : 1 + 0 ≤ _), (by decide : 8 + 0 ≤ _)⟩)
      dsimp only [Pt.U, Pt.locs, Pt.cells, Pt.slots] at X50 l50 y50 z50 st50 hQ50
      subst l50 y50 z50
      obtain ⟨rfl, Nq50, e50⟩ := hQ50
      rw [own_o3 hn_RUNNING_FAILED hn_RUNNING_ERROR] at st50
      have N50 := Fr.app N32 Nq50
      refine go st50 ?_
      show G (T50.setTop (mkF m 72 #[.val (.int x0), .val (.int x1), .val (.ref b1), .val (.int (3 : Int32)), .val (.ref u_RUNNING), .unset, .unset] [(.ref u_RUNNING)]))
      refine go (fun tg kg => XS.astore X50.here hx rfl (hb hby at_72) rfl rfl (l' := #[.val (.int x0), .val (.int x1), .val (.ref b1), .val (.int (3 : Int32)), .val (.ref u_RUNNING), .val (.ref u_RUNNING), .unset]) rfl kg) ?_
      show G (T50.setTop (mkF m 74 #[.val (.int x0), .val (.int x1), .val (.ref b1), .val (.int (3 : Int32)), .val (.ref u_RUNNING), .val (.ref u_RUNNING), .unset] []))
      refine go (fun tg kg => XS.iloadN X50.here hx rfl (hb hby at_74) rfl kg) ?_
      show G (T50.setTop (mkF m 75 #[.val (.int x0), .val (.int x1), .val (.ref b1), .val (.int (3 : Int32)), .val (.ref u_RUNNING), .val (.ref u_RUNNING), .unset] [(.int x1)]))
      refine go (fun tg kg => XS.iconst X50.here hx rfl (hb hby at_75) kg) ?_
      show G (T50.setTop (mkF m 76 #[.val (.int x0), .val (.int x1), .val (.ref b1), .val (.int (3 : Int32)), .val (.ref u_RUNNING), .val (.ref u_RUNNING), .unset] [(.int (1 : Int32)), (.int x1)]))
      refine go (fun tg kg => XS.icmpNo X50.here hx rfl (hb hby at_76) rfl (flt (own_r1 hr)).1 kg) ?_
      show G (T50.setTop (mkF m 79 #[.val (.int x0), .val (.int x1), .val (.ref b1), .val (.int (3 : Int32)), .val (.ref u_RUNNING), .val (.ref u_RUNNING), .unset] []))
      refine go (fun tg kg => XS.iloadN X50.here hx rfl (hb hby at_79) rfl kg) ?_
      show G (T50.setTop (mkF m 80 #[.val (.int x0), .val (.int x1), .val (.ref b1), .val (.int (3 : Int32)), .val (.ref u_RUNNING), .val (.ref u_RUNNING), .unset] [(.int (3 : Int32))]))
      refine go (fun tg kg => XS.iconst X50.here hx rfl (hb hby at_80) kg) ?_
      show G (T50.setTop (mkF m 81 #[.val (.int x0), .val (.int x1), .val (.ref b1), .val (.int (3 : Int32)), .val (.ref u_RUNNING), .val (.ref u_RUNNING), .unset] [(.int (5 : Int32)), (.int (3 : Int32))]))
      refine go (fun tg kg => XS.icmpYes X50.here hx rfl (pc0 := 81) (pc' := 92) rfl (hb hby at_81) rfl (feq (by decide)).2 (by decide) (by decide) kg) ?_
      show G (T50.setTop (mkF m 92 #[.val (.int x0), .val (.int x1), .val (.ref b1), .val (.int (3 : Int32)), .val (.ref u_RUNNING), .val (.ref u_RUNNING), .unset] []))
      refine go (fun tg kg => XS.iloadN X50.here hx rfl (hb hby at_92) rfl kg) ?_
      show G (T50.setTop (mkF m 93 #[.val (.int x0), .val (.int x1), .val (.ref b1), .val (.int (3 : Int32)), .val (.ref u_RUNNING), .val (.ref u_RUNNING), .unset] [(.int (3 : Int32))]))
      refine go (fun tg kg => XS.bipush X50.here hx rfl (hb hby at_93) kg) ?_
      show G (T50.setTop (mkF m 95 #[.val (.int x0), .val (.int x1), .val (.ref b1), .val (.int (3 : Int32)), .val (.ref u_RUNNING), .val (.ref u_RUNNING), .unset] [(.int (6 : Int32)), (.int (3 : Int32))]))
      refine go (fun tg kg => XS.icmpYes X50.here hx rfl (pc0 := 95) (pc' := 106) rfl (hb hby at_95) rfl (feq (by decide)).2 (by decide) (by decide) kg) ?_
      show G (T50.setTop (mkF m 106 #[.val (.int x0), .val (.int x1), .val (.ref b1), .val (.int (3 : Int32)), .val (.ref u_RUNNING), .val (.ref u_RUNNING), .unset] []))
      refine go (fun tg kg => XS.aload X50.here hx rfl (hb hby at_106) rfl rfl kg) ?_
      show G (T50.setTop (mkF m 108 #[.val (.int x0), .val (.int x1), .val (.ref b1), .val (.int (3 : Int32)), .val (.ref u_RUNNING), .val (.ref u_RUNNING), .unset] [(.ref u_RUNNING)]))
      refine go (fun tg kg => XS.astore X50.here hx rfl (hb hby at_108) rfl rfl (l' := #[.val (.int x0), .val (.int x1), .val (.ref b1), .val (.int (3 : Int32)), .val (.ref u_RUNNING), .val (.ref u_RUNNING), .val (.ref u_RUNNING)]) rfl kg) ?_
      show G (T50.setTop (mkF m 110 #[.val (.int x0), .val (.int x1), .val (.ref b1), .val (.int (3 : Int32)), .val (.ref u_RUNNING), .val (.ref u_RUNNING), .val (.ref u_RUNNING)] []))
      refine go (fun tg kg => XS.goto X50.here hx rfl (pc0 := 110) (pc' := 117) rfl (hb hby at_110) (by decide) (by decide) kg) ?_
      show G (T50.setTop (mkF m 117 #[.val (.int x0), .val (.int x1), .val (.ref b1), .val (.int (3 : Int32)), .val (.ref u_RUNNING), .val (.ref u_RUNNING), .val (.ref u_RUNNING)] []))
      refine go (fun tg kg => XS.aload X50.here hx rfl (hb hby at_117) rfl rfl kg) ?_
      show G (T50.setTop (mkF m 119 #[.val (.int x0), .val (.int x1), .val (.ref b1), .val (.int (3 : Int32)), .val (.ref u_RUNNING), .val (.ref u_RUNNING), .val (.ref u_RUNNING)] [(.ref u_RUNNING)]))
      refine go (fun tg kg => XS.aload X50.here hx rfl (hb hby at_119) rfl rfl kg) ?_
      show G (T50.setTop (mkF m 121 #[.val (.int x0), .val (.int x1), .val (.ref b1), .val (.int (3 : Int32)), .val (.ref u_RUNNING), .val (.ref u_RUNNING), .val (.ref u_RUNNING)] [(.ref u_RUNNING), (.ref u_RUNNING)]))
      refine go (fun tg kg => Jvm.RoadKit.acmp (g := (mkF m 121 #[.val (.int x0), .val (.int x1), .val (.ref b1), .val (.int (3 : Int32)), .val (.ref u_RUNNING), .val (.ref u_RUNNING), .val (.ref u_RUNNING)] [(.ref u_RUNNING), (.ref u_RUNNING)])) X50 hx rfl rfl rfl (pc0 := 121) (pc' := 124) (same := true) rfl (hb hby at_121) rfl (decide_eq_true rfl) (by decide) (by decide) kg) ?_
      show G (T50.setTop (mkF m 124 #[.val (.int x0), .val (.int x1), .val (.ref b1), .val (.int (3 : Int32)), .val (.ref u_RUNNING), .val (.ref u_RUNNING), .val (.ref u_RUNNING)] []))
      refine go (fun tg kg => XS.iconst X50.here hx rfl (hb hby at_124) kg) ?_
      show G (T50.setTop (mkF m 125 #[.val (.int x0), .val (.int x1), .val (.ref b1), .val (.int (3 : Int32)), .val (.ref u_RUNNING), .val (.ref u_RUNNING), .val (.ref u_RUNNING)] [(.int (1 : Int32))]))
      refine go (fun tg kg => XS.goto X50.here hx rfl (pc0 := 125) (pc' := 129) rfl (hb hby at_125) (by decide) (by decide) kg) ?_
      show G (T50.setTop (mkF m 129 #[.val (.int x0), .val (.int x1), .val (.ref b1), .val (.int (3 : Int32)), .val (.ref u_RUNNING), .val (.ref u_RUNNING), .val (.ref u_RUNNING)] [(.int (1 : Int32))]))
      refine fin (some (.int (1 : Int32))) X50 (fun h => absurd h (by decide)) (fun fs hr => retN X50 hx (t := .boolean) hret (by simp) (hb hby at_129) hr) (by decide) (by decide) ?_
      rw [e50]
      exact ⟨rfl, N50⟩
    · skip
      refine go (fun tg kg => XS.aloadN X32.here hx rfl (hb hby at_61) rfl rfl kg) ?_
      show G (T32.setTop (mkF m 62 #[.val (.int x0), .val (.int x1), .val (.ref b1), .val (.int (4 : Int32)), .unset, .unset, .unset] [(.ref b1)]))
      refine go (fun tg kg => XS.iloadN X32.here hx rfl (hb hby at_62) rfl kg) ?_
      show G (T32.setTop (mkF m 63 #[.val (.int x0), .val (.int x1), .val (.ref b1), .val (.int (4 : Int32)), .unset, .unset, .unset] [(.int (4 : Int32)), (.ref b1)]))
      obtain ⟨cl54, Ar54, q54, S54, M54, H54, U54⟩ := id V32
      have hin54 : ¬ ((4 : Int32) < 0 ∨ cl54.slots.size ≤ ((4 : Int32)).toNatClampNeg) := inb_of S54 ⟨by decide, by decide⟩
      refine go (fun tg kg => X32.aaload hx (j := (4 : Int32)) (v := (.ref u_SUCCESS)) (by rw [e32]; exact Ar54.1) (State.isArrayOf_alike hZ.alike Ar54.2.1) rfl Ar54.2.2 hin54 (H54.at hin54 rfl) (g := (mkF m 63 #[.val (.int x0), .val (.int x1), .val (.ref b1), .val (.int (4 : Int32)), .unset, .unset, .unset] [(.int (4 : Int32)), (.ref b1)])) rfl rfl (hb hby at_63) _ kg) ?_
      show G (T32.setTop (mkF m 64 #[.val (.int x0), .val (.int x1), .val (.ref b1), .val (.int (4 : Int32)), .unset, .unset, .unset] [(.ref u_SUCCESS)]))
      refine go (fun tg kg => XS.astore X32.here hx rfl (hb hby at_64) rfl rfl (l' := #[.val (.int x0), .val (.int x1), .val (.ref b1), .val (.int (4 : Int32)), .val (.ref u_SUCCESS), .unset, .unset]) rfl kg) ?_
      show G (T32.setTop (mkF m 66 #[.val (.int x0), .val (.int x1), .val (.ref b1), .val (.int (4 : Int32)), .val (.ref u_SUCCESS), .unset, .unset] []))
      refine go (fun tg kg => XS.aload X32.here hx rfl (hb hby at_66) rfl rfl kg) ?_
      show G (T32.setTop (mkF m 68 #[.val (.int x0), .val (.int x1), .val (.ref b1), .val (.int (4 : Int32)), .val (.ref u_SUCCESS), .unset, .unset] [(.ref u_SUCCESS)]))
      refine go (fun tg kg => XS.iloadN X32.here hx rfl (hb hby at_68) rfl kg) ?_
      show G (T32.setTop (mkF m 69 #[.val (.int x0), .val (.int x1), .val (.ref b1), .val (.int (4 : Int32)), .val (.ref u_SUCCESS), .unset, .unset] [(.int x1), (.ref u_SUCCESS)]))
      have Fa56 := (((Fa22.wr W24).wr W28).wr W32)
      have Fa57 := ((Fa26.wr W28).wr W32)
      have Fa58 := (((((((Fa6.wr W8).wr W12).wr W16).wr W20).wr W24).wr W28).wr W32)
      obtain ⟨_, _, ⟨T55, L55, k55, n55⟩, -, X55, ⟨Lc55, hQ55, l55, y55, z55⟩, st55⟩ := Jvm.LawKit.callS X32 hx (y := (⟨"com/example/scatterd/scatterd/model/JobState", "onceAttemptEnded", "(Lcom/example/scatterd/scatterd/model/JobState;I)Lcom/example/scatterd/scatterd/model/JobState;"⟩ : MethodName)) hown (mvT hZ (hw _ (List.mem_of_getElem? (i := 20) rfl))) (mvT hZ (hw _ (List.mem_of_getElem? (i := 21) rfl))) (mvT hZ (hw _ (List.mem_of_getElem? (i := 3) rfl))) (mvT hZ (hw _ (List.mem_of_getElem? (i := 22) rfl))) (by decide) (backOf (W := 0) (rm1 l Z a0 hw [] u_SUCCESS x1 u_FAILED u_ERROR u_READY h32 n0 Z32 Fa56 Fa57 Fa58) hZ (hw _ (List.mem_of_getElem? (i := 22) rfl)) (hw _ (List.mem_of_getElem? (i := 3) rfl)) (by decide) (by decide)) (g := (mkF m 69 #[.val (.int x0), .val (.int x1), .val (.ref b1), .val (.int (4 : Int32)), .val (.ref u_SUCCESS), .unset, .unset] [(.int x1), (.ref u_SUCCESS)])) rfl (by rw [hml]; rfl) (argsL := [(.ref u_SUCCESS), (.int x1)]) (rest := []) (lenOf pd__Lcom_example_scatterd_scatterd_model_JobState_I_Lcom_example_scatterd_scatterd_model_JobState_ rfl) rfl (by show 2 * 0 + _ ≤ _; exact Nat.le_of_eq rfl) (hb hby at_69) (fun _ _ => ⟨rfl, e32, (by decide : 1 + 0 ≤ _), (by decide : 8 + 0 ≤ _)⟩)
      dsimp only [Pt.U, Pt.locs, Pt.cells, Pt.slots] at X55 l55 y55 z55 st55 hQ55
      subst l55 y55 z55
      obtain ⟨rfl, Nq55, e55⟩ := hQ55
      rw [own_o3 hn_SUCCESS_FAILED hn_SUCCESS_ERROR] at st55
      have N55 := Fr.app N32 Nq55
      refine go st55 ?_
      show G (T55.setTop (mkF m 72 #[.val (.int x0), .val (.int x1), .val (.ref b1), .val (.int (4 : Int32)), .val (.ref u_SUCCESS), .unset, .unset] [(.ref u_SUCCESS)]))
      refine go (fun tg kg => XS.astore X55.here hx rfl (hb hby at_72) rfl rfl (l' := #[.val (.int x0), .val (.int x1), .val (.ref b1), .val (.int (4 : Int32)), .val (.ref u_SUCCESS), .val (.ref u_SUCCESS), .unset]) rfl kg) ?_
      show G (T55.setTop (mkF m 74 #[.val (.int x0), .val (.int x1), .val (.ref b1), .val (.int (4 : Int32)), .val (.ref u_SUCCESS), .val (.ref u_SUCCESS), .unset] []))
      refine go (fun tg kg => XS.iloadN X55.here hx rfl (hb hby at_74) rfl kg) ?_
      show G (T55.setTop (mkF m 75 #[.val (.int x0), .val (.int x1), .val (.ref b1), .val (.int (4 : Int32)), .val (.ref u_SUCCESS), .val (.ref u_SUCCESS), .unset] [(.int x1)]))
      refine go (fun tg kg => XS.iconst X55.here hx rfl (hb hby at_75) kg) ?_
      show G (T55.setTop (mkF m 76 #[.val (.int x0), .val (.int x1), .val (.ref b1), .val (.int (4 : Int32)), .val (.ref u_SUCCESS), .val (.ref u_SUCCESS), .unset] [(.int (1 : Int32)), (.int x1)]))
      refine go (fun tg kg => XS.icmpNo X55.here hx rfl (hb hby at_76) rfl (flt (own_r1 hr)).1 kg) ?_
      show G (T55.setTop (mkF m 79 #[.val (.int x0), .val (.int x1), .val (.ref b1), .val (.int (4 : Int32)), .val (.ref u_SUCCESS), .val (.ref u_SUCCESS), .unset] []))
      refine go (fun tg kg => XS.iloadN X55.here hx rfl (hb hby at_79) rfl kg) ?_
      show G (T55.setTop (mkF m 80 #[.val (.int x0), .val (.int x1), .val (.ref b1), .val (.int (4 : Int32)), .val (.ref u_SUCCESS), .val (.ref u_SUCCESS), .unset] [(.int (4 : Int32))]))
      refine go (fun tg kg => XS.iconst X55.here hx rfl (hb hby at_80) kg) ?_
      show G (T55.setTop (mkF m 81 #[.val (.int x0), .val (.int x1), .val (.ref b1), .val (.int (4 : Int32)), .val (.ref u_SUCCESS), .val (.ref u_SUCCESS), .unset] [(.int (5 : Int32)), (.int (4 : Int32))]))
      refine go (fun tg kg => XS.icmpYes X55.here hx rfl (pc0 := 81) (pc' := 92) rfl (hb hby at_81) rfl (feq (by decide)).2 (by decide) (by decide) kg) ?_
      show G (T55.setTop (mkF m 92 #[.val (.int x0), .val (.int x1), .val (.ref b1), .val (.int (4 : Int32)), .val (.ref u_SUCCESS), .val (.ref u_SUCCESS), .unset] []))
      refine go (fun tg kg => XS.iloadN X55.here hx rfl (hb hby at_92) rfl kg) ?_
      show G (T55.setTop (mkF m 93 #[.val (.int x0), .val (.int x1), .val (.ref b1), .val (.int (4 : Int32)), .val (.ref u_SUCCESS), .val (.ref u_SUCCESS), .unset] [(.int (4 : Int32))]))
      refine go (fun tg kg => XS.bipush X55.here hx rfl (hb hby at_93) kg) ?_
      show G (T55.setTop (mkF m 95 #[.val (.int x0), .val (.int x1), .val (.ref b1), .val (.int (4 : Int32)), .val (.ref u_SUCCESS), .val (.ref u_SUCCESS), .unset] [(.int (6 : Int32)), (.int (4 : Int32))]))
      refine go (fun tg kg => XS.icmpYes X55.here hx rfl (pc0 := 95) (pc' := 106) rfl (hb hby at_95) rfl (feq (by decide)).2 (by decide) (by decide) kg) ?_
      show G (T55.setTop (mkF m 106 #[.val (.int x0), .val (.int x1), .val (.ref b1), .val (.int (4 : Int32)), .val (.ref u_SUCCESS), .val (.ref u_SUCCESS), .unset] []))
      refine go (fun tg kg => XS.aload X55.here hx rfl (hb hby at_106) rfl rfl kg) ?_
      show G (T55.setTop (mkF m 108 #[.val (.int x0), .val (.int x1), .val (.ref b1), .val (.int (4 : Int32)), .val (.ref u_SUCCESS), .val (.ref u_SUCCESS), .unset] [(.ref u_SUCCESS)]))
      refine go (fun tg kg => XS.astore X55.here hx rfl (hb hby at_108) rfl rfl (l' := #[.val (.int x0), .val (.int x1), .val (.ref b1), .val (.int (4 : Int32)), .val (.ref u_SUCCESS), .val (.ref u_SUCCESS), .val (.ref u_SUCCESS)]) rfl kg) ?_
      show G (T55.setTop (mkF m 110 #[.val (.int x0), .val (.int x1), .val (.ref b1), .val (.int (4 : Int32)), .val (.ref u_SUCCESS), .val (.ref u_SUCCESS), .val (.ref u_SUCCESS)] []))
      refine go (fun tg kg => XS.goto X55.here hx rfl (pc0 := 110) (pc' := 117) rfl (hb hby at_110) (by decide) (by decide) kg) ?_
      show G (T55.setTop (mkF m 117 #[.val (.int x0), .val (.int x1), .val (.ref b1), .val (.int (4 : Int32)), .val (.ref u_SUCCESS), .val (.ref u_SUCCESS), .val (.ref u_SUCCESS)] []))
      refine go (fun tg kg => XS.aload X55.here hx rfl (hb hby at_117) rfl rfl kg) ?_
      show G (T55.setTop (mkF m 119 #[.val (.int x0), .val (.int x1), .val (.ref b1), .val (.int (4 : Int32)), .val (.ref u_SUCCESS), .val (.ref u_SUCCESS), .val (.ref u_SUCCESS)] [(.ref u_SUCCESS)]))
      refine go (fun tg kg => XS.aload X55.here hx rfl (hb hby at_119) rfl rfl kg) ?_
      show G (T55.setTop (mkF m 121 #[.val (.int x0), .val (.int x1), .val (.ref b1), .val (.int (4 : Int32)), .val (.ref u_SUCCESS), .val (.ref u_SUCCESS), .val (.ref u_SUCCESS)] [(.ref u_SUCCESS), (.ref u_SUCCESS)]))
      refine go (fun tg kg => Jvm.RoadKit.acmp (g := (mkF m 121 #[.val (.int x0), .val (.int x1), .val (.ref b1), .val (.int (4 : Int32)), .val (.ref u_SUCCESS), .val (.ref u_SUCCESS), .val (.ref u_SUCCESS)] [(.ref u_SUCCESS), (.ref u_SUCCESS)])) X55 hx rfl rfl rfl (pc0 := 121) (pc' := 124) (same := true) rfl (hb hby at_121) rfl (decide_eq_true rfl) (by decide) (by decide) kg) ?_
      show G (T55.setTop (mkF m 124 #[.val (.int x0), .val (.int x1), .val (.ref b1), .val (.int (4 : Int32)), .val (.ref u_SUCCESS), .val (.ref u_SUCCESS), .val (.ref u_SUCCESS)] []))
      refine go (fun tg kg => XS.iconst X55.here hx rfl (hb hby at_124) kg) ?_
      show G (T55.setTop (mkF m 125 #[.val (.int x0), .val (.int x1), .val (.ref b1), .val (.int (4 : Int32)), .val (.ref u_SUCCESS), .val (.ref u_SUCCESS), .val (.ref u_SUCCESS)] [(.int (1 : Int32))]))
      refine go (fun tg kg => XS.goto X55.here hx rfl (pc0 := 125) (pc' := 129) rfl (hb hby at_125) (by decide) (by decide) kg) ?_
      show G (T55.setTop (mkF m 129 #[.val (.int x0), .val (.int x1), .val (.ref b1), .val (.int (4 : Int32)), .val (.ref u_SUCCESS), .val (.ref u_SUCCESS), .val (.ref u_SUCCESS)] [(.int (1 : Int32))]))
      refine fin (some (.int (1 : Int32))) X55 (fun h => absurd h (by decide)) (fun fs hr => retN X55 hx (t := .boolean) hret (by simp) (hb hby at_129) hr) (by decide) (by decide) ?_
      rw [e55]
      exact ⟨rfl, N55⟩
    · skip
      refine go (fun tg kg => XS.aloadN X32.here hx rfl (hb hby at_61) rfl rfl kg) ?_
      show G (T32.setTop (mkF m 62 #[.val (.int x0), .val (.int x1), .val (.ref b1), .val (.int (5 : Int32)), .unset, .unset, .unset] [(.ref b1)]))
      refine go (fun tg kg => XS.iloadN X32.here hx rfl (hb hby at_62) rfl kg) ?_
      show G (T32.setTop (mkF m 63 #[.val (.int x0), .val (.int x1), .val (.ref b1), .val (.int (5 : Int32)), .unset, .unset, .unset] [(.int (5 : Int32)), (.ref b1)]))
      obtain ⟨cl59, Ar59, q59, S59, M59, H59, U59⟩ := id V32
      have hin59 : ¬ ((5 : Int32) < 0 ∨ cl59.slots.size ≤ ((5 : Int32)).toNatClampNeg) := inb_of S59 ⟨by decide, by decide⟩
      refine go (fun tg kg => X32.aaload hx (j := (5 : Int32)) (v := (.ref u_FAILED)) (by rw [e32]; exact Ar59.1) (State.isArrayOf_alike hZ.alike Ar59.2.1) rfl Ar59.2.2 hin59 (H59.at hin59 rfl) (g := (mkF m 63 #[.val (.int x0), .val (.int x1), .val (.ref b1), .val (.int (5 : Int32)), .unset, .unset, .unset] [(.int (5 : Int32)), (.ref b1)])) rfl rfl (hb hby at_63) _ kg) ?_
      show G (T32.setTop (mkF m 64 #[.val (.int x0), .val (.int x1), .val (.ref b1), .val (.int (5 : Int32)), .unset, .unset, .unset] [(.ref u_FAILED)]))
      refine go (fun tg kg => XS.astore X32.here hx rfl (hb hby at_64) rfl rfl (l' := #[.val (.int x0), .val (.int x1), .val (.ref b1), .val (.int (5 : Int32)), .val (.ref u_FAILED), .unset, .unset]) rfl kg) ?_
      show G (T32.setTop (mkF m 66 #[.val (.int x0), .val (.int x1), .val (.ref b1), .val (.int (5 : Int32)), .val (.ref u_FAILED), .unset, .unset] []))
      refine go (fun tg kg => XS.aload X32.here hx rfl (hb hby at_66) rfl rfl kg) ?_
      show G (T32.setTop (mkF m 68 #[.val (.int x0), .val (.int x1), .val (.ref b1), .val (.int (5 : Int32)), .val (.ref u_FAILED), .unset, .unset] [(.ref u_FAILED)]))
      refine go (fun tg kg => XS.iloadN X32.here hx rfl (hb hby at_68) rfl kg) ?_
      show G (T32.setTop (mkF m 69 #[.val (.int x0), .val (.int x1), .val (.ref b1), .val (.int (5 : Int32)), .val (.ref u_FAILED), .unset, .unset] [(.int x1), (.ref u_FAILED)]))
      have Fa61 := (((Fa22.wr W24).wr W28).wr W32)
      have Fa62 := ((Fa26.wr W28).wr W32)
      have Fa63 := (((((((Fa6.wr W8).wr W12).wr W16).wr W20).wr W24).wr W28).wr W32)
      obtain ⟨_, _, ⟨T60, L60, k60, n60⟩, -, X60, ⟨Lc60, hQ60, l60, y60, z60⟩, st60⟩ := Jvm.LawKit.callS X32 hx (y := (⟨"com/example/scatterd/scatterd/model/JobState", "onceAttemptEnded", "(Lcom/example/scatterd/scatterd/model/JobState;I)Lcom/example/scatterd/scatterd/model/JobState;"⟩ : MethodName)) hown (mvT hZ (hw _ (List.mem_of_getElem? (i := 20) rfl))) (mvT hZ (hw _ (List.mem_of_getElem? (i := 21) rfl))) (mvT hZ (hw _ (List.mem_of_getElem? (i := 3) rfl))) (mvT hZ (hw _ (List.mem_of_getElem? (i := 22) rfl))) (by decide) (backOf (W := 0) (rm1 l Z a0 hw [] u_FAILED x1 u_FAILED u_ERROR u_READY h32 n0 Z32 Fa61 Fa62 Fa63) hZ (hw _ (List.mem_of_getElem? (i := 22) rfl)) (hw _ (List.mem_of_getElem? (i := 3) rfl)) (by decide) (by decide)) (g := (mkF m 69 #[.val (.int x0), .val (.int x1), .val (.ref b1), .val (.int (5 : Int32)), .val (.ref u_FAILED), .unset, .unset] [(.int x1), (.ref u_FAILED)])) rfl (by rw [hml]; rfl) (argsL := [(.ref u_FAILED), (.int x1)]) (rest := []) (lenOf pd__Lcom_example_scatterd_scatterd_model_JobState_I_Lcom_example_scatterd_scatterd_model_JobState_ rfl) rfl (by show 2 * 0 + _ ≤ _; exact Nat.le_of_eq rfl) (hb hby at_69) (fun _ _ => ⟨rfl, e32, (by decide : 1 + 0 ≤ _), (by decide : 8 + 0 ≤ _)⟩)
      dsimp only [Pt.U, Pt.locs, Pt.cells, Pt.slots] at X60 l60 y60 z60 st60 hQ60
      subst l60 y60 z60
      obtain ⟨rfl, Nq60, e60⟩ := hQ60
      rw [own_o1 (Or.inl rfl) hr] at st60
      have N60 := Fr.app N32 Nq60
      refine go st60 ?_
      show G (T60.setTop (mkF m 72 #[.val (.int x0), .val (.int x1), .val (.ref b1), .val (.int (5 : Int32)), .val (.ref u_FAILED), .unset, .unset] [(.ref u_READY)]))
      refine go (fun tg kg => XS.astore X60.here hx rfl (hb hby at_72) rfl rfl (l' := #[.val (.int x0), .val (.int x1), .val (.ref b1), .val (.int (5 : Int32)), .val (.ref u_FAILED), .val (.ref u_READY), .unset]) rfl kg) ?_
      show G (T60.setTop (mkF m 74 #[.val (.int x0), .val (.int x1), .val (.ref b1), .val (.int (5 : Int32)), .val (.ref u_FAILED), .val (.ref u_READY), .unset] []))
      refine go (fun tg kg => XS.iloadN X60.here hx rfl (hb hby at_74) rfl kg) ?_
      show G (T60.setTop (mkF m 75 #[.val (.int x0), .val (.int x1), .val (.ref b1), .val (.int (5 : Int32)), .val (.ref u_FAILED), .val (.ref u_READY), .unset] [(.int x1)]))
      refine go (fun tg kg => XS.iconst X60.here hx rfl (hb hby at_75) kg) ?_
      show G (T60.setTop (mkF m 76 #[.val (.int x0), .val (.int x1), .val (.ref b1), .val (.int (5 : Int32)), .val (.ref u_FAILED), .val (.ref u_READY), .unset] [(.int (1 : Int32)), (.int x1)]))
      refine go (fun tg kg => XS.icmpNo X60.here hx rfl (hb hby at_76) rfl (flt (own_r1 hr)).1 kg) ?_
      show G (T60.setTop (mkF m 79 #[.val (.int x0), .val (.int x1), .val (.ref b1), .val (.int (5 : Int32)), .val (.ref u_FAILED), .val (.ref u_READY), .unset] []))
      refine go (fun tg kg => XS.iloadN X60.here hx rfl (hb hby at_79) rfl kg) ?_
      show G (T60.setTop (mkF m 80 #[.val (.int x0), .val (.int x1), .val (.ref b1), .val (.int (5 : Int32)), .val (.ref u_FAILED), .val (.ref u_READY), .unset] [(.int (5 : Int32))]))
      refine go (fun tg kg => XS.iconst X60.here hx rfl (hb hby at_80) kg) ?_
      show G (T60.setTop (mkF m 81 #[.val (.int x0), .val (.int x1), .val (.ref b1), .val (.int (5 : Int32)), .val (.ref u_FAILED), .val (.ref u_READY), .unset] [(.int (5 : Int32)), (.int (5 : Int32))]))
      refine go (fun tg kg => XS.icmpNo X60.here hx rfl (hb hby at_81) rfl (teq (by decide)).2 kg) ?_
      show G (T60.setTop (mkF m 84 #[.val (.int x0), .val (.int x1), .val (.ref b1), .val (.int (5 : Int32)), .val (.ref u_FAILED), .val (.ref u_READY), .unset] []))
      obtain ⟨T64, X64, e64, st64⟩ := getS2 X60 hx hZ hown (host := "") (Or.inl (hw _ (List.mem_of_getElem? (i := 6) rfl))) Via.refl e60 Fa63 (g := (mkF m 84 #[.val (.int x0), .val (.int x1), .val (.ref b1), .val (.int (5 : Int32)), .val (.ref u_FAILED), .val (.ref u_READY), .unset] [])) rfl (hb hby at_84)
      refine go st64 ?_
      show G (T64.setTop (mkF m 87 #[.val (.int x0), .val (.int x1), .val (.ref b1), .val (.int (5 : Int32)), .val (.ref u_FAILED), .val (.ref u_READY), .unset] [(.ref u_READY)]))
      refine go (fun tg kg => XS.astore X64.here hx rfl (hb hby at_87) rfl rfl (l' := #[.val (.int x0), .val (.int x1), .val (.ref b1), .val (.int (5 : Int32)), .val (.ref u_FAILED), .val (.ref u_READY), .val (.ref u_READY)]) rfl kg) ?_
      show G (T64.setTop (mkF m 89 #[.val (.int x0), .val (.int x1), .val (.ref b1), .val (.int (5 : Int32)), .val (.ref u_FAILED), .val (.ref u_READY), .val (.ref u_READY)] []))
      refine go (fun tg kg => XS.goto X64.here hx rfl (pc0 := 89) (pc' := 117) rfl (hb hby at_89) (by decide) (by decide) kg) ?_
      show G (T64.setTop (mkF m 117 #[.val (.int x0), .val (.int x1), .val (.ref b1), .val (.int (5 : Int32)), .val (.ref u_FAILED), .val (.ref u_READY), .val (.ref u_READY)] []))
      refine go (fun tg kg => XS.aload X64.here hx rfl (hb hby at_117) rfl rfl kg) ?_
      show G (T64.setTop (mkF m 119 #[.val (.int x0), .val (.int x1), .val (.ref b1), .val (.int (5 : Int32)), .val (.ref u_FAILED), .val (.ref u_READY), .val (.ref u_READY)] [(.ref u_READY)]))
      refine go (fun tg kg => XS.aload X64.here hx rfl (hb hby at_119) rfl rfl kg) ?_
      show G (T64.setTop (mkF m 121 #[.val (.int x0), .val (.int x1), .val (.ref b1), .val (.int (5 : Int32)), .val (.ref u_FAILED), .val (.ref u_READY), .val (.ref u_READY)] [(.ref u_READY), (.ref u_READY)]))
      refine go (fun tg kg => Jvm.RoadKit.acmp (g := (mkF m 121 #[.val (.int x0), .val (.int x1), .val (.ref b1), .val (.int (5 : Int32)), .val (.ref u_FAILED), .val (.ref u_READY), .val (.ref u_READY)] [(.ref u_READY), (.ref u_READY)])) X64 hx rfl rfl rfl (pc0 := 121) (pc' := 124) (same := true) rfl (hb hby at_121) rfl (decide_eq_true rfl) (by decide) (by decide) kg) ?_
      show G (T64.setTop (mkF m 124 #[.val (.int x0), .val (.int x1), .val (.ref b1), .val (.int (5 : Int32)), .val (.ref u_FAILED), .val (.ref u_READY), .val (.ref u_READY)] []))
      refine go (fun tg kg => XS.iconst X64.here hx rfl (hb hby at_124) kg) ?_
      show G (T64.setTop (mkF m 125 #[.val (.int x0), .val (.int x1), .val (.ref b1), .val (.int (5 : Int32)), .val (.ref u_FAILED), .val (.ref u_READY), .val (.ref u_READY)] [(.int (1 : Int32))]))
      refine go (fun tg kg => XS.goto X64.here hx rfl (pc0 := 125) (pc' := 129) rfl (hb hby at_125) (by decide) (by decide) kg) ?_
      show G (T64.setTop (mkF m 129 #[.val (.int x0), .val (.int x1), .val (.ref b1), .val (.int (5 : Int32)), .val (.ref u_FAILED), .val (.ref u_READY), .val (.ref u_READY)] [(.int (1 : Int32))]))
      refine fin (some (.int (1 : Int32))) X64 (fun h => absurd h (by decide)) (fun fs hr => retN X64 hx (t := .boolean) hret (by simp) (hb hby at_129) hr) (by decide) (by decide) ?_
      rw [e64]
      exact ⟨rfl, N60⟩
    · skip
      refine go (fun tg kg => XS.aloadN X32.here hx rfl (hb hby at_61) rfl rfl kg) ?_
      show G (T32.setTop (mkF m 62 #[.val (.int x0), .val (.int x1), .val (.ref b1), .val (.int (6 : Int32)), .unset, .unset, .unset] [(.ref b1)]))
      refine go (fun tg kg => XS.iloadN X32.here hx rfl (hb hby at_62) rfl kg) ?_
      show G (T32.setTop (mkF m 63 #[.val (.int x0), .val (.int x1), .val (.ref b1), .val (.int (6 : Int32)), .unset, .unset, .unset] [(.int (6 : Int32)), (.ref b1)]))
      obtain ⟨cl65, Ar65, q65, S65, M65, H65, U65⟩ := id V32
      have hin65 : ¬ ((6 : Int32) < 0 ∨ cl65.slots.size ≤ ((6 : Int32)).toNatClampNeg) := inb_of S65 ⟨by decide, by decide⟩
      refine go (fun tg kg => X32.aaload hx (j := (6 : Int32)) (v := (.ref u_ERROR)) (by rw [e32]; exact Ar65.1) (State.isArrayOf_alike hZ.alike Ar65.2.1) rfl Ar65.2.2 hin65 (H65.at hin65 rfl) (g := (mkF m 63 #[.val (.int x0), .val (.int x1), .val (.ref b1), .val (.int (6 : Int32)), .unset, .unset, .unset] [(.int (6 : Int32)), (.ref b1)])) rfl rfl (hb hby at_63) _ kg) ?_
      show G (T32.setTop (mkF m 64 #[.val (.int x0), .val (.int x1), .val (.ref b1), .val (.int (6 : Int32)), .unset, .unset, .unset] [(.ref u_ERROR)]))
      refine go (fun tg kg => XS.astore X32.here hx rfl (hb hby at_64) rfl rfl (l' := #[.val (.int x0), .val (.int x1), .val (.ref b1), .val (.int (6 : Int32)), .val (.ref u_ERROR), .unset, .unset]) rfl kg) ?_
      show G (T32.setTop (mkF m 66 #[.val (.int x0), .val (.int x1), .val (.ref b1), .val (.int (6 : Int32)), .val (.ref u_ERROR), .unset, .unset] []))
      refine go (fun tg kg => XS.aload X32.here hx rfl (hb hby at_66) rfl rfl kg) ?_
      show G (T32.setTop (mkF m 68 #[.val (.int x0), .val (.int x1), .val (.ref b1), .val (.int (6 : Int32)), .val (.ref u_ERROR), .unset, .unset] [(.ref u_ERROR)]))
      refine go (fun tg kg => XS.iloadN X32.here hx rfl (hb hby at_68) rfl kg) ?_
      show G (T32.setTop (mkF m 69 #[.val (.int x0), .val (.int x1), .val (.ref b1), .val (.int (6 : Int32)), .val (.ref u_ERROR), .unset, .unset] [(.int x1), (.ref u_ERROR)]))
      have Fa67 := (((Fa22.wr W24).wr W28).wr W32)
      have Fa68 := ((Fa26.wr W28).wr W32)
      have Fa69 := (((((((Fa6.wr W8).wr W12).wr W16).wr W20).wr W24).wr W28).wr W32)
      obtain ⟨_, _, ⟨T66, L66, k66, n66⟩, -, X66, ⟨Lc66, hQ66, l66, y66, z66⟩, st66⟩ := Jvm.LawKit.callS X32 hx (y := (⟨"com/example/scatterd/scatterd/model/JobState", "onceAttemptEnded", "(Lcom/example/scatterd/scatterd/model/JobState;I)Lcom/example/scatterd/scatterd/model/JobState;"⟩ : MethodName)) hown (mvT hZ (hw _ (List.mem_of_getElem? (i := 20) rfl))) (mvT hZ (hw _ (List.mem_of_getElem? (i := 21) rfl))) (mvT hZ (hw _ (List.mem_of_getElem? (i := 3) rfl))) (mvT hZ (hw _ (List.mem_of_getElem? (i := 22) rfl))) (by decide) (backOf (W := 0) (rm1 l Z a0 hw [] u_ERROR x1 u_FAILED u_ERROR u_READY h32 n0 Z32 Fa67 Fa68 Fa69) hZ (hw _ (List.mem_of_getElem? (i := 22) rfl)) (hw _ (List.mem_of_getElem? (i := 3) rfl)) (by decide) (by decide)) (g := (mkF m 69 #[.val (.int x0), .val (.int x1), .val (.ref b1), .val (.int (6 : Int32)), .val (.ref u_ERROR), .unset, .unset] [(.int x1), (.ref u_ERROR)])) rfl (by rw [hml]; rfl) (argsL := [(.ref u_ERROR), (.int x1)]) (rest := []) (lenOf pd__Lcom_example_scatterd_scatterd_model_JobState_I_Lcom_example_scatterd_scatterd_model_JobState_ rfl) rfl (by show 2 * 0 + _ ≤ _; exact Nat.le_of_eq rfl) (hb hby at_69) (fun _ _ => ⟨rfl, e32, (by decide : 1 + 0 ≤ _), (by decide : 8 + 0 ≤ _)⟩)
      dsimp only [Pt.U, Pt.locs, Pt.cells, Pt.slots] at X66 l66 y66 z66 st66 hQ66
      subst l66 y66 z66
      obtain ⟨rfl, Nq66, e66⟩ := hQ66
      rw [own_o1 (Or.inr rfl) hr] at st66
      have N66 := Fr.app N32 Nq66
      refine go st66 ?_
      show G (T66.setTop (mkF m 72 #[.val (.int x0), .val (.int x1), .val (.ref b1), .val (.int (6 : Int32)), .val (.ref u_ERROR), .unset, .unset] [(.ref u_READY)]))
      refine go (fun tg kg => XS.astore X66.here hx rfl (hb hby at_72) rfl rfl (l' := #[.val (.int x0), .val (.int x1), .val (.ref b1), .val (.int (6 : Int32)), .val (.ref u_ERROR), .val (.ref u_READY), .unset]) rfl kg) ?_
      show G (T66.setTop (mkF m 74 #[.val (.int x0), .val (.int x1), .val (.ref b1), .val (.int (6 : Int32)), .val (.ref u_ERROR), .val (.ref u_READY), .unset] []))
      refine go (fun tg kg => XS.iloadN X66.here hx rfl (hb hby at_74) rfl kg) ?_
      show G (T66.setTop (mkF m 75 #[.val (.int x0), .val (.int x1), .val (.ref b1), .val (.int (6 : Int32)), .val (.ref u_ERROR), .val (.ref u_READY), .unset] [(.int x1)]))
      refine go (fun tg kg => XS.iconst X66.here hx rfl (hb hby at_75) kg) ?_
      show G (T66.setTop (mkF m 76 #[.val (.int x0), .val (.int x1), .val (.ref b1), .val (.int (6 : Int32)), .val (.ref u_ERROR), .val (.ref u_READY), .unset] [(.int (1 : Int32)), (.int x1)]))
      refine go (fun tg kg => XS.icmpNo X66.here hx rfl (hb hby at_76) rfl (flt (own_r1 hr)).1 kg) ?_
      show G (T66.setTop (mkF m 79 #[.val (.int x0), .val (.int x1), .val (.ref b1), .val (.int (6 : Int32)), .val (.ref u_ERROR), .val (.ref u_READY), .unset] []))
      refine go (fun tg kg => XS.iloadN X66.here hx rfl (hb hby at_79) rfl kg) ?_
      show G (T66.setTop (mkF m 80 #[.val (.int x0), .val (.int x1), .val (.ref b1), .val (.int (6 : Int32)), .val (.ref u_ERROR), .val (.ref u_READY), .unset] [(.int (6 : Int32))]))
      refine go (fun tg kg => XS.iconst X66.here hx rfl (hb hby at_80) kg) ?_
      show G (T66.setTop (mkF m 81 #[.val (.int x0), .val (.int x1), .val (.ref b1), .val (.int (6 : Int32)), .val (.ref u_ERROR), .val (.ref u_READY), .unset] [(.int (5 : Int32)), (.int (6 : Int32))]))
      refine go (fun tg kg => XS.icmpYes X66.here hx rfl (pc0 := 81) (pc' := 92) rfl (hb hby at_81) rfl (feq (by decide)).2 (by decide) (by decide) kg) ?_
      show G (T66.setTop (mkF m 92 #[.val (.int x0), .val (.int x1), .val (.ref b1), .val (.int (6 : Int32)), .val (.ref u_ERROR), .val (.ref u_READY), .unset] []))
      refine go (fun tg kg => XS.iloadN X66.here hx rfl (hb hby at_92) rfl kg) ?_
      show G (T66.setTop (mkF m 93 #[.val (.int x0), .val (.int x1), .val (.ref b1), .val (.int (6 : Int32)), .val (.ref u_ERROR), .val (.ref u_READY), .unset] [(.int (6 : Int32))]))
      refine go (fun tg kg => XS.bipush X66.here hx rfl (hb hby at_93) kg) ?_
      show G (T66.setTop (mkF m 95 #[.val (.int x0), .val (.int x1), .val (.ref b1), .val (.int (6 : Int32)), .val (.ref u_ERROR), .val (.ref u_READY), .unset] [(.int (6 : Int32)), (.int (6 : Int32))]))
      refine go (fun tg kg => XS.icmpNo X66.here hx rfl (hb hby at_95) rfl (teq (by decide)).2 kg) ?_
      show G (T66.setTop (mkF m 98 #[.val (.int x0), .val (.int x1), .val (.ref b1), .val (.int (6 : Int32)), .val (.ref u_ERROR), .val (.ref u_READY), .unset] []))
      obtain ⟨T70, X70, e70, st70⟩ := getS2 X66 hx hZ hown (host := "") (Or.inl (hw _ (List.mem_of_getElem? (i := 6) rfl))) Via.refl e66 Fa69 (g := (mkF m 98 #[.val (.int x0), .val (.int x1), .val (.ref b1), .val (.int (6 : Int32)), .val (.ref u_ERROR), .val (.ref u_READY), .unset] [])) rfl (hb hby at_98)
      refine go st70 ?_
      show G (T70.setTop (mkF m 101 #[.val (.int x0), .val (.int x1), .val (.ref b1), .val (.int (6 : Int32)), .val (.ref u_ERROR), .val (.ref u_READY), .unset] [(.ref u_READY)]))
      refine go (fun tg kg => XS.astore X70.here hx rfl (hb hby at_101) rfl rfl (l' := #[.val (.int x0), .val (.int x1), .val (.ref b1), .val (.int (6 : Int32)), .val (.ref u_ERROR), .val (.ref u_READY), .val (.ref u_READY)]) rfl kg) ?_
      show G (T70.setTop (mkF m 103 #[.val (.int x0), .val (.int x1), .val (.ref b1), .val (.int (6 : Int32)), .val (.ref u_ERROR), .val (.ref u_READY), .val (.ref u_READY)] []))
      refine go (fun tg kg => XS.goto X70.here hx rfl (pc0 := 103) (pc' := 117) rfl (hb hby at_103) (by decide) (by decide) kg) ?_
      show G (T70.setTop (mkF m 117 #[.val (.int x0), .val (.int x1), .val (.ref b1), .val (.int (6 : Int32)), .val (.ref u_ERROR), .val (.ref u_READY), .val (.ref u_READY)] []))
      refine go (fun tg kg => XS.aload X70.here hx rfl (hb hby at_117) rfl rfl kg) ?_
      show G (T70.setTop (mkF m 119 #[.val (.int x0), .val (.int x1), .val (.ref b1), .val (.int (6 : Int32)), .val (.ref u_ERROR), .val (.ref u_READY), .val (.ref u_READY)] [(.ref u_READY)]))
      refine go (fun tg kg => XS.aload X70.here hx rfl (hb hby at_119) rfl rfl kg) ?_
      show G (T70.setTop (mkF m 121 #[.val (.int x0), .val (.int x1), .val (.ref b1), .val (.int (6 : Int32)), .val (.ref u_ERROR), .val (.ref u_READY), .val (.ref u_READY)] [(.ref u_READY), (.ref u_READY)]))
      refine go (fun tg kg => Jvm.RoadKit.acmp (g := (mkF m 121 #[.val (.int x0), .val (.int x1), .val (.ref b1), .val (.int (6 : Int32)), .val (.ref u_ERROR), .val (.ref u_READY), .val (.ref u_READY)] [(.ref u_READY), (.ref u_READY)])) X70 hx rfl rfl rfl (pc0 := 121) (pc' := 124) (same := true) rfl (hb hby at_121) rfl (decide_eq_true rfl) (by decide) (by decide) kg) ?_
      show G (T70.setTop (mkF m 124 #[.val (.int x0), .val (.int x1), .val (.ref b1), .val (.int (6 : Int32)), .val (.ref u_ERROR), .val (.ref u_READY), .val (.ref u_READY)] []))
      refine go (fun tg kg => XS.iconst X70.here hx rfl (hb hby at_124) kg) ?_
      show G (T70.setTop (mkF m 125 #[.val (.int x0), .val (.int x1), .val (.ref b1), .val (.int (6 : Int32)), .val (.ref u_ERROR), .val (.ref u_READY), .val (.ref u_READY)] [(.int (1 : Int32))]))
      refine go (fun tg kg => XS.goto X70.here hx rfl (pc0 := 125) (pc' := 129) rfl (hb hby at_125) (by decide) (by decide) kg) ?_
      show G (T70.setTop (mkF m 129 #[.val (.int x0), .val (.int x1), .val (.ref b1), .val (.int (6 : Int32)), .val (.ref u_ERROR), .val (.ref u_READY), .val (.ref u_READY)] [(.int (1 : Int32))]))
      refine fin (some (.int (1 : Int32))) X70 (fun h => absurd h (by decide)) (fun fs hr => retN X70 hx (t := .boolean) hret (by simp) (hb hby at_129) hr) (by decide) (by decide) ?_
      rw [e70]
      exact ⟨rfl, N66⟩
    · skip
      refine go (fun tg kg => XS.aloadN X32.here hx rfl (hb hby at_61) rfl rfl kg) ?_
      show G (T32.setTop (mkF m 62 #[.val (.int x0), .val (.int x1), .val (.ref b1), .val (.int (7 : Int32)), .unset, .unset, .unset] [(.ref b1)]))
      refine go (fun tg kg => XS.iloadN X32.here hx rfl (hb hby at_62) rfl kg) ?_
      show G (T32.setTop (mkF m 63 #[.val (.int x0), .val (.int x1), .val (.ref b1), .val (.int (7 : Int32)), .unset, .unset, .unset] [(.int (7 : Int32)), (.ref b1)]))
      obtain ⟨cl71, Ar71, q71, S71, M71, H71, U71⟩ := id V32
      have hin71 : ¬ ((7 : Int32) < 0 ∨ cl71.slots.size ≤ ((7 : Int32)).toNatClampNeg) := inb_of S71 ⟨by decide, by decide⟩
      refine go (fun tg kg => X32.aaload hx (j := (7 : Int32)) (v := (.ref u_CANCELLED)) (by rw [e32]; exact Ar71.1) (State.isArrayOf_alike hZ.alike Ar71.2.1) rfl Ar71.2.2 hin71 (H71.at hin71 rfl) (g := (mkF m 63 #[.val (.int x0), .val (.int x1), .val (.ref b1), .val (.int (7 : Int32)), .unset, .unset, .unset] [(.int (7 : Int32)), (.ref b1)])) rfl rfl (hb hby at_63) _ kg) ?_
      show G (T32.setTop (mkF m 64 #[.val (.int x0), .val (.int x1), .val (.ref b1), .val (.int (7 : Int32)), .unset, .unset, .unset] [(.ref u_CANCELLED)]))
      refine go (fun tg kg => XS.astore X32.here hx rfl (hb hby at_64) rfl rfl (l' := #[.val (.int x0), .val (.int x1), .val (.ref b1), .val (.int (7 : Int32)), .val (.ref u_CANCELLED), .unset, .unset]) rfl kg) ?_
      show G (T32.setTop (mkF m 66 #[.val (.int x0), .val (.int x1), .val (.ref b1), .val (.int (7 : Int32)), .val (.ref u_CANCELLED), .unset, .unset] []))
      refine go (fun tg kg => XS.aload X32.here hx rfl (hb hby at_66) rfl rfl kg) ?_
      show G (T32.setTop (mkF m 68 #[.val (.int x0), .val (.int x1), .val (.ref b1), .val (.int (7 : Int32)), .val (.ref u_CANCELLED), .unset, .unset] [(.ref u_CANCELLED)]))
      refine go (fun tg kg => XS.iloadN X32.here hx rfl (hb hby at_68) rfl kg) ?_
      show G (T32.setTop (mkF m 69 #[.val (.int x0), .val (.int x1), .val (.ref b1), .val (.int (7 : Int32)), .val (.ref u_CANCELLED), .unset, .unset] [(.int x1), (.ref u_CANCELLED)]))
      have Fa73 := (((Fa22.wr W24).wr W28).wr W32)
      have Fa74 := ((Fa26.wr W28).wr W32)
      have Fa75 := (((((((Fa6.wr W8).wr W12).wr W16).wr W20).wr W24).wr W28).wr W32)
      obtain ⟨_, _, ⟨T72, L72, k72, n72⟩, -, X72, ⟨Lc72, hQ72, l72, y72, z72⟩, st72⟩ := Jvm.LawKit.callS X32 hx (y := (⟨"com/example/scatterd/scatterd/model/JobState", "onceAttemptEnded", "(Lcom/example/scatterd/scatterd/model/JobState;I)Lcom/example/scatterd/scatterd/model/JobState;"⟩ : MethodName)) hown (mvT hZ (hw _ (List.mem_of_getElem? (i := 20) rfl))) (mvT hZ (hw _ (List.mem_of_getElem? (i := 21) rfl))) (mvT hZ (hw _ (List.mem_of_getElem? (i := 3) rfl))) (mvT hZ (hw _ (List.mem_of_getElem? (i := 22) rfl))) (by decide) (backOf (W := 0) (rm1 l Z a0 hw [] u_CANCELLED x1 u_FAILED u_ERROR u_READY h32 n0 Z32 Fa73 Fa74 Fa75) hZ (hw _ (List.mem_of_getElem? (i := 22) rfl)) (hw _ (List.mem_of_getElem? (i := 3) rfl)) (by decide) (by decide)) (g := (mkF m 69 #[.val (.int x0), .val (.int x1), .val (.ref b1), .val (.int (7 : Int32)), .val (.ref u_CANCELLED), .unset, .unset] [(.int x1), (.ref u_CANCELLED)])) rfl (by rw [hml]; rfl) (argsL := [(.ref u_CANCELLED), (.int x1)]) (rest := []) (lenOf pd__Lcom_example_scatterd_scatterd_model_JobState_I_Lcom_example_scatterd_scatterd_model_JobState_ rfl) rfl (by show 2 * 0 + _ ≤ _; exact Nat.le_of_eq rfl) (hb hby at_69) (fun _ _ => ⟨rfl, e32, (by decide : 1 + 0 ≤ _), (by decide : 8 + 0 ≤ _)⟩)
      dsimp only [Pt.U, Pt.locs, Pt.cells, Pt.slots] at X72 l72 y72 z72 st72 hQ72
      subst l72 y72 z72
      obtain ⟨rfl, Nq72, e72⟩ := hQ72
      rw [own_o3 hn_CANCELLED_FAILED hn_CANCELLED_ERROR] at st72
      have N72 := Fr.app N32 Nq72
      refine go st72 ?_
      show G (T72.setTop (mkF m 72 #[.val (.int x0), .val (.int x1), .val (.ref b1), .val (.int (7 : Int32)), .val (.ref u_CANCELLED), .unset, .unset] [(.ref u_CANCELLED)]))
      refine go (fun tg kg => XS.astore X72.here hx rfl (hb hby at_72) rfl rfl (l' := #[.val (.int x0), .val (.int x1), .val (.ref b1), .val (.int (7 : Int32)), .val (.ref u_CANCELLED), .val (.ref u_CANCELLED), .unset]) rfl kg) ?_
      show G (T72.setTop (mkF m 74 #[.val (.int x0), .val (.int x1), .val (.ref b1), .val (.int (7 : Int32)), .val (.ref u_CANCELLED), .val (.ref u_CANCELLED), .unset] []))
      refine go (fun tg kg => XS.iloadN X72.here hx rfl (hb hby at_74) rfl kg) ?_
      show G (T72.setTop (mkF m 75 #[.val (.int x0), .val (.int x1), .val (.ref b1), .val (.int (7 : Int32)), .val (.ref u_CANCELLED), .val (.ref u_CANCELLED), .unset] [(.int x1)]))
      refine go (fun tg kg => XS.iconst X72.here hx rfl (hb hby at_75) kg) ?_
      show G (T72.setTop (mkF m 76 #[.val (.int x0), .val (.int x1), .val (.ref b1), .val (.int (7 : Int32)), .val (.ref u_CANCELLED), .val (.ref u_CANCELLED), .unset] [(.int (1 : Int32)), (.int x1)]))
      refine go (fun tg kg => XS.icmpNo X72.here hx rfl (hb hby at_76) rfl (flt (own_r1 hr)).1 kg) ?_
      show G (T72.setTop (mkF m 79 #[.val (.int x0), .val (.int x1), .val (.ref b1), .val (.int (7 : Int32)), .val (.ref u_CANCELLED), .val (.ref u_CANCELLED), .unset] []))
      refine go (fun tg kg => XS.iloadN X72.here hx rfl (hb hby at_79) rfl kg) ?_
      show G (T72.setTop (mkF m 80 #[.val (.int x0), .val (.int x1), .val (.ref b1), .val (.int (7 : Int32)), .val (.ref u_CANCELLED), .val (.ref u_CANCELLED), .unset] [(.int (7 : Int32))]))
      refine go (fun tg kg => XS.iconst X72.here hx rfl (hb hby at_80) kg) ?_
      show G (T72.setTop (mkF m 81 #[.val (.int x0), .val (.int x1), .val (.ref b1), .val (.int (7 : Int32)), .val (.ref u_CANCELLED), .val (.ref u_CANCELLED), .unset] [(.int (5 : Int32)), (.int (7 : Int32))]))
      refine go (fun tg kg => XS.icmpYes X72.here hx rfl (pc0 := 81) (pc' := 92) rfl (hb hby at_81) rfl (feq (by decide)).2 (by decide) (by decide) kg) ?_
      show G (T72.setTop (mkF m 92 #[.val (.int x0), .val (.int x1), .val (.ref b1), .val (.int (7 : Int32)), .val (.ref u_CANCELLED), .val (.ref u_CANCELLED), .unset] []))
      refine go (fun tg kg => XS.iloadN X72.here hx rfl (hb hby at_92) rfl kg) ?_
      show G (T72.setTop (mkF m 93 #[.val (.int x0), .val (.int x1), .val (.ref b1), .val (.int (7 : Int32)), .val (.ref u_CANCELLED), .val (.ref u_CANCELLED), .unset] [(.int (7 : Int32))]))
      refine go (fun tg kg => XS.bipush X72.here hx rfl (hb hby at_93) kg) ?_
      show G (T72.setTop (mkF m 95 #[.val (.int x0), .val (.int x1), .val (.ref b1), .val (.int (7 : Int32)), .val (.ref u_CANCELLED), .val (.ref u_CANCELLED), .unset] [(.int (6 : Int32)), (.int (7 : Int32))]))
      refine go (fun tg kg => XS.icmpYes X72.here hx rfl (pc0 := 95) (pc' := 106) rfl (hb hby at_95) rfl (feq (by decide)).2 (by decide) (by decide) kg) ?_
      show G (T72.setTop (mkF m 106 #[.val (.int x0), .val (.int x1), .val (.ref b1), .val (.int (7 : Int32)), .val (.ref u_CANCELLED), .val (.ref u_CANCELLED), .unset] []))
      refine go (fun tg kg => XS.aload X72.here hx rfl (hb hby at_106) rfl rfl kg) ?_
      show G (T72.setTop (mkF m 108 #[.val (.int x0), .val (.int x1), .val (.ref b1), .val (.int (7 : Int32)), .val (.ref u_CANCELLED), .val (.ref u_CANCELLED), .unset] [(.ref u_CANCELLED)]))
      refine go (fun tg kg => XS.astore X72.here hx rfl (hb hby at_108) rfl rfl (l' := #[.val (.int x0), .val (.int x1), .val (.ref b1), .val (.int (7 : Int32)), .val (.ref u_CANCELLED), .val (.ref u_CANCELLED), .val (.ref u_CANCELLED)]) rfl kg) ?_
      show G (T72.setTop (mkF m 110 #[.val (.int x0), .val (.int x1), .val (.ref b1), .val (.int (7 : Int32)), .val (.ref u_CANCELLED), .val (.ref u_CANCELLED), .val (.ref u_CANCELLED)] []))
      refine go (fun tg kg => XS.goto X72.here hx rfl (pc0 := 110) (pc' := 117) rfl (hb hby at_110) (by decide) (by decide) kg) ?_
      show G (T72.setTop (mkF m 117 #[.val (.int x0), .val (.int x1), .val (.ref b1), .val (.int (7 : Int32)), .val (.ref u_CANCELLED), .val (.ref u_CANCELLED), .val (.ref u_CANCELLED)] []))
      refine go (fun tg kg => XS.aload X72.here hx rfl (hb hby at_117) rfl rfl kg) ?_
      show G (T72.setTop (mkF m 119 #[.val (.int x0), .val (.int x1), .val (.ref b1), .val (.int (7 : Int32)), .val (.ref u_CANCELLED), .val (.ref u_CANCELLED), .val (.ref u_CANCELLED)] [(.ref u_CANCELLED)]))
      refine go (fun tg kg => XS.aload X72.here hx rfl (hb hby at_119) rfl rfl kg) ?_
      show G (T72.setTop (mkF m 121 #[.val (.int x0), .val (.int x1), .val (.ref b1), .val (.int (7 : Int32)), .val (.ref u_CANCELLED), .val (.ref u_CANCELLED), .val (.ref u_CANCELLED)] [(.ref u_CANCELLED), (.ref u_CANCELLED)]))
      refine go (fun tg kg => Jvm.RoadKit.acmp (g := (mkF m 121 #[.val (.int x0), .val (.int x1), .val (.ref b1), .val (.int (7 : Int32)), .val (.ref u_CANCELLED), .val (.ref u_CANCELLED), .val (.ref u_CANCELLED)] [(.ref u_CANCELLED), (.ref u_CANCELLED)])) X72 hx rfl rfl rfl (pc0 := 121) (pc' := 124) (same := true) rfl (hb hby at_121) rfl (decide_eq_true rfl) (by decide) (by decide) kg) ?_
      show G (T72.setTop (mkF m 124 #[.val (.int x0), .val (.int x1), .val (.ref b1), .val (.int (7 : Int32)), .val (.ref u_CANCELLED), .val (.ref u_CANCELLED), .val (.ref u_CANCELLED)] []))
      refine go (fun tg kg => XS.iconst X72.here hx rfl (hb hby at_124) kg) ?_
      show G (T72.setTop (mkF m 125 #[.val (.int x0), .val (.int x1), .val (.ref b1), .val (.int (7 : Int32)), .val (.ref u_CANCELLED), .val (.ref u_CANCELLED), .val (.ref u_CANCELLED)] [(.int (1 : Int32))]))
      refine go (fun tg kg => XS.goto X72.here hx rfl (pc0 := 125) (pc' := 129) rfl (hb hby at_125) (by decide) (by decide) kg) ?_
      show G (T72.setTop (mkF m 129 #[.val (.int x0), .val (.int x1), .val (.ref b1), .val (.int (7 : Int32)), .val (.ref u_CANCELLED), .val (.ref u_CANCELLED), .val (.ref u_CANCELLED)] [(.int (1 : Int32))]))
      refine fin (some (.int (1 : Int32))) X72 (fun h => absurd h (by decide)) (fun fs hr => retN X72 hx (t := .boolean) hret (by simp) (hb hby at_129) hr) (by decide) (by decide) ?_
      rw [e72]
      exact ⟨rfl, N72⟩
  · clear hkk
    rcases h8 with rfl | rfl | rfl | rfl | rfl | rfl | rfl | rfl
    · skip
      refine go (fun tg kg => XS.aloadN X32.here hx rfl (hb hby at_61) rfl rfl kg) ?_
      show G (T32.setTop (mkF m 62 #[.val (.int x0), .val (.int x1), .val (.ref b1), .val (.int (0 : Int32)), .unset, .unset, .unset] [(.ref b1)]))
      refine go (fun tg kg => XS.iloadN X32.here hx rfl (hb hby at_62) rfl kg) ?_
      show G (T32.setTop (mkF m 63 #[.val (.int x0), .val (.int x1), .val (.ref b1), .val (.int (0 : Int32)), .unset, .unset, .unset] [(.int (0 : Int32)), (.ref b1)]))
      obtain ⟨cl76, Ar76, q76, S76, M76, H76, U76⟩ := id V32
      have hin76 : ¬ ((0 : Int32) < 0 ∨ cl76.slots.size ≤ ((0 : Int32)).toNatClampNeg) := inb_of S76 ⟨by decide, by decide⟩
      refine go (fun tg kg => X32.aaload hx (j := (0 : Int32)) (v := (.ref u_PENDING)) (by rw [e32]; exact Ar76.1) (State.isArrayOf_alike hZ.alike Ar76.2.1) rfl Ar76.2.2 hin76 (H76.at hin76 rfl) (g := (mkF m 63 #[.val (.int x0), .val (.int x1), .val (.ref b1), .val (.int (0 : Int32)), .unset, .unset, .unset] [(.int (0 : Int32)), (.ref b1)])) rfl rfl (hb hby at_63) _ kg) ?_
      show G (T32.setTop (mkF m 64 #[.val (.int x0), .val (.int x1), .val (.ref b1), .val (.int (0 : Int32)), .unset, .unset, .unset] [(.ref u_PENDING)]))
      refine go (fun tg kg => XS.astore X32.here hx rfl (hb hby at_64) rfl rfl (l' := #[.val (.int x0), .val (.int x1), .val (.ref b1), .val (.int (0 : Int32)), .val (.ref u_PENDING), .unset, .unset]) rfl kg) ?_
      show G (T32.setTop (mkF m 66 #[.val (.int x0), .val (.int x1), .val (.ref b1), .val (.int (0 : Int32)), .val (.ref u_PENDING), .unset, .unset] []))
      refine go (fun tg kg => XS.aload X32.here hx rfl (hb hby at_66) rfl rfl kg) ?_
      show G (T32.setTop (mkF m 68 #[.val (.int x0), .val (.int x1), .val (.ref b1), .val (.int (0 : Int32)), .val (.ref u_PENDING), .unset, .unset] [(.ref u_PENDING)]))
      refine go (fun tg kg => XS.iloadN X32.here hx rfl (hb hby at_68) rfl kg) ?_
      show G (T32.setTop (mkF m 69 #[.val (.int x0), .val (.int x1), .val (.ref b1), .val (.int (0 : Int32)), .val (.ref u_PENDING), .unset, .unset] [(.int x1), (.ref u_PENDING)]))
      have Fa78 := (((Fa22.wr W24).wr W28).wr W32)
      have Fa79 := ((Fa26.wr W28).wr W32)
      have Fa80 := (((((((Fa6.wr W8).wr W12).wr W16).wr W20).wr W24).wr W28).wr W32)
      obtain ⟨_, _, ⟨T77, L77, k77, n77⟩, -, X77, ⟨Lc77, hQ77, l77, y77, z77⟩, st77⟩ := Jvm.LawKit.callS X32 hx (y := (⟨"com/example/scatterd/scatterd/model/JobState", "onceAttemptEnded", "(Lcom/example/scatterd/scatterd/model/JobState;I)Lcom/example/scatterd/scatterd/model/JobState;"⟩ : MethodName)) hown (mvT hZ (hw _ (List.mem_of_getElem? (i := 20) rfl))) (mvT hZ (hw _ (List.mem_of_getElem? (i := 21) rfl))) (mvT hZ (hw _ (List.mem_of_getElem? (i := 3) rfl))) (mvT hZ (hw _ (List.mem_of_getElem? (i := 22) rfl))) (by decide) (backOf (W := 0) (rm1 l Z a0 hw [] u_PENDING x1 u_FAILED u_ERROR u_READY h32 n0 Z32 Fa78 Fa79 Fa80) hZ (hw _ (List.mem_of_getElem? (i := 22) rfl)) (hw _ (List.mem_of_getElem? (i := 3) rfl)) (by decide) (by decide)) (g := (mkF m 69 #[.val (.int x0), .val (.int x1), .val (.ref b1), .val (.int (0 : Int32)), .val (.ref u_PENDING), .unset, .unset] [(.int x1), (.ref u_PENDING)])) rfl (by rw [hml]; rfl) (argsL := [(.ref u_PENDING), (.int x1)]) (rest := []) (lenOf pd__Lcom_example_scatterd_scatterd_model_JobState_I_Lcom_example_scatterd_scatterd_model_JobState_ rfl) rfl (by show 2 * 0 + _ ≤ _; exact Nat.le_of_eq rfl) (hb hby at_69) (fun _ _ => ⟨rfl, e32, (by decide : 1 + 0 ≤ _), (by decide : 8 + 0 ≤ _)⟩)
      dsimp only [Pt.U, Pt.locs, Pt.cells, Pt.slots] at X77 l77 y77 z77 st77 hQ77
      subst l77 y77 z77
      obtain ⟨rfl, Nq77, e77⟩ := hQ77
      rw [own_o3 hn_PENDING_FAILED hn_PENDING_ERROR] at st77
      have N77 := Fr.app N32 Nq77
      refine go st77 ?_
      show G (T77.setTop (mkF m 72 #[.val (.int x0), .val (.int x1), .val (.ref b1), .val (.int (0 : Int32)), .val (.ref u_PENDING), .unset, .unset] [(.ref u_PENDING)]))
      refine go (fun tg kg => XS.astore X77.here hx rfl (hb hby at_72) rfl rfl (l' := #[.val (.int x0), .val (.int x1), .val (.ref b1), .val (.int (0 : Int32)), .val (.ref u_PENDING), .val (.ref u_PENDING), .unset]) rfl kg) ?_
      show G (T77.setTop (mkF m 74 #[.val (.int x0), .val (.int x1), .val (.ref b1), .val (.int (0 : Int32)), .val (.ref u_PENDING), .val (.ref u_PENDING), .unset] []))
      refine go (fun tg kg => XS.iloadN X77.here hx rfl (hb hby at_74) rfl kg) ?_
      show G (T77.setTop (mkF m 75 #[.val (.int x0), .val (.int x1), .val (.ref b1), .val (.int (0 : Int32)), .val (.ref u_PENDING), .val (.ref u_PENDING), .unset] [(.int x1)]))
      refine go (fun tg kg => XS.iconst X77.here hx rfl (hb hby at_75) kg) ?_
      show G (T77.setTop (mkF m 76 #[.val (.int x0), .val (.int x1), .val (.ref b1), .val (.int (0 : Int32)), .val (.ref u_PENDING), .val (.ref u_PENDING), .unset] [(.int (1 : Int32)), (.int x1)]))
      refine go (fun tg kg => XS.icmpYes X77.here hx rfl (pc0 := 76) (pc' := 113) rfl (hb hby at_76) rfl (tlt (own_r0 hr)).1 (by decide) (by decide) kg) ?_
      show G (T77.setTop (mkF m 113 #[.val (.int x0), .val (.int x1), .val (.ref b1), .val (.int (0 : Int32)), .val (.ref u_PENDING), .val (.ref u_PENDING), .unset] []))
      refine go (fun tg kg => XS.aload X77.here hx rfl (hb hby at_113) rfl rfl kg) ?_
      show G (T77.setTop (mkF m 115 #[.val (.int x0), .val (.int x1), .val (.ref b1), .val (.int (0 : Int32)), .val (.ref u_PENDING), .val (.ref u_PENDING), .unset] [(.ref u_PENDING)]))
      refine go (fun tg kg => XS.astore X77.here hx rfl (hb hby at_115) rfl rfl (l' := #[.val (.int x0), .val (.int x1), .val (.ref b1), .val (.int (0 : Int32)), .val (.ref u_PENDING), .val (.ref u_PENDING), .val (.ref u_PENDING)]) rfl kg) ?_
      show G (T77.setTop (mkF m 117 #[.val (.int x0), .val (.int x1), .val (.ref b1), .val (.int (0 : Int32)), .val (.ref u_PENDING), .val (.ref u_PENDING), .val (.ref u_PENDING)] []))
      refine go (fun tg kg => XS.aload X77.here hx rfl (hb hby at_117) rfl rfl kg) ?_
      show G (T77.setTop (mkF m 119 #[.val (.int x0), .val (.int x1), .val (.ref b1), .val (.int (0 : Int32)), .val (.ref u_PENDING), .val (.ref u_PENDING), .val (.ref u_PENDING)] [(.ref u_PENDING)]))
      refine go (fun tg kg => XS.aload X77.here hx rfl (hb hby at_119) rfl rfl kg) ?_
      show G (T77.setTop (mkF m 121 #[.val (.int x0), .val (.int x1), .val (.ref b1), .val (.int (0 : Int32)), .val (.ref u_PENDING), .val (.ref u_PENDING), .val (.ref u_PENDING)] [(.ref u_PENDING), (.ref u_PENDING)]))
      refine go (fun tg kg => Jvm.RoadKit.acmp (g := (mkF m 121 #[.val (.int x0), .val (.int x1), .val (.ref b1), .val (.int (0 : Int32)), .val (.ref u_PENDING), .val (.ref u_PENDING), .val (.ref u_PENDING)] [(.ref u_PENDING), (.ref u_PENDING)])) X77 hx rfl rfl rfl (pc0 := 121) (pc' := 124) (same := true) rfl (hb hby at_121) rfl (decide_eq_true rfl) (by decide) (by decide) kg) ?_
      show G (T77.setTop (mkF m 124 #[.val (.int x0), .val (.int x1), .val (.ref b1), .val (.int (0 : Int32)), .val (.ref u_PENDING), .val (.ref u_PENDING), .val (.ref u_PENDING)] []))
      refine go (fun tg kg => XS.iconst X77.here hx rfl (hb hby at_124) kg) ?_
      show G (T77.setTop (mkF m 125 #[.val (.int x0), .val (.int x1), .val (.ref b1), .val (.int (0 : Int32)), .val (.ref u_PENDING), .val (.ref u_PENDING), .val (.ref u_PENDING)] [(.int (1 : Int32))]))
      refine go (fun tg kg => XS.goto X77.here hx rfl (pc0 := 125) (pc' := 129) rfl (hb hby at_125) (by decide) (by decide) kg) ?_
      show G (T77.setTop (mkF m 129 #[.val (.int x0), .val (.int x1), .val (.ref b1), .val (.int (0 : Int32)), .val (.ref u_PENDING), .val (.ref u_PENDING), .val (.ref u_PENDING)] [(.int (1 : Int32))]))
      refine fin (some (.int (1 : Int32))) X77 (fun h => absurd h (by decide)) (fun fs hr => retN X77 hx (t := .boolean) hret (by simp) (hb hby at_129) hr) (by decide) (by decide) ?_
      rw [e77]
      exact ⟨rfl, N77⟩
    · skip
      refine go (fun tg kg => XS.aloadN X32.here hx rfl (hb hby at_61) rfl rfl kg) ?_
      show G (T32.setTop (mkF m 62 #[.val (.int x0), .val (.int x1), .val (.ref b1), .val (.int (1 : Int32)), .unset, .unset, .unset] [(.ref b1)]))
      refine go (fun tg kg => XS.iloadN X32.here hx rfl (hb hby at_62) rfl kg) ?_
      show G (T32.setTop (mkF m 63 #[.val (.int x0), .val (.int x1), .val (.ref b1), .val (.int (1 : Int32)), .unset, .unset, .unset] [(.int (1 : Int32)), (.ref b1)]))
      obtain ⟨cl81, Ar81, q81, S81, M81, H81, U81⟩ := id V32
      have hin81 : ¬ ((1 : Int32) < 0 ∨ cl81.slots.size ≤ ((1 : Int32)).toNatClampNeg) := inb_of S81 ⟨by decide, by decide⟩
      refine go (fun tg kg => X32.aaload hx (j := (1 : Int32)) (v := (.ref u_READY)) (by rw [e32]; exact Ar81.1) (State.isArrayOf_alike hZ.alike Ar81.2.1) rfl Ar81.2.2 hin81 (H81.at hin81 rfl) (g := (mkF m 63 #[.val (.int x0), .val (.int x1), .val (.ref b1), .val (.int (1 : Int32)), .unset, .unset, .unset] [(.int (1 : Int32)), (.ref b1)])) rfl rfl (hb hby at_63) _ kg) ?_
      show G (T32.setTop (mkF m 64 #[.val (.int x0), .val (.int x1), .val (.ref b1), .val (.int (1 : Int32)), .unset, .unset, .unset] [(.ref u_READY)]))
      refine go (fun tg kg => XS.astore X32.here hx rfl (hb hby at_64) rfl rfl (l' := #[.val (.int x0), .val (.int x1), .val (.ref b1), .val (.int (1 : Int32)), .val (.ref u_READY), .unset, .unset]) rfl kg) ?_
      show G (T32.setTop (mkF m 66 #[.val (.int x0), .val (.int x1), .val (.ref b1), .val (.int (1 : Int32)), .val (.ref u_READY), .unset, .unset] []))
      refine go (fun tg kg => XS.aload X32.here hx rfl (hb hby at_66) rfl rfl kg) ?_
      show G (T32.setTop (mkF m 68 #[.val (.int x0), .val (.int x1), .val (.ref b1), .val (.int (1 : Int32)), .val (.ref u_READY), .unset, .unset] [(.ref u_READY)]))
      refine go (fun tg kg => XS.iloadN X32.here hx rfl (hb hby at_68) rfl kg) ?_
      show G (T32.setTop (mkF m 69 #[.val (.int x0), .val (.int x1), .val (.ref b1), .val (.int (1 : Int32)), .val (.ref u_READY), .unset, .unset] [(.int x1), (.ref u_READY)]))
      have Fa83 := (((Fa22.wr W24).wr W28).wr W32)
      have Fa84 := ((Fa26.wr W28).wr W32)
      have Fa85 := (((((((Fa6.wr W8).wr W12).wr W16).wr W20).wr W24).wr W28).wr W32)
      obtain ⟨_, _, ⟨T82, L82, k82, n82⟩, -, X82, ⟨Lc82, hQ82, l82, y82, z82⟩, st82⟩ := Jvm.LawKit.callS X32 hx (y := (⟨"com/example/scatterd/scatterd/model/JobState", "onceAttemptEnded", "(Lcom/example/scatterd/scatterd/model/JobState;I)Lcom/example/scatterd/scatterd/model/JobState;"⟩ : MethodName)) hown (mvT hZ (hw _ (List.mem_of_getElem? (i := 20) rfl))) (mvT hZ (hw _ (List.mem_of_getElem? (i := 21) rfl))) (mvT hZ (hw _ (List.mem_of_getElem? (i := 3) rfl))) (mvT hZ (hw _ (List.mem_of_getElem? (i := 22) rfl))) (by decide) (backOf (W := 0) (rm1 l Z a0 hw [] u_READY x1 u_FAILED u_ERROR u_READY h32 n0 Z32 Fa83 Fa84 Fa85) hZ (hw _ (List.mem_of_getElem? (i := 22) rfl)) (hw _ (List.mem_of_getElem? (i := 3) rfl)) (by decide) (by decide)) (g := (mkF m 69 #[.val (.int x0), .val (.int x1), .val (.ref b1), .val (.int (1 : Int32)), .val (.ref u_READY), .unset, .unset] [(.int x1), (.ref u_READY)])) rfl (by rw [hml]; rfl) (argsL := [(.ref u_READY), (.int x1)]) (rest := []) (lenOf pd__Lcom_example_scatterd_scatterd_model_JobState_I_Lcom_example_scatterd_scatterd_model_JobState_ rfl) rfl (by show 2 * 0 + _ ≤ _; exact Nat.le_of_eq rfl) (hb hby at_69) (fun _ _ => ⟨rfl, e32, (by decide : 1 + 0 ≤ _), (by decide : 8 + 0 ≤ _)⟩)
      dsimp only [Pt.U, Pt.locs, Pt.cells, Pt.slots] at X82 l82 y82 z82 st82 hQ82
      subst l82 y82 z82
      obtain ⟨rfl, Nq82, e82⟩ := hQ82
      rw [own_o3 hn_READY_FAILED hn_READY_ERROR] at st82
      have N82 := Fr.app N32 Nq82
      refine go st82 ?_
      show G (T82.setTop (mkF m 72 #[.val (.int x0), .val (.int x1), .val (.ref b1), .val (.int (1 : Int32)), .val (.ref u_READY), .unset, .unset] [(.ref u_READY)]))
      refine go (fun tg kg => XS.astore X82.here hx rfl (hb hby at_72) rfl rfl (l' := #[.val (.int x0), .val (.int x1), .val (.ref b1), .val (.int (1 : Int32)), .val (.ref u_READY), .val (.ref u_READY), .unset]) rfl kg) ?_
      show G (T82.setTop (mkF m 74 #[.val (.int x0), .val (.int x1), .val (.ref b1), .val (.int (1 : Int32)), .val (.ref u_READY), .val (.ref u_READY), .unset] []))
      refine go (fun tg kg => XS.iloadN X82.here hx rfl (hb hby at_74) rfl kg) ?_
      show G (T82.setTop (mkF m 75 #[.val (.int x0), .val (.int x1), .val (.ref b1), .val (.int (1 : Int32)), .val (.ref u_READY), .val (.ref u_READY), .unset] [(.int x1)]))
      refine go (fun tg kg => XS.iconst X82.here hx rfl (hb hby at_75) kg) ?_
      show G (T82.setTop (mkF m 76 #[.val (.int x0), .val (.int x1), .val (.ref b1), .val (.int (1 : Int32)), .val (.ref u_READY), .val (.ref u_READY), .unset] [(.int (1 : Int32)), (.int x1)]))
      refine go (fun tg kg => XS.icmpYes X82.here hx rfl (pc0 := 76) (pc' := 113) rfl (hb hby at_76) rfl (tlt (own_r0 hr)).1 (by decide) (by decide) kg) ?_
      show G (T82.setTop (mkF m 113 #[.val (.int x0), .val (.int x1), .val (.ref b1), .val (.int (1 : Int32)), .val (.ref u_READY), .val (.ref u_READY), .unset] []))
      refine go (fun tg kg => XS.aload X82.here hx rfl (hb hby at_113) rfl rfl kg) ?_
      show G (T82.setTop (mkF m 115 #[.val (.int x0), .val (.int x1), .val (.ref b1), .val (.int (1 : Int32)), .val (.ref u_READY), .val (.ref u_READY), .unset] [(.ref u_READY)]))
      refine go (fun tg kg => XS.astore X82.here hx rfl (hb hby at_115) rfl rfl (l' := #[.val (.int x0), .val (.int x1), .val (.ref b1), .val (.int (1 : Int32)), .val (.ref u_READY), .val (.ref u_READY), .val (.ref u_READY)]) rfl kg) ?_
      show G (T82.setTop (mkF m 117 #[.val (.int x0), .val (.int x1), .val (.ref b1), .val (.int (1 : Int32)), .val (.ref u_READY), .val (.ref u_READY), .val (.ref u_READY)] []))
      refine go (fun tg kg => XS.aload X82.here hx rfl (hb hby at_117) rfl rfl kg) ?_
      show G (T82.setTop (mkF m 119 #[.val (.int x0), .val (.int x1), .val (.ref b1), .val (.int (1 : Int32)), .val (.ref u_READY), .val (.ref u_READY), .val (.ref u_READY)] [(.ref u_READY)]))
      refine go (fun tg kg => XS.aload X82.here hx rfl (hb hby at_119) rfl rfl kg) ?_
      show G (T82.setTop (mkF m 121 #[.val (.int x0), .val (.int x1), .val (.ref b1), .val (.int (1 : Int32)), .val (.ref u_READY), .val (.ref u_READY), .val (.ref u_READY)] [(.ref u_READY), (.ref u_READY)]))
      refine go (fun tg kg => Jvm.RoadKit.acmp (g := (mkF m 121 #[.val (.int x0), .val (.int x1), .val (.ref b1), .val (.int (1 : Int32)), .val (.ref u_READY), .val (.ref u_READY), .val (.ref u_READY)] [(.ref u_READY), (.ref u_READY)])) X82 hx rfl rfl rfl (pc0 := 121) (pc' := 124) (same := true) rfl (hb hby at_121) rfl (decide_eq_true rfl) (by decide) (by decide) kg) ?_
      show G (T82.setTop (mkF m 124 #[.val (.int x0), .val (.int x1), .val (.ref b1), .val (.int (1 : Int32)), .val (.ref u_READY), .val (.ref u_READY), .val (.ref u_READY)] []))
      refine go (fun tg kg => XS.iconst X82.here hx rfl (hb hby at_124) kg) ?_
      show G (T82.setTop (mkF m 125 #[.val (.int x0), .val (.int x1), .val (.ref b1), .val (.int (1 : Int32)), .val (.ref u_READY), .val (.ref u_READY), .val (.ref u_READY)] [(.int (1 : Int32))]))
      refine go (fun tg kg => XS.goto X82.here hx rfl (pc0 := 125) (pc' := 129) rfl (hb hby at_125) (by decide) (by decide) kg) ?_
      show G (T82.setTop (mkF m 129 #[.val (.int x0), .val (.int x1), .val (.ref b1), .val (.int (1 : Int32)), .val (.ref u_READY), .val (.ref u_READY), .val (.ref u_READY)] [(.int (1 : Int32))]))
      refine fin (some (.int (1 : Int32))) X82 (fun h => absurd h (by decide)) (fun fs hr => retN X82 hx (t := .boolean) hret (by simp) (hb hby at_129) hr) (by decide) (by decide) ?_
      rw [e82]
      exact ⟨rfl, N82⟩
    · skip
      refine go (fun tg kg => XS.aloadN X32.here hx rfl (hb hby at_61) rfl rfl kg) ?_
      show G (T32.setTop (mkF m 62 #[.val (.int x0), .val (.int x1), .val (.ref b1), .val (.int (2 : Int32)), .unset, .unset, .unset] [(.ref b1)]))
      refine go (fun tg kg => XS.iloadN X32.here hx rfl (hb hby at_62) rfl kg) ?_
      show G (T32.setTop (mkF m 63 #[.val (.int x0), .val (.int x1), .val (.ref b1), .val (.int (2 : Int32)), .unset, .unset, .unset] [(.int (2 : Int32)), (.ref b1)]))
      obtain ⟨cl86, Ar86, q86, S86, M86, H86, U86⟩ := id V32
      have hin86 : ¬ ((2 : Int32) < 0 ∨ cl86.slots.size ≤ ((2 : Int32)).toNatClampNeg) := inb_of S86 ⟨by decide, by decide⟩
      refine go (fun tg kg => X32.aaload hx (j := (2 : Int32)) (v := (.ref u_CREATING)) (by rw [e32]; exact Ar86.1) (State.isArrayOf_alike hZ.alike Ar86.2.1) rfl Ar86.2.2 hin86 (H86.at hin86 rfl) (g := (mkF m 63 #[.val (.int x0), .val (.int x1), .val (.ref b1), .val (.int (2 : Int32)), .unset, .unset, .unset] [(.int (2 : Int32)), (.ref b1)])) rfl rfl (hb hby at_63) _ kg) ?_
      show G (T32.setTop (mkF m 64 #[.val (.int x0), .val (.int x1), .val (.ref b1), .val (.int (2 : Int32)), .unset, .unset, .unset] [(.ref u_CREATING)]))
      refine go (fun tg kg => XS.astore X32.here hx rfl (hb hby at_64) rfl rfl (l' := #[.val (.int x0), .val (.int x1), .val (.ref b1), .val (.int (2 : Int32)), .val (.ref u_CREATING), .unset, .unset]) rfl kg) ?_
      show G (T32.setTop (mkF m 66 #[.val (.int x0), .val (.int x1), .val (.ref b1), .val (.int (2 : Int32)), .val (.ref u_CREATING), .unset, .unset] []))
      refine go (fun tg kg => XS.aload X32.here hx rfl (hb hby at_66) rfl rfl kg) ?_
      show G (T32.setTop (mkF m 68 #[.val (.int x0), .val (.int x1), .val (.ref b1), .val (.int (2 : Int32)), .val (.ref u_CREATING), .unset, .unset] [(.ref u_CREATING)]))
      refine go (fun tg kg => XS.iloadN X32.here hx rfl (hb hby at_68) rfl kg) ?_
      show G (T32.setTop (mkF m 69 #[.val (.int x0), .val (.int x1), .val (.ref b1), .val (.int (2 : Int32)), .val (.ref u_CREATING), .unset, .unset] [(.int x1), (.ref u_CREATING)]))
      have Fa88 := (((Fa22.wr W24).wr W28).wr W32)
      have Fa89 := ((Fa26.wr W28).wr W32)
      have Fa90 := (((((((Fa6.wr W8).wr W12).wr W16).wr W20).wr W24).wr W28).wr W32)
      obtain ⟨_, _, ⟨T87, L87, k87, n87⟩, -, X87, ⟨Lc87, hQ87, l87, y87, z87⟩, st87⟩ := Jvm.LawKit.callS X32 hx (y := (⟨"com/example/scatterd/scatterd/model/JobState", "onceAttemptEnded", "(Lcom/example/scatterd/scatterd/model/JobState;I)Lcom/example/scatterd/scatterd/model/JobState;"⟩ : MethodName)) hown (mvT hZ (hw _ (List.mem_of_getElem? (i := 20) rfl))) (mvT hZ (hw _ (List.mem_of_getElem? (i := 21) rfl))) (mvT hZ (hw _ (List.mem_of_getElem? (i := 3) rfl))) (mvT hZ (hw _ (List.mem_of_getElem? (i := 22) rfl))) (by decide) (backOf (W := 0) (rm1 l Z a0 hw [] u_CREATING x1 u_FAILED u_ERROR u_READY h32 n0 Z32 Fa88 Fa89 Fa90) hZ (hw _ (List.mem_of_getElem? (i := 22) rfl)) (hw _ (List.mem_of_getElem? (i := 3) rfl)) (by decide) (by decide)) (g := (mkF m 69 #[.val (.int x0), .val (.int x1), .val (.ref b1), .val (.int (2 : Int32)), .val (.ref u_CREATING), .unset, .unset] [(.int x1), (.ref u_CREATING)])) rfl (by rw [hml]; rfl) (argsL := [(.ref u_CREATING), (.int x1)]) (rest := []) (lenOf pd__Lcom_example_scatterd_scatterd_model_JobState_I_Lcom_example_scatterd_scatterd_model_JobState_ rfl) rfl (by show 2 * 0 + _ ≤ _; exact Nat.le_of_eq rfl) (hb hby at_69) (fun _ _ => ⟨rfl, e32, (by decide : 1 + 0 ≤ _), (by decide : 8 + 0 ≤ _)⟩)
      dsimp only [Pt.U, Pt.locs, Pt.cells, Pt.slots] at X87 l87 y87 z87 st87 hQ87
      subst l87 y87 z87
      obtain ⟨rfl, Nq87, e87⟩ := hQ87
      rw [own_o3 hn_CREATING_FAILED hn_CREATING_ERROR] at st87
      have N87 := Fr.app N32 Nq87
      refine go st87 ?_
      show G (T87.setTop (mkF m 72 #[.val (.int x0), .val (.int x1), .val (.ref b1), .val (.int (2 : Int32)), .val (.ref u_CREATING), .unset, .unset] [(.ref u_CREATING)]))
      refine go (fun tg kg => XS.astore X87.here hx rfl (hb hby at_72) rfl rfl (l' := #[.val (.int x0), .val (.int x1), .val (.ref b1), .val (.int (2 : Int32)), .val (.ref u_CREATING), .val (.ref u_CREATING), .unset]) rfl kg) ?_
      show G (T87.setTop (mkF m 74 #[.val (.int x0), .val (.int x1), .val (.ref b1), .val (.int (2 : Int32)), .val (.ref u_CREATING), .val (.ref u_CREATING), .unset] []))
      refine go (fun tg kg => XS.iloadN X87.here hx rfl (hb hby at_74) rfl kg) ?_
      show G (T87.setTop (mkF m 75 #[.val (.int x0), .val (.int x1), .val (.ref b1), .val (.int (2 : Int32)), .val (.ref u_CREATING), .val (.ref u_CREATING), .unset] [(.int x1)]))
      refine go (fun tg kg => XS.iconst X87.here hx rfl (hb hby at_75) kg) ?_
      show G (T87.setTop (mkF m 76 #[.val (.int x0), .val (.int x1), .val (.ref b1), .val (.int (2 : Int32)), .val (.ref u_CREATING), .val (.ref u_CREATING), .unset] [(.int (1 : Int32)), (.int x1)]))
      refine go (fun tg kg => XS.icmpYes X87.here hx rfl (pc0 := 76) (pc' := 113) rfl (hb hby at_76) rfl (tlt (own_r0 hr)).1 (by decide) (by decide) kg) ?_
      show G (T87.setTop (mkF m 113 #[.val (.int x0), .val (.int x1), .val (.ref b1), .val (.int (2 : Int32)), .val (.ref u_CREATING), .val (.ref u_CREATING), .unset] []))
      refine go (fun tg kg => XS.aload X87.here hx rfl (hb hby at_113) rfl rfl kg) ?_
      show G (T87.setTop (mkF m 115 #[.val (.int x0), .val (.int x1), .val (.ref b1), .val (.int (2 : Int32)), .val (.ref u_CREATING), .val (.ref u_CREATING), .unset] [(.ref u_CREATING)]))
      refine go (fun tg kg => XS.astore X87.here hx rfl (hb hby at_115) rfl rfl (l' := #[.val (.int x0), .val (.int x1), .val (.ref b1), .val (.int (2 : Int32)), .val (.ref u_CREATING), .val (.ref u_CREATING), .val (.ref u_CREATING)]) rfl kg) ?_
      show G (T87.setTop (mkF m 117 #[.val (.int x0), .val (.int x1), .val (.ref b1), .val (.int (2 : Int32)), .val (.ref u_CREATING), .val (.ref u_CREATING), .val (.ref u_CREATING)] []))
      refine go (fun tg kg => XS.aload X87.here hx rfl (hb hby at_117) rfl rfl kg) ?_
      show G (T87.setTop (mkF m 119 #[.val (.int x0), .val (.int x1), .val (.ref b1), .val (.int (2 : Int32)), .val (.ref u_CREATING), .val (.ref u_CREATING), .val (.ref u_CREATING)] [(.ref u_CREATING)]))
      refine go (fun tg kg => XS.aload X87.here hx rfl (hb hby at_119) rfl rfl kg) ?_
      show G (T87.setTop (mkF m 121 #[.val (.int x0), .val (.int x1), .val (.ref b1), .val (.int (2 : Int32)), .val (.ref u_CREATING), .val (.ref u_CREATING), .val (.ref u_CREATING)] [(.ref u_CREATING), (.ref u_CREATING)]))
      refine go (fun tg kg => Jvm.RoadKit.acmp (g := (mkF m 121 #[.val (.int x0), .val (.int x1), .val (.ref b1), .val (.int (2 : Int32)), .val (.ref u_CREATING), .val (.ref u_CREATING), .val (.ref u_CREATING)] [(.ref u_CREATING), (.ref u_CREATING)])) X87 hx rfl rfl rfl (pc0 := 121) (pc' := 124) (same := true) rfl (hb hby at_121) rfl (decide_eq_true rfl) (by decide) (by decide) kg) ?_
      show G (T87.setTop (mkF m 124 #[.val (.int x0), .val (.int x1), .val (.ref b1), .val (.int (2 : Int32)), .val (.ref u_CREATING), .val (.ref u_CREATING), .val (.ref u_CREATING)] []))
      refine go (fun tg kg => XS.iconst X87.here hx rfl (hb hby at_124) kg) ?_
      show G (T87.setTop (mkF m 125 #[.val (.int x0), .val (.int x1), .val (.ref b1), .val (.int (2 : Int32)), .val (.ref u_CREATING), .val (.ref u_CREATING), .val (.ref u_CREATING)] [(.int (1 : Int32))]))
      refine go (fun tg kg => XS.goto X87.here hx rfl (pc0 := 125) (pc' := 129) rfl (hb hby at_125) (by decide) (by decide) kg) ?_
      show G (T87.setTop (mkF m 129 #[.val (.int x0), .val (.int x1), .val (.ref b1), .val (.int (2 : Int32)), .val (.ref u_CREATING), .val (.ref u_CREATING), .val (.ref u_CREATING)] [(.int (1 : Int32))]))
      refine fin (some (.int (1 : Int32))) X87 (fun h => absurd h (by decide)) (fun fs hr => retN X87 hx (t := .boolean) hret (by simp) (hb hby at_129) hr) (by decide) (by decide) ?_
      rw [e87]
      exact ⟨rfl, N87⟩
    · skip
      refine go (fun tg kg => XS.aloadN X32.here hx rfl (hb hby at_61) rfl rfl kg) ?_
      show G (T32.setTop (mkF m 62 #[.val (.int x0), .val (.int x1), .val (.ref b1), .val (.int (3 : Int32)), .unset, .unset, .unset] [(.ref b1)]))
      refine go (fun tg kg => XS.iloadN X32.here hx rfl (hb hby at_62) rfl kg) ?_
      show G (T32.setTop (mkF m 63 #[.val (.int x0), .val (.int x1), .val (.ref b1), .val (.int (3 : Int32)), .unset, .unset, .unset] [(.int (3 : Int32)), (.ref b1)]))
      obtain ⟨cl91, Ar91, q91, S91, M91, H91, U91⟩ := id V32
      have hin91 : ¬ ((3 : Int32) < 0 ∨ cl91.slots.size ≤ ((3 : Int32)).toNatClampNeg) := inb_of S91 ⟨by decide, by decide⟩
      refine go (fun tg kg => X32.aaload hx (j := (3 : Int32)) (v := (.ref u_RUNNING)) (by rw [e32]; exact Ar91.1) (State.isArrayOf_alike hZ.alike Ar91.2.1) rfl Ar91.2.2 hin91 (H91.at hin91 rfl) (g := (mkF m 63 #[.val (.int x0), .val (.int x1), .val (.ref b1), .val (.int (3 : Int32)), .unset, .unset, .unset] [(.int (3 : Int32)), (.ref b1)])) rfl rfl (hb hby at_63) _ kg) ?_
      show G (T32.setTop (mkF m 64 #[.val (.int x0), .val (.int x1), .val (.ref b1), .val (.int (3 : Int32)), .unset, .unset, .unset] [(.ref u_RUNNING)]))
      refine go (fun tg kg => XS.astore X32.here hx rfl (hb hby at_64) rfl rfl (l' := #[.val (.int x0), .val (.int x1), .val (.ref b1), .val (.int (3 : Int32)), .val (.ref u_RUNNING), .unset, .unset]) rfl kg) ?_
      show G (T32.setTop (mkF m 66 #[.val (.int x0), .val (.int x1), .val (.ref b1), .val (.int (3 : Int32)), .val (.ref u_RUNNING), .unset, .unset] []))
      refine go (fun tg kg => XS.aload X32.here hx rfl (hb hby at_66) rfl rfl kg) ?_
      show G (T32.setTop (mkF m 68 #[.val (.int x0), .val (.int x1), .val (.ref b1), .val (.int (3 : Int32)), .val (.ref u_RUNNING), .unset, .unset] [(.ref u_RUNNING)]))
      refine go (fun tg kg => XS.iloadN X32.here hx rfl (hb hby at_68) rfl kg) ?_
      show G (T32.setTop (mkF m 69 #[.val (.int x0), .val (.int x1), .val (.ref b1), .val (.int (3 : Int32)), .val (.ref u_RUNNING), .unset, .unset] [(.int x1), (.ref u_RUNNING)]))
      have Fa93 := (((Fa22.wr W24).wr W28).wr W32)
      have Fa94 := ((Fa26.wr W28).wr W32)
      have Fa95 := (((((((Fa6.wr W8).wr W12).wr W16).wr W20).wr W24).wr W28).wr W32)
      obtain ⟨_, _, ⟨T92, L92, k92, n92⟩, -, X92, ⟨Lc92, hQ92, l92, y92, z92⟩, st92⟩ := Jvm.LawKit.callS X32 hx (y := (⟨"com/example/scatterd/scatterd/model/JobState", "onceAttemptEnded", "(Lcom/example/scatterd/scatterd/model/JobState;I)Lcom/example/scatterd/scatterd/model/JobState;"⟩ : MethodName)) hown (mvT hZ (hw _ (List.mem_of_getElem? (i := 20) rfl))) (mvT hZ (hw _ (List.mem_of_getElem? (i := 21) rfl))) (mvT hZ (hw _ (List.mem_of_getElem? (i := 3) rfl))) (mvT hZ (hw _ (List.mem_of_getElem? (i := 22) rfl))) (by decide) (backOf (W := 0) (rm1 l Z a0 hw [] u_RUNNING x1 u_FAILED u_ERROR u_READY h32 n0 Z32 Fa93 Fa94 Fa95) hZ (hw _ (List.mem_of_getElem? (i := 22) rfl)) (hw _ (List.mem_of_getElem? (i := 3) rfl)) (by decide) (by decide)) (g := (mkF m 69 #[.val (.int x0), .val (.int x1), .val (.ref b1), .val (.int (3 : Int32)), .val (.ref u_RUNNING), .unset, .unset] [(.int x1), (.ref u_RUNNING)])) rfl (by rw [hml]; rfl) (argsL := [(.ref u_RUNNING), (.int x1)]) (rest := []) (lenOf pd__Lcom_example_scatterd_scatterd_model_JobState_I_Lcom_example_scatterd_scatterd_model_JobState_ rfl) rfl (by show 2 * 0 + _ ≤ _; exact Nat.le_of_eq rfl) (hb hby at_69) (fun _ _ => ⟨rfl, e32, (by decide : 1 + 0 ≤ _), (by decide : 8 + 0 ≤ _)⟩)
      dsimp only [Pt.U, Pt.locs, Pt.cells, Pt.slots] at X92 l92 y92 z92 st92 hQ92
      subst l92 y92 z92
      obtain ⟨rfl, Nq92, e92⟩ := hQ92
      rw [own_o3 hn_RUNNING_FAILED hn_RUNNING_ERROR] at st92
      have N92 := Fr.app N32 Nq92
      refine go st92 ?_
      show G (T92.setTop (mkF m 72 #[.val (.int x0), .val (.int x1), .val (.ref b1), .val (.int (3 : Int32)), .val (.ref u_RUNNING), .unset, .unset] [(.ref u_RUNNING)]))
      refine go (fun tg kg => XS.astore X92.here hx rfl (hb hby at_72) rfl rfl (l' := #[.val (.int x0), .val (.int x1), .val (.ref b1), .val (.int (3 : Int32)), .val (.ref u_RUNNING), .val (.ref u_RUNNING), .unset]) rfl kg) ?_
      show G (T92.setTop (mkF m 74 #[.val (.int x0), .val (.int x1), .val (.ref b1), .val (.int (3 : Int32)), .val (.ref u_RUNNING), .val (.ref u_RUNNING), .unset] []))
      refine go (fun tg kg => XS.iloadN X92.here hx rfl (hb hby at_74) rfl kg) ?_
      show G (T92.setTop (mkF m 75 #[.val (.int x0), .val (.int x1), .val (.ref b1), .val (.int (3 : Int32)), .val (.ref u_RUNNING), .val (.ref u_RUNNING), .unset] [(.int x1)]))
      refine go (fun tg kg => XS.iconst X92.here hx rfl (hb hby at_75) kg) ?_
      show G (T92.setTop (mkF m 76 #[.val (.int x0), .val (.int x1), .val (.ref b1), .val (.int (3 : Int32)), .val (.ref u_RUNNING), .val (.ref u_RUNNING), .unset] [(.int (1 : Int32)), (.int x1)]))
      refine go (fun tg kg => XS.icmpYes X92.here hx rfl (pc0 := 76) (pc' := 113) rfl (hb hby at_76) rfl (tlt (own_r0 hr)).1 (by decide) (by decide) kg) ?_
      show G (T92.setTop (mkF m 113 #[.val (.int x0), .val (.int x1), .val (.ref b1), .val (.int (3 : Int32)), .val (.ref u_RUNNING), .val (.ref u_RUNNING), .unset] []))
      refine go (fun tg kg => XS.aload X92.here hx rfl (hb hby at_113) rfl rfl kg) ?_
      show G (T92.setTop (mkF m 115 #[.val (.int x0), .val (.int x1), .val (.ref b1), .val (.int (3 : Int32)), .val (.ref u_RUNNING), .val (.ref u_RUNNING), .unset] [(.ref u_RUNNING)]))
      refine go (fun tg kg => XS.astore X92.here hx rfl (hb hby at_115) rfl rfl (l' := #[.val (.int x0), .val (.int x1), .val (.ref b1), .val (.int (3 : Int32)), .val (.ref u_RUNNING), .val (.ref u_RUNNING), .val (.ref u_RUNNING)]) rfl kg) ?_
      show G (T92.setTop (mkF m 117 #[.val (.int x0), .val (.int x1), .val (.ref b1), .val (.int (3 : Int32)), .val (.ref u_RUNNING), .val (.ref u_RUNNING), .val (.ref u_RUNNING)] []))
      refine go (fun tg kg => XS.aload X92.here hx rfl (hb hby at_117) rfl rfl kg) ?_
      show G (T92.setTop (mkF m 119 #[.val (.int x0), .val (.int x1), .val (.ref b1), .val (.int (3 : Int32)), .val (.ref u_RUNNING), .val (.ref u_RUNNING), .val (.ref u_RUNNING)] [(.ref u_RUNNING)]))
      refine go (fun tg kg => XS.aload X92.here hx rfl (hb hby at_119) rfl rfl kg) ?_
      show G (T92.setTop (mkF m 121 #[.val (.int x0), .val (.int x1), .val (.ref b1), .val (.int (3 : Int32)), .val (.ref u_RUNNING), .val (.ref u_RUNNING), .val (.ref u_RUNNING)] [(.ref u_RUNNING), (.ref u_RUNNING)]))
      refine go (fun tg kg => Jvm.RoadKit.acmp (g := (mkF m 121 #[.val (.int x0), .val (.int x1), .val (.ref b1), .val (.int (3 : Int32)), .val (.ref u_RUNNING), .val (.ref u_RUNNING), .val (.ref u_RUNNING)] [(.ref u_RUNNING), (.ref u_RUNNING)])) X92 hx rfl rfl rfl (pc0 := 121) (pc' := 124) (same := true) rfl (hb hby at_121) rfl (decide_eq_true rfl) (by decide) (by decide) kg) ?_
      show G (T92.setTop (mkF m 124 #[.val (.int x0), .val (.int x1), .val (.ref b1), .val (.int (3 : Int32)), .val (.ref u_RUNNING), .val (.ref u_RUNNING), .val (.ref u_RUNNING)] []))
      refine go (fun tg kg => XS.iconst X92.here hx rfl (hb hby at_124) kg) ?_
      show G (T92.setTop (mkF m 125 #[.val (.int x0), .val (.int x1), .val (.ref b1), .val (.int (3 : Int32)), .val (.ref u_RUNNING), .val (.ref u_RUNNING), .val (.ref u_RUNNING)] [(.int (1 : Int32))]))
      refine go (fun tg kg => XS.goto X92.here hx rfl (pc0 := 125) (pc' := 129) rfl (hb hby at_125) (by decide) (by decide) kg) ?_
      show G (T92.setTop (mkF m 129 #[.val (.int x0), .val (.int x1), .val (.ref b1), .val (.int (3 : Int32)), .val (.ref u_RUNNING), .val (.ref u_RUNNING), .val (.ref u_RUNNING)] [(.int (1 : Int32))]))
      refine fin (some (.int (1 : Int32))) X92 (fun h => absurd h (by decide)) (fun fs hr => retN X92 hx (t := .boolean) hret (by simp) (hb hby at_129) hr) (by decide) (by decide) ?_
      rw [e92]
      exact ⟨rfl, N92⟩
    · skip
      refine go (fun tg kg => XS.aloadN X32.here hx rfl (hb hby at_61) rfl rfl kg) ?_
      show G (T32.setTop (mkF m 62 #[.val (.int x0), .val (.int x1), .val (.ref b1), .val (.int (4 : Int32)), .unset, .unset, .unset] [(.ref b1)]))
      refine go (fun tg kg => XS.iloadN X32.here hx rfl (hb hby at_62) rfl kg) ?_
      show G (T32.setTop (mkF m 63 #[.val (.int x0), .val (.int x1), .val (.ref b1), .val (.int (4 : Int32)), .unset, .unset, .unset] [(.int (4 : Int32)), (.ref b1)]))
      obtain ⟨cl96, Ar96, q96, S96, M96, H96, U96⟩ := id V32
      have hin96 : ¬ ((4 : Int32) < 0 ∨ cl96.slots.size ≤ ((4 : Int32)).toNatClampNeg) := inb_of S96 ⟨by decide, by decide⟩
      refine go (fun tg kg => X32.aaload hx (j := (4 : Int32)) (v := (.ref u_SUCCESS)) (by rw [e32]; exact Ar96.1) (State.isArrayOf_alike hZ.alike Ar96.2.1) rfl Ar96.2.2 hin96 (H96.at hin96 rfl) (g := (mkF m 63 #[.val (.int x0), .val (.int x1), .val (.ref b1), .val (.int (4 : Int32)), .unset, .unset, .unset] [(.int (4 : Int32)), (.ref b1)])) rfl rfl (hb hby at_63) _ kg) ?_
      show G (T32.setTop (mkF m 64 #[.val (.int x0), .val (.int x1), .val (.ref b1), .val (.int (4 : Int32)), .unset, .unset, .unset] [(.ref u_SUCCESS)]))
      refine go (fun tg kg => XS.astore X32.here hx rfl (hb hby at_64) rfl rfl (l' := #[.val (.int x0), .val (.int x1), .val (.ref b1), .val (.int (4 : Int32)), .val (.ref u_SUCCESS), .unset, .unset]) rfl kg) ?_
      show G (T32.setTop (mkF m 66 #[.val (.int x0), .val (.int x1), .val (.ref b1), .val (.int (4 : Int32)), .val (.ref u_SUCCESS), .unset, .unset] []))
      refine go (fun tg kg => XS.aload X32.here hx rfl (hb hby at_66) rfl rfl kg) ?_
      show G (T32.setTop (mkF m 68 #[.val (.int x0), .val (.int x1), .val (.ref b1), .val (.int (4 : Int32)), .val (.ref u_SUCCESS), .unset, .unset] [(.ref u_SUCCESS)]))
      refine go (fun tg kg => XS.iloadN X32.here hx rfl (hb hby at_68) rfl kg) ?_
      show G (T32.setTop (mkF m 69 #[.val (.int x0), .val (.int x1), .val (.ref b1), .val (.int (4 : Int32)), .val (.ref u_SUCCESS), .unset, .unset] [(.int x1), (.ref u_SUCCESS)]))
      have Fa98 := (((Fa22.wr W24).wr W28).wr W32)
      have Fa99 := ((Fa26.wr W28).wr W32)
      have Fa100 := (((((((Fa6.wr W8).wr W12).wr W16).wr W20).wr W24).wr W28).wr W32)
      obtain ⟨_, _, ⟨T97, L97, k97, n97⟩, -, X97, ⟨Lc97, hQ97, l97, y97, z97⟩, st97⟩ := Jvm.LawKit.callS X32 hx (y := (⟨"com/example/scatterd/scatterd/model/JobState", "onceAttemptEnded", "(Lcom/example/scatterd/scatterd/model/JobState;I)Lcom/example/scatterd/scatterd/model/JobState;"⟩ : MethodName)) hown (mvT hZ (hw _ (List.mem_of_getElem? (i := 20) rfl))) (mvT hZ (hw _ (List.mem_of_getElem? (i := 21) rfl))) (mvT hZ (hw _ (List.mem_of_getElem? (i := 3) rfl))) (mvT hZ (hw _ (List.mem_of_getElem? (i := 22) rfl))) (by decide) (backOf (W := 0) (rm1 l Z a0 hw [] u_SUCCESS x1 u_FAILED u_ERROR u_READY h32 n0 Z32 Fa98 Fa99 Fa100) hZ (hw _ (List.mem_of_getElem? (i := 22) rfl)) (hw _ (List.mem_of_getElem? (i := 3) rfl)) (by decide) (by decide)) (g := (mkF m 69 #[.val (.int x0), .val (.int x1), .val (.ref b1), .val (.int (4 : Int32)), .val (.ref u_SUCCESS), .unset, .unset] [(.int x1), (.ref u_SUCCESS)])) rfl (by rw [hml]; rfl) (argsL := [(.ref u_SUCCESS), (.int x1)]) (rest := []) (lenOf pd__Lcom_example_scatterd_scatterd_model_JobState_I_Lcom_example_scatterd_scatterd_model_JobState_ rfl) rfl (by show 2 * 0 + _ ≤ _; exact Nat.le_of_eq rfl) (hb hby at_69) (fun _ _ => ⟨rfl, e32, (by decide : 1 + 0 ≤ _), (by decide : 8 + 0 ≤ _)⟩)
      dsimp only [Pt.U, Pt.locs, Pt.cells, Pt.slots] at X97 l97 y97 z97 st97 hQ97
      subst l97 y97 z97
      obtain ⟨rfl, Nq97, e97⟩ := hQ97
      rw [own_o3 hn_SUCCESS_FAILED hn_SUCCESS_ERROR] at st97
      have N97 := Fr.app N32 Nq97
      refine go st97 ?_
      show G (T97.setTop (mkF m 72 #[.val (.int x0), .val (.int x1), .val (.ref b1), .val (.int (4 : Int32)), .val (.ref u_SUCCESS), .unset, .unset] [(.ref u_SUCCESS)]))
      refine go (fun tg kg => XS.astore X97.here hx rfl (hb hby at_72) rfl rfl (l' := #[.val (.int x0), .val (.int x1), .val (.ref b1), .val (.int (4 : Int32)), .val (.ref u_SUCCESS), .val (.ref u_SUCCESS), .unset]) rfl kg) ?_
      show G (T97.setTop (mkF m 74 #[.val (.int x0), .val (.int x1), .val (.ref b1), .val (.int (4 : Int32)), .val (.ref u_SUCCESS), .val (.ref u_SUCCESS), .unset] []))
      refine go (fun tg kg => XS.iloadN X97.here hx rfl (hb hby at_74) rfl kg) ?_
      show G (T97.setTop (mkF m 75 #[.val (.int x0), .val (.int x1), .val (.ref b1), .val (.int (4 : Int32)), .val (.ref u_SUCCESS), .val (.ref u_SUCCESS), .unset] [(.int x1)]))
      refine go (fun tg kg => XS.iconst X97.here hx rfl (hb hby at_75) kg) ?_
      show G (T97.setTop (mkF m 76 #[.val (.int x0), .val (.int x1), .val (.ref b1), .val (.int (4 : Int32)), .val (.ref u_SUCCESS), .val (.ref u_SUCCESS), .unset] [(.int (1 : Int32)), (.int x1)]))
      refine go (fun tg kg => XS.icmpYes X97.here hx rfl (pc0 := 76) (pc' := 113) rfl (hb hby at_76) rfl (tlt (own_r0 hr)).1 (by decide) (by decide) kg) ?_
      show G (T97.setTop (mkF m 113 #[.val (.int x0), .val (.int x1), .val (.ref b1), .val (.int (4 : Int32)), .val (.ref u_SUCCESS), .val (.ref u_SUCCESS), .unset] []))
      refine go (fun tg kg => XS.aload X97.here hx rfl (hb hby at_113) rfl rfl kg) ?_
      show G (T97.setTop (mkF m 115 #[.val (.int x0), .val (.int x1), .val (.ref b1), .val (.int (4 : Int32)), .val (.ref u_SUCCESS), .val (.ref u_SUCCESS), .unset] [(.ref u_SUCCESS)]))
      refine go (fun tg kg => XS.astore X97.here hx rfl (hb hby at_115) rfl rfl (l' := #[.val (.int x0), .val (.int x1), .val (.ref b1), .val (.int (4 : Int32)), .val (.ref u_SUCCESS), .val (.ref u_SUCCESS), .val (.ref u_SUCCESS)]) rfl kg) ?_
      show G (T97.setTop (mkF m 117 #[.val (.int x0), .val (.int x1), .val (.ref b1), .val (.int (4 : Int32)), .val (.ref u_SUCCESS), .val (.ref u_SUCCESS), .val (.ref u_SUCCESS)] []))
      refine go (fun tg kg => XS.aload X97.here hx rfl (hb hby at_117) rfl rfl kg) ?_
      show G (T97.setTop (mkF m 119 #[.val (.int x0), .val (.int x1), .val (.ref b1), .val (.int (4 : Int32)), .val (.ref u_SUCCESS), .val (.ref u_SUCCESS), .val (.ref u_SUCCESS)] [(.ref u_SUCCESS)]))
      refine go (fun tg kg => XS.aload X97.here hx rfl (hb hby at_119) rfl rfl kg) ?_
      show G (T97.setTop (mkF m 121 #[.val (.int x0), .val (.int x1), .val (.ref b1), .val (.int (4 : Int32)), .val (.ref u_SUCCESS), .val (.ref u_SUCCESS), .val (.ref u_SUCCESS)] [(.ref u_SUCCESS), (.ref u_SUCCESS)]))
      refine go (fun tg kg => Jvm.RoadKit.acmp (g := (mkF m 121 #[.val (.int x0), .val (.int x1), .val (.ref b1), .val (.int (4 : Int32)), .val (.ref u_SUCCESS), .val (.ref u_SUCCESS), .val (.ref u_SUCCESS)] [(.ref u_SUCCESS), (.ref u_SUCCESS)])) X97 hx rfl rfl rfl (pc0 := 121) (pc' := 124) (same := true) rfl (hb hby at_121) rfl (decide_eq_true rfl) (by decide) (by decide) kg) ?_
      show G (T97.setTop (mkF m 124 #[.val (.int x0), .val (.int x1), .val (.ref b1), .val (.int (4 : Int32)), .val (.ref u_SUCCESS), .val (.ref u_SUCCESS), .val (.ref u_SUCCESS)] []))
      refine go (fun tg kg => XS.iconst X97.here hx rfl (hb hby at_124) kg) ?_
      show G (T97.setTop (mkF m 125 #[.val (.int x0), .val (.int x1), .val (.ref b1), .val (.int (4 : Int32)), .val (.ref u_SUCCESS), .val (.ref u_SUCCESS), .val (.ref u_SUCCESS)] [(.int (1 : Int32))]))
      refine go (fun tg kg => XS.goto X97.here hx rfl (pc0 := 125) (pc' := 129) rfl (hb hby at_125) (by decide) (by decide) kg) ?_
      show G (T97.setTop (mkF m 129 #[.val (.int x0), .val (.int x1), .val (.ref b1), .val (.int (4 : Int32)), .val (.ref u_SUCCESS), .val (.ref u_SUCCESS), .val (.ref u_SUCCESS)] [(.int (1 : Int32))]))
      refine fin (some (.int (1 : Int32))) X97 (fun h => absurd h (by decide)) (fun fs hr => retN X97 hx (t := .boolean) hret (by simp) (hb hby at_129) hr) (by decide) (by decide) ?_
      rw [e97]
      exact ⟨rfl, N97⟩
    · skip
      refine go (fun tg kg => XS.aloadN X32.here hx rfl (hb hby at_61) rfl rfl kg) ?_
      show G (T32.setTop (mkF m 62 #[.val (.int x0), .val (.int x1), .val (.ref b1), .val (.int (5 : Int32)), .unset, .unset, .unset] [(.ref b1)]))
      refine go (fun tg kg => XS.iloadN X32.here hx rfl (hb hby at_62) rfl kg) ?_
      show G (T32.setTop (mkF m 63 #[.val (.int x0), .val (.int x1), .val (.ref b1), .val (.int (5 : Int32)), .unset, .unset, .unset] [(.int (5 : Int32)), (.ref b1)]))
      obtain ⟨cl101, Ar101, q101, S101, M101, H101, U101⟩ := id V32
      have hin101 : ¬ ((5 : Int32) < 0 ∨ cl101.slots.size ≤ ((5 : Int32)).toNatClampNeg) := inb_of S101 ⟨by decide, by decide⟩
      refine go (fun tg kg => X32.aaload hx (j := (5 : Int32)) (v := (.ref u_FAILED)) (by rw [e32]; exact Ar101.1) (State.isArrayOf_alike hZ.alike Ar101.2.1) rfl Ar101.2.2 hin101 (H101.at hin101 rfl) (g := (mkF m 63 #[.val (.int x0), .val (.int x1), .val (.ref b1), .val (.int (5 : Int32)), .unset, .unset, .unset] [(.int (5 : Int32)), (.ref b1)])) rfl rfl (hb hby at_63) _ kg) ?_
      show G (T32.setTop (mkF m 64 #[.val (.int x0), .val (.int x1), .val (.ref b1), .val (.int (5 : Int32)), .unset, .unset, .unset] [(.ref u_FAILED)]))
      refine go (fun tg kg => XS.astore X32.here hx rfl (hb hby at_64) rfl rfl (l' := #[.val (.int x0), .val (.int x1), .val (.ref b1), .val (.int (5 : Int32)), .val (.ref u_FAILED), .unset, .unset]) rfl kg) ?_
      show G (T32.setTop (mkF m 66 #[.val (.int x0), .val (.int x1), .val (.ref b1), .val (.int (5 : Int32)), .val (.ref u_FAILED), .unset, .unset] []))
      refine go (fun tg kg => XS.aload X32.here hx rfl (hb hby at_66) rfl rfl kg) ?_
      show G (T32.setTop (mkF m 68 #[.val (.int x0), .val (.int x1), .val (.ref b1), .val (.int (5 : Int32)), .val (.ref u_FAILED), .unset, .unset] [(.ref u_FAILED)]))
      refine go (fun tg kg => XS.iloadN X32.here hx rfl (hb hby at_68) rfl kg) ?_
      show G (T32.setTop (mkF m 69 #[.val (.int x0), .val (.int x1), .val (.ref b1), .val (.int (5 : Int32)), .val (.ref u_FAILED), .unset, .unset] [(.int x1), (.ref u_FAILED)]))
      have Fa103 := (((Fa22.wr W24).wr W28).wr W32)
      have Fa104 := ((Fa26.wr W28).wr W32)
      have Fa105 := (((((((Fa6.wr W8).wr W12).wr W16).wr W20).wr W24).wr W28).wr W32)
      obtain ⟨_, _, ⟨T102, L102, k102, n102⟩, -, X102, ⟨Lc102, hQ102, l102, y102, z102⟩, st102⟩ := Jvm.LawKit.callS X32 hx (y := (⟨"com/example/scatterd/scatterd/model/JobState", "onceAttemptEnded", "(Lcom/example/scatterd/scatterd/model/JobState;I)Lcom/example/scatterd/scatterd/model/JobState;"⟩ : MethodName)) hown (mvT hZ (hw _ (List.mem_of_getElem? (i := 20) rfl))) (mvT hZ (hw _ (List.mem_of_getElem? (i := 21) rfl))) (mvT hZ (hw _ (List.mem_of_getElem? (i := 3) rfl))) (mvT hZ (hw _ (List.mem_of_getElem? (i := 22) rfl))) (by decide) (backOf (W := 0) (rm1 l Z a0 hw [] u_FAILED x1 u_FAILED u_ERROR u_READY h32 n0 Z32 Fa103 Fa104 Fa105) hZ (hw _ (List.mem_of_getElem? (i := 22) rfl)) (hw _ (List.mem_of_getElem? (i := 3) rfl)) (by decide) (by decide)) (g := (mkF m 69 #[.val (.int x0), .val (.int x1), .val (.ref b1), .val (.int (5 : Int32)), .val (.ref u_FAILED), .unset, .unset] [(.int x1), (.ref u_FAILED)])) rfl (by rw [hml]; rfl) (argsL := [(.ref u_FAILED), (.int x1)]) (rest := []) (lenOf pd__Lcom_example_scatterd_scatterd_model_JobState_I_Lcom_example_scatterd_scatterd_model_JobState_ rfl) rfl (by show 2 * 0 + _ ≤ _; exact Nat.le_of_eq rfl) (hb hby at_69) (fun _ _ => ⟨rfl, e32, (by decide : 1 + 0 ≤ _), (by decide : 8 + 0 ≤ _)⟩)
      dsimp only [Pt.U, Pt.locs, Pt.cells, Pt.slots] at X102 l102 y102 z102 st102 hQ102
      subst l102 y102 z102
      obtain ⟨rfl, Nq102, e102⟩ := hQ102
      rw [own_o2 hr] at st102
      have N102 := Fr.app N32 Nq102
      refine go st102 ?_
      show G (T102.setTop (mkF m 72 #[.val (.int x0), .val (.int x1), .val (.ref b1), .val (.int (5 : Int32)), .val (.ref u_FAILED), .unset, .unset] [(.ref u_FAILED)]))
      refine go (fun tg kg => XS.astore X102.here hx rfl (hb hby at_72) rfl rfl (l' := #[.val (.int x0), .val (.int x1), .val (.ref b1), .val (.int (5 : Int32)), .val (.ref u_FAILED), .val (.ref u_FAILED), .unset]) rfl kg) ?_
      show G (T102.setTop (mkF m 74 #[.val (.int x0), .val (.int x1), .val (.ref b1), .val (.int (5 : Int32)), .val (.ref u_FAILED), .val (.ref u_FAILED), .unset] []))
      refine go (fun tg kg => XS.iloadN X102.here hx rfl (hb hby at_74) rfl kg) ?_
      show G (T102.setTop (mkF m 75 #[.val (.int x0), .val (.int x1), .val (.ref b1), .val (.int (5 : Int32)), .val (.ref u_FAILED), .val (.ref u_FAILED), .unset] [(.int x1)]))
      refine go (fun tg kg => XS.iconst X102.here hx rfl (hb hby at_75) kg) ?_
      show G (T102.setTop (mkF m 76 #[.val (.int x0), .val (.int x1), .val (.ref b1), .val (.int (5 : Int32)), .val (.ref u_FAILED), .val (.ref u_FAILED), .unset] [(.int (1 : Int32)), (.int x1)]))
      refine go (fun tg kg => XS.icmpYes X102.here hx rfl (pc0 := 76) (pc' := 113) rfl (hb hby at_76) rfl (tlt (own_r0 hr)).1 (by decide) (by decide) kg) ?_
      show G (T102.setTop (mkF m 113 #[.val (.int x0), .val (.int x1), .val (.ref b1), .val (.int (5 : Int32)), .val (.ref u_FAILED), .val (.ref u_FAILED), .unset] []))
      refine go (fun tg kg => XS.aload X102.here hx rfl (hb hby at_113) rfl rfl kg) ?_
      show G (T102.setTop (mkF m 115 #[.val (.int x0), .val (.int x1), .val (.ref b1), .val (.int (5 : Int32)), .val (.ref u_FAILED), .val (.ref u_FAILED), .unset] [(.ref u_FAILED)]))
      refine go (fun tg kg => XS.astore X102.here hx rfl (hb hby at_115) rfl rfl (l' := #[.val (.int x0), .val (.int x1), .val (.ref b1), .val (.int (5 : Int32)), .val (.ref u_FAILED), .val (.ref u_FAILED), .val (.ref u_FAILED)]) rfl kg) ?_
      show G (T102.setTop (mkF m 117 #[.val (.int x0), .val (.int x1), .val (.ref b1), .val (.int (5 : Int32)), .val (.ref u_FAILED), .val (.ref u_FAILED), .val (.ref u_FAILED)] []))
      refine go (fun tg kg => XS.aload X102.here hx rfl (hb hby at_117) rfl rfl kg) ?_
      show G (T102.setTop (mkF m 119 #[.val (.int x0), .val (.int x1), .val (.ref b1), .val (.int (5 : Int32)), .val (.ref u_FAILED), .val (.ref u_FAILED), .val (.ref u_FAILED)] [(.ref u_FAILED)]))
      refine go (fun tg kg => XS.aload X102.here hx rfl (hb hby at_119) rfl rfl kg) ?_
      show G (T102.setTop (mkF m 121 #[.val (.int x0), .val (.int x1), .val (.ref b1), .val (.int (5 : Int32)), .val (.ref u_FAILED), .val (.ref u_FAILED), .val (.ref u_FAILED)] [(.ref u_FAILED), (.ref u_FAILED)]))
      refine go (fun tg kg => Jvm.RoadKit.acmp (g := (mkF m 121 #[.val (.int x0), .val (.int x1), .val (.ref b1), .val (.int (5 : Int32)), .val (.ref u_FAILED), .val (.ref u_FAILED), .val (.ref u_FAILED)] [(.ref u_FAILED), (.ref u_FAILED)])) X102 hx rfl rfl rfl (pc0 := 121) (pc' := 124) (same := true) rfl (hb hby at_121) rfl (decide_eq_true rfl) (by decide) (by decide) kg) ?_
      show G (T102.setTop (mkF m 124 #[.val (.int x0), .val (.int x1), .val (.ref b1), .val (.int (5 : Int32)), .val (.ref u_FAILED), .val (.ref u_FAILED), .val (.ref u_FAILED)] []))
      refine go (fun tg kg => XS.iconst X102.here hx rfl (hb hby at_124) kg) ?_
      show G (T102.setTop (mkF m 125 #[.val (.int x0), .val (.int x1), .val (.ref b1), .val (.int (5 : Int32)), .val (.ref u_FAILED), .val (.ref u_FAILED), .val (.ref u_FAILED)] [(.int (1 : Int32))]))
      refine go (fun tg kg => XS.goto X102.here hx rfl (pc0 := 125) (pc' := 129) rfl (hb hby at_125) (by decide) (by decide) kg) ?_
      show G (T102.setTop (mkF m 129 #[.val (.int x0), .val (.int x1), .val (.ref b1), .val (.int (5 : Int32)), .val (.ref u_FAILED), .val (.ref u_FAILED), .val (.ref u_FAILED)] [(.int (1 : Int32))]))
      refine fin (some (.int (1 : Int32))) X102 (fun h => absurd h (by decide)) (fun fs hr => retN X102 hx (t := .boolean) hret (by simp) (hb hby at_129) hr) (by decide) (by decide) ?_
      rw [e102]
      exact ⟨rfl, N102⟩
    · skip
      refine go (fun tg kg => XS.aloadN X32.here hx rfl (hb hby at_61) rfl rfl kg) ?_
      show G (T32.setTop (mkF m 62 #[.val (.int x0), .val (.int x1), .val (.ref b1), .val (.int (6 : Int32)), .unset, .unset, .unset] [(.ref b1)]))
      refine go (fun tg kg => XS.iloadN X32.here hx rfl (hb hby at_62) rfl kg) ?_
      show G (T32.setTop (mkF m 63 #[.val (.int x0), .val (.int x1), .val (.ref b1), .val (.int (6 : Int32)), .unset, .unset, .unset] [(.int (6 : Int32)), (.ref b1)]))
      obtain ⟨cl106, Ar106, q106, S106, M106, H106, U106⟩ := id V32
      have hin106 : ¬ ((6 : Int32) < 0 ∨ cl106.slots.size ≤ ((6 : Int32)).toNatClampNeg) := inb_of S106 ⟨by decide, by decide⟩
      refine go (fun tg kg => X32.aaload hx (j := (6 : Int32)) (v := (.ref u_ERROR)) (by rw [e32]; exact Ar106.1) (State.isArrayOf_alike hZ.alike Ar106.2.1) rfl Ar106.2.2 hin106 (H106.at hin106 rfl) (g := (mkF m 63 #[.val (.int x0), .val (.int x1), .val (.ref b1), .val (.int (6 : Int32)), .unset, .unset, .unset] [(.int (6 : Int32)), (.ref b1)])) rfl rfl (hb hby at_63) _ kg) ?_
      show G (T32.setTop (mkF m 64 #[.val (.int x0), .val (.int x1), .val (.ref b1), .val (.int (6 : Int32)), .unset, .unset, .unset] [(.ref u_ERROR)]))
      refine go (fun tg kg => XS.astore X32.here hx rfl (hb hby at_64) rfl rfl (l' := #[.val (.int x0), .val (.int x1), .val (.ref b1), .val (.int (6 : Int32)), .val (.ref u_ERROR), .unset, .unset]) rfl kg) ?_
      show G (T32.setTop (mkF m 66 #[.val (.int x0), .val (.int x1), .val (.ref b1), .val (.int (6 : Int32)), .val (.ref u_ERROR), .unset, .unset] []))
      refine go (fun tg kg => XS.aload X32.here hx rfl (hb hby at_66) rfl rfl kg) ?_
      show G (T32.setTop (mkF m 68 #[.val (.int x0), .val (.int x1), .val (.ref b1), .val (.int (6 : Int32)), .val (.ref u_ERROR), .unset, .unset] [(.ref u_ERROR)]))
      refine go (fun tg kg => XS.iloadN X32.here hx rfl (hb hby at_68) rfl kg) ?_
      show G (T32.setTop (mkF m 69 #[.val (.int x0), .val (.int x1), .val (.ref b1), .val (.int (6 : Int32)), .val (.ref u_ERROR), .unset, .unset] [(.int x1), (.ref u_ERROR)]))
      have Fa108 := (((Fa22.wr W24).wr W28).wr W32)
      have Fa109 := ((Fa26.wr W28).wr W32)
      have Fa110 := (((((((Fa6.wr W8).wr W12).wr W16).wr W20).wr W24).wr W28).wr W32)
      obtain ⟨_, _, ⟨T107, L107, k107, n107⟩, -, X107, ⟨Lc107, hQ107, l107, y107, z107⟩, st107⟩ := Jvm.LawKit.callS X32 hx (y := (⟨"com/example/scatterd/scatterd/model/JobState", "onceAttemptEnded", "(Lcom/example/scatterd/scatterd/model/JobState;I)Lcom/example/scatterd/scatterd/model/JobState;"⟩ : MethodName)) hown (mvT hZ (hw _ (List.mem_of_getElem? (i := 20) rfl))) (mvT hZ (hw _ (List.mem_of_getElem? (i := 21) rfl))) (mvT hZ (hw _ (List.mem_of_getElem? (i := 3) rfl))) (mvT hZ (hw _ (List.mem_of_getElem? (i := 22) rfl))) (by decide) (backOf (W := 0) (rm1 l Z a0 hw [] u_ERROR x1 u_FAILED u_ERROR u_READY h32 n0 Z32 Fa108 Fa109 Fa110) hZ (hw _ (List.mem_of_getElem? (i := 22) rfl)) (hw _ (List.mem_of_getElem? (i := 3) rfl)) (by decide) (by decide)) (g := (mkF m 69 #[.val (.int x0), .val (.int x1), .val (.ref b1), .val (.int (6 : Int32)), .val (.ref u_ERROR), .unset, .unset] [(.int x1), (.ref u_ERROR)])) rfl (by rw [hml]; rfl) (argsL := [(.ref u_ERROR), (.int x1)]) (rest := []) (lenOf pd__Lcom_example_scatterd_scatterd_model_JobState_I_Lcom_example_scatterd_scatterd_model_JobState_ rfl) rfl (by show 2 * 0 + _ ≤ _; exact Nat.le_of_eq rfl) (hb hby at_69) (fun _ _ => ⟨rfl, e32, (by decide : 1 + 0 ≤ _), (by decide : 8 + 0 ≤ _)⟩)
      dsimp only [Pt.U, Pt.locs, Pt.cells, Pt.slots] at X107 l107 y107 z107 st107 hQ107
      subst l107 y107 z107
      obtain ⟨rfl, Nq107, e107⟩ := hQ107
      rw [own_o2 hr] at st107
      have N107 := Fr.app N32 Nq107
      refine go st107 ?_
      show G (T107.setTop (mkF m 72 #[.val (.int x0), .val (.int x1), .val (.ref b1), .val (.int (6 : Int32)), .val (.ref u_ERROR), .unset, .unset] [(.ref u_ERROR)]))
      refine go (fun tg kg => XS.astore X107.here hx rfl (hb hby at_72) rfl rfl (l' := #[.val (.int x0), .val (.int x1), .val (.ref b1), .val (.int (6 : Int32)), .val (.ref u_ERROR), .val (.ref u_ERROR), .unset]) rfl kg) ?_
      show G (T107.setTop (mkF m 74 #[.val (.int x0), .val (.int x1), .val (.ref b1), .val (.int (6 : Int32)), .val (.ref u_ERROR), .val (.ref u_ERROR), .unset] []))
      refine go (fun tg kg => XS.iloadN X107.here hx rfl (hb hby at_74) rfl kg) ?_
      show G (T107.setTop (mkF m 75 #[.val (.int x0), .val (.int x1), .val (.ref b1), .val (.int (6 : Int32)), .val (.ref u_ERROR), .val (.ref u_ERROR), .unset] [(.int x1)]))
      refine go (fun tg kg => XS.iconst X107.here hx rfl (hb hby at_75) kg) ?_
      show G (T107.setTop (mkF m 76 #[.val (.int x0), .val (.int x1), .val (.ref b1), .val (.int (6 : Int32)), .val (.ref u_ERROR), .val (.ref u_ERROR), .unset] [(.int (1 : Int32)), (.int x1)]))
      refine go (fun tg kg => XS.icmpYes X107.here hx rfl (pc0 := 76) (pc' := 113) rfl (hb hby at_76) rfl (tlt (own_r0 hr)).1 (by decide) (by decide) kg) ?_
      show G (T107.setTop (mkF m 113 #[.val (.int x0), .val (.int x1), .val (.ref b1), .val (.int (6 : Int32)), .val (.ref u_ERROR), .val (.ref u_ERROR), .unset] []))
      refine go (fun tg kg => XS.aload X107.here hx rfl (hb hby at_113) rfl rfl kg) ?_
      show G (T107.setTop (mkF m 115 #[.val (.int x0), .val (.int x1), .val (.ref b1), .val (.int (6 : Int32)), .val (.ref u_ERROR), .val (.ref u_ERROR), .unset] [(.ref u_ERROR)]))
      refine go (fun tg kg => XS.astore X107.here hx rfl (hb hby at_115) rfl rfl (l' := #[.val (.int x0), .val (.int x1), .val (.ref b1), .val (.int (6 : Int32)), .val (.ref u_ERROR), .val (.ref u_ERROR), .val (.ref u_ERROR)]) rfl kg) ?_
      show G (T107.setTop (mkF m 117 #[.val (.int x0), .val (.int x1), .val (.ref b1), .val (.int (6 : Int32)), .val (.ref u_ERROR), .val (.ref u_ERROR), .val (.ref u_ERROR)] []))
      refine go (fun tg kg => XS.aload X107.here hx rfl (hb hby at_117) rfl rfl kg) ?_
      show G (T107.setTop (mkF m 119 #[.val (.int x0), .val (.int x1), .val (.ref b1), .val (.int (6 : Int32)), .val (.ref u_ERROR), .val (.ref u_ERROR), .val (.ref u_ERROR)] [(.ref u_ERROR)]))
      refine go (fun tg kg => XS.aload X107.here hx rfl (hb hby at_119) rfl rfl kg) ?_
      show G (T107.setTop (mkF m 121 #[.val (.int x0), .val (.int x1), .val (.ref b1), .val (.int (6 : Int32)), .val (.ref u_ERROR), .val (.ref u_ERROR), .val (.ref u_ERROR)] [(.ref u_ERROR), (.ref u_ERROR)]))
      refine go (fun tg kg => Jvm.RoadKit.acmp (g := (mkF m 121 #[.val (.int x0), .val (.int x1), .val (.ref b1), .val (.int (6 : Int32)), .val (.ref u_ERROR), .val (.ref u_ERROR), .val (.ref u_ERROR)] [(.ref u_ERROR), (.ref u_ERROR)])) X107 hx rfl rfl rfl (pc0 := 121) (pc' := 124) (same := true) rfl (hb hby at_121) rfl (decide_eq_true rfl) (by decide) (by decide) kg) ?_
      show G (T107.setTop (mkF m 124 #[.val (.int x0), .val (.int x1), .val (.ref b1), .val (.int (6 : Int32)), .val (.ref u_ERROR), .val (.ref u_ERROR), .val (.ref u_ERROR)] []))
      refine go (fun tg kg => XS.iconst X107.here hx rfl (hb hby at_124) kg) ?_
      show G (T107.setTop (mkF m 125 #[.val (.int x0), .val (.int x1), .val (.ref b1), .val (.int (6 : Int32)), .val (.ref u_ERROR), .val (.ref u_ERROR), .val (.ref u_ERROR)] [(.int (1 : Int32))]))
      refine go (fun tg kg => XS.goto X107.here hx rfl (pc0 := 125) (pc' := 129) rfl (hb hby at_125) (by decide) (by decide) kg) ?_
      show G (T107.setTop (mkF m 129 #[.val (.int x0), .val (.int x1), .val (.ref b1), .val (.int (6 : Int32)), .val (.ref u_ERROR), .val (.ref u_ERROR), .val (.ref u_ERROR)] [(.int (1 : Int32))]))
      refine fin (some (.int (1 : Int32))) X107 (fun h => absurd h (by decide)) (fun fs hr => retN X107 hx (t := .boolean) hret (by simp) (hb hby at_129) hr) (by decide) (by decide) ?_
      rw [e107]
      exact ⟨rfl, N107⟩
    · skip
      refine go (fun tg kg => XS.aloadN X32.here hx rfl (hb hby at_61) rfl rfl kg) ?_
      show G (T32.setTop (mkF m 62 #[.val (.int x0), .val (.int x1), .val (.ref b1), .val (.int (7 : Int32)), .unset, .unset, .unset] [(.ref b1)]))
      refine go (fun tg kg => XS.iloadN X32.here hx rfl (hb hby at_62) rfl kg) ?_
      show G (T32.setTop (mkF m 63 #[.val (.int x0), .val (.int x1), .val (.ref b1), .val (.int (7 : Int32)), .unset, .unset, .unset] [(.int (7 : Int32)), (.ref b1)]))
      obtain ⟨cl111, Ar111, q111, S111, M111, H111, U111⟩ := id V32
      have hin111 : ¬ ((7 : Int32) < 0 ∨ cl111.slots.size ≤ ((7 : Int32)).toNatClampNeg) := inb_of S111 ⟨by decide, by decide⟩
      refine go (fun tg kg => X32.aaload hx (j := (7 : Int32)) (v := (.ref u_CANCELLED)) (by rw [e32]; exact Ar111.1) (State.isArrayOf_alike hZ.alike Ar111.2.1) rfl Ar111.2.2 hin111 (H111.at hin111 rfl) (g := (mkF m 63 #[.val (.int x0), .val (.int x1), .val (.ref b1), .val (.int (7 : Int32)), .unset, .unset, .unset] [(.int (7 : Int32)), (.ref b1)])) rfl rfl (hb hby at_63) _ kg) ?_
      show G (T32.setTop (mkF m 64 #[.val (.int x0), .val (.int x1), .val (.ref b1), .val (.int (7 : Int32)), .unset, .unset, .unset] [(.ref u_CANCELLED)]))
      refine go (fun tg kg => XS.astore X32.here hx rfl (hb hby at_64) rfl rfl (l' := #[.val (.int x0), .val (.int x1), .val (.ref b1), .val (.int (7 : Int32)), .val (.ref u_CANCELLED), .unset, .unset]) rfl kg) ?_
      show G (T32.setTop (mkF m 66 #[.val (.int x0), .val (.int x1), .val (.ref b1), .val (.int (7 : Int32)), .val (.ref u_CANCELLED), .unset, .unset] []))
      refine go (fun tg kg => XS.aload X32.here hx rfl (hb hby at_66) rfl rfl kg) ?_
      show G (T32.setTop (mkF m 68 #[.val (.int x0), .val (.int x1), .val (.ref b1), .val (.int (7 : Int32)), .val (.ref u_CANCELLED), .unset, .unset] [(.ref u_CANCELLED)]))
      refine go (fun tg kg => XS.iloadN X32.here hx rfl (hb hby at_68) rfl kg) ?_
      show G (T32.setTop (mkF m 69 #[.val (.int x0), .val (.int x1), .val (.ref b1), .val (.int (7 : Int32)), .val (.ref u_CANCELLED), .unset, .unset] [(.int x1), (.ref u_CANCELLED)]))
      have Fa113 := (((Fa22.wr W24).wr W28).wr W32)
      have Fa114 := ((Fa26.wr W28).wr W32)
      have Fa115 := (((((((Fa6.wr W8).wr W12).wr W16).wr W20).wr W24).wr W28).wr W32)
      obtain ⟨_, _, ⟨T112, L112, k112, n112⟩, -, X112, ⟨Lc112, hQ112, l112, y112, z112⟩, st112⟩ := Jvm.LawKit.callS X32 hx (y := (⟨"com/example/scatterd/scatterd/model/JobState", "onceAttemptEnded", "(Lcom/example/scatterd/scatterd/model/JobState;I)Lcom/example/scatterd/scatterd/model/JobState;"⟩ : MethodName)) hown (mvT hZ (hw _ (List.mem_of_getElem? (i := 20) rfl))) (mvT hZ (hw _ (List.mem_of_getElem? (i := 21) rfl))) (mvT hZ (hw _ (List.mem_of_getElem? (i := 3) rfl))) (mvT hZ (hw _ (List.mem_of_getElem? (i := 22) rfl))) (by decide) (backOf (W := 0) (rm1 l Z a0 hw [] u_CANCELLED x1 u_FAILED u_ERROR u_READY h32 n0 Z32 Fa113 Fa114 Fa115) hZ (hw _ (List.mem_of_getElem? (i := 22) rfl)) (hw _ (List.mem_of_getElem? (i := 3) rfl)) (by decide) (by decide)) (g := (mkF m 69 #[.val (.int x0), .val (.int x1), .val (.ref b1), .val (.int (7 : Int32)), .val (.ref u_CANCELLED), .unset, .unset] [(.int x1), (.ref u_CANCELLED)])) rfl (by rw [hml]; rfl) (argsL := [(.ref u_CANCELLED), (.int x1)]) (rest := []) (lenOf pd__Lcom_example_scatterd_scatterd_model_JobState_I_Lcom_example_scatterd_scatterd_model_JobState_ rfl) rfl (by show 2 * 0 + _ ≤ _; exact Nat.le_of_eq rfl) (hb hby at_69) (fun _ _ => ⟨rfl, e32, (by decide : 1 + 0 ≤ _), (by decide : 8 + 0 ≤ _)⟩)
      dsimp only [Pt.U, Pt.locs, Pt.cells, Pt.slots] at X112 l112 y112 z112 st112 hQ112
      subst l112 y112 z112
      obtain ⟨rfl, Nq112, e112⟩ := hQ112
      rw [own_o3 hn_CANCELLED_FAILED hn_CANCELLED_ERROR] at st112
      have N112 := Fr.app N32 Nq112
      refine go st112 ?_
      show G (T112.setTop (mkF m 72 #[.val (.int x0), .val (.int x1), .val (.ref b1), .val (.int (7 : Int32)), .val (.ref u_CANCELLED), .unset, .unset] [(.ref u_CANCELLED)]))
      refine go (fun tg kg => XS.astore X112.here hx rfl (hb hby at_72) rfl rfl (l' := #[.val (.int x0), .val (.int x1), .val (.ref b1), .val (.int (7 : Int32)), .val (.ref u_CANCELLED), .val (.ref u_CANCELLED), .unset]) rfl kg) ?_
      show G (T112.setTop (mkF m 74 #[.val (.int x0), .val (.int x1), .val (.ref b1), .val (.int (7 : Int32)), .val (.ref u_CANCELLED), .val (.ref u_CANCELLED), .unset] []))
      refine go (fun tg kg => XS.iloadN X112.here hx rfl (hb hby at_74) rfl kg) ?_
      show G (T112.setTop (mkF m 75 #[.val (.int x0), .val (.int x1), .val (.ref b1), .val (.int (7 : Int32)), .val (.ref u_CANCELLED), .val (.ref u_CANCELLED), .unset] [(.int x1)]))
      refine go (fun tg kg => XS.iconst X112.here hx rfl (hb hby at_75) kg) ?_
      show G (T112.setTop (mkF m 76 #[.val (.int x0), .val (.int x1), .val (.ref b1), .val (.int (7 : Int32)), .val (.ref u_CANCELLED), .val (.ref u_CANCELLED), .unset] [(.int (1 : Int32)), (.int x1)]))
      refine go (fun tg kg => XS.icmpYes X112.here hx rfl (pc0 := 76) (pc' := 113) rfl (hb hby at_76) rfl (tlt (own_r0 hr)).1 (by decide) (by decide) kg) ?_
      show G (T112.setTop (mkF m 113 #[.val (.int x0), .val (.int x1), .val (.ref b1), .val (.int (7 : Int32)), .val (.ref u_CANCELLED), .val (.ref u_CANCELLED), .unset] []))
      refine go (fun tg kg => XS.aload X112.here hx rfl (hb hby at_113) rfl rfl kg) ?_
      show G (T112.setTop (mkF m 115 #[.val (.int x0), .val (.int x1), .val (.ref b1), .val (.int (7 : Int32)), .val (.ref u_CANCELLED), .val (.ref u_CANCELLED), .unset] [(.ref u_CANCELLED)]))
      refine go (fun tg kg => XS.astore X112.here hx rfl (hb hby at_115) rfl rfl (l' := #[.val (.int x0), .val (.int x1), .val (.ref b1), .val (.int (7 : Int32)), .val (.ref u_CANCELLED), .val (.ref u_CANCELLED), .val (.ref u_CANCELLED)]) rfl kg) ?_
      show G (T112.setTop (mkF m 117 #[.val (.int x0), .val (.int x1), .val (.ref b1), .val (.int (7 : Int32)), .val (.ref u_CANCELLED), .val (.ref u_CANCELLED), .val (.ref u_CANCELLED)] []))
      refine go (fun tg kg => XS.aload X112.here hx rfl (hb hby at_117) rfl rfl kg) ?_
      show G (T112.setTop (mkF m 119 #[.val (.int x0), .val (.int x1), .val (.ref b1), .val (.int (7 : Int32)), .val (.ref u_CANCELLED), .val (.ref u_CANCELLED), .val (.ref u_CANCELLED)] [(.ref u_CANCELLED)]))
      refine go (fun tg kg => XS.aload X112.here hx rfl (hb hby at_119) rfl rfl kg) ?_
      show G (T112.setTop (mkF m 121 #[.val (.int x0), .val (.int x1), .val (.ref b1), .val (.int (7 : Int32)), .val (.ref u_CANCELLED), .val (.ref u_CANCELLED), .val (.ref u_CANCELLED)] [(.ref u_CANCELLED), (.ref u_CANCELLED)]))
      refine go (fun tg kg => Jvm.RoadKit.acmp (g := (mkF m 121 #[.val (.int x0), .val (.int x1), .val (.ref b1), .val (.int (7 : Int32)), .val (.ref u_CANCELLED), .val (.ref u_CANCELLED), .val (.ref u_CANCELLED)] [(.ref u_CANCELLED), (.ref u_CANCELLED)])) X112 hx rfl rfl rfl (pc0 := 121) (pc' := 124) (same := true) rfl (hb hby at_121) rfl (decide_eq_true rfl) (by decide) (by decide) kg) ?_
      show G (T112.setTop (mkF m 124 #[.val (.int x0), .val (.int x1), .val (.ref b1), .val (.int (7 : Int32)), .val (.ref u_CANCELLED), .val (.ref u_CANCELLED), .val (.ref u_CANCELLED)] []))
      refine go (fun tg kg => XS.iconst X112.here hx rfl (hb hby at_124) kg) ?_
      show G (T112.setTop (mkF m 125 #[.val (.int x0), .val (.int x1), .val (.ref b1), .val (.int (7 : Int32)), .val (.ref u_CANCELLED), .val (.ref u_CANCELLED), .val (.ref u_CANCELLED)] [(.int (1 : Int32))]))
      refine go (fun tg kg => XS.goto X112.here hx rfl (pc0 := 125) (pc' := 129) rfl (hb hby at_125) (by decide) (by decide) kg) ?_
      show G (T112.setTop (mkF m 129 #[.val (.int x0), .val (.int x1), .val (.ref b1), .val (.int (7 : Int32)), .val (.ref u_CANCELLED), .val (.ref u_CANCELLED), .val (.ref u_CANCELLED)] [(.int (1 : Int32))]))
      refine fin (some (.int (1 : Int32))) X112 (fun h => absurd h (by decide)) (fun fs hr => retN X112 hx (t := .boolean) hret (by simp) (hb hby at_129) hr) (by decide) (by decide) ?_
      rw [e112]
      exact ⟨rfl, N112⟩
set_option maxRecDepth 65536 in
set_option maxHeartbeats 40000000 in
theorem comes_1 {Post : Tables → Env → Array Value → State → Outcome → State → Prop} (hpost : ∀ tb e args s v u, (limb_1_1.after args s (.returned v) u = true ∧ limb_1_2.after args s (.returned v) u = true ∧ True) → FrameEnd s (.returned v) u (Jvm.fieldLocs frame_1_writes args s ++ Jvm.arrayLocs frame_1_arrays args s ++ Jvm.staticLocs frame_1_statics s) 16 128 → Post tb e args s (.returned v) u) :
    ArmFor flags0 classFile x code maxLocals ret World_1 tables_1 room_1 Calls_1 rest_1 Pre_1 Post := by
  intro l hfl _ _ p e ha hc hk s m args below hf hA hF happ hP
  obtain ⟨hcalls, hrest, hpre⟩ := hP
  obtain ⟨-, -, -, hnamed, -, -, -, hat⟩ := (Spec.applies_iff hf).mp happ
  obtain ⟨hg, hn⟩ := and_e (Cond.before_iff.mp (show (Jvm.Cond.and given_1 narrow_1).before args s = true from hpre))
  obtain ⟨gc, gr0⟩ := and_e hg
  obtain ⟨ga0, gr1⟩ := and_e gr0
  have ga1 := gr1
  obtain ⟨w0, w1, rfl⟩ : ∃ w0 w1 : Value, args = #[w0, w1] := by
    have hs : args.size = 2 := by simpa [Cond.value, given_1] using gc
    obtain ⟨L⟩ := args
    match L, hs with
    | [w0, w1], _ => exact ⟨w0, w1, rfl⟩
  have hw := fun d (hd : d ∈ tables_1) => atoms_spec (ws := Jvm.Cond.code x code maxLocals ret :: tables_1) hat d (List.mem_cons_of_mem _ hd)
  have hfit : Fit s := fun {y c} hc i hi => by
    obtain ⟨ha, rfl⟩ := Array.getElem?_eq_some_iff.mp hc
    have q := List.all_eq_true.mp ((Array.all_eq_true_iff_forall_mem.mp hF) _ (Array.getElem_mem ha)) i (List.mem_range.mpr hi)
    simpa [Array.getElem?_eq_getElem hi] using q
  obtain ⟨i0, ei0⟩ := is_v ga0
  obtain rfl : w0 = (.int i0) := Option.some.inj ei0
  obtain ⟨i1, ei1⟩ := is_v ga1
  obtain rfl : w1 = (.int i1) := Option.some.inj ei1
  obtain ⟨nl1, nr1⟩ := and_e hn
  obtain ⟨nl2, nr2⟩ := and_e nr1
  obtain ⟨nl3, nr3⟩ := and_e nr2
  obtain ⟨nl4, nr4⟩ := and_e nr3
  obtain ⟨nl5, nr5⟩ := and_e nr4
  obtain ⟨nl6, nr6⟩ := and_e nr5
  obtain ⟨nl7, nr7⟩ := and_e nr6
  obtain ⟨nl8, nr8⟩ := and_e nr7
  obtain ⟨nl9, nr9⟩ := and_e nr8
  obtain ⟨nl10, nr10⟩ := and_e nr9
  obtain ⟨nl11, nr11⟩ := and_e nr10
  obtain ⟨nl12, nr12⟩ := and_e nr11
  obtain ⟨nl13, nr13⟩ := and_e nr12
  obtain ⟨nl14, nr14⟩ := and_e nr13
  obtain ⟨nl15, nr15⟩ := and_e nr14
  obtain ⟨u_PENDING, ev_u_PENDING⟩ := exa_v nl1
  have S_u_PENDING := Sta.start ev_u_PENDING (Or.inr ⟨(hw _ (List.mem_of_getElem? (i := 3) rfl)), (hw _ (List.mem_of_getElem? (i := 4) rfl))⟩)
  have E_u_PENDING := Exa.start ev_u_PENDING nl1
  obtain ⟨u_READY, ev_u_READY⟩ := exa_v nl2
  have S_u_READY := Sta.start ev_u_READY (Or.inr ⟨(hw _ (List.mem_of_getElem? (i := 3) rfl)), (hw _ (List.mem_of_getElem? (i := 7) rfl))⟩)
  have E_u_READY := Exa.start ev_u_READY nl2
  obtain ⟨u_CREATING, ev_u_CREATING⟩ := exa_v nl3
  have S_u_CREATING := Sta.start ev_u_CREATING (Or.inr ⟨(hw _ (List.mem_of_getElem? (i := 3) rfl)), (hw _ (List.mem_of_getElem? (i := 9) rfl))⟩)
  have E_u_CREATING := Exa.start ev_u_CREATING nl3
  obtain ⟨u_RUNNING, ev_u_RUNNING⟩ := exa_v nl4
  have S_u_RUNNING := Sta.start ev_u_RUNNING (Or.inr ⟨(hw _ (List.mem_of_getElem? (i := 3) rfl)), (hw _ (List.mem_of_getElem? (i := 11) rfl))⟩)
  have E_u_RUNNING := Exa.start ev_u_RUNNING nl4
  obtain ⟨u_SUCCESS, ev_u_SUCCESS⟩ := exa_v nl5
  have S_u_SUCCESS := Sta.start ev_u_SUCCESS (Or.inr ⟨(hw _ (List.mem_of_getElem? (i := 3) rfl)), (hw _ (List.mem_of_getElem? (i := 13) rfl))⟩)
  have E_u_SUCCESS := Exa.start ev_u_SUCCESS nl5
  obtain ⟨u_FAILED, ev_u_FAILED⟩ := exa_v nl6
  have S_u_FAILED := Sta.start ev_u_FAILED (Or.inr ⟨(hw _ (List.mem_of_getElem? (i := 3) rfl)), (hw _ (List.mem_of_getElem? (i := 15) rfl))⟩)
  have E_u_FAILED := Exa.start ev_u_FAILED nl6
  obtain ⟨u_ERROR, ev_u_ERROR⟩ := exa_v nl7
  have S_u_ERROR := Sta.start ev_u_ERROR (Or.inr ⟨(hw _ (List.mem_of_getElem? (i := 3) rfl)), (hw _ (List.mem_of_getElem? (i := 17) rfl))⟩)
  have E_u_ERROR := Exa.start ev_u_ERROR nl7
  obtain ⟨u_CANCELLED, ev_u_CANCELLED⟩ := exa_v nl8
  have S_u_CANCELLED := Sta.start ev_u_CANCELLED (Or.inr ⟨(hw _ (List.mem_of_getElem? (i := 3) rfl)), (hw _ (List.mem_of_getElem? (i := 19) rfl))⟩)
  have E_u_CANCELLED := Exa.start ev_u_CANCELLED nl8
  have F_u_PENDING_ordinal := Fld.start ((fld_at ev_u_PENDING).symm.trans (own_eq_int nl9))
  have F_u_FAILED_ordinal := Fld.start ((fld_at ev_u_FAILED).symm.trans (own_eq_int nl10))
  have F_u_ERROR_ordinal := Fld.start ((fld_at ev_u_ERROR).symm.trans (own_eq_int nl11))
  have F_u_SUCCESS_ordinal := Fld.start ((fld_at ev_u_SUCCESS).symm.trans (own_eq_int nl12))
  have F_u_CANCELLED_ordinal := Fld.start ((fld_at ev_u_CANCELLED).symm.trans (own_eq_int nl13))
  have F_u_RUNNING_ordinal := Fld.start ((fld_at ev_u_RUNNING).symm.trans (own_eq_int nl14))
  have F_u_READY_ordinal := Fld.start ((fld_at ev_u_READY).symm.trans (own_eq_int nl15))
  have F_u_CREATING_ordinal := Fld.start ((fld_at ev_u_CREATING).symm.trans (own_eq_int nr15))
  obtain ⟨n, o, h1, h2, h3, _, L, rfl, ⟨rfl, N⟩, hq⟩ := rm0 l s _ hw tables_1 i0 i1 u_PENDING u_READY u_CREATING u_RUNNING u_SUCCESS u_FAILED u_ERROR u_CANCELLED s.heap s.heap.size (Nat.le_refl _) S_u_PENDING S_u_READY S_u_CREATING S_u_RUNNING S_u_SUCCESS S_u_FAILED S_u_ERROR S_u_CANCELLED E_u_PENDING E_u_READY E_u_CREATING E_u_RUNNING E_u_SUCCESS E_u_FAILED E_u_ERROR E_u_CANCELLED (F_u_PENDING_ordinal.ne F_u_FAILED_ordinal (by decide)) (F_u_PENDING_ordinal.ne F_u_ERROR_ordinal (by decide)) (F_u_READY_ordinal.ne F_u_FAILED_ordinal (by decide)) (F_u_READY_ordinal.ne F_u_ERROR_ordinal (by decide)) (F_u_CREATING_ordinal.ne F_u_FAILED_ordinal (by decide)) (F_u_CREATING_ordinal.ne F_u_ERROR_ordinal (by decide)) (F_u_RUNNING_ordinal.ne F_u_FAILED_ordinal (by decide)) (F_u_RUNNING_ordinal.ne F_u_ERROR_ordinal (by decide)) (F_u_SUCCESS_ordinal.ne F_u_FAILED_ordinal (by decide)) (F_u_SUCCESS_ordinal.ne F_u_ERROR_ordinal (by decide)) (F_u_CANCELLED_ordinal.ne F_u_FAILED_ordinal (by decide)) (F_u_CANCELLED_ordinal.ne F_u_ERROR_ordinal (by decide)) p e ha hc hk s m _ below hf ((Spec.applies_iff_loose hf).mp happ).1 ⟨rfl, State.Warmed39.refl s, rfl⟩ trivial
  refine ⟨n, _, h1, h2, h3, hpost _ _ _ _ _ _ ⟨Cond.after_iff.mpr rfl, Cond.after_iff.mpr (eq_i res_at (Term.int_eval (1)) rfl), trivial⟩ ⟨hq.1, hq.2.1, (hq.2.2.sift fun y hy => Or.inr (N y hy)).mono (by decide) (by decide)⟩⟩
theorem main_1_1 : Claimed_1_1 := comes_1 fun _ _ _ _ _ _ h hF => ⟨h.1, hF⟩
theorem main_1_2 : Claimed_1_2 := comes_1 fun _ _ _ _ _ _ h hF => ⟨h.2.1, hF⟩
end Jvm.Pilot.@@N@@
namespace Jvm.Pilot.@@N@@
open Jvm Jvm.ClassFile Sem Op Lib Jvm.Free Jvm.Stand Jvm.Pilot.@@N@@.Jvm.D
/-! MADE BY PROGRAM (witnessworld.py) out of the Statement's table words and the real class files: 13 classes; the members and pool entries that the words name. The judged class is class 1, her method 1. -/
namespace start1
open Jvm.ClassFile
def u (s : String) : CpInfo := .utf8 (stringToUtf16 s)
/-- a pool by its gaps: so many unusable entries, then the entry; so many at the end -/
def gap : Nat → List CpInfo → List CpInfo
  | 0, r => r
  | n + 1, r => .unusable :: gap n r
def poolList (es : List (Nat × CpInfo)) (last : Nat) : List CpInfo := es.foldr (fun e r => gap e.1 (e.2 :: r)) (gap last [])
def pool (es : List (Nat × CpInfo)) (last : Nat) : Array CpInfo := ⟨poolList es last⟩
def fileOf (pool : Array CpInfo) (this : Nat) (attrs : Array Attribute := #[]) (ms : Array MethodInfo := #[]) (fl : Nat := 33) (sup : Nat := 0) (ifs : Array Nat := #[]) (fds : Array FieldInfo := #[]) : ClassFile where
  minorVersion := 0
  majorVersion := 65
  constantPool := pool
  accessFlags := fl
  thisClass := this
  superClass := sup
  interfaces := ifs
  fields := fds
  methods := ms
  attributes := attrs
def plain (name : String) (sup : Option ClassId) : Class where
  name := name
  kind := .ordinary
  loader := none
  accessFlags := 33
  super := sup
  interfaces := #[]
  cf := none
  fields := #[]
  methods := #[]
  instanceTypes := #[]
  staticTypes := #[]
  resolved := #[]
  callSites := []
  init := .initialized
  statics := none
  mirror := none

def pool0 : Array CpInfo := pool [(5, u "<init>"), (0, u "()V"), (1, .class_ 10), (1, u "java/lang/Object")] 113

def k0m0 : Method := { name := "<init>", desc := "()V", sig := { parameters := [], returnType := none }, accessFlags := 1, code := none }
/-- java/lang/Object -/
def k0 : Class := { plain "java/lang/Object" none with
  accessFlags := 33
  interfaces := #[]
  cf := some (fileOf pool0 8 #[] #[{ accessFlags := 1, nameIndex := 5, descriptorIndex := 6, attributes := #[] }] 33 0 #[] #[])
  fields := #[]
  methods := #[k0m0]
  instanceTypes := #[]
  staticTypes := #[]
  resolved := Array.replicate 124 none
  statics := none }

def pool1 : Array CpInfo := pool [(2, .class_ 4), (1, u "java/lang/Object"), (0, u "<init>"), (0, u "()V"), (0, .class_ 8), (0, u "com/example/scatterd/scatterd/model/JobState"), (0, .fieldref 7 10), (0, .nameAndType 11 12), (0, u "PENDING"), (0, u "Lcom/example/scatterd/scatterd/model/JobState;"), (0, .fieldref 7 14), (0, .nameAndType 15 12), (0, u "READY"), (0, .fieldref 7 17), (0, .nameAndType 18 12), (0, u "CREATING"), (0, .fieldref 7 20), (0, .nameAndType 21 12), (0, u "RUNNING"), (0, .fieldref 7 23), (0, .nameAndType 24 12), (0, u "SUCCESS"), (0, .fieldref 7 26), (0, .nameAndType 27 12), (0, u "FAILED"), (0, .fieldref 7 29), (0, .nameAndType 30 12), (0, u "ERROR"), (0, .fieldref 7 32), (0, .nameAndType 33 12), (0, u "CANCELLED"), (0, .methodref 7 35), (0, .nameAndType 36 37), (0, u "onceAttemptEnded"), (0, u "(Lcom/example/scatterd/scatterd/model/JobState;I)Lcom/example/scatterd/scatterd/model/JobState;"), (0, .class_ 39), (0, u "com/example/scatterd/scatterd/model/JobStateOnceAttemptEndedPinLaw"), (2, u "law"), (0, u "(II)Z")] 5

def k1m0 : Method := { name := "<init>", desc := "()V", sig := { parameters := [], returnType := none }, accessFlags := 1, code := none }
def k1c1 : Code := { maxStack := 4, maxLocals := 7, code := code, exceptionTable := #[], attributes := #[] }
def k1m1 : Method := { name := "law", desc := "(II)Z", sig := { parameters := [.int, .int], returnType := some .boolean }, accessFlags := 9, code := some k1c1 }
/-- com/example/scatterd/scatterd/model/JobStateOnceAttemptEndedPinLaw -/
def k1 : Class := { plain "com/example/scatterd/scatterd/model/JobStateOnceAttemptEndedPinLaw" (some 0) with
  accessFlags := 49
  interfaces := #[]
  cf := some (fileOf pool1 38 #[] #[{ accessFlags := 1, nameIndex := 5, descriptorIndex := 6, attributes := #[] }, { accessFlags := 9, nameIndex := 42, descriptorIndex := 43, attributes := #[] }] 49 2 #[] #[])
  fields := #[]
  methods := #[k1m0, k1m1]
  instanceTypes := #[]
  staticTypes := #[]
  resolved := Array.replicate 49 none
  statics := none }

def pool2 : Array CpInfo := pool [(1, .class_ 2), (0, u "java/lang/constant/Constable"), (0, .class_ 4), (0, u "java/lang/Object")] 6

/-- java/lang/constant/Constable -/
def k2 : Class := { plain "java/lang/constant/Constable" (some 0) with
  accessFlags := 1537
  interfaces := #[]
  cf := some (fileOf pool2 1 #[] #[] 1537 3 #[] #[])
  fields := #[]
  methods := #[]
  instanceTypes := #[]
  staticTypes := #[]
  resolved := Array.replicate 11 none
  statics := none }

def pool3 : Array CpInfo := pool [(1, .class_ 2), (0, u "java/lang/Comparable"), (0, .class_ 4), (0, u "java/lang/Object")] 7

/-- java/lang/Comparable -/
def k3 : Class := { plain "java/lang/Comparable" (some 0) with
  accessFlags := 1537
  interfaces := #[]
  cf := some (fileOf pool3 1 #[] #[] 1537 3 #[] #[])
  fields := #[]
  methods := #[]
  instanceTypes := #[]
  staticTypes := #[]
  resolved := Array.replicate 12 none
  statics := none }

def pool4 : Array CpInfo := pool [(1, .class_ 2), (0, u "java/io/Serializable"), (0, .class_ 4), (0, u "java/lang/Object")] 2

/-- java/io/Serializable -/
def k4 : Class := { plain "java/io/Serializable" (some 0) with
  accessFlags := 1537
  interfaces := #[]
  cf := some (fileOf pool4 1 #[] #[] 1537 3 #[] #[])
  fields := #[]
  methods := #[]
  instanceTypes := #[]
  staticTypes := #[]
  resolved := Array.replicate 7 none
  statics := none }

def pool5 : Array CpInfo := pool [(2, .class_ 4), (1, u "java/lang/Enum"), (0, u "name"), (0, u "Ljava/lang/String;"), (2, u "ordinal"), (0, u "I"), (1, .class_ 14), (1, u "java/lang/Object"), (4, u "hash"), (86, .class_ 108), (1, u "java/lang/Enum$EnumDesc"), (2, .class_ 112), (0, u "java/lang/constant/Constable"), (0, .class_ 114), (0, u "java/lang/Comparable"), (0, .class_ 116), (0, u "java/io/Serializable")] 87

/-- java/lang/Enum -/
def k5 : Class := { plain "java/lang/Enum" (some 0) with
  accessFlags := 1057
  interfaces := #[2, 3, 4]
  cf := some (fileOf pool5 2 #[.nestMembers #[106]] #[] 1057 12 #[111, 113, 115] #[{ accessFlags := 18, nameIndex := 5, descriptorIndex := 6, attributes := #[] }, { accessFlags := 18, nameIndex := 9, descriptorIndex := 10, attributes := #[] }, { accessFlags := 2, nameIndex := 19, descriptorIndex := 10, attributes := #[] }])
  fields := #[{ name := "name", type := (.object "java/lang/String"), accessFlags := 18, slot := 0, constantValue := 0 }, { name := "ordinal", type := .int, accessFlags := 18, slot := 1, constantValue := 0 }, { name := "hash", type := .int, accessFlags := 2, slot := 2, constantValue := 0 }]
  methods := #[]
  instanceTypes := #[(.object "java/lang/String"), .int, .int]
  staticTypes := #[]
  resolved := Array.replicate 204 none
  statics := none }

def pool6 : Array CpInfo := pool [(1, .class_ 2), (0, u "com/example/scatterd/scatterd/model/JobState"), (2, u "PENDING"), (0, u "Lcom/example/scatterd/scatterd/model/JobState;"), (0, .fieldref 1 8), (0, .nameAndType 9 6), (0, u "READY"), (2, u "CREATING"), (2, u "RUNNING"), (2, u "SUCCESS"), (0, .fieldref 1 20), (0, .nameAndType 21 6), (0, u "FAILED"), (0, .fieldref 1 23), (0, .nameAndType 24 6), (0, u "ERROR"), (2, u "CANCELLED"), (2, u "$VALUES"), (0, u "[Lcom/example/scatterd/scatterd/model/JobState;"), (6, .class_ 40), (1, u "java/lang/Enum"), (8, u "label"), (0, u "Ljava/lang/String;"), (98, u "onceAttemptEnded"), (0, u "(Lcom/example/scatterd/scatterd/model/JobState;I)Lcom/example/scatterd/scatterd/model/JobState;")] 23

def k6c0 : Code := { maxStack := 2, maxLocals := 3, code := prog_32_method_9_code, exceptionTable := #[], attributes := #[] }
def k6m0 : Method := { name := "onceAttemptEnded", desc := "(Lcom/example/scatterd/scatterd/model/JobState;I)Lcom/example/scatterd/scatterd/model/JobState;", sig := { parameters := [(.object "com/example/scatterd/scatterd/model/JobState"), .int], returnType := some (.object "com/example/scatterd/scatterd/model/JobState") }, accessFlags := 9, code := some k6c0 }
/-- com/example/scatterd/scatterd/model/JobState -/
def k6 : Class := { plain "com/example/scatterd/scatterd/model/JobState" (some 5) with
  accessFlags := 16433
  interfaces := #[]
  cf := some (fileOf pool6 1 #[] #[{ accessFlags := 9, nameIndex := 149, descriptorIndex := 150, attributes := #[] }] 16433 38 #[] #[{ accessFlags := 16409, nameIndex := 5, descriptorIndex := 6, attributes := #[] }, { accessFlags := 16409, nameIndex := 9, descriptorIndex := 6, attributes := #[] }, { accessFlags := 16409, nameIndex := 12, descriptorIndex := 6, attributes := #[] }, { accessFlags := 16409, nameIndex := 15, descriptorIndex := 6, attributes := #[] }, { accessFlags := 16409, nameIndex := 18, descriptorIndex := 6, attributes := #[] }, { accessFlags := 16409, nameIndex := 21, descriptorIndex := 6, attributes := #[] }, { accessFlags := 16409, nameIndex := 24, descriptorIndex := 6, attributes := #[] }, { accessFlags := 16409, nameIndex := 27, descriptorIndex := 6, attributes := #[] }, { accessFlags := 18, nameIndex := 49, descriptorIndex := 50, attributes := #[] }, { accessFlags := 4122, nameIndex := 30, descriptorIndex := 31, attributes := #[] }])
  fields := #[{ name := "PENDING", type := (.object "com/example/scatterd/scatterd/model/JobState"), accessFlags := 16409, slot := 0, constantValue := 0 }, { name := "READY", type := (.object "com/example/scatterd/scatterd/model/JobState"), accessFlags := 16409, slot := 1, constantValue := 0 }, { name := "CREATING", type := (.object "com/example/scatterd/scatterd/model/JobState"), accessFlags := 16409, slot := 2, constantValue := 0 }, { name := "RUNNING", type := (.object "com/example/scatterd/scatterd/model/JobState"), accessFlags := 16409, slot := 3, constantValue := 0 }, { name := "SUCCESS", type := (.object "com/example/scatterd/scatterd/model/JobState"), accessFlags := 16409, slot := 4, constantValue := 0 }, { name := "FAILED", type := (.object "com/example/scatterd/scatterd/model/JobState"), accessFlags := 16409, slot := 5, constantValue := 0 }, { name := "ERROR", type := (.object "com/example/scatterd/scatterd/model/JobState"), accessFlags := 16409, slot := 6, constantValue := 0 }, { name := "CANCELLED", type := (.object "com/example/scatterd/scatterd/model/JobState"), accessFlags := 16409, slot := 7, constantValue := 0 }, { name := "label", type := (.object "java/lang/String"), accessFlags := 18, slot := 3, constantValue := 0 }, { name := "$VALUES", type := (.array (.object "com/example/scatterd/scatterd/model/JobState")), accessFlags := 4122, slot := 8, constantValue := 0 }]
  methods := #[k6m0]
  instanceTypes := #[(.object "java/lang/String"), .int, .int, (.object "java/lang/String")]
  staticTypes := #[(.object "com/example/scatterd/scatterd/model/JobState"), (.object "com/example/scatterd/scatterd/model/JobState"), (.object "com/example/scatterd/scatterd/model/JobState"), (.object "com/example/scatterd/scatterd/model/JobState"), (.object "com/example/scatterd/scatterd/model/JobState"), (.object "com/example/scatterd/scatterd/model/JobState"), (.object "com/example/scatterd/scatterd/model/JobState"), (.object "com/example/scatterd/scatterd/model/JobState"), (.array (.object "com/example/scatterd/scatterd/model/JobState"))]
  resolved := Array.replicate 174 none
  statics := some 0 }

def pool7 : Array CpInfo := pool [(1, u "java/lang/Cloneable"), (0, .class_ 1), (0, u "java/lang/Object"), (0, .class_ 3)] 3

/-- java/lang/Cloneable -/
def k7 : Class := { plain "java/lang/Cloneable" (some 0) with
  accessFlags := 1537
  interfaces := #[]
  cf := some (fileOf pool7 2 #[] #[] 1537 4 #[] #[])
  fields := #[]
  methods := #[]
  instanceTypes := #[]
  staticTypes := #[]
  resolved := Array.replicate 8 none
  statics := none }

/-- the primitive byte -/
def k8 : Class := { plain "byte" none with kind := .primitive 'B', accessFlags := 0x411 }
/-- [B -/
def k9 : Class := { plain "[B" (some 0) with kind := .array 8 .byte, interfaces := #[7, 4], accessFlags := 1041 }

/-- the primitive int -/
def k10 : Class := { plain "int" none with kind := .primitive 'I', accessFlags := 0x411 }
/-- [I -/
def k11 : Class := { plain "[I" (some 0) with kind := .array 10 .int, interfaces := #[7, 4], accessFlags := 1041 }

/-- [Lcom/example/scatterd/scatterd/model/JobState; -/
def k12 : Class := { plain "[Lcom/example/scatterd/scatterd/model/JobState;" (some 0) with kind := .array 6 (.object "com/example/scatterd/scatterd/model/JobState"), interfaces := #[7, 4], accessFlags := 1041 }

def heap : Heap := #[{ cls := 6, slots := #[.ref 1, .ref 2, .ref 3, .ref 4, .ref 5, .ref 6, .ref 7, .ref 8, .null], vm := .statics 6 },
  { cls := 6, slots := #[.null, .int 0, .int 0, .null], vm := .none },
  { cls := 6, slots := #[.null, .int 1, .int 0, .null], vm := .none },
  { cls := 6, slots := #[.null, .int 2, .int 0, .null], vm := .none },
  { cls := 6, slots := #[.null, .int 3, .int 0, .null], vm := .none },
  { cls := 6, slots := #[.null, .int 4, .int 0, .null], vm := .none },
  { cls := 6, slots := #[.null, .int 5, .int 0, .null], vm := .none },
  { cls := 6, slots := #[.null, .int 6, .int 0, .null], vm := .none },
  { cls := 6, slots := #[.null, .int 7, .int 0, .null], vm := .none }]
def classes : Array Class := #[k0, k1, k2, k3, k4, k5, k6, k7, k8, k9, k10, k11, k12]
def interned : List (Array UInt16 × Addr) := []
def slotsUsed : Nat := 41
def theMethod : MethodId := ⟨1, 1⟩
def args0 : Array Value := #[.int 3, .int 6]
def aboutOver (below : List Frame) : State where
  vm := { classes := classes, interned := interned.toArray }
  heap := heap
  slotsUsed := slotsUsed
  threads := #[{ frames := .invoking theMethod args0 :: below }]
def below0 : List Frame := [.native { method := ⟨0, 0⟩, args := #[] }]
def about1 : State := aboutOver below0
def p0 : Program := .bare "" "" ""
def e0 : Env := launch0.env 0 0 0
theorem w_frames : about1.frames = Frame.invoking theMethod args0 :: below0 := rfl
set_option maxRecDepth 65536 in
theorem w_args : argsFit about1.vm theMethod args0 = true := by decide +kernel
set_option maxRecDepth 65536 in
theorem w_heap : heapFits about1 = true := by decide +kernel
set_option maxRecDepth 65536 in
theorem w_runnable : about1.curStatus? = some .runnable := by decide +kernel
set_option maxRecDepth 65536 in
theorem w_alone : about1.alone = true := by decide +kernel
set_option maxRecDepth 65536 in
theorem w_named : about1.methodNamed? x = some theMethod := by decide +kernel
set_option maxRecDepth 65536 in
theorem w_hears : about1.hears theMethod below0 = true := by decide +kernel
set_option maxRecDepth 65536 in
theorem w_ripe : about1.ripe theMethod args0 below0 = true := by decide +kernel
theorem w_running : about1.status = .running := rfl
set_option maxRecDepth 65536 in
theorem w_room : about1.hasRoom e0.platform room_1 = true :=
  launch0.hasRoom_least _ room_1 (by decide +kernel) (by decide +kernel) (by decide +kernel) (by decide +kernel) (by decide +kernel) (by decide +kernel)
theorem allAtoms_all (ts : List Jvm.Cond) (a : Array Jvm.Value) (st : Jvm.State) : (allAtoms ts).before a st = ts.all (fun c => c.before a st) := by
  induction ts with
  | nil => rfl
  | cons c t ih =>
    show (Jvm.Cond.and c (allAtoms t)).before a st = _
    rw [Jvm.Cond.before_and, ih, List.all_cons]
def words1 : List Jvm.Cond := Jvm.Cond.code x code maxLocals ret :: tables_1
/-- a 'code' word, met by the world's own term for the bytes: nothing is compared byte by byte -/
theorem code_word {y : MethodName} {bytes : ByteArray} {mx : Nat} {rt : Option FieldType} {a : Array Value} {s : State} {m : MethodId} {meth : Method} {c : Code} (h1 : s.methodNamed? y = some m) (h2 : s.vm.method? m = some meth) (h3 : meth.code = some c) (h4 : c.code = bytes)
    (h5 : (c.maxLocals == mx && c.exceptionTable.isEmpty && decide (c.maxStack ≤ mostOperands) && decide (meth.sig.returnType = rt) && !meth.locks && decide (parseMethodDescriptor y.desc = some meth.sig)) = true) : (Jvm.Cond.code y bytes mx rt).before a s = true := by
  simp only [Bool.and_eq_true, beq_iff_eq, Bool.not_eq_true', decide_eq_true_eq] at h5
  obtain ⟨⟨⟨⟨⟨g1, g2⟩, g3⟩, g4⟩, g5⟩, g6⟩ := h5
  simp [Cond.before, Cond.holds, Cond.value, h1, h2, h3, h4, g1, g2, g3, g4, g5, g6]
def isCode : Jvm.Cond → Bool
  | .code _ _ _ _ => true
  | _ => false
theorem all_split {L : List Jvm.Cond} {P : Jvm.Cond → Bool} (h1 : L.all (fun c => isCode c || P c) = true) (h2 : ∀ c ∈ L.filter isCode, P c = true) : L.all P = true := by
  refine List.all_eq_true.mpr fun c hc => ?_
  have h := List.all_eq_true.mp h1 c hc
  rcases Bool.eq_false_or_eq_true (isCode c) with hi | hi
  · exact h2 c (List.mem_filter.mpr ⟨hc, hi⟩)
  · simpa [hi] using h
set_option maxRecDepth 65536 in
theorem w_c0 : (Jvm.Cond.code x code maxLocals ret).before args0 about1 = true := code_word (m := ⟨1, 1⟩) (meth := k1m1) (c := k1c1) (by decide +kernel) rfl rfl rfl (by decide +kernel)
set_option maxRecDepth 65536 in
theorem w_c1 : (Jvm.Cond.code ({ cls := "com/example/scatterd/scatterd/model/JobState", name := "onceAttemptEnded", desc := "(Lcom/example/scatterd/scatterd/model/JobState;I)Lcom/example/scatterd/scatterd/model/JobState;" } : Jvm.MethodName) prog_32_method_9_code (3 : Nat) (Option.some (Jvm.ClassFile.FieldType.object "com/example/scatterd/scatterd/model/JobState"))).before args0 about1 = true := code_word (m := ⟨6, 0⟩) (meth := k6m0) (c := k6c0) (by decide +kernel) rfl rfl rfl (by decide +kernel)
def codes1 : List Jvm.Cond := [Jvm.Cond.code x code maxLocals ret, Jvm.Cond.code ({ cls := "com/example/scatterd/scatterd/model/JobState", name := "onceAttemptEnded", desc := "(Lcom/example/scatterd/scatterd/model/JobState;I)Lcom/example/scatterd/scatterd/model/JobState;" } : Jvm.MethodName) prog_32_method_9_code (3 : Nat) (Option.some (Jvm.ClassFile.FieldType.object "com/example/scatterd/scatterd/model/JobState"))]
set_option maxRecDepth 65536 in
theorem codes_eq : words1.filter isCode = codes1 := rfl
theorem w_codes : ∀ c ∈ words1.filter isCode, c.before args0 about1 = true := by
  rw [codes_eq]
  intro c hc
  simp only [codes1, List.mem_cons, List.not_mem_nil, or_false] at hc
  rcases hc with rfl | rfl
  · exact w_c0
  · exact w_c1
set_option maxRecDepth 65536 in
theorem w_t1 : (words1.take 24).all (fun c => isCode c || c.before args0 about1) = true := by decide +kernel
set_option maxRecDepth 65536 in
theorem w_t2 : (words1.drop 24).all (fun c => isCode c || c.before args0 about1) = true := by decide +kernel
theorem w_tables : (allAtoms (Jvm.Cond.code x code maxLocals ret :: tables_1)).before args0 about1 = true := by
  rw [allAtoms_all]
  show words1.all (fun c => c.before args0 about1) = true
  refine all_split ?_ w_codes
  rw [← List.take_append_drop 24 words1, List.all_append, w_t1, w_t2]
  rfl
set_option maxRecDepth 65536 in
theorem w_case : (Jvm.Cond.and given_1 narrow_1).before args0 about1 = true := by decide +kernel
theorem w_applies : (headSpec (Jvm.Cond.code x code maxLocals ret :: tables_1) room_1).applies x e0.platform about1 = true :=
  (Spec.applies_iff w_frames).mpr ⟨w_running, w_runnable, w_alone, w_named, w_hears, w_ripe, w_room, w_tables⟩
theorem atStart : AtStart classFile x code maxLocals ret World_1 tables_1 room_1 Calls_1 rest_1 Pre_1 launch0 p0 e0 about1 theMethod args0 below0 :=
  ⟨lists_1, trivial, launch0.admits_env _ _ _, launch0.least_env, fairChoices_fair.cas, fairChoices_fair.clock, w_frames, w_args, w_heap, w_applies, trivial, trivial, w_case⟩
end start1
theorem witness_1 : WitnessClaimed_1 := ⟨start1.p0, start1.e0, start1.about1, start1.theMethod, start1.args0, start1.below0, start1.atStart⟩
end Jvm.Pilot.@@N@@
