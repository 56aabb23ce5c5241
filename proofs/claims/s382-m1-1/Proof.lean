import JvmDerived
import JvmDerived.Pilot.@@N@@Statement
import JvmDerived.Pilot.@@N@@Code
set_option linter.unusedVariables false
set_option linter.unusedSimpArgs false
namespace Jvm.Pilot.@@N@@
open Jvm Jvm.ClassFile Sem Op Lib Jvm.Free Jvm.Stand Jvm.LawKit Jvm.RoadKit Bundle Jvm.Pilot.@@N@@.Jvm.D
/-- a body's contract by a walk whose goal is a predicate G: 'go' takes a step, 'fin' a return -/
theorem own_enter {l : Launch} {y : MethodName} {cd : ByteArray} {ml : Nat} {rt : Option FieldType} {ws : List Jvm.Cond} {R : Room} {Z : State} {h0 : Heap} {as : Array Value} {Q : Option Value → Heap → List Loc → Prop} (hpl : plainFor y = true)
    (body : ∀ (p : Program) (e : Env) (s : State) (m : MethodId) (below : List Frame) (meth : Method) (c : Code) (s₁ : State) (G : State → Prop),
      Stand p l e R s m as below meth c s₁ [] 0 0 → p.tables.exec = Jvm.exec → c.code = cd → c.maxLocals = ml → Z.Warmed39 s.vm → s.vm.findClass y.cls = some m.cls → meth.name = y.name → meth.sig.returnType = rt → s₁.heap = h0 →
      (∀ {a b : State}, (∀ t, Steps p.tables e below b t → Steps p.tables e below a t) → G b → G a) →
      (∀ {T : State} {locs : List Loc} {cells slots : Nat} {g : JFrame} (v : Option Value), Stand p l e R s m as below meth c T locs cells slots → (rt = none → v = none) →
        (∀ fs, (∀ (f : JFrame) (acts : List Action), f.method = m → f.locked = none → f.entered = [] → (doReturn e (T.setTop f) acts v).1 = T.setFrames fs) → Steps p.tables e below (T.setTop g) (T.setFrames fs)) →
        cells ≤ R.cells → slots ≤ R.slots → Q v T.heap locs → G (T.setTop g)) →
      G (s₁.setTop (entryFrame m as ml))) :
    MetFree l y (head1 (Jvm.Cond.code y cd ml rt :: ws) R) (fun a U => a = as ∧ Z.Warmed39 U.vm ∧ U.heap = h0) (fun _ _ _ _ _ => True) (fun _ U o U' => ∃ v L, o = .returned v ∧ Q v U'.heap L ∧ FrameEnd U o U' L R.cells R.slots) := by
  refine MetFree.of_bodySF hpl hisR ?_
  intro p e s m args below meth c s₁ Bd hml0 hP hK
  obtain ⟨rfl, hZ, hh⟩ := hP
  have hlk : meth.locks = false := Bd.notSynchronized
  have key := body p e s m below meth c s₁ (fun a => ∃ t, Steps p.tables e below a t ∧ ∃ o, t.status = .running ∧ Ended t below o ∧ ∃ v L, o = .returned v ∧ Q v t.heap L ∧ FrameEnd s o t L R.cells R.slots)
    (Stand.of_body Bd) Bd.exec Bd.bytes hml0 hZ (findClass_of_methodNamed Bd.named) (name_of_methodNamed Bd.named Bd.method).1 Bd.returns (by rw [← hh, Bd.state]; rfl)
    (fun h g => by obtain ⟨t, h1, h2⟩ := g; exact ⟨t, h t h1, h2⟩)
    (fun {T locs cells slots g} v X hv hs hc hsl hQ => by
      obtain ⟨fs, hr, hrun, hended, hW, hsame⟩ := X.leave (v := v) (fun h => hv (Bd.returns.symm.trans h)) hlk
      exact ⟨_, hs fs hr, _, hrun, hended, v, locs, rfl, hQ, ⟨_, rfl⟩, hW, hsame.mono hc hsl⟩)
  obtain ⟨t, h1, o, h2, h3, h4⟩ := key
  exact ⟨t, o, h1, h2, h3, h4⟩
theorem own_lrem {p : Program} {l : Launch} {e : Env} {R : Room} {s : State} {m : MethodId} {args : Array Value} {below : List Frame} {meth : Method} {c : Code} {T : State} {locs : List Loc} {cells slots : Nat} {g : JFrame} {target : State} (X : Stand p l e R s m args below meth c T locs cells slots) (hx : p.tables.exec = Jvm.exec) (hg : g.method = m) {x y : Int64} {rest : List Value} (hd : decode c.code g.pc = .ok (.lrem, 1)) (hs : g.stack = .long y :: .long x :: rest) (hy : y ≠ 0)
    (hr : Steps p.tables e below (T.setTop { g with pc := g.pc + 1, stack := .long (x % y) :: rest }) target) : Steps p.tables e below (T.setTop g) target := XS.lrem X.here hx hg hd hs hy (by rw [lrem_mod]; exact hr)
theorem own_irr (x : Int32) : ¬ x < x := Int32.lt_irrefl
theorem own_irrL (x : Int64) : ¬ x < x := Int64.lt_irrefl
theorem own_eq_int {a : Term} {k : Int32} {args : Array Value} {first s : State} {o : Option Outcome} {idx : List Nat} (h : (Jvm.Cond.eq a (.int k)).value args first o s idx = some true) : a.eval args first o idx s = some (.int k) := by
  obtain ⟨x, y, ha, hb, k1, k2⟩ := cmp_v (Or.inl h)
  cases (show some (Value.int k) = some y from hb)
  obtain ⟨z, rfl⟩ := k2
  have q : (Jvm.Cond.eq a (.int k)).value args first o s idx = some (decide (z = k)) := by simp [Cond.value, ha, Term.eval]
  rw [gotT q h] at ha
  exact ha
theorem own_eq_ref {a b : Term} {u : Addr} {args : Array Value} {first s : State} {o : Option Outcome} {idx : List Nat} (h : (Jvm.Cond.eq a b).value args first o s idx = some true) (hb : b.eval args first o idx s = some (.ref u)) : a.eval args first o idx s = some (.ref u) := by
  obtain ⟨x, y, ha, hb', k1, k2⟩ := cmp_v (Or.inl h)
  cases hb.symm.trans hb'
  have hr : x.isRef = true := by cases x <;> simp_all [Kin, Value.isRef]
  have q := gotT (eq_R ha hb hr rfl) h
  rw [q] at ha
  exact ha
theorem own_exa_ns {Z : State} {h : Heap} {a : Addr} {C : String} (F : Exa Z h a C) : ∀ cell : Cell, h[a]? = some cell → cell.vm.isStatics = false := fun cell hc => by
  obtain ⟨c, k, h1, -, -, h4, -⟩ := F
  cases hc.symm.trans h1
  exact h4
theorem own_sta_keep {Z : State} {h h' : Heap} {C n d : String} {v : Value} {ws : List Addr} (F : Sta Z h C n d v) (K : Keep h h' ws) (q : ∀ a ∈ ws, ∀ cell : Cell, h[a]? = some cell → cell.vm.isStatics = false) : Sta Z h' C n d v := by
  obtain ⟨cf, i, k, f, st, cell, h1, h2, h3, h4, h5, h6, h7⟩ := F
  exact ⟨cf, i, k, f, st, cell, h1, h2, h3, h4, K.2.1 _ _ h5 (fun z => by rw [q _ z _ h5] at h6; cases h6), h6, h7⟩
theorem own_len {s : State} {args : Array Value} {t : Term} {a : Addr} {cl : Cell} {ty : FieldType} {z : Int32} (ht : t.eval args s none [] s = some (.ref a)) (A : Arr s s.heap a cl ty) (h : (Term.length t).eval args s none [] s = some (.int z)) : cl.slots.size < 2 ^ 31 ∧ cl.slots.size.toInt32 = z := by
  have ha := Arr.fin (State.Warmed39.refl s).alike A
  by_cases hn : cl.slots.size < 2 ^ 31
  · have q := (len_f ht ha hn).symm.trans h
    exact ⟨hn, Value.int.inj (Option.some.inj q)⟩
  · simp [Term.eval, ht, ha] at h
    omega
theorem own_elem {s : State} {args : Array Value} {t : Term} {a : Addr} {cl : Cell} {ty : FieldType} {j : Int32} {v : Value} (ht : t.eval args s none [] s = some (.ref a)) (A : Arr s s.heap a cl ty) (h : (Term.elem t (.int j)).eval args s none [] s = some v) (hn : ¬ j < 0) : cl.slots[j.toNatClampNeg]? = some v :=
  (elem_f ht rfl (Arr.fin (State.Warmed39.refl s).alike A) hn).symm.trans h
theorem own_selp {Z s : State} {a0 args : Array Value} {y : MethodName} {n : Nat} (hZ : Z.Warmed39 s.vm) (wi : (Jvm.Cond.instantiable y.cls n).before a0 Z = true) (wp : (Jvm.Cond.privateMethod y).before a0 Z = true) (wm : (Jvm.Cond.instanceMethod y).before a0 Z = true) (hy : y.cls ≠ "java/lang/invoke/MethodHandle" ∧ y.cls ≠ "java/lang/invoke/VarHandle") : (Jvm.Cond.selects y.cls y y).before args s = true := by
  have wi' : (Jvm.Cond.instantiable y.cls n).before args s = true := mvT hZ wi
  obtain ⟨c, k, h1, h2, -, h4, -⟩ := Cond.instantiable_spec wi'
  exact selects_self_of_private h1 h2 (Bool.or_eq_false_iff.mp h4).1 (Cond.privateMethod_at (mvP hZ wp (args := args))) (mvT hZ wm) hy
abbrev y1 : MethodName := (⟨"com/example/housemartin/housemartin/firm/FirmSlots", "<init>", "(I)V"⟩ : MethodName)
abbrev y2 : MethodName := (⟨"java/lang/Object", "<init>", "()V"⟩ : MethodName)
abbrev y3 : MethodName := (⟨"java/lang/Math", "min", "(II)I"⟩ : MethodName)
abbrev y4 : MethodName := (⟨"com/example/housemartin/housemartin/firm/Members", "<init>", "(I)V"⟩ : MethodName)
abbrev y5 : MethodName := (⟨"java/lang/Math", "max", "(II)I"⟩ : MethodName)
abbrev y6 : MethodName := (⟨"java/util/Arrays", "fill", "([II)V"⟩ : MethodName)
abbrev y7 : MethodName := (⟨"com/example/housemartin/housemartin/firm/FirmSlots", "open", "(DDDI)I"⟩ : MethodName)
abbrev y8 : MethodName := (⟨"com/example/housemartin/housemartin/firm/FirmSlots", "id", "(I)J"⟩ : MethodName)
abbrev y9 : MethodName := (⟨"com/example/housemartin/housemartin/firm/FirmSlots", "birth", "(I)I"⟩ : MethodName)
abbrev y10 : MethodName := (⟨"com/example/housemartin/housemartin/firm/FirmSlots", "a", "(I)D"⟩ : MethodName)
abbrev y11 : MethodName := (⟨"com/example/housemartin/housemartin/firm/FirmSlots", "b", "(I)D"⟩ : MethodName)
abbrev y12 : MethodName := (⟨"com/example/housemartin/housemartin/firm/FirmSlots", "beta", "(I)D"⟩ : MethodName)
abbrev y13 : MethodName := (⟨"com/example/housemartin/housemartin/firm/FirmSlots", "count", "()I"⟩ : MethodName)
abbrev y14 : MethodName := (⟨"com/example/housemartin/housemartin/firm/FirmSlots", "join", "(IID)V"⟩ : MethodName)
abbrev y15 : MethodName := (⟨"com/example/housemartin/housemartin/firm/Members", "add", "(II)V"⟩ : MethodName)
abbrev y16 : MethodName := (⟨"com/example/housemartin/housemartin/firm/Members", "count", "(I)I"⟩ : MethodName)
abbrev y17 : MethodName := (⟨"com/example/housemartin/housemartin/firm/Members", "setHead", "(III)V"⟩ : MethodName)
abbrev y18 : MethodName := (⟨"com/example/housemartin/housemartin/firm/Members", "recount", "(II)V"⟩ : MethodName)
abbrev y19 : MethodName := (⟨"com/example/housemartin/housemartin/firm/FirmSlots", "add", "(ID)V"⟩ : MethodName)
abbrev y20 : MethodName := (⟨"com/example/housemartin/housemartin/firm/FirmSlots", "markChanged", "(I)V"⟩ : MethodName)
abbrev y21 : MethodName := (⟨"com/example/housemartin/housemartin/firm/FirmSlots", "roundingError", "(DDD)D"⟩ : MethodName)
abbrev y22 : MethodName := (⟨"com/example/housemartin/housemartin/firm/FirmSlots", "leave", "(IID)Z"⟩ : MethodName)
abbrev y23 : MethodName := (⟨"com/example/housemartin/housemartin/firm/Members", "remove", "(II)V"⟩ : MethodName)
abbrev y24 : MethodName := (⟨"com/example/housemartin/housemartin/firm/Members", "entry", "(I)I"⟩ : MethodName)
abbrev cF : String := "com/example/housemartin/housemartin/firm/FirmSlots"
abbrev cM : String := "com/example/housemartin/housemartin/firm/Members"
abbrev dl (z : Int64) : Value := .double (FP.l2d z)
abbrev dv (z : Int64) : Slot := .val (.double (FP.l2d z))
abbrev lv (z : Int64) : Slot := .val (.long z)
abbrev oM (l : Launch) (y : MethodName) (cd : ByteArray) (ml : Nat) (rt : Option FieldType) (ws : List Jvm.Cond) (R : Room) (Z : State) (h0 : Heap) (as : Array Value) (Q : Option Value → Heap → List Loc → Prop) : Prop := MetFree l y (head1 (Jvm.Cond.code y cd ml rt :: ws) R) (fun a U => a = as ∧ Z.Warmed39 U.vm ∧ U.heap = h0) (fun _ _ _ _ _ => True) (fun _ U o U' => ∃ v L, o = .returned v ∧ Q v U'.heap L ∧ FrameEnd U o U' L R.cells R.slots)
theorem own_w {Z : State} {a0 : Array Value} (hw : ∀ d ∈ tables_1, d.before a0 Z = true) (i : Nat) {d : Jvm.Cond} (h : tables_1[i]? = some d) : d.before a0 Z = true := hw _ (List.mem_of_getElem? h)
theorem own_d0 : FP.dconst0 = FP.l2d (0 : Int64) := by decide +kernel
theorem own_d1 : FP.dconst1 = FP.l2d (1 : Int64) := by decide +kernel
theorem own_dneg1 : FP.dneg (FP.l2d (1 : Int64)) = FP.l2d (-1 : Int64) := by decide +kernel
theorem own_dadd {a b c : Int64} (ha : (-1000 : Int64) < a ∧ a < 1000) (hb : (-1000 : Int64) < b ∧ b < 1000) (hc : a + b = c) : FP.dadd (FP.l2d a) (FP.l2d b) = FP.l2d c := by
  subst hc
  have k1 : (-1000 : Int64).toInt = -1000 := by decide
  have k2 : (1000 : Int64).toInt = 1000 := by decide
  simp only [Int64.lt_iff_toInt_lt, k1, k2] at ha hb
  exact dadd_w ⟨by omega, by omega⟩ ⟨by omega, by omega⟩
theorem own_dsub {a b c : Int64} (ha : (-1000 : Int64) < a ∧ a < 1000) (hb : (-1000 : Int64) < b ∧ b < 1000) (hc : a - b = c) : FP.dsub (FP.l2d a) (FP.l2d b) = FP.l2d c := by
  subst hc
  have k1 : (-1000 : Int64).toInt = -1000 := by decide
  have k2 : (1000 : Int64).toInt = 1000 := by decide
  simp only [Int64.lt_iff_toInt_lt, k1, k2] at ha hb
  exact dsub_w ⟨by omega, by omega⟩ ⟨by omega, by omega⟩
theorem own_m3 (x : Int32) {n : Int32} (hn : n = ((x &&& (2147483647 : Int32)) % (3 : Int32))) : n = 0 ∨ n = 1 ∨ n = 2 := by
  have h1 := c_and x 2147483647 (by decide)
  have h2 := (c_irem (x &&& (2147483647 : Int32)) 3 3 (by decide)).1 h1.1
  rw [← hn] at h2
  have z0 : (0 : Int32).toInt = 0 := by decide
  have z1 : (1 : Int32).toInt = 1 := by decide
  have z2 : (2 : Int32).toInt = 2 := by decide
  simp only [← Int32.toInt_inj]
  omega
def own_W (Z : State) (h : Heap) (a : Addr) (ty : FieldType) (n : Nat) : Prop := ∃ c : Cell, Arr Z h a c ty ∧ c.slots.size = n
theorem own_W.lt {Z : State} {h : Heap} {a : Addr} {ty : FieldType} {n : Nat} (F : own_W Z h a ty n) : a < h.size := by obtain ⟨c, A, -⟩ := F; exact A.lt
theorem own_W.ext {Z : State} {h h' : Heap} {a : Addr} {ty : FieldType} {n : Nat} (F : own_W Z h a ty n) (E : Ext h h') : own_W Z h' a ty n := by obtain ⟨c, A, r⟩ := F; exact ⟨c, A.ext E, r⟩
theorem own_W.other {Z : State} {h h' : Heap} {a b : Addr} {ty : FieldType} {n sl : Nat} {v : Value} (F : own_W Z h b ty n) (W : Wr h h' a sl v) (q : b ≠ a) : own_W Z h' b ty n := by obtain ⟨c, A, r⟩ := F; exact ⟨c, A.other W q, r⟩
theorem own_W.keep {Z : State} {h h' : Heap} {a : Addr} {ty : FieldType} {n : Nat} {ws : List Addr} (F : own_W Z h a ty n) (K : Keep h h' ws) (q : a ∉ ws) : own_W Z h' a ty n := by obtain ⟨c, A, r⟩ := F; exact ⟨c, ⟨K.2.1 a c A.1 q, A.2⟩, r⟩
theorem own_newW {Z : State} {h : Heap} {a : Addr} {ty : FieldType} {k : ClassId} {z : Int32} {n : Nat} {vs : List Value} {d : Value} (F : Arv Z h a k ty z vs d) (e : z.toNatClampNeg = n) : own_W Z h a ty n := by
  obtain ⟨c, A, -, S, -⟩ := F
  rw [e] at S
  exact ⟨c, A, S⟩
theorem own_setW {Z : State} {h h' : Heap} {a : Addr} {ty : FieldType} {n : Nat} {c : Cell} {k : Nat} {x : Value} (A : Arr Z h a c ty) (S : c.slots.size = n) (W : Wr h h' a k x) : own_W Z h' a ty n := ⟨_, A.same W, by rw [sz_set]; exact S⟩
theorem own_in {c : Cell} {i : Nat} (S : c.slots.size = 31) (q : i < 31) : ¬ ((Int32.ofNat i) < 0 ∨ c.slots.size ≤ (Int32.ofNat i).toNatClampNeg) := by
  have e : (Int32.ofNat i).toInt = i := Int32.toInt_ofNat_small (by omega)
  have z0 : (0 : Int32).toInt = 0 := by decide
  intro w; rcases w with w | w
  · rw [Int32.lt_iff_toInt_lt] at w; omega
  · have : (Int32.ofNat i).toNatClampNeg = i := by show (Int32.ofNat i).toInt.toNat = i; omega
    omega
theorem own_lt31 {i : Nat} (h : i < 32) : (Int32.ofNat i) < (31 : Int32) ↔ i < 31 := by
  have e : (Int32.ofNat i).toInt = i := Int32.toInt_ofNat_small (by omega)
  rw [Int32.lt_iff_toInt_lt, e, show (31 : Int32).toInt = 31 by decide]; omega
theorem own_add1 (i : Nat) : (Int32.ofNat i + (1 : Int32)) = Int32.ofNat (i + 1) := (Int32.ofNat_add i 1).symm
theorem pn_java_util_Arrays : plainName "java/util/Arrays" = true := by first | (simp [plainName, overriddenIn]; done) | decide +kernel
theorem ef_6 (m : MethodId) (x0 : Addr) (x1 : Int32) : entryFrame m #[(.ref x0), (.int x1)] 4 = mkF m 0 #[.val (.ref x0), .val (.int x1), .unset, .unset] [] := by first | (simp [entryFrame, mkF, argsToLocals, Value.category]; done) | rfl
theorem d6_0 : decode jdk_65_method_103_code 0 = .ok (.iconst 0, 1) := by decide +kernel
theorem d6_1 : decode jdk_65_method_103_code 1 = .ok (.istore_n 2, 1) := by decide +kernel
theorem d6_2 : decode jdk_65_method_103_code 2 = .ok (.aload_n 0, 1) := by decide +kernel
theorem d6_3 : decode jdk_65_method_103_code 3 = .ok (.arraylength, 1) := by decide +kernel
theorem d6_4 : decode jdk_65_method_103_code 4 = .ok (.istore_n 3, 1) := by decide +kernel
theorem d6_5 : decode jdk_65_method_103_code 5 = .ok (.iload_n 2, 1) := by decide +kernel
theorem d6_6 : decode jdk_65_method_103_code 6 = .ok (.iload_n 3, 1) := by decide +kernel
theorem d6_7 : decode jdk_65_method_103_code 7 = .ok (.if_icmp .ge 13, 3) := by decide +kernel
theorem d6_20 : decode jdk_65_method_103_code 20 = .ok (.return_, 1) := by decide +kernel
theorem d6_10 : decode jdk_65_method_103_code 10 = .ok (.aload_n 0, 1) := by decide +kernel
theorem d6_11 : decode jdk_65_method_103_code 11 = .ok (.iload_n 2, 1) := by decide +kernel
theorem d6_12 : decode jdk_65_method_103_code 12 = .ok (.iload_n 1, 1) := by decide +kernel
theorem d6_13 : decode jdk_65_method_103_code 13 = .ok (.iastore, 1) := by decide +kernel
theorem d6_14 : decode jdk_65_method_103_code 14 = .ok (.iinc 2 1, 3) := by decide +kernel
theorem d6_17 : decode jdk_65_method_103_code 17 = .ok (.goto (-12), 3) := by decide +kernel
def Q_rm6 (Z : State) (oa : Addr) (xv : Int32) (ka : ClassId) (h0 : Heap) (n0 : Nat) (v : Option Value) (h : Heap) (L : List Loc) : Prop := v = none ∧ Fr n0 L ∧ Keep h0 h [oa] ∧ own_W Z h oa .int 31
set_option maxRecDepth 65536 in
set_option maxHeartbeats 40000000 in
theorem rm6 (l : Launch) (Z : State) (a0 : Array Value) (hw : ∀ d ∈ tables_1, d.before a0 Z = true) (ws : List Jvm.Cond) (oa : Addr) (xv : Int32) (ka : ClassId) (h0 : Heap) (n0 : Nat) (Z0 : n0 ≤ h0.size) (g0 : n0 ≤ oa) (Va : Arv Z h0 oa ka .int 31 [(.int 0), (.int 0), (.int 0), (.int 0), (.int 0), (.int 0), (.int 0), (.int 0), (.int 0), (.int 0), (.int 0), (.int 0), (.int 0), (.int 0), (.int 0), (.int 0), (.int 0), (.int 0), (.int 0), (.int 0), (.int 0), (.int 0), (.int 0), (.int 0), (.int 0), (.int 0), (.int 0), (.int 0), (.int 0), (.int 0), (.int 0)] (.int 0)) :
    oM l y6 jdk_65_method_103_code 4 none ws (⟨0, 0, 0, 0⟩ : Room) Z h0 #[(.ref oa), (.int xv)] (Q_rm6 Z oa xv ka h0 n0) := by
  refine own_enter (Q := Q_rm6 Z oa xv ka h0 n0) (plainFor_of_name pn_java_util_Arrays) ?_
  intro p e s m below meth c s₁ G X0 hx hby hml hZ hown hnm hret e0 go fin
  replace hown : s.vm.findClass "java/util/Arrays" = some m.cls := hown
  replace hnm : meth.name = "fill" := hnm
  replace hml : c.maxLocals = 4 := hml
  rw [ef_6 m oa xv]
  have N0 := Fr.nil n0
  refine go (fun tg kg => XS.iconst X0.here hx rfl (hb hby d6_0) kg) ?_
  refine go (fun tg kg => XS.istoreN X0.here hx rfl (hb hby d6_1) rfl (l' := #[rv oa, iv xv, iv 0, .unset]) rfl kg) ?_
  refine go (fun tg kg => XS.aloadN X0.here hx rfl (hb hby d6_2) rfl rfl kg) ?_
  obtain ⟨cl1, Ar1, -, S1, M1, -, -⟩ := id Va
  refine go (fun tg kg => X0.arraylength hx (by rw [e0]; exact Ar1.1) (State.isArrayOf_alike hZ.alike Ar1.2.1) (g := (mkF m 3 #[rv oa, iv xv, iv 0, .unset] [(.ref oa)])) rfl rfl (hb hby d6_3) _ kg) ?_
  rw [len_of S1 M1]
  refine go (fun tg kg => XS.istoreN X0.here hx rfl (hb hby d6_4) rfl (l' := #[rv oa, iv xv, iv 0, iv 31]) rfl kg) ?_
  show G (s₁.setTop (mkF m 5 #[rv oa, iv xv, iv 0, iv 31] []))
  have loop : ∀ (r i : Nat) (Tl : State) (hl : Heap) (ll : List Loc), Stand p l e (⟨0, 0, 0, 0⟩ : Room) s m #[(.ref oa), (.int xv)] below meth c Tl ll 0 0 → Tl.heap = hl → Fr n0 ll → n0 ≤ hl.size → Keep h0 hl [oa] → own_W Z hl oa .int 31 → i + r = 31 → G (Tl.setTop (mkF m 5 #[rv oa, iv xv, iv (Int32.ofNat i), iv 31] [])) := by
    intro r
    induction r with
    | zero =>
      intro i Tl hl ll Xl el Nl Zl Kl Vl hr
      have hlt : ¬ (Int32.ofNat i) < (31 : Int32) := by rw [own_lt31 (by omega)]; omega
      refine go (fun tg kg => XS.iloadN Xl.here hx rfl (hb hby d6_5) rfl kg) ?_
      refine go (fun tg kg => XS.iloadN Xl.here hx rfl (hb hby d6_6) rfl kg) ?_
      refine go (fun tg kg => XS.icmpYes Xl.here hx rfl (pc0 := 7) (pc' := 20) rfl (hb hby d6_7) rfl (flt hlt).2.1 (by decide) (by decide) kg) ?_
      refine fin (none) Xl (fun h => rfl) (fun fs hr => Xl.returnOut hx hret (hb hby d6_20) hr) (by decide) (by decide) ?_
      rw [el]
      exact ⟨rfl, Nl, Kl, Vl⟩
    | succ r ih =>
      intro i Tl hl ll Xl el Nl Zl Kl Vl hr
      have hlt : (Int32.ofNat i) < (31 : Int32) := by rw [own_lt31 (by omega)]; omega
      obtain ⟨cll, Arl, Sl⟩ := id Vl
      refine go (fun tg kg => XS.iloadN Xl.here hx rfl (hb hby d6_5) rfl kg) ?_
      refine go (fun tg kg => XS.iloadN Xl.here hx rfl (hb hby d6_6) rfl kg) ?_
      refine go (fun tg kg => XS.icmpNo Xl.here hx rfl (hb hby d6_7) rfl (tlt hlt).2.1 kg) ?_
      show G (Tl.setTop (mkF m 10 #[rv oa, iv xv, iv (Int32.ofNat i), iv 31] []))
      refine go (fun tg kg => XS.aloadN Xl.here hx rfl (hb hby d6_10) rfl rfl kg) ?_
      refine go (fun tg kg => XS.iloadN Xl.here hx rfl (hb hby d6_11) rfl kg) ?_
      refine go (fun tg kg => XS.iloadN Xl.here hx rfl (hb hby d6_12) rfl kg) ?_
      obtain ⟨T2, h2, X2, e2, W2, st2⟩ := stI Xl hx hZ el Arl (j := Int32.ofNat i) (own_in Sl (by omega)) (g := (mkF m 13 #[rv oa, iv xv, iv (Int32.ofNat i), iv 31] [(.int xv), (.int (Int32.ofNat i)), (.ref oa)])) rfl rfl (hb hby d6_13)
      refine go st2 ?_
      have N2 := Fr.snoc X2 Nl g0
      have K2 : Keep h0 h2 [oa] := Kl.wr W2 (Or.inl (List.mem_of_getElem? (i := 0) rfl))
      have Z2 := Nat.le_trans Zl (Keep.of_wr W2).1
      show G (T2.setTop (mkF m 14 #[rv oa, iv xv, iv (Int32.ofNat i), iv 31] []))
      refine go (fun tg kg => XS.iinc X2.here hx rfl (hb hby d6_14) rfl (l' := #[rv oa, iv xv, iv ((Int32.ofNat i) + (1 : Int32)), iv 31]) rfl kg) ?_
      refine go (fun tg kg => XS.goto X2.here hx rfl (pc0 := 17) (pc' := 5) rfl (hb hby d6_17) (by decide) (by decide) kg) ?_
      rw [own_add1]
      exact ih (i + 1) _ _ _ X2 e2 N2 Z2 K2 (own_setW Arl Sl W2) (by omega)
  exact loop 31 0 _ _ _ X0 e0 N0 Z0 (Keep.refl h0 [oa]) (own_newW Va (by decide)) rfl

theorem pn_com_example_housemartin_housemartin_firm_FirmSlotsOpenPinLaw : plainName "com/example/housemartin/housemartin/firm/FirmSlotsOpenPinLaw" = true := by first | (simp [plainName, overriddenIn]; done) | decide +kernel
theorem ef_0 (m : MethodId) (x0 : Int32) (x1 : Int32) (x2 : Int32) (x3 : Int32) (x4 : Int32) : entryFrame m #[(.int x0), (.int x1), (.int x2), (.int x3), (.int x4)] maxLocals = mkF m 0 #[.val (.int x0), .val (.int x1), .val (.int x2), .val (.int x3), .val (.int x4), .unset, .unset, .unset, .unset, .unset, .unset, .unset, .unset, .unset, .unset, .unset, .unset, .unset, .unset, .unset, .unset] [] := by first | (simp [entryFrame, mkF, argsToLocals, Value.category, maxLocals]; done) | rfl
theorem d1_0 : decode prog_8_method_1_code 0 = .ok (.aload_n 0, 1) := by decide +kernel
theorem d1_1 : decode prog_8_method_1_code 1 = .ok (.invokespecial 3, 3) := by decide +kernel
theorem d1_4 : decode prog_8_method_1_code 4 = .ok (.aload_n 0, 1) := by decide +kernel
theorem d1_5 : decode prog_8_method_1_code 5 = .ok (.iconst (-1), 1) := by decide +kernel
theorem d1_6 : decode prog_8_method_1_code 6 = .ok (.putfield 9, 3) := by decide +kernel
theorem d1_9 : decode prog_8_method_1_code 9 = .ok (.aload_n 0, 1) := by decide +kernel
theorem d1_10 : decode prog_8_method_1_code 10 = .ok (.lconst 1, 1) := by decide +kernel
theorem d1_11 : decode prog_8_method_1_code 11 = .ok (.putfield 13, 3) := by decide +kernel
theorem sn_nextId_freeSlot {Z : State} {a0 : Array Value} (hw : ∀ d ∈ tables_1, d.before a0 Z = true) : Jvm.RoadKit.slotOf Z "com/example/housemartin/housemartin/firm/FirmSlots" "nextId" "J" ≠ Jvm.RoadKit.slotOf Z "com/example/housemartin/housemartin/firm/FirmSlots" "freeSlot" "I" := slot_ne (Or.inl (own_w hw 13 rfl)) (Or.inl (own_w hw 11 rfl)) (by decide) (t := .long) (t' := .int) (by decide) (by decide)
theorem d1_14 : decode prog_8_method_1_code 14 = .ok (.aload_n 0, 1) := by decide +kernel
theorem d1_15 : decode prog_8_method_1_code 15 = .ok (.iload_n 1, 1) := by decide +kernel
theorem d1_16 : decode prog_8_method_1_code 16 = .ok (.i2l, 1) := by decide +kernel
theorem d1_17 : decode prog_8_method_1_code 17 = .ok (.ldc2_w 17, 3) := by decide +kernel
theorem d1_20 : decode prog_8_method_1_code 20 = .ok (.ladd, 1) := by decide +kernel
theorem d1_21 : decode prog_8_method_1_code 21 = .ok (.bipush 24, 2) := by decide +kernel
theorem d1_23 : decode prog_8_method_1_code 23 = .ok (.lushr, 1) := by decide +kernel
theorem d1_24 : decode prog_8_method_1_code 24 = .ok (.l2i, 1) := by decide +kernel
theorem d1_25 : decode prog_8_method_1_code 25 = .ok (.anewarray 19, 3) := by decide +kernel
theorem d1_28 : decode prog_8_method_1_code 28 = .ok (.putfield 21, 3) := by decide +kernel
theorem sn_pages_freeSlot {Z : State} {a0 : Array Value} (hw : ∀ d ∈ tables_1, d.before a0 Z = true) : Jvm.RoadKit.slotOf Z "com/example/housemartin/housemartin/firm/FirmSlots" "pages" "[[D" ≠ Jvm.RoadKit.slotOf Z "com/example/housemartin/housemartin/firm/FirmSlots" "freeSlot" "I" := slot_ne (Or.inr (own_w hw 18 rfl)) (Or.inl (own_w hw 11 rfl)) (by decide) (t := (.array (.array .double))) (t' := .int) (by decide) (by decide)
theorem sn_pages_nextId {Z : State} {a0 : Array Value} (hw : ∀ d ∈ tables_1, d.before a0 Z = true) : Jvm.RoadKit.slotOf Z "com/example/housemartin/housemartin/firm/FirmSlots" "pages" "[[D" ≠ Jvm.RoadKit.slotOf Z "com/example/housemartin/housemartin/firm/FirmSlots" "nextId" "J" := slot_ne (Or.inr (own_w hw 18 rfl)) (Or.inl (own_w hw 13 rfl)) (by decide) (t := (.array (.array .double))) (t' := .long) (by decide) (by decide)
theorem d1_31 : decode prog_8_method_1_code 31 = .ok (.iconst 0, 1) := by decide +kernel
theorem d1_32 : decode prog_8_method_1_code 32 = .ok (.istore_n 2, 1) := by decide +kernel
theorem d1_33 : decode prog_8_method_1_code 33 = .ok (.iload_n 2, 1) := by decide +kernel
theorem d1_34 : decode prog_8_method_1_code 34 = .ok (.aload_n 0, 1) := by decide +kernel
theorem d1_35 : decode prog_8_method_1_code 35 = .ok (.getfield 21, 3) := by decide +kernel
theorem d1_38 : decode prog_8_method_1_code 38 = .ok (.arraylength, 1) := by decide +kernel
theorem sn_freeSlot_nextId {Z : State} {a0 : Array Value} (hw : ∀ d ∈ tables_1, d.before a0 Z = true) : Jvm.RoadKit.slotOf Z "com/example/housemartin/housemartin/firm/FirmSlots" "freeSlot" "I" ≠ Jvm.RoadKit.slotOf Z "com/example/housemartin/housemartin/firm/FirmSlots" "nextId" "J" := slot_ne (Or.inl (own_w hw 11 rfl)) (Or.inl (own_w hw 13 rfl)) (by decide) (t := .int) (t' := .long) (by decide) (by decide)
theorem d1_39 : decode prog_8_method_1_code 39 = .ok (.if_icmp .ge 32, 3) := by decide +kernel
theorem d1_42 : decode prog_8_method_1_code 42 = .ok (.ldc 25, 2) := by decide +kernel
theorem d1_44 : decode prog_8_method_1_code 44 = .ok (.iload_n 1, 1) := by decide +kernel
theorem d1_45 : decode prog_8_method_1_code 45 = .ok (.iload_n 2, 1) := by decide +kernel
theorem d1_46 : decode prog_8_method_1_code 46 = .ok (.bipush 24, 2) := by decide +kernel
theorem d1_48 : decode prog_8_method_1_code 48 = .ok (.ishl, 1) := by decide +kernel
theorem d1_49 : decode prog_8_method_1_code 49 = .ok (.isub, 1) := by decide +kernel
theorem d1_50 : decode prog_8_method_1_code 50 = .ok (.invokestatic 26, 3) := by decide +kernel
theorem d3_0 : decode jdk_29_method_69_code 0 = .ok (.iload_n 0, 1) := by decide +kernel
theorem d3_1 : decode jdk_29_method_69_code 1 = .ok (.iload_n 1, 1) := by decide +kernel
theorem d3_2 : decode jdk_29_method_69_code 2 = .ok (.if_icmp .gt 7, 3) := by decide +kernel
theorem d3_9 : decode jdk_29_method_69_code 9 = .ok (.iload_n 1, 1) := by decide +kernel
theorem d3_10 : decode jdk_29_method_69_code 10 = .ok (.ireturn, 1) := by decide +kernel
theorem ef_3 (m : MethodId) (x0 : Int32) (x1 : Int32) : entryFrame m #[(.int x0), (.int x1)] 2 = mkF m 0 #[.val (.int x0), .val (.int x1)] [] := by first | (simp [entryFrame, mkF, argsToLocals, Value.category]; done) | rfl
def Q_rm3_0 (Z : State)  (h0 : Heap) (n0 : Nat) (v : Option Value) (h : Heap) (L : List Loc) : Prop := v = some (.int 4) ∧ Fr n0 L ∧ h = h0
set_option maxRecDepth 65536 in
set_option maxHeartbeats 40000000 in
theorem rm3_0 (l : Launch) (Z : State) (a0 : Array Value) (hw : ∀ d ∈ tables_1, d.before a0 Z = true) (ws : List Jvm.Cond)  (h0 : Heap) (n0 : Nat) (Z0 : n0 ≤ h0.size) :
    oM l y3 jdk_29_method_69_code 2 (some .int) ws (⟨0, 0, 0, 0⟩ : Room) Z h0 #[(.int 16777216), (.int 4)] (Q_rm3_0 Z  h0 n0) := by
  refine own_enter (Q := Q_rm3_0 Z  h0 n0) (Jvm.Free.JP.mathPlain rfl (by decide +kernel)) ?_
  intro p e s m below meth c s₁ G X0 hx hby hml hZ hown hnm hret e0 go fin
  replace hown : s.vm.findClass "java/lang/Math" = some m.cls := hown
  replace hnm : meth.name = "min" := hnm
  replace hml : c.maxLocals = 2 := hml
  rw [ef_3 m _ _]
  have N0 := Fr.nil n0
  refine go (fun tg kg => XS.iloadN X0.here hx rfl (hb hby d3_0) rfl kg) ?_
  refine go (fun tg kg => XS.iloadN X0.here hx rfl (hb hby d3_1) rfl kg) ?_
  refine go (fun tg kg => XS.icmpYes X0.here hx rfl (pc0 := 2) (pc' := 9) rfl (hb hby d3_2) rfl (tlt (by decide)).2.2.1 (by decide) (by decide) kg) ?_
  refine go (fun tg kg => XS.iloadN X0.here hx rfl (hb hby d3_9) rfl kg) ?_
  refine fin (some (.int 4)) X0 (fun h => absurd h (by decide)) (fun fs hr => retOut X0 hx hret rfl (Or.inl ⟨rfl, Or.inl rfl, _, rfl⟩) (hb hby d3_10) hr) (by decide) (by decide) ?_
  rw [e0]
  exact ⟨rfl, N0, rfl⟩
theorem pd__II_I : parseMethodDescriptor "(II)I" = some ⟨[.int, .int], some .int⟩ := by decide +kernel
theorem d1_53 : decode prog_8_method_1_code 53 = .ok (.istore_n 3, 1) := by decide +kernel
theorem d1_54 : decode prog_8_method_1_code 54 = .ok (.aload_n 0, 1) := by decide +kernel
theorem d1_55 : decode prog_8_method_1_code 55 = .ok (.getfield 21, 3) := by decide +kernel
theorem d1_58 : decode prog_8_method_1_code 58 = .ok (.iload_n 2, 1) := by decide +kernel
theorem d1_59 : decode prog_8_method_1_code 59 = .ok (.iload_n 3, 1) := by decide +kernel
theorem d1_60 : decode prog_8_method_1_code 60 = .ok (.iconst 5, 1) := by decide +kernel
theorem d1_61 : decode prog_8_method_1_code 61 = .ok (.imul, 1) := by decide +kernel
theorem d1_62 : decode prog_8_method_1_code 62 = .ok (.newarray .double, 2) := by decide +kernel
theorem d1_64 : decode prog_8_method_1_code 64 = .ok (.aastore, 1) := by decide +kernel
theorem d1_65 : decode prog_8_method_1_code 65 = .ok (.iinc 2 1, 3) := by decide +kernel
theorem d1_68 : decode prog_8_method_1_code 68 = .ok (.goto (-35), 3) := by decide +kernel
theorem d1_71 : decode prog_8_method_1_code 71 = .ok (.aload_n 0, 1) := by decide +kernel
theorem d1_72 : decode prog_8_method_1_code 72 = .ok (.iload_n 1, 1) := by decide +kernel
theorem d1_73 : decode prog_8_method_1_code 73 = .ok (.newarray .long, 2) := by decide +kernel
theorem d1_75 : decode prog_8_method_1_code 75 = .ok (.putfield 32, 3) := by decide +kernel
theorem sn_ids_freeSlot {Z : State} {a0 : Array Value} (hw : ∀ d ∈ tables_1, d.before a0 Z = true) : Jvm.RoadKit.slotOf Z "com/example/housemartin/housemartin/firm/FirmSlots" "ids" "[J" ≠ Jvm.RoadKit.slotOf Z "com/example/housemartin/housemartin/firm/FirmSlots" "freeSlot" "I" := slot_ne (Or.inr (own_w hw 28 rfl)) (Or.inl (own_w hw 11 rfl)) (by decide) (t := (.array .long)) (t' := .int) (by decide) (by decide)
theorem sn_ids_nextId {Z : State} {a0 : Array Value} (hw : ∀ d ∈ tables_1, d.before a0 Z = true) : Jvm.RoadKit.slotOf Z "com/example/housemartin/housemartin/firm/FirmSlots" "ids" "[J" ≠ Jvm.RoadKit.slotOf Z "com/example/housemartin/housemartin/firm/FirmSlots" "nextId" "J" := slot_ne (Or.inr (own_w hw 28 rfl)) (Or.inl (own_w hw 13 rfl)) (by decide) (t := (.array .long)) (t' := .long) (by decide) (by decide)
theorem sn_ids_pages {Z : State} {a0 : Array Value} (hw : ∀ d ∈ tables_1, d.before a0 Z = true) : Jvm.RoadKit.slotOf Z "com/example/housemartin/housemartin/firm/FirmSlots" "ids" "[J" ≠ Jvm.RoadKit.slotOf Z "com/example/housemartin/housemartin/firm/FirmSlots" "pages" "[[D" := slot_ne (Or.inr (own_w hw 28 rfl)) (Or.inr (own_w hw 18 rfl)) (by decide) (t := (.array .long)) (t' := (.array (.array .double))) (by decide) (by decide)
theorem d1_78 : decode prog_8_method_1_code 78 = .ok (.aload_n 0, 1) := by decide +kernel
theorem d1_79 : decode prog_8_method_1_code 79 = .ok (.iload_n 1, 1) := by decide +kernel
theorem d1_80 : decode prog_8_method_1_code 80 = .ok (.newarray .int, 2) := by decide +kernel
theorem d1_82 : decode prog_8_method_1_code 82 = .ok (.putfield 36, 3) := by decide +kernel
theorem sn_births_freeSlot {Z : State} {a0 : Array Value} (hw : ∀ d ∈ tables_1, d.before a0 Z = true) : Jvm.RoadKit.slotOf Z "com/example/housemartin/housemartin/firm/FirmSlots" "births" "[I" ≠ Jvm.RoadKit.slotOf Z "com/example/housemartin/housemartin/firm/FirmSlots" "freeSlot" "I" := slot_ne (Or.inr (own_w hw 31 rfl)) (Or.inl (own_w hw 11 rfl)) (by decide) (t := (.array .int)) (t' := .int) (by decide) (by decide)
theorem sn_births_nextId {Z : State} {a0 : Array Value} (hw : ∀ d ∈ tables_1, d.before a0 Z = true) : Jvm.RoadKit.slotOf Z "com/example/housemartin/housemartin/firm/FirmSlots" "births" "[I" ≠ Jvm.RoadKit.slotOf Z "com/example/housemartin/housemartin/firm/FirmSlots" "nextId" "J" := slot_ne (Or.inr (own_w hw 31 rfl)) (Or.inl (own_w hw 13 rfl)) (by decide) (t := (.array .int)) (t' := .long) (by decide) (by decide)
theorem sn_births_pages {Z : State} {a0 : Array Value} (hw : ∀ d ∈ tables_1, d.before a0 Z = true) : Jvm.RoadKit.slotOf Z "com/example/housemartin/housemartin/firm/FirmSlots" "births" "[I" ≠ Jvm.RoadKit.slotOf Z "com/example/housemartin/housemartin/firm/FirmSlots" "pages" "[[D" := slot_ne (Or.inr (own_w hw 31 rfl)) (Or.inr (own_w hw 18 rfl)) (by decide) (t := (.array .int)) (t' := (.array (.array .double))) (by decide) (by decide)
theorem sn_births_ids {Z : State} {a0 : Array Value} (hw : ∀ d ∈ tables_1, d.before a0 Z = true) : Jvm.RoadKit.slotOf Z "com/example/housemartin/housemartin/firm/FirmSlots" "births" "[I" ≠ Jvm.RoadKit.slotOf Z "com/example/housemartin/housemartin/firm/FirmSlots" "ids" "[J" := slot_ne (Or.inr (own_w hw 31 rfl)) (Or.inr (own_w hw 28 rfl)) (by decide) (t := (.array .int)) (t' := (.array .long)) (by decide) (by decide)
theorem d1_85 : decode prog_8_method_1_code 85 = .ok (.aload_n 0, 1) := by decide +kernel
theorem d1_86 : decode prog_8_method_1_code 86 = .ok (.new 40, 3) := by decide +kernel
theorem d1_89 : decode prog_8_method_1_code 89 = .ok (.dup, 1) := by decide +kernel
theorem d1_90 : decode prog_8_method_1_code 90 = .ok (.iload_n 1, 1) := by decide +kernel
theorem d1_91 : decode prog_8_method_1_code 91 = .ok (.invokespecial 42, 3) := by decide +kernel
theorem d4_0 : decode prog_10_method_1_code 0 = .ok (.aload_n 0, 1) := by decide +kernel
theorem d4_1 : decode prog_10_method_1_code 1 = .ok (.invokespecial 3, 3) := by decide +kernel
theorem d4_4 : decode prog_10_method_1_code 4 = .ok (.aload_n 0, 1) := by decide +kernel
theorem d4_5 : decode prog_10_method_1_code 5 = .ok (.bipush 31, 2) := by decide +kernel
theorem d4_7 : decode prog_10_method_1_code 7 = .ok (.newarray .int, 2) := by decide +kernel
theorem d4_9 : decode prog_10_method_1_code 9 = .ok (.putfield 11, 3) := by decide +kernel
theorem d4_12 : decode prog_10_method_1_code 12 = .ok (.aload_n 0, 1) := by decide +kernel
theorem d4_13 : decode prog_10_method_1_code 13 = .ok (.iconst 2, 1) := by decide +kernel
theorem d4_14 : decode prog_10_method_1_code 14 = .ok (.newarray .int, 2) := by decide +kernel
theorem d4_16 : decode prog_10_method_1_code 16 = .ok (.putfield 15, 3) := by decide +kernel
theorem sn_firmsOfSize_freeBlocks {Z : State} {a0 : Array Value} (hw : ∀ d ∈ tables_1, d.before a0 Z = true) : Jvm.RoadKit.slotOf Z "com/example/housemartin/housemartin/firm/Members" "firmsOfSize" "[I" ≠ Jvm.RoadKit.slotOf Z "com/example/housemartin/housemartin/firm/Members" "freeBlocks" "[I" := slot_ne (Or.inl (own_w hw 42 rfl)) (Or.inr (own_w hw 40 rfl)) (by decide) (t := (.array .int)) (t' := (.array .int)) (by decide) (by decide)
theorem d4_19 : decode prog_10_method_1_code 19 = .ok (.aload_n 0, 1) := by decide +kernel
theorem d4_20 : decode prog_10_method_1_code 20 = .ok (.iconst 1, 1) := by decide +kernel
theorem d4_21 : decode prog_10_method_1_code 21 = .ok (.putfield 18, 3) := by decide +kernel
theorem sn_listed_freeBlocks {Z : State} {a0 : Array Value} (hw : ∀ d ∈ tables_1, d.before a0 Z = true) : Jvm.RoadKit.slotOf Z "com/example/housemartin/housemartin/firm/Members" "listed" "Z" ≠ Jvm.RoadKit.slotOf Z "com/example/housemartin/housemartin/firm/Members" "freeBlocks" "[I" := slot_ne (Or.inl (own_w hw 44 rfl)) (Or.inr (own_w hw 40 rfl)) (by decide) (t := .boolean) (t' := (.array .int)) (by decide) (by decide)
theorem sn_listed_firmsOfSize {Z : State} {a0 : Array Value} (hw : ∀ d ∈ tables_1, d.before a0 Z = true) : Jvm.RoadKit.slotOf Z "com/example/housemartin/housemartin/firm/Members" "listed" "Z" ≠ Jvm.RoadKit.slotOf Z "com/example/housemartin/housemartin/firm/Members" "firmsOfSize" "[I" := slot_ne (Or.inl (own_w hw 44 rfl)) (Or.inl (own_w hw 42 rfl)) (by decide) (t := .boolean) (t' := (.array .int)) (by decide) (by decide)
theorem d4_24 : decode prog_10_method_1_code 24 = .ok (.aload_n 0, 1) := by decide +kernel
theorem d4_25 : decode prog_10_method_1_code 25 = .ok (.iload_n 1, 1) := by decide +kernel
theorem d4_26 : decode prog_10_method_1_code 26 = .ok (.newarray .long, 2) := by decide +kernel
theorem d4_28 : decode prog_10_method_1_code 28 = .ok (.putfield 22, 3) := by decide +kernel
theorem sn_heads_freeBlocks {Z : State} {a0 : Array Value} (hw : ∀ d ∈ tables_1, d.before a0 Z = true) : Jvm.RoadKit.slotOf Z "com/example/housemartin/housemartin/firm/Members" "heads" "[J" ≠ Jvm.RoadKit.slotOf Z "com/example/housemartin/housemartin/firm/Members" "freeBlocks" "[I" := slot_ne (Or.inr (own_w hw 46 rfl)) (Or.inr (own_w hw 40 rfl)) (by decide) (t := (.array .long)) (t' := (.array .int)) (by decide) (by decide)
theorem sn_heads_firmsOfSize {Z : State} {a0 : Array Value} (hw : ∀ d ∈ tables_1, d.before a0 Z = true) : Jvm.RoadKit.slotOf Z "com/example/housemartin/housemartin/firm/Members" "heads" "[J" ≠ Jvm.RoadKit.slotOf Z "com/example/housemartin/housemartin/firm/Members" "firmsOfSize" "[I" := slot_ne (Or.inr (own_w hw 46 rfl)) (Or.inl (own_w hw 42 rfl)) (by decide) (t := (.array .long)) (t' := (.array .int)) (by decide) (by decide)
theorem sn_heads_listed {Z : State} {a0 : Array Value} (hw : ∀ d ∈ tables_1, d.before a0 Z = true) : Jvm.RoadKit.slotOf Z "com/example/housemartin/housemartin/firm/Members" "heads" "[J" ≠ Jvm.RoadKit.slotOf Z "com/example/housemartin/housemartin/firm/Members" "listed" "Z" := slot_ne (Or.inr (own_w hw 46 rfl)) (Or.inl (own_w hw 44 rfl)) (by decide) (t := (.array .long)) (t' := .boolean) (by decide) (by decide)
theorem d4_31 : decode prog_10_method_1_code 31 = .ok (.aload_n 0, 1) := by decide +kernel
theorem d4_32 : decode prog_10_method_1_code 32 = .ok (.bipush 16, 2) := by decide +kernel
theorem d4_34 : decode prog_10_method_1_code 34 = .ok (.iload_n 1, 1) := by decide +kernel
theorem d4_35 : decode prog_10_method_1_code 35 = .ok (.iconst 4, 1) := by decide +kernel
theorem d4_36 : decode prog_10_method_1_code 36 = .ok (.iushr, 1) := by decide +kernel
theorem d4_37 : decode prog_10_method_1_code 37 = .ok (.invokestatic 26, 3) := by decide +kernel
theorem d5_0 : decode jdk_29_method_65_code 0 = .ok (.iload_n 0, 1) := by decide +kernel
theorem d5_1 : decode jdk_29_method_65_code 1 = .ok (.iload_n 1, 1) := by decide +kernel
theorem d5_2 : decode jdk_29_method_65_code 2 = .ok (.if_icmp .lt 7, 3) := by decide +kernel
theorem d5_5 : decode jdk_29_method_65_code 5 = .ok (.iload_n 0, 1) := by decide +kernel
theorem d5_6 : decode jdk_29_method_65_code 6 = .ok (.goto 4, 3) := by decide +kernel
theorem d5_10 : decode jdk_29_method_65_code 10 = .ok (.ireturn, 1) := by decide +kernel
theorem ef_5 (m : MethodId) (x0 : Int32) (x1 : Int32) : entryFrame m #[(.int x0), (.int x1)] 2 = mkF m 0 #[.val (.int x0), .val (.int x1)] [] := by first | (simp [entryFrame, mkF, argsToLocals, Value.category]; done) | rfl
def Q_rm5_0 (Z : State)  (h0 : Heap) (n0 : Nat) (v : Option Value) (h : Heap) (L : List Loc) : Prop := v = some (.int 16) ∧ Fr n0 L ∧ h = h0
set_option maxRecDepth 65536 in
set_option maxHeartbeats 40000000 in
theorem rm5_0 (l : Launch) (Z : State) (a0 : Array Value) (hw : ∀ d ∈ tables_1, d.before a0 Z = true) (ws : List Jvm.Cond)  (h0 : Heap) (n0 : Nat) (Z0 : n0 ≤ h0.size) :
    oM l y5 jdk_29_method_65_code 2 (some .int) ws (⟨0, 0, 0, 0⟩ : Room) Z h0 #[(.int 16), (.int 0)] (Q_rm5_0 Z  h0 n0) := by
  refine own_enter (Q := Q_rm5_0 Z  h0 n0) (Jvm.Free.JP.mathPlain rfl (by decide +kernel)) ?_
  intro p e s m below meth c s₁ G X0 hx hby hml hZ hown hnm hret e0 go fin
  replace hown : s.vm.findClass "java/lang/Math" = some m.cls := hown
  replace hnm : meth.name = "max" := hnm
  replace hml : c.maxLocals = 2 := hml
  rw [ef_5 m _ _]
  have N0 := Fr.nil n0
  refine go (fun tg kg => XS.iloadN X0.here hx rfl (hb hby d5_0) rfl kg) ?_
  refine go (fun tg kg => XS.iloadN X0.here hx rfl (hb hby d5_1) rfl kg) ?_
  refine go (fun tg kg => XS.icmpNo X0.here hx rfl (hb hby d5_2) rfl (flt (by decide)).1 kg) ?_
  refine go (fun tg kg => XS.iloadN X0.here hx rfl (hb hby d5_5) rfl kg) ?_
  refine go (fun tg kg => XS.goto X0.here hx rfl (pc0 := 6) (pc' := 10) rfl (hb hby d5_6) (by decide) (by decide) kg) ?_
  show G (s₁.setTop (mkF m 10 #[iv 16, iv 0] [(.int 16)]))
  refine fin (some (.int 16)) X0 (fun h => absurd h (by decide)) (fun fs hr => retOut X0 hx hret rfl (Or.inl ⟨rfl, Or.inl rfl, _, rfl⟩) (hb hby d5_10) hr) (by decide) (by decide) ?_
  rw [e0]
  exact ⟨rfl, N0, rfl⟩
theorem d4_40 : decode prog_10_method_1_code 40 = .ok (.newarray .int, 2) := by decide +kernel
theorem d4_42 : decode prog_10_method_1_code 42 = .ok (.putfield 32, 3) := by decide +kernel
theorem sn_pool_freeBlocks {Z : State} {a0 : Array Value} (hw : ∀ d ∈ tables_1, d.before a0 Z = true) : Jvm.RoadKit.slotOf Z "com/example/housemartin/housemartin/firm/Members" "pool" "[I" ≠ Jvm.RoadKit.slotOf Z "com/example/housemartin/housemartin/firm/Members" "freeBlocks" "[I" := slot_ne (Or.inl (own_w hw 51 rfl)) (Or.inr (own_w hw 40 rfl)) (by decide) (t := (.array .int)) (t' := (.array .int)) (by decide) (by decide)
theorem sn_pool_firmsOfSize {Z : State} {a0 : Array Value} (hw : ∀ d ∈ tables_1, d.before a0 Z = true) : Jvm.RoadKit.slotOf Z "com/example/housemartin/housemartin/firm/Members" "pool" "[I" ≠ Jvm.RoadKit.slotOf Z "com/example/housemartin/housemartin/firm/Members" "firmsOfSize" "[I" := slot_ne (Or.inl (own_w hw 51 rfl)) (Or.inl (own_w hw 42 rfl)) (by decide) (t := (.array .int)) (t' := (.array .int)) (by decide) (by decide)
theorem sn_pool_listed {Z : State} {a0 : Array Value} (hw : ∀ d ∈ tables_1, d.before a0 Z = true) : Jvm.RoadKit.slotOf Z "com/example/housemartin/housemartin/firm/Members" "pool" "[I" ≠ Jvm.RoadKit.slotOf Z "com/example/housemartin/housemartin/firm/Members" "listed" "Z" := slot_ne (Or.inl (own_w hw 51 rfl)) (Or.inl (own_w hw 44 rfl)) (by decide) (t := (.array .int)) (t' := .boolean) (by decide) (by decide)
theorem sn_pool_heads {Z : State} {a0 : Array Value} (hw : ∀ d ∈ tables_1, d.before a0 Z = true) : Jvm.RoadKit.slotOf Z "com/example/housemartin/housemartin/firm/Members" "pool" "[I" ≠ Jvm.RoadKit.slotOf Z "com/example/housemartin/housemartin/firm/Members" "heads" "[J" := slot_ne (Or.inl (own_w hw 51 rfl)) (Or.inr (own_w hw 46 rfl)) (by decide) (t := (.array .int)) (t' := (.array .long)) (by decide) (by decide)
theorem d4_45 : decode prog_10_method_1_code 45 = .ok (.aload_n 0, 1) := by decide +kernel
theorem d4_46 : decode prog_10_method_1_code 46 = .ok (.getfield 11, 3) := by decide +kernel
theorem sn_freeBlocks_firmsOfSize {Z : State} {a0 : Array Value} (hw : ∀ d ∈ tables_1, d.before a0 Z = true) : Jvm.RoadKit.slotOf Z "com/example/housemartin/housemartin/firm/Members" "freeBlocks" "[I" ≠ Jvm.RoadKit.slotOf Z "com/example/housemartin/housemartin/firm/Members" "firmsOfSize" "[I" := slot_ne (Or.inr (own_w hw 40 rfl)) (Or.inl (own_w hw 42 rfl)) (by decide) (t := (.array .int)) (t' := (.array .int)) (by decide) (by decide)
theorem sn_freeBlocks_listed {Z : State} {a0 : Array Value} (hw : ∀ d ∈ tables_1, d.before a0 Z = true) : Jvm.RoadKit.slotOf Z "com/example/housemartin/housemartin/firm/Members" "freeBlocks" "[I" ≠ Jvm.RoadKit.slotOf Z "com/example/housemartin/housemartin/firm/Members" "listed" "Z" := slot_ne (Or.inr (own_w hw 40 rfl)) (Or.inl (own_w hw 44 rfl)) (by decide) (t := (.array .int)) (t' := .boolean) (by decide) (by decide)
theorem sn_freeBlocks_heads {Z : State} {a0 : Array Value} (hw : ∀ d ∈ tables_1, d.before a0 Z = true) : Jvm.RoadKit.slotOf Z "com/example/housemartin/housemartin/firm/Members" "freeBlocks" "[I" ≠ Jvm.RoadKit.slotOf Z "com/example/housemartin/housemartin/firm/Members" "heads" "[J" := slot_ne (Or.inr (own_w hw 40 rfl)) (Or.inr (own_w hw 46 rfl)) (by decide) (t := (.array .int)) (t' := (.array .long)) (by decide) (by decide)
theorem sn_freeBlocks_pool {Z : State} {a0 : Array Value} (hw : ∀ d ∈ tables_1, d.before a0 Z = true) : Jvm.RoadKit.slotOf Z "com/example/housemartin/housemartin/firm/Members" "freeBlocks" "[I" ≠ Jvm.RoadKit.slotOf Z "com/example/housemartin/housemartin/firm/Members" "pool" "[I" := slot_ne (Or.inr (own_w hw 40 rfl)) (Or.inl (own_w hw 51 rfl)) (by decide) (t := (.array .int)) (t' := (.array .int)) (by decide) (by decide)
theorem d4_49 : decode prog_10_method_1_code 49 = .ok (.iconst (-1), 1) := by decide +kernel
theorem d4_50 : decode prog_10_method_1_code 50 = .ok (.invokestatic 35, 3) := by decide +kernel
theorem pd___II_V : parseMethodDescriptor "([II)V" = some ⟨[(.array .int), .int], none⟩ := by decide +kernel
theorem d4_53 : decode prog_10_method_1_code 53 = .ok (.return_, 1) := by decide +kernel
theorem pn_com_example_housemartin_housemartin_firm_Members : plainName "com/example/housemartin/housemartin/firm/Members" = true := by first | (simp [plainName, overriddenIn]; done) | decide +kernel
theorem ef_4 (m : MethodId) (x0 : Addr) (x1 : Int32) : entryFrame m #[(.ref x0), (.int x1)] 2 = mkF m 0 #[.val (.ref x0), .val (.int x1)] [] := by first | (simp [entryFrame, mkF, argsToLocals, Value.category]; done) | rfl
theorem sn_firmsOfSize_listed {Z : State} {a0 : Array Value} (hw : ∀ d ∈ tables_1, d.before a0 Z = true) : Jvm.RoadKit.slotOf Z "com/example/housemartin/housemartin/firm/Members" "firmsOfSize" "[I" ≠ Jvm.RoadKit.slotOf Z "com/example/housemartin/housemartin/firm/Members" "listed" "Z" := slot_ne (Or.inl (own_w hw 42 rfl)) (Or.inl (own_w hw 44 rfl)) (by decide) (t := (.array .int)) (t' := .boolean) (by decide) (by decide)
theorem sn_firmsOfSize_heads {Z : State} {a0 : Array Value} (hw : ∀ d ∈ tables_1, d.before a0 Z = true) : Jvm.RoadKit.slotOf Z "com/example/housemartin/housemartin/firm/Members" "firmsOfSize" "[I" ≠ Jvm.RoadKit.slotOf Z "com/example/housemartin/housemartin/firm/Members" "heads" "[J" := slot_ne (Or.inl (own_w hw 42 rfl)) (Or.inr (own_w hw 46 rfl)) (by decide) (t := (.array .int)) (t' := (.array .long)) (by decide) (by decide)
theorem sn_firmsOfSize_pool {Z : State} {a0 : Array Value} (hw : ∀ d ∈ tables_1, d.before a0 Z = true) : Jvm.RoadKit.slotOf Z "com/example/housemartin/housemartin/firm/Members" "firmsOfSize" "[I" ≠ Jvm.RoadKit.slotOf Z "com/example/housemartin/housemartin/firm/Members" "pool" "[I" := slot_ne (Or.inl (own_w hw 42 rfl)) (Or.inl (own_w hw 51 rfl)) (by decide) (t := (.array .int)) (t' := (.array .int)) (by decide) (by decide)
theorem sn_listed_heads {Z : State} {a0 : Array Value} (hw : ∀ d ∈ tables_1, d.before a0 Z = true) : Jvm.RoadKit.slotOf Z "com/example/housemartin/housemartin/firm/Members" "listed" "Z" ≠ Jvm.RoadKit.slotOf Z "com/example/housemartin/housemartin/firm/Members" "heads" "[J" := slot_ne (Or.inl (own_w hw 44 rfl)) (Or.inr (own_w hw 46 rfl)) (by decide) (t := .boolean) (t' := (.array .long)) (by decide) (by decide)
theorem sn_listed_pool {Z : State} {a0 : Array Value} (hw : ∀ d ∈ tables_1, d.before a0 Z = true) : Jvm.RoadKit.slotOf Z "com/example/housemartin/housemartin/firm/Members" "listed" "Z" ≠ Jvm.RoadKit.slotOf Z "com/example/housemartin/housemartin/firm/Members" "pool" "[I" := slot_ne (Or.inl (own_w hw 44 rfl)) (Or.inl (own_w hw 51 rfl)) (by decide) (t := .boolean) (t' := (.array .int)) (by decide) (by decide)
theorem sn_heads_pool {Z : State} {a0 : Array Value} (hw : ∀ d ∈ tables_1, d.before a0 Z = true) : Jvm.RoadKit.slotOf Z "com/example/housemartin/housemartin/firm/Members" "heads" "[J" ≠ Jvm.RoadKit.slotOf Z "com/example/housemartin/housemartin/firm/Members" "pool" "[I" := slot_ne (Or.inr (own_w hw 46 rfl)) (Or.inl (own_w hw 51 rfl)) (by decide) (t := (.array .long)) (t' := (.array .int)) (by decide) (by decide)
theorem sn_largest_freeBlocks {Z : State} {a0 : Array Value} (hw : ∀ d ∈ tables_1, d.before a0 Z = true) : Jvm.RoadKit.slotOf Z "com/example/housemartin/housemartin/firm/Members" "largest" "I" ≠ Jvm.RoadKit.slotOf Z "com/example/housemartin/housemartin/firm/Members" "freeBlocks" "[I" := slot_ne (Or.inl (own_w hw 133 rfl)) (Or.inr (own_w hw 40 rfl)) (by decide) (t := .int) (t' := (.array .int)) (by decide) (by decide)
theorem sn_largest_firmsOfSize {Z : State} {a0 : Array Value} (hw : ∀ d ∈ tables_1, d.before a0 Z = true) : Jvm.RoadKit.slotOf Z "com/example/housemartin/housemartin/firm/Members" "largest" "I" ≠ Jvm.RoadKit.slotOf Z "com/example/housemartin/housemartin/firm/Members" "firmsOfSize" "[I" := slot_ne (Or.inl (own_w hw 133 rfl)) (Or.inl (own_w hw 42 rfl)) (by decide) (t := .int) (t' := (.array .int)) (by decide) (by decide)
theorem sn_largest_listed {Z : State} {a0 : Array Value} (hw : ∀ d ∈ tables_1, d.before a0 Z = true) : Jvm.RoadKit.slotOf Z "com/example/housemartin/housemartin/firm/Members" "largest" "I" ≠ Jvm.RoadKit.slotOf Z "com/example/housemartin/housemartin/firm/Members" "listed" "Z" := slot_ne (Or.inl (own_w hw 133 rfl)) (Or.inl (own_w hw 44 rfl)) (by decide) (t := .int) (t' := .boolean) (by decide) (by decide)
theorem sn_largest_heads {Z : State} {a0 : Array Value} (hw : ∀ d ∈ tables_1, d.before a0 Z = true) : Jvm.RoadKit.slotOf Z "com/example/housemartin/housemartin/firm/Members" "largest" "I" ≠ Jvm.RoadKit.slotOf Z "com/example/housemartin/housemartin/firm/Members" "heads" "[J" := slot_ne (Or.inl (own_w hw 133 rfl)) (Or.inr (own_w hw 46 rfl)) (by decide) (t := .int) (t' := (.array .long)) (by decide) (by decide)
theorem sn_largest_pool {Z : State} {a0 : Array Value} (hw : ∀ d ∈ tables_1, d.before a0 Z = true) : Jvm.RoadKit.slotOf Z "com/example/housemartin/housemartin/firm/Members" "largest" "I" ≠ Jvm.RoadKit.slotOf Z "com/example/housemartin/housemartin/firm/Members" "pool" "[I" := slot_ne (Or.inl (own_w hw 133 rfl)) (Or.inl (own_w hw 51 rfl)) (by decide) (t := .int) (t' := (.array .int)) (by decide) (by decide)
def Q_rm4_0 (Z : State) (b1031 : Addr) (h0 : Heap) (n0 : Nat) (v : Option Value) (h : Heap) (L : List Loc) : Prop := ∃ (b2002 : Addr) (b2006 : Addr) (b2013 : Addr) (b2018 : Addr) (k2006 : ClassId) (k2013 : ClassId) (k2018 : ClassId), v = none ∧ Fr n0 L ∧ Keep h0 h [b1031] ∧ h0.size ≤ b2002 ∧ n0 ≤ b2002 ∧ h0.size ≤ b2006 ∧ n0 ≤ b2006 ∧ h0.size ≤ b2013 ∧ n0 ≤ b2013 ∧ h0.size ≤ b2018 ∧ n0 ≤ b2018 ∧ b2002 ≠ b2006 ∧ b2002 ≠ b2013 ∧ b2002 ≠ b2018 ∧ b2006 ≠ b2013 ∧ b2006 ≠ b2018 ∧ b2013 ≠ b2018 ∧ Exa Z h b1031 cM ∧ Fld Z h b1031 cM "freeBlocks" "[I" (.ref b2002) ∧ Fld Z h b1031 cM "firmsOfSize" "[I" (.ref b2006) ∧ Fld Z h b1031 cM "listed" "Z" (.int 1) ∧ Fld Z h b1031 cM "heads" "[J" (.ref b2013) ∧ Fld Z h b1031 cM "pool" "[I" (.ref b2018) ∧ Fld Z h b1031 cM "largest" "I" (.int 0) ∧ own_W Z h b2002 .int 31 ∧ Arv Z h b2006 k2006 .int 2 [(.int 0), (.int 0)] (.int 0) ∧ Arv Z h b2013 k2013 .long 4 [(.long 0), (.long 0), (.long 0), (.long 0)] (.long 0) ∧ Arv Z h b2018 k2018 .int 16 [(.int 0), (.int 0), (.int 0), (.int 0), (.int 0), (.int 0), (.int 0), (.int 0), (.int 0), (.int 0), (.int 0), (.int 0), (.int 0), (.int 0), (.int 0), (.int 0)] (.int 0)
set_option maxRecDepth 65536 in
set_option maxHeartbeats 40000000 in
theorem rm4_0 (l : Launch) (Z : State) (a0 : Array Value) (hw : ∀ d ∈ tables_1, d.before a0 Z = true) (ws : List Jvm.Cond) (b1031 : Addr) (h0 : Heap) (n0 : Nat) (Z0 : n0 ≤ h0.size) (m0 : Exa Z h0 b1031 cM) (m1 : Fld Z h0 b1031 cM "freeBlocks" "[I" .null) (m2 : Fld Z h0 b1031 cM "firmsOfSize" "[I" .null) (m3 : Fld Z h0 b1031 cM "listed" "Z" (.int 0)) (m4 : Fld Z h0 b1031 cM "heads" "[J" .null) (m5 : Fld Z h0 b1031 cM "pool" "[I" .null) (m6 : Fld Z h0 b1031 cM "largest" "I" (.int 0)) (gg_b1031 : n0 ≤ b1031) :
    oM l y4 prog_10_method_1_code 2 none ws (⟨1, 4, 53, 15⟩ : Room) Z h0 #[(.ref b1031), (.int 4)] (Q_rm4_0 Z b1031 h0 n0) := by
  refine own_enter (Q := Q_rm4_0 Z b1031 h0 n0) (plainFor_of_name pn_com_example_housemartin_housemartin_firm_Members) ?_
  intro p e s m below meth c s₁ G X0 hx hby hml hZ hown hnm hret e0 go fin
  replace hown : s.vm.findClass cM = some m.cls := hown
  replace hnm : meth.name = "<init>" := hnm
  replace hml : c.maxLocals = 2 := hml
  rw [ef_4 m b1031 _]
  have N0 := Fr.nil n0
  refine go (fun tg kg => XS.aloadN X0.here hx rfl (hb hby d4_0) rfl rfl kg) ?_
  obtain ⟨T2001, X2001, e2001, st2001⟩ := initO X0 hx hZ hown (own_w hw 38 rfl) (own_w hw 8 rfl) (own_w hw 9 rfl) e0 (g := (mkF m 1 #[rv b1031, iv 4] [(.ref b1031)])) rfl (by rw [hml]; rfl) rfl (hb hby d4_1) (by decide) (W := 0) (by show 2 * 0 + _ ≤ _; exact Nat.le_of_eq rfl) (by decide)
  refine go st2001 ?_
  refine go (fun tg kg => XS.aloadN X2001.here hx rfl (hb hby d4_4) rfl rfl kg) ?_
  refine go (fun tg kg => XS.bipush X2001.here hx rfl (hb hby d4_5) kg) ?_
  obtain ⟨T2002, h2002, k2002, X2002, e2002, E2002, A2002, st2002⟩ := newP X2001 hx hZ (own_w hw 29 rfl) e2001 (g := (mkF m 7 #[rv b1031, iv 4] [(.int 31), (.ref b1031)])) rfl (hb hby d4_7) rfl (by decide) (cap := 31) (by decide) (by decide) (by decide) (by decide)
  obtain ⟨b2002, g2002⟩ : ∃ z, z = h0.size := ⟨_, rfl⟩
  rw [← g2002] at A2002 st2002
  refine go st2002 ?_
  have V2002 : Arv Z h2002 b2002 k2002 .int (31 : Int32) [(.int 0), (.int 0), (.int 0), (.int 0), (.int 0), (.int 0), (.int 0), (.int 0), (.int 0), (.int 0), (.int 0), (.int 0), (.int 0), (.int 0), (.int 0), (.int 0), (.int 0), (.int 0), (.int 0), (.int 0), (.int 0), (.int 0), (.int 0), (.int 0), (.int 0), (.int 0), (.int 0), (.int 0), (.int 0), (.int 0), (.int 0)] (.int 0) := (Arv.new A2002 (by decide)).pad (pad_rep [] (.int 0) 31)
  have ge_b2002 : n0 ≤ b2002 := Nat.le_trans Z0 (Nat.le_of_eq g2002.symm)
  have sz_b2002 : h0.size ≤ b2002 := Nat.le_trans (Keep.refl h0 [b1031]).1 (Nat.le_of_eq g2002.symm)
  have K2002 : Keep h0 h2002 [b1031] := (Keep.refl h0 [b1031]).ext E2002
  have Z2002 := Nat.le_trans Z0 E2002.1
  show G (T2002.setTop (mkF m 9 #[rv b1031, iv 4] [(.ref b2002), (.ref b1031)]))
  have Fa2003 := (m0.ext E2002)
  have Fa2004 := (m1.ext E2002)
  obtain ⟨T2005, h2005, X2005, e2005, W2005, st2005⟩ := putF X2002 hx hZ hown (host := "") (Or.inl (own_w hw 39 rfl)) Via.refl e2002 Fa2004 Fa2003 (Or.inr ⟨(own_w hw 40 rfl), rfl, hnm⟩) (own_w hw 33 rfl) (ty := (.array .int)) (by decide) rfl rfl (g := (mkF m 9 #[rv b1031, iv 4] [(.ref b2002), (.ref b1031)])) rfl rfl (hb hby d4_9)
  refine go st2005 ?_
  have Fw2005 : Fld Z h2005 b1031 cM "freeBlocks" "[I" (.ref b2002) := Fa2004.same W2005
  have N2005 := Fr.snoc X2005 N0 gg_b1031
  have K2005 : Keep h0 h2005 [b1031] := K2002.wr W2005 (Or.inl (List.mem_of_getElem? (i := 0) rfl))
  have Z2005 := Nat.le_trans Z2002 (Keep.of_wr W2005).1
  refine go (fun tg kg => XS.aloadN X2005.here hx rfl (hb hby d4_12) rfl rfl kg) ?_
  refine go (fun tg kg => XS.iconst X2005.here hx rfl (hb hby d4_13) kg) ?_
  obtain ⟨T2006, h2006, k2006, X2006, e2006, E2006, A2006, st2006⟩ := newP X2005 hx hZ (own_w hw 29 rfl) e2005 (g := (mkF m 14 #[rv b1031, iv 4] [(.int 2), (.ref b1031)])) rfl (hb hby d4_14) rfl (by decide) (cap := 2) (by decide) (by decide) (by decide) (by decide)
  obtain ⟨b2006, g2006⟩ : ∃ z, z = h2005.size := ⟨_, rfl⟩
  rw [← g2006] at A2006 st2006
  refine go st2006 ?_
  have V2006 : Arv Z h2006 b2006 k2006 .int (2 : Int32) [(.int 0), (.int 0)] (.int 0) := (Arv.new A2006 (by decide)).pad (pad_rep [] (.int 0) 2)
  have ge_b2006 : n0 ≤ b2006 := Nat.le_trans Z2005 (Nat.le_of_eq g2006.symm)
  have sz_b2006 : h0.size ≤ b2006 := Nat.le_trans K2005.1 (Nat.le_of_eq g2006.symm)
  have K2006 : Keep h0 h2006 [b1031] := K2005.ext E2006
  have Z2006 := Nat.le_trans Z2005 E2006.1
  have Fa2007 := ((Fa2003.wr W2005).ext E2006)
  have Fa2008 := (((m2.ext E2002).other W2005 (Or.inr (sn_firmsOfSize_freeBlocks hw))).ext E2006)
  obtain ⟨T2009, h2009, X2009, e2009, W2009, st2009⟩ := putF X2006 hx hZ hown (host := "") (Or.inl (own_w hw 41 rfl)) Via.refl e2006 Fa2008 Fa2007 (Or.inl (own_w hw 42 rfl)) (own_w hw 33 rfl) (ty := (.array .int)) (by decide) rfl rfl (g := (mkF m 16 #[rv b1031, iv 4] [(.ref b2006), (.ref b1031)])) rfl rfl (hb hby d4_16)
  refine go st2009 ?_
  have Fw2009 : Fld Z h2009 b1031 cM "firmsOfSize" "[I" (.ref b2006) := Fa2008.same W2009
  have N2009 := Fr.snoc X2009 N2005 gg_b1031
  have K2009 : Keep h0 h2009 [b1031] := K2006.wr W2009 (Or.inl (List.mem_of_getElem? (i := 0) rfl))
  have Z2009 := Nat.le_trans Z2006 (Keep.of_wr W2009).1
  refine go (fun tg kg => XS.aloadN X2009.here hx rfl (hb hby d4_19) rfl rfl kg) ?_
  show G (T2009.setTop (mkF m 20 #[rv b1031, iv 4] [(.ref b1031)]))
  refine go (fun tg kg => XS.iconst X2009.here hx rfl (hb hby d4_20) kg) ?_
  have Fa2010 := (Fa2007.wr W2009)
  have Fa2011 := ((((m3.ext E2002).other W2005 (Or.inr (sn_listed_freeBlocks hw))).ext E2006).other W2009 (Or.inr (sn_listed_firmsOfSize hw)))
  obtain ⟨T2012, h2012, X2012, e2012, W2012, st2012⟩ := putFN X2009 hx hZ hown (own_w hw 43 rfl) Via.refl e2009 Fa2011 Fa2010 (Or.inl (own_w hw 44 rfl)) (own_w hw 33 rfl) (ty := .boolean) (v' := (.int (nar .boolean (1 : Int32)))) (by decide) rfl (fits_nar_bool _) (g := (mkF m 21 #[rv b1031, iv 4] [(.int 1), (.ref b1031)])) rfl rfl (hb hby d4_21)
  refine go st2012 ?_
  have Fw2012 : Fld Z h2012 b1031 cM "listed" "Z" (.int 1) := Fa2011.same W2012
  have N2012 := Fr.snoc X2012 N2009 gg_b1031
  have K2012 : Keep h0 h2012 [b1031] := K2009.wr W2012 (Or.inl (List.mem_of_getElem? (i := 0) rfl))
  have Z2012 := Nat.le_trans Z2009 (Keep.of_wr W2012).1
  refine go (fun tg kg => XS.aloadN X2012.here hx rfl (hb hby d4_24) rfl rfl kg) ?_
  refine go (fun tg kg => XS.iloadN X2012.here hx rfl (hb hby d4_25) rfl kg) ?_
  obtain ⟨T2013, h2013, k2013, X2013, e2013, E2013, A2013, st2013⟩ := newP X2012 hx hZ (own_w hw 26 rfl) e2012 (g := (mkF m 26 #[rv b1031, iv 4] [(.int 4), (.ref b1031)])) rfl (hb hby d4_26) rfl (by decide) (cap := 4) (by decide) (by decide) (by decide) (by decide)
  obtain ⟨b2013, g2013⟩ : ∃ z, z = h2012.size := ⟨_, rfl⟩
  rw [← g2013] at A2013 st2013
  refine go st2013 ?_
  have V2013 : Arv Z h2013 b2013 k2013 .long (4 : Int32) [(.long 0), (.long 0), (.long 0), (.long 0)] (.long 0) := (Arv.new A2013 (by decide)).pad (pad_rep [] (.long 0) 4)
  have ge_b2013 : n0 ≤ b2013 := Nat.le_trans Z2012 (Nat.le_of_eq g2013.symm)
  have sz_b2013 : h0.size ≤ b2013 := Nat.le_trans K2012.1 (Nat.le_of_eq g2013.symm)
  have K2013 : Keep h0 h2013 [b1031] := K2012.ext E2013
  have Z2013 := Nat.le_trans Z2012 E2013.1
  have Fa2014 := ((Fa2010.wr W2012).ext E2013)
  have Fa2015 := ((((((m4.ext E2002).other W2005 (Or.inr (sn_heads_freeBlocks hw))).ext E2006).other W2009 (Or.inr (sn_heads_firmsOfSize hw))).other W2012 (Or.inr (sn_heads_listed hw))).ext E2013)
  obtain ⟨T2016, h2016, X2016, e2016, W2016, st2016⟩ := putF X2013 hx hZ hown (host := "") (Or.inl (own_w hw 45 rfl)) Via.refl e2013 Fa2015 Fa2014 (Or.inr ⟨(own_w hw 46 rfl), rfl, hnm⟩) (own_w hw 33 rfl) (ty := (.array .long)) (by decide) rfl rfl (g := (mkF m 28 #[rv b1031, iv 4] [(.ref b2013), (.ref b1031)])) rfl rfl (hb hby d4_28)
  refine go st2016 ?_
  have Fw2016 : Fld Z h2016 b1031 cM "heads" "[J" (.ref b2013) := Fa2015.same W2016
  have N2016 := Fr.snoc X2016 N2012 gg_b1031
  have K2016 : Keep h0 h2016 [b1031] := K2013.wr W2016 (Or.inl (List.mem_of_getElem? (i := 0) rfl))
  have Z2016 := Nat.le_trans Z2013 (Keep.of_wr W2016).1
  show G (T2016.setTop (mkF m 31 #[rv b1031, iv 4] []))
  refine go (fun tg kg => XS.aloadN X2016.here hx rfl (hb hby d4_31) rfl rfl kg) ?_
  refine go (fun tg kg => XS.bipush X2016.here hx rfl (hb hby d4_32) kg) ?_
  refine go (fun tg kg => XS.iloadN X2016.here hx rfl (hb hby d4_34) rfl kg) ?_
  refine go (fun tg kg => XS.iconst X2016.here hx rfl (hb hby d4_35) kg) ?_
  refine go (fun tg kg => XS.iushr X2016.here hx rfl (hb hby d4_36) rfl kg) ?_
  show G (T2016.setTop (mkF m 37 #[rv b1031, iv 4] [(.int (((4 : Int32).toUInt32 >>> ((4 : Int32) &&& 31).toUInt32).toInt32)), (.int 16), (.ref b1031)]))
  rw [show (((4 : Int32).toUInt32 >>> ((4 : Int32) &&& 31).toUInt32).toInt32) = (0 : Int32) from by decide]
  show G (T2016.setTop (mkF m 37 #[rv b1031, iv 4] [(.int 0), (.int 16), (.ref b1031)]))
  obtain ⟨_, _, ⟨T2017, L2017, k2017, n2017⟩, -, X2017, ⟨Lc2017, hQ2017, l2017, y2017, z2017⟩, st2017⟩ := Jvm.LawKit.callS X2016 hx (y := y5) hown (mvT hZ (own_w hw 47 rfl)) (mvT hZ (own_w hw 48 rfl)) (mvT hZ (own_w hw 22 rfl)) (mvT hZ (own_w hw 49 rfl)) (by decide) (backOf (W := 1) (rm5_0 l Z a0 hw []  h2016 n0 Z2016 ) hZ (own_w hw 49 rfl) (own_w hw 22 rfl) (by decide) (by decide)) (g := (mkF m 37 #[rv b1031, iv 4] [(.int 0), (.int 16), (.ref b1031)])) rfl (by rw [hml]; rfl) (argsL := [(.int 16), (.int 0)]) (rest := [(.ref b1031)]) (lenOf pd__II_I rfl) rfl (by show 2 * 0 + _ ≤ _; exact Nat.le_of_eq rfl) (hb hby d4_37) (fun _ _ => ⟨rfl, e2016, (by decide : 3 + 0 ≤ _), (by decide : 37 + 0 ≤ _)⟩)
  dsimp only [Pt.U, Pt.locs, Pt.cells, Pt.slots] at X2017 l2017 y2017 z2017 st2017 hQ2017
  subst l2017 y2017 z2017
  obtain ⟨rfl, Nq2017, e2017⟩ := hQ2017
  have N2017 := Fr.app N2016 Nq2017
  refine go st2017 ?_
  obtain ⟨T2018, h2018, k2018, X2018, e2018, E2018, A2018, st2018⟩ := newP X2017 hx hZ (own_w hw 29 rfl) e2017 (g := (mkF m 40 #[rv b1031, iv 4] [(.int 16), (.ref b1031)])) rfl (hb hby d4_40) rfl (by decide) (cap := 16) (by decide) (by decide) (by decide) (by decide)
  obtain ⟨b2018, g2018⟩ : ∃ z, z = h2016.size := ⟨_, rfl⟩
  rw [← g2018] at A2018 st2018
  refine go st2018 ?_
  have V2018 : Arv Z h2018 b2018 k2018 .int (16 : Int32) [(.int 0), (.int 0), (.int 0), (.int 0), (.int 0), (.int 0), (.int 0), (.int 0), (.int 0), (.int 0), (.int 0), (.int 0), (.int 0), (.int 0), (.int 0), (.int 0)] (.int 0) := (Arv.new A2018 (by decide)).pad (pad_rep [] (.int 0) 16)
  have ge_b2018 : n0 ≤ b2018 := Nat.le_trans Z2016 (Nat.le_of_eq g2018.symm)
  have sz_b2018 : h0.size ≤ b2018 := Nat.le_trans K2016.1 (Nat.le_of_eq g2018.symm)
  have K2018 : Keep h0 h2018 [b1031] := K2016.ext E2018
  have Z2018 := Nat.le_trans Z2016 E2018.1
  show G (T2018.setTop (mkF m 42 #[rv b1031, iv 4] [(.ref b2018), (.ref b1031)]))
  have Fa2019 := ((Fa2014.wr W2016).ext E2018)
  have Fa2020 := ((((((((m5.ext E2002).other W2005 (Or.inr (sn_pool_freeBlocks hw))).ext E2006).other W2009 (Or.inr (sn_pool_firmsOfSize hw))).other W2012 (Or.inr (sn_pool_listed hw))).ext E2013).other W2016 (Or.inr (sn_pool_heads hw))).ext E2018)
  obtain ⟨T2021, h2021, X2021, e2021, W2021, st2021⟩ := putF X2018 hx hZ hown (host := "") (Or.inl (own_w hw 50 rfl)) Via.refl e2018 Fa2020 Fa2019 (Or.inl (own_w hw 51 rfl)) (own_w hw 33 rfl) (ty := (.array .int)) (by decide) rfl rfl (g := (mkF m 42 #[rv b1031, iv 4] [(.ref b2018), (.ref b1031)])) rfl rfl (hb hby d4_42)
  refine go st2021 ?_
  have Fw2021 : Fld Z h2021 b1031 cM "pool" "[I" (.ref b2018) := Fa2020.same W2021
  have N2021 := Fr.snoc X2021 N2017 gg_b1031
  have K2021 : Keep h0 h2021 [b1031] := K2018.wr W2021 (Or.inl (List.mem_of_getElem? (i := 0) rfl))
  have Z2021 := Nat.le_trans Z2018 (Keep.of_wr W2021).1
  refine go (fun tg kg => XS.aloadN X2021.here hx rfl (hb hby d4_45) rfl rfl kg) ?_
  have Fa2022 := (Fa2019.wr W2021)
  have Fa2023 := (((((((Fw2005.ext E2006).other W2009 (Or.inr (sn_freeBlocks_firmsOfSize hw))).other W2012 (Or.inr (sn_freeBlocks_listed hw))).ext E2013).other W2016 (Or.inr (sn_freeBlocks_heads hw))).ext E2018).other W2021 (Or.inr (sn_freeBlocks_pool hw)))
  obtain ⟨T2024, X2024, e2024, st2024⟩ := getF X2021 hx hZ hown (host := "") (Or.inl (own_w hw 39 rfl)) Via.refl e2021 Fa2023 (g := (mkF m 46 #[rv b1031, iv 4] [(.ref b1031)])) rfl rfl (hb hby d4_46)
  refine go st2024 ?_
  refine go (fun tg kg => XS.iconst X2024.here hx rfl (hb hby d4_49) kg) ?_
  have nn2026 : b1031 ≠ b2002 := (Nat.ne_of_lt (Nat.lt_of_lt_of_le m6.lt (Nat.le_of_eq g2002.symm)))
  have Fa2027 := ((((((((V2002.other W2005 (Ne.symm nn2026)).ext E2006).other W2009 (Ne.symm nn2026)).other W2012 (Ne.symm nn2026)).ext E2013).other W2016 (Ne.symm nn2026)).ext E2018).other W2021 (Ne.symm nn2026))
  obtain ⟨_, _, ⟨T2025, L2025, k2025, n2025⟩, -, X2025, ⟨Lc2025, hQ2025, l2025, y2025, z2025⟩, st2025⟩ := Jvm.LawKit.callS X2024 hx (y := y6) hown (mvT hZ (own_w hw 52 rfl)) (mvT hZ (own_w hw 53 rfl)) (mvT hZ (own_w hw 54 rfl)) (mvT hZ (own_w hw 55 rfl)) (by decide) (backOf (W := 0) (rm6 l Z a0 hw [] b2002 (-1) k2002 h2021 n0 Z2021 ge_b2002 Fa2027) hZ (own_w hw 55 rfl) (own_w hw 54 rfl) (by decide) (by decide)) (g := (mkF m 50 #[rv b1031, iv 4] [(.int (-1)), (.ref b2002)])) rfl (by rw [hml]; rfl) (argsL := [(.ref b2002), (.int (-1))]) (rest := []) (lenOf pd___II_V rfl) rfl (by show 2 * 0 + _ ≤ _; exact Nat.le_of_eq rfl) (hb hby d4_50) (fun _ _ => ⟨rfl, e2024, (by decide : 4 + 0 ≤ _), (by decide : 53 + 0 ≤ _)⟩)
  dsimp only [Pt.U, Pt.locs, Pt.cells, Pt.slots] at X2025 l2025 y2025 z2025 st2025 hQ2025
  subst l2025 y2025 z2025
  obtain ⟨rfl, Nq2025, K2025, Gw2025⟩ := hQ2025
  have Kk2025 : Keep h0 T2025.heap [b1031] := K2021.trans K2025 (allS (Or.inr sz_b2002) all0)
  have Z2025 := Nat.le_trans Z2021 K2025.1
  have N2025 := Fr.app N2021 Nq2025
  refine go st2025 ?_
  refine fin (none) X2025 (fun h => rfl) (fun fs hr => X2025.returnOut hx hret (hb hby d4_53) hr) (by decide) (by decide) ?_
  have Fa2028 := (Fa2022.keep K2025)
  have Fa2029 := (Fa2023.keep K2025 (ninS nn2026 nin0))
  have Fa2030 := ((((((Fw2009.other W2012 (Or.inr (sn_firmsOfSize_listed hw))).ext E2013).other W2016 (Or.inr (sn_firmsOfSize_heads hw))).ext E2018).other W2021 (Or.inr (sn_firmsOfSize_pool hw))).keep K2025 (ninS nn2026 nin0))
  have Fa2031 := (((((Fw2012.ext E2013).other W2016 (Or.inr (sn_listed_heads hw))).ext E2018).other W2021 (Or.inr (sn_listed_pool hw))).keep K2025 (ninS nn2026 nin0))
  have Fa2032 := (((Fw2016.ext E2018).other W2021 (Or.inr (sn_heads_pool hw))).keep K2025 (ninS nn2026 nin0))
  have Fa2033 := (Fw2021.keep K2025 (ninS nn2026 nin0))
  have Fa2034 := ((((((((((m6.ext E2002).other W2005 (Or.inr (sn_largest_freeBlocks hw))).ext E2006).other W2009 (Or.inr (sn_largest_firmsOfSize hw))).other W2012 (Or.inr (sn_largest_listed hw))).ext E2013).other W2016 (Or.inr (sn_largest_heads hw))).ext E2018).other W2021 (Or.inr (sn_largest_pool hw))).keep K2025 (ninS nn2026 nin0))
  have nn2035 : b1031 ≠ b2006 := (Nat.ne_of_lt (Nat.lt_of_lt_of_le ((m6.ext E2002).other W2005 (Or.inr (sn_largest_freeBlocks hw))).lt (Nat.le_of_eq g2006.symm)))
  have nn2036 : b2002 ≠ b2006 := (Nat.ne_of_lt (Nat.lt_of_lt_of_le (V2002.other W2005 (Ne.symm nn2026)).lt (Nat.le_of_eq g2006.symm)))
  have Fa2037 := (((((((V2006.other W2009 (Ne.symm nn2035)).other W2012 (Ne.symm nn2035)).ext E2013).other W2016 (Ne.symm nn2035)).ext E2018).other W2021 (Ne.symm nn2035)).keep K2025 (ninS (Ne.symm nn2036) nin0))
  have nn2038 : b1031 ≠ b2013 := (Nat.ne_of_lt (Nat.lt_of_lt_of_le (((((m6.ext E2002).other W2005 (Or.inr (sn_largest_freeBlocks hw))).ext E2006).other W2009 (Or.inr (sn_largest_firmsOfSize hw))).other W2012 (Or.inr (sn_largest_listed hw))).lt (Nat.le_of_eq g2013.symm)))
  have nn2039 : b2002 ≠ b2013 := (Nat.ne_of_lt (Nat.lt_of_lt_of_le ((((V2002.other W2005 (Ne.symm nn2026)).ext E2006).other W2009 (Ne.symm nn2026)).other W2012 (Ne.symm nn2026)).lt (Nat.le_of_eq g2013.symm)))
  have Fa2040 := ((((V2013.other W2016 (Ne.symm nn2038)).ext E2018).other W2021 (Ne.symm nn2038)).keep K2025 (ninS (Ne.symm nn2039) nin0))
  have nn2041 : b1031 ≠ b2018 := (Nat.ne_of_lt (Nat.lt_of_lt_of_le (((((((m6.ext E2002).other W2005 (Or.inr (sn_largest_freeBlocks hw))).ext E2006).other W2009 (Or.inr (sn_largest_firmsOfSize hw))).other W2012 (Or.inr (sn_largest_listed hw))).ext E2013).other W2016 (Or.inr (sn_largest_heads hw))).lt (Nat.le_of_eq g2018.symm)))
  have nn2042 : b2002 ≠ b2018 := (Nat.ne_of_lt (Nat.lt_of_lt_of_le ((((((V2002.other W2005 (Ne.symm nn2026)).ext E2006).other W2009 (Ne.symm nn2026)).other W2012 (Ne.symm nn2026)).ext E2013).other W2016 (Ne.symm nn2026)).lt (Nat.le_of_eq g2018.symm)))
  have Fa2043 := ((V2018.other W2021 (Ne.symm nn2041)).keep K2025 (ninS (Ne.symm nn2042) nin0))
  have nn2044 : b2006 ≠ b2013 := (Nat.ne_of_lt (Nat.lt_of_lt_of_le ((V2006.other W2009 (Ne.symm nn2035)).other W2012 (Ne.symm nn2035)).lt (Nat.le_of_eq g2013.symm)))
  have nn2045 : b2006 ≠ b2018 := (Nat.ne_of_lt (Nat.lt_of_lt_of_le ((((V2006.other W2009 (Ne.symm nn2035)).other W2012 (Ne.symm nn2035)).ext E2013).other W2016 (Ne.symm nn2035)).lt (Nat.le_of_eq g2018.symm)))
  have nn2046 : b2013 ≠ b2018 := (Nat.ne_of_lt (Nat.lt_of_lt_of_le (V2013.other W2016 (Ne.symm nn2038)).lt (Nat.le_of_eq g2018.symm)))
  exact ⟨b2002, b2006, b2013, b2018, k2006, k2013, k2018, rfl, N2025, Kk2025, sz_b2002, ge_b2002, sz_b2006, ge_b2006, sz_b2013, ge_b2013, sz_b2018, ge_b2018, nn2036, nn2039, nn2042, nn2044, nn2045, nn2046, Fa2028, Fa2029, Fa2030, Fa2031, Fa2032, Fa2033, Fa2034, Gw2025, Fa2037, Fa2040, Fa2043⟩
theorem pd__I_V : parseMethodDescriptor "(I)V" = some ⟨[.int], none⟩ := by decide +kernel
theorem d1_94 : decode prog_8_method_1_code 94 = .ok (.putfield 45, 3) := by decide +kernel
theorem sn_members_freeSlot {Z : State} {a0 : Array Value} (hw : ∀ d ∈ tables_1, d.before a0 Z = true) : Jvm.RoadKit.slotOf Z "com/example/housemartin/housemartin/firm/FirmSlots" "members" "Lcom/example/housemartin/housemartin/firm/Members;" ≠ Jvm.RoadKit.slotOf Z "com/example/housemartin/housemartin/firm/FirmSlots" "freeSlot" "I" := slot_ne (Or.inr (own_w hw 57 rfl)) (Or.inl (own_w hw 11 rfl)) (by decide) (t := (.object "com/example/housemartin/housemartin/firm/Members")) (t' := .int) (by decide) (by decide)
theorem sn_members_nextId {Z : State} {a0 : Array Value} (hw : ∀ d ∈ tables_1, d.before a0 Z = true) : Jvm.RoadKit.slotOf Z "com/example/housemartin/housemartin/firm/FirmSlots" "members" "Lcom/example/housemartin/housemartin/firm/Members;" ≠ Jvm.RoadKit.slotOf Z "com/example/housemartin/housemartin/firm/FirmSlots" "nextId" "J" := slot_ne (Or.inr (own_w hw 57 rfl)) (Or.inl (own_w hw 13 rfl)) (by decide) (t := (.object "com/example/housemartin/housemartin/firm/Members")) (t' := .long) (by decide) (by decide)
theorem sn_members_pages {Z : State} {a0 : Array Value} (hw : ∀ d ∈ tables_1, d.before a0 Z = true) : Jvm.RoadKit.slotOf Z "com/example/housemartin/housemartin/firm/FirmSlots" "members" "Lcom/example/housemartin/housemartin/firm/Members;" ≠ Jvm.RoadKit.slotOf Z "com/example/housemartin/housemartin/firm/FirmSlots" "pages" "[[D" := slot_ne (Or.inr (own_w hw 57 rfl)) (Or.inr (own_w hw 18 rfl)) (by decide) (t := (.object "com/example/housemartin/housemartin/firm/Members")) (t' := (.array (.array .double))) (by decide) (by decide)
theorem sn_members_ids {Z : State} {a0 : Array Value} (hw : ∀ d ∈ tables_1, d.before a0 Z = true) : Jvm.RoadKit.slotOf Z "com/example/housemartin/housemartin/firm/FirmSlots" "members" "Lcom/example/housemartin/housemartin/firm/Members;" ≠ Jvm.RoadKit.slotOf Z "com/example/housemartin/housemartin/firm/FirmSlots" "ids" "[J" := slot_ne (Or.inr (own_w hw 57 rfl)) (Or.inr (own_w hw 28 rfl)) (by decide) (t := (.object "com/example/housemartin/housemartin/firm/Members")) (t' := (.array .long)) (by decide) (by decide)
theorem sn_members_births {Z : State} {a0 : Array Value} (hw : ∀ d ∈ tables_1, d.before a0 Z = true) : Jvm.RoadKit.slotOf Z "com/example/housemartin/housemartin/firm/FirmSlots" "members" "Lcom/example/housemartin/housemartin/firm/Members;" ≠ Jvm.RoadKit.slotOf Z "com/example/housemartin/housemartin/firm/FirmSlots" "births" "[I" := slot_ne (Or.inr (own_w hw 57 rfl)) (Or.inr (own_w hw 31 rfl)) (by decide) (t := (.object "com/example/housemartin/housemartin/firm/Members")) (t' := (.array .int)) (by decide) (by decide)
theorem sn_freeSlot_pages {Z : State} {a0 : Array Value} (hw : ∀ d ∈ tables_1, d.before a0 Z = true) : Jvm.RoadKit.slotOf Z "com/example/housemartin/housemartin/firm/FirmSlots" "freeSlot" "I" ≠ Jvm.RoadKit.slotOf Z "com/example/housemartin/housemartin/firm/FirmSlots" "pages" "[[D" := slot_ne (Or.inl (own_w hw 11 rfl)) (Or.inr (own_w hw 18 rfl)) (by decide) (t := .int) (t' := (.array (.array .double))) (by decide) (by decide)
theorem sn_freeSlot_ids {Z : State} {a0 : Array Value} (hw : ∀ d ∈ tables_1, d.before a0 Z = true) : Jvm.RoadKit.slotOf Z "com/example/housemartin/housemartin/firm/FirmSlots" "freeSlot" "I" ≠ Jvm.RoadKit.slotOf Z "com/example/housemartin/housemartin/firm/FirmSlots" "ids" "[J" := slot_ne (Or.inl (own_w hw 11 rfl)) (Or.inr (own_w hw 28 rfl)) (by decide) (t := .int) (t' := (.array .long)) (by decide) (by decide)
theorem sn_freeSlot_births {Z : State} {a0 : Array Value} (hw : ∀ d ∈ tables_1, d.before a0 Z = true) : Jvm.RoadKit.slotOf Z "com/example/housemartin/housemartin/firm/FirmSlots" "freeSlot" "I" ≠ Jvm.RoadKit.slotOf Z "com/example/housemartin/housemartin/firm/FirmSlots" "births" "[I" := slot_ne (Or.inl (own_w hw 11 rfl)) (Or.inr (own_w hw 31 rfl)) (by decide) (t := .int) (t' := (.array .int)) (by decide) (by decide)
theorem d1_97 : decode prog_8_method_1_code 97 = .ok (.aload_n 0, 1) := by decide +kernel
theorem d1_98 : decode prog_8_method_1_code 98 = .ok (.iload_n 1, 1) := by decide +kernel
theorem d1_99 : decode prog_8_method_1_code 99 = .ok (.bipush 63, 2) := by decide +kernel
theorem d1_101 : decode prog_8_method_1_code 101 = .ok (.iadd, 1) := by decide +kernel
theorem d1_102 : decode prog_8_method_1_code 102 = .ok (.bipush 6, 2) := by decide +kernel
theorem d1_104 : decode prog_8_method_1_code 104 = .ok (.iushr, 1) := by decide +kernel
theorem d1_105 : decode prog_8_method_1_code 105 = .ok (.newarray .long, 2) := by decide +kernel
theorem d1_107 : decode prog_8_method_1_code 107 = .ok (.putfield 49, 3) := by decide +kernel
theorem sn_changedNow_freeSlot {Z : State} {a0 : Array Value} (hw : ∀ d ∈ tables_1, d.before a0 Z = true) : Jvm.RoadKit.slotOf Z "com/example/housemartin/housemartin/firm/FirmSlots" "changedNow" "[J" ≠ Jvm.RoadKit.slotOf Z "com/example/housemartin/housemartin/firm/FirmSlots" "freeSlot" "I" := slot_ne (Or.inl (own_w hw 59 rfl)) (Or.inl (own_w hw 11 rfl)) (by decide) (t := (.array .long)) (t' := .int) (by decide) (by decide)
theorem sn_changedNow_nextId {Z : State} {a0 : Array Value} (hw : ∀ d ∈ tables_1, d.before a0 Z = true) : Jvm.RoadKit.slotOf Z "com/example/housemartin/housemartin/firm/FirmSlots" "changedNow" "[J" ≠ Jvm.RoadKit.slotOf Z "com/example/housemartin/housemartin/firm/FirmSlots" "nextId" "J" := slot_ne (Or.inl (own_w hw 59 rfl)) (Or.inl (own_w hw 13 rfl)) (by decide) (t := (.array .long)) (t' := .long) (by decide) (by decide)
theorem sn_changedNow_pages {Z : State} {a0 : Array Value} (hw : ∀ d ∈ tables_1, d.before a0 Z = true) : Jvm.RoadKit.slotOf Z "com/example/housemartin/housemartin/firm/FirmSlots" "changedNow" "[J" ≠ Jvm.RoadKit.slotOf Z "com/example/housemartin/housemartin/firm/FirmSlots" "pages" "[[D" := slot_ne (Or.inl (own_w hw 59 rfl)) (Or.inr (own_w hw 18 rfl)) (by decide) (t := (.array .long)) (t' := (.array (.array .double))) (by decide) (by decide)
theorem sn_changedNow_ids {Z : State} {a0 : Array Value} (hw : ∀ d ∈ tables_1, d.before a0 Z = true) : Jvm.RoadKit.slotOf Z "com/example/housemartin/housemartin/firm/FirmSlots" "changedNow" "[J" ≠ Jvm.RoadKit.slotOf Z "com/example/housemartin/housemartin/firm/FirmSlots" "ids" "[J" := slot_ne (Or.inl (own_w hw 59 rfl)) (Or.inr (own_w hw 28 rfl)) (by decide) (t := (.array .long)) (t' := (.array .long)) (by decide) (by decide)
theorem sn_changedNow_births {Z : State} {a0 : Array Value} (hw : ∀ d ∈ tables_1, d.before a0 Z = true) : Jvm.RoadKit.slotOf Z "com/example/housemartin/housemartin/firm/FirmSlots" "changedNow" "[J" ≠ Jvm.RoadKit.slotOf Z "com/example/housemartin/housemartin/firm/FirmSlots" "births" "[I" := slot_ne (Or.inl (own_w hw 59 rfl)) (Or.inr (own_w hw 31 rfl)) (by decide) (t := (.array .long)) (t' := (.array .int)) (by decide) (by decide)
theorem sn_changedNow_members {Z : State} {a0 : Array Value} (hw : ∀ d ∈ tables_1, d.before a0 Z = true) : Jvm.RoadKit.slotOf Z "com/example/housemartin/housemartin/firm/FirmSlots" "changedNow" "[J" ≠ Jvm.RoadKit.slotOf Z "com/example/housemartin/housemartin/firm/FirmSlots" "members" "Lcom/example/housemartin/housemartin/firm/Members;" := slot_ne (Or.inl (own_w hw 59 rfl)) (Or.inr (own_w hw 57 rfl)) (by decide) (t := (.array .long)) (t' := (.object "com/example/housemartin/housemartin/firm/Members")) (by decide) (by decide)
theorem d1_110 : decode prog_8_method_1_code 110 = .ok (.aload_n 0, 1) := by decide +kernel
theorem d1_111 : decode prog_8_method_1_code 111 = .ok (.aload_n 0, 1) := by decide +kernel
theorem d1_112 : decode prog_8_method_1_code 112 = .ok (.getfield 49, 3) := by decide +kernel
theorem d1_115 : decode prog_8_method_1_code 115 = .ok (.arraylength, 1) := by decide +kernel
theorem sn_freeSlot_members {Z : State} {a0 : Array Value} (hw : ∀ d ∈ tables_1, d.before a0 Z = true) : Jvm.RoadKit.slotOf Z "com/example/housemartin/housemartin/firm/FirmSlots" "freeSlot" "I" ≠ Jvm.RoadKit.slotOf Z "com/example/housemartin/housemartin/firm/FirmSlots" "members" "Lcom/example/housemartin/housemartin/firm/Members;" := slot_ne (Or.inl (own_w hw 11 rfl)) (Or.inr (own_w hw 57 rfl)) (by decide) (t := .int) (t' := (.object "com/example/housemartin/housemartin/firm/Members")) (by decide) (by decide)
theorem d1_116 : decode prog_8_method_1_code 116 = .ok (.newarray .long, 2) := by decide +kernel
theorem d1_118 : decode prog_8_method_1_code 118 = .ok (.putfield 52, 3) := by decide +kernel
theorem sn_changedBefore_freeSlot {Z : State} {a0 : Array Value} (hw : ∀ d ∈ tables_1, d.before a0 Z = true) : Jvm.RoadKit.slotOf Z "com/example/housemartin/housemartin/firm/FirmSlots" "changedBefore" "[J" ≠ Jvm.RoadKit.slotOf Z "com/example/housemartin/housemartin/firm/FirmSlots" "freeSlot" "I" := slot_ne (Or.inl (own_w hw 61 rfl)) (Or.inl (own_w hw 11 rfl)) (by decide) (t := (.array .long)) (t' := .int) (by decide) (by decide)
theorem sn_changedBefore_nextId {Z : State} {a0 : Array Value} (hw : ∀ d ∈ tables_1, d.before a0 Z = true) : Jvm.RoadKit.slotOf Z "com/example/housemartin/housemartin/firm/FirmSlots" "changedBefore" "[J" ≠ Jvm.RoadKit.slotOf Z "com/example/housemartin/housemartin/firm/FirmSlots" "nextId" "J" := slot_ne (Or.inl (own_w hw 61 rfl)) (Or.inl (own_w hw 13 rfl)) (by decide) (t := (.array .long)) (t' := .long) (by decide) (by decide)
theorem sn_changedBefore_pages {Z : State} {a0 : Array Value} (hw : ∀ d ∈ tables_1, d.before a0 Z = true) : Jvm.RoadKit.slotOf Z "com/example/housemartin/housemartin/firm/FirmSlots" "changedBefore" "[J" ≠ Jvm.RoadKit.slotOf Z "com/example/housemartin/housemartin/firm/FirmSlots" "pages" "[[D" := slot_ne (Or.inl (own_w hw 61 rfl)) (Or.inr (own_w hw 18 rfl)) (by decide) (t := (.array .long)) (t' := (.array (.array .double))) (by decide) (by decide)
theorem sn_changedBefore_ids {Z : State} {a0 : Array Value} (hw : ∀ d ∈ tables_1, d.before a0 Z = true) : Jvm.RoadKit.slotOf Z "com/example/housemartin/housemartin/firm/FirmSlots" "changedBefore" "[J" ≠ Jvm.RoadKit.slotOf Z "com/example/housemartin/housemartin/firm/FirmSlots" "ids" "[J" := slot_ne (Or.inl (own_w hw 61 rfl)) (Or.inr (own_w hw 28 rfl)) (by decide) (t := (.array .long)) (t' := (.array .long)) (by decide) (by decide)
theorem sn_changedBefore_births {Z : State} {a0 : Array Value} (hw : ∀ d ∈ tables_1, d.before a0 Z = true) : Jvm.RoadKit.slotOf Z "com/example/housemartin/housemartin/firm/FirmSlots" "changedBefore" "[J" ≠ Jvm.RoadKit.slotOf Z "com/example/housemartin/housemartin/firm/FirmSlots" "births" "[I" := slot_ne (Or.inl (own_w hw 61 rfl)) (Or.inr (own_w hw 31 rfl)) (by decide) (t := (.array .long)) (t' := (.array .int)) (by decide) (by decide)
theorem sn_changedBefore_members {Z : State} {a0 : Array Value} (hw : ∀ d ∈ tables_1, d.before a0 Z = true) : Jvm.RoadKit.slotOf Z "com/example/housemartin/housemartin/firm/FirmSlots" "changedBefore" "[J" ≠ Jvm.RoadKit.slotOf Z "com/example/housemartin/housemartin/firm/FirmSlots" "members" "Lcom/example/housemartin/housemartin/firm/Members;" := slot_ne (Or.inl (own_w hw 61 rfl)) (Or.inr (own_w hw 57 rfl)) (by decide) (t := (.array .long)) (t' := (.object "com/example/housemartin/housemartin/firm/Members")) (by decide) (by decide)
theorem sn_changedBefore_changedNow {Z : State} {a0 : Array Value} (hw : ∀ d ∈ tables_1, d.before a0 Z = true) : Jvm.RoadKit.slotOf Z "com/example/housemartin/housemartin/firm/FirmSlots" "changedBefore" "[J" ≠ Jvm.RoadKit.slotOf Z "com/example/housemartin/housemartin/firm/FirmSlots" "changedNow" "[J" := slot_ne (Or.inl (own_w hw 61 rfl)) (Or.inl (own_w hw 59 rfl)) (by decide) (t := (.array .long)) (t' := (.array .long)) (by decide) (by decide)
theorem d1_121 : decode prog_8_method_1_code 121 = .ok (.return_, 1) := by decide +kernel
theorem pn_com_example_housemartin_housemartin_firm_FirmSlots : plainName "com/example/housemartin/housemartin/firm/FirmSlots" = true := by first | (simp [plainName, overriddenIn]; done) | decide +kernel
theorem ef_1 (m : MethodId) (x0 : Addr) (x1 : Int32) : entryFrame m #[(.ref x0), (.int x1)] 4 = mkF m 0 #[.val (.ref x0), .val (.int x1), .unset, .unset] [] := by first | (simp [entryFrame, mkF, argsToLocals, Value.category]; done) | rfl
theorem sn_freeSlot_changedNow {Z : State} {a0 : Array Value} (hw : ∀ d ∈ tables_1, d.before a0 Z = true) : Jvm.RoadKit.slotOf Z "com/example/housemartin/housemartin/firm/FirmSlots" "freeSlot" "I" ≠ Jvm.RoadKit.slotOf Z "com/example/housemartin/housemartin/firm/FirmSlots" "changedNow" "[J" := slot_ne (Or.inl (own_w hw 11 rfl)) (Or.inl (own_w hw 59 rfl)) (by decide) (t := .int) (t' := (.array .long)) (by decide) (by decide)
theorem sn_freeSlot_changedBefore {Z : State} {a0 : Array Value} (hw : ∀ d ∈ tables_1, d.before a0 Z = true) : Jvm.RoadKit.slotOf Z "com/example/housemartin/housemartin/firm/FirmSlots" "freeSlot" "I" ≠ Jvm.RoadKit.slotOf Z "com/example/housemartin/housemartin/firm/FirmSlots" "changedBefore" "[J" := slot_ne (Or.inl (own_w hw 11 rfl)) (Or.inl (own_w hw 61 rfl)) (by decide) (t := .int) (t' := (.array .long)) (by decide) (by decide)
theorem sn_nextId_pages {Z : State} {a0 : Array Value} (hw : ∀ d ∈ tables_1, d.before a0 Z = true) : Jvm.RoadKit.slotOf Z "com/example/housemartin/housemartin/firm/FirmSlots" "nextId" "J" ≠ Jvm.RoadKit.slotOf Z "com/example/housemartin/housemartin/firm/FirmSlots" "pages" "[[D" := slot_ne (Or.inl (own_w hw 13 rfl)) (Or.inr (own_w hw 18 rfl)) (by decide) (t := .long) (t' := (.array (.array .double))) (by decide) (by decide)
theorem sn_nextId_ids {Z : State} {a0 : Array Value} (hw : ∀ d ∈ tables_1, d.before a0 Z = true) : Jvm.RoadKit.slotOf Z "com/example/housemartin/housemartin/firm/FirmSlots" "nextId" "J" ≠ Jvm.RoadKit.slotOf Z "com/example/housemartin/housemartin/firm/FirmSlots" "ids" "[J" := slot_ne (Or.inl (own_w hw 13 rfl)) (Or.inr (own_w hw 28 rfl)) (by decide) (t := .long) (t' := (.array .long)) (by decide) (by decide)
theorem sn_nextId_births {Z : State} {a0 : Array Value} (hw : ∀ d ∈ tables_1, d.before a0 Z = true) : Jvm.RoadKit.slotOf Z "com/example/housemartin/housemartin/firm/FirmSlots" "nextId" "J" ≠ Jvm.RoadKit.slotOf Z "com/example/housemartin/housemartin/firm/FirmSlots" "births" "[I" := slot_ne (Or.inl (own_w hw 13 rfl)) (Or.inr (own_w hw 31 rfl)) (by decide) (t := .long) (t' := (.array .int)) (by decide) (by decide)
theorem sn_nextId_members {Z : State} {a0 : Array Value} (hw : ∀ d ∈ tables_1, d.before a0 Z = true) : Jvm.RoadKit.slotOf Z "com/example/housemartin/housemartin/firm/FirmSlots" "nextId" "J" ≠ Jvm.RoadKit.slotOf Z "com/example/housemartin/housemartin/firm/FirmSlots" "members" "Lcom/example/housemartin/housemartin/firm/Members;" := slot_ne (Or.inl (own_w hw 13 rfl)) (Or.inr (own_w hw 57 rfl)) (by decide) (t := .long) (t' := (.object "com/example/housemartin/housemartin/firm/Members")) (by decide) (by decide)
theorem sn_nextId_changedNow {Z : State} {a0 : Array Value} (hw : ∀ d ∈ tables_1, d.before a0 Z = true) : Jvm.RoadKit.slotOf Z "com/example/housemartin/housemartin/firm/FirmSlots" "nextId" "J" ≠ Jvm.RoadKit.slotOf Z "com/example/housemartin/housemartin/firm/FirmSlots" "changedNow" "[J" := slot_ne (Or.inl (own_w hw 13 rfl)) (Or.inl (own_w hw 59 rfl)) (by decide) (t := .long) (t' := (.array .long)) (by decide) (by decide)
theorem sn_nextId_changedBefore {Z : State} {a0 : Array Value} (hw : ∀ d ∈ tables_1, d.before a0 Z = true) : Jvm.RoadKit.slotOf Z "com/example/housemartin/housemartin/firm/FirmSlots" "nextId" "J" ≠ Jvm.RoadKit.slotOf Z "com/example/housemartin/housemartin/firm/FirmSlots" "changedBefore" "[J" := slot_ne (Or.inl (own_w hw 13 rfl)) (Or.inl (own_w hw 61 rfl)) (by decide) (t := .long) (t' := (.array .long)) (by decide) (by decide)
theorem sn_pages_ids {Z : State} {a0 : Array Value} (hw : ∀ d ∈ tables_1, d.before a0 Z = true) : Jvm.RoadKit.slotOf Z "com/example/housemartin/housemartin/firm/FirmSlots" "pages" "[[D" ≠ Jvm.RoadKit.slotOf Z "com/example/housemartin/housemartin/firm/FirmSlots" "ids" "[J" := slot_ne (Or.inr (own_w hw 18 rfl)) (Or.inr (own_w hw 28 rfl)) (by decide) (t := (.array (.array .double))) (t' := (.array .long)) (by decide) (by decide)
theorem sn_pages_births {Z : State} {a0 : Array Value} (hw : ∀ d ∈ tables_1, d.before a0 Z = true) : Jvm.RoadKit.slotOf Z "com/example/housemartin/housemartin/firm/FirmSlots" "pages" "[[D" ≠ Jvm.RoadKit.slotOf Z "com/example/housemartin/housemartin/firm/FirmSlots" "births" "[I" := slot_ne (Or.inr (own_w hw 18 rfl)) (Or.inr (own_w hw 31 rfl)) (by decide) (t := (.array (.array .double))) (t' := (.array .int)) (by decide) (by decide)
theorem sn_pages_members {Z : State} {a0 : Array Value} (hw : ∀ d ∈ tables_1, d.before a0 Z = true) : Jvm.RoadKit.slotOf Z "com/example/housemartin/housemartin/firm/FirmSlots" "pages" "[[D" ≠ Jvm.RoadKit.slotOf Z "com/example/housemartin/housemartin/firm/FirmSlots" "members" "Lcom/example/housemartin/housemartin/firm/Members;" := slot_ne (Or.inr (own_w hw 18 rfl)) (Or.inr (own_w hw 57 rfl)) (by decide) (t := (.array (.array .double))) (t' := (.object "com/example/housemartin/housemartin/firm/Members")) (by decide) (by decide)
theorem sn_pages_changedNow {Z : State} {a0 : Array Value} (hw : ∀ d ∈ tables_1, d.before a0 Z = true) : Jvm.RoadKit.slotOf Z "com/example/housemartin/housemartin/firm/FirmSlots" "pages" "[[D" ≠ Jvm.RoadKit.slotOf Z "com/example/housemartin/housemartin/firm/FirmSlots" "changedNow" "[J" := slot_ne (Or.inr (own_w hw 18 rfl)) (Or.inl (own_w hw 59 rfl)) (by decide) (t := (.array (.array .double))) (t' := (.array .long)) (by decide) (by decide)
theorem sn_pages_changedBefore {Z : State} {a0 : Array Value} (hw : ∀ d ∈ tables_1, d.before a0 Z = true) : Jvm.RoadKit.slotOf Z "com/example/housemartin/housemartin/firm/FirmSlots" "pages" "[[D" ≠ Jvm.RoadKit.slotOf Z "com/example/housemartin/housemartin/firm/FirmSlots" "changedBefore" "[J" := slot_ne (Or.inr (own_w hw 18 rfl)) (Or.inl (own_w hw 61 rfl)) (by decide) (t := (.array (.array .double))) (t' := (.array .long)) (by decide) (by decide)
theorem sn_ids_births {Z : State} {a0 : Array Value} (hw : ∀ d ∈ tables_1, d.before a0 Z = true) : Jvm.RoadKit.slotOf Z "com/example/housemartin/housemartin/firm/FirmSlots" "ids" "[J" ≠ Jvm.RoadKit.slotOf Z "com/example/housemartin/housemartin/firm/FirmSlots" "births" "[I" := slot_ne (Or.inr (own_w hw 28 rfl)) (Or.inr (own_w hw 31 rfl)) (by decide) (t := (.array .long)) (t' := (.array .int)) (by decide) (by decide)
theorem sn_ids_members {Z : State} {a0 : Array Value} (hw : ∀ d ∈ tables_1, d.before a0 Z = true) : Jvm.RoadKit.slotOf Z "com/example/housemartin/housemartin/firm/FirmSlots" "ids" "[J" ≠ Jvm.RoadKit.slotOf Z "com/example/housemartin/housemartin/firm/FirmSlots" "members" "Lcom/example/housemartin/housemartin/firm/Members;" := slot_ne (Or.inr (own_w hw 28 rfl)) (Or.inr (own_w hw 57 rfl)) (by decide) (t := (.array .long)) (t' := (.object "com/example/housemartin/housemartin/firm/Members")) (by decide) (by decide)
theorem sn_ids_changedNow {Z : State} {a0 : Array Value} (hw : ∀ d ∈ tables_1, d.before a0 Z = true) : Jvm.RoadKit.slotOf Z "com/example/housemartin/housemartin/firm/FirmSlots" "ids" "[J" ≠ Jvm.RoadKit.slotOf Z "com/example/housemartin/housemartin/firm/FirmSlots" "changedNow" "[J" := slot_ne (Or.inr (own_w hw 28 rfl)) (Or.inl (own_w hw 59 rfl)) (by decide) (t := (.array .long)) (t' := (.array .long)) (by decide) (by decide)
theorem sn_ids_changedBefore {Z : State} {a0 : Array Value} (hw : ∀ d ∈ tables_1, d.before a0 Z = true) : Jvm.RoadKit.slotOf Z "com/example/housemartin/housemartin/firm/FirmSlots" "ids" "[J" ≠ Jvm.RoadKit.slotOf Z "com/example/housemartin/housemartin/firm/FirmSlots" "changedBefore" "[J" := slot_ne (Or.inr (own_w hw 28 rfl)) (Or.inl (own_w hw 61 rfl)) (by decide) (t := (.array .long)) (t' := (.array .long)) (by decide) (by decide)
theorem sn_births_members {Z : State} {a0 : Array Value} (hw : ∀ d ∈ tables_1, d.before a0 Z = true) : Jvm.RoadKit.slotOf Z "com/example/housemartin/housemartin/firm/FirmSlots" "births" "[I" ≠ Jvm.RoadKit.slotOf Z "com/example/housemartin/housemartin/firm/FirmSlots" "members" "Lcom/example/housemartin/housemartin/firm/Members;" := slot_ne (Or.inr (own_w hw 31 rfl)) (Or.inr (own_w hw 57 rfl)) (by decide) (t := (.array .int)) (t' := (.object "com/example/housemartin/housemartin/firm/Members")) (by decide) (by decide)
theorem sn_births_changedNow {Z : State} {a0 : Array Value} (hw : ∀ d ∈ tables_1, d.before a0 Z = true) : Jvm.RoadKit.slotOf Z "com/example/housemartin/housemartin/firm/FirmSlots" "births" "[I" ≠ Jvm.RoadKit.slotOf Z "com/example/housemartin/housemartin/firm/FirmSlots" "changedNow" "[J" := slot_ne (Or.inr (own_w hw 31 rfl)) (Or.inl (own_w hw 59 rfl)) (by decide) (t := (.array .int)) (t' := (.array .long)) (by decide) (by decide)
theorem sn_births_changedBefore {Z : State} {a0 : Array Value} (hw : ∀ d ∈ tables_1, d.before a0 Z = true) : Jvm.RoadKit.slotOf Z "com/example/housemartin/housemartin/firm/FirmSlots" "births" "[I" ≠ Jvm.RoadKit.slotOf Z "com/example/housemartin/housemartin/firm/FirmSlots" "changedBefore" "[J" := slot_ne (Or.inr (own_w hw 31 rfl)) (Or.inl (own_w hw 61 rfl)) (by decide) (t := (.array .int)) (t' := (.array .long)) (by decide) (by decide)
theorem sn_members_changedNow {Z : State} {a0 : Array Value} (hw : ∀ d ∈ tables_1, d.before a0 Z = true) : Jvm.RoadKit.slotOf Z "com/example/housemartin/housemartin/firm/FirmSlots" "members" "Lcom/example/housemartin/housemartin/firm/Members;" ≠ Jvm.RoadKit.slotOf Z "com/example/housemartin/housemartin/firm/FirmSlots" "changedNow" "[J" := slot_ne (Or.inr (own_w hw 57 rfl)) (Or.inl (own_w hw 59 rfl)) (by decide) (t := (.object "com/example/housemartin/housemartin/firm/Members")) (t' := (.array .long)) (by decide) (by decide)
theorem sn_members_changedBefore {Z : State} {a0 : Array Value} (hw : ∀ d ∈ tables_1, d.before a0 Z = true) : Jvm.RoadKit.slotOf Z "com/example/housemartin/housemartin/firm/FirmSlots" "members" "Lcom/example/housemartin/housemartin/firm/Members;" ≠ Jvm.RoadKit.slotOf Z "com/example/housemartin/housemartin/firm/FirmSlots" "changedBefore" "[J" := slot_ne (Or.inr (own_w hw 57 rfl)) (Or.inl (own_w hw 61 rfl)) (by decide) (t := (.object "com/example/housemartin/housemartin/firm/Members")) (t' := (.array .long)) (by decide) (by decide)
theorem sn_changedNow_changedBefore {Z : State} {a0 : Array Value} (hw : ∀ d ∈ tables_1, d.before a0 Z = true) : Jvm.RoadKit.slotOf Z "com/example/housemartin/housemartin/firm/FirmSlots" "changedNow" "[J" ≠ Jvm.RoadKit.slotOf Z "com/example/housemartin/housemartin/firm/FirmSlots" "changedBefore" "[J" := slot_ne (Or.inl (own_w hw 59 rfl)) (Or.inl (own_w hw 61 rfl)) (by decide) (t := (.array .long)) (t' := (.array .long)) (by decide) (by decide)
theorem sn_slotsUsed_freeSlot {Z : State} {a0 : Array Value} (hw : ∀ d ∈ tables_1, d.before a0 Z = true) : Jvm.RoadKit.slotOf Z "com/example/housemartin/housemartin/firm/FirmSlots" "slotsUsed" "I" ≠ Jvm.RoadKit.slotOf Z "com/example/housemartin/housemartin/firm/FirmSlots" "freeSlot" "I" := slot_ne (Or.inl (own_w hw 70 rfl)) (Or.inl (own_w hw 11 rfl)) (by decide) (t := .int) (t' := .int) (by decide) (by decide)
theorem sn_slotsUsed_nextId {Z : State} {a0 : Array Value} (hw : ∀ d ∈ tables_1, d.before a0 Z = true) : Jvm.RoadKit.slotOf Z "com/example/housemartin/housemartin/firm/FirmSlots" "slotsUsed" "I" ≠ Jvm.RoadKit.slotOf Z "com/example/housemartin/housemartin/firm/FirmSlots" "nextId" "J" := slot_ne (Or.inl (own_w hw 70 rfl)) (Or.inl (own_w hw 13 rfl)) (by decide) (t := .int) (t' := .long) (by decide) (by decide)
theorem sn_slotsUsed_pages {Z : State} {a0 : Array Value} (hw : ∀ d ∈ tables_1, d.before a0 Z = true) : Jvm.RoadKit.slotOf Z "com/example/housemartin/housemartin/firm/FirmSlots" "slotsUsed" "I" ≠ Jvm.RoadKit.slotOf Z "com/example/housemartin/housemartin/firm/FirmSlots" "pages" "[[D" := slot_ne (Or.inl (own_w hw 70 rfl)) (Or.inr (own_w hw 18 rfl)) (by decide) (t := .int) (t' := (.array (.array .double))) (by decide) (by decide)
theorem sn_slotsUsed_ids {Z : State} {a0 : Array Value} (hw : ∀ d ∈ tables_1, d.before a0 Z = true) : Jvm.RoadKit.slotOf Z "com/example/housemartin/housemartin/firm/FirmSlots" "slotsUsed" "I" ≠ Jvm.RoadKit.slotOf Z "com/example/housemartin/housemartin/firm/FirmSlots" "ids" "[J" := slot_ne (Or.inl (own_w hw 70 rfl)) (Or.inr (own_w hw 28 rfl)) (by decide) (t := .int) (t' := (.array .long)) (by decide) (by decide)
theorem sn_slotsUsed_births {Z : State} {a0 : Array Value} (hw : ∀ d ∈ tables_1, d.before a0 Z = true) : Jvm.RoadKit.slotOf Z "com/example/housemartin/housemartin/firm/FirmSlots" "slotsUsed" "I" ≠ Jvm.RoadKit.slotOf Z "com/example/housemartin/housemartin/firm/FirmSlots" "births" "[I" := slot_ne (Or.inl (own_w hw 70 rfl)) (Or.inr (own_w hw 31 rfl)) (by decide) (t := .int) (t' := (.array .int)) (by decide) (by decide)
theorem sn_slotsUsed_members {Z : State} {a0 : Array Value} (hw : ∀ d ∈ tables_1, d.before a0 Z = true) : Jvm.RoadKit.slotOf Z "com/example/housemartin/housemartin/firm/FirmSlots" "slotsUsed" "I" ≠ Jvm.RoadKit.slotOf Z "com/example/housemartin/housemartin/firm/FirmSlots" "members" "Lcom/example/housemartin/housemartin/firm/Members;" := slot_ne (Or.inl (own_w hw 70 rfl)) (Or.inr (own_w hw 57 rfl)) (by decide) (t := .int) (t' := (.object "com/example/housemartin/housemartin/firm/Members")) (by decide) (by decide)
theorem sn_slotsUsed_changedNow {Z : State} {a0 : Array Value} (hw : ∀ d ∈ tables_1, d.before a0 Z = true) : Jvm.RoadKit.slotOf Z "com/example/housemartin/housemartin/firm/FirmSlots" "slotsUsed" "I" ≠ Jvm.RoadKit.slotOf Z "com/example/housemartin/housemartin/firm/FirmSlots" "changedNow" "[J" := slot_ne (Or.inl (own_w hw 70 rfl)) (Or.inl (own_w hw 59 rfl)) (by decide) (t := .int) (t' := (.array .long)) (by decide) (by decide)
theorem sn_slotsUsed_changedBefore {Z : State} {a0 : Array Value} (hw : ∀ d ∈ tables_1, d.before a0 Z = true) : Jvm.RoadKit.slotOf Z "com/example/housemartin/housemartin/firm/FirmSlots" "slotsUsed" "I" ≠ Jvm.RoadKit.slotOf Z "com/example/housemartin/housemartin/firm/FirmSlots" "changedBefore" "[J" := slot_ne (Or.inl (own_w hw 70 rfl)) (Or.inl (own_w hw 61 rfl)) (by decide) (t := .int) (t' := (.array .long)) (by decide) (by decide)
theorem sn_openFirms_freeSlot {Z : State} {a0 : Array Value} (hw : ∀ d ∈ tables_1, d.before a0 Z = true) : Jvm.RoadKit.slotOf Z "com/example/housemartin/housemartin/firm/FirmSlots" "openFirms" "I" ≠ Jvm.RoadKit.slotOf Z "com/example/housemartin/housemartin/firm/FirmSlots" "freeSlot" "I" := slot_ne (Or.inl (own_w hw 73 rfl)) (Or.inl (own_w hw 11 rfl)) (by decide) (t := .int) (t' := .int) (by decide) (by decide)
theorem sn_openFirms_nextId {Z : State} {a0 : Array Value} (hw : ∀ d ∈ tables_1, d.before a0 Z = true) : Jvm.RoadKit.slotOf Z "com/example/housemartin/housemartin/firm/FirmSlots" "openFirms" "I" ≠ Jvm.RoadKit.slotOf Z "com/example/housemartin/housemartin/firm/FirmSlots" "nextId" "J" := slot_ne (Or.inl (own_w hw 73 rfl)) (Or.inl (own_w hw 13 rfl)) (by decide) (t := .int) (t' := .long) (by decide) (by decide)
theorem sn_openFirms_pages {Z : State} {a0 : Array Value} (hw : ∀ d ∈ tables_1, d.before a0 Z = true) : Jvm.RoadKit.slotOf Z "com/example/housemartin/housemartin/firm/FirmSlots" "openFirms" "I" ≠ Jvm.RoadKit.slotOf Z "com/example/housemartin/housemartin/firm/FirmSlots" "pages" "[[D" := slot_ne (Or.inl (own_w hw 73 rfl)) (Or.inr (own_w hw 18 rfl)) (by decide) (t := .int) (t' := (.array (.array .double))) (by decide) (by decide)
theorem sn_openFirms_ids {Z : State} {a0 : Array Value} (hw : ∀ d ∈ tables_1, d.before a0 Z = true) : Jvm.RoadKit.slotOf Z "com/example/housemartin/housemartin/firm/FirmSlots" "openFirms" "I" ≠ Jvm.RoadKit.slotOf Z "com/example/housemartin/housemartin/firm/FirmSlots" "ids" "[J" := slot_ne (Or.inl (own_w hw 73 rfl)) (Or.inr (own_w hw 28 rfl)) (by decide) (t := .int) (t' := (.array .long)) (by decide) (by decide)
theorem sn_openFirms_births {Z : State} {a0 : Array Value} (hw : ∀ d ∈ tables_1, d.before a0 Z = true) : Jvm.RoadKit.slotOf Z "com/example/housemartin/housemartin/firm/FirmSlots" "openFirms" "I" ≠ Jvm.RoadKit.slotOf Z "com/example/housemartin/housemartin/firm/FirmSlots" "births" "[I" := slot_ne (Or.inl (own_w hw 73 rfl)) (Or.inr (own_w hw 31 rfl)) (by decide) (t := .int) (t' := (.array .int)) (by decide) (by decide)
theorem sn_openFirms_members {Z : State} {a0 : Array Value} (hw : ∀ d ∈ tables_1, d.before a0 Z = true) : Jvm.RoadKit.slotOf Z "com/example/housemartin/housemartin/firm/FirmSlots" "openFirms" "I" ≠ Jvm.RoadKit.slotOf Z "com/example/housemartin/housemartin/firm/FirmSlots" "members" "Lcom/example/housemartin/housemartin/firm/Members;" := slot_ne (Or.inl (own_w hw 73 rfl)) (Or.inr (own_w hw 57 rfl)) (by decide) (t := .int) (t' := (.object "com/example/housemartin/housemartin/firm/Members")) (by decide) (by decide)
theorem sn_openFirms_changedNow {Z : State} {a0 : Array Value} (hw : ∀ d ∈ tables_1, d.before a0 Z = true) : Jvm.RoadKit.slotOf Z "com/example/housemartin/housemartin/firm/FirmSlots" "openFirms" "I" ≠ Jvm.RoadKit.slotOf Z "com/example/housemartin/housemartin/firm/FirmSlots" "changedNow" "[J" := slot_ne (Or.inl (own_w hw 73 rfl)) (Or.inl (own_w hw 59 rfl)) (by decide) (t := .int) (t' := (.array .long)) (by decide) (by decide)
theorem sn_openFirms_changedBefore {Z : State} {a0 : Array Value} (hw : ∀ d ∈ tables_1, d.before a0 Z = true) : Jvm.RoadKit.slotOf Z "com/example/housemartin/housemartin/firm/FirmSlots" "openFirms" "I" ≠ Jvm.RoadKit.slotOf Z "com/example/housemartin/housemartin/firm/FirmSlots" "changedBefore" "[J" := slot_ne (Or.inl (own_w hw 73 rfl)) (Or.inl (own_w hw 61 rfl)) (by decide) (t := .int) (t' := (.array .long)) (by decide) (by decide)
def Q_rm1_0 (Z : State) (b1 : Addr) (h0 : Heap) (n0 : Nat) (v : Option Value) (h : Heap) (L : List Loc) : Prop := ∃ (b1006 : Addr) (b1017 : Addr) (b1023 : Addr) (b1027 : Addr) (b1031 : Addr) (b1032_0 : Addr) (b1032_1 : Addr) (b1032_2 : Addr) (b1032_3 : Addr) (b1037 : Addr) (b1046 : Addr) (k1006 : ClassId) (k1017 : ClassId) (k1023 : ClassId) (k1027 : ClassId) (k1032_0 : ClassId) (k1032_1 : ClassId) (k1032_2 : ClassId) (k1037 : ClassId) (k1046 : ClassId), v = none ∧ Fr n0 L ∧ Keep h0 h [b1] ∧ h0.size ≤ b1006 ∧ n0 ≤ b1006 ∧ h0.size ≤ b1017 ∧ n0 ≤ b1017 ∧ h0.size ≤ b1023 ∧ n0 ≤ b1023 ∧ h0.size ≤ b1027 ∧ n0 ≤ b1027 ∧ h0.size ≤ b1031 ∧ n0 ≤ b1031 ∧ h0.size ≤ b1032_0 ∧ n0 ≤ b1032_0 ∧ h0.size ≤ b1032_1 ∧ n0 ≤ b1032_1 ∧ h0.size ≤ b1032_2 ∧ n0 ≤ b1032_2 ∧ h0.size ≤ b1032_3 ∧ n0 ≤ b1032_3 ∧ h0.size ≤ b1037 ∧ n0 ≤ b1037 ∧ h0.size ≤ b1046 ∧ n0 ≤ b1046 ∧ b1006 ≠ b1017 ∧ b1006 ≠ b1023 ∧ b1006 ≠ b1027 ∧ b1006 ≠ b1031 ∧ b1006 ≠ b1032_0 ∧ b1006 ≠ b1032_1 ∧ b1006 ≠ b1032_2 ∧ b1006 ≠ b1032_3 ∧ b1006 ≠ b1037 ∧ b1006 ≠ b1046 ∧ b1017 ≠ b1023 ∧ b1017 ≠ b1027 ∧ b1017 ≠ b1031 ∧ b1017 ≠ b1032_0 ∧ b1017 ≠ b1032_1 ∧ b1017 ≠ b1032_2 ∧ b1017 ≠ b1032_3 ∧ b1017 ≠ b1037 ∧ b1017 ≠ b1046 ∧ b1023 ≠ b1027 ∧ b1023 ≠ b1031 ∧ b1023 ≠ b1032_0 ∧ b1023 ≠ b1032_1 ∧ b1023 ≠ b1032_2 ∧ b1023 ≠ b1032_3 ∧ b1023 ≠ b1037 ∧ b1023 ≠ b1046 ∧ b1027 ≠ b1031 ∧ b1027 ≠ b1032_0 ∧ b1027 ≠ b1032_1 ∧ b1027 ≠ b1032_2 ∧ b1027 ≠ b1032_3 ∧ b1027 ≠ b1037 ∧ b1027 ≠ b1046 ∧ b1031 ≠ b1032_0 ∧ b1031 ≠ b1032_1 ∧ b1031 ≠ b1032_2 ∧ b1031 ≠ b1032_3 ∧ b1031 ≠ b1037 ∧ b1031 ≠ b1046 ∧ b1032_0 ≠ b1032_1 ∧ b1032_0 ≠ b1032_2 ∧ b1032_0 ≠ b1032_3 ∧ b1032_0 ≠ b1037 ∧ b1032_0 ≠ b1046 ∧ b1032_1 ≠ b1032_2 ∧ b1032_1 ≠ b1032_3 ∧ b1032_1 ≠ b1037 ∧ b1032_1 ≠ b1046 ∧ b1032_2 ≠ b1032_3 ∧ b1032_2 ≠ b1037 ∧ b1032_2 ≠ b1046 ∧ b1032_3 ≠ b1037 ∧ b1032_3 ≠ b1046 ∧ b1037 ≠ b1046 ∧ Exa Z h b1 cF ∧ Fld Z h b1 cF "freeSlot" "I" (.int (-1)) ∧ Fld Z h b1 cF "nextId" "J" (.long 1) ∧ Fld Z h b1 cF "pages" "[[D" (.ref b1006) ∧ Fld Z h b1 cF "ids" "[J" (.ref b1023) ∧ Fld Z h b1 cF "births" "[I" (.ref b1027) ∧ Fld Z h b1 cF "members" "Lcom/example/housemartin/housemartin/firm/Members;" (.ref b1031) ∧ Fld Z h b1 cF "changedNow" "[J" (.ref b1037) ∧ Fld Z h b1 cF "changedBefore" "[J" (.ref b1046) ∧ Fld Z h b1 cF "slotsUsed" "I" (.int 0) ∧ Fld Z h b1 cF "openFirms" "I" (.int 0) ∧ Arv Z h b1006 k1006 (.array .double) 1 [(.ref b1017)] .null ∧ Exa Z h b1006 "[[D" ∧ Arv Z h b1017 k1017 .double 20 [(dl 0), (dl 0), (dl 0), (dl 0), (dl 0), (dl 0), (dl 0), (dl 0), (dl 0), (dl 0), (dl 0), (dl 0), (dl 0), (dl 0), (dl 0), (dl 0), (dl 0), (dl 0), (dl 0), (dl 0)] (dl 0) ∧ Exa Z h b1017 "[D" ∧ Arv Z h b1023 k1023 .long 4 [(.long 0), (.long 0), (.long 0), (.long 0)] (.long 0) ∧ Arv Z h b1027 k1027 .int 4 [(.int 0), (.int 0), (.int 0), (.int 0)] (.int 0) ∧ Exa Z h b1031 cM ∧ Fld Z h b1031 cM "freeBlocks" "[I" (.ref b1032_0) ∧ Fld Z h b1031 cM "firmsOfSize" "[I" (.ref b1032_1) ∧ Fld Z h b1031 cM "listed" "Z" (.int 1) ∧ Fld Z h b1031 cM "heads" "[J" (.ref b1032_2) ∧ Fld Z h b1031 cM "pool" "[I" (.ref b1032_3) ∧ Fld Z h b1031 cM "largest" "I" (.int 0) ∧ own_W Z h b1032_0 .int 31 ∧ Arv Z h b1032_1 k1032_0 .int 2 [(.int 0), (.int 0)] (.int 0) ∧ Arv Z h b1032_2 k1032_1 .long 4 [(.long 0), (.long 0), (.long 0), (.long 0)] (.long 0) ∧ Arv Z h b1032_3 k1032_2 .int 16 [(.int 0), (.int 0), (.int 0), (.int 0), (.int 0), (.int 0), (.int 0), (.int 0), (.int 0), (.int 0), (.int 0), (.int 0), (.int 0), (.int 0), (.int 0), (.int 0)] (.int 0) ∧ Arv Z h b1037 k1037 .long 1 [(.long 0)] (.long 0) ∧ Arv Z h b1046 k1046 .long 1 [(.long 0)] (.long 0)
set_option maxRecDepth 65536 in
set_option maxHeartbeats 40000000 in
theorem rm1_0 (l : Launch) (Z : State) (a0 : Array Value) (hw : ∀ d ∈ tables_1, d.before a0 Z = true) (ws : List Jvm.Cond) (b1 : Addr) (h0 : Heap) (n0 : Nat) (Z0 : n0 ≤ h0.size) (m0 : Exa Z h0 b1 cF) (m1 : Fld Z h0 b1 cF "freeSlot" "I" (.int 0)) (m2 : Fld Z h0 b1 cF "nextId" "J" (.long 0)) (m3 : Fld Z h0 b1 cF "pages" "[[D" .null) (m4 : Fld Z h0 b1 cF "ids" "[J" .null) (m5 : Fld Z h0 b1 cF "births" "[I" .null) (m6 : Fld Z h0 b1 cF "members" "Lcom/example/housemartin/housemartin/firm/Members;" .null) (m7 : Fld Z h0 b1 cF "changedNow" "[J" .null) (m8 : Fld Z h0 b1 cF "changedBefore" "[J" .null) (m9 : Fld Z h0 b1 cF "slotsUsed" "I" (.int 0)) (m10 : Fld Z h0 b1 cF "openFirms" "I" (.int 0)) (gg_b1 : n0 ≤ b1) :
    oM l y1 prog_8_method_1_code 4 none ws (⟨2, 11, 92, 30⟩ : Room) Z h0 #[(.ref b1), (.int 4)] (Q_rm1_0 Z b1 h0 n0) := by
  refine own_enter (Q := Q_rm1_0 Z b1 h0 n0) (plainFor_of_name pn_com_example_housemartin_housemartin_firm_FirmSlots) ?_
  intro p e s m below meth c s₁ G X0 hx hby hml hZ hown hnm hret e0 go fin
  replace hown : s.vm.findClass cF = some m.cls := hown
  replace hnm : meth.name = "<init>" := hnm
  replace hml : c.maxLocals = 4 := hml
  rw [ef_1 m b1 _]
  have N0 := Fr.nil n0
  refine go (fun tg kg => XS.aloadN X0.here hx rfl (hb hby d1_0) rfl rfl kg) ?_
  obtain ⟨T1001, X1001, e1001, st1001⟩ := initO X0 hx hZ hown (own_w hw 7 rfl) (own_w hw 8 rfl) (own_w hw 9 rfl) e0 (g := (mkF m 1 #[rv b1, iv 4, .unset, .unset] [(.ref b1)])) rfl (by rw [hml]; rfl) rfl (hb hby d1_1) (by decide) (W := 0) (by show 2 * 0 + _ ≤ _; exact Nat.le_of_eq rfl) (by decide)
  refine go st1001 ?_
  refine go (fun tg kg => XS.aloadN X1001.here hx rfl (hb hby d1_4) rfl rfl kg) ?_
  refine go (fun tg kg => XS.iconst X1001.here hx rfl (hb hby d1_5) kg) ?_
  obtain ⟨T1002, h1002, X1002, e1002, W1002, st1002⟩ := putF X1001 hx hZ hown (host := "") (Or.inl (own_w hw 10 rfl)) Via.refl e1001 m1 m0 (Or.inl (own_w hw 11 rfl)) (own_w hw 2 rfl) (ty := .int) (by decide) rfl rfl (g := (mkF m 6 #[rv b1, iv 4, .unset, .unset] [(.int (-1)), (.ref b1)])) rfl rfl (hb hby d1_6)
  refine go st1002 ?_
  have Fw1002 : Fld Z h1002 b1 cF "freeSlot" "I" (.int (-1)) := m1.same W1002
  have N1002 := Fr.snoc X1002 N0 gg_b1
  have K1002 : Keep h0 h1002 [b1] := (Keep.refl h0 [b1]).wr W1002 (Or.inl (List.mem_of_getElem? (i := 0) rfl))
  have Z1002 := Nat.le_trans Z0 (Keep.of_wr W1002).1
  show G (T1002.setTop (mkF m 9 #[rv b1, iv 4, .unset, .unset] []))
  refine go (fun tg kg => XS.aloadN X1002.here hx rfl (hb hby d1_9) rfl rfl kg) ?_
  refine go (fun tg kg => XS.lconst X1002.here hx rfl (hb hby d1_10) kg) ?_
  have Fa1003 := (m0.wr W1002)
  have Fa1004 := (m2.other W1002 (Or.inr (sn_nextId_freeSlot hw)))
  obtain ⟨T1005, h1005, X1005, e1005, W1005, st1005⟩ := putF X1002 hx hZ hown (host := "") (Or.inl (own_w hw 12 rfl)) Via.refl e1002 Fa1004 Fa1003 (Or.inl (own_w hw 13 rfl)) (own_w hw 2 rfl) (ty := .long) (by decide) rfl rfl (g := (mkF m 11 #[rv b1, iv 4, .unset, .unset] [(.long 1), (.ref b1)])) rfl rfl (hb hby d1_11)
  refine go st1005 ?_
  have Fw1005 : Fld Z h1005 b1 cF "nextId" "J" (.long 1) := Fa1004.same W1005
  have N1005 := Fr.snoc X1005 N1002 gg_b1
  have K1005 : Keep h0 h1005 [b1] := K1002.wr W1005 (Or.inl (List.mem_of_getElem? (i := 0) rfl))
  have Z1005 := Nat.le_trans Z1002 (Keep.of_wr W1005).1
  refine go (fun tg kg => XS.aloadN X1005.here hx rfl (hb hby d1_14) rfl rfl kg) ?_
  refine go (fun tg kg => XS.iloadN X1005.here hx rfl (hb hby d1_15) rfl kg) ?_
  refine go (fun tg kg => XS.i2l X1005.here hx rfl (hb hby d1_16) rfl kg) ?_
  show G (T1005.setTop (mkF m 17 #[rv b1, iv 4, .unset, .unset] [(.long 4), (.ref b1)]))
  refine go (fun tg kg => X1005.ldc2Long hx hown (mvT hZ (own_w hw 14 rfl)) (g := (mkF m 17 #[rv b1, iv 4, .unset, .unset] [(.long 4), (.ref b1)])) rfl (hb hby d1_17) _ kg) ?_
  refine go (fun tg kg => XS.ladd X1005.here hx rfl (hb hby d1_20) rfl kg) ?_
  refine go (fun tg kg => XS.bipush X1005.here hx rfl (hb hby d1_21) kg) ?_
  refine go (fun tg kg => XS.lushr X1005.here hx rfl (hb hby d1_23) rfl kg) ?_
  show G (T1005.setTop (mkF m 24 #[rv b1, iv 4, .unset, .unset] [(.long (((16777219 : Int64).toUInt64 >>> ((24 : Int32) &&& 0x3f).toInt64.toUInt64).toInt64)), (.ref b1)]))
  rw [show (((16777219 : Int64).toUInt64 >>> ((24 : Int32) &&& 0x3f).toInt64.toUInt64).toInt64) = (1 : Int64) from by decide]
  show G (T1005.setTop (mkF m 24 #[rv b1, iv 4, .unset, .unset] [(.long 1), (.ref b1)]))
  refine go (fun tg kg => XS.l2i X1005.here hx rfl (hb hby d1_24) rfl kg) ?_
  obtain ⟨T1006, h1006, k1006, X1006, e1006, E1006, A1006, Ea1006, O1006, st1006⟩ := newRA X1005 hx hZ hown (ty := .double) (C := "[D") (by decide) (own_w hw 15 rfl) (own_w hw 16 rfl) e1005 (g := (mkF m 25 #[rv b1, iv 4, .unset, .unset] [(.int 1), (.ref b1)])) rfl (hb hby d1_25) rfl (by decide) (cap := 1) (by decide) (by decide) (by decide) (by decide) (ad := "[[D") (by decide)
  obtain ⟨b1006, g1006⟩ : ∃ z, z = h1005.size := ⟨_, rfl⟩
  rw [← g1006] at A1006 Ea1006 st1006
  refine go st1006 ?_
  have V1006 : Arv Z h1006 b1006 k1006 (.array .double) (1 : Int32) [.null] .null := (Arv.new A1006 (by decide)).pad (pad_rep [] .null 1)
  have ge_b1006 : n0 ≤ b1006 := Nat.le_trans Z1005 (Nat.le_of_eq g1006.symm)
  have sz_b1006 : h0.size ≤ b1006 := Nat.le_trans K1005.1 (Nat.le_of_eq g1006.symm)
  have K1006 : Keep h0 h1006 [b1] := K1005.ext E1006
  have Z1006 := Nat.le_trans Z1005 E1006.1
  have Fa1007 := ((Fa1003.wr W1005).ext E1006)
  have Fa1008 := (((m3.other W1002 (Or.inr (sn_pages_freeSlot hw))).other W1005 (Or.inr (sn_pages_nextId hw))).ext E1006)
  obtain ⟨T1009, h1009, X1009, e1009, W1009, st1009⟩ := putF X1006 hx hZ hown (host := "") (Or.inl (own_w hw 17 rfl)) Via.refl e1006 Fa1008 Fa1007 (Or.inr ⟨(own_w hw 18 rfl), rfl, hnm⟩) (own_w hw 2 rfl) (ty := (.array (.array .double))) (by decide) rfl rfl (g := (mkF m 28 #[rv b1, iv 4, .unset, .unset] [(.ref b1006), (.ref b1)])) rfl rfl (hb hby d1_28)
  refine go st1009 ?_
  have Fw1009 : Fld Z h1009 b1 cF "pages" "[[D" (.ref b1006) := Fa1008.same W1009
  have N1009 := Fr.snoc X1009 N1005 gg_b1
  have K1009 : Keep h0 h1009 [b1] := K1006.wr W1009 (Or.inl (List.mem_of_getElem? (i := 0) rfl))
  have Z1009 := Nat.le_trans Z1006 (Keep.of_wr W1009).1
  show G (T1009.setTop (mkF m 31 #[rv b1, iv 4, .unset, .unset] []))
  refine go (fun tg kg => XS.iconst X1009.here hx rfl (hb hby d1_31) kg) ?_
  refine go (fun tg kg => XS.istoreN X1009.here hx rfl (hb hby d1_32) rfl (l' := #[rv b1, iv 4, iv 0, .unset]) rfl kg) ?_
  refine go (fun tg kg => XS.iloadN X1009.here hx rfl (hb hby d1_33) rfl kg) ?_
  refine go (fun tg kg => XS.aloadN X1009.here hx rfl (hb hby d1_34) rfl rfl kg) ?_
  obtain ⟨T1010, X1010, e1010, st1010⟩ := getF X1009 hx hZ hown (host := "") (Or.inl (own_w hw 17 rfl)) Via.refl e1009 Fw1009 (g := (mkF m 35 #[rv b1, iv 4, iv 0, .unset] [(.ref b1), (.int 0)])) rfl rfl (hb hby d1_35)
  refine go st1010 ?_
  have Fa1011 := (Fa1007.wr W1009)
  have nn1012 : b1 ≠ b1006 := (Nat.ne_of_lt (Nat.lt_of_lt_of_le (Fw1002.other W1005 (Or.inr (sn_freeSlot_nextId hw))).lt (Nat.le_of_eq g1006.symm)))
  have Fa1013 := (V1006.other W1009 (Ne.symm nn1012))
  obtain ⟨cl1014, Ar1014, -, S1014, M1014, -, -⟩ := id Fa1013
  refine go (fun tg kg => X1010.arraylength hx (by rw [e1010]; exact Ar1014.1) (State.isArrayOf_alike hZ.alike Ar1014.2.1) (g := (mkF m 38 #[rv b1, iv 4, iv 0, .unset] [(.ref b1006), (.int 0)])) rfl rfl (hb hby d1_38) _ kg) ?_
  rw [len_of S1014 M1014]
  show G (T1010.setTop (mkF m 39 #[rv b1, iv 4, iv 0, .unset] [(.int 1), (.int 0)]))
  refine go (fun tg kg => XS.icmpNo X1010.here hx rfl (hb hby d1_39) rfl (tlt (by decide)).2.1 kg) ?_
  refine go (fun tg kg => X1010.ldcInt hx hown (mvT hZ (own_w hw 19 rfl)) (g := (mkF m 42 #[rv b1, iv 4, iv 0, .unset] [])) rfl (hb hby d1_42) _ kg) ?_
  refine go (fun tg kg => XS.iloadN X1010.here hx rfl (hb hby d1_44) rfl kg) ?_
  refine go (fun tg kg => XS.iloadN X1010.here hx rfl (hb hby d1_45) rfl kg) ?_
  refine go (fun tg kg => XS.bipush X1010.here hx rfl (hb hby d1_46) kg) ?_
  refine go (fun tg kg => XS.ishl X1010.here hx rfl (hb hby d1_48) rfl kg) ?_
  show G (T1010.setTop (mkF m 49 #[rv b1, iv 4, iv 0, .unset] [(.int ((0 : Int32) <<< ((24 : Int32) &&& 31))), (.int 4), (.int 16777216)]))
  rw [show ((0 : Int32) <<< ((24 : Int32) &&& 31)) = (0 : Int32) from by decide]
  show G (T1010.setTop (mkF m 49 #[rv b1, iv 4, iv 0, .unset] [(.int 0), (.int 4), (.int 16777216)]))
  refine go (fun tg kg => XS.isub X1010.here hx rfl (hb hby d1_49) rfl kg) ?_
  show G (T1010.setTop (mkF m 50 #[rv b1, iv 4, iv 0, .unset] [(.int 4), (.int 16777216)]))
  obtain ⟨_, _, ⟨T1015, L1015, k1015, n1015⟩, -, X1015, ⟨Lc1015, hQ1015, l1015, y1015, z1015⟩, st1015⟩ := Jvm.LawKit.callS X1010 hx (y := y3) hown (mvT hZ (own_w hw 20 rfl)) (mvT hZ (own_w hw 21 rfl)) (mvT hZ (own_w hw 22 rfl)) (mvT hZ (own_w hw 23 rfl)) (by decide) (backOf (W := 0) (rm3_0 l Z a0 hw []  h1009 n0 Z1009 ) hZ (own_w hw 23 rfl) (own_w hw 22 rfl) (by decide) (by decide)) (g := (mkF m 50 #[rv b1, iv 4, iv 0, .unset] [(.int 4), (.int 16777216)])) rfl (by rw [hml]; rfl) (argsL := [(.int 16777216), (.int 4)]) (rest := []) (lenOf pd__II_I rfl) rfl (by show 2 * 0 + _ ≤ _; exact Nat.le_of_eq rfl) (hb hby d1_50) (fun _ _ => ⟨rfl, e1010, (by decide : 1 + 0 ≤ _), (by decide : 1 + 0 ≤ _)⟩)
  dsimp only [Pt.U, Pt.locs, Pt.cells, Pt.slots] at X1015 l1015 y1015 z1015 st1015 hQ1015
  subst l1015 y1015 z1015
  obtain ⟨rfl, Nq1015, e1015⟩ := hQ1015
  have N1015 := Fr.app N1009 Nq1015
  refine go st1015 ?_
  refine go (fun tg kg => XS.istoreN X1015.here hx rfl (hb hby d1_53) rfl (l' := #[rv b1, iv 4, iv 0, iv 4]) rfl kg) ?_
  refine go (fun tg kg => XS.aloadN X1015.here hx rfl (hb hby d1_54) rfl rfl kg) ?_
  obtain ⟨T1016, X1016, e1016, st1016⟩ := getF X1015 hx hZ hown (host := "") (Or.inl (own_w hw 17 rfl)) Via.refl e1015 Fw1009 (g := (mkF m 55 #[rv b1, iv 4, iv 0, iv 4] [(.ref b1)])) rfl rfl (hb hby d1_55)
  refine go st1016 ?_
  refine go (fun tg kg => XS.iloadN X1016.here hx rfl (hb hby d1_58) rfl kg) ?_
  refine go (fun tg kg => XS.iloadN X1016.here hx rfl (hb hby d1_59) rfl kg) ?_
  show G (T1016.setTop (mkF m 60 #[rv b1, iv 4, iv 0, iv 4] [(.int 4), (.int 0), (.ref b1006)]))
  refine go (fun tg kg => XS.iconst X1016.here hx rfl (hb hby d1_60) kg) ?_
  refine go (fun tg kg => XS.imul X1016.here hx rfl (hb hby d1_61) rfl kg) ?_
  obtain ⟨T1017, h1017, k1017, X1017, e1017, E1017, A1017, Ea1017, st1017⟩ := newPE X1016 hx hZ (own_w hw 24 rfl) e1016 (g := (mkF m 62 #[rv b1, iv 4, iv 0, iv 4] [(.int 20), (.int 0), (.ref b1006)])) rfl (hb hby d1_62) rfl (by decide) (cap := 20) (by decide) (by decide) (by decide) (by decide) (ad := "[D") (by decide)
  obtain ⟨b1017, g1017⟩ : ∃ z, z = h1009.size := ⟨_, rfl⟩
  rw [← g1017] at A1017 Ea1017 st1017
  refine go st1017 ?_
  have V1017 : Arv Z h1017 b1017 k1017 .double (20 : Int32) [(dl 0), (dl 0), (dl 0), (dl 0), (dl 0), (dl 0), (dl 0), (dl 0), (dl 0), (dl 0), (dl 0), (dl 0), (dl 0), (dl 0), (dl 0), (dl 0), (dl 0), (dl 0), (dl 0), (dl 0)] (dl 0) := (Arv.newD A1017 (by decide)).pad (pad_rep [] (dl 0) 20)
  have ge_b1017 : n0 ≤ b1017 := Nat.le_trans Z1009 (Nat.le_of_eq g1017.symm)
  have sz_b1017 : h0.size ≤ b1017 := Nat.le_trans K1009.1 (Nat.le_of_eq g1017.symm)
  have K1017 : Keep h0 h1017 [b1] := K1009.ext E1017
  have Z1017 := Nat.le_trans Z1009 E1017.1
  have Fa1018 := (Fa1013.ext E1017)
  obtain ⟨cl1019, Ar1019, q1019, S1019, M1019, H1019, U1019⟩ := id Fa1018
  have hin1019 : ¬ ((0 : Int32) < 0 ∨ cl1019.slots.size ≤ ((0 : Int32)).toNatClampNeg) := inb_of S1019 ⟨by decide, by decide⟩
  obtain ⟨T1019, h1019, X1019, e1019, W1019, st1019⟩ := stR X1017 hx hZ e1017 Ar1019 (j := (0 : Int32)) hin1019 rfl (Sto.ofVA Ar1019 q1019 O1006 (Ins.self Ea1017)) (g := (mkF m 64 #[rv b1, iv 4, iv 0, iv 4] [(.ref b1017), (.int 0), (.ref b1006)])) rfl rfl (hb hby d1_64)
  refine go st1019 ?_
  have V1019 : Arv Z h1019 b1006 k1006 (.array .double) (1 : Int32) [(.ref b1017)] .null := Arv.set Ar1019 q1019 S1019 M1019 H1019 U1019 rfl W1019 0 rfl (Nat.le_of_ble_eq_true rfl)
  have N1019 := Fr.snoc X1019 N1015 ge_b1006
  have K1019 : Keep h0 h1019 [b1] := K1017.wr W1019 (Or.inr sz_b1006)
  have Z1019 := Nat.le_trans Z1017 (Keep.of_wr W1019).1
  refine go (fun tg kg => XS.iinc X1019.here hx rfl (hb hby d1_65) rfl (l' := #[rv b1, iv 4, iv 1, iv 4]) rfl kg) ?_
  refine go (fun tg kg => XS.goto X1019.here hx rfl (pc0 := 68) (pc' := 33) rfl (hb hby d1_68) (by decide) (by decide) kg) ?_
  show G (T1019.setTop (mkF m 33 #[rv b1, iv 4, iv 1, iv 4] []))
  refine go (fun tg kg => XS.iloadN X1019.here hx rfl (hb hby d1_33) rfl kg) ?_
  refine go (fun tg kg => XS.aloadN X1019.here hx rfl (hb hby d1_34) rfl rfl kg) ?_
  have Fa1020 := ((Fw1009.ext E1017).other W1019 (Or.inl nn1012))
  obtain ⟨T1021, X1021, e1021, st1021⟩ := getF X1019 hx hZ hown (host := "") (Or.inl (own_w hw 17 rfl)) Via.refl e1019 Fa1020 (g := (mkF m 35 #[rv b1, iv 4, iv 1, iv 4] [(.ref b1), (.int 1)])) rfl rfl (hb hby d1_35)
  refine go st1021 ?_
  obtain ⟨cl1022, Ar1022, -, S1022, M1022, -, -⟩ := id V1019
  refine go (fun tg kg => X1021.arraylength hx (by rw [e1021]; exact Ar1022.1) (State.isArrayOf_alike hZ.alike Ar1022.2.1) (g := (mkF m 38 #[rv b1, iv 4, iv 1, iv 4] [(.ref b1006), (.int 1)])) rfl rfl (hb hby d1_38) _ kg) ?_
  rw [len_of S1022 M1022]
  refine go (fun tg kg => XS.icmpYes X1021.here hx rfl (pc0 := 39) (pc' := 71) rfl (hb hby d1_39) rfl (flt (by decide)).2.1 (by decide) (by decide) kg) ?_
  refine go (fun tg kg => XS.aloadN X1021.here hx rfl (hb hby d1_71) rfl rfl kg) ?_
  show G (T1021.setTop (mkF m 72 #[rv b1, iv 4, iv 1, iv 4] [(.ref b1)]))
  refine go (fun tg kg => XS.iloadN X1021.here hx rfl (hb hby d1_72) rfl kg) ?_
  obtain ⟨T1023, h1023, k1023, X1023, e1023, E1023, A1023, st1023⟩ := newP X1021 hx hZ (own_w hw 26 rfl) e1021 (g := (mkF m 73 #[rv b1, iv 4, iv 1, iv 4] [(.int 4), (.ref b1)])) rfl (hb hby d1_73) rfl (by decide) (cap := 4) (by decide) (by decide) (by decide) (by decide)
  obtain ⟨b1023, g1023⟩ : ∃ z, z = h1019.size := ⟨_, rfl⟩
  rw [← g1023] at A1023 st1023
  refine go st1023 ?_
  have V1023 : Arv Z h1023 b1023 k1023 .long (4 : Int32) [(.long 0), (.long 0), (.long 0), (.long 0)] (.long 0) := (Arv.new A1023 (by decide)).pad (pad_rep [] (.long 0) 4)
  have ge_b1023 : n0 ≤ b1023 := Nat.le_trans Z1019 (Nat.le_of_eq g1023.symm)
  have sz_b1023 : h0.size ≤ b1023 := Nat.le_trans K1019.1 (Nat.le_of_eq g1023.symm)
  have K1023 : Keep h0 h1023 [b1] := K1019.ext E1023
  have Z1023 := Nat.le_trans Z1019 E1023.1
  have Fa1024 := (((Fa1011.ext E1017).wr W1019).ext E1023)
  have Fa1025 := (((((((m4.other W1002 (Or.inr (sn_ids_freeSlot hw))).other W1005 (Or.inr (sn_ids_nextId hw))).ext E1006).other W1009 (Or.inr (sn_ids_pages hw))).ext E1017).other W1019 (Or.inl nn1012)).ext E1023)
  obtain ⟨T1026, h1026, X1026, e1026, W1026, st1026⟩ := putF X1023 hx hZ hown (host := "") (Or.inl (own_w hw 27 rfl)) Via.refl e1023 Fa1025 Fa1024 (Or.inr ⟨(own_w hw 28 rfl), rfl, hnm⟩) (own_w hw 2 rfl) (ty := (.array .long)) (by decide) rfl rfl (g := (mkF m 75 #[rv b1, iv 4, iv 1, iv 4] [(.ref b1023), (.ref b1)])) rfl rfl (hb hby d1_75)
  refine go st1026 ?_
  have Fw1026 : Fld Z h1026 b1 cF "ids" "[J" (.ref b1023) := Fa1025.same W1026
  have N1026 := Fr.snoc X1026 N1019 gg_b1
  have K1026 : Keep h0 h1026 [b1] := K1023.wr W1026 (Or.inl (List.mem_of_getElem? (i := 0) rfl))
  have Z1026 := Nat.le_trans Z1023 (Keep.of_wr W1026).1
  refine go (fun tg kg => XS.aloadN X1026.here hx rfl (hb hby d1_78) rfl rfl kg) ?_
  refine go (fun tg kg => XS.iloadN X1026.here hx rfl (hb hby d1_79) rfl kg) ?_
  obtain ⟨T1027, h1027, k1027, X1027, e1027, E1027, A1027, st1027⟩ := newP X1026 hx hZ (own_w hw 29 rfl) e1026 (g := (mkF m 80 #[rv b1, iv 4, iv 1, iv 4] [(.int 4), (.ref b1)])) rfl (hb hby d1_80) rfl (by decide) (cap := 4) (by decide) (by decide) (by decide) (by decide)
  obtain ⟨b1027, g1027⟩ : ∃ z, z = h1026.size := ⟨_, rfl⟩
  rw [← g1027] at A1027 st1027
  refine go st1027 ?_
  have V1027 : Arv Z h1027 b1027 k1027 .int (4 : Int32) [(.int 0), (.int 0), (.int 0), (.int 0)] (.int 0) := (Arv.new A1027 (by decide)).pad (pad_rep [] (.int 0) 4)
  have ge_b1027 : n0 ≤ b1027 := Nat.le_trans Z1026 (Nat.le_of_eq g1027.symm)
  have sz_b1027 : h0.size ≤ b1027 := Nat.le_trans K1026.1 (Nat.le_of_eq g1027.symm)
  have K1027 : Keep h0 h1027 [b1] := K1026.ext E1027
  have Z1027 := Nat.le_trans Z1026 E1027.1
  show G (T1027.setTop (mkF m 82 #[rv b1, iv 4, iv 1, iv 4] [(.ref b1027), (.ref b1)]))
  have Fa1028 := ((Fa1024.wr W1026).ext E1027)
  have Fa1029 := (((((((((m5.other W1002 (Or.inr (sn_births_freeSlot hw))).other W1005 (Or.inr (sn_births_nextId hw))).ext E1006).other W1009 (Or.inr (sn_births_pages hw))).ext E1017).other W1019 (Or.inl nn1012)).ext E1023).other W1026 (Or.inr (sn_births_ids hw))).ext E1027)
  obtain ⟨T1030, h1030, X1030, e1030, W1030, st1030⟩ := putF X1027 hx hZ hown (host := "") (Or.inl (own_w hw 30 rfl)) Via.refl e1027 Fa1029 Fa1028 (Or.inr ⟨(own_w hw 31 rfl), rfl, hnm⟩) (own_w hw 2 rfl) (ty := (.array .int)) (by decide) rfl rfl (g := (mkF m 82 #[rv b1, iv 4, iv 1, iv 4] [(.ref b1027), (.ref b1)])) rfl rfl (hb hby d1_82)
  refine go st1030 ?_
  have Fw1030 : Fld Z h1030 b1 cF "births" "[I" (.ref b1027) := Fa1029.same W1030
  have N1030 := Fr.snoc X1030 N1026 gg_b1
  have K1030 : Keep h0 h1030 [b1] := K1027.wr W1030 (Or.inl (List.mem_of_getElem? (i := 0) rfl))
  have Z1030 := Nat.le_trans Z1027 (Keep.of_wr W1030).1
  refine go (fun tg kg => XS.aloadN X1030.here hx rfl (hb hby d1_85) rfl rfl kg) ?_
  obtain ⟨T1031, h1031, X1031, e1031, E1031, A1031, D1031, -, st1031⟩ := newO X1030 hx hZ hown (own_w hw 32 rfl) (own_w hw 33 rfl) (own_w hw 34 rfl) e1030 (g := (mkF m 86 #[rv b1, iv 4, iv 1, iv 4] [(.ref b1)])) rfl (hb hby d1_86) (by decide) (by decide)
  obtain ⟨b1031, g1031⟩ : ∃ z, z = h1030.size := ⟨_, rfl⟩
  rw [← g1031] at A1031 D1031 st1031
  refine go st1031 ?_
  have ge_b1031 : n0 ≤ b1031 := Nat.le_trans Z1030 (Nat.le_of_eq g1031.symm)
  have sz_b1031 : h0.size ≤ b1031 := Nat.le_trans K1030.1 (Nat.le_of_eq g1031.symm)
  have K1031 : Keep h0 h1031 [b1] := K1030.ext E1031
  have Z1031 := Nat.le_trans Z1030 E1031.1
  have F1031_freeBlocks : Fld Z h1031 b1031 "com/example/housemartin/housemartin/firm/Members" "freeBlocks" "[I" .null := D1031 (Or.inr (own_w hw 40 rfl)) (ty := (.array .int)) (by decide)
  have F1031_firmsOfSize : Fld Z h1031 b1031 "com/example/housemartin/housemartin/firm/Members" "firmsOfSize" "[I" .null := D1031 (Or.inl (own_w hw 42 rfl)) (ty := (.array .int)) (by decide)
  have F1031_listed : Fld Z h1031 b1031 "com/example/housemartin/housemartin/firm/Members" "listed" "Z" (.int 0) := D1031 (Or.inl (own_w hw 44 rfl)) (ty := .boolean) (by decide)
  have F1031_heads : Fld Z h1031 b1031 "com/example/housemartin/housemartin/firm/Members" "heads" "[J" .null := D1031 (Or.inr (own_w hw 46 rfl)) (ty := (.array .long)) (by decide)
  have F1031_pool : Fld Z h1031 b1031 "com/example/housemartin/housemartin/firm/Members" "pool" "[I" .null := D1031 (Or.inl (own_w hw 51 rfl)) (ty := (.array .int)) (by decide)
  have F1031_largest : Fld Z h1031 b1031 "com/example/housemartin/housemartin/firm/Members" "largest" "I" (.int 0) := D1031 (Or.inl (own_w hw 133 rfl)) (ty := .int) (by decide)
  refine go (fun tg kg => XS.dup X1031.here hx rfl (hb hby d1_89) rfl rfl kg) ?_
  refine go (fun tg kg => XS.iloadN X1031.here hx rfl (hb hby d1_90) rfl kg) ?_
  obtain ⟨_, _, ⟨T1032, L1032, k1032, n1032⟩, -, X1032, ⟨Lc1032, hQ1032, l1032, y1032, z1032⟩, st1032⟩ := X1031.specialBack hx (y := y4) rfl hown (mvT hZ (own_w hw 35 rfl)) (mvT hZ (own_w hw 36 rfl)) (mvT hZ (own_w hw 37 rfl)) (by decide) (backOf (W := 2) (rm4_0 l Z a0 hw [] b1031 h1031 n0 Z1031 A1031 F1031_freeBlocks F1031_firmsOfSize F1031_listed F1031_heads F1031_pool F1031_largest ge_b1031) hZ (own_w hw 37 rfl) (own_w hw 34 rfl) (by decide) (by decide)) (g := (mkF m 91 #[rv b1, iv 4, iv 1, iv 4] [(.int 4), (.ref b1031), (.ref b1031), (.ref b1)])) rfl (by rw [hml]; rfl) (Steps.refl _) (a := b1031) (argsL := [(.int 4)]) (rest := [(.ref b1031), (.ref b1)]) (lenOf pd__I_V rfl) rfl (by show 2 * 0 + _ ≤ _; exact Nat.le_of_eq rfl) (hb hby d1_91) (fun _ _ => ⟨rfl, e1031, (by decide : 5 + 4 ≤ _), (by decide : 37 + 53 ≤ _)⟩)
  dsimp only [Pt.U, Pt.locs, Pt.cells, Pt.slots] at X1032 l1032 y1032 z1032 st1032 hQ1032
  subst l1032 y1032 z1032
  obtain ⟨b1032_0, b1032_1, b1032_2, b1032_3, k1032_0, k1032_1, k1032_2, rfl, Nq1032, K1032, sz_b1032_0, ge_b1032_0, sz_b1032_1, ge_b1032_1, sz_b1032_2, ge_b1032_2, sz_b1032_3, ge_b1032_3, ne_b1032_0_b1032_1, ne_b1032_0_b1032_2, ne_b1032_0_b1032_3, ne_b1032_1_b1032_2, ne_b1032_1_b1032_3, ne_b1032_2_b1032_3, Gf1032_0, Gf1032_1, Gf1032_2, Gf1032_3, Gf1032_4, Gf1032_5, Gf1032_6, Gf1032_7, Gf1032_8, Gf1032_9, Gf1032_10⟩ := hQ1032
  have sz0_b1031 : h0.size ≤ b1031 := sz_b1031
  have Kk1032 : Keep h0 T1032.heap [b1] := K1031.trans K1032 (allS (Or.inr sz0_b1031) all0)
  have szz_b1032_0 : h0.size ≤ b1032_0 := Nat.le_trans K1031.1 sz_b1032_0
  have szz_b1032_1 : h0.size ≤ b1032_1 := Nat.le_trans K1031.1 sz_b1032_1
  have szz_b1032_2 : h0.size ≤ b1032_2 := Nat.le_trans K1031.1 sz_b1032_2
  have szz_b1032_3 : h0.size ≤ b1032_3 := Nat.le_trans K1031.1 sz_b1032_3
  have Z1032 := Nat.le_trans Z1031 K1032.1
  have N1032 := Fr.app N1030 Nq1032
  refine go (fun tg kg => st1032.trans kg) ?_
  show G (T1032.setTop (mkF m 94 #[rv b1, iv 4, iv 1, iv 4] [(.ref b1031), (.ref b1)]))
  have Fa1033 := (((Fa1028.wr W1030).ext E1031).keep K1032)
  have nn1034 : b1 ≠ b1031 := (Nat.ne_of_lt (Nat.lt_of_lt_of_le (((((((((Fw1002.other W1005 (Or.inr (sn_freeSlot_nextId hw))).ext E1006).other W1009 (Or.inr (sn_freeSlot_pages hw))).ext E1017).other W1019 (Or.inl nn1012)).ext E1023).other W1026 (Or.inr (sn_freeSlot_ids hw))).ext E1027).other W1030 (Or.inr (sn_freeSlot_births hw))).lt (Nat.le_of_eq g1031.symm)))
  have Fa1035 := ((((((((((((m6.other W1002 (Or.inr (sn_members_freeSlot hw))).other W1005 (Or.inr (sn_members_nextId hw))).ext E1006).other W1009 (Or.inr (sn_members_pages hw))).ext E1017).other W1019 (Or.inl nn1012)).ext E1023).other W1026 (Or.inr (sn_members_ids hw))).ext E1027).other W1030 (Or.inr (sn_members_births hw))).ext E1031).keep K1032 (ninS nn1034 nin0))
  obtain ⟨T1036, h1036, X1036, e1036, W1036, st1036⟩ := putF X1032 hx hZ hown (host := "") (Or.inl (own_w hw 56 rfl)) Via.refl rfl Fa1035 Fa1033 (Or.inr ⟨(own_w hw 57 rfl), rfl, hnm⟩) (own_w hw 2 rfl) (ty := (.object "com/example/housemartin/housemartin/firm/Members")) (by decide) rfl rfl (g := (mkF m 94 #[rv b1, iv 4, iv 1, iv 4] [(.ref b1031), (.ref b1)])) rfl rfl (hb hby d1_94)
  refine go st1036 ?_
  have Fw1036 : Fld Z h1036 b1 cF "members" "Lcom/example/housemartin/housemartin/firm/Members;" (.ref b1031) := Fa1035.same W1036
  have N1036 := Fr.snoc X1036 N1032 gg_b1
  have K1036 : Keep h0 h1036 [b1] := Kk1032.wr W1036 (Or.inl (List.mem_of_getElem? (i := 0) rfl))
  have Z1036 := Nat.le_trans Z1032 (Keep.of_wr W1036).1
  refine go (fun tg kg => XS.aloadN X1036.here hx rfl (hb hby d1_97) rfl rfl kg) ?_
  refine go (fun tg kg => XS.iloadN X1036.here hx rfl (hb hby d1_98) rfl kg) ?_
  refine go (fun tg kg => XS.bipush X1036.here hx rfl (hb hby d1_99) kg) ?_
  refine go (fun tg kg => XS.iadd X1036.here hx rfl (hb hby d1_101) rfl kg) ?_
  refine go (fun tg kg => XS.bipush X1036.here hx rfl (hb hby d1_102) kg) ?_
  show G (T1036.setTop (mkF m 104 #[rv b1, iv 4, iv 1, iv 4] [(.int 6), (.int 67), (.ref b1)]))
  refine go (fun tg kg => XS.iushr X1036.here hx rfl (hb hby d1_104) rfl kg) ?_
  show G (T1036.setTop (mkF m 105 #[rv b1, iv 4, iv 1, iv 4] [(.int (((67 : Int32).toUInt32 >>> ((6 : Int32) &&& 31).toUInt32).toInt32)), (.ref b1)]))
  rw [show (((67 : Int32).toUInt32 >>> ((6 : Int32) &&& 31).toUInt32).toInt32) = (1 : Int32) from by decide]
  show G (T1036.setTop (mkF m 105 #[rv b1, iv 4, iv 1, iv 4] [(.int 1), (.ref b1)]))
  obtain ⟨T1037, h1037, k1037, X1037, e1037, E1037, A1037, st1037⟩ := newP X1036 hx hZ (own_w hw 26 rfl) e1036 (g := (mkF m 105 #[rv b1, iv 4, iv 1, iv 4] [(.int 1), (.ref b1)])) rfl (hb hby d1_105) rfl (by decide) (cap := 1) (by decide) (by decide) (by decide) (by decide)
  obtain ⟨b1037, g1037⟩ : ∃ z, z = h1036.size := ⟨_, rfl⟩
  rw [← g1037] at A1037 st1037
  refine go st1037 ?_
  have V1037 : Arv Z h1037 b1037 k1037 .long (1 : Int32) [(.long 0)] (.long 0) := (Arv.new A1037 (by decide)).pad (pad_rep [] (.long 0) 1)
  have ge_b1037 : n0 ≤ b1037 := Nat.le_trans Z1036 (Nat.le_of_eq g1037.symm)
  have sz_b1037 : h0.size ≤ b1037 := Nat.le_trans K1036.1 (Nat.le_of_eq g1037.symm)
  have K1037 : Keep h0 h1037 [b1] := K1036.ext E1037
  have Z1037 := Nat.le_trans Z1036 E1037.1
  have Fa1038 := ((Fa1033.wr W1036).ext E1037)
  have Fa1039 := ((((((((((((((m7.other W1002 (Or.inr (sn_changedNow_freeSlot hw))).other W1005 (Or.inr (sn_changedNow_nextId hw))).ext E1006).other W1009 (Or.inr (sn_changedNow_pages hw))).ext E1017).other W1019 (Or.inl nn1012)).ext E1023).other W1026 (Or.inr (sn_changedNow_ids hw))).ext E1027).other W1030 (Or.inr (sn_changedNow_births hw))).ext E1031).keep K1032 (ninS nn1034 nin0)).other W1036 (Or.inr (sn_changedNow_members hw))).ext E1037)
  obtain ⟨T1040, h1040, X1040, e1040, W1040, st1040⟩ := putF X1037 hx hZ hown (host := "") (Or.inl (own_w hw 58 rfl)) Via.refl e1037 Fa1039 Fa1038 (Or.inl (own_w hw 59 rfl)) (own_w hw 2 rfl) (ty := (.array .long)) (by decide) rfl rfl (g := (mkF m 107 #[rv b1, iv 4, iv 1, iv 4] [(.ref b1037), (.ref b1)])) rfl rfl (hb hby d1_107)
  refine go st1040 ?_
  have Fw1040 : Fld Z h1040 b1 cF "changedNow" "[J" (.ref b1037) := Fa1039.same W1040
  have N1040 := Fr.snoc X1040 N1036 gg_b1
  have K1040 : Keep h0 h1040 [b1] := K1037.wr W1040 (Or.inl (List.mem_of_getElem? (i := 0) rfl))
  have Z1040 := Nat.le_trans Z1037 (Keep.of_wr W1040).1
  refine go (fun tg kg => XS.aloadN X1040.here hx rfl (hb hby d1_110) rfl rfl kg) ?_
  refine go (fun tg kg => XS.aloadN X1040.here hx rfl (hb hby d1_111) rfl rfl kg) ?_
  obtain ⟨T1041, X1041, e1041, st1041⟩ := getF X1040 hx hZ hown (host := "") (Or.inl (own_w hw 58 rfl)) Via.refl e1040 Fw1040 (g := (mkF m 112 #[rv b1, iv 4, iv 1, iv 4] [(.ref b1), (.ref b1)])) rfl rfl (hb hby d1_112)
  refine go st1041 ?_
  have Fa1042 := (Fa1038.wr W1040)
  have nn1043 : b1 ≠ b1037 := (Nat.ne_of_lt (Nat.lt_of_lt_of_le ((((((((((((Fw1002.other W1005 (Or.inr (sn_freeSlot_nextId hw))).ext E1006).other W1009 (Or.inr (sn_freeSlot_pages hw))).ext E1017).other W1019 (Or.inl nn1012)).ext E1023).other W1026 (Or.inr (sn_freeSlot_ids hw))).ext E1027).other W1030 (Or.inr (sn_freeSlot_births hw))).ext E1031).keep K1032 (ninS nn1034 nin0)).other W1036 (Or.inr (sn_freeSlot_members hw))).lt (Nat.le_of_eq g1037.symm)))
  have Fa1044 := (V1037.other W1040 (Ne.symm nn1043))
  obtain ⟨cl1045, Ar1045, -, S1045, M1045, -, -⟩ := id Fa1044
  refine go (fun tg kg => X1041.arraylength hx (by rw [e1041]; exact Ar1045.1) (State.isArrayOf_alike hZ.alike Ar1045.2.1) (g := (mkF m 115 #[rv b1, iv 4, iv 1, iv 4] [(.ref b1037), (.ref b1)])) rfl rfl (hb hby d1_115) _ kg) ?_
  rw [len_of S1045 M1045]
  show G (T1041.setTop (mkF m 116 #[rv b1, iv 4, iv 1, iv 4] [(.int 1), (.ref b1)]))
  obtain ⟨T1046, h1046, k1046, X1046, e1046, E1046, A1046, st1046⟩ := newP X1041 hx hZ (own_w hw 26 rfl) e1041 (g := (mkF m 116 #[rv b1, iv 4, iv 1, iv 4] [(.int 1), (.ref b1)])) rfl (hb hby d1_116) rfl (by decide) (cap := 1) (by decide) (by decide) (by decide) (by decide)
  obtain ⟨b1046, g1046⟩ : ∃ z, z = h1040.size := ⟨_, rfl⟩
  rw [← g1046] at A1046 st1046
  refine go st1046 ?_
  have V1046 : Arv Z h1046 b1046 k1046 .long (1 : Int32) [(.long 0)] (.long 0) := (Arv.new A1046 (by decide)).pad (pad_rep [] (.long 0) 1)
  have ge_b1046 : n0 ≤ b1046 := Nat.le_trans Z1040 (Nat.le_of_eq g1046.symm)
  have sz_b1046 : h0.size ≤ b1046 := Nat.le_trans K1040.1 (Nat.le_of_eq g1046.symm)
  have K1046 : Keep h0 h1046 [b1] := K1040.ext E1046
  have Z1046 := Nat.le_trans Z1040 E1046.1
  have Fa1047 := (Fa1042.ext E1046)
  have Fa1048 := ((((((((((((((((m8.other W1002 (Or.inr (sn_changedBefore_freeSlot hw))).other W1005 (Or.inr (sn_changedBefore_nextId hw))).ext E1006).other W1009 (Or.inr (sn_changedBefore_pages hw))).ext E1017).other W1019 (Or.inl nn1012)).ext E1023).other W1026 (Or.inr (sn_changedBefore_ids hw))).ext E1027).other W1030 (Or.inr (sn_changedBefore_births hw))).ext E1031).keep K1032 (ninS nn1034 nin0)).other W1036 (Or.inr (sn_changedBefore_members hw))).ext E1037).other W1040 (Or.inr (sn_changedBefore_changedNow hw))).ext E1046)
  obtain ⟨T1049, h1049, X1049, e1049, W1049, st1049⟩ := putF X1046 hx hZ hown (host := "") (Or.inl (own_w hw 60 rfl)) Via.refl e1046 Fa1048 Fa1047 (Or.inl (own_w hw 61 rfl)) (own_w hw 2 rfl) (ty := (.array .long)) (by decide) rfl rfl (g := (mkF m 118 #[rv b1, iv 4, iv 1, iv 4] [(.ref b1046), (.ref b1)])) rfl rfl (hb hby d1_118)
  refine go st1049 ?_
  have Fw1049 : Fld Z h1049 b1 cF "changedBefore" "[J" (.ref b1046) := Fa1048.same W1049
  have N1049 := Fr.snoc X1049 N1040 gg_b1
  have K1049 : Keep h0 h1049 [b1] := K1046.wr W1049 (Or.inl (List.mem_of_getElem? (i := 0) rfl))
  have Z1049 := Nat.le_trans Z1046 (Keep.of_wr W1049).1
  refine fin (none) X1049 (fun h => rfl) (fun fs hr => X1049.returnOut hx hret (hb hby d1_121) hr) (by decide) (by decide) ?_
  rw [e1049]
  have Fa1050 := (Fa1047.wr W1049)
  have Fa1051 := ((((((((((((((((Fw1002.other W1005 (Or.inr (sn_freeSlot_nextId hw))).ext E1006).other W1009 (Or.inr (sn_freeSlot_pages hw))).ext E1017).other W1019 (Or.inl nn1012)).ext E1023).other W1026 (Or.inr (sn_freeSlot_ids hw))).ext E1027).other W1030 (Or.inr (sn_freeSlot_births hw))).ext E1031).keep K1032 (ninS nn1034 nin0)).other W1036 (Or.inr (sn_freeSlot_members hw))).ext E1037).other W1040 (Or.inr (sn_freeSlot_changedNow hw))).ext E1046).other W1049 (Or.inr (sn_freeSlot_changedBefore hw)))
  have Fa1052 := (((((((((((((((Fw1005.ext E1006).other W1009 (Or.inr (sn_nextId_pages hw))).ext E1017).other W1019 (Or.inl nn1012)).ext E1023).other W1026 (Or.inr (sn_nextId_ids hw))).ext E1027).other W1030 (Or.inr (sn_nextId_births hw))).ext E1031).keep K1032 (ninS nn1034 nin0)).other W1036 (Or.inr (sn_nextId_members hw))).ext E1037).other W1040 (Or.inr (sn_nextId_changedNow hw))).ext E1046).other W1049 (Or.inr (sn_nextId_changedBefore hw)))
  have Fa1053 := (((((((((((Fa1020.ext E1023).other W1026 (Or.inr (sn_pages_ids hw))).ext E1027).other W1030 (Or.inr (sn_pages_births hw))).ext E1031).keep K1032 (ninS nn1034 nin0)).other W1036 (Or.inr (sn_pages_members hw))).ext E1037).other W1040 (Or.inr (sn_pages_changedNow hw))).ext E1046).other W1049 (Or.inr (sn_pages_changedBefore hw)))
  have Fa1054 := (((((((((Fw1026.ext E1027).other W1030 (Or.inr (sn_ids_births hw))).ext E1031).keep K1032 (ninS nn1034 nin0)).other W1036 (Or.inr (sn_ids_members hw))).ext E1037).other W1040 (Or.inr (sn_ids_changedNow hw))).ext E1046).other W1049 (Or.inr (sn_ids_changedBefore hw)))
  have Fa1055 := (((((((Fw1030.ext E1031).keep K1032 (ninS nn1034 nin0)).other W1036 (Or.inr (sn_births_members hw))).ext E1037).other W1040 (Or.inr (sn_births_changedNow hw))).ext E1046).other W1049 (Or.inr (sn_births_changedBefore hw)))
  have Fa1056 := ((((Fw1036.ext E1037).other W1040 (Or.inr (sn_members_changedNow hw))).ext E1046).other W1049 (Or.inr (sn_members_changedBefore hw)))
  have Fa1057 := ((Fw1040.ext E1046).other W1049 (Or.inr (sn_changedNow_changedBefore hw)))
  have Fa1058 := (((((((((((((((((m9.other W1002 (Or.inr (sn_slotsUsed_freeSlot hw))).other W1005 (Or.inr (sn_slotsUsed_nextId hw))).ext E1006).other W1009 (Or.inr (sn_slotsUsed_pages hw))).ext E1017).other W1019 (Or.inl nn1012)).ext E1023).other W1026 (Or.inr (sn_slotsUsed_ids hw))).ext E1027).other W1030 (Or.inr (sn_slotsUsed_births hw))).ext E1031).keep K1032 (ninS nn1034 nin0)).other W1036 (Or.inr (sn_slotsUsed_members hw))).ext E1037).other W1040 (Or.inr (sn_slotsUsed_changedNow hw))).ext E1046).other W1049 (Or.inr (sn_slotsUsed_changedBefore hw)))
  have Fa1059 := (((((((((((((((((m10.other W1002 (Or.inr (sn_openFirms_freeSlot hw))).other W1005 (Or.inr (sn_openFirms_nextId hw))).ext E1006).other W1009 (Or.inr (sn_openFirms_pages hw))).ext E1017).other W1019 (Or.inl nn1012)).ext E1023).other W1026 (Or.inr (sn_openFirms_ids hw))).ext E1027).other W1030 (Or.inr (sn_openFirms_births hw))).ext E1031).keep K1032 (ninS nn1034 nin0)).other W1036 (Or.inr (sn_openFirms_members hw))).ext E1037).other W1040 (Or.inr (sn_openFirms_changedNow hw))).ext E1046).other W1049 (Or.inr (sn_openFirms_changedBefore hw)))
  have nn1060 : b1006 ≠ b1031 := (Nat.ne_of_lt (Nat.lt_of_lt_of_le ((((V1019.ext E1023).other W1026 (Ne.symm nn1012)).ext E1027).other W1030 (Ne.symm nn1012)).lt (Nat.le_of_eq g1031.symm)))
  have Fa1061 := (((((((((((V1019.ext E1023).other W1026 (Ne.symm nn1012)).ext E1027).other W1030 (Ne.symm nn1012)).ext E1031).keep K1032 (ninS nn1060 nin0)).other W1036 (Ne.symm nn1012)).ext E1037).other W1040 (Ne.symm nn1012)).ext E1046).other W1049 (Ne.symm nn1012))
  have Fa1062 := ((((((((((((((Ea1006.wr W1009).ext E1017).wr W1019).ext E1023).wr W1026).ext E1027).wr W1030).ext E1031).keep K1032).wr W1036).ext E1037).wr W1040).ext E1046).wr W1049)
  have nn1063 : b1006 ≠ b1017 := (Nat.ne_of_lt (Nat.lt_of_lt_of_le (Ea1006.wr W1009).lt (Nat.le_of_eq g1017.symm)))
  have nn1064 : b1 ≠ b1017 := (Nat.ne_of_lt (Nat.lt_of_lt_of_le ((((m10.other W1002 (Or.inr (sn_openFirms_freeSlot hw))).other W1005 (Or.inr (sn_openFirms_nextId hw))).ext E1006).other W1009 (Or.inr (sn_openFirms_pages hw))).lt (Nat.le_of_eq g1017.symm)))
  have nn1065 : b1017 ≠ b1031 := (Nat.ne_of_lt (Nat.lt_of_lt_of_le (((((V1017.other W1019 (Ne.symm nn1063)).ext E1023).other W1026 (Ne.symm nn1064)).ext E1027).other W1030 (Ne.symm nn1064)).lt (Nat.le_of_eq g1031.symm)))
  have Fa1066 := ((((((((((((V1017.other W1019 (Ne.symm nn1063)).ext E1023).other W1026 (Ne.symm nn1064)).ext E1027).other W1030 (Ne.symm nn1064)).ext E1031).keep K1032 (ninS nn1065 nin0)).other W1036 (Ne.symm nn1064)).ext E1037).other W1040 (Ne.symm nn1064)).ext E1046).other W1049 (Ne.symm nn1064))
  have Fa1067 := ((((((((((((Ea1017.wr W1019).ext E1023).wr W1026).ext E1027).wr W1030).ext E1031).keep K1032).wr W1036).ext E1037).wr W1040).ext E1046).wr W1049)
  have nn1068 : b1 ≠ b1023 := (Nat.ne_of_lt (Nat.lt_of_lt_of_le ((((((m10.other W1002 (Or.inr (sn_openFirms_freeSlot hw))).other W1005 (Or.inr (sn_openFirms_nextId hw))).ext E1006).other W1009 (Or.inr (sn_openFirms_pages hw))).ext E1017).other W1019 (Or.inl nn1012)).lt (Nat.le_of_eq g1023.symm)))
  have nn1069 : b1023 ≠ b1031 := (Nat.ne_of_lt (Nat.lt_of_lt_of_le (((V1023.other W1026 (Ne.symm nn1068)).ext E1027).other W1030 (Ne.symm nn1068)).lt (Nat.le_of_eq g1031.symm)))
  have Fa1070 := ((((((((((V1023.other W1026 (Ne.symm nn1068)).ext E1027).other W1030 (Ne.symm nn1068)).ext E1031).keep K1032 (ninS nn1069 nin0)).other W1036 (Ne.symm nn1068)).ext E1037).other W1040 (Ne.symm nn1068)).ext E1046).other W1049 (Ne.symm nn1068))
  have nn1071 : b1 ≠ b1027 := (Nat.ne_of_lt (Nat.lt_of_lt_of_le ((((((((m10.other W1002 (Or.inr (sn_openFirms_freeSlot hw))).other W1005 (Or.inr (sn_openFirms_nextId hw))).ext E1006).other W1009 (Or.inr (sn_openFirms_pages hw))).ext E1017).other W1019 (Or.inl nn1012)).ext E1023).other W1026 (Or.inr (sn_openFirms_ids hw))).lt (Nat.le_of_eq g1027.symm)))
  have nn1072 : b1027 ≠ b1031 := (Nat.ne_of_lt (Nat.lt_of_lt_of_le (V1027.other W1030 (Ne.symm nn1071)).lt (Nat.le_of_eq g1031.symm)))
  have Fa1073 := ((((((((V1027.other W1030 (Ne.symm nn1071)).ext E1031).keep K1032 (ninS nn1072 nin0)).other W1036 (Ne.symm nn1071)).ext E1037).other W1040 (Ne.symm nn1071)).ext E1046).other W1049 (Ne.symm nn1071))
  have Fa1074 := (((((Gf1032_0.wr W1036).ext E1037).wr W1040).ext E1046).wr W1049)
  have Fa1075 := (((((Gf1032_1.other W1036 (Or.inl (Ne.symm nn1034))).ext E1037).other W1040 (Or.inl (Ne.symm nn1034))).ext E1046).other W1049 (Or.inl (Ne.symm nn1034)))
  have Fa1076 := (((((Gf1032_2.other W1036 (Or.inl (Ne.symm nn1034))).ext E1037).other W1040 (Or.inl (Ne.symm nn1034))).ext E1046).other W1049 (Or.inl (Ne.symm nn1034)))
  have Fa1077 := (((((Gf1032_3.other W1036 (Or.inl (Ne.symm nn1034))).ext E1037).other W1040 (Or.inl (Ne.symm nn1034))).ext E1046).other W1049 (Or.inl (Ne.symm nn1034)))
  have Fa1078 := (((((Gf1032_4.other W1036 (Or.inl (Ne.symm nn1034))).ext E1037).other W1040 (Or.inl (Ne.symm nn1034))).ext E1046).other W1049 (Or.inl (Ne.symm nn1034)))
  have Fa1079 := (((((Gf1032_5.other W1036 (Or.inl (Ne.symm nn1034))).ext E1037).other W1040 (Or.inl (Ne.symm nn1034))).ext E1046).other W1049 (Or.inl (Ne.symm nn1034)))
  have Fa1080 := (((((Gf1032_6.other W1036 (Or.inl (Ne.symm nn1034))).ext E1037).other W1040 (Or.inl (Ne.symm nn1034))).ext E1046).other W1049 (Or.inl (Ne.symm nn1034)))
  have nn1081 : b1 ≠ b1032_0 := (Nat.ne_of_lt (Nat.lt_of_lt_of_le (((((((((((m10.other W1002 (Or.inr (sn_openFirms_freeSlot hw))).other W1005 (Or.inr (sn_openFirms_nextId hw))).ext E1006).other W1009 (Or.inr (sn_openFirms_pages hw))).ext E1017).other W1019 (Or.inl nn1012)).ext E1023).other W1026 (Or.inr (sn_openFirms_ids hw))).ext E1027).other W1030 (Or.inr (sn_openFirms_births hw))).ext E1031).lt sz_b1032_0))
  have Fa1082 := (((((Gf1032_7.other W1036 (Ne.symm nn1081)).ext E1037).other W1040 (Ne.symm nn1081)).ext E1046).other W1049 (Ne.symm nn1081))
  have nn1083 : b1 ≠ b1032_1 := (Nat.ne_of_lt (Nat.lt_of_lt_of_le (((((((((((m10.other W1002 (Or.inr (sn_openFirms_freeSlot hw))).other W1005 (Or.inr (sn_openFirms_nextId hw))).ext E1006).other W1009 (Or.inr (sn_openFirms_pages hw))).ext E1017).other W1019 (Or.inl nn1012)).ext E1023).other W1026 (Or.inr (sn_openFirms_ids hw))).ext E1027).other W1030 (Or.inr (sn_openFirms_births hw))).ext E1031).lt sz_b1032_1))
  have Fa1084 := (((((Gf1032_8.other W1036 (Ne.symm nn1083)).ext E1037).other W1040 (Ne.symm nn1083)).ext E1046).other W1049 (Ne.symm nn1083))
  have nn1085 : b1 ≠ b1032_2 := (Nat.ne_of_lt (Nat.lt_of_lt_of_le (((((((((((m10.other W1002 (Or.inr (sn_openFirms_freeSlot hw))).other W1005 (Or.inr (sn_openFirms_nextId hw))).ext E1006).other W1009 (Or.inr (sn_openFirms_pages hw))).ext E1017).other W1019 (Or.inl nn1012)).ext E1023).other W1026 (Or.inr (sn_openFirms_ids hw))).ext E1027).other W1030 (Or.inr (sn_openFirms_births hw))).ext E1031).lt sz_b1032_2))
  have Fa1086 := (((((Gf1032_9.other W1036 (Ne.symm nn1085)).ext E1037).other W1040 (Ne.symm nn1085)).ext E1046).other W1049 (Ne.symm nn1085))
  have nn1087 : b1 ≠ b1032_3 := (Nat.ne_of_lt (Nat.lt_of_lt_of_le (((((((((((m10.other W1002 (Or.inr (sn_openFirms_freeSlot hw))).other W1005 (Or.inr (sn_openFirms_nextId hw))).ext E1006).other W1009 (Or.inr (sn_openFirms_pages hw))).ext E1017).other W1019 (Or.inl nn1012)).ext E1023).other W1026 (Or.inr (sn_openFirms_ids hw))).ext E1027).other W1030 (Or.inr (sn_openFirms_births hw))).ext E1031).lt sz_b1032_3))
  have Fa1088 := (((((Gf1032_10.other W1036 (Ne.symm nn1087)).ext E1037).other W1040 (Ne.symm nn1087)).ext E1046).other W1049 (Ne.symm nn1087))
  have Fa1089 := ((Fa1044.ext E1046).other W1049 (Ne.symm nn1043))
  have nn1090 : b1 ≠ b1046 := (Nat.ne_of_lt (Nat.lt_of_lt_of_le (((((((((((((((m10.other W1002 (Or.inr (sn_openFirms_freeSlot hw))).other W1005 (Or.inr (sn_openFirms_nextId hw))).ext E1006).other W1009 (Or.inr (sn_openFirms_pages hw))).ext E1017).other W1019 (Or.inl nn1012)).ext E1023).other W1026 (Or.inr (sn_openFirms_ids hw))).ext E1027).other W1030 (Or.inr (sn_openFirms_births hw))).ext E1031).keep K1032 (ninS nn1034 nin0)).other W1036 (Or.inr (sn_openFirms_members hw))).ext E1037).other W1040 (Or.inr (sn_openFirms_changedNow hw))).lt (Nat.le_of_eq g1046.symm)))
  have Fa1091 := (V1046.other W1049 (Ne.symm nn1090))
  have nn1092 : b1006 ≠ b1023 := (Nat.ne_of_lt (Nat.lt_of_lt_of_le (((Ea1006.wr W1009).ext E1017).wr W1019).lt (Nat.le_of_eq g1023.symm)))
  have nn1093 : b1006 ≠ b1027 := (Nat.ne_of_lt (Nat.lt_of_lt_of_le (((((Ea1006.wr W1009).ext E1017).wr W1019).ext E1023).wr W1026).lt (Nat.le_of_eq g1027.symm)))
  have nn1094 : b1006 ≠ b1032_0 := (Nat.ne_of_lt (Nat.lt_of_lt_of_le ((((((((Ea1006.wr W1009).ext E1017).wr W1019).ext E1023).wr W1026).ext E1027).wr W1030).ext E1031).lt sz_b1032_0))
  have nn1095 : b1006 ≠ b1032_1 := (Nat.ne_of_lt (Nat.lt_of_lt_of_le ((((((((Ea1006.wr W1009).ext E1017).wr W1019).ext E1023).wr W1026).ext E1027).wr W1030).ext E1031).lt sz_b1032_1))
  have nn1096 : b1006 ≠ b1032_2 := (Nat.ne_of_lt (Nat.lt_of_lt_of_le ((((((((Ea1006.wr W1009).ext E1017).wr W1019).ext E1023).wr W1026).ext E1027).wr W1030).ext E1031).lt sz_b1032_2))
  have nn1097 : b1006 ≠ b1032_3 := (Nat.ne_of_lt (Nat.lt_of_lt_of_le ((((((((Ea1006.wr W1009).ext E1017).wr W1019).ext E1023).wr W1026).ext E1027).wr W1030).ext E1031).lt sz_b1032_3))
  have nn1098 : b1006 ≠ b1037 := (Nat.ne_of_lt (Nat.lt_of_lt_of_le ((((((((((Ea1006.wr W1009).ext E1017).wr W1019).ext E1023).wr W1026).ext E1027).wr W1030).ext E1031).keep K1032).wr W1036).lt (Nat.le_of_eq g1037.symm)))
  have nn1099 : b1006 ≠ b1046 := (Nat.ne_of_lt (Nat.lt_of_lt_of_le ((((((((((((Ea1006.wr W1009).ext E1017).wr W1019).ext E1023).wr W1026).ext E1027).wr W1030).ext E1031).keep K1032).wr W1036).ext E1037).wr W1040).lt (Nat.le_of_eq g1046.symm)))
  have nn1100 : b1017 ≠ b1023 := (Nat.ne_of_lt (Nat.lt_of_lt_of_le (Ea1017.wr W1019).lt (Nat.le_of_eq g1023.symm)))
  have nn1101 : b1017 ≠ b1027 := (Nat.ne_of_lt (Nat.lt_of_lt_of_le (((Ea1017.wr W1019).ext E1023).wr W1026).lt (Nat.le_of_eq g1027.symm)))
  have nn1102 : b1017 ≠ b1032_0 := (Nat.ne_of_lt (Nat.lt_of_lt_of_le ((((((Ea1017.wr W1019).ext E1023).wr W1026).ext E1027).wr W1030).ext E1031).lt sz_b1032_0))
  have nn1103 : b1017 ≠ b1032_1 := (Nat.ne_of_lt (Nat.lt_of_lt_of_le ((((((Ea1017.wr W1019).ext E1023).wr W1026).ext E1027).wr W1030).ext E1031).lt sz_b1032_1))
  have nn1104 : b1017 ≠ b1032_2 := (Nat.ne_of_lt (Nat.lt_of_lt_of_le ((((((Ea1017.wr W1019).ext E1023).wr W1026).ext E1027).wr W1030).ext E1031).lt sz_b1032_2))
  have nn1105 : b1017 ≠ b1032_3 := (Nat.ne_of_lt (Nat.lt_of_lt_of_le ((((((Ea1017.wr W1019).ext E1023).wr W1026).ext E1027).wr W1030).ext E1031).lt sz_b1032_3))
  have nn1106 : b1017 ≠ b1037 := (Nat.ne_of_lt (Nat.lt_of_lt_of_le ((((((((Ea1017.wr W1019).ext E1023).wr W1026).ext E1027).wr W1030).ext E1031).keep K1032).wr W1036).lt (Nat.le_of_eq g1037.symm)))
  have nn1107 : b1017 ≠ b1046 := (Nat.ne_of_lt (Nat.lt_of_lt_of_le ((((((((((Ea1017.wr W1019).ext E1023).wr W1026).ext E1027).wr W1030).ext E1031).keep K1032).wr W1036).ext E1037).wr W1040).lt (Nat.le_of_eq g1046.symm)))
  have nn1108 : b1023 ≠ b1027 := (Nat.ne_of_lt (Nat.lt_of_lt_of_le (V1023.other W1026 (Ne.symm nn1068)).lt (Nat.le_of_eq g1027.symm)))
  have nn1109 : b1023 ≠ b1032_0 := (Nat.ne_of_lt (Nat.lt_of_lt_of_le ((((V1023.other W1026 (Ne.symm nn1068)).ext E1027).other W1030 (Ne.symm nn1068)).ext E1031).lt sz_b1032_0))
  have nn1110 : b1023 ≠ b1032_1 := (Nat.ne_of_lt (Nat.lt_of_lt_of_le ((((V1023.other W1026 (Ne.symm nn1068)).ext E1027).other W1030 (Ne.symm nn1068)).ext E1031).lt sz_b1032_1))
  have nn1111 : b1023 ≠ b1032_2 := (Nat.ne_of_lt (Nat.lt_of_lt_of_le ((((V1023.other W1026 (Ne.symm nn1068)).ext E1027).other W1030 (Ne.symm nn1068)).ext E1031).lt sz_b1032_2))
  have nn1112 : b1023 ≠ b1032_3 := (Nat.ne_of_lt (Nat.lt_of_lt_of_le ((((V1023.other W1026 (Ne.symm nn1068)).ext E1027).other W1030 (Ne.symm nn1068)).ext E1031).lt sz_b1032_3))
  have nn1113 : b1023 ≠ b1037 := (Nat.ne_of_lt (Nat.lt_of_lt_of_le ((((((V1023.other W1026 (Ne.symm nn1068)).ext E1027).other W1030 (Ne.symm nn1068)).ext E1031).keep K1032 (ninS nn1069 nin0)).other W1036 (Ne.symm nn1068)).lt (Nat.le_of_eq g1037.symm)))
  have nn1114 : b1023 ≠ b1046 := (Nat.ne_of_lt (Nat.lt_of_lt_of_le ((((((((V1023.other W1026 (Ne.symm nn1068)).ext E1027).other W1030 (Ne.symm nn1068)).ext E1031).keep K1032 (ninS nn1069 nin0)).other W1036 (Ne.symm nn1068)).ext E1037).other W1040 (Ne.symm nn1068)).lt (Nat.le_of_eq g1046.symm)))
  have nn1115 : b1027 ≠ b1032_0 := (Nat.ne_of_lt (Nat.lt_of_lt_of_le ((V1027.other W1030 (Ne.symm nn1071)).ext E1031).lt sz_b1032_0))
  have nn1116 : b1027 ≠ b1032_1 := (Nat.ne_of_lt (Nat.lt_of_lt_of_le ((V1027.other W1030 (Ne.symm nn1071)).ext E1031).lt sz_b1032_1))
  have nn1117 : b1027 ≠ b1032_2 := (Nat.ne_of_lt (Nat.lt_of_lt_of_le ((V1027.other W1030 (Ne.symm nn1071)).ext E1031).lt sz_b1032_2))
  have nn1118 : b1027 ≠ b1032_3 := (Nat.ne_of_lt (Nat.lt_of_lt_of_le ((V1027.other W1030 (Ne.symm nn1071)).ext E1031).lt sz_b1032_3))
  have nn1119 : b1027 ≠ b1037 := (Nat.ne_of_lt (Nat.lt_of_lt_of_le ((((V1027.other W1030 (Ne.symm nn1071)).ext E1031).keep K1032 (ninS nn1072 nin0)).other W1036 (Ne.symm nn1071)).lt (Nat.le_of_eq g1037.symm)))
  have nn1120 : b1027 ≠ b1046 := (Nat.ne_of_lt (Nat.lt_of_lt_of_le ((((((V1027.other W1030 (Ne.symm nn1071)).ext E1031).keep K1032 (ninS nn1072 nin0)).other W1036 (Ne.symm nn1071)).ext E1037).other W1040 (Ne.symm nn1071)).lt (Nat.le_of_eq g1046.symm)))
  have nn1121 : b1031 ≠ b1032_0 := (Nat.ne_of_lt (Nat.lt_of_lt_of_le F1031_largest.lt sz_b1032_0))
  have nn1122 : b1031 ≠ b1032_1 := (Nat.ne_of_lt (Nat.lt_of_lt_of_le F1031_largest.lt sz_b1032_1))
  have nn1123 : b1031 ≠ b1032_2 := (Nat.ne_of_lt (Nat.lt_of_lt_of_le F1031_largest.lt sz_b1032_2))
  have nn1124 : b1031 ≠ b1032_3 := (Nat.ne_of_lt (Nat.lt_of_lt_of_le F1031_largest.lt sz_b1032_3))
  have nn1125 : b1031 ≠ b1037 := (Nat.ne_of_lt (Nat.lt_of_lt_of_le (Gf1032_6.other W1036 (Or.inl (Ne.symm nn1034))).lt (Nat.le_of_eq g1037.symm)))
  have nn1126 : b1031 ≠ b1046 := (Nat.ne_of_lt (Nat.lt_of_lt_of_le (((Gf1032_6.other W1036 (Or.inl (Ne.symm nn1034))).ext E1037).other W1040 (Or.inl (Ne.symm nn1034))).lt (Nat.le_of_eq g1046.symm)))
  have nn1127 : b1032_0 ≠ b1037 := (Nat.ne_of_lt (Nat.lt_of_lt_of_le (Gf1032_7.other W1036 (Ne.symm nn1081)).lt (Nat.le_of_eq g1037.symm)))
  have nn1128 : b1032_0 ≠ b1046 := (Nat.ne_of_lt (Nat.lt_of_lt_of_le (((Gf1032_7.other W1036 (Ne.symm nn1081)).ext E1037).other W1040 (Ne.symm nn1081)).lt (Nat.le_of_eq g1046.symm)))
  have nn1129 : b1032_1 ≠ b1037 := (Nat.ne_of_lt (Nat.lt_of_lt_of_le (Gf1032_8.other W1036 (Ne.symm nn1083)).lt (Nat.le_of_eq g1037.symm)))
  have nn1130 : b1032_1 ≠ b1046 := (Nat.ne_of_lt (Nat.lt_of_lt_of_le (((Gf1032_8.other W1036 (Ne.symm nn1083)).ext E1037).other W1040 (Ne.symm nn1083)).lt (Nat.le_of_eq g1046.symm)))
  have nn1131 : b1032_2 ≠ b1037 := (Nat.ne_of_lt (Nat.lt_of_lt_of_le (Gf1032_9.other W1036 (Ne.symm nn1085)).lt (Nat.le_of_eq g1037.symm)))
  have nn1132 : b1032_2 ≠ b1046 := (Nat.ne_of_lt (Nat.lt_of_lt_of_le (((Gf1032_9.other W1036 (Ne.symm nn1085)).ext E1037).other W1040 (Ne.symm nn1085)).lt (Nat.le_of_eq g1046.symm)))
  have nn1133 : b1032_3 ≠ b1037 := (Nat.ne_of_lt (Nat.lt_of_lt_of_le (Gf1032_10.other W1036 (Ne.symm nn1087)).lt (Nat.le_of_eq g1037.symm)))
  have nn1134 : b1032_3 ≠ b1046 := (Nat.ne_of_lt (Nat.lt_of_lt_of_le (((Gf1032_10.other W1036 (Ne.symm nn1087)).ext E1037).other W1040 (Ne.symm nn1087)).lt (Nat.le_of_eq g1046.symm)))
  have nn1135 : b1037 ≠ b1046 := (Nat.ne_of_lt (Nat.lt_of_lt_of_le Fa1044.lt (Nat.le_of_eq g1046.symm)))
  exact ⟨b1006, b1017, b1023, b1027, b1031, b1032_0, b1032_1, b1032_2, b1032_3, b1037, b1046, k1006, k1017, k1023, k1027, k1032_0, k1032_1, k1032_2, k1037, k1046, rfl, N1049, K1049, sz_b1006, ge_b1006, sz_b1017, ge_b1017, sz_b1023, ge_b1023, sz_b1027, ge_b1027, sz_b1031, ge_b1031, szz_b1032_0, ge_b1032_0, szz_b1032_1, ge_b1032_1, szz_b1032_2, ge_b1032_2, szz_b1032_3, ge_b1032_3, sz_b1037, ge_b1037, sz_b1046, ge_b1046, nn1063, nn1092, nn1093, nn1060, nn1094, nn1095, nn1096, nn1097, nn1098, nn1099, nn1100, nn1101, nn1065, nn1102, nn1103, nn1104, nn1105, nn1106, nn1107, nn1108, nn1069, nn1109, nn1110, nn1111, nn1112, nn1113, nn1114, nn1072, nn1115, nn1116, nn1117, nn1118, nn1119, nn1120, nn1121, nn1122, nn1123, nn1124, nn1125, nn1126, ne_b1032_0_b1032_1, ne_b1032_0_b1032_2, ne_b1032_0_b1032_3, nn1127, nn1128, ne_b1032_1_b1032_2, ne_b1032_1_b1032_3, nn1129, nn1130, ne_b1032_2_b1032_3, nn1131, nn1132, nn1133, nn1134, nn1135, Fa1050, Fa1051, Fa1052, Fa1053, Fa1054, Fa1055, Fa1056, Fa1057, Fw1049, Fa1058, Fa1059, Fa1061, Fa1062, Fa1066, Fa1067, Fa1070, Fa1073, Fa1074, Fa1075, Fa1076, Fa1077, Fa1078, Fa1079, Fa1080, Fa1082, Fa1084, Fa1086, Fa1088, Fa1089, Fa1091⟩
theorem own_dl2 : (4611686018427387904 : UInt64) = FP.l2d (2 : Int64) := by decide +kernel
theorem own_dl3 : (4613937818241073152 : UInt64) = FP.l2d (3 : Int64) := by decide +kernel
theorem d7_0 : decode prog_8_method_2_code 0 = .ok (.aload_n 0, 1) := by decide +kernel
theorem d7_1 : decode prog_8_method_2_code 1 = .ok (.getfield 9, 3) := by decide +kernel
theorem d7_4 : decode prog_8_method_2_code 4 = .ok (.iconst (-1), 1) := by decide +kernel
theorem d7_5 : decode prog_8_method_2_code 5 = .ok (.if_icmp .eq 23, 3) := by decide +kernel
theorem d7_28 : decode prog_8_method_2_code 28 = .ok (.aload_n 0, 1) := by decide +kernel
theorem d7_29 : decode prog_8_method_2_code 29 = .ok (.getfield 55, 3) := by decide +kernel
theorem d7_32 : decode prog_8_method_2_code 32 = .ok (.istore 8, 2) := by decide +kernel
theorem d7_34 : decode prog_8_method_2_code 34 = .ok (.aload_n 0, 1) := by decide +kernel
theorem d7_35 : decode prog_8_method_2_code 35 = .ok (.dup, 1) := by decide +kernel
theorem d7_36 : decode prog_8_method_2_code 36 = .ok (.getfield 55, 3) := by decide +kernel
theorem d7_39 : decode prog_8_method_2_code 39 = .ok (.iconst 1, 1) := by decide +kernel
theorem d7_40 : decode prog_8_method_2_code 40 = .ok (.iadd, 1) := by decide +kernel
theorem d7_41 : decode prog_8_method_2_code 41 = .ok (.putfield 55, 3) := by decide +kernel
theorem d7_44 : decode prog_8_method_2_code 44 = .ok (.aload_n 0, 1) := by decide +kernel
theorem d7_45 : decode prog_8_method_2_code 45 = .ok (.getfield 32, 3) := by decide +kernel
theorem sn_ids_slotsUsed {Z : State} {a0 : Array Value} (hw : ∀ d ∈ tables_1, d.before a0 Z = true) : Jvm.RoadKit.slotOf Z "com/example/housemartin/housemartin/firm/FirmSlots" "ids" "[J" ≠ Jvm.RoadKit.slotOf Z "com/example/housemartin/housemartin/firm/FirmSlots" "slotsUsed" "I" := slot_ne (Or.inr (own_w hw 28 rfl)) (Or.inl (own_w hw 70 rfl)) (by decide) (t := (.array .long)) (t' := .int) (by decide) (by decide)
theorem d7_48 : decode prog_8_method_2_code 48 = .ok (.iload 8, 2) := by decide +kernel
theorem d7_50 : decode prog_8_method_2_code 50 = .ok (.aload_n 0, 1) := by decide +kernel
theorem d7_51 : decode prog_8_method_2_code 51 = .ok (.getfield 13, 3) := by decide +kernel
theorem sn_nextId_slotsUsed {Z : State} {a0 : Array Value} (hw : ∀ d ∈ tables_1, d.before a0 Z = true) : Jvm.RoadKit.slotOf Z "com/example/housemartin/housemartin/firm/FirmSlots" "nextId" "J" ≠ Jvm.RoadKit.slotOf Z "com/example/housemartin/housemartin/firm/FirmSlots" "slotsUsed" "I" := slot_ne (Or.inl (own_w hw 13 rfl)) (Or.inl (own_w hw 70 rfl)) (by decide) (t := .long) (t' := .int) (by decide) (by decide)
theorem d7_54 : decode prog_8_method_2_code 54 = .ok (.lastore, 1) := by decide +kernel
theorem d7_55 : decode prog_8_method_2_code 55 = .ok (.aload_n 0, 1) := by decide +kernel
theorem d7_56 : decode prog_8_method_2_code 56 = .ok (.dup, 1) := by decide +kernel
theorem d7_57 : decode prog_8_method_2_code 57 = .ok (.getfield 13, 3) := by decide +kernel
theorem d7_60 : decode prog_8_method_2_code 60 = .ok (.lconst 1, 1) := by decide +kernel
theorem d7_61 : decode prog_8_method_2_code 61 = .ok (.ladd, 1) := by decide +kernel
theorem d7_62 : decode prog_8_method_2_code 62 = .ok (.putfield 13, 3) := by decide +kernel
theorem d7_65 : decode prog_8_method_2_code 65 = .ok (.aload_n 0, 1) := by decide +kernel
theorem d7_66 : decode prog_8_method_2_code 66 = .ok (.getfield 36, 3) := by decide +kernel
theorem sn_births_slotsUsed {Z : State} {a0 : Array Value} (hw : ∀ d ∈ tables_1, d.before a0 Z = true) : Jvm.RoadKit.slotOf Z "com/example/housemartin/housemartin/firm/FirmSlots" "births" "[I" ≠ Jvm.RoadKit.slotOf Z "com/example/housemartin/housemartin/firm/FirmSlots" "slotsUsed" "I" := slot_ne (Or.inr (own_w hw 31 rfl)) (Or.inl (own_w hw 70 rfl)) (by decide) (t := (.array .int)) (t' := .int) (by decide) (by decide)
theorem d7_69 : decode prog_8_method_2_code 69 = .ok (.iload 8, 2) := by decide +kernel
theorem d7_71 : decode prog_8_method_2_code 71 = .ok (.iload 7, 2) := by decide +kernel
theorem d7_73 : decode prog_8_method_2_code 73 = .ok (.iastore, 1) := by decide +kernel
theorem d7_74 : decode prog_8_method_2_code 74 = .ok (.aload_n 0, 1) := by decide +kernel
theorem d7_75 : decode prog_8_method_2_code 75 = .ok (.getfield 21, 3) := by decide +kernel
theorem sn_pages_slotsUsed {Z : State} {a0 : Array Value} (hw : ∀ d ∈ tables_1, d.before a0 Z = true) : Jvm.RoadKit.slotOf Z "com/example/housemartin/housemartin/firm/FirmSlots" "pages" "[[D" ≠ Jvm.RoadKit.slotOf Z "com/example/housemartin/housemartin/firm/FirmSlots" "slotsUsed" "I" := slot_ne (Or.inr (own_w hw 18 rfl)) (Or.inl (own_w hw 70 rfl)) (by decide) (t := (.array (.array .double))) (t' := .int) (by decide) (by decide)
theorem d7_78 : decode prog_8_method_2_code 78 = .ok (.iload 8, 2) := by decide +kernel
theorem d7_80 : decode prog_8_method_2_code 80 = .ok (.bipush 24, 2) := by decide +kernel
theorem d7_82 : decode prog_8_method_2_code 82 = .ok (.iushr, 1) := by decide +kernel
theorem d7_83 : decode prog_8_method_2_code 83 = .ok (.aaload, 1) := by decide +kernel
theorem d7_84 : decode prog_8_method_2_code 84 = .ok (.astore 9, 2) := by decide +kernel
theorem d7_86 : decode prog_8_method_2_code 86 = .ok (.iload 8, 2) := by decide +kernel
theorem d7_88 : decode prog_8_method_2_code 88 = .ok (.ldc 58, 2) := by decide +kernel
theorem d7_90 : decode prog_8_method_2_code 90 = .ok (.iand, 1) := by decide +kernel
theorem d7_91 : decode prog_8_method_2_code 91 = .ok (.iconst 5, 1) := by decide +kernel
theorem d7_92 : decode prog_8_method_2_code 92 = .ok (.imul, 1) := by decide +kernel
theorem d7_93 : decode prog_8_method_2_code 93 = .ok (.istore 10, 2) := by decide +kernel
theorem d7_95 : decode prog_8_method_2_code 95 = .ok (.aload 9, 2) := by decide +kernel
theorem d7_97 : decode prog_8_method_2_code 97 = .ok (.iload 10, 2) := by decide +kernel
theorem d7_99 : decode prog_8_method_2_code 99 = .ok (.iconst 0, 1) := by decide +kernel
theorem d7_100 : decode prog_8_method_2_code 100 = .ok (.iadd, 1) := by decide +kernel
theorem d7_101 : decode prog_8_method_2_code 101 = .ok (.dload_n 1, 1) := by decide +kernel
theorem d7_102 : decode prog_8_method_2_code 102 = .ok (.dastore, 1) := by decide +kernel
theorem d7_103 : decode prog_8_method_2_code 103 = .ok (.aload 9, 2) := by decide +kernel
theorem d7_105 : decode prog_8_method_2_code 105 = .ok (.iload 10, 2) := by decide +kernel
theorem d7_107 : decode prog_8_method_2_code 107 = .ok (.iconst 1, 1) := by decide +kernel
theorem d7_108 : decode prog_8_method_2_code 108 = .ok (.iadd, 1) := by decide +kernel
theorem d7_109 : decode prog_8_method_2_code 109 = .ok (.dload_n 3, 1) := by decide +kernel
theorem d7_110 : decode prog_8_method_2_code 110 = .ok (.dastore, 1) := by decide +kernel
theorem d7_111 : decode prog_8_method_2_code 111 = .ok (.aload 9, 2) := by decide +kernel
theorem d7_113 : decode prog_8_method_2_code 113 = .ok (.iload 10, 2) := by decide +kernel
theorem d7_115 : decode prog_8_method_2_code 115 = .ok (.iconst 2, 1) := by decide +kernel
theorem d7_116 : decode prog_8_method_2_code 116 = .ok (.iadd, 1) := by decide +kernel
theorem d7_117 : decode prog_8_method_2_code 117 = .ok (.dload 5, 2) := by decide +kernel
theorem d7_119 : decode prog_8_method_2_code 119 = .ok (.dastore, 1) := by decide +kernel
theorem d7_120 : decode prog_8_method_2_code 120 = .ok (.aload 9, 2) := by decide +kernel
theorem d7_122 : decode prog_8_method_2_code 122 = .ok (.iload 10, 2) := by decide +kernel
theorem d7_124 : decode prog_8_method_2_code 124 = .ok (.iconst 3, 1) := by decide +kernel
theorem d7_125 : decode prog_8_method_2_code 125 = .ok (.iadd, 1) := by decide +kernel
theorem d7_126 : decode prog_8_method_2_code 126 = .ok (.dconst 0, 1) := by decide +kernel
theorem d7_127 : decode prog_8_method_2_code 127 = .ok (.dastore, 1) := by decide +kernel
theorem d7_128 : decode prog_8_method_2_code 128 = .ok (.aload 9, 2) := by decide +kernel
theorem d7_130 : decode prog_8_method_2_code 130 = .ok (.iload 10, 2) := by decide +kernel
theorem d7_132 : decode prog_8_method_2_code 132 = .ok (.iconst 4, 1) := by decide +kernel
theorem d7_133 : decode prog_8_method_2_code 133 = .ok (.iadd, 1) := by decide +kernel
theorem d7_134 : decode prog_8_method_2_code 134 = .ok (.dconst 0, 1) := by decide +kernel
theorem d7_135 : decode prog_8_method_2_code 135 = .ok (.dastore, 1) := by decide +kernel
theorem d7_136 : decode prog_8_method_2_code 136 = .ok (.aload_n 0, 1) := by decide +kernel
theorem d7_137 : decode prog_8_method_2_code 137 = .ok (.dup, 1) := by decide +kernel
theorem d7_138 : decode prog_8_method_2_code 138 = .ok (.getfield 59, 3) := by decide +kernel
theorem sn_openFirms_slotsUsed {Z : State} {a0 : Array Value} (hw : ∀ d ∈ tables_1, d.before a0 Z = true) : Jvm.RoadKit.slotOf Z "com/example/housemartin/housemartin/firm/FirmSlots" "openFirms" "I" ≠ Jvm.RoadKit.slotOf Z "com/example/housemartin/housemartin/firm/FirmSlots" "slotsUsed" "I" := slot_ne (Or.inl (own_w hw 73 rfl)) (Or.inl (own_w hw 70 rfl)) (by decide) (t := .int) (t' := .int) (by decide) (by decide)
theorem d7_141 : decode prog_8_method_2_code 141 = .ok (.iconst 1, 1) := by decide +kernel
theorem d7_142 : decode prog_8_method_2_code 142 = .ok (.iadd, 1) := by decide +kernel
theorem d7_143 : decode prog_8_method_2_code 143 = .ok (.putfield 59, 3) := by decide +kernel
theorem d7_146 : decode prog_8_method_2_code 146 = .ok (.iload 8, 2) := by decide +kernel
theorem d7_148 : decode prog_8_method_2_code 148 = .ok (.ireturn, 1) := by decide +kernel
theorem ef_7 (m : MethodId) (x0 : Addr) (x1 : UInt64) (x2 : UInt64) (x3 : UInt64) (x4 : Int32) : entryFrame m #[(.ref x0), (.double x1), (.double x2), (.double x3), (.int x4)] 11 = mkF m 0 #[.val (.ref x0), .val (.double x1), .second, .val (.double x2), .second, .val (.double x3), .second, .val (.int x4), .unset, .unset, .unset] [] := by first | (simp [entryFrame, mkF, argsToLocals, Value.category]; done) | rfl
theorem sn_freeSlot_slotsUsed {Z : State} {a0 : Array Value} (hw : ∀ d ∈ tables_1, d.before a0 Z = true) : Jvm.RoadKit.slotOf Z "com/example/housemartin/housemartin/firm/FirmSlots" "freeSlot" "I" ≠ Jvm.RoadKit.slotOf Z "com/example/housemartin/housemartin/firm/FirmSlots" "slotsUsed" "I" := slot_ne (Or.inl (own_w hw 11 rfl)) (Or.inl (own_w hw 70 rfl)) (by decide) (t := .int) (t' := .int) (by decide) (by decide)
theorem sn_freeSlot_openFirms {Z : State} {a0 : Array Value} (hw : ∀ d ∈ tables_1, d.before a0 Z = true) : Jvm.RoadKit.slotOf Z "com/example/housemartin/housemartin/firm/FirmSlots" "freeSlot" "I" ≠ Jvm.RoadKit.slotOf Z "com/example/housemartin/housemartin/firm/FirmSlots" "openFirms" "I" := slot_ne (Or.inl (own_w hw 11 rfl)) (Or.inl (own_w hw 73 rfl)) (by decide) (t := .int) (t' := .int) (by decide) (by decide)
theorem sn_slotsUsed_openFirms {Z : State} {a0 : Array Value} (hw : ∀ d ∈ tables_1, d.before a0 Z = true) : Jvm.RoadKit.slotOf Z "com/example/housemartin/housemartin/firm/FirmSlots" "slotsUsed" "I" ≠ Jvm.RoadKit.slotOf Z "com/example/housemartin/housemartin/firm/FirmSlots" "openFirms" "I" := slot_ne (Or.inl (own_w hw 70 rfl)) (Or.inl (own_w hw 73 rfl)) (by decide) (t := .int) (t' := .int) (by decide) (by decide)
theorem sn_ids_openFirms {Z : State} {a0 : Array Value} (hw : ∀ d ∈ tables_1, d.before a0 Z = true) : Jvm.RoadKit.slotOf Z "com/example/housemartin/housemartin/firm/FirmSlots" "ids" "[J" ≠ Jvm.RoadKit.slotOf Z "com/example/housemartin/housemartin/firm/FirmSlots" "openFirms" "I" := slot_ne (Or.inr (own_w hw 28 rfl)) (Or.inl (own_w hw 73 rfl)) (by decide) (t := (.array .long)) (t' := .int) (by decide) (by decide)
theorem sn_nextId_openFirms {Z : State} {a0 : Array Value} (hw : ∀ d ∈ tables_1, d.before a0 Z = true) : Jvm.RoadKit.slotOf Z "com/example/housemartin/housemartin/firm/FirmSlots" "nextId" "J" ≠ Jvm.RoadKit.slotOf Z "com/example/housemartin/housemartin/firm/FirmSlots" "openFirms" "I" := slot_ne (Or.inl (own_w hw 13 rfl)) (Or.inl (own_w hw 73 rfl)) (by decide) (t := .long) (t' := .int) (by decide) (by decide)
theorem sn_births_openFirms {Z : State} {a0 : Array Value} (hw : ∀ d ∈ tables_1, d.before a0 Z = true) : Jvm.RoadKit.slotOf Z "com/example/housemartin/housemartin/firm/FirmSlots" "births" "[I" ≠ Jvm.RoadKit.slotOf Z "com/example/housemartin/housemartin/firm/FirmSlots" "openFirms" "I" := slot_ne (Or.inr (own_w hw 31 rfl)) (Or.inl (own_w hw 73 rfl)) (by decide) (t := (.array .int)) (t' := .int) (by decide) (by decide)
theorem sn_pages_openFirms {Z : State} {a0 : Array Value} (hw : ∀ d ∈ tables_1, d.before a0 Z = true) : Jvm.RoadKit.slotOf Z "com/example/housemartin/housemartin/firm/FirmSlots" "pages" "[[D" ≠ Jvm.RoadKit.slotOf Z "com/example/housemartin/housemartin/firm/FirmSlots" "openFirms" "I" := slot_ne (Or.inr (own_w hw 18 rfl)) (Or.inl (own_w hw 73 rfl)) (by decide) (t := (.array (.array .double))) (t' := .int) (by decide) (by decide)
theorem sn_members_slotsUsed {Z : State} {a0 : Array Value} (hw : ∀ d ∈ tables_1, d.before a0 Z = true) : Jvm.RoadKit.slotOf Z "com/example/housemartin/housemartin/firm/FirmSlots" "members" "Lcom/example/housemartin/housemartin/firm/Members;" ≠ Jvm.RoadKit.slotOf Z "com/example/housemartin/housemartin/firm/FirmSlots" "slotsUsed" "I" := slot_ne (Or.inr (own_w hw 57 rfl)) (Or.inl (own_w hw 70 rfl)) (by decide) (t := (.object "com/example/housemartin/housemartin/firm/Members")) (t' := .int) (by decide) (by decide)
theorem sn_members_openFirms {Z : State} {a0 : Array Value} (hw : ∀ d ∈ tables_1, d.before a0 Z = true) : Jvm.RoadKit.slotOf Z "com/example/housemartin/housemartin/firm/FirmSlots" "members" "Lcom/example/housemartin/housemartin/firm/Members;" ≠ Jvm.RoadKit.slotOf Z "com/example/housemartin/housemartin/firm/FirmSlots" "openFirms" "I" := slot_ne (Or.inr (own_w hw 57 rfl)) (Or.inl (own_w hw 73 rfl)) (by decide) (t := (.object "com/example/housemartin/housemartin/firm/Members")) (t' := .int) (by decide) (by decide)
theorem sn_changedNow_slotsUsed {Z : State} {a0 : Array Value} (hw : ∀ d ∈ tables_1, d.before a0 Z = true) : Jvm.RoadKit.slotOf Z "com/example/housemartin/housemartin/firm/FirmSlots" "changedNow" "[J" ≠ Jvm.RoadKit.slotOf Z "com/example/housemartin/housemartin/firm/FirmSlots" "slotsUsed" "I" := slot_ne (Or.inl (own_w hw 59 rfl)) (Or.inl (own_w hw 70 rfl)) (by decide) (t := (.array .long)) (t' := .int) (by decide) (by decide)
theorem sn_changedNow_openFirms {Z : State} {a0 : Array Value} (hw : ∀ d ∈ tables_1, d.before a0 Z = true) : Jvm.RoadKit.slotOf Z "com/example/housemartin/housemartin/firm/FirmSlots" "changedNow" "[J" ≠ Jvm.RoadKit.slotOf Z "com/example/housemartin/housemartin/firm/FirmSlots" "openFirms" "I" := slot_ne (Or.inl (own_w hw 59 rfl)) (Or.inl (own_w hw 73 rfl)) (by decide) (t := (.array .long)) (t' := .int) (by decide) (by decide)
theorem sn_changedBefore_slotsUsed {Z : State} {a0 : Array Value} (hw : ∀ d ∈ tables_1, d.before a0 Z = true) : Jvm.RoadKit.slotOf Z "com/example/housemartin/housemartin/firm/FirmSlots" "changedBefore" "[J" ≠ Jvm.RoadKit.slotOf Z "com/example/housemartin/housemartin/firm/FirmSlots" "slotsUsed" "I" := slot_ne (Or.inl (own_w hw 61 rfl)) (Or.inl (own_w hw 70 rfl)) (by decide) (t := (.array .long)) (t' := .int) (by decide) (by decide)
theorem sn_changedBefore_openFirms {Z : State} {a0 : Array Value} (hw : ∀ d ∈ tables_1, d.before a0 Z = true) : Jvm.RoadKit.slotOf Z "com/example/housemartin/housemartin/firm/FirmSlots" "changedBefore" "[J" ≠ Jvm.RoadKit.slotOf Z "com/example/housemartin/housemartin/firm/FirmSlots" "openFirms" "I" := slot_ne (Or.inl (own_w hw 61 rfl)) (Or.inl (own_w hw 73 rfl)) (by decide) (t := (.array .long)) (t' := .int) (by decide) (by decide)
def Q_rm7_0 (Z : State) (b1 : Addr) (b2_2 : Addr) (k2_2 : ClassId) (b2_3 : Addr) (k2_3 : ClassId) (b2_0 : Addr) (k2_0 : ClassId) (b2_1 : Addr) (k2_1 : ClassId) (b2_4 : Addr) (b2_9 : Addr) (b2_10 : Addr) (h0 : Heap) (n0 : Nat) (v : Option Value) (h : Heap) (L : List Loc) : Prop := v = some (.int 0) ∧ Fr n0 L ∧ Keep h0 h [b1, b2_2, b2_3, b2_1] ∧ Fld Z h b1 cF "freeSlot" "I" (.int (-1)) ∧ Fld Z h b1 cF "slotsUsed" "I" (.int 1) ∧ Exa Z h b1 cF ∧ Fld Z h b1 cF "ids" "[J" (.ref b2_2) ∧ Fld Z h b1 cF "nextId" "J" (.long 2) ∧ Arv Z h b2_2 k2_2 .long 4 [(.long 1), (.long 0), (.long 0), (.long 0)] (.long 0) ∧ Fld Z h b1 cF "births" "[I" (.ref b2_3) ∧ Arv Z h b2_3 k2_3 .int 4 [(.int 10), (.int 0), (.int 0), (.int 0)] (.int 0) ∧ Fld Z h b1 cF "pages" "[[D" (.ref b2_0) ∧ Arv Z h b2_1 k2_1 .double 20 [(dl 1), (dl 2), (dl 3), (dl 0), (dl 0), (dl 0), (dl 0), (dl 0), (dl 0), (dl 0), (dl 0), (dl 0), (dl 0), (dl 0), (dl 0), (dl 0), (dl 0), (dl 0), (dl 0), (dl 0)] (dl 0) ∧ Fld Z h b1 cF "openFirms" "I" (.int 1) ∧ Fld Z h b1 cF "members" "Lcom/example/housemartin/housemartin/firm/Members;" (.ref b2_4) ∧ Fld Z h b1 cF "changedNow" "[J" (.ref b2_9) ∧ Fld Z h b1 cF "changedBefore" "[J" (.ref b2_10) ∧ Exa Z h b2_1 "[D"
set_option maxRecDepth 65536 in
set_option maxHeartbeats 40000000 in
theorem rm7_0 (l : Launch) (Z : State) (a0 : Array Value) (hw : ∀ d ∈ tables_1, d.before a0 Z = true) (ws : List Jvm.Cond) (b1 : Addr) (b2_2 : Addr) (k2_2 : ClassId) (b2_3 : Addr) (k2_3 : ClassId) (b2_0 : Addr) (k2_0 : ClassId) (b2_1 : Addr) (k2_1 : ClassId) (b2_4 : Addr) (b2_9 : Addr) (b2_10 : Addr) (h0 : Heap) (n0 : Nat) (Z0 : n0 ≤ h0.size) (m0 : Fld Z h0 b1 cF "freeSlot" "I" (.int (-1))) (m1 : Fld Z h0 b1 cF "slotsUsed" "I" (.int 0)) (m2 : Exa Z h0 b1 cF) (m3 : Fld Z h0 b1 cF "ids" "[J" (.ref b2_2)) (m4 : Fld Z h0 b1 cF "nextId" "J" (.long 1)) (m5 : Arv Z h0 b2_2 k2_2 .long 4 [(.long 0), (.long 0), (.long 0), (.long 0)] (.long 0)) (m6 : Fld Z h0 b1 cF "births" "[I" (.ref b2_3)) (m7 : Arv Z h0 b2_3 k2_3 .int 4 [(.int 0), (.int 0), (.int 0), (.int 0)] (.int 0)) (m8 : Fld Z h0 b1 cF "pages" "[[D" (.ref b2_0)) (m9 : Arv Z h0 b2_0 k2_0 (.array .double) 1 [(.ref b2_1)] .null) (m10 : Arv Z h0 b2_1 k2_1 .double 20 [(dl 0), (dl 0), (dl 0), (dl 0), (dl 0), (dl 0), (dl 0), (dl 0), (dl 0), (dl 0), (dl 0), (dl 0), (dl 0), (dl 0), (dl 0), (dl 0), (dl 0), (dl 0), (dl 0), (dl 0)] (dl 0)) (m11 : Fld Z h0 b1 cF "openFirms" "I" (.int 0)) (m12 : Fld Z h0 b1 cF "members" "Lcom/example/housemartin/housemartin/firm/Members;" (.ref b2_4)) (m13 : Fld Z h0 b1 cF "changedNow" "[J" (.ref b2_9)) (m14 : Fld Z h0 b1 cF "changedBefore" "[J" (.ref b2_10)) (m15 : Exa Z h0 b2_1 "[D") (ne_b2_2_b1 : b2_2 ≠ b1) (ne_b2_3_b1 : b2_3 ≠ b1) (ne_b2_3_b2_2 : b2_3 ≠ b2_2) (ne_b2_0_b1 : b2_0 ≠ b1) (ne_b2_0_b2_2 : b2_0 ≠ b2_2) (ne_b2_0_b2_3 : b2_0 ≠ b2_3) (ne_b2_1_b1 : b2_1 ≠ b1) (ne_b2_1_b2_2 : b2_1 ≠ b2_2) (ne_b2_1_b2_3 : b2_1 ≠ b2_3) (gg_b1 : n0 ≤ b1) (gg_b2_2 : n0 ≤ b2_2) (gg_b2_3 : n0 ≤ b2_3) (gg_b2_1 : n0 ≤ b2_1) :
    oM l y7 prog_8_method_2_code 11 (some .int) ws (⟨0, 0, 0, 0⟩ : Room) Z h0 #[(.ref b1), (dl 1), (dl 2), (dl 3), (.int 10)] (Q_rm7_0 Z b1 b2_2 k2_2 b2_3 k2_3 b2_0 k2_0 b2_1 k2_1 b2_4 b2_9 b2_10 h0 n0) := by
  refine own_enter (Q := Q_rm7_0 Z b1 b2_2 k2_2 b2_3 k2_3 b2_0 k2_0 b2_1 k2_1 b2_4 b2_9 b2_10 h0 n0) (plainFor_of_name pn_com_example_housemartin_housemartin_firm_FirmSlots) ?_
  intro p e s m below meth c s₁ G X0 hx hby hml hZ hown hnm hret e0 go fin
  replace hown : s.vm.findClass cF = some m.cls := hown
  replace hnm : meth.name = "open" := hnm
  replace hml : c.maxLocals = 11 := hml
  rw [ef_7 m b1 _ _ _ _]
  have N0 := Fr.nil n0
  refine go (fun tg kg => XS.aloadN X0.here hx rfl (hb hby d7_0) rfl rfl kg) ?_
  obtain ⟨T1001, X1001, e1001, st1001⟩ := getF X0 hx hZ hown (host := "") (Or.inl (own_w hw 10 rfl)) Via.refl e0 m0 (g := (mkF m 1 #[rv b1, dv 1, .second, dv 2, .second, dv 3, .second, iv 10, .unset, .unset, .unset] [(.ref b1)])) rfl rfl (hb hby d7_1)
  refine go st1001 ?_
  refine go (fun tg kg => XS.iconst X1001.here hx rfl (hb hby d7_4) kg) ?_
  refine go (fun tg kg => XS.icmpYes X1001.here hx rfl (pc0 := 5) (pc' := 28) rfl (hb hby d7_5) rfl (teq (by decide)).1 (by decide) (by decide) kg) ?_
  refine go (fun tg kg => XS.aloadN X1001.here hx rfl (hb hby d7_28) rfl rfl kg) ?_
  show G (T1001.setTop (mkF m 29 #[rv b1, dv 1, .second, dv 2, .second, dv 3, .second, iv 10, .unset, .unset, .unset] [(.ref b1)]))
  obtain ⟨T1002, X1002, e1002, st1002⟩ := getF X1001 hx hZ hown (host := "") (Or.inl (own_w hw 69 rfl)) Via.refl e1001 m1 (g := (mkF m 29 #[rv b1, dv 1, .second, dv 2, .second, dv 3, .second, iv 10, .unset, .unset, .unset] [(.ref b1)])) rfl rfl (hb hby d7_29)
  refine go st1002 ?_
  refine go (fun tg kg => XS.istore X1002.here hx rfl (hb hby d7_32) rfl (l' := #[rv b1, dv 1, .second, dv 2, .second, dv 3, .second, iv 10, iv 0, .unset, .unset]) rfl kg) ?_
  refine go (fun tg kg => XS.aloadN X1002.here hx rfl (hb hby d7_34) rfl rfl kg) ?_
  refine go (fun tg kg => XS.dup X1002.here hx rfl (hb hby d7_35) rfl rfl kg) ?_
  obtain ⟨T1003, X1003, e1003, st1003⟩ := getF X1002 hx hZ hown (host := "") (Or.inl (own_w hw 69 rfl)) Via.refl e1002 m1 (g := (mkF m 36 #[rv b1, dv 1, .second, dv 2, .second, dv 3, .second, iv 10, iv 0, .unset, .unset] [(.ref b1), (.ref b1)])) rfl rfl (hb hby d7_36)
  refine go st1003 ?_
  refine go (fun tg kg => XS.iconst X1003.here hx rfl (hb hby d7_39) kg) ?_
  show G (T1003.setTop (mkF m 40 #[rv b1, dv 1, .second, dv 2, .second, dv 3, .second, iv 10, iv 0, .unset, .unset] [(.int 1), (.int 0), (.ref b1)]))
  refine go (fun tg kg => XS.iadd X1003.here hx rfl (hb hby d7_40) rfl kg) ?_
  obtain ⟨T1004, h1004, X1004, e1004, W1004, st1004⟩ := putF X1003 hx hZ hown (host := "") (Or.inl (own_w hw 69 rfl)) Via.refl e1003 m1 m2 (Or.inl (own_w hw 70 rfl)) (own_w hw 2 rfl) (ty := .int) (by decide) rfl rfl (g := (mkF m 41 #[rv b1, dv 1, .second, dv 2, .second, dv 3, .second, iv 10, iv 0, .unset, .unset] [(.int 1), (.ref b1)])) rfl rfl (hb hby d7_41)
  refine go st1004 ?_
  have Fw1004 : Fld Z h1004 b1 cF "slotsUsed" "I" (.int 1) := m1.same W1004
  have N1004 := Fr.snoc X1004 N0 gg_b1
  have K1004 : Keep h0 h1004 [b1, b2_2, b2_3, b2_1] := (Keep.refl h0 [b1, b2_2, b2_3, b2_1]).wr W1004 (Or.inl (List.mem_of_getElem? (i := 0) rfl))
  have Z1004 := Nat.le_trans Z0 (Keep.of_wr W1004).1
  refine go (fun tg kg => XS.aloadN X1004.here hx rfl (hb hby d7_44) rfl rfl kg) ?_
  have Fa1005 := (m2.wr W1004)
  have Fa1006 := (m3.other W1004 (Or.inr (sn_ids_slotsUsed hw)))
  obtain ⟨T1007, X1007, e1007, st1007⟩ := getF X1004 hx hZ hown (host := "") (Or.inl (own_w hw 27 rfl)) Via.refl e1004 Fa1006 (g := (mkF m 45 #[rv b1, dv 1, .second, dv 2, .second, dv 3, .second, iv 10, iv 0, .unset, .unset] [(.ref b1)])) rfl rfl (hb hby d7_45)
  refine go st1007 ?_
  refine go (fun tg kg => XS.iload X1007.here hx rfl (hb hby d7_48) rfl kg) ?_
  refine go (fun tg kg => XS.aloadN X1007.here hx rfl (hb hby d7_50) rfl rfl kg) ?_
  show G (T1007.setTop (mkF m 51 #[rv b1, dv 1, .second, dv 2, .second, dv 3, .second, iv 10, iv 0, .unset, .unset] [(.ref b1), (.int 0), (.ref b2_2)]))
  have Fa1008 := (m4.other W1004 (Or.inr (sn_nextId_slotsUsed hw)))
  obtain ⟨T1009, X1009, e1009, st1009⟩ := getF X1007 hx hZ hown (host := "") (Or.inl (own_w hw 12 rfl)) Via.refl e1007 Fa1008 (g := (mkF m 51 #[rv b1, dv 1, .second, dv 2, .second, dv 3, .second, iv 10, iv 0, .unset, .unset] [(.ref b1), (.int 0), (.ref b2_2)])) rfl rfl (hb hby d7_51)
  refine go st1009 ?_
  have Fa1010 := (m5.other W1004 ne_b2_2_b1)
  obtain ⟨cl1011, Ar1011, q1011, S1011, M1011, H1011, U1011⟩ := id Fa1010
  have hin1011 : ¬ ((0 : Int32) < 0 ∨ cl1011.slots.size ≤ ((0 : Int32)).toNatClampNeg) := inb_of S1011 ⟨by decide, by decide⟩
  obtain ⟨T1011, h1011, X1011, e1011, W1011, st1011⟩ := stJ X1009 hx hZ e1009 Ar1011 (j := (0 : Int32)) hin1011 (g := (mkF m 54 #[rv b1, dv 1, .second, dv 2, .second, dv 3, .second, iv 10, iv 0, .unset, .unset] [(.long 1), (.int 0), (.ref b2_2)])) rfl rfl (hb hby d7_54)
  refine go st1011 ?_
  have V1011 : Arv Z h1011 b2_2 k2_2 .long (4 : Int32) [(.long 1), (.long 0), (.long 0), (.long 0)] (.long 0) := Arv.set Ar1011 q1011 S1011 M1011 H1011 U1011 rfl W1011 0 rfl (Nat.le_of_ble_eq_true rfl)
  have N1011 := Fr.snoc X1011 N1004 gg_b2_2
  have K1011 : Keep h0 h1011 [b1, b2_2, b2_3, b2_1] := K1004.wr W1011 (Or.inl (List.mem_of_getElem? (i := 1) rfl))
  have Z1011 := Nat.le_trans Z1004 (Keep.of_wr W1011).1
  refine go (fun tg kg => XS.aloadN X1011.here hx rfl (hb hby d7_55) rfl rfl kg) ?_
  refine go (fun tg kg => XS.dup X1011.here hx rfl (hb hby d7_56) rfl rfl kg) ?_
  have Fa1012 := (Fa1008.other W1011 (Or.inl (Ne.symm ne_b2_2_b1)))
  obtain ⟨T1013, X1013, e1013, st1013⟩ := getF X1011 hx hZ hown (host := "") (Or.inl (own_w hw 12 rfl)) Via.refl e1011 Fa1012 (g := (mkF m 57 #[rv b1, dv 1, .second, dv 2, .second, dv 3, .second, iv 10, iv 0, .unset, .unset] [(.ref b1), (.ref b1)])) rfl rfl (hb hby d7_57)
  refine go st1013 ?_
  refine go (fun tg kg => XS.lconst X1013.here hx rfl (hb hby d7_60) kg) ?_
  show G (T1013.setTop (mkF m 61 #[rv b1, dv 1, .second, dv 2, .second, dv 3, .second, iv 10, iv 0, .unset, .unset] [(.long 1), (.long 1), (.ref b1)]))
  refine go (fun tg kg => XS.ladd X1013.here hx rfl (hb hby d7_61) rfl kg) ?_
  have Fa1014 := (Fa1005.wr W1011)
  obtain ⟨T1015, h1015, X1015, e1015, W1015, st1015⟩ := putF X1013 hx hZ hown (host := "") (Or.inl (own_w hw 12 rfl)) Via.refl e1013 Fa1012 Fa1014 (Or.inl (own_w hw 13 rfl)) (own_w hw 2 rfl) (ty := .long) (by decide) rfl rfl (g := (mkF m 62 #[rv b1, dv 1, .second, dv 2, .second, dv 3, .second, iv 10, iv 0, .unset, .unset] [(.long 2), (.ref b1)])) rfl rfl (hb hby d7_62)
  refine go st1015 ?_
  have Fw1015 : Fld Z h1015 b1 cF "nextId" "J" (.long 2) := Fa1012.same W1015
  have N1015 := Fr.snoc X1015 N1011 gg_b1
  have K1015 : Keep h0 h1015 [b1, b2_2, b2_3, b2_1] := K1011.wr W1015 (Or.inl (List.mem_of_getElem? (i := 0) rfl))
  have Z1015 := Nat.le_trans Z1011 (Keep.of_wr W1015).1
  refine go (fun tg kg => XS.aloadN X1015.here hx rfl (hb hby d7_65) rfl rfl kg) ?_
  have Fa1016 := (Fa1014.wr W1015)
  have Fa1017 := (((m6.other W1004 (Or.inr (sn_births_slotsUsed hw))).other W1011 (Or.inl (Ne.symm ne_b2_2_b1))).other W1015 (Or.inr (sn_births_nextId hw)))
  obtain ⟨T1018, X1018, e1018, st1018⟩ := getF X1015 hx hZ hown (host := "") (Or.inl (own_w hw 30 rfl)) Via.refl e1015 Fa1017 (g := (mkF m 66 #[rv b1, dv 1, .second, dv 2, .second, dv 3, .second, iv 10, iv 0, .unset, .unset] [(.ref b1)])) rfl rfl (hb hby d7_66)
  refine go st1018 ?_
  refine go (fun tg kg => XS.iload X1018.here hx rfl (hb hby d7_69) rfl kg) ?_
  refine go (fun tg kg => XS.iload X1018.here hx rfl (hb hby d7_71) rfl kg) ?_
  show G (T1018.setTop (mkF m 73 #[rv b1, dv 1, .second, dv 2, .second, dv 3, .second, iv 10, iv 0, .unset, .unset] [(.int 10), (.int 0), (.ref b2_3)]))
  have Fa1019 := (((m7.other W1004 ne_b2_3_b1).other W1011 ne_b2_3_b2_2).other W1015 ne_b2_3_b1)
  obtain ⟨cl1020, Ar1020, q1020, S1020, M1020, H1020, U1020⟩ := id Fa1019
  have hin1020 : ¬ ((0 : Int32) < 0 ∨ cl1020.slots.size ≤ ((0 : Int32)).toNatClampNeg) := inb_of S1020 ⟨by decide, by decide⟩
  obtain ⟨T1020, h1020, X1020, e1020, W1020, st1020⟩ := stI X1018 hx hZ e1018 Ar1020 (j := (0 : Int32)) hin1020 (g := (mkF m 73 #[rv b1, dv 1, .second, dv 2, .second, dv 3, .second, iv 10, iv 0, .unset, .unset] [(.int 10), (.int 0), (.ref b2_3)])) rfl rfl (hb hby d7_73)
  refine go st1020 ?_
  have V1020 : Arv Z h1020 b2_3 k2_3 .int (4 : Int32) [(.int 10), (.int 0), (.int 0), (.int 0)] (.int 0) := Arv.set Ar1020 q1020 S1020 M1020 H1020 U1020 rfl W1020 0 rfl (Nat.le_of_ble_eq_true rfl)
  have N1020 := Fr.snoc X1020 N1015 gg_b2_3
  have K1020 : Keep h0 h1020 [b1, b2_2, b2_3, b2_1] := K1015.wr W1020 (Or.inl (List.mem_of_getElem? (i := 2) rfl))
  have Z1020 := Nat.le_trans Z1015 (Keep.of_wr W1020).1
  refine go (fun tg kg => XS.aloadN X1020.here hx rfl (hb hby d7_74) rfl rfl kg) ?_
  have Fa1021 := (Fa1016.wr W1020)
  have Fa1022 := ((((m8.other W1004 (Or.inr (sn_pages_slotsUsed hw))).other W1011 (Or.inl (Ne.symm ne_b2_2_b1))).other W1015 (Or.inr (sn_pages_nextId hw))).other W1020 (Or.inl (Ne.symm ne_b2_3_b1)))
  obtain ⟨T1023, X1023, e1023, st1023⟩ := getF X1020 hx hZ hown (host := "") (Or.inl (own_w hw 17 rfl)) Via.refl e1020 Fa1022 (g := (mkF m 75 #[rv b1, dv 1, .second, dv 2, .second, dv 3, .second, iv 10, iv 0, .unset, .unset] [(.ref b1)])) rfl rfl (hb hby d7_75)
  refine go st1023 ?_
  refine go (fun tg kg => XS.iload X1023.here hx rfl (hb hby d7_78) rfl kg) ?_
  refine go (fun tg kg => XS.bipush X1023.here hx rfl (hb hby d7_80) kg) ?_
  refine go (fun tg kg => XS.iushr X1023.here hx rfl (hb hby d7_82) rfl kg) ?_
  show G (T1023.setTop (mkF m 83 #[rv b1, dv 1, .second, dv 2, .second, dv 3, .second, iv 10, iv 0, .unset, .unset] [(.int (((0 : Int32).toUInt32 >>> ((24 : Int32) &&& 31).toUInt32).toInt32)), (.ref b2_0)]))
  rw [show (((0 : Int32).toUInt32 >>> ((24 : Int32) &&& 31).toUInt32).toInt32) = (0 : Int32) from by decide]
  show G (T1023.setTop (mkF m 83 #[rv b1, dv 1, .second, dv 2, .second, dv 3, .second, iv 10, iv 0, .unset, .unset] [(.int 0), (.ref b2_0)]))
  have Fa1024 := ((((m9.other W1004 ne_b2_0_b1).other W1011 ne_b2_0_b2_2).other W1015 ne_b2_0_b1).other W1020 ne_b2_0_b2_3)
  obtain ⟨cl1025, Ar1025, q1025, S1025, M1025, H1025, U1025⟩ := id Fa1024
  have hin1025 : ¬ ((0 : Int32) < 0 ∨ cl1025.slots.size ≤ ((0 : Int32)).toNatClampNeg) := inb_of S1025 ⟨by decide, by decide⟩
  refine go (fun tg kg => X1023.aaload hx (j := (0 : Int32)) (v := (.ref b2_1)) (by rw [e1023]; exact Ar1025.1) (State.isArrayOf_alike hZ.alike Ar1025.2.1) rfl Ar1025.2.2 hin1025 (H1025.at hin1025 rfl) (g := (mkF m 83 #[rv b1, dv 1, .second, dv 2, .second, dv 3, .second, iv 10, iv 0, .unset, .unset] [(.int 0), (.ref b2_0)])) rfl rfl (hb hby d7_83) _ kg) ?_
  show G (T1023.setTop (mkF m 84 #[rv b1, dv 1, .second, dv 2, .second, dv 3, .second, iv 10, iv 0, .unset, .unset] [(.ref b2_1)]))
  refine go (fun tg kg => XS.astore X1023.here hx rfl (hb hby d7_84) rfl rfl (l' := #[rv b1, dv 1, .second, dv 2, .second, dv 3, .second, iv 10, iv 0, rv b2_1, .unset]) rfl kg) ?_
  refine go (fun tg kg => XS.iload X1023.here hx rfl (hb hby d7_86) rfl kg) ?_
  refine go (fun tg kg => X1023.ldcInt hx hown (mvT hZ (own_w hw 71 rfl)) (g := (mkF m 88 #[rv b1, dv 1, .second, dv 2, .second, dv 3, .second, iv 10, iv 0, rv b2_1, .unset] [(.int 0)])) rfl (hb hby d7_88) _ kg) ?_
  refine go (fun tg kg => XS.iand X1023.here hx rfl (hb hby d7_90) rfl kg) ?_
  refine go (fun tg kg => XS.iconst X1023.here hx rfl (hb hby d7_91) kg) ?_
  refine go (fun tg kg => XS.imul X1023.here hx rfl (hb hby d7_92) rfl kg) ?_
  show G (T1023.setTop (mkF m 93 #[rv b1, dv 1, .second, dv 2, .second, dv 3, .second, iv 10, iv 0, rv b2_1, .unset] [(.int 0)]))
  refine go (fun tg kg => XS.istore X1023.here hx rfl (hb hby d7_93) rfl (l' := #[rv b1, dv 1, .second, dv 2, .second, dv 3, .second, iv 10, iv 0, rv b2_1, iv 0]) rfl kg) ?_
  refine go (fun tg kg => XS.aload X1023.here hx rfl (hb hby d7_95) rfl rfl kg) ?_
  refine go (fun tg kg => XS.iload X1023.here hx rfl (hb hby d7_97) rfl kg) ?_
  refine go (fun tg kg => XS.iconst X1023.here hx rfl (hb hby d7_99) kg) ?_
  refine go (fun tg kg => XS.iadd X1023.here hx rfl (hb hby d7_100) rfl kg) ?_
  refine go (fun tg kg => XS.dloadN X1023.here hx rfl (hb hby d7_101) rfl kg) ?_
  show G (T1023.setTop (mkF m 102 #[rv b1, dv 1, .second, dv 2, .second, dv 3, .second, iv 10, iv 0, rv b2_1, iv 0] [(dl 1), (.int 0), (.ref b2_1)]))
  have Fa1026 := ((((m10.other W1004 ne_b2_1_b1).other W1011 ne_b2_1_b2_2).other W1015 ne_b2_1_b1).other W1020 ne_b2_1_b2_3)
  obtain ⟨cl1027, Ar1027, q1027, S1027, M1027, H1027, U1027⟩ := id Fa1026
  have hin1027 : ¬ ((0 : Int32) < 0 ∨ cl1027.slots.size ≤ ((0 : Int32)).toNatClampNeg) := inb_of S1027 ⟨by decide, by decide⟩
  obtain ⟨T1027, h1027, X1027, e1027, W1027, st1027⟩ := stD X1023 hx hZ e1023 Ar1027 (j := (0 : Int32)) hin1027 (g := (mkF m 102 #[rv b1, dv 1, .second, dv 2, .second, dv 3, .second, iv 10, iv 0, rv b2_1, iv 0] [(dl 1), (.int 0), (.ref b2_1)])) rfl rfl (hb hby d7_102)
  refine go st1027 ?_
  have V1027 : Arv Z h1027 b2_1 k2_1 .double (20 : Int32) [(dl 1), (dl 0), (dl 0), (dl 0), (dl 0), (dl 0), (dl 0), (dl 0), (dl 0), (dl 0), (dl 0), (dl 0), (dl 0), (dl 0), (dl 0), (dl 0), (dl 0), (dl 0), (dl 0), (dl 0)] (dl 0) := Arv.set Ar1027 q1027 S1027 M1027 H1027 U1027 rfl W1027 0 rfl (Nat.le_of_ble_eq_true rfl)
  have N1027 := Fr.snoc X1027 N1020 gg_b2_1
  have K1027 : Keep h0 h1027 [b1, b2_2, b2_3, b2_1] := K1020.wr W1027 (Or.inl (List.mem_of_getElem? (i := 3) rfl))
  have Z1027 := Nat.le_trans Z1020 (Keep.of_wr W1027).1
  refine go (fun tg kg => XS.aload X1027.here hx rfl (hb hby d7_103) rfl rfl kg) ?_
  refine go (fun tg kg => XS.iload X1027.here hx rfl (hb hby d7_105) rfl kg) ?_
  refine go (fun tg kg => XS.iconst X1027.here hx rfl (hb hby d7_107) kg) ?_
  refine go (fun tg kg => XS.iadd X1027.here hx rfl (hb hby d7_108) rfl kg) ?_
  refine go (fun tg kg => XS.dloadN X1027.here hx rfl (hb hby d7_109) rfl kg) ?_
  show G (T1027.setTop (mkF m 110 #[rv b1, dv 1, .second, dv 2, .second, dv 3, .second, iv 10, iv 0, rv b2_1, iv 0] [(dl 2), (.int 1), (.ref b2_1)]))
  obtain ⟨cl1028, Ar1028, q1028, S1028, M1028, H1028, U1028⟩ := id V1027
  have hin1028 : ¬ ((1 : Int32) < 0 ∨ cl1028.slots.size ≤ ((1 : Int32)).toNatClampNeg) := inb_of S1028 ⟨by decide, by decide⟩
  obtain ⟨T1028, h1028, X1028, e1028, W1028, st1028⟩ := stD X1027 hx hZ e1027 Ar1028 (j := (1 : Int32)) hin1028 (g := (mkF m 110 #[rv b1, dv 1, .second, dv 2, .second, dv 3, .second, iv 10, iv 0, rv b2_1, iv 0] [(dl 2), (.int 1), (.ref b2_1)])) rfl rfl (hb hby d7_110)
  refine go st1028 ?_
  have V1028 : Arv Z h1028 b2_1 k2_1 .double (20 : Int32) [(dl 1), (dl 2), (dl 0), (dl 0), (dl 0), (dl 0), (dl 0), (dl 0), (dl 0), (dl 0), (dl 0), (dl 0), (dl 0), (dl 0), (dl 0), (dl 0), (dl 0), (dl 0), (dl 0), (dl 0)] (dl 0) := Arv.set Ar1028 q1028 S1028 M1028 H1028 U1028 rfl W1028 1 rfl (Nat.le_of_ble_eq_true rfl)
  have N1028 := Fr.snoc X1028 N1027 gg_b2_1
  have K1028 : Keep h0 h1028 [b1, b2_2, b2_3, b2_1] := K1027.wr W1028 (Or.inl (List.mem_of_getElem? (i := 3) rfl))
  have Z1028 := Nat.le_trans Z1027 (Keep.of_wr W1028).1
  refine go (fun tg kg => XS.aload X1028.here hx rfl (hb hby d7_111) rfl rfl kg) ?_
  refine go (fun tg kg => XS.iload X1028.here hx rfl (hb hby d7_113) rfl kg) ?_
  refine go (fun tg kg => XS.iconst X1028.here hx rfl (hb hby d7_115) kg) ?_
  refine go (fun tg kg => XS.iadd X1028.here hx rfl (hb hby d7_116) rfl kg) ?_
  refine go (fun tg kg => XS.dload X1028.here hx rfl (hb hby d7_117) rfl kg) ?_
  show G (T1028.setTop (mkF m 119 #[rv b1, dv 1, .second, dv 2, .second, dv 3, .second, iv 10, iv 0, rv b2_1, iv 0] [(dl 3), (.int 2), (.ref b2_1)]))
  obtain ⟨cl1029, Ar1029, q1029, S1029, M1029, H1029, U1029⟩ := id V1028
  have hin1029 : ¬ ((2 : Int32) < 0 ∨ cl1029.slots.size ≤ ((2 : Int32)).toNatClampNeg) := inb_of S1029 ⟨by decide, by decide⟩
  obtain ⟨T1029, h1029, X1029, e1029, W1029, st1029⟩ := stD X1028 hx hZ e1028 Ar1029 (j := (2 : Int32)) hin1029 (g := (mkF m 119 #[rv b1, dv 1, .second, dv 2, .second, dv 3, .second, iv 10, iv 0, rv b2_1, iv 0] [(dl 3), (.int 2), (.ref b2_1)])) rfl rfl (hb hby d7_119)
  refine go st1029 ?_
  have V1029 : Arv Z h1029 b2_1 k2_1 .double (20 : Int32) [(dl 1), (dl 2), (dl 3), (dl 0), (dl 0), (dl 0), (dl 0), (dl 0), (dl 0), (dl 0), (dl 0), (dl 0), (dl 0), (dl 0), (dl 0), (dl 0), (dl 0), (dl 0), (dl 0), (dl 0)] (dl 0) := Arv.set Ar1029 q1029 S1029 M1029 H1029 U1029 rfl W1029 2 rfl (Nat.le_of_ble_eq_true rfl)
  have N1029 := Fr.snoc X1029 N1028 gg_b2_1
  have K1029 : Keep h0 h1029 [b1, b2_2, b2_3, b2_1] := K1028.wr W1029 (Or.inl (List.mem_of_getElem? (i := 3) rfl))
  have Z1029 := Nat.le_trans Z1028 (Keep.of_wr W1029).1
  refine go (fun tg kg => XS.aload X1029.here hx rfl (hb hby d7_120) rfl rfl kg) ?_
  refine go (fun tg kg => XS.iload X1029.here hx rfl (hb hby d7_122) rfl kg) ?_
  refine go (fun tg kg => XS.iconst X1029.here hx rfl (hb hby d7_124) kg) ?_
  refine go (fun tg kg => XS.iadd X1029.here hx rfl (hb hby d7_125) rfl kg) ?_
  refine go (fun tg kg => XS.dconst0 X1029.here hx rfl (hb hby d7_126) own_d0 kg) ?_
  show G (T1029.setTop (mkF m 127 #[rv b1, dv 1, .second, dv 2, .second, dv 3, .second, iv 10, iv 0, rv b2_1, iv 0] [(dl 0), (.int 3), (.ref b2_1)]))
  obtain ⟨cl1030, Ar1030, q1030, S1030, M1030, H1030, U1030⟩ := id V1029
  have hin1030 : ¬ ((3 : Int32) < 0 ∨ cl1030.slots.size ≤ ((3 : Int32)).toNatClampNeg) := inb_of S1030 ⟨by decide, by decide⟩
  obtain ⟨T1030, h1030, X1030, e1030, W1030, st1030⟩ := stD X1029 hx hZ e1029 Ar1030 (j := (3 : Int32)) hin1030 (g := (mkF m 127 #[rv b1, dv 1, .second, dv 2, .second, dv 3, .second, iv 10, iv 0, rv b2_1, iv 0] [(dl 0), (.int 3), (.ref b2_1)])) rfl rfl (hb hby d7_127)
  refine go st1030 ?_
  have V1030 : Arv Z h1030 b2_1 k2_1 .double (20 : Int32) [(dl 1), (dl 2), (dl 3), (dl 0), (dl 0), (dl 0), (dl 0), (dl 0), (dl 0), (dl 0), (dl 0), (dl 0), (dl 0), (dl 0), (dl 0), (dl 0), (dl 0), (dl 0), (dl 0), (dl 0)] (dl 0) := Arv.set Ar1030 q1030 S1030 M1030 H1030 U1030 rfl W1030 3 rfl (Nat.le_of_ble_eq_true rfl)
  have N1030 := Fr.snoc X1030 N1029 gg_b2_1
  have K1030 : Keep h0 h1030 [b1, b2_2, b2_3, b2_1] := K1029.wr W1030 (Or.inl (List.mem_of_getElem? (i := 3) rfl))
  have Z1030 := Nat.le_trans Z1029 (Keep.of_wr W1030).1
  refine go (fun tg kg => XS.aload X1030.here hx rfl (hb hby d7_128) rfl rfl kg) ?_
  refine go (fun tg kg => XS.iload X1030.here hx rfl (hb hby d7_130) rfl kg) ?_
  refine go (fun tg kg => XS.iconst X1030.here hx rfl (hb hby d7_132) kg) ?_
  refine go (fun tg kg => XS.iadd X1030.here hx rfl (hb hby d7_133) rfl kg) ?_
  refine go (fun tg kg => XS.dconst0 X1030.here hx rfl (hb hby d7_134) own_d0 kg) ?_
  show G (T1030.setTop (mkF m 135 #[rv b1, dv 1, .second, dv 2, .second, dv 3, .second, iv 10, iv 0, rv b2_1, iv 0] [(dl 0), (.int 4), (.ref b2_1)]))
  obtain ⟨cl1031, Ar1031, q1031, S1031, M1031, H1031, U1031⟩ := id V1030
  have hin1031 : ¬ ((4 : Int32) < 0 ∨ cl1031.slots.size ≤ ((4 : Int32)).toNatClampNeg) := inb_of S1031 ⟨by decide, by decide⟩
  obtain ⟨T1031, h1031, X1031, e1031, W1031, st1031⟩ := stD X1030 hx hZ e1030 Ar1031 (j := (4 : Int32)) hin1031 (g := (mkF m 135 #[rv b1, dv 1, .second, dv 2, .second, dv 3, .second, iv 10, iv 0, rv b2_1, iv 0] [(dl 0), (.int 4), (.ref b2_1)])) rfl rfl (hb hby d7_135)
  refine go st1031 ?_
  have V1031 : Arv Z h1031 b2_1 k2_1 .double (20 : Int32) [(dl 1), (dl 2), (dl 3), (dl 0), (dl 0), (dl 0), (dl 0), (dl 0), (dl 0), (dl 0), (dl 0), (dl 0), (dl 0), (dl 0), (dl 0), (dl 0), (dl 0), (dl 0), (dl 0), (dl 0)] (dl 0) := Arv.set Ar1031 q1031 S1031 M1031 H1031 U1031 rfl W1031 4 rfl (Nat.le_of_ble_eq_true rfl)
  have N1031 := Fr.snoc X1031 N1030 gg_b2_1
  have K1031 : Keep h0 h1031 [b1, b2_2, b2_3, b2_1] := K1030.wr W1031 (Or.inl (List.mem_of_getElem? (i := 3) rfl))
  have Z1031 := Nat.le_trans Z1030 (Keep.of_wr W1031).1
  refine go (fun tg kg => XS.aloadN X1031.here hx rfl (hb hby d7_136) rfl rfl kg) ?_
  refine go (fun tg kg => XS.dup X1031.here hx rfl (hb hby d7_137) rfl rfl kg) ?_
  have Fa1032 := (((((Fa1021.wr W1027).wr W1028).wr W1029).wr W1030).wr W1031)
  have Fa1033 := (((((((((m11.other W1004 (Or.inr (sn_openFirms_slotsUsed hw))).other W1011 (Or.inl (Ne.symm ne_b2_2_b1))).other W1015 (Or.inr (sn_openFirms_nextId hw))).other W1020 (Or.inl (Ne.symm ne_b2_3_b1))).other W1027 (Or.inl (Ne.symm ne_b2_1_b1))).other W1028 (Or.inl (Ne.symm ne_b2_1_b1))).other W1029 (Or.inl (Ne.symm ne_b2_1_b1))).other W1030 (Or.inl (Ne.symm ne_b2_1_b1))).other W1031 (Or.inl (Ne.symm ne_b2_1_b1)))
  obtain ⟨T1034, X1034, e1034, st1034⟩ := getF X1031 hx hZ hown (host := "") (Or.inl (own_w hw 72 rfl)) Via.refl e1031 Fa1033 (g := (mkF m 138 #[rv b1, dv 1, .second, dv 2, .second, dv 3, .second, iv 10, iv 0, rv b2_1, iv 0] [(.ref b1), (.ref b1)])) rfl rfl (hb hby d7_138)
  refine go st1034 ?_
  refine go (fun tg kg => XS.iconst X1034.here hx rfl (hb hby d7_141) kg) ?_
  refine go (fun tg kg => XS.iadd X1034.here hx rfl (hb hby d7_142) rfl kg) ?_
  show G (T1034.setTop (mkF m 143 #[rv b1, dv 1, .second, dv 2, .second, dv 3, .second, iv 10, iv 0, rv b2_1, iv 0] [(.int 1), (.ref b1)]))
  obtain ⟨T1035, h1035, X1035, e1035, W1035, st1035⟩ := putF X1034 hx hZ hown (host := "") (Or.inl (own_w hw 72 rfl)) Via.refl e1034 Fa1033 Fa1032 (Or.inl (own_w hw 73 rfl)) (own_w hw 2 rfl) (ty := .int) (by decide) rfl rfl (g := (mkF m 143 #[rv b1, dv 1, .second, dv 2, .second, dv 3, .second, iv 10, iv 0, rv b2_1, iv 0] [(.int 1), (.ref b1)])) rfl rfl (hb hby d7_143)
  refine go st1035 ?_
  have Fw1035 : Fld Z h1035 b1 cF "openFirms" "I" (.int 1) := Fa1033.same W1035
  have N1035 := Fr.snoc X1035 N1031 gg_b1
  have K1035 : Keep h0 h1035 [b1, b2_2, b2_3, b2_1] := K1031.wr W1035 (Or.inl (List.mem_of_getElem? (i := 0) rfl))
  have Z1035 := Nat.le_trans Z1031 (Keep.of_wr W1035).1
  refine go (fun tg kg => XS.iload X1035.here hx rfl (hb hby d7_146) rfl kg) ?_
  refine fin (some (.int 0)) X1035 (fun h => absurd h (by decide)) (fun fs hr => retOut X1035 hx hret rfl (Or.inl ⟨rfl, Or.inl rfl, _, rfl⟩) (hb hby d7_148) hr) (by decide) (by decide) ?_
  rw [e1035]
  have Fa1036 := (Fa1032.wr W1035)
  have Fa1037 := ((((((((((m0.other W1004 (Or.inr (sn_freeSlot_slotsUsed hw))).other W1011 (Or.inl (Ne.symm ne_b2_2_b1))).other W1015 (Or.inr (sn_freeSlot_nextId hw))).other W1020 (Or.inl (Ne.symm ne_b2_3_b1))).other W1027 (Or.inl (Ne.symm ne_b2_1_b1))).other W1028 (Or.inl (Ne.symm ne_b2_1_b1))).other W1029 (Or.inl (Ne.symm ne_b2_1_b1))).other W1030 (Or.inl (Ne.symm ne_b2_1_b1))).other W1031 (Or.inl (Ne.symm ne_b2_1_b1))).other W1035 (Or.inr (sn_freeSlot_openFirms hw)))
  have Fa1038 := (((((((((Fw1004.other W1011 (Or.inl (Ne.symm ne_b2_2_b1))).other W1015 (Or.inr (sn_slotsUsed_nextId hw))).other W1020 (Or.inl (Ne.symm ne_b2_3_b1))).other W1027 (Or.inl (Ne.symm ne_b2_1_b1))).other W1028 (Or.inl (Ne.symm ne_b2_1_b1))).other W1029 (Or.inl (Ne.symm ne_b2_1_b1))).other W1030 (Or.inl (Ne.symm ne_b2_1_b1))).other W1031 (Or.inl (Ne.symm ne_b2_1_b1))).other W1035 (Or.inr (sn_slotsUsed_openFirms hw)))
  have Fa1039 := (((((((((Fa1006.other W1011 (Or.inl (Ne.symm ne_b2_2_b1))).other W1015 (Or.inr (sn_ids_nextId hw))).other W1020 (Or.inl (Ne.symm ne_b2_3_b1))).other W1027 (Or.inl (Ne.symm ne_b2_1_b1))).other W1028 (Or.inl (Ne.symm ne_b2_1_b1))).other W1029 (Or.inl (Ne.symm ne_b2_1_b1))).other W1030 (Or.inl (Ne.symm ne_b2_1_b1))).other W1031 (Or.inl (Ne.symm ne_b2_1_b1))).other W1035 (Or.inr (sn_ids_openFirms hw)))
  have Fa1040 := (((((((Fw1015.other W1020 (Or.inl (Ne.symm ne_b2_3_b1))).other W1027 (Or.inl (Ne.symm ne_b2_1_b1))).other W1028 (Or.inl (Ne.symm ne_b2_1_b1))).other W1029 (Or.inl (Ne.symm ne_b2_1_b1))).other W1030 (Or.inl (Ne.symm ne_b2_1_b1))).other W1031 (Or.inl (Ne.symm ne_b2_1_b1))).other W1035 (Or.inr (sn_nextId_openFirms hw)))
  have Fa1041 := ((((((((V1011.other W1015 ne_b2_2_b1).other W1020 (Ne.symm ne_b2_3_b2_2)).other W1027 (Ne.symm ne_b2_1_b2_2)).other W1028 (Ne.symm ne_b2_1_b2_2)).other W1029 (Ne.symm ne_b2_1_b2_2)).other W1030 (Ne.symm ne_b2_1_b2_2)).other W1031 (Ne.symm ne_b2_1_b2_2)).other W1035 ne_b2_2_b1)
  have Fa1042 := (((((((Fa1017.other W1020 (Or.inl (Ne.symm ne_b2_3_b1))).other W1027 (Or.inl (Ne.symm ne_b2_1_b1))).other W1028 (Or.inl (Ne.symm ne_b2_1_b1))).other W1029 (Or.inl (Ne.symm ne_b2_1_b1))).other W1030 (Or.inl (Ne.symm ne_b2_1_b1))).other W1031 (Or.inl (Ne.symm ne_b2_1_b1))).other W1035 (Or.inr (sn_births_openFirms hw)))
  have Fa1043 := ((((((V1020.other W1027 (Ne.symm ne_b2_1_b2_3)).other W1028 (Ne.symm ne_b2_1_b2_3)).other W1029 (Ne.symm ne_b2_1_b2_3)).other W1030 (Ne.symm ne_b2_1_b2_3)).other W1031 (Ne.symm ne_b2_1_b2_3)).other W1035 ne_b2_3_b1)
  have Fa1044 := ((((((Fa1022.other W1027 (Or.inl (Ne.symm ne_b2_1_b1))).other W1028 (Or.inl (Ne.symm ne_b2_1_b1))).other W1029 (Or.inl (Ne.symm ne_b2_1_b1))).other W1030 (Or.inl (Ne.symm ne_b2_1_b1))).other W1031 (Or.inl (Ne.symm ne_b2_1_b1))).other W1035 (Or.inr (sn_pages_openFirms hw)))
  have Fa1045 := (V1031.other W1035 ne_b2_1_b1)
  have Fa1046 := ((((((((((m12.other W1004 (Or.inr (sn_members_slotsUsed hw))).other W1011 (Or.inl (Ne.symm ne_b2_2_b1))).other W1015 (Or.inr (sn_members_nextId hw))).other W1020 (Or.inl (Ne.symm ne_b2_3_b1))).other W1027 (Or.inl (Ne.symm ne_b2_1_b1))).other W1028 (Or.inl (Ne.symm ne_b2_1_b1))).other W1029 (Or.inl (Ne.symm ne_b2_1_b1))).other W1030 (Or.inl (Ne.symm ne_b2_1_b1))).other W1031 (Or.inl (Ne.symm ne_b2_1_b1))).other W1035 (Or.inr (sn_members_openFirms hw)))
  have Fa1047 := ((((((((((m13.other W1004 (Or.inr (sn_changedNow_slotsUsed hw))).other W1011 (Or.inl (Ne.symm ne_b2_2_b1))).other W1015 (Or.inr (sn_changedNow_nextId hw))).other W1020 (Or.inl (Ne.symm ne_b2_3_b1))).other W1027 (Or.inl (Ne.symm ne_b2_1_b1))).other W1028 (Or.inl (Ne.symm ne_b2_1_b1))).other W1029 (Or.inl (Ne.symm ne_b2_1_b1))).other W1030 (Or.inl (Ne.symm ne_b2_1_b1))).other W1031 (Or.inl (Ne.symm ne_b2_1_b1))).other W1035 (Or.inr (sn_changedNow_openFirms hw)))
  have Fa1048 := ((((((((((m14.other W1004 (Or.inr (sn_changedBefore_slotsUsed hw))).other W1011 (Or.inl (Ne.symm ne_b2_2_b1))).other W1015 (Or.inr (sn_changedBefore_nextId hw))).other W1020 (Or.inl (Ne.symm ne_b2_3_b1))).other W1027 (Or.inl (Ne.symm ne_b2_1_b1))).other W1028 (Or.inl (Ne.symm ne_b2_1_b1))).other W1029 (Or.inl (Ne.symm ne_b2_1_b1))).other W1030 (Or.inl (Ne.symm ne_b2_1_b1))).other W1031 (Or.inl (Ne.symm ne_b2_1_b1))).other W1035 (Or.inr (sn_changedBefore_openFirms hw)))
  have Fa1049 := ((((((((((m15.wr W1004).wr W1011).wr W1015).wr W1020).wr W1027).wr W1028).wr W1029).wr W1030).wr W1031).wr W1035)
  exact ⟨rfl, N1035, K1035, Fa1037, Fa1038, Fa1036, Fa1039, Fa1040, Fa1041, Fa1042, Fa1043, Fa1044, Fa1045, Fw1035, Fa1046, Fa1047, Fa1048, Fa1049⟩
theorem pd__DDDI_I : parseMethodDescriptor "(DDDI)I" = some ⟨[.double, .double, .double, .int], some .int⟩ := by decide +kernel
theorem own_dl4 : (4616189618054758400 : UInt64) = FP.l2d (4 : Int64) := by decide +kernel
theorem own_dl5 : (4617315517961601024 : UInt64) = FP.l2d (5 : Int64) := by decide +kernel
theorem own_dl6 : (4618441417868443648 : UInt64) = FP.l2d (6 : Int64) := by decide +kernel
def Q_rm7_1 (Z : State) (b1 : Addr) (b2_2 : Addr) (k2_2 : ClassId) (b2_3 : Addr) (k2_3 : ClassId) (b2_0 : Addr) (k2_0 : ClassId) (b2_1 : Addr) (k2_1 : ClassId) (b2_4 : Addr) (b2_9 : Addr) (b2_10 : Addr) (h0 : Heap) (n0 : Nat) (v : Option Value) (h : Heap) (L : List Loc) : Prop := v = some (.int 1) ∧ Fr n0 L ∧ Keep h0 h [b1, b2_2, b2_3, b2_1] ∧ Fld Z h b1 cF "freeSlot" "I" (.int (-1)) ∧ Fld Z h b1 cF "slotsUsed" "I" (.int 2) ∧ Exa Z h b1 cF ∧ Fld Z h b1 cF "ids" "[J" (.ref b2_2) ∧ Fld Z h b1 cF "nextId" "J" (.long 3) ∧ Arv Z h b2_2 k2_2 .long 4 [(.long 1), (.long 2), (.long 0), (.long 0)] (.long 0) ∧ Fld Z h b1 cF "births" "[I" (.ref b2_3) ∧ Arv Z h b2_3 k2_3 .int 4 [(.int 10), (.int 20), (.int 0), (.int 0)] (.int 0) ∧ Fld Z h b1 cF "pages" "[[D" (.ref b2_0) ∧ Arv Z h b2_1 k2_1 .double 20 [(dl 1), (dl 2), (dl 3), (dl 0), (dl 0), (dl 4), (dl 5), (dl 6), (dl 0), (dl 0), (dl 0), (dl 0), (dl 0), (dl 0), (dl 0), (dl 0), (dl 0), (dl 0), (dl 0), (dl 0)] (dl 0) ∧ Fld Z h b1 cF "openFirms" "I" (.int 2) ∧ Fld Z h b1 cF "members" "Lcom/example/housemartin/housemartin/firm/Members;" (.ref b2_4) ∧ Fld Z h b1 cF "changedNow" "[J" (.ref b2_9) ∧ Fld Z h b1 cF "changedBefore" "[J" (.ref b2_10) ∧ Exa Z h b2_1 "[D"
set_option maxRecDepth 65536 in
set_option maxHeartbeats 40000000 in
theorem rm7_1 (l : Launch) (Z : State) (a0 : Array Value) (hw : ∀ d ∈ tables_1, d.before a0 Z = true) (ws : List Jvm.Cond) (b1 : Addr) (b2_2 : Addr) (k2_2 : ClassId) (b2_3 : Addr) (k2_3 : ClassId) (b2_0 : Addr) (k2_0 : ClassId) (b2_1 : Addr) (k2_1 : ClassId) (b2_4 : Addr) (b2_9 : Addr) (b2_10 : Addr) (h0 : Heap) (n0 : Nat) (Z0 : n0 ≤ h0.size) (m0 : Fld Z h0 b1 cF "freeSlot" "I" (.int (-1))) (m1 : Fld Z h0 b1 cF "slotsUsed" "I" (.int 1)) (m2 : Exa Z h0 b1 cF) (m3 : Fld Z h0 b1 cF "ids" "[J" (.ref b2_2)) (m4 : Fld Z h0 b1 cF "nextId" "J" (.long 2)) (m5 : Arv Z h0 b2_2 k2_2 .long 4 [(.long 1), (.long 0), (.long 0), (.long 0)] (.long 0)) (m6 : Fld Z h0 b1 cF "births" "[I" (.ref b2_3)) (m7 : Arv Z h0 b2_3 k2_3 .int 4 [(.int 10), (.int 0), (.int 0), (.int 0)] (.int 0)) (m8 : Fld Z h0 b1 cF "pages" "[[D" (.ref b2_0)) (m9 : Arv Z h0 b2_0 k2_0 (.array .double) 1 [(.ref b2_1)] .null) (m10 : Arv Z h0 b2_1 k2_1 .double 20 [(dl 1), (dl 2), (dl 3), (dl 0), (dl 0), (dl 0), (dl 0), (dl 0), (dl 0), (dl 0), (dl 0), (dl 0), (dl 0), (dl 0), (dl 0), (dl 0), (dl 0), (dl 0), (dl 0), (dl 0)] (dl 0)) (m11 : Fld Z h0 b1 cF "openFirms" "I" (.int 1)) (m12 : Fld Z h0 b1 cF "members" "Lcom/example/housemartin/housemartin/firm/Members;" (.ref b2_4)) (m13 : Fld Z h0 b1 cF "changedNow" "[J" (.ref b2_9)) (m14 : Fld Z h0 b1 cF "changedBefore" "[J" (.ref b2_10)) (m15 : Exa Z h0 b2_1 "[D") (ne_b2_2_b1 : b2_2 ≠ b1) (ne_b2_3_b1 : b2_3 ≠ b1) (ne_b2_3_b2_2 : b2_3 ≠ b2_2) (ne_b2_0_b1 : b2_0 ≠ b1) (ne_b2_0_b2_2 : b2_0 ≠ b2_2) (ne_b2_0_b2_3 : b2_0 ≠ b2_3) (ne_b2_1_b1 : b2_1 ≠ b1) (ne_b2_1_b2_2 : b2_1 ≠ b2_2) (ne_b2_1_b2_3 : b2_1 ≠ b2_3) (gg_b1 : n0 ≤ b1) (gg_b2_2 : n0 ≤ b2_2) (gg_b2_3 : n0 ≤ b2_3) (gg_b2_1 : n0 ≤ b2_1) :
    oM l y7 prog_8_method_2_code 11 (some .int) ws (⟨0, 0, 0, 0⟩ : Room) Z h0 #[(.ref b1), (dl 4), (dl 5), (dl 6), (.int 20)] (Q_rm7_1 Z b1 b2_2 k2_2 b2_3 k2_3 b2_0 k2_0 b2_1 k2_1 b2_4 b2_9 b2_10 h0 n0) := by
  refine own_enter (Q := Q_rm7_1 Z b1 b2_2 k2_2 b2_3 k2_3 b2_0 k2_0 b2_1 k2_1 b2_4 b2_9 b2_10 h0 n0) (plainFor_of_name pn_com_example_housemartin_housemartin_firm_FirmSlots) ?_
  intro p e s m below meth c s₁ G X0 hx hby hml hZ hown hnm hret e0 go fin
  replace hown : s.vm.findClass cF = some m.cls := hown
  replace hnm : meth.name = "open" := hnm
  replace hml : c.maxLocals = 11 := hml
  rw [ef_7 m b1 _ _ _ _]
  have N0 := Fr.nil n0
  refine go (fun tg kg => XS.aloadN X0.here hx rfl (hb hby d7_0) rfl rfl kg) ?_
  obtain ⟨T1001, X1001, e1001, st1001⟩ := getF X0 hx hZ hown (host := "") (Or.inl (own_w hw 10 rfl)) Via.refl e0 m0 (g := (mkF m 1 #[rv b1, dv 4, .second, dv 5, .second, dv 6, .second, iv 20, .unset, .unset, .unset] [(.ref b1)])) rfl rfl (hb hby d7_1)
  refine go st1001 ?_
  refine go (fun tg kg => XS.iconst X1001.here hx rfl (hb hby d7_4) kg) ?_
  refine go (fun tg kg => XS.icmpYes X1001.here hx rfl (pc0 := 5) (pc' := 28) rfl (hb hby d7_5) rfl (teq (by decide)).1 (by decide) (by decide) kg) ?_
  refine go (fun tg kg => XS.aloadN X1001.here hx rfl (hb hby d7_28) rfl rfl kg) ?_
  show G (T1001.setTop (mkF m 29 #[rv b1, dv 4, .second, dv 5, .second, dv 6, .second, iv 20, .unset, .unset, .unset] [(.ref b1)]))
  obtain ⟨T1002, X1002, e1002, st1002⟩ := getF X1001 hx hZ hown (host := "") (Or.inl (own_w hw 69 rfl)) Via.refl e1001 m1 (g := (mkF m 29 #[rv b1, dv 4, .second, dv 5, .second, dv 6, .second, iv 20, .unset, .unset, .unset] [(.ref b1)])) rfl rfl (hb hby d7_29)
  refine go st1002 ?_
  refine go (fun tg kg => XS.istore X1002.here hx rfl (hb hby d7_32) rfl (l' := #[rv b1, dv 4, .second, dv 5, .second, dv 6, .second, iv 20, iv 1, .unset, .unset]) rfl kg) ?_
  refine go (fun tg kg => XS.aloadN X1002.here hx rfl (hb hby d7_34) rfl rfl kg) ?_
  refine go (fun tg kg => XS.dup X1002.here hx rfl (hb hby d7_35) rfl rfl kg) ?_
  obtain ⟨T1003, X1003, e1003, st1003⟩ := getF X1002 hx hZ hown (host := "") (Or.inl (own_w hw 69 rfl)) Via.refl e1002 m1 (g := (mkF m 36 #[rv b1, dv 4, .second, dv 5, .second, dv 6, .second, iv 20, iv 1, .unset, .unset] [(.ref b1), (.ref b1)])) rfl rfl (hb hby d7_36)
  refine go st1003 ?_
  refine go (fun tg kg => XS.iconst X1003.here hx rfl (hb hby d7_39) kg) ?_
  show G (T1003.setTop (mkF m 40 #[rv b1, dv 4, .second, dv 5, .second, dv 6, .second, iv 20, iv 1, .unset, .unset] [(.int 1), (.int 1), (.ref b1)]))
  refine go (fun tg kg => XS.iadd X1003.here hx rfl (hb hby d7_40) rfl kg) ?_
  obtain ⟨T1004, h1004, X1004, e1004, W1004, st1004⟩ := putF X1003 hx hZ hown (host := "") (Or.inl (own_w hw 69 rfl)) Via.refl e1003 m1 m2 (Or.inl (own_w hw 70 rfl)) (own_w hw 2 rfl) (ty := .int) (by decide) rfl rfl (g := (mkF m 41 #[rv b1, dv 4, .second, dv 5, .second, dv 6, .second, iv 20, iv 1, .unset, .unset] [(.int 2), (.ref b1)])) rfl rfl (hb hby d7_41)
  refine go st1004 ?_
  have Fw1004 : Fld Z h1004 b1 cF "slotsUsed" "I" (.int 2) := m1.same W1004
  have N1004 := Fr.snoc X1004 N0 gg_b1
  have K1004 : Keep h0 h1004 [b1, b2_2, b2_3, b2_1] := (Keep.refl h0 [b1, b2_2, b2_3, b2_1]).wr W1004 (Or.inl (List.mem_of_getElem? (i := 0) rfl))
  have Z1004 := Nat.le_trans Z0 (Keep.of_wr W1004).1
  refine go (fun tg kg => XS.aloadN X1004.here hx rfl (hb hby d7_44) rfl rfl kg) ?_
  have Fa1005 := (m2.wr W1004)
  have Fa1006 := (m3.other W1004 (Or.inr (sn_ids_slotsUsed hw)))
  obtain ⟨T1007, X1007, e1007, st1007⟩ := getF X1004 hx hZ hown (host := "") (Or.inl (own_w hw 27 rfl)) Via.refl e1004 Fa1006 (g := (mkF m 45 #[rv b1, dv 4, .second, dv 5, .second, dv 6, .second, iv 20, iv 1, .unset, .unset] [(.ref b1)])) rfl rfl (hb hby d7_45)
  refine go st1007 ?_
  refine go (fun tg kg => XS.iload X1007.here hx rfl (hb hby d7_48) rfl kg) ?_
  refine go (fun tg kg => XS.aloadN X1007.here hx rfl (hb hby d7_50) rfl rfl kg) ?_
  show G (T1007.setTop (mkF m 51 #[rv b1, dv 4, .second, dv 5, .second, dv 6, .second, iv 20, iv 1, .unset, .unset] [(.ref b1), (.int 1), (.ref b2_2)]))
  have Fa1008 := (m4.other W1004 (Or.inr (sn_nextId_slotsUsed hw)))
  obtain ⟨T1009, X1009, e1009, st1009⟩ := getF X1007 hx hZ hown (host := "") (Or.inl (own_w hw 12 rfl)) Via.refl e1007 Fa1008 (g := (mkF m 51 #[rv b1, dv 4, .second, dv 5, .second, dv 6, .second, iv 20, iv 1, .unset, .unset] [(.ref b1), (.int 1), (.ref b2_2)])) rfl rfl (hb hby d7_51)
  refine go st1009 ?_
  have Fa1010 := (m5.other W1004 ne_b2_2_b1)
  obtain ⟨cl1011, Ar1011, q1011, S1011, M1011, H1011, U1011⟩ := id Fa1010
  have hin1011 : ¬ ((1 : Int32) < 0 ∨ cl1011.slots.size ≤ ((1 : Int32)).toNatClampNeg) := inb_of S1011 ⟨by decide, by decide⟩
  obtain ⟨T1011, h1011, X1011, e1011, W1011, st1011⟩ := stJ X1009 hx hZ e1009 Ar1011 (j := (1 : Int32)) hin1011 (g := (mkF m 54 #[rv b1, dv 4, .second, dv 5, .second, dv 6, .second, iv 20, iv 1, .unset, .unset] [(.long 2), (.int 1), (.ref b2_2)])) rfl rfl (hb hby d7_54)
  refine go st1011 ?_
  have V1011 : Arv Z h1011 b2_2 k2_2 .long (4 : Int32) [(.long 1), (.long 2), (.long 0), (.long 0)] (.long 0) := Arv.set Ar1011 q1011 S1011 M1011 H1011 U1011 rfl W1011 1 rfl (Nat.le_of_ble_eq_true rfl)
  have N1011 := Fr.snoc X1011 N1004 gg_b2_2
  have K1011 : Keep h0 h1011 [b1, b2_2, b2_3, b2_1] := K1004.wr W1011 (Or.inl (List.mem_of_getElem? (i := 1) rfl))
  have Z1011 := Nat.le_trans Z1004 (Keep.of_wr W1011).1
  refine go (fun tg kg => XS.aloadN X1011.here hx rfl (hb hby d7_55) rfl rfl kg) ?_
  refine go (fun tg kg => XS.dup X1011.here hx rfl (hb hby d7_56) rfl rfl kg) ?_
  have Fa1012 := (Fa1008.other W1011 (Or.inl (Ne.symm ne_b2_2_b1)))
  obtain ⟨T1013, X1013, e1013, st1013⟩ := getF X1011 hx hZ hown (host := "") (Or.inl (own_w hw 12 rfl)) Via.refl e1011 Fa1012 (g := (mkF m 57 #[rv b1, dv 4, .second, dv 5, .second, dv 6, .second, iv 20, iv 1, .unset, .unset] [(.ref b1), (.ref b1)])) rfl rfl (hb hby d7_57)
  refine go st1013 ?_
  refine go (fun tg kg => XS.lconst X1013.here hx rfl (hb hby d7_60) kg) ?_
  show G (T1013.setTop (mkF m 61 #[rv b1, dv 4, .second, dv 5, .second, dv 6, .second, iv 20, iv 1, .unset, .unset] [(.long 1), (.long 2), (.ref b1)]))
  refine go (fun tg kg => XS.ladd X1013.here hx rfl (hb hby d7_61) rfl kg) ?_
  have Fa1014 := (Fa1005.wr W1011)
  obtain ⟨T1015, h1015, X1015, e1015, W1015, st1015⟩ := putF X1013 hx hZ hown (host := "") (Or.inl (own_w hw 12 rfl)) Via.refl e1013 Fa1012 Fa1014 (Or.inl (own_w hw 13 rfl)) (own_w hw 2 rfl) (ty := .long) (by decide) rfl rfl (g := (mkF m 62 #[rv b1, dv 4, .second, dv 5, .second, dv 6, .second, iv 20, iv 1, .unset, .unset] [(.long 3), (.ref b1)])) rfl rfl (hb hby d7_62)
  refine go st1015 ?_
  have Fw1015 : Fld Z h1015 b1 cF "nextId" "J" (.long 3) := Fa1012.same W1015
  have N1015 := Fr.snoc X1015 N1011 gg_b1
  have K1015 : Keep h0 h1015 [b1, b2_2, b2_3, b2_1] := K1011.wr W1015 (Or.inl (List.mem_of_getElem? (i := 0) rfl))
  have Z1015 := Nat.le_trans Z1011 (Keep.of_wr W1015).1
  refine go (fun tg kg => XS.aloadN X1015.here hx rfl (hb hby d7_65) rfl rfl kg) ?_
  have Fa1016 := (Fa1014.wr W1015)
  have Fa1017 := (((m6.other W1004 (Or.inr (sn_births_slotsUsed hw))).other W1011 (Or.inl (Ne.symm ne_b2_2_b1))).other W1015 (Or.inr (sn_births_nextId hw)))
  obtain ⟨T1018, X1018, e1018, st1018⟩ := getF X1015 hx hZ hown (host := "") (Or.inl (own_w hw 30 rfl)) Via.refl e1015 Fa1017 (g := (mkF m 66 #[rv b1, dv 4, .second, dv 5, .second, dv 6, .second, iv 20, iv 1, .unset, .unset] [(.ref b1)])) rfl rfl (hb hby d7_66)
  refine go st1018 ?_
  refine go (fun tg kg => XS.iload X1018.here hx rfl (hb hby d7_69) rfl kg) ?_
  refine go (fun tg kg => XS.iload X1018.here hx rfl (hb hby d7_71) rfl kg) ?_
  show G (T1018.setTop (mkF m 73 #[rv b1, dv 4, .second, dv 5, .second, dv 6, .second, iv 20, iv 1, .unset, .unset] [(.int 20), (.int 1), (.ref b2_3)]))
  have Fa1019 := (((m7.other W1004 ne_b2_3_b1).other W1011 ne_b2_3_b2_2).other W1015 ne_b2_3_b1)
  obtain ⟨cl1020, Ar1020, q1020, S1020, M1020, H1020, U1020⟩ := id Fa1019
  have hin1020 : ¬ ((1 : Int32) < 0 ∨ cl1020.slots.size ≤ ((1 : Int32)).toNatClampNeg) := inb_of S1020 ⟨by decide, by decide⟩
  obtain ⟨T1020, h1020, X1020, e1020, W1020, st1020⟩ := stI X1018 hx hZ e1018 Ar1020 (j := (1 : Int32)) hin1020 (g := (mkF m 73 #[rv b1, dv 4, .second, dv 5, .second, dv 6, .second, iv 20, iv 1, .unset, .unset] [(.int 20), (.int 1), (.ref b2_3)])) rfl rfl (hb hby d7_73)
  refine go st1020 ?_
  have V1020 : Arv Z h1020 b2_3 k2_3 .int (4 : Int32) [(.int 10), (.int 20), (.int 0), (.int 0)] (.int 0) := Arv.set Ar1020 q1020 S1020 M1020 H1020 U1020 rfl W1020 1 rfl (Nat.le_of_ble_eq_true rfl)
  have N1020 := Fr.snoc X1020 N1015 gg_b2_3
  have K1020 : Keep h0 h1020 [b1, b2_2, b2_3, b2_1] := K1015.wr W1020 (Or.inl (List.mem_of_getElem? (i := 2) rfl))
  have Z1020 := Nat.le_trans Z1015 (Keep.of_wr W1020).1
  refine go (fun tg kg => XS.aloadN X1020.here hx rfl (hb hby d7_74) rfl rfl kg) ?_
  have Fa1021 := (Fa1016.wr W1020)
  have Fa1022 := ((((m8.other W1004 (Or.inr (sn_pages_slotsUsed hw))).other W1011 (Or.inl (Ne.symm ne_b2_2_b1))).other W1015 (Or.inr (sn_pages_nextId hw))).other W1020 (Or.inl (Ne.symm ne_b2_3_b1)))
  obtain ⟨T1023, X1023, e1023, st1023⟩ := getF X1020 hx hZ hown (host := "") (Or.inl (own_w hw 17 rfl)) Via.refl e1020 Fa1022 (g := (mkF m 75 #[rv b1, dv 4, .second, dv 5, .second, dv 6, .second, iv 20, iv 1, .unset, .unset] [(.ref b1)])) rfl rfl (hb hby d7_75)
  refine go st1023 ?_
  refine go (fun tg kg => XS.iload X1023.here hx rfl (hb hby d7_78) rfl kg) ?_
  refine go (fun tg kg => XS.bipush X1023.here hx rfl (hb hby d7_80) kg) ?_
  refine go (fun tg kg => XS.iushr X1023.here hx rfl (hb hby d7_82) rfl kg) ?_
  show G (T1023.setTop (mkF m 83 #[rv b1, dv 4, .second, dv 5, .second, dv 6, .second, iv 20, iv 1, .unset, .unset] [(.int (((1 : Int32).toUInt32 >>> ((24 : Int32) &&& 31).toUInt32).toInt32)), (.ref b2_0)]))
  rw [show (((1 : Int32).toUInt32 >>> ((24 : Int32) &&& 31).toUInt32).toInt32) = (0 : Int32) from by decide]
  show G (T1023.setTop (mkF m 83 #[rv b1, dv 4, .second, dv 5, .second, dv 6, .second, iv 20, iv 1, .unset, .unset] [(.int 0), (.ref b2_0)]))
  have Fa1024 := ((((m9.other W1004 ne_b2_0_b1).other W1011 ne_b2_0_b2_2).other W1015 ne_b2_0_b1).other W1020 ne_b2_0_b2_3)
  obtain ⟨cl1025, Ar1025, q1025, S1025, M1025, H1025, U1025⟩ := id Fa1024
  have hin1025 : ¬ ((0 : Int32) < 0 ∨ cl1025.slots.size ≤ ((0 : Int32)).toNatClampNeg) := inb_of S1025 ⟨by decide, by decide⟩
  refine go (fun tg kg => X1023.aaload hx (j := (0 : Int32)) (v := (.ref b2_1)) (by rw [e1023]; exact Ar1025.1) (State.isArrayOf_alike hZ.alike Ar1025.2.1) rfl Ar1025.2.2 hin1025 (H1025.at hin1025 rfl) (g := (mkF m 83 #[rv b1, dv 4, .second, dv 5, .second, dv 6, .second, iv 20, iv 1, .unset, .unset] [(.int 0), (.ref b2_0)])) rfl rfl (hb hby d7_83) _ kg) ?_
  show G (T1023.setTop (mkF m 84 #[rv b1, dv 4, .second, dv 5, .second, dv 6, .second, iv 20, iv 1, .unset, .unset] [(.ref b2_1)]))
  refine go (fun tg kg => XS.astore X1023.here hx rfl (hb hby d7_84) rfl rfl (l' := #[rv b1, dv 4, .second, dv 5, .second, dv 6, .second, iv 20, iv 1, rv b2_1, .unset]) rfl kg) ?_
  refine go (fun tg kg => XS.iload X1023.here hx rfl (hb hby d7_86) rfl kg) ?_
  refine go (fun tg kg => X1023.ldcInt hx hown (mvT hZ (own_w hw 71 rfl)) (g := (mkF m 88 #[rv b1, dv 4, .second, dv 5, .second, dv 6, .second, iv 20, iv 1, rv b2_1, .unset] [(.int 1)])) rfl (hb hby d7_88) _ kg) ?_
  refine go (fun tg kg => XS.iand X1023.here hx rfl (hb hby d7_90) rfl kg) ?_
  refine go (fun tg kg => XS.iconst X1023.here hx rfl (hb hby d7_91) kg) ?_
  refine go (fun tg kg => XS.imul X1023.here hx rfl (hb hby d7_92) rfl kg) ?_
  show G (T1023.setTop (mkF m 93 #[rv b1, dv 4, .second, dv 5, .second, dv 6, .second, iv 20, iv 1, rv b2_1, .unset] [(.int 5)]))
  refine go (fun tg kg => XS.istore X1023.here hx rfl (hb hby d7_93) rfl (l' := #[rv b1, dv 4, .second, dv 5, .second, dv 6, .second, iv 20, iv 1, rv b2_1, iv 5]) rfl kg) ?_
  refine go (fun tg kg => XS.aload X1023.here hx rfl (hb hby d7_95) rfl rfl kg) ?_
  refine go (fun tg kg => XS.iload X1023.here hx rfl (hb hby d7_97) rfl kg) ?_
  refine go (fun tg kg => XS.iconst X1023.here hx rfl (hb hby d7_99) kg) ?_
  refine go (fun tg kg => XS.iadd X1023.here hx rfl (hb hby d7_100) rfl kg) ?_
  refine go (fun tg kg => XS.dloadN X1023.here hx rfl (hb hby d7_101) rfl kg) ?_
  show G (T1023.setTop (mkF m 102 #[rv b1, dv 4, .second, dv 5, .second, dv 6, .second, iv 20, iv 1, rv b2_1, iv 5] [(dl 4), (.int 5), (.ref b2_1)]))
  have Fa1026 := ((((m10.other W1004 ne_b2_1_b1).other W1011 ne_b2_1_b2_2).other W1015 ne_b2_1_b1).other W1020 ne_b2_1_b2_3)
  obtain ⟨cl1027, Ar1027, q1027, S1027, M1027, H1027, U1027⟩ := id Fa1026
  have hin1027 : ¬ ((5 : Int32) < 0 ∨ cl1027.slots.size ≤ ((5 : Int32)).toNatClampNeg) := inb_of S1027 ⟨by decide, by decide⟩
  obtain ⟨T1027, h1027, X1027, e1027, W1027, st1027⟩ := stD X1023 hx hZ e1023 Ar1027 (j := (5 : Int32)) hin1027 (g := (mkF m 102 #[rv b1, dv 4, .second, dv 5, .second, dv 6, .second, iv 20, iv 1, rv b2_1, iv 5] [(dl 4), (.int 5), (.ref b2_1)])) rfl rfl (hb hby d7_102)
  refine go st1027 ?_
  have V1027 : Arv Z h1027 b2_1 k2_1 .double (20 : Int32) [(dl 1), (dl 2), (dl 3), (dl 0), (dl 0), (dl 4), (dl 0), (dl 0), (dl 0), (dl 0), (dl 0), (dl 0), (dl 0), (dl 0), (dl 0), (dl 0), (dl 0), (dl 0), (dl 0), (dl 0)] (dl 0) := Arv.set Ar1027 q1027 S1027 M1027 H1027 U1027 rfl W1027 5 rfl (Nat.le_of_ble_eq_true rfl)
  have N1027 := Fr.snoc X1027 N1020 gg_b2_1
  have K1027 : Keep h0 h1027 [b1, b2_2, b2_3, b2_1] := K1020.wr W1027 (Or.inl (List.mem_of_getElem? (i := 3) rfl))
  have Z1027 := Nat.le_trans Z1020 (Keep.of_wr W1027).1
  refine go (fun tg kg => XS.aload X1027.here hx rfl (hb hby d7_103) rfl rfl kg) ?_
  refine go (fun tg kg => XS.iload X1027.here hx rfl (hb hby d7_105) rfl kg) ?_
  refine go (fun tg kg => XS.iconst X1027.here hx rfl (hb hby d7_107) kg) ?_
  refine go (fun tg kg => XS.iadd X1027.here hx rfl (hb hby d7_108) rfl kg) ?_
  refine go (fun tg kg => XS.dloadN X1027.here hx rfl (hb hby d7_109) rfl kg) ?_
  show G (T1027.setTop (mkF m 110 #[rv b1, dv 4, .second, dv 5, .second, dv 6, .second, iv 20, iv 1, rv b2_1, iv 5] [(dl 5), (.int 6), (.ref b2_1)]))
  obtain ⟨cl1028, Ar1028, q1028, S1028, M1028, H1028, U1028⟩ := id V1027
  have hin1028 : ¬ ((6 : Int32) < 0 ∨ cl1028.slots.size ≤ ((6 : Int32)).toNatClampNeg) := inb_of S1028 ⟨by decide, by decide⟩
  obtain ⟨T1028, h1028, X1028, e1028, W1028, st1028⟩ := stD X1027 hx hZ e1027 Ar1028 (j := (6 : Int32)) hin1028 (g := (mkF m 110 #[rv b1, dv 4, .second, dv 5, .second, dv 6, .second, iv 20, iv 1, rv b2_1, iv 5] [(dl 5), (.int 6), (.ref b2_1)])) rfl rfl (hb hby d7_110)
  refine go st1028 ?_
  have V1028 : Arv Z h1028 b2_1 k2_1 .double (20 : Int32) [(dl 1), (dl 2), (dl 3), (dl 0), (dl 0), (dl 4), (dl 5), (dl 0), (dl 0), (dl 0), (dl 0), (dl 0), (dl 0), (dl 0), (dl 0), (dl 0), (dl 0), (dl 0), (dl 0), (dl 0)] (dl 0) := Arv.set Ar1028 q1028 S1028 M1028 H1028 U1028 rfl W1028 6 rfl (Nat.le_of_ble_eq_true rfl)
  have N1028 := Fr.snoc X1028 N1027 gg_b2_1
  have K1028 : Keep h0 h1028 [b1, b2_2, b2_3, b2_1] := K1027.wr W1028 (Or.inl (List.mem_of_getElem? (i := 3) rfl))
  have Z1028 := Nat.le_trans Z1027 (Keep.of_wr W1028).1
  refine go (fun tg kg => XS.aload X1028.here hx rfl (hb hby d7_111) rfl rfl kg) ?_
  refine go (fun tg kg => XS.iload X1028.here hx rfl (hb hby d7_113) rfl kg) ?_
  refine go (fun tg kg => XS.iconst X1028.here hx rfl (hb hby d7_115) kg) ?_
  refine go (fun tg kg => XS.iadd X1028.here hx rfl (hb hby d7_116) rfl kg) ?_
  refine go (fun tg kg => XS.dload X1028.here hx rfl (hb hby d7_117) rfl kg) ?_
  show G (T1028.setTop (mkF m 119 #[rv b1, dv 4, .second, dv 5, .second, dv 6, .second, iv 20, iv 1, rv b2_1, iv 5] [(dl 6), (.int 7), (.ref b2_1)]))
  obtain ⟨cl1029, Ar1029, q1029, S1029, M1029, H1029, U1029⟩ := id V1028
  have hin1029 : ¬ ((7 : Int32) < 0 ∨ cl1029.slots.size ≤ ((7 : Int32)).toNatClampNeg) := inb_of S1029 ⟨by decide, by decide⟩
  obtain ⟨T1029, h1029, X1029, e1029, W1029, st1029⟩ := stD X1028 hx hZ e1028 Ar1029 (j := (7 : Int32)) hin1029 (g := (mkF m 119 #[rv b1, dv 4, .second, dv 5, .second, dv 6, .second, iv 20, iv 1, rv b2_1, iv 5] [(dl 6), (.int 7), (.ref b2_1)])) rfl rfl (hb hby d7_119)
  refine go st1029 ?_
  have V1029 : Arv Z h1029 b2_1 k2_1 .double (20 : Int32) [(dl 1), (dl 2), (dl 3), (dl 0), (dl 0), (dl 4), (dl 5), (dl 6), (dl 0), (dl 0), (dl 0), (dl 0), (dl 0), (dl 0), (dl 0), (dl 0), (dl 0), (dl 0), (dl 0), (dl 0)] (dl 0) := Arv.set Ar1029 q1029 S1029 M1029 H1029 U1029 rfl W1029 7 rfl (Nat.le_of_ble_eq_true rfl)
  have N1029 := Fr.snoc X1029 N1028 gg_b2_1
  have K1029 : Keep h0 h1029 [b1, b2_2, b2_3, b2_1] := K1028.wr W1029 (Or.inl (List.mem_of_getElem? (i := 3) rfl))
  have Z1029 := Nat.le_trans Z1028 (Keep.of_wr W1029).1
  refine go (fun tg kg => XS.aload X1029.here hx rfl (hb hby d7_120) rfl rfl kg) ?_
  refine go (fun tg kg => XS.iload X1029.here hx rfl (hb hby d7_122) rfl kg) ?_
  refine go (fun tg kg => XS.iconst X1029.here hx rfl (hb hby d7_124) kg) ?_
  refine go (fun tg kg => XS.iadd X1029.here hx rfl (hb hby d7_125) rfl kg) ?_
  refine go (fun tg kg => XS.dconst0 X1029.here hx rfl (hb hby d7_126) own_d0 kg) ?_
  show G (T1029.setTop (mkF m 127 #[rv b1, dv 4, .second, dv 5, .second, dv 6, .second, iv 20, iv 1, rv b2_1, iv 5] [(dl 0), (.int 8), (.ref b2_1)]))
  obtain ⟨cl1030, Ar1030, q1030, S1030, M1030, H1030, U1030⟩ := id V1029
  have hin1030 : ¬ ((8 : Int32) < 0 ∨ cl1030.slots.size ≤ ((8 : Int32)).toNatClampNeg) := inb_of S1030 ⟨by decide, by decide⟩
  obtain ⟨T1030, h1030, X1030, e1030, W1030, st1030⟩ := stD X1029 hx hZ e1029 Ar1030 (j := (8 : Int32)) hin1030 (g := (mkF m 127 #[rv b1, dv 4, .second, dv 5, .second, dv 6, .second, iv 20, iv 1, rv b2_1, iv 5] [(dl 0), (.int 8), (.ref b2_1)])) rfl rfl (hb hby d7_127)
  refine go st1030 ?_
  have V1030 : Arv Z h1030 b2_1 k2_1 .double (20 : Int32) [(dl 1), (dl 2), (dl 3), (dl 0), (dl 0), (dl 4), (dl 5), (dl 6), (dl 0), (dl 0), (dl 0), (dl 0), (dl 0), (dl 0), (dl 0), (dl 0), (dl 0), (dl 0), (dl 0), (dl 0)] (dl 0) := Arv.set Ar1030 q1030 S1030 M1030 H1030 U1030 rfl W1030 8 rfl (Nat.le_of_ble_eq_true rfl)
  have N1030 := Fr.snoc X1030 N1029 gg_b2_1
  have K1030 : Keep h0 h1030 [b1, b2_2, b2_3, b2_1] := K1029.wr W1030 (Or.inl (List.mem_of_getElem? (i := 3) rfl))
  have Z1030 := Nat.le_trans Z1029 (Keep.of_wr W1030).1
  refine go (fun tg kg => XS.aload X1030.here hx rfl (hb hby d7_128) rfl rfl kg) ?_
  refine go (fun tg kg => XS.iload X1030.here hx rfl (hb hby d7_130) rfl kg) ?_
  refine go (fun tg kg => XS.iconst X1030.here hx rfl (hb hby d7_132) kg) ?_
  refine go (fun tg kg => XS.iadd X1030.here hx rfl (hb hby d7_133) rfl kg) ?_
  refine go (fun tg kg => XS.dconst0 X1030.here hx rfl (hb hby d7_134) own_d0 kg) ?_
  show G (T1030.setTop (mkF m 135 #[rv b1, dv 4, .second, dv 5, .second, dv 6, .second, iv 20, iv 1, rv b2_1, iv 5] [(dl 0), (.int 9), (.ref b2_1)]))
  obtain ⟨cl1031, Ar1031, q1031, S1031, M1031, H1031, U1031⟩ := id V1030
  have hin1031 : ¬ ((9 : Int32) < 0 ∨ cl1031.slots.size ≤ ((9 : Int32)).toNatClampNeg) := inb_of S1031 ⟨by decide, by decide⟩
  obtain ⟨T1031, h1031, X1031, e1031, W1031, st1031⟩ := stD X1030 hx hZ e1030 Ar1031 (j := (9 : Int32)) hin1031 (g := (mkF m 135 #[rv b1, dv 4, .second, dv 5, .second, dv 6, .second, iv 20, iv 1, rv b2_1, iv 5] [(dl 0), (.int 9), (.ref b2_1)])) rfl rfl (hb hby d7_135)
  refine go st1031 ?_
  have V1031 : Arv Z h1031 b2_1 k2_1 .double (20 : Int32) [(dl 1), (dl 2), (dl 3), (dl 0), (dl 0), (dl 4), (dl 5), (dl 6), (dl 0), (dl 0), (dl 0), (dl 0), (dl 0), (dl 0), (dl 0), (dl 0), (dl 0), (dl 0), (dl 0), (dl 0)] (dl 0) := Arv.set Ar1031 q1031 S1031 M1031 H1031 U1031 rfl W1031 9 rfl (Nat.le_of_ble_eq_true rfl)
  have N1031 := Fr.snoc X1031 N1030 gg_b2_1
  have K1031 : Keep h0 h1031 [b1, b2_2, b2_3, b2_1] := K1030.wr W1031 (Or.inl (List.mem_of_getElem? (i := 3) rfl))
  have Z1031 := Nat.le_trans Z1030 (Keep.of_wr W1031).1
  refine go (fun tg kg => XS.aloadN X1031.here hx rfl (hb hby d7_136) rfl rfl kg) ?_
  refine go (fun tg kg => XS.dup X1031.here hx rfl (hb hby d7_137) rfl rfl kg) ?_
  have Fa1032 := (((((Fa1021.wr W1027).wr W1028).wr W1029).wr W1030).wr W1031)
  have Fa1033 := (((((((((m11.other W1004 (Or.inr (sn_openFirms_slotsUsed hw))).other W1011 (Or.inl (Ne.symm ne_b2_2_b1))).other W1015 (Or.inr (sn_openFirms_nextId hw))).other W1020 (Or.inl (Ne.symm ne_b2_3_b1))).other W1027 (Or.inl (Ne.symm ne_b2_1_b1))).other W1028 (Or.inl (Ne.symm ne_b2_1_b1))).other W1029 (Or.inl (Ne.symm ne_b2_1_b1))).other W1030 (Or.inl (Ne.symm ne_b2_1_b1))).other W1031 (Or.inl (Ne.symm ne_b2_1_b1)))
  obtain ⟨T1034, X1034, e1034, st1034⟩ := getF X1031 hx hZ hown (host := "") (Or.inl (own_w hw 72 rfl)) Via.refl e1031 Fa1033 (g := (mkF m 138 #[rv b1, dv 4, .second, dv 5, .second, dv 6, .second, iv 20, iv 1, rv b2_1, iv 5] [(.ref b1), (.ref b1)])) rfl rfl (hb hby d7_138)
  refine go st1034 ?_
  refine go (fun tg kg => XS.iconst X1034.here hx rfl (hb hby d7_141) kg) ?_
  refine go (fun tg kg => XS.iadd X1034.here hx rfl (hb hby d7_142) rfl kg) ?_
  show G (T1034.setTop (mkF m 143 #[rv b1, dv 4, .second, dv 5, .second, dv 6, .second, iv 20, iv 1, rv b2_1, iv 5] [(.int 2), (.ref b1)]))
  obtain ⟨T1035, h1035, X1035, e1035, W1035, st1035⟩ := putF X1034 hx hZ hown (host := "") (Or.inl (own_w hw 72 rfl)) Via.refl e1034 Fa1033 Fa1032 (Or.inl (own_w hw 73 rfl)) (own_w hw 2 rfl) (ty := .int) (by decide) rfl rfl (g := (mkF m 143 #[rv b1, dv 4, .second, dv 5, .second, dv 6, .second, iv 20, iv 1, rv b2_1, iv 5] [(.int 2), (.ref b1)])) rfl rfl (hb hby d7_143)
  refine go st1035 ?_
  have Fw1035 : Fld Z h1035 b1 cF "openFirms" "I" (.int 2) := Fa1033.same W1035
  have N1035 := Fr.snoc X1035 N1031 gg_b1
  have K1035 : Keep h0 h1035 [b1, b2_2, b2_3, b2_1] := K1031.wr W1035 (Or.inl (List.mem_of_getElem? (i := 0) rfl))
  have Z1035 := Nat.le_trans Z1031 (Keep.of_wr W1035).1
  refine go (fun tg kg => XS.iload X1035.here hx rfl (hb hby d7_146) rfl kg) ?_
  refine fin (some (.int 1)) X1035 (fun h => absurd h (by decide)) (fun fs hr => retOut X1035 hx hret rfl (Or.inl ⟨rfl, Or.inl rfl, _, rfl⟩) (hb hby d7_148) hr) (by decide) (by decide) ?_
  rw [e1035]
  have Fa1036 := (Fa1032.wr W1035)
  have Fa1037 := ((((((((((m0.other W1004 (Or.inr (sn_freeSlot_slotsUsed hw))).other W1011 (Or.inl (Ne.symm ne_b2_2_b1))).other W1015 (Or.inr (sn_freeSlot_nextId hw))).other W1020 (Or.inl (Ne.symm ne_b2_3_b1))).other W1027 (Or.inl (Ne.symm ne_b2_1_b1))).other W1028 (Or.inl (Ne.symm ne_b2_1_b1))).other W1029 (Or.inl (Ne.symm ne_b2_1_b1))).other W1030 (Or.inl (Ne.symm ne_b2_1_b1))).other W1031 (Or.inl (Ne.symm ne_b2_1_b1))).other W1035 (Or.inr (sn_freeSlot_openFirms hw)))
  have Fa1038 := (((((((((Fw1004.other W1011 (Or.inl (Ne.symm ne_b2_2_b1))).other W1015 (Or.inr (sn_slotsUsed_nextId hw))).other W1020 (Or.inl (Ne.symm ne_b2_3_b1))).other W1027 (Or.inl (Ne.symm ne_b2_1_b1))).other W1028 (Or.inl (Ne.symm ne_b2_1_b1))).other W1029 (Or.inl (Ne.symm ne_b2_1_b1))).other W1030 (Or.inl (Ne.symm ne_b2_1_b1))).other W1031 (Or.inl (Ne.symm ne_b2_1_b1))).other W1035 (Or.inr (sn_slotsUsed_openFirms hw)))
  have Fa1039 := (((((((((Fa1006.other W1011 (Or.inl (Ne.symm ne_b2_2_b1))).other W1015 (Or.inr (sn_ids_nextId hw))).other W1020 (Or.inl (Ne.symm ne_b2_3_b1))).other W1027 (Or.inl (Ne.symm ne_b2_1_b1))).other W1028 (Or.inl (Ne.symm ne_b2_1_b1))).other W1029 (Or.inl (Ne.symm ne_b2_1_b1))).other W1030 (Or.inl (Ne.symm ne_b2_1_b1))).other W1031 (Or.inl (Ne.symm ne_b2_1_b1))).other W1035 (Or.inr (sn_ids_openFirms hw)))
  have Fa1040 := (((((((Fw1015.other W1020 (Or.inl (Ne.symm ne_b2_3_b1))).other W1027 (Or.inl (Ne.symm ne_b2_1_b1))).other W1028 (Or.inl (Ne.symm ne_b2_1_b1))).other W1029 (Or.inl (Ne.symm ne_b2_1_b1))).other W1030 (Or.inl (Ne.symm ne_b2_1_b1))).other W1031 (Or.inl (Ne.symm ne_b2_1_b1))).other W1035 (Or.inr (sn_nextId_openFirms hw)))
  have Fa1041 := ((((((((V1011.other W1015 ne_b2_2_b1).other W1020 (Ne.symm ne_b2_3_b2_2)).other W1027 (Ne.symm ne_b2_1_b2_2)).other W1028 (Ne.symm ne_b2_1_b2_2)).other W1029 (Ne.symm ne_b2_1_b2_2)).other W1030 (Ne.symm ne_b2_1_b2_2)).other W1031 (Ne.symm ne_b2_1_b2_2)).other W1035 ne_b2_2_b1)
  have Fa1042 := (((((((Fa1017.other W1020 (Or.inl (Ne.symm ne_b2_3_b1))).other W1027 (Or.inl (Ne.symm ne_b2_1_b1))).other W1028 (Or.inl (Ne.symm ne_b2_1_b1))).other W1029 (Or.inl (Ne.symm ne_b2_1_b1))).other W1030 (Or.inl (Ne.symm ne_b2_1_b1))).other W1031 (Or.inl (Ne.symm ne_b2_1_b1))).other W1035 (Or.inr (sn_births_openFirms hw)))
  have Fa1043 := ((((((V1020.other W1027 (Ne.symm ne_b2_1_b2_3)).other W1028 (Ne.symm ne_b2_1_b2_3)).other W1029 (Ne.symm ne_b2_1_b2_3)).other W1030 (Ne.symm ne_b2_1_b2_3)).other W1031 (Ne.symm ne_b2_1_b2_3)).other W1035 ne_b2_3_b1)
  have Fa1044 := ((((((Fa1022.other W1027 (Or.inl (Ne.symm ne_b2_1_b1))).other W1028 (Or.inl (Ne.symm ne_b2_1_b1))).other W1029 (Or.inl (Ne.symm ne_b2_1_b1))).other W1030 (Or.inl (Ne.symm ne_b2_1_b1))).other W1031 (Or.inl (Ne.symm ne_b2_1_b1))).other W1035 (Or.inr (sn_pages_openFirms hw)))
  have Fa1045 := (V1031.other W1035 ne_b2_1_b1)
  have Fa1046 := ((((((((((m12.other W1004 (Or.inr (sn_members_slotsUsed hw))).other W1011 (Or.inl (Ne.symm ne_b2_2_b1))).other W1015 (Or.inr (sn_members_nextId hw))).other W1020 (Or.inl (Ne.symm ne_b2_3_b1))).other W1027 (Or.inl (Ne.symm ne_b2_1_b1))).other W1028 (Or.inl (Ne.symm ne_b2_1_b1))).other W1029 (Or.inl (Ne.symm ne_b2_1_b1))).other W1030 (Or.inl (Ne.symm ne_b2_1_b1))).other W1031 (Or.inl (Ne.symm ne_b2_1_b1))).other W1035 (Or.inr (sn_members_openFirms hw)))
  have Fa1047 := ((((((((((m13.other W1004 (Or.inr (sn_changedNow_slotsUsed hw))).other W1011 (Or.inl (Ne.symm ne_b2_2_b1))).other W1015 (Or.inr (sn_changedNow_nextId hw))).other W1020 (Or.inl (Ne.symm ne_b2_3_b1))).other W1027 (Or.inl (Ne.symm ne_b2_1_b1))).other W1028 (Or.inl (Ne.symm ne_b2_1_b1))).other W1029 (Or.inl (Ne.symm ne_b2_1_b1))).other W1030 (Or.inl (Ne.symm ne_b2_1_b1))).other W1031 (Or.inl (Ne.symm ne_b2_1_b1))).other W1035 (Or.inr (sn_changedNow_openFirms hw)))
  have Fa1048 := ((((((((((m14.other W1004 (Or.inr (sn_changedBefore_slotsUsed hw))).other W1011 (Or.inl (Ne.symm ne_b2_2_b1))).other W1015 (Or.inr (sn_changedBefore_nextId hw))).other W1020 (Or.inl (Ne.symm ne_b2_3_b1))).other W1027 (Or.inl (Ne.symm ne_b2_1_b1))).other W1028 (Or.inl (Ne.symm ne_b2_1_b1))).other W1029 (Or.inl (Ne.symm ne_b2_1_b1))).other W1030 (Or.inl (Ne.symm ne_b2_1_b1))).other W1031 (Or.inl (Ne.symm ne_b2_1_b1))).other W1035 (Or.inr (sn_changedBefore_openFirms hw)))
  have Fa1049 := ((((((((((m15.wr W1004).wr W1011).wr W1015).wr W1020).wr W1027).wr W1028).wr W1029).wr W1030).wr W1031).wr W1035)
  exact ⟨rfl, N1035, K1035, Fa1037, Fa1038, Fa1036, Fa1039, Fa1040, Fa1041, Fa1042, Fa1043, Fa1044, Fa1045, Fw1035, Fa1046, Fa1047, Fa1048, Fa1049⟩
def Q_rm7_2 (Z : State) (b1 : Addr) (x0 : Int32) (x1 : Int32) (x2 : Int32) (x3 : Int32) (b2_2 : Addr) (k2_2 : ClassId) (b2_3 : Addr) (k2_3 : ClassId) (b2_0 : Addr) (k2_0 : ClassId) (b2_1 : Addr) (k2_1 : ClassId) (b2_4 : Addr) (b2_9 : Addr) (b2_10 : Addr) (h0 : Heap) (n0 : Nat) (v : Option Value) (h : Heap) (L : List Loc) : Prop := v = some (.int 2) ∧ Fr n0 L ∧ Keep h0 h [b1, b2_2, b2_3, b2_1] ∧ Fld Z h b1 cF "freeSlot" "I" (.int (-1)) ∧ Fld Z h b1 cF "slotsUsed" "I" (.int 3) ∧ Exa Z h b1 cF ∧ Fld Z h b1 cF "ids" "[J" (.ref b2_2) ∧ Fld Z h b1 cF "nextId" "J" (.long 4) ∧ Arv Z h b2_2 k2_2 .long 4 [(.long 1), (.long 2), (.long 3), (.long 0)] (.long 0) ∧ Fld Z h b1 cF "births" "[I" (.ref b2_3) ∧ Arv Z h b2_3 k2_3 .int 4 [(.int 10), (.int 20), (.int x3), (.int 0)] (.int 0) ∧ Fld Z h b1 cF "pages" "[[D" (.ref b2_0) ∧ Arv Z h b2_1 k2_1 .double 20 [(dl 1), (dl 2), (dl 3), (dl 0), (dl 0), (dl 4), (dl 5), (dl 6), (dl 0), (dl 0), (dl (x0.toInt64)), (dl (x1.toInt64)), (dl (x2.toInt64)), (dl 0), (dl 0), (dl 0), (dl 0), (dl 0), (dl 0), (dl 0)] (dl 0) ∧ Fld Z h b1 cF "openFirms" "I" (.int 3) ∧ Fld Z h b1 cF "members" "Lcom/example/housemartin/housemartin/firm/Members;" (.ref b2_4) ∧ Fld Z h b1 cF "changedNow" "[J" (.ref b2_9) ∧ Fld Z h b1 cF "changedBefore" "[J" (.ref b2_10) ∧ Exa Z h b2_1 "[D"
set_option maxRecDepth 65536 in
set_option maxHeartbeats 40000000 in
theorem rm7_2 (l : Launch) (Z : State) (a0 : Array Value) (hw : ∀ d ∈ tables_1, d.before a0 Z = true) (ws : List Jvm.Cond) (b1 : Addr) (x0 : Int32) (x1 : Int32) (x2 : Int32) (x3 : Int32) (b2_2 : Addr) (k2_2 : ClassId) (b2_3 : Addr) (k2_3 : ClassId) (b2_0 : Addr) (k2_0 : ClassId) (b2_1 : Addr) (k2_1 : ClassId) (b2_4 : Addr) (b2_9 : Addr) (b2_10 : Addr) (h0 : Heap) (n0 : Nat) (Z0 : n0 ≤ h0.size) (m0 : Fld Z h0 b1 cF "freeSlot" "I" (.int (-1))) (m1 : Fld Z h0 b1 cF "slotsUsed" "I" (.int 2)) (m2 : Exa Z h0 b1 cF) (m3 : Fld Z h0 b1 cF "ids" "[J" (.ref b2_2)) (m4 : Fld Z h0 b1 cF "nextId" "J" (.long 3)) (m5 : Arv Z h0 b2_2 k2_2 .long 4 [(.long 1), (.long 2), (.long 0), (.long 0)] (.long 0)) (m6 : Fld Z h0 b1 cF "births" "[I" (.ref b2_3)) (m7 : Arv Z h0 b2_3 k2_3 .int 4 [(.int 10), (.int 20), (.int 0), (.int 0)] (.int 0)) (m8 : Fld Z h0 b1 cF "pages" "[[D" (.ref b2_0)) (m9 : Arv Z h0 b2_0 k2_0 (.array .double) 1 [(.ref b2_1)] .null) (m10 : Arv Z h0 b2_1 k2_1 .double 20 [(dl 1), (dl 2), (dl 3), (dl 0), (dl 0), (dl 4), (dl 5), (dl 6), (dl 0), (dl 0), (dl 0), (dl 0), (dl 0), (dl 0), (dl 0), (dl 0), (dl 0), (dl 0), (dl 0), (dl 0)] (dl 0)) (m11 : Fld Z h0 b1 cF "openFirms" "I" (.int 2)) (m12 : Fld Z h0 b1 cF "members" "Lcom/example/housemartin/housemartin/firm/Members;" (.ref b2_4)) (m13 : Fld Z h0 b1 cF "changedNow" "[J" (.ref b2_9)) (m14 : Fld Z h0 b1 cF "changedBefore" "[J" (.ref b2_10)) (m15 : Exa Z h0 b2_1 "[D") (ne_b2_2_b1 : b2_2 ≠ b1) (ne_b2_3_b1 : b2_3 ≠ b1) (ne_b2_3_b2_2 : b2_3 ≠ b2_2) (ne_b2_0_b1 : b2_0 ≠ b1) (ne_b2_0_b2_2 : b2_0 ≠ b2_2) (ne_b2_0_b2_3 : b2_0 ≠ b2_3) (ne_b2_1_b1 : b2_1 ≠ b1) (ne_b2_1_b2_2 : b2_1 ≠ b2_2) (ne_b2_1_b2_3 : b2_1 ≠ b2_3) (gg_b1 : n0 ≤ b1) (gg_b2_2 : n0 ≤ b2_2) (gg_b2_3 : n0 ≤ b2_3) (gg_b2_1 : n0 ≤ b2_1) :
    oM l y7 prog_8_method_2_code 11 (some .int) ws (⟨0, 0, 0, 0⟩ : Room) Z h0 #[(.ref b1), (dl (x0.toInt64)), (dl (x1.toInt64)), (dl (x2.toInt64)), (.int x3)] (Q_rm7_2 Z b1 x0 x1 x2 x3 b2_2 k2_2 b2_3 k2_3 b2_0 k2_0 b2_1 k2_1 b2_4 b2_9 b2_10 h0 n0) := by
  refine own_enter (Q := Q_rm7_2 Z b1 x0 x1 x2 x3 b2_2 k2_2 b2_3 k2_3 b2_0 k2_0 b2_1 k2_1 b2_4 b2_9 b2_10 h0 n0) (plainFor_of_name pn_com_example_housemartin_housemartin_firm_FirmSlots) ?_
  intro p e s m below meth c s₁ G X0 hx hby hml hZ hown hnm hret e0 go fin
  replace hown : s.vm.findClass cF = some m.cls := hown
  replace hnm : meth.name = "open" := hnm
  replace hml : c.maxLocals = 11 := hml
  rw [ef_7 m b1 _ _ _ x3]
  have N0 := Fr.nil n0
  refine go (fun tg kg => XS.aloadN X0.here hx rfl (hb hby d7_0) rfl rfl kg) ?_
  obtain ⟨T1001, X1001, e1001, st1001⟩ := getF X0 hx hZ hown (host := "") (Or.inl (own_w hw 10 rfl)) Via.refl e0 m0 (g := (mkF m 1 #[rv b1, dv (x0.toInt64), .second, dv (x1.toInt64), .second, dv (x2.toInt64), .second, iv x3, .unset, .unset, .unset] [(.ref b1)])) rfl rfl (hb hby d7_1)
  refine go st1001 ?_
  refine go (fun tg kg => XS.iconst X1001.here hx rfl (hb hby d7_4) kg) ?_
  refine go (fun tg kg => XS.icmpYes X1001.here hx rfl (pc0 := 5) (pc' := 28) rfl (hb hby d7_5) rfl (teq (by decide)).1 (by decide) (by decide) kg) ?_
  refine go (fun tg kg => XS.aloadN X1001.here hx rfl (hb hby d7_28) rfl rfl kg) ?_
  show G (T1001.setTop (mkF m 29 #[rv b1, dv (x0.toInt64), .second, dv (x1.toInt64), .second, dv (x2.toInt64), .second, iv x3, .unset, .unset, .unset] [(.ref b1)]))
  obtain ⟨T1002, X1002, e1002, st1002⟩ := getF X1001 hx hZ hown (host := "") (Or.inl (own_w hw 69 rfl)) Via.refl e1001 m1 (g := (mkF m 29 #[rv b1, dv (x0.toInt64), .second, dv (x1.toInt64), .second, dv (x2.toInt64), .second, iv x3, .unset, .unset, .unset] [(.ref b1)])) rfl rfl (hb hby d7_29)
  refine go st1002 ?_
  refine go (fun tg kg => XS.istore X1002.here hx rfl (hb hby d7_32) rfl (l' := #[rv b1, dv (x0.toInt64), .second, dv (x1.toInt64), .second, dv (x2.toInt64), .second, iv x3, iv 2, .unset, .unset]) rfl kg) ?_
  refine go (fun tg kg => XS.aloadN X1002.here hx rfl (hb hby d7_34) rfl rfl kg) ?_
  refine go (fun tg kg => XS.dup X1002.here hx rfl (hb hby d7_35) rfl rfl kg) ?_
  obtain ⟨T1003, X1003, e1003, st1003⟩ := getF X1002 hx hZ hown (host := "") (Or.inl (own_w hw 69 rfl)) Via.refl e1002 m1 (g := (mkF m 36 #[rv b1, dv (x0.toInt64), .second, dv (x1.toInt64), .second, dv (x2.toInt64), .second, iv x3, iv 2, .unset, .unset] [(.ref b1), (.ref b1)])) rfl rfl (hb hby d7_36)
  refine go st1003 ?_
  refine go (fun tg kg => XS.iconst X1003.here hx rfl (hb hby d7_39) kg) ?_
  show G (T1003.setTop (mkF m 40 #[rv b1, dv (x0.toInt64), .second, dv (x1.toInt64), .second, dv (x2.toInt64), .second, iv x3, iv 2, .unset, .unset] [(.int 1), (.int 2), (.ref b1)]))
  refine go (fun tg kg => XS.iadd X1003.here hx rfl (hb hby d7_40) rfl kg) ?_
  obtain ⟨T1004, h1004, X1004, e1004, W1004, st1004⟩ := putF X1003 hx hZ hown (host := "") (Or.inl (own_w hw 69 rfl)) Via.refl e1003 m1 m2 (Or.inl (own_w hw 70 rfl)) (own_w hw 2 rfl) (ty := .int) (by decide) rfl rfl (g := (mkF m 41 #[rv b1, dv (x0.toInt64), .second, dv (x1.toInt64), .second, dv (x2.toInt64), .second, iv x3, iv 2, .unset, .unset] [(.int 3), (.ref b1)])) rfl rfl (hb hby d7_41)
  refine go st1004 ?_
  have Fw1004 : Fld Z h1004 b1 cF "slotsUsed" "I" (.int 3) := m1.same W1004
  have N1004 := Fr.snoc X1004 N0 gg_b1
  have K1004 : Keep h0 h1004 [b1, b2_2, b2_3, b2_1] := (Keep.refl h0 [b1, b2_2, b2_3, b2_1]).wr W1004 (Or.inl (List.mem_of_getElem? (i := 0) rfl))
  have Z1004 := Nat.le_trans Z0 (Keep.of_wr W1004).1
  refine go (fun tg kg => XS.aloadN X1004.here hx rfl (hb hby d7_44) rfl rfl kg) ?_
  have Fa1005 := (m2.wr W1004)
  have Fa1006 := (m3.other W1004 (Or.inr (sn_ids_slotsUsed hw)))
  obtain ⟨T1007, X1007, e1007, st1007⟩ := getF X1004 hx hZ hown (host := "") (Or.inl (own_w hw 27 rfl)) Via.refl e1004 Fa1006 (g := (mkF m 45 #[rv b1, dv (x0.toInt64), .second, dv (x1.toInt64), .second, dv (x2.toInt64), .second, iv x3, iv 2, .unset, .unset] [(.ref b1)])) rfl rfl (hb hby d7_45)
  refine go st1007 ?_
  refine go (fun tg kg => XS.iload X1007.here hx rfl (hb hby d7_48) rfl kg) ?_
  refine go (fun tg kg => XS.aloadN X1007.here hx rfl (hb hby d7_50) rfl rfl kg) ?_
  show G (T1007.setTop (mkF m 51 #[rv b1, dv (x0.toInt64), .second, dv (x1.toInt64), .second, dv (x2.toInt64), .second, iv x3, iv 2, .unset, .unset] [(.ref b1), (.int 2), (.ref b2_2)]))
  have Fa1008 := (m4.other W1004 (Or.inr (sn_nextId_slotsUsed hw)))
  obtain ⟨T1009, X1009, e1009, st1009⟩ := getF X1007 hx hZ hown (host := "") (Or.inl (own_w hw 12 rfl)) Via.refl e1007 Fa1008 (g := (mkF m 51 #[rv b1, dv (x0.toInt64), .second, dv (x1.toInt64), .second, dv (x2.toInt64), .second, iv x3, iv 2, .unset, .unset] [(.ref b1), (.int 2), (.ref b2_2)])) rfl rfl (hb hby d7_51)
  refine go st1009 ?_
  have Fa1010 := (m5.other W1004 ne_b2_2_b1)
  obtain ⟨cl1011, Ar1011, q1011, S1011, M1011, H1011, U1011⟩ := id Fa1010
  have hin1011 : ¬ ((2 : Int32) < 0 ∨ cl1011.slots.size ≤ ((2 : Int32)).toNatClampNeg) := inb_of S1011 ⟨by decide, by decide⟩
  obtain ⟨T1011, h1011, X1011, e1011, W1011, st1011⟩ := stJ X1009 hx hZ e1009 Ar1011 (j := (2 : Int32)) hin1011 (g := (mkF m 54 #[rv b1, dv (x0.toInt64), .second, dv (x1.toInt64), .second, dv (x2.toInt64), .second, iv x3, iv 2, .unset, .unset] [(.long 3), (.int 2), (.ref b2_2)])) rfl rfl (hb hby d7_54)
  refine go st1011 ?_
  have V1011 : Arv Z h1011 b2_2 k2_2 .long (4 : Int32) [(.long 1), (.long 2), (.long 3), (.long 0)] (.long 0) := Arv.set Ar1011 q1011 S1011 M1011 H1011 U1011 rfl W1011 2 rfl (Nat.le_of_ble_eq_true rfl)
  have N1011 := Fr.snoc X1011 N1004 gg_b2_2
  have K1011 : Keep h0 h1011 [b1, b2_2, b2_3, b2_1] := K1004.wr W1011 (Or.inl (List.mem_of_getElem? (i := 1) rfl))
  have Z1011 := Nat.le_trans Z1004 (Keep.of_wr W1011).1
  refine go (fun tg kg => XS.aloadN X1011.here hx rfl (hb hby d7_55) rfl rfl kg) ?_
  refine go (fun tg kg => XS.dup X1011.here hx rfl (hb hby d7_56) rfl rfl kg) ?_
  have Fa1012 := (Fa1008.other W1011 (Or.inl (Ne.symm ne_b2_2_b1)))
  obtain ⟨T1013, X1013, e1013, st1013⟩ := getF X1011 hx hZ hown (host := "") (Or.inl (own_w hw 12 rfl)) Via.refl e1011 Fa1012 (g := (mkF m 57 #[rv b1, dv (x0.toInt64), .second, dv (x1.toInt64), .second, dv (x2.toInt64), .second, iv x3, iv 2, .unset, .unset] [(.ref b1), (.ref b1)])) rfl rfl (hb hby d7_57)
  refine go st1013 ?_
  refine go (fun tg kg => XS.lconst X1013.here hx rfl (hb hby d7_60) kg) ?_
  show G (T1013.setTop (mkF m 61 #[rv b1, dv (x0.toInt64), .second, dv (x1.toInt64), .second, dv (x2.toInt64), .second, iv x3, iv 2, .unset, .unset] [(.long 1), (.long 3), (.ref b1)]))
  refine go (fun tg kg => XS.ladd X1013.here hx rfl (hb hby d7_61) rfl kg) ?_
  have Fa1014 := (Fa1005.wr W1011)
  obtain ⟨T1015, h1015, X1015, e1015, W1015, st1015⟩ := putF X1013 hx hZ hown (host := "") (Or.inl (own_w hw 12 rfl)) Via.refl e1013 Fa1012 Fa1014 (Or.inl (own_w hw 13 rfl)) (own_w hw 2 rfl) (ty := .long) (by decide) rfl rfl (g := (mkF m 62 #[rv b1, dv (x0.toInt64), .second, dv (x1.toInt64), .second, dv (x2.toInt64), .second, iv x3, iv 2, .unset, .unset] [(.long 4), (.ref b1)])) rfl rfl (hb hby d7_62)
  refine go st1015 ?_
  have Fw1015 : Fld Z h1015 b1 cF "nextId" "J" (.long 4) := Fa1012.same W1015
  have N1015 := Fr.snoc X1015 N1011 gg_b1
  have K1015 : Keep h0 h1015 [b1, b2_2, b2_3, b2_1] := K1011.wr W1015 (Or.inl (List.mem_of_getElem? (i := 0) rfl))
  have Z1015 := Nat.le_trans Z1011 (Keep.of_wr W1015).1
  refine go (fun tg kg => XS.aloadN X1015.here hx rfl (hb hby d7_65) rfl rfl kg) ?_
  have Fa1016 := (Fa1014.wr W1015)
  have Fa1017 := (((m6.other W1004 (Or.inr (sn_births_slotsUsed hw))).other W1011 (Or.inl (Ne.symm ne_b2_2_b1))).other W1015 (Or.inr (sn_births_nextId hw)))
  obtain ⟨T1018, X1018, e1018, st1018⟩ := getF X1015 hx hZ hown (host := "") (Or.inl (own_w hw 30 rfl)) Via.refl e1015 Fa1017 (g := (mkF m 66 #[rv b1, dv (x0.toInt64), .second, dv (x1.toInt64), .second, dv (x2.toInt64), .second, iv x3, iv 2, .unset, .unset] [(.ref b1)])) rfl rfl (hb hby d7_66)
  refine go st1018 ?_
  refine go (fun tg kg => XS.iload X1018.here hx rfl (hb hby d7_69) rfl kg) ?_
  refine go (fun tg kg => XS.iload X1018.here hx rfl (hb hby d7_71) rfl kg) ?_
  show G (T1018.setTop (mkF m 73 #[rv b1, dv (x0.toInt64), .second, dv (x1.toInt64), .second, dv (x2.toInt64), .second, iv x3, iv 2, .unset, .unset] [(.int x3), (.int 2), (.ref b2_3)]))
  have Fa1019 := (((m7.other W1004 ne_b2_3_b1).other W1011 ne_b2_3_b2_2).other W1015 ne_b2_3_b1)
  obtain ⟨cl1020, Ar1020, q1020, S1020, M1020, H1020, U1020⟩ := id Fa1019
  have hin1020 : ¬ ((2 : Int32) < 0 ∨ cl1020.slots.size ≤ ((2 : Int32)).toNatClampNeg) := inb_of S1020 ⟨by decide, by decide⟩
  obtain ⟨T1020, h1020, X1020, e1020, W1020, st1020⟩ := stI X1018 hx hZ e1018 Ar1020 (j := (2 : Int32)) hin1020 (g := (mkF m 73 #[rv b1, dv (x0.toInt64), .second, dv (x1.toInt64), .second, dv (x2.toInt64), .second, iv x3, iv 2, .unset, .unset] [(.int x3), (.int 2), (.ref b2_3)])) rfl rfl (hb hby d7_73)
  refine go st1020 ?_
  have V1020 : Arv Z h1020 b2_3 k2_3 .int (4 : Int32) [(.int 10), (.int 20), (.int x3), (.int 0)] (.int 0) := Arv.set Ar1020 q1020 S1020 M1020 H1020 U1020 rfl W1020 2 rfl (Nat.le_of_ble_eq_true rfl)
  have N1020 := Fr.snoc X1020 N1015 gg_b2_3
  have K1020 : Keep h0 h1020 [b1, b2_2, b2_3, b2_1] := K1015.wr W1020 (Or.inl (List.mem_of_getElem? (i := 2) rfl))
  have Z1020 := Nat.le_trans Z1015 (Keep.of_wr W1020).1
  refine go (fun tg kg => XS.aloadN X1020.here hx rfl (hb hby d7_74) rfl rfl kg) ?_
  have Fa1021 := (Fa1016.wr W1020)
  have Fa1022 := ((((m8.other W1004 (Or.inr (sn_pages_slotsUsed hw))).other W1011 (Or.inl (Ne.symm ne_b2_2_b1))).other W1015 (Or.inr (sn_pages_nextId hw))).other W1020 (Or.inl (Ne.symm ne_b2_3_b1)))
  obtain ⟨T1023, X1023, e1023, st1023⟩ := getF X1020 hx hZ hown (host := "") (Or.inl (own_w hw 17 rfl)) Via.refl e1020 Fa1022 (g := (mkF m 75 #[rv b1, dv (x0.toInt64), .second, dv (x1.toInt64), .second, dv (x2.toInt64), .second, iv x3, iv 2, .unset, .unset] [(.ref b1)])) rfl rfl (hb hby d7_75)
  refine go st1023 ?_
  refine go (fun tg kg => XS.iload X1023.here hx rfl (hb hby d7_78) rfl kg) ?_
  refine go (fun tg kg => XS.bipush X1023.here hx rfl (hb hby d7_80) kg) ?_
  refine go (fun tg kg => XS.iushr X1023.here hx rfl (hb hby d7_82) rfl kg) ?_
  show G (T1023.setTop (mkF m 83 #[rv b1, dv (x0.toInt64), .second, dv (x1.toInt64), .second, dv (x2.toInt64), .second, iv x3, iv 2, .unset, .unset] [(.int (((2 : Int32).toUInt32 >>> ((24 : Int32) &&& 31).toUInt32).toInt32)), (.ref b2_0)]))
  rw [show (((2 : Int32).toUInt32 >>> ((24 : Int32) &&& 31).toUInt32).toInt32) = (0 : Int32) from by decide]
  show G (T1023.setTop (mkF m 83 #[rv b1, dv (x0.toInt64), .second, dv (x1.toInt64), .second, dv (x2.toInt64), .second, iv x3, iv 2, .unset, .unset] [(.int 0), (.ref b2_0)]))
  have Fa1024 := ((((m9.other W1004 ne_b2_0_b1).other W1011 ne_b2_0_b2_2).other W1015 ne_b2_0_b1).other W1020 ne_b2_0_b2_3)
  obtain ⟨cl1025, Ar1025, q1025, S1025, M1025, H1025, U1025⟩ := id Fa1024
  have hin1025 : ¬ ((0 : Int32) < 0 ∨ cl1025.slots.size ≤ ((0 : Int32)).toNatClampNeg) := inb_of S1025 ⟨by decide, by decide⟩
  refine go (fun tg kg => X1023.aaload hx (j := (0 : Int32)) (v := (.ref b2_1)) (by rw [e1023]; exact Ar1025.1) (State.isArrayOf_alike hZ.alike Ar1025.2.1) rfl Ar1025.2.2 hin1025 (H1025.at hin1025 rfl) (g := (mkF m 83 #[rv b1, dv (x0.toInt64), .second, dv (x1.toInt64), .second, dv (x2.toInt64), .second, iv x3, iv 2, .unset, .unset] [(.int 0), (.ref b2_0)])) rfl rfl (hb hby d7_83) _ kg) ?_
  show G (T1023.setTop (mkF m 84 #[rv b1, dv (x0.toInt64), .second, dv (x1.toInt64), .second, dv (x2.toInt64), .second, iv x3, iv 2, .unset, .unset] [(.ref b2_1)]))
  refine go (fun tg kg => XS.astore X1023.here hx rfl (hb hby d7_84) rfl rfl (l' := #[rv b1, dv (x0.toInt64), .second, dv (x1.toInt64), .second, dv (x2.toInt64), .second, iv x3, iv 2, rv b2_1, .unset]) rfl kg) ?_
  refine go (fun tg kg => XS.iload X1023.here hx rfl (hb hby d7_86) rfl kg) ?_
  refine go (fun tg kg => X1023.ldcInt hx hown (mvT hZ (own_w hw 71 rfl)) (g := (mkF m 88 #[rv b1, dv (x0.toInt64), .second, dv (x1.toInt64), .second, dv (x2.toInt64), .second, iv x3, iv 2, rv b2_1, .unset] [(.int 2)])) rfl (hb hby d7_88) _ kg) ?_
  refine go (fun tg kg => XS.iand X1023.here hx rfl (hb hby d7_90) rfl kg) ?_
  refine go (fun tg kg => XS.iconst X1023.here hx rfl (hb hby d7_91) kg) ?_
  refine go (fun tg kg => XS.imul X1023.here hx rfl (hb hby d7_92) rfl kg) ?_
  show G (T1023.setTop (mkF m 93 #[rv b1, dv (x0.toInt64), .second, dv (x1.toInt64), .second, dv (x2.toInt64), .second, iv x3, iv 2, rv b2_1, .unset] [(.int 10)]))
  refine go (fun tg kg => XS.istore X1023.here hx rfl (hb hby d7_93) rfl (l' := #[rv b1, dv (x0.toInt64), .second, dv (x1.toInt64), .second, dv (x2.toInt64), .second, iv x3, iv 2, rv b2_1, iv 10]) rfl kg) ?_
  refine go (fun tg kg => XS.aload X1023.here hx rfl (hb hby d7_95) rfl rfl kg) ?_
  refine go (fun tg kg => XS.iload X1023.here hx rfl (hb hby d7_97) rfl kg) ?_
  refine go (fun tg kg => XS.iconst X1023.here hx rfl (hb hby d7_99) kg) ?_
  refine go (fun tg kg => XS.iadd X1023.here hx rfl (hb hby d7_100) rfl kg) ?_
  refine go (fun tg kg => XS.dloadN X1023.here hx rfl (hb hby d7_101) rfl kg) ?_
  show G (T1023.setTop (mkF m 102 #[rv b1, dv (x0.toInt64), .second, dv (x1.toInt64), .second, dv (x2.toInt64), .second, iv x3, iv 2, rv b2_1, iv 10] [(dl (x0.toInt64)), (.int 10), (.ref b2_1)]))
  have Fa1026 := ((((m10.other W1004 ne_b2_1_b1).other W1011 ne_b2_1_b2_2).other W1015 ne_b2_1_b1).other W1020 ne_b2_1_b2_3)
  obtain ⟨cl1027, Ar1027, q1027, S1027, M1027, H1027, U1027⟩ := id Fa1026
  have hin1027 : ¬ ((10 : Int32) < 0 ∨ cl1027.slots.size ≤ ((10 : Int32)).toNatClampNeg) := inb_of S1027 ⟨by decide, by decide⟩
  obtain ⟨T1027, h1027, X1027, e1027, W1027, st1027⟩ := stD X1023 hx hZ e1023 Ar1027 (j := (10 : Int32)) hin1027 (g := (mkF m 102 #[rv b1, dv (x0.toInt64), .second, dv (x1.toInt64), .second, dv (x2.toInt64), .second, iv x3, iv 2, rv b2_1, iv 10] [(dl (x0.toInt64)), (.int 10), (.ref b2_1)])) rfl rfl (hb hby d7_102)
  refine go st1027 ?_
  have V1027 : Arv Z h1027 b2_1 k2_1 .double (20 : Int32) [(dl 1), (dl 2), (dl 3), (dl 0), (dl 0), (dl 4), (dl 5), (dl 6), (dl 0), (dl 0), (dl (x0.toInt64)), (dl 0), (dl 0), (dl 0), (dl 0), (dl 0), (dl 0), (dl 0), (dl 0), (dl 0)] (dl 0) := Arv.set Ar1027 q1027 S1027 M1027 H1027 U1027 rfl W1027 10 rfl (Nat.le_of_ble_eq_true rfl)
  have N1027 := Fr.snoc X1027 N1020 gg_b2_1
  have K1027 : Keep h0 h1027 [b1, b2_2, b2_3, b2_1] := K1020.wr W1027 (Or.inl (List.mem_of_getElem? (i := 3) rfl))
  have Z1027 := Nat.le_trans Z1020 (Keep.of_wr W1027).1
  refine go (fun tg kg => XS.aload X1027.here hx rfl (hb hby d7_103) rfl rfl kg) ?_
  refine go (fun tg kg => XS.iload X1027.here hx rfl (hb hby d7_105) rfl kg) ?_
  refine go (fun tg kg => XS.iconst X1027.here hx rfl (hb hby d7_107) kg) ?_
  refine go (fun tg kg => XS.iadd X1027.here hx rfl (hb hby d7_108) rfl kg) ?_
  refine go (fun tg kg => XS.dloadN X1027.here hx rfl (hb hby d7_109) rfl kg) ?_
  show G (T1027.setTop (mkF m 110 #[rv b1, dv (x0.toInt64), .second, dv (x1.toInt64), .second, dv (x2.toInt64), .second, iv x3, iv 2, rv b2_1, iv 10] [(dl (x1.toInt64)), (.int 11), (.ref b2_1)]))
  obtain ⟨cl1028, Ar1028, q1028, S1028, M1028, H1028, U1028⟩ := id V1027
  have hin1028 : ¬ ((11 : Int32) < 0 ∨ cl1028.slots.size ≤ ((11 : Int32)).toNatClampNeg) := inb_of S1028 ⟨by decide, by decide⟩
  obtain ⟨T1028, h1028, X1028, e1028, W1028, st1028⟩ := stD X1027 hx hZ e1027 Ar1028 (j := (11 : Int32)) hin1028 (g := (mkF m 110 #[rv b1, dv (x0.toInt64), .second, dv (x1.toInt64), .second, dv (x2.toInt64), .second, iv x3, iv 2, rv b2_1, iv 10] [(dl (x1.toInt64)), (.int 11), (.ref b2_1)])) rfl rfl (hb hby d7_110)
  refine go st1028 ?_
  have V1028 : Arv Z h1028 b2_1 k2_1 .double (20 : Int32) [(dl 1), (dl 2), (dl 3), (dl 0), (dl 0), (dl 4), (dl 5), (dl 6), (dl 0), (dl 0), (dl (x0.toInt64)), (dl (x1.toInt64)), (dl 0), (dl 0), (dl 0), (dl 0), (dl 0), (dl 0), (dl 0), (dl 0)] (dl 0) := Arv.set Ar1028 q1028 S1028 M1028 H1028 U1028 rfl W1028 11 rfl (Nat.le_of_ble_eq_true rfl)
  have N1028 := Fr.snoc X1028 N1027 gg_b2_1
  have K1028 : Keep h0 h1028 [b1, b2_2, b2_3, b2_1] := K1027.wr W1028 (Or.inl (List.mem_of_getElem? (i := 3) rfl))
  have Z1028 := Nat.le_trans Z1027 (Keep.of_wr W1028).1
  refine go (fun tg kg => XS.aload X1028.here hx rfl (hb hby d7_111) rfl rfl kg) ?_
  refine go (fun tg kg => XS.iload X1028.here hx rfl (hb hby d7_113) rfl kg) ?_
  refine go (fun tg kg => XS.iconst X1028.here hx rfl (hb hby d7_115) kg) ?_
  refine go (fun tg kg => XS.iadd X1028.here hx rfl (hb hby d7_116) rfl kg) ?_
  refine go (fun tg kg => XS.dload X1028.here hx rfl (hb hby d7_117) rfl kg) ?_
  show G (T1028.setTop (mkF m 119 #[rv b1, dv (x0.toInt64), .second, dv (x1.toInt64), .second, dv (x2.toInt64), .second, iv x3, iv 2, rv b2_1, iv 10] [(dl (x2.toInt64)), (.int 12), (.ref b2_1)]))
  obtain ⟨cl1029, Ar1029, q1029, S1029, M1029, H1029, U1029⟩ := id V1028
  have hin1029 : ¬ ((12 : Int32) < 0 ∨ cl1029.slots.size ≤ ((12 : Int32)).toNatClampNeg) := inb_of S1029 ⟨by decide, by decide⟩
  obtain ⟨T1029, h1029, X1029, e1029, W1029, st1029⟩ := stD X1028 hx hZ e1028 Ar1029 (j := (12 : Int32)) hin1029 (g := (mkF m 119 #[rv b1, dv (x0.toInt64), .second, dv (x1.toInt64), .second, dv (x2.toInt64), .second, iv x3, iv 2, rv b2_1, iv 10] [(dl (x2.toInt64)), (.int 12), (.ref b2_1)])) rfl rfl (hb hby d7_119)
  refine go st1029 ?_
  have V1029 : Arv Z h1029 b2_1 k2_1 .double (20 : Int32) [(dl 1), (dl 2), (dl 3), (dl 0), (dl 0), (dl 4), (dl 5), (dl 6), (dl 0), (dl 0), (dl (x0.toInt64)), (dl (x1.toInt64)), (dl (x2.toInt64)), (dl 0), (dl 0), (dl 0), (dl 0), (dl 0), (dl 0), (dl 0)] (dl 0) := Arv.set Ar1029 q1029 S1029 M1029 H1029 U1029 rfl W1029 12 rfl (Nat.le_of_ble_eq_true rfl)
  have N1029 := Fr.snoc X1029 N1028 gg_b2_1
  have K1029 : Keep h0 h1029 [b1, b2_2, b2_3, b2_1] := K1028.wr W1029 (Or.inl (List.mem_of_getElem? (i := 3) rfl))
  have Z1029 := Nat.le_trans Z1028 (Keep.of_wr W1029).1
  refine go (fun tg kg => XS.aload X1029.here hx rfl (hb hby d7_120) rfl rfl kg) ?_
  refine go (fun tg kg => XS.iload X1029.here hx rfl (hb hby d7_122) rfl kg) ?_
  refine go (fun tg kg => XS.iconst X1029.here hx rfl (hb hby d7_124) kg) ?_
  refine go (fun tg kg => XS.iadd X1029.here hx rfl (hb hby d7_125) rfl kg) ?_
  refine go (fun tg kg => XS.dconst0 X1029.here hx rfl (hb hby d7_126) own_d0 kg) ?_
  show G (T1029.setTop (mkF m 127 #[rv b1, dv (x0.toInt64), .second, dv (x1.toInt64), .second, dv (x2.toInt64), .second, iv x3, iv 2, rv b2_1, iv 10] [(dl 0), (.int 13), (.ref b2_1)]))
  obtain ⟨cl1030, Ar1030, q1030, S1030, M1030, H1030, U1030⟩ := id V1029
  have hin1030 : ¬ ((13 : Int32) < 0 ∨ cl1030.slots.size ≤ ((13 : Int32)).toNatClampNeg) := inb_of S1030 ⟨by decide, by decide⟩
  obtain ⟨T1030, h1030, X1030, e1030, W1030, st1030⟩ := stD X1029 hx hZ e1029 Ar1030 (j := (13 : Int32)) hin1030 (g := (mkF m 127 #[rv b1, dv (x0.toInt64), .second, dv (x1.toInt64), .second, dv (x2.toInt64), .second, iv x3, iv 2, rv b2_1, iv 10] [(dl 0), (.int 13), (.ref b2_1)])) rfl rfl (hb hby d7_127)
  refine go st1030 ?_
  have V1030 : Arv Z h1030 b2_1 k2_1 .double (20 : Int32) [(dl 1), (dl 2), (dl 3), (dl 0), (dl 0), (dl 4), (dl 5), (dl 6), (dl 0), (dl 0), (dl (x0.toInt64)), (dl (x1.toInt64)), (dl (x2.toInt64)), (dl 0), (dl 0), (dl 0), (dl 0), (dl 0), (dl 0), (dl 0)] (dl 0) := Arv.set Ar1030 q1030 S1030 M1030 H1030 U1030 rfl W1030 13 rfl (Nat.le_of_ble_eq_true rfl)
  have N1030 := Fr.snoc X1030 N1029 gg_b2_1
  have K1030 : Keep h0 h1030 [b1, b2_2, b2_3, b2_1] := K1029.wr W1030 (Or.inl (List.mem_of_getElem? (i := 3) rfl))
  have Z1030 := Nat.le_trans Z1029 (Keep.of_wr W1030).1
  refine go (fun tg kg => XS.aload X1030.here hx rfl (hb hby d7_128) rfl rfl kg) ?_
  refine go (fun tg kg => XS.iload X1030.here hx rfl (hb hby d7_130) rfl kg) ?_
  refine go (fun tg kg => XS.iconst X1030.here hx rfl (hb hby d7_132) kg) ?_
  refine go (fun tg kg => XS.iadd X1030.here hx rfl (hb hby d7_133) rfl kg) ?_
  refine go (fun tg kg => XS.dconst0 X1030.here hx rfl (hb hby d7_134) own_d0 kg) ?_
  show G (T1030.setTop (mkF m 135 #[rv b1, dv (x0.toInt64), .second, dv (x1.toInt64), .second, dv (x2.toInt64), .second, iv x3, iv 2, rv b2_1, iv 10] [(dl 0), (.int 14), (.ref b2_1)]))
  obtain ⟨cl1031, Ar1031, q1031, S1031, M1031, H1031, U1031⟩ := id V1030
  have hin1031 : ¬ ((14 : Int32) < 0 ∨ cl1031.slots.size ≤ ((14 : Int32)).toNatClampNeg) := inb_of S1031 ⟨by decide, by decide⟩
  obtain ⟨T1031, h1031, X1031, e1031, W1031, st1031⟩ := stD X1030 hx hZ e1030 Ar1031 (j := (14 : Int32)) hin1031 (g := (mkF m 135 #[rv b1, dv (x0.toInt64), .second, dv (x1.toInt64), .second, dv (x2.toInt64), .second, iv x3, iv 2, rv b2_1, iv 10] [(dl 0), (.int 14), (.ref b2_1)])) rfl rfl (hb hby d7_135)
  refine go st1031 ?_
  have V1031 : Arv Z h1031 b2_1 k2_1 .double (20 : Int32) [(dl 1), (dl 2), (dl 3), (dl 0), (dl 0), (dl 4), (dl 5), (dl 6), (dl 0), (dl 0), (dl (x0.toInt64)), (dl (x1.toInt64)), (dl (x2.toInt64)), (dl 0), (dl 0), (dl 0), (dl 0), (dl 0), (dl 0), (dl 0)] (dl 0) := Arv.set Ar1031 q1031 S1031 M1031 H1031 U1031 rfl W1031 14 rfl (Nat.le_of_ble_eq_true rfl)
  have N1031 := Fr.snoc X1031 N1030 gg_b2_1
  have K1031 : Keep h0 h1031 [b1, b2_2, b2_3, b2_1] := K1030.wr W1031 (Or.inl (List.mem_of_getElem? (i := 3) rfl))
  have Z1031 := Nat.le_trans Z1030 (Keep.of_wr W1031).1
  refine go (fun tg kg => XS.aloadN X1031.here hx rfl (hb hby d7_136) rfl rfl kg) ?_
  refine go (fun tg kg => XS.dup X1031.here hx rfl (hb hby d7_137) rfl rfl kg) ?_
  have Fa1032 := (((((Fa1021.wr W1027).wr W1028).wr W1029).wr W1030).wr W1031)
  have Fa1033 := (((((((((m11.other W1004 (Or.inr (sn_openFirms_slotsUsed hw))).other W1011 (Or.inl (Ne.symm ne_b2_2_b1))).other W1015 (Or.inr (sn_openFirms_nextId hw))).other W1020 (Or.inl (Ne.symm ne_b2_3_b1))).other W1027 (Or.inl (Ne.symm ne_b2_1_b1))).other W1028 (Or.inl (Ne.symm ne_b2_1_b1))).other W1029 (Or.inl (Ne.symm ne_b2_1_b1))).other W1030 (Or.inl (Ne.symm ne_b2_1_b1))).other W1031 (Or.inl (Ne.symm ne_b2_1_b1)))
  obtain ⟨T1034, X1034, e1034, st1034⟩ := getF X1031 hx hZ hown (host := "") (Or.inl (own_w hw 72 rfl)) Via.refl e1031 Fa1033 (g := (mkF m 138 #[rv b1, dv (x0.toInt64), .second, dv (x1.toInt64), .second, dv (x2.toInt64), .second, iv x3, iv 2, rv b2_1, iv 10] [(.ref b1), (.ref b1)])) rfl rfl (hb hby d7_138)
  refine go st1034 ?_
  refine go (fun tg kg => XS.iconst X1034.here hx rfl (hb hby d7_141) kg) ?_
  refine go (fun tg kg => XS.iadd X1034.here hx rfl (hb hby d7_142) rfl kg) ?_
  show G (T1034.setTop (mkF m 143 #[rv b1, dv (x0.toInt64), .second, dv (x1.toInt64), .second, dv (x2.toInt64), .second, iv x3, iv 2, rv b2_1, iv 10] [(.int 3), (.ref b1)]))
  obtain ⟨T1035, h1035, X1035, e1035, W1035, st1035⟩ := putF X1034 hx hZ hown (host := "") (Or.inl (own_w hw 72 rfl)) Via.refl e1034 Fa1033 Fa1032 (Or.inl (own_w hw 73 rfl)) (own_w hw 2 rfl) (ty := .int) (by decide) rfl rfl (g := (mkF m 143 #[rv b1, dv (x0.toInt64), .second, dv (x1.toInt64), .second, dv (x2.toInt64), .second, iv x3, iv 2, rv b2_1, iv 10] [(.int 3), (.ref b1)])) rfl rfl (hb hby d7_143)
  refine go st1035 ?_
  have Fw1035 : Fld Z h1035 b1 cF "openFirms" "I" (.int 3) := Fa1033.same W1035
  have N1035 := Fr.snoc X1035 N1031 gg_b1
  have K1035 : Keep h0 h1035 [b1, b2_2, b2_3, b2_1] := K1031.wr W1035 (Or.inl (List.mem_of_getElem? (i := 0) rfl))
  have Z1035 := Nat.le_trans Z1031 (Keep.of_wr W1035).1
  refine go (fun tg kg => XS.iload X1035.here hx rfl (hb hby d7_146) rfl kg) ?_
  refine fin (some (.int 2)) X1035 (fun h => absurd h (by decide)) (fun fs hr => retOut X1035 hx hret rfl (Or.inl ⟨rfl, Or.inl rfl, _, rfl⟩) (hb hby d7_148) hr) (by decide) (by decide) ?_
  rw [e1035]
  have Fa1036 := (Fa1032.wr W1035)
  have Fa1037 := ((((((((((m0.other W1004 (Or.inr (sn_freeSlot_slotsUsed hw))).other W1011 (Or.inl (Ne.symm ne_b2_2_b1))).other W1015 (Or.inr (sn_freeSlot_nextId hw))).other W1020 (Or.inl (Ne.symm ne_b2_3_b1))).other W1027 (Or.inl (Ne.symm ne_b2_1_b1))).other W1028 (Or.inl (Ne.symm ne_b2_1_b1))).other W1029 (Or.inl (Ne.symm ne_b2_1_b1))).other W1030 (Or.inl (Ne.symm ne_b2_1_b1))).other W1031 (Or.inl (Ne.symm ne_b2_1_b1))).other W1035 (Or.inr (sn_freeSlot_openFirms hw)))
  have Fa1038 := (((((((((Fw1004.other W1011 (Or.inl (Ne.symm ne_b2_2_b1))).other W1015 (Or.inr (sn_slotsUsed_nextId hw))).other W1020 (Or.inl (Ne.symm ne_b2_3_b1))).other W1027 (Or.inl (Ne.symm ne_b2_1_b1))).other W1028 (Or.inl (Ne.symm ne_b2_1_b1))).other W1029 (Or.inl (Ne.symm ne_b2_1_b1))).other W1030 (Or.inl (Ne.symm ne_b2_1_b1))).other W1031 (Or.inl (Ne.symm ne_b2_1_b1))).other W1035 (Or.inr (sn_slotsUsed_openFirms hw)))
  have Fa1039 := (((((((((Fa1006.other W1011 (Or.inl (Ne.symm ne_b2_2_b1))).other W1015 (Or.inr (sn_ids_nextId hw))).other W1020 (Or.inl (Ne.symm ne_b2_3_b1))).other W1027 (Or.inl (Ne.symm ne_b2_1_b1))).other W1028 (Or.inl (Ne.symm ne_b2_1_b1))).other W1029 (Or.inl (Ne.symm ne_b2_1_b1))).other W1030 (Or.inl (Ne.symm ne_b2_1_b1))).other W1031 (Or.inl (Ne.symm ne_b2_1_b1))).other W1035 (Or.inr (sn_ids_openFirms hw)))
  have Fa1040 := (((((((Fw1015.other W1020 (Or.inl (Ne.symm ne_b2_3_b1))).other W1027 (Or.inl (Ne.symm ne_b2_1_b1))).other W1028 (Or.inl (Ne.symm ne_b2_1_b1))).other W1029 (Or.inl (Ne.symm ne_b2_1_b1))).other W1030 (Or.inl (Ne.symm ne_b2_1_b1))).other W1031 (Or.inl (Ne.symm ne_b2_1_b1))).other W1035 (Or.inr (sn_nextId_openFirms hw)))
  have Fa1041 := ((((((((V1011.other W1015 ne_b2_2_b1).other W1020 (Ne.symm ne_b2_3_b2_2)).other W1027 (Ne.symm ne_b2_1_b2_2)).other W1028 (Ne.symm ne_b2_1_b2_2)).other W1029 (Ne.symm ne_b2_1_b2_2)).other W1030 (Ne.symm ne_b2_1_b2_2)).other W1031 (Ne.symm ne_b2_1_b2_2)).other W1035 ne_b2_2_b1)
  have Fa1042 := (((((((Fa1017.other W1020 (Or.inl (Ne.symm ne_b2_3_b1))).other W1027 (Or.inl (Ne.symm ne_b2_1_b1))).other W1028 (Or.inl (Ne.symm ne_b2_1_b1))).other W1029 (Or.inl (Ne.symm ne_b2_1_b1))).other W1030 (Or.inl (Ne.symm ne_b2_1_b1))).other W1031 (Or.inl (Ne.symm ne_b2_1_b1))).other W1035 (Or.inr (sn_births_openFirms hw)))
  have Fa1043 := ((((((V1020.other W1027 (Ne.symm ne_b2_1_b2_3)).other W1028 (Ne.symm ne_b2_1_b2_3)).other W1029 (Ne.symm ne_b2_1_b2_3)).other W1030 (Ne.symm ne_b2_1_b2_3)).other W1031 (Ne.symm ne_b2_1_b2_3)).other W1035 ne_b2_3_b1)
  have Fa1044 := ((((((Fa1022.other W1027 (Or.inl (Ne.symm ne_b2_1_b1))).other W1028 (Or.inl (Ne.symm ne_b2_1_b1))).other W1029 (Or.inl (Ne.symm ne_b2_1_b1))).other W1030 (Or.inl (Ne.symm ne_b2_1_b1))).other W1031 (Or.inl (Ne.symm ne_b2_1_b1))).other W1035 (Or.inr (sn_pages_openFirms hw)))
  have Fa1045 := (V1031.other W1035 ne_b2_1_b1)
  have Fa1046 := ((((((((((m12.other W1004 (Or.inr (sn_members_slotsUsed hw))).other W1011 (Or.inl (Ne.symm ne_b2_2_b1))).other W1015 (Or.inr (sn_members_nextId hw))).other W1020 (Or.inl (Ne.symm ne_b2_3_b1))).other W1027 (Or.inl (Ne.symm ne_b2_1_b1))).other W1028 (Or.inl (Ne.symm ne_b2_1_b1))).other W1029 (Or.inl (Ne.symm ne_b2_1_b1))).other W1030 (Or.inl (Ne.symm ne_b2_1_b1))).other W1031 (Or.inl (Ne.symm ne_b2_1_b1))).other W1035 (Or.inr (sn_members_openFirms hw)))
  have Fa1047 := ((((((((((m13.other W1004 (Or.inr (sn_changedNow_slotsUsed hw))).other W1011 (Or.inl (Ne.symm ne_b2_2_b1))).other W1015 (Or.inr (sn_changedNow_nextId hw))).other W1020 (Or.inl (Ne.symm ne_b2_3_b1))).other W1027 (Or.inl (Ne.symm ne_b2_1_b1))).other W1028 (Or.inl (Ne.symm ne_b2_1_b1))).other W1029 (Or.inl (Ne.symm ne_b2_1_b1))).other W1030 (Or.inl (Ne.symm ne_b2_1_b1))).other W1031 (Or.inl (Ne.symm ne_b2_1_b1))).other W1035 (Or.inr (sn_changedNow_openFirms hw)))
  have Fa1048 := ((((((((((m14.other W1004 (Or.inr (sn_changedBefore_slotsUsed hw))).other W1011 (Or.inl (Ne.symm ne_b2_2_b1))).other W1015 (Or.inr (sn_changedBefore_nextId hw))).other W1020 (Or.inl (Ne.symm ne_b2_3_b1))).other W1027 (Or.inl (Ne.symm ne_b2_1_b1))).other W1028 (Or.inl (Ne.symm ne_b2_1_b1))).other W1029 (Or.inl (Ne.symm ne_b2_1_b1))).other W1030 (Or.inl (Ne.symm ne_b2_1_b1))).other W1031 (Or.inl (Ne.symm ne_b2_1_b1))).other W1035 (Or.inr (sn_changedBefore_openFirms hw)))
  have Fa1049 := ((((((((((m15.wr W1004).wr W1011).wr W1015).wr W1020).wr W1027).wr W1028).wr W1029).wr W1030).wr W1031).wr W1035)
  exact ⟨rfl, N1035, K1035, Fa1037, Fa1038, Fa1036, Fa1039, Fa1040, Fa1041, Fa1042, Fa1043, Fa1044, Fa1045, Fw1035, Fa1046, Fa1047, Fa1048, Fa1049⟩
theorem d8_0 : decode prog_8_method_8_code 0 = .ok (.aload_n 0, 1) := by decide +kernel
theorem d8_1 : decode prog_8_method_8_code 1 = .ok (.getfield 32, 3) := by decide +kernel
theorem d8_4 : decode prog_8_method_8_code 4 = .ok (.iload_n 1, 1) := by decide +kernel
theorem d8_5 : decode prog_8_method_8_code 5 = .ok (.laload, 1) := by decide +kernel
theorem d8_6 : decode prog_8_method_8_code 6 = .ok (.lreturn, 1) := by decide +kernel
theorem ef_8 (m : MethodId) (x0 : Addr) (x1 : Int32) : entryFrame m #[(.ref x0), (.int x1)] 2 = mkF m 0 #[.val (.ref x0), .val (.int x1)] [] := by first | (simp [entryFrame, mkF, argsToLocals, Value.category]; done) | rfl
def Q_rm8_0 (Z : State) (b1 : Addr) (b2_2 : Addr) (k2_2 : ClassId) (h0 : Heap) (n0 : Nat) (v : Option Value) (h : Heap) (L : List Loc) : Prop := v = some (.long 3) ∧ Fr n0 L ∧ h = h0
set_option maxRecDepth 65536 in
set_option maxHeartbeats 40000000 in
theorem rm8_0 (l : Launch) (Z : State) (a0 : Array Value) (hw : ∀ d ∈ tables_1, d.before a0 Z = true) (ws : List Jvm.Cond) (b1 : Addr) (b2_2 : Addr) (k2_2 : ClassId) (h0 : Heap) (n0 : Nat) (Z0 : n0 ≤ h0.size) (m0 : Fld Z h0 b1 cF "ids" "[J" (.ref b2_2)) (m1 : Arv Z h0 b2_2 k2_2 .long 4 [(.long 1), (.long 2), (.long 3), (.long 0)] (.long 0)) :
    oM l y8 prog_8_method_8_code 2 (some .long) ws (⟨0, 0, 0, 0⟩ : Room) Z h0 #[(.ref b1), (.int 2)] (Q_rm8_0 Z b1 b2_2 k2_2 h0 n0) := by
  refine own_enter (Q := Q_rm8_0 Z b1 b2_2 k2_2 h0 n0) (plainFor_of_name pn_com_example_housemartin_housemartin_firm_FirmSlots) ?_
  intro p e s m below meth c s₁ G X0 hx hby hml hZ hown hnm hret e0 go fin
  replace hown : s.vm.findClass cF = some m.cls := hown
  replace hnm : meth.name = "id" := hnm
  replace hml : c.maxLocals = 2 := hml
  rw [ef_8 m b1 _]
  have N0 := Fr.nil n0
  refine go (fun tg kg => XS.aloadN X0.here hx rfl (hb hby d8_0) rfl rfl kg) ?_
  obtain ⟨T1001, X1001, e1001, st1001⟩ := getF X0 hx hZ hown (host := "") (Or.inl (own_w hw 27 rfl)) Via.refl e0 m0 (g := (mkF m 1 #[rv b1, iv 2] [(.ref b1)])) rfl rfl (hb hby d8_1)
  refine go st1001 ?_
  refine go (fun tg kg => XS.iloadN X1001.here hx rfl (hb hby d8_4) rfl kg) ?_
  obtain ⟨cl1002, Ar1002, q1002, S1002, M1002, H1002, U1002⟩ := id m1
  have hin1002 : ¬ ((2 : Int32) < 0 ∨ cl1002.slots.size ≤ ((2 : Int32)).toNatClampNeg) := inb_of S1002 ⟨by decide, by decide⟩
  refine go (fun tg kg => X1001.laload hx (j := (2 : Int32)) (v := (.long 3)) (by rw [e1001]; exact Ar1002.1) (State.isArrayOf_alike hZ.alike Ar1002.2.1) Ar1002.2.2 hin1002 (H1002.at hin1002 rfl) (g := (mkF m 5 #[rv b1, iv 2] [(.int 2), (.ref b2_2)])) rfl rfl (hb hby d8_5) _ kg) ?_
  refine fin (some (.long 3)) X1001 (fun h => absurd h (by decide)) (fun fs hr => retOut X1001 hx hret rfl (Or.inr (Or.inl ⟨rfl, rfl, _, rfl⟩)) (hb hby d8_6) hr) (by decide) (by decide) ?_
  rw [e1001]
  exact ⟨rfl, N0, rfl⟩
theorem pd__I_J : parseMethodDescriptor "(I)J" = some ⟨[.int], some .long⟩ := by decide +kernel
theorem d9_0 : decode prog_8_method_9_code 0 = .ok (.aload_n 0, 1) := by decide +kernel
theorem d9_1 : decode prog_8_method_9_code 1 = .ok (.getfield 36, 3) := by decide +kernel
theorem d9_4 : decode prog_8_method_9_code 4 = .ok (.iload_n 1, 1) := by decide +kernel
theorem d9_5 : decode prog_8_method_9_code 5 = .ok (.iaload, 1) := by decide +kernel
theorem d9_6 : decode prog_8_method_9_code 6 = .ok (.ireturn, 1) := by decide +kernel
theorem ef_9 (m : MethodId) (x0 : Addr) (x1 : Int32) : entryFrame m #[(.ref x0), (.int x1)] 2 = mkF m 0 #[.val (.ref x0), .val (.int x1)] [] := by first | (simp [entryFrame, mkF, argsToLocals, Value.category]; done) | rfl
def Q_rm9_0 (Z : State) (b1 : Addr) (b2_3 : Addr) (k2_3 : ClassId) (x3 : Int32) (h0 : Heap) (n0 : Nat) (v : Option Value) (h : Heap) (L : List Loc) : Prop := v = some (.int x3) ∧ Fr n0 L ∧ h = h0
set_option maxRecDepth 65536 in
set_option maxHeartbeats 40000000 in
theorem rm9_0 (l : Launch) (Z : State) (a0 : Array Value) (hw : ∀ d ∈ tables_1, d.before a0 Z = true) (ws : List Jvm.Cond) (b1 : Addr) (b2_3 : Addr) (k2_3 : ClassId) (x3 : Int32) (h0 : Heap) (n0 : Nat) (Z0 : n0 ≤ h0.size) (m0 : Fld Z h0 b1 cF "births" "[I" (.ref b2_3)) (m1 : Arv Z h0 b2_3 k2_3 .int 4 [(.int 10), (.int 20), (.int x3), (.int 0)] (.int 0)) :
    oM l y9 prog_8_method_9_code 2 (some .int) ws (⟨0, 0, 0, 0⟩ : Room) Z h0 #[(.ref b1), (.int 2)] (Q_rm9_0 Z b1 b2_3 k2_3 x3 h0 n0) := by
  refine own_enter (Q := Q_rm9_0 Z b1 b2_3 k2_3 x3 h0 n0) (plainFor_of_name pn_com_example_housemartin_housemartin_firm_FirmSlots) ?_
  intro p e s m below meth c s₁ G X0 hx hby hml hZ hown hnm hret e0 go fin
  replace hown : s.vm.findClass cF = some m.cls := hown
  replace hnm : meth.name = "birth" := hnm
  replace hml : c.maxLocals = 2 := hml
  rw [ef_9 m b1 _]
  have N0 := Fr.nil n0
  refine go (fun tg kg => XS.aloadN X0.here hx rfl (hb hby d9_0) rfl rfl kg) ?_
  obtain ⟨T1001, X1001, e1001, st1001⟩ := getF X0 hx hZ hown (host := "") (Or.inl (own_w hw 30 rfl)) Via.refl e0 m0 (g := (mkF m 1 #[rv b1, iv 2] [(.ref b1)])) rfl rfl (hb hby d9_1)
  refine go st1001 ?_
  refine go (fun tg kg => XS.iloadN X1001.here hx rfl (hb hby d9_4) rfl kg) ?_
  obtain ⟨cl1002, Ar1002, q1002, S1002, M1002, H1002, U1002⟩ := id m1
  have hin1002 : ¬ ((2 : Int32) < 0 ∨ cl1002.slots.size ≤ ((2 : Int32)).toNatClampNeg) := inb_of S1002 ⟨by decide, by decide⟩
  refine go (fun tg kg => X1001.iaload hx (j := (2 : Int32)) (v := (.int x3)) (by rw [e1001]; exact Ar1002.1) (State.isArrayOf_alike hZ.alike Ar1002.2.1) Ar1002.2.2 hin1002 (H1002.at hin1002 rfl) (g := (mkF m 5 #[rv b1, iv 2] [(.int 2), (.ref b2_3)])) rfl rfl (hb hby d9_5) _ kg) ?_
  refine fin (some (.int x3)) X1001 (fun h => absurd h (by decide)) (fun fs hr => retOut X1001 hx hret rfl (Or.inl ⟨rfl, Or.inl rfl, _, rfl⟩) (hb hby d9_6) hr) (by decide) (by decide) ?_
  rw [e1001]
  exact ⟨rfl, N0, rfl⟩
theorem pd__I_I : parseMethodDescriptor "(I)I" = some ⟨[.int], some .int⟩ := by decide +kernel
theorem d10_0 : decode prog_8_method_10_code 0 = .ok (.aload_n 0, 1) := by decide +kernel
theorem d10_1 : decode prog_8_method_10_code 1 = .ok (.getfield 21, 3) := by decide +kernel
theorem d10_4 : decode prog_8_method_10_code 4 = .ok (.iload_n 1, 1) := by decide +kernel
theorem d10_5 : decode prog_8_method_10_code 5 = .ok (.bipush 24, 2) := by decide +kernel
theorem d10_7 : decode prog_8_method_10_code 7 = .ok (.iushr, 1) := by decide +kernel
theorem d10_8 : decode prog_8_method_10_code 8 = .ok (.aaload, 1) := by decide +kernel
theorem d10_9 : decode prog_8_method_10_code 9 = .ok (.iload_n 1, 1) := by decide +kernel
theorem d10_10 : decode prog_8_method_10_code 10 = .ok (.ldc 58, 2) := by decide +kernel
theorem d10_12 : decode prog_8_method_10_code 12 = .ok (.iand, 1) := by decide +kernel
theorem d10_13 : decode prog_8_method_10_code 13 = .ok (.iconst 5, 1) := by decide +kernel
theorem d10_14 : decode prog_8_method_10_code 14 = .ok (.imul, 1) := by decide +kernel
theorem d10_15 : decode prog_8_method_10_code 15 = .ok (.iconst 0, 1) := by decide +kernel
theorem d10_16 : decode prog_8_method_10_code 16 = .ok (.iadd, 1) := by decide +kernel
theorem d10_17 : decode prog_8_method_10_code 17 = .ok (.daload, 1) := by decide +kernel
theorem d10_18 : decode prog_8_method_10_code 18 = .ok (.dreturn, 1) := by decide +kernel
theorem ef_10 (m : MethodId) (x0 : Addr) (x1 : Int32) : entryFrame m #[(.ref x0), (.int x1)] 2 = mkF m 0 #[.val (.ref x0), .val (.int x1)] [] := by first | (simp [entryFrame, mkF, argsToLocals, Value.category]; done) | rfl
def Q_rm10_0 (Z : State) (b1 : Addr) (b2_0 : Addr) (k2_0 : ClassId) (b2_1 : Addr) (k2_1 : ClassId) (x0 : Int32) (x1 : Int32) (x2 : Int32) (h0 : Heap) (n0 : Nat) (v : Option Value) (h : Heap) (L : List Loc) : Prop := v = some (dl (x0.toInt64)) ∧ Fr n0 L ∧ h = h0
set_option maxRecDepth 65536 in
set_option maxHeartbeats 40000000 in
theorem rm10_0 (l : Launch) (Z : State) (a0 : Array Value) (hw : ∀ d ∈ tables_1, d.before a0 Z = true) (ws : List Jvm.Cond) (b1 : Addr) (b2_0 : Addr) (k2_0 : ClassId) (b2_1 : Addr) (k2_1 : ClassId) (x0 : Int32) (x1 : Int32) (x2 : Int32) (h0 : Heap) (n0 : Nat) (Z0 : n0 ≤ h0.size) (m0 : Fld Z h0 b1 cF "pages" "[[D" (.ref b2_0)) (m1 : Arv Z h0 b2_0 k2_0 (.array .double) 1 [(.ref b2_1)] .null) (m2 : Arv Z h0 b2_1 k2_1 .double 20 [(dl 1), (dl 2), (dl 3), (dl 0), (dl 0), (dl 4), (dl 5), (dl 6), (dl 0), (dl 0), (dl (x0.toInt64)), (dl (x1.toInt64)), (dl (x2.toInt64)), (dl 0), (dl 0), (dl 0), (dl 0), (dl 0), (dl 0), (dl 0)] (dl 0)) :
    oM l y10 prog_8_method_10_code 2 (some .double) ws (⟨0, 0, 0, 0⟩ : Room) Z h0 #[(.ref b1), (.int 2)] (Q_rm10_0 Z b1 b2_0 k2_0 b2_1 k2_1 x0 x1 x2 h0 n0) := by
  refine own_enter (Q := Q_rm10_0 Z b1 b2_0 k2_0 b2_1 k2_1 x0 x1 x2 h0 n0) (plainFor_of_name pn_com_example_housemartin_housemartin_firm_FirmSlots) ?_
  intro p e s m below meth c s₁ G X0 hx hby hml hZ hown hnm hret e0 go fin
  replace hown : s.vm.findClass cF = some m.cls := hown
  replace hnm : meth.name = "a" := hnm
  replace hml : c.maxLocals = 2 := hml
  rw [ef_10 m b1 _]
  have N0 := Fr.nil n0
  refine go (fun tg kg => XS.aloadN X0.here hx rfl (hb hby d10_0) rfl rfl kg) ?_
  obtain ⟨T1001, X1001, e1001, st1001⟩ := getF X0 hx hZ hown (host := "") (Or.inl (own_w hw 17 rfl)) Via.refl e0 m0 (g := (mkF m 1 #[rv b1, iv 2] [(.ref b1)])) rfl rfl (hb hby d10_1)
  refine go st1001 ?_
  refine go (fun tg kg => XS.iloadN X1001.here hx rfl (hb hby d10_4) rfl kg) ?_
  refine go (fun tg kg => XS.bipush X1001.here hx rfl (hb hby d10_5) kg) ?_
  refine go (fun tg kg => XS.iushr X1001.here hx rfl (hb hby d10_7) rfl kg) ?_
  show G (T1001.setTop (mkF m 8 #[rv b1, iv 2] [(.int (((2 : Int32).toUInt32 >>> ((24 : Int32) &&& 31).toUInt32).toInt32)), (.ref b2_0)]))
  rw [show (((2 : Int32).toUInt32 >>> ((24 : Int32) &&& 31).toUInt32).toInt32) = (0 : Int32) from by decide]
  show G (T1001.setTop (mkF m 8 #[rv b1, iv 2] [(.int 0), (.ref b2_0)]))
  obtain ⟨cl1002, Ar1002, q1002, S1002, M1002, H1002, U1002⟩ := id m1
  have hin1002 : ¬ ((0 : Int32) < 0 ∨ cl1002.slots.size ≤ ((0 : Int32)).toNatClampNeg) := inb_of S1002 ⟨by decide, by decide⟩
  refine go (fun tg kg => X1001.aaload hx (j := (0 : Int32)) (v := (.ref b2_1)) (by rw [e1001]; exact Ar1002.1) (State.isArrayOf_alike hZ.alike Ar1002.2.1) rfl Ar1002.2.2 hin1002 (H1002.at hin1002 rfl) (g := (mkF m 8 #[rv b1, iv 2] [(.int 0), (.ref b2_0)])) rfl rfl (hb hby d10_8) _ kg) ?_
  show G (T1001.setTop (mkF m 9 #[rv b1, iv 2] [(.ref b2_1)]))
  refine go (fun tg kg => XS.iloadN X1001.here hx rfl (hb hby d10_9) rfl kg) ?_
  refine go (fun tg kg => X1001.ldcInt hx hown (mvT hZ (own_w hw 71 rfl)) (g := (mkF m 10 #[rv b1, iv 2] [(.int 2), (.ref b2_1)])) rfl (hb hby d10_10) _ kg) ?_
  refine go (fun tg kg => XS.iand X1001.here hx rfl (hb hby d10_12) rfl kg) ?_
  refine go (fun tg kg => XS.iconst X1001.here hx rfl (hb hby d10_13) kg) ?_
  refine go (fun tg kg => XS.imul X1001.here hx rfl (hb hby d10_14) rfl kg) ?_
  refine go (fun tg kg => XS.iconst X1001.here hx rfl (hb hby d10_15) kg) ?_
  show G (T1001.setTop (mkF m 16 #[rv b1, iv 2] [(.int 0), (.int 10), (.ref b2_1)]))
  refine go (fun tg kg => XS.iadd X1001.here hx rfl (hb hby d10_16) rfl kg) ?_
  obtain ⟨cl1003, Ar1003, q1003, S1003, M1003, H1003, U1003⟩ := id m2
  have hin1003 : ¬ ((10 : Int32) < 0 ∨ cl1003.slots.size ≤ ((10 : Int32)).toNatClampNeg) := inb_of S1003 ⟨by decide, by decide⟩
  refine go (fun tg kg => X1001.daload hx (j := (10 : Int32)) (v := (dl (x0.toInt64))) (by rw [e1001]; exact Ar1003.1) (State.isArrayOf_alike hZ.alike Ar1003.2.1) Ar1003.2.2 hin1003 (H1003.at hin1003 rfl) (g := (mkF m 17 #[rv b1, iv 2] [(.int 10), (.ref b2_1)])) rfl rfl (hb hby d10_17) _ kg) ?_
  refine fin (some (dl (x0.toInt64))) X1001 (fun h => absurd h (by decide)) (fun fs hr => retOut X1001 hx hret rfl (Or.inr (Or.inr (Or.inl ⟨rfl, rfl, _, rfl⟩))) (hb hby d10_18) hr) (by decide) (by decide) ?_
  rw [e1001]
  exact ⟨rfl, N0, rfl⟩
theorem pd__I_D : parseMethodDescriptor "(I)D" = some ⟨[.int], some .double⟩ := by decide +kernel
theorem d11_0 : decode prog_8_method_11_code 0 = .ok (.aload_n 0, 1) := by decide +kernel
theorem d11_1 : decode prog_8_method_11_code 1 = .ok (.getfield 21, 3) := by decide +kernel
theorem d11_4 : decode prog_8_method_11_code 4 = .ok (.iload_n 1, 1) := by decide +kernel
theorem d11_5 : decode prog_8_method_11_code 5 = .ok (.bipush 24, 2) := by decide +kernel
theorem d11_7 : decode prog_8_method_11_code 7 = .ok (.iushr, 1) := by decide +kernel
theorem d11_8 : decode prog_8_method_11_code 8 = .ok (.aaload, 1) := by decide +kernel
theorem d11_9 : decode prog_8_method_11_code 9 = .ok (.iload_n 1, 1) := by decide +kernel
theorem d11_10 : decode prog_8_method_11_code 10 = .ok (.ldc 58, 2) := by decide +kernel
theorem d11_12 : decode prog_8_method_11_code 12 = .ok (.iand, 1) := by decide +kernel
theorem d11_13 : decode prog_8_method_11_code 13 = .ok (.iconst 5, 1) := by decide +kernel
theorem d11_14 : decode prog_8_method_11_code 14 = .ok (.imul, 1) := by decide +kernel
theorem d11_15 : decode prog_8_method_11_code 15 = .ok (.iconst 1, 1) := by decide +kernel
theorem d11_16 : decode prog_8_method_11_code 16 = .ok (.iadd, 1) := by decide +kernel
theorem d11_17 : decode prog_8_method_11_code 17 = .ok (.daload, 1) := by decide +kernel
theorem d11_18 : decode prog_8_method_11_code 18 = .ok (.dreturn, 1) := by decide +kernel
theorem ef_11 (m : MethodId) (x0 : Addr) (x1 : Int32) : entryFrame m #[(.ref x0), (.int x1)] 2 = mkF m 0 #[.val (.ref x0), .val (.int x1)] [] := by first | (simp [entryFrame, mkF, argsToLocals, Value.category]; done) | rfl
def Q_rm11_0 (Z : State) (b1 : Addr) (b2_0 : Addr) (k2_0 : ClassId) (b2_1 : Addr) (k2_1 : ClassId) (x0 : Int32) (x1 : Int32) (x2 : Int32) (h0 : Heap) (n0 : Nat) (v : Option Value) (h : Heap) (L : List Loc) : Prop := v = some (dl (x1.toInt64)) ∧ Fr n0 L ∧ h = h0
set_option maxRecDepth 65536 in
set_option maxHeartbeats 40000000 in
theorem rm11_0 (l : Launch) (Z : State) (a0 : Array Value) (hw : ∀ d ∈ tables_1, d.before a0 Z = true) (ws : List Jvm.Cond) (b1 : Addr) (b2_0 : Addr) (k2_0 : ClassId) (b2_1 : Addr) (k2_1 : ClassId) (x0 : Int32) (x1 : Int32) (x2 : Int32) (h0 : Heap) (n0 : Nat) (Z0 : n0 ≤ h0.size) (m0 : Fld Z h0 b1 cF "pages" "[[D" (.ref b2_0)) (m1 : Arv Z h0 b2_0 k2_0 (.array .double) 1 [(.ref b2_1)] .null) (m2 : Arv Z h0 b2_1 k2_1 .double 20 [(dl 1), (dl 2), (dl 3), (dl 0), (dl 0), (dl 4), (dl 5), (dl 6), (dl 0), (dl 0), (dl (x0.toInt64)), (dl (x1.toInt64)), (dl (x2.toInt64)), (dl 0), (dl 0), (dl 0), (dl 0), (dl 0), (dl 0), (dl 0)] (dl 0)) :
    oM l y11 prog_8_method_11_code 2 (some .double) ws (⟨0, 0, 0, 0⟩ : Room) Z h0 #[(.ref b1), (.int 2)] (Q_rm11_0 Z b1 b2_0 k2_0 b2_1 k2_1 x0 x1 x2 h0 n0) := by
  refine own_enter (Q := Q_rm11_0 Z b1 b2_0 k2_0 b2_1 k2_1 x0 x1 x2 h0 n0) (plainFor_of_name pn_com_example_housemartin_housemartin_firm_FirmSlots) ?_
  intro p e s m below meth c s₁ G X0 hx hby hml hZ hown hnm hret e0 go fin
  replace hown : s.vm.findClass cF = some m.cls := hown
  replace hnm : meth.name = "b" := hnm
  replace hml : c.maxLocals = 2 := hml
  rw [ef_11 m b1 _]
  have N0 := Fr.nil n0
  refine go (fun tg kg => XS.aloadN X0.here hx rfl (hb hby d11_0) rfl rfl kg) ?_
  obtain ⟨T1001, X1001, e1001, st1001⟩ := getF X0 hx hZ hown (host := "") (Or.inl (own_w hw 17 rfl)) Via.refl e0 m0 (g := (mkF m 1 #[rv b1, iv 2] [(.ref b1)])) rfl rfl (hb hby d11_1)
  refine go st1001 ?_
  refine go (fun tg kg => XS.iloadN X1001.here hx rfl (hb hby d11_4) rfl kg) ?_
  refine go (fun tg kg => XS.bipush X1001.here hx rfl (hb hby d11_5) kg) ?_
  refine go (fun tg kg => XS.iushr X1001.here hx rfl (hb hby d11_7) rfl kg) ?_
  show G (T1001.setTop (mkF m 8 #[rv b1, iv 2] [(.int (((2 : Int32).toUInt32 >>> ((24 : Int32) &&& 31).toUInt32).toInt32)), (.ref b2_0)]))
  rw [show (((2 : Int32).toUInt32 >>> ((24 : Int32) &&& 31).toUInt32).toInt32) = (0 : Int32) from by decide]
  show G (T1001.setTop (mkF m 8 #[rv b1, iv 2] [(.int 0), (.ref b2_0)]))
  obtain ⟨cl1002, Ar1002, q1002, S1002, M1002, H1002, U1002⟩ := id m1
  have hin1002 : ¬ ((0 : Int32) < 0 ∨ cl1002.slots.size ≤ ((0 : Int32)).toNatClampNeg) := inb_of S1002 ⟨by decide, by decide⟩
  refine go (fun tg kg => X1001.aaload hx (j := (0 : Int32)) (v := (.ref b2_1)) (by rw [e1001]; exact Ar1002.1) (State.isArrayOf_alike hZ.alike Ar1002.2.1) rfl Ar1002.2.2 hin1002 (H1002.at hin1002 rfl) (g := (mkF m 8 #[rv b1, iv 2] [(.int 0), (.ref b2_0)])) rfl rfl (hb hby d11_8) _ kg) ?_
  show G (T1001.setTop (mkF m 9 #[rv b1, iv 2] [(.ref b2_1)]))
  refine go (fun tg kg => XS.iloadN X1001.here hx rfl (hb hby d11_9) rfl kg) ?_
  refine go (fun tg kg => X1001.ldcInt hx hown (mvT hZ (own_w hw 71 rfl)) (g := (mkF m 10 #[rv b1, iv 2] [(.int 2), (.ref b2_1)])) rfl (hb hby d11_10) _ kg) ?_
  refine go (fun tg kg => XS.iand X1001.here hx rfl (hb hby d11_12) rfl kg) ?_
  refine go (fun tg kg => XS.iconst X1001.here hx rfl (hb hby d11_13) kg) ?_
  refine go (fun tg kg => XS.imul X1001.here hx rfl (hb hby d11_14) rfl kg) ?_
  refine go (fun tg kg => XS.iconst X1001.here hx rfl (hb hby d11_15) kg) ?_
  show G (T1001.setTop (mkF m 16 #[rv b1, iv 2] [(.int 1), (.int 10), (.ref b2_1)]))
  refine go (fun tg kg => XS.iadd X1001.here hx rfl (hb hby d11_16) rfl kg) ?_
  obtain ⟨cl1003, Ar1003, q1003, S1003, M1003, H1003, U1003⟩ := id m2
  have hin1003 : ¬ ((11 : Int32) < 0 ∨ cl1003.slots.size ≤ ((11 : Int32)).toNatClampNeg) := inb_of S1003 ⟨by decide, by decide⟩
  refine go (fun tg kg => X1001.daload hx (j := (11 : Int32)) (v := (dl (x1.toInt64))) (by rw [e1001]; exact Ar1003.1) (State.isArrayOf_alike hZ.alike Ar1003.2.1) Ar1003.2.2 hin1003 (H1003.at hin1003 rfl) (g := (mkF m 17 #[rv b1, iv 2] [(.int 11), (.ref b2_1)])) rfl rfl (hb hby d11_17) _ kg) ?_
  refine fin (some (dl (x1.toInt64))) X1001 (fun h => absurd h (by decide)) (fun fs hr => retOut X1001 hx hret rfl (Or.inr (Or.inr (Or.inl ⟨rfl, rfl, _, rfl⟩))) (hb hby d11_18) hr) (by decide) (by decide) ?_
  rw [e1001]
  exact ⟨rfl, N0, rfl⟩
theorem d12_0 : decode prog_8_method_12_code 0 = .ok (.aload_n 0, 1) := by decide +kernel
theorem d12_1 : decode prog_8_method_12_code 1 = .ok (.getfield 21, 3) := by decide +kernel
theorem d12_4 : decode prog_8_method_12_code 4 = .ok (.iload_n 1, 1) := by decide +kernel
theorem d12_5 : decode prog_8_method_12_code 5 = .ok (.bipush 24, 2) := by decide +kernel
theorem d12_7 : decode prog_8_method_12_code 7 = .ok (.iushr, 1) := by decide +kernel
theorem d12_8 : decode prog_8_method_12_code 8 = .ok (.aaload, 1) := by decide +kernel
theorem d12_9 : decode prog_8_method_12_code 9 = .ok (.iload_n 1, 1) := by decide +kernel
theorem d12_10 : decode prog_8_method_12_code 10 = .ok (.ldc 58, 2) := by decide +kernel
theorem d12_12 : decode prog_8_method_12_code 12 = .ok (.iand, 1) := by decide +kernel
theorem d12_13 : decode prog_8_method_12_code 13 = .ok (.iconst 5, 1) := by decide +kernel
theorem d12_14 : decode prog_8_method_12_code 14 = .ok (.imul, 1) := by decide +kernel
theorem d12_15 : decode prog_8_method_12_code 15 = .ok (.iconst 2, 1) := by decide +kernel
theorem d12_16 : decode prog_8_method_12_code 16 = .ok (.iadd, 1) := by decide +kernel
theorem d12_17 : decode prog_8_method_12_code 17 = .ok (.daload, 1) := by decide +kernel
theorem d12_18 : decode prog_8_method_12_code 18 = .ok (.dreturn, 1) := by decide +kernel
theorem ef_12 (m : MethodId) (x0 : Addr) (x1 : Int32) : entryFrame m #[(.ref x0), (.int x1)] 2 = mkF m 0 #[.val (.ref x0), .val (.int x1)] [] := by first | (simp [entryFrame, mkF, argsToLocals, Value.category]; done) | rfl
def Q_rm12_0 (Z : State) (b1 : Addr) (b2_0 : Addr) (k2_0 : ClassId) (b2_1 : Addr) (k2_1 : ClassId) (x0 : Int32) (x1 : Int32) (x2 : Int32) (h0 : Heap) (n0 : Nat) (v : Option Value) (h : Heap) (L : List Loc) : Prop := v = some (dl (x2.toInt64)) ∧ Fr n0 L ∧ h = h0
set_option maxRecDepth 65536 in
set_option maxHeartbeats 40000000 in
theorem rm12_0 (l : Launch) (Z : State) (a0 : Array Value) (hw : ∀ d ∈ tables_1, d.before a0 Z = true) (ws : List Jvm.Cond) (b1 : Addr) (b2_0 : Addr) (k2_0 : ClassId) (b2_1 : Addr) (k2_1 : ClassId) (x0 : Int32) (x1 : Int32) (x2 : Int32) (h0 : Heap) (n0 : Nat) (Z0 : n0 ≤ h0.size) (m0 : Fld Z h0 b1 cF "pages" "[[D" (.ref b2_0)) (m1 : Arv Z h0 b2_0 k2_0 (.array .double) 1 [(.ref b2_1)] .null) (m2 : Arv Z h0 b2_1 k2_1 .double 20 [(dl 1), (dl 2), (dl 3), (dl 0), (dl 0), (dl 4), (dl 5), (dl 6), (dl 0), (dl 0), (dl (x0.toInt64)), (dl (x1.toInt64)), (dl (x2.toInt64)), (dl 0), (dl 0), (dl 0), (dl 0), (dl 0), (dl 0), (dl 0)] (dl 0)) :
    oM l y12 prog_8_method_12_code 2 (some .double) ws (⟨0, 0, 0, 0⟩ : Room) Z h0 #[(.ref b1), (.int 2)] (Q_rm12_0 Z b1 b2_0 k2_0 b2_1 k2_1 x0 x1 x2 h0 n0) := by
  refine own_enter (Q := Q_rm12_0 Z b1 b2_0 k2_0 b2_1 k2_1 x0 x1 x2 h0 n0) (plainFor_of_name pn_com_example_housemartin_housemartin_firm_FirmSlots) ?_
  intro p e s m below meth c s₁ G X0 hx hby hml hZ hown hnm hret e0 go fin
  replace hown : s.vm.findClass cF = some m.cls := hown
  replace hnm : meth.name = "beta" := hnm
  replace hml : c.maxLocals = 2 := hml
  rw [ef_12 m b1 _]
  have N0 := Fr.nil n0
  refine go (fun tg kg => XS.aloadN X0.here hx rfl (hb hby d12_0) rfl rfl kg) ?_
  obtain ⟨T1001, X1001, e1001, st1001⟩ := getF X0 hx hZ hown (host := "") (Or.inl (own_w hw 17 rfl)) Via.refl e0 m0 (g := (mkF m 1 #[rv b1, iv 2] [(.ref b1)])) rfl rfl (hb hby d12_1)
  refine go st1001 ?_
  refine go (fun tg kg => XS.iloadN X1001.here hx rfl (hb hby d12_4) rfl kg) ?_
  refine go (fun tg kg => XS.bipush X1001.here hx rfl (hb hby d12_5) kg) ?_
  refine go (fun tg kg => XS.iushr X1001.here hx rfl (hb hby d12_7) rfl kg) ?_
  show G (T1001.setTop (mkF m 8 #[rv b1, iv 2] [(.int (((2 : Int32).toUInt32 >>> ((24 : Int32) &&& 31).toUInt32).toInt32)), (.ref b2_0)]))
  rw [show (((2 : Int32).toUInt32 >>> ((24 : Int32) &&& 31).toUInt32).toInt32) = (0 : Int32) from by decide]
  show G (T1001.setTop (mkF m 8 #[rv b1, iv 2] [(.int 0), (.ref b2_0)]))
  obtain ⟨cl1002, Ar1002, q1002, S1002, M1002, H1002, U1002⟩ := id m1
  have hin1002 : ¬ ((0 : Int32) < 0 ∨ cl1002.slots.size ≤ ((0 : Int32)).toNatClampNeg) := inb_of S1002 ⟨by decide, by decide⟩
  refine go (fun tg kg => X1001.aaload hx (j := (0 : Int32)) (v := (.ref b2_1)) (by rw [e1001]; exact Ar1002.1) (State.isArrayOf_alike hZ.alike Ar1002.2.1) rfl Ar1002.2.2 hin1002 (H1002.at hin1002 rfl) (g := (mkF m 8 #[rv b1, iv 2] [(.int 0), (.ref b2_0)])) rfl rfl (hb hby d12_8) _ kg) ?_
  show G (T1001.setTop (mkF m 9 #[rv b1, iv 2] [(.ref b2_1)]))
  refine go (fun tg kg => XS.iloadN X1001.here hx rfl (hb hby d12_9) rfl kg) ?_
  refine go (fun tg kg => X1001.ldcInt hx hown (mvT hZ (own_w hw 71 rfl)) (g := (mkF m 10 #[rv b1, iv 2] [(.int 2), (.ref b2_1)])) rfl (hb hby d12_10) _ kg) ?_
  refine go (fun tg kg => XS.iand X1001.here hx rfl (hb hby d12_12) rfl kg) ?_
  refine go (fun tg kg => XS.iconst X1001.here hx rfl (hb hby d12_13) kg) ?_
  refine go (fun tg kg => XS.imul X1001.here hx rfl (hb hby d12_14) rfl kg) ?_
  refine go (fun tg kg => XS.iconst X1001.here hx rfl (hb hby d12_15) kg) ?_
  show G (T1001.setTop (mkF m 16 #[rv b1, iv 2] [(.int 2), (.int 10), (.ref b2_1)]))
  refine go (fun tg kg => XS.iadd X1001.here hx rfl (hb hby d12_16) rfl kg) ?_
  obtain ⟨cl1003, Ar1003, q1003, S1003, M1003, H1003, U1003⟩ := id m2
  have hin1003 : ¬ ((12 : Int32) < 0 ∨ cl1003.slots.size ≤ ((12 : Int32)).toNatClampNeg) := inb_of S1003 ⟨by decide, by decide⟩
  refine go (fun tg kg => X1001.daload hx (j := (12 : Int32)) (v := (dl (x2.toInt64))) (by rw [e1001]; exact Ar1003.1) (State.isArrayOf_alike hZ.alike Ar1003.2.1) Ar1003.2.2 hin1003 (H1003.at hin1003 rfl) (g := (mkF m 17 #[rv b1, iv 2] [(.int 12), (.ref b2_1)])) rfl rfl (hb hby d12_17) _ kg) ?_
  refine fin (some (dl (x2.toInt64))) X1001 (fun h => absurd h (by decide)) (fun fs hr => retOut X1001 hx hret rfl (Or.inr (Or.inr (Or.inl ⟨rfl, rfl, _, rfl⟩))) (hb hby d12_18) hr) (by decide) (by decide) ?_
  rw [e1001]
  exact ⟨rfl, N0, rfl⟩
theorem d13_0 : decode prog_8_method_22_code 0 = .ok (.aload_n 0, 1) := by decide +kernel
theorem d13_1 : decode prog_8_method_22_code 1 = .ok (.getfield 59, 3) := by decide +kernel
theorem d13_4 : decode prog_8_method_22_code 4 = .ok (.ireturn, 1) := by decide +kernel
theorem ef_13 (m : MethodId) (x0 : Addr) : entryFrame m #[(.ref x0)] 1 = mkF m 0 #[.val (.ref x0)] [] := by first | (simp [entryFrame, mkF, argsToLocals, Value.category]; done) | rfl
def Q_rm13_0 (Z : State) (b1 : Addr) (h0 : Heap) (n0 : Nat) (v : Option Value) (h : Heap) (L : List Loc) : Prop := v = some (.int 3) ∧ Fr n0 L ∧ h = h0
set_option maxRecDepth 65536 in
set_option maxHeartbeats 40000000 in
theorem rm13_0 (l : Launch) (Z : State) (a0 : Array Value) (hw : ∀ d ∈ tables_1, d.before a0 Z = true) (ws : List Jvm.Cond) (b1 : Addr) (h0 : Heap) (n0 : Nat) (Z0 : n0 ≤ h0.size) (m0 : Fld Z h0 b1 cF "openFirms" "I" (.int 3)) :
    oM l y13 prog_8_method_22_code 1 (some .int) ws (⟨0, 0, 0, 0⟩ : Room) Z h0 #[(.ref b1)] (Q_rm13_0 Z b1 h0 n0) := by
  refine own_enter (Q := Q_rm13_0 Z b1 h0 n0) (plainFor_of_name pn_com_example_housemartin_housemartin_firm_FirmSlots) ?_
  intro p e s m below meth c s₁ G X0 hx hby hml hZ hown hnm hret e0 go fin
  replace hown : s.vm.findClass cF = some m.cls := hown
  replace hnm : meth.name = "count" := hnm
  replace hml : c.maxLocals = 1 := hml
  rw [ef_13 m b1]
  have N0 := Fr.nil n0
  refine go (fun tg kg => XS.aloadN X0.here hx rfl (hb hby d13_0) rfl rfl kg) ?_
  obtain ⟨T1001, X1001, e1001, st1001⟩ := getF X0 hx hZ hown (host := "") (Or.inl (own_w hw 72 rfl)) Via.refl e0 m0 (g := (mkF m 1 #[rv b1] [(.ref b1)])) rfl rfl (hb hby d13_1)
  refine go st1001 ?_
  refine fin (some (.int 3)) X1001 (fun h => absurd h (by decide)) (fun fs hr => retOut X1001 hx hret rfl (Or.inl ⟨rfl, Or.inl rfl, _, rfl⟩) (hb hby d13_4) hr) (by decide) (by decide) ?_
  rw [e1001]
  exact ⟨rfl, N0, rfl⟩
theorem pd___I : parseMethodDescriptor "()I" = some ⟨[], some .int⟩ := by decide +kernel
def Q_rm7_3 (Z : State) (b1 : Addr) (b2_2 : Addr) (k2_2 : ClassId) (b2_3 : Addr) (k2_3 : ClassId) (x3 : Int32) (b2_0 : Addr) (k2_0 : ClassId) (b2_1 : Addr) (k2_1 : ClassId) (x0 : Int32) (x1 : Int32) (x2 : Int32) (b2_4 : Addr) (b2_9 : Addr) (b2_10 : Addr) (h0 : Heap) (n0 : Nat) (v : Option Value) (h : Heap) (L : List Loc) : Prop := v = some (.int 3) ∧ Fr n0 L ∧ Keep h0 h [b1, b2_2, b2_3, b2_1] ∧ Fld Z h b1 cF "freeSlot" "I" (.int (-1)) ∧ Fld Z h b1 cF "slotsUsed" "I" (.int 4) ∧ Exa Z h b1 cF ∧ Fld Z h b1 cF "ids" "[J" (.ref b2_2) ∧ Fld Z h b1 cF "nextId" "J" (.long 5) ∧ Arv Z h b2_2 k2_2 .long 4 [(.long 1), (.long 2), (.long 3), (.long 4)] (.long 0) ∧ Fld Z h b1 cF "births" "[I" (.ref b2_3) ∧ Arv Z h b2_3 k2_3 .int 4 [(.int 10), (.int 20), (.int x3), (.int 0)] (.int 0) ∧ Fld Z h b1 cF "pages" "[[D" (.ref b2_0) ∧ Arv Z h b2_1 k2_1 .double 20 [(dl 1), (dl 2), (dl 3), (dl 0), (dl 0), (dl 4), (dl 5), (dl 6), (dl 0), (dl 0), (dl (x0.toInt64)), (dl (x1.toInt64)), (dl (x2.toInt64)), (dl 0), (dl 0), (dl 0), (dl 0), (dl 0), (dl 0), (dl 0)] (dl 0) ∧ Fld Z h b1 cF "openFirms" "I" (.int 4) ∧ Fld Z h b1 cF "members" "Lcom/example/housemartin/housemartin/firm/Members;" (.ref b2_4) ∧ Fld Z h b1 cF "changedNow" "[J" (.ref b2_9) ∧ Fld Z h b1 cF "changedBefore" "[J" (.ref b2_10) ∧ Exa Z h b2_1 "[D"
set_option maxRecDepth 65536 in
set_option maxHeartbeats 40000000 in
theorem rm7_3 (l : Launch) (Z : State) (a0 : Array Value) (hw : ∀ d ∈ tables_1, d.before a0 Z = true) (ws : List Jvm.Cond) (b1 : Addr) (b2_2 : Addr) (k2_2 : ClassId) (b2_3 : Addr) (k2_3 : ClassId) (x3 : Int32) (b2_0 : Addr) (k2_0 : ClassId) (b2_1 : Addr) (k2_1 : ClassId) (x0 : Int32) (x1 : Int32) (x2 : Int32) (b2_4 : Addr) (b2_9 : Addr) (b2_10 : Addr) (h0 : Heap) (n0 : Nat) (Z0 : n0 ≤ h0.size) (m0 : Fld Z h0 b1 cF "freeSlot" "I" (.int (-1))) (m1 : Fld Z h0 b1 cF "slotsUsed" "I" (.int 3)) (m2 : Exa Z h0 b1 cF) (m3 : Fld Z h0 b1 cF "ids" "[J" (.ref b2_2)) (m4 : Fld Z h0 b1 cF "nextId" "J" (.long 4)) (m5 : Arv Z h0 b2_2 k2_2 .long 4 [(.long 1), (.long 2), (.long 3), (.long 0)] (.long 0)) (m6 : Fld Z h0 b1 cF "births" "[I" (.ref b2_3)) (m7 : Arv Z h0 b2_3 k2_3 .int 4 [(.int 10), (.int 20), (.int x3), (.int 0)] (.int 0)) (m8 : Fld Z h0 b1 cF "pages" "[[D" (.ref b2_0)) (m9 : Arv Z h0 b2_0 k2_0 (.array .double) 1 [(.ref b2_1)] .null) (m10 : Arv Z h0 b2_1 k2_1 .double 20 [(dl 1), (dl 2), (dl 3), (dl 0), (dl 0), (dl 4), (dl 5), (dl 6), (dl 0), (dl 0), (dl (x0.toInt64)), (dl (x1.toInt64)), (dl (x2.toInt64)), (dl 0), (dl 0), (dl 0), (dl 0), (dl 0), (dl 0), (dl 0)] (dl 0)) (m11 : Fld Z h0 b1 cF "openFirms" "I" (.int 3)) (m12 : Fld Z h0 b1 cF "members" "Lcom/example/housemartin/housemartin/firm/Members;" (.ref b2_4)) (m13 : Fld Z h0 b1 cF "changedNow" "[J" (.ref b2_9)) (m14 : Fld Z h0 b1 cF "changedBefore" "[J" (.ref b2_10)) (m15 : Exa Z h0 b2_1 "[D") (ne_b2_2_b1 : b2_2 ≠ b1) (ne_b2_3_b1 : b2_3 ≠ b1) (ne_b2_3_b2_2 : b2_3 ≠ b2_2) (ne_b2_0_b1 : b2_0 ≠ b1) (ne_b2_0_b2_2 : b2_0 ≠ b2_2) (ne_b2_0_b2_3 : b2_0 ≠ b2_3) (ne_b2_1_b1 : b2_1 ≠ b1) (ne_b2_1_b2_2 : b2_1 ≠ b2_2) (ne_b2_1_b2_3 : b2_1 ≠ b2_3) (gg_b1 : n0 ≤ b1) (gg_b2_2 : n0 ≤ b2_2) (gg_b2_3 : n0 ≤ b2_3) (gg_b2_1 : n0 ≤ b2_1) :
    oM l y7 prog_8_method_2_code 11 (some .int) ws (⟨0, 0, 0, 0⟩ : Room) Z h0 #[(.ref b1), (dl 0), (dl 0), (dl 0), (.int 0)] (Q_rm7_3 Z b1 b2_2 k2_2 b2_3 k2_3 x3 b2_0 k2_0 b2_1 k2_1 x0 x1 x2 b2_4 b2_9 b2_10 h0 n0) := by
  refine own_enter (Q := Q_rm7_3 Z b1 b2_2 k2_2 b2_3 k2_3 x3 b2_0 k2_0 b2_1 k2_1 x0 x1 x2 b2_4 b2_9 b2_10 h0 n0) (plainFor_of_name pn_com_example_housemartin_housemartin_firm_FirmSlots) ?_
  intro p e s m below meth c s₁ G X0 hx hby hml hZ hown hnm hret e0 go fin
  replace hown : s.vm.findClass cF = some m.cls := hown
  replace hnm : meth.name = "open" := hnm
  replace hml : c.maxLocals = 11 := hml
  rw [ef_7 m b1 _ _ _ _]
  have N0 := Fr.nil n0
  refine go (fun tg kg => XS.aloadN X0.here hx rfl (hb hby d7_0) rfl rfl kg) ?_
  obtain ⟨T1001, X1001, e1001, st1001⟩ := getF X0 hx hZ hown (host := "") (Or.inl (own_w hw 10 rfl)) Via.refl e0 m0 (g := (mkF m 1 #[rv b1, dv 0, .second, dv 0, .second, dv 0, .second, iv 0, .unset, .unset, .unset] [(.ref b1)])) rfl rfl (hb hby d7_1)
  refine go st1001 ?_
  refine go (fun tg kg => XS.iconst X1001.here hx rfl (hb hby d7_4) kg) ?_
  refine go (fun tg kg => XS.icmpYes X1001.here hx rfl (pc0 := 5) (pc' := 28) rfl (hb hby d7_5) rfl (teq (by decide)).1 (by decide) (by decide) kg) ?_
  refine go (fun tg kg => XS.aloadN X1001.here hx rfl (hb hby d7_28) rfl rfl kg) ?_
  show G (T1001.setTop (mkF m 29 #[rv b1, dv 0, .second, dv 0, .second, dv 0, .second, iv 0, .unset, .unset, .unset] [(.ref b1)]))
  obtain ⟨T1002, X1002, e1002, st1002⟩ := getF X1001 hx hZ hown (host := "") (Or.inl (own_w hw 69 rfl)) Via.refl e1001 m1 (g := (mkF m 29 #[rv b1, dv 0, .second, dv 0, .second, dv 0, .second, iv 0, .unset, .unset, .unset] [(.ref b1)])) rfl rfl (hb hby d7_29)
  refine go st1002 ?_
  refine go (fun tg kg => XS.istore X1002.here hx rfl (hb hby d7_32) rfl (l' := #[rv b1, dv 0, .second, dv 0, .second, dv 0, .second, iv 0, iv 3, .unset, .unset]) rfl kg) ?_
  refine go (fun tg kg => XS.aloadN X1002.here hx rfl (hb hby d7_34) rfl rfl kg) ?_
  refine go (fun tg kg => XS.dup X1002.here hx rfl (hb hby d7_35) rfl rfl kg) ?_
  obtain ⟨T1003, X1003, e1003, st1003⟩ := getF X1002 hx hZ hown (host := "") (Or.inl (own_w hw 69 rfl)) Via.refl e1002 m1 (g := (mkF m 36 #[rv b1, dv 0, .second, dv 0, .second, dv 0, .second, iv 0, iv 3, .unset, .unset] [(.ref b1), (.ref b1)])) rfl rfl (hb hby d7_36)
  refine go st1003 ?_
  refine go (fun tg kg => XS.iconst X1003.here hx rfl (hb hby d7_39) kg) ?_
  show G (T1003.setTop (mkF m 40 #[rv b1, dv 0, .second, dv 0, .second, dv 0, .second, iv 0, iv 3, .unset, .unset] [(.int 1), (.int 3), (.ref b1)]))
  refine go (fun tg kg => XS.iadd X1003.here hx rfl (hb hby d7_40) rfl kg) ?_
  obtain ⟨T1004, h1004, X1004, e1004, W1004, st1004⟩ := putF X1003 hx hZ hown (host := "") (Or.inl (own_w hw 69 rfl)) Via.refl e1003 m1 m2 (Or.inl (own_w hw 70 rfl)) (own_w hw 2 rfl) (ty := .int) (by decide) rfl rfl (g := (mkF m 41 #[rv b1, dv 0, .second, dv 0, .second, dv 0, .second, iv 0, iv 3, .unset, .unset] [(.int 4), (.ref b1)])) rfl rfl (hb hby d7_41)
  refine go st1004 ?_
  have Fw1004 : Fld Z h1004 b1 cF "slotsUsed" "I" (.int 4) := m1.same W1004
  have N1004 := Fr.snoc X1004 N0 gg_b1
  have K1004 : Keep h0 h1004 [b1, b2_2, b2_3, b2_1] := (Keep.refl h0 [b1, b2_2, b2_3, b2_1]).wr W1004 (Or.inl (List.mem_of_getElem? (i := 0) rfl))
  have Z1004 := Nat.le_trans Z0 (Keep.of_wr W1004).1
  refine go (fun tg kg => XS.aloadN X1004.here hx rfl (hb hby d7_44) rfl rfl kg) ?_
  have Fa1005 := (m2.wr W1004)
  have Fa1006 := (m3.other W1004 (Or.inr (sn_ids_slotsUsed hw)))
  obtain ⟨T1007, X1007, e1007, st1007⟩ := getF X1004 hx hZ hown (host := "") (Or.inl (own_w hw 27 rfl)) Via.refl e1004 Fa1006 (g := (mkF m 45 #[rv b1, dv 0, .second, dv 0, .second, dv 0, .second, iv 0, iv 3, .unset, .unset] [(.ref b1)])) rfl rfl (hb hby d7_45)
  refine go st1007 ?_
  refine go (fun tg kg => XS.iload X1007.here hx rfl (hb hby d7_48) rfl kg) ?_
  refine go (fun tg kg => XS.aloadN X1007.here hx rfl (hb hby d7_50) rfl rfl kg) ?_
  show G (T1007.setTop (mkF m 51 #[rv b1, dv 0, .second, dv 0, .second, dv 0, .second, iv 0, iv 3, .unset, .unset] [(.ref b1), (.int 3), (.ref b2_2)]))
  have Fa1008 := (m4.other W1004 (Or.inr (sn_nextId_slotsUsed hw)))
  obtain ⟨T1009, X1009, e1009, st1009⟩ := getF X1007 hx hZ hown (host := "") (Or.inl (own_w hw 12 rfl)) Via.refl e1007 Fa1008 (g := (mkF m 51 #[rv b1, dv 0, .second, dv 0, .second, dv 0, .second, iv 0, iv 3, .unset, .unset] [(.ref b1), (.int 3), (.ref b2_2)])) rfl rfl (hb hby d7_51)
  refine go st1009 ?_
  have Fa1010 := (m5.other W1004 ne_b2_2_b1)
  obtain ⟨cl1011, Ar1011, q1011, S1011, M1011, H1011, U1011⟩ := id Fa1010
  have hin1011 : ¬ ((3 : Int32) < 0 ∨ cl1011.slots.size ≤ ((3 : Int32)).toNatClampNeg) := inb_of S1011 ⟨by decide, by decide⟩
  obtain ⟨T1011, h1011, X1011, e1011, W1011, st1011⟩ := stJ X1009 hx hZ e1009 Ar1011 (j := (3 : Int32)) hin1011 (g := (mkF m 54 #[rv b1, dv 0, .second, dv 0, .second, dv 0, .second, iv 0, iv 3, .unset, .unset] [(.long 4), (.int 3), (.ref b2_2)])) rfl rfl (hb hby d7_54)
  refine go st1011 ?_
  have V1011 : Arv Z h1011 b2_2 k2_2 .long (4 : Int32) [(.long 1), (.long 2), (.long 3), (.long 4)] (.long 0) := Arv.set Ar1011 q1011 S1011 M1011 H1011 U1011 rfl W1011 3 rfl (Nat.le_of_ble_eq_true rfl)
  have N1011 := Fr.snoc X1011 N1004 gg_b2_2
  have K1011 : Keep h0 h1011 [b1, b2_2, b2_3, b2_1] := K1004.wr W1011 (Or.inl (List.mem_of_getElem? (i := 1) rfl))
  have Z1011 := Nat.le_trans Z1004 (Keep.of_wr W1011).1
  refine go (fun tg kg => XS.aloadN X1011.here hx rfl (hb hby d7_55) rfl rfl kg) ?_
  refine go (fun tg kg => XS.dup X1011.here hx rfl (hb hby d7_56) rfl rfl kg) ?_
  have Fa1012 := (Fa1008.other W1011 (Or.inl (Ne.symm ne_b2_2_b1)))
  obtain ⟨T1013, X1013, e1013, st1013⟩ := getF X1011 hx hZ hown (host := "") (Or.inl (own_w hw 12 rfl)) Via.refl e1011 Fa1012 (g := (mkF m 57 #[rv b1, dv 0, .second, dv 0, .second, dv 0, .second, iv 0, iv 3, .unset, .unset] [(.ref b1), (.ref b1)])) rfl rfl (hb hby d7_57)
  refine go st1013 ?_
  refine go (fun tg kg => XS.lconst X1013.here hx rfl (hb hby d7_60) kg) ?_
  show G (T1013.setTop (mkF m 61 #[rv b1, dv 0, .second, dv 0, .second, dv 0, .second, iv 0, iv 3, .unset, .unset] [(.long 1), (.long 4), (.ref b1)]))
  refine go (fun tg kg => XS.ladd X1013.here hx rfl (hb hby d7_61) rfl kg) ?_
  have Fa1014 := (Fa1005.wr W1011)
  obtain ⟨T1015, h1015, X1015, e1015, W1015, st1015⟩ := putF X1013 hx hZ hown (host := "") (Or.inl (own_w hw 12 rfl)) Via.refl e1013 Fa1012 Fa1014 (Or.inl (own_w hw 13 rfl)) (own_w hw 2 rfl) (ty := .long) (by decide) rfl rfl (g := (mkF m 62 #[rv b1, dv 0, .second, dv 0, .second, dv 0, .second, iv 0, iv 3, .unset, .unset] [(.long 5), (.ref b1)])) rfl rfl (hb hby d7_62)
  refine go st1015 ?_
  have Fw1015 : Fld Z h1015 b1 cF "nextId" "J" (.long 5) := Fa1012.same W1015
  have N1015 := Fr.snoc X1015 N1011 gg_b1
  have K1015 : Keep h0 h1015 [b1, b2_2, b2_3, b2_1] := K1011.wr W1015 (Or.inl (List.mem_of_getElem? (i := 0) rfl))
  have Z1015 := Nat.le_trans Z1011 (Keep.of_wr W1015).1
  refine go (fun tg kg => XS.aloadN X1015.here hx rfl (hb hby d7_65) rfl rfl kg) ?_
  have Fa1016 := (Fa1014.wr W1015)
  have Fa1017 := (((m6.other W1004 (Or.inr (sn_births_slotsUsed hw))).other W1011 (Or.inl (Ne.symm ne_b2_2_b1))).other W1015 (Or.inr (sn_births_nextId hw)))
  obtain ⟨T1018, X1018, e1018, st1018⟩ := getF X1015 hx hZ hown (host := "") (Or.inl (own_w hw 30 rfl)) Via.refl e1015 Fa1017 (g := (mkF m 66 #[rv b1, dv 0, .second, dv 0, .second, dv 0, .second, iv 0, iv 3, .unset, .unset] [(.ref b1)])) rfl rfl (hb hby d7_66)
  refine go st1018 ?_
  refine go (fun tg kg => XS.iload X1018.here hx rfl (hb hby d7_69) rfl kg) ?_
  refine go (fun tg kg => XS.iload X1018.here hx rfl (hb hby d7_71) rfl kg) ?_
  show G (T1018.setTop (mkF m 73 #[rv b1, dv 0, .second, dv 0, .second, dv 0, .second, iv 0, iv 3, .unset, .unset] [(.int 0), (.int 3), (.ref b2_3)]))
  have Fa1019 := (((m7.other W1004 ne_b2_3_b1).other W1011 ne_b2_3_b2_2).other W1015 ne_b2_3_b1)
  obtain ⟨cl1020, Ar1020, q1020, S1020, M1020, H1020, U1020⟩ := id Fa1019
  have hin1020 : ¬ ((3 : Int32) < 0 ∨ cl1020.slots.size ≤ ((3 : Int32)).toNatClampNeg) := inb_of S1020 ⟨by decide, by decide⟩
  obtain ⟨T1020, h1020, X1020, e1020, W1020, st1020⟩ := stI X1018 hx hZ e1018 Ar1020 (j := (3 : Int32)) hin1020 (g := (mkF m 73 #[rv b1, dv 0, .second, dv 0, .second, dv 0, .second, iv 0, iv 3, .unset, .unset] [(.int 0), (.int 3), (.ref b2_3)])) rfl rfl (hb hby d7_73)
  refine go st1020 ?_
  have V1020 : Arv Z h1020 b2_3 k2_3 .int (4 : Int32) [(.int 10), (.int 20), (.int x3), (.int 0)] (.int 0) := Arv.set Ar1020 q1020 S1020 M1020 H1020 U1020 rfl W1020 3 rfl (Nat.le_of_ble_eq_true rfl)
  have N1020 := Fr.snoc X1020 N1015 gg_b2_3
  have K1020 : Keep h0 h1020 [b1, b2_2, b2_3, b2_1] := K1015.wr W1020 (Or.inl (List.mem_of_getElem? (i := 2) rfl))
  have Z1020 := Nat.le_trans Z1015 (Keep.of_wr W1020).1
  refine go (fun tg kg => XS.aloadN X1020.here hx rfl (hb hby d7_74) rfl rfl kg) ?_
  have Fa1021 := (Fa1016.wr W1020)
  have Fa1022 := ((((m8.other W1004 (Or.inr (sn_pages_slotsUsed hw))).other W1011 (Or.inl (Ne.symm ne_b2_2_b1))).other W1015 (Or.inr (sn_pages_nextId hw))).other W1020 (Or.inl (Ne.symm ne_b2_3_b1)))
  obtain ⟨T1023, X1023, e1023, st1023⟩ := getF X1020 hx hZ hown (host := "") (Or.inl (own_w hw 17 rfl)) Via.refl e1020 Fa1022 (g := (mkF m 75 #[rv b1, dv 0, .second, dv 0, .second, dv 0, .second, iv 0, iv 3, .unset, .unset] [(.ref b1)])) rfl rfl (hb hby d7_75)
  refine go st1023 ?_
  refine go (fun tg kg => XS.iload X1023.here hx rfl (hb hby d7_78) rfl kg) ?_
  refine go (fun tg kg => XS.bipush X1023.here hx rfl (hb hby d7_80) kg) ?_
  refine go (fun tg kg => XS.iushr X1023.here hx rfl (hb hby d7_82) rfl kg) ?_
  show G (T1023.setTop (mkF m 83 #[rv b1, dv 0, .second, dv 0, .second, dv 0, .second, iv 0, iv 3, .unset, .unset] [(.int (((3 : Int32).toUInt32 >>> ((24 : Int32) &&& 31).toUInt32).toInt32)), (.ref b2_0)]))
  rw [show (((3 : Int32).toUInt32 >>> ((24 : Int32) &&& 31).toUInt32).toInt32) = (0 : Int32) from by decide]
  show G (T1023.setTop (mkF m 83 #[rv b1, dv 0, .second, dv 0, .second, dv 0, .second, iv 0, iv 3, .unset, .unset] [(.int 0), (.ref b2_0)]))
  have Fa1024 := ((((m9.other W1004 ne_b2_0_b1).other W1011 ne_b2_0_b2_2).other W1015 ne_b2_0_b1).other W1020 ne_b2_0_b2_3)
  obtain ⟨cl1025, Ar1025, q1025, S1025, M1025, H1025, U1025⟩ := id Fa1024
  have hin1025 : ¬ ((0 : Int32) < 0 ∨ cl1025.slots.size ≤ ((0 : Int32)).toNatClampNeg) := inb_of S1025 ⟨by decide, by decide⟩
  refine go (fun tg kg => X1023.aaload hx (j := (0 : Int32)) (v := (.ref b2_1)) (by rw [e1023]; exact Ar1025.1) (State.isArrayOf_alike hZ.alike Ar1025.2.1) rfl Ar1025.2.2 hin1025 (H1025.at hin1025 rfl) (g := (mkF m 83 #[rv b1, dv 0, .second, dv 0, .second, dv 0, .second, iv 0, iv 3, .unset, .unset] [(.int 0), (.ref b2_0)])) rfl rfl (hb hby d7_83) _ kg) ?_
  show G (T1023.setTop (mkF m 84 #[rv b1, dv 0, .second, dv 0, .second, dv 0, .second, iv 0, iv 3, .unset, .unset] [(.ref b2_1)]))
  refine go (fun tg kg => XS.astore X1023.here hx rfl (hb hby d7_84) rfl rfl (l' := #[rv b1, dv 0, .second, dv 0, .second, dv 0, .second, iv 0, iv 3, rv b2_1, .unset]) rfl kg) ?_
  refine go (fun tg kg => XS.iload X1023.here hx rfl (hb hby d7_86) rfl kg) ?_
  refine go (fun tg kg => X1023.ldcInt hx hown (mvT hZ (own_w hw 71 rfl)) (g := (mkF m 88 #[rv b1, dv 0, .second, dv 0, .second, dv 0, .second, iv 0, iv 3, rv b2_1, .unset] [(.int 3)])) rfl (hb hby d7_88) _ kg) ?_
  refine go (fun tg kg => XS.iand X1023.here hx rfl (hb hby d7_90) rfl kg) ?_
  refine go (fun tg kg => XS.iconst X1023.here hx rfl (hb hby d7_91) kg) ?_
  refine go (fun tg kg => XS.imul X1023.here hx rfl (hb hby d7_92) rfl kg) ?_
  show G (T1023.setTop (mkF m 93 #[rv b1, dv 0, .second, dv 0, .second, dv 0, .second, iv 0, iv 3, rv b2_1, .unset] [(.int 15)]))
  refine go (fun tg kg => XS.istore X1023.here hx rfl (hb hby d7_93) rfl (l' := #[rv b1, dv 0, .second, dv 0, .second, dv 0, .second, iv 0, iv 3, rv b2_1, iv 15]) rfl kg) ?_
  refine go (fun tg kg => XS.aload X1023.here hx rfl (hb hby d7_95) rfl rfl kg) ?_
  refine go (fun tg kg => XS.iload X1023.here hx rfl (hb hby d7_97) rfl kg) ?_
  refine go (fun tg kg => XS.iconst X1023.here hx rfl (hb hby d7_99) kg) ?_
  refine go (fun tg kg => XS.iadd X1023.here hx rfl (hb hby d7_100) rfl kg) ?_
  refine go (fun tg kg => XS.dloadN X1023.here hx rfl (hb hby d7_101) rfl kg) ?_
  show G (T1023.setTop (mkF m 102 #[rv b1, dv 0, .second, dv 0, .second, dv 0, .second, iv 0, iv 3, rv b2_1, iv 15] [(dl 0), (.int 15), (.ref b2_1)]))
  have Fa1026 := ((((m10.other W1004 ne_b2_1_b1).other W1011 ne_b2_1_b2_2).other W1015 ne_b2_1_b1).other W1020 ne_b2_1_b2_3)
  obtain ⟨cl1027, Ar1027, q1027, S1027, M1027, H1027, U1027⟩ := id Fa1026
  have hin1027 : ¬ ((15 : Int32) < 0 ∨ cl1027.slots.size ≤ ((15 : Int32)).toNatClampNeg) := inb_of S1027 ⟨by decide, by decide⟩
  obtain ⟨T1027, h1027, X1027, e1027, W1027, st1027⟩ := stD X1023 hx hZ e1023 Ar1027 (j := (15 : Int32)) hin1027 (g := (mkF m 102 #[rv b1, dv 0, .second, dv 0, .second, dv 0, .second, iv 0, iv 3, rv b2_1, iv 15] [(dl 0), (.int 15), (.ref b2_1)])) rfl rfl (hb hby d7_102)
  refine go st1027 ?_
  have V1027 : Arv Z h1027 b2_1 k2_1 .double (20 : Int32) [(dl 1), (dl 2), (dl 3), (dl 0), (dl 0), (dl 4), (dl 5), (dl 6), (dl 0), (dl 0), (dl (x0.toInt64)), (dl (x1.toInt64)), (dl (x2.toInt64)), (dl 0), (dl 0), (dl 0), (dl 0), (dl 0), (dl 0), (dl 0)] (dl 0) := Arv.set Ar1027 q1027 S1027 M1027 H1027 U1027 rfl W1027 15 rfl (Nat.le_of_ble_eq_true rfl)
  have N1027 := Fr.snoc X1027 N1020 gg_b2_1
  have K1027 : Keep h0 h1027 [b1, b2_2, b2_3, b2_1] := K1020.wr W1027 (Or.inl (List.mem_of_getElem? (i := 3) rfl))
  have Z1027 := Nat.le_trans Z1020 (Keep.of_wr W1027).1
  refine go (fun tg kg => XS.aload X1027.here hx rfl (hb hby d7_103) rfl rfl kg) ?_
  refine go (fun tg kg => XS.iload X1027.here hx rfl (hb hby d7_105) rfl kg) ?_
  refine go (fun tg kg => XS.iconst X1027.here hx rfl (hb hby d7_107) kg) ?_
  refine go (fun tg kg => XS.iadd X1027.here hx rfl (hb hby d7_108) rfl kg) ?_
  refine go (fun tg kg => XS.dloadN X1027.here hx rfl (hb hby d7_109) rfl kg) ?_
  show G (T1027.setTop (mkF m 110 #[rv b1, dv 0, .second, dv 0, .second, dv 0, .second, iv 0, iv 3, rv b2_1, iv 15] [(dl 0), (.int 16), (.ref b2_1)]))
  obtain ⟨cl1028, Ar1028, q1028, S1028, M1028, H1028, U1028⟩ := id V1027
  have hin1028 : ¬ ((16 : Int32) < 0 ∨ cl1028.slots.size ≤ ((16 : Int32)).toNatClampNeg) := inb_of S1028 ⟨by decide, by decide⟩
  obtain ⟨T1028, h1028, X1028, e1028, W1028, st1028⟩ := stD X1027 hx hZ e1027 Ar1028 (j := (16 : Int32)) hin1028 (g := (mkF m 110 #[rv b1, dv 0, .second, dv 0, .second, dv 0, .second, iv 0, iv 3, rv b2_1, iv 15] [(dl 0), (.int 16), (.ref b2_1)])) rfl rfl (hb hby d7_110)
  refine go st1028 ?_
  have V1028 : Arv Z h1028 b2_1 k2_1 .double (20 : Int32) [(dl 1), (dl 2), (dl 3), (dl 0), (dl 0), (dl 4), (dl 5), (dl 6), (dl 0), (dl 0), (dl (x0.toInt64)), (dl (x1.toInt64)), (dl (x2.toInt64)), (dl 0), (dl 0), (dl 0), (dl 0), (dl 0), (dl 0), (dl 0)] (dl 0) := Arv.set Ar1028 q1028 S1028 M1028 H1028 U1028 rfl W1028 16 rfl (Nat.le_of_ble_eq_true rfl)
  have N1028 := Fr.snoc X1028 N1027 gg_b2_1
  have K1028 : Keep h0 h1028 [b1, b2_2, b2_3, b2_1] := K1027.wr W1028 (Or.inl (List.mem_of_getElem? (i := 3) rfl))
  have Z1028 := Nat.le_trans Z1027 (Keep.of_wr W1028).1
  refine go (fun tg kg => XS.aload X1028.here hx rfl (hb hby d7_111) rfl rfl kg) ?_
  refine go (fun tg kg => XS.iload X1028.here hx rfl (hb hby d7_113) rfl kg) ?_
  refine go (fun tg kg => XS.iconst X1028.here hx rfl (hb hby d7_115) kg) ?_
  refine go (fun tg kg => XS.iadd X1028.here hx rfl (hb hby d7_116) rfl kg) ?_
  refine go (fun tg kg => XS.dload X1028.here hx rfl (hb hby d7_117) rfl kg) ?_
  show G (T1028.setTop (mkF m 119 #[rv b1, dv 0, .second, dv 0, .second, dv 0, .second, iv 0, iv 3, rv b2_1, iv 15] [(dl 0), (.int 17), (.ref b2_1)]))
  obtain ⟨cl1029, Ar1029, q1029, S1029, M1029, H1029, U1029⟩ := id V1028
  have hin1029 : ¬ ((17 : Int32) < 0 ∨ cl1029.slots.size ≤ ((17 : Int32)).toNatClampNeg) := inb_of S1029 ⟨by decide, by decide⟩
  obtain ⟨T1029, h1029, X1029, e1029, W1029, st1029⟩ := stD X1028 hx hZ e1028 Ar1029 (j := (17 : Int32)) hin1029 (g := (mkF m 119 #[rv b1, dv 0, .second, dv 0, .second, dv 0, .second, iv 0, iv 3, rv b2_1, iv 15] [(dl 0), (.int 17), (.ref b2_1)])) rfl rfl (hb hby d7_119)
  refine go st1029 ?_
  have V1029 : Arv Z h1029 b2_1 k2_1 .double (20 : Int32) [(dl 1), (dl 2), (dl 3), (dl 0), (dl 0), (dl 4), (dl 5), (dl 6), (dl 0), (dl 0), (dl (x0.toInt64)), (dl (x1.toInt64)), (dl (x2.toInt64)), (dl 0), (dl 0), (dl 0), (dl 0), (dl 0), (dl 0), (dl 0)] (dl 0) := Arv.set Ar1029 q1029 S1029 M1029 H1029 U1029 rfl W1029 17 rfl (Nat.le_of_ble_eq_true rfl)
  have N1029 := Fr.snoc X1029 N1028 gg_b2_1
  have K1029 : Keep h0 h1029 [b1, b2_2, b2_3, b2_1] := K1028.wr W1029 (Or.inl (List.mem_of_getElem? (i := 3) rfl))
  have Z1029 := Nat.le_trans Z1028 (Keep.of_wr W1029).1
  refine go (fun tg kg => XS.aload X1029.here hx rfl (hb hby d7_120) rfl rfl kg) ?_
  refine go (fun tg kg => XS.iload X1029.here hx rfl (hb hby d7_122) rfl kg) ?_
  refine go (fun tg kg => XS.iconst X1029.here hx rfl (hb hby d7_124) kg) ?_
  refine go (fun tg kg => XS.iadd X1029.here hx rfl (hb hby d7_125) rfl kg) ?_
  refine go (fun tg kg => XS.dconst0 X1029.here hx rfl (hb hby d7_126) own_d0 kg) ?_
  show G (T1029.setTop (mkF m 127 #[rv b1, dv 0, .second, dv 0, .second, dv 0, .second, iv 0, iv 3, rv b2_1, iv 15] [(dl 0), (.int 18), (.ref b2_1)]))
  obtain ⟨cl1030, Ar1030, q1030, S1030, M1030, H1030, U1030⟩ := id V1029
  have hin1030 : ¬ ((18 : Int32) < 0 ∨ cl1030.slots.size ≤ ((18 : Int32)).toNatClampNeg) := inb_of S1030 ⟨by decide, by decide⟩
  obtain ⟨T1030, h1030, X1030, e1030, W1030, st1030⟩ := stD X1029 hx hZ e1029 Ar1030 (j := (18 : Int32)) hin1030 (g := (mkF m 127 #[rv b1, dv 0, .second, dv 0, .second, dv 0, .second, iv 0, iv 3, rv b2_1, iv 15] [(dl 0), (.int 18), (.ref b2_1)])) rfl rfl (hb hby d7_127)
  refine go st1030 ?_
  have V1030 : Arv Z h1030 b2_1 k2_1 .double (20 : Int32) [(dl 1), (dl 2), (dl 3), (dl 0), (dl 0), (dl 4), (dl 5), (dl 6), (dl 0), (dl 0), (dl (x0.toInt64)), (dl (x1.toInt64)), (dl (x2.toInt64)), (dl 0), (dl 0), (dl 0), (dl 0), (dl 0), (dl 0), (dl 0)] (dl 0) := Arv.set Ar1030 q1030 S1030 M1030 H1030 U1030 rfl W1030 18 rfl (Nat.le_of_ble_eq_true rfl)
  have N1030 := Fr.snoc X1030 N1029 gg_b2_1
  have K1030 : Keep h0 h1030 [b1, b2_2, b2_3, b2_1] := K1029.wr W1030 (Or.inl (List.mem_of_getElem? (i := 3) rfl))
  have Z1030 := Nat.le_trans Z1029 (Keep.of_wr W1030).1
  refine go (fun tg kg => XS.aload X1030.here hx rfl (hb hby d7_128) rfl rfl kg) ?_
  refine go (fun tg kg => XS.iload X1030.here hx rfl (hb hby d7_130) rfl kg) ?_
  refine go (fun tg kg => XS.iconst X1030.here hx rfl (hb hby d7_132) kg) ?_
  refine go (fun tg kg => XS.iadd X1030.here hx rfl (hb hby d7_133) rfl kg) ?_
  refine go (fun tg kg => XS.dconst0 X1030.here hx rfl (hb hby d7_134) own_d0 kg) ?_
  show G (T1030.setTop (mkF m 135 #[rv b1, dv 0, .second, dv 0, .second, dv 0, .second, iv 0, iv 3, rv b2_1, iv 15] [(dl 0), (.int 19), (.ref b2_1)]))
  obtain ⟨cl1031, Ar1031, q1031, S1031, M1031, H1031, U1031⟩ := id V1030
  have hin1031 : ¬ ((19 : Int32) < 0 ∨ cl1031.slots.size ≤ ((19 : Int32)).toNatClampNeg) := inb_of S1031 ⟨by decide, by decide⟩
  obtain ⟨T1031, h1031, X1031, e1031, W1031, st1031⟩ := stD X1030 hx hZ e1030 Ar1031 (j := (19 : Int32)) hin1031 (g := (mkF m 135 #[rv b1, dv 0, .second, dv 0, .second, dv 0, .second, iv 0, iv 3, rv b2_1, iv 15] [(dl 0), (.int 19), (.ref b2_1)])) rfl rfl (hb hby d7_135)
  refine go st1031 ?_
  have V1031 : Arv Z h1031 b2_1 k2_1 .double (20 : Int32) [(dl 1), (dl 2), (dl 3), (dl 0), (dl 0), (dl 4), (dl 5), (dl 6), (dl 0), (dl 0), (dl (x0.toInt64)), (dl (x1.toInt64)), (dl (x2.toInt64)), (dl 0), (dl 0), (dl 0), (dl 0), (dl 0), (dl 0), (dl 0)] (dl 0) := Arv.set Ar1031 q1031 S1031 M1031 H1031 U1031 rfl W1031 19 rfl (Nat.le_of_ble_eq_true rfl)
  have N1031 := Fr.snoc X1031 N1030 gg_b2_1
  have K1031 : Keep h0 h1031 [b1, b2_2, b2_3, b2_1] := K1030.wr W1031 (Or.inl (List.mem_of_getElem? (i := 3) rfl))
  have Z1031 := Nat.le_trans Z1030 (Keep.of_wr W1031).1
  refine go (fun tg kg => XS.aloadN X1031.here hx rfl (hb hby d7_136) rfl rfl kg) ?_
  refine go (fun tg kg => XS.dup X1031.here hx rfl (hb hby d7_137) rfl rfl kg) ?_
  have Fa1032 := (((((Fa1021.wr W1027).wr W1028).wr W1029).wr W1030).wr W1031)
  have Fa1033 := (((((((((m11.other W1004 (Or.inr (sn_openFirms_slotsUsed hw))).other W1011 (Or.inl (Ne.symm ne_b2_2_b1))).other W1015 (Or.inr (sn_openFirms_nextId hw))).other W1020 (Or.inl (Ne.symm ne_b2_3_b1))).other W1027 (Or.inl (Ne.symm ne_b2_1_b1))).other W1028 (Or.inl (Ne.symm ne_b2_1_b1))).other W1029 (Or.inl (Ne.symm ne_b2_1_b1))).other W1030 (Or.inl (Ne.symm ne_b2_1_b1))).other W1031 (Or.inl (Ne.symm ne_b2_1_b1)))
  obtain ⟨T1034, X1034, e1034, st1034⟩ := getF X1031 hx hZ hown (host := "") (Or.inl (own_w hw 72 rfl)) Via.refl e1031 Fa1033 (g := (mkF m 138 #[rv b1, dv 0, .second, dv 0, .second, dv 0, .second, iv 0, iv 3, rv b2_1, iv 15] [(.ref b1), (.ref b1)])) rfl rfl (hb hby d7_138)
  refine go st1034 ?_
  refine go (fun tg kg => XS.iconst X1034.here hx rfl (hb hby d7_141) kg) ?_
  refine go (fun tg kg => XS.iadd X1034.here hx rfl (hb hby d7_142) rfl kg) ?_
  show G (T1034.setTop (mkF m 143 #[rv b1, dv 0, .second, dv 0, .second, dv 0, .second, iv 0, iv 3, rv b2_1, iv 15] [(.int 4), (.ref b1)]))
  obtain ⟨T1035, h1035, X1035, e1035, W1035, st1035⟩ := putF X1034 hx hZ hown (host := "") (Or.inl (own_w hw 72 rfl)) Via.refl e1034 Fa1033 Fa1032 (Or.inl (own_w hw 73 rfl)) (own_w hw 2 rfl) (ty := .int) (by decide) rfl rfl (g := (mkF m 143 #[rv b1, dv 0, .second, dv 0, .second, dv 0, .second, iv 0, iv 3, rv b2_1, iv 15] [(.int 4), (.ref b1)])) rfl rfl (hb hby d7_143)
  refine go st1035 ?_
  have Fw1035 : Fld Z h1035 b1 cF "openFirms" "I" (.int 4) := Fa1033.same W1035
  have N1035 := Fr.snoc X1035 N1031 gg_b1
  have K1035 : Keep h0 h1035 [b1, b2_2, b2_3, b2_1] := K1031.wr W1035 (Or.inl (List.mem_of_getElem? (i := 0) rfl))
  have Z1035 := Nat.le_trans Z1031 (Keep.of_wr W1035).1
  refine go (fun tg kg => XS.iload X1035.here hx rfl (hb hby d7_146) rfl kg) ?_
  refine fin (some (.int 3)) X1035 (fun h => absurd h (by decide)) (fun fs hr => retOut X1035 hx hret rfl (Or.inl ⟨rfl, Or.inl rfl, _, rfl⟩) (hb hby d7_148) hr) (by decide) (by decide) ?_
  rw [e1035]
  have Fa1036 := (Fa1032.wr W1035)
  have Fa1037 := ((((((((((m0.other W1004 (Or.inr (sn_freeSlot_slotsUsed hw))).other W1011 (Or.inl (Ne.symm ne_b2_2_b1))).other W1015 (Or.inr (sn_freeSlot_nextId hw))).other W1020 (Or.inl (Ne.symm ne_b2_3_b1))).other W1027 (Or.inl (Ne.symm ne_b2_1_b1))).other W1028 (Or.inl (Ne.symm ne_b2_1_b1))).other W1029 (Or.inl (Ne.symm ne_b2_1_b1))).other W1030 (Or.inl (Ne.symm ne_b2_1_b1))).other W1031 (Or.inl (Ne.symm ne_b2_1_b1))).other W1035 (Or.inr (sn_freeSlot_openFirms hw)))
  have Fa1038 := (((((((((Fw1004.other W1011 (Or.inl (Ne.symm ne_b2_2_b1))).other W1015 (Or.inr (sn_slotsUsed_nextId hw))).other W1020 (Or.inl (Ne.symm ne_b2_3_b1))).other W1027 (Or.inl (Ne.symm ne_b2_1_b1))).other W1028 (Or.inl (Ne.symm ne_b2_1_b1))).other W1029 (Or.inl (Ne.symm ne_b2_1_b1))).other W1030 (Or.inl (Ne.symm ne_b2_1_b1))).other W1031 (Or.inl (Ne.symm ne_b2_1_b1))).other W1035 (Or.inr (sn_slotsUsed_openFirms hw)))
  have Fa1039 := (((((((((Fa1006.other W1011 (Or.inl (Ne.symm ne_b2_2_b1))).other W1015 (Or.inr (sn_ids_nextId hw))).other W1020 (Or.inl (Ne.symm ne_b2_3_b1))).other W1027 (Or.inl (Ne.symm ne_b2_1_b1))).other W1028 (Or.inl (Ne.symm ne_b2_1_b1))).other W1029 (Or.inl (Ne.symm ne_b2_1_b1))).other W1030 (Or.inl (Ne.symm ne_b2_1_b1))).other W1031 (Or.inl (Ne.symm ne_b2_1_b1))).other W1035 (Or.inr (sn_ids_openFirms hw)))
  have Fa1040 := (((((((Fw1015.other W1020 (Or.inl (Ne.symm ne_b2_3_b1))).other W1027 (Or.inl (Ne.symm ne_b2_1_b1))).other W1028 (Or.inl (Ne.symm ne_b2_1_b1))).other W1029 (Or.inl (Ne.symm ne_b2_1_b1))).other W1030 (Or.inl (Ne.symm ne_b2_1_b1))).other W1031 (Or.inl (Ne.symm ne_b2_1_b1))).other W1035 (Or.inr (sn_nextId_openFirms hw)))
  have Fa1041 := ((((((((V1011.other W1015 ne_b2_2_b1).other W1020 (Ne.symm ne_b2_3_b2_2)).other W1027 (Ne.symm ne_b2_1_b2_2)).other W1028 (Ne.symm ne_b2_1_b2_2)).other W1029 (Ne.symm ne_b2_1_b2_2)).other W1030 (Ne.symm ne_b2_1_b2_2)).other W1031 (Ne.symm ne_b2_1_b2_2)).other W1035 ne_b2_2_b1)
  have Fa1042 := (((((((Fa1017.other W1020 (Or.inl (Ne.symm ne_b2_3_b1))).other W1027 (Or.inl (Ne.symm ne_b2_1_b1))).other W1028 (Or.inl (Ne.symm ne_b2_1_b1))).other W1029 (Or.inl (Ne.symm ne_b2_1_b1))).other W1030 (Or.inl (Ne.symm ne_b2_1_b1))).other W1031 (Or.inl (Ne.symm ne_b2_1_b1))).other W1035 (Or.inr (sn_births_openFirms hw)))
  have Fa1043 := ((((((V1020.other W1027 (Ne.symm ne_b2_1_b2_3)).other W1028 (Ne.symm ne_b2_1_b2_3)).other W1029 (Ne.symm ne_b2_1_b2_3)).other W1030 (Ne.symm ne_b2_1_b2_3)).other W1031 (Ne.symm ne_b2_1_b2_3)).other W1035 ne_b2_3_b1)
  have Fa1044 := ((((((Fa1022.other W1027 (Or.inl (Ne.symm ne_b2_1_b1))).other W1028 (Or.inl (Ne.symm ne_b2_1_b1))).other W1029 (Or.inl (Ne.symm ne_b2_1_b1))).other W1030 (Or.inl (Ne.symm ne_b2_1_b1))).other W1031 (Or.inl (Ne.symm ne_b2_1_b1))).other W1035 (Or.inr (sn_pages_openFirms hw)))
  have Fa1045 := (V1031.other W1035 ne_b2_1_b1)
  have Fa1046 := ((((((((((m12.other W1004 (Or.inr (sn_members_slotsUsed hw))).other W1011 (Or.inl (Ne.symm ne_b2_2_b1))).other W1015 (Or.inr (sn_members_nextId hw))).other W1020 (Or.inl (Ne.symm ne_b2_3_b1))).other W1027 (Or.inl (Ne.symm ne_b2_1_b1))).other W1028 (Or.inl (Ne.symm ne_b2_1_b1))).other W1029 (Or.inl (Ne.symm ne_b2_1_b1))).other W1030 (Or.inl (Ne.symm ne_b2_1_b1))).other W1031 (Or.inl (Ne.symm ne_b2_1_b1))).other W1035 (Or.inr (sn_members_openFirms hw)))
  have Fa1047 := ((((((((((m13.other W1004 (Or.inr (sn_changedNow_slotsUsed hw))).other W1011 (Or.inl (Ne.symm ne_b2_2_b1))).other W1015 (Or.inr (sn_changedNow_nextId hw))).other W1020 (Or.inl (Ne.symm ne_b2_3_b1))).other W1027 (Or.inl (Ne.symm ne_b2_1_b1))).other W1028 (Or.inl (Ne.symm ne_b2_1_b1))).other W1029 (Or.inl (Ne.symm ne_b2_1_b1))).other W1030 (Or.inl (Ne.symm ne_b2_1_b1))).other W1031 (Or.inl (Ne.symm ne_b2_1_b1))).other W1035 (Or.inr (sn_changedNow_openFirms hw)))
  have Fa1048 := ((((((((((m14.other W1004 (Or.inr (sn_changedBefore_slotsUsed hw))).other W1011 (Or.inl (Ne.symm ne_b2_2_b1))).other W1015 (Or.inr (sn_changedBefore_nextId hw))).other W1020 (Or.inl (Ne.symm ne_b2_3_b1))).other W1027 (Or.inl (Ne.symm ne_b2_1_b1))).other W1028 (Or.inl (Ne.symm ne_b2_1_b1))).other W1029 (Or.inl (Ne.symm ne_b2_1_b1))).other W1030 (Or.inl (Ne.symm ne_b2_1_b1))).other W1031 (Or.inl (Ne.symm ne_b2_1_b1))).other W1035 (Or.inr (sn_changedBefore_openFirms hw)))
  have Fa1049 := ((((((((((m15.wr W1004).wr W1011).wr W1015).wr W1020).wr W1027).wr W1028).wr W1029).wr W1030).wr W1031).wr W1035)
  exact ⟨rfl, N1035, K1035, Fa1037, Fa1038, Fa1036, Fa1039, Fa1040, Fa1041, Fa1042, Fa1043, Fa1044, Fa1045, Fw1035, Fa1046, Fa1047, Fa1048, Fa1049⟩
theorem d14_0 : decode prog_8_method_3_code 0 = .ok (.aload_n 0, 1) := by decide +kernel
theorem d14_1 : decode prog_8_method_3_code 1 = .ok (.getfield 45, 3) := by decide +kernel
theorem d14_4 : decode prog_8_method_3_code 4 = .ok (.iload_n 1, 1) := by decide +kernel
theorem d14_5 : decode prog_8_method_3_code 5 = .ok (.iload_n 2, 1) := by decide +kernel
theorem d14_6 : decode prog_8_method_3_code 6 = .ok (.invokevirtual 62, 3) := by decide +kernel
theorem d15_0 : decode prog_10_method_7_code 0 = .ok (.aload_n 0, 1) := by decide +kernel
theorem d15_1 : decode prog_10_method_7_code 1 = .ok (.iload_n 1, 1) := by decide +kernel
theorem d15_2 : decode prog_10_method_7_code 2 = .ok (.invokevirtual 44, 3) := by decide +kernel
theorem d16_0 : decode prog_10_method_2_code 0 = .ok (.aload_n 0, 1) := by decide +kernel
theorem d16_1 : decode prog_10_method_2_code 1 = .ok (.getfield 22, 3) := by decide +kernel
theorem d16_4 : decode prog_10_method_2_code 4 = .ok (.iload_n 1, 1) := by decide +kernel
theorem d16_5 : decode prog_10_method_2_code 5 = .ok (.laload, 1) := by decide +kernel
theorem d16_6 : decode prog_10_method_2_code 6 = .ok (.bipush 32, 2) := by decide +kernel
theorem d16_8 : decode prog_10_method_2_code 8 = .ok (.lushr, 1) := by decide +kernel
theorem d16_9 : decode prog_10_method_2_code 9 = .ok (.l2i, 1) := by decide +kernel
theorem d16_10 : decode prog_10_method_2_code 10 = .ok (.ireturn, 1) := by decide +kernel
theorem ef_16 (m : MethodId) (x0 : Addr) (x1 : Int32) : entryFrame m #[(.ref x0), (.int x1)] 2 = mkF m 0 #[.val (.ref x0), .val (.int x1)] [] := by first | (simp [entryFrame, mkF, argsToLocals, Value.category]; done) | rfl
def Q_rm16_0 (Z : State) (b2_4 : Addr) (b2_7 : Addr) (k2_5 : ClassId) (h0 : Heap) (n0 : Nat) (v : Option Value) (h : Heap) (L : List Loc) : Prop := v = some (.int 0) ∧ Fr n0 L ∧ h = h0
set_option maxRecDepth 65536 in
set_option maxHeartbeats 40000000 in
theorem rm16_0 (l : Launch) (Z : State) (a0 : Array Value) (hw : ∀ d ∈ tables_1, d.before a0 Z = true) (ws : List Jvm.Cond) (b2_4 : Addr) (b2_7 : Addr) (k2_5 : ClassId) (h0 : Heap) (n0 : Nat) (Z0 : n0 ≤ h0.size) (m0 : Fld Z h0 b2_4 cM "heads" "[J" (.ref b2_7)) (m1 : Arv Z h0 b2_7 k2_5 .long 4 [(.long 0), (.long 0), (.long 0), (.long 0)] (.long 0)) :
    oM l y16 prog_10_method_2_code 2 (some .int) ws (⟨0, 0, 0, 0⟩ : Room) Z h0 #[(.ref b2_4), (.int 0)] (Q_rm16_0 Z b2_4 b2_7 k2_5 h0 n0) := by
  refine own_enter (Q := Q_rm16_0 Z b2_4 b2_7 k2_5 h0 n0) (plainFor_of_name pn_com_example_housemartin_housemartin_firm_Members) ?_
  intro p e s m below meth c s₁ G X0 hx hby hml hZ hown hnm hret e0 go fin
  replace hown : s.vm.findClass cM = some m.cls := hown
  replace hnm : meth.name = "count" := hnm
  replace hml : c.maxLocals = 2 := hml
  rw [ef_16 m b2_4 _]
  have N0 := Fr.nil n0
  refine go (fun tg kg => XS.aloadN X0.here hx rfl (hb hby d16_0) rfl rfl kg) ?_
  obtain ⟨T3001, X3001, e3001, st3001⟩ := getF X0 hx hZ hown (host := "") (Or.inl (own_w hw 45 rfl)) Via.refl e0 m0 (g := (mkF m 1 #[rv b2_4, iv 0] [(.ref b2_4)])) rfl rfl (hb hby d16_1)
  refine go st3001 ?_
  refine go (fun tg kg => XS.iloadN X3001.here hx rfl (hb hby d16_4) rfl kg) ?_
  obtain ⟨cl3002, Ar3002, q3002, S3002, M3002, H3002, U3002⟩ := id m1
  have hin3002 : ¬ ((0 : Int32) < 0 ∨ cl3002.slots.size ≤ ((0 : Int32)).toNatClampNeg) := inb_of S3002 ⟨by decide, by decide⟩
  refine go (fun tg kg => X3001.laload hx (j := (0 : Int32)) (v := (.long 0)) (by rw [e3001]; exact Ar3002.1) (State.isArrayOf_alike hZ.alike Ar3002.2.1) Ar3002.2.2 hin3002 (H3002.at hin3002 rfl) (g := (mkF m 5 #[rv b2_4, iv 0] [(.int 0), (.ref b2_7)])) rfl rfl (hb hby d16_5) _ kg) ?_
  refine go (fun tg kg => XS.bipush X3001.here hx rfl (hb hby d16_6) kg) ?_
  show G (T3001.setTop (mkF m 8 #[rv b2_4, iv 0] [(.int 32), (.long 0)]))
  refine go (fun tg kg => XS.lushr X3001.here hx rfl (hb hby d16_8) rfl kg) ?_
  show G (T3001.setTop (mkF m 9 #[rv b2_4, iv 0] [(.long (((0 : Int64).toUInt64 >>> ((32 : Int32) &&& 0x3f).toInt64.toUInt64).toInt64))]))
  rw [show (((0 : Int64).toUInt64 >>> ((32 : Int32) &&& 0x3f).toInt64.toUInt64).toInt64) = (0 : Int64) from by decide]
  show G (T3001.setTop (mkF m 9 #[rv b2_4, iv 0] [(.long 0)]))
  refine go (fun tg kg => XS.l2i X3001.here hx rfl (hb hby d16_9) rfl kg) ?_
  refine fin (some (.int 0)) X3001 (fun h => absurd h (by decide)) (fun fs hr => retOut X3001 hx hret rfl (Or.inl ⟨rfl, Or.inl rfl, _, rfl⟩) (hb hby d16_10) hr) (by decide) (by decide) ?_
  rw [e3001]
  exact ⟨rfl, N0, rfl⟩
theorem d15_5 : decode prog_10_method_7_code 5 = .ok (.istore_n 3, 1) := by decide +kernel
theorem d15_6 : decode prog_10_method_7_code 6 = .ok (.iload_n 2, 1) := by decide +kernel
theorem d15_7 : decode prog_10_method_7_code 7 = .ok (.istore 4, 2) := by decide +kernel
theorem d15_9 : decode prog_10_method_7_code 9 = .ok (.aload_n 0, 1) := by decide +kernel
theorem d15_10 : decode prog_10_method_7_code 10 = .ok (.getfield 18, 3) := by decide +kernel
theorem d15_13 : decode prog_10_method_7_code 13 = .ok (.ifCond .ne 9, 3) := by decide +kernel
theorem d15_22 : decode prog_10_method_7_code 22 = .ok (.iload_n 3, 1) := by decide +kernel
theorem d15_23 : decode prog_10_method_7_code 23 = .ok (.iconst 1, 1) := by decide +kernel
theorem d15_24 : decode prog_10_method_7_code 24 = .ok (.if_icmp .ne 86, 3) := by decide +kernel
theorem d15_110 : decode prog_10_method_7_code 110 = .ok (.iload_n 3, 1) := by decide +kernel
theorem d15_111 : decode prog_10_method_7_code 111 = .ok (.iconst 1, 1) := by decide +kernel
theorem d15_112 : decode prog_10_method_7_code 112 = .ok (.if_icmp .le 197, 3) := by decide +kernel
theorem d15_309 : decode prog_10_method_7_code 309 = .ok (.aload_n 0, 1) := by decide +kernel
theorem d15_310 : decode prog_10_method_7_code 310 = .ok (.iload_n 1, 1) := by decide +kernel
theorem d15_311 : decode prog_10_method_7_code 311 = .ok (.iload_n 3, 1) := by decide +kernel
theorem d15_312 : decode prog_10_method_7_code 312 = .ok (.iconst 1, 1) := by decide +kernel
theorem d15_313 : decode prog_10_method_7_code 313 = .ok (.iadd, 1) := by decide +kernel
theorem d15_314 : decode prog_10_method_7_code 314 = .ok (.iload 4, 2) := by decide +kernel
theorem d15_316 : decode prog_10_method_7_code 316 = .ok (.invokevirtual 69, 3) := by decide +kernel
theorem d17_0 : decode prog_10_method_18_code 0 = .ok (.aload_n 0, 1) := by decide +kernel
theorem d17_1 : decode prog_10_method_18_code 1 = .ok (.getfield 22, 3) := by decide +kernel
theorem d17_4 : decode prog_10_method_18_code 4 = .ok (.iload_n 1, 1) := by decide +kernel
theorem d17_5 : decode prog_10_method_18_code 5 = .ok (.iload_n 2, 1) := by decide +kernel
theorem d17_6 : decode prog_10_method_18_code 6 = .ok (.i2l, 1) := by decide +kernel
theorem d17_7 : decode prog_10_method_18_code 7 = .ok (.bipush 32, 2) := by decide +kernel
theorem d17_9 : decode prog_10_method_18_code 9 = .ok (.lshl, 1) := by decide +kernel
theorem d17_10 : decode prog_10_method_18_code 10 = .ok (.iload_n 3, 1) := by decide +kernel
theorem d17_11 : decode prog_10_method_18_code 11 = .ok (.i2l, 1) := by decide +kernel
theorem d17_12 : decode prog_10_method_18_code 12 = .ok (.ldc2_w 137, 3) := by decide +kernel
theorem d17_15 : decode prog_10_method_18_code 15 = .ok (.land, 1) := by decide +kernel
theorem d17_16 : decode prog_10_method_18_code 16 = .ok (.lor, 1) := by decide +kernel
theorem d17_17 : decode prog_10_method_18_code 17 = .ok (.lastore, 1) := by decide +kernel
theorem d17_18 : decode prog_10_method_18_code 18 = .ok (.return_, 1) := by decide +kernel
theorem ef_17 (m : MethodId) (x0 : Addr) (x1 : Int32) (x2 : Int32) (x3 : Int32) : entryFrame m #[(.ref x0), (.int x1), (.int x2), (.int x3)] 4 = mkF m 0 #[.val (.ref x0), .val (.int x1), .val (.int x2), .val (.int x3)] [] := by first | (simp [entryFrame, mkF, argsToLocals, Value.category]; done) | rfl
def Q_rm17_0 (Z : State) (b2_4 : Addr) (b2_7 : Addr) (k2_5 : ClassId) (h0 : Heap) (n0 : Nat) (v : Option Value) (h : Heap) (L : List Loc) : Prop := v = none ∧ Fr n0 L ∧ Keep h0 h [b2_7] ∧ Arv Z h b2_7 k2_5 .long 4 [(.long 4294967303), (.long 0), (.long 0), (.long 0)] (.long 0)
set_option maxRecDepth 65536 in
set_option maxHeartbeats 40000000 in
theorem rm17_0 (l : Launch) (Z : State) (a0 : Array Value) (hw : ∀ d ∈ tables_1, d.before a0 Z = true) (ws : List Jvm.Cond) (b2_4 : Addr) (b2_7 : Addr) (k2_5 : ClassId) (h0 : Heap) (n0 : Nat) (Z0 : n0 ≤ h0.size) (m0 : Fld Z h0 b2_4 cM "heads" "[J" (.ref b2_7)) (m1 : Arv Z h0 b2_7 k2_5 .long 4 [(.long 0), (.long 0), (.long 0), (.long 0)] (.long 0)) (gg_b2_7 : n0 ≤ b2_7) :
    oM l y17 prog_10_method_18_code 4 none ws (⟨0, 0, 0, 0⟩ : Room) Z h0 #[(.ref b2_4), (.int 0), (.int 1), (.int 7)] (Q_rm17_0 Z b2_4 b2_7 k2_5 h0 n0) := by
  refine own_enter (Q := Q_rm17_0 Z b2_4 b2_7 k2_5 h0 n0) (plainFor_of_name pn_com_example_housemartin_housemartin_firm_Members) ?_
  intro p e s m below meth c s₁ G X0 hx hby hml hZ hown hnm hret e0 go fin
  replace hown : s.vm.findClass cM = some m.cls := hown
  replace hnm : meth.name = "setHead" := hnm
  replace hml : c.maxLocals = 4 := hml
  rw [ef_17 m b2_4 _ _ _]
  have N0 := Fr.nil n0
  refine go (fun tg kg => XS.aloadN X0.here hx rfl (hb hby d17_0) rfl rfl kg) ?_
  obtain ⟨T3001, X3001, e3001, st3001⟩ := getF X0 hx hZ hown (host := "") (Or.inl (own_w hw 45 rfl)) Via.refl e0 m0 (g := (mkF m 1 #[rv b2_4, iv 0, iv 1, iv 7] [(.ref b2_4)])) rfl rfl (hb hby d17_1)
  refine go st3001 ?_
  refine go (fun tg kg => XS.iloadN X3001.here hx rfl (hb hby d17_4) rfl kg) ?_
  refine go (fun tg kg => XS.iloadN X3001.here hx rfl (hb hby d17_5) rfl kg) ?_
  refine go (fun tg kg => XS.i2l X3001.here hx rfl (hb hby d17_6) rfl kg) ?_
  show G (T3001.setTop (mkF m 7 #[rv b2_4, iv 0, iv 1, iv 7] [(.long 1), (.int 0), (.ref b2_7)]))
  refine go (fun tg kg => XS.bipush X3001.here hx rfl (hb hby d17_7) kg) ?_
  refine go (fun tg kg => XS.lshl X3001.here hx rfl (hb hby d17_9) rfl kg) ?_
  show G (T3001.setTop (mkF m 10 #[rv b2_4, iv 0, iv 1, iv 7] [(.long ((1 : Int64) <<< ((32 : Int32) &&& 0x3f).toInt64)), (.int 0), (.ref b2_7)]))
  rw [show ((1 : Int64) <<< ((32 : Int32) &&& 0x3f).toInt64) = (4294967296 : Int64) from by decide]
  show G (T3001.setTop (mkF m 10 #[rv b2_4, iv 0, iv 1, iv 7] [(.long 4294967296), (.int 0), (.ref b2_7)]))
  refine go (fun tg kg => XS.iloadN X3001.here hx rfl (hb hby d17_10) rfl kg) ?_
  refine go (fun tg kg => XS.i2l X3001.here hx rfl (hb hby d17_11) rfl kg) ?_
  refine go (fun tg kg => X3001.ldc2Long hx hown (mvT hZ (own_w hw 127 rfl)) (g := (mkF m 12 #[rv b2_4, iv 0, iv 1, iv 7] [(.long 7), (.long 4294967296), (.int 0), (.ref b2_7)])) rfl (hb hby d17_12) _ kg) ?_
  refine go (fun tg kg => XS.land X3001.here hx rfl (hb hby d17_15) rfl kg) ?_
  refine go (fun tg kg => XS.lor X3001.here hx rfl (hb hby d17_16) rfl kg) ?_
  show G (T3001.setTop (mkF m 17 #[rv b2_4, iv 0, iv 1, iv 7] [(.long ((4294967296 : Int64) ||| (7 : Int64))), (.int 0), (.ref b2_7)]))
  rw [show ((4294967296 : Int64) ||| (7 : Int64)) = (4294967303 : Int64) from by decide]
  show G (T3001.setTop (mkF m 17 #[rv b2_4, iv 0, iv 1, iv 7] [(.long 4294967303), (.int 0), (.ref b2_7)]))
  obtain ⟨cl3002, Ar3002, q3002, S3002, M3002, H3002, U3002⟩ := id m1
  have hin3002 : ¬ ((0 : Int32) < 0 ∨ cl3002.slots.size ≤ ((0 : Int32)).toNatClampNeg) := inb_of S3002 ⟨by decide, by decide⟩
  obtain ⟨T3002, h3002, X3002, e3002, W3002, st3002⟩ := stJ X3001 hx hZ e3001 Ar3002 (j := (0 : Int32)) hin3002 (g := (mkF m 17 #[rv b2_4, iv 0, iv 1, iv 7] [(.long 4294967303), (.int 0), (.ref b2_7)])) rfl rfl (hb hby d17_17)
  refine go st3002 ?_
  have V3002 : Arv Z h3002 b2_7 k2_5 .long (4 : Int32) [(.long 4294967303), (.long 0), (.long 0), (.long 0)] (.long 0) := Arv.set Ar3002 q3002 S3002 M3002 H3002 U3002 rfl W3002 0 rfl (Nat.le_of_ble_eq_true rfl)
  have N3002 := Fr.snoc X3002 N0 gg_b2_7
  have K3002 : Keep h0 h3002 [b2_7] := (Keep.refl h0 [b2_7]).wr W3002 (Or.inl (List.mem_of_getElem? (i := 0) rfl))
  have Z3002 := Nat.le_trans Z0 (Keep.of_wr W3002).1
  show G (T3002.setTop (mkF m 18 #[rv b2_4, iv 0, iv 1, iv 7] []))
  refine fin (none) X3002 (fun h => rfl) (fun fs hr => X3002.returnOut hx hret (hb hby d17_18) hr) (by decide) (by decide) ?_
  rw [e3002]
  exact ⟨rfl, N3002, K3002, V3002⟩
theorem pd__III_V : parseMethodDescriptor "(III)V" = some ⟨[.int, .int, .int], none⟩ := by decide +kernel
theorem d15_319 : decode prog_10_method_7_code 319 = .ok (.aload_n 0, 1) := by decide +kernel
theorem d15_320 : decode prog_10_method_7_code 320 = .ok (.iload_n 3, 1) := by decide +kernel
theorem d15_321 : decode prog_10_method_7_code 321 = .ok (.iload_n 3, 1) := by decide +kernel
theorem d15_322 : decode prog_10_method_7_code 322 = .ok (.iconst 1, 1) := by decide +kernel
theorem d15_323 : decode prog_10_method_7_code 323 = .ok (.iadd, 1) := by decide +kernel
theorem d15_324 : decode prog_10_method_7_code 324 = .ok (.invokevirtual 73, 3) := by decide +kernel
theorem d18_0 : decode prog_10_method_19_code 0 = .ok (.iload_n 2, 1) := by decide +kernel
theorem d18_1 : decode prog_10_method_19_code 1 = .ok (.aload_n 0, 1) := by decide +kernel
theorem d18_2 : decode prog_10_method_19_code 2 = .ok (.getfield 15, 3) := by decide +kernel
theorem d18_5 : decode prog_10_method_19_code 5 = .ok (.arraylength, 1) := by decide +kernel
theorem d18_6 : decode prog_10_method_19_code 6 = .ok (.if_icmp .lt 27, 3) := by decide +kernel
theorem d18_33 : decode prog_10_method_19_code 33 = .ok (.iload_n 1, 1) := by decide +kernel
theorem d18_34 : decode prog_10_method_19_code 34 = .ok (.ifCond .le 13, 3) := by decide +kernel
theorem d18_47 : decode prog_10_method_19_code 47 = .ok (.iload_n 2, 1) := by decide +kernel
theorem d18_48 : decode prog_10_method_19_code 48 = .ok (.ifCond .le 13, 3) := by decide +kernel
theorem d18_51 : decode prog_10_method_19_code 51 = .ok (.aload_n 0, 1) := by decide +kernel
theorem d18_52 : decode prog_10_method_19_code 52 = .ok (.getfield 15, 3) := by decide +kernel
theorem d18_55 : decode prog_10_method_19_code 55 = .ok (.iload_n 2, 1) := by decide +kernel
theorem d18_56 : decode prog_10_method_19_code 56 = .ok (.dup2, 1) := by decide +kernel
theorem d18_57 : decode prog_10_method_19_code 57 = .ok (.iaload, 1) := by decide +kernel
theorem d18_58 : decode prog_10_method_19_code 58 = .ok (.iconst 1, 1) := by decide +kernel
theorem d18_59 : decode prog_10_method_19_code 59 = .ok (.iadd, 1) := by decide +kernel
theorem d18_60 : decode prog_10_method_19_code 60 = .ok (.iastore, 1) := by decide +kernel
theorem d18_61 : decode prog_10_method_19_code 61 = .ok (.aload_n 0, 1) := by decide +kernel
theorem d18_62 : decode prog_10_method_19_code 62 = .ok (.aload_n 0, 1) := by decide +kernel
theorem d18_63 : decode prog_10_method_19_code 63 = .ok (.getfield 51, 3) := by decide +kernel
theorem d18_66 : decode prog_10_method_19_code 66 = .ok (.iload_n 2, 1) := by decide +kernel
theorem d18_67 : decode prog_10_method_19_code 67 = .ok (.invokestatic 26, 3) := by decide +kernel
theorem d5_9 : decode jdk_29_method_65_code 9 = .ok (.iload_n 1, 1) := by decide +kernel
def Q_rm5_1 (Z : State)  (h0 : Heap) (n0 : Nat) (v : Option Value) (h : Heap) (L : List Loc) : Prop := v = some (.int 1) ∧ Fr n0 L ∧ h = h0
set_option maxRecDepth 65536 in
set_option maxHeartbeats 40000000 in
theorem rm5_1 (l : Launch) (Z : State) (a0 : Array Value) (hw : ∀ d ∈ tables_1, d.before a0 Z = true) (ws : List Jvm.Cond)  (h0 : Heap) (n0 : Nat) (Z0 : n0 ≤ h0.size) :
    oM l y5 jdk_29_method_65_code 2 (some .int) ws (⟨0, 0, 0, 0⟩ : Room) Z h0 #[(.int 0), (.int 1)] (Q_rm5_1 Z  h0 n0) := by
  refine own_enter (Q := Q_rm5_1 Z  h0 n0) (Jvm.Free.JP.mathPlain rfl (by decide +kernel)) ?_
  intro p e s m below meth c s₁ G X0 hx hby hml hZ hown hnm hret e0 go fin
  replace hown : s.vm.findClass "java/lang/Math" = some m.cls := hown
  replace hnm : meth.name = "max" := hnm
  replace hml : c.maxLocals = 2 := hml
  rw [ef_5 m _ _]
  have N0 := Fr.nil n0
  refine go (fun tg kg => XS.iloadN X0.here hx rfl (hb hby d5_0) rfl kg) ?_
  refine go (fun tg kg => XS.iloadN X0.here hx rfl (hb hby d5_1) rfl kg) ?_
  refine go (fun tg kg => XS.icmpYes X0.here hx rfl (pc0 := 2) (pc' := 9) rfl (hb hby d5_2) rfl (tlt (by decide)).1 (by decide) (by decide) kg) ?_
  refine go (fun tg kg => XS.iloadN X0.here hx rfl (hb hby d5_9) rfl kg) ?_
  refine fin (some (.int 1)) X0 (fun h => absurd h (by decide)) (fun fs hr => retOut X0 hx hret rfl (Or.inl ⟨rfl, Or.inl rfl, _, rfl⟩) (hb hby d5_10) hr) (by decide) (by decide) ?_
  rw [e0]
  exact ⟨rfl, N0, rfl⟩
theorem d18_70 : decode prog_10_method_19_code 70 = .ok (.putfield 51, 3) := by decide +kernel
theorem d18_73 : decode prog_10_method_19_code 73 = .ok (.aload_n 0, 1) := by decide +kernel
theorem d18_74 : decode prog_10_method_19_code 74 = .ok (.getfield 51, 3) := by decide +kernel
theorem d18_77 : decode prog_10_method_19_code 77 = .ok (.ifCond .le 28, 3) := by decide +kernel
theorem d18_80 : decode prog_10_method_19_code 80 = .ok (.aload_n 0, 1) := by decide +kernel
theorem d18_81 : decode prog_10_method_19_code 81 = .ok (.getfield 15, 3) := by decide +kernel
theorem sn_firmsOfSize_largest {Z : State} {a0 : Array Value} (hw : ∀ d ∈ tables_1, d.before a0 Z = true) : Jvm.RoadKit.slotOf Z "com/example/housemartin/housemartin/firm/Members" "firmsOfSize" "[I" ≠ Jvm.RoadKit.slotOf Z "com/example/housemartin/housemartin/firm/Members" "largest" "I" := slot_ne (Or.inl (own_w hw 42 rfl)) (Or.inl (own_w hw 133 rfl)) (by decide) (t := (.array .int)) (t' := .int) (by decide) (by decide)
theorem d18_84 : decode prog_10_method_19_code 84 = .ok (.aload_n 0, 1) := by decide +kernel
theorem d18_85 : decode prog_10_method_19_code 85 = .ok (.getfield 51, 3) := by decide +kernel
theorem d18_88 : decode prog_10_method_19_code 88 = .ok (.iaload, 1) := by decide +kernel
theorem d18_89 : decode prog_10_method_19_code 89 = .ok (.ifCond .ne 16, 3) := by decide +kernel
theorem d18_105 : decode prog_10_method_19_code 105 = .ok (.return_, 1) := by decide +kernel
theorem ef_18 (m : MethodId) (x0 : Addr) (x1 : Int32) (x2 : Int32) : entryFrame m #[(.ref x0), (.int x1), (.int x2)] 3 = mkF m 0 #[.val (.ref x0), .val (.int x1), .val (.int x2)] [] := by first | (simp [entryFrame, mkF, argsToLocals, Value.category]; done) | rfl
theorem sn_heads_largest {Z : State} {a0 : Array Value} (hw : ∀ d ∈ tables_1, d.before a0 Z = true) : Jvm.RoadKit.slotOf Z "com/example/housemartin/housemartin/firm/Members" "heads" "[J" ≠ Jvm.RoadKit.slotOf Z "com/example/housemartin/housemartin/firm/Members" "largest" "I" := slot_ne (Or.inr (own_w hw 46 rfl)) (Or.inl (own_w hw 133 rfl)) (by decide) (t := (.array .long)) (t' := .int) (by decide) (by decide)
theorem sn_listed_largest {Z : State} {a0 : Array Value} (hw : ∀ d ∈ tables_1, d.before a0 Z = true) : Jvm.RoadKit.slotOf Z "com/example/housemartin/housemartin/firm/Members" "listed" "Z" ≠ Jvm.RoadKit.slotOf Z "com/example/housemartin/housemartin/firm/Members" "largest" "I" := slot_ne (Or.inl (own_w hw 44 rfl)) (Or.inl (own_w hw 133 rfl)) (by decide) (t := .boolean) (t' := .int) (by decide) (by decide)
theorem sn_freeBlocks_largest {Z : State} {a0 : Array Value} (hw : ∀ d ∈ tables_1, d.before a0 Z = true) : Jvm.RoadKit.slotOf Z "com/example/housemartin/housemartin/firm/Members" "freeBlocks" "[I" ≠ Jvm.RoadKit.slotOf Z "com/example/housemartin/housemartin/firm/Members" "largest" "I" := slot_ne (Or.inr (own_w hw 40 rfl)) (Or.inl (own_w hw 133 rfl)) (by decide) (t := (.array .int)) (t' := .int) (by decide) (by decide)
theorem sn_pool_largest {Z : State} {a0 : Array Value} (hw : ∀ d ∈ tables_1, d.before a0 Z = true) : Jvm.RoadKit.slotOf Z "com/example/housemartin/housemartin/firm/Members" "pool" "[I" ≠ Jvm.RoadKit.slotOf Z "com/example/housemartin/housemartin/firm/Members" "largest" "I" := slot_ne (Or.inl (own_w hw 51 rfl)) (Or.inl (own_w hw 133 rfl)) (by decide) (t := (.array .int)) (t' := .int) (by decide) (by decide)
def Q_rm18_0 (Z : State) (b2_4 : Addr) (b2_6 : Addr) (k2_4 : ClassId) (b2_7 : Addr) (b2_5 : Addr) (b2_8 : Addr) (h0 : Heap) (n0 : Nat) (v : Option Value) (h : Heap) (L : List Loc) : Prop := v = none ∧ Fr n0 L ∧ Keep h0 h [b2_6, b2_4] ∧ Fld Z h b2_4 cM "firmsOfSize" "[I" (.ref b2_6) ∧ Arv Z h b2_6 k2_4 .int 2 [(.int 0), (.int 1)] (.int 0) ∧ Fld Z h b2_4 cM "largest" "I" (.int 1) ∧ Exa Z h b2_4 cM ∧ Fld Z h b2_4 cM "heads" "[J" (.ref b2_7) ∧ Fld Z h b2_4 cM "listed" "Z" (.int 1) ∧ Fld Z h b2_4 cM "freeBlocks" "[I" (.ref b2_5) ∧ Fld Z h b2_4 cM "pool" "[I" (.ref b2_8)
set_option maxRecDepth 65536 in
set_option maxHeartbeats 40000000 in
theorem rm18_0 (l : Launch) (Z : State) (a0 : Array Value) (hw : ∀ d ∈ tables_1, d.before a0 Z = true) (ws : List Jvm.Cond) (b2_4 : Addr) (b2_6 : Addr) (k2_4 : ClassId) (b2_7 : Addr) (b2_5 : Addr) (b2_8 : Addr) (h0 : Heap) (n0 : Nat) (Z0 : n0 ≤ h0.size) (m0 : Fld Z h0 b2_4 cM "firmsOfSize" "[I" (.ref b2_6)) (m1 : Arv Z h0 b2_6 k2_4 .int 2 [(.int 0), (.int 0)] (.int 0)) (m2 : Fld Z h0 b2_4 cM "largest" "I" (.int 0)) (m3 : Exa Z h0 b2_4 cM) (m4 : Fld Z h0 b2_4 cM "heads" "[J" (.ref b2_7)) (m5 : Fld Z h0 b2_4 cM "listed" "Z" (.int 1)) (m6 : Fld Z h0 b2_4 cM "freeBlocks" "[I" (.ref b2_5)) (m7 : Fld Z h0 b2_4 cM "pool" "[I" (.ref b2_8)) (ne_b2_4_b2_6 : b2_4 ≠ b2_6) (gg_b2_6 : n0 ≤ b2_6) (gg_b2_4 : n0 ≤ b2_4) :
    oM l y18 prog_10_method_19_code 3 none ws (⟨1, 0, 0, 14⟩ : Room) Z h0 #[(.ref b2_4), (.int 0), (.int 1)] (Q_rm18_0 Z b2_4 b2_6 k2_4 b2_7 b2_5 b2_8 h0 n0) := by
  refine own_enter (Q := Q_rm18_0 Z b2_4 b2_6 k2_4 b2_7 b2_5 b2_8 h0 n0) (plainFor_of_name pn_com_example_housemartin_housemartin_firm_Members) ?_
  intro p e s m below meth c s₁ G X0 hx hby hml hZ hown hnm hret e0 go fin
  replace hown : s.vm.findClass cM = some m.cls := hown
  replace hnm : meth.name = "recount" := hnm
  replace hml : c.maxLocals = 3 := hml
  rw [ef_18 m b2_4 _ _]
  have N0 := Fr.nil n0
  refine go (fun tg kg => XS.iloadN X0.here hx rfl (hb hby d18_0) rfl kg) ?_
  refine go (fun tg kg => XS.aloadN X0.here hx rfl (hb hby d18_1) rfl rfl kg) ?_
  obtain ⟨T3001, X3001, e3001, st3001⟩ := getF X0 hx hZ hown (host := "") (Or.inl (own_w hw 41 rfl)) Via.refl e0 m0 (g := (mkF m 2 #[rv b2_4, iv 0, iv 1] [(.ref b2_4), (.int 1)])) rfl rfl (hb hby d18_2)
  refine go st3001 ?_
  obtain ⟨cl3002, Ar3002, -, S3002, M3002, -, -⟩ := id m1
  refine go (fun tg kg => X3001.arraylength hx (by rw [e3001]; exact Ar3002.1) (State.isArrayOf_alike hZ.alike Ar3002.2.1) (g := (mkF m 5 #[rv b2_4, iv 0, iv 1] [(.ref b2_6), (.int 1)])) rfl rfl (hb hby d18_5) _ kg) ?_
  rw [len_of S3002 M3002]
  refine go (fun tg kg => XS.icmpYes X3001.here hx rfl (pc0 := 6) (pc' := 33) rfl (hb hby d18_6) rfl (tlt (by decide)).1 (by decide) (by decide) kg) ?_
  show G (T3001.setTop (mkF m 33 #[rv b2_4, iv 0, iv 1] []))
  refine go (fun tg kg => XS.iloadN X3001.here hx rfl (hb hby d18_33) rfl kg) ?_
  refine go (fun tg kg => XS.ifYes X3001.here hx rfl (pc0 := 34) (pc' := 47) rfl (hb hby d18_34) rfl ((if0 _ _).trans (flt (by decide)).2.2.2) (by decide) (by decide) kg) ?_
  refine go (fun tg kg => XS.iloadN X3001.here hx rfl (hb hby d18_47) rfl kg) ?_
  refine go (fun tg kg => XS.ifNo X3001.here hx rfl (hb hby d18_48) rfl ((if0 _ _).trans (tlt (by decide)).2.2.2) kg) ?_
  refine go (fun tg kg => XS.aloadN X3001.here hx rfl (hb hby d18_51) rfl rfl kg) ?_
  obtain ⟨T3003, X3003, e3003, st3003⟩ := getF X3001 hx hZ hown (host := "") (Or.inl (own_w hw 41 rfl)) Via.refl e3001 m0 (g := (mkF m 52 #[rv b2_4, iv 0, iv 1] [(.ref b2_4)])) rfl rfl (hb hby d18_52)
  refine go st3003 ?_
  show G (T3003.setTop (mkF m 55 #[rv b2_4, iv 0, iv 1] [(.ref b2_6)]))
  refine go (fun tg kg => XS.iloadN X3003.here hx rfl (hb hby d18_55) rfl kg) ?_
  refine go (fun tg kg => Jvm.Free.XT.dup2 X3003.here hx rfl (hb hby d18_56) rfl rfl rfl kg) ?_
  obtain ⟨cl3004, Ar3004, q3004, S3004, M3004, H3004, U3004⟩ := id m1
  have hin3004 : ¬ ((1 : Int32) < 0 ∨ cl3004.slots.size ≤ ((1 : Int32)).toNatClampNeg) := inb_of S3004 ⟨by decide, by decide⟩
  refine go (fun tg kg => X3003.iaload hx (j := (1 : Int32)) (v := (.int 0)) (by rw [e3003]; exact Ar3004.1) (State.isArrayOf_alike hZ.alike Ar3004.2.1) Ar3004.2.2 hin3004 (H3004.at hin3004 rfl) (g := (mkF m 57 #[rv b2_4, iv 0, iv 1] [(.int 1), (.ref b2_6), (.int 1), (.ref b2_6)])) rfl rfl (hb hby d18_57) _ kg) ?_
  refine go (fun tg kg => XS.iconst X3003.here hx rfl (hb hby d18_58) kg) ?_
  refine go (fun tg kg => XS.iadd X3003.here hx rfl (hb hby d18_59) rfl kg) ?_
  obtain ⟨cl3005, Ar3005, q3005, S3005, M3005, H3005, U3005⟩ := id m1
  have hin3005 : ¬ ((1 : Int32) < 0 ∨ cl3005.slots.size ≤ ((1 : Int32)).toNatClampNeg) := inb_of S3005 ⟨by decide, by decide⟩
  obtain ⟨T3005, h3005, X3005, e3005, W3005, st3005⟩ := stI X3003 hx hZ e3003 Ar3005 (j := (1 : Int32)) hin3005 (g := (mkF m 60 #[rv b2_4, iv 0, iv 1] [(.int 1), (.int 1), (.ref b2_6)])) rfl rfl (hb hby d18_60)
  refine go st3005 ?_
  have V3005 : Arv Z h3005 b2_6 k2_4 .int (2 : Int32) [(.int 0), (.int 1)] (.int 0) := Arv.set Ar3005 q3005 S3005 M3005 H3005 U3005 rfl W3005 1 rfl (Nat.le_of_ble_eq_true rfl)
  have N3005 := Fr.snoc X3005 N0 gg_b2_6
  have K3005 : Keep h0 h3005 [b2_6, b2_4] := (Keep.refl h0 [b2_6, b2_4]).wr W3005 (Or.inl (List.mem_of_getElem? (i := 0) rfl))
  have Z3005 := Nat.le_trans Z0 (Keep.of_wr W3005).1
  show G (T3005.setTop (mkF m 61 #[rv b2_4, iv 0, iv 1] []))
  refine go (fun tg kg => XS.aloadN X3005.here hx rfl (hb hby d18_61) rfl rfl kg) ?_
  refine go (fun tg kg => XS.aloadN X3005.here hx rfl (hb hby d18_62) rfl rfl kg) ?_
  have Fa3006 := (m2.other W3005 (Or.inl ne_b2_4_b2_6))
  obtain ⟨T3007, X3007, e3007, st3007⟩ := getF X3005 hx hZ hown (host := "") (Or.inl (own_w hw 132 rfl)) Via.refl e3005 Fa3006 (g := (mkF m 63 #[rv b2_4, iv 0, iv 1] [(.ref b2_4), (.ref b2_4)])) rfl rfl (hb hby d18_63)
  refine go st3007 ?_
  refine go (fun tg kg => XS.iloadN X3007.here hx rfl (hb hby d18_66) rfl kg) ?_
  obtain ⟨_, _, ⟨T3008, L3008, k3008, n3008⟩, -, X3008, ⟨Lc3008, hQ3008, l3008, y3008, z3008⟩, st3008⟩ := Jvm.LawKit.callS X3007 hx (y := y5) hown (mvT hZ (own_w hw 47 rfl)) (mvT hZ (own_w hw 48 rfl)) (mvT hZ (own_w hw 22 rfl)) (mvT hZ (own_w hw 49 rfl)) (by decide) (backOf (W := 1) (rm5_1 l Z a0 hw []  h3005 n0 Z3005 ) hZ (own_w hw 49 rfl) (own_w hw 22 rfl) (by decide) (by decide)) (g := (mkF m 67 #[rv b2_4, iv 0, iv 1] [(.int 1), (.int 0), (.ref b2_4)])) rfl (by rw [hml]; rfl) (argsL := [(.int 0), (.int 1)]) (rest := [(.ref b2_4)]) (lenOf pd__II_I rfl) rfl (by show 2 * 0 + _ ≤ _; exact Nat.le_of_eq rfl) (hb hby d18_67) (fun _ _ => ⟨rfl, e3007, (by decide : 0 + 0 ≤ _), (by decide : 0 + 0 ≤ _)⟩)
  dsimp only [Pt.U, Pt.locs, Pt.cells, Pt.slots] at X3008 l3008 y3008 z3008 st3008 hQ3008
  subst l3008 y3008 z3008
  obtain ⟨rfl, Nq3008, e3008⟩ := hQ3008
  have N3008 := Fr.app N3005 Nq3008
  refine go st3008 ?_
  have Fa3009 := (m3.wr W3005)
  obtain ⟨T3010, h3010, X3010, e3010, W3010, st3010⟩ := putF X3008 hx hZ hown (host := "") (Or.inl (own_w hw 132 rfl)) Via.refl e3008 Fa3006 Fa3009 (Or.inl (own_w hw 133 rfl)) (own_w hw 33 rfl) (ty := .int) (by decide) rfl rfl (g := (mkF m 70 #[rv b2_4, iv 0, iv 1] [(.int 1), (.ref b2_4)])) rfl rfl (hb hby d18_70)
  refine go st3010 ?_
  have Fw3010 : Fld Z h3010 b2_4 cM "largest" "I" (.int 1) := Fa3006.same W3010
  have N3010 := Fr.snoc X3010 N3008 gg_b2_4
  have K3010 : Keep h0 h3010 [b2_6, b2_4] := K3005.wr W3010 (Or.inl (List.mem_of_getElem? (i := 1) rfl))
  have Z3010 := Nat.le_trans Z3005 (Keep.of_wr W3010).1
  show G (T3010.setTop (mkF m 73 #[rv b2_4, iv 0, iv 1] []))
  refine go (fun tg kg => XS.aloadN X3010.here hx rfl (hb hby d18_73) rfl rfl kg) ?_
  obtain ⟨T3011, X3011, e3011, st3011⟩ := getF X3010 hx hZ hown (host := "") (Or.inl (own_w hw 132 rfl)) Via.refl e3010 Fw3010 (g := (mkF m 74 #[rv b2_4, iv 0, iv 1] [(.ref b2_4)])) rfl rfl (hb hby d18_74)
  refine go st3011 ?_
  refine go (fun tg kg => XS.ifNo X3011.here hx rfl (hb hby d18_77) rfl ((if0 _ _).trans (tlt (by decide)).2.2.2) kg) ?_
  refine go (fun tg kg => XS.aloadN X3011.here hx rfl (hb hby d18_80) rfl rfl kg) ?_
  have Fa3012 := (Fa3009.wr W3010)
  have Fa3013 := ((m0.other W3005 (Or.inl ne_b2_4_b2_6)).other W3010 (Or.inr (sn_firmsOfSize_largest hw)))
  obtain ⟨T3014, X3014, e3014, st3014⟩ := getF X3011 hx hZ hown (host := "") (Or.inl (own_w hw 41 rfl)) Via.refl e3011 Fa3013 (g := (mkF m 81 #[rv b2_4, iv 0, iv 1] [(.ref b2_4)])) rfl rfl (hb hby d18_81)
  refine go st3014 ?_
  refine go (fun tg kg => XS.aloadN X3014.here hx rfl (hb hby d18_84) rfl rfl kg) ?_
  show G (T3014.setTop (mkF m 85 #[rv b2_4, iv 0, iv 1] [(.ref b2_4), (.ref b2_6)]))
  obtain ⟨T3015, X3015, e3015, st3015⟩ := getF X3014 hx hZ hown (host := "") (Or.inl (own_w hw 132 rfl)) Via.refl e3014 Fw3010 (g := (mkF m 85 #[rv b2_4, iv 0, iv 1] [(.ref b2_4), (.ref b2_6)])) rfl rfl (hb hby d18_85)
  refine go st3015 ?_
  have Fa3016 := (V3005.other W3010 (Ne.symm ne_b2_4_b2_6))
  obtain ⟨cl3017, Ar3017, q3017, S3017, M3017, H3017, U3017⟩ := id Fa3016
  have hin3017 : ¬ ((1 : Int32) < 0 ∨ cl3017.slots.size ≤ ((1 : Int32)).toNatClampNeg) := inb_of S3017 ⟨by decide, by decide⟩
  refine go (fun tg kg => X3015.iaload hx (j := (1 : Int32)) (v := (.int 1)) (by rw [e3015]; exact Ar3017.1) (State.isArrayOf_alike hZ.alike Ar3017.2.1) Ar3017.2.2 hin3017 (H3017.at hin3017 rfl) (g := (mkF m 88 #[rv b2_4, iv 0, iv 1] [(.int 1), (.ref b2_6)])) rfl rfl (hb hby d18_88) _ kg) ?_
  refine go (fun tg kg => XS.ifYes X3015.here hx rfl (pc0 := 89) (pc' := 105) rfl (hb hby d18_89) rfl ((if0 _ _).trans (feq (by decide)).2) (by decide) (by decide) kg) ?_
  refine fin (none) X3015 (fun h => rfl) (fun fs hr => X3015.returnOut hx hret (hb hby d18_105) hr) (by decide) (by decide) ?_
  rw [e3015]
  have Fa3018 := ((m4.other W3005 (Or.inl ne_b2_4_b2_6)).other W3010 (Or.inr (sn_heads_largest hw)))
  have Fa3019 := ((m5.other W3005 (Or.inl ne_b2_4_b2_6)).other W3010 (Or.inr (sn_listed_largest hw)))
  have Fa3020 := ((m6.other W3005 (Or.inl ne_b2_4_b2_6)).other W3010 (Or.inr (sn_freeBlocks_largest hw)))
  have Fa3021 := ((m7.other W3005 (Or.inl ne_b2_4_b2_6)).other W3010 (Or.inr (sn_pool_largest hw)))
  exact ⟨rfl, N3010, K3010, Fa3013, Fa3016, Fw3010, Fa3012, Fa3018, Fa3019, Fa3020, Fa3021⟩
theorem pd__II_V : parseMethodDescriptor "(II)V" = some ⟨[.int, .int], none⟩ := by decide +kernel
theorem d15_327 : decode prog_10_method_7_code 327 = .ok (.return_, 1) := by decide +kernel
theorem ef_15 (m : MethodId) (x0 : Addr) (x1 : Int32) (x2 : Int32) : entryFrame m #[(.ref x0), (.int x1), (.int x2)] 8 = mkF m 0 #[.val (.ref x0), .val (.int x1), .val (.int x2), .unset, .unset, .unset, .unset, .unset] [] := by first | (simp [entryFrame, mkF, argsToLocals, Value.category]; done) | rfl
def Q_rm15_0 (Z : State) (b2_4 : Addr) (b2_7 : Addr) (k2_5 : ClassId) (b2_6 : Addr) (k2_4 : ClassId) (b2_5 : Addr) (b2_8 : Addr) (h0 : Heap) (n0 : Nat) (v : Option Value) (h : Heap) (L : List Loc) : Prop := v = none ∧ Fr n0 L ∧ Keep h0 h [b2_7, b2_6, b2_4] ∧ Exa Z h b2_4 cM ∧ Fld Z h b2_4 cM "heads" "[J" (.ref b2_7) ∧ Arv Z h b2_7 k2_5 .long 4 [(.long 4294967303), (.long 0), (.long 0), (.long 0)] (.long 0) ∧ Fld Z h b2_4 cM "listed" "Z" (.int 1) ∧ Fld Z h b2_4 cM "firmsOfSize" "[I" (.ref b2_6) ∧ Arv Z h b2_6 k2_4 .int 2 [(.int 0), (.int 1)] (.int 0) ∧ Fld Z h b2_4 cM "largest" "I" (.int 1) ∧ Fld Z h b2_4 cM "freeBlocks" "[I" (.ref b2_5) ∧ Fld Z h b2_4 cM "pool" "[I" (.ref b2_8)
set_option maxRecDepth 65536 in
set_option maxHeartbeats 40000000 in
theorem rm15_0 (l : Launch) (Z : State) (a0 : Array Value) (hw : ∀ d ∈ tables_1, d.before a0 Z = true) (ws : List Jvm.Cond) (b2_4 : Addr) (b2_7 : Addr) (k2_5 : ClassId) (b2_6 : Addr) (k2_4 : ClassId) (b2_5 : Addr) (b2_8 : Addr) (h0 : Heap) (n0 : Nat) (Z0 : n0 ≤ h0.size) (m0 : Exa Z h0 b2_4 cM) (m1 : Fld Z h0 b2_4 cM "heads" "[J" (.ref b2_7)) (m2 : Arv Z h0 b2_7 k2_5 .long 4 [(.long 0), (.long 0), (.long 0), (.long 0)] (.long 0)) (m3 : Fld Z h0 b2_4 cM "listed" "Z" (.int 1)) (m4 : Fld Z h0 b2_4 cM "firmsOfSize" "[I" (.ref b2_6)) (m5 : Arv Z h0 b2_6 k2_4 .int 2 [(.int 0), (.int 0)] (.int 0)) (m6 : Fld Z h0 b2_4 cM "largest" "I" (.int 0)) (m7 : Fld Z h0 b2_4 cM "freeBlocks" "[I" (.ref b2_5)) (m8 : Fld Z h0 b2_4 cM "pool" "[I" (.ref b2_8)) (ne_b2_4_b2_7 : b2_4 ≠ b2_7) (ne_b2_6_b2_7 : b2_6 ≠ b2_7) (ne_b2_4_b2_6 : b2_4 ≠ b2_6) (gg_b2_7 : n0 ≤ b2_7) (gg_b2_6 : n0 ≤ b2_6) (gg_b2_4 : n0 ≤ b2_4) :
    oM l y15 prog_10_method_7_code 8 none ws (⟨2, 0, 0, 28⟩ : Room) Z h0 #[(.ref b2_4), (.int 0), (.int 7)] (Q_rm15_0 Z b2_4 b2_7 k2_5 b2_6 k2_4 b2_5 b2_8 h0 n0) := by
  refine own_enter (Q := Q_rm15_0 Z b2_4 b2_7 k2_5 b2_6 k2_4 b2_5 b2_8 h0 n0) (plainFor_of_name pn_com_example_housemartin_housemartin_firm_Members) ?_
  intro p e s m below meth c s₁ G X0 hx hby hml hZ hown hnm hret e0 go fin
  replace hown : s.vm.findClass cM = some m.cls := hown
  replace hnm : meth.name = "add" := hnm
  replace hml : c.maxLocals = 8 := hml
  rw [ef_15 m b2_4 _ _]
  have N0 := Fr.nil n0
  refine go (fun tg kg => XS.aloadN X0.here hx rfl (hb hby d15_0) rfl rfl kg) ?_
  refine go (fun tg kg => XS.iloadN X0.here hx rfl (hb hby d15_1) rfl kg) ?_
  obtain ⟨cq2001, kq2001, q2001a, q2001b, q2001c⟩ := isOf hZ e0 m0
  obtain ⟨_, _, ⟨T2001, L2001, k2001, n2001⟩, -, X2001, ⟨Lc2001, hQ2001, l2001, y2001, z2001⟩, st2001⟩ := X0.virtualBack hx (y := y16) (z := y16) hown (mvT hZ (own_w hw 118 rfl)) (mvT hZ (own_w hw 119 rfl)) (notFace_of_selects (args := #[]) (mvT hZ (own_w hw 121 rfl))) (mvT hZ (own_w hw 121 rfl)) (mvT hZ (own_w hw 120 rfl)) (by decide) (backOf (W := 0) (rm16_0 l Z a0 hw [] b2_4 b2_7 k2_5 h0 n0 Z0 m1 m2) hZ (own_w hw 122 rfl) (own_w hw 34 rfl) (by decide) (by decide)) q2001a q2001c (g := (mkF m 2 #[rv b2_4, iv 0, iv 7, .unset, .unset, .unset, .unset, .unset] [(.int 0), (.ref b2_4)])) rfl (by rw [hml]; rfl) (Steps.refl _) (argsL := [(.int 0)]) (rest := []) (lenOf pd__I_I rfl) rfl (by show 2 * 0 + _ ≤ _; exact Nat.le_of_eq rfl) (hb hby d15_2) (fun _ _ => ⟨rfl, e0, (by decide : 0 + 0 ≤ _), (by decide : 0 + 0 ≤ _)⟩)
  dsimp only [Pt.U, Pt.locs, Pt.cells, Pt.slots] at X2001 l2001 y2001 z2001 st2001 hQ2001
  subst l2001 y2001 z2001
  obtain ⟨rfl, Nq2001, e2001⟩ := hQ2001
  have N2001 := Fr.app N0 Nq2001
  refine go (fun tg kg => st2001.trans kg) ?_
  refine go (fun tg kg => XS.istoreN X2001.here hx rfl (hb hby d15_5) rfl (l' := #[rv b2_4, iv 0, iv 7, iv 0, .unset, .unset, .unset, .unset]) rfl kg) ?_
  refine go (fun tg kg => XS.iloadN X2001.here hx rfl (hb hby d15_6) rfl kg) ?_
  show G (T2001.setTop (mkF m 7 #[rv b2_4, iv 0, iv 7, iv 0, .unset, .unset, .unset, .unset] [(.int 7)]))
  refine go (fun tg kg => XS.istore X2001.here hx rfl (hb hby d15_7) rfl (l' := #[rv b2_4, iv 0, iv 7, iv 0, iv 7, .unset, .unset, .unset]) rfl kg) ?_
  refine go (fun tg kg => XS.aloadN X2001.here hx rfl (hb hby d15_9) rfl rfl kg) ?_
  obtain ⟨T2002, X2002, e2002, st2002⟩ := getF X2001 hx hZ hown (host := "") (Or.inl (own_w hw 43 rfl)) Via.refl e2001 m3 (g := (mkF m 10 #[rv b2_4, iv 0, iv 7, iv 0, iv 7, .unset, .unset, .unset] [(.ref b2_4)])) rfl rfl (hb hby d15_10)
  refine go st2002 ?_
  refine go (fun tg kg => XS.ifYes X2002.here hx rfl (pc0 := 13) (pc' := 22) rfl (hb hby d15_13) rfl ((if0 _ _).trans (feq (by decide)).2) (by decide) (by decide) kg) ?_
  refine go (fun tg kg => XS.iloadN X2002.here hx rfl (hb hby d15_22) rfl kg) ?_
  refine go (fun tg kg => XS.iconst X2002.here hx rfl (hb hby d15_23) kg) ?_
  show G (T2002.setTop (mkF m 24 #[rv b2_4, iv 0, iv 7, iv 0, iv 7, .unset, .unset, .unset] [(.int 1), (.int 0)]))
  refine go (fun tg kg => XS.icmpYes X2002.here hx rfl (pc0 := 24) (pc' := 110) rfl (hb hby d15_24) rfl (feq (by decide)).2 (by decide) (by decide) kg) ?_
  refine go (fun tg kg => XS.iloadN X2002.here hx rfl (hb hby d15_110) rfl kg) ?_
  refine go (fun tg kg => XS.iconst X2002.here hx rfl (hb hby d15_111) kg) ?_
  refine go (fun tg kg => XS.icmpYes X2002.here hx rfl (pc0 := 112) (pc' := 309) rfl (hb hby d15_112) rfl (flt (by decide)).2.2.2 (by decide) (by decide) kg) ?_
  refine go (fun tg kg => XS.aloadN X2002.here hx rfl (hb hby d15_309) rfl rfl kg) ?_
  refine go (fun tg kg => XS.iloadN X2002.here hx rfl (hb hby d15_310) rfl kg) ?_
  show G (T2002.setTop (mkF m 311 #[rv b2_4, iv 0, iv 7, iv 0, iv 7, .unset, .unset, .unset] [(.int 0), (.ref b2_4)]))
  refine go (fun tg kg => XS.iloadN X2002.here hx rfl (hb hby d15_311) rfl kg) ?_
  refine go (fun tg kg => XS.iconst X2002.here hx rfl (hb hby d15_312) kg) ?_
  refine go (fun tg kg => XS.iadd X2002.here hx rfl (hb hby d15_313) rfl kg) ?_
  refine go (fun tg kg => XS.iload X2002.here hx rfl (hb hby d15_314) rfl kg) ?_
  obtain ⟨cq2003, q2003, q2003'⟩ := m0.cell
  obtain ⟨_, _, ⟨T2003, L2003, k2003, n2003⟩, -, X2003, ⟨Lc2003, hQ2003, l2003, y2003, z2003⟩, st2003⟩ := X2002.privateBack hx (y := y17) hown (mvT hZ (own_w hw 123 rfl)) (mvT hZ (own_w hw 124 rfl)) (own_selp hZ (own_w hw 33 rfl) (own_w hw 125 rfl) (own_w hw 124 rfl) (by decide)) (Cond.privateMethod_at (mvP hZ (own_w hw 125 rfl) (args := #[]))) (mvT hZ (own_w hw 126 rfl)) (by decide) (backOf (W := 0) (rm17_0 l Z a0 hw [] b2_4 b2_7 k2_5 h0 n0 Z0 m1 m2 gg_b2_7) hZ (own_w hw 126 rfl) (own_w hw 34 rfl) (by decide) (by decide)) (g := (mkF m 316 #[rv b2_4, iv 0, iv 7, iv 0, iv 7, .unset, .unset, .unset] [(.int 7), (.int 1), (.int 0), (.ref b2_4)])) rfl (by rw [hml]; rfl) (Steps.refl _) (a := b2_4) (by rw [e2002]; exact q2003) q2003' (argsL := [(.int 0), (.int 1), (.int 7)]) (rest := []) (lenOf pd__III_V rfl) rfl (by show 2 * 0 + _ ≤ _; exact Nat.le_of_eq rfl) (hb hby d15_316) (fun _ _ => ⟨rfl, e2002, (by decide : 0 + 0 ≤ _), (by decide : 0 + 0 ≤ _)⟩)
  dsimp only [Pt.U, Pt.locs, Pt.cells, Pt.slots] at X2003 l2003 y2003 z2003 st2003 hQ2003
  subst l2003 y2003 z2003
  obtain ⟨rfl, Nq2003, K2003, Gf2003_0⟩ := hQ2003
  have Kk2003 : Keep h0 T2003.heap [b2_7, b2_6, b2_4] := (Keep.refl h0 [b2_7, b2_6, b2_4]).trans K2003 (allS (Or.inl (List.mem_of_getElem? (i := 0) rfl)) all0)
  have Z2003 := Nat.le_trans Z0 K2003.1
  have N2003 := Fr.app N2001 Nq2003
  refine go (fun tg kg => st2003.trans kg) ?_
  refine go (fun tg kg => XS.aloadN X2003.here hx rfl (hb hby d15_319) rfl rfl kg) ?_
  show G (T2003.setTop (mkF m 320 #[rv b2_4, iv 0, iv 7, iv 0, iv 7, .unset, .unset, .unset] [(.ref b2_4)]))
  refine go (fun tg kg => XS.iloadN X2003.here hx rfl (hb hby d15_320) rfl kg) ?_
  refine go (fun tg kg => XS.iloadN X2003.here hx rfl (hb hby d15_321) rfl kg) ?_
  refine go (fun tg kg => XS.iconst X2003.here hx rfl (hb hby d15_322) kg) ?_
  refine go (fun tg kg => XS.iadd X2003.here hx rfl (hb hby d15_323) rfl kg) ?_
  have Fa2004 := (m0.keep K2003)
  have Fa2005 := (m4.keep K2003 (ninS ne_b2_4_b2_7 nin0))
  have Fa2006 := (m5.keep K2003 (ninS ne_b2_6_b2_7 nin0))
  have Fa2007 := (m6.keep K2003 (ninS ne_b2_4_b2_7 nin0))
  have Fa2008 := (m1.keep K2003 (ninS ne_b2_4_b2_7 nin0))
  have Fa2009 := (m3.keep K2003 (ninS ne_b2_4_b2_7 nin0))
  have Fa2010 := (m7.keep K2003 (ninS ne_b2_4_b2_7 nin0))
  have Fa2011 := (m8.keep K2003 (ninS ne_b2_4_b2_7 nin0))
  obtain ⟨cq2012, q2012, q2012'⟩ := Fa2004.cell
  obtain ⟨_, _, ⟨T2012, L2012, k2012, n2012⟩, -, X2012, ⟨Lc2012, hQ2012, l2012, y2012, z2012⟩, st2012⟩ := X2003.privateBack hx (y := y18) hown (mvT hZ (own_w hw 128 rfl)) (mvT hZ (own_w hw 129 rfl)) (own_selp hZ (own_w hw 33 rfl) (own_w hw 130 rfl) (own_w hw 129 rfl) (by decide)) (Cond.privateMethod_at (mvP hZ (own_w hw 130 rfl) (args := #[]))) (mvT hZ (own_w hw 131 rfl)) (by decide) (backOf (W := 0) (rm18_0 l Z a0 hw [] b2_4 b2_6 k2_4 b2_7 b2_5 b2_8 T2003.heap n0 Z2003 Fa2005 Fa2006 Fa2007 Fa2004 Fa2008 Fa2009 Fa2010 Fa2011 ne_b2_4_b2_6 gg_b2_6 gg_b2_4) hZ (own_w hw 131 rfl) (own_w hw 34 rfl) (by decide) (by decide)) (g := (mkF m 324 #[rv b2_4, iv 0, iv 7, iv 0, iv 7, .unset, .unset, .unset] [(.int 1), (.int 0), (.ref b2_4)])) rfl (by rw [hml]; rfl) (Steps.refl _) (a := b2_4) q2012 q2012' (argsL := [(.int 0), (.int 1)]) (rest := []) (lenOf pd__II_V rfl) rfl (by show 2 * 0 + _ ≤ _; exact Nat.le_of_eq rfl) (hb hby d15_324) (fun _ _ => ⟨rfl, rfl, (by decide : 0 + 0 ≤ _), (by decide : 0 + 0 ≤ _)⟩)
  dsimp only [Pt.U, Pt.locs, Pt.cells, Pt.slots] at X2012 l2012 y2012 z2012 st2012 hQ2012
  subst l2012 y2012 z2012
  obtain ⟨rfl, Nq2012, K2012, Gf2012_0, Gf2012_1, Gf2012_2, Gf2012_3, Gf2012_4, Gf2012_5, Gf2012_6, Gf2012_7⟩ := hQ2012
  have Kk2012 : Keep h0 T2012.heap [b2_7, b2_6, b2_4] := Kk2003.trans K2012 (allS (Or.inl (List.mem_of_getElem? (i := 1) rfl)) (allS (Or.inl (List.mem_of_getElem? (i := 2) rfl)) all0))
  have Z2012 := Nat.le_trans Z2003 K2012.1
  have N2012 := Fr.app N2003 Nq2012
  refine go (fun tg kg => st2012.trans kg) ?_
  refine fin (none) X2012 (fun h => rfl) (fun fs hr => X2012.returnOut hx hret (hb hby d15_327) hr) (by decide) (by decide) ?_
  have Fa2013 := (Gf2003_0.keep K2012 (ninS (Ne.symm ne_b2_6_b2_7) (ninS (Ne.symm ne_b2_4_b2_7) nin0)))
  exact ⟨rfl, N2012, Kk2012, Gf2012_3, Gf2012_4, Fa2013, Gf2012_5, Gf2012_0, Gf2012_1, Gf2012_2, Gf2012_6, Gf2012_7⟩
theorem d14_9 : decode prog_8_method_3_code 9 = .ok (.aload_n 0, 1) := by decide +kernel
theorem d14_10 : decode prog_8_method_3_code 10 = .ok (.iload_n 1, 1) := by decide +kernel
theorem d14_11 : decode prog_8_method_3_code 11 = .ok (.dload_n 3, 1) := by decide +kernel
theorem d14_12 : decode prog_8_method_3_code 12 = .ok (.invokevirtual 66, 3) := by decide +kernel
theorem d19_0 : decode prog_8_method_25_code 0 = .ok (.aload_n 0, 1) := by decide +kernel
theorem d19_1 : decode prog_8_method_25_code 1 = .ok (.iload_n 1, 1) := by decide +kernel
theorem d19_2 : decode prog_8_method_25_code 2 = .ok (.invokevirtual 121, 3) := by decide +kernel
theorem d20_0 : decode prog_8_method_26_code 0 = .ok (.aload_n 0, 1) := by decide +kernel
theorem d20_1 : decode prog_8_method_26_code 1 = .ok (.getfield 49, 3) := by decide +kernel
theorem d20_4 : decode prog_8_method_26_code 4 = .ok (.iload_n 1, 1) := by decide +kernel
theorem d20_5 : decode prog_8_method_26_code 5 = .ok (.bipush 6, 2) := by decide +kernel
theorem d20_7 : decode prog_8_method_26_code 7 = .ok (.iushr, 1) := by decide +kernel
theorem d20_8 : decode prog_8_method_26_code 8 = .ok (.dup2, 1) := by decide +kernel
theorem d20_9 : decode prog_8_method_26_code 9 = .ok (.laload, 1) := by decide +kernel
theorem d20_10 : decode prog_8_method_26_code 10 = .ok (.lconst 1, 1) := by decide +kernel
theorem d20_11 : decode prog_8_method_26_code 11 = .ok (.iload_n 1, 1) := by decide +kernel
theorem d20_12 : decode prog_8_method_26_code 12 = .ok (.lshl, 1) := by decide +kernel
theorem d20_13 : decode prog_8_method_26_code 13 = .ok (.lor, 1) := by decide +kernel
theorem d20_14 : decode prog_8_method_26_code 14 = .ok (.lastore, 1) := by decide +kernel
theorem d20_15 : decode prog_8_method_26_code 15 = .ok (.return_, 1) := by decide +kernel
theorem ef_20 (m : MethodId) (x0 : Addr) (x1 : Int32) : entryFrame m #[(.ref x0), (.int x1)] 2 = mkF m 0 #[.val (.ref x0), .val (.int x1)] [] := by first | (simp [entryFrame, mkF, argsToLocals, Value.category]; done) | rfl
def Q_rm20_0 (Z : State) (b1 : Addr) (b2_9 : Addr) (k2_7 : ClassId) (h0 : Heap) (n0 : Nat) (v : Option Value) (h : Heap) (L : List Loc) : Prop := v = none ∧ Fr n0 L ∧ Keep h0 h [b2_9] ∧ Arv Z h b2_9 k2_7 .long 1 [(.long 1)] (.long 0)
set_option maxRecDepth 65536 in
set_option maxHeartbeats 40000000 in
theorem rm20_0 (l : Launch) (Z : State) (a0 : Array Value) (hw : ∀ d ∈ tables_1, d.before a0 Z = true) (ws : List Jvm.Cond) (b1 : Addr) (b2_9 : Addr) (k2_7 : ClassId) (h0 : Heap) (n0 : Nat) (Z0 : n0 ≤ h0.size) (m0 : Fld Z h0 b1 cF "changedNow" "[J" (.ref b2_9)) (m1 : Arv Z h0 b2_9 k2_7 .long 1 [(.long 0)] (.long 0)) (gg_b2_9 : n0 ≤ b2_9) :
    oM l y20 prog_8_method_26_code 2 none ws (⟨0, 0, 0, 0⟩ : Room) Z h0 #[(.ref b1), (.int 0)] (Q_rm20_0 Z b1 b2_9 k2_7 h0 n0) := by
  refine own_enter (Q := Q_rm20_0 Z b1 b2_9 k2_7 h0 n0) (plainFor_of_name pn_com_example_housemartin_housemartin_firm_FirmSlots) ?_
  intro p e s m below meth c s₁ G X0 hx hby hml hZ hown hnm hret e0 go fin
  replace hown : s.vm.findClass cF = some m.cls := hown
  replace hnm : meth.name = "markChanged" := hnm
  replace hml : c.maxLocals = 2 := hml
  rw [ef_20 m b1 _]
  have N0 := Fr.nil n0
  refine go (fun tg kg => XS.aloadN X0.here hx rfl (hb hby d20_0) rfl rfl kg) ?_
  obtain ⟨T3001, X3001, e3001, st3001⟩ := getF X0 hx hZ hown (host := "") (Or.inl (own_w hw 58 rfl)) Via.refl e0 m0 (g := (mkF m 1 #[rv b1, iv 0] [(.ref b1)])) rfl rfl (hb hby d20_1)
  refine go st3001 ?_
  refine go (fun tg kg => XS.iloadN X3001.here hx rfl (hb hby d20_4) rfl kg) ?_
  refine go (fun tg kg => XS.bipush X3001.here hx rfl (hb hby d20_5) kg) ?_
  refine go (fun tg kg => XS.iushr X3001.here hx rfl (hb hby d20_7) rfl kg) ?_
  show G (T3001.setTop (mkF m 8 #[rv b1, iv 0] [(.int (((0 : Int32).toUInt32 >>> ((6 : Int32) &&& 31).toUInt32).toInt32)), (.ref b2_9)]))
  rw [show (((0 : Int32).toUInt32 >>> ((6 : Int32) &&& 31).toUInt32).toInt32) = (0 : Int32) from by decide]
  show G (T3001.setTop (mkF m 8 #[rv b1, iv 0] [(.int 0), (.ref b2_9)]))
  refine go (fun tg kg => Jvm.Free.XT.dup2 X3001.here hx rfl (hb hby d20_8) rfl rfl rfl kg) ?_
  show G (T3001.setTop (mkF m 9 #[rv b1, iv 0] [(.int 0), (.ref b2_9), (.int 0), (.ref b2_9)]))
  obtain ⟨cl3002, Ar3002, q3002, S3002, M3002, H3002, U3002⟩ := id m1
  have hin3002 : ¬ ((0 : Int32) < 0 ∨ cl3002.slots.size ≤ ((0 : Int32)).toNatClampNeg) := inb_of S3002 ⟨by decide, by decide⟩
  refine go (fun tg kg => X3001.laload hx (j := (0 : Int32)) (v := (.long 0)) (by rw [e3001]; exact Ar3002.1) (State.isArrayOf_alike hZ.alike Ar3002.2.1) Ar3002.2.2 hin3002 (H3002.at hin3002 rfl) (g := (mkF m 9 #[rv b1, iv 0] [(.int 0), (.ref b2_9), (.int 0), (.ref b2_9)])) rfl rfl (hb hby d20_9) _ kg) ?_
  refine go (fun tg kg => XS.lconst X3001.here hx rfl (hb hby d20_10) kg) ?_
  refine go (fun tg kg => XS.iloadN X3001.here hx rfl (hb hby d20_11) rfl kg) ?_
  refine go (fun tg kg => XS.lshl X3001.here hx rfl (hb hby d20_12) rfl kg) ?_
  show G (T3001.setTop (mkF m 13 #[rv b1, iv 0] [(.long ((1 : Int64) <<< ((0 : Int32) &&& 0x3f).toInt64)), (.long 0), (.int 0), (.ref b2_9)]))
  rw [show ((1 : Int64) <<< ((0 : Int32) &&& 0x3f).toInt64) = (1 : Int64) from by decide]
  show G (T3001.setTop (mkF m 13 #[rv b1, iv 0] [(.long 1), (.long 0), (.int 0), (.ref b2_9)]))
  refine go (fun tg kg => XS.lor X3001.here hx rfl (hb hby d20_13) rfl kg) ?_
  show G (T3001.setTop (mkF m 14 #[rv b1, iv 0] [(.long ((0 : Int64) ||| (1 : Int64))), (.int 0), (.ref b2_9)]))
  rw [show ((0 : Int64) ||| (1 : Int64)) = (1 : Int64) from by decide]
  show G (T3001.setTop (mkF m 14 #[rv b1, iv 0] [(.long 1), (.int 0), (.ref b2_9)]))
  obtain ⟨cl3003, Ar3003, q3003, S3003, M3003, H3003, U3003⟩ := id m1
  have hin3003 : ¬ ((0 : Int32) < 0 ∨ cl3003.slots.size ≤ ((0 : Int32)).toNatClampNeg) := inb_of S3003 ⟨by decide, by decide⟩
  obtain ⟨T3003, h3003, X3003, e3003, W3003, st3003⟩ := stJ X3001 hx hZ e3001 Ar3003 (j := (0 : Int32)) hin3003 (g := (mkF m 14 #[rv b1, iv 0] [(.long 1), (.int 0), (.ref b2_9)])) rfl rfl (hb hby d20_14)
  refine go st3003 ?_
  have V3003 : Arv Z h3003 b2_9 k2_7 .long (1 : Int32) [(.long 1)] (.long 0) := Arv.set Ar3003 q3003 S3003 M3003 H3003 U3003 rfl W3003 0 rfl (Nat.le_of_ble_eq_true rfl)
  have N3003 := Fr.snoc X3003 N0 gg_b2_9
  have K3003 : Keep h0 h3003 [b2_9] := (Keep.refl h0 [b2_9]).wr W3003 (Or.inl (List.mem_of_getElem? (i := 0) rfl))
  have Z3003 := Nat.le_trans Z0 (Keep.of_wr W3003).1
  refine fin (none) X3003 (fun h => rfl) (fun fs hr => X3003.returnOut hx hret (hb hby d20_15) hr) (by decide) (by decide) ?_
  rw [e3003]
  exact ⟨rfl, N3003, K3003, V3003⟩
theorem d19_5 : decode prog_8_method_25_code 5 = .ok (.aload_n 0, 1) := by decide +kernel
theorem d19_6 : decode prog_8_method_25_code 6 = .ok (.getfield 21, 3) := by decide +kernel
theorem d19_9 : decode prog_8_method_25_code 9 = .ok (.iload_n 1, 1) := by decide +kernel
theorem d19_10 : decode prog_8_method_25_code 10 = .ok (.bipush 24, 2) := by decide +kernel
theorem d19_12 : decode prog_8_method_25_code 12 = .ok (.iushr, 1) := by decide +kernel
theorem d19_13 : decode prog_8_method_25_code 13 = .ok (.aaload, 1) := by decide +kernel
theorem d19_14 : decode prog_8_method_25_code 14 = .ok (.astore 4, 2) := by decide +kernel
theorem d19_16 : decode prog_8_method_25_code 16 = .ok (.iload_n 1, 1) := by decide +kernel
theorem d19_17 : decode prog_8_method_25_code 17 = .ok (.ldc 58, 2) := by decide +kernel
theorem d19_19 : decode prog_8_method_25_code 19 = .ok (.iand, 1) := by decide +kernel
theorem d19_20 : decode prog_8_method_25_code 20 = .ok (.iconst 5, 1) := by decide +kernel
theorem d19_21 : decode prog_8_method_25_code 21 = .ok (.imul, 1) := by decide +kernel
theorem d19_22 : decode prog_8_method_25_code 22 = .ok (.istore 5, 2) := by decide +kernel
theorem d19_24 : decode prog_8_method_25_code 24 = .ok (.aload 4, 2) := by decide +kernel
theorem d19_26 : decode prog_8_method_25_code 26 = .ok (.iload 5, 2) := by decide +kernel
theorem d19_28 : decode prog_8_method_25_code 28 = .ok (.iconst 3, 1) := by decide +kernel
theorem d19_29 : decode prog_8_method_25_code 29 = .ok (.iadd, 1) := by decide +kernel
theorem d19_30 : decode prog_8_method_25_code 30 = .ok (.daload, 1) := by decide +kernel
theorem d19_31 : decode prog_8_method_25_code 31 = .ok (.dstore 6, 2) := by decide +kernel
theorem d19_33 : decode prog_8_method_25_code 33 = .ok (.dload 6, 2) := by decide +kernel
theorem d19_35 : decode prog_8_method_25_code 35 = .ok (.dload_n 2, 1) := by decide +kernel
theorem d19_36 : decode prog_8_method_25_code 36 = .ok (.dadd, 1) := by decide +kernel
theorem d19_37 : decode prog_8_method_25_code 37 = .ok (.dstore 8, 2) := by decide +kernel
theorem d19_39 : decode prog_8_method_25_code 39 = .ok (.aload 4, 2) := by decide +kernel
theorem d19_41 : decode prog_8_method_25_code 41 = .ok (.iload 5, 2) := by decide +kernel
theorem d19_43 : decode prog_8_method_25_code 43 = .ok (.iconst 4, 1) := by decide +kernel
theorem d19_44 : decode prog_8_method_25_code 44 = .ok (.iadd, 1) := by decide +kernel
theorem d19_45 : decode prog_8_method_25_code 45 = .ok (.daload, 1) := by decide +kernel
theorem d19_46 : decode prog_8_method_25_code 46 = .ok (.dload 6, 2) := by decide +kernel
theorem d19_48 : decode prog_8_method_25_code 48 = .ok (.dload_n 2, 1) := by decide +kernel
theorem d19_49 : decode prog_8_method_25_code 49 = .ok (.dload 8, 2) := by decide +kernel
theorem d19_51 : decode prog_8_method_25_code 51 = .ok (.invokestatic 124, 3) := by decide +kernel
theorem d21_0 : decode prog_8_method_27_code 0 = .ok (.dload 4, 2) := by decide +kernel
theorem d21_2 : decode prog_8_method_27_code 2 = .ok (.dload_n 0, 1) := by decide +kernel
theorem d21_3 : decode prog_8_method_27_code 3 = .ok (.dsub, 1) := by decide +kernel
theorem d21_4 : decode prog_8_method_27_code 4 = .ok (.dstore 6, 2) := by decide +kernel
theorem d21_6 : decode prog_8_method_27_code 6 = .ok (.dload 4, 2) := by decide +kernel
theorem d21_8 : decode prog_8_method_27_code 8 = .ok (.dload 6, 2) := by decide +kernel
theorem d21_10 : decode prog_8_method_27_code 10 = .ok (.dsub, 1) := by decide +kernel
theorem d21_11 : decode prog_8_method_27_code 11 = .ok (.dstore 8, 2) := by decide +kernel
theorem d21_13 : decode prog_8_method_27_code 13 = .ok (.dload_n 0, 1) := by decide +kernel
theorem d21_14 : decode prog_8_method_27_code 14 = .ok (.dload 8, 2) := by decide +kernel
theorem d21_16 : decode prog_8_method_27_code 16 = .ok (.dsub, 1) := by decide +kernel
theorem d21_17 : decode prog_8_method_27_code 17 = .ok (.dload_n 2, 1) := by decide +kernel
theorem d21_18 : decode prog_8_method_27_code 18 = .ok (.dload 6, 2) := by decide +kernel
theorem d21_20 : decode prog_8_method_27_code 20 = .ok (.dsub, 1) := by decide +kernel
theorem d21_21 : decode prog_8_method_27_code 21 = .ok (.dadd, 1) := by decide +kernel
theorem d21_22 : decode prog_8_method_27_code 22 = .ok (.dreturn, 1) := by decide +kernel
theorem ef_21 (m : MethodId) (x0 : UInt64) (x1 : UInt64) (x2 : UInt64) : entryFrame m #[(.double x0), (.double x1), (.double x2)] 10 = mkF m 0 #[.val (.double x0), .second, .val (.double x1), .second, .val (.double x2), .second, .unset, .unset, .unset, .unset] [] := by first | (simp [entryFrame, mkF, argsToLocals, Value.category]; done) | rfl
def Q_rm21_0 (Z : State)  (h0 : Heap) (n0 : Nat) (v : Option Value) (h : Heap) (L : List Loc) : Prop := v = some (dl 0) ∧ Fr n0 L ∧ h = h0
set_option maxRecDepth 65536 in
set_option maxHeartbeats 40000000 in
theorem rm21_0 (l : Launch) (Z : State) (a0 : Array Value) (hw : ∀ d ∈ tables_1, d.before a0 Z = true) (ws : List Jvm.Cond)  (h0 : Heap) (n0 : Nat) (Z0 : n0 ≤ h0.size) :
    oM l y21 prog_8_method_27_code 10 (some .double) ws (⟨0, 0, 0, 0⟩ : Room) Z h0 #[(dl 0), (dl 1), (dl 1)] (Q_rm21_0 Z  h0 n0) := by
  refine own_enter (Q := Q_rm21_0 Z  h0 n0) (plainFor_of_name pn_com_example_housemartin_housemartin_firm_FirmSlots) ?_
  intro p e s m below meth c s₁ G X0 hx hby hml hZ hown hnm hret e0 go fin
  replace hown : s.vm.findClass cF = some m.cls := hown
  replace hnm : meth.name = "roundingError" := hnm
  replace hml : c.maxLocals = 10 := hml
  rw [ef_21 m _ _ _]
  have N0 := Fr.nil n0
  refine go (fun tg kg => XS.dload X0.here hx rfl (hb hby d21_0) rfl kg) ?_
  refine go (fun tg kg => XS.dloadN X0.here hx rfl (hb hby d21_2) rfl kg) ?_
  refine go (fun tg kg => XS.dsubS X0.here hx rfl (hb hby d21_3) rfl (nn_w (own_dsub (a := 1) (b := 0) (c := 1) (by decide) (by decide) (by decide))) (own_dsub (a := 1) (b := 0) (c := 1) (by decide) (by decide) (by decide)) kg) ?_
  refine go (fun tg kg => XS.dstore X0.here hx rfl (hb hby d21_4) rfl (l' := #[dv 0, .second, dv 1, .second, dv 1, .second, dv 1, .second, .unset, .unset]) rfl kg) ?_
  refine go (fun tg kg => XS.dload X0.here hx rfl (hb hby d21_6) rfl kg) ?_
  show G (s₁.setTop (mkF m 8 #[dv 0, .second, dv 1, .second, dv 1, .second, dv 1, .second, .unset, .unset] [(dl 1)]))
  refine go (fun tg kg => XS.dload X0.here hx rfl (hb hby d21_8) rfl kg) ?_
  refine go (fun tg kg => XS.dsubS X0.here hx rfl (hb hby d21_10) rfl (nn_w (own_dsub (a := 1) (b := 1) (c := 0) (by decide) (by decide) (by decide))) (own_dsub (a := 1) (b := 1) (c := 0) (by decide) (by decide) (by decide)) kg) ?_
  refine go (fun tg kg => XS.dstore X0.here hx rfl (hb hby d21_11) rfl (l' := #[dv 0, .second, dv 1, .second, dv 1, .second, dv 1, .second, dv 0, .second]) rfl kg) ?_
  refine go (fun tg kg => XS.dloadN X0.here hx rfl (hb hby d21_13) rfl kg) ?_
  refine go (fun tg kg => XS.dload X0.here hx rfl (hb hby d21_14) rfl kg) ?_
  refine go (fun tg kg => XS.dsubS X0.here hx rfl (hb hby d21_16) rfl (nn_w (own_dsub (a := 0) (b := 0) (c := 0) (by decide) (by decide) (by decide))) (own_dsub (a := 0) (b := 0) (c := 0) (by decide) (by decide) (by decide)) kg) ?_
  show G (s₁.setTop (mkF m 17 #[dv 0, .second, dv 1, .second, dv 1, .second, dv 1, .second, dv 0, .second] [(dl 0)]))
  refine go (fun tg kg => XS.dloadN X0.here hx rfl (hb hby d21_17) rfl kg) ?_
  refine go (fun tg kg => XS.dload X0.here hx rfl (hb hby d21_18) rfl kg) ?_
  refine go (fun tg kg => XS.dsubS X0.here hx rfl (hb hby d21_20) rfl (nn_w (own_dsub (a := 1) (b := 1) (c := 0) (by decide) (by decide) (by decide))) (own_dsub (a := 1) (b := 1) (c := 0) (by decide) (by decide) (by decide)) kg) ?_
  refine go (fun tg kg => XS.daddS X0.here hx rfl (hb hby d21_21) rfl (nn_w (own_dadd (a := 0) (b := 0) (c := 0) (by decide) (by decide) (by decide))) (own_dadd (a := 0) (b := 0) (c := 0) (by decide) (by decide) (by decide)) kg) ?_
  refine fin (some (dl 0)) X0 (fun h => absurd h (by decide)) (fun fs hr => retOut X0 hx hret rfl (Or.inr (Or.inr (Or.inl ⟨rfl, rfl, _, rfl⟩))) (hb hby d21_22) hr) (by decide) (by decide) ?_
  rw [e0]
  exact ⟨rfl, N0, rfl⟩
theorem pd__DDD_D : parseMethodDescriptor "(DDD)D" = some ⟨[.double, .double, .double], some .double⟩ := by decide +kernel
theorem d19_54 : decode prog_8_method_25_code 54 = .ok (.dadd, 1) := by decide +kernel
theorem d19_55 : decode prog_8_method_25_code 55 = .ok (.dstore 10, 2) := by decide +kernel
theorem d19_57 : decode prog_8_method_25_code 57 = .ok (.dload 8, 2) := by decide +kernel
theorem d19_59 : decode prog_8_method_25_code 59 = .ok (.dload 10, 2) := by decide +kernel
theorem d19_61 : decode prog_8_method_25_code 61 = .ok (.dadd, 1) := by decide +kernel
theorem d19_62 : decode prog_8_method_25_code 62 = .ok (.dstore 12, 2) := by decide +kernel
theorem d19_64 : decode prog_8_method_25_code 64 = .ok (.aload 4, 2) := by decide +kernel
theorem d19_66 : decode prog_8_method_25_code 66 = .ok (.iload 5, 2) := by decide +kernel
theorem d19_68 : decode prog_8_method_25_code 68 = .ok (.iconst 4, 1) := by decide +kernel
theorem d19_69 : decode prog_8_method_25_code 69 = .ok (.iadd, 1) := by decide +kernel
theorem d19_70 : decode prog_8_method_25_code 70 = .ok (.dload 8, 2) := by decide +kernel
theorem d19_72 : decode prog_8_method_25_code 72 = .ok (.dload 10, 2) := by decide +kernel
theorem d19_74 : decode prog_8_method_25_code 74 = .ok (.dload 12, 2) := by decide +kernel
theorem d19_76 : decode prog_8_method_25_code 76 = .ok (.invokestatic 124, 3) := by decide +kernel
def Q_rm21_1 (Z : State)  (h0 : Heap) (n0 : Nat) (v : Option Value) (h : Heap) (L : List Loc) : Prop := v = some (dl 0) ∧ Fr n0 L ∧ h = h0
set_option maxRecDepth 65536 in
set_option maxHeartbeats 40000000 in
theorem rm21_1 (l : Launch) (Z : State) (a0 : Array Value) (hw : ∀ d ∈ tables_1, d.before a0 Z = true) (ws : List Jvm.Cond)  (h0 : Heap) (n0 : Nat) (Z0 : n0 ≤ h0.size) :
    oM l y21 prog_8_method_27_code 10 (some .double) ws (⟨0, 0, 0, 0⟩ : Room) Z h0 #[(dl 1), (dl 0), (dl 1)] (Q_rm21_1 Z  h0 n0) := by
  refine own_enter (Q := Q_rm21_1 Z  h0 n0) (plainFor_of_name pn_com_example_housemartin_housemartin_firm_FirmSlots) ?_
  intro p e s m below meth c s₁ G X0 hx hby hml hZ hown hnm hret e0 go fin
  replace hown : s.vm.findClass cF = some m.cls := hown
  replace hnm : meth.name = "roundingError" := hnm
  replace hml : c.maxLocals = 10 := hml
  rw [ef_21 m _ _ _]
  have N0 := Fr.nil n0
  refine go (fun tg kg => XS.dload X0.here hx rfl (hb hby d21_0) rfl kg) ?_
  refine go (fun tg kg => XS.dloadN X0.here hx rfl (hb hby d21_2) rfl kg) ?_
  refine go (fun tg kg => XS.dsubS X0.here hx rfl (hb hby d21_3) rfl (nn_w (own_dsub (a := 1) (b := 1) (c := 0) (by decide) (by decide) (by decide))) (own_dsub (a := 1) (b := 1) (c := 0) (by decide) (by decide) (by decide)) kg) ?_
  refine go (fun tg kg => XS.dstore X0.here hx rfl (hb hby d21_4) rfl (l' := #[dv 1, .second, dv 0, .second, dv 1, .second, dv 0, .second, .unset, .unset]) rfl kg) ?_
  refine go (fun tg kg => XS.dload X0.here hx rfl (hb hby d21_6) rfl kg) ?_
  show G (s₁.setTop (mkF m 8 #[dv 1, .second, dv 0, .second, dv 1, .second, dv 0, .second, .unset, .unset] [(dl 1)]))
  refine go (fun tg kg => XS.dload X0.here hx rfl (hb hby d21_8) rfl kg) ?_
  refine go (fun tg kg => XS.dsubS X0.here hx rfl (hb hby d21_10) rfl (nn_w (own_dsub (a := 1) (b := 0) (c := 1) (by decide) (by decide) (by decide))) (own_dsub (a := 1) (b := 0) (c := 1) (by decide) (by decide) (by decide)) kg) ?_
  refine go (fun tg kg => XS.dstore X0.here hx rfl (hb hby d21_11) rfl (l' := #[dv 1, .second, dv 0, .second, dv 1, .second, dv 0, .second, dv 1, .second]) rfl kg) ?_
  refine go (fun tg kg => XS.dloadN X0.here hx rfl (hb hby d21_13) rfl kg) ?_
  refine go (fun tg kg => XS.dload X0.here hx rfl (hb hby d21_14) rfl kg) ?_
  refine go (fun tg kg => XS.dsubS X0.here hx rfl (hb hby d21_16) rfl (nn_w (own_dsub (a := 1) (b := 1) (c := 0) (by decide) (by decide) (by decide))) (own_dsub (a := 1) (b := 1) (c := 0) (by decide) (by decide) (by decide)) kg) ?_
  show G (s₁.setTop (mkF m 17 #[dv 1, .second, dv 0, .second, dv 1, .second, dv 0, .second, dv 1, .second] [(dl 0)]))
  refine go (fun tg kg => XS.dloadN X0.here hx rfl (hb hby d21_17) rfl kg) ?_
  refine go (fun tg kg => XS.dload X0.here hx rfl (hb hby d21_18) rfl kg) ?_
  refine go (fun tg kg => XS.dsubS X0.here hx rfl (hb hby d21_20) rfl (nn_w (own_dsub (a := 0) (b := 0) (c := 0) (by decide) (by decide) (by decide))) (own_dsub (a := 0) (b := 0) (c := 0) (by decide) (by decide) (by decide)) kg) ?_
  refine go (fun tg kg => XS.daddS X0.here hx rfl (hb hby d21_21) rfl (nn_w (own_dadd (a := 0) (b := 0) (c := 0) (by decide) (by decide) (by decide))) (own_dadd (a := 0) (b := 0) (c := 0) (by decide) (by decide) (by decide)) kg) ?_
  refine fin (some (dl 0)) X0 (fun h => absurd h (by decide)) (fun fs hr => retOut X0 hx hret rfl (Or.inr (Or.inr (Or.inl ⟨rfl, rfl, _, rfl⟩))) (hb hby d21_22) hr) (by decide) (by decide) ?_
  rw [e0]
  exact ⟨rfl, N0, rfl⟩
theorem d19_79 : decode prog_8_method_25_code 79 = .ok (.dastore, 1) := by decide +kernel
theorem d19_80 : decode prog_8_method_25_code 80 = .ok (.aload 4, 2) := by decide +kernel
theorem d19_82 : decode prog_8_method_25_code 82 = .ok (.iload 5, 2) := by decide +kernel
theorem d19_84 : decode prog_8_method_25_code 84 = .ok (.iconst 3, 1) := by decide +kernel
theorem d19_85 : decode prog_8_method_25_code 85 = .ok (.iadd, 1) := by decide +kernel
theorem d19_86 : decode prog_8_method_25_code 86 = .ok (.dload 12, 2) := by decide +kernel
theorem d19_88 : decode prog_8_method_25_code 88 = .ok (.dastore, 1) := by decide +kernel
theorem d19_89 : decode prog_8_method_25_code 89 = .ok (.return_, 1) := by decide +kernel
theorem ef_19 (m : MethodId) (x0 : Addr) (x1 : Int32) (x2 : UInt64) : entryFrame m #[(.ref x0), (.int x1), (.double x2)] 14 = mkF m 0 #[.val (.ref x0), .val (.int x1), .val (.double x2), .second, .unset, .unset, .unset, .unset, .unset, .unset, .unset, .unset, .unset, .unset] [] := by first | (simp [entryFrame, mkF, argsToLocals, Value.category]; done) | rfl
def Q_rm19_0 (Z : State) (b1 : Addr) (b2_9 : Addr) (k2_7 : ClassId) (b2_0 : Addr) (k2_0 : ClassId) (b2_1 : Addr) (k2_1 : ClassId) (h0 : Heap) (n0 : Nat) (v : Option Value) (h : Heap) (L : List Loc) : Prop := v = none ∧ Fr n0 L ∧ Keep h0 h [b2_9, b2_1] ∧ Arv Z h b2_9 k2_7 .long 1 [(.long 1)] (.long 0) ∧ Arv Z h b2_1 k2_1 .double 20 [(dl 1), (dl 2), (dl 3), (dl 1), (dl 0), (dl 4), (dl 5), (dl 6), (dl 0), (dl 0), (dl 0), (dl 0), (dl 0), (dl 0), (dl 0), (dl 0), (dl 0), (dl 0), (dl 0), (dl 0)] (dl 0) ∧ Exa Z h b2_1 "[D"
set_option maxRecDepth 65536 in
set_option maxHeartbeats 40000000 in
theorem rm19_0 (l : Launch) (Z : State) (a0 : Array Value) (hw : ∀ d ∈ tables_1, d.before a0 Z = true) (ws : List Jvm.Cond) (b1 : Addr) (b2_9 : Addr) (k2_7 : ClassId) (b2_0 : Addr) (k2_0 : ClassId) (b2_1 : Addr) (k2_1 : ClassId) (h0 : Heap) (n0 : Nat) (Z0 : n0 ≤ h0.size) (m0 : Exa Z h0 b1 cF) (m1 : Fld Z h0 b1 cF "changedNow" "[J" (.ref b2_9)) (m2 : Arv Z h0 b2_9 k2_7 .long 1 [(.long 0)] (.long 0)) (m3 : Fld Z h0 b1 cF "pages" "[[D" (.ref b2_0)) (m4 : Arv Z h0 b2_0 k2_0 (.array .double) 1 [(.ref b2_1)] .null) (m5 : Arv Z h0 b2_1 k2_1 .double 20 [(dl 1), (dl 2), (dl 3), (dl 0), (dl 0), (dl 4), (dl 5), (dl 6), (dl 0), (dl 0), (dl 0), (dl 0), (dl 0), (dl 0), (dl 0), (dl 0), (dl 0), (dl 0), (dl 0), (dl 0)] (dl 0)) (m6 : Exa Z h0 b2_1 "[D") (ne_b1_b2_9 : b1 ≠ b2_9) (ne_b2_0_b2_9 : b2_0 ≠ b2_9) (ne_b2_1_b2_9 : b2_1 ≠ b2_9) (gg_b2_9 : n0 ≤ b2_9) (gg_b2_1 : n0 ≤ b2_1) :
    oM l y19 prog_8_method_25_code 14 none ws (⟨1, 0, 0, 23⟩ : Room) Z h0 #[(.ref b1), (.int 0), (dl 1)] (Q_rm19_0 Z b1 b2_9 k2_7 b2_0 k2_0 b2_1 k2_1 h0 n0) := by
  refine own_enter (Q := Q_rm19_0 Z b1 b2_9 k2_7 b2_0 k2_0 b2_1 k2_1 h0 n0) (plainFor_of_name pn_com_example_housemartin_housemartin_firm_FirmSlots) ?_
  intro p e s m below meth c s₁ G X0 hx hby hml hZ hown hnm hret e0 go fin
  replace hown : s.vm.findClass cF = some m.cls := hown
  replace hnm : meth.name = "add" := hnm
  replace hml : c.maxLocals = 14 := hml
  rw [ef_19 m b1 _ _]
  have N0 := Fr.nil n0
  refine go (fun tg kg => XS.aloadN X0.here hx rfl (hb hby d19_0) rfl rfl kg) ?_
  refine go (fun tg kg => XS.iloadN X0.here hx rfl (hb hby d19_1) rfl kg) ?_
  obtain ⟨cq2001, q2001, q2001'⟩ := m0.cell
  obtain ⟨_, _, ⟨T2001, L2001, k2001, n2001⟩, -, X2001, ⟨Lc2001, hQ2001, l2001, y2001, z2001⟩, st2001⟩ := X0.privateBack hx (y := y20) hown (mvT hZ (own_w hw 138 rfl)) (mvT hZ (own_w hw 139 rfl)) (own_selp hZ (own_w hw 2 rfl) (own_w hw 140 rfl) (own_w hw 139 rfl) (by decide)) (Cond.privateMethod_at (mvP hZ (own_w hw 140 rfl) (args := #[]))) (mvT hZ (own_w hw 141 rfl)) (by decide) (backOf (W := 0) (rm20_0 l Z a0 hw [] b1 b2_9 k2_7 h0 n0 Z0 m1 m2 gg_b2_9) hZ (own_w hw 141 rfl) (own_w hw 3 rfl) (by decide) (by decide)) (g := (mkF m 2 #[rv b1, iv 0, dv 1, .second, .unset, .unset, .unset, .unset, .unset, .unset, .unset, .unset, .unset, .unset] [(.int 0), (.ref b1)])) rfl (by rw [hml]; rfl) (Steps.refl _) (a := b1) (by rw [e0]; exact q2001) q2001' (argsL := [(.int 0)]) (rest := []) (lenOf pd__I_V rfl) rfl (by show 2 * 0 + _ ≤ _; exact Nat.le_of_eq rfl) (hb hby d19_2) (fun _ _ => ⟨rfl, e0, (by decide : 0 + 0 ≤ _), (by decide : 0 + 0 ≤ _)⟩)
  dsimp only [Pt.U, Pt.locs, Pt.cells, Pt.slots] at X2001 l2001 y2001 z2001 st2001 hQ2001
  subst l2001 y2001 z2001
  obtain ⟨rfl, Nq2001, K2001, Gf2001_0⟩ := hQ2001
  have Kk2001 : Keep h0 T2001.heap [b2_9, b2_1] := (Keep.refl h0 [b2_9, b2_1]).trans K2001 (allS (Or.inl (List.mem_of_getElem? (i := 0) rfl)) all0)
  have Z2001 := Nat.le_trans Z0 K2001.1
  have N2001 := Fr.app N0 Nq2001
  refine go (fun tg kg => st2001.trans kg) ?_
  refine go (fun tg kg => XS.aloadN X2001.here hx rfl (hb hby d19_5) rfl rfl kg) ?_
  have Fa2002 := (m3.keep K2001 (ninS ne_b1_b2_9 nin0))
  obtain ⟨T2003, X2003, e2003, st2003⟩ := getF X2001 hx hZ hown (host := "") (Or.inl (own_w hw 17 rfl)) Via.refl rfl Fa2002 (g := (mkF m 6 #[rv b1, iv 0, dv 1, .second, .unset, .unset, .unset, .unset, .unset, .unset, .unset, .unset, .unset, .unset] [(.ref b1)])) rfl rfl (hb hby d19_6)
  refine go st2003 ?_
  show G (T2003.setTop (mkF m 9 #[rv b1, iv 0, dv 1, .second, .unset, .unset, .unset, .unset, .unset, .unset, .unset, .unset, .unset, .unset] [(.ref b2_0)]))
  refine go (fun tg kg => XS.iloadN X2003.here hx rfl (hb hby d19_9) rfl kg) ?_
  refine go (fun tg kg => XS.bipush X2003.here hx rfl (hb hby d19_10) kg) ?_
  refine go (fun tg kg => XS.iushr X2003.here hx rfl (hb hby d19_12) rfl kg) ?_
  show G (T2003.setTop (mkF m 13 #[rv b1, iv 0, dv 1, .second, .unset, .unset, .unset, .unset, .unset, .unset, .unset, .unset, .unset, .unset] [(.int (((0 : Int32).toUInt32 >>> ((24 : Int32) &&& 31).toUInt32).toInt32)), (.ref b2_0)]))
  rw [show (((0 : Int32).toUInt32 >>> ((24 : Int32) &&& 31).toUInt32).toInt32) = (0 : Int32) from by decide]
  show G (T2003.setTop (mkF m 13 #[rv b1, iv 0, dv 1, .second, .unset, .unset, .unset, .unset, .unset, .unset, .unset, .unset, .unset, .unset] [(.int 0), (.ref b2_0)]))
  have Fa2004 := (m4.keep K2001 (ninS ne_b2_0_b2_9 nin0))
  obtain ⟨cl2005, Ar2005, q2005, S2005, M2005, H2005, U2005⟩ := id Fa2004
  have hin2005 : ¬ ((0 : Int32) < 0 ∨ cl2005.slots.size ≤ ((0 : Int32)).toNatClampNeg) := inb_of S2005 ⟨by decide, by decide⟩
  refine go (fun tg kg => X2003.aaload hx (j := (0 : Int32)) (v := (.ref b2_1)) (by rw [e2003]; exact Ar2005.1) (State.isArrayOf_alike hZ.alike Ar2005.2.1) rfl Ar2005.2.2 hin2005 (H2005.at hin2005 rfl) (g := (mkF m 13 #[rv b1, iv 0, dv 1, .second, .unset, .unset, .unset, .unset, .unset, .unset, .unset, .unset, .unset, .unset] [(.int 0), (.ref b2_0)])) rfl rfl (hb hby d19_13) _ kg) ?_
  refine go (fun tg kg => XS.astore X2003.here hx rfl (hb hby d19_14) rfl rfl (l' := #[rv b1, iv 0, dv 1, .second, rv b2_1, .unset, .unset, .unset, .unset, .unset, .unset, .unset, .unset, .unset]) rfl kg) ?_
  refine go (fun tg kg => XS.iloadN X2003.here hx rfl (hb hby d19_16) rfl kg) ?_
  refine go (fun tg kg => X2003.ldcInt hx hown (mvT hZ (own_w hw 71 rfl)) (g := (mkF m 17 #[rv b1, iv 0, dv 1, .second, rv b2_1, .unset, .unset, .unset, .unset, .unset, .unset, .unset, .unset, .unset] [(.int 0)])) rfl (hb hby d19_17) _ kg) ?_
  show G (T2003.setTop (mkF m 19 #[rv b1, iv 0, dv 1, .second, rv b2_1, .unset, .unset, .unset, .unset, .unset, .unset, .unset, .unset, .unset] [(.int 16777215), (.int 0)]))
  refine go (fun tg kg => XS.iand X2003.here hx rfl (hb hby d19_19) rfl kg) ?_
  refine go (fun tg kg => XS.iconst X2003.here hx rfl (hb hby d19_20) kg) ?_
  refine go (fun tg kg => XS.imul X2003.here hx rfl (hb hby d19_21) rfl kg) ?_
  refine go (fun tg kg => XS.istore X2003.here hx rfl (hb hby d19_22) rfl (l' := #[rv b1, iv 0, dv 1, .second, rv b2_1, iv 0, .unset, .unset, .unset, .unset, .unset, .unset, .unset, .unset]) rfl kg) ?_
  refine go (fun tg kg => XS.aload X2003.here hx rfl (hb hby d19_24) rfl rfl kg) ?_
  refine go (fun tg kg => XS.iload X2003.here hx rfl (hb hby d19_26) rfl kg) ?_
  show G (T2003.setTop (mkF m 28 #[rv b1, iv 0, dv 1, .second, rv b2_1, iv 0, .unset, .unset, .unset, .unset, .unset, .unset, .unset, .unset] [(.int 0), (.ref b2_1)]))
  refine go (fun tg kg => XS.iconst X2003.here hx rfl (hb hby d19_28) kg) ?_
  refine go (fun tg kg => XS.iadd X2003.here hx rfl (hb hby d19_29) rfl kg) ?_
  have Fa2006 := (m5.keep K2001 (ninS ne_b2_1_b2_9 nin0))
  obtain ⟨cl2007, Ar2007, q2007, S2007, M2007, H2007, U2007⟩ := id Fa2006
  have hin2007 : ¬ ((3 : Int32) < 0 ∨ cl2007.slots.size ≤ ((3 : Int32)).toNatClampNeg) := inb_of S2007 ⟨by decide, by decide⟩
  refine go (fun tg kg => X2003.daload hx (j := (3 : Int32)) (v := (dl 0)) (by rw [e2003]; exact Ar2007.1) (State.isArrayOf_alike hZ.alike Ar2007.2.1) Ar2007.2.2 hin2007 (H2007.at hin2007 rfl) (g := (mkF m 30 #[rv b1, iv 0, dv 1, .second, rv b2_1, iv 0, .unset, .unset, .unset, .unset, .unset, .unset, .unset, .unset] [(.int 3), (.ref b2_1)])) rfl rfl (hb hby d19_30) _ kg) ?_
  refine go (fun tg kg => XS.dstore X2003.here hx rfl (hb hby d19_31) rfl (l' := #[rv b1, iv 0, dv 1, .second, rv b2_1, iv 0, dv 0, .second, .unset, .unset, .unset, .unset, .unset, .unset]) rfl kg) ?_
  refine go (fun tg kg => XS.dload X2003.here hx rfl (hb hby d19_33) rfl kg) ?_
  refine go (fun tg kg => XS.dloadN X2003.here hx rfl (hb hby d19_35) rfl kg) ?_
  show G (T2003.setTop (mkF m 36 #[rv b1, iv 0, dv 1, .second, rv b2_1, iv 0, dv 0, .second, .unset, .unset, .unset, .unset, .unset, .unset] [(dl 1), (dl 0)]))
  refine go (fun tg kg => XS.daddS X2003.here hx rfl (hb hby d19_36) rfl (nn_w (own_dadd (a := 0) (b := 1) (c := 1) (by decide) (by decide) (by decide))) (own_dadd (a := 0) (b := 1) (c := 1) (by decide) (by decide) (by decide)) kg) ?_
  refine go (fun tg kg => XS.dstore X2003.here hx rfl (hb hby d19_37) rfl (l' := #[rv b1, iv 0, dv 1, .second, rv b2_1, iv 0, dv 0, .second, dv 1, .second, .unset, .unset, .unset, .unset]) rfl kg) ?_
  refine go (fun tg kg => XS.aload X2003.here hx rfl (hb hby d19_39) rfl rfl kg) ?_
  refine go (fun tg kg => XS.iload X2003.here hx rfl (hb hby d19_41) rfl kg) ?_
  refine go (fun tg kg => XS.iconst X2003.here hx rfl (hb hby d19_43) kg) ?_
  refine go (fun tg kg => XS.iadd X2003.here hx rfl (hb hby d19_44) rfl kg) ?_
  show G (T2003.setTop (mkF m 45 #[rv b1, iv 0, dv 1, .second, rv b2_1, iv 0, dv 0, .second, dv 1, .second, .unset, .unset, .unset, .unset] [(.int 4), (.ref b2_1)]))
  obtain ⟨cl2008, Ar2008, q2008, S2008, M2008, H2008, U2008⟩ := id Fa2006
  have hin2008 : ¬ ((4 : Int32) < 0 ∨ cl2008.slots.size ≤ ((4 : Int32)).toNatClampNeg) := inb_of S2008 ⟨by decide, by decide⟩
  refine go (fun tg kg => X2003.daload hx (j := (4 : Int32)) (v := (dl 0)) (by rw [e2003]; exact Ar2008.1) (State.isArrayOf_alike hZ.alike Ar2008.2.1) Ar2008.2.2 hin2008 (H2008.at hin2008 rfl) (g := (mkF m 45 #[rv b1, iv 0, dv 1, .second, rv b2_1, iv 0, dv 0, .second, dv 1, .second, .unset, .unset, .unset, .unset] [(.int 4), (.ref b2_1)])) rfl rfl (hb hby d19_45) _ kg) ?_
  refine go (fun tg kg => XS.dload X2003.here hx rfl (hb hby d19_46) rfl kg) ?_
  refine go (fun tg kg => XS.dloadN X2003.here hx rfl (hb hby d19_48) rfl kg) ?_
  refine go (fun tg kg => XS.dload X2003.here hx rfl (hb hby d19_49) rfl kg) ?_
  obtain ⟨_, _, ⟨T2009, L2009, k2009, n2009⟩, -, X2009, ⟨Lc2009, hQ2009, l2009, y2009, z2009⟩, st2009⟩ := Jvm.LawKit.callS X2003 hx (y := y21) hown (mvT hZ (own_w hw 142 rfl)) (mvT hZ (own_w hw 143 rfl)) (mvT hZ (own_w hw 3 rfl)) (mvT hZ (own_w hw 144 rfl)) (by decide) (backOf (W := 2) (rm21_0 l Z a0 hw []  T2001.heap n0 Z2001 ) hZ (own_w hw 144 rfl) (own_w hw 3 rfl) (by decide) (by decide)) (g := (mkF m 51 #[rv b1, iv 0, dv 1, .second, rv b2_1, iv 0, dv 0, .second, dv 1, .second, .unset, .unset, .unset, .unset] [(dl 1), (dl 1), (dl 0), (dl 0)])) rfl (by rw [hml]; rfl) (argsL := [(dl 0), (dl 1), (dl 1)]) (rest := [(dl 0)]) (lenOf pd__DDD_D rfl) rfl (by show 2 * 0 + _ ≤ _; exact Nat.le_of_eq rfl) (hb hby d19_51) (fun _ _ => ⟨rfl, e2003, (by decide : 0 + 0 ≤ _), (by decide : 0 + 0 ≤ _)⟩)
  dsimp only [Pt.U, Pt.locs, Pt.cells, Pt.slots] at X2009 l2009 y2009 z2009 st2009 hQ2009
  subst l2009 y2009 z2009
  obtain ⟨rfl, Nq2009, e2009⟩ := hQ2009
  have N2009 := Fr.app N2001 Nq2009
  refine go st2009 ?_
  refine go (fun tg kg => XS.daddS X2009.here hx rfl (hb hby d19_54) rfl (nn_w (own_dadd (a := 0) (b := 0) (c := 0) (by decide) (by decide) (by decide))) (own_dadd (a := 0) (b := 0) (c := 0) (by decide) (by decide) (by decide)) kg) ?_
  show G (T2009.setTop (mkF m 55 #[rv b1, iv 0, dv 1, .second, rv b2_1, iv 0, dv 0, .second, dv 1, .second, .unset, .unset, .unset, .unset] [(dl 0)]))
  refine go (fun tg kg => XS.dstore X2009.here hx rfl (hb hby d19_55) rfl (l' := #[rv b1, iv 0, dv 1, .second, rv b2_1, iv 0, dv 0, .second, dv 1, .second, dv 0, .second, .unset, .unset]) rfl kg) ?_
  refine go (fun tg kg => XS.dload X2009.here hx rfl (hb hby d19_57) rfl kg) ?_
  refine go (fun tg kg => XS.dload X2009.here hx rfl (hb hby d19_59) rfl kg) ?_
  refine go (fun tg kg => XS.daddS X2009.here hx rfl (hb hby d19_61) rfl (nn_w (own_dadd (a := 1) (b := 0) (c := 1) (by decide) (by decide) (by decide))) (own_dadd (a := 1) (b := 0) (c := 1) (by decide) (by decide) (by decide)) kg) ?_
  refine go (fun tg kg => XS.dstore X2009.here hx rfl (hb hby d19_62) rfl (l' := #[rv b1, iv 0, dv 1, .second, rv b2_1, iv 0, dv 0, .second, dv 1, .second, dv 0, .second, dv 1, .second]) rfl kg) ?_
  refine go (fun tg kg => XS.aload X2009.here hx rfl (hb hby d19_64) rfl rfl kg) ?_
  show G (T2009.setTop (mkF m 66 #[rv b1, iv 0, dv 1, .second, rv b2_1, iv 0, dv 0, .second, dv 1, .second, dv 0, .second, dv 1, .second] [(.ref b2_1)]))
  refine go (fun tg kg => XS.iload X2009.here hx rfl (hb hby d19_66) rfl kg) ?_
  refine go (fun tg kg => XS.iconst X2009.here hx rfl (hb hby d19_68) kg) ?_
  refine go (fun tg kg => XS.iadd X2009.here hx rfl (hb hby d19_69) rfl kg) ?_
  refine go (fun tg kg => XS.dload X2009.here hx rfl (hb hby d19_70) rfl kg) ?_
  refine go (fun tg kg => XS.dload X2009.here hx rfl (hb hby d19_72) rfl kg) ?_
  refine go (fun tg kg => XS.dload X2009.here hx rfl (hb hby d19_74) rfl kg) ?_
  show G (T2009.setTop (mkF m 76 #[rv b1, iv 0, dv 1, .second, rv b2_1, iv 0, dv 0, .second, dv 1, .second, dv 0, .second, dv 1, .second] [(dl 1), (dl 0), (dl 1), (.int 4), (.ref b2_1)]))
  obtain ⟨_, _, ⟨T2010, L2010, k2010, n2010⟩, -, X2010, ⟨Lc2010, hQ2010, l2010, y2010, z2010⟩, st2010⟩ := Jvm.LawKit.callS X2009 hx (y := y21) hown (mvT hZ (own_w hw 142 rfl)) (mvT hZ (own_w hw 143 rfl)) (mvT hZ (own_w hw 3 rfl)) (mvT hZ (own_w hw 144 rfl)) (by decide) (backOf (W := 2) (rm21_1 l Z a0 hw []  T2001.heap n0 Z2001 ) hZ (own_w hw 144 rfl) (own_w hw 3 rfl) (by decide) (by decide)) (g := (mkF m 76 #[rv b1, iv 0, dv 1, .second, rv b2_1, iv 0, dv 0, .second, dv 1, .second, dv 0, .second, dv 1, .second] [(dl 1), (dl 0), (dl 1), (.int 4), (.ref b2_1)])) rfl (by rw [hml]; rfl) (argsL := [(dl 1), (dl 0), (dl 1)]) (rest := [(.int 4), (.ref b2_1)]) (lenOf pd__DDD_D rfl) rfl (by show 2 * 0 + _ ≤ _; exact Nat.le_of_eq rfl) (hb hby d19_76) (fun _ _ => ⟨rfl, e2009, (by decide : 0 + 0 ≤ _), (by decide : 0 + 0 ≤ _)⟩)
  dsimp only [Pt.U, Pt.locs, Pt.cells, Pt.slots] at X2010 l2010 y2010 z2010 st2010 hQ2010
  subst l2010 y2010 z2010
  obtain ⟨rfl, Nq2010, e2010⟩ := hQ2010
  have N2010 := Fr.app N2009 Nq2010
  refine go st2010 ?_
  obtain ⟨cl2011, Ar2011, q2011, S2011, M2011, H2011, U2011⟩ := id Fa2006
  have hin2011 : ¬ ((4 : Int32) < 0 ∨ cl2011.slots.size ≤ ((4 : Int32)).toNatClampNeg) := inb_of S2011 ⟨by decide, by decide⟩
  obtain ⟨T2011, h2011, X2011, e2011, W2011, st2011⟩ := stD X2010 hx hZ e2010 Ar2011 (j := (4 : Int32)) hin2011 (g := (mkF m 79 #[rv b1, iv 0, dv 1, .second, rv b2_1, iv 0, dv 0, .second, dv 1, .second, dv 0, .second, dv 1, .second] [(dl 0), (.int 4), (.ref b2_1)])) rfl rfl (hb hby d19_79)
  refine go st2011 ?_
  have V2011 : Arv Z h2011 b2_1 k2_1 .double (20 : Int32) [(dl 1), (dl 2), (dl 3), (dl 0), (dl 0), (dl 4), (dl 5), (dl 6), (dl 0), (dl 0), (dl 0), (dl 0), (dl 0), (dl 0), (dl 0), (dl 0), (dl 0), (dl 0), (dl 0), (dl 0)] (dl 0) := Arv.set Ar2011 q2011 S2011 M2011 H2011 U2011 rfl W2011 4 rfl (Nat.le_of_ble_eq_true rfl)
  have N2011 := Fr.snoc X2011 N2010 gg_b2_1
  have K2011 : Keep h0 h2011 [b2_9, b2_1] := Kk2001.wr W2011 (Or.inl (List.mem_of_getElem? (i := 1) rfl))
  have Z2011 := Nat.le_trans Z2001 (Keep.of_wr W2011).1
  refine go (fun tg kg => XS.aload X2011.here hx rfl (hb hby d19_80) rfl rfl kg) ?_
  refine go (fun tg kg => XS.iload X2011.here hx rfl (hb hby d19_82) rfl kg) ?_
  refine go (fun tg kg => XS.iconst X2011.here hx rfl (hb hby d19_84) kg) ?_
  refine go (fun tg kg => XS.iadd X2011.here hx rfl (hb hby d19_85) rfl kg) ?_
  show G (T2011.setTop (mkF m 86 #[rv b1, iv 0, dv 1, .second, rv b2_1, iv 0, dv 0, .second, dv 1, .second, dv 0, .second, dv 1, .second] [(.int 3), (.ref b2_1)]))
  refine go (fun tg kg => XS.dload X2011.here hx rfl (hb hby d19_86) rfl kg) ?_
  obtain ⟨cl2012, Ar2012, q2012, S2012, M2012, H2012, U2012⟩ := id V2011
  have hin2012 : ¬ ((3 : Int32) < 0 ∨ cl2012.slots.size ≤ ((3 : Int32)).toNatClampNeg) := inb_of S2012 ⟨by decide, by decide⟩
  obtain ⟨T2012, h2012, X2012, e2012, W2012, st2012⟩ := stD X2011 hx hZ e2011 Ar2012 (j := (3 : Int32)) hin2012 (g := (mkF m 88 #[rv b1, iv 0, dv 1, .second, rv b2_1, iv 0, dv 0, .second, dv 1, .second, dv 0, .second, dv 1, .second] [(dl 1), (.int 3), (.ref b2_1)])) rfl rfl (hb hby d19_88)
  refine go st2012 ?_
  have V2012 : Arv Z h2012 b2_1 k2_1 .double (20 : Int32) [(dl 1), (dl 2), (dl 3), (dl 1), (dl 0), (dl 4), (dl 5), (dl 6), (dl 0), (dl 0), (dl 0), (dl 0), (dl 0), (dl 0), (dl 0), (dl 0), (dl 0), (dl 0), (dl 0), (dl 0)] (dl 0) := Arv.set Ar2012 q2012 S2012 M2012 H2012 U2012 rfl W2012 3 rfl (Nat.le_of_ble_eq_true rfl)
  have N2012 := Fr.snoc X2012 N2011 gg_b2_1
  have K2012 : Keep h0 h2012 [b2_9, b2_1] := K2011.wr W2012 (Or.inl (List.mem_of_getElem? (i := 1) rfl))
  have Z2012 := Nat.le_trans Z2011 (Keep.of_wr W2012).1
  refine fin (none) X2012 (fun h => rfl) (fun fs hr => X2012.returnOut hx hret (hb hby d19_89) hr) (by decide) (by decide) ?_
  rw [e2012]
  have Fa2013 := ((Gf2001_0.other W2011 (Ne.symm ne_b2_1_b2_9)).other W2012 (Ne.symm ne_b2_1_b2_9))
  have Fa2014 := (((m6.keep K2001).wr W2011).wr W2012)
  exact ⟨rfl, N2012, K2012, Fa2013, V2012, Fa2014⟩
theorem pd__ID_V : parseMethodDescriptor "(ID)V" = some ⟨[.int, .double], none⟩ := by decide +kernel
theorem d14_15 : decode prog_8_method_3_code 15 = .ok (.return_, 1) := by decide +kernel
theorem ef_14 (m : MethodId) (x0 : Addr) (x1 : Int32) (x2 : Int32) (x3 : UInt64) : entryFrame m #[(.ref x0), (.int x1), (.int x2), (.double x3)] 5 = mkF m 0 #[.val (.ref x0), .val (.int x1), .val (.int x2), .val (.double x3), .second] [] := by first | (simp [entryFrame, mkF, argsToLocals, Value.category]; done) | rfl
def Q_rm14_0 (Z : State) (b1 : Addr) (b2_4 : Addr) (b2_7 : Addr) (k2_5 : ClassId) (b2_6 : Addr) (k2_4 : ClassId) (b2_5 : Addr) (b2_8 : Addr) (b2_9 : Addr) (k2_7 : ClassId) (b2_0 : Addr) (k2_0 : ClassId) (b2_1 : Addr) (k2_1 : ClassId) (h0 : Heap) (n0 : Nat) (v : Option Value) (h : Heap) (L : List Loc) : Prop := v = none ∧ Fr n0 L ∧ Keep h0 h [b2_7, b2_6, b2_4, b2_9, b2_1] ∧ Exa Z h b2_4 cM ∧ Fld Z h b2_4 cM "heads" "[J" (.ref b2_7) ∧ Arv Z h b2_7 k2_5 .long 4 [(.long 4294967303), (.long 0), (.long 0), (.long 0)] (.long 0) ∧ Fld Z h b2_4 cM "listed" "Z" (.int 1) ∧ Fld Z h b2_4 cM "firmsOfSize" "[I" (.ref b2_6) ∧ Arv Z h b2_6 k2_4 .int 2 [(.int 0), (.int 1)] (.int 0) ∧ Fld Z h b2_4 cM "largest" "I" (.int 1) ∧ Fld Z h b2_4 cM "freeBlocks" "[I" (.ref b2_5) ∧ Fld Z h b2_4 cM "pool" "[I" (.ref b2_8) ∧ Arv Z h b2_9 k2_7 .long 1 [(.long 1)] (.long 0) ∧ Arv Z h b2_1 k2_1 .double 20 [(dl 1), (dl 2), (dl 3), (dl 1), (dl 0), (dl 4), (dl 5), (dl 6), (dl 0), (dl 0), (dl 0), (dl 0), (dl 0), (dl 0), (dl 0), (dl 0), (dl 0), (dl 0), (dl 0), (dl 0)] (dl 0) ∧ Exa Z h b2_1 "[D"
set_option maxRecDepth 65536 in
set_option maxHeartbeats 40000000 in
theorem rm14_0 (l : Launch) (Z : State) (a0 : Array Value) (hw : ∀ d ∈ tables_1, d.before a0 Z = true) (ws : List Jvm.Cond) (b1 : Addr) (b2_4 : Addr) (b2_7 : Addr) (k2_5 : ClassId) (b2_6 : Addr) (k2_4 : ClassId) (b2_5 : Addr) (b2_8 : Addr) (b2_9 : Addr) (k2_7 : ClassId) (b2_0 : Addr) (k2_0 : ClassId) (b2_1 : Addr) (k2_1 : ClassId) (h0 : Heap) (n0 : Nat) (Z0 : n0 ≤ h0.size) (m0 : Fld Z h0 b1 cF "members" "Lcom/example/housemartin/housemartin/firm/Members;" (.ref b2_4)) (m1 : Exa Z h0 b2_4 cM) (m2 : Fld Z h0 b2_4 cM "heads" "[J" (.ref b2_7)) (m3 : Arv Z h0 b2_7 k2_5 .long 4 [(.long 0), (.long 0), (.long 0), (.long 0)] (.long 0)) (m4 : Fld Z h0 b2_4 cM "listed" "Z" (.int 1)) (m5 : Fld Z h0 b2_4 cM "firmsOfSize" "[I" (.ref b2_6)) (m6 : Arv Z h0 b2_6 k2_4 .int 2 [(.int 0), (.int 0)] (.int 0)) (m7 : Fld Z h0 b2_4 cM "largest" "I" (.int 0)) (m8 : Fld Z h0 b2_4 cM "freeBlocks" "[I" (.ref b2_5)) (m9 : Fld Z h0 b2_4 cM "pool" "[I" (.ref b2_8)) (m10 : Exa Z h0 b1 cF) (m11 : Fld Z h0 b1 cF "changedNow" "[J" (.ref b2_9)) (m12 : Arv Z h0 b2_9 k2_7 .long 1 [(.long 0)] (.long 0)) (m13 : Fld Z h0 b1 cF "pages" "[[D" (.ref b2_0)) (m14 : Arv Z h0 b2_0 k2_0 (.array .double) 1 [(.ref b2_1)] .null) (m15 : Arv Z h0 b2_1 k2_1 .double 20 [(dl 1), (dl 2), (dl 3), (dl 0), (dl 0), (dl 4), (dl 5), (dl 6), (dl 0), (dl 0), (dl 0), (dl 0), (dl 0), (dl 0), (dl 0), (dl 0), (dl 0), (dl 0), (dl 0), (dl 0)] (dl 0)) (m16 : Exa Z h0 b2_1 "[D") (ne_b2_4_b2_7 : b2_4 ≠ b2_7) (ne_b2_6_b2_7 : b2_6 ≠ b2_7) (ne_b2_4_b2_6 : b2_4 ≠ b2_6) (ne_b1_b2_4 : b1 ≠ b2_4) (ne_b1_b2_6 : b1 ≠ b2_6) (ne_b1_b2_7 : b1 ≠ b2_7) (ne_b2_9_b2_4 : b2_9 ≠ b2_4) (ne_b2_9_b2_6 : b2_9 ≠ b2_6) (ne_b2_9_b2_7 : b2_9 ≠ b2_7) (ne_b2_0_b2_4 : b2_0 ≠ b2_4) (ne_b2_0_b2_6 : b2_0 ≠ b2_6) (ne_b2_0_b2_7 : b2_0 ≠ b2_7) (ne_b2_1_b2_4 : b2_1 ≠ b2_4) (ne_b2_1_b2_6 : b2_1 ≠ b2_6) (ne_b2_1_b2_7 : b2_1 ≠ b2_7) (ne_b1_b2_9 : b1 ≠ b2_9) (ne_b2_0_b2_9 : b2_0 ≠ b2_9) (ne_b2_1_b2_9 : b2_1 ≠ b2_9) (gg_b2_7 : n0 ≤ b2_7) (gg_b2_6 : n0 ≤ b2_6) (gg_b2_4 : n0 ≤ b2_4) (gg_b2_9 : n0 ≤ b2_9) (gg_b2_1 : n0 ≤ b2_1) :
    oM l y14 prog_8_method_3_code 5 none ws (⟨3, 0, 0, 48⟩ : Room) Z h0 #[(.ref b1), (.int 0), (.int 7), (dl 1)] (Q_rm14_0 Z b1 b2_4 b2_7 k2_5 b2_6 k2_4 b2_5 b2_8 b2_9 k2_7 b2_0 k2_0 b2_1 k2_1 h0 n0) := by
  refine own_enter (Q := Q_rm14_0 Z b1 b2_4 b2_7 k2_5 b2_6 k2_4 b2_5 b2_8 b2_9 k2_7 b2_0 k2_0 b2_1 k2_1 h0 n0) (plainFor_of_name pn_com_example_housemartin_housemartin_firm_FirmSlots) ?_
  intro p e s m below meth c s₁ G X0 hx hby hml hZ hown hnm hret e0 go fin
  replace hown : s.vm.findClass cF = some m.cls := hown
  replace hnm : meth.name = "join" := hnm
  replace hml : c.maxLocals = 5 := hml
  rw [ef_14 m b1 _ _ _]
  have N0 := Fr.nil n0
  refine go (fun tg kg => XS.aloadN X0.here hx rfl (hb hby d14_0) rfl rfl kg) ?_
  obtain ⟨T1001, X1001, e1001, st1001⟩ := getF X0 hx hZ hown (host := "") (Or.inl (own_w hw 56 rfl)) Via.refl e0 m0 (g := (mkF m 1 #[rv b1, iv 0, iv 7, dv 1, .second] [(.ref b1)])) rfl rfl (hb hby d14_1)
  refine go st1001 ?_
  refine go (fun tg kg => XS.iloadN X1001.here hx rfl (hb hby d14_4) rfl kg) ?_
  refine go (fun tg kg => XS.iloadN X1001.here hx rfl (hb hby d14_5) rfl kg) ?_
  obtain ⟨cq1002, kq1002, q1002a, q1002b, q1002c⟩ := isOf hZ e1001 m1
  obtain ⟨_, _, ⟨T1002, L1002, k1002, n1002⟩, -, X1002, ⟨Lc1002, hQ1002, l1002, y1002, z1002⟩, st1002⟩ := X1001.virtualBack hx (y := y15) (z := y15) hown (mvT hZ (own_w hw 113 rfl)) (mvT hZ (own_w hw 114 rfl)) (notFace_of_selects (args := #[]) (mvT hZ (own_w hw 116 rfl))) (mvT hZ (own_w hw 116 rfl)) (mvT hZ (own_w hw 115 rfl)) (by decide) (backOf (W := 0) (rm15_0 l Z a0 hw [] b2_4 b2_7 k2_5 b2_6 k2_4 b2_5 b2_8 h0 n0 Z0 m1 m2 m3 m4 m5 m6 m7 m8 m9 ne_b2_4_b2_7 ne_b2_6_b2_7 ne_b2_4_b2_6 gg_b2_7 gg_b2_6 gg_b2_4) hZ (own_w hw 117 rfl) (own_w hw 34 rfl) (by decide) (by decide)) q1002a q1002c (g := (mkF m 6 #[rv b1, iv 0, iv 7, dv 1, .second] [(.int 7), (.int 0), (.ref b2_4)])) rfl (by rw [hml]; rfl) (Steps.refl _) (argsL := [(.int 0), (.int 7)]) (rest := []) (lenOf pd__II_V rfl) rfl (by show 2 * 0 + _ ≤ _; exact Nat.le_of_eq rfl) (hb hby d14_6) (fun _ _ => ⟨rfl, e1001, (by decide : 0 + 0 ≤ _), (by decide : 0 + 0 ≤ _)⟩)
  dsimp only [Pt.U, Pt.locs, Pt.cells, Pt.slots] at X1002 l1002 y1002 z1002 st1002 hQ1002
  subst l1002 y1002 z1002
  obtain ⟨rfl, Nq1002, K1002, Gf1002_0, Gf1002_1, Gf1002_2, Gf1002_3, Gf1002_4, Gf1002_5, Gf1002_6, Gf1002_7, Gf1002_8⟩ := hQ1002
  have Kk1002 : Keep h0 T1002.heap [b2_7, b2_6, b2_4, b2_9, b2_1] := (Keep.refl h0 [b2_7, b2_6, b2_4, b2_9, b2_1]).trans K1002 (allS (Or.inl (List.mem_of_getElem? (i := 0) rfl)) (allS (Or.inl (List.mem_of_getElem? (i := 1) rfl)) (allS (Or.inl (List.mem_of_getElem? (i := 2) rfl)) all0)))
  have Z1002 := Nat.le_trans Z0 K1002.1
  have N1002 := Fr.app N0 Nq1002
  refine go (fun tg kg => st1002.trans kg) ?_
  show G (T1002.setTop (mkF m 9 #[rv b1, iv 0, iv 7, dv 1, .second] []))
  refine go (fun tg kg => XS.aloadN X1002.here hx rfl (hb hby d14_9) rfl rfl kg) ?_
  refine go (fun tg kg => XS.iloadN X1002.here hx rfl (hb hby d14_10) rfl kg) ?_
  refine go (fun tg kg => XS.dloadN X1002.here hx rfl (hb hby d14_11) rfl kg) ?_
  have Fa1003 := (m10.keep K1002)
  have Fa1004 := (m11.keep K1002 (ninS ne_b1_b2_7 (ninS ne_b1_b2_6 (ninS ne_b1_b2_4 nin0))))
  have Fa1005 := (m12.keep K1002 (ninS ne_b2_9_b2_7 (ninS ne_b2_9_b2_6 (ninS ne_b2_9_b2_4 nin0))))
  have Fa1006 := (m13.keep K1002 (ninS ne_b1_b2_7 (ninS ne_b1_b2_6 (ninS ne_b1_b2_4 nin0))))
  have Fa1007 := (m14.keep K1002 (ninS ne_b2_0_b2_7 (ninS ne_b2_0_b2_6 (ninS ne_b2_0_b2_4 nin0))))
  have Fa1008 := (m15.keep K1002 (ninS ne_b2_1_b2_7 (ninS ne_b2_1_b2_6 (ninS ne_b2_1_b2_4 nin0))))
  have Fa1009 := (m16.keep K1002)
  obtain ⟨cq1010, q1010, q1010'⟩ := Fa1003.cell
  obtain ⟨_, _, ⟨T1010, L1010, k1010, n1010⟩, -, X1010, ⟨Lc1010, hQ1010, l1010, y1010, z1010⟩, st1010⟩ := X1002.privateBack hx (y := y19) hown (mvT hZ (own_w hw 134 rfl)) (mvT hZ (own_w hw 135 rfl)) (own_selp hZ (own_w hw 2 rfl) (own_w hw 136 rfl) (own_w hw 135 rfl) (by decide)) (Cond.privateMethod_at (mvP hZ (own_w hw 136 rfl) (args := #[]))) (mvT hZ (own_w hw 137 rfl)) (by decide) (backOf (W := 0) (rm19_0 l Z a0 hw [] b1 b2_9 k2_7 b2_0 k2_0 b2_1 k2_1 T1002.heap n0 Z1002 Fa1003 Fa1004 Fa1005 Fa1006 Fa1007 Fa1008 Fa1009 ne_b1_b2_9 ne_b2_0_b2_9 ne_b2_1_b2_9 gg_b2_9 gg_b2_1) hZ (own_w hw 137 rfl) (own_w hw 3 rfl) (by decide) (by decide)) (g := (mkF m 12 #[rv b1, iv 0, iv 7, dv 1, .second] [(dl 1), (.int 0), (.ref b1)])) rfl (by rw [hml]; rfl) (Steps.refl _) (a := b1) q1010 q1010' (argsL := [(.int 0), (dl 1)]) (rest := []) (lenOf pd__ID_V rfl) rfl (by show 2 * 0 + _ ≤ _; exact Nat.le_of_eq rfl) (hb hby d14_12) (fun _ _ => ⟨rfl, rfl, (by decide : 0 + 0 ≤ _), (by decide : 0 + 0 ≤ _)⟩)
  dsimp only [Pt.U, Pt.locs, Pt.cells, Pt.slots] at X1010 l1010 y1010 z1010 st1010 hQ1010
  subst l1010 y1010 z1010
  obtain ⟨rfl, Nq1010, K1010, Gf1010_0, Gf1010_1, Gf1010_2⟩ := hQ1010
  have Kk1010 : Keep h0 T1010.heap [b2_7, b2_6, b2_4, b2_9, b2_1] := Kk1002.trans K1010 (allS (Or.inl (List.mem_of_getElem? (i := 3) rfl)) (allS (Or.inl (List.mem_of_getElem? (i := 4) rfl)) all0))
  have Z1010 := Nat.le_trans Z1002 K1010.1
  have N1010 := Fr.app N1002 Nq1010
  refine go (fun tg kg => st1010.trans kg) ?_
  refine fin (none) X1010 (fun h => rfl) (fun fs hr => X1010.returnOut hx hret (hb hby d14_15) hr) (by decide) (by decide) ?_
  have Fa1011 := (Gf1002_0.keep K1010)
  have Fa1012 := (Gf1002_1.keep K1010 (ninS (Ne.symm ne_b2_9_b2_4) (ninS (Ne.symm ne_b2_1_b2_4) nin0)))
  have Fa1013 := (Gf1002_2.keep K1010 (ninS (Ne.symm ne_b2_9_b2_7) (ninS (Ne.symm ne_b2_1_b2_7) nin0)))
  have Fa1014 := (Gf1002_3.keep K1010 (ninS (Ne.symm ne_b2_9_b2_4) (ninS (Ne.symm ne_b2_1_b2_4) nin0)))
  have Fa1015 := (Gf1002_4.keep K1010 (ninS (Ne.symm ne_b2_9_b2_4) (ninS (Ne.symm ne_b2_1_b2_4) nin0)))
  have Fa1016 := (Gf1002_5.keep K1010 (ninS (Ne.symm ne_b2_9_b2_6) (ninS (Ne.symm ne_b2_1_b2_6) nin0)))
  have Fa1017 := (Gf1002_6.keep K1010 (ninS (Ne.symm ne_b2_9_b2_4) (ninS (Ne.symm ne_b2_1_b2_4) nin0)))
  have Fa1018 := (Gf1002_7.keep K1010 (ninS (Ne.symm ne_b2_9_b2_4) (ninS (Ne.symm ne_b2_1_b2_4) nin0)))
  have Fa1019 := (Gf1002_8.keep K1010 (ninS (Ne.symm ne_b2_9_b2_4) (ninS (Ne.symm ne_b2_1_b2_4) nin0)))
  exact ⟨rfl, N1010, Kk1010, Fa1011, Fa1012, Fa1013, Fa1014, Fa1015, Fa1016, Fa1017, Fa1018, Fa1019, Gf1010_0, Gf1010_1, Gf1010_2⟩
theorem pd__IID_V : parseMethodDescriptor "(IID)V" = some ⟨[.int, .int, .double], none⟩ := by decide +kernel
theorem d22_0 : decode prog_8_method_4_code 0 = .ok (.aload_n 0, 1) := by decide +kernel
theorem d22_1 : decode prog_8_method_4_code 1 = .ok (.getfield 45, 3) := by decide +kernel
theorem d22_4 : decode prog_8_method_4_code 4 = .ok (.iload_n 1, 1) := by decide +kernel
theorem d22_5 : decode prog_8_method_4_code 5 = .ok (.iload_n 2, 1) := by decide +kernel
theorem d22_6 : decode prog_8_method_4_code 6 = .ok (.invokevirtual 69, 3) := by decide +kernel
theorem d23_0 : decode prog_10_method_8_code 0 = .ok (.aload_n 0, 1) := by decide +kernel
theorem d23_1 : decode prog_10_method_8_code 1 = .ok (.iload_n 1, 1) := by decide +kernel
theorem d23_2 : decode prog_10_method_8_code 2 = .ok (.invokevirtual 44, 3) := by decide +kernel
def Q_rm16_1 (Z : State) (b2_4 : Addr) (b2_7 : Addr) (k2_5 : ClassId) (h0 : Heap) (n0 : Nat) (v : Option Value) (h : Heap) (L : List Loc) : Prop := v = some (.int 1) ∧ Fr n0 L ∧ h = h0
set_option maxRecDepth 65536 in
set_option maxHeartbeats 40000000 in
theorem rm16_1 (l : Launch) (Z : State) (a0 : Array Value) (hw : ∀ d ∈ tables_1, d.before a0 Z = true) (ws : List Jvm.Cond) (b2_4 : Addr) (b2_7 : Addr) (k2_5 : ClassId) (h0 : Heap) (n0 : Nat) (Z0 : n0 ≤ h0.size) (m0 : Fld Z h0 b2_4 cM "heads" "[J" (.ref b2_7)) (m1 : Arv Z h0 b2_7 k2_5 .long 4 [(.long 4294967303), (.long 0), (.long 0), (.long 0)] (.long 0)) :
    oM l y16 prog_10_method_2_code 2 (some .int) ws (⟨0, 0, 0, 0⟩ : Room) Z h0 #[(.ref b2_4), (.int 0)] (Q_rm16_1 Z b2_4 b2_7 k2_5 h0 n0) := by
  refine own_enter (Q := Q_rm16_1 Z b2_4 b2_7 k2_5 h0 n0) (plainFor_of_name pn_com_example_housemartin_housemartin_firm_Members) ?_
  intro p e s m below meth c s₁ G X0 hx hby hml hZ hown hnm hret e0 go fin
  replace hown : s.vm.findClass cM = some m.cls := hown
  replace hnm : meth.name = "count" := hnm
  replace hml : c.maxLocals = 2 := hml
  rw [ef_16 m b2_4 _]
  have N0 := Fr.nil n0
  refine go (fun tg kg => XS.aloadN X0.here hx rfl (hb hby d16_0) rfl rfl kg) ?_
  obtain ⟨T3001, X3001, e3001, st3001⟩ := getF X0 hx hZ hown (host := "") (Or.inl (own_w hw 45 rfl)) Via.refl e0 m0 (g := (mkF m 1 #[rv b2_4, iv 0] [(.ref b2_4)])) rfl rfl (hb hby d16_1)
  refine go st3001 ?_
  refine go (fun tg kg => XS.iloadN X3001.here hx rfl (hb hby d16_4) rfl kg) ?_
  obtain ⟨cl3002, Ar3002, q3002, S3002, M3002, H3002, U3002⟩ := id m1
  have hin3002 : ¬ ((0 : Int32) < 0 ∨ cl3002.slots.size ≤ ((0 : Int32)).toNatClampNeg) := inb_of S3002 ⟨by decide, by decide⟩
  refine go (fun tg kg => X3001.laload hx (j := (0 : Int32)) (v := (.long 4294967303)) (by rw [e3001]; exact Ar3002.1) (State.isArrayOf_alike hZ.alike Ar3002.2.1) Ar3002.2.2 hin3002 (H3002.at hin3002 rfl) (g := (mkF m 5 #[rv b2_4, iv 0] [(.int 0), (.ref b2_7)])) rfl rfl (hb hby d16_5) _ kg) ?_
  refine go (fun tg kg => XS.bipush X3001.here hx rfl (hb hby d16_6) kg) ?_
  show G (T3001.setTop (mkF m 8 #[rv b2_4, iv 0] [(.int 32), (.long 4294967303)]))
  refine go (fun tg kg => XS.lushr X3001.here hx rfl (hb hby d16_8) rfl kg) ?_
  show G (T3001.setTop (mkF m 9 #[rv b2_4, iv 0] [(.long (((4294967303 : Int64).toUInt64 >>> ((32 : Int32) &&& 0x3f).toInt64.toUInt64).toInt64))]))
  rw [show (((4294967303 : Int64).toUInt64 >>> ((32 : Int32) &&& 0x3f).toInt64.toUInt64).toInt64) = (1 : Int64) from by decide]
  show G (T3001.setTop (mkF m 9 #[rv b2_4, iv 0] [(.long 1)]))
  refine go (fun tg kg => XS.l2i X3001.here hx rfl (hb hby d16_9) rfl kg) ?_
  refine fin (some (.int 1)) X3001 (fun h => absurd h (by decide)) (fun fs hr => retOut X3001 hx hret rfl (Or.inl ⟨rfl, Or.inl rfl, _, rfl⟩) (hb hby d16_10) hr) (by decide) (by decide) ?_
  rw [e3001]
  exact ⟨rfl, N0, rfl⟩
theorem d23_5 : decode prog_10_method_8_code 5 = .ok (.istore_n 3, 1) := by decide +kernel
theorem d23_6 : decode prog_10_method_8_code 6 = .ok (.aload_n 0, 1) := by decide +kernel
theorem d23_7 : decode prog_10_method_8_code 7 = .ok (.iload_n 1, 1) := by decide +kernel
theorem d23_8 : decode prog_10_method_8_code 8 = .ok (.invokevirtual 48, 3) := by decide +kernel
theorem d24_0 : decode prog_10_method_17_code 0 = .ok (.aload_n 0, 1) := by decide +kernel
theorem d24_1 : decode prog_10_method_17_code 1 = .ok (.getfield 22, 3) := by decide +kernel
theorem d24_4 : decode prog_10_method_17_code 4 = .ok (.iload_n 1, 1) := by decide +kernel
theorem d24_5 : decode prog_10_method_17_code 5 = .ok (.laload, 1) := by decide +kernel
theorem d24_6 : decode prog_10_method_17_code 6 = .ok (.l2i, 1) := by decide +kernel
theorem d24_7 : decode prog_10_method_17_code 7 = .ok (.ireturn, 1) := by decide +kernel
theorem ef_24 (m : MethodId) (x0 : Addr) (x1 : Int32) : entryFrame m #[(.ref x0), (.int x1)] 2 = mkF m 0 #[.val (.ref x0), .val (.int x1)] [] := by first | (simp [entryFrame, mkF, argsToLocals, Value.category]; done) | rfl
def Q_rm24_0 (Z : State) (b2_4 : Addr) (b2_7 : Addr) (k2_5 : ClassId) (h0 : Heap) (n0 : Nat) (v : Option Value) (h : Heap) (L : List Loc) : Prop := v = some (.int 7) ∧ Fr n0 L ∧ h = h0
set_option maxRecDepth 65536 in
set_option maxHeartbeats 40000000 in
theorem rm24_0 (l : Launch) (Z : State) (a0 : Array Value) (hw : ∀ d ∈ tables_1, d.before a0 Z = true) (ws : List Jvm.Cond) (b2_4 : Addr) (b2_7 : Addr) (k2_5 : ClassId) (h0 : Heap) (n0 : Nat) (Z0 : n0 ≤ h0.size) (m0 : Fld Z h0 b2_4 cM "heads" "[J" (.ref b2_7)) (m1 : Arv Z h0 b2_7 k2_5 .long 4 [(.long 4294967303), (.long 0), (.long 0), (.long 0)] (.long 0)) :
    oM l y24 prog_10_method_17_code 2 (some .int) ws (⟨0, 0, 0, 0⟩ : Room) Z h0 #[(.ref b2_4), (.int 0)] (Q_rm24_0 Z b2_4 b2_7 k2_5 h0 n0) := by
  refine own_enter (Q := Q_rm24_0 Z b2_4 b2_7 k2_5 h0 n0) (plainFor_of_name pn_com_example_housemartin_housemartin_firm_Members) ?_
  intro p e s m below meth c s₁ G X0 hx hby hml hZ hown hnm hret e0 go fin
  replace hown : s.vm.findClass cM = some m.cls := hown
  replace hnm : meth.name = "entry" := hnm
  replace hml : c.maxLocals = 2 := hml
  rw [ef_24 m b2_4 _]
  have N0 := Fr.nil n0
  refine go (fun tg kg => XS.aloadN X0.here hx rfl (hb hby d24_0) rfl rfl kg) ?_
  obtain ⟨T3001, X3001, e3001, st3001⟩ := getF X0 hx hZ hown (host := "") (Or.inl (own_w hw 45 rfl)) Via.refl e0 m0 (g := (mkF m 1 #[rv b2_4, iv 0] [(.ref b2_4)])) rfl rfl (hb hby d24_1)
  refine go st3001 ?_
  refine go (fun tg kg => XS.iloadN X3001.here hx rfl (hb hby d24_4) rfl kg) ?_
  obtain ⟨cl3002, Ar3002, q3002, S3002, M3002, H3002, U3002⟩ := id m1
  have hin3002 : ¬ ((0 : Int32) < 0 ∨ cl3002.slots.size ≤ ((0 : Int32)).toNatClampNeg) := inb_of S3002 ⟨by decide, by decide⟩
  refine go (fun tg kg => X3001.laload hx (j := (0 : Int32)) (v := (.long 4294967303)) (by rw [e3001]; exact Ar3002.1) (State.isArrayOf_alike hZ.alike Ar3002.2.1) Ar3002.2.2 hin3002 (H3002.at hin3002 rfl) (g := (mkF m 5 #[rv b2_4, iv 0] [(.int 0), (.ref b2_7)])) rfl rfl (hb hby d24_5) _ kg) ?_
  refine go (fun tg kg => XS.l2i X3001.here hx rfl (hb hby d24_6) rfl kg) ?_
  show G (T3001.setTop (mkF m 7 #[rv b2_4, iv 0] [(.int 7)]))
  refine fin (some (.int 7)) X3001 (fun h => absurd h (by decide)) (fun fs hr => retOut X3001 hx hret rfl (Or.inl ⟨rfl, Or.inl rfl, _, rfl⟩) (hb hby d24_7) hr) (by decide) (by decide) ?_
  rw [e3001]
  exact ⟨rfl, N0, rfl⟩
theorem d23_11 : decode prog_10_method_8_code 11 = .ok (.istore 4, 2) := by decide +kernel
theorem d23_13 : decode prog_10_method_8_code 13 = .ok (.aload_n 0, 1) := by decide +kernel
theorem d23_14 : decode prog_10_method_8_code 14 = .ok (.getfield 18, 3) := by decide +kernel
theorem d23_17 : decode prog_10_method_8_code 17 = .ok (.ifCond .ne 9, 3) := by decide +kernel
theorem d23_26 : decode prog_10_method_8_code 26 = .ok (.iload_n 3, 1) := by decide +kernel
theorem d23_27 : decode prog_10_method_8_code 27 = .ok (.iconst 2, 1) := by decide +kernel
theorem d23_28 : decode prog_10_method_8_code 28 = .ok (.if_icmp .ne 84, 3) := by decide +kernel
theorem d23_112 : decode prog_10_method_8_code 112 = .ok (.iload_n 3, 1) := by decide +kernel
theorem d23_113 : decode prog_10_method_8_code 113 = .ok (.iconst 2, 1) := by decide +kernel
theorem d23_114 : decode prog_10_method_8_code 114 = .ok (.if_icmp .le 160, 3) := by decide +kernel
theorem d23_274 : decode prog_10_method_8_code 274 = .ok (.aload_n 0, 1) := by decide +kernel
theorem d23_275 : decode prog_10_method_8_code 275 = .ok (.iload_n 1, 1) := by decide +kernel
theorem d23_276 : decode prog_10_method_8_code 276 = .ok (.iload_n 3, 1) := by decide +kernel
theorem d23_277 : decode prog_10_method_8_code 277 = .ok (.iconst 1, 1) := by decide +kernel
theorem d23_278 : decode prog_10_method_8_code 278 = .ok (.isub, 1) := by decide +kernel
theorem d23_279 : decode prog_10_method_8_code 279 = .ok (.iload 4, 2) := by decide +kernel
theorem d23_281 : decode prog_10_method_8_code 281 = .ok (.invokevirtual 69, 3) := by decide +kernel
def Q_rm17_1 (Z : State) (b2_4 : Addr) (b2_7 : Addr) (k2_5 : ClassId) (h0 : Heap) (n0 : Nat) (v : Option Value) (h : Heap) (L : List Loc) : Prop := v = none ∧ Fr n0 L ∧ Keep h0 h [b2_7] ∧ Arv Z h b2_7 k2_5 .long 4 [(.long 7), (.long 0), (.long 0), (.long 0)] (.long 0)
set_option maxRecDepth 65536 in
set_option maxHeartbeats 40000000 in
theorem rm17_1 (l : Launch) (Z : State) (a0 : Array Value) (hw : ∀ d ∈ tables_1, d.before a0 Z = true) (ws : List Jvm.Cond) (b2_4 : Addr) (b2_7 : Addr) (k2_5 : ClassId) (h0 : Heap) (n0 : Nat) (Z0 : n0 ≤ h0.size) (m0 : Fld Z h0 b2_4 cM "heads" "[J" (.ref b2_7)) (m1 : Arv Z h0 b2_7 k2_5 .long 4 [(.long 4294967303), (.long 0), (.long 0), (.long 0)] (.long 0)) (gg_b2_7 : n0 ≤ b2_7) :
    oM l y17 prog_10_method_18_code 4 none ws (⟨0, 0, 0, 0⟩ : Room) Z h0 #[(.ref b2_4), (.int 0), (.int 0), (.int 7)] (Q_rm17_1 Z b2_4 b2_7 k2_5 h0 n0) := by
  refine own_enter (Q := Q_rm17_1 Z b2_4 b2_7 k2_5 h0 n0) (plainFor_of_name pn_com_example_housemartin_housemartin_firm_Members) ?_
  intro p e s m below meth c s₁ G X0 hx hby hml hZ hown hnm hret e0 go fin
  replace hown : s.vm.findClass cM = some m.cls := hown
  replace hnm : meth.name = "setHead" := hnm
  replace hml : c.maxLocals = 4 := hml
  rw [ef_17 m b2_4 _ _ _]
  have N0 := Fr.nil n0
  refine go (fun tg kg => XS.aloadN X0.here hx rfl (hb hby d17_0) rfl rfl kg) ?_
  obtain ⟨T3001, X3001, e3001, st3001⟩ := getF X0 hx hZ hown (host := "") (Or.inl (own_w hw 45 rfl)) Via.refl e0 m0 (g := (mkF m 1 #[rv b2_4, iv 0, iv 0, iv 7] [(.ref b2_4)])) rfl rfl (hb hby d17_1)
  refine go st3001 ?_
  refine go (fun tg kg => XS.iloadN X3001.here hx rfl (hb hby d17_4) rfl kg) ?_
  refine go (fun tg kg => XS.iloadN X3001.here hx rfl (hb hby d17_5) rfl kg) ?_
  refine go (fun tg kg => XS.i2l X3001.here hx rfl (hb hby d17_6) rfl kg) ?_
  show G (T3001.setTop (mkF m 7 #[rv b2_4, iv 0, iv 0, iv 7] [(.long 0), (.int 0), (.ref b2_7)]))
  refine go (fun tg kg => XS.bipush X3001.here hx rfl (hb hby d17_7) kg) ?_
  refine go (fun tg kg => XS.lshl X3001.here hx rfl (hb hby d17_9) rfl kg) ?_
  show G (T3001.setTop (mkF m 10 #[rv b2_4, iv 0, iv 0, iv 7] [(.long ((0 : Int64) <<< ((32 : Int32) &&& 0x3f).toInt64)), (.int 0), (.ref b2_7)]))
  rw [show ((0 : Int64) <<< ((32 : Int32) &&& 0x3f).toInt64) = (0 : Int64) from by decide]
  show G (T3001.setTop (mkF m 10 #[rv b2_4, iv 0, iv 0, iv 7] [(.long 0), (.int 0), (.ref b2_7)]))
  refine go (fun tg kg => XS.iloadN X3001.here hx rfl (hb hby d17_10) rfl kg) ?_
  refine go (fun tg kg => XS.i2l X3001.here hx rfl (hb hby d17_11) rfl kg) ?_
  refine go (fun tg kg => X3001.ldc2Long hx hown (mvT hZ (own_w hw 127 rfl)) (g := (mkF m 12 #[rv b2_4, iv 0, iv 0, iv 7] [(.long 7), (.long 0), (.int 0), (.ref b2_7)])) rfl (hb hby d17_12) _ kg) ?_
  refine go (fun tg kg => XS.land X3001.here hx rfl (hb hby d17_15) rfl kg) ?_
  refine go (fun tg kg => XS.lor X3001.here hx rfl (hb hby d17_16) rfl kg) ?_
  show G (T3001.setTop (mkF m 17 #[rv b2_4, iv 0, iv 0, iv 7] [(.long ((0 : Int64) ||| (7 : Int64))), (.int 0), (.ref b2_7)]))
  rw [show ((0 : Int64) ||| (7 : Int64)) = (7 : Int64) from by decide]
  show G (T3001.setTop (mkF m 17 #[rv b2_4, iv 0, iv 0, iv 7] [(.long 7), (.int 0), (.ref b2_7)]))
  obtain ⟨cl3002, Ar3002, q3002, S3002, M3002, H3002, U3002⟩ := id m1
  have hin3002 : ¬ ((0 : Int32) < 0 ∨ cl3002.slots.size ≤ ((0 : Int32)).toNatClampNeg) := inb_of S3002 ⟨by decide, by decide⟩
  obtain ⟨T3002, h3002, X3002, e3002, W3002, st3002⟩ := stJ X3001 hx hZ e3001 Ar3002 (j := (0 : Int32)) hin3002 (g := (mkF m 17 #[rv b2_4, iv 0, iv 0, iv 7] [(.long 7), (.int 0), (.ref b2_7)])) rfl rfl (hb hby d17_17)
  refine go st3002 ?_
  have V3002 : Arv Z h3002 b2_7 k2_5 .long (4 : Int32) [(.long 7), (.long 0), (.long 0), (.long 0)] (.long 0) := Arv.set Ar3002 q3002 S3002 M3002 H3002 U3002 rfl W3002 0 rfl (Nat.le_of_ble_eq_true rfl)
  have N3002 := Fr.snoc X3002 N0 gg_b2_7
  have K3002 : Keep h0 h3002 [b2_7] := (Keep.refl h0 [b2_7]).wr W3002 (Or.inl (List.mem_of_getElem? (i := 0) rfl))
  have Z3002 := Nat.le_trans Z0 (Keep.of_wr W3002).1
  show G (T3002.setTop (mkF m 18 #[rv b2_4, iv 0, iv 0, iv 7] []))
  refine fin (none) X3002 (fun h => rfl) (fun fs hr => X3002.returnOut hx hret (hb hby d17_18) hr) (by decide) (by decide) ?_
  rw [e3002]
  exact ⟨rfl, N3002, K3002, V3002⟩
theorem d23_284 : decode prog_10_method_8_code 284 = .ok (.aload_n 0, 1) := by decide +kernel
theorem d23_285 : decode prog_10_method_8_code 285 = .ok (.iload_n 3, 1) := by decide +kernel
theorem d23_286 : decode prog_10_method_8_code 286 = .ok (.iload_n 3, 1) := by decide +kernel
theorem d23_287 : decode prog_10_method_8_code 287 = .ok (.iconst 1, 1) := by decide +kernel
theorem d23_288 : decode prog_10_method_8_code 288 = .ok (.isub, 1) := by decide +kernel
theorem d23_289 : decode prog_10_method_8_code 289 = .ok (.invokevirtual 73, 3) := by decide +kernel
theorem d18_37 : decode prog_10_method_19_code 37 = .ok (.aload_n 0, 1) := by decide +kernel
theorem d18_38 : decode prog_10_method_19_code 38 = .ok (.getfield 15, 3) := by decide +kernel
theorem d18_41 : decode prog_10_method_19_code 41 = .ok (.iload_n 1, 1) := by decide +kernel
theorem d18_42 : decode prog_10_method_19_code 42 = .ok (.dup2, 1) := by decide +kernel
theorem d18_43 : decode prog_10_method_19_code 43 = .ok (.iaload, 1) := by decide +kernel
theorem d18_44 : decode prog_10_method_19_code 44 = .ok (.iconst 1, 1) := by decide +kernel
theorem d18_45 : decode prog_10_method_19_code 45 = .ok (.isub, 1) := by decide +kernel
theorem d18_46 : decode prog_10_method_19_code 46 = .ok (.iastore, 1) := by decide +kernel
def Q_rm5_2 (Z : State)  (h0 : Heap) (n0 : Nat) (v : Option Value) (h : Heap) (L : List Loc) : Prop := v = some (.int 1) ∧ Fr n0 L ∧ h = h0
set_option maxRecDepth 65536 in
set_option maxHeartbeats 40000000 in
theorem rm5_2 (l : Launch) (Z : State) (a0 : Array Value) (hw : ∀ d ∈ tables_1, d.before a0 Z = true) (ws : List Jvm.Cond)  (h0 : Heap) (n0 : Nat) (Z0 : n0 ≤ h0.size) :
    oM l y5 jdk_29_method_65_code 2 (some .int) ws (⟨0, 0, 0, 0⟩ : Room) Z h0 #[(.int 1), (.int 0)] (Q_rm5_2 Z  h0 n0) := by
  refine own_enter (Q := Q_rm5_2 Z  h0 n0) (Jvm.Free.JP.mathPlain rfl (by decide +kernel)) ?_
  intro p e s m below meth c s₁ G X0 hx hby hml hZ hown hnm hret e0 go fin
  replace hown : s.vm.findClass "java/lang/Math" = some m.cls := hown
  replace hnm : meth.name = "max" := hnm
  replace hml : c.maxLocals = 2 := hml
  rw [ef_5 m _ _]
  have N0 := Fr.nil n0
  refine go (fun tg kg => XS.iloadN X0.here hx rfl (hb hby d5_0) rfl kg) ?_
  refine go (fun tg kg => XS.iloadN X0.here hx rfl (hb hby d5_1) rfl kg) ?_
  refine go (fun tg kg => XS.icmpNo X0.here hx rfl (hb hby d5_2) rfl (flt (by decide)).1 kg) ?_
  refine go (fun tg kg => XS.iloadN X0.here hx rfl (hb hby d5_5) rfl kg) ?_
  refine go (fun tg kg => XS.goto X0.here hx rfl (pc0 := 6) (pc' := 10) rfl (hb hby d5_6) (by decide) (by decide) kg) ?_
  show G (s₁.setTop (mkF m 10 #[iv 1, iv 0] [(.int 1)]))
  refine fin (some (.int 1)) X0 (fun h => absurd h (by decide)) (fun fs hr => retOut X0 hx hret rfl (Or.inl ⟨rfl, Or.inl rfl, _, rfl⟩) (hb hby d5_10) hr) (by decide) (by decide) ?_
  rw [e0]
  exact ⟨rfl, N0, rfl⟩
theorem d18_92 : decode prog_10_method_19_code 92 = .ok (.aload_n 0, 1) := by decide +kernel
theorem d18_93 : decode prog_10_method_19_code 93 = .ok (.dup, 1) := by decide +kernel
theorem d18_94 : decode prog_10_method_19_code 94 = .ok (.getfield 51, 3) := by decide +kernel
theorem d18_97 : decode prog_10_method_19_code 97 = .ok (.iconst 1, 1) := by decide +kernel
theorem d18_98 : decode prog_10_method_19_code 98 = .ok (.isub, 1) := by decide +kernel
theorem d18_99 : decode prog_10_method_19_code 99 = .ok (.putfield 51, 3) := by decide +kernel
theorem d18_102 : decode prog_10_method_19_code 102 = .ok (.goto (-29), 3) := by decide +kernel
def Q_rm18_1 (Z : State) (b2_4 : Addr) (b2_6 : Addr) (k2_4 : ClassId) (b2_7 : Addr) (b2_5 : Addr) (b2_8 : Addr) (h0 : Heap) (n0 : Nat) (v : Option Value) (h : Heap) (L : List Loc) : Prop := v = none ∧ Fr n0 L ∧ Keep h0 h [b2_6, b2_4] ∧ Fld Z h b2_4 cM "firmsOfSize" "[I" (.ref b2_6) ∧ Arv Z h b2_6 k2_4 .int 2 [(.int 0), (.int 0)] (.int 0) ∧ Fld Z h b2_4 cM "largest" "I" (.int 0) ∧ Exa Z h b2_4 cM ∧ Fld Z h b2_4 cM "heads" "[J" (.ref b2_7) ∧ Fld Z h b2_4 cM "listed" "Z" (.int 1) ∧ Fld Z h b2_4 cM "freeBlocks" "[I" (.ref b2_5) ∧ Fld Z h b2_4 cM "pool" "[I" (.ref b2_8)
set_option maxRecDepth 65536 in
set_option maxHeartbeats 40000000 in
theorem rm18_1 (l : Launch) (Z : State) (a0 : Array Value) (hw : ∀ d ∈ tables_1, d.before a0 Z = true) (ws : List Jvm.Cond) (b2_4 : Addr) (b2_6 : Addr) (k2_4 : ClassId) (b2_7 : Addr) (b2_5 : Addr) (b2_8 : Addr) (h0 : Heap) (n0 : Nat) (Z0 : n0 ≤ h0.size) (m0 : Fld Z h0 b2_4 cM "firmsOfSize" "[I" (.ref b2_6)) (m1 : Arv Z h0 b2_6 k2_4 .int 2 [(.int 0), (.int 1)] (.int 0)) (m2 : Fld Z h0 b2_4 cM "largest" "I" (.int 1)) (m3 : Exa Z h0 b2_4 cM) (m4 : Fld Z h0 b2_4 cM "heads" "[J" (.ref b2_7)) (m5 : Fld Z h0 b2_4 cM "listed" "Z" (.int 1)) (m6 : Fld Z h0 b2_4 cM "freeBlocks" "[I" (.ref b2_5)) (m7 : Fld Z h0 b2_4 cM "pool" "[I" (.ref b2_8)) (ne_b2_4_b2_6 : b2_4 ≠ b2_6) (gg_b2_6 : n0 ≤ b2_6) (gg_b2_4 : n0 ≤ b2_4) :
    oM l y18 prog_10_method_19_code 3 none ws (⟨1, 0, 0, 14⟩ : Room) Z h0 #[(.ref b2_4), (.int 1), (.int 0)] (Q_rm18_1 Z b2_4 b2_6 k2_4 b2_7 b2_5 b2_8 h0 n0) := by
  refine own_enter (Q := Q_rm18_1 Z b2_4 b2_6 k2_4 b2_7 b2_5 b2_8 h0 n0) (plainFor_of_name pn_com_example_housemartin_housemartin_firm_Members) ?_
  intro p e s m below meth c s₁ G X0 hx hby hml hZ hown hnm hret e0 go fin
  replace hown : s.vm.findClass cM = some m.cls := hown
  replace hnm : meth.name = "recount" := hnm
  replace hml : c.maxLocals = 3 := hml
  rw [ef_18 m b2_4 _ _]
  have N0 := Fr.nil n0
  refine go (fun tg kg => XS.iloadN X0.here hx rfl (hb hby d18_0) rfl kg) ?_
  refine go (fun tg kg => XS.aloadN X0.here hx rfl (hb hby d18_1) rfl rfl kg) ?_
  obtain ⟨T3001, X3001, e3001, st3001⟩ := getF X0 hx hZ hown (host := "") (Or.inl (own_w hw 41 rfl)) Via.refl e0 m0 (g := (mkF m 2 #[rv b2_4, iv 1, iv 0] [(.ref b2_4), (.int 0)])) rfl rfl (hb hby d18_2)
  refine go st3001 ?_
  obtain ⟨cl3002, Ar3002, -, S3002, M3002, -, -⟩ := id m1
  refine go (fun tg kg => X3001.arraylength hx (by rw [e3001]; exact Ar3002.1) (State.isArrayOf_alike hZ.alike Ar3002.2.1) (g := (mkF m 5 #[rv b2_4, iv 1, iv 0] [(.ref b2_6), (.int 0)])) rfl rfl (hb hby d18_5) _ kg) ?_
  rw [len_of S3002 M3002]
  refine go (fun tg kg => XS.icmpYes X3001.here hx rfl (pc0 := 6) (pc' := 33) rfl (hb hby d18_6) rfl (tlt (by decide)).1 (by decide) (by decide) kg) ?_
  show G (T3001.setTop (mkF m 33 #[rv b2_4, iv 1, iv 0] []))
  refine go (fun tg kg => XS.iloadN X3001.here hx rfl (hb hby d18_33) rfl kg) ?_
  refine go (fun tg kg => XS.ifNo X3001.here hx rfl (hb hby d18_34) rfl ((if0 _ _).trans (tlt (by decide)).2.2.2) kg) ?_
  refine go (fun tg kg => XS.aloadN X3001.here hx rfl (hb hby d18_37) rfl rfl kg) ?_
  obtain ⟨T3003, X3003, e3003, st3003⟩ := getF X3001 hx hZ hown (host := "") (Or.inl (own_w hw 41 rfl)) Via.refl e3001 m0 (g := (mkF m 38 #[rv b2_4, iv 1, iv 0] [(.ref b2_4)])) rfl rfl (hb hby d18_38)
  refine go st3003 ?_
  refine go (fun tg kg => XS.iloadN X3003.here hx rfl (hb hby d18_41) rfl kg) ?_
  refine go (fun tg kg => Jvm.Free.XT.dup2 X3003.here hx rfl (hb hby d18_42) rfl rfl rfl kg) ?_
  show G (T3003.setTop (mkF m 43 #[rv b2_4, iv 1, iv 0] [(.int 1), (.ref b2_6), (.int 1), (.ref b2_6)]))
  obtain ⟨cl3004, Ar3004, q3004, S3004, M3004, H3004, U3004⟩ := id m1
  have hin3004 : ¬ ((1 : Int32) < 0 ∨ cl3004.slots.size ≤ ((1 : Int32)).toNatClampNeg) := inb_of S3004 ⟨by decide, by decide⟩
  refine go (fun tg kg => X3003.iaload hx (j := (1 : Int32)) (v := (.int 1)) (by rw [e3003]; exact Ar3004.1) (State.isArrayOf_alike hZ.alike Ar3004.2.1) Ar3004.2.2 hin3004 (H3004.at hin3004 rfl) (g := (mkF m 43 #[rv b2_4, iv 1, iv 0] [(.int 1), (.ref b2_6), (.int 1), (.ref b2_6)])) rfl rfl (hb hby d18_43) _ kg) ?_
  refine go (fun tg kg => XS.iconst X3003.here hx rfl (hb hby d18_44) kg) ?_
  refine go (fun tg kg => XS.isub X3003.here hx rfl (hb hby d18_45) rfl kg) ?_
  obtain ⟨cl3005, Ar3005, q3005, S3005, M3005, H3005, U3005⟩ := id m1
  have hin3005 : ¬ ((1 : Int32) < 0 ∨ cl3005.slots.size ≤ ((1 : Int32)).toNatClampNeg) := inb_of S3005 ⟨by decide, by decide⟩
  obtain ⟨T3005, h3005, X3005, e3005, W3005, st3005⟩ := stI X3003 hx hZ e3003 Ar3005 (j := (1 : Int32)) hin3005 (g := (mkF m 46 #[rv b2_4, iv 1, iv 0] [(.int 0), (.int 1), (.ref b2_6)])) rfl rfl (hb hby d18_46)
  refine go st3005 ?_
  have V3005 : Arv Z h3005 b2_6 k2_4 .int (2 : Int32) [(.int 0), (.int 0)] (.int 0) := Arv.set Ar3005 q3005 S3005 M3005 H3005 U3005 rfl W3005 1 rfl (Nat.le_of_ble_eq_true rfl)
  have N3005 := Fr.snoc X3005 N0 gg_b2_6
  have K3005 : Keep h0 h3005 [b2_6, b2_4] := (Keep.refl h0 [b2_6, b2_4]).wr W3005 (Or.inl (List.mem_of_getElem? (i := 0) rfl))
  have Z3005 := Nat.le_trans Z0 (Keep.of_wr W3005).1
  refine go (fun tg kg => XS.iloadN X3005.here hx rfl (hb hby d18_47) rfl kg) ?_
  refine go (fun tg kg => XS.ifYes X3005.here hx rfl (pc0 := 48) (pc' := 61) rfl (hb hby d18_48) rfl ((if0 _ _).trans (flt (by decide)).2.2.2) (by decide) (by decide) kg) ?_
  show G (T3005.setTop (mkF m 61 #[rv b2_4, iv 1, iv 0] []))
  refine go (fun tg kg => XS.aloadN X3005.here hx rfl (hb hby d18_61) rfl rfl kg) ?_
  refine go (fun tg kg => XS.aloadN X3005.here hx rfl (hb hby d18_62) rfl rfl kg) ?_
  have Fa3006 := (m2.other W3005 (Or.inl ne_b2_4_b2_6))
  obtain ⟨T3007, X3007, e3007, st3007⟩ := getF X3005 hx hZ hown (host := "") (Or.inl (own_w hw 132 rfl)) Via.refl e3005 Fa3006 (g := (mkF m 63 #[rv b2_4, iv 1, iv 0] [(.ref b2_4), (.ref b2_4)])) rfl rfl (hb hby d18_63)
  refine go st3007 ?_
  refine go (fun tg kg => XS.iloadN X3007.here hx rfl (hb hby d18_66) rfl kg) ?_
  obtain ⟨_, _, ⟨T3008, L3008, k3008, n3008⟩, -, X3008, ⟨Lc3008, hQ3008, l3008, y3008, z3008⟩, st3008⟩ := Jvm.LawKit.callS X3007 hx (y := y5) hown (mvT hZ (own_w hw 47 rfl)) (mvT hZ (own_w hw 48 rfl)) (mvT hZ (own_w hw 22 rfl)) (mvT hZ (own_w hw 49 rfl)) (by decide) (backOf (W := 1) (rm5_2 l Z a0 hw []  h3005 n0 Z3005 ) hZ (own_w hw 49 rfl) (own_w hw 22 rfl) (by decide) (by decide)) (g := (mkF m 67 #[rv b2_4, iv 1, iv 0] [(.int 0), (.int 1), (.ref b2_4)])) rfl (by rw [hml]; rfl) (argsL := [(.int 1), (.int 0)]) (rest := [(.ref b2_4)]) (lenOf pd__II_I rfl) rfl (by show 2 * 0 + _ ≤ _; exact Nat.le_of_eq rfl) (hb hby d18_67) (fun _ _ => ⟨rfl, e3007, (by decide : 0 + 0 ≤ _), (by decide : 0 + 0 ≤ _)⟩)
  dsimp only [Pt.U, Pt.locs, Pt.cells, Pt.slots] at X3008 l3008 y3008 z3008 st3008 hQ3008
  subst l3008 y3008 z3008
  obtain ⟨rfl, Nq3008, e3008⟩ := hQ3008
  have N3008 := Fr.app N3005 Nq3008
  refine go st3008 ?_
  have Fa3009 := (m3.wr W3005)
  obtain ⟨T3010, h3010, X3010, e3010, W3010, st3010⟩ := putF X3008 hx hZ hown (host := "") (Or.inl (own_w hw 132 rfl)) Via.refl e3008 Fa3006 Fa3009 (Or.inl (own_w hw 133 rfl)) (own_w hw 33 rfl) (ty := .int) (by decide) rfl rfl (g := (mkF m 70 #[rv b2_4, iv 1, iv 0] [(.int 1), (.ref b2_4)])) rfl rfl (hb hby d18_70)
  refine go st3010 ?_
  have Fw3010 : Fld Z h3010 b2_4 cM "largest" "I" (.int 1) := Fa3006.same W3010
  have N3010 := Fr.snoc X3010 N3008 gg_b2_4
  have K3010 : Keep h0 h3010 [b2_6, b2_4] := K3005.wr W3010 (Or.inl (List.mem_of_getElem? (i := 1) rfl))
  have Z3010 := Nat.le_trans Z3005 (Keep.of_wr W3010).1
  show G (T3010.setTop (mkF m 73 #[rv b2_4, iv 1, iv 0] []))
  refine go (fun tg kg => XS.aloadN X3010.here hx rfl (hb hby d18_73) rfl rfl kg) ?_
  obtain ⟨T3011, X3011, e3011, st3011⟩ := getF X3010 hx hZ hown (host := "") (Or.inl (own_w hw 132 rfl)) Via.refl e3010 Fw3010 (g := (mkF m 74 #[rv b2_4, iv 1, iv 0] [(.ref b2_4)])) rfl rfl (hb hby d18_74)
  refine go st3011 ?_
  refine go (fun tg kg => XS.ifNo X3011.here hx rfl (hb hby d18_77) rfl ((if0 _ _).trans (tlt (by decide)).2.2.2) kg) ?_
  refine go (fun tg kg => XS.aloadN X3011.here hx rfl (hb hby d18_80) rfl rfl kg) ?_
  have Fa3012 := (Fa3009.wr W3010)
  have Fa3013 := ((m0.other W3005 (Or.inl ne_b2_4_b2_6)).other W3010 (Or.inr (sn_firmsOfSize_largest hw)))
  obtain ⟨T3014, X3014, e3014, st3014⟩ := getF X3011 hx hZ hown (host := "") (Or.inl (own_w hw 41 rfl)) Via.refl e3011 Fa3013 (g := (mkF m 81 #[rv b2_4, iv 1, iv 0] [(.ref b2_4)])) rfl rfl (hb hby d18_81)
  refine go st3014 ?_
  refine go (fun tg kg => XS.aloadN X3014.here hx rfl (hb hby d18_84) rfl rfl kg) ?_
  show G (T3014.setTop (mkF m 85 #[rv b2_4, iv 1, iv 0] [(.ref b2_4), (.ref b2_6)]))
  obtain ⟨T3015, X3015, e3015, st3015⟩ := getF X3014 hx hZ hown (host := "") (Or.inl (own_w hw 132 rfl)) Via.refl e3014 Fw3010 (g := (mkF m 85 #[rv b2_4, iv 1, iv 0] [(.ref b2_4), (.ref b2_6)])) rfl rfl (hb hby d18_85)
  refine go st3015 ?_
  have Fa3016 := (V3005.other W3010 (Ne.symm ne_b2_4_b2_6))
  obtain ⟨cl3017, Ar3017, q3017, S3017, M3017, H3017, U3017⟩ := id Fa3016
  have hin3017 : ¬ ((1 : Int32) < 0 ∨ cl3017.slots.size ≤ ((1 : Int32)).toNatClampNeg) := inb_of S3017 ⟨by decide, by decide⟩
  refine go (fun tg kg => X3015.iaload hx (j := (1 : Int32)) (v := (.int 0)) (by rw [e3015]; exact Ar3017.1) (State.isArrayOf_alike hZ.alike Ar3017.2.1) Ar3017.2.2 hin3017 (H3017.at hin3017 rfl) (g := (mkF m 88 #[rv b2_4, iv 1, iv 0] [(.int 1), (.ref b2_6)])) rfl rfl (hb hby d18_88) _ kg) ?_
  refine go (fun tg kg => XS.ifNo X3015.here hx rfl (hb hby d18_89) rfl ((if0 _ _).trans (teq (by decide)).2) kg) ?_
  refine go (fun tg kg => XS.aloadN X3015.here hx rfl (hb hby d18_92) rfl rfl kg) ?_
  refine go (fun tg kg => XS.dup X3015.here hx rfl (hb hby d18_93) rfl rfl kg) ?_
  obtain ⟨T3018, X3018, e3018, st3018⟩ := getF X3015 hx hZ hown (host := "") (Or.inl (own_w hw 132 rfl)) Via.refl e3015 Fw3010 (g := (mkF m 94 #[rv b2_4, iv 1, iv 0] [(.ref b2_4), (.ref b2_4)])) rfl rfl (hb hby d18_94)
  refine go st3018 ?_
  show G (T3018.setTop (mkF m 97 #[rv b2_4, iv 1, iv 0] [(.int 1), (.ref b2_4)]))
  refine go (fun tg kg => XS.iconst X3018.here hx rfl (hb hby d18_97) kg) ?_
  refine go (fun tg kg => XS.isub X3018.here hx rfl (hb hby d18_98) rfl kg) ?_
  obtain ⟨T3019, h3019, X3019, e3019, W3019, st3019⟩ := putF X3018 hx hZ hown (host := "") (Or.inl (own_w hw 132 rfl)) Via.refl e3018 Fw3010 Fa3012 (Or.inl (own_w hw 133 rfl)) (own_w hw 33 rfl) (ty := .int) (by decide) rfl rfl (g := (mkF m 99 #[rv b2_4, iv 1, iv 0] [(.int 0), (.ref b2_4)])) rfl rfl (hb hby d18_99)
  refine go st3019 ?_
  have Fw3019 : Fld Z h3019 b2_4 cM "largest" "I" (.int 0) := Fw3010.same W3019
  have N3019 := Fr.snoc X3019 N3010 gg_b2_4
  have K3019 : Keep h0 h3019 [b2_6, b2_4] := K3010.wr W3019 (Or.inl (List.mem_of_getElem? (i := 1) rfl))
  have Z3019 := Nat.le_trans Z3010 (Keep.of_wr W3019).1
  refine go (fun tg kg => XS.goto X3019.here hx rfl (pc0 := 102) (pc' := 73) rfl (hb hby d18_102) (by decide) (by decide) kg) ?_
  refine go (fun tg kg => XS.aloadN X3019.here hx rfl (hb hby d18_73) rfl rfl kg) ?_
  obtain ⟨T3020, X3020, e3020, st3020⟩ := getF X3019 hx hZ hown (host := "") (Or.inl (own_w hw 132 rfl)) Via.refl e3019 Fw3019 (g := (mkF m 74 #[rv b2_4, iv 1, iv 0] [(.ref b2_4)])) rfl rfl (hb hby d18_74)
  refine go st3020 ?_
  show G (T3020.setTop (mkF m 77 #[rv b2_4, iv 1, iv 0] [(.int 0)]))
  refine go (fun tg kg => XS.ifYes X3020.here hx rfl (pc0 := 77) (pc' := 105) rfl (hb hby d18_77) rfl ((if0 _ _).trans (flt (by decide)).2.2.2) (by decide) (by decide) kg) ?_
  refine fin (none) X3020 (fun h => rfl) (fun fs hr => X3020.returnOut hx hret (hb hby d18_105) hr) (by decide) (by decide) ?_
  rw [e3020]
  have Fa3021 := (Fa3012.wr W3019)
  have Fa3022 := (Fa3013.other W3019 (Or.inr (sn_firmsOfSize_largest hw)))
  have Fa3023 := (Fa3016.other W3019 (Ne.symm ne_b2_4_b2_6))
  have Fa3024 := (((m4.other W3005 (Or.inl ne_b2_4_b2_6)).other W3010 (Or.inr (sn_heads_largest hw))).other W3019 (Or.inr (sn_heads_largest hw)))
  have Fa3025 := (((m5.other W3005 (Or.inl ne_b2_4_b2_6)).other W3010 (Or.inr (sn_listed_largest hw))).other W3019 (Or.inr (sn_listed_largest hw)))
  have Fa3026 := (((m6.other W3005 (Or.inl ne_b2_4_b2_6)).other W3010 (Or.inr (sn_freeBlocks_largest hw))).other W3019 (Or.inr (sn_freeBlocks_largest hw)))
  have Fa3027 := (((m7.other W3005 (Or.inl ne_b2_4_b2_6)).other W3010 (Or.inr (sn_pool_largest hw))).other W3019 (Or.inr (sn_pool_largest hw)))
  exact ⟨rfl, N3019, K3019, Fa3022, Fa3023, Fw3019, Fa3021, Fa3024, Fa3025, Fa3026, Fa3027⟩
theorem d23_292 : decode prog_10_method_8_code 292 = .ok (.return_, 1) := by decide +kernel
theorem ef_23 (m : MethodId) (x0 : Addr) (x1 : Int32) (x2 : Int32) : entryFrame m #[(.ref x0), (.int x1), (.int x2)] 10 = mkF m 0 #[.val (.ref x0), .val (.int x1), .val (.int x2), .unset, .unset, .unset, .unset, .unset, .unset, .unset] [] := by first | (simp [entryFrame, mkF, argsToLocals, Value.category]; done) | rfl
def Q_rm23_0 (Z : State) (b2_4 : Addr) (b2_7 : Addr) (k2_5 : ClassId) (b2_6 : Addr) (k2_4 : ClassId) (b2_5 : Addr) (b2_8 : Addr) (h0 : Heap) (n0 : Nat) (v : Option Value) (h : Heap) (L : List Loc) : Prop := v = none ∧ Fr n0 L ∧ Keep h0 h [b2_7, b2_6, b2_4] ∧ Exa Z h b2_4 cM ∧ Fld Z h b2_4 cM "heads" "[J" (.ref b2_7) ∧ Arv Z h b2_7 k2_5 .long 4 [(.long 7), (.long 0), (.long 0), (.long 0)] (.long 0) ∧ Fld Z h b2_4 cM "listed" "Z" (.int 1) ∧ Fld Z h b2_4 cM "firmsOfSize" "[I" (.ref b2_6) ∧ Arv Z h b2_6 k2_4 .int 2 [(.int 0), (.int 0)] (.int 0) ∧ Fld Z h b2_4 cM "largest" "I" (.int 0) ∧ Fld Z h b2_4 cM "freeBlocks" "[I" (.ref b2_5) ∧ Fld Z h b2_4 cM "pool" "[I" (.ref b2_8)
set_option maxRecDepth 65536 in
set_option maxHeartbeats 40000000 in
theorem rm23_0 (l : Launch) (Z : State) (a0 : Array Value) (hw : ∀ d ∈ tables_1, d.before a0 Z = true) (ws : List Jvm.Cond) (b2_4 : Addr) (b2_7 : Addr) (k2_5 : ClassId) (b2_6 : Addr) (k2_4 : ClassId) (b2_5 : Addr) (b2_8 : Addr) (h0 : Heap) (n0 : Nat) (Z0 : n0 ≤ h0.size) (m0 : Exa Z h0 b2_4 cM) (m1 : Fld Z h0 b2_4 cM "heads" "[J" (.ref b2_7)) (m2 : Arv Z h0 b2_7 k2_5 .long 4 [(.long 4294967303), (.long 0), (.long 0), (.long 0)] (.long 0)) (m3 : Fld Z h0 b2_4 cM "listed" "Z" (.int 1)) (m4 : Fld Z h0 b2_4 cM "firmsOfSize" "[I" (.ref b2_6)) (m5 : Arv Z h0 b2_6 k2_4 .int 2 [(.int 0), (.int 1)] (.int 0)) (m6 : Fld Z h0 b2_4 cM "largest" "I" (.int 1)) (m7 : Fld Z h0 b2_4 cM "freeBlocks" "[I" (.ref b2_5)) (m8 : Fld Z h0 b2_4 cM "pool" "[I" (.ref b2_8)) (ne_b2_4_b2_7 : b2_4 ≠ b2_7) (ne_b2_6_b2_7 : b2_6 ≠ b2_7) (ne_b2_4_b2_6 : b2_4 ≠ b2_6) (gg_b2_7 : n0 ≤ b2_7) (gg_b2_6 : n0 ≤ b2_6) (gg_b2_4 : n0 ≤ b2_4) :
    oM l y23 prog_10_method_8_code 10 none ws (⟨2, 0, 0, 28⟩ : Room) Z h0 #[(.ref b2_4), (.int 0), (.int 7)] (Q_rm23_0 Z b2_4 b2_7 k2_5 b2_6 k2_4 b2_5 b2_8 h0 n0) := by
  refine own_enter (Q := Q_rm23_0 Z b2_4 b2_7 k2_5 b2_6 k2_4 b2_5 b2_8 h0 n0) (plainFor_of_name pn_com_example_housemartin_housemartin_firm_Members) ?_
  intro p e s m below meth c s₁ G X0 hx hby hml hZ hown hnm hret e0 go fin
  replace hown : s.vm.findClass cM = some m.cls := hown
  replace hnm : meth.name = "remove" := hnm
  replace hml : c.maxLocals = 10 := hml
  rw [ef_23 m b2_4 _ _]
  have N0 := Fr.nil n0
  refine go (fun tg kg => XS.aloadN X0.here hx rfl (hb hby d23_0) rfl rfl kg) ?_
  refine go (fun tg kg => XS.iloadN X0.here hx rfl (hb hby d23_1) rfl kg) ?_
  obtain ⟨cq2001, kq2001, q2001a, q2001b, q2001c⟩ := isOf hZ e0 m0
  obtain ⟨_, _, ⟨T2001, L2001, k2001, n2001⟩, -, X2001, ⟨Lc2001, hQ2001, l2001, y2001, z2001⟩, st2001⟩ := X0.virtualBack hx (y := y16) (z := y16) hown (mvT hZ (own_w hw 118 rfl)) (mvT hZ (own_w hw 119 rfl)) (notFace_of_selects (args := #[]) (mvT hZ (own_w hw 121 rfl))) (mvT hZ (own_w hw 121 rfl)) (mvT hZ (own_w hw 120 rfl)) (by decide) (backOf (W := 0) (rm16_1 l Z a0 hw [] b2_4 b2_7 k2_5 h0 n0 Z0 m1 m2) hZ (own_w hw 122 rfl) (own_w hw 34 rfl) (by decide) (by decide)) q2001a q2001c (g := (mkF m 2 #[rv b2_4, iv 0, iv 7, .unset, .unset, .unset, .unset, .unset, .unset, .unset] [(.int 0), (.ref b2_4)])) rfl (by rw [hml]; rfl) (Steps.refl _) (argsL := [(.int 0)]) (rest := []) (lenOf pd__I_I rfl) rfl (by show 2 * 0 + _ ≤ _; exact Nat.le_of_eq rfl) (hb hby d23_2) (fun _ _ => ⟨rfl, e0, (by decide : 0 + 0 ≤ _), (by decide : 0 + 0 ≤ _)⟩)
  dsimp only [Pt.U, Pt.locs, Pt.cells, Pt.slots] at X2001 l2001 y2001 z2001 st2001 hQ2001
  subst l2001 y2001 z2001
  obtain ⟨rfl, Nq2001, e2001⟩ := hQ2001
  have N2001 := Fr.app N0 Nq2001
  refine go (fun tg kg => st2001.trans kg) ?_
  refine go (fun tg kg => XS.istoreN X2001.here hx rfl (hb hby d23_5) rfl (l' := #[rv b2_4, iv 0, iv 7, iv 1, .unset, .unset, .unset, .unset, .unset, .unset]) rfl kg) ?_
  refine go (fun tg kg => XS.aloadN X2001.here hx rfl (hb hby d23_6) rfl rfl kg) ?_
  show G (T2001.setTop (mkF m 7 #[rv b2_4, iv 0, iv 7, iv 1, .unset, .unset, .unset, .unset, .unset, .unset] [(.ref b2_4)]))
  refine go (fun tg kg => XS.iloadN X2001.here hx rfl (hb hby d23_7) rfl kg) ?_
  obtain ⟨cq2002, q2002, q2002'⟩ := m0.cell
  obtain ⟨_, _, ⟨T2002, L2002, k2002, n2002⟩, -, X2002, ⟨Lc2002, hQ2002, l2002, y2002, z2002⟩, st2002⟩ := X2001.privateBack hx (y := y24) hown (mvT hZ (own_w hw 155 rfl)) (mvT hZ (own_w hw 156 rfl)) (own_selp hZ (own_w hw 33 rfl) (own_w hw 157 rfl) (own_w hw 156 rfl) (by decide)) (Cond.privateMethod_at (mvP hZ (own_w hw 157 rfl) (args := #[]))) (mvT hZ (own_w hw 158 rfl)) (by decide) (backOf (W := 0) (rm24_0 l Z a0 hw [] b2_4 b2_7 k2_5 h0 n0 Z0 m1 m2) hZ (own_w hw 158 rfl) (own_w hw 34 rfl) (by decide) (by decide)) (g := (mkF m 8 #[rv b2_4, iv 0, iv 7, iv 1, .unset, .unset, .unset, .unset, .unset, .unset] [(.int 0), (.ref b2_4)])) rfl (by rw [hml]; rfl) (Steps.refl _) (a := b2_4) (by rw [e2001]; exact q2002) q2002' (argsL := [(.int 0)]) (rest := []) (lenOf pd__I_I rfl) rfl (by show 2 * 0 + _ ≤ _; exact Nat.le_of_eq rfl) (hb hby d23_8) (fun _ _ => ⟨rfl, e2001, (by decide : 0 + 0 ≤ _), (by decide : 0 + 0 ≤ _)⟩)
  dsimp only [Pt.U, Pt.locs, Pt.cells, Pt.slots] at X2002 l2002 y2002 z2002 st2002 hQ2002
  subst l2002 y2002 z2002
  obtain ⟨rfl, Nq2002, e2002⟩ := hQ2002
  have N2002 := Fr.app N2001 Nq2002
  refine go (fun tg kg => st2002.trans kg) ?_
  refine go (fun tg kg => XS.istore X2002.here hx rfl (hb hby d23_11) rfl (l' := #[rv b2_4, iv 0, iv 7, iv 1, iv 7, .unset, .unset, .unset, .unset, .unset]) rfl kg) ?_
  refine go (fun tg kg => XS.aloadN X2002.here hx rfl (hb hby d23_13) rfl rfl kg) ?_
  obtain ⟨T2003, X2003, e2003, st2003⟩ := getF X2002 hx hZ hown (host := "") (Or.inl (own_w hw 43 rfl)) Via.refl e2002 m3 (g := (mkF m 14 #[rv b2_4, iv 0, iv 7, iv 1, iv 7, .unset, .unset, .unset, .unset, .unset] [(.ref b2_4)])) rfl rfl (hb hby d23_14)
  refine go st2003 ?_
  refine go (fun tg kg => XS.ifYes X2003.here hx rfl (pc0 := 17) (pc' := 26) rfl (hb hby d23_17) rfl ((if0 _ _).trans (feq (by decide)).2) (by decide) (by decide) kg) ?_
  show G (T2003.setTop (mkF m 26 #[rv b2_4, iv 0, iv 7, iv 1, iv 7, .unset, .unset, .unset, .unset, .unset] []))
  refine go (fun tg kg => XS.iloadN X2003.here hx rfl (hb hby d23_26) rfl kg) ?_
  refine go (fun tg kg => XS.iconst X2003.here hx rfl (hb hby d23_27) kg) ?_
  refine go (fun tg kg => XS.icmpYes X2003.here hx rfl (pc0 := 28) (pc' := 112) rfl (hb hby d23_28) rfl (feq (by decide)).2 (by decide) (by decide) kg) ?_
  refine go (fun tg kg => XS.iloadN X2003.here hx rfl (hb hby d23_112) rfl kg) ?_
  refine go (fun tg kg => XS.iconst X2003.here hx rfl (hb hby d23_113) kg) ?_
  refine go (fun tg kg => XS.icmpYes X2003.here hx rfl (pc0 := 114) (pc' := 274) rfl (hb hby d23_114) rfl (flt (by decide)).2.2.2 (by decide) (by decide) kg) ?_
  show G (T2003.setTop (mkF m 274 #[rv b2_4, iv 0, iv 7, iv 1, iv 7, .unset, .unset, .unset, .unset, .unset] []))
  refine go (fun tg kg => XS.aloadN X2003.here hx rfl (hb hby d23_274) rfl rfl kg) ?_
  refine go (fun tg kg => XS.iloadN X2003.here hx rfl (hb hby d23_275) rfl kg) ?_
  refine go (fun tg kg => XS.iloadN X2003.here hx rfl (hb hby d23_276) rfl kg) ?_
  refine go (fun tg kg => XS.iconst X2003.here hx rfl (hb hby d23_277) kg) ?_
  refine go (fun tg kg => XS.isub X2003.here hx rfl (hb hby d23_278) rfl kg) ?_
  refine go (fun tg kg => XS.iload X2003.here hx rfl (hb hby d23_279) rfl kg) ?_
  show G (T2003.setTop (mkF m 281 #[rv b2_4, iv 0, iv 7, iv 1, iv 7, .unset, .unset, .unset, .unset, .unset] [(.int 7), (.int 0), (.int 0), (.ref b2_4)]))
  obtain ⟨cq2004, q2004, q2004'⟩ := m0.cell
  obtain ⟨_, _, ⟨T2004, L2004, k2004, n2004⟩, -, X2004, ⟨Lc2004, hQ2004, l2004, y2004, z2004⟩, st2004⟩ := X2003.privateBack hx (y := y17) hown (mvT hZ (own_w hw 123 rfl)) (mvT hZ (own_w hw 124 rfl)) (own_selp hZ (own_w hw 33 rfl) (own_w hw 125 rfl) (own_w hw 124 rfl) (by decide)) (Cond.privateMethod_at (mvP hZ (own_w hw 125 rfl) (args := #[]))) (mvT hZ (own_w hw 126 rfl)) (by decide) (backOf (W := 0) (rm17_1 l Z a0 hw [] b2_4 b2_7 k2_5 h0 n0 Z0 m1 m2 gg_b2_7) hZ (own_w hw 126 rfl) (own_w hw 34 rfl) (by decide) (by decide)) (g := (mkF m 281 #[rv b2_4, iv 0, iv 7, iv 1, iv 7, .unset, .unset, .unset, .unset, .unset] [(.int 7), (.int 0), (.int 0), (.ref b2_4)])) rfl (by rw [hml]; rfl) (Steps.refl _) (a := b2_4) (by rw [e2003]; exact q2004) q2004' (argsL := [(.int 0), (.int 0), (.int 7)]) (rest := []) (lenOf pd__III_V rfl) rfl (by show 2 * 0 + _ ≤ _; exact Nat.le_of_eq rfl) (hb hby d23_281) (fun _ _ => ⟨rfl, e2003, (by decide : 0 + 0 ≤ _), (by decide : 0 + 0 ≤ _)⟩)
  dsimp only [Pt.U, Pt.locs, Pt.cells, Pt.slots] at X2004 l2004 y2004 z2004 st2004 hQ2004
  subst l2004 y2004 z2004
  obtain ⟨rfl, Nq2004, K2004, Gf2004_0⟩ := hQ2004
  have Kk2004 : Keep h0 T2004.heap [b2_7, b2_6, b2_4] := (Keep.refl h0 [b2_7, b2_6, b2_4]).trans K2004 (allS (Or.inl (List.mem_of_getElem? (i := 0) rfl)) all0)
  have Z2004 := Nat.le_trans Z0 K2004.1
  have N2004 := Fr.app N2002 Nq2004
  refine go (fun tg kg => st2004.trans kg) ?_
  refine go (fun tg kg => XS.aloadN X2004.here hx rfl (hb hby d23_284) rfl rfl kg) ?_
  refine go (fun tg kg => XS.iloadN X2004.here hx rfl (hb hby d23_285) rfl kg) ?_
  refine go (fun tg kg => XS.iloadN X2004.here hx rfl (hb hby d23_286) rfl kg) ?_
  refine go (fun tg kg => XS.iconst X2004.here hx rfl (hb hby d23_287) kg) ?_
  refine go (fun tg kg => XS.isub X2004.here hx rfl (hb hby d23_288) rfl kg) ?_
  show G (T2004.setTop (mkF m 289 #[rv b2_4, iv 0, iv 7, iv 1, iv 7, .unset, .unset, .unset, .unset, .unset] [(.int 0), (.int 1), (.ref b2_4)]))
  have Fa2005 := (m0.keep K2004)
  have Fa2006 := (m4.keep K2004 (ninS ne_b2_4_b2_7 nin0))
  have Fa2007 := (m5.keep K2004 (ninS ne_b2_6_b2_7 nin0))
  have Fa2008 := (m6.keep K2004 (ninS ne_b2_4_b2_7 nin0))
  have Fa2009 := (m1.keep K2004 (ninS ne_b2_4_b2_7 nin0))
  have Fa2010 := (m3.keep K2004 (ninS ne_b2_4_b2_7 nin0))
  have Fa2011 := (m7.keep K2004 (ninS ne_b2_4_b2_7 nin0))
  have Fa2012 := (m8.keep K2004 (ninS ne_b2_4_b2_7 nin0))
  obtain ⟨cq2013, q2013, q2013'⟩ := Fa2005.cell
  obtain ⟨_, _, ⟨T2013, L2013, k2013, n2013⟩, -, X2013, ⟨Lc2013, hQ2013, l2013, y2013, z2013⟩, st2013⟩ := X2004.privateBack hx (y := y18) hown (mvT hZ (own_w hw 128 rfl)) (mvT hZ (own_w hw 129 rfl)) (own_selp hZ (own_w hw 33 rfl) (own_w hw 130 rfl) (own_w hw 129 rfl) (by decide)) (Cond.privateMethod_at (mvP hZ (own_w hw 130 rfl) (args := #[]))) (mvT hZ (own_w hw 131 rfl)) (by decide) (backOf (W := 0) (rm18_1 l Z a0 hw [] b2_4 b2_6 k2_4 b2_7 b2_5 b2_8 T2004.heap n0 Z2004 Fa2006 Fa2007 Fa2008 Fa2005 Fa2009 Fa2010 Fa2011 Fa2012 ne_b2_4_b2_6 gg_b2_6 gg_b2_4) hZ (own_w hw 131 rfl) (own_w hw 34 rfl) (by decide) (by decide)) (g := (mkF m 289 #[rv b2_4, iv 0, iv 7, iv 1, iv 7, .unset, .unset, .unset, .unset, .unset] [(.int 0), (.int 1), (.ref b2_4)])) rfl (by rw [hml]; rfl) (Steps.refl _) (a := b2_4) q2013 q2013' (argsL := [(.int 1), (.int 0)]) (rest := []) (lenOf pd__II_V rfl) rfl (by show 2 * 0 + _ ≤ _; exact Nat.le_of_eq rfl) (hb hby d23_289) (fun _ _ => ⟨rfl, rfl, (by decide : 0 + 0 ≤ _), (by decide : 0 + 0 ≤ _)⟩)
  dsimp only [Pt.U, Pt.locs, Pt.cells, Pt.slots] at X2013 l2013 y2013 z2013 st2013 hQ2013
  subst l2013 y2013 z2013
  obtain ⟨rfl, Nq2013, K2013, Gf2013_0, Gf2013_1, Gf2013_2, Gf2013_3, Gf2013_4, Gf2013_5, Gf2013_6, Gf2013_7⟩ := hQ2013
  have Kk2013 : Keep h0 T2013.heap [b2_7, b2_6, b2_4] := Kk2004.trans K2013 (allS (Or.inl (List.mem_of_getElem? (i := 1) rfl)) (allS (Or.inl (List.mem_of_getElem? (i := 2) rfl)) all0))
  have Z2013 := Nat.le_trans Z2004 K2013.1
  have N2013 := Fr.app N2004 Nq2013
  refine go (fun tg kg => st2013.trans kg) ?_
  refine fin (none) X2013 (fun h => rfl) (fun fs hr => X2013.returnOut hx hret (hb hby d23_292) hr) (by decide) (by decide) ?_
  have Fa2014 := (Gf2004_0.keep K2013 (ninS (Ne.symm ne_b2_6_b2_7) (ninS (Ne.symm ne_b2_4_b2_7) nin0)))
  exact ⟨rfl, N2013, Kk2013, Gf2013_3, Gf2013_4, Fa2014, Gf2013_5, Gf2013_0, Gf2013_1, Gf2013_2, Gf2013_6, Gf2013_7⟩
theorem d22_9 : decode prog_8_method_4_code 9 = .ok (.aload_n 0, 1) := by decide +kernel
theorem d22_10 : decode prog_8_method_4_code 10 = .ok (.iload_n 1, 1) := by decide +kernel
theorem d22_11 : decode prog_8_method_4_code 11 = .ok (.dload_n 3, 1) := by decide +kernel
theorem d22_12 : decode prog_8_method_4_code 12 = .ok (.dneg, 1) := by decide +kernel
theorem d22_13 : decode prog_8_method_4_code 13 = .ok (.invokevirtual 66, 3) := by decide +kernel
def Q_rm20_1 (Z : State) (b1 : Addr) (b2_9 : Addr) (k2_7 : ClassId) (h0 : Heap) (n0 : Nat) (v : Option Value) (h : Heap) (L : List Loc) : Prop := v = none ∧ Fr n0 L ∧ Keep h0 h [b2_9] ∧ Arv Z h b2_9 k2_7 .long 1 [(.long 1)] (.long 0)
set_option maxRecDepth 65536 in
set_option maxHeartbeats 40000000 in
theorem rm20_1 (l : Launch) (Z : State) (a0 : Array Value) (hw : ∀ d ∈ tables_1, d.before a0 Z = true) (ws : List Jvm.Cond) (b1 : Addr) (b2_9 : Addr) (k2_7 : ClassId) (h0 : Heap) (n0 : Nat) (Z0 : n0 ≤ h0.size) (m0 : Fld Z h0 b1 cF "changedNow" "[J" (.ref b2_9)) (m1 : Arv Z h0 b2_9 k2_7 .long 1 [(.long 1)] (.long 0)) (gg_b2_9 : n0 ≤ b2_9) :
    oM l y20 prog_8_method_26_code 2 none ws (⟨0, 0, 0, 0⟩ : Room) Z h0 #[(.ref b1), (.int 0)] (Q_rm20_1 Z b1 b2_9 k2_7 h0 n0) := by
  refine own_enter (Q := Q_rm20_1 Z b1 b2_9 k2_7 h0 n0) (plainFor_of_name pn_com_example_housemartin_housemartin_firm_FirmSlots) ?_
  intro p e s m below meth c s₁ G X0 hx hby hml hZ hown hnm hret e0 go fin
  replace hown : s.vm.findClass cF = some m.cls := hown
  replace hnm : meth.name = "markChanged" := hnm
  replace hml : c.maxLocals = 2 := hml
  rw [ef_20 m b1 _]
  have N0 := Fr.nil n0
  refine go (fun tg kg => XS.aloadN X0.here hx rfl (hb hby d20_0) rfl rfl kg) ?_
  obtain ⟨T3001, X3001, e3001, st3001⟩ := getF X0 hx hZ hown (host := "") (Or.inl (own_w hw 58 rfl)) Via.refl e0 m0 (g := (mkF m 1 #[rv b1, iv 0] [(.ref b1)])) rfl rfl (hb hby d20_1)
  refine go st3001 ?_
  refine go (fun tg kg => XS.iloadN X3001.here hx rfl (hb hby d20_4) rfl kg) ?_
  refine go (fun tg kg => XS.bipush X3001.here hx rfl (hb hby d20_5) kg) ?_
  refine go (fun tg kg => XS.iushr X3001.here hx rfl (hb hby d20_7) rfl kg) ?_
  show G (T3001.setTop (mkF m 8 #[rv b1, iv 0] [(.int (((0 : Int32).toUInt32 >>> ((6 : Int32) &&& 31).toUInt32).toInt32)), (.ref b2_9)]))
  rw [show (((0 : Int32).toUInt32 >>> ((6 : Int32) &&& 31).toUInt32).toInt32) = (0 : Int32) from by decide]
  show G (T3001.setTop (mkF m 8 #[rv b1, iv 0] [(.int 0), (.ref b2_9)]))
  refine go (fun tg kg => Jvm.Free.XT.dup2 X3001.here hx rfl (hb hby d20_8) rfl rfl rfl kg) ?_
  show G (T3001.setTop (mkF m 9 #[rv b1, iv 0] [(.int 0), (.ref b2_9), (.int 0), (.ref b2_9)]))
  obtain ⟨cl3002, Ar3002, q3002, S3002, M3002, H3002, U3002⟩ := id m1
  have hin3002 : ¬ ((0 : Int32) < 0 ∨ cl3002.slots.size ≤ ((0 : Int32)).toNatClampNeg) := inb_of S3002 ⟨by decide, by decide⟩
  refine go (fun tg kg => X3001.laload hx (j := (0 : Int32)) (v := (.long 1)) (by rw [e3001]; exact Ar3002.1) (State.isArrayOf_alike hZ.alike Ar3002.2.1) Ar3002.2.2 hin3002 (H3002.at hin3002 rfl) (g := (mkF m 9 #[rv b1, iv 0] [(.int 0), (.ref b2_9), (.int 0), (.ref b2_9)])) rfl rfl (hb hby d20_9) _ kg) ?_
  refine go (fun tg kg => XS.lconst X3001.here hx rfl (hb hby d20_10) kg) ?_
  refine go (fun tg kg => XS.iloadN X3001.here hx rfl (hb hby d20_11) rfl kg) ?_
  refine go (fun tg kg => XS.lshl X3001.here hx rfl (hb hby d20_12) rfl kg) ?_
  show G (T3001.setTop (mkF m 13 #[rv b1, iv 0] [(.long ((1 : Int64) <<< ((0 : Int32) &&& 0x3f).toInt64)), (.long 1), (.int 0), (.ref b2_9)]))
  rw [show ((1 : Int64) <<< ((0 : Int32) &&& 0x3f).toInt64) = (1 : Int64) from by decide]
  show G (T3001.setTop (mkF m 13 #[rv b1, iv 0] [(.long 1), (.long 1), (.int 0), (.ref b2_9)]))
  refine go (fun tg kg => XS.lor X3001.here hx rfl (hb hby d20_13) rfl kg) ?_
  show G (T3001.setTop (mkF m 14 #[rv b1, iv 0] [(.long ((1 : Int64) ||| (1 : Int64))), (.int 0), (.ref b2_9)]))
  rw [show ((1 : Int64) ||| (1 : Int64)) = (1 : Int64) from by decide]
  show G (T3001.setTop (mkF m 14 #[rv b1, iv 0] [(.long 1), (.int 0), (.ref b2_9)]))
  obtain ⟨cl3003, Ar3003, q3003, S3003, M3003, H3003, U3003⟩ := id m1
  have hin3003 : ¬ ((0 : Int32) < 0 ∨ cl3003.slots.size ≤ ((0 : Int32)).toNatClampNeg) := inb_of S3003 ⟨by decide, by decide⟩
  obtain ⟨T3003, h3003, X3003, e3003, W3003, st3003⟩ := stJ X3001 hx hZ e3001 Ar3003 (j := (0 : Int32)) hin3003 (g := (mkF m 14 #[rv b1, iv 0] [(.long 1), (.int 0), (.ref b2_9)])) rfl rfl (hb hby d20_14)
  refine go st3003 ?_
  have V3003 : Arv Z h3003 b2_9 k2_7 .long (1 : Int32) [(.long 1)] (.long 0) := Arv.set Ar3003 q3003 S3003 M3003 H3003 U3003 rfl W3003 0 rfl (Nat.le_of_ble_eq_true rfl)
  have N3003 := Fr.snoc X3003 N0 gg_b2_9
  have K3003 : Keep h0 h3003 [b2_9] := (Keep.refl h0 [b2_9]).wr W3003 (Or.inl (List.mem_of_getElem? (i := 0) rfl))
  have Z3003 := Nat.le_trans Z0 (Keep.of_wr W3003).1
  refine fin (none) X3003 (fun h => rfl) (fun fs hr => X3003.returnOut hx hret (hb hby d20_15) hr) (by decide) (by decide) ?_
  rw [e3003]
  exact ⟨rfl, N3003, K3003, V3003⟩
def Q_rm21_2 (Z : State)  (h0 : Heap) (n0 : Nat) (v : Option Value) (h : Heap) (L : List Loc) : Prop := v = some (dl 0) ∧ Fr n0 L ∧ h = h0
set_option maxRecDepth 65536 in
set_option maxHeartbeats 40000000 in
theorem rm21_2 (l : Launch) (Z : State) (a0 : Array Value) (hw : ∀ d ∈ tables_1, d.before a0 Z = true) (ws : List Jvm.Cond)  (h0 : Heap) (n0 : Nat) (Z0 : n0 ≤ h0.size) :
    oM l y21 prog_8_method_27_code 10 (some .double) ws (⟨0, 0, 0, 0⟩ : Room) Z h0 #[(dl 1), (dl (-1)), (dl 0)] (Q_rm21_2 Z  h0 n0) := by
  refine own_enter (Q := Q_rm21_2 Z  h0 n0) (plainFor_of_name pn_com_example_housemartin_housemartin_firm_FirmSlots) ?_
  intro p e s m below meth c s₁ G X0 hx hby hml hZ hown hnm hret e0 go fin
  replace hown : s.vm.findClass cF = some m.cls := hown
  replace hnm : meth.name = "roundingError" := hnm
  replace hml : c.maxLocals = 10 := hml
  rw [ef_21 m _ _ _]
  have N0 := Fr.nil n0
  refine go (fun tg kg => XS.dload X0.here hx rfl (hb hby d21_0) rfl kg) ?_
  refine go (fun tg kg => XS.dloadN X0.here hx rfl (hb hby d21_2) rfl kg) ?_
  refine go (fun tg kg => XS.dsubS X0.here hx rfl (hb hby d21_3) rfl (nn_w (own_dsub (a := 0) (b := 1) (c := -1) (by decide) (by decide) (by decide))) (own_dsub (a := 0) (b := 1) (c := -1) (by decide) (by decide) (by decide)) kg) ?_
  refine go (fun tg kg => XS.dstore X0.here hx rfl (hb hby d21_4) rfl (l' := #[dv 1, .second, dv (-1), .second, dv 0, .second, dv (-1), .second, .unset, .unset]) rfl kg) ?_
  refine go (fun tg kg => XS.dload X0.here hx rfl (hb hby d21_6) rfl kg) ?_
  show G (s₁.setTop (mkF m 8 #[dv 1, .second, dv (-1), .second, dv 0, .second, dv (-1), .second, .unset, .unset] [(dl 0)]))
  refine go (fun tg kg => XS.dload X0.here hx rfl (hb hby d21_8) rfl kg) ?_
  refine go (fun tg kg => XS.dsubS X0.here hx rfl (hb hby d21_10) rfl (nn_w (own_dsub (a := 0) (b := -1) (c := 1) (by decide) (by decide) (by decide))) (own_dsub (a := 0) (b := -1) (c := 1) (by decide) (by decide) (by decide)) kg) ?_
  refine go (fun tg kg => XS.dstore X0.here hx rfl (hb hby d21_11) rfl (l' := #[dv 1, .second, dv (-1), .second, dv 0, .second, dv (-1), .second, dv 1, .second]) rfl kg) ?_
  refine go (fun tg kg => XS.dloadN X0.here hx rfl (hb hby d21_13) rfl kg) ?_
  refine go (fun tg kg => XS.dload X0.here hx rfl (hb hby d21_14) rfl kg) ?_
  refine go (fun tg kg => XS.dsubS X0.here hx rfl (hb hby d21_16) rfl (nn_w (own_dsub (a := 1) (b := 1) (c := 0) (by decide) (by decide) (by decide))) (own_dsub (a := 1) (b := 1) (c := 0) (by decide) (by decide) (by decide)) kg) ?_
  show G (s₁.setTop (mkF m 17 #[dv 1, .second, dv (-1), .second, dv 0, .second, dv (-1), .second, dv 1, .second] [(dl 0)]))
  refine go (fun tg kg => XS.dloadN X0.here hx rfl (hb hby d21_17) rfl kg) ?_
  refine go (fun tg kg => XS.dload X0.here hx rfl (hb hby d21_18) rfl kg) ?_
  refine go (fun tg kg => XS.dsubS X0.here hx rfl (hb hby d21_20) rfl (nn_w (own_dsub (a := -1) (b := -1) (c := 0) (by decide) (by decide) (by decide))) (own_dsub (a := -1) (b := -1) (c := 0) (by decide) (by decide) (by decide)) kg) ?_
  refine go (fun tg kg => XS.daddS X0.here hx rfl (hb hby d21_21) rfl (nn_w (own_dadd (a := 0) (b := 0) (c := 0) (by decide) (by decide) (by decide))) (own_dadd (a := 0) (b := 0) (c := 0) (by decide) (by decide) (by decide)) kg) ?_
  refine fin (some (dl 0)) X0 (fun h => absurd h (by decide)) (fun fs hr => retOut X0 hx hret rfl (Or.inr (Or.inr (Or.inl ⟨rfl, rfl, _, rfl⟩))) (hb hby d21_22) hr) (by decide) (by decide) ?_
  rw [e0]
  exact ⟨rfl, N0, rfl⟩
def Q_rm21_3 (Z : State)  (h0 : Heap) (n0 : Nat) (v : Option Value) (h : Heap) (L : List Loc) : Prop := v = some (dl 0) ∧ Fr n0 L ∧ h = h0
set_option maxRecDepth 65536 in
set_option maxHeartbeats 40000000 in
theorem rm21_3 (l : Launch) (Z : State) (a0 : Array Value) (hw : ∀ d ∈ tables_1, d.before a0 Z = true) (ws : List Jvm.Cond)  (h0 : Heap) (n0 : Nat) (Z0 : n0 ≤ h0.size) :
    oM l y21 prog_8_method_27_code 10 (some .double) ws (⟨0, 0, 0, 0⟩ : Room) Z h0 #[(dl 0), (dl 0), (dl 0)] (Q_rm21_3 Z  h0 n0) := by
  refine own_enter (Q := Q_rm21_3 Z  h0 n0) (plainFor_of_name pn_com_example_housemartin_housemartin_firm_FirmSlots) ?_
  intro p e s m below meth c s₁ G X0 hx hby hml hZ hown hnm hret e0 go fin
  replace hown : s.vm.findClass cF = some m.cls := hown
  replace hnm : meth.name = "roundingError" := hnm
  replace hml : c.maxLocals = 10 := hml
  rw [ef_21 m _ _ _]
  have N0 := Fr.nil n0
  refine go (fun tg kg => XS.dload X0.here hx rfl (hb hby d21_0) rfl kg) ?_
  refine go (fun tg kg => XS.dloadN X0.here hx rfl (hb hby d21_2) rfl kg) ?_
  refine go (fun tg kg => XS.dsubS X0.here hx rfl (hb hby d21_3) rfl (nn_w (own_dsub (a := 0) (b := 0) (c := 0) (by decide) (by decide) (by decide))) (own_dsub (a := 0) (b := 0) (c := 0) (by decide) (by decide) (by decide)) kg) ?_
  refine go (fun tg kg => XS.dstore X0.here hx rfl (hb hby d21_4) rfl (l' := #[dv 0, .second, dv 0, .second, dv 0, .second, dv 0, .second, .unset, .unset]) rfl kg) ?_
  refine go (fun tg kg => XS.dload X0.here hx rfl (hb hby d21_6) rfl kg) ?_
  show G (s₁.setTop (mkF m 8 #[dv 0, .second, dv 0, .second, dv 0, .second, dv 0, .second, .unset, .unset] [(dl 0)]))
  refine go (fun tg kg => XS.dload X0.here hx rfl (hb hby d21_8) rfl kg) ?_
  refine go (fun tg kg => XS.dsubS X0.here hx rfl (hb hby d21_10) rfl (nn_w (own_dsub (a := 0) (b := 0) (c := 0) (by decide) (by decide) (by decide))) (own_dsub (a := 0) (b := 0) (c := 0) (by decide) (by decide) (by decide)) kg) ?_
  refine go (fun tg kg => XS.dstore X0.here hx rfl (hb hby d21_11) rfl (l' := #[dv 0, .second, dv 0, .second, dv 0, .second, dv 0, .second, dv 0, .second]) rfl kg) ?_
  refine go (fun tg kg => XS.dloadN X0.here hx rfl (hb hby d21_13) rfl kg) ?_
  refine go (fun tg kg => XS.dload X0.here hx rfl (hb hby d21_14) rfl kg) ?_
  refine go (fun tg kg => XS.dsubS X0.here hx rfl (hb hby d21_16) rfl (nn_w (own_dsub (a := 0) (b := 0) (c := 0) (by decide) (by decide) (by decide))) (own_dsub (a := 0) (b := 0) (c := 0) (by decide) (by decide) (by decide)) kg) ?_
  show G (s₁.setTop (mkF m 17 #[dv 0, .second, dv 0, .second, dv 0, .second, dv 0, .second, dv 0, .second] [(dl 0)]))
  refine go (fun tg kg => XS.dloadN X0.here hx rfl (hb hby d21_17) rfl kg) ?_
  refine go (fun tg kg => XS.dload X0.here hx rfl (hb hby d21_18) rfl kg) ?_
  refine go (fun tg kg => XS.dsubS X0.here hx rfl (hb hby d21_20) rfl (nn_w (own_dsub (a := 0) (b := 0) (c := 0) (by decide) (by decide) (by decide))) (own_dsub (a := 0) (b := 0) (c := 0) (by decide) (by decide) (by decide)) kg) ?_
  refine go (fun tg kg => XS.daddS X0.here hx rfl (hb hby d21_21) rfl (nn_w (own_dadd (a := 0) (b := 0) (c := 0) (by decide) (by decide) (by decide))) (own_dadd (a := 0) (b := 0) (c := 0) (by decide) (by decide) (by decide)) kg) ?_
  refine fin (some (dl 0)) X0 (fun h => absurd h (by decide)) (fun fs hr => retOut X0 hx hret rfl (Or.inr (Or.inr (Or.inl ⟨rfl, rfl, _, rfl⟩))) (hb hby d21_22) hr) (by decide) (by decide) ?_
  rw [e0]
  exact ⟨rfl, N0, rfl⟩
def Q_rm19_1 (Z : State) (b1 : Addr) (b2_9 : Addr) (k2_7 : ClassId) (b2_0 : Addr) (k2_0 : ClassId) (b2_1 : Addr) (k2_1 : ClassId) (h0 : Heap) (n0 : Nat) (v : Option Value) (h : Heap) (L : List Loc) : Prop := v = none ∧ Fr n0 L ∧ Keep h0 h [b2_9, b2_1] ∧ Arv Z h b2_9 k2_7 .long 1 [(.long 1)] (.long 0) ∧ Arv Z h b2_1 k2_1 .double 20 [(dl 1), (dl 2), (dl 3), (dl 0), (dl 0), (dl 4), (dl 5), (dl 6), (dl 0), (dl 0), (dl 0), (dl 0), (dl 0), (dl 0), (dl 0), (dl 0), (dl 0), (dl 0), (dl 0), (dl 0)] (dl 0) ∧ Exa Z h b2_1 "[D"
set_option maxRecDepth 65536 in
set_option maxHeartbeats 40000000 in
theorem rm19_1 (l : Launch) (Z : State) (a0 : Array Value) (hw : ∀ d ∈ tables_1, d.before a0 Z = true) (ws : List Jvm.Cond) (b1 : Addr) (b2_9 : Addr) (k2_7 : ClassId) (b2_0 : Addr) (k2_0 : ClassId) (b2_1 : Addr) (k2_1 : ClassId) (h0 : Heap) (n0 : Nat) (Z0 : n0 ≤ h0.size) (m0 : Exa Z h0 b1 cF) (m1 : Fld Z h0 b1 cF "changedNow" "[J" (.ref b2_9)) (m2 : Arv Z h0 b2_9 k2_7 .long 1 [(.long 1)] (.long 0)) (m3 : Fld Z h0 b1 cF "pages" "[[D" (.ref b2_0)) (m4 : Arv Z h0 b2_0 k2_0 (.array .double) 1 [(.ref b2_1)] .null) (m5 : Arv Z h0 b2_1 k2_1 .double 20 [(dl 1), (dl 2), (dl 3), (dl 1), (dl 0), (dl 4), (dl 5), (dl 6), (dl 0), (dl 0), (dl 0), (dl 0), (dl 0), (dl 0), (dl 0), (dl 0), (dl 0), (dl 0), (dl 0), (dl 0)] (dl 0)) (m6 : Exa Z h0 b2_1 "[D") (ne_b1_b2_9 : b1 ≠ b2_9) (ne_b2_0_b2_9 : b2_0 ≠ b2_9) (ne_b2_1_b2_9 : b2_1 ≠ b2_9) (gg_b2_9 : n0 ≤ b2_9) (gg_b2_1 : n0 ≤ b2_1) :
    oM l y19 prog_8_method_25_code 14 none ws (⟨1, 0, 0, 23⟩ : Room) Z h0 #[(.ref b1), (.int 0), (dl (-1))] (Q_rm19_1 Z b1 b2_9 k2_7 b2_0 k2_0 b2_1 k2_1 h0 n0) := by
  refine own_enter (Q := Q_rm19_1 Z b1 b2_9 k2_7 b2_0 k2_0 b2_1 k2_1 h0 n0) (plainFor_of_name pn_com_example_housemartin_housemartin_firm_FirmSlots) ?_
  intro p e s m below meth c s₁ G X0 hx hby hml hZ hown hnm hret e0 go fin
  replace hown : s.vm.findClass cF = some m.cls := hown
  replace hnm : meth.name = "add" := hnm
  replace hml : c.maxLocals = 14 := hml
  rw [ef_19 m b1 _ _]
  have N0 := Fr.nil n0
  refine go (fun tg kg => XS.aloadN X0.here hx rfl (hb hby d19_0) rfl rfl kg) ?_
  refine go (fun tg kg => XS.iloadN X0.here hx rfl (hb hby d19_1) rfl kg) ?_
  obtain ⟨cq2001, q2001, q2001'⟩ := m0.cell
  obtain ⟨_, _, ⟨T2001, L2001, k2001, n2001⟩, -, X2001, ⟨Lc2001, hQ2001, l2001, y2001, z2001⟩, st2001⟩ := X0.privateBack hx (y := y20) hown (mvT hZ (own_w hw 138 rfl)) (mvT hZ (own_w hw 139 rfl)) (own_selp hZ (own_w hw 2 rfl) (own_w hw 140 rfl) (own_w hw 139 rfl) (by decide)) (Cond.privateMethod_at (mvP hZ (own_w hw 140 rfl) (args := #[]))) (mvT hZ (own_w hw 141 rfl)) (by decide) (backOf (W := 0) (rm20_1 l Z a0 hw [] b1 b2_9 k2_7 h0 n0 Z0 m1 m2 gg_b2_9) hZ (own_w hw 141 rfl) (own_w hw 3 rfl) (by decide) (by decide)) (g := (mkF m 2 #[rv b1, iv 0, dv (-1), .second, .unset, .unset, .unset, .unset, .unset, .unset, .unset, .unset, .unset, .unset] [(.int 0), (.ref b1)])) rfl (by rw [hml]; rfl) (Steps.refl _) (a := b1) (by rw [e0]; exact q2001) q2001' (argsL := [(.int 0)]) (rest := []) (lenOf pd__I_V rfl) rfl (by show 2 * 0 + _ ≤ _; exact Nat.le_of_eq rfl) (hb hby d19_2) (fun _ _ => ⟨rfl, e0, (by decide : 0 + 0 ≤ _), (by decide : 0 + 0 ≤ _)⟩)
  dsimp only [Pt.U, Pt.locs, Pt.cells, Pt.slots] at X2001 l2001 y2001 z2001 st2001 hQ2001
  subst l2001 y2001 z2001
  obtain ⟨rfl, Nq2001, K2001, Gf2001_0⟩ := hQ2001
  have Kk2001 : Keep h0 T2001.heap [b2_9, b2_1] := (Keep.refl h0 [b2_9, b2_1]).trans K2001 (allS (Or.inl (List.mem_of_getElem? (i := 0) rfl)) all0)
  have Z2001 := Nat.le_trans Z0 K2001.1
  have N2001 := Fr.app N0 Nq2001
  refine go (fun tg kg => st2001.trans kg) ?_
  refine go (fun tg kg => XS.aloadN X2001.here hx rfl (hb hby d19_5) rfl rfl kg) ?_
  have Fa2002 := (m3.keep K2001 (ninS ne_b1_b2_9 nin0))
  obtain ⟨T2003, X2003, e2003, st2003⟩ := getF X2001 hx hZ hown (host := "") (Or.inl (own_w hw 17 rfl)) Via.refl rfl Fa2002 (g := (mkF m 6 #[rv b1, iv 0, dv (-1), .second, .unset, .unset, .unset, .unset, .unset, .unset, .unset, .unset, .unset, .unset] [(.ref b1)])) rfl rfl (hb hby d19_6)
  refine go st2003 ?_
  show G (T2003.setTop (mkF m 9 #[rv b1, iv 0, dv (-1), .second, .unset, .unset, .unset, .unset, .unset, .unset, .unset, .unset, .unset, .unset] [(.ref b2_0)]))
  refine go (fun tg kg => XS.iloadN X2003.here hx rfl (hb hby d19_9) rfl kg) ?_
  refine go (fun tg kg => XS.bipush X2003.here hx rfl (hb hby d19_10) kg) ?_
  refine go (fun tg kg => XS.iushr X2003.here hx rfl (hb hby d19_12) rfl kg) ?_
  show G (T2003.setTop (mkF m 13 #[rv b1, iv 0, dv (-1), .second, .unset, .unset, .unset, .unset, .unset, .unset, .unset, .unset, .unset, .unset] [(.int (((0 : Int32).toUInt32 >>> ((24 : Int32) &&& 31).toUInt32).toInt32)), (.ref b2_0)]))
  rw [show (((0 : Int32).toUInt32 >>> ((24 : Int32) &&& 31).toUInt32).toInt32) = (0 : Int32) from by decide]
  show G (T2003.setTop (mkF m 13 #[rv b1, iv 0, dv (-1), .second, .unset, .unset, .unset, .unset, .unset, .unset, .unset, .unset, .unset, .unset] [(.int 0), (.ref b2_0)]))
  have Fa2004 := (m4.keep K2001 (ninS ne_b2_0_b2_9 nin0))
  obtain ⟨cl2005, Ar2005, q2005, S2005, M2005, H2005, U2005⟩ := id Fa2004
  have hin2005 : ¬ ((0 : Int32) < 0 ∨ cl2005.slots.size ≤ ((0 : Int32)).toNatClampNeg) := inb_of S2005 ⟨by decide, by decide⟩
  refine go (fun tg kg => X2003.aaload hx (j := (0 : Int32)) (v := (.ref b2_1)) (by rw [e2003]; exact Ar2005.1) (State.isArrayOf_alike hZ.alike Ar2005.2.1) rfl Ar2005.2.2 hin2005 (H2005.at hin2005 rfl) (g := (mkF m 13 #[rv b1, iv 0, dv (-1), .second, .unset, .unset, .unset, .unset, .unset, .unset, .unset, .unset, .unset, .unset] [(.int 0), (.ref b2_0)])) rfl rfl (hb hby d19_13) _ kg) ?_
  refine go (fun tg kg => XS.astore X2003.here hx rfl (hb hby d19_14) rfl rfl (l' := #[rv b1, iv 0, dv (-1), .second, rv b2_1, .unset, .unset, .unset, .unset, .unset, .unset, .unset, .unset, .unset]) rfl kg) ?_
  refine go (fun tg kg => XS.iloadN X2003.here hx rfl (hb hby d19_16) rfl kg) ?_
  refine go (fun tg kg => X2003.ldcInt hx hown (mvT hZ (own_w hw 71 rfl)) (g := (mkF m 17 #[rv b1, iv 0, dv (-1), .second, rv b2_1, .unset, .unset, .unset, .unset, .unset, .unset, .unset, .unset, .unset] [(.int 0)])) rfl (hb hby d19_17) _ kg) ?_
  show G (T2003.setTop (mkF m 19 #[rv b1, iv 0, dv (-1), .second, rv b2_1, .unset, .unset, .unset, .unset, .unset, .unset, .unset, .unset, .unset] [(.int 16777215), (.int 0)]))
  refine go (fun tg kg => XS.iand X2003.here hx rfl (hb hby d19_19) rfl kg) ?_
  refine go (fun tg kg => XS.iconst X2003.here hx rfl (hb hby d19_20) kg) ?_
  refine go (fun tg kg => XS.imul X2003.here hx rfl (hb hby d19_21) rfl kg) ?_
  refine go (fun tg kg => XS.istore X2003.here hx rfl (hb hby d19_22) rfl (l' := #[rv b1, iv 0, dv (-1), .second, rv b2_1, iv 0, .unset, .unset, .unset, .unset, .unset, .unset, .unset, .unset]) rfl kg) ?_
  refine go (fun tg kg => XS.aload X2003.here hx rfl (hb hby d19_24) rfl rfl kg) ?_
  refine go (fun tg kg => XS.iload X2003.here hx rfl (hb hby d19_26) rfl kg) ?_
  show G (T2003.setTop (mkF m 28 #[rv b1, iv 0, dv (-1), .second, rv b2_1, iv 0, .unset, .unset, .unset, .unset, .unset, .unset, .unset, .unset] [(.int 0), (.ref b2_1)]))
  refine go (fun tg kg => XS.iconst X2003.here hx rfl (hb hby d19_28) kg) ?_
  refine go (fun tg kg => XS.iadd X2003.here hx rfl (hb hby d19_29) rfl kg) ?_
  have Fa2006 := (m5.keep K2001 (ninS ne_b2_1_b2_9 nin0))
  obtain ⟨cl2007, Ar2007, q2007, S2007, M2007, H2007, U2007⟩ := id Fa2006
  have hin2007 : ¬ ((3 : Int32) < 0 ∨ cl2007.slots.size ≤ ((3 : Int32)).toNatClampNeg) := inb_of S2007 ⟨by decide, by decide⟩
  refine go (fun tg kg => X2003.daload hx (j := (3 : Int32)) (v := (dl 1)) (by rw [e2003]; exact Ar2007.1) (State.isArrayOf_alike hZ.alike Ar2007.2.1) Ar2007.2.2 hin2007 (H2007.at hin2007 rfl) (g := (mkF m 30 #[rv b1, iv 0, dv (-1), .second, rv b2_1, iv 0, .unset, .unset, .unset, .unset, .unset, .unset, .unset, .unset] [(.int 3), (.ref b2_1)])) rfl rfl (hb hby d19_30) _ kg) ?_
  refine go (fun tg kg => XS.dstore X2003.here hx rfl (hb hby d19_31) rfl (l' := #[rv b1, iv 0, dv (-1), .second, rv b2_1, iv 0, dv 1, .second, .unset, .unset, .unset, .unset, .unset, .unset]) rfl kg) ?_
  refine go (fun tg kg => XS.dload X2003.here hx rfl (hb hby d19_33) rfl kg) ?_
  refine go (fun tg kg => XS.dloadN X2003.here hx rfl (hb hby d19_35) rfl kg) ?_
  show G (T2003.setTop (mkF m 36 #[rv b1, iv 0, dv (-1), .second, rv b2_1, iv 0, dv 1, .second, .unset, .unset, .unset, .unset, .unset, .unset] [(dl (-1)), (dl 1)]))
  refine go (fun tg kg => XS.daddS X2003.here hx rfl (hb hby d19_36) rfl (nn_w (own_dadd (a := 1) (b := -1) (c := 0) (by decide) (by decide) (by decide))) (own_dadd (a := 1) (b := -1) (c := 0) (by decide) (by decide) (by decide)) kg) ?_
  refine go (fun tg kg => XS.dstore X2003.here hx rfl (hb hby d19_37) rfl (l' := #[rv b1, iv 0, dv (-1), .second, rv b2_1, iv 0, dv 1, .second, dv 0, .second, .unset, .unset, .unset, .unset]) rfl kg) ?_
  refine go (fun tg kg => XS.aload X2003.here hx rfl (hb hby d19_39) rfl rfl kg) ?_
  refine go (fun tg kg => XS.iload X2003.here hx rfl (hb hby d19_41) rfl kg) ?_
  refine go (fun tg kg => XS.iconst X2003.here hx rfl (hb hby d19_43) kg) ?_
  refine go (fun tg kg => XS.iadd X2003.here hx rfl (hb hby d19_44) rfl kg) ?_
  show G (T2003.setTop (mkF m 45 #[rv b1, iv 0, dv (-1), .second, rv b2_1, iv 0, dv 1, .second, dv 0, .second, .unset, .unset, .unset, .unset] [(.int 4), (.ref b2_1)]))
  obtain ⟨cl2008, Ar2008, q2008, S2008, M2008, H2008, U2008⟩ := id Fa2006
  have hin2008 : ¬ ((4 : Int32) < 0 ∨ cl2008.slots.size ≤ ((4 : Int32)).toNatClampNeg) := inb_of S2008 ⟨by decide, by decide⟩
  refine go (fun tg kg => X2003.daload hx (j := (4 : Int32)) (v := (dl 0)) (by rw [e2003]; exact Ar2008.1) (State.isArrayOf_alike hZ.alike Ar2008.2.1) Ar2008.2.2 hin2008 (H2008.at hin2008 rfl) (g := (mkF m 45 #[rv b1, iv 0, dv (-1), .second, rv b2_1, iv 0, dv 1, .second, dv 0, .second, .unset, .unset, .unset, .unset] [(.int 4), (.ref b2_1)])) rfl rfl (hb hby d19_45) _ kg) ?_
  refine go (fun tg kg => XS.dload X2003.here hx rfl (hb hby d19_46) rfl kg) ?_
  refine go (fun tg kg => XS.dloadN X2003.here hx rfl (hb hby d19_48) rfl kg) ?_
  refine go (fun tg kg => XS.dload X2003.here hx rfl (hb hby d19_49) rfl kg) ?_
  obtain ⟨_, _, ⟨T2009, L2009, k2009, n2009⟩, -, X2009, ⟨Lc2009, hQ2009, l2009, y2009, z2009⟩, st2009⟩ := Jvm.LawKit.callS X2003 hx (y := y21) hown (mvT hZ (own_w hw 142 rfl)) (mvT hZ (own_w hw 143 rfl)) (mvT hZ (own_w hw 3 rfl)) (mvT hZ (own_w hw 144 rfl)) (by decide) (backOf (W := 2) (rm21_2 l Z a0 hw []  T2001.heap n0 Z2001 ) hZ (own_w hw 144 rfl) (own_w hw 3 rfl) (by decide) (by decide)) (g := (mkF m 51 #[rv b1, iv 0, dv (-1), .second, rv b2_1, iv 0, dv 1, .second, dv 0, .second, .unset, .unset, .unset, .unset] [(dl 0), (dl (-1)), (dl 1), (dl 0)])) rfl (by rw [hml]; rfl) (argsL := [(dl 1), (dl (-1)), (dl 0)]) (rest := [(dl 0)]) (lenOf pd__DDD_D rfl) rfl (by show 2 * 0 + _ ≤ _; exact Nat.le_of_eq rfl) (hb hby d19_51) (fun _ _ => ⟨rfl, e2003, (by decide : 0 + 0 ≤ _), (by decide : 0 + 0 ≤ _)⟩)
  dsimp only [Pt.U, Pt.locs, Pt.cells, Pt.slots] at X2009 l2009 y2009 z2009 st2009 hQ2009
  subst l2009 y2009 z2009
  obtain ⟨rfl, Nq2009, e2009⟩ := hQ2009
  have N2009 := Fr.app N2001 Nq2009
  refine go st2009 ?_
  refine go (fun tg kg => XS.daddS X2009.here hx rfl (hb hby d19_54) rfl (nn_w (own_dadd (a := 0) (b := 0) (c := 0) (by decide) (by decide) (by decide))) (own_dadd (a := 0) (b := 0) (c := 0) (by decide) (by decide) (by decide)) kg) ?_
  show G (T2009.setTop (mkF m 55 #[rv b1, iv 0, dv (-1), .second, rv b2_1, iv 0, dv 1, .second, dv 0, .second, .unset, .unset, .unset, .unset] [(dl 0)]))
  refine go (fun tg kg => XS.dstore X2009.here hx rfl (hb hby d19_55) rfl (l' := #[rv b1, iv 0, dv (-1), .second, rv b2_1, iv 0, dv 1, .second, dv 0, .second, dv 0, .second, .unset, .unset]) rfl kg) ?_
  refine go (fun tg kg => XS.dload X2009.here hx rfl (hb hby d19_57) rfl kg) ?_
  refine go (fun tg kg => XS.dload X2009.here hx rfl (hb hby d19_59) rfl kg) ?_
  refine go (fun tg kg => XS.daddS X2009.here hx rfl (hb hby d19_61) rfl (nn_w (own_dadd (a := 0) (b := 0) (c := 0) (by decide) (by decide) (by decide))) (own_dadd (a := 0) (b := 0) (c := 0) (by decide) (by decide) (by decide)) kg) ?_
  refine go (fun tg kg => XS.dstore X2009.here hx rfl (hb hby d19_62) rfl (l' := #[rv b1, iv 0, dv (-1), .second, rv b2_1, iv 0, dv 1, .second, dv 0, .second, dv 0, .second, dv 0, .second]) rfl kg) ?_
  refine go (fun tg kg => XS.aload X2009.here hx rfl (hb hby d19_64) rfl rfl kg) ?_
  show G (T2009.setTop (mkF m 66 #[rv b1, iv 0, dv (-1), .second, rv b2_1, iv 0, dv 1, .second, dv 0, .second, dv 0, .second, dv 0, .second] [(.ref b2_1)]))
  refine go (fun tg kg => XS.iload X2009.here hx rfl (hb hby d19_66) rfl kg) ?_
  refine go (fun tg kg => XS.iconst X2009.here hx rfl (hb hby d19_68) kg) ?_
  refine go (fun tg kg => XS.iadd X2009.here hx rfl (hb hby d19_69) rfl kg) ?_
  refine go (fun tg kg => XS.dload X2009.here hx rfl (hb hby d19_70) rfl kg) ?_
  refine go (fun tg kg => XS.dload X2009.here hx rfl (hb hby d19_72) rfl kg) ?_
  refine go (fun tg kg => XS.dload X2009.here hx rfl (hb hby d19_74) rfl kg) ?_
  show G (T2009.setTop (mkF m 76 #[rv b1, iv 0, dv (-1), .second, rv b2_1, iv 0, dv 1, .second, dv 0, .second, dv 0, .second, dv 0, .second] [(dl 0), (dl 0), (dl 0), (.int 4), (.ref b2_1)]))
  obtain ⟨_, _, ⟨T2010, L2010, k2010, n2010⟩, -, X2010, ⟨Lc2010, hQ2010, l2010, y2010, z2010⟩, st2010⟩ := Jvm.LawKit.callS X2009 hx (y := y21) hown (mvT hZ (own_w hw 142 rfl)) (mvT hZ (own_w hw 143 rfl)) (mvT hZ (own_w hw 3 rfl)) (mvT hZ (own_w hw 144 rfl)) (by decide) (backOf (W := 2) (rm21_3 l Z a0 hw []  T2001.heap n0 Z2001 ) hZ (own_w hw 144 rfl) (own_w hw 3 rfl) (by decide) (by decide)) (g := (mkF m 76 #[rv b1, iv 0, dv (-1), .second, rv b2_1, iv 0, dv 1, .second, dv 0, .second, dv 0, .second, dv 0, .second] [(dl 0), (dl 0), (dl 0), (.int 4), (.ref b2_1)])) rfl (by rw [hml]; rfl) (argsL := [(dl 0), (dl 0), (dl 0)]) (rest := [(.int 4), (.ref b2_1)]) (lenOf pd__DDD_D rfl) rfl (by show 2 * 0 + _ ≤ _; exact Nat.le_of_eq rfl) (hb hby d19_76) (fun _ _ => ⟨rfl, e2009, (by decide : 0 + 0 ≤ _), (by decide : 0 + 0 ≤ _)⟩)
  dsimp only [Pt.U, Pt.locs, Pt.cells, Pt.slots] at X2010 l2010 y2010 z2010 st2010 hQ2010
  subst l2010 y2010 z2010
  obtain ⟨rfl, Nq2010, e2010⟩ := hQ2010
  have N2010 := Fr.app N2009 Nq2010
  refine go st2010 ?_
  obtain ⟨cl2011, Ar2011, q2011, S2011, M2011, H2011, U2011⟩ := id Fa2006
  have hin2011 : ¬ ((4 : Int32) < 0 ∨ cl2011.slots.size ≤ ((4 : Int32)).toNatClampNeg) := inb_of S2011 ⟨by decide, by decide⟩
  obtain ⟨T2011, h2011, X2011, e2011, W2011, st2011⟩ := stD X2010 hx hZ e2010 Ar2011 (j := (4 : Int32)) hin2011 (g := (mkF m 79 #[rv b1, iv 0, dv (-1), .second, rv b2_1, iv 0, dv 1, .second, dv 0, .second, dv 0, .second, dv 0, .second] [(dl 0), (.int 4), (.ref b2_1)])) rfl rfl (hb hby d19_79)
  refine go st2011 ?_
  have V2011 : Arv Z h2011 b2_1 k2_1 .double (20 : Int32) [(dl 1), (dl 2), (dl 3), (dl 1), (dl 0), (dl 4), (dl 5), (dl 6), (dl 0), (dl 0), (dl 0), (dl 0), (dl 0), (dl 0), (dl 0), (dl 0), (dl 0), (dl 0), (dl 0), (dl 0)] (dl 0) := Arv.set Ar2011 q2011 S2011 M2011 H2011 U2011 rfl W2011 4 rfl (Nat.le_of_ble_eq_true rfl)
  have N2011 := Fr.snoc X2011 N2010 gg_b2_1
  have K2011 : Keep h0 h2011 [b2_9, b2_1] := Kk2001.wr W2011 (Or.inl (List.mem_of_getElem? (i := 1) rfl))
  have Z2011 := Nat.le_trans Z2001 (Keep.of_wr W2011).1
  refine go (fun tg kg => XS.aload X2011.here hx rfl (hb hby d19_80) rfl rfl kg) ?_
  refine go (fun tg kg => XS.iload X2011.here hx rfl (hb hby d19_82) rfl kg) ?_
  refine go (fun tg kg => XS.iconst X2011.here hx rfl (hb hby d19_84) kg) ?_
  refine go (fun tg kg => XS.iadd X2011.here hx rfl (hb hby d19_85) rfl kg) ?_
  show G (T2011.setTop (mkF m 86 #[rv b1, iv 0, dv (-1), .second, rv b2_1, iv 0, dv 1, .second, dv 0, .second, dv 0, .second, dv 0, .second] [(.int 3), (.ref b2_1)]))
  refine go (fun tg kg => XS.dload X2011.here hx rfl (hb hby d19_86) rfl kg) ?_
  obtain ⟨cl2012, Ar2012, q2012, S2012, M2012, H2012, U2012⟩ := id V2011
  have hin2012 : ¬ ((3 : Int32) < 0 ∨ cl2012.slots.size ≤ ((3 : Int32)).toNatClampNeg) := inb_of S2012 ⟨by decide, by decide⟩
  obtain ⟨T2012, h2012, X2012, e2012, W2012, st2012⟩ := stD X2011 hx hZ e2011 Ar2012 (j := (3 : Int32)) hin2012 (g := (mkF m 88 #[rv b1, iv 0, dv (-1), .second, rv b2_1, iv 0, dv 1, .second, dv 0, .second, dv 0, .second, dv 0, .second] [(dl 0), (.int 3), (.ref b2_1)])) rfl rfl (hb hby d19_88)
  refine go st2012 ?_
  have V2012 : Arv Z h2012 b2_1 k2_1 .double (20 : Int32) [(dl 1), (dl 2), (dl 3), (dl 0), (dl 0), (dl 4), (dl 5), (dl 6), (dl 0), (dl 0), (dl 0), (dl 0), (dl 0), (dl 0), (dl 0), (dl 0), (dl 0), (dl 0), (dl 0), (dl 0)] (dl 0) := Arv.set Ar2012 q2012 S2012 M2012 H2012 U2012 rfl W2012 3 rfl (Nat.le_of_ble_eq_true rfl)
  have N2012 := Fr.snoc X2012 N2011 gg_b2_1
  have K2012 : Keep h0 h2012 [b2_9, b2_1] := K2011.wr W2012 (Or.inl (List.mem_of_getElem? (i := 1) rfl))
  have Z2012 := Nat.le_trans Z2011 (Keep.of_wr W2012).1
  refine fin (none) X2012 (fun h => rfl) (fun fs hr => X2012.returnOut hx hret (hb hby d19_89) hr) (by decide) (by decide) ?_
  rw [e2012]
  have Fa2013 := ((Gf2001_0.other W2011 (Ne.symm ne_b2_1_b2_9)).other W2012 (Ne.symm ne_b2_1_b2_9))
  have Fa2014 := (((m6.keep K2001).wr W2011).wr W2012)
  exact ⟨rfl, N2012, K2012, Fa2013, V2012, Fa2014⟩
theorem d22_16 : decode prog_8_method_4_code 16 = .ok (.aload_n 0, 1) := by decide +kernel
theorem d22_17 : decode prog_8_method_4_code 17 = .ok (.getfield 45, 3) := by decide +kernel
theorem d22_20 : decode prog_8_method_4_code 20 = .ok (.iload_n 1, 1) := by decide +kernel
theorem d22_21 : decode prog_8_method_4_code 21 = .ok (.invokevirtual 72, 3) := by decide +kernel
def Q_rm16_2 (Z : State) (b2_4 : Addr) (b2_7 : Addr) (k2_5 : ClassId) (h0 : Heap) (n0 : Nat) (v : Option Value) (h : Heap) (L : List Loc) : Prop := v = some (.int 0) ∧ Fr n0 L ∧ h = h0
set_option maxRecDepth 65536 in
set_option maxHeartbeats 40000000 in
theorem rm16_2 (l : Launch) (Z : State) (a0 : Array Value) (hw : ∀ d ∈ tables_1, d.before a0 Z = true) (ws : List Jvm.Cond) (b2_4 : Addr) (b2_7 : Addr) (k2_5 : ClassId) (h0 : Heap) (n0 : Nat) (Z0 : n0 ≤ h0.size) (m0 : Fld Z h0 b2_4 cM "heads" "[J" (.ref b2_7)) (m1 : Arv Z h0 b2_7 k2_5 .long 4 [(.long 7), (.long 0), (.long 0), (.long 0)] (.long 0)) :
    oM l y16 prog_10_method_2_code 2 (some .int) ws (⟨0, 0, 0, 0⟩ : Room) Z h0 #[(.ref b2_4), (.int 0)] (Q_rm16_2 Z b2_4 b2_7 k2_5 h0 n0) := by
  refine own_enter (Q := Q_rm16_2 Z b2_4 b2_7 k2_5 h0 n0) (plainFor_of_name pn_com_example_housemartin_housemartin_firm_Members) ?_
  intro p e s m below meth c s₁ G X0 hx hby hml hZ hown hnm hret e0 go fin
  replace hown : s.vm.findClass cM = some m.cls := hown
  replace hnm : meth.name = "count" := hnm
  replace hml : c.maxLocals = 2 := hml
  rw [ef_16 m b2_4 _]
  have N0 := Fr.nil n0
  refine go (fun tg kg => XS.aloadN X0.here hx rfl (hb hby d16_0) rfl rfl kg) ?_
  obtain ⟨T2001, X2001, e2001, st2001⟩ := getF X0 hx hZ hown (host := "") (Or.inl (own_w hw 45 rfl)) Via.refl e0 m0 (g := (mkF m 1 #[rv b2_4, iv 0] [(.ref b2_4)])) rfl rfl (hb hby d16_1)
  refine go st2001 ?_
  refine go (fun tg kg => XS.iloadN X2001.here hx rfl (hb hby d16_4) rfl kg) ?_
  obtain ⟨cl2002, Ar2002, q2002, S2002, M2002, H2002, U2002⟩ := id m1
  have hin2002 : ¬ ((0 : Int32) < 0 ∨ cl2002.slots.size ≤ ((0 : Int32)).toNatClampNeg) := inb_of S2002 ⟨by decide, by decide⟩
  refine go (fun tg kg => X2001.laload hx (j := (0 : Int32)) (v := (.long 7)) (by rw [e2001]; exact Ar2002.1) (State.isArrayOf_alike hZ.alike Ar2002.2.1) Ar2002.2.2 hin2002 (H2002.at hin2002 rfl) (g := (mkF m 5 #[rv b2_4, iv 0] [(.int 0), (.ref b2_7)])) rfl rfl (hb hby d16_5) _ kg) ?_
  refine go (fun tg kg => XS.bipush X2001.here hx rfl (hb hby d16_6) kg) ?_
  show G (T2001.setTop (mkF m 8 #[rv b2_4, iv 0] [(.int 32), (.long 7)]))
  refine go (fun tg kg => XS.lushr X2001.here hx rfl (hb hby d16_8) rfl kg) ?_
  show G (T2001.setTop (mkF m 9 #[rv b2_4, iv 0] [(.long (((7 : Int64).toUInt64 >>> ((32 : Int32) &&& 0x3f).toInt64.toUInt64).toInt64))]))
  rw [show (((7 : Int64).toUInt64 >>> ((32 : Int32) &&& 0x3f).toInt64.toUInt64).toInt64) = (0 : Int64) from by decide]
  show G (T2001.setTop (mkF m 9 #[rv b2_4, iv 0] [(.long 0)]))
  refine go (fun tg kg => XS.l2i X2001.here hx rfl (hb hby d16_9) rfl kg) ?_
  refine fin (some (.int 0)) X2001 (fun h => absurd h (by decide)) (fun fs hr => retOut X2001 hx hret rfl (Or.inl ⟨rfl, Or.inl rfl, _, rfl⟩) (hb hby d16_10) hr) (by decide) (by decide) ?_
  rw [e2001]
  exact ⟨rfl, N0, rfl⟩
theorem d22_24 : decode prog_8_method_4_code 24 = .ok (.ifCond .ne 7, 3) := by decide +kernel
theorem d22_27 : decode prog_8_method_4_code 27 = .ok (.iconst 1, 1) := by decide +kernel
theorem d22_28 : decode prog_8_method_4_code 28 = .ok (.goto 4, 3) := by decide +kernel
theorem d22_32 : decode prog_8_method_4_code 32 = .ok (.istore 5, 2) := by decide +kernel
theorem d22_34 : decode prog_8_method_4_code 34 = .ok (.iload 5, 2) := by decide +kernel
theorem d22_36 : decode prog_8_method_4_code 36 = .ok (.ifCond .eq 28, 3) := by decide +kernel
theorem d22_39 : decode prog_8_method_4_code 39 = .ok (.aload_n 0, 1) := by decide +kernel
theorem d22_40 : decode prog_8_method_4_code 40 = .ok (.getfield 36, 3) := by decide +kernel
theorem d22_43 : decode prog_8_method_4_code 43 = .ok (.iload_n 1, 1) := by decide +kernel
theorem d22_44 : decode prog_8_method_4_code 44 = .ok (.aload_n 0, 1) := by decide +kernel
theorem d22_45 : decode prog_8_method_4_code 45 = .ok (.getfield 9, 3) := by decide +kernel
theorem d22_48 : decode prog_8_method_4_code 48 = .ok (.iastore, 1) := by decide +kernel
theorem d22_49 : decode prog_8_method_4_code 49 = .ok (.aload_n 0, 1) := by decide +kernel
theorem d22_50 : decode prog_8_method_4_code 50 = .ok (.iload_n 1, 1) := by decide +kernel
theorem d22_51 : decode prog_8_method_4_code 51 = .ok (.putfield 9, 3) := by decide +kernel
theorem d22_54 : decode prog_8_method_4_code 54 = .ok (.aload_n 0, 1) := by decide +kernel
theorem d22_55 : decode prog_8_method_4_code 55 = .ok (.dup, 1) := by decide +kernel
theorem d22_56 : decode prog_8_method_4_code 56 = .ok (.getfield 59, 3) := by decide +kernel
theorem d22_59 : decode prog_8_method_4_code 59 = .ok (.iconst 1, 1) := by decide +kernel
theorem d22_60 : decode prog_8_method_4_code 60 = .ok (.isub, 1) := by decide +kernel
theorem d22_61 : decode prog_8_method_4_code 61 = .ok (.putfield 59, 3) := by decide +kernel
theorem d22_64 : decode prog_8_method_4_code 64 = .ok (.iload 5, 2) := by decide +kernel
theorem d22_66 : decode prog_8_method_4_code 66 = .ok (.ireturn, 1) := by decide +kernel
theorem ef_22 (m : MethodId) (x0 : Addr) (x1 : Int32) (x2 : Int32) (x3 : UInt64) : entryFrame m #[(.ref x0), (.int x1), (.int x2), (.double x3)] 6 = mkF m 0 #[.val (.ref x0), .val (.int x1), .val (.int x2), .val (.double x3), .second, .unset] [] := by first | (simp [entryFrame, mkF, argsToLocals, Value.category]; done) | rfl
def Q_rm22_0 (Z : State) (b1 : Addr) (b2_4 : Addr) (b2_7 : Addr) (k2_5 : ClassId) (b2_6 : Addr) (k2_4 : ClassId) (b2_5 : Addr) (b2_8 : Addr) (b2_9 : Addr) (k2_7 : ClassId) (b2_0 : Addr) (k2_0 : ClassId) (b2_1 : Addr) (k2_1 : ClassId) (b2_3 : Addr) (k2_3 : ClassId) (b2_2 : Addr) (b2_10 : Addr) (h0 : Heap) (n0 : Nat) (v : Option Value) (h : Heap) (L : List Loc) : Prop := v = some (.int 1) ∧ Fr n0 L ∧ Keep h0 h [b2_7, b2_6, b2_4, b2_9, b2_1, b2_3, b1] ∧ Fld Z h b1 cF "members" "Lcom/example/housemartin/housemartin/firm/Members;" (.ref b2_4) ∧ Exa Z h b2_4 cM ∧ Fld Z h b2_4 cM "heads" "[J" (.ref b2_7) ∧ Arv Z h b2_7 k2_5 .long 4 [(.long 7), (.long 0), (.long 0), (.long 0)] (.long 0) ∧ Fld Z h b2_4 cM "listed" "Z" (.int 1) ∧ Fld Z h b2_4 cM "firmsOfSize" "[I" (.ref b2_6) ∧ Arv Z h b2_6 k2_4 .int 2 [(.int 0), (.int 0)] (.int 0) ∧ Fld Z h b2_4 cM "largest" "I" (.int 0) ∧ Fld Z h b2_4 cM "freeBlocks" "[I" (.ref b2_5) ∧ Fld Z h b2_4 cM "pool" "[I" (.ref b2_8) ∧ Exa Z h b1 cF ∧ Fld Z h b1 cF "changedNow" "[J" (.ref b2_9) ∧ Arv Z h b2_9 k2_7 .long 1 [(.long 1)] (.long 0) ∧ Fld Z h b1 cF "pages" "[[D" (.ref b2_0) ∧ Arv Z h b2_1 k2_1 .double 20 [(dl 1), (dl 2), (dl 3), (dl 0), (dl 0), (dl 4), (dl 5), (dl 6), (dl 0), (dl 0), (dl 0), (dl 0), (dl 0), (dl 0), (dl 0), (dl 0), (dl 0), (dl 0), (dl 0), (dl 0)] (dl 0) ∧ Exa Z h b2_1 "[D" ∧ Fld Z h b1 cF "births" "[I" (.ref b2_3) ∧ Fld Z h b1 cF "freeSlot" "I" (.int 0) ∧ Arv Z h b2_3 k2_3 .int 4 [(.int (-1)), (.int 20), (.int 0), (.int 0)] (.int 0) ∧ Fld Z h b1 cF "openFirms" "I" (.int 1) ∧ Fld Z h b1 cF "nextId" "J" (.long 3) ∧ Fld Z h b1 cF "ids" "[J" (.ref b2_2) ∧ Fld Z h b1 cF "changedBefore" "[J" (.ref b2_10) ∧ Fld Z h b1 cF "slotsUsed" "I" (.int 2)
set_option maxRecDepth 65536 in
set_option maxHeartbeats 40000000 in
theorem rm22_0 (l : Launch) (Z : State) (a0 : Array Value) (hw : ∀ d ∈ tables_1, d.before a0 Z = true) (ws : List Jvm.Cond) (b1 : Addr) (b2_4 : Addr) (b2_7 : Addr) (k2_5 : ClassId) (b2_6 : Addr) (k2_4 : ClassId) (b2_5 : Addr) (b2_8 : Addr) (b2_9 : Addr) (k2_7 : ClassId) (b2_0 : Addr) (k2_0 : ClassId) (b2_1 : Addr) (k2_1 : ClassId) (b2_3 : Addr) (k2_3 : ClassId) (b2_2 : Addr) (b2_10 : Addr) (h0 : Heap) (n0 : Nat) (Z0 : n0 ≤ h0.size) (m0 : Fld Z h0 b1 cF "members" "Lcom/example/housemartin/housemartin/firm/Members;" (.ref b2_4)) (m1 : Exa Z h0 b2_4 cM) (m2 : Fld Z h0 b2_4 cM "heads" "[J" (.ref b2_7)) (m3 : Arv Z h0 b2_7 k2_5 .long 4 [(.long 4294967303), (.long 0), (.long 0), (.long 0)] (.long 0)) (m4 : Fld Z h0 b2_4 cM "listed" "Z" (.int 1)) (m5 : Fld Z h0 b2_4 cM "firmsOfSize" "[I" (.ref b2_6)) (m6 : Arv Z h0 b2_6 k2_4 .int 2 [(.int 0), (.int 1)] (.int 0)) (m7 : Fld Z h0 b2_4 cM "largest" "I" (.int 1)) (m8 : Fld Z h0 b2_4 cM "freeBlocks" "[I" (.ref b2_5)) (m9 : Fld Z h0 b2_4 cM "pool" "[I" (.ref b2_8)) (m10 : Exa Z h0 b1 cF) (m11 : Fld Z h0 b1 cF "changedNow" "[J" (.ref b2_9)) (m12 : Arv Z h0 b2_9 k2_7 .long 1 [(.long 1)] (.long 0)) (m13 : Fld Z h0 b1 cF "pages" "[[D" (.ref b2_0)) (m14 : Arv Z h0 b2_0 k2_0 (.array .double) 1 [(.ref b2_1)] .null) (m15 : Arv Z h0 b2_1 k2_1 .double 20 [(dl 1), (dl 2), (dl 3), (dl 1), (dl 0), (dl 4), (dl 5), (dl 6), (dl 0), (dl 0), (dl 0), (dl 0), (dl 0), (dl 0), (dl 0), (dl 0), (dl 0), (dl 0), (dl 0), (dl 0)] (dl 0)) (m16 : Exa Z h0 b2_1 "[D") (m17 : Fld Z h0 b1 cF "births" "[I" (.ref b2_3)) (m18 : Fld Z h0 b1 cF "freeSlot" "I" (.int (-1))) (m19 : Arv Z h0 b2_3 k2_3 .int 4 [(.int 10), (.int 20), (.int 0), (.int 0)] (.int 0)) (m20 : Fld Z h0 b1 cF "openFirms" "I" (.int 2)) (m21 : Fld Z h0 b1 cF "nextId" "J" (.long 3)) (m22 : Fld Z h0 b1 cF "ids" "[J" (.ref b2_2)) (m23 : Fld Z h0 b1 cF "changedBefore" "[J" (.ref b2_10)) (m24 : Fld Z h0 b1 cF "slotsUsed" "I" (.int 2)) (ne_b2_4_b2_7 : b2_4 ≠ b2_7) (ne_b2_6_b2_7 : b2_6 ≠ b2_7) (ne_b2_4_b2_6 : b2_4 ≠ b2_6) (ne_b1_b2_4 : b1 ≠ b2_4) (ne_b1_b2_6 : b1 ≠ b2_6) (ne_b1_b2_7 : b1 ≠ b2_7) (ne_b2_9_b2_4 : b2_9 ≠ b2_4) (ne_b2_9_b2_6 : b2_9 ≠ b2_6) (ne_b2_9_b2_7 : b2_9 ≠ b2_7) (ne_b2_0_b2_4 : b2_0 ≠ b2_4) (ne_b2_0_b2_6 : b2_0 ≠ b2_6) (ne_b2_0_b2_7 : b2_0 ≠ b2_7) (ne_b2_1_b2_4 : b2_1 ≠ b2_4) (ne_b2_1_b2_6 : b2_1 ≠ b2_6) (ne_b2_1_b2_7 : b2_1 ≠ b2_7) (ne_b1_b2_9 : b1 ≠ b2_9) (ne_b2_0_b2_9 : b2_0 ≠ b2_9) (ne_b2_1_b2_9 : b2_1 ≠ b2_9) (ne_b1_b2_1 : b1 ≠ b2_1) (ne_b2_3_b2_4 : b2_3 ≠ b2_4) (ne_b2_3_b2_6 : b2_3 ≠ b2_6) (ne_b2_3_b2_7 : b2_3 ≠ b2_7) (ne_b2_3_b2_1 : b2_3 ≠ b2_1) (ne_b2_3_b2_9 : b2_3 ≠ b2_9) (ne_b1_b2_3 : b1 ≠ b2_3) (gg_b2_7 : n0 ≤ b2_7) (gg_b2_6 : n0 ≤ b2_6) (gg_b2_4 : n0 ≤ b2_4) (gg_b2_9 : n0 ≤ b2_9) (gg_b2_1 : n0 ≤ b2_1) (gg_b2_3 : n0 ≤ b2_3) (gg_b1 : n0 ≤ b1) :
    oM l y22 prog_8_method_4_code 6 (some .boolean) ws (⟨3, 0, 0, 49⟩ : Room) Z h0 #[(.ref b1), (.int 0), (.int 7), (dl 1)] (Q_rm22_0 Z b1 b2_4 b2_7 k2_5 b2_6 k2_4 b2_5 b2_8 b2_9 k2_7 b2_0 k2_0 b2_1 k2_1 b2_3 k2_3 b2_2 b2_10 h0 n0) := by
  refine own_enter (Q := Q_rm22_0 Z b1 b2_4 b2_7 k2_5 b2_6 k2_4 b2_5 b2_8 b2_9 k2_7 b2_0 k2_0 b2_1 k2_1 b2_3 k2_3 b2_2 b2_10 h0 n0) (plainFor_of_name pn_com_example_housemartin_housemartin_firm_FirmSlots) ?_
  intro p e s m below meth c s₁ G X0 hx hby hml hZ hown hnm hret e0 go fin
  replace hown : s.vm.findClass cF = some m.cls := hown
  replace hnm : meth.name = "leave" := hnm
  replace hml : c.maxLocals = 6 := hml
  rw [ef_22 m b1 _ _ _]
  have N0 := Fr.nil n0
  refine go (fun tg kg => XS.aloadN X0.here hx rfl (hb hby d22_0) rfl rfl kg) ?_
  obtain ⟨T1001, X1001, e1001, st1001⟩ := getF X0 hx hZ hown (host := "") (Or.inl (own_w hw 56 rfl)) Via.refl e0 m0 (g := (mkF m 1 #[rv b1, iv 0, iv 7, dv 1, .second, .unset] [(.ref b1)])) rfl rfl (hb hby d22_1)
  refine go st1001 ?_
  refine go (fun tg kg => XS.iloadN X1001.here hx rfl (hb hby d22_4) rfl kg) ?_
  refine go (fun tg kg => XS.iloadN X1001.here hx rfl (hb hby d22_5) rfl kg) ?_
  obtain ⟨cq1002, kq1002, q1002a, q1002b, q1002c⟩ := isOf hZ e1001 m1
  obtain ⟨_, _, ⟨T1002, L1002, k1002, n1002⟩, -, X1002, ⟨Lc1002, hQ1002, l1002, y1002, z1002⟩, st1002⟩ := X1001.virtualBack hx (y := y23) (z := y23) hown (mvT hZ (own_w hw 150 rfl)) (mvT hZ (own_w hw 151 rfl)) (notFace_of_selects (args := #[]) (mvT hZ (own_w hw 153 rfl))) (mvT hZ (own_w hw 153 rfl)) (mvT hZ (own_w hw 152 rfl)) (by decide) (backOf (W := 0) (rm23_0 l Z a0 hw [] b2_4 b2_7 k2_5 b2_6 k2_4 b2_5 b2_8 h0 n0 Z0 m1 m2 m3 m4 m5 m6 m7 m8 m9 ne_b2_4_b2_7 ne_b2_6_b2_7 ne_b2_4_b2_6 gg_b2_7 gg_b2_6 gg_b2_4) hZ (own_w hw 154 rfl) (own_w hw 34 rfl) (by decide) (by decide)) q1002a q1002c (g := (mkF m 6 #[rv b1, iv 0, iv 7, dv 1, .second, .unset] [(.int 7), (.int 0), (.ref b2_4)])) rfl (by rw [hml]; rfl) (Steps.refl _) (argsL := [(.int 0), (.int 7)]) (rest := []) (lenOf pd__II_V rfl) rfl (by show 2 * 0 + _ ≤ _; exact Nat.le_of_eq rfl) (hb hby d22_6) (fun _ _ => ⟨rfl, e1001, (by decide : 0 + 0 ≤ _), (by decide : 0 + 0 ≤ _)⟩)
  dsimp only [Pt.U, Pt.locs, Pt.cells, Pt.slots] at X1002 l1002 y1002 z1002 st1002 hQ1002
  subst l1002 y1002 z1002
  obtain ⟨rfl, Nq1002, K1002, Gf1002_0, Gf1002_1, Gf1002_2, Gf1002_3, Gf1002_4, Gf1002_5, Gf1002_6, Gf1002_7, Gf1002_8⟩ := hQ1002
  have Kk1002 : Keep h0 T1002.heap [b2_7, b2_6, b2_4, b2_9, b2_1, b2_3, b1] := (Keep.refl h0 [b2_7, b2_6, b2_4, b2_9, b2_1, b2_3, b1]).trans K1002 (allS (Or.inl (List.mem_of_getElem? (i := 0) rfl)) (allS (Or.inl (List.mem_of_getElem? (i := 1) rfl)) (allS (Or.inl (List.mem_of_getElem? (i := 2) rfl)) all0)))
  have Z1002 := Nat.le_trans Z0 K1002.1
  have N1002 := Fr.app N0 Nq1002
  refine go (fun tg kg => st1002.trans kg) ?_
  show G (T1002.setTop (mkF m 9 #[rv b1, iv 0, iv 7, dv 1, .second, .unset] []))
  refine go (fun tg kg => XS.aloadN X1002.here hx rfl (hb hby d22_9) rfl rfl kg) ?_
  refine go (fun tg kg => XS.iloadN X1002.here hx rfl (hb hby d22_10) rfl kg) ?_
  refine go (fun tg kg => XS.dloadN X1002.here hx rfl (hb hby d22_11) rfl kg) ?_
  refine go (fun tg kg => XS.dnegS X1002.here hx rfl (hb hby d22_12) rfl own_dneg1 kg) ?_
  have Fa1003 := (m10.keep K1002)
  have Fa1004 := (m11.keep K1002 (ninS ne_b1_b2_7 (ninS ne_b1_b2_6 (ninS ne_b1_b2_4 nin0))))
  have Fa1005 := (m12.keep K1002 (ninS ne_b2_9_b2_7 (ninS ne_b2_9_b2_6 (ninS ne_b2_9_b2_4 nin0))))
  have Fa1006 := (m13.keep K1002 (ninS ne_b1_b2_7 (ninS ne_b1_b2_6 (ninS ne_b1_b2_4 nin0))))
  have Fa1007 := (m14.keep K1002 (ninS ne_b2_0_b2_7 (ninS ne_b2_0_b2_6 (ninS ne_b2_0_b2_4 nin0))))
  have Fa1008 := (m15.keep K1002 (ninS ne_b2_1_b2_7 (ninS ne_b2_1_b2_6 (ninS ne_b2_1_b2_4 nin0))))
  have Fa1009 := (m16.keep K1002)
  obtain ⟨cq1010, q1010, q1010'⟩ := Fa1003.cell
  obtain ⟨_, _, ⟨T1010, L1010, k1010, n1010⟩, -, X1010, ⟨Lc1010, hQ1010, l1010, y1010, z1010⟩, st1010⟩ := X1002.privateBack hx (y := y19) hown (mvT hZ (own_w hw 134 rfl)) (mvT hZ (own_w hw 135 rfl)) (own_selp hZ (own_w hw 2 rfl) (own_w hw 136 rfl) (own_w hw 135 rfl) (by decide)) (Cond.privateMethod_at (mvP hZ (own_w hw 136 rfl) (args := #[]))) (mvT hZ (own_w hw 137 rfl)) (by decide) (backOf (W := 0) (rm19_1 l Z a0 hw [] b1 b2_9 k2_7 b2_0 k2_0 b2_1 k2_1 T1002.heap n0 Z1002 Fa1003 Fa1004 Fa1005 Fa1006 Fa1007 Fa1008 Fa1009 ne_b1_b2_9 ne_b2_0_b2_9 ne_b2_1_b2_9 gg_b2_9 gg_b2_1) hZ (own_w hw 137 rfl) (own_w hw 3 rfl) (by decide) (by decide)) (g := (mkF m 13 #[rv b1, iv 0, iv 7, dv 1, .second, .unset] [(dl (-1)), (.int 0), (.ref b1)])) rfl (by rw [hml]; rfl) (Steps.refl _) (a := b1) q1010 q1010' (argsL := [(.int 0), (dl (-1))]) (rest := []) (lenOf pd__ID_V rfl) rfl (by show 2 * 0 + _ ≤ _; exact Nat.le_of_eq rfl) (hb hby d22_13) (fun _ _ => ⟨rfl, rfl, (by decide : 0 + 0 ≤ _), (by decide : 0 + 0 ≤ _)⟩)
  dsimp only [Pt.U, Pt.locs, Pt.cells, Pt.slots] at X1010 l1010 y1010 z1010 st1010 hQ1010
  subst l1010 y1010 z1010
  obtain ⟨rfl, Nq1010, K1010, Gf1010_0, Gf1010_1, Gf1010_2⟩ := hQ1010
  have Kk1010 : Keep h0 T1010.heap [b2_7, b2_6, b2_4, b2_9, b2_1, b2_3, b1] := Kk1002.trans K1010 (allS (Or.inl (List.mem_of_getElem? (i := 3) rfl)) (allS (Or.inl (List.mem_of_getElem? (i := 4) rfl)) all0))
  have Z1010 := Nat.le_trans Z1002 K1010.1
  have N1010 := Fr.app N1002 Nq1010
  refine go (fun tg kg => st1010.trans kg) ?_
  refine go (fun tg kg => XS.aloadN X1010.here hx rfl (hb hby d22_16) rfl rfl kg) ?_
  show G (T1010.setTop (mkF m 17 #[rv b1, iv 0, iv 7, dv 1, .second, .unset] [(.ref b1)]))
  have Fa1011 := ((m0.keep K1002 (ninS ne_b1_b2_7 (ninS ne_b1_b2_6 (ninS ne_b1_b2_4 nin0)))).keep K1010 (ninS ne_b1_b2_9 (ninS ne_b1_b2_1 nin0)))
  obtain ⟨T1012, X1012, e1012, st1012⟩ := getF X1010 hx hZ hown (host := "") (Or.inl (own_w hw 56 rfl)) Via.refl rfl Fa1011 (g := (mkF m 17 #[rv b1, iv 0, iv 7, dv 1, .second, .unset] [(.ref b1)])) rfl rfl (hb hby d22_17)
  refine go st1012 ?_
  refine go (fun tg kg => XS.iloadN X1012.here hx rfl (hb hby d22_20) rfl kg) ?_
  have Fa1013 := (Gf1002_0.keep K1010)
  have Fa1014 := (Gf1002_1.keep K1010 (ninS (Ne.symm ne_b2_9_b2_4) (ninS (Ne.symm ne_b2_1_b2_4) nin0)))
  have Fa1015 := (Gf1002_2.keep K1010 (ninS (Ne.symm ne_b2_9_b2_7) (ninS (Ne.symm ne_b2_1_b2_7) nin0)))
  obtain ⟨cq1016, kq1016, q1016a, q1016b, q1016c⟩ := isOf hZ e1012 Fa1013
  obtain ⟨_, _, ⟨T1016, L1016, k1016, n1016⟩, -, X1016, ⟨Lc1016, hQ1016, l1016, y1016, z1016⟩, st1016⟩ := X1012.virtualBack hx (y := y16) (z := y16) hown (mvT hZ (own_w hw 159 rfl)) (mvT hZ (own_w hw 119 rfl)) (notFace_of_selects (args := #[]) (mvT hZ (own_w hw 121 rfl))) (mvT hZ (own_w hw 121 rfl)) (mvT hZ (own_w hw 120 rfl)) (by decide) (backOf (W := 0) (rm16_2 l Z a0 hw [] b2_4 b2_7 k2_5 T1010.heap n0 Z1010 Fa1014 Fa1015) hZ (own_w hw 122 rfl) (own_w hw 34 rfl) (by decide) (by decide)) q1016a q1016c (g := (mkF m 21 #[rv b1, iv 0, iv 7, dv 1, .second, .unset] [(.int 0), (.ref b2_4)])) rfl (by rw [hml]; rfl) (Steps.refl _) (argsL := [(.int 0)]) (rest := []) (lenOf pd__I_I rfl) rfl (by show 2 * 0 + _ ≤ _; exact Nat.le_of_eq rfl) (hb hby d22_21) (fun _ _ => ⟨rfl, e1012, (by decide : 0 + 0 ≤ _), (by decide : 0 + 0 ≤ _)⟩)
  dsimp only [Pt.U, Pt.locs, Pt.cells, Pt.slots] at X1016 l1016 y1016 z1016 st1016 hQ1016
  subst l1016 y1016 z1016
  obtain ⟨rfl, Nq1016, e1016⟩ := hQ1016
  have N1016 := Fr.app N1010 Nq1016
  refine go (fun tg kg => st1016.trans kg) ?_
  refine go (fun tg kg => XS.ifNo X1016.here hx rfl (hb hby d22_24) rfl ((if0 _ _).trans (teq (by decide)).2) kg) ?_
  refine go (fun tg kg => XS.iconst X1016.here hx rfl (hb hby d22_27) kg) ?_
  refine go (fun tg kg => XS.goto X1016.here hx rfl (pc0 := 28) (pc' := 32) rfl (hb hby d22_28) (by decide) (by decide) kg) ?_
  show G (T1016.setTop (mkF m 32 #[rv b1, iv 0, iv 7, dv 1, .second, .unset] [(.int 1)]))
  refine go (fun tg kg => XS.istore X1016.here hx rfl (hb hby d22_32) rfl (l' := #[rv b1, iv 0, iv 7, dv 1, .second, iv 1]) rfl kg) ?_
  refine go (fun tg kg => XS.iload X1016.here hx rfl (hb hby d22_34) rfl kg) ?_
  refine go (fun tg kg => XS.ifNo X1016.here hx rfl (hb hby d22_36) rfl ((if0 _ _).trans (feq (by decide)).1) kg) ?_
  refine go (fun tg kg => XS.aloadN X1016.here hx rfl (hb hby d22_39) rfl rfl kg) ?_
  have Fa1017 := ((m17.keep K1002 (ninS ne_b1_b2_7 (ninS ne_b1_b2_6 (ninS ne_b1_b2_4 nin0)))).keep K1010 (ninS ne_b1_b2_9 (ninS ne_b1_b2_1 nin0)))
  obtain ⟨T1018, X1018, e1018, st1018⟩ := getF X1016 hx hZ hown (host := "") (Or.inl (own_w hw 30 rfl)) Via.refl e1016 Fa1017 (g := (mkF m 40 #[rv b1, iv 0, iv 7, dv 1, .second, iv 1] [(.ref b1)])) rfl rfl (hb hby d22_40)
  refine go st1018 ?_
  refine go (fun tg kg => XS.iloadN X1018.here hx rfl (hb hby d22_43) rfl kg) ?_
  show G (T1018.setTop (mkF m 44 #[rv b1, iv 0, iv 7, dv 1, .second, iv 1] [(.int 0), (.ref b2_3)]))
  refine go (fun tg kg => XS.aloadN X1018.here hx rfl (hb hby d22_44) rfl rfl kg) ?_
  have Fa1019 := ((m18.keep K1002 (ninS ne_b1_b2_7 (ninS ne_b1_b2_6 (ninS ne_b1_b2_4 nin0)))).keep K1010 (ninS ne_b1_b2_9 (ninS ne_b1_b2_1 nin0)))
  obtain ⟨T1020, X1020, e1020, st1020⟩ := getF X1018 hx hZ hown (host := "") (Or.inl (own_w hw 10 rfl)) Via.refl e1018 Fa1019 (g := (mkF m 45 #[rv b1, iv 0, iv 7, dv 1, .second, iv 1] [(.ref b1), (.int 0), (.ref b2_3)])) rfl rfl (hb hby d22_45)
  refine go st1020 ?_
  have Fa1021 := ((m19.keep K1002 (ninS ne_b2_3_b2_7 (ninS ne_b2_3_b2_6 (ninS ne_b2_3_b2_4 nin0)))).keep K1010 (ninS ne_b2_3_b2_9 (ninS ne_b2_3_b2_1 nin0)))
  obtain ⟨cl1022, Ar1022, q1022, S1022, M1022, H1022, U1022⟩ := id Fa1021
  have hin1022 : ¬ ((0 : Int32) < 0 ∨ cl1022.slots.size ≤ ((0 : Int32)).toNatClampNeg) := inb_of S1022 ⟨by decide, by decide⟩
  obtain ⟨T1022, h1022, X1022, e1022, W1022, st1022⟩ := stI X1020 hx hZ e1020 Ar1022 (j := (0 : Int32)) hin1022 (g := (mkF m 48 #[rv b1, iv 0, iv 7, dv 1, .second, iv 1] [(.int (-1)), (.int 0), (.ref b2_3)])) rfl rfl (hb hby d22_48)
  refine go st1022 ?_
  have V1022 : Arv Z h1022 b2_3 k2_3 .int (4 : Int32) [(.int (-1)), (.int 20), (.int 0), (.int 0)] (.int 0) := Arv.set Ar1022 q1022 S1022 M1022 H1022 U1022 rfl W1022 0 rfl (Nat.le_of_ble_eq_true rfl)
  have N1022 := Fr.snoc X1022 N1016 gg_b2_3
  have K1022 : Keep h0 h1022 [b2_7, b2_6, b2_4, b2_9, b2_1, b2_3, b1] := Kk1010.wr W1022 (Or.inl (List.mem_of_getElem? (i := 5) rfl))
  have Z1022 := Nat.le_trans Z1010 (Keep.of_wr W1022).1
  refine go (fun tg kg => XS.aloadN X1022.here hx rfl (hb hby d22_49) rfl rfl kg) ?_
  refine go (fun tg kg => XS.iloadN X1022.here hx rfl (hb hby d22_50) rfl kg) ?_
  have Fa1023 := ((Fa1003.keep K1010).wr W1022)
  have Fa1024 := (Fa1019.other W1022 (Or.inl ne_b1_b2_3))
  obtain ⟨T1025, h1025, X1025, e1025, W1025, st1025⟩ := putF X1022 hx hZ hown (host := "") (Or.inl (own_w hw 10 rfl)) Via.refl e1022 Fa1024 Fa1023 (Or.inl (own_w hw 11 rfl)) (own_w hw 2 rfl) (ty := .int) (by decide) rfl rfl (g := (mkF m 51 #[rv b1, iv 0, iv 7, dv 1, .second, iv 1] [(.int 0), (.ref b1)])) rfl rfl (hb hby d22_51)
  refine go st1025 ?_
  have Fw1025 : Fld Z h1025 b1 cF "freeSlot" "I" (.int 0) := Fa1024.same W1025
  have N1025 := Fr.snoc X1025 N1022 gg_b1
  have K1025 : Keep h0 h1025 [b2_7, b2_6, b2_4, b2_9, b2_1, b2_3, b1] := K1022.wr W1025 (Or.inl (List.mem_of_getElem? (i := 6) rfl))
  have Z1025 := Nat.le_trans Z1022 (Keep.of_wr W1025).1
  show G (T1025.setTop (mkF m 54 #[rv b1, iv 0, iv 7, dv 1, .second, iv 1] []))
  refine go (fun tg kg => XS.aloadN X1025.here hx rfl (hb hby d22_54) rfl rfl kg) ?_
  refine go (fun tg kg => XS.dup X1025.here hx rfl (hb hby d22_55) rfl rfl kg) ?_
  have Fa1026 := (Fa1023.wr W1025)
  have Fa1027 := ((((m20.keep K1002 (ninS ne_b1_b2_7 (ninS ne_b1_b2_6 (ninS ne_b1_b2_4 nin0)))).keep K1010 (ninS ne_b1_b2_9 (ninS ne_b1_b2_1 nin0))).other W1022 (Or.inl ne_b1_b2_3)).other W1025 (Or.inr (sn_openFirms_freeSlot hw)))
  obtain ⟨T1028, X1028, e1028, st1028⟩ := getF X1025 hx hZ hown (host := "") (Or.inl (own_w hw 72 rfl)) Via.refl e1025 Fa1027 (g := (mkF m 56 #[rv b1, iv 0, iv 7, dv 1, .second, iv 1] [(.ref b1), (.ref b1)])) rfl rfl (hb hby d22_56)
  refine go st1028 ?_
  refine go (fun tg kg => XS.iconst X1028.here hx rfl (hb hby d22_59) kg) ?_
  refine go (fun tg kg => XS.isub X1028.here hx rfl (hb hby d22_60) rfl kg) ?_
  obtain ⟨T1029, h1029, X1029, e1029, W1029, st1029⟩ := putF X1028 hx hZ hown (host := "") (Or.inl (own_w hw 72 rfl)) Via.refl e1028 Fa1027 Fa1026 (Or.inl (own_w hw 73 rfl)) (own_w hw 2 rfl) (ty := .int) (by decide) rfl rfl (g := (mkF m 61 #[rv b1, iv 0, iv 7, dv 1, .second, iv 1] [(.int 1), (.ref b1)])) rfl rfl (hb hby d22_61)
  refine go st1029 ?_
  have Fw1029 : Fld Z h1029 b1 cF "openFirms" "I" (.int 1) := Fa1027.same W1029
  have N1029 := Fr.snoc X1029 N1025 gg_b1
  have K1029 : Keep h0 h1029 [b2_7, b2_6, b2_4, b2_9, b2_1, b2_3, b1] := K1025.wr W1029 (Or.inl (List.mem_of_getElem? (i := 6) rfl))
  have Z1029 := Nat.le_trans Z1025 (Keep.of_wr W1029).1
  show G (T1029.setTop (mkF m 64 #[rv b1, iv 0, iv 7, dv 1, .second, iv 1] []))
  refine go (fun tg kg => XS.iload X1029.here hx rfl (hb hby d22_64) rfl kg) ?_
  refine fin (some (.int 1)) X1029 (fun h => absurd h (by decide)) (fun fs hr => retN X1029 hx (t := .boolean) hret (by simp) (hb hby d22_66) hr) (by decide) (by decide) ?_
  rw [e1029]
  have Fa1030 := (Fa1026.wr W1029)
  have Fa1031 := (((Fa1011.other W1022 (Or.inl ne_b1_b2_3)).other W1025 (Or.inr (sn_members_freeSlot hw))).other W1029 (Or.inr (sn_members_openFirms hw)))
  have Fa1032 := (((Fa1013.wr W1022).wr W1025).wr W1029)
  have Fa1033 := (((Fa1014.other W1022 (Or.inl (Ne.symm ne_b2_3_b2_4))).other W1025 (Or.inl (Ne.symm ne_b1_b2_4))).other W1029 (Or.inl (Ne.symm ne_b1_b2_4)))
  have Fa1034 := (((Fa1015.other W1022 (Ne.symm ne_b2_3_b2_7)).other W1025 (Ne.symm ne_b1_b2_7)).other W1029 (Ne.symm ne_b1_b2_7))
  have Fa1035 := ((((Gf1002_3.keep K1010 (ninS (Ne.symm ne_b2_9_b2_4) (ninS (Ne.symm ne_b2_1_b2_4) nin0))).other W1022 (Or.inl (Ne.symm ne_b2_3_b2_4))).other W1025 (Or.inl (Ne.symm ne_b1_b2_4))).other W1029 (Or.inl (Ne.symm ne_b1_b2_4)))
  have Fa1036 := ((((Gf1002_4.keep K1010 (ninS (Ne.symm ne_b2_9_b2_4) (ninS (Ne.symm ne_b2_1_b2_4) nin0))).other W1022 (Or.inl (Ne.symm ne_b2_3_b2_4))).other W1025 (Or.inl (Ne.symm ne_b1_b2_4))).other W1029 (Or.inl (Ne.symm ne_b1_b2_4)))
  have Fa1037 := ((((Gf1002_5.keep K1010 (ninS (Ne.symm ne_b2_9_b2_6) (ninS (Ne.symm ne_b2_1_b2_6) nin0))).other W1022 (Ne.symm ne_b2_3_b2_6)).other W1025 (Ne.symm ne_b1_b2_6)).other W1029 (Ne.symm ne_b1_b2_6))
  have Fa1038 := ((((Gf1002_6.keep K1010 (ninS (Ne.symm ne_b2_9_b2_4) (ninS (Ne.symm ne_b2_1_b2_4) nin0))).other W1022 (Or.inl (Ne.symm ne_b2_3_b2_4))).other W1025 (Or.inl (Ne.symm ne_b1_b2_4))).other W1029 (Or.inl (Ne.symm ne_b1_b2_4)))
  have Fa1039 := ((((Gf1002_7.keep K1010 (ninS (Ne.symm ne_b2_9_b2_4) (ninS (Ne.symm ne_b2_1_b2_4) nin0))).other W1022 (Or.inl (Ne.symm ne_b2_3_b2_4))).other W1025 (Or.inl (Ne.symm ne_b1_b2_4))).other W1029 (Or.inl (Ne.symm ne_b1_b2_4)))
  have Fa1040 := ((((Gf1002_8.keep K1010 (ninS (Ne.symm ne_b2_9_b2_4) (ninS (Ne.symm ne_b2_1_b2_4) nin0))).other W1022 (Or.inl (Ne.symm ne_b2_3_b2_4))).other W1025 (Or.inl (Ne.symm ne_b1_b2_4))).other W1029 (Or.inl (Ne.symm ne_b1_b2_4)))
  have Fa1041 := ((((Fa1004.keep K1010 (ninS ne_b1_b2_9 (ninS ne_b1_b2_1 nin0))).other W1022 (Or.inl ne_b1_b2_3)).other W1025 (Or.inr (sn_changedNow_freeSlot hw))).other W1029 (Or.inr (sn_changedNow_openFirms hw)))
  have Fa1042 := (((Gf1010_0.other W1022 (Ne.symm ne_b2_3_b2_9)).other W1025 (Ne.symm ne_b1_b2_9)).other W1029 (Ne.symm ne_b1_b2_9))
  have Fa1043 := ((((Fa1006.keep K1010 (ninS ne_b1_b2_9 (ninS ne_b1_b2_1 nin0))).other W1022 (Or.inl ne_b1_b2_3)).other W1025 (Or.inr (sn_pages_freeSlot hw))).other W1029 (Or.inr (sn_pages_openFirms hw)))
  have Fa1044 := (((Gf1010_1.other W1022 (Ne.symm ne_b2_3_b2_1)).other W1025 (Ne.symm ne_b1_b2_1)).other W1029 (Ne.symm ne_b1_b2_1))
  have Fa1045 := (((Gf1010_2.wr W1022).wr W1025).wr W1029)
  have Fa1046 := (((Fa1017.other W1022 (Or.inl ne_b1_b2_3)).other W1025 (Or.inr (sn_births_freeSlot hw))).other W1029 (Or.inr (sn_births_openFirms hw)))
  have Fa1047 := (Fw1025.other W1029 (Or.inr (sn_freeSlot_openFirms hw)))
  have Fa1048 := ((V1022.other W1025 (Ne.symm ne_b1_b2_3)).other W1029 (Ne.symm ne_b1_b2_3))
  have Fa1049 := (((((m21.keep K1002 (ninS ne_b1_b2_7 (ninS ne_b1_b2_6 (ninS ne_b1_b2_4 nin0)))).keep K1010 (ninS ne_b1_b2_9 (ninS ne_b1_b2_1 nin0))).other W1022 (Or.inl ne_b1_b2_3)).other W1025 (Or.inr (sn_nextId_freeSlot hw))).other W1029 (Or.inr (sn_nextId_openFirms hw)))
  have Fa1050 := (((((m22.keep K1002 (ninS ne_b1_b2_7 (ninS ne_b1_b2_6 (ninS ne_b1_b2_4 nin0)))).keep K1010 (ninS ne_b1_b2_9 (ninS ne_b1_b2_1 nin0))).other W1022 (Or.inl ne_b1_b2_3)).other W1025 (Or.inr (sn_ids_freeSlot hw))).other W1029 (Or.inr (sn_ids_openFirms hw)))
  have Fa1051 := (((((m23.keep K1002 (ninS ne_b1_b2_7 (ninS ne_b1_b2_6 (ninS ne_b1_b2_4 nin0)))).keep K1010 (ninS ne_b1_b2_9 (ninS ne_b1_b2_1 nin0))).other W1022 (Or.inl ne_b1_b2_3)).other W1025 (Or.inr (sn_changedBefore_freeSlot hw))).other W1029 (Or.inr (sn_changedBefore_openFirms hw)))
  have Fa1052 := (((((m24.keep K1002 (ninS ne_b1_b2_7 (ninS ne_b1_b2_6 (ninS ne_b1_b2_4 nin0)))).keep K1010 (ninS ne_b1_b2_9 (ninS ne_b1_b2_1 nin0))).other W1022 (Or.inl ne_b1_b2_3)).other W1025 (Or.inr (sn_slotsUsed_freeSlot hw))).other W1029 (Or.inr (sn_slotsUsed_openFirms hw)))
  exact ⟨rfl, N1029, K1029, Fa1031, Fa1032, Fa1033, Fa1034, Fa1035, Fa1036, Fa1037, Fa1038, Fa1039, Fa1040, Fa1030, Fa1041, Fa1042, Fa1043, Fa1044, Fa1045, Fa1046, Fa1047, Fa1048, Fw1029, Fa1049, Fa1050, Fa1051, Fa1052⟩
theorem pd__IID_Z : parseMethodDescriptor "(IID)Z" = some ⟨[.int, .int, .double], some .boolean⟩ := by decide +kernel
theorem d7_8 : decode prog_8_method_2_code 8 = .ok (.aload_n 0, 1) := by decide +kernel
theorem d7_9 : decode prog_8_method_2_code 9 = .ok (.getfield 9, 3) := by decide +kernel
theorem d7_12 : decode prog_8_method_2_code 12 = .ok (.istore 8, 2) := by decide +kernel
theorem d7_14 : decode prog_8_method_2_code 14 = .ok (.aload_n 0, 1) := by decide +kernel
theorem d7_15 : decode prog_8_method_2_code 15 = .ok (.aload_n 0, 1) := by decide +kernel
theorem d7_16 : decode prog_8_method_2_code 16 = .ok (.getfield 36, 3) := by decide +kernel
theorem d7_19 : decode prog_8_method_2_code 19 = .ok (.iload 8, 2) := by decide +kernel
theorem d7_21 : decode prog_8_method_2_code 21 = .ok (.iaload, 1) := by decide +kernel
theorem d7_22 : decode prog_8_method_2_code 22 = .ok (.putfield 9, 3) := by decide +kernel
theorem d7_25 : decode prog_8_method_2_code 25 = .ok (.goto 19, 3) := by decide +kernel
def Q_rm7_4 (Z : State) (b1 : Addr) (x0 : Int32) (x1 : Int32) (x2 : Int32) (x3 : Int32) (b2_3 : Addr) (k2_3 : ClassId) (b2_2 : Addr) (k2_2 : ClassId) (b2_0 : Addr) (k2_0 : ClassId) (b2_1 : Addr) (k2_1 : ClassId) (b2_4 : Addr) (b2_9 : Addr) (b2_10 : Addr) (h0 : Heap) (n0 : Nat) (v : Option Value) (h : Heap) (L : List Loc) : Prop := v = some (.int 0) ∧ Fr n0 L ∧ Keep h0 h [b1, b2_2, b2_3, b2_1] ∧ Fld Z h b1 cF "freeSlot" "I" (.int (-1)) ∧ Fld Z h b1 cF "births" "[I" (.ref b2_3) ∧ Arv Z h b2_3 k2_3 .int 4 [(.int x3), (.int 20), (.int 0), (.int 0)] (.int 0) ∧ Exa Z h b1 cF ∧ Fld Z h b1 cF "ids" "[J" (.ref b2_2) ∧ Fld Z h b1 cF "nextId" "J" (.long 4) ∧ Arv Z h b2_2 k2_2 .long 4 [(.long 3), (.long 2), (.long 0), (.long 0)] (.long 0) ∧ Fld Z h b1 cF "pages" "[[D" (.ref b2_0) ∧ Arv Z h b2_1 k2_1 .double 20 [(dl (x0.toInt64)), (dl (x1.toInt64)), (dl (x2.toInt64)), (dl 0), (dl 0), (dl 4), (dl 5), (dl 6), (dl 0), (dl 0), (dl 0), (dl 0), (dl 0), (dl 0), (dl 0), (dl 0), (dl 0), (dl 0), (dl 0), (dl 0)] (dl 0) ∧ Fld Z h b1 cF "openFirms" "I" (.int 2) ∧ Fld Z h b1 cF "members" "Lcom/example/housemartin/housemartin/firm/Members;" (.ref b2_4) ∧ Fld Z h b1 cF "changedNow" "[J" (.ref b2_9) ∧ Fld Z h b1 cF "changedBefore" "[J" (.ref b2_10) ∧ Fld Z h b1 cF "slotsUsed" "I" (.int 2) ∧ Exa Z h b2_1 "[D"
set_option maxRecDepth 65536 in
set_option maxHeartbeats 40000000 in
theorem rm7_4 (l : Launch) (Z : State) (a0 : Array Value) (hw : ∀ d ∈ tables_1, d.before a0 Z = true) (ws : List Jvm.Cond) (b1 : Addr) (x0 : Int32) (x1 : Int32) (x2 : Int32) (x3 : Int32) (b2_3 : Addr) (k2_3 : ClassId) (b2_2 : Addr) (k2_2 : ClassId) (b2_0 : Addr) (k2_0 : ClassId) (b2_1 : Addr) (k2_1 : ClassId) (b2_4 : Addr) (b2_9 : Addr) (b2_10 : Addr) (h0 : Heap) (n0 : Nat) (Z0 : n0 ≤ h0.size) (m0 : Fld Z h0 b1 cF "freeSlot" "I" (.int 0)) (m1 : Fld Z h0 b1 cF "births" "[I" (.ref b2_3)) (m2 : Arv Z h0 b2_3 k2_3 .int 4 [(.int (-1)), (.int 20), (.int 0), (.int 0)] (.int 0)) (m3 : Exa Z h0 b1 cF) (m4 : Fld Z h0 b1 cF "ids" "[J" (.ref b2_2)) (m5 : Fld Z h0 b1 cF "nextId" "J" (.long 3)) (m6 : Arv Z h0 b2_2 k2_2 .long 4 [(.long 1), (.long 2), (.long 0), (.long 0)] (.long 0)) (m7 : Fld Z h0 b1 cF "pages" "[[D" (.ref b2_0)) (m8 : Arv Z h0 b2_0 k2_0 (.array .double) 1 [(.ref b2_1)] .null) (m9 : Arv Z h0 b2_1 k2_1 .double 20 [(dl 1), (dl 2), (dl 3), (dl 0), (dl 0), (dl 4), (dl 5), (dl 6), (dl 0), (dl 0), (dl 0), (dl 0), (dl 0), (dl 0), (dl 0), (dl 0), (dl 0), (dl 0), (dl 0), (dl 0)] (dl 0)) (m10 : Fld Z h0 b1 cF "openFirms" "I" (.int 1)) (m11 : Fld Z h0 b1 cF "members" "Lcom/example/housemartin/housemartin/firm/Members;" (.ref b2_4)) (m12 : Fld Z h0 b1 cF "changedNow" "[J" (.ref b2_9)) (m13 : Fld Z h0 b1 cF "changedBefore" "[J" (.ref b2_10)) (m14 : Fld Z h0 b1 cF "slotsUsed" "I" (.int 2)) (m15 : Exa Z h0 b2_1 "[D") (ne_b2_2_b1 : b2_2 ≠ b1) (ne_b2_3_b1 : b2_3 ≠ b1) (ne_b2_3_b2_2 : b2_3 ≠ b2_2) (ne_b2_0_b1 : b2_0 ≠ b1) (ne_b2_0_b2_2 : b2_0 ≠ b2_2) (ne_b2_0_b2_3 : b2_0 ≠ b2_3) (ne_b2_1_b1 : b2_1 ≠ b1) (ne_b2_1_b2_2 : b2_1 ≠ b2_2) (ne_b2_1_b2_3 : b2_1 ≠ b2_3) (gg_b1 : n0 ≤ b1) (gg_b2_2 : n0 ≤ b2_2) (gg_b2_3 : n0 ≤ b2_3) (gg_b2_1 : n0 ≤ b2_1) :
    oM l y7 prog_8_method_2_code 11 (some .int) ws (⟨0, 0, 0, 0⟩ : Room) Z h0 #[(.ref b1), (dl (x0.toInt64)), (dl (x1.toInt64)), (dl (x2.toInt64)), (.int x3)] (Q_rm7_4 Z b1 x0 x1 x2 x3 b2_3 k2_3 b2_2 k2_2 b2_0 k2_0 b2_1 k2_1 b2_4 b2_9 b2_10 h0 n0) := by
  refine own_enter (Q := Q_rm7_4 Z b1 x0 x1 x2 x3 b2_3 k2_3 b2_2 k2_2 b2_0 k2_0 b2_1 k2_1 b2_4 b2_9 b2_10 h0 n0) (plainFor_of_name pn_com_example_housemartin_housemartin_firm_FirmSlots) ?_
  intro p e s m below meth c s₁ G X0 hx hby hml hZ hown hnm hret e0 go fin
  replace hown : s.vm.findClass cF = some m.cls := hown
  replace hnm : meth.name = "open" := hnm
  replace hml : c.maxLocals = 11 := hml
  rw [ef_7 m b1 _ _ _ x3]
  have N0 := Fr.nil n0
  refine go (fun tg kg => XS.aloadN X0.here hx rfl (hb hby d7_0) rfl rfl kg) ?_
  obtain ⟨T1001, X1001, e1001, st1001⟩ := getF X0 hx hZ hown (host := "") (Or.inl (own_w hw 10 rfl)) Via.refl e0 m0 (g := (mkF m 1 #[rv b1, dv (x0.toInt64), .second, dv (x1.toInt64), .second, dv (x2.toInt64), .second, iv x3, .unset, .unset, .unset] [(.ref b1)])) rfl rfl (hb hby d7_1)
  refine go st1001 ?_
  refine go (fun tg kg => XS.iconst X1001.here hx rfl (hb hby d7_4) kg) ?_
  refine go (fun tg kg => XS.icmpNo X1001.here hx rfl (hb hby d7_5) rfl (feq (by decide)).1 kg) ?_
  refine go (fun tg kg => XS.aloadN X1001.here hx rfl (hb hby d7_8) rfl rfl kg) ?_
  show G (T1001.setTop (mkF m 9 #[rv b1, dv (x0.toInt64), .second, dv (x1.toInt64), .second, dv (x2.toInt64), .second, iv x3, .unset, .unset, .unset] [(.ref b1)]))
  obtain ⟨T1002, X1002, e1002, st1002⟩ := getF X1001 hx hZ hown (host := "") (Or.inl (own_w hw 10 rfl)) Via.refl e1001 m0 (g := (mkF m 9 #[rv b1, dv (x0.toInt64), .second, dv (x1.toInt64), .second, dv (x2.toInt64), .second, iv x3, .unset, .unset, .unset] [(.ref b1)])) rfl rfl (hb hby d7_9)
  refine go st1002 ?_
  refine go (fun tg kg => XS.istore X1002.here hx rfl (hb hby d7_12) rfl (l' := #[rv b1, dv (x0.toInt64), .second, dv (x1.toInt64), .second, dv (x2.toInt64), .second, iv x3, iv 0, .unset, .unset]) rfl kg) ?_
  refine go (fun tg kg => XS.aloadN X1002.here hx rfl (hb hby d7_14) rfl rfl kg) ?_
  refine go (fun tg kg => XS.aloadN X1002.here hx rfl (hb hby d7_15) rfl rfl kg) ?_
  obtain ⟨T1003, X1003, e1003, st1003⟩ := getF X1002 hx hZ hown (host := "") (Or.inl (own_w hw 30 rfl)) Via.refl e1002 m1 (g := (mkF m 16 #[rv b1, dv (x0.toInt64), .second, dv (x1.toInt64), .second, dv (x2.toInt64), .second, iv x3, iv 0, .unset, .unset] [(.ref b1), (.ref b1)])) rfl rfl (hb hby d7_16)
  refine go st1003 ?_
  refine go (fun tg kg => XS.iload X1003.here hx rfl (hb hby d7_19) rfl kg) ?_
  show G (T1003.setTop (mkF m 21 #[rv b1, dv (x0.toInt64), .second, dv (x1.toInt64), .second, dv (x2.toInt64), .second, iv x3, iv 0, .unset, .unset] [(.int 0), (.ref b2_3), (.ref b1)]))
  obtain ⟨cl1004, Ar1004, q1004, S1004, M1004, H1004, U1004⟩ := id m2
  have hin1004 : ¬ ((0 : Int32) < 0 ∨ cl1004.slots.size ≤ ((0 : Int32)).toNatClampNeg) := inb_of S1004 ⟨by decide, by decide⟩
  refine go (fun tg kg => X1003.iaload hx (j := (0 : Int32)) (v := (.int (-1))) (by rw [e1003]; exact Ar1004.1) (State.isArrayOf_alike hZ.alike Ar1004.2.1) Ar1004.2.2 hin1004 (H1004.at hin1004 rfl) (g := (mkF m 21 #[rv b1, dv (x0.toInt64), .second, dv (x1.toInt64), .second, dv (x2.toInt64), .second, iv x3, iv 0, .unset, .unset] [(.int 0), (.ref b2_3), (.ref b1)])) rfl rfl (hb hby d7_21) _ kg) ?_
  obtain ⟨T1005, h1005, X1005, e1005, W1005, st1005⟩ := putF X1003 hx hZ hown (host := "") (Or.inl (own_w hw 10 rfl)) Via.refl e1003 m0 m3 (Or.inl (own_w hw 11 rfl)) (own_w hw 2 rfl) (ty := .int) (by decide) rfl rfl (g := (mkF m 22 #[rv b1, dv (x0.toInt64), .second, dv (x1.toInt64), .second, dv (x2.toInt64), .second, iv x3, iv 0, .unset, .unset] [(.int (-1)), (.ref b1)])) rfl rfl (hb hby d7_22)
  refine go st1005 ?_
  have Fw1005 : Fld Z h1005 b1 cF "freeSlot" "I" (.int (-1)) := m0.same W1005
  have N1005 := Fr.snoc X1005 N0 gg_b1
  have K1005 : Keep h0 h1005 [b1, b2_2, b2_3, b2_1] := (Keep.refl h0 [b1, b2_2, b2_3, b2_1]).wr W1005 (Or.inl (List.mem_of_getElem? (i := 0) rfl))
  have Z1005 := Nat.le_trans Z0 (Keep.of_wr W1005).1
  refine go (fun tg kg => XS.goto X1005.here hx rfl (pc0 := 25) (pc' := 44) rfl (hb hby d7_25) (by decide) (by decide) kg) ?_
  refine go (fun tg kg => XS.aloadN X1005.here hx rfl (hb hby d7_44) rfl rfl kg) ?_
  have Fa1006 := (m3.wr W1005)
  have Fa1007 := (m4.other W1005 (Or.inr (sn_ids_freeSlot hw)))
  obtain ⟨T1008, X1008, e1008, st1008⟩ := getF X1005 hx hZ hown (host := "") (Or.inl (own_w hw 27 rfl)) Via.refl e1005 Fa1007 (g := (mkF m 45 #[rv b1, dv (x0.toInt64), .second, dv (x1.toInt64), .second, dv (x2.toInt64), .second, iv x3, iv 0, .unset, .unset] [(.ref b1)])) rfl rfl (hb hby d7_45)
  refine go st1008 ?_
  refine go (fun tg kg => XS.iload X1008.here hx rfl (hb hby d7_48) rfl kg) ?_
  show G (T1008.setTop (mkF m 50 #[rv b1, dv (x0.toInt64), .second, dv (x1.toInt64), .second, dv (x2.toInt64), .second, iv x3, iv 0, .unset, .unset] [(.int 0), (.ref b2_2)]))
  refine go (fun tg kg => XS.aloadN X1008.here hx rfl (hb hby d7_50) rfl rfl kg) ?_
  have Fa1009 := (m5.other W1005 (Or.inr (sn_nextId_freeSlot hw)))
  obtain ⟨T1010, X1010, e1010, st1010⟩ := getF X1008 hx hZ hown (host := "") (Or.inl (own_w hw 12 rfl)) Via.refl e1008 Fa1009 (g := (mkF m 51 #[rv b1, dv (x0.toInt64), .second, dv (x1.toInt64), .second, dv (x2.toInt64), .second, iv x3, iv 0, .unset, .unset] [(.ref b1), (.int 0), (.ref b2_2)])) rfl rfl (hb hby d7_51)
  refine go st1010 ?_
  have Fa1011 := (m6.other W1005 ne_b2_2_b1)
  obtain ⟨cl1012, Ar1012, q1012, S1012, M1012, H1012, U1012⟩ := id Fa1011
  have hin1012 : ¬ ((0 : Int32) < 0 ∨ cl1012.slots.size ≤ ((0 : Int32)).toNatClampNeg) := inb_of S1012 ⟨by decide, by decide⟩
  obtain ⟨T1012, h1012, X1012, e1012, W1012, st1012⟩ := stJ X1010 hx hZ e1010 Ar1012 (j := (0 : Int32)) hin1012 (g := (mkF m 54 #[rv b1, dv (x0.toInt64), .second, dv (x1.toInt64), .second, dv (x2.toInt64), .second, iv x3, iv 0, .unset, .unset] [(.long 3), (.int 0), (.ref b2_2)])) rfl rfl (hb hby d7_54)
  refine go st1012 ?_
  have V1012 : Arv Z h1012 b2_2 k2_2 .long (4 : Int32) [(.long 3), (.long 2), (.long 0), (.long 0)] (.long 0) := Arv.set Ar1012 q1012 S1012 M1012 H1012 U1012 rfl W1012 0 rfl (Nat.le_of_ble_eq_true rfl)
  have N1012 := Fr.snoc X1012 N1005 gg_b2_2
  have K1012 : Keep h0 h1012 [b1, b2_2, b2_3, b2_1] := K1005.wr W1012 (Or.inl (List.mem_of_getElem? (i := 1) rfl))
  have Z1012 := Nat.le_trans Z1005 (Keep.of_wr W1012).1
  refine go (fun tg kg => XS.aloadN X1012.here hx rfl (hb hby d7_55) rfl rfl kg) ?_
  refine go (fun tg kg => XS.dup X1012.here hx rfl (hb hby d7_56) rfl rfl kg) ?_
  have Fa1013 := (Fa1009.other W1012 (Or.inl (Ne.symm ne_b2_2_b1)))
  obtain ⟨T1014, X1014, e1014, st1014⟩ := getF X1012 hx hZ hown (host := "") (Or.inl (own_w hw 12 rfl)) Via.refl e1012 Fa1013 (g := (mkF m 57 #[rv b1, dv (x0.toInt64), .second, dv (x1.toInt64), .second, dv (x2.toInt64), .second, iv x3, iv 0, .unset, .unset] [(.ref b1), (.ref b1)])) rfl rfl (hb hby d7_57)
  refine go st1014 ?_
  show G (T1014.setTop (mkF m 60 #[rv b1, dv (x0.toInt64), .second, dv (x1.toInt64), .second, dv (x2.toInt64), .second, iv x3, iv 0, .unset, .unset] [(.long 3), (.ref b1)]))
  refine go (fun tg kg => XS.lconst X1014.here hx rfl (hb hby d7_60) kg) ?_
  refine go (fun tg kg => XS.ladd X1014.here hx rfl (hb hby d7_61) rfl kg) ?_
  have Fa1015 := (Fa1006.wr W1012)
  obtain ⟨T1016, h1016, X1016, e1016, W1016, st1016⟩ := putF X1014 hx hZ hown (host := "") (Or.inl (own_w hw 12 rfl)) Via.refl e1014 Fa1013 Fa1015 (Or.inl (own_w hw 13 rfl)) (own_w hw 2 rfl) (ty := .long) (by decide) rfl rfl (g := (mkF m 62 #[rv b1, dv (x0.toInt64), .second, dv (x1.toInt64), .second, dv (x2.toInt64), .second, iv x3, iv 0, .unset, .unset] [(.long 4), (.ref b1)])) rfl rfl (hb hby d7_62)
  refine go st1016 ?_
  have Fw1016 : Fld Z h1016 b1 cF "nextId" "J" (.long 4) := Fa1013.same W1016
  have N1016 := Fr.snoc X1016 N1012 gg_b1
  have K1016 : Keep h0 h1016 [b1, b2_2, b2_3, b2_1] := K1012.wr W1016 (Or.inl (List.mem_of_getElem? (i := 0) rfl))
  have Z1016 := Nat.le_trans Z1012 (Keep.of_wr W1016).1
  refine go (fun tg kg => XS.aloadN X1016.here hx rfl (hb hby d7_65) rfl rfl kg) ?_
  have Fa1017 := (Fa1015.wr W1016)
  have Fa1018 := (((m1.other W1005 (Or.inr (sn_births_freeSlot hw))).other W1012 (Or.inl (Ne.symm ne_b2_2_b1))).other W1016 (Or.inr (sn_births_nextId hw)))
  obtain ⟨T1019, X1019, e1019, st1019⟩ := getF X1016 hx hZ hown (host := "") (Or.inl (own_w hw 30 rfl)) Via.refl e1016 Fa1018 (g := (mkF m 66 #[rv b1, dv (x0.toInt64), .second, dv (x1.toInt64), .second, dv (x2.toInt64), .second, iv x3, iv 0, .unset, .unset] [(.ref b1)])) rfl rfl (hb hby d7_66)
  refine go st1019 ?_
  refine go (fun tg kg => XS.iload X1019.here hx rfl (hb hby d7_69) rfl kg) ?_
  show G (T1019.setTop (mkF m 71 #[rv b1, dv (x0.toInt64), .second, dv (x1.toInt64), .second, dv (x2.toInt64), .second, iv x3, iv 0, .unset, .unset] [(.int 0), (.ref b2_3)]))
  refine go (fun tg kg => XS.iload X1019.here hx rfl (hb hby d7_71) rfl kg) ?_
  have Fa1020 := (((m2.other W1005 ne_b2_3_b1).other W1012 ne_b2_3_b2_2).other W1016 ne_b2_3_b1)
  obtain ⟨cl1021, Ar1021, q1021, S1021, M1021, H1021, U1021⟩ := id Fa1020
  have hin1021 : ¬ ((0 : Int32) < 0 ∨ cl1021.slots.size ≤ ((0 : Int32)).toNatClampNeg) := inb_of S1021 ⟨by decide, by decide⟩
  obtain ⟨T1021, h1021, X1021, e1021, W1021, st1021⟩ := stI X1019 hx hZ e1019 Ar1021 (j := (0 : Int32)) hin1021 (g := (mkF m 73 #[rv b1, dv (x0.toInt64), .second, dv (x1.toInt64), .second, dv (x2.toInt64), .second, iv x3, iv 0, .unset, .unset] [(.int x3), (.int 0), (.ref b2_3)])) rfl rfl (hb hby d7_73)
  refine go st1021 ?_
  have V1021 : Arv Z h1021 b2_3 k2_3 .int (4 : Int32) [(.int x3), (.int 20), (.int 0), (.int 0)] (.int 0) := Arv.set Ar1021 q1021 S1021 M1021 H1021 U1021 rfl W1021 0 rfl (Nat.le_of_ble_eq_true rfl)
  have N1021 := Fr.snoc X1021 N1016 gg_b2_3
  have K1021 : Keep h0 h1021 [b1, b2_2, b2_3, b2_1] := K1016.wr W1021 (Or.inl (List.mem_of_getElem? (i := 2) rfl))
  have Z1021 := Nat.le_trans Z1016 (Keep.of_wr W1021).1
  refine go (fun tg kg => XS.aloadN X1021.here hx rfl (hb hby d7_74) rfl rfl kg) ?_
  have Fa1022 := (Fa1017.wr W1021)
  have Fa1023 := ((((m7.other W1005 (Or.inr (sn_pages_freeSlot hw))).other W1012 (Or.inl (Ne.symm ne_b2_2_b1))).other W1016 (Or.inr (sn_pages_nextId hw))).other W1021 (Or.inl (Ne.symm ne_b2_3_b1)))
  obtain ⟨T1024, X1024, e1024, st1024⟩ := getF X1021 hx hZ hown (host := "") (Or.inl (own_w hw 17 rfl)) Via.refl e1021 Fa1023 (g := (mkF m 75 #[rv b1, dv (x0.toInt64), .second, dv (x1.toInt64), .second, dv (x2.toInt64), .second, iv x3, iv 0, .unset, .unset] [(.ref b1)])) rfl rfl (hb hby d7_75)
  refine go st1024 ?_
  refine go (fun tg kg => XS.iload X1024.here hx rfl (hb hby d7_78) rfl kg) ?_
  refine go (fun tg kg => XS.bipush X1024.here hx rfl (hb hby d7_80) kg) ?_
  show G (T1024.setTop (mkF m 82 #[rv b1, dv (x0.toInt64), .second, dv (x1.toInt64), .second, dv (x2.toInt64), .second, iv x3, iv 0, .unset, .unset] [(.int 24), (.int 0), (.ref b2_0)]))
  refine go (fun tg kg => XS.iushr X1024.here hx rfl (hb hby d7_82) rfl kg) ?_
  show G (T1024.setTop (mkF m 83 #[rv b1, dv (x0.toInt64), .second, dv (x1.toInt64), .second, dv (x2.toInt64), .second, iv x3, iv 0, .unset, .unset] [(.int (((0 : Int32).toUInt32 >>> ((24 : Int32) &&& 31).toUInt32).toInt32)), (.ref b2_0)]))
  rw [show (((0 : Int32).toUInt32 >>> ((24 : Int32) &&& 31).toUInt32).toInt32) = (0 : Int32) from by decide]
  show G (T1024.setTop (mkF m 83 #[rv b1, dv (x0.toInt64), .second, dv (x1.toInt64), .second, dv (x2.toInt64), .second, iv x3, iv 0, .unset, .unset] [(.int 0), (.ref b2_0)]))
  have Fa1025 := ((((m8.other W1005 ne_b2_0_b1).other W1012 ne_b2_0_b2_2).other W1016 ne_b2_0_b1).other W1021 ne_b2_0_b2_3)
  obtain ⟨cl1026, Ar1026, q1026, S1026, M1026, H1026, U1026⟩ := id Fa1025
  have hin1026 : ¬ ((0 : Int32) < 0 ∨ cl1026.slots.size ≤ ((0 : Int32)).toNatClampNeg) := inb_of S1026 ⟨by decide, by decide⟩
  refine go (fun tg kg => X1024.aaload hx (j := (0 : Int32)) (v := (.ref b2_1)) (by rw [e1024]; exact Ar1026.1) (State.isArrayOf_alike hZ.alike Ar1026.2.1) rfl Ar1026.2.2 hin1026 (H1026.at hin1026 rfl) (g := (mkF m 83 #[rv b1, dv (x0.toInt64), .second, dv (x1.toInt64), .second, dv (x2.toInt64), .second, iv x3, iv 0, .unset, .unset] [(.int 0), (.ref b2_0)])) rfl rfl (hb hby d7_83) _ kg) ?_
  refine go (fun tg kg => XS.astore X1024.here hx rfl (hb hby d7_84) rfl rfl (l' := #[rv b1, dv (x0.toInt64), .second, dv (x1.toInt64), .second, dv (x2.toInt64), .second, iv x3, iv 0, rv b2_1, .unset]) rfl kg) ?_
  refine go (fun tg kg => XS.iload X1024.here hx rfl (hb hby d7_86) rfl kg) ?_
  refine go (fun tg kg => X1024.ldcInt hx hown (mvT hZ (own_w hw 71 rfl)) (g := (mkF m 88 #[rv b1, dv (x0.toInt64), .second, dv (x1.toInt64), .second, dv (x2.toInt64), .second, iv x3, iv 0, rv b2_1, .unset] [(.int 0)])) rfl (hb hby d7_88) _ kg) ?_
  refine go (fun tg kg => XS.iand X1024.here hx rfl (hb hby d7_90) rfl kg) ?_
  refine go (fun tg kg => XS.iconst X1024.here hx rfl (hb hby d7_91) kg) ?_
  show G (T1024.setTop (mkF m 92 #[rv b1, dv (x0.toInt64), .second, dv (x1.toInt64), .second, dv (x2.toInt64), .second, iv x3, iv 0, rv b2_1, .unset] [(.int 5), (.int 0)]))
  refine go (fun tg kg => XS.imul X1024.here hx rfl (hb hby d7_92) rfl kg) ?_
  refine go (fun tg kg => XS.istore X1024.here hx rfl (hb hby d7_93) rfl (l' := #[rv b1, dv (x0.toInt64), .second, dv (x1.toInt64), .second, dv (x2.toInt64), .second, iv x3, iv 0, rv b2_1, iv 0]) rfl kg) ?_
  refine go (fun tg kg => XS.aload X1024.here hx rfl (hb hby d7_95) rfl rfl kg) ?_
  refine go (fun tg kg => XS.iload X1024.here hx rfl (hb hby d7_97) rfl kg) ?_
  refine go (fun tg kg => XS.iconst X1024.here hx rfl (hb hby d7_99) kg) ?_
  refine go (fun tg kg => XS.iadd X1024.here hx rfl (hb hby d7_100) rfl kg) ?_
  show G (T1024.setTop (mkF m 101 #[rv b1, dv (x0.toInt64), .second, dv (x1.toInt64), .second, dv (x2.toInt64), .second, iv x3, iv 0, rv b2_1, iv 0] [(.int 0), (.ref b2_1)]))
  refine go (fun tg kg => XS.dloadN X1024.here hx rfl (hb hby d7_101) rfl kg) ?_
  have Fa1027 := ((((m9.other W1005 ne_b2_1_b1).other W1012 ne_b2_1_b2_2).other W1016 ne_b2_1_b1).other W1021 ne_b2_1_b2_3)
  obtain ⟨cl1028, Ar1028, q1028, S1028, M1028, H1028, U1028⟩ := id Fa1027
  have hin1028 : ¬ ((0 : Int32) < 0 ∨ cl1028.slots.size ≤ ((0 : Int32)).toNatClampNeg) := inb_of S1028 ⟨by decide, by decide⟩
  obtain ⟨T1028, h1028, X1028, e1028, W1028, st1028⟩ := stD X1024 hx hZ e1024 Ar1028 (j := (0 : Int32)) hin1028 (g := (mkF m 102 #[rv b1, dv (x0.toInt64), .second, dv (x1.toInt64), .second, dv (x2.toInt64), .second, iv x3, iv 0, rv b2_1, iv 0] [(dl (x0.toInt64)), (.int 0), (.ref b2_1)])) rfl rfl (hb hby d7_102)
  refine go st1028 ?_
  have V1028 : Arv Z h1028 b2_1 k2_1 .double (20 : Int32) [(dl (x0.toInt64)), (dl 2), (dl 3), (dl 0), (dl 0), (dl 4), (dl 5), (dl 6), (dl 0), (dl 0), (dl 0), (dl 0), (dl 0), (dl 0), (dl 0), (dl 0), (dl 0), (dl 0), (dl 0), (dl 0)] (dl 0) := Arv.set Ar1028 q1028 S1028 M1028 H1028 U1028 rfl W1028 0 rfl (Nat.le_of_ble_eq_true rfl)
  have N1028 := Fr.snoc X1028 N1021 gg_b2_1
  have K1028 : Keep h0 h1028 [b1, b2_2, b2_3, b2_1] := K1021.wr W1028 (Or.inl (List.mem_of_getElem? (i := 3) rfl))
  have Z1028 := Nat.le_trans Z1021 (Keep.of_wr W1028).1
  refine go (fun tg kg => XS.aload X1028.here hx rfl (hb hby d7_103) rfl rfl kg) ?_
  refine go (fun tg kg => XS.iload X1028.here hx rfl (hb hby d7_105) rfl kg) ?_
  refine go (fun tg kg => XS.iconst X1028.here hx rfl (hb hby d7_107) kg) ?_
  refine go (fun tg kg => XS.iadd X1028.here hx rfl (hb hby d7_108) rfl kg) ?_
  show G (T1028.setTop (mkF m 109 #[rv b1, dv (x0.toInt64), .second, dv (x1.toInt64), .second, dv (x2.toInt64), .second, iv x3, iv 0, rv b2_1, iv 0] [(.int 1), (.ref b2_1)]))
  refine go (fun tg kg => XS.dloadN X1028.here hx rfl (hb hby d7_109) rfl kg) ?_
  obtain ⟨cl1029, Ar1029, q1029, S1029, M1029, H1029, U1029⟩ := id V1028
  have hin1029 : ¬ ((1 : Int32) < 0 ∨ cl1029.slots.size ≤ ((1 : Int32)).toNatClampNeg) := inb_of S1029 ⟨by decide, by decide⟩
  obtain ⟨T1029, h1029, X1029, e1029, W1029, st1029⟩ := stD X1028 hx hZ e1028 Ar1029 (j := (1 : Int32)) hin1029 (g := (mkF m 110 #[rv b1, dv (x0.toInt64), .second, dv (x1.toInt64), .second, dv (x2.toInt64), .second, iv x3, iv 0, rv b2_1, iv 0] [(dl (x1.toInt64)), (.int 1), (.ref b2_1)])) rfl rfl (hb hby d7_110)
  refine go st1029 ?_
  have V1029 : Arv Z h1029 b2_1 k2_1 .double (20 : Int32) [(dl (x0.toInt64)), (dl (x1.toInt64)), (dl 3), (dl 0), (dl 0), (dl 4), (dl 5), (dl 6), (dl 0), (dl 0), (dl 0), (dl 0), (dl 0), (dl 0), (dl 0), (dl 0), (dl 0), (dl 0), (dl 0), (dl 0)] (dl 0) := Arv.set Ar1029 q1029 S1029 M1029 H1029 U1029 rfl W1029 1 rfl (Nat.le_of_ble_eq_true rfl)
  have N1029 := Fr.snoc X1029 N1028 gg_b2_1
  have K1029 : Keep h0 h1029 [b1, b2_2, b2_3, b2_1] := K1028.wr W1029 (Or.inl (List.mem_of_getElem? (i := 3) rfl))
  have Z1029 := Nat.le_trans Z1028 (Keep.of_wr W1029).1
  refine go (fun tg kg => XS.aload X1029.here hx rfl (hb hby d7_111) rfl rfl kg) ?_
  refine go (fun tg kg => XS.iload X1029.here hx rfl (hb hby d7_113) rfl kg) ?_
  refine go (fun tg kg => XS.iconst X1029.here hx rfl (hb hby d7_115) kg) ?_
  refine go (fun tg kg => XS.iadd X1029.here hx rfl (hb hby d7_116) rfl kg) ?_
  show G (T1029.setTop (mkF m 117 #[rv b1, dv (x0.toInt64), .second, dv (x1.toInt64), .second, dv (x2.toInt64), .second, iv x3, iv 0, rv b2_1, iv 0] [(.int 2), (.ref b2_1)]))
  refine go (fun tg kg => XS.dload X1029.here hx rfl (hb hby d7_117) rfl kg) ?_
  obtain ⟨cl1030, Ar1030, q1030, S1030, M1030, H1030, U1030⟩ := id V1029
  have hin1030 : ¬ ((2 : Int32) < 0 ∨ cl1030.slots.size ≤ ((2 : Int32)).toNatClampNeg) := inb_of S1030 ⟨by decide, by decide⟩
  obtain ⟨T1030, h1030, X1030, e1030, W1030, st1030⟩ := stD X1029 hx hZ e1029 Ar1030 (j := (2 : Int32)) hin1030 (g := (mkF m 119 #[rv b1, dv (x0.toInt64), .second, dv (x1.toInt64), .second, dv (x2.toInt64), .second, iv x3, iv 0, rv b2_1, iv 0] [(dl (x2.toInt64)), (.int 2), (.ref b2_1)])) rfl rfl (hb hby d7_119)
  refine go st1030 ?_
  have V1030 : Arv Z h1030 b2_1 k2_1 .double (20 : Int32) [(dl (x0.toInt64)), (dl (x1.toInt64)), (dl (x2.toInt64)), (dl 0), (dl 0), (dl 4), (dl 5), (dl 6), (dl 0), (dl 0), (dl 0), (dl 0), (dl 0), (dl 0), (dl 0), (dl 0), (dl 0), (dl 0), (dl 0), (dl 0)] (dl 0) := Arv.set Ar1030 q1030 S1030 M1030 H1030 U1030 rfl W1030 2 rfl (Nat.le_of_ble_eq_true rfl)
  have N1030 := Fr.snoc X1030 N1029 gg_b2_1
  have K1030 : Keep h0 h1030 [b1, b2_2, b2_3, b2_1] := K1029.wr W1030 (Or.inl (List.mem_of_getElem? (i := 3) rfl))
  have Z1030 := Nat.le_trans Z1029 (Keep.of_wr W1030).1
  refine go (fun tg kg => XS.aload X1030.here hx rfl (hb hby d7_120) rfl rfl kg) ?_
  refine go (fun tg kg => XS.iload X1030.here hx rfl (hb hby d7_122) rfl kg) ?_
  refine go (fun tg kg => XS.iconst X1030.here hx rfl (hb hby d7_124) kg) ?_
  refine go (fun tg kg => XS.iadd X1030.here hx rfl (hb hby d7_125) rfl kg) ?_
  show G (T1030.setTop (mkF m 126 #[rv b1, dv (x0.toInt64), .second, dv (x1.toInt64), .second, dv (x2.toInt64), .second, iv x3, iv 0, rv b2_1, iv 0] [(.int 3), (.ref b2_1)]))
  refine go (fun tg kg => XS.dconst0 X1030.here hx rfl (hb hby d7_126) own_d0 kg) ?_
  obtain ⟨cl1031, Ar1031, q1031, S1031, M1031, H1031, U1031⟩ := id V1030
  have hin1031 : ¬ ((3 : Int32) < 0 ∨ cl1031.slots.size ≤ ((3 : Int32)).toNatClampNeg) := inb_of S1031 ⟨by decide, by decide⟩
  obtain ⟨T1031, h1031, X1031, e1031, W1031, st1031⟩ := stD X1030 hx hZ e1030 Ar1031 (j := (3 : Int32)) hin1031 (g := (mkF m 127 #[rv b1, dv (x0.toInt64), .second, dv (x1.toInt64), .second, dv (x2.toInt64), .second, iv x3, iv 0, rv b2_1, iv 0] [(dl 0), (.int 3), (.ref b2_1)])) rfl rfl (hb hby d7_127)
  refine go st1031 ?_
  have V1031 : Arv Z h1031 b2_1 k2_1 .double (20 : Int32) [(dl (x0.toInt64)), (dl (x1.toInt64)), (dl (x2.toInt64)), (dl 0), (dl 0), (dl 4), (dl 5), (dl 6), (dl 0), (dl 0), (dl 0), (dl 0), (dl 0), (dl 0), (dl 0), (dl 0), (dl 0), (dl 0), (dl 0), (dl 0)] (dl 0) := Arv.set Ar1031 q1031 S1031 M1031 H1031 U1031 rfl W1031 3 rfl (Nat.le_of_ble_eq_true rfl)
  have N1031 := Fr.snoc X1031 N1030 gg_b2_1
  have K1031 : Keep h0 h1031 [b1, b2_2, b2_3, b2_1] := K1030.wr W1031 (Or.inl (List.mem_of_getElem? (i := 3) rfl))
  have Z1031 := Nat.le_trans Z1030 (Keep.of_wr W1031).1
  refine go (fun tg kg => XS.aload X1031.here hx rfl (hb hby d7_128) rfl rfl kg) ?_
  refine go (fun tg kg => XS.iload X1031.here hx rfl (hb hby d7_130) rfl kg) ?_
  refine go (fun tg kg => XS.iconst X1031.here hx rfl (hb hby d7_132) kg) ?_
  refine go (fun tg kg => XS.iadd X1031.here hx rfl (hb hby d7_133) rfl kg) ?_
  show G (T1031.setTop (mkF m 134 #[rv b1, dv (x0.toInt64), .second, dv (x1.toInt64), .second, dv (x2.toInt64), .second, iv x3, iv 0, rv b2_1, iv 0] [(.int 4), (.ref b2_1)]))
  refine go (fun tg kg => XS.dconst0 X1031.here hx rfl (hb hby d7_134) own_d0 kg) ?_
  obtain ⟨cl1032, Ar1032, q1032, S1032, M1032, H1032, U1032⟩ := id V1031
  have hin1032 : ¬ ((4 : Int32) < 0 ∨ cl1032.slots.size ≤ ((4 : Int32)).toNatClampNeg) := inb_of S1032 ⟨by decide, by decide⟩
  obtain ⟨T1032, h1032, X1032, e1032, W1032, st1032⟩ := stD X1031 hx hZ e1031 Ar1032 (j := (4 : Int32)) hin1032 (g := (mkF m 135 #[rv b1, dv (x0.toInt64), .second, dv (x1.toInt64), .second, dv (x2.toInt64), .second, iv x3, iv 0, rv b2_1, iv 0] [(dl 0), (.int 4), (.ref b2_1)])) rfl rfl (hb hby d7_135)
  refine go st1032 ?_
  have V1032 : Arv Z h1032 b2_1 k2_1 .double (20 : Int32) [(dl (x0.toInt64)), (dl (x1.toInt64)), (dl (x2.toInt64)), (dl 0), (dl 0), (dl 4), (dl 5), (dl 6), (dl 0), (dl 0), (dl 0), (dl 0), (dl 0), (dl 0), (dl 0), (dl 0), (dl 0), (dl 0), (dl 0), (dl 0)] (dl 0) := Arv.set Ar1032 q1032 S1032 M1032 H1032 U1032 rfl W1032 4 rfl (Nat.le_of_ble_eq_true rfl)
  have N1032 := Fr.snoc X1032 N1031 gg_b2_1
  have K1032 : Keep h0 h1032 [b1, b2_2, b2_3, b2_1] := K1031.wr W1032 (Or.inl (List.mem_of_getElem? (i := 3) rfl))
  have Z1032 := Nat.le_trans Z1031 (Keep.of_wr W1032).1
  refine go (fun tg kg => XS.aloadN X1032.here hx rfl (hb hby d7_136) rfl rfl kg) ?_
  refine go (fun tg kg => XS.dup X1032.here hx rfl (hb hby d7_137) rfl rfl kg) ?_
  have Fa1033 := (((((Fa1022.wr W1028).wr W1029).wr W1030).wr W1031).wr W1032)
  have Fa1034 := (((((((((m10.other W1005 (Or.inr (sn_openFirms_freeSlot hw))).other W1012 (Or.inl (Ne.symm ne_b2_2_b1))).other W1016 (Or.inr (sn_openFirms_nextId hw))).other W1021 (Or.inl (Ne.symm ne_b2_3_b1))).other W1028 (Or.inl (Ne.symm ne_b2_1_b1))).other W1029 (Or.inl (Ne.symm ne_b2_1_b1))).other W1030 (Or.inl (Ne.symm ne_b2_1_b1))).other W1031 (Or.inl (Ne.symm ne_b2_1_b1))).other W1032 (Or.inl (Ne.symm ne_b2_1_b1)))
  obtain ⟨T1035, X1035, e1035, st1035⟩ := getF X1032 hx hZ hown (host := "") (Or.inl (own_w hw 72 rfl)) Via.refl e1032 Fa1034 (g := (mkF m 138 #[rv b1, dv (x0.toInt64), .second, dv (x1.toInt64), .second, dv (x2.toInt64), .second, iv x3, iv 0, rv b2_1, iv 0] [(.ref b1), (.ref b1)])) rfl rfl (hb hby d7_138)
  refine go st1035 ?_
  refine go (fun tg kg => XS.iconst X1035.here hx rfl (hb hby d7_141) kg) ?_
  show G (T1035.setTop (mkF m 142 #[rv b1, dv (x0.toInt64), .second, dv (x1.toInt64), .second, dv (x2.toInt64), .second, iv x3, iv 0, rv b2_1, iv 0] [(.int 1), (.int 1), (.ref b1)]))
  refine go (fun tg kg => XS.iadd X1035.here hx rfl (hb hby d7_142) rfl kg) ?_
  obtain ⟨T1036, h1036, X1036, e1036, W1036, st1036⟩ := putF X1035 hx hZ hown (host := "") (Or.inl (own_w hw 72 rfl)) Via.refl e1035 Fa1034 Fa1033 (Or.inl (own_w hw 73 rfl)) (own_w hw 2 rfl) (ty := .int) (by decide) rfl rfl (g := (mkF m 143 #[rv b1, dv (x0.toInt64), .second, dv (x1.toInt64), .second, dv (x2.toInt64), .second, iv x3, iv 0, rv b2_1, iv 0] [(.int 2), (.ref b1)])) rfl rfl (hb hby d7_143)
  refine go st1036 ?_
  have Fw1036 : Fld Z h1036 b1 cF "openFirms" "I" (.int 2) := Fa1034.same W1036
  have N1036 := Fr.snoc X1036 N1032 gg_b1
  have K1036 : Keep h0 h1036 [b1, b2_2, b2_3, b2_1] := K1032.wr W1036 (Or.inl (List.mem_of_getElem? (i := 0) rfl))
  have Z1036 := Nat.le_trans Z1032 (Keep.of_wr W1036).1
  refine go (fun tg kg => XS.iload X1036.here hx rfl (hb hby d7_146) rfl kg) ?_
  refine fin (some (.int 0)) X1036 (fun h => absurd h (by decide)) (fun fs hr => retOut X1036 hx hret rfl (Or.inl ⟨rfl, Or.inl rfl, _, rfl⟩) (hb hby d7_148) hr) (by decide) (by decide) ?_
  rw [e1036]
  have Fa1037 := (Fa1033.wr W1036)
  have Fa1038 := (((((((((Fw1005.other W1012 (Or.inl (Ne.symm ne_b2_2_b1))).other W1016 (Or.inr (sn_freeSlot_nextId hw))).other W1021 (Or.inl (Ne.symm ne_b2_3_b1))).other W1028 (Or.inl (Ne.symm ne_b2_1_b1))).other W1029 (Or.inl (Ne.symm ne_b2_1_b1))).other W1030 (Or.inl (Ne.symm ne_b2_1_b1))).other W1031 (Or.inl (Ne.symm ne_b2_1_b1))).other W1032 (Or.inl (Ne.symm ne_b2_1_b1))).other W1036 (Or.inr (sn_freeSlot_openFirms hw)))
  have Fa1039 := (((((((Fa1018.other W1021 (Or.inl (Ne.symm ne_b2_3_b1))).other W1028 (Or.inl (Ne.symm ne_b2_1_b1))).other W1029 (Or.inl (Ne.symm ne_b2_1_b1))).other W1030 (Or.inl (Ne.symm ne_b2_1_b1))).other W1031 (Or.inl (Ne.symm ne_b2_1_b1))).other W1032 (Or.inl (Ne.symm ne_b2_1_b1))).other W1036 (Or.inr (sn_births_openFirms hw)))
  have Fa1040 := ((((((V1021.other W1028 (Ne.symm ne_b2_1_b2_3)).other W1029 (Ne.symm ne_b2_1_b2_3)).other W1030 (Ne.symm ne_b2_1_b2_3)).other W1031 (Ne.symm ne_b2_1_b2_3)).other W1032 (Ne.symm ne_b2_1_b2_3)).other W1036 ne_b2_3_b1)
  have Fa1041 := (((((((((Fa1007.other W1012 (Or.inl (Ne.symm ne_b2_2_b1))).other W1016 (Or.inr (sn_ids_nextId hw))).other W1021 (Or.inl (Ne.symm ne_b2_3_b1))).other W1028 (Or.inl (Ne.symm ne_b2_1_b1))).other W1029 (Or.inl (Ne.symm ne_b2_1_b1))).other W1030 (Or.inl (Ne.symm ne_b2_1_b1))).other W1031 (Or.inl (Ne.symm ne_b2_1_b1))).other W1032 (Or.inl (Ne.symm ne_b2_1_b1))).other W1036 (Or.inr (sn_ids_openFirms hw)))
  have Fa1042 := (((((((Fw1016.other W1021 (Or.inl (Ne.symm ne_b2_3_b1))).other W1028 (Or.inl (Ne.symm ne_b2_1_b1))).other W1029 (Or.inl (Ne.symm ne_b2_1_b1))).other W1030 (Or.inl (Ne.symm ne_b2_1_b1))).other W1031 (Or.inl (Ne.symm ne_b2_1_b1))).other W1032 (Or.inl (Ne.symm ne_b2_1_b1))).other W1036 (Or.inr (sn_nextId_openFirms hw)))
  have Fa1043 := ((((((((V1012.other W1016 ne_b2_2_b1).other W1021 (Ne.symm ne_b2_3_b2_2)).other W1028 (Ne.symm ne_b2_1_b2_2)).other W1029 (Ne.symm ne_b2_1_b2_2)).other W1030 (Ne.symm ne_b2_1_b2_2)).other W1031 (Ne.symm ne_b2_1_b2_2)).other W1032 (Ne.symm ne_b2_1_b2_2)).other W1036 ne_b2_2_b1)
  have Fa1044 := ((((((Fa1023.other W1028 (Or.inl (Ne.symm ne_b2_1_b1))).other W1029 (Or.inl (Ne.symm ne_b2_1_b1))).other W1030 (Or.inl (Ne.symm ne_b2_1_b1))).other W1031 (Or.inl (Ne.symm ne_b2_1_b1))).other W1032 (Or.inl (Ne.symm ne_b2_1_b1))).other W1036 (Or.inr (sn_pages_openFirms hw)))
  have Fa1045 := (V1032.other W1036 ne_b2_1_b1)
  have Fa1046 := ((((((((((m11.other W1005 (Or.inr (sn_members_freeSlot hw))).other W1012 (Or.inl (Ne.symm ne_b2_2_b1))).other W1016 (Or.inr (sn_members_nextId hw))).other W1021 (Or.inl (Ne.symm ne_b2_3_b1))).other W1028 (Or.inl (Ne.symm ne_b2_1_b1))).other W1029 (Or.inl (Ne.symm ne_b2_1_b1))).other W1030 (Or.inl (Ne.symm ne_b2_1_b1))).other W1031 (Or.inl (Ne.symm ne_b2_1_b1))).other W1032 (Or.inl (Ne.symm ne_b2_1_b1))).other W1036 (Or.inr (sn_members_openFirms hw)))
  have Fa1047 := ((((((((((m12.other W1005 (Or.inr (sn_changedNow_freeSlot hw))).other W1012 (Or.inl (Ne.symm ne_b2_2_b1))).other W1016 (Or.inr (sn_changedNow_nextId hw))).other W1021 (Or.inl (Ne.symm ne_b2_3_b1))).other W1028 (Or.inl (Ne.symm ne_b2_1_b1))).other W1029 (Or.inl (Ne.symm ne_b2_1_b1))).other W1030 (Or.inl (Ne.symm ne_b2_1_b1))).other W1031 (Or.inl (Ne.symm ne_b2_1_b1))).other W1032 (Or.inl (Ne.symm ne_b2_1_b1))).other W1036 (Or.inr (sn_changedNow_openFirms hw)))
  have Fa1048 := ((((((((((m13.other W1005 (Or.inr (sn_changedBefore_freeSlot hw))).other W1012 (Or.inl (Ne.symm ne_b2_2_b1))).other W1016 (Or.inr (sn_changedBefore_nextId hw))).other W1021 (Or.inl (Ne.symm ne_b2_3_b1))).other W1028 (Or.inl (Ne.symm ne_b2_1_b1))).other W1029 (Or.inl (Ne.symm ne_b2_1_b1))).other W1030 (Or.inl (Ne.symm ne_b2_1_b1))).other W1031 (Or.inl (Ne.symm ne_b2_1_b1))).other W1032 (Or.inl (Ne.symm ne_b2_1_b1))).other W1036 (Or.inr (sn_changedBefore_openFirms hw)))
  have Fa1049 := ((((((((((m14.other W1005 (Or.inr (sn_slotsUsed_freeSlot hw))).other W1012 (Or.inl (Ne.symm ne_b2_2_b1))).other W1016 (Or.inr (sn_slotsUsed_nextId hw))).other W1021 (Or.inl (Ne.symm ne_b2_3_b1))).other W1028 (Or.inl (Ne.symm ne_b2_1_b1))).other W1029 (Or.inl (Ne.symm ne_b2_1_b1))).other W1030 (Or.inl (Ne.symm ne_b2_1_b1))).other W1031 (Or.inl (Ne.symm ne_b2_1_b1))).other W1032 (Or.inl (Ne.symm ne_b2_1_b1))).other W1036 (Or.inr (sn_slotsUsed_openFirms hw)))
  have Fa1050 := ((((((((((m15.wr W1005).wr W1012).wr W1016).wr W1021).wr W1028).wr W1029).wr W1030).wr W1031).wr W1032).wr W1036)
  exact ⟨rfl, N1036, K1036, Fa1038, Fa1039, Fa1040, Fa1037, Fa1041, Fa1042, Fa1043, Fa1044, Fa1045, Fw1036, Fa1046, Fa1047, Fa1048, Fa1049, Fa1050⟩
def Q_rm8_1 (Z : State) (b1 : Addr) (b2_2 : Addr) (k2_2 : ClassId) (h0 : Heap) (n0 : Nat) (v : Option Value) (h : Heap) (L : List Loc) : Prop := v = some (.long 3) ∧ Fr n0 L ∧ h = h0
set_option maxRecDepth 65536 in
set_option maxHeartbeats 40000000 in
theorem rm8_1 (l : Launch) (Z : State) (a0 : Array Value) (hw : ∀ d ∈ tables_1, d.before a0 Z = true) (ws : List Jvm.Cond) (b1 : Addr) (b2_2 : Addr) (k2_2 : ClassId) (h0 : Heap) (n0 : Nat) (Z0 : n0 ≤ h0.size) (m0 : Fld Z h0 b1 cF "ids" "[J" (.ref b2_2)) (m1 : Arv Z h0 b2_2 k2_2 .long 4 [(.long 3), (.long 2), (.long 0), (.long 0)] (.long 0)) :
    oM l y8 prog_8_method_8_code 2 (some .long) ws (⟨0, 0, 0, 0⟩ : Room) Z h0 #[(.ref b1), (.int 0)] (Q_rm8_1 Z b1 b2_2 k2_2 h0 n0) := by
  refine own_enter (Q := Q_rm8_1 Z b1 b2_2 k2_2 h0 n0) (plainFor_of_name pn_com_example_housemartin_housemartin_firm_FirmSlots) ?_
  intro p e s m below meth c s₁ G X0 hx hby hml hZ hown hnm hret e0 go fin
  replace hown : s.vm.findClass cF = some m.cls := hown
  replace hnm : meth.name = "id" := hnm
  replace hml : c.maxLocals = 2 := hml
  rw [ef_8 m b1 _]
  have N0 := Fr.nil n0
  refine go (fun tg kg => XS.aloadN X0.here hx rfl (hb hby d8_0) rfl rfl kg) ?_
  obtain ⟨T1001, X1001, e1001, st1001⟩ := getF X0 hx hZ hown (host := "") (Or.inl (own_w hw 27 rfl)) Via.refl e0 m0 (g := (mkF m 1 #[rv b1, iv 0] [(.ref b1)])) rfl rfl (hb hby d8_1)
  refine go st1001 ?_
  refine go (fun tg kg => XS.iloadN X1001.here hx rfl (hb hby d8_4) rfl kg) ?_
  obtain ⟨cl1002, Ar1002, q1002, S1002, M1002, H1002, U1002⟩ := id m1
  have hin1002 : ¬ ((0 : Int32) < 0 ∨ cl1002.slots.size ≤ ((0 : Int32)).toNatClampNeg) := inb_of S1002 ⟨by decide, by decide⟩
  refine go (fun tg kg => X1001.laload hx (j := (0 : Int32)) (v := (.long 3)) (by rw [e1001]; exact Ar1002.1) (State.isArrayOf_alike hZ.alike Ar1002.2.1) Ar1002.2.2 hin1002 (H1002.at hin1002 rfl) (g := (mkF m 5 #[rv b1, iv 0] [(.int 0), (.ref b2_2)])) rfl rfl (hb hby d8_5) _ kg) ?_
  refine fin (some (.long 3)) X1001 (fun h => absurd h (by decide)) (fun fs hr => retOut X1001 hx hret rfl (Or.inr (Or.inl ⟨rfl, rfl, _, rfl⟩)) (hb hby d8_6) hr) (by decide) (by decide) ?_
  rw [e1001]
  exact ⟨rfl, N0, rfl⟩
def Q_rm9_1 (Z : State) (b1 : Addr) (b2_3 : Addr) (k2_3 : ClassId) (x3 : Int32) (h0 : Heap) (n0 : Nat) (v : Option Value) (h : Heap) (L : List Loc) : Prop := v = some (.int x3) ∧ Fr n0 L ∧ h = h0
set_option maxRecDepth 65536 in
set_option maxHeartbeats 40000000 in
theorem rm9_1 (l : Launch) (Z : State) (a0 : Array Value) (hw : ∀ d ∈ tables_1, d.before a0 Z = true) (ws : List Jvm.Cond) (b1 : Addr) (b2_3 : Addr) (k2_3 : ClassId) (x3 : Int32) (h0 : Heap) (n0 : Nat) (Z0 : n0 ≤ h0.size) (m0 : Fld Z h0 b1 cF "births" "[I" (.ref b2_3)) (m1 : Arv Z h0 b2_3 k2_3 .int 4 [(.int x3), (.int 20), (.int 0), (.int 0)] (.int 0)) :
    oM l y9 prog_8_method_9_code 2 (some .int) ws (⟨0, 0, 0, 0⟩ : Room) Z h0 #[(.ref b1), (.int 0)] (Q_rm9_1 Z b1 b2_3 k2_3 x3 h0 n0) := by
  refine own_enter (Q := Q_rm9_1 Z b1 b2_3 k2_3 x3 h0 n0) (plainFor_of_name pn_com_example_housemartin_housemartin_firm_FirmSlots) ?_
  intro p e s m below meth c s₁ G X0 hx hby hml hZ hown hnm hret e0 go fin
  replace hown : s.vm.findClass cF = some m.cls := hown
  replace hnm : meth.name = "birth" := hnm
  replace hml : c.maxLocals = 2 := hml
  rw [ef_9 m b1 _]
  have N0 := Fr.nil n0
  refine go (fun tg kg => XS.aloadN X0.here hx rfl (hb hby d9_0) rfl rfl kg) ?_
  obtain ⟨T1001, X1001, e1001, st1001⟩ := getF X0 hx hZ hown (host := "") (Or.inl (own_w hw 30 rfl)) Via.refl e0 m0 (g := (mkF m 1 #[rv b1, iv 0] [(.ref b1)])) rfl rfl (hb hby d9_1)
  refine go st1001 ?_
  refine go (fun tg kg => XS.iloadN X1001.here hx rfl (hb hby d9_4) rfl kg) ?_
  obtain ⟨cl1002, Ar1002, q1002, S1002, M1002, H1002, U1002⟩ := id m1
  have hin1002 : ¬ ((0 : Int32) < 0 ∨ cl1002.slots.size ≤ ((0 : Int32)).toNatClampNeg) := inb_of S1002 ⟨by decide, by decide⟩
  refine go (fun tg kg => X1001.iaload hx (j := (0 : Int32)) (v := (.int x3)) (by rw [e1001]; exact Ar1002.1) (State.isArrayOf_alike hZ.alike Ar1002.2.1) Ar1002.2.2 hin1002 (H1002.at hin1002 rfl) (g := (mkF m 5 #[rv b1, iv 0] [(.int 0), (.ref b2_3)])) rfl rfl (hb hby d9_5) _ kg) ?_
  refine fin (some (.int x3)) X1001 (fun h => absurd h (by decide)) (fun fs hr => retOut X1001 hx hret rfl (Or.inl ⟨rfl, Or.inl rfl, _, rfl⟩) (hb hby d9_6) hr) (by decide) (by decide) ?_
  rw [e1001]
  exact ⟨rfl, N0, rfl⟩
def Q_rm10_1 (Z : State) (b1 : Addr) (b2_0 : Addr) (k2_0 : ClassId) (b2_1 : Addr) (k2_1 : ClassId) (x0 : Int32) (x1 : Int32) (x2 : Int32) (h0 : Heap) (n0 : Nat) (v : Option Value) (h : Heap) (L : List Loc) : Prop := v = some (dl (x0.toInt64)) ∧ Fr n0 L ∧ h = h0
set_option maxRecDepth 65536 in
set_option maxHeartbeats 40000000 in
theorem rm10_1 (l : Launch) (Z : State) (a0 : Array Value) (hw : ∀ d ∈ tables_1, d.before a0 Z = true) (ws : List Jvm.Cond) (b1 : Addr) (b2_0 : Addr) (k2_0 : ClassId) (b2_1 : Addr) (k2_1 : ClassId) (x0 : Int32) (x1 : Int32) (x2 : Int32) (h0 : Heap) (n0 : Nat) (Z0 : n0 ≤ h0.size) (m0 : Fld Z h0 b1 cF "pages" "[[D" (.ref b2_0)) (m1 : Arv Z h0 b2_0 k2_0 (.array .double) 1 [(.ref b2_1)] .null) (m2 : Arv Z h0 b2_1 k2_1 .double 20 [(dl (x0.toInt64)), (dl (x1.toInt64)), (dl (x2.toInt64)), (dl 0), (dl 0), (dl 4), (dl 5), (dl 6), (dl 0), (dl 0), (dl 0), (dl 0), (dl 0), (dl 0), (dl 0), (dl 0), (dl 0), (dl 0), (dl 0), (dl 0)] (dl 0)) :
    oM l y10 prog_8_method_10_code 2 (some .double) ws (⟨0, 0, 0, 0⟩ : Room) Z h0 #[(.ref b1), (.int 0)] (Q_rm10_1 Z b1 b2_0 k2_0 b2_1 k2_1 x0 x1 x2 h0 n0) := by
  refine own_enter (Q := Q_rm10_1 Z b1 b2_0 k2_0 b2_1 k2_1 x0 x1 x2 h0 n0) (plainFor_of_name pn_com_example_housemartin_housemartin_firm_FirmSlots) ?_
  intro p e s m below meth c s₁ G X0 hx hby hml hZ hown hnm hret e0 go fin
  replace hown : s.vm.findClass cF = some m.cls := hown
  replace hnm : meth.name = "a" := hnm
  replace hml : c.maxLocals = 2 := hml
  rw [ef_10 m b1 _]
  have N0 := Fr.nil n0
  refine go (fun tg kg => XS.aloadN X0.here hx rfl (hb hby d10_0) rfl rfl kg) ?_
  obtain ⟨T1001, X1001, e1001, st1001⟩ := getF X0 hx hZ hown (host := "") (Or.inl (own_w hw 17 rfl)) Via.refl e0 m0 (g := (mkF m 1 #[rv b1, iv 0] [(.ref b1)])) rfl rfl (hb hby d10_1)
  refine go st1001 ?_
  refine go (fun tg kg => XS.iloadN X1001.here hx rfl (hb hby d10_4) rfl kg) ?_
  refine go (fun tg kg => XS.bipush X1001.here hx rfl (hb hby d10_5) kg) ?_
  refine go (fun tg kg => XS.iushr X1001.here hx rfl (hb hby d10_7) rfl kg) ?_
  show G (T1001.setTop (mkF m 8 #[rv b1, iv 0] [(.int (((0 : Int32).toUInt32 >>> ((24 : Int32) &&& 31).toUInt32).toInt32)), (.ref b2_0)]))
  rw [show (((0 : Int32).toUInt32 >>> ((24 : Int32) &&& 31).toUInt32).toInt32) = (0 : Int32) from by decide]
  show G (T1001.setTop (mkF m 8 #[rv b1, iv 0] [(.int 0), (.ref b2_0)]))
  obtain ⟨cl1002, Ar1002, q1002, S1002, M1002, H1002, U1002⟩ := id m1
  have hin1002 : ¬ ((0 : Int32) < 0 ∨ cl1002.slots.size ≤ ((0 : Int32)).toNatClampNeg) := inb_of S1002 ⟨by decide, by decide⟩
  refine go (fun tg kg => X1001.aaload hx (j := (0 : Int32)) (v := (.ref b2_1)) (by rw [e1001]; exact Ar1002.1) (State.isArrayOf_alike hZ.alike Ar1002.2.1) rfl Ar1002.2.2 hin1002 (H1002.at hin1002 rfl) (g := (mkF m 8 #[rv b1, iv 0] [(.int 0), (.ref b2_0)])) rfl rfl (hb hby d10_8) _ kg) ?_
  show G (T1001.setTop (mkF m 9 #[rv b1, iv 0] [(.ref b2_1)]))
  refine go (fun tg kg => XS.iloadN X1001.here hx rfl (hb hby d10_9) rfl kg) ?_
  refine go (fun tg kg => X1001.ldcInt hx hown (mvT hZ (own_w hw 71 rfl)) (g := (mkF m 10 #[rv b1, iv 0] [(.int 0), (.ref b2_1)])) rfl (hb hby d10_10) _ kg) ?_
  refine go (fun tg kg => XS.iand X1001.here hx rfl (hb hby d10_12) rfl kg) ?_
  refine go (fun tg kg => XS.iconst X1001.here hx rfl (hb hby d10_13) kg) ?_
  refine go (fun tg kg => XS.imul X1001.here hx rfl (hb hby d10_14) rfl kg) ?_
  refine go (fun tg kg => XS.iconst X1001.here hx rfl (hb hby d10_15) kg) ?_
  show G (T1001.setTop (mkF m 16 #[rv b1, iv 0] [(.int 0), (.int 0), (.ref b2_1)]))
  refine go (fun tg kg => XS.iadd X1001.here hx rfl (hb hby d10_16) rfl kg) ?_
  obtain ⟨cl1003, Ar1003, q1003, S1003, M1003, H1003, U1003⟩ := id m2
  have hin1003 : ¬ ((0 : Int32) < 0 ∨ cl1003.slots.size ≤ ((0 : Int32)).toNatClampNeg) := inb_of S1003 ⟨by decide, by decide⟩
  refine go (fun tg kg => X1001.daload hx (j := (0 : Int32)) (v := (dl (x0.toInt64))) (by rw [e1001]; exact Ar1003.1) (State.isArrayOf_alike hZ.alike Ar1003.2.1) Ar1003.2.2 hin1003 (H1003.at hin1003 rfl) (g := (mkF m 17 #[rv b1, iv 0] [(.int 0), (.ref b2_1)])) rfl rfl (hb hby d10_17) _ kg) ?_
  refine fin (some (dl (x0.toInt64))) X1001 (fun h => absurd h (by decide)) (fun fs hr => retOut X1001 hx hret rfl (Or.inr (Or.inr (Or.inl ⟨rfl, rfl, _, rfl⟩))) (hb hby d10_18) hr) (by decide) (by decide) ?_
  rw [e1001]
  exact ⟨rfl, N0, rfl⟩
def Q_rm11_1 (Z : State) (b1 : Addr) (b2_0 : Addr) (k2_0 : ClassId) (b2_1 : Addr) (k2_1 : ClassId) (x0 : Int32) (x1 : Int32) (x2 : Int32) (h0 : Heap) (n0 : Nat) (v : Option Value) (h : Heap) (L : List Loc) : Prop := v = some (dl (x1.toInt64)) ∧ Fr n0 L ∧ h = h0
set_option maxRecDepth 65536 in
set_option maxHeartbeats 40000000 in
theorem rm11_1 (l : Launch) (Z : State) (a0 : Array Value) (hw : ∀ d ∈ tables_1, d.before a0 Z = true) (ws : List Jvm.Cond) (b1 : Addr) (b2_0 : Addr) (k2_0 : ClassId) (b2_1 : Addr) (k2_1 : ClassId) (x0 : Int32) (x1 : Int32) (x2 : Int32) (h0 : Heap) (n0 : Nat) (Z0 : n0 ≤ h0.size) (m0 : Fld Z h0 b1 cF "pages" "[[D" (.ref b2_0)) (m1 : Arv Z h0 b2_0 k2_0 (.array .double) 1 [(.ref b2_1)] .null) (m2 : Arv Z h0 b2_1 k2_1 .double 20 [(dl (x0.toInt64)), (dl (x1.toInt64)), (dl (x2.toInt64)), (dl 0), (dl 0), (dl 4), (dl 5), (dl 6), (dl 0), (dl 0), (dl 0), (dl 0), (dl 0), (dl 0), (dl 0), (dl 0), (dl 0), (dl 0), (dl 0), (dl 0)] (dl 0)) :
    oM l y11 prog_8_method_11_code 2 (some .double) ws (⟨0, 0, 0, 0⟩ : Room) Z h0 #[(.ref b1), (.int 0)] (Q_rm11_1 Z b1 b2_0 k2_0 b2_1 k2_1 x0 x1 x2 h0 n0) := by
  refine own_enter (Q := Q_rm11_1 Z b1 b2_0 k2_0 b2_1 k2_1 x0 x1 x2 h0 n0) (plainFor_of_name pn_com_example_housemartin_housemartin_firm_FirmSlots) ?_
  intro p e s m below meth c s₁ G X0 hx hby hml hZ hown hnm hret e0 go fin
  replace hown : s.vm.findClass cF = some m.cls := hown
  replace hnm : meth.name = "b" := hnm
  replace hml : c.maxLocals = 2 := hml
  rw [ef_11 m b1 _]
  have N0 := Fr.nil n0
  refine go (fun tg kg => XS.aloadN X0.here hx rfl (hb hby d11_0) rfl rfl kg) ?_
  obtain ⟨T1001, X1001, e1001, st1001⟩ := getF X0 hx hZ hown (host := "") (Or.inl (own_w hw 17 rfl)) Via.refl e0 m0 (g := (mkF m 1 #[rv b1, iv 0] [(.ref b1)])) rfl rfl (hb hby d11_1)
  refine go st1001 ?_
  refine go (fun tg kg => XS.iloadN X1001.here hx rfl (hb hby d11_4) rfl kg) ?_
  refine go (fun tg kg => XS.bipush X1001.here hx rfl (hb hby d11_5) kg) ?_
  refine go (fun tg kg => XS.iushr X1001.here hx rfl (hb hby d11_7) rfl kg) ?_
  show G (T1001.setTop (mkF m 8 #[rv b1, iv 0] [(.int (((0 : Int32).toUInt32 >>> ((24 : Int32) &&& 31).toUInt32).toInt32)), (.ref b2_0)]))
  rw [show (((0 : Int32).toUInt32 >>> ((24 : Int32) &&& 31).toUInt32).toInt32) = (0 : Int32) from by decide]
  show G (T1001.setTop (mkF m 8 #[rv b1, iv 0] [(.int 0), (.ref b2_0)]))
  obtain ⟨cl1002, Ar1002, q1002, S1002, M1002, H1002, U1002⟩ := id m1
  have hin1002 : ¬ ((0 : Int32) < 0 ∨ cl1002.slots.size ≤ ((0 : Int32)).toNatClampNeg) := inb_of S1002 ⟨by decide, by decide⟩
  refine go (fun tg kg => X1001.aaload hx (j := (0 : Int32)) (v := (.ref b2_1)) (by rw [e1001]; exact Ar1002.1) (State.isArrayOf_alike hZ.alike Ar1002.2.1) rfl Ar1002.2.2 hin1002 (H1002.at hin1002 rfl) (g := (mkF m 8 #[rv b1, iv 0] [(.int 0), (.ref b2_0)])) rfl rfl (hb hby d11_8) _ kg) ?_
  show G (T1001.setTop (mkF m 9 #[rv b1, iv 0] [(.ref b2_1)]))
  refine go (fun tg kg => XS.iloadN X1001.here hx rfl (hb hby d11_9) rfl kg) ?_
  refine go (fun tg kg => X1001.ldcInt hx hown (mvT hZ (own_w hw 71 rfl)) (g := (mkF m 10 #[rv b1, iv 0] [(.int 0), (.ref b2_1)])) rfl (hb hby d11_10) _ kg) ?_
  refine go (fun tg kg => XS.iand X1001.here hx rfl (hb hby d11_12) rfl kg) ?_
  refine go (fun tg kg => XS.iconst X1001.here hx rfl (hb hby d11_13) kg) ?_
  refine go (fun tg kg => XS.imul X1001.here hx rfl (hb hby d11_14) rfl kg) ?_
  refine go (fun tg kg => XS.iconst X1001.here hx rfl (hb hby d11_15) kg) ?_
  show G (T1001.setTop (mkF m 16 #[rv b1, iv 0] [(.int 1), (.int 0), (.ref b2_1)]))
  refine go (fun tg kg => XS.iadd X1001.here hx rfl (hb hby d11_16) rfl kg) ?_
  obtain ⟨cl1003, Ar1003, q1003, S1003, M1003, H1003, U1003⟩ := id m2
  have hin1003 : ¬ ((1 : Int32) < 0 ∨ cl1003.slots.size ≤ ((1 : Int32)).toNatClampNeg) := inb_of S1003 ⟨by decide, by decide⟩
  refine go (fun tg kg => X1001.daload hx (j := (1 : Int32)) (v := (dl (x1.toInt64))) (by rw [e1001]; exact Ar1003.1) (State.isArrayOf_alike hZ.alike Ar1003.2.1) Ar1003.2.2 hin1003 (H1003.at hin1003 rfl) (g := (mkF m 17 #[rv b1, iv 0] [(.int 1), (.ref b2_1)])) rfl rfl (hb hby d11_17) _ kg) ?_
  refine fin (some (dl (x1.toInt64))) X1001 (fun h => absurd h (by decide)) (fun fs hr => retOut X1001 hx hret rfl (Or.inr (Or.inr (Or.inl ⟨rfl, rfl, _, rfl⟩))) (hb hby d11_18) hr) (by decide) (by decide) ?_
  rw [e1001]
  exact ⟨rfl, N0, rfl⟩
def Q_rm12_1 (Z : State) (b1 : Addr) (b2_0 : Addr) (k2_0 : ClassId) (b2_1 : Addr) (k2_1 : ClassId) (x0 : Int32) (x1 : Int32) (x2 : Int32) (h0 : Heap) (n0 : Nat) (v : Option Value) (h : Heap) (L : List Loc) : Prop := v = some (dl (x2.toInt64)) ∧ Fr n0 L ∧ h = h0
set_option maxRecDepth 65536 in
set_option maxHeartbeats 40000000 in
theorem rm12_1 (l : Launch) (Z : State) (a0 : Array Value) (hw : ∀ d ∈ tables_1, d.before a0 Z = true) (ws : List Jvm.Cond) (b1 : Addr) (b2_0 : Addr) (k2_0 : ClassId) (b2_1 : Addr) (k2_1 : ClassId) (x0 : Int32) (x1 : Int32) (x2 : Int32) (h0 : Heap) (n0 : Nat) (Z0 : n0 ≤ h0.size) (m0 : Fld Z h0 b1 cF "pages" "[[D" (.ref b2_0)) (m1 : Arv Z h0 b2_0 k2_0 (.array .double) 1 [(.ref b2_1)] .null) (m2 : Arv Z h0 b2_1 k2_1 .double 20 [(dl (x0.toInt64)), (dl (x1.toInt64)), (dl (x2.toInt64)), (dl 0), (dl 0), (dl 4), (dl 5), (dl 6), (dl 0), (dl 0), (dl 0), (dl 0), (dl 0), (dl 0), (dl 0), (dl 0), (dl 0), (dl 0), (dl 0), (dl 0)] (dl 0)) :
    oM l y12 prog_8_method_12_code 2 (some .double) ws (⟨0, 0, 0, 0⟩ : Room) Z h0 #[(.ref b1), (.int 0)] (Q_rm12_1 Z b1 b2_0 k2_0 b2_1 k2_1 x0 x1 x2 h0 n0) := by
  refine own_enter (Q := Q_rm12_1 Z b1 b2_0 k2_0 b2_1 k2_1 x0 x1 x2 h0 n0) (plainFor_of_name pn_com_example_housemartin_housemartin_firm_FirmSlots) ?_
  intro p e s m below meth c s₁ G X0 hx hby hml hZ hown hnm hret e0 go fin
  replace hown : s.vm.findClass cF = some m.cls := hown
  replace hnm : meth.name = "beta" := hnm
  replace hml : c.maxLocals = 2 := hml
  rw [ef_12 m b1 _]
  have N0 := Fr.nil n0
  refine go (fun tg kg => XS.aloadN X0.here hx rfl (hb hby d12_0) rfl rfl kg) ?_
  obtain ⟨T1001, X1001, e1001, st1001⟩ := getF X0 hx hZ hown (host := "") (Or.inl (own_w hw 17 rfl)) Via.refl e0 m0 (g := (mkF m 1 #[rv b1, iv 0] [(.ref b1)])) rfl rfl (hb hby d12_1)
  refine go st1001 ?_
  refine go (fun tg kg => XS.iloadN X1001.here hx rfl (hb hby d12_4) rfl kg) ?_
  refine go (fun tg kg => XS.bipush X1001.here hx rfl (hb hby d12_5) kg) ?_
  refine go (fun tg kg => XS.iushr X1001.here hx rfl (hb hby d12_7) rfl kg) ?_
  show G (T1001.setTop (mkF m 8 #[rv b1, iv 0] [(.int (((0 : Int32).toUInt32 >>> ((24 : Int32) &&& 31).toUInt32).toInt32)), (.ref b2_0)]))
  rw [show (((0 : Int32).toUInt32 >>> ((24 : Int32) &&& 31).toUInt32).toInt32) = (0 : Int32) from by decide]
  show G (T1001.setTop (mkF m 8 #[rv b1, iv 0] [(.int 0), (.ref b2_0)]))
  obtain ⟨cl1002, Ar1002, q1002, S1002, M1002, H1002, U1002⟩ := id m1
  have hin1002 : ¬ ((0 : Int32) < 0 ∨ cl1002.slots.size ≤ ((0 : Int32)).toNatClampNeg) := inb_of S1002 ⟨by decide, by decide⟩
  refine go (fun tg kg => X1001.aaload hx (j := (0 : Int32)) (v := (.ref b2_1)) (by rw [e1001]; exact Ar1002.1) (State.isArrayOf_alike hZ.alike Ar1002.2.1) rfl Ar1002.2.2 hin1002 (H1002.at hin1002 rfl) (g := (mkF m 8 #[rv b1, iv 0] [(.int 0), (.ref b2_0)])) rfl rfl (hb hby d12_8) _ kg) ?_
  show G (T1001.setTop (mkF m 9 #[rv b1, iv 0] [(.ref b2_1)]))
  refine go (fun tg kg => XS.iloadN X1001.here hx rfl (hb hby d12_9) rfl kg) ?_
  refine go (fun tg kg => X1001.ldcInt hx hown (mvT hZ (own_w hw 71 rfl)) (g := (mkF m 10 #[rv b1, iv 0] [(.int 0), (.ref b2_1)])) rfl (hb hby d12_10) _ kg) ?_
  refine go (fun tg kg => XS.iand X1001.here hx rfl (hb hby d12_12) rfl kg) ?_
  refine go (fun tg kg => XS.iconst X1001.here hx rfl (hb hby d12_13) kg) ?_
  refine go (fun tg kg => XS.imul X1001.here hx rfl (hb hby d12_14) rfl kg) ?_
  refine go (fun tg kg => XS.iconst X1001.here hx rfl (hb hby d12_15) kg) ?_
  show G (T1001.setTop (mkF m 16 #[rv b1, iv 0] [(.int 2), (.int 0), (.ref b2_1)]))
  refine go (fun tg kg => XS.iadd X1001.here hx rfl (hb hby d12_16) rfl kg) ?_
  obtain ⟨cl1003, Ar1003, q1003, S1003, M1003, H1003, U1003⟩ := id m2
  have hin1003 : ¬ ((2 : Int32) < 0 ∨ cl1003.slots.size ≤ ((2 : Int32)).toNatClampNeg) := inb_of S1003 ⟨by decide, by decide⟩
  refine go (fun tg kg => X1001.daload hx (j := (2 : Int32)) (v := (dl (x2.toInt64))) (by rw [e1001]; exact Ar1003.1) (State.isArrayOf_alike hZ.alike Ar1003.2.1) Ar1003.2.2 hin1003 (H1003.at hin1003 rfl) (g := (mkF m 17 #[rv b1, iv 0] [(.int 2), (.ref b2_1)])) rfl rfl (hb hby d12_17) _ kg) ?_
  refine fin (some (dl (x2.toInt64))) X1001 (fun h => absurd h (by decide)) (fun fs hr => retOut X1001 hx hret rfl (Or.inr (Or.inr (Or.inl ⟨rfl, rfl, _, rfl⟩))) (hb hby d12_18) hr) (by decide) (by decide) ?_
  rw [e1001]
  exact ⟨rfl, N0, rfl⟩
def Q_rm13_1 (Z : State) (b1 : Addr) (h0 : Heap) (n0 : Nat) (v : Option Value) (h : Heap) (L : List Loc) : Prop := v = some (.int 2) ∧ Fr n0 L ∧ h = h0
set_option maxRecDepth 65536 in
set_option maxHeartbeats 40000000 in
theorem rm13_1 (l : Launch) (Z : State) (a0 : Array Value) (hw : ∀ d ∈ tables_1, d.before a0 Z = true) (ws : List Jvm.Cond) (b1 : Addr) (h0 : Heap) (n0 : Nat) (Z0 : n0 ≤ h0.size) (m0 : Fld Z h0 b1 cF "openFirms" "I" (.int 2)) :
    oM l y13 prog_8_method_22_code 1 (some .int) ws (⟨0, 0, 0, 0⟩ : Room) Z h0 #[(.ref b1)] (Q_rm13_1 Z b1 h0 n0) := by
  refine own_enter (Q := Q_rm13_1 Z b1 h0 n0) (plainFor_of_name pn_com_example_housemartin_housemartin_firm_FirmSlots) ?_
  intro p e s m below meth c s₁ G X0 hx hby hml hZ hown hnm hret e0 go fin
  replace hown : s.vm.findClass cF = some m.cls := hown
  replace hnm : meth.name = "count" := hnm
  replace hml : c.maxLocals = 1 := hml
  rw [ef_13 m b1]
  have N0 := Fr.nil n0
  refine go (fun tg kg => XS.aloadN X0.here hx rfl (hb hby d13_0) rfl rfl kg) ?_
  obtain ⟨T1001, X1001, e1001, st1001⟩ := getF X0 hx hZ hown (host := "") (Or.inl (own_w hw 72 rfl)) Via.refl e0 m0 (g := (mkF m 1 #[rv b1] [(.ref b1)])) rfl rfl (hb hby d13_1)
  refine go st1001 ?_
  refine fin (some (.int 2)) X1001 (fun h => absurd h (by decide)) (fun fs hr => retOut X1001 hx hret rfl (Or.inl ⟨rfl, Or.inl rfl, _, rfl⟩) (hb hby d13_4) hr) (by decide) (by decide) ?_
  rw [e1001]
  exact ⟨rfl, N0, rfl⟩
def Q_rm7_5 (Z : State) (b1 : Addr) (b2_2 : Addr) (k2_2 : ClassId) (b2_3 : Addr) (k2_3 : ClassId) (x3 : Int32) (b2_0 : Addr) (k2_0 : ClassId) (b2_1 : Addr) (k2_1 : ClassId) (x0 : Int32) (x1 : Int32) (x2 : Int32) (b2_4 : Addr) (b2_9 : Addr) (b2_10 : Addr) (h0 : Heap) (n0 : Nat) (v : Option Value) (h : Heap) (L : List Loc) : Prop := v = some (.int 2) ∧ Fr n0 L ∧ Keep h0 h [b1, b2_2, b2_3, b2_1] ∧ Fld Z h b1 cF "freeSlot" "I" (.int (-1)) ∧ Fld Z h b1 cF "slotsUsed" "I" (.int 3) ∧ Exa Z h b1 cF ∧ Fld Z h b1 cF "ids" "[J" (.ref b2_2) ∧ Fld Z h b1 cF "nextId" "J" (.long 5) ∧ Arv Z h b2_2 k2_2 .long 4 [(.long 3), (.long 2), (.long 4), (.long 0)] (.long 0) ∧ Fld Z h b1 cF "births" "[I" (.ref b2_3) ∧ Arv Z h b2_3 k2_3 .int 4 [(.int x3), (.int 20), (.int 0), (.int 0)] (.int 0) ∧ Fld Z h b1 cF "pages" "[[D" (.ref b2_0) ∧ Arv Z h b2_1 k2_1 .double 20 [(dl (x0.toInt64)), (dl (x1.toInt64)), (dl (x2.toInt64)), (dl 0), (dl 0), (dl 4), (dl 5), (dl 6), (dl 0), (dl 0), (dl 0), (dl 0), (dl 0), (dl 0), (dl 0), (dl 0), (dl 0), (dl 0), (dl 0), (dl 0)] (dl 0) ∧ Fld Z h b1 cF "openFirms" "I" (.int 3) ∧ Fld Z h b1 cF "members" "Lcom/example/housemartin/housemartin/firm/Members;" (.ref b2_4) ∧ Fld Z h b1 cF "changedNow" "[J" (.ref b2_9) ∧ Fld Z h b1 cF "changedBefore" "[J" (.ref b2_10) ∧ Exa Z h b2_1 "[D"
set_option maxRecDepth 65536 in
set_option maxHeartbeats 40000000 in
theorem rm7_5 (l : Launch) (Z : State) (a0 : Array Value) (hw : ∀ d ∈ tables_1, d.before a0 Z = true) (ws : List Jvm.Cond) (b1 : Addr) (b2_2 : Addr) (k2_2 : ClassId) (b2_3 : Addr) (k2_3 : ClassId) (x3 : Int32) (b2_0 : Addr) (k2_0 : ClassId) (b2_1 : Addr) (k2_1 : ClassId) (x0 : Int32) (x1 : Int32) (x2 : Int32) (b2_4 : Addr) (b2_9 : Addr) (b2_10 : Addr) (h0 : Heap) (n0 : Nat) (Z0 : n0 ≤ h0.size) (m0 : Fld Z h0 b1 cF "freeSlot" "I" (.int (-1))) (m1 : Fld Z h0 b1 cF "slotsUsed" "I" (.int 2)) (m2 : Exa Z h0 b1 cF) (m3 : Fld Z h0 b1 cF "ids" "[J" (.ref b2_2)) (m4 : Fld Z h0 b1 cF "nextId" "J" (.long 4)) (m5 : Arv Z h0 b2_2 k2_2 .long 4 [(.long 3), (.long 2), (.long 0), (.long 0)] (.long 0)) (m6 : Fld Z h0 b1 cF "births" "[I" (.ref b2_3)) (m7 : Arv Z h0 b2_3 k2_3 .int 4 [(.int x3), (.int 20), (.int 0), (.int 0)] (.int 0)) (m8 : Fld Z h0 b1 cF "pages" "[[D" (.ref b2_0)) (m9 : Arv Z h0 b2_0 k2_0 (.array .double) 1 [(.ref b2_1)] .null) (m10 : Arv Z h0 b2_1 k2_1 .double 20 [(dl (x0.toInt64)), (dl (x1.toInt64)), (dl (x2.toInt64)), (dl 0), (dl 0), (dl 4), (dl 5), (dl 6), (dl 0), (dl 0), (dl 0), (dl 0), (dl 0), (dl 0), (dl 0), (dl 0), (dl 0), (dl 0), (dl 0), (dl 0)] (dl 0)) (m11 : Fld Z h0 b1 cF "openFirms" "I" (.int 2)) (m12 : Fld Z h0 b1 cF "members" "Lcom/example/housemartin/housemartin/firm/Members;" (.ref b2_4)) (m13 : Fld Z h0 b1 cF "changedNow" "[J" (.ref b2_9)) (m14 : Fld Z h0 b1 cF "changedBefore" "[J" (.ref b2_10)) (m15 : Exa Z h0 b2_1 "[D") (ne_b2_2_b1 : b2_2 ≠ b1) (ne_b2_3_b1 : b2_3 ≠ b1) (ne_b2_3_b2_2 : b2_3 ≠ b2_2) (ne_b2_0_b1 : b2_0 ≠ b1) (ne_b2_0_b2_2 : b2_0 ≠ b2_2) (ne_b2_0_b2_3 : b2_0 ≠ b2_3) (ne_b2_1_b1 : b2_1 ≠ b1) (ne_b2_1_b2_2 : b2_1 ≠ b2_2) (ne_b2_1_b2_3 : b2_1 ≠ b2_3) (gg_b1 : n0 ≤ b1) (gg_b2_2 : n0 ≤ b2_2) (gg_b2_3 : n0 ≤ b2_3) (gg_b2_1 : n0 ≤ b2_1) :
    oM l y7 prog_8_method_2_code 11 (some .int) ws (⟨0, 0, 0, 0⟩ : Room) Z h0 #[(.ref b1), (dl 0), (dl 0), (dl 0), (.int 0)] (Q_rm7_5 Z b1 b2_2 k2_2 b2_3 k2_3 x3 b2_0 k2_0 b2_1 k2_1 x0 x1 x2 b2_4 b2_9 b2_10 h0 n0) := by
  refine own_enter (Q := Q_rm7_5 Z b1 b2_2 k2_2 b2_3 k2_3 x3 b2_0 k2_0 b2_1 k2_1 x0 x1 x2 b2_4 b2_9 b2_10 h0 n0) (plainFor_of_name pn_com_example_housemartin_housemartin_firm_FirmSlots) ?_
  intro p e s m below meth c s₁ G X0 hx hby hml hZ hown hnm hret e0 go fin
  replace hown : s.vm.findClass cF = some m.cls := hown
  replace hnm : meth.name = "open" := hnm
  replace hml : c.maxLocals = 11 := hml
  rw [ef_7 m b1 _ _ _ _]
  have N0 := Fr.nil n0
  refine go (fun tg kg => XS.aloadN X0.here hx rfl (hb hby d7_0) rfl rfl kg) ?_
  obtain ⟨T1001, X1001, e1001, st1001⟩ := getF X0 hx hZ hown (host := "") (Or.inl (own_w hw 10 rfl)) Via.refl e0 m0 (g := (mkF m 1 #[rv b1, dv 0, .second, dv 0, .second, dv 0, .second, iv 0, .unset, .unset, .unset] [(.ref b1)])) rfl rfl (hb hby d7_1)
  refine go st1001 ?_
  refine go (fun tg kg => XS.iconst X1001.here hx rfl (hb hby d7_4) kg) ?_
  refine go (fun tg kg => XS.icmpYes X1001.here hx rfl (pc0 := 5) (pc' := 28) rfl (hb hby d7_5) rfl (teq (by decide)).1 (by decide) (by decide) kg) ?_
  refine go (fun tg kg => XS.aloadN X1001.here hx rfl (hb hby d7_28) rfl rfl kg) ?_
  show G (T1001.setTop (mkF m 29 #[rv b1, dv 0, .second, dv 0, .second, dv 0, .second, iv 0, .unset, .unset, .unset] [(.ref b1)]))
  obtain ⟨T1002, X1002, e1002, st1002⟩ := getF X1001 hx hZ hown (host := "") (Or.inl (own_w hw 69 rfl)) Via.refl e1001 m1 (g := (mkF m 29 #[rv b1, dv 0, .second, dv 0, .second, dv 0, .second, iv 0, .unset, .unset, .unset] [(.ref b1)])) rfl rfl (hb hby d7_29)
  refine go st1002 ?_
  refine go (fun tg kg => XS.istore X1002.here hx rfl (hb hby d7_32) rfl (l' := #[rv b1, dv 0, .second, dv 0, .second, dv 0, .second, iv 0, iv 2, .unset, .unset]) rfl kg) ?_
  refine go (fun tg kg => XS.aloadN X1002.here hx rfl (hb hby d7_34) rfl rfl kg) ?_
  refine go (fun tg kg => XS.dup X1002.here hx rfl (hb hby d7_35) rfl rfl kg) ?_
  obtain ⟨T1003, X1003, e1003, st1003⟩ := getF X1002 hx hZ hown (host := "") (Or.inl (own_w hw 69 rfl)) Via.refl e1002 m1 (g := (mkF m 36 #[rv b1, dv 0, .second, dv 0, .second, dv 0, .second, iv 0, iv 2, .unset, .unset] [(.ref b1), (.ref b1)])) rfl rfl (hb hby d7_36)
  refine go st1003 ?_
  refine go (fun tg kg => XS.iconst X1003.here hx rfl (hb hby d7_39) kg) ?_
  show G (T1003.setTop (mkF m 40 #[rv b1, dv 0, .second, dv 0, .second, dv 0, .second, iv 0, iv 2, .unset, .unset] [(.int 1), (.int 2), (.ref b1)]))
  refine go (fun tg kg => XS.iadd X1003.here hx rfl (hb hby d7_40) rfl kg) ?_
  obtain ⟨T1004, h1004, X1004, e1004, W1004, st1004⟩ := putF X1003 hx hZ hown (host := "") (Or.inl (own_w hw 69 rfl)) Via.refl e1003 m1 m2 (Or.inl (own_w hw 70 rfl)) (own_w hw 2 rfl) (ty := .int) (by decide) rfl rfl (g := (mkF m 41 #[rv b1, dv 0, .second, dv 0, .second, dv 0, .second, iv 0, iv 2, .unset, .unset] [(.int 3), (.ref b1)])) rfl rfl (hb hby d7_41)
  refine go st1004 ?_
  have Fw1004 : Fld Z h1004 b1 cF "slotsUsed" "I" (.int 3) := m1.same W1004
  have N1004 := Fr.snoc X1004 N0 gg_b1
  have K1004 : Keep h0 h1004 [b1, b2_2, b2_3, b2_1] := (Keep.refl h0 [b1, b2_2, b2_3, b2_1]).wr W1004 (Or.inl (List.mem_of_getElem? (i := 0) rfl))
  have Z1004 := Nat.le_trans Z0 (Keep.of_wr W1004).1
  refine go (fun tg kg => XS.aloadN X1004.here hx rfl (hb hby d7_44) rfl rfl kg) ?_
  have Fa1005 := (m2.wr W1004)
  have Fa1006 := (m3.other W1004 (Or.inr (sn_ids_slotsUsed hw)))
  obtain ⟨T1007, X1007, e1007, st1007⟩ := getF X1004 hx hZ hown (host := "") (Or.inl (own_w hw 27 rfl)) Via.refl e1004 Fa1006 (g := (mkF m 45 #[rv b1, dv 0, .second, dv 0, .second, dv 0, .second, iv 0, iv 2, .unset, .unset] [(.ref b1)])) rfl rfl (hb hby d7_45)
  refine go st1007 ?_
  refine go (fun tg kg => XS.iload X1007.here hx rfl (hb hby d7_48) rfl kg) ?_
  refine go (fun tg kg => XS.aloadN X1007.here hx rfl (hb hby d7_50) rfl rfl kg) ?_
  show G (T1007.setTop (mkF m 51 #[rv b1, dv 0, .second, dv 0, .second, dv 0, .second, iv 0, iv 2, .unset, .unset] [(.ref b1), (.int 2), (.ref b2_2)]))
  have Fa1008 := (m4.other W1004 (Or.inr (sn_nextId_slotsUsed hw)))
  obtain ⟨T1009, X1009, e1009, st1009⟩ := getF X1007 hx hZ hown (host := "") (Or.inl (own_w hw 12 rfl)) Via.refl e1007 Fa1008 (g := (mkF m 51 #[rv b1, dv 0, .second, dv 0, .second, dv 0, .second, iv 0, iv 2, .unset, .unset] [(.ref b1), (.int 2), (.ref b2_2)])) rfl rfl (hb hby d7_51)
  refine go st1009 ?_
  have Fa1010 := (m5.other W1004 ne_b2_2_b1)
  obtain ⟨cl1011, Ar1011, q1011, S1011, M1011, H1011, U1011⟩ := id Fa1010
  have hin1011 : ¬ ((2 : Int32) < 0 ∨ cl1011.slots.size ≤ ((2 : Int32)).toNatClampNeg) := inb_of S1011 ⟨by decide, by decide⟩
  obtain ⟨T1011, h1011, X1011, e1011, W1011, st1011⟩ := stJ X1009 hx hZ e1009 Ar1011 (j := (2 : Int32)) hin1011 (g := (mkF m 54 #[rv b1, dv 0, .second, dv 0, .second, dv 0, .second, iv 0, iv 2, .unset, .unset] [(.long 4), (.int 2), (.ref b2_2)])) rfl rfl (hb hby d7_54)
  refine go st1011 ?_
  have V1011 : Arv Z h1011 b2_2 k2_2 .long (4 : Int32) [(.long 3), (.long 2), (.long 4), (.long 0)] (.long 0) := Arv.set Ar1011 q1011 S1011 M1011 H1011 U1011 rfl W1011 2 rfl (Nat.le_of_ble_eq_true rfl)
  have N1011 := Fr.snoc X1011 N1004 gg_b2_2
  have K1011 : Keep h0 h1011 [b1, b2_2, b2_3, b2_1] := K1004.wr W1011 (Or.inl (List.mem_of_getElem? (i := 1) rfl))
  have Z1011 := Nat.le_trans Z1004 (Keep.of_wr W1011).1
  refine go (fun tg kg => XS.aloadN X1011.here hx rfl (hb hby d7_55) rfl rfl kg) ?_
  refine go (fun tg kg => XS.dup X1011.here hx rfl (hb hby d7_56) rfl rfl kg) ?_
  have Fa1012 := (Fa1008.other W1011 (Or.inl (Ne.symm ne_b2_2_b1)))
  obtain ⟨T1013, X1013, e1013, st1013⟩ := getF X1011 hx hZ hown (host := "") (Or.inl (own_w hw 12 rfl)) Via.refl e1011 Fa1012 (g := (mkF m 57 #[rv b1, dv 0, .second, dv 0, .second, dv 0, .second, iv 0, iv 2, .unset, .unset] [(.ref b1), (.ref b1)])) rfl rfl (hb hby d7_57)
  refine go st1013 ?_
  refine go (fun tg kg => XS.lconst X1013.here hx rfl (hb hby d7_60) kg) ?_
  show G (T1013.setTop (mkF m 61 #[rv b1, dv 0, .second, dv 0, .second, dv 0, .second, iv 0, iv 2, .unset, .unset] [(.long 1), (.long 4), (.ref b1)]))
  refine go (fun tg kg => XS.ladd X1013.here hx rfl (hb hby d7_61) rfl kg) ?_
  have Fa1014 := (Fa1005.wr W1011)
  obtain ⟨T1015, h1015, X1015, e1015, W1015, st1015⟩ := putF X1013 hx hZ hown (host := "") (Or.inl (own_w hw 12 rfl)) Via.refl e1013 Fa1012 Fa1014 (Or.inl (own_w hw 13 rfl)) (own_w hw 2 rfl) (ty := .long) (by decide) rfl rfl (g := (mkF m 62 #[rv b1, dv 0, .second, dv 0, .second, dv 0, .second, iv 0, iv 2, .unset, .unset] [(.long 5), (.ref b1)])) rfl rfl (hb hby d7_62)
  refine go st1015 ?_
  have Fw1015 : Fld Z h1015 b1 cF "nextId" "J" (.long 5) := Fa1012.same W1015
  have N1015 := Fr.snoc X1015 N1011 gg_b1
  have K1015 : Keep h0 h1015 [b1, b2_2, b2_3, b2_1] := K1011.wr W1015 (Or.inl (List.mem_of_getElem? (i := 0) rfl))
  have Z1015 := Nat.le_trans Z1011 (Keep.of_wr W1015).1
  refine go (fun tg kg => XS.aloadN X1015.here hx rfl (hb hby d7_65) rfl rfl kg) ?_
  have Fa1016 := (Fa1014.wr W1015)
  have Fa1017 := (((m6.other W1004 (Or.inr (sn_births_slotsUsed hw))).other W1011 (Or.inl (Ne.symm ne_b2_2_b1))).other W1015 (Or.inr (sn_births_nextId hw)))
  obtain ⟨T1018, X1018, e1018, st1018⟩ := getF X1015 hx hZ hown (host := "") (Or.inl (own_w hw 30 rfl)) Via.refl e1015 Fa1017 (g := (mkF m 66 #[rv b1, dv 0, .second, dv 0, .second, dv 0, .second, iv 0, iv 2, .unset, .unset] [(.ref b1)])) rfl rfl (hb hby d7_66)
  refine go st1018 ?_
  refine go (fun tg kg => XS.iload X1018.here hx rfl (hb hby d7_69) rfl kg) ?_
  refine go (fun tg kg => XS.iload X1018.here hx rfl (hb hby d7_71) rfl kg) ?_
  show G (T1018.setTop (mkF m 73 #[rv b1, dv 0, .second, dv 0, .second, dv 0, .second, iv 0, iv 2, .unset, .unset] [(.int 0), (.int 2), (.ref b2_3)]))
  have Fa1019 := (((m7.other W1004 ne_b2_3_b1).other W1011 ne_b2_3_b2_2).other W1015 ne_b2_3_b1)
  obtain ⟨cl1020, Ar1020, q1020, S1020, M1020, H1020, U1020⟩ := id Fa1019
  have hin1020 : ¬ ((2 : Int32) < 0 ∨ cl1020.slots.size ≤ ((2 : Int32)).toNatClampNeg) := inb_of S1020 ⟨by decide, by decide⟩
  obtain ⟨T1020, h1020, X1020, e1020, W1020, st1020⟩ := stI X1018 hx hZ e1018 Ar1020 (j := (2 : Int32)) hin1020 (g := (mkF m 73 #[rv b1, dv 0, .second, dv 0, .second, dv 0, .second, iv 0, iv 2, .unset, .unset] [(.int 0), (.int 2), (.ref b2_3)])) rfl rfl (hb hby d7_73)
  refine go st1020 ?_
  have V1020 : Arv Z h1020 b2_3 k2_3 .int (4 : Int32) [(.int x3), (.int 20), (.int 0), (.int 0)] (.int 0) := Arv.set Ar1020 q1020 S1020 M1020 H1020 U1020 rfl W1020 2 rfl (Nat.le_of_ble_eq_true rfl)
  have N1020 := Fr.snoc X1020 N1015 gg_b2_3
  have K1020 : Keep h0 h1020 [b1, b2_2, b2_3, b2_1] := K1015.wr W1020 (Or.inl (List.mem_of_getElem? (i := 2) rfl))
  have Z1020 := Nat.le_trans Z1015 (Keep.of_wr W1020).1
  refine go (fun tg kg => XS.aloadN X1020.here hx rfl (hb hby d7_74) rfl rfl kg) ?_
  have Fa1021 := (Fa1016.wr W1020)
  have Fa1022 := ((((m8.other W1004 (Or.inr (sn_pages_slotsUsed hw))).other W1011 (Or.inl (Ne.symm ne_b2_2_b1))).other W1015 (Or.inr (sn_pages_nextId hw))).other W1020 (Or.inl (Ne.symm ne_b2_3_b1)))
  obtain ⟨T1023, X1023, e1023, st1023⟩ := getF X1020 hx hZ hown (host := "") (Or.inl (own_w hw 17 rfl)) Via.refl e1020 Fa1022 (g := (mkF m 75 #[rv b1, dv 0, .second, dv 0, .second, dv 0, .second, iv 0, iv 2, .unset, .unset] [(.ref b1)])) rfl rfl (hb hby d7_75)
  refine go st1023 ?_
  refine go (fun tg kg => XS.iload X1023.here hx rfl (hb hby d7_78) rfl kg) ?_
  refine go (fun tg kg => XS.bipush X1023.here hx rfl (hb hby d7_80) kg) ?_
  refine go (fun tg kg => XS.iushr X1023.here hx rfl (hb hby d7_82) rfl kg) ?_
  show G (T1023.setTop (mkF m 83 #[rv b1, dv 0, .second, dv 0, .second, dv 0, .second, iv 0, iv 2, .unset, .unset] [(.int (((2 : Int32).toUInt32 >>> ((24 : Int32) &&& 31).toUInt32).toInt32)), (.ref b2_0)]))
  rw [show (((2 : Int32).toUInt32 >>> ((24 : Int32) &&& 31).toUInt32).toInt32) = (0 : Int32) from by decide]
  show G (T1023.setTop (mkF m 83 #[rv b1, dv 0, .second, dv 0, .second, dv 0, .second, iv 0, iv 2, .unset, .unset] [(.int 0), (.ref b2_0)]))
  have Fa1024 := ((((m9.other W1004 ne_b2_0_b1).other W1011 ne_b2_0_b2_2).other W1015 ne_b2_0_b1).other W1020 ne_b2_0_b2_3)
  obtain ⟨cl1025, Ar1025, q1025, S1025, M1025, H1025, U1025⟩ := id Fa1024
  have hin1025 : ¬ ((0 : Int32) < 0 ∨ cl1025.slots.size ≤ ((0 : Int32)).toNatClampNeg) := inb_of S1025 ⟨by decide, by decide⟩
  refine go (fun tg kg => X1023.aaload hx (j := (0 : Int32)) (v := (.ref b2_1)) (by rw [e1023]; exact Ar1025.1) (State.isArrayOf_alike hZ.alike Ar1025.2.1) rfl Ar1025.2.2 hin1025 (H1025.at hin1025 rfl) (g := (mkF m 83 #[rv b1, dv 0, .second, dv 0, .second, dv 0, .second, iv 0, iv 2, .unset, .unset] [(.int 0), (.ref b2_0)])) rfl rfl (hb hby d7_83) _ kg) ?_
  show G (T1023.setTop (mkF m 84 #[rv b1, dv 0, .second, dv 0, .second, dv 0, .second, iv 0, iv 2, .unset, .unset] [(.ref b2_1)]))
  refine go (fun tg kg => XS.astore X1023.here hx rfl (hb hby d7_84) rfl rfl (l' := #[rv b1, dv 0, .second, dv 0, .second, dv 0, .second, iv 0, iv 2, rv b2_1, .unset]) rfl kg) ?_
  refine go (fun tg kg => XS.iload X1023.here hx rfl (hb hby d7_86) rfl kg) ?_
  refine go (fun tg kg => X1023.ldcInt hx hown (mvT hZ (own_w hw 71 rfl)) (g := (mkF m 88 #[rv b1, dv 0, .second, dv 0, .second, dv 0, .second, iv 0, iv 2, rv b2_1, .unset] [(.int 2)])) rfl (hb hby d7_88) _ kg) ?_
  refine go (fun tg kg => XS.iand X1023.here hx rfl (hb hby d7_90) rfl kg) ?_
  refine go (fun tg kg => XS.iconst X1023.here hx rfl (hb hby d7_91) kg) ?_
  refine go (fun tg kg => XS.imul X1023.here hx rfl (hb hby d7_92) rfl kg) ?_
  show G (T1023.setTop (mkF m 93 #[rv b1, dv 0, .second, dv 0, .second, dv 0, .second, iv 0, iv 2, rv b2_1, .unset] [(.int 10)]))
  refine go (fun tg kg => XS.istore X1023.here hx rfl (hb hby d7_93) rfl (l' := #[rv b1, dv 0, .second, dv 0, .second, dv 0, .second, iv 0, iv 2, rv b2_1, iv 10]) rfl kg) ?_
  refine go (fun tg kg => XS.aload X1023.here hx rfl (hb hby d7_95) rfl rfl kg) ?_
  refine go (fun tg kg => XS.iload X1023.here hx rfl (hb hby d7_97) rfl kg) ?_
  refine go (fun tg kg => XS.iconst X1023.here hx rfl (hb hby d7_99) kg) ?_
  refine go (fun tg kg => XS.iadd X1023.here hx rfl (hb hby d7_100) rfl kg) ?_
  refine go (fun tg kg => XS.dloadN X1023.here hx rfl (hb hby d7_101) rfl kg) ?_
  show G (T1023.setTop (mkF m 102 #[rv b1, dv 0, .second, dv 0, .second, dv 0, .second, iv 0, iv 2, rv b2_1, iv 10] [(dl 0), (.int 10), (.ref b2_1)]))
  have Fa1026 := ((((m10.other W1004 ne_b2_1_b1).other W1011 ne_b2_1_b2_2).other W1015 ne_b2_1_b1).other W1020 ne_b2_1_b2_3)
  obtain ⟨cl1027, Ar1027, q1027, S1027, M1027, H1027, U1027⟩ := id Fa1026
  have hin1027 : ¬ ((10 : Int32) < 0 ∨ cl1027.slots.size ≤ ((10 : Int32)).toNatClampNeg) := inb_of S1027 ⟨by decide, by decide⟩
  obtain ⟨T1027, h1027, X1027, e1027, W1027, st1027⟩ := stD X1023 hx hZ e1023 Ar1027 (j := (10 : Int32)) hin1027 (g := (mkF m 102 #[rv b1, dv 0, .second, dv 0, .second, dv 0, .second, iv 0, iv 2, rv b2_1, iv 10] [(dl 0), (.int 10), (.ref b2_1)])) rfl rfl (hb hby d7_102)
  refine go st1027 ?_
  have V1027 : Arv Z h1027 b2_1 k2_1 .double (20 : Int32) [(dl (x0.toInt64)), (dl (x1.toInt64)), (dl (x2.toInt64)), (dl 0), (dl 0), (dl 4), (dl 5), (dl 6), (dl 0), (dl 0), (dl 0), (dl 0), (dl 0), (dl 0), (dl 0), (dl 0), (dl 0), (dl 0), (dl 0), (dl 0)] (dl 0) := Arv.set Ar1027 q1027 S1027 M1027 H1027 U1027 rfl W1027 10 rfl (Nat.le_of_ble_eq_true rfl)
  have N1027 := Fr.snoc X1027 N1020 gg_b2_1
  have K1027 : Keep h0 h1027 [b1, b2_2, b2_3, b2_1] := K1020.wr W1027 (Or.inl (List.mem_of_getElem? (i := 3) rfl))
  have Z1027 := Nat.le_trans Z1020 (Keep.of_wr W1027).1
  refine go (fun tg kg => XS.aload X1027.here hx rfl (hb hby d7_103) rfl rfl kg) ?_
  refine go (fun tg kg => XS.iload X1027.here hx rfl (hb hby d7_105) rfl kg) ?_
  refine go (fun tg kg => XS.iconst X1027.here hx rfl (hb hby d7_107) kg) ?_
  refine go (fun tg kg => XS.iadd X1027.here hx rfl (hb hby d7_108) rfl kg) ?_
  refine go (fun tg kg => XS.dloadN X1027.here hx rfl (hb hby d7_109) rfl kg) ?_
  show G (T1027.setTop (mkF m 110 #[rv b1, dv 0, .second, dv 0, .second, dv 0, .second, iv 0, iv 2, rv b2_1, iv 10] [(dl 0), (.int 11), (.ref b2_1)]))
  obtain ⟨cl1028, Ar1028, q1028, S1028, M1028, H1028, U1028⟩ := id V1027
  have hin1028 : ¬ ((11 : Int32) < 0 ∨ cl1028.slots.size ≤ ((11 : Int32)).toNatClampNeg) := inb_of S1028 ⟨by decide, by decide⟩
  obtain ⟨T1028, h1028, X1028, e1028, W1028, st1028⟩ := stD X1027 hx hZ e1027 Ar1028 (j := (11 : Int32)) hin1028 (g := (mkF m 110 #[rv b1, dv 0, .second, dv 0, .second, dv 0, .second, iv 0, iv 2, rv b2_1, iv 10] [(dl 0), (.int 11), (.ref b2_1)])) rfl rfl (hb hby d7_110)
  refine go st1028 ?_
  have V1028 : Arv Z h1028 b2_1 k2_1 .double (20 : Int32) [(dl (x0.toInt64)), (dl (x1.toInt64)), (dl (x2.toInt64)), (dl 0), (dl 0), (dl 4), (dl 5), (dl 6), (dl 0), (dl 0), (dl 0), (dl 0), (dl 0), (dl 0), (dl 0), (dl 0), (dl 0), (dl 0), (dl 0), (dl 0)] (dl 0) := Arv.set Ar1028 q1028 S1028 M1028 H1028 U1028 rfl W1028 11 rfl (Nat.le_of_ble_eq_true rfl)
  have N1028 := Fr.snoc X1028 N1027 gg_b2_1
  have K1028 : Keep h0 h1028 [b1, b2_2, b2_3, b2_1] := K1027.wr W1028 (Or.inl (List.mem_of_getElem? (i := 3) rfl))
  have Z1028 := Nat.le_trans Z1027 (Keep.of_wr W1028).1
  refine go (fun tg kg => XS.aload X1028.here hx rfl (hb hby d7_111) rfl rfl kg) ?_
  refine go (fun tg kg => XS.iload X1028.here hx rfl (hb hby d7_113) rfl kg) ?_
  refine go (fun tg kg => XS.iconst X1028.here hx rfl (hb hby d7_115) kg) ?_
  refine go (fun tg kg => XS.iadd X1028.here hx rfl (hb hby d7_116) rfl kg) ?_
  refine go (fun tg kg => XS.dload X1028.here hx rfl (hb hby d7_117) rfl kg) ?_
  show G (T1028.setTop (mkF m 119 #[rv b1, dv 0, .second, dv 0, .second, dv 0, .second, iv 0, iv 2, rv b2_1, iv 10] [(dl 0), (.int 12), (.ref b2_1)]))
  obtain ⟨cl1029, Ar1029, q1029, S1029, M1029, H1029, U1029⟩ := id V1028
  have hin1029 : ¬ ((12 : Int32) < 0 ∨ cl1029.slots.size ≤ ((12 : Int32)).toNatClampNeg) := inb_of S1029 ⟨by decide, by decide⟩
  obtain ⟨T1029, h1029, X1029, e1029, W1029, st1029⟩ := stD X1028 hx hZ e1028 Ar1029 (j := (12 : Int32)) hin1029 (g := (mkF m 119 #[rv b1, dv 0, .second, dv 0, .second, dv 0, .second, iv 0, iv 2, rv b2_1, iv 10] [(dl 0), (.int 12), (.ref b2_1)])) rfl rfl (hb hby d7_119)
  refine go st1029 ?_
  have V1029 : Arv Z h1029 b2_1 k2_1 .double (20 : Int32) [(dl (x0.toInt64)), (dl (x1.toInt64)), (dl (x2.toInt64)), (dl 0), (dl 0), (dl 4), (dl 5), (dl 6), (dl 0), (dl 0), (dl 0), (dl 0), (dl 0), (dl 0), (dl 0), (dl 0), (dl 0), (dl 0), (dl 0), (dl 0)] (dl 0) := Arv.set Ar1029 q1029 S1029 M1029 H1029 U1029 rfl W1029 12 rfl (Nat.le_of_ble_eq_true rfl)
  have N1029 := Fr.snoc X1029 N1028 gg_b2_1
  have K1029 : Keep h0 h1029 [b1, b2_2, b2_3, b2_1] := K1028.wr W1029 (Or.inl (List.mem_of_getElem? (i := 3) rfl))
  have Z1029 := Nat.le_trans Z1028 (Keep.of_wr W1029).1
  refine go (fun tg kg => XS.aload X1029.here hx rfl (hb hby d7_120) rfl rfl kg) ?_
  refine go (fun tg kg => XS.iload X1029.here hx rfl (hb hby d7_122) rfl kg) ?_
  refine go (fun tg kg => XS.iconst X1029.here hx rfl (hb hby d7_124) kg) ?_
  refine go (fun tg kg => XS.iadd X1029.here hx rfl (hb hby d7_125) rfl kg) ?_
  refine go (fun tg kg => XS.dconst0 X1029.here hx rfl (hb hby d7_126) own_d0 kg) ?_
  show G (T1029.setTop (mkF m 127 #[rv b1, dv 0, .second, dv 0, .second, dv 0, .second, iv 0, iv 2, rv b2_1, iv 10] [(dl 0), (.int 13), (.ref b2_1)]))
  obtain ⟨cl1030, Ar1030, q1030, S1030, M1030, H1030, U1030⟩ := id V1029
  have hin1030 : ¬ ((13 : Int32) < 0 ∨ cl1030.slots.size ≤ ((13 : Int32)).toNatClampNeg) := inb_of S1030 ⟨by decide, by decide⟩
  obtain ⟨T1030, h1030, X1030, e1030, W1030, st1030⟩ := stD X1029 hx hZ e1029 Ar1030 (j := (13 : Int32)) hin1030 (g := (mkF m 127 #[rv b1, dv 0, .second, dv 0, .second, dv 0, .second, iv 0, iv 2, rv b2_1, iv 10] [(dl 0), (.int 13), (.ref b2_1)])) rfl rfl (hb hby d7_127)
  refine go st1030 ?_
  have V1030 : Arv Z h1030 b2_1 k2_1 .double (20 : Int32) [(dl (x0.toInt64)), (dl (x1.toInt64)), (dl (x2.toInt64)), (dl 0), (dl 0), (dl 4), (dl 5), (dl 6), (dl 0), (dl 0), (dl 0), (dl 0), (dl 0), (dl 0), (dl 0), (dl 0), (dl 0), (dl 0), (dl 0), (dl 0)] (dl 0) := Arv.set Ar1030 q1030 S1030 M1030 H1030 U1030 rfl W1030 13 rfl (Nat.le_of_ble_eq_true rfl)
  have N1030 := Fr.snoc X1030 N1029 gg_b2_1
  have K1030 : Keep h0 h1030 [b1, b2_2, b2_3, b2_1] := K1029.wr W1030 (Or.inl (List.mem_of_getElem? (i := 3) rfl))
  have Z1030 := Nat.le_trans Z1029 (Keep.of_wr W1030).1
  refine go (fun tg kg => XS.aload X1030.here hx rfl (hb hby d7_128) rfl rfl kg) ?_
  refine go (fun tg kg => XS.iload X1030.here hx rfl (hb hby d7_130) rfl kg) ?_
  refine go (fun tg kg => XS.iconst X1030.here hx rfl (hb hby d7_132) kg) ?_
  refine go (fun tg kg => XS.iadd X1030.here hx rfl (hb hby d7_133) rfl kg) ?_
  refine go (fun tg kg => XS.dconst0 X1030.here hx rfl (hb hby d7_134) own_d0 kg) ?_
  show G (T1030.setTop (mkF m 135 #[rv b1, dv 0, .second, dv 0, .second, dv 0, .second, iv 0, iv 2, rv b2_1, iv 10] [(dl 0), (.int 14), (.ref b2_1)]))
  obtain ⟨cl1031, Ar1031, q1031, S1031, M1031, H1031, U1031⟩ := id V1030
  have hin1031 : ¬ ((14 : Int32) < 0 ∨ cl1031.slots.size ≤ ((14 : Int32)).toNatClampNeg) := inb_of S1031 ⟨by decide, by decide⟩
  obtain ⟨T1031, h1031, X1031, e1031, W1031, st1031⟩ := stD X1030 hx hZ e1030 Ar1031 (j := (14 : Int32)) hin1031 (g := (mkF m 135 #[rv b1, dv 0, .second, dv 0, .second, dv 0, .second, iv 0, iv 2, rv b2_1, iv 10] [(dl 0), (.int 14), (.ref b2_1)])) rfl rfl (hb hby d7_135)
  refine go st1031 ?_
  have V1031 : Arv Z h1031 b2_1 k2_1 .double (20 : Int32) [(dl (x0.toInt64)), (dl (x1.toInt64)), (dl (x2.toInt64)), (dl 0), (dl 0), (dl 4), (dl 5), (dl 6), (dl 0), (dl 0), (dl 0), (dl 0), (dl 0), (dl 0), (dl 0), (dl 0), (dl 0), (dl 0), (dl 0), (dl 0)] (dl 0) := Arv.set Ar1031 q1031 S1031 M1031 H1031 U1031 rfl W1031 14 rfl (Nat.le_of_ble_eq_true rfl)
  have N1031 := Fr.snoc X1031 N1030 gg_b2_1
  have K1031 : Keep h0 h1031 [b1, b2_2, b2_3, b2_1] := K1030.wr W1031 (Or.inl (List.mem_of_getElem? (i := 3) rfl))
  have Z1031 := Nat.le_trans Z1030 (Keep.of_wr W1031).1
  refine go (fun tg kg => XS.aloadN X1031.here hx rfl (hb hby d7_136) rfl rfl kg) ?_
  refine go (fun tg kg => XS.dup X1031.here hx rfl (hb hby d7_137) rfl rfl kg) ?_
  have Fa1032 := (((((Fa1021.wr W1027).wr W1028).wr W1029).wr W1030).wr W1031)
  have Fa1033 := (((((((((m11.other W1004 (Or.inr (sn_openFirms_slotsUsed hw))).other W1011 (Or.inl (Ne.symm ne_b2_2_b1))).other W1015 (Or.inr (sn_openFirms_nextId hw))).other W1020 (Or.inl (Ne.symm ne_b2_3_b1))).other W1027 (Or.inl (Ne.symm ne_b2_1_b1))).other W1028 (Or.inl (Ne.symm ne_b2_1_b1))).other W1029 (Or.inl (Ne.symm ne_b2_1_b1))).other W1030 (Or.inl (Ne.symm ne_b2_1_b1))).other W1031 (Or.inl (Ne.symm ne_b2_1_b1)))
  obtain ⟨T1034, X1034, e1034, st1034⟩ := getF X1031 hx hZ hown (host := "") (Or.inl (own_w hw 72 rfl)) Via.refl e1031 Fa1033 (g := (mkF m 138 #[rv b1, dv 0, .second, dv 0, .second, dv 0, .second, iv 0, iv 2, rv b2_1, iv 10] [(.ref b1), (.ref b1)])) rfl rfl (hb hby d7_138)
  refine go st1034 ?_
  refine go (fun tg kg => XS.iconst X1034.here hx rfl (hb hby d7_141) kg) ?_
  refine go (fun tg kg => XS.iadd X1034.here hx rfl (hb hby d7_142) rfl kg) ?_
  show G (T1034.setTop (mkF m 143 #[rv b1, dv 0, .second, dv 0, .second, dv 0, .second, iv 0, iv 2, rv b2_1, iv 10] [(.int 3), (.ref b1)]))
  obtain ⟨T1035, h1035, X1035, e1035, W1035, st1035⟩ := putF X1034 hx hZ hown (host := "") (Or.inl (own_w hw 72 rfl)) Via.refl e1034 Fa1033 Fa1032 (Or.inl (own_w hw 73 rfl)) (own_w hw 2 rfl) (ty := .int) (by decide) rfl rfl (g := (mkF m 143 #[rv b1, dv 0, .second, dv 0, .second, dv 0, .second, iv 0, iv 2, rv b2_1, iv 10] [(.int 3), (.ref b1)])) rfl rfl (hb hby d7_143)
  refine go st1035 ?_
  have Fw1035 : Fld Z h1035 b1 cF "openFirms" "I" (.int 3) := Fa1033.same W1035
  have N1035 := Fr.snoc X1035 N1031 gg_b1
  have K1035 : Keep h0 h1035 [b1, b2_2, b2_3, b2_1] := K1031.wr W1035 (Or.inl (List.mem_of_getElem? (i := 0) rfl))
  have Z1035 := Nat.le_trans Z1031 (Keep.of_wr W1035).1
  refine go (fun tg kg => XS.iload X1035.here hx rfl (hb hby d7_146) rfl kg) ?_
  refine fin (some (.int 2)) X1035 (fun h => absurd h (by decide)) (fun fs hr => retOut X1035 hx hret rfl (Or.inl ⟨rfl, Or.inl rfl, _, rfl⟩) (hb hby d7_148) hr) (by decide) (by decide) ?_
  rw [e1035]
  have Fa1036 := (Fa1032.wr W1035)
  have Fa1037 := ((((((((((m0.other W1004 (Or.inr (sn_freeSlot_slotsUsed hw))).other W1011 (Or.inl (Ne.symm ne_b2_2_b1))).other W1015 (Or.inr (sn_freeSlot_nextId hw))).other W1020 (Or.inl (Ne.symm ne_b2_3_b1))).other W1027 (Or.inl (Ne.symm ne_b2_1_b1))).other W1028 (Or.inl (Ne.symm ne_b2_1_b1))).other W1029 (Or.inl (Ne.symm ne_b2_1_b1))).other W1030 (Or.inl (Ne.symm ne_b2_1_b1))).other W1031 (Or.inl (Ne.symm ne_b2_1_b1))).other W1035 (Or.inr (sn_freeSlot_openFirms hw)))
  have Fa1038 := (((((((((Fw1004.other W1011 (Or.inl (Ne.symm ne_b2_2_b1))).other W1015 (Or.inr (sn_slotsUsed_nextId hw))).other W1020 (Or.inl (Ne.symm ne_b2_3_b1))).other W1027 (Or.inl (Ne.symm ne_b2_1_b1))).other W1028 (Or.inl (Ne.symm ne_b2_1_b1))).other W1029 (Or.inl (Ne.symm ne_b2_1_b1))).other W1030 (Or.inl (Ne.symm ne_b2_1_b1))).other W1031 (Or.inl (Ne.symm ne_b2_1_b1))).other W1035 (Or.inr (sn_slotsUsed_openFirms hw)))
  have Fa1039 := (((((((((Fa1006.other W1011 (Or.inl (Ne.symm ne_b2_2_b1))).other W1015 (Or.inr (sn_ids_nextId hw))).other W1020 (Or.inl (Ne.symm ne_b2_3_b1))).other W1027 (Or.inl (Ne.symm ne_b2_1_b1))).other W1028 (Or.inl (Ne.symm ne_b2_1_b1))).other W1029 (Or.inl (Ne.symm ne_b2_1_b1))).other W1030 (Or.inl (Ne.symm ne_b2_1_b1))).other W1031 (Or.inl (Ne.symm ne_b2_1_b1))).other W1035 (Or.inr (sn_ids_openFirms hw)))
  have Fa1040 := (((((((Fw1015.other W1020 (Or.inl (Ne.symm ne_b2_3_b1))).other W1027 (Or.inl (Ne.symm ne_b2_1_b1))).other W1028 (Or.inl (Ne.symm ne_b2_1_b1))).other W1029 (Or.inl (Ne.symm ne_b2_1_b1))).other W1030 (Or.inl (Ne.symm ne_b2_1_b1))).other W1031 (Or.inl (Ne.symm ne_b2_1_b1))).other W1035 (Or.inr (sn_nextId_openFirms hw)))
  have Fa1041 := ((((((((V1011.other W1015 ne_b2_2_b1).other W1020 (Ne.symm ne_b2_3_b2_2)).other W1027 (Ne.symm ne_b2_1_b2_2)).other W1028 (Ne.symm ne_b2_1_b2_2)).other W1029 (Ne.symm ne_b2_1_b2_2)).other W1030 (Ne.symm ne_b2_1_b2_2)).other W1031 (Ne.symm ne_b2_1_b2_2)).other W1035 ne_b2_2_b1)
  have Fa1042 := (((((((Fa1017.other W1020 (Or.inl (Ne.symm ne_b2_3_b1))).other W1027 (Or.inl (Ne.symm ne_b2_1_b1))).other W1028 (Or.inl (Ne.symm ne_b2_1_b1))).other W1029 (Or.inl (Ne.symm ne_b2_1_b1))).other W1030 (Or.inl (Ne.symm ne_b2_1_b1))).other W1031 (Or.inl (Ne.symm ne_b2_1_b1))).other W1035 (Or.inr (sn_births_openFirms hw)))
  have Fa1043 := ((((((V1020.other W1027 (Ne.symm ne_b2_1_b2_3)).other W1028 (Ne.symm ne_b2_1_b2_3)).other W1029 (Ne.symm ne_b2_1_b2_3)).other W1030 (Ne.symm ne_b2_1_b2_3)).other W1031 (Ne.symm ne_b2_1_b2_3)).other W1035 ne_b2_3_b1)
  have Fa1044 := ((((((Fa1022.other W1027 (Or.inl (Ne.symm ne_b2_1_b1))).other W1028 (Or.inl (Ne.symm ne_b2_1_b1))).other W1029 (Or.inl (Ne.symm ne_b2_1_b1))).other W1030 (Or.inl (Ne.symm ne_b2_1_b1))).other W1031 (Or.inl (Ne.symm ne_b2_1_b1))).other W1035 (Or.inr (sn_pages_openFirms hw)))
  have Fa1045 := (V1031.other W1035 ne_b2_1_b1)
  have Fa1046 := ((((((((((m12.other W1004 (Or.inr (sn_members_slotsUsed hw))).other W1011 (Or.inl (Ne.symm ne_b2_2_b1))).other W1015 (Or.inr (sn_members_nextId hw))).other W1020 (Or.inl (Ne.symm ne_b2_3_b1))).other W1027 (Or.inl (Ne.symm ne_b2_1_b1))).other W1028 (Or.inl (Ne.symm ne_b2_1_b1))).other W1029 (Or.inl (Ne.symm ne_b2_1_b1))).other W1030 (Or.inl (Ne.symm ne_b2_1_b1))).other W1031 (Or.inl (Ne.symm ne_b2_1_b1))).other W1035 (Or.inr (sn_members_openFirms hw)))
  have Fa1047 := ((((((((((m13.other W1004 (Or.inr (sn_changedNow_slotsUsed hw))).other W1011 (Or.inl (Ne.symm ne_b2_2_b1))).other W1015 (Or.inr (sn_changedNow_nextId hw))).other W1020 (Or.inl (Ne.symm ne_b2_3_b1))).other W1027 (Or.inl (Ne.symm ne_b2_1_b1))).other W1028 (Or.inl (Ne.symm ne_b2_1_b1))).other W1029 (Or.inl (Ne.symm ne_b2_1_b1))).other W1030 (Or.inl (Ne.symm ne_b2_1_b1))).other W1031 (Or.inl (Ne.symm ne_b2_1_b1))).other W1035 (Or.inr (sn_changedNow_openFirms hw)))
  have Fa1048 := ((((((((((m14.other W1004 (Or.inr (sn_changedBefore_slotsUsed hw))).other W1011 (Or.inl (Ne.symm ne_b2_2_b1))).other W1015 (Or.inr (sn_changedBefore_nextId hw))).other W1020 (Or.inl (Ne.symm ne_b2_3_b1))).other W1027 (Or.inl (Ne.symm ne_b2_1_b1))).other W1028 (Or.inl (Ne.symm ne_b2_1_b1))).other W1029 (Or.inl (Ne.symm ne_b2_1_b1))).other W1030 (Or.inl (Ne.symm ne_b2_1_b1))).other W1031 (Or.inl (Ne.symm ne_b2_1_b1))).other W1035 (Or.inr (sn_changedBefore_openFirms hw)))
  have Fa1049 := ((((((((((m15.wr W1004).wr W1011).wr W1015).wr W1020).wr W1027).wr W1028).wr W1029).wr W1030).wr W1031).wr W1035)
  exact ⟨rfl, N1035, K1035, Fa1037, Fa1038, Fa1036, Fa1039, Fa1040, Fa1041, Fa1042, Fa1043, Fa1044, Fa1045, Fw1035, Fa1046, Fa1047, Fa1048, Fa1049⟩
def Q_rm16_3 (Z : State) (b2_4 : Addr) (b2_7 : Addr) (k2_5 : ClassId) (h0 : Heap) (n0 : Nat) (v : Option Value) (h : Heap) (L : List Loc) : Prop := v = some (.int 0) ∧ Fr n0 L ∧ h = h0
set_option maxRecDepth 65536 in
set_option maxHeartbeats 40000000 in
theorem rm16_3 (l : Launch) (Z : State) (a0 : Array Value) (hw : ∀ d ∈ tables_1, d.before a0 Z = true) (ws : List Jvm.Cond) (b2_4 : Addr) (b2_7 : Addr) (k2_5 : ClassId) (h0 : Heap) (n0 : Nat) (Z0 : n0 ≤ h0.size) (m0 : Fld Z h0 b2_4 cM "heads" "[J" (.ref b2_7)) (m1 : Arv Z h0 b2_7 k2_5 .long 4 [(.long 0), (.long 0), (.long 0), (.long 0)] (.long 0)) :
    oM l y16 prog_10_method_2_code 2 (some .int) ws (⟨0, 0, 0, 0⟩ : Room) Z h0 #[(.ref b2_4), (.int 1)] (Q_rm16_3 Z b2_4 b2_7 k2_5 h0 n0) := by
  refine own_enter (Q := Q_rm16_3 Z b2_4 b2_7 k2_5 h0 n0) (plainFor_of_name pn_com_example_housemartin_housemartin_firm_Members) ?_
  intro p e s m below meth c s₁ G X0 hx hby hml hZ hown hnm hret e0 go fin
  replace hown : s.vm.findClass cM = some m.cls := hown
  replace hnm : meth.name = "count" := hnm
  replace hml : c.maxLocals = 2 := hml
  rw [ef_16 m b2_4 _]
  have N0 := Fr.nil n0
  refine go (fun tg kg => XS.aloadN X0.here hx rfl (hb hby d16_0) rfl rfl kg) ?_
  obtain ⟨T3001, X3001, e3001, st3001⟩ := getF X0 hx hZ hown (host := "") (Or.inl (own_w hw 45 rfl)) Via.refl e0 m0 (g := (mkF m 1 #[rv b2_4, iv 1] [(.ref b2_4)])) rfl rfl (hb hby d16_1)
  refine go st3001 ?_
  refine go (fun tg kg => XS.iloadN X3001.here hx rfl (hb hby d16_4) rfl kg) ?_
  obtain ⟨cl3002, Ar3002, q3002, S3002, M3002, H3002, U3002⟩ := id m1
  have hin3002 : ¬ ((1 : Int32) < 0 ∨ cl3002.slots.size ≤ ((1 : Int32)).toNatClampNeg) := inb_of S3002 ⟨by decide, by decide⟩
  refine go (fun tg kg => X3001.laload hx (j := (1 : Int32)) (v := (.long 0)) (by rw [e3001]; exact Ar3002.1) (State.isArrayOf_alike hZ.alike Ar3002.2.1) Ar3002.2.2 hin3002 (H3002.at hin3002 rfl) (g := (mkF m 5 #[rv b2_4, iv 1] [(.int 1), (.ref b2_7)])) rfl rfl (hb hby d16_5) _ kg) ?_
  refine go (fun tg kg => XS.bipush X3001.here hx rfl (hb hby d16_6) kg) ?_
  show G (T3001.setTop (mkF m 8 #[rv b2_4, iv 1] [(.int 32), (.long 0)]))
  refine go (fun tg kg => XS.lushr X3001.here hx rfl (hb hby d16_8) rfl kg) ?_
  show G (T3001.setTop (mkF m 9 #[rv b2_4, iv 1] [(.long (((0 : Int64).toUInt64 >>> ((32 : Int32) &&& 0x3f).toInt64.toUInt64).toInt64))]))
  rw [show (((0 : Int64).toUInt64 >>> ((32 : Int32) &&& 0x3f).toInt64.toUInt64).toInt64) = (0 : Int64) from by decide]
  show G (T3001.setTop (mkF m 9 #[rv b2_4, iv 1] [(.long 0)]))
  refine go (fun tg kg => XS.l2i X3001.here hx rfl (hb hby d16_9) rfl kg) ?_
  refine fin (some (.int 0)) X3001 (fun h => absurd h (by decide)) (fun fs hr => retOut X3001 hx hret rfl (Or.inl ⟨rfl, Or.inl rfl, _, rfl⟩) (hb hby d16_10) hr) (by decide) (by decide) ?_
  rw [e3001]
  exact ⟨rfl, N0, rfl⟩
def Q_rm17_2 (Z : State) (b2_4 : Addr) (b2_7 : Addr) (k2_5 : ClassId) (h0 : Heap) (n0 : Nat) (v : Option Value) (h : Heap) (L : List Loc) : Prop := v = none ∧ Fr n0 L ∧ Keep h0 h [b2_7] ∧ Arv Z h b2_7 k2_5 .long 4 [(.long 0), (.long 4294967303), (.long 0), (.long 0)] (.long 0)
set_option maxRecDepth 65536 in
set_option maxHeartbeats 40000000 in
theorem rm17_2 (l : Launch) (Z : State) (a0 : Array Value) (hw : ∀ d ∈ tables_1, d.before a0 Z = true) (ws : List Jvm.Cond) (b2_4 : Addr) (b2_7 : Addr) (k2_5 : ClassId) (h0 : Heap) (n0 : Nat) (Z0 : n0 ≤ h0.size) (m0 : Fld Z h0 b2_4 cM "heads" "[J" (.ref b2_7)) (m1 : Arv Z h0 b2_7 k2_5 .long 4 [(.long 0), (.long 0), (.long 0), (.long 0)] (.long 0)) (gg_b2_7 : n0 ≤ b2_7) :
    oM l y17 prog_10_method_18_code 4 none ws (⟨0, 0, 0, 0⟩ : Room) Z h0 #[(.ref b2_4), (.int 1), (.int 1), (.int 7)] (Q_rm17_2 Z b2_4 b2_7 k2_5 h0 n0) := by
  refine own_enter (Q := Q_rm17_2 Z b2_4 b2_7 k2_5 h0 n0) (plainFor_of_name pn_com_example_housemartin_housemartin_firm_Members) ?_
  intro p e s m below meth c s₁ G X0 hx hby hml hZ hown hnm hret e0 go fin
  replace hown : s.vm.findClass cM = some m.cls := hown
  replace hnm : meth.name = "setHead" := hnm
  replace hml : c.maxLocals = 4 := hml
  rw [ef_17 m b2_4 _ _ _]
  have N0 := Fr.nil n0
  refine go (fun tg kg => XS.aloadN X0.here hx rfl (hb hby d17_0) rfl rfl kg) ?_
  obtain ⟨T3001, X3001, e3001, st3001⟩ := getF X0 hx hZ hown (host := "") (Or.inl (own_w hw 45 rfl)) Via.refl e0 m0 (g := (mkF m 1 #[rv b2_4, iv 1, iv 1, iv 7] [(.ref b2_4)])) rfl rfl (hb hby d17_1)
  refine go st3001 ?_
  refine go (fun tg kg => XS.iloadN X3001.here hx rfl (hb hby d17_4) rfl kg) ?_
  refine go (fun tg kg => XS.iloadN X3001.here hx rfl (hb hby d17_5) rfl kg) ?_
  refine go (fun tg kg => XS.i2l X3001.here hx rfl (hb hby d17_6) rfl kg) ?_
  show G (T3001.setTop (mkF m 7 #[rv b2_4, iv 1, iv 1, iv 7] [(.long 1), (.int 1), (.ref b2_7)]))
  refine go (fun tg kg => XS.bipush X3001.here hx rfl (hb hby d17_7) kg) ?_
  refine go (fun tg kg => XS.lshl X3001.here hx rfl (hb hby d17_9) rfl kg) ?_
  show G (T3001.setTop (mkF m 10 #[rv b2_4, iv 1, iv 1, iv 7] [(.long ((1 : Int64) <<< ((32 : Int32) &&& 0x3f).toInt64)), (.int 1), (.ref b2_7)]))
  rw [show ((1 : Int64) <<< ((32 : Int32) &&& 0x3f).toInt64) = (4294967296 : Int64) from by decide]
  show G (T3001.setTop (mkF m 10 #[rv b2_4, iv 1, iv 1, iv 7] [(.long 4294967296), (.int 1), (.ref b2_7)]))
  refine go (fun tg kg => XS.iloadN X3001.here hx rfl (hb hby d17_10) rfl kg) ?_
  refine go (fun tg kg => XS.i2l X3001.here hx rfl (hb hby d17_11) rfl kg) ?_
  refine go (fun tg kg => X3001.ldc2Long hx hown (mvT hZ (own_w hw 127 rfl)) (g := (mkF m 12 #[rv b2_4, iv 1, iv 1, iv 7] [(.long 7), (.long 4294967296), (.int 1), (.ref b2_7)])) rfl (hb hby d17_12) _ kg) ?_
  refine go (fun tg kg => XS.land X3001.here hx rfl (hb hby d17_15) rfl kg) ?_
  refine go (fun tg kg => XS.lor X3001.here hx rfl (hb hby d17_16) rfl kg) ?_
  show G (T3001.setTop (mkF m 17 #[rv b2_4, iv 1, iv 1, iv 7] [(.long ((4294967296 : Int64) ||| (7 : Int64))), (.int 1), (.ref b2_7)]))
  rw [show ((4294967296 : Int64) ||| (7 : Int64)) = (4294967303 : Int64) from by decide]
  show G (T3001.setTop (mkF m 17 #[rv b2_4, iv 1, iv 1, iv 7] [(.long 4294967303), (.int 1), (.ref b2_7)]))
  obtain ⟨cl3002, Ar3002, q3002, S3002, M3002, H3002, U3002⟩ := id m1
  have hin3002 : ¬ ((1 : Int32) < 0 ∨ cl3002.slots.size ≤ ((1 : Int32)).toNatClampNeg) := inb_of S3002 ⟨by decide, by decide⟩
  obtain ⟨T3002, h3002, X3002, e3002, W3002, st3002⟩ := stJ X3001 hx hZ e3001 Ar3002 (j := (1 : Int32)) hin3002 (g := (mkF m 17 #[rv b2_4, iv 1, iv 1, iv 7] [(.long 4294967303), (.int 1), (.ref b2_7)])) rfl rfl (hb hby d17_17)
  refine go st3002 ?_
  have V3002 : Arv Z h3002 b2_7 k2_5 .long (4 : Int32) [(.long 0), (.long 4294967303), (.long 0), (.long 0)] (.long 0) := Arv.set Ar3002 q3002 S3002 M3002 H3002 U3002 rfl W3002 1 rfl (Nat.le_of_ble_eq_true rfl)
  have N3002 := Fr.snoc X3002 N0 gg_b2_7
  have K3002 : Keep h0 h3002 [b2_7] := (Keep.refl h0 [b2_7]).wr W3002 (Or.inl (List.mem_of_getElem? (i := 0) rfl))
  have Z3002 := Nat.le_trans Z0 (Keep.of_wr W3002).1
  show G (T3002.setTop (mkF m 18 #[rv b2_4, iv 1, iv 1, iv 7] []))
  refine fin (none) X3002 (fun h => rfl) (fun fs hr => X3002.returnOut hx hret (hb hby d17_18) hr) (by decide) (by decide) ?_
  rw [e3002]
  exact ⟨rfl, N3002, K3002, V3002⟩
def Q_rm15_1 (Z : State) (b2_4 : Addr) (b2_7 : Addr) (k2_5 : ClassId) (b2_6 : Addr) (k2_4 : ClassId) (b2_5 : Addr) (b2_8 : Addr) (h0 : Heap) (n0 : Nat) (v : Option Value) (h : Heap) (L : List Loc) : Prop := v = none ∧ Fr n0 L ∧ Keep h0 h [b2_7, b2_6, b2_4] ∧ Exa Z h b2_4 cM ∧ Fld Z h b2_4 cM "heads" "[J" (.ref b2_7) ∧ Arv Z h b2_7 k2_5 .long 4 [(.long 0), (.long 4294967303), (.long 0), (.long 0)] (.long 0) ∧ Fld Z h b2_4 cM "listed" "Z" (.int 1) ∧ Fld Z h b2_4 cM "firmsOfSize" "[I" (.ref b2_6) ∧ Arv Z h b2_6 k2_4 .int 2 [(.int 0), (.int 1)] (.int 0) ∧ Fld Z h b2_4 cM "largest" "I" (.int 1) ∧ Fld Z h b2_4 cM "freeBlocks" "[I" (.ref b2_5) ∧ Fld Z h b2_4 cM "pool" "[I" (.ref b2_8)
set_option maxRecDepth 65536 in
set_option maxHeartbeats 40000000 in
theorem rm15_1 (l : Launch) (Z : State) (a0 : Array Value) (hw : ∀ d ∈ tables_1, d.before a0 Z = true) (ws : List Jvm.Cond) (b2_4 : Addr) (b2_7 : Addr) (k2_5 : ClassId) (b2_6 : Addr) (k2_4 : ClassId) (b2_5 : Addr) (b2_8 : Addr) (h0 : Heap) (n0 : Nat) (Z0 : n0 ≤ h0.size) (m0 : Exa Z h0 b2_4 cM) (m1 : Fld Z h0 b2_4 cM "heads" "[J" (.ref b2_7)) (m2 : Arv Z h0 b2_7 k2_5 .long 4 [(.long 0), (.long 0), (.long 0), (.long 0)] (.long 0)) (m3 : Fld Z h0 b2_4 cM "listed" "Z" (.int 1)) (m4 : Fld Z h0 b2_4 cM "firmsOfSize" "[I" (.ref b2_6)) (m5 : Arv Z h0 b2_6 k2_4 .int 2 [(.int 0), (.int 0)] (.int 0)) (m6 : Fld Z h0 b2_4 cM "largest" "I" (.int 0)) (m7 : Fld Z h0 b2_4 cM "freeBlocks" "[I" (.ref b2_5)) (m8 : Fld Z h0 b2_4 cM "pool" "[I" (.ref b2_8)) (ne_b2_4_b2_7 : b2_4 ≠ b2_7) (ne_b2_6_b2_7 : b2_6 ≠ b2_7) (ne_b2_4_b2_6 : b2_4 ≠ b2_6) (gg_b2_7 : n0 ≤ b2_7) (gg_b2_6 : n0 ≤ b2_6) (gg_b2_4 : n0 ≤ b2_4) :
    oM l y15 prog_10_method_7_code 8 none ws (⟨2, 0, 0, 28⟩ : Room) Z h0 #[(.ref b2_4), (.int 1), (.int 7)] (Q_rm15_1 Z b2_4 b2_7 k2_5 b2_6 k2_4 b2_5 b2_8 h0 n0) := by
  refine own_enter (Q := Q_rm15_1 Z b2_4 b2_7 k2_5 b2_6 k2_4 b2_5 b2_8 h0 n0) (plainFor_of_name pn_com_example_housemartin_housemartin_firm_Members) ?_
  intro p e s m below meth c s₁ G X0 hx hby hml hZ hown hnm hret e0 go fin
  replace hown : s.vm.findClass cM = some m.cls := hown
  replace hnm : meth.name = "add" := hnm
  replace hml : c.maxLocals = 8 := hml
  rw [ef_15 m b2_4 _ _]
  have N0 := Fr.nil n0
  refine go (fun tg kg => XS.aloadN X0.here hx rfl (hb hby d15_0) rfl rfl kg) ?_
  refine go (fun tg kg => XS.iloadN X0.here hx rfl (hb hby d15_1) rfl kg) ?_
  obtain ⟨cq2001, kq2001, q2001a, q2001b, q2001c⟩ := isOf hZ e0 m0
  obtain ⟨_, _, ⟨T2001, L2001, k2001, n2001⟩, -, X2001, ⟨Lc2001, hQ2001, l2001, y2001, z2001⟩, st2001⟩ := X0.virtualBack hx (y := y16) (z := y16) hown (mvT hZ (own_w hw 118 rfl)) (mvT hZ (own_w hw 119 rfl)) (notFace_of_selects (args := #[]) (mvT hZ (own_w hw 121 rfl))) (mvT hZ (own_w hw 121 rfl)) (mvT hZ (own_w hw 120 rfl)) (by decide) (backOf (W := 0) (rm16_3 l Z a0 hw [] b2_4 b2_7 k2_5 h0 n0 Z0 m1 m2) hZ (own_w hw 122 rfl) (own_w hw 34 rfl) (by decide) (by decide)) q2001a q2001c (g := (mkF m 2 #[rv b2_4, iv 1, iv 7, .unset, .unset, .unset, .unset, .unset] [(.int 1), (.ref b2_4)])) rfl (by rw [hml]; rfl) (Steps.refl _) (argsL := [(.int 1)]) (rest := []) (lenOf pd__I_I rfl) rfl (by show 2 * 0 + _ ≤ _; exact Nat.le_of_eq rfl) (hb hby d15_2) (fun _ _ => ⟨rfl, e0, (by decide : 0 + 0 ≤ _), (by decide : 0 + 0 ≤ _)⟩)
  dsimp only [Pt.U, Pt.locs, Pt.cells, Pt.slots] at X2001 l2001 y2001 z2001 st2001 hQ2001
  subst l2001 y2001 z2001
  obtain ⟨rfl, Nq2001, e2001⟩ := hQ2001
  have N2001 := Fr.app N0 Nq2001
  refine go (fun tg kg => st2001.trans kg) ?_
  refine go (fun tg kg => XS.istoreN X2001.here hx rfl (hb hby d15_5) rfl (l' := #[rv b2_4, iv 1, iv 7, iv 0, .unset, .unset, .unset, .unset]) rfl kg) ?_
  refine go (fun tg kg => XS.iloadN X2001.here hx rfl (hb hby d15_6) rfl kg) ?_
  show G (T2001.setTop (mkF m 7 #[rv b2_4, iv 1, iv 7, iv 0, .unset, .unset, .unset, .unset] [(.int 7)]))
  refine go (fun tg kg => XS.istore X2001.here hx rfl (hb hby d15_7) rfl (l' := #[rv b2_4, iv 1, iv 7, iv 0, iv 7, .unset, .unset, .unset]) rfl kg) ?_
  refine go (fun tg kg => XS.aloadN X2001.here hx rfl (hb hby d15_9) rfl rfl kg) ?_
  obtain ⟨T2002, X2002, e2002, st2002⟩ := getF X2001 hx hZ hown (host := "") (Or.inl (own_w hw 43 rfl)) Via.refl e2001 m3 (g := (mkF m 10 #[rv b2_4, iv 1, iv 7, iv 0, iv 7, .unset, .unset, .unset] [(.ref b2_4)])) rfl rfl (hb hby d15_10)
  refine go st2002 ?_
  refine go (fun tg kg => XS.ifYes X2002.here hx rfl (pc0 := 13) (pc' := 22) rfl (hb hby d15_13) rfl ((if0 _ _).trans (feq (by decide)).2) (by decide) (by decide) kg) ?_
  refine go (fun tg kg => XS.iloadN X2002.here hx rfl (hb hby d15_22) rfl kg) ?_
  refine go (fun tg kg => XS.iconst X2002.here hx rfl (hb hby d15_23) kg) ?_
  show G (T2002.setTop (mkF m 24 #[rv b2_4, iv 1, iv 7, iv 0, iv 7, .unset, .unset, .unset] [(.int 1), (.int 0)]))
  refine go (fun tg kg => XS.icmpYes X2002.here hx rfl (pc0 := 24) (pc' := 110) rfl (hb hby d15_24) rfl (feq (by decide)).2 (by decide) (by decide) kg) ?_
  refine go (fun tg kg => XS.iloadN X2002.here hx rfl (hb hby d15_110) rfl kg) ?_
  refine go (fun tg kg => XS.iconst X2002.here hx rfl (hb hby d15_111) kg) ?_
  refine go (fun tg kg => XS.icmpYes X2002.here hx rfl (pc0 := 112) (pc' := 309) rfl (hb hby d15_112) rfl (flt (by decide)).2.2.2 (by decide) (by decide) kg) ?_
  refine go (fun tg kg => XS.aloadN X2002.here hx rfl (hb hby d15_309) rfl rfl kg) ?_
  refine go (fun tg kg => XS.iloadN X2002.here hx rfl (hb hby d15_310) rfl kg) ?_
  show G (T2002.setTop (mkF m 311 #[rv b2_4, iv 1, iv 7, iv 0, iv 7, .unset, .unset, .unset] [(.int 1), (.ref b2_4)]))
  refine go (fun tg kg => XS.iloadN X2002.here hx rfl (hb hby d15_311) rfl kg) ?_
  refine go (fun tg kg => XS.iconst X2002.here hx rfl (hb hby d15_312) kg) ?_
  refine go (fun tg kg => XS.iadd X2002.here hx rfl (hb hby d15_313) rfl kg) ?_
  refine go (fun tg kg => XS.iload X2002.here hx rfl (hb hby d15_314) rfl kg) ?_
  obtain ⟨cq2003, q2003, q2003'⟩ := m0.cell
  obtain ⟨_, _, ⟨T2003, L2003, k2003, n2003⟩, -, X2003, ⟨Lc2003, hQ2003, l2003, y2003, z2003⟩, st2003⟩ := X2002.privateBack hx (y := y17) hown (mvT hZ (own_w hw 123 rfl)) (mvT hZ (own_w hw 124 rfl)) (own_selp hZ (own_w hw 33 rfl) (own_w hw 125 rfl) (own_w hw 124 rfl) (by decide)) (Cond.privateMethod_at (mvP hZ (own_w hw 125 rfl) (args := #[]))) (mvT hZ (own_w hw 126 rfl)) (by decide) (backOf (W := 0) (rm17_2 l Z a0 hw [] b2_4 b2_7 k2_5 h0 n0 Z0 m1 m2 gg_b2_7) hZ (own_w hw 126 rfl) (own_w hw 34 rfl) (by decide) (by decide)) (g := (mkF m 316 #[rv b2_4, iv 1, iv 7, iv 0, iv 7, .unset, .unset, .unset] [(.int 7), (.int 1), (.int 1), (.ref b2_4)])) rfl (by rw [hml]; rfl) (Steps.refl _) (a := b2_4) (by rw [e2002]; exact q2003) q2003' (argsL := [(.int 1), (.int 1), (.int 7)]) (rest := []) (lenOf pd__III_V rfl) rfl (by show 2 * 0 + _ ≤ _; exact Nat.le_of_eq rfl) (hb hby d15_316) (fun _ _ => ⟨rfl, e2002, (by decide : 0 + 0 ≤ _), (by decide : 0 + 0 ≤ _)⟩)
  dsimp only [Pt.U, Pt.locs, Pt.cells, Pt.slots] at X2003 l2003 y2003 z2003 st2003 hQ2003
  subst l2003 y2003 z2003
  obtain ⟨rfl, Nq2003, K2003, Gf2003_0⟩ := hQ2003
  have Kk2003 : Keep h0 T2003.heap [b2_7, b2_6, b2_4] := (Keep.refl h0 [b2_7, b2_6, b2_4]).trans K2003 (allS (Or.inl (List.mem_of_getElem? (i := 0) rfl)) all0)
  have Z2003 := Nat.le_trans Z0 K2003.1
  have N2003 := Fr.app N2001 Nq2003
  refine go (fun tg kg => st2003.trans kg) ?_
  refine go (fun tg kg => XS.aloadN X2003.here hx rfl (hb hby d15_319) rfl rfl kg) ?_
  show G (T2003.setTop (mkF m 320 #[rv b2_4, iv 1, iv 7, iv 0, iv 7, .unset, .unset, .unset] [(.ref b2_4)]))
  refine go (fun tg kg => XS.iloadN X2003.here hx rfl (hb hby d15_320) rfl kg) ?_
  refine go (fun tg kg => XS.iloadN X2003.here hx rfl (hb hby d15_321) rfl kg) ?_
  refine go (fun tg kg => XS.iconst X2003.here hx rfl (hb hby d15_322) kg) ?_
  refine go (fun tg kg => XS.iadd X2003.here hx rfl (hb hby d15_323) rfl kg) ?_
  have Fa2004 := (m0.keep K2003)
  have Fa2005 := (m4.keep K2003 (ninS ne_b2_4_b2_7 nin0))
  have Fa2006 := (m5.keep K2003 (ninS ne_b2_6_b2_7 nin0))
  have Fa2007 := (m6.keep K2003 (ninS ne_b2_4_b2_7 nin0))
  have Fa2008 := (m1.keep K2003 (ninS ne_b2_4_b2_7 nin0))
  have Fa2009 := (m3.keep K2003 (ninS ne_b2_4_b2_7 nin0))
  have Fa2010 := (m7.keep K2003 (ninS ne_b2_4_b2_7 nin0))
  have Fa2011 := (m8.keep K2003 (ninS ne_b2_4_b2_7 nin0))
  obtain ⟨cq2012, q2012, q2012'⟩ := Fa2004.cell
  obtain ⟨_, _, ⟨T2012, L2012, k2012, n2012⟩, -, X2012, ⟨Lc2012, hQ2012, l2012, y2012, z2012⟩, st2012⟩ := X2003.privateBack hx (y := y18) hown (mvT hZ (own_w hw 128 rfl)) (mvT hZ (own_w hw 129 rfl)) (own_selp hZ (own_w hw 33 rfl) (own_w hw 130 rfl) (own_w hw 129 rfl) (by decide)) (Cond.privateMethod_at (mvP hZ (own_w hw 130 rfl) (args := #[]))) (mvT hZ (own_w hw 131 rfl)) (by decide) (backOf (W := 0) (rm18_0 l Z a0 hw [] b2_4 b2_6 k2_4 b2_7 b2_5 b2_8 T2003.heap n0 Z2003 Fa2005 Fa2006 Fa2007 Fa2004 Fa2008 Fa2009 Fa2010 Fa2011 ne_b2_4_b2_6 gg_b2_6 gg_b2_4) hZ (own_w hw 131 rfl) (own_w hw 34 rfl) (by decide) (by decide)) (g := (mkF m 324 #[rv b2_4, iv 1, iv 7, iv 0, iv 7, .unset, .unset, .unset] [(.int 1), (.int 0), (.ref b2_4)])) rfl (by rw [hml]; rfl) (Steps.refl _) (a := b2_4) q2012 q2012' (argsL := [(.int 0), (.int 1)]) (rest := []) (lenOf pd__II_V rfl) rfl (by show 2 * 0 + _ ≤ _; exact Nat.le_of_eq rfl) (hb hby d15_324) (fun _ _ => ⟨rfl, rfl, (by decide : 0 + 0 ≤ _), (by decide : 0 + 0 ≤ _)⟩)
  dsimp only [Pt.U, Pt.locs, Pt.cells, Pt.slots] at X2012 l2012 y2012 z2012 st2012 hQ2012
  subst l2012 y2012 z2012
  obtain ⟨rfl, Nq2012, K2012, Gf2012_0, Gf2012_1, Gf2012_2, Gf2012_3, Gf2012_4, Gf2012_5, Gf2012_6, Gf2012_7⟩ := hQ2012
  have Kk2012 : Keep h0 T2012.heap [b2_7, b2_6, b2_4] := Kk2003.trans K2012 (allS (Or.inl (List.mem_of_getElem? (i := 1) rfl)) (allS (Or.inl (List.mem_of_getElem? (i := 2) rfl)) all0))
  have Z2012 := Nat.le_trans Z2003 K2012.1
  have N2012 := Fr.app N2003 Nq2012
  refine go (fun tg kg => st2012.trans kg) ?_
  refine fin (none) X2012 (fun h => rfl) (fun fs hr => X2012.returnOut hx hret (hb hby d15_327) hr) (by decide) (by decide) ?_
  have Fa2013 := (Gf2003_0.keep K2012 (ninS (Ne.symm ne_b2_6_b2_7) (ninS (Ne.symm ne_b2_4_b2_7) nin0)))
  exact ⟨rfl, N2012, Kk2012, Gf2012_3, Gf2012_4, Fa2013, Gf2012_5, Gf2012_0, Gf2012_1, Gf2012_2, Gf2012_6, Gf2012_7⟩
def Q_rm20_2 (Z : State) (b1 : Addr) (b2_9 : Addr) (k2_7 : ClassId) (h0 : Heap) (n0 : Nat) (v : Option Value) (h : Heap) (L : List Loc) : Prop := v = none ∧ Fr n0 L ∧ Keep h0 h [b2_9] ∧ Arv Z h b2_9 k2_7 .long 1 [(.long 2)] (.long 0)
set_option maxRecDepth 65536 in
set_option maxHeartbeats 40000000 in
theorem rm20_2 (l : Launch) (Z : State) (a0 : Array Value) (hw : ∀ d ∈ tables_1, d.before a0 Z = true) (ws : List Jvm.Cond) (b1 : Addr) (b2_9 : Addr) (k2_7 : ClassId) (h0 : Heap) (n0 : Nat) (Z0 : n0 ≤ h0.size) (m0 : Fld Z h0 b1 cF "changedNow" "[J" (.ref b2_9)) (m1 : Arv Z h0 b2_9 k2_7 .long 1 [(.long 0)] (.long 0)) (gg_b2_9 : n0 ≤ b2_9) :
    oM l y20 prog_8_method_26_code 2 none ws (⟨0, 0, 0, 0⟩ : Room) Z h0 #[(.ref b1), (.int 1)] (Q_rm20_2 Z b1 b2_9 k2_7 h0 n0) := by
  refine own_enter (Q := Q_rm20_2 Z b1 b2_9 k2_7 h0 n0) (plainFor_of_name pn_com_example_housemartin_housemartin_firm_FirmSlots) ?_
  intro p e s m below meth c s₁ G X0 hx hby hml hZ hown hnm hret e0 go fin
  replace hown : s.vm.findClass cF = some m.cls := hown
  replace hnm : meth.name = "markChanged" := hnm
  replace hml : c.maxLocals = 2 := hml
  rw [ef_20 m b1 _]
  have N0 := Fr.nil n0
  refine go (fun tg kg => XS.aloadN X0.here hx rfl (hb hby d20_0) rfl rfl kg) ?_
  obtain ⟨T3001, X3001, e3001, st3001⟩ := getF X0 hx hZ hown (host := "") (Or.inl (own_w hw 58 rfl)) Via.refl e0 m0 (g := (mkF m 1 #[rv b1, iv 1] [(.ref b1)])) rfl rfl (hb hby d20_1)
  refine go st3001 ?_
  refine go (fun tg kg => XS.iloadN X3001.here hx rfl (hb hby d20_4) rfl kg) ?_
  refine go (fun tg kg => XS.bipush X3001.here hx rfl (hb hby d20_5) kg) ?_
  refine go (fun tg kg => XS.iushr X3001.here hx rfl (hb hby d20_7) rfl kg) ?_
  show G (T3001.setTop (mkF m 8 #[rv b1, iv 1] [(.int (((1 : Int32).toUInt32 >>> ((6 : Int32) &&& 31).toUInt32).toInt32)), (.ref b2_9)]))
  rw [show (((1 : Int32).toUInt32 >>> ((6 : Int32) &&& 31).toUInt32).toInt32) = (0 : Int32) from by decide]
  show G (T3001.setTop (mkF m 8 #[rv b1, iv 1] [(.int 0), (.ref b2_9)]))
  refine go (fun tg kg => Jvm.Free.XT.dup2 X3001.here hx rfl (hb hby d20_8) rfl rfl rfl kg) ?_
  show G (T3001.setTop (mkF m 9 #[rv b1, iv 1] [(.int 0), (.ref b2_9), (.int 0), (.ref b2_9)]))
  obtain ⟨cl3002, Ar3002, q3002, S3002, M3002, H3002, U3002⟩ := id m1
  have hin3002 : ¬ ((0 : Int32) < 0 ∨ cl3002.slots.size ≤ ((0 : Int32)).toNatClampNeg) := inb_of S3002 ⟨by decide, by decide⟩
  refine go (fun tg kg => X3001.laload hx (j := (0 : Int32)) (v := (.long 0)) (by rw [e3001]; exact Ar3002.1) (State.isArrayOf_alike hZ.alike Ar3002.2.1) Ar3002.2.2 hin3002 (H3002.at hin3002 rfl) (g := (mkF m 9 #[rv b1, iv 1] [(.int 0), (.ref b2_9), (.int 0), (.ref b2_9)])) rfl rfl (hb hby d20_9) _ kg) ?_
  refine go (fun tg kg => XS.lconst X3001.here hx rfl (hb hby d20_10) kg) ?_
  refine go (fun tg kg => XS.iloadN X3001.here hx rfl (hb hby d20_11) rfl kg) ?_
  refine go (fun tg kg => XS.lshl X3001.here hx rfl (hb hby d20_12) rfl kg) ?_
  show G (T3001.setTop (mkF m 13 #[rv b1, iv 1] [(.long ((1 : Int64) <<< ((1 : Int32) &&& 0x3f).toInt64)), (.long 0), (.int 0), (.ref b2_9)]))
  rw [show ((1 : Int64) <<< ((1 : Int32) &&& 0x3f).toInt64) = (2 : Int64) from by decide]
  show G (T3001.setTop (mkF m 13 #[rv b1, iv 1] [(.long 2), (.long 0), (.int 0), (.ref b2_9)]))
  refine go (fun tg kg => XS.lor X3001.here hx rfl (hb hby d20_13) rfl kg) ?_
  show G (T3001.setTop (mkF m 14 #[rv b1, iv 1] [(.long ((0 : Int64) ||| (2 : Int64))), (.int 0), (.ref b2_9)]))
  rw [show ((0 : Int64) ||| (2 : Int64)) = (2 : Int64) from by decide]
  show G (T3001.setTop (mkF m 14 #[rv b1, iv 1] [(.long 2), (.int 0), (.ref b2_9)]))
  obtain ⟨cl3003, Ar3003, q3003, S3003, M3003, H3003, U3003⟩ := id m1
  have hin3003 : ¬ ((0 : Int32) < 0 ∨ cl3003.slots.size ≤ ((0 : Int32)).toNatClampNeg) := inb_of S3003 ⟨by decide, by decide⟩
  obtain ⟨T3003, h3003, X3003, e3003, W3003, st3003⟩ := stJ X3001 hx hZ e3001 Ar3003 (j := (0 : Int32)) hin3003 (g := (mkF m 14 #[rv b1, iv 1] [(.long 2), (.int 0), (.ref b2_9)])) rfl rfl (hb hby d20_14)
  refine go st3003 ?_
  have V3003 : Arv Z h3003 b2_9 k2_7 .long (1 : Int32) [(.long 2)] (.long 0) := Arv.set Ar3003 q3003 S3003 M3003 H3003 U3003 rfl W3003 0 rfl (Nat.le_of_ble_eq_true rfl)
  have N3003 := Fr.snoc X3003 N0 gg_b2_9
  have K3003 : Keep h0 h3003 [b2_9] := (Keep.refl h0 [b2_9]).wr W3003 (Or.inl (List.mem_of_getElem? (i := 0) rfl))
  have Z3003 := Nat.le_trans Z0 (Keep.of_wr W3003).1
  refine fin (none) X3003 (fun h => rfl) (fun fs hr => X3003.returnOut hx hret (hb hby d20_15) hr) (by decide) (by decide) ?_
  rw [e3003]
  exact ⟨rfl, N3003, K3003, V3003⟩
def Q_rm19_2 (Z : State) (b1 : Addr) (b2_9 : Addr) (k2_7 : ClassId) (b2_0 : Addr) (k2_0 : ClassId) (b2_1 : Addr) (k2_1 : ClassId) (h0 : Heap) (n0 : Nat) (v : Option Value) (h : Heap) (L : List Loc) : Prop := v = none ∧ Fr n0 L ∧ Keep h0 h [b2_9, b2_1] ∧ Arv Z h b2_9 k2_7 .long 1 [(.long 2)] (.long 0) ∧ Arv Z h b2_1 k2_1 .double 20 [(dl 1), (dl 2), (dl 3), (dl 0), (dl 0), (dl 4), (dl 5), (dl 6), (dl 1), (dl 0), (dl 0), (dl 0), (dl 0), (dl 0), (dl 0), (dl 0), (dl 0), (dl 0), (dl 0), (dl 0)] (dl 0) ∧ Exa Z h b2_1 "[D"
set_option maxRecDepth 65536 in
set_option maxHeartbeats 40000000 in
theorem rm19_2 (l : Launch) (Z : State) (a0 : Array Value) (hw : ∀ d ∈ tables_1, d.before a0 Z = true) (ws : List Jvm.Cond) (b1 : Addr) (b2_9 : Addr) (k2_7 : ClassId) (b2_0 : Addr) (k2_0 : ClassId) (b2_1 : Addr) (k2_1 : ClassId) (h0 : Heap) (n0 : Nat) (Z0 : n0 ≤ h0.size) (m0 : Exa Z h0 b1 cF) (m1 : Fld Z h0 b1 cF "changedNow" "[J" (.ref b2_9)) (m2 : Arv Z h0 b2_9 k2_7 .long 1 [(.long 0)] (.long 0)) (m3 : Fld Z h0 b1 cF "pages" "[[D" (.ref b2_0)) (m4 : Arv Z h0 b2_0 k2_0 (.array .double) 1 [(.ref b2_1)] .null) (m5 : Arv Z h0 b2_1 k2_1 .double 20 [(dl 1), (dl 2), (dl 3), (dl 0), (dl 0), (dl 4), (dl 5), (dl 6), (dl 0), (dl 0), (dl 0), (dl 0), (dl 0), (dl 0), (dl 0), (dl 0), (dl 0), (dl 0), (dl 0), (dl 0)] (dl 0)) (m6 : Exa Z h0 b2_1 "[D") (ne_b1_b2_9 : b1 ≠ b2_9) (ne_b2_0_b2_9 : b2_0 ≠ b2_9) (ne_b2_1_b2_9 : b2_1 ≠ b2_9) (gg_b2_9 : n0 ≤ b2_9) (gg_b2_1 : n0 ≤ b2_1) :
    oM l y19 prog_8_method_25_code 14 none ws (⟨1, 0, 0, 23⟩ : Room) Z h0 #[(.ref b1), (.int 1), (dl 1)] (Q_rm19_2 Z b1 b2_9 k2_7 b2_0 k2_0 b2_1 k2_1 h0 n0) := by
  refine own_enter (Q := Q_rm19_2 Z b1 b2_9 k2_7 b2_0 k2_0 b2_1 k2_1 h0 n0) (plainFor_of_name pn_com_example_housemartin_housemartin_firm_FirmSlots) ?_
  intro p e s m below meth c s₁ G X0 hx hby hml hZ hown hnm hret e0 go fin
  replace hown : s.vm.findClass cF = some m.cls := hown
  replace hnm : meth.name = "add" := hnm
  replace hml : c.maxLocals = 14 := hml
  rw [ef_19 m b1 _ _]
  have N0 := Fr.nil n0
  refine go (fun tg kg => XS.aloadN X0.here hx rfl (hb hby d19_0) rfl rfl kg) ?_
  refine go (fun tg kg => XS.iloadN X0.here hx rfl (hb hby d19_1) rfl kg) ?_
  obtain ⟨cq2001, q2001, q2001'⟩ := m0.cell
  obtain ⟨_, _, ⟨T2001, L2001, k2001, n2001⟩, -, X2001, ⟨Lc2001, hQ2001, l2001, y2001, z2001⟩, st2001⟩ := X0.privateBack hx (y := y20) hown (mvT hZ (own_w hw 138 rfl)) (mvT hZ (own_w hw 139 rfl)) (own_selp hZ (own_w hw 2 rfl) (own_w hw 140 rfl) (own_w hw 139 rfl) (by decide)) (Cond.privateMethod_at (mvP hZ (own_w hw 140 rfl) (args := #[]))) (mvT hZ (own_w hw 141 rfl)) (by decide) (backOf (W := 0) (rm20_2 l Z a0 hw [] b1 b2_9 k2_7 h0 n0 Z0 m1 m2 gg_b2_9) hZ (own_w hw 141 rfl) (own_w hw 3 rfl) (by decide) (by decide)) (g := (mkF m 2 #[rv b1, iv 1, dv 1, .second, .unset, .unset, .unset, .unset, .unset, .unset, .unset, .unset, .unset, .unset] [(.int 1), (.ref b1)])) rfl (by rw [hml]; rfl) (Steps.refl _) (a := b1) (by rw [e0]; exact q2001) q2001' (argsL := [(.int 1)]) (rest := []) (lenOf pd__I_V rfl) rfl (by show 2 * 0 + _ ≤ _; exact Nat.le_of_eq rfl) (hb hby d19_2) (fun _ _ => ⟨rfl, e0, (by decide : 0 + 0 ≤ _), (by decide : 0 + 0 ≤ _)⟩)
  dsimp only [Pt.U, Pt.locs, Pt.cells, Pt.slots] at X2001 l2001 y2001 z2001 st2001 hQ2001
  subst l2001 y2001 z2001
  obtain ⟨rfl, Nq2001, K2001, Gf2001_0⟩ := hQ2001
  have Kk2001 : Keep h0 T2001.heap [b2_9, b2_1] := (Keep.refl h0 [b2_9, b2_1]).trans K2001 (allS (Or.inl (List.mem_of_getElem? (i := 0) rfl)) all0)
  have Z2001 := Nat.le_trans Z0 K2001.1
  have N2001 := Fr.app N0 Nq2001
  refine go (fun tg kg => st2001.trans kg) ?_
  refine go (fun tg kg => XS.aloadN X2001.here hx rfl (hb hby d19_5) rfl rfl kg) ?_
  have Fa2002 := (m3.keep K2001 (ninS ne_b1_b2_9 nin0))
  obtain ⟨T2003, X2003, e2003, st2003⟩ := getF X2001 hx hZ hown (host := "") (Or.inl (own_w hw 17 rfl)) Via.refl rfl Fa2002 (g := (mkF m 6 #[rv b1, iv 1, dv 1, .second, .unset, .unset, .unset, .unset, .unset, .unset, .unset, .unset, .unset, .unset] [(.ref b1)])) rfl rfl (hb hby d19_6)
  refine go st2003 ?_
  show G (T2003.setTop (mkF m 9 #[rv b1, iv 1, dv 1, .second, .unset, .unset, .unset, .unset, .unset, .unset, .unset, .unset, .unset, .unset] [(.ref b2_0)]))
  refine go (fun tg kg => XS.iloadN X2003.here hx rfl (hb hby d19_9) rfl kg) ?_
  refine go (fun tg kg => XS.bipush X2003.here hx rfl (hb hby d19_10) kg) ?_
  refine go (fun tg kg => XS.iushr X2003.here hx rfl (hb hby d19_12) rfl kg) ?_
  show G (T2003.setTop (mkF m 13 #[rv b1, iv 1, dv 1, .second, .unset, .unset, .unset, .unset, .unset, .unset, .unset, .unset, .unset, .unset] [(.int (((1 : Int32).toUInt32 >>> ((24 : Int32) &&& 31).toUInt32).toInt32)), (.ref b2_0)]))
  rw [show (((1 : Int32).toUInt32 >>> ((24 : Int32) &&& 31).toUInt32).toInt32) = (0 : Int32) from by decide]
  show G (T2003.setTop (mkF m 13 #[rv b1, iv 1, dv 1, .second, .unset, .unset, .unset, .unset, .unset, .unset, .unset, .unset, .unset, .unset] [(.int 0), (.ref b2_0)]))
  have Fa2004 := (m4.keep K2001 (ninS ne_b2_0_b2_9 nin0))
  obtain ⟨cl2005, Ar2005, q2005, S2005, M2005, H2005, U2005⟩ := id Fa2004
  have hin2005 : ¬ ((0 : Int32) < 0 ∨ cl2005.slots.size ≤ ((0 : Int32)).toNatClampNeg) := inb_of S2005 ⟨by decide, by decide⟩
  refine go (fun tg kg => X2003.aaload hx (j := (0 : Int32)) (v := (.ref b2_1)) (by rw [e2003]; exact Ar2005.1) (State.isArrayOf_alike hZ.alike Ar2005.2.1) rfl Ar2005.2.2 hin2005 (H2005.at hin2005 rfl) (g := (mkF m 13 #[rv b1, iv 1, dv 1, .second, .unset, .unset, .unset, .unset, .unset, .unset, .unset, .unset, .unset, .unset] [(.int 0), (.ref b2_0)])) rfl rfl (hb hby d19_13) _ kg) ?_
  refine go (fun tg kg => XS.astore X2003.here hx rfl (hb hby d19_14) rfl rfl (l' := #[rv b1, iv 1, dv 1, .second, rv b2_1, .unset, .unset, .unset, .unset, .unset, .unset, .unset, .unset, .unset]) rfl kg) ?_
  refine go (fun tg kg => XS.iloadN X2003.here hx rfl (hb hby d19_16) rfl kg) ?_
  refine go (fun tg kg => X2003.ldcInt hx hown (mvT hZ (own_w hw 71 rfl)) (g := (mkF m 17 #[rv b1, iv 1, dv 1, .second, rv b2_1, .unset, .unset, .unset, .unset, .unset, .unset, .unset, .unset, .unset] [(.int 1)])) rfl (hb hby d19_17) _ kg) ?_
  show G (T2003.setTop (mkF m 19 #[rv b1, iv 1, dv 1, .second, rv b2_1, .unset, .unset, .unset, .unset, .unset, .unset, .unset, .unset, .unset] [(.int 16777215), (.int 1)]))
  refine go (fun tg kg => XS.iand X2003.here hx rfl (hb hby d19_19) rfl kg) ?_
  refine go (fun tg kg => XS.iconst X2003.here hx rfl (hb hby d19_20) kg) ?_
  refine go (fun tg kg => XS.imul X2003.here hx rfl (hb hby d19_21) rfl kg) ?_
  refine go (fun tg kg => XS.istore X2003.here hx rfl (hb hby d19_22) rfl (l' := #[rv b1, iv 1, dv 1, .second, rv b2_1, iv 5, .unset, .unset, .unset, .unset, .unset, .unset, .unset, .unset]) rfl kg) ?_
  refine go (fun tg kg => XS.aload X2003.here hx rfl (hb hby d19_24) rfl rfl kg) ?_
  refine go (fun tg kg => XS.iload X2003.here hx rfl (hb hby d19_26) rfl kg) ?_
  show G (T2003.setTop (mkF m 28 #[rv b1, iv 1, dv 1, .second, rv b2_1, iv 5, .unset, .unset, .unset, .unset, .unset, .unset, .unset, .unset] [(.int 5), (.ref b2_1)]))
  refine go (fun tg kg => XS.iconst X2003.here hx rfl (hb hby d19_28) kg) ?_
  refine go (fun tg kg => XS.iadd X2003.here hx rfl (hb hby d19_29) rfl kg) ?_
  have Fa2006 := (m5.keep K2001 (ninS ne_b2_1_b2_9 nin0))
  obtain ⟨cl2007, Ar2007, q2007, S2007, M2007, H2007, U2007⟩ := id Fa2006
  have hin2007 : ¬ ((8 : Int32) < 0 ∨ cl2007.slots.size ≤ ((8 : Int32)).toNatClampNeg) := inb_of S2007 ⟨by decide, by decide⟩
  refine go (fun tg kg => X2003.daload hx (j := (8 : Int32)) (v := (dl 0)) (by rw [e2003]; exact Ar2007.1) (State.isArrayOf_alike hZ.alike Ar2007.2.1) Ar2007.2.2 hin2007 (H2007.at hin2007 rfl) (g := (mkF m 30 #[rv b1, iv 1, dv 1, .second, rv b2_1, iv 5, .unset, .unset, .unset, .unset, .unset, .unset, .unset, .unset] [(.int 8), (.ref b2_1)])) rfl rfl (hb hby d19_30) _ kg) ?_
  refine go (fun tg kg => XS.dstore X2003.here hx rfl (hb hby d19_31) rfl (l' := #[rv b1, iv 1, dv 1, .second, rv b2_1, iv 5, dv 0, .second, .unset, .unset, .unset, .unset, .unset, .unset]) rfl kg) ?_
  refine go (fun tg kg => XS.dload X2003.here hx rfl (hb hby d19_33) rfl kg) ?_
  refine go (fun tg kg => XS.dloadN X2003.here hx rfl (hb hby d19_35) rfl kg) ?_
  show G (T2003.setTop (mkF m 36 #[rv b1, iv 1, dv 1, .second, rv b2_1, iv 5, dv 0, .second, .unset, .unset, .unset, .unset, .unset, .unset] [(dl 1), (dl 0)]))
  refine go (fun tg kg => XS.daddS X2003.here hx rfl (hb hby d19_36) rfl (nn_w (own_dadd (a := 0) (b := 1) (c := 1) (by decide) (by decide) (by decide))) (own_dadd (a := 0) (b := 1) (c := 1) (by decide) (by decide) (by decide)) kg) ?_
  refine go (fun tg kg => XS.dstore X2003.here hx rfl (hb hby d19_37) rfl (l' := #[rv b1, iv 1, dv 1, .second, rv b2_1, iv 5, dv 0, .second, dv 1, .second, .unset, .unset, .unset, .unset]) rfl kg) ?_
  refine go (fun tg kg => XS.aload X2003.here hx rfl (hb hby d19_39) rfl rfl kg) ?_
  refine go (fun tg kg => XS.iload X2003.here hx rfl (hb hby d19_41) rfl kg) ?_
  refine go (fun tg kg => XS.iconst X2003.here hx rfl (hb hby d19_43) kg) ?_
  refine go (fun tg kg => XS.iadd X2003.here hx rfl (hb hby d19_44) rfl kg) ?_
  show G (T2003.setTop (mkF m 45 #[rv b1, iv 1, dv 1, .second, rv b2_1, iv 5, dv 0, .second, dv 1, .second, .unset, .unset, .unset, .unset] [(.int 9), (.ref b2_1)]))
  obtain ⟨cl2008, Ar2008, q2008, S2008, M2008, H2008, U2008⟩ := id Fa2006
  have hin2008 : ¬ ((9 : Int32) < 0 ∨ cl2008.slots.size ≤ ((9 : Int32)).toNatClampNeg) := inb_of S2008 ⟨by decide, by decide⟩
  refine go (fun tg kg => X2003.daload hx (j := (9 : Int32)) (v := (dl 0)) (by rw [e2003]; exact Ar2008.1) (State.isArrayOf_alike hZ.alike Ar2008.2.1) Ar2008.2.2 hin2008 (H2008.at hin2008 rfl) (g := (mkF m 45 #[rv b1, iv 1, dv 1, .second, rv b2_1, iv 5, dv 0, .second, dv 1, .second, .unset, .unset, .unset, .unset] [(.int 9), (.ref b2_1)])) rfl rfl (hb hby d19_45) _ kg) ?_
  refine go (fun tg kg => XS.dload X2003.here hx rfl (hb hby d19_46) rfl kg) ?_
  refine go (fun tg kg => XS.dloadN X2003.here hx rfl (hb hby d19_48) rfl kg) ?_
  refine go (fun tg kg => XS.dload X2003.here hx rfl (hb hby d19_49) rfl kg) ?_
  obtain ⟨_, _, ⟨T2009, L2009, k2009, n2009⟩, -, X2009, ⟨Lc2009, hQ2009, l2009, y2009, z2009⟩, st2009⟩ := Jvm.LawKit.callS X2003 hx (y := y21) hown (mvT hZ (own_w hw 142 rfl)) (mvT hZ (own_w hw 143 rfl)) (mvT hZ (own_w hw 3 rfl)) (mvT hZ (own_w hw 144 rfl)) (by decide) (backOf (W := 2) (rm21_0 l Z a0 hw []  T2001.heap n0 Z2001 ) hZ (own_w hw 144 rfl) (own_w hw 3 rfl) (by decide) (by decide)) (g := (mkF m 51 #[rv b1, iv 1, dv 1, .second, rv b2_1, iv 5, dv 0, .second, dv 1, .second, .unset, .unset, .unset, .unset] [(dl 1), (dl 1), (dl 0), (dl 0)])) rfl (by rw [hml]; rfl) (argsL := [(dl 0), (dl 1), (dl 1)]) (rest := [(dl 0)]) (lenOf pd__DDD_D rfl) rfl (by show 2 * 0 + _ ≤ _; exact Nat.le_of_eq rfl) (hb hby d19_51) (fun _ _ => ⟨rfl, e2003, (by decide : 0 + 0 ≤ _), (by decide : 0 + 0 ≤ _)⟩)
  dsimp only [Pt.U, Pt.locs, Pt.cells, Pt.slots] at X2009 l2009 y2009 z2009 st2009 hQ2009
  subst l2009 y2009 z2009
  obtain ⟨rfl, Nq2009, e2009⟩ := hQ2009
  have N2009 := Fr.app N2001 Nq2009
  refine go st2009 ?_
  refine go (fun tg kg => XS.daddS X2009.here hx rfl (hb hby d19_54) rfl (nn_w (own_dadd (a := 0) (b := 0) (c := 0) (by decide) (by decide) (by decide))) (own_dadd (a := 0) (b := 0) (c := 0) (by decide) (by decide) (by decide)) kg) ?_
  show G (T2009.setTop (mkF m 55 #[rv b1, iv 1, dv 1, .second, rv b2_1, iv 5, dv 0, .second, dv 1, .second, .unset, .unset, .unset, .unset] [(dl 0)]))
  refine go (fun tg kg => XS.dstore X2009.here hx rfl (hb hby d19_55) rfl (l' := #[rv b1, iv 1, dv 1, .second, rv b2_1, iv 5, dv 0, .second, dv 1, .second, dv 0, .second, .unset, .unset]) rfl kg) ?_
  refine go (fun tg kg => XS.dload X2009.here hx rfl (hb hby d19_57) rfl kg) ?_
  refine go (fun tg kg => XS.dload X2009.here hx rfl (hb hby d19_59) rfl kg) ?_
  refine go (fun tg kg => XS.daddS X2009.here hx rfl (hb hby d19_61) rfl (nn_w (own_dadd (a := 1) (b := 0) (c := 1) (by decide) (by decide) (by decide))) (own_dadd (a := 1) (b := 0) (c := 1) (by decide) (by decide) (by decide)) kg) ?_
  refine go (fun tg kg => XS.dstore X2009.here hx rfl (hb hby d19_62) rfl (l' := #[rv b1, iv 1, dv 1, .second, rv b2_1, iv 5, dv 0, .second, dv 1, .second, dv 0, .second, dv 1, .second]) rfl kg) ?_
  refine go (fun tg kg => XS.aload X2009.here hx rfl (hb hby d19_64) rfl rfl kg) ?_
  show G (T2009.setTop (mkF m 66 #[rv b1, iv 1, dv 1, .second, rv b2_1, iv 5, dv 0, .second, dv 1, .second, dv 0, .second, dv 1, .second] [(.ref b2_1)]))
  refine go (fun tg kg => XS.iload X2009.here hx rfl (hb hby d19_66) rfl kg) ?_
  refine go (fun tg kg => XS.iconst X2009.here hx rfl (hb hby d19_68) kg) ?_
  refine go (fun tg kg => XS.iadd X2009.here hx rfl (hb hby d19_69) rfl kg) ?_
  refine go (fun tg kg => XS.dload X2009.here hx rfl (hb hby d19_70) rfl kg) ?_
  refine go (fun tg kg => XS.dload X2009.here hx rfl (hb hby d19_72) rfl kg) ?_
  refine go (fun tg kg => XS.dload X2009.here hx rfl (hb hby d19_74) rfl kg) ?_
  show G (T2009.setTop (mkF m 76 #[rv b1, iv 1, dv 1, .second, rv b2_1, iv 5, dv 0, .second, dv 1, .second, dv 0, .second, dv 1, .second] [(dl 1), (dl 0), (dl 1), (.int 9), (.ref b2_1)]))
  obtain ⟨_, _, ⟨T2010, L2010, k2010, n2010⟩, -, X2010, ⟨Lc2010, hQ2010, l2010, y2010, z2010⟩, st2010⟩ := Jvm.LawKit.callS X2009 hx (y := y21) hown (mvT hZ (own_w hw 142 rfl)) (mvT hZ (own_w hw 143 rfl)) (mvT hZ (own_w hw 3 rfl)) (mvT hZ (own_w hw 144 rfl)) (by decide) (backOf (W := 2) (rm21_1 l Z a0 hw []  T2001.heap n0 Z2001 ) hZ (own_w hw 144 rfl) (own_w hw 3 rfl) (by decide) (by decide)) (g := (mkF m 76 #[rv b1, iv 1, dv 1, .second, rv b2_1, iv 5, dv 0, .second, dv 1, .second, dv 0, .second, dv 1, .second] [(dl 1), (dl 0), (dl 1), (.int 9), (.ref b2_1)])) rfl (by rw [hml]; rfl) (argsL := [(dl 1), (dl 0), (dl 1)]) (rest := [(.int 9), (.ref b2_1)]) (lenOf pd__DDD_D rfl) rfl (by show 2 * 0 + _ ≤ _; exact Nat.le_of_eq rfl) (hb hby d19_76) (fun _ _ => ⟨rfl, e2009, (by decide : 0 + 0 ≤ _), (by decide : 0 + 0 ≤ _)⟩)
  dsimp only [Pt.U, Pt.locs, Pt.cells, Pt.slots] at X2010 l2010 y2010 z2010 st2010 hQ2010
  subst l2010 y2010 z2010
  obtain ⟨rfl, Nq2010, e2010⟩ := hQ2010
  have N2010 := Fr.app N2009 Nq2010
  refine go st2010 ?_
  obtain ⟨cl2011, Ar2011, q2011, S2011, M2011, H2011, U2011⟩ := id Fa2006
  have hin2011 : ¬ ((9 : Int32) < 0 ∨ cl2011.slots.size ≤ ((9 : Int32)).toNatClampNeg) := inb_of S2011 ⟨by decide, by decide⟩
  obtain ⟨T2011, h2011, X2011, e2011, W2011, st2011⟩ := stD X2010 hx hZ e2010 Ar2011 (j := (9 : Int32)) hin2011 (g := (mkF m 79 #[rv b1, iv 1, dv 1, .second, rv b2_1, iv 5, dv 0, .second, dv 1, .second, dv 0, .second, dv 1, .second] [(dl 0), (.int 9), (.ref b2_1)])) rfl rfl (hb hby d19_79)
  refine go st2011 ?_
  have V2011 : Arv Z h2011 b2_1 k2_1 .double (20 : Int32) [(dl 1), (dl 2), (dl 3), (dl 0), (dl 0), (dl 4), (dl 5), (dl 6), (dl 0), (dl 0), (dl 0), (dl 0), (dl 0), (dl 0), (dl 0), (dl 0), (dl 0), (dl 0), (dl 0), (dl 0)] (dl 0) := Arv.set Ar2011 q2011 S2011 M2011 H2011 U2011 rfl W2011 9 rfl (Nat.le_of_ble_eq_true rfl)
  have N2011 := Fr.snoc X2011 N2010 gg_b2_1
  have K2011 : Keep h0 h2011 [b2_9, b2_1] := Kk2001.wr W2011 (Or.inl (List.mem_of_getElem? (i := 1) rfl))
  have Z2011 := Nat.le_trans Z2001 (Keep.of_wr W2011).1
  refine go (fun tg kg => XS.aload X2011.here hx rfl (hb hby d19_80) rfl rfl kg) ?_
  refine go (fun tg kg => XS.iload X2011.here hx rfl (hb hby d19_82) rfl kg) ?_
  refine go (fun tg kg => XS.iconst X2011.here hx rfl (hb hby d19_84) kg) ?_
  refine go (fun tg kg => XS.iadd X2011.here hx rfl (hb hby d19_85) rfl kg) ?_
  show G (T2011.setTop (mkF m 86 #[rv b1, iv 1, dv 1, .second, rv b2_1, iv 5, dv 0, .second, dv 1, .second, dv 0, .second, dv 1, .second] [(.int 8), (.ref b2_1)]))
  refine go (fun tg kg => XS.dload X2011.here hx rfl (hb hby d19_86) rfl kg) ?_
  obtain ⟨cl2012, Ar2012, q2012, S2012, M2012, H2012, U2012⟩ := id V2011
  have hin2012 : ¬ ((8 : Int32) < 0 ∨ cl2012.slots.size ≤ ((8 : Int32)).toNatClampNeg) := inb_of S2012 ⟨by decide, by decide⟩
  obtain ⟨T2012, h2012, X2012, e2012, W2012, st2012⟩ := stD X2011 hx hZ e2011 Ar2012 (j := (8 : Int32)) hin2012 (g := (mkF m 88 #[rv b1, iv 1, dv 1, .second, rv b2_1, iv 5, dv 0, .second, dv 1, .second, dv 0, .second, dv 1, .second] [(dl 1), (.int 8), (.ref b2_1)])) rfl rfl (hb hby d19_88)
  refine go st2012 ?_
  have V2012 : Arv Z h2012 b2_1 k2_1 .double (20 : Int32) [(dl 1), (dl 2), (dl 3), (dl 0), (dl 0), (dl 4), (dl 5), (dl 6), (dl 1), (dl 0), (dl 0), (dl 0), (dl 0), (dl 0), (dl 0), (dl 0), (dl 0), (dl 0), (dl 0), (dl 0)] (dl 0) := Arv.set Ar2012 q2012 S2012 M2012 H2012 U2012 rfl W2012 8 rfl (Nat.le_of_ble_eq_true rfl)
  have N2012 := Fr.snoc X2012 N2011 gg_b2_1
  have K2012 : Keep h0 h2012 [b2_9, b2_1] := K2011.wr W2012 (Or.inl (List.mem_of_getElem? (i := 1) rfl))
  have Z2012 := Nat.le_trans Z2011 (Keep.of_wr W2012).1
  refine fin (none) X2012 (fun h => rfl) (fun fs hr => X2012.returnOut hx hret (hb hby d19_89) hr) (by decide) (by decide) ?_
  rw [e2012]
  have Fa2013 := ((Gf2001_0.other W2011 (Ne.symm ne_b2_1_b2_9)).other W2012 (Ne.symm ne_b2_1_b2_9))
  have Fa2014 := (((m6.keep K2001).wr W2011).wr W2012)
  exact ⟨rfl, N2012, K2012, Fa2013, V2012, Fa2014⟩
def Q_rm14_1 (Z : State) (b1 : Addr) (b2_4 : Addr) (b2_7 : Addr) (k2_5 : ClassId) (b2_6 : Addr) (k2_4 : ClassId) (b2_5 : Addr) (b2_8 : Addr) (b2_9 : Addr) (k2_7 : ClassId) (b2_0 : Addr) (k2_0 : ClassId) (b2_1 : Addr) (k2_1 : ClassId) (h0 : Heap) (n0 : Nat) (v : Option Value) (h : Heap) (L : List Loc) : Prop := v = none ∧ Fr n0 L ∧ Keep h0 h [b2_7, b2_6, b2_4, b2_9, b2_1] ∧ Exa Z h b2_4 cM ∧ Fld Z h b2_4 cM "heads" "[J" (.ref b2_7) ∧ Arv Z h b2_7 k2_5 .long 4 [(.long 0), (.long 4294967303), (.long 0), (.long 0)] (.long 0) ∧ Fld Z h b2_4 cM "listed" "Z" (.int 1) ∧ Fld Z h b2_4 cM "firmsOfSize" "[I" (.ref b2_6) ∧ Arv Z h b2_6 k2_4 .int 2 [(.int 0), (.int 1)] (.int 0) ∧ Fld Z h b2_4 cM "largest" "I" (.int 1) ∧ Fld Z h b2_4 cM "freeBlocks" "[I" (.ref b2_5) ∧ Fld Z h b2_4 cM "pool" "[I" (.ref b2_8) ∧ Arv Z h b2_9 k2_7 .long 1 [(.long 2)] (.long 0) ∧ Arv Z h b2_1 k2_1 .double 20 [(dl 1), (dl 2), (dl 3), (dl 0), (dl 0), (dl 4), (dl 5), (dl 6), (dl 1), (dl 0), (dl 0), (dl 0), (dl 0), (dl 0), (dl 0), (dl 0), (dl 0), (dl 0), (dl 0), (dl 0)] (dl 0) ∧ Exa Z h b2_1 "[D"
set_option maxRecDepth 65536 in
set_option maxHeartbeats 40000000 in
theorem rm14_1 (l : Launch) (Z : State) (a0 : Array Value) (hw : ∀ d ∈ tables_1, d.before a0 Z = true) (ws : List Jvm.Cond) (b1 : Addr) (b2_4 : Addr) (b2_7 : Addr) (k2_5 : ClassId) (b2_6 : Addr) (k2_4 : ClassId) (b2_5 : Addr) (b2_8 : Addr) (b2_9 : Addr) (k2_7 : ClassId) (b2_0 : Addr) (k2_0 : ClassId) (b2_1 : Addr) (k2_1 : ClassId) (h0 : Heap) (n0 : Nat) (Z0 : n0 ≤ h0.size) (m0 : Fld Z h0 b1 cF "members" "Lcom/example/housemartin/housemartin/firm/Members;" (.ref b2_4)) (m1 : Exa Z h0 b2_4 cM) (m2 : Fld Z h0 b2_4 cM "heads" "[J" (.ref b2_7)) (m3 : Arv Z h0 b2_7 k2_5 .long 4 [(.long 0), (.long 0), (.long 0), (.long 0)] (.long 0)) (m4 : Fld Z h0 b2_4 cM "listed" "Z" (.int 1)) (m5 : Fld Z h0 b2_4 cM "firmsOfSize" "[I" (.ref b2_6)) (m6 : Arv Z h0 b2_6 k2_4 .int 2 [(.int 0), (.int 0)] (.int 0)) (m7 : Fld Z h0 b2_4 cM "largest" "I" (.int 0)) (m8 : Fld Z h0 b2_4 cM "freeBlocks" "[I" (.ref b2_5)) (m9 : Fld Z h0 b2_4 cM "pool" "[I" (.ref b2_8)) (m10 : Exa Z h0 b1 cF) (m11 : Fld Z h0 b1 cF "changedNow" "[J" (.ref b2_9)) (m12 : Arv Z h0 b2_9 k2_7 .long 1 [(.long 0)] (.long 0)) (m13 : Fld Z h0 b1 cF "pages" "[[D" (.ref b2_0)) (m14 : Arv Z h0 b2_0 k2_0 (.array .double) 1 [(.ref b2_1)] .null) (m15 : Arv Z h0 b2_1 k2_1 .double 20 [(dl 1), (dl 2), (dl 3), (dl 0), (dl 0), (dl 4), (dl 5), (dl 6), (dl 0), (dl 0), (dl 0), (dl 0), (dl 0), (dl 0), (dl 0), (dl 0), (dl 0), (dl 0), (dl 0), (dl 0)] (dl 0)) (m16 : Exa Z h0 b2_1 "[D") (ne_b2_4_b2_7 : b2_4 ≠ b2_7) (ne_b2_6_b2_7 : b2_6 ≠ b2_7) (ne_b2_4_b2_6 : b2_4 ≠ b2_6) (ne_b1_b2_4 : b1 ≠ b2_4) (ne_b1_b2_6 : b1 ≠ b2_6) (ne_b1_b2_7 : b1 ≠ b2_7) (ne_b2_9_b2_4 : b2_9 ≠ b2_4) (ne_b2_9_b2_6 : b2_9 ≠ b2_6) (ne_b2_9_b2_7 : b2_9 ≠ b2_7) (ne_b2_0_b2_4 : b2_0 ≠ b2_4) (ne_b2_0_b2_6 : b2_0 ≠ b2_6) (ne_b2_0_b2_7 : b2_0 ≠ b2_7) (ne_b2_1_b2_4 : b2_1 ≠ b2_4) (ne_b2_1_b2_6 : b2_1 ≠ b2_6) (ne_b2_1_b2_7 : b2_1 ≠ b2_7) (ne_b1_b2_9 : b1 ≠ b2_9) (ne_b2_0_b2_9 : b2_0 ≠ b2_9) (ne_b2_1_b2_9 : b2_1 ≠ b2_9) (gg_b2_7 : n0 ≤ b2_7) (gg_b2_6 : n0 ≤ b2_6) (gg_b2_4 : n0 ≤ b2_4) (gg_b2_9 : n0 ≤ b2_9) (gg_b2_1 : n0 ≤ b2_1) :
    oM l y14 prog_8_method_3_code 5 none ws (⟨3, 0, 0, 48⟩ : Room) Z h0 #[(.ref b1), (.int 1), (.int 7), (dl 1)] (Q_rm14_1 Z b1 b2_4 b2_7 k2_5 b2_6 k2_4 b2_5 b2_8 b2_9 k2_7 b2_0 k2_0 b2_1 k2_1 h0 n0) := by
  refine own_enter (Q := Q_rm14_1 Z b1 b2_4 b2_7 k2_5 b2_6 k2_4 b2_5 b2_8 b2_9 k2_7 b2_0 k2_0 b2_1 k2_1 h0 n0) (plainFor_of_name pn_com_example_housemartin_housemartin_firm_FirmSlots) ?_
  intro p e s m below meth c s₁ G X0 hx hby hml hZ hown hnm hret e0 go fin
  replace hown : s.vm.findClass cF = some m.cls := hown
  replace hnm : meth.name = "join" := hnm
  replace hml : c.maxLocals = 5 := hml
  rw [ef_14 m b1 _ _ _]
  have N0 := Fr.nil n0
  refine go (fun tg kg => XS.aloadN X0.here hx rfl (hb hby d14_0) rfl rfl kg) ?_
  obtain ⟨T1001, X1001, e1001, st1001⟩ := getF X0 hx hZ hown (host := "") (Or.inl (own_w hw 56 rfl)) Via.refl e0 m0 (g := (mkF m 1 #[rv b1, iv 1, iv 7, dv 1, .second] [(.ref b1)])) rfl rfl (hb hby d14_1)
  refine go st1001 ?_
  refine go (fun tg kg => XS.iloadN X1001.here hx rfl (hb hby d14_4) rfl kg) ?_
  refine go (fun tg kg => XS.iloadN X1001.here hx rfl (hb hby d14_5) rfl kg) ?_
  obtain ⟨cq1002, kq1002, q1002a, q1002b, q1002c⟩ := isOf hZ e1001 m1
  obtain ⟨_, _, ⟨T1002, L1002, k1002, n1002⟩, -, X1002, ⟨Lc1002, hQ1002, l1002, y1002, z1002⟩, st1002⟩ := X1001.virtualBack hx (y := y15) (z := y15) hown (mvT hZ (own_w hw 113 rfl)) (mvT hZ (own_w hw 114 rfl)) (notFace_of_selects (args := #[]) (mvT hZ (own_w hw 116 rfl))) (mvT hZ (own_w hw 116 rfl)) (mvT hZ (own_w hw 115 rfl)) (by decide) (backOf (W := 0) (rm15_1 l Z a0 hw [] b2_4 b2_7 k2_5 b2_6 k2_4 b2_5 b2_8 h0 n0 Z0 m1 m2 m3 m4 m5 m6 m7 m8 m9 ne_b2_4_b2_7 ne_b2_6_b2_7 ne_b2_4_b2_6 gg_b2_7 gg_b2_6 gg_b2_4) hZ (own_w hw 117 rfl) (own_w hw 34 rfl) (by decide) (by decide)) q1002a q1002c (g := (mkF m 6 #[rv b1, iv 1, iv 7, dv 1, .second] [(.int 7), (.int 1), (.ref b2_4)])) rfl (by rw [hml]; rfl) (Steps.refl _) (argsL := [(.int 1), (.int 7)]) (rest := []) (lenOf pd__II_V rfl) rfl (by show 2 * 0 + _ ≤ _; exact Nat.le_of_eq rfl) (hb hby d14_6) (fun _ _ => ⟨rfl, e1001, (by decide : 0 + 0 ≤ _), (by decide : 0 + 0 ≤ _)⟩)
  dsimp only [Pt.U, Pt.locs, Pt.cells, Pt.slots] at X1002 l1002 y1002 z1002 st1002 hQ1002
  subst l1002 y1002 z1002
  obtain ⟨rfl, Nq1002, K1002, Gf1002_0, Gf1002_1, Gf1002_2, Gf1002_3, Gf1002_4, Gf1002_5, Gf1002_6, Gf1002_7, Gf1002_8⟩ := hQ1002
  have Kk1002 : Keep h0 T1002.heap [b2_7, b2_6, b2_4, b2_9, b2_1] := (Keep.refl h0 [b2_7, b2_6, b2_4, b2_9, b2_1]).trans K1002 (allS (Or.inl (List.mem_of_getElem? (i := 0) rfl)) (allS (Or.inl (List.mem_of_getElem? (i := 1) rfl)) (allS (Or.inl (List.mem_of_getElem? (i := 2) rfl)) all0)))
  have Z1002 := Nat.le_trans Z0 K1002.1
  have N1002 := Fr.app N0 Nq1002
  refine go (fun tg kg => st1002.trans kg) ?_
  show G (T1002.setTop (mkF m 9 #[rv b1, iv 1, iv 7, dv 1, .second] []))
  refine go (fun tg kg => XS.aloadN X1002.here hx rfl (hb hby d14_9) rfl rfl kg) ?_
  refine go (fun tg kg => XS.iloadN X1002.here hx rfl (hb hby d14_10) rfl kg) ?_
  refine go (fun tg kg => XS.dloadN X1002.here hx rfl (hb hby d14_11) rfl kg) ?_
  have Fa1003 := (m10.keep K1002)
  have Fa1004 := (m11.keep K1002 (ninS ne_b1_b2_7 (ninS ne_b1_b2_6 (ninS ne_b1_b2_4 nin0))))
  have Fa1005 := (m12.keep K1002 (ninS ne_b2_9_b2_7 (ninS ne_b2_9_b2_6 (ninS ne_b2_9_b2_4 nin0))))
  have Fa1006 := (m13.keep K1002 (ninS ne_b1_b2_7 (ninS ne_b1_b2_6 (ninS ne_b1_b2_4 nin0))))
  have Fa1007 := (m14.keep K1002 (ninS ne_b2_0_b2_7 (ninS ne_b2_0_b2_6 (ninS ne_b2_0_b2_4 nin0))))
  have Fa1008 := (m15.keep K1002 (ninS ne_b2_1_b2_7 (ninS ne_b2_1_b2_6 (ninS ne_b2_1_b2_4 nin0))))
  have Fa1009 := (m16.keep K1002)
  obtain ⟨cq1010, q1010, q1010'⟩ := Fa1003.cell
  obtain ⟨_, _, ⟨T1010, L1010, k1010, n1010⟩, -, X1010, ⟨Lc1010, hQ1010, l1010, y1010, z1010⟩, st1010⟩ := X1002.privateBack hx (y := y19) hown (mvT hZ (own_w hw 134 rfl)) (mvT hZ (own_w hw 135 rfl)) (own_selp hZ (own_w hw 2 rfl) (own_w hw 136 rfl) (own_w hw 135 rfl) (by decide)) (Cond.privateMethod_at (mvP hZ (own_w hw 136 rfl) (args := #[]))) (mvT hZ (own_w hw 137 rfl)) (by decide) (backOf (W := 0) (rm19_2 l Z a0 hw [] b1 b2_9 k2_7 b2_0 k2_0 b2_1 k2_1 T1002.heap n0 Z1002 Fa1003 Fa1004 Fa1005 Fa1006 Fa1007 Fa1008 Fa1009 ne_b1_b2_9 ne_b2_0_b2_9 ne_b2_1_b2_9 gg_b2_9 gg_b2_1) hZ (own_w hw 137 rfl) (own_w hw 3 rfl) (by decide) (by decide)) (g := (mkF m 12 #[rv b1, iv 1, iv 7, dv 1, .second] [(dl 1), (.int 1), (.ref b1)])) rfl (by rw [hml]; rfl) (Steps.refl _) (a := b1) q1010 q1010' (argsL := [(.int 1), (dl 1)]) (rest := []) (lenOf pd__ID_V rfl) rfl (by show 2 * 0 + _ ≤ _; exact Nat.le_of_eq rfl) (hb hby d14_12) (fun _ _ => ⟨rfl, rfl, (by decide : 0 + 0 ≤ _), (by decide : 0 + 0 ≤ _)⟩)
  dsimp only [Pt.U, Pt.locs, Pt.cells, Pt.slots] at X1010 l1010 y1010 z1010 st1010 hQ1010
  subst l1010 y1010 z1010
  obtain ⟨rfl, Nq1010, K1010, Gf1010_0, Gf1010_1, Gf1010_2⟩ := hQ1010
  have Kk1010 : Keep h0 T1010.heap [b2_7, b2_6, b2_4, b2_9, b2_1] := Kk1002.trans K1010 (allS (Or.inl (List.mem_of_getElem? (i := 3) rfl)) (allS (Or.inl (List.mem_of_getElem? (i := 4) rfl)) all0))
  have Z1010 := Nat.le_trans Z1002 K1010.1
  have N1010 := Fr.app N1002 Nq1010
  refine go (fun tg kg => st1010.trans kg) ?_
  refine fin (none) X1010 (fun h => rfl) (fun fs hr => X1010.returnOut hx hret (hb hby d14_15) hr) (by decide) (by decide) ?_
  have Fa1011 := (Gf1002_0.keep K1010)
  have Fa1012 := (Gf1002_1.keep K1010 (ninS (Ne.symm ne_b2_9_b2_4) (ninS (Ne.symm ne_b2_1_b2_4) nin0)))
  have Fa1013 := (Gf1002_2.keep K1010 (ninS (Ne.symm ne_b2_9_b2_7) (ninS (Ne.symm ne_b2_1_b2_7) nin0)))
  have Fa1014 := (Gf1002_3.keep K1010 (ninS (Ne.symm ne_b2_9_b2_4) (ninS (Ne.symm ne_b2_1_b2_4) nin0)))
  have Fa1015 := (Gf1002_4.keep K1010 (ninS (Ne.symm ne_b2_9_b2_4) (ninS (Ne.symm ne_b2_1_b2_4) nin0)))
  have Fa1016 := (Gf1002_5.keep K1010 (ninS (Ne.symm ne_b2_9_b2_6) (ninS (Ne.symm ne_b2_1_b2_6) nin0)))
  have Fa1017 := (Gf1002_6.keep K1010 (ninS (Ne.symm ne_b2_9_b2_4) (ninS (Ne.symm ne_b2_1_b2_4) nin0)))
  have Fa1018 := (Gf1002_7.keep K1010 (ninS (Ne.symm ne_b2_9_b2_4) (ninS (Ne.symm ne_b2_1_b2_4) nin0)))
  have Fa1019 := (Gf1002_8.keep K1010 (ninS (Ne.symm ne_b2_9_b2_4) (ninS (Ne.symm ne_b2_1_b2_4) nin0)))
  exact ⟨rfl, N1010, Kk1010, Fa1011, Fa1012, Fa1013, Fa1014, Fa1015, Fa1016, Fa1017, Fa1018, Fa1019, Gf1010_0, Gf1010_1, Gf1010_2⟩
def Q_rm16_4 (Z : State) (b2_4 : Addr) (b2_7 : Addr) (k2_5 : ClassId) (h0 : Heap) (n0 : Nat) (v : Option Value) (h : Heap) (L : List Loc) : Prop := v = some (.int 1) ∧ Fr n0 L ∧ h = h0
set_option maxRecDepth 65536 in
set_option maxHeartbeats 40000000 in
theorem rm16_4 (l : Launch) (Z : State) (a0 : Array Value) (hw : ∀ d ∈ tables_1, d.before a0 Z = true) (ws : List Jvm.Cond) (b2_4 : Addr) (b2_7 : Addr) (k2_5 : ClassId) (h0 : Heap) (n0 : Nat) (Z0 : n0 ≤ h0.size) (m0 : Fld Z h0 b2_4 cM "heads" "[J" (.ref b2_7)) (m1 : Arv Z h0 b2_7 k2_5 .long 4 [(.long 0), (.long 4294967303), (.long 0), (.long 0)] (.long 0)) :
    oM l y16 prog_10_method_2_code 2 (some .int) ws (⟨0, 0, 0, 0⟩ : Room) Z h0 #[(.ref b2_4), (.int 1)] (Q_rm16_4 Z b2_4 b2_7 k2_5 h0 n0) := by
  refine own_enter (Q := Q_rm16_4 Z b2_4 b2_7 k2_5 h0 n0) (plainFor_of_name pn_com_example_housemartin_housemartin_firm_Members) ?_
  intro p e s m below meth c s₁ G X0 hx hby hml hZ hown hnm hret e0 go fin
  replace hown : s.vm.findClass cM = some m.cls := hown
  replace hnm : meth.name = "count" := hnm
  replace hml : c.maxLocals = 2 := hml
  rw [ef_16 m b2_4 _]
  have N0 := Fr.nil n0
  refine go (fun tg kg => XS.aloadN X0.here hx rfl (hb hby d16_0) rfl rfl kg) ?_
  obtain ⟨T3001, X3001, e3001, st3001⟩ := getF X0 hx hZ hown (host := "") (Or.inl (own_w hw 45 rfl)) Via.refl e0 m0 (g := (mkF m 1 #[rv b2_4, iv 1] [(.ref b2_4)])) rfl rfl (hb hby d16_1)
  refine go st3001 ?_
  refine go (fun tg kg => XS.iloadN X3001.here hx rfl (hb hby d16_4) rfl kg) ?_
  obtain ⟨cl3002, Ar3002, q3002, S3002, M3002, H3002, U3002⟩ := id m1
  have hin3002 : ¬ ((1 : Int32) < 0 ∨ cl3002.slots.size ≤ ((1 : Int32)).toNatClampNeg) := inb_of S3002 ⟨by decide, by decide⟩
  refine go (fun tg kg => X3001.laload hx (j := (1 : Int32)) (v := (.long 4294967303)) (by rw [e3001]; exact Ar3002.1) (State.isArrayOf_alike hZ.alike Ar3002.2.1) Ar3002.2.2 hin3002 (H3002.at hin3002 rfl) (g := (mkF m 5 #[rv b2_4, iv 1] [(.int 1), (.ref b2_7)])) rfl rfl (hb hby d16_5) _ kg) ?_
  refine go (fun tg kg => XS.bipush X3001.here hx rfl (hb hby d16_6) kg) ?_
  show G (T3001.setTop (mkF m 8 #[rv b2_4, iv 1] [(.int 32), (.long 4294967303)]))
  refine go (fun tg kg => XS.lushr X3001.here hx rfl (hb hby d16_8) rfl kg) ?_
  show G (T3001.setTop (mkF m 9 #[rv b2_4, iv 1] [(.long (((4294967303 : Int64).toUInt64 >>> ((32 : Int32) &&& 0x3f).toInt64.toUInt64).toInt64))]))
  rw [show (((4294967303 : Int64).toUInt64 >>> ((32 : Int32) &&& 0x3f).toInt64.toUInt64).toInt64) = (1 : Int64) from by decide]
  show G (T3001.setTop (mkF m 9 #[rv b2_4, iv 1] [(.long 1)]))
  refine go (fun tg kg => XS.l2i X3001.here hx rfl (hb hby d16_9) rfl kg) ?_
  refine fin (some (.int 1)) X3001 (fun h => absurd h (by decide)) (fun fs hr => retOut X3001 hx hret rfl (Or.inl ⟨rfl, Or.inl rfl, _, rfl⟩) (hb hby d16_10) hr) (by decide) (by decide) ?_
  rw [e3001]
  exact ⟨rfl, N0, rfl⟩
def Q_rm24_1 (Z : State) (b2_4 : Addr) (b2_7 : Addr) (k2_5 : ClassId) (h0 : Heap) (n0 : Nat) (v : Option Value) (h : Heap) (L : List Loc) : Prop := v = some (.int 7) ∧ Fr n0 L ∧ h = h0
set_option maxRecDepth 65536 in
set_option maxHeartbeats 40000000 in
theorem rm24_1 (l : Launch) (Z : State) (a0 : Array Value) (hw : ∀ d ∈ tables_1, d.before a0 Z = true) (ws : List Jvm.Cond) (b2_4 : Addr) (b2_7 : Addr) (k2_5 : ClassId) (h0 : Heap) (n0 : Nat) (Z0 : n0 ≤ h0.size) (m0 : Fld Z h0 b2_4 cM "heads" "[J" (.ref b2_7)) (m1 : Arv Z h0 b2_7 k2_5 .long 4 [(.long 0), (.long 4294967303), (.long 0), (.long 0)] (.long 0)) :
    oM l y24 prog_10_method_17_code 2 (some .int) ws (⟨0, 0, 0, 0⟩ : Room) Z h0 #[(.ref b2_4), (.int 1)] (Q_rm24_1 Z b2_4 b2_7 k2_5 h0 n0) := by
  refine own_enter (Q := Q_rm24_1 Z b2_4 b2_7 k2_5 h0 n0) (plainFor_of_name pn_com_example_housemartin_housemartin_firm_Members) ?_
  intro p e s m below meth c s₁ G X0 hx hby hml hZ hown hnm hret e0 go fin
  replace hown : s.vm.findClass cM = some m.cls := hown
  replace hnm : meth.name = "entry" := hnm
  replace hml : c.maxLocals = 2 := hml
  rw [ef_24 m b2_4 _]
  have N0 := Fr.nil n0
  refine go (fun tg kg => XS.aloadN X0.here hx rfl (hb hby d24_0) rfl rfl kg) ?_
  obtain ⟨T3001, X3001, e3001, st3001⟩ := getF X0 hx hZ hown (host := "") (Or.inl (own_w hw 45 rfl)) Via.refl e0 m0 (g := (mkF m 1 #[rv b2_4, iv 1] [(.ref b2_4)])) rfl rfl (hb hby d24_1)
  refine go st3001 ?_
  refine go (fun tg kg => XS.iloadN X3001.here hx rfl (hb hby d24_4) rfl kg) ?_
  obtain ⟨cl3002, Ar3002, q3002, S3002, M3002, H3002, U3002⟩ := id m1
  have hin3002 : ¬ ((1 : Int32) < 0 ∨ cl3002.slots.size ≤ ((1 : Int32)).toNatClampNeg) := inb_of S3002 ⟨by decide, by decide⟩
  refine go (fun tg kg => X3001.laload hx (j := (1 : Int32)) (v := (.long 4294967303)) (by rw [e3001]; exact Ar3002.1) (State.isArrayOf_alike hZ.alike Ar3002.2.1) Ar3002.2.2 hin3002 (H3002.at hin3002 rfl) (g := (mkF m 5 #[rv b2_4, iv 1] [(.int 1), (.ref b2_7)])) rfl rfl (hb hby d24_5) _ kg) ?_
  refine go (fun tg kg => XS.l2i X3001.here hx rfl (hb hby d24_6) rfl kg) ?_
  show G (T3001.setTop (mkF m 7 #[rv b2_4, iv 1] [(.int 7)]))
  refine fin (some (.int 7)) X3001 (fun h => absurd h (by decide)) (fun fs hr => retOut X3001 hx hret rfl (Or.inl ⟨rfl, Or.inl rfl, _, rfl⟩) (hb hby d24_7) hr) (by decide) (by decide) ?_
  rw [e3001]
  exact ⟨rfl, N0, rfl⟩
def Q_rm17_3 (Z : State) (b2_4 : Addr) (b2_7 : Addr) (k2_5 : ClassId) (h0 : Heap) (n0 : Nat) (v : Option Value) (h : Heap) (L : List Loc) : Prop := v = none ∧ Fr n0 L ∧ Keep h0 h [b2_7] ∧ Arv Z h b2_7 k2_5 .long 4 [(.long 0), (.long 7), (.long 0), (.long 0)] (.long 0)
set_option maxRecDepth 65536 in
set_option maxHeartbeats 40000000 in
theorem rm17_3 (l : Launch) (Z : State) (a0 : Array Value) (hw : ∀ d ∈ tables_1, d.before a0 Z = true) (ws : List Jvm.Cond) (b2_4 : Addr) (b2_7 : Addr) (k2_5 : ClassId) (h0 : Heap) (n0 : Nat) (Z0 : n0 ≤ h0.size) (m0 : Fld Z h0 b2_4 cM "heads" "[J" (.ref b2_7)) (m1 : Arv Z h0 b2_7 k2_5 .long 4 [(.long 0), (.long 4294967303), (.long 0), (.long 0)] (.long 0)) (gg_b2_7 : n0 ≤ b2_7) :
    oM l y17 prog_10_method_18_code 4 none ws (⟨0, 0, 0, 0⟩ : Room) Z h0 #[(.ref b2_4), (.int 1), (.int 0), (.int 7)] (Q_rm17_3 Z b2_4 b2_7 k2_5 h0 n0) := by
  refine own_enter (Q := Q_rm17_3 Z b2_4 b2_7 k2_5 h0 n0) (plainFor_of_name pn_com_example_housemartin_housemartin_firm_Members) ?_
  intro p e s m below meth c s₁ G X0 hx hby hml hZ hown hnm hret e0 go fin
  replace hown : s.vm.findClass cM = some m.cls := hown
  replace hnm : meth.name = "setHead" := hnm
  replace hml : c.maxLocals = 4 := hml
  rw [ef_17 m b2_4 _ _ _]
  have N0 := Fr.nil n0
  refine go (fun tg kg => XS.aloadN X0.here hx rfl (hb hby d17_0) rfl rfl kg) ?_
  obtain ⟨T3001, X3001, e3001, st3001⟩ := getF X0 hx hZ hown (host := "") (Or.inl (own_w hw 45 rfl)) Via.refl e0 m0 (g := (mkF m 1 #[rv b2_4, iv 1, iv 0, iv 7] [(.ref b2_4)])) rfl rfl (hb hby d17_1)
  refine go st3001 ?_
  refine go (fun tg kg => XS.iloadN X3001.here hx rfl (hb hby d17_4) rfl kg) ?_
  refine go (fun tg kg => XS.iloadN X3001.here hx rfl (hb hby d17_5) rfl kg) ?_
  refine go (fun tg kg => XS.i2l X3001.here hx rfl (hb hby d17_6) rfl kg) ?_
  show G (T3001.setTop (mkF m 7 #[rv b2_4, iv 1, iv 0, iv 7] [(.long 0), (.int 1), (.ref b2_7)]))
  refine go (fun tg kg => XS.bipush X3001.here hx rfl (hb hby d17_7) kg) ?_
  refine go (fun tg kg => XS.lshl X3001.here hx rfl (hb hby d17_9) rfl kg) ?_
  show G (T3001.setTop (mkF m 10 #[rv b2_4, iv 1, iv 0, iv 7] [(.long ((0 : Int64) <<< ((32 : Int32) &&& 0x3f).toInt64)), (.int 1), (.ref b2_7)]))
  rw [show ((0 : Int64) <<< ((32 : Int32) &&& 0x3f).toInt64) = (0 : Int64) from by decide]
  show G (T3001.setTop (mkF m 10 #[rv b2_4, iv 1, iv 0, iv 7] [(.long 0), (.int 1), (.ref b2_7)]))
  refine go (fun tg kg => XS.iloadN X3001.here hx rfl (hb hby d17_10) rfl kg) ?_
  refine go (fun tg kg => XS.i2l X3001.here hx rfl (hb hby d17_11) rfl kg) ?_
  refine go (fun tg kg => X3001.ldc2Long hx hown (mvT hZ (own_w hw 127 rfl)) (g := (mkF m 12 #[rv b2_4, iv 1, iv 0, iv 7] [(.long 7), (.long 0), (.int 1), (.ref b2_7)])) rfl (hb hby d17_12) _ kg) ?_
  refine go (fun tg kg => XS.land X3001.here hx rfl (hb hby d17_15) rfl kg) ?_
  refine go (fun tg kg => XS.lor X3001.here hx rfl (hb hby d17_16) rfl kg) ?_
  show G (T3001.setTop (mkF m 17 #[rv b2_4, iv 1, iv 0, iv 7] [(.long ((0 : Int64) ||| (7 : Int64))), (.int 1), (.ref b2_7)]))
  rw [show ((0 : Int64) ||| (7 : Int64)) = (7 : Int64) from by decide]
  show G (T3001.setTop (mkF m 17 #[rv b2_4, iv 1, iv 0, iv 7] [(.long 7), (.int 1), (.ref b2_7)]))
  obtain ⟨cl3002, Ar3002, q3002, S3002, M3002, H3002, U3002⟩ := id m1
  have hin3002 : ¬ ((1 : Int32) < 0 ∨ cl3002.slots.size ≤ ((1 : Int32)).toNatClampNeg) := inb_of S3002 ⟨by decide, by decide⟩
  obtain ⟨T3002, h3002, X3002, e3002, W3002, st3002⟩ := stJ X3001 hx hZ e3001 Ar3002 (j := (1 : Int32)) hin3002 (g := (mkF m 17 #[rv b2_4, iv 1, iv 0, iv 7] [(.long 7), (.int 1), (.ref b2_7)])) rfl rfl (hb hby d17_17)
  refine go st3002 ?_
  have V3002 : Arv Z h3002 b2_7 k2_5 .long (4 : Int32) [(.long 0), (.long 7), (.long 0), (.long 0)] (.long 0) := Arv.set Ar3002 q3002 S3002 M3002 H3002 U3002 rfl W3002 1 rfl (Nat.le_of_ble_eq_true rfl)
  have N3002 := Fr.snoc X3002 N0 gg_b2_7
  have K3002 : Keep h0 h3002 [b2_7] := (Keep.refl h0 [b2_7]).wr W3002 (Or.inl (List.mem_of_getElem? (i := 0) rfl))
  have Z3002 := Nat.le_trans Z0 (Keep.of_wr W3002).1
  show G (T3002.setTop (mkF m 18 #[rv b2_4, iv 1, iv 0, iv 7] []))
  refine fin (none) X3002 (fun h => rfl) (fun fs hr => X3002.returnOut hx hret (hb hby d17_18) hr) (by decide) (by decide) ?_
  rw [e3002]
  exact ⟨rfl, N3002, K3002, V3002⟩
def Q_rm23_1 (Z : State) (b2_4 : Addr) (b2_7 : Addr) (k2_5 : ClassId) (b2_6 : Addr) (k2_4 : ClassId) (b2_5 : Addr) (b2_8 : Addr) (h0 : Heap) (n0 : Nat) (v : Option Value) (h : Heap) (L : List Loc) : Prop := v = none ∧ Fr n0 L ∧ Keep h0 h [b2_7, b2_6, b2_4] ∧ Exa Z h b2_4 cM ∧ Fld Z h b2_4 cM "heads" "[J" (.ref b2_7) ∧ Arv Z h b2_7 k2_5 .long 4 [(.long 0), (.long 7), (.long 0), (.long 0)] (.long 0) ∧ Fld Z h b2_4 cM "listed" "Z" (.int 1) ∧ Fld Z h b2_4 cM "firmsOfSize" "[I" (.ref b2_6) ∧ Arv Z h b2_6 k2_4 .int 2 [(.int 0), (.int 0)] (.int 0) ∧ Fld Z h b2_4 cM "largest" "I" (.int 0) ∧ Fld Z h b2_4 cM "freeBlocks" "[I" (.ref b2_5) ∧ Fld Z h b2_4 cM "pool" "[I" (.ref b2_8)
set_option maxRecDepth 65536 in
set_option maxHeartbeats 40000000 in
theorem rm23_1 (l : Launch) (Z : State) (a0 : Array Value) (hw : ∀ d ∈ tables_1, d.before a0 Z = true) (ws : List Jvm.Cond) (b2_4 : Addr) (b2_7 : Addr) (k2_5 : ClassId) (b2_6 : Addr) (k2_4 : ClassId) (b2_5 : Addr) (b2_8 : Addr) (h0 : Heap) (n0 : Nat) (Z0 : n0 ≤ h0.size) (m0 : Exa Z h0 b2_4 cM) (m1 : Fld Z h0 b2_4 cM "heads" "[J" (.ref b2_7)) (m2 : Arv Z h0 b2_7 k2_5 .long 4 [(.long 0), (.long 4294967303), (.long 0), (.long 0)] (.long 0)) (m3 : Fld Z h0 b2_4 cM "listed" "Z" (.int 1)) (m4 : Fld Z h0 b2_4 cM "firmsOfSize" "[I" (.ref b2_6)) (m5 : Arv Z h0 b2_6 k2_4 .int 2 [(.int 0), (.int 1)] (.int 0)) (m6 : Fld Z h0 b2_4 cM "largest" "I" (.int 1)) (m7 : Fld Z h0 b2_4 cM "freeBlocks" "[I" (.ref b2_5)) (m8 : Fld Z h0 b2_4 cM "pool" "[I" (.ref b2_8)) (ne_b2_4_b2_7 : b2_4 ≠ b2_7) (ne_b2_6_b2_7 : b2_6 ≠ b2_7) (ne_b2_4_b2_6 : b2_4 ≠ b2_6) (gg_b2_7 : n0 ≤ b2_7) (gg_b2_6 : n0 ≤ b2_6) (gg_b2_4 : n0 ≤ b2_4) :
    oM l y23 prog_10_method_8_code 10 none ws (⟨2, 0, 0, 28⟩ : Room) Z h0 #[(.ref b2_4), (.int 1), (.int 7)] (Q_rm23_1 Z b2_4 b2_7 k2_5 b2_6 k2_4 b2_5 b2_8 h0 n0) := by
  refine own_enter (Q := Q_rm23_1 Z b2_4 b2_7 k2_5 b2_6 k2_4 b2_5 b2_8 h0 n0) (plainFor_of_name pn_com_example_housemartin_housemartin_firm_Members) ?_
  intro p e s m below meth c s₁ G X0 hx hby hml hZ hown hnm hret e0 go fin
  replace hown : s.vm.findClass cM = some m.cls := hown
  replace hnm : meth.name = "remove" := hnm
  replace hml : c.maxLocals = 10 := hml
  rw [ef_23 m b2_4 _ _]
  have N0 := Fr.nil n0
  refine go (fun tg kg => XS.aloadN X0.here hx rfl (hb hby d23_0) rfl rfl kg) ?_
  refine go (fun tg kg => XS.iloadN X0.here hx rfl (hb hby d23_1) rfl kg) ?_
  obtain ⟨cq2001, kq2001, q2001a, q2001b, q2001c⟩ := isOf hZ e0 m0
  obtain ⟨_, _, ⟨T2001, L2001, k2001, n2001⟩, -, X2001, ⟨Lc2001, hQ2001, l2001, y2001, z2001⟩, st2001⟩ := X0.virtualBack hx (y := y16) (z := y16) hown (mvT hZ (own_w hw 118 rfl)) (mvT hZ (own_w hw 119 rfl)) (notFace_of_selects (args := #[]) (mvT hZ (own_w hw 121 rfl))) (mvT hZ (own_w hw 121 rfl)) (mvT hZ (own_w hw 120 rfl)) (by decide) (backOf (W := 0) (rm16_4 l Z a0 hw [] b2_4 b2_7 k2_5 h0 n0 Z0 m1 m2) hZ (own_w hw 122 rfl) (own_w hw 34 rfl) (by decide) (by decide)) q2001a q2001c (g := (mkF m 2 #[rv b2_4, iv 1, iv 7, .unset, .unset, .unset, .unset, .unset, .unset, .unset] [(.int 1), (.ref b2_4)])) rfl (by rw [hml]; rfl) (Steps.refl _) (argsL := [(.int 1)]) (rest := []) (lenOf pd__I_I rfl) rfl (by show 2 * 0 + _ ≤ _; exact Nat.le_of_eq rfl) (hb hby d23_2) (fun _ _ => ⟨rfl, e0, (by decide : 0 + 0 ≤ _), (by decide : 0 + 0 ≤ _)⟩)
  dsimp only [Pt.U, Pt.locs, Pt.cells, Pt.slots] at X2001 l2001 y2001 z2001 st2001 hQ2001
  subst l2001 y2001 z2001
  obtain ⟨rfl, Nq2001, e2001⟩ := hQ2001
  have N2001 := Fr.app N0 Nq2001
  refine go (fun tg kg => st2001.trans kg) ?_
  refine go (fun tg kg => XS.istoreN X2001.here hx rfl (hb hby d23_5) rfl (l' := #[rv b2_4, iv 1, iv 7, iv 1, .unset, .unset, .unset, .unset, .unset, .unset]) rfl kg) ?_
  refine go (fun tg kg => XS.aloadN X2001.here hx rfl (hb hby d23_6) rfl rfl kg) ?_
  show G (T2001.setTop (mkF m 7 #[rv b2_4, iv 1, iv 7, iv 1, .unset, .unset, .unset, .unset, .unset, .unset] [(.ref b2_4)]))
  refine go (fun tg kg => XS.iloadN X2001.here hx rfl (hb hby d23_7) rfl kg) ?_
  obtain ⟨cq2002, q2002, q2002'⟩ := m0.cell
  obtain ⟨_, _, ⟨T2002, L2002, k2002, n2002⟩, -, X2002, ⟨Lc2002, hQ2002, l2002, y2002, z2002⟩, st2002⟩ := X2001.privateBack hx (y := y24) hown (mvT hZ (own_w hw 155 rfl)) (mvT hZ (own_w hw 156 rfl)) (own_selp hZ (own_w hw 33 rfl) (own_w hw 157 rfl) (own_w hw 156 rfl) (by decide)) (Cond.privateMethod_at (mvP hZ (own_w hw 157 rfl) (args := #[]))) (mvT hZ (own_w hw 158 rfl)) (by decide) (backOf (W := 0) (rm24_1 l Z a0 hw [] b2_4 b2_7 k2_5 h0 n0 Z0 m1 m2) hZ (own_w hw 158 rfl) (own_w hw 34 rfl) (by decide) (by decide)) (g := (mkF m 8 #[rv b2_4, iv 1, iv 7, iv 1, .unset, .unset, .unset, .unset, .unset, .unset] [(.int 1), (.ref b2_4)])) rfl (by rw [hml]; rfl) (Steps.refl _) (a := b2_4) (by rw [e2001]; exact q2002) q2002' (argsL := [(.int 1)]) (rest := []) (lenOf pd__I_I rfl) rfl (by show 2 * 0 + _ ≤ _; exact Nat.le_of_eq rfl) (hb hby d23_8) (fun _ _ => ⟨rfl, e2001, (by decide : 0 + 0 ≤ _), (by decide : 0 + 0 ≤ _)⟩)
  dsimp only [Pt.U, Pt.locs, Pt.cells, Pt.slots] at X2002 l2002 y2002 z2002 st2002 hQ2002
  subst l2002 y2002 z2002
  obtain ⟨rfl, Nq2002, e2002⟩ := hQ2002
  have N2002 := Fr.app N2001 Nq2002
  refine go (fun tg kg => st2002.trans kg) ?_
  refine go (fun tg kg => XS.istore X2002.here hx rfl (hb hby d23_11) rfl (l' := #[rv b2_4, iv 1, iv 7, iv 1, iv 7, .unset, .unset, .unset, .unset, .unset]) rfl kg) ?_
  refine go (fun tg kg => XS.aloadN X2002.here hx rfl (hb hby d23_13) rfl rfl kg) ?_
  obtain ⟨T2003, X2003, e2003, st2003⟩ := getF X2002 hx hZ hown (host := "") (Or.inl (own_w hw 43 rfl)) Via.refl e2002 m3 (g := (mkF m 14 #[rv b2_4, iv 1, iv 7, iv 1, iv 7, .unset, .unset, .unset, .unset, .unset] [(.ref b2_4)])) rfl rfl (hb hby d23_14)
  refine go st2003 ?_
  refine go (fun tg kg => XS.ifYes X2003.here hx rfl (pc0 := 17) (pc' := 26) rfl (hb hby d23_17) rfl ((if0 _ _).trans (feq (by decide)).2) (by decide) (by decide) kg) ?_
  show G (T2003.setTop (mkF m 26 #[rv b2_4, iv 1, iv 7, iv 1, iv 7, .unset, .unset, .unset, .unset, .unset] []))
  refine go (fun tg kg => XS.iloadN X2003.here hx rfl (hb hby d23_26) rfl kg) ?_
  refine go (fun tg kg => XS.iconst X2003.here hx rfl (hb hby d23_27) kg) ?_
  refine go (fun tg kg => XS.icmpYes X2003.here hx rfl (pc0 := 28) (pc' := 112) rfl (hb hby d23_28) rfl (feq (by decide)).2 (by decide) (by decide) kg) ?_
  refine go (fun tg kg => XS.iloadN X2003.here hx rfl (hb hby d23_112) rfl kg) ?_
  refine go (fun tg kg => XS.iconst X2003.here hx rfl (hb hby d23_113) kg) ?_
  refine go (fun tg kg => XS.icmpYes X2003.here hx rfl (pc0 := 114) (pc' := 274) rfl (hb hby d23_114) rfl (flt (by decide)).2.2.2 (by decide) (by decide) kg) ?_
  show G (T2003.setTop (mkF m 274 #[rv b2_4, iv 1, iv 7, iv 1, iv 7, .unset, .unset, .unset, .unset, .unset] []))
  refine go (fun tg kg => XS.aloadN X2003.here hx rfl (hb hby d23_274) rfl rfl kg) ?_
  refine go (fun tg kg => XS.iloadN X2003.here hx rfl (hb hby d23_275) rfl kg) ?_
  refine go (fun tg kg => XS.iloadN X2003.here hx rfl (hb hby d23_276) rfl kg) ?_
  refine go (fun tg kg => XS.iconst X2003.here hx rfl (hb hby d23_277) kg) ?_
  refine go (fun tg kg => XS.isub X2003.here hx rfl (hb hby d23_278) rfl kg) ?_
  refine go (fun tg kg => XS.iload X2003.here hx rfl (hb hby d23_279) rfl kg) ?_
  show G (T2003.setTop (mkF m 281 #[rv b2_4, iv 1, iv 7, iv 1, iv 7, .unset, .unset, .unset, .unset, .unset] [(.int 7), (.int 0), (.int 1), (.ref b2_4)]))
  obtain ⟨cq2004, q2004, q2004'⟩ := m0.cell
  obtain ⟨_, _, ⟨T2004, L2004, k2004, n2004⟩, -, X2004, ⟨Lc2004, hQ2004, l2004, y2004, z2004⟩, st2004⟩ := X2003.privateBack hx (y := y17) hown (mvT hZ (own_w hw 123 rfl)) (mvT hZ (own_w hw 124 rfl)) (own_selp hZ (own_w hw 33 rfl) (own_w hw 125 rfl) (own_w hw 124 rfl) (by decide)) (Cond.privateMethod_at (mvP hZ (own_w hw 125 rfl) (args := #[]))) (mvT hZ (own_w hw 126 rfl)) (by decide) (backOf (W := 0) (rm17_3 l Z a0 hw [] b2_4 b2_7 k2_5 h0 n0 Z0 m1 m2 gg_b2_7) hZ (own_w hw 126 rfl) (own_w hw 34 rfl) (by decide) (by decide)) (g := (mkF m 281 #[rv b2_4, iv 1, iv 7, iv 1, iv 7, .unset, .unset, .unset, .unset, .unset] [(.int 7), (.int 0), (.int 1), (.ref b2_4)])) rfl (by rw [hml]; rfl) (Steps.refl _) (a := b2_4) (by rw [e2003]; exact q2004) q2004' (argsL := [(.int 1), (.int 0), (.int 7)]) (rest := []) (lenOf pd__III_V rfl) rfl (by show 2 * 0 + _ ≤ _; exact Nat.le_of_eq rfl) (hb hby d23_281) (fun _ _ => ⟨rfl, e2003, (by decide : 0 + 0 ≤ _), (by decide : 0 + 0 ≤ _)⟩)
  dsimp only [Pt.U, Pt.locs, Pt.cells, Pt.slots] at X2004 l2004 y2004 z2004 st2004 hQ2004
  subst l2004 y2004 z2004
  obtain ⟨rfl, Nq2004, K2004, Gf2004_0⟩ := hQ2004
  have Kk2004 : Keep h0 T2004.heap [b2_7, b2_6, b2_4] := (Keep.refl h0 [b2_7, b2_6, b2_4]).trans K2004 (allS (Or.inl (List.mem_of_getElem? (i := 0) rfl)) all0)
  have Z2004 := Nat.le_trans Z0 K2004.1
  have N2004 := Fr.app N2002 Nq2004
  refine go (fun tg kg => st2004.trans kg) ?_
  refine go (fun tg kg => XS.aloadN X2004.here hx rfl (hb hby d23_284) rfl rfl kg) ?_
  refine go (fun tg kg => XS.iloadN X2004.here hx rfl (hb hby d23_285) rfl kg) ?_
  refine go (fun tg kg => XS.iloadN X2004.here hx rfl (hb hby d23_286) rfl kg) ?_
  refine go (fun tg kg => XS.iconst X2004.here hx rfl (hb hby d23_287) kg) ?_
  refine go (fun tg kg => XS.isub X2004.here hx rfl (hb hby d23_288) rfl kg) ?_
  show G (T2004.setTop (mkF m 289 #[rv b2_4, iv 1, iv 7, iv 1, iv 7, .unset, .unset, .unset, .unset, .unset] [(.int 0), (.int 1), (.ref b2_4)]))
  have Fa2005 := (m0.keep K2004)
  have Fa2006 := (m4.keep K2004 (ninS ne_b2_4_b2_7 nin0))
  have Fa2007 := (m5.keep K2004 (ninS ne_b2_6_b2_7 nin0))
  have Fa2008 := (m6.keep K2004 (ninS ne_b2_4_b2_7 nin0))
  have Fa2009 := (m1.keep K2004 (ninS ne_b2_4_b2_7 nin0))
  have Fa2010 := (m3.keep K2004 (ninS ne_b2_4_b2_7 nin0))
  have Fa2011 := (m7.keep K2004 (ninS ne_b2_4_b2_7 nin0))
  have Fa2012 := (m8.keep K2004 (ninS ne_b2_4_b2_7 nin0))
  obtain ⟨cq2013, q2013, q2013'⟩ := Fa2005.cell
  obtain ⟨_, _, ⟨T2013, L2013, k2013, n2013⟩, -, X2013, ⟨Lc2013, hQ2013, l2013, y2013, z2013⟩, st2013⟩ := X2004.privateBack hx (y := y18) hown (mvT hZ (own_w hw 128 rfl)) (mvT hZ (own_w hw 129 rfl)) (own_selp hZ (own_w hw 33 rfl) (own_w hw 130 rfl) (own_w hw 129 rfl) (by decide)) (Cond.privateMethod_at (mvP hZ (own_w hw 130 rfl) (args := #[]))) (mvT hZ (own_w hw 131 rfl)) (by decide) (backOf (W := 0) (rm18_1 l Z a0 hw [] b2_4 b2_6 k2_4 b2_7 b2_5 b2_8 T2004.heap n0 Z2004 Fa2006 Fa2007 Fa2008 Fa2005 Fa2009 Fa2010 Fa2011 Fa2012 ne_b2_4_b2_6 gg_b2_6 gg_b2_4) hZ (own_w hw 131 rfl) (own_w hw 34 rfl) (by decide) (by decide)) (g := (mkF m 289 #[rv b2_4, iv 1, iv 7, iv 1, iv 7, .unset, .unset, .unset, .unset, .unset] [(.int 0), (.int 1), (.ref b2_4)])) rfl (by rw [hml]; rfl) (Steps.refl _) (a := b2_4) q2013 q2013' (argsL := [(.int 1), (.int 0)]) (rest := []) (lenOf pd__II_V rfl) rfl (by show 2 * 0 + _ ≤ _; exact Nat.le_of_eq rfl) (hb hby d23_289) (fun _ _ => ⟨rfl, rfl, (by decide : 0 + 0 ≤ _), (by decide : 0 + 0 ≤ _)⟩)
  dsimp only [Pt.U, Pt.locs, Pt.cells, Pt.slots] at X2013 l2013 y2013 z2013 st2013 hQ2013
  subst l2013 y2013 z2013
  obtain ⟨rfl, Nq2013, K2013, Gf2013_0, Gf2013_1, Gf2013_2, Gf2013_3, Gf2013_4, Gf2013_5, Gf2013_6, Gf2013_7⟩ := hQ2013
  have Kk2013 : Keep h0 T2013.heap [b2_7, b2_6, b2_4] := Kk2004.trans K2013 (allS (Or.inl (List.mem_of_getElem? (i := 1) rfl)) (allS (Or.inl (List.mem_of_getElem? (i := 2) rfl)) all0))
  have Z2013 := Nat.le_trans Z2004 K2013.1
  have N2013 := Fr.app N2004 Nq2013
  refine go (fun tg kg => st2013.trans kg) ?_
  refine fin (none) X2013 (fun h => rfl) (fun fs hr => X2013.returnOut hx hret (hb hby d23_292) hr) (by decide) (by decide) ?_
  have Fa2014 := (Gf2004_0.keep K2013 (ninS (Ne.symm ne_b2_6_b2_7) (ninS (Ne.symm ne_b2_4_b2_7) nin0)))
  exact ⟨rfl, N2013, Kk2013, Gf2013_3, Gf2013_4, Fa2014, Gf2013_5, Gf2013_0, Gf2013_1, Gf2013_2, Gf2013_6, Gf2013_7⟩
def Q_rm20_3 (Z : State) (b1 : Addr) (b2_9 : Addr) (k2_7 : ClassId) (h0 : Heap) (n0 : Nat) (v : Option Value) (h : Heap) (L : List Loc) : Prop := v = none ∧ Fr n0 L ∧ Keep h0 h [b2_9] ∧ Arv Z h b2_9 k2_7 .long 1 [(.long 2)] (.long 0)
set_option maxRecDepth 65536 in
set_option maxHeartbeats 40000000 in
theorem rm20_3 (l : Launch) (Z : State) (a0 : Array Value) (hw : ∀ d ∈ tables_1, d.before a0 Z = true) (ws : List Jvm.Cond) (b1 : Addr) (b2_9 : Addr) (k2_7 : ClassId) (h0 : Heap) (n0 : Nat) (Z0 : n0 ≤ h0.size) (m0 : Fld Z h0 b1 cF "changedNow" "[J" (.ref b2_9)) (m1 : Arv Z h0 b2_9 k2_7 .long 1 [(.long 2)] (.long 0)) (gg_b2_9 : n0 ≤ b2_9) :
    oM l y20 prog_8_method_26_code 2 none ws (⟨0, 0, 0, 0⟩ : Room) Z h0 #[(.ref b1), (.int 1)] (Q_rm20_3 Z b1 b2_9 k2_7 h0 n0) := by
  refine own_enter (Q := Q_rm20_3 Z b1 b2_9 k2_7 h0 n0) (plainFor_of_name pn_com_example_housemartin_housemartin_firm_FirmSlots) ?_
  intro p e s m below meth c s₁ G X0 hx hby hml hZ hown hnm hret e0 go fin
  replace hown : s.vm.findClass cF = some m.cls := hown
  replace hnm : meth.name = "markChanged" := hnm
  replace hml : c.maxLocals = 2 := hml
  rw [ef_20 m b1 _]
  have N0 := Fr.nil n0
  refine go (fun tg kg => XS.aloadN X0.here hx rfl (hb hby d20_0) rfl rfl kg) ?_
  obtain ⟨T3001, X3001, e3001, st3001⟩ := getF X0 hx hZ hown (host := "") (Or.inl (own_w hw 58 rfl)) Via.refl e0 m0 (g := (mkF m 1 #[rv b1, iv 1] [(.ref b1)])) rfl rfl (hb hby d20_1)
  refine go st3001 ?_
  refine go (fun tg kg => XS.iloadN X3001.here hx rfl (hb hby d20_4) rfl kg) ?_
  refine go (fun tg kg => XS.bipush X3001.here hx rfl (hb hby d20_5) kg) ?_
  refine go (fun tg kg => XS.iushr X3001.here hx rfl (hb hby d20_7) rfl kg) ?_
  show G (T3001.setTop (mkF m 8 #[rv b1, iv 1] [(.int (((1 : Int32).toUInt32 >>> ((6 : Int32) &&& 31).toUInt32).toInt32)), (.ref b2_9)]))
  rw [show (((1 : Int32).toUInt32 >>> ((6 : Int32) &&& 31).toUInt32).toInt32) = (0 : Int32) from by decide]
  show G (T3001.setTop (mkF m 8 #[rv b1, iv 1] [(.int 0), (.ref b2_9)]))
  refine go (fun tg kg => Jvm.Free.XT.dup2 X3001.here hx rfl (hb hby d20_8) rfl rfl rfl kg) ?_
  show G (T3001.setTop (mkF m 9 #[rv b1, iv 1] [(.int 0), (.ref b2_9), (.int 0), (.ref b2_9)]))
  obtain ⟨cl3002, Ar3002, q3002, S3002, M3002, H3002, U3002⟩ := id m1
  have hin3002 : ¬ ((0 : Int32) < 0 ∨ cl3002.slots.size ≤ ((0 : Int32)).toNatClampNeg) := inb_of S3002 ⟨by decide, by decide⟩
  refine go (fun tg kg => X3001.laload hx (j := (0 : Int32)) (v := (.long 2)) (by rw [e3001]; exact Ar3002.1) (State.isArrayOf_alike hZ.alike Ar3002.2.1) Ar3002.2.2 hin3002 (H3002.at hin3002 rfl) (g := (mkF m 9 #[rv b1, iv 1] [(.int 0), (.ref b2_9), (.int 0), (.ref b2_9)])) rfl rfl (hb hby d20_9) _ kg) ?_
  refine go (fun tg kg => XS.lconst X3001.here hx rfl (hb hby d20_10) kg) ?_
  refine go (fun tg kg => XS.iloadN X3001.here hx rfl (hb hby d20_11) rfl kg) ?_
  refine go (fun tg kg => XS.lshl X3001.here hx rfl (hb hby d20_12) rfl kg) ?_
  show G (T3001.setTop (mkF m 13 #[rv b1, iv 1] [(.long ((1 : Int64) <<< ((1 : Int32) &&& 0x3f).toInt64)), (.long 2), (.int 0), (.ref b2_9)]))
  rw [show ((1 : Int64) <<< ((1 : Int32) &&& 0x3f).toInt64) = (2 : Int64) from by decide]
  show G (T3001.setTop (mkF m 13 #[rv b1, iv 1] [(.long 2), (.long 2), (.int 0), (.ref b2_9)]))
  refine go (fun tg kg => XS.lor X3001.here hx rfl (hb hby d20_13) rfl kg) ?_
  show G (T3001.setTop (mkF m 14 #[rv b1, iv 1] [(.long ((2 : Int64) ||| (2 : Int64))), (.int 0), (.ref b2_9)]))
  rw [show ((2 : Int64) ||| (2 : Int64)) = (2 : Int64) from by decide]
  show G (T3001.setTop (mkF m 14 #[rv b1, iv 1] [(.long 2), (.int 0), (.ref b2_9)]))
  obtain ⟨cl3003, Ar3003, q3003, S3003, M3003, H3003, U3003⟩ := id m1
  have hin3003 : ¬ ((0 : Int32) < 0 ∨ cl3003.slots.size ≤ ((0 : Int32)).toNatClampNeg) := inb_of S3003 ⟨by decide, by decide⟩
  obtain ⟨T3003, h3003, X3003, e3003, W3003, st3003⟩ := stJ X3001 hx hZ e3001 Ar3003 (j := (0 : Int32)) hin3003 (g := (mkF m 14 #[rv b1, iv 1] [(.long 2), (.int 0), (.ref b2_9)])) rfl rfl (hb hby d20_14)
  refine go st3003 ?_
  have V3003 : Arv Z h3003 b2_9 k2_7 .long (1 : Int32) [(.long 2)] (.long 0) := Arv.set Ar3003 q3003 S3003 M3003 H3003 U3003 rfl W3003 0 rfl (Nat.le_of_ble_eq_true rfl)
  have N3003 := Fr.snoc X3003 N0 gg_b2_9
  have K3003 : Keep h0 h3003 [b2_9] := (Keep.refl h0 [b2_9]).wr W3003 (Or.inl (List.mem_of_getElem? (i := 0) rfl))
  have Z3003 := Nat.le_trans Z0 (Keep.of_wr W3003).1
  refine fin (none) X3003 (fun h => rfl) (fun fs hr => X3003.returnOut hx hret (hb hby d20_15) hr) (by decide) (by decide) ?_
  rw [e3003]
  exact ⟨rfl, N3003, K3003, V3003⟩
def Q_rm19_3 (Z : State) (b1 : Addr) (b2_9 : Addr) (k2_7 : ClassId) (b2_0 : Addr) (k2_0 : ClassId) (b2_1 : Addr) (k2_1 : ClassId) (h0 : Heap) (n0 : Nat) (v : Option Value) (h : Heap) (L : List Loc) : Prop := v = none ∧ Fr n0 L ∧ Keep h0 h [b2_9, b2_1] ∧ Arv Z h b2_9 k2_7 .long 1 [(.long 2)] (.long 0) ∧ Arv Z h b2_1 k2_1 .double 20 [(dl 1), (dl 2), (dl 3), (dl 0), (dl 0), (dl 4), (dl 5), (dl 6), (dl 0), (dl 0), (dl 0), (dl 0), (dl 0), (dl 0), (dl 0), (dl 0), (dl 0), (dl 0), (dl 0), (dl 0)] (dl 0) ∧ Exa Z h b2_1 "[D"
set_option maxRecDepth 65536 in
set_option maxHeartbeats 40000000 in
theorem rm19_3 (l : Launch) (Z : State) (a0 : Array Value) (hw : ∀ d ∈ tables_1, d.before a0 Z = true) (ws : List Jvm.Cond) (b1 : Addr) (b2_9 : Addr) (k2_7 : ClassId) (b2_0 : Addr) (k2_0 : ClassId) (b2_1 : Addr) (k2_1 : ClassId) (h0 : Heap) (n0 : Nat) (Z0 : n0 ≤ h0.size) (m0 : Exa Z h0 b1 cF) (m1 : Fld Z h0 b1 cF "changedNow" "[J" (.ref b2_9)) (m2 : Arv Z h0 b2_9 k2_7 .long 1 [(.long 2)] (.long 0)) (m3 : Fld Z h0 b1 cF "pages" "[[D" (.ref b2_0)) (m4 : Arv Z h0 b2_0 k2_0 (.array .double) 1 [(.ref b2_1)] .null) (m5 : Arv Z h0 b2_1 k2_1 .double 20 [(dl 1), (dl 2), (dl 3), (dl 0), (dl 0), (dl 4), (dl 5), (dl 6), (dl 1), (dl 0), (dl 0), (dl 0), (dl 0), (dl 0), (dl 0), (dl 0), (dl 0), (dl 0), (dl 0), (dl 0)] (dl 0)) (m6 : Exa Z h0 b2_1 "[D") (ne_b1_b2_9 : b1 ≠ b2_9) (ne_b2_0_b2_9 : b2_0 ≠ b2_9) (ne_b2_1_b2_9 : b2_1 ≠ b2_9) (gg_b2_9 : n0 ≤ b2_9) (gg_b2_1 : n0 ≤ b2_1) :
    oM l y19 prog_8_method_25_code 14 none ws (⟨1, 0, 0, 23⟩ : Room) Z h0 #[(.ref b1), (.int 1), (dl (-1))] (Q_rm19_3 Z b1 b2_9 k2_7 b2_0 k2_0 b2_1 k2_1 h0 n0) := by
  refine own_enter (Q := Q_rm19_3 Z b1 b2_9 k2_7 b2_0 k2_0 b2_1 k2_1 h0 n0) (plainFor_of_name pn_com_example_housemartin_housemartin_firm_FirmSlots) ?_
  intro p e s m below meth c s₁ G X0 hx hby hml hZ hown hnm hret e0 go fin
  replace hown : s.vm.findClass cF = some m.cls := hown
  replace hnm : meth.name = "add" := hnm
  replace hml : c.maxLocals = 14 := hml
  rw [ef_19 m b1 _ _]
  have N0 := Fr.nil n0
  refine go (fun tg kg => XS.aloadN X0.here hx rfl (hb hby d19_0) rfl rfl kg) ?_
  refine go (fun tg kg => XS.iloadN X0.here hx rfl (hb hby d19_1) rfl kg) ?_
  obtain ⟨cq2001, q2001, q2001'⟩ := m0.cell
  obtain ⟨_, _, ⟨T2001, L2001, k2001, n2001⟩, -, X2001, ⟨Lc2001, hQ2001, l2001, y2001, z2001⟩, st2001⟩ := X0.privateBack hx (y := y20) hown (mvT hZ (own_w hw 138 rfl)) (mvT hZ (own_w hw 139 rfl)) (own_selp hZ (own_w hw 2 rfl) (own_w hw 140 rfl) (own_w hw 139 rfl) (by decide)) (Cond.privateMethod_at (mvP hZ (own_w hw 140 rfl) (args := #[]))) (mvT hZ (own_w hw 141 rfl)) (by decide) (backOf (W := 0) (rm20_3 l Z a0 hw [] b1 b2_9 k2_7 h0 n0 Z0 m1 m2 gg_b2_9) hZ (own_w hw 141 rfl) (own_w hw 3 rfl) (by decide) (by decide)) (g := (mkF m 2 #[rv b1, iv 1, dv (-1), .second, .unset, .unset, .unset, .unset, .unset, .unset, .unset, .unset, .unset, .unset] [(.int 1), (.ref b1)])) rfl (by rw [hml]; rfl) (Steps.refl _) (a := b1) (by rw [e0]; exact q2001) q2001' (argsL := [(.int 1)]) (rest := []) (lenOf pd__I_V rfl) rfl (by show 2 * 0 + _ ≤ _; exact Nat.le_of_eq rfl) (hb hby d19_2) (fun _ _ => ⟨rfl, e0, (by decide : 0 + 0 ≤ _), (by decide : 0 + 0 ≤ _)⟩)
  dsimp only [Pt.U, Pt.locs, Pt.cells, Pt.slots] at X2001 l2001 y2001 z2001 st2001 hQ2001
  subst l2001 y2001 z2001
  obtain ⟨rfl, Nq2001, K2001, Gf2001_0⟩ := hQ2001
  have Kk2001 : Keep h0 T2001.heap [b2_9, b2_1] := (Keep.refl h0 [b2_9, b2_1]).trans K2001 (allS (Or.inl (List.mem_of_getElem? (i := 0) rfl)) all0)
  have Z2001 := Nat.le_trans Z0 K2001.1
  have N2001 := Fr.app N0 Nq2001
  refine go (fun tg kg => st2001.trans kg) ?_
  refine go (fun tg kg => XS.aloadN X2001.here hx rfl (hb hby d19_5) rfl rfl kg) ?_
  have Fa2002 := (m3.keep K2001 (ninS ne_b1_b2_9 nin0))
  obtain ⟨T2003, X2003, e2003, st2003⟩ := getF X2001 hx hZ hown (host := "") (Or.inl (own_w hw 17 rfl)) Via.refl rfl Fa2002 (g := (mkF m 6 #[rv b1, iv 1, dv (-1), .second, .unset, .unset, .unset, .unset, .unset, .unset, .unset, .unset, .unset, .unset] [(.ref b1)])) rfl rfl (hb hby d19_6)
  refine go st2003 ?_
  show G (T2003.setTop (mkF m 9 #[rv b1, iv 1, dv (-1), .second, .unset, .unset, .unset, .unset, .unset, .unset, .unset, .unset, .unset, .unset] [(.ref b2_0)]))
  refine go (fun tg kg => XS.iloadN X2003.here hx rfl (hb hby d19_9) rfl kg) ?_
  refine go (fun tg kg => XS.bipush X2003.here hx rfl (hb hby d19_10) kg) ?_
  refine go (fun tg kg => XS.iushr X2003.here hx rfl (hb hby d19_12) rfl kg) ?_
  show G (T2003.setTop (mkF m 13 #[rv b1, iv 1, dv (-1), .second, .unset, .unset, .unset, .unset, .unset, .unset, .unset, .unset, .unset, .unset] [(.int (((1 : Int32).toUInt32 >>> ((24 : Int32) &&& 31).toUInt32).toInt32)), (.ref b2_0)]))
  rw [show (((1 : Int32).toUInt32 >>> ((24 : Int32) &&& 31).toUInt32).toInt32) = (0 : Int32) from by decide]
  show G (T2003.setTop (mkF m 13 #[rv b1, iv 1, dv (-1), .second, .unset, .unset, .unset, .unset, .unset, .unset, .unset, .unset, .unset, .unset] [(.int 0), (.ref b2_0)]))
  have Fa2004 := (m4.keep K2001 (ninS ne_b2_0_b2_9 nin0))
  obtain ⟨cl2005, Ar2005, q2005, S2005, M2005, H2005, U2005⟩ := id Fa2004
  have hin2005 : ¬ ((0 : Int32) < 0 ∨ cl2005.slots.size ≤ ((0 : Int32)).toNatClampNeg) := inb_of S2005 ⟨by decide, by decide⟩
  refine go (fun tg kg => X2003.aaload hx (j := (0 : Int32)) (v := (.ref b2_1)) (by rw [e2003]; exact Ar2005.1) (State.isArrayOf_alike hZ.alike Ar2005.2.1) rfl Ar2005.2.2 hin2005 (H2005.at hin2005 rfl) (g := (mkF m 13 #[rv b1, iv 1, dv (-1), .second, .unset, .unset, .unset, .unset, .unset, .unset, .unset, .unset, .unset, .unset] [(.int 0), (.ref b2_0)])) rfl rfl (hb hby d19_13) _ kg) ?_
  refine go (fun tg kg => XS.astore X2003.here hx rfl (hb hby d19_14) rfl rfl (l' := #[rv b1, iv 1, dv (-1), .second, rv b2_1, .unset, .unset, .unset, .unset, .unset, .unset, .unset, .unset, .unset]) rfl kg) ?_
  refine go (fun tg kg => XS.iloadN X2003.here hx rfl (hb hby d19_16) rfl kg) ?_
  refine go (fun tg kg => X2003.ldcInt hx hown (mvT hZ (own_w hw 71 rfl)) (g := (mkF m 17 #[rv b1, iv 1, dv (-1), .second, rv b2_1, .unset, .unset, .unset, .unset, .unset, .unset, .unset, .unset, .unset] [(.int 1)])) rfl (hb hby d19_17) _ kg) ?_
  show G (T2003.setTop (mkF m 19 #[rv b1, iv 1, dv (-1), .second, rv b2_1, .unset, .unset, .unset, .unset, .unset, .unset, .unset, .unset, .unset] [(.int 16777215), (.int 1)]))
  refine go (fun tg kg => XS.iand X2003.here hx rfl (hb hby d19_19) rfl kg) ?_
  refine go (fun tg kg => XS.iconst X2003.here hx rfl (hb hby d19_20) kg) ?_
  refine go (fun tg kg => XS.imul X2003.here hx rfl (hb hby d19_21) rfl kg) ?_
  refine go (fun tg kg => XS.istore X2003.here hx rfl (hb hby d19_22) rfl (l' := #[rv b1, iv 1, dv (-1), .second, rv b2_1, iv 5, .unset, .unset, .unset, .unset, .unset, .unset, .unset, .unset]) rfl kg) ?_
  refine go (fun tg kg => XS.aload X2003.here hx rfl (hb hby d19_24) rfl rfl kg) ?_
  refine go (fun tg kg => XS.iload X2003.here hx rfl (hb hby d19_26) rfl kg) ?_
  show G (T2003.setTop (mkF m 28 #[rv b1, iv 1, dv (-1), .second, rv b2_1, iv 5, .unset, .unset, .unset, .unset, .unset, .unset, .unset, .unset] [(.int 5), (.ref b2_1)]))
  refine go (fun tg kg => XS.iconst X2003.here hx rfl (hb hby d19_28) kg) ?_
  refine go (fun tg kg => XS.iadd X2003.here hx rfl (hb hby d19_29) rfl kg) ?_
  have Fa2006 := (m5.keep K2001 (ninS ne_b2_1_b2_9 nin0))
  obtain ⟨cl2007, Ar2007, q2007, S2007, M2007, H2007, U2007⟩ := id Fa2006
  have hin2007 : ¬ ((8 : Int32) < 0 ∨ cl2007.slots.size ≤ ((8 : Int32)).toNatClampNeg) := inb_of S2007 ⟨by decide, by decide⟩
  refine go (fun tg kg => X2003.daload hx (j := (8 : Int32)) (v := (dl 1)) (by rw [e2003]; exact Ar2007.1) (State.isArrayOf_alike hZ.alike Ar2007.2.1) Ar2007.2.2 hin2007 (H2007.at hin2007 rfl) (g := (mkF m 30 #[rv b1, iv 1, dv (-1), .second, rv b2_1, iv 5, .unset, .unset, .unset, .unset, .unset, .unset, .unset, .unset] [(.int 8), (.ref b2_1)])) rfl rfl (hb hby d19_30) _ kg) ?_
  refine go (fun tg kg => XS.dstore X2003.here hx rfl (hb hby d19_31) rfl (l' := #[rv b1, iv 1, dv (-1), .second, rv b2_1, iv 5, dv 1, .second, .unset, .unset, .unset, .unset, .unset, .unset]) rfl kg) ?_
  refine go (fun tg kg => XS.dload X2003.here hx rfl (hb hby d19_33) rfl kg) ?_
  refine go (fun tg kg => XS.dloadN X2003.here hx rfl (hb hby d19_35) rfl kg) ?_
  show G (T2003.setTop (mkF m 36 #[rv b1, iv 1, dv (-1), .second, rv b2_1, iv 5, dv 1, .second, .unset, .unset, .unset, .unset, .unset, .unset] [(dl (-1)), (dl 1)]))
  refine go (fun tg kg => XS.daddS X2003.here hx rfl (hb hby d19_36) rfl (nn_w (own_dadd (a := 1) (b := -1) (c := 0) (by decide) (by decide) (by decide))) (own_dadd (a := 1) (b := -1) (c := 0) (by decide) (by decide) (by decide)) kg) ?_
  refine go (fun tg kg => XS.dstore X2003.here hx rfl (hb hby d19_37) rfl (l' := #[rv b1, iv 1, dv (-1), .second, rv b2_1, iv 5, dv 1, .second, dv 0, .second, .unset, .unset, .unset, .unset]) rfl kg) ?_
  refine go (fun tg kg => XS.aload X2003.here hx rfl (hb hby d19_39) rfl rfl kg) ?_
  refine go (fun tg kg => XS.iload X2003.here hx rfl (hb hby d19_41) rfl kg) ?_
  refine go (fun tg kg => XS.iconst X2003.here hx rfl (hb hby d19_43) kg) ?_
  refine go (fun tg kg => XS.iadd X2003.here hx rfl (hb hby d19_44) rfl kg) ?_
  show G (T2003.setTop (mkF m 45 #[rv b1, iv 1, dv (-1), .second, rv b2_1, iv 5, dv 1, .second, dv 0, .second, .unset, .unset, .unset, .unset] [(.int 9), (.ref b2_1)]))
  obtain ⟨cl2008, Ar2008, q2008, S2008, M2008, H2008, U2008⟩ := id Fa2006
  have hin2008 : ¬ ((9 : Int32) < 0 ∨ cl2008.slots.size ≤ ((9 : Int32)).toNatClampNeg) := inb_of S2008 ⟨by decide, by decide⟩
  refine go (fun tg kg => X2003.daload hx (j := (9 : Int32)) (v := (dl 0)) (by rw [e2003]; exact Ar2008.1) (State.isArrayOf_alike hZ.alike Ar2008.2.1) Ar2008.2.2 hin2008 (H2008.at hin2008 rfl) (g := (mkF m 45 #[rv b1, iv 1, dv (-1), .second, rv b2_1, iv 5, dv 1, .second, dv 0, .second, .unset, .unset, .unset, .unset] [(.int 9), (.ref b2_1)])) rfl rfl (hb hby d19_45) _ kg) ?_
  refine go (fun tg kg => XS.dload X2003.here hx rfl (hb hby d19_46) rfl kg) ?_
  refine go (fun tg kg => XS.dloadN X2003.here hx rfl (hb hby d19_48) rfl kg) ?_
  refine go (fun tg kg => XS.dload X2003.here hx rfl (hb hby d19_49) rfl kg) ?_
  obtain ⟨_, _, ⟨T2009, L2009, k2009, n2009⟩, -, X2009, ⟨Lc2009, hQ2009, l2009, y2009, z2009⟩, st2009⟩ := Jvm.LawKit.callS X2003 hx (y := y21) hown (mvT hZ (own_w hw 142 rfl)) (mvT hZ (own_w hw 143 rfl)) (mvT hZ (own_w hw 3 rfl)) (mvT hZ (own_w hw 144 rfl)) (by decide) (backOf (W := 2) (rm21_2 l Z a0 hw []  T2001.heap n0 Z2001 ) hZ (own_w hw 144 rfl) (own_w hw 3 rfl) (by decide) (by decide)) (g := (mkF m 51 #[rv b1, iv 1, dv (-1), .second, rv b2_1, iv 5, dv 1, .second, dv 0, .second, .unset, .unset, .unset, .unset] [(dl 0), (dl (-1)), (dl 1), (dl 0)])) rfl (by rw [hml]; rfl) (argsL := [(dl 1), (dl (-1)), (dl 0)]) (rest := [(dl 0)]) (lenOf pd__DDD_D rfl) rfl (by show 2 * 0 + _ ≤ _; exact Nat.le_of_eq rfl) (hb hby d19_51) (fun _ _ => ⟨rfl, e2003, (by decide : 0 + 0 ≤ _), (by decide : 0 + 0 ≤ _)⟩)
  dsimp only [Pt.U, Pt.locs, Pt.cells, Pt.slots] at X2009 l2009 y2009 z2009 st2009 hQ2009
  subst l2009 y2009 z2009
  obtain ⟨rfl, Nq2009, e2009⟩ := hQ2009
  have N2009 := Fr.app N2001 Nq2009
  refine go st2009 ?_
  refine go (fun tg kg => XS.daddS X2009.here hx rfl (hb hby d19_54) rfl (nn_w (own_dadd (a := 0) (b := 0) (c := 0) (by decide) (by decide) (by decide))) (own_dadd (a := 0) (b := 0) (c := 0) (by decide) (by decide) (by decide)) kg) ?_
  show G (T2009.setTop (mkF m 55 #[rv b1, iv 1, dv (-1), .second, rv b2_1, iv 5, dv 1, .second, dv 0, .second, .unset, .unset, .unset, .unset] [(dl 0)]))
  refine go (fun tg kg => XS.dstore X2009.here hx rfl (hb hby d19_55) rfl (l' := #[rv b1, iv 1, dv (-1), .second, rv b2_1, iv 5, dv 1, .second, dv 0, .second, dv 0, .second, .unset, .unset]) rfl kg) ?_
  refine go (fun tg kg => XS.dload X2009.here hx rfl (hb hby d19_57) rfl kg) ?_
  refine go (fun tg kg => XS.dload X2009.here hx rfl (hb hby d19_59) rfl kg) ?_
  refine go (fun tg kg => XS.daddS X2009.here hx rfl (hb hby d19_61) rfl (nn_w (own_dadd (a := 0) (b := 0) (c := 0) (by decide) (by decide) (by decide))) (own_dadd (a := 0) (b := 0) (c := 0) (by decide) (by decide) (by decide)) kg) ?_
  refine go (fun tg kg => XS.dstore X2009.here hx rfl (hb hby d19_62) rfl (l' := #[rv b1, iv 1, dv (-1), .second, rv b2_1, iv 5, dv 1, .second, dv 0, .second, dv 0, .second, dv 0, .second]) rfl kg) ?_
  refine go (fun tg kg => XS.aload X2009.here hx rfl (hb hby d19_64) rfl rfl kg) ?_
  show G (T2009.setTop (mkF m 66 #[rv b1, iv 1, dv (-1), .second, rv b2_1, iv 5, dv 1, .second, dv 0, .second, dv 0, .second, dv 0, .second] [(.ref b2_1)]))
  refine go (fun tg kg => XS.iload X2009.here hx rfl (hb hby d19_66) rfl kg) ?_
  refine go (fun tg kg => XS.iconst X2009.here hx rfl (hb hby d19_68) kg) ?_
  refine go (fun tg kg => XS.iadd X2009.here hx rfl (hb hby d19_69) rfl kg) ?_
  refine go (fun tg kg => XS.dload X2009.here hx rfl (hb hby d19_70) rfl kg) ?_
  refine go (fun tg kg => XS.dload X2009.here hx rfl (hb hby d19_72) rfl kg) ?_
  refine go (fun tg kg => XS.dload X2009.here hx rfl (hb hby d19_74) rfl kg) ?_
  show G (T2009.setTop (mkF m 76 #[rv b1, iv 1, dv (-1), .second, rv b2_1, iv 5, dv 1, .second, dv 0, .second, dv 0, .second, dv 0, .second] [(dl 0), (dl 0), (dl 0), (.int 9), (.ref b2_1)]))
  obtain ⟨_, _, ⟨T2010, L2010, k2010, n2010⟩, -, X2010, ⟨Lc2010, hQ2010, l2010, y2010, z2010⟩, st2010⟩ := Jvm.LawKit.callS X2009 hx (y := y21) hown (mvT hZ (own_w hw 142 rfl)) (mvT hZ (own_w hw 143 rfl)) (mvT hZ (own_w hw 3 rfl)) (mvT hZ (own_w hw 144 rfl)) (by decide) (backOf (W := 2) (rm21_3 l Z a0 hw []  T2001.heap n0 Z2001 ) hZ (own_w hw 144 rfl) (own_w hw 3 rfl) (by decide) (by decide)) (g := (mkF m 76 #[rv b1, iv 1, dv (-1), .second, rv b2_1, iv 5, dv 1, .second, dv 0, .second, dv 0, .second, dv 0, .second] [(dl 0), (dl 0), (dl 0), (.int 9), (.ref b2_1)])) rfl (by rw [hml]; rfl) (argsL := [(dl 0), (dl 0), (dl 0)]) (rest := [(.int 9), (.ref b2_1)]) (lenOf pd__DDD_D rfl) rfl (by show 2 * 0 + _ ≤ _; exact Nat.le_of_eq rfl) (hb hby d19_76) (fun _ _ => ⟨rfl, e2009, (by decide : 0 + 0 ≤ _), (by decide : 0 + 0 ≤ _)⟩)
  dsimp only [Pt.U, Pt.locs, Pt.cells, Pt.slots] at X2010 l2010 y2010 z2010 st2010 hQ2010
  subst l2010 y2010 z2010
  obtain ⟨rfl, Nq2010, e2010⟩ := hQ2010
  have N2010 := Fr.app N2009 Nq2010
  refine go st2010 ?_
  obtain ⟨cl2011, Ar2011, q2011, S2011, M2011, H2011, U2011⟩ := id Fa2006
  have hin2011 : ¬ ((9 : Int32) < 0 ∨ cl2011.slots.size ≤ ((9 : Int32)).toNatClampNeg) := inb_of S2011 ⟨by decide, by decide⟩
  obtain ⟨T2011, h2011, X2011, e2011, W2011, st2011⟩ := stD X2010 hx hZ e2010 Ar2011 (j := (9 : Int32)) hin2011 (g := (mkF m 79 #[rv b1, iv 1, dv (-1), .second, rv b2_1, iv 5, dv 1, .second, dv 0, .second, dv 0, .second, dv 0, .second] [(dl 0), (.int 9), (.ref b2_1)])) rfl rfl (hb hby d19_79)
  refine go st2011 ?_
  have V2011 : Arv Z h2011 b2_1 k2_1 .double (20 : Int32) [(dl 1), (dl 2), (dl 3), (dl 0), (dl 0), (dl 4), (dl 5), (dl 6), (dl 1), (dl 0), (dl 0), (dl 0), (dl 0), (dl 0), (dl 0), (dl 0), (dl 0), (dl 0), (dl 0), (dl 0)] (dl 0) := Arv.set Ar2011 q2011 S2011 M2011 H2011 U2011 rfl W2011 9 rfl (Nat.le_of_ble_eq_true rfl)
  have N2011 := Fr.snoc X2011 N2010 gg_b2_1
  have K2011 : Keep h0 h2011 [b2_9, b2_1] := Kk2001.wr W2011 (Or.inl (List.mem_of_getElem? (i := 1) rfl))
  have Z2011 := Nat.le_trans Z2001 (Keep.of_wr W2011).1
  refine go (fun tg kg => XS.aload X2011.here hx rfl (hb hby d19_80) rfl rfl kg) ?_
  refine go (fun tg kg => XS.iload X2011.here hx rfl (hb hby d19_82) rfl kg) ?_
  refine go (fun tg kg => XS.iconst X2011.here hx rfl (hb hby d19_84) kg) ?_
  refine go (fun tg kg => XS.iadd X2011.here hx rfl (hb hby d19_85) rfl kg) ?_
  show G (T2011.setTop (mkF m 86 #[rv b1, iv 1, dv (-1), .second, rv b2_1, iv 5, dv 1, .second, dv 0, .second, dv 0, .second, dv 0, .second] [(.int 8), (.ref b2_1)]))
  refine go (fun tg kg => XS.dload X2011.here hx rfl (hb hby d19_86) rfl kg) ?_
  obtain ⟨cl2012, Ar2012, q2012, S2012, M2012, H2012, U2012⟩ := id V2011
  have hin2012 : ¬ ((8 : Int32) < 0 ∨ cl2012.slots.size ≤ ((8 : Int32)).toNatClampNeg) := inb_of S2012 ⟨by decide, by decide⟩
  obtain ⟨T2012, h2012, X2012, e2012, W2012, st2012⟩ := stD X2011 hx hZ e2011 Ar2012 (j := (8 : Int32)) hin2012 (g := (mkF m 88 #[rv b1, iv 1, dv (-1), .second, rv b2_1, iv 5, dv 1, .second, dv 0, .second, dv 0, .second, dv 0, .second] [(dl 0), (.int 8), (.ref b2_1)])) rfl rfl (hb hby d19_88)
  refine go st2012 ?_
  have V2012 : Arv Z h2012 b2_1 k2_1 .double (20 : Int32) [(dl 1), (dl 2), (dl 3), (dl 0), (dl 0), (dl 4), (dl 5), (dl 6), (dl 0), (dl 0), (dl 0), (dl 0), (dl 0), (dl 0), (dl 0), (dl 0), (dl 0), (dl 0), (dl 0), (dl 0)] (dl 0) := Arv.set Ar2012 q2012 S2012 M2012 H2012 U2012 rfl W2012 8 rfl (Nat.le_of_ble_eq_true rfl)
  have N2012 := Fr.snoc X2012 N2011 gg_b2_1
  have K2012 : Keep h0 h2012 [b2_9, b2_1] := K2011.wr W2012 (Or.inl (List.mem_of_getElem? (i := 1) rfl))
  have Z2012 := Nat.le_trans Z2011 (Keep.of_wr W2012).1
  refine fin (none) X2012 (fun h => rfl) (fun fs hr => X2012.returnOut hx hret (hb hby d19_89) hr) (by decide) (by decide) ?_
  rw [e2012]
  have Fa2013 := ((Gf2001_0.other W2011 (Ne.symm ne_b2_1_b2_9)).other W2012 (Ne.symm ne_b2_1_b2_9))
  have Fa2014 := (((m6.keep K2001).wr W2011).wr W2012)
  exact ⟨rfl, N2012, K2012, Fa2013, V2012, Fa2014⟩
def Q_rm16_5 (Z : State) (b2_4 : Addr) (b2_7 : Addr) (k2_5 : ClassId) (h0 : Heap) (n0 : Nat) (v : Option Value) (h : Heap) (L : List Loc) : Prop := v = some (.int 0) ∧ Fr n0 L ∧ h = h0
set_option maxRecDepth 65536 in
set_option maxHeartbeats 40000000 in
theorem rm16_5 (l : Launch) (Z : State) (a0 : Array Value) (hw : ∀ d ∈ tables_1, d.before a0 Z = true) (ws : List Jvm.Cond) (b2_4 : Addr) (b2_7 : Addr) (k2_5 : ClassId) (h0 : Heap) (n0 : Nat) (Z0 : n0 ≤ h0.size) (m0 : Fld Z h0 b2_4 cM "heads" "[J" (.ref b2_7)) (m1 : Arv Z h0 b2_7 k2_5 .long 4 [(.long 0), (.long 7), (.long 0), (.long 0)] (.long 0)) :
    oM l y16 prog_10_method_2_code 2 (some .int) ws (⟨0, 0, 0, 0⟩ : Room) Z h0 #[(.ref b2_4), (.int 1)] (Q_rm16_5 Z b2_4 b2_7 k2_5 h0 n0) := by
  refine own_enter (Q := Q_rm16_5 Z b2_4 b2_7 k2_5 h0 n0) (plainFor_of_name pn_com_example_housemartin_housemartin_firm_Members) ?_
  intro p e s m below meth c s₁ G X0 hx hby hml hZ hown hnm hret e0 go fin
  replace hown : s.vm.findClass cM = some m.cls := hown
  replace hnm : meth.name = "count" := hnm
  replace hml : c.maxLocals = 2 := hml
  rw [ef_16 m b2_4 _]
  have N0 := Fr.nil n0
  refine go (fun tg kg => XS.aloadN X0.here hx rfl (hb hby d16_0) rfl rfl kg) ?_
  obtain ⟨T2001, X2001, e2001, st2001⟩ := getF X0 hx hZ hown (host := "") (Or.inl (own_w hw 45 rfl)) Via.refl e0 m0 (g := (mkF m 1 #[rv b2_4, iv 1] [(.ref b2_4)])) rfl rfl (hb hby d16_1)
  refine go st2001 ?_
  refine go (fun tg kg => XS.iloadN X2001.here hx rfl (hb hby d16_4) rfl kg) ?_
  obtain ⟨cl2002, Ar2002, q2002, S2002, M2002, H2002, U2002⟩ := id m1
  have hin2002 : ¬ ((1 : Int32) < 0 ∨ cl2002.slots.size ≤ ((1 : Int32)).toNatClampNeg) := inb_of S2002 ⟨by decide, by decide⟩
  refine go (fun tg kg => X2001.laload hx (j := (1 : Int32)) (v := (.long 7)) (by rw [e2001]; exact Ar2002.1) (State.isArrayOf_alike hZ.alike Ar2002.2.1) Ar2002.2.2 hin2002 (H2002.at hin2002 rfl) (g := (mkF m 5 #[rv b2_4, iv 1] [(.int 1), (.ref b2_7)])) rfl rfl (hb hby d16_5) _ kg) ?_
  refine go (fun tg kg => XS.bipush X2001.here hx rfl (hb hby d16_6) kg) ?_
  show G (T2001.setTop (mkF m 8 #[rv b2_4, iv 1] [(.int 32), (.long 7)]))
  refine go (fun tg kg => XS.lushr X2001.here hx rfl (hb hby d16_8) rfl kg) ?_
  show G (T2001.setTop (mkF m 9 #[rv b2_4, iv 1] [(.long (((7 : Int64).toUInt64 >>> ((32 : Int32) &&& 0x3f).toInt64.toUInt64).toInt64))]))
  rw [show (((7 : Int64).toUInt64 >>> ((32 : Int32) &&& 0x3f).toInt64.toUInt64).toInt64) = (0 : Int64) from by decide]
  show G (T2001.setTop (mkF m 9 #[rv b2_4, iv 1] [(.long 0)]))
  refine go (fun tg kg => XS.l2i X2001.here hx rfl (hb hby d16_9) rfl kg) ?_
  refine fin (some (.int 0)) X2001 (fun h => absurd h (by decide)) (fun fs hr => retOut X2001 hx hret rfl (Or.inl ⟨rfl, Or.inl rfl, _, rfl⟩) (hb hby d16_10) hr) (by decide) (by decide) ?_
  rw [e2001]
  exact ⟨rfl, N0, rfl⟩
def Q_rm22_1 (Z : State) (b1 : Addr) (b2_4 : Addr) (b2_7 : Addr) (k2_5 : ClassId) (b2_6 : Addr) (k2_4 : ClassId) (b2_5 : Addr) (b2_8 : Addr) (b2_9 : Addr) (k2_7 : ClassId) (b2_0 : Addr) (k2_0 : ClassId) (b2_1 : Addr) (k2_1 : ClassId) (b2_3 : Addr) (k2_3 : ClassId) (b2_2 : Addr) (b2_10 : Addr) (h0 : Heap) (n0 : Nat) (v : Option Value) (h : Heap) (L : List Loc) : Prop := v = some (.int 1) ∧ Fr n0 L ∧ Keep h0 h [b2_7, b2_6, b2_4, b2_9, b2_1, b2_3, b1] ∧ Fld Z h b1 cF "members" "Lcom/example/housemartin/housemartin/firm/Members;" (.ref b2_4) ∧ Exa Z h b2_4 cM ∧ Fld Z h b2_4 cM "heads" "[J" (.ref b2_7) ∧ Arv Z h b2_7 k2_5 .long 4 [(.long 0), (.long 7), (.long 0), (.long 0)] (.long 0) ∧ Fld Z h b2_4 cM "listed" "Z" (.int 1) ∧ Fld Z h b2_4 cM "firmsOfSize" "[I" (.ref b2_6) ∧ Arv Z h b2_6 k2_4 .int 2 [(.int 0), (.int 0)] (.int 0) ∧ Fld Z h b2_4 cM "largest" "I" (.int 0) ∧ Fld Z h b2_4 cM "freeBlocks" "[I" (.ref b2_5) ∧ Fld Z h b2_4 cM "pool" "[I" (.ref b2_8) ∧ Exa Z h b1 cF ∧ Fld Z h b1 cF "changedNow" "[J" (.ref b2_9) ∧ Arv Z h b2_9 k2_7 .long 1 [(.long 2)] (.long 0) ∧ Fld Z h b1 cF "pages" "[[D" (.ref b2_0) ∧ Arv Z h b2_1 k2_1 .double 20 [(dl 1), (dl 2), (dl 3), (dl 0), (dl 0), (dl 4), (dl 5), (dl 6), (dl 0), (dl 0), (dl 0), (dl 0), (dl 0), (dl 0), (dl 0), (dl 0), (dl 0), (dl 0), (dl 0), (dl 0)] (dl 0) ∧ Exa Z h b2_1 "[D" ∧ Fld Z h b1 cF "births" "[I" (.ref b2_3) ∧ Fld Z h b1 cF "freeSlot" "I" (.int 1) ∧ Arv Z h b2_3 k2_3 .int 4 [(.int 10), (.int (-1)), (.int 0), (.int 0)] (.int 0) ∧ Fld Z h b1 cF "openFirms" "I" (.int 1) ∧ Fld Z h b1 cF "nextId" "J" (.long 3) ∧ Fld Z h b1 cF "ids" "[J" (.ref b2_2) ∧ Fld Z h b1 cF "changedBefore" "[J" (.ref b2_10) ∧ Fld Z h b1 cF "slotsUsed" "I" (.int 2)
set_option maxRecDepth 65536 in
set_option maxHeartbeats 40000000 in
theorem rm22_1 (l : Launch) (Z : State) (a0 : Array Value) (hw : ∀ d ∈ tables_1, d.before a0 Z = true) (ws : List Jvm.Cond) (b1 : Addr) (b2_4 : Addr) (b2_7 : Addr) (k2_5 : ClassId) (b2_6 : Addr) (k2_4 : ClassId) (b2_5 : Addr) (b2_8 : Addr) (b2_9 : Addr) (k2_7 : ClassId) (b2_0 : Addr) (k2_0 : ClassId) (b2_1 : Addr) (k2_1 : ClassId) (b2_3 : Addr) (k2_3 : ClassId) (b2_2 : Addr) (b2_10 : Addr) (h0 : Heap) (n0 : Nat) (Z0 : n0 ≤ h0.size) (m0 : Fld Z h0 b1 cF "members" "Lcom/example/housemartin/housemartin/firm/Members;" (.ref b2_4)) (m1 : Exa Z h0 b2_4 cM) (m2 : Fld Z h0 b2_4 cM "heads" "[J" (.ref b2_7)) (m3 : Arv Z h0 b2_7 k2_5 .long 4 [(.long 0), (.long 4294967303), (.long 0), (.long 0)] (.long 0)) (m4 : Fld Z h0 b2_4 cM "listed" "Z" (.int 1)) (m5 : Fld Z h0 b2_4 cM "firmsOfSize" "[I" (.ref b2_6)) (m6 : Arv Z h0 b2_6 k2_4 .int 2 [(.int 0), (.int 1)] (.int 0)) (m7 : Fld Z h0 b2_4 cM "largest" "I" (.int 1)) (m8 : Fld Z h0 b2_4 cM "freeBlocks" "[I" (.ref b2_5)) (m9 : Fld Z h0 b2_4 cM "pool" "[I" (.ref b2_8)) (m10 : Exa Z h0 b1 cF) (m11 : Fld Z h0 b1 cF "changedNow" "[J" (.ref b2_9)) (m12 : Arv Z h0 b2_9 k2_7 .long 1 [(.long 2)] (.long 0)) (m13 : Fld Z h0 b1 cF "pages" "[[D" (.ref b2_0)) (m14 : Arv Z h0 b2_0 k2_0 (.array .double) 1 [(.ref b2_1)] .null) (m15 : Arv Z h0 b2_1 k2_1 .double 20 [(dl 1), (dl 2), (dl 3), (dl 0), (dl 0), (dl 4), (dl 5), (dl 6), (dl 1), (dl 0), (dl 0), (dl 0), (dl 0), (dl 0), (dl 0), (dl 0), (dl 0), (dl 0), (dl 0), (dl 0)] (dl 0)) (m16 : Exa Z h0 b2_1 "[D") (m17 : Fld Z h0 b1 cF "births" "[I" (.ref b2_3)) (m18 : Fld Z h0 b1 cF "freeSlot" "I" (.int (-1))) (m19 : Arv Z h0 b2_3 k2_3 .int 4 [(.int 10), (.int 20), (.int 0), (.int 0)] (.int 0)) (m20 : Fld Z h0 b1 cF "openFirms" "I" (.int 2)) (m21 : Fld Z h0 b1 cF "nextId" "J" (.long 3)) (m22 : Fld Z h0 b1 cF "ids" "[J" (.ref b2_2)) (m23 : Fld Z h0 b1 cF "changedBefore" "[J" (.ref b2_10)) (m24 : Fld Z h0 b1 cF "slotsUsed" "I" (.int 2)) (ne_b2_4_b2_7 : b2_4 ≠ b2_7) (ne_b2_6_b2_7 : b2_6 ≠ b2_7) (ne_b2_4_b2_6 : b2_4 ≠ b2_6) (ne_b1_b2_4 : b1 ≠ b2_4) (ne_b1_b2_6 : b1 ≠ b2_6) (ne_b1_b2_7 : b1 ≠ b2_7) (ne_b2_9_b2_4 : b2_9 ≠ b2_4) (ne_b2_9_b2_6 : b2_9 ≠ b2_6) (ne_b2_9_b2_7 : b2_9 ≠ b2_7) (ne_b2_0_b2_4 : b2_0 ≠ b2_4) (ne_b2_0_b2_6 : b2_0 ≠ b2_6) (ne_b2_0_b2_7 : b2_0 ≠ b2_7) (ne_b2_1_b2_4 : b2_1 ≠ b2_4) (ne_b2_1_b2_6 : b2_1 ≠ b2_6) (ne_b2_1_b2_7 : b2_1 ≠ b2_7) (ne_b1_b2_9 : b1 ≠ b2_9) (ne_b2_0_b2_9 : b2_0 ≠ b2_9) (ne_b2_1_b2_9 : b2_1 ≠ b2_9) (ne_b1_b2_1 : b1 ≠ b2_1) (ne_b2_3_b2_4 : b2_3 ≠ b2_4) (ne_b2_3_b2_6 : b2_3 ≠ b2_6) (ne_b2_3_b2_7 : b2_3 ≠ b2_7) (ne_b2_3_b2_1 : b2_3 ≠ b2_1) (ne_b2_3_b2_9 : b2_3 ≠ b2_9) (ne_b1_b2_3 : b1 ≠ b2_3) (gg_b2_7 : n0 ≤ b2_7) (gg_b2_6 : n0 ≤ b2_6) (gg_b2_4 : n0 ≤ b2_4) (gg_b2_9 : n0 ≤ b2_9) (gg_b2_1 : n0 ≤ b2_1) (gg_b2_3 : n0 ≤ b2_3) (gg_b1 : n0 ≤ b1) :
    oM l y22 prog_8_method_4_code 6 (some .boolean) ws (⟨3, 0, 0, 49⟩ : Room) Z h0 #[(.ref b1), (.int 1), (.int 7), (dl 1)] (Q_rm22_1 Z b1 b2_4 b2_7 k2_5 b2_6 k2_4 b2_5 b2_8 b2_9 k2_7 b2_0 k2_0 b2_1 k2_1 b2_3 k2_3 b2_2 b2_10 h0 n0) := by
  refine own_enter (Q := Q_rm22_1 Z b1 b2_4 b2_7 k2_5 b2_6 k2_4 b2_5 b2_8 b2_9 k2_7 b2_0 k2_0 b2_1 k2_1 b2_3 k2_3 b2_2 b2_10 h0 n0) (plainFor_of_name pn_com_example_housemartin_housemartin_firm_FirmSlots) ?_
  intro p e s m below meth c s₁ G X0 hx hby hml hZ hown hnm hret e0 go fin
  replace hown : s.vm.findClass cF = some m.cls := hown
  replace hnm : meth.name = "leave" := hnm
  replace hml : c.maxLocals = 6 := hml
  rw [ef_22 m b1 _ _ _]
  have N0 := Fr.nil n0
  refine go (fun tg kg => XS.aloadN X0.here hx rfl (hb hby d22_0) rfl rfl kg) ?_
  obtain ⟨T1001, X1001, e1001, st1001⟩ := getF X0 hx hZ hown (host := "") (Or.inl (own_w hw 56 rfl)) Via.refl e0 m0 (g := (mkF m 1 #[rv b1, iv 1, iv 7, dv 1, .second, .unset] [(.ref b1)])) rfl rfl (hb hby d22_1)
  refine go st1001 ?_
  refine go (fun tg kg => XS.iloadN X1001.here hx rfl (hb hby d22_4) rfl kg) ?_
  refine go (fun tg kg => XS.iloadN X1001.here hx rfl (hb hby d22_5) rfl kg) ?_
  obtain ⟨cq1002, kq1002, q1002a, q1002b, q1002c⟩ := isOf hZ e1001 m1
  obtain ⟨_, _, ⟨T1002, L1002, k1002, n1002⟩, -, X1002, ⟨Lc1002, hQ1002, l1002, y1002, z1002⟩, st1002⟩ := X1001.virtualBack hx (y := y23) (z := y23) hown (mvT hZ (own_w hw 150 rfl)) (mvT hZ (own_w hw 151 rfl)) (notFace_of_selects (args := #[]) (mvT hZ (own_w hw 153 rfl))) (mvT hZ (own_w hw 153 rfl)) (mvT hZ (own_w hw 152 rfl)) (by decide) (backOf (W := 0) (rm23_1 l Z a0 hw [] b2_4 b2_7 k2_5 b2_6 k2_4 b2_5 b2_8 h0 n0 Z0 m1 m2 m3 m4 m5 m6 m7 m8 m9 ne_b2_4_b2_7 ne_b2_6_b2_7 ne_b2_4_b2_6 gg_b2_7 gg_b2_6 gg_b2_4) hZ (own_w hw 154 rfl) (own_w hw 34 rfl) (by decide) (by decide)) q1002a q1002c (g := (mkF m 6 #[rv b1, iv 1, iv 7, dv 1, .second, .unset] [(.int 7), (.int 1), (.ref b2_4)])) rfl (by rw [hml]; rfl) (Steps.refl _) (argsL := [(.int 1), (.int 7)]) (rest := []) (lenOf pd__II_V rfl) rfl (by show 2 * 0 + _ ≤ _; exact Nat.le_of_eq rfl) (hb hby d22_6) (fun _ _ => ⟨rfl, e1001, (by decide : 0 + 0 ≤ _), (by decide : 0 + 0 ≤ _)⟩)
  dsimp only [Pt.U, Pt.locs, Pt.cells, Pt.slots] at X1002 l1002 y1002 z1002 st1002 hQ1002
  subst l1002 y1002 z1002
  obtain ⟨rfl, Nq1002, K1002, Gf1002_0, Gf1002_1, Gf1002_2, Gf1002_3, Gf1002_4, Gf1002_5, Gf1002_6, Gf1002_7, Gf1002_8⟩ := hQ1002
  have Kk1002 : Keep h0 T1002.heap [b2_7, b2_6, b2_4, b2_9, b2_1, b2_3, b1] := (Keep.refl h0 [b2_7, b2_6, b2_4, b2_9, b2_1, b2_3, b1]).trans K1002 (allS (Or.inl (List.mem_of_getElem? (i := 0) rfl)) (allS (Or.inl (List.mem_of_getElem? (i := 1) rfl)) (allS (Or.inl (List.mem_of_getElem? (i := 2) rfl)) all0)))
  have Z1002 := Nat.le_trans Z0 K1002.1
  have N1002 := Fr.app N0 Nq1002
  refine go (fun tg kg => st1002.trans kg) ?_
  show G (T1002.setTop (mkF m 9 #[rv b1, iv 1, iv 7, dv 1, .second, .unset] []))
  refine go (fun tg kg => XS.aloadN X1002.here hx rfl (hb hby d22_9) rfl rfl kg) ?_
  refine go (fun tg kg => XS.iloadN X1002.here hx rfl (hb hby d22_10) rfl kg) ?_
  refine go (fun tg kg => XS.dloadN X1002.here hx rfl (hb hby d22_11) rfl kg) ?_
  refine go (fun tg kg => XS.dnegS X1002.here hx rfl (hb hby d22_12) rfl own_dneg1 kg) ?_
  have Fa1003 := (m10.keep K1002)
  have Fa1004 := (m11.keep K1002 (ninS ne_b1_b2_7 (ninS ne_b1_b2_6 (ninS ne_b1_b2_4 nin0))))
  have Fa1005 := (m12.keep K1002 (ninS ne_b2_9_b2_7 (ninS ne_b2_9_b2_6 (ninS ne_b2_9_b2_4 nin0))))
  have Fa1006 := (m13.keep K1002 (ninS ne_b1_b2_7 (ninS ne_b1_b2_6 (ninS ne_b1_b2_4 nin0))))
  have Fa1007 := (m14.keep K1002 (ninS ne_b2_0_b2_7 (ninS ne_b2_0_b2_6 (ninS ne_b2_0_b2_4 nin0))))
  have Fa1008 := (m15.keep K1002 (ninS ne_b2_1_b2_7 (ninS ne_b2_1_b2_6 (ninS ne_b2_1_b2_4 nin0))))
  have Fa1009 := (m16.keep K1002)
  obtain ⟨cq1010, q1010, q1010'⟩ := Fa1003.cell
  obtain ⟨_, _, ⟨T1010, L1010, k1010, n1010⟩, -, X1010, ⟨Lc1010, hQ1010, l1010, y1010, z1010⟩, st1010⟩ := X1002.privateBack hx (y := y19) hown (mvT hZ (own_w hw 134 rfl)) (mvT hZ (own_w hw 135 rfl)) (own_selp hZ (own_w hw 2 rfl) (own_w hw 136 rfl) (own_w hw 135 rfl) (by decide)) (Cond.privateMethod_at (mvP hZ (own_w hw 136 rfl) (args := #[]))) (mvT hZ (own_w hw 137 rfl)) (by decide) (backOf (W := 0) (rm19_3 l Z a0 hw [] b1 b2_9 k2_7 b2_0 k2_0 b2_1 k2_1 T1002.heap n0 Z1002 Fa1003 Fa1004 Fa1005 Fa1006 Fa1007 Fa1008 Fa1009 ne_b1_b2_9 ne_b2_0_b2_9 ne_b2_1_b2_9 gg_b2_9 gg_b2_1) hZ (own_w hw 137 rfl) (own_w hw 3 rfl) (by decide) (by decide)) (g := (mkF m 13 #[rv b1, iv 1, iv 7, dv 1, .second, .unset] [(dl (-1)), (.int 1), (.ref b1)])) rfl (by rw [hml]; rfl) (Steps.refl _) (a := b1) q1010 q1010' (argsL := [(.int 1), (dl (-1))]) (rest := []) (lenOf pd__ID_V rfl) rfl (by show 2 * 0 + _ ≤ _; exact Nat.le_of_eq rfl) (hb hby d22_13) (fun _ _ => ⟨rfl, rfl, (by decide : 0 + 0 ≤ _), (by decide : 0 + 0 ≤ _)⟩)
  dsimp only [Pt.U, Pt.locs, Pt.cells, Pt.slots] at X1010 l1010 y1010 z1010 st1010 hQ1010
  subst l1010 y1010 z1010
  obtain ⟨rfl, Nq1010, K1010, Gf1010_0, Gf1010_1, Gf1010_2⟩ := hQ1010
  have Kk1010 : Keep h0 T1010.heap [b2_7, b2_6, b2_4, b2_9, b2_1, b2_3, b1] := Kk1002.trans K1010 (allS (Or.inl (List.mem_of_getElem? (i := 3) rfl)) (allS (Or.inl (List.mem_of_getElem? (i := 4) rfl)) all0))
  have Z1010 := Nat.le_trans Z1002 K1010.1
  have N1010 := Fr.app N1002 Nq1010
  refine go (fun tg kg => st1010.trans kg) ?_
  refine go (fun tg kg => XS.aloadN X1010.here hx rfl (hb hby d22_16) rfl rfl kg) ?_
  show G (T1010.setTop (mkF m 17 #[rv b1, iv 1, iv 7, dv 1, .second, .unset] [(.ref b1)]))
  have Fa1011 := ((m0.keep K1002 (ninS ne_b1_b2_7 (ninS ne_b1_b2_6 (ninS ne_b1_b2_4 nin0)))).keep K1010 (ninS ne_b1_b2_9 (ninS ne_b1_b2_1 nin0)))
  obtain ⟨T1012, X1012, e1012, st1012⟩ := getF X1010 hx hZ hown (host := "") (Or.inl (own_w hw 56 rfl)) Via.refl rfl Fa1011 (g := (mkF m 17 #[rv b1, iv 1, iv 7, dv 1, .second, .unset] [(.ref b1)])) rfl rfl (hb hby d22_17)
  refine go st1012 ?_
  refine go (fun tg kg => XS.iloadN X1012.here hx rfl (hb hby d22_20) rfl kg) ?_
  have Fa1013 := (Gf1002_0.keep K1010)
  have Fa1014 := (Gf1002_1.keep K1010 (ninS (Ne.symm ne_b2_9_b2_4) (ninS (Ne.symm ne_b2_1_b2_4) nin0)))
  have Fa1015 := (Gf1002_2.keep K1010 (ninS (Ne.symm ne_b2_9_b2_7) (ninS (Ne.symm ne_b2_1_b2_7) nin0)))
  obtain ⟨cq1016, kq1016, q1016a, q1016b, q1016c⟩ := isOf hZ e1012 Fa1013
  obtain ⟨_, _, ⟨T1016, L1016, k1016, n1016⟩, -, X1016, ⟨Lc1016, hQ1016, l1016, y1016, z1016⟩, st1016⟩ := X1012.virtualBack hx (y := y16) (z := y16) hown (mvT hZ (own_w hw 159 rfl)) (mvT hZ (own_w hw 119 rfl)) (notFace_of_selects (args := #[]) (mvT hZ (own_w hw 121 rfl))) (mvT hZ (own_w hw 121 rfl)) (mvT hZ (own_w hw 120 rfl)) (by decide) (backOf (W := 0) (rm16_5 l Z a0 hw [] b2_4 b2_7 k2_5 T1010.heap n0 Z1010 Fa1014 Fa1015) hZ (own_w hw 122 rfl) (own_w hw 34 rfl) (by decide) (by decide)) q1016a q1016c (g := (mkF m 21 #[rv b1, iv 1, iv 7, dv 1, .second, .unset] [(.int 1), (.ref b2_4)])) rfl (by rw [hml]; rfl) (Steps.refl _) (argsL := [(.int 1)]) (rest := []) (lenOf pd__I_I rfl) rfl (by show 2 * 0 + _ ≤ _; exact Nat.le_of_eq rfl) (hb hby d22_21) (fun _ _ => ⟨rfl, e1012, (by decide : 0 + 0 ≤ _), (by decide : 0 + 0 ≤ _)⟩)
  dsimp only [Pt.U, Pt.locs, Pt.cells, Pt.slots] at X1016 l1016 y1016 z1016 st1016 hQ1016
  subst l1016 y1016 z1016
  obtain ⟨rfl, Nq1016, e1016⟩ := hQ1016
  have N1016 := Fr.app N1010 Nq1016
  refine go (fun tg kg => st1016.trans kg) ?_
  refine go (fun tg kg => XS.ifNo X1016.here hx rfl (hb hby d22_24) rfl ((if0 _ _).trans (teq (by decide)).2) kg) ?_
  refine go (fun tg kg => XS.iconst X1016.here hx rfl (hb hby d22_27) kg) ?_
  refine go (fun tg kg => XS.goto X1016.here hx rfl (pc0 := 28) (pc' := 32) rfl (hb hby d22_28) (by decide) (by decide) kg) ?_
  show G (T1016.setTop (mkF m 32 #[rv b1, iv 1, iv 7, dv 1, .second, .unset] [(.int 1)]))
  refine go (fun tg kg => XS.istore X1016.here hx rfl (hb hby d22_32) rfl (l' := #[rv b1, iv 1, iv 7, dv 1, .second, iv 1]) rfl kg) ?_
  refine go (fun tg kg => XS.iload X1016.here hx rfl (hb hby d22_34) rfl kg) ?_
  refine go (fun tg kg => XS.ifNo X1016.here hx rfl (hb hby d22_36) rfl ((if0 _ _).trans (feq (by decide)).1) kg) ?_
  refine go (fun tg kg => XS.aloadN X1016.here hx rfl (hb hby d22_39) rfl rfl kg) ?_
  have Fa1017 := ((m17.keep K1002 (ninS ne_b1_b2_7 (ninS ne_b1_b2_6 (ninS ne_b1_b2_4 nin0)))).keep K1010 (ninS ne_b1_b2_9 (ninS ne_b1_b2_1 nin0)))
  obtain ⟨T1018, X1018, e1018, st1018⟩ := getF X1016 hx hZ hown (host := "") (Or.inl (own_w hw 30 rfl)) Via.refl e1016 Fa1017 (g := (mkF m 40 #[rv b1, iv 1, iv 7, dv 1, .second, iv 1] [(.ref b1)])) rfl rfl (hb hby d22_40)
  refine go st1018 ?_
  refine go (fun tg kg => XS.iloadN X1018.here hx rfl (hb hby d22_43) rfl kg) ?_
  show G (T1018.setTop (mkF m 44 #[rv b1, iv 1, iv 7, dv 1, .second, iv 1] [(.int 1), (.ref b2_3)]))
  refine go (fun tg kg => XS.aloadN X1018.here hx rfl (hb hby d22_44) rfl rfl kg) ?_
  have Fa1019 := ((m18.keep K1002 (ninS ne_b1_b2_7 (ninS ne_b1_b2_6 (ninS ne_b1_b2_4 nin0)))).keep K1010 (ninS ne_b1_b2_9 (ninS ne_b1_b2_1 nin0)))
  obtain ⟨T1020, X1020, e1020, st1020⟩ := getF X1018 hx hZ hown (host := "") (Or.inl (own_w hw 10 rfl)) Via.refl e1018 Fa1019 (g := (mkF m 45 #[rv b1, iv 1, iv 7, dv 1, .second, iv 1] [(.ref b1), (.int 1), (.ref b2_3)])) rfl rfl (hb hby d22_45)
  refine go st1020 ?_
  have Fa1021 := ((m19.keep K1002 (ninS ne_b2_3_b2_7 (ninS ne_b2_3_b2_6 (ninS ne_b2_3_b2_4 nin0)))).keep K1010 (ninS ne_b2_3_b2_9 (ninS ne_b2_3_b2_1 nin0)))
  obtain ⟨cl1022, Ar1022, q1022, S1022, M1022, H1022, U1022⟩ := id Fa1021
  have hin1022 : ¬ ((1 : Int32) < 0 ∨ cl1022.slots.size ≤ ((1 : Int32)).toNatClampNeg) := inb_of S1022 ⟨by decide, by decide⟩
  obtain ⟨T1022, h1022, X1022, e1022, W1022, st1022⟩ := stI X1020 hx hZ e1020 Ar1022 (j := (1 : Int32)) hin1022 (g := (mkF m 48 #[rv b1, iv 1, iv 7, dv 1, .second, iv 1] [(.int (-1)), (.int 1), (.ref b2_3)])) rfl rfl (hb hby d22_48)
  refine go st1022 ?_
  have V1022 : Arv Z h1022 b2_3 k2_3 .int (4 : Int32) [(.int 10), (.int (-1)), (.int 0), (.int 0)] (.int 0) := Arv.set Ar1022 q1022 S1022 M1022 H1022 U1022 rfl W1022 1 rfl (Nat.le_of_ble_eq_true rfl)
  have N1022 := Fr.snoc X1022 N1016 gg_b2_3
  have K1022 : Keep h0 h1022 [b2_7, b2_6, b2_4, b2_9, b2_1, b2_3, b1] := Kk1010.wr W1022 (Or.inl (List.mem_of_getElem? (i := 5) rfl))
  have Z1022 := Nat.le_trans Z1010 (Keep.of_wr W1022).1
  refine go (fun tg kg => XS.aloadN X1022.here hx rfl (hb hby d22_49) rfl rfl kg) ?_
  refine go (fun tg kg => XS.iloadN X1022.here hx rfl (hb hby d22_50) rfl kg) ?_
  have Fa1023 := ((Fa1003.keep K1010).wr W1022)
  have Fa1024 := (Fa1019.other W1022 (Or.inl ne_b1_b2_3))
  obtain ⟨T1025, h1025, X1025, e1025, W1025, st1025⟩ := putF X1022 hx hZ hown (host := "") (Or.inl (own_w hw 10 rfl)) Via.refl e1022 Fa1024 Fa1023 (Or.inl (own_w hw 11 rfl)) (own_w hw 2 rfl) (ty := .int) (by decide) rfl rfl (g := (mkF m 51 #[rv b1, iv 1, iv 7, dv 1, .second, iv 1] [(.int 1), (.ref b1)])) rfl rfl (hb hby d22_51)
  refine go st1025 ?_
  have Fw1025 : Fld Z h1025 b1 cF "freeSlot" "I" (.int 1) := Fa1024.same W1025
  have N1025 := Fr.snoc X1025 N1022 gg_b1
  have K1025 : Keep h0 h1025 [b2_7, b2_6, b2_4, b2_9, b2_1, b2_3, b1] := K1022.wr W1025 (Or.inl (List.mem_of_getElem? (i := 6) rfl))
  have Z1025 := Nat.le_trans Z1022 (Keep.of_wr W1025).1
  show G (T1025.setTop (mkF m 54 #[rv b1, iv 1, iv 7, dv 1, .second, iv 1] []))
  refine go (fun tg kg => XS.aloadN X1025.here hx rfl (hb hby d22_54) rfl rfl kg) ?_
  refine go (fun tg kg => XS.dup X1025.here hx rfl (hb hby d22_55) rfl rfl kg) ?_
  have Fa1026 := (Fa1023.wr W1025)
  have Fa1027 := ((((m20.keep K1002 (ninS ne_b1_b2_7 (ninS ne_b1_b2_6 (ninS ne_b1_b2_4 nin0)))).keep K1010 (ninS ne_b1_b2_9 (ninS ne_b1_b2_1 nin0))).other W1022 (Or.inl ne_b1_b2_3)).other W1025 (Or.inr (sn_openFirms_freeSlot hw)))
  obtain ⟨T1028, X1028, e1028, st1028⟩ := getF X1025 hx hZ hown (host := "") (Or.inl (own_w hw 72 rfl)) Via.refl e1025 Fa1027 (g := (mkF m 56 #[rv b1, iv 1, iv 7, dv 1, .second, iv 1] [(.ref b1), (.ref b1)])) rfl rfl (hb hby d22_56)
  refine go st1028 ?_
  refine go (fun tg kg => XS.iconst X1028.here hx rfl (hb hby d22_59) kg) ?_
  refine go (fun tg kg => XS.isub X1028.here hx rfl (hb hby d22_60) rfl kg) ?_
  obtain ⟨T1029, h1029, X1029, e1029, W1029, st1029⟩ := putF X1028 hx hZ hown (host := "") (Or.inl (own_w hw 72 rfl)) Via.refl e1028 Fa1027 Fa1026 (Or.inl (own_w hw 73 rfl)) (own_w hw 2 rfl) (ty := .int) (by decide) rfl rfl (g := (mkF m 61 #[rv b1, iv 1, iv 7, dv 1, .second, iv 1] [(.int 1), (.ref b1)])) rfl rfl (hb hby d22_61)
  refine go st1029 ?_
  have Fw1029 : Fld Z h1029 b1 cF "openFirms" "I" (.int 1) := Fa1027.same W1029
  have N1029 := Fr.snoc X1029 N1025 gg_b1
  have K1029 : Keep h0 h1029 [b2_7, b2_6, b2_4, b2_9, b2_1, b2_3, b1] := K1025.wr W1029 (Or.inl (List.mem_of_getElem? (i := 6) rfl))
  have Z1029 := Nat.le_trans Z1025 (Keep.of_wr W1029).1
  show G (T1029.setTop (mkF m 64 #[rv b1, iv 1, iv 7, dv 1, .second, iv 1] []))
  refine go (fun tg kg => XS.iload X1029.here hx rfl (hb hby d22_64) rfl kg) ?_
  refine fin (some (.int 1)) X1029 (fun h => absurd h (by decide)) (fun fs hr => retN X1029 hx (t := .boolean) hret (by simp) (hb hby d22_66) hr) (by decide) (by decide) ?_
  rw [e1029]
  have Fa1030 := (Fa1026.wr W1029)
  have Fa1031 := (((Fa1011.other W1022 (Or.inl ne_b1_b2_3)).other W1025 (Or.inr (sn_members_freeSlot hw))).other W1029 (Or.inr (sn_members_openFirms hw)))
  have Fa1032 := (((Fa1013.wr W1022).wr W1025).wr W1029)
  have Fa1033 := (((Fa1014.other W1022 (Or.inl (Ne.symm ne_b2_3_b2_4))).other W1025 (Or.inl (Ne.symm ne_b1_b2_4))).other W1029 (Or.inl (Ne.symm ne_b1_b2_4)))
  have Fa1034 := (((Fa1015.other W1022 (Ne.symm ne_b2_3_b2_7)).other W1025 (Ne.symm ne_b1_b2_7)).other W1029 (Ne.symm ne_b1_b2_7))
  have Fa1035 := ((((Gf1002_3.keep K1010 (ninS (Ne.symm ne_b2_9_b2_4) (ninS (Ne.symm ne_b2_1_b2_4) nin0))).other W1022 (Or.inl (Ne.symm ne_b2_3_b2_4))).other W1025 (Or.inl (Ne.symm ne_b1_b2_4))).other W1029 (Or.inl (Ne.symm ne_b1_b2_4)))
  have Fa1036 := ((((Gf1002_4.keep K1010 (ninS (Ne.symm ne_b2_9_b2_4) (ninS (Ne.symm ne_b2_1_b2_4) nin0))).other W1022 (Or.inl (Ne.symm ne_b2_3_b2_4))).other W1025 (Or.inl (Ne.symm ne_b1_b2_4))).other W1029 (Or.inl (Ne.symm ne_b1_b2_4)))
  have Fa1037 := ((((Gf1002_5.keep K1010 (ninS (Ne.symm ne_b2_9_b2_6) (ninS (Ne.symm ne_b2_1_b2_6) nin0))).other W1022 (Ne.symm ne_b2_3_b2_6)).other W1025 (Ne.symm ne_b1_b2_6)).other W1029 (Ne.symm ne_b1_b2_6))
  have Fa1038 := ((((Gf1002_6.keep K1010 (ninS (Ne.symm ne_b2_9_b2_4) (ninS (Ne.symm ne_b2_1_b2_4) nin0))).other W1022 (Or.inl (Ne.symm ne_b2_3_b2_4))).other W1025 (Or.inl (Ne.symm ne_b1_b2_4))).other W1029 (Or.inl (Ne.symm ne_b1_b2_4)))
  have Fa1039 := ((((Gf1002_7.keep K1010 (ninS (Ne.symm ne_b2_9_b2_4) (ninS (Ne.symm ne_b2_1_b2_4) nin0))).other W1022 (Or.inl (Ne.symm ne_b2_3_b2_4))).other W1025 (Or.inl (Ne.symm ne_b1_b2_4))).other W1029 (Or.inl (Ne.symm ne_b1_b2_4)))
  have Fa1040 := ((((Gf1002_8.keep K1010 (ninS (Ne.symm ne_b2_9_b2_4) (ninS (Ne.symm ne_b2_1_b2_4) nin0))).other W1022 (Or.inl (Ne.symm ne_b2_3_b2_4))).other W1025 (Or.inl (Ne.symm ne_b1_b2_4))).other W1029 (Or.inl (Ne.symm ne_b1_b2_4)))
  have Fa1041 := ((((Fa1004.keep K1010 (ninS ne_b1_b2_9 (ninS ne_b1_b2_1 nin0))).other W1022 (Or.inl ne_b1_b2_3)).other W1025 (Or.inr (sn_changedNow_freeSlot hw))).other W1029 (Or.inr (sn_changedNow_openFirms hw)))
  have Fa1042 := (((Gf1010_0.other W1022 (Ne.symm ne_b2_3_b2_9)).other W1025 (Ne.symm ne_b1_b2_9)).other W1029 (Ne.symm ne_b1_b2_9))
  have Fa1043 := ((((Fa1006.keep K1010 (ninS ne_b1_b2_9 (ninS ne_b1_b2_1 nin0))).other W1022 (Or.inl ne_b1_b2_3)).other W1025 (Or.inr (sn_pages_freeSlot hw))).other W1029 (Or.inr (sn_pages_openFirms hw)))
  have Fa1044 := (((Gf1010_1.other W1022 (Ne.symm ne_b2_3_b2_1)).other W1025 (Ne.symm ne_b1_b2_1)).other W1029 (Ne.symm ne_b1_b2_1))
  have Fa1045 := (((Gf1010_2.wr W1022).wr W1025).wr W1029)
  have Fa1046 := (((Fa1017.other W1022 (Or.inl ne_b1_b2_3)).other W1025 (Or.inr (sn_births_freeSlot hw))).other W1029 (Or.inr (sn_births_openFirms hw)))
  have Fa1047 := (Fw1025.other W1029 (Or.inr (sn_freeSlot_openFirms hw)))
  have Fa1048 := ((V1022.other W1025 (Ne.symm ne_b1_b2_3)).other W1029 (Ne.symm ne_b1_b2_3))
  have Fa1049 := (((((m21.keep K1002 (ninS ne_b1_b2_7 (ninS ne_b1_b2_6 (ninS ne_b1_b2_4 nin0)))).keep K1010 (ninS ne_b1_b2_9 (ninS ne_b1_b2_1 nin0))).other W1022 (Or.inl ne_b1_b2_3)).other W1025 (Or.inr (sn_nextId_freeSlot hw))).other W1029 (Or.inr (sn_nextId_openFirms hw)))
  have Fa1050 := (((((m22.keep K1002 (ninS ne_b1_b2_7 (ninS ne_b1_b2_6 (ninS ne_b1_b2_4 nin0)))).keep K1010 (ninS ne_b1_b2_9 (ninS ne_b1_b2_1 nin0))).other W1022 (Or.inl ne_b1_b2_3)).other W1025 (Or.inr (sn_ids_freeSlot hw))).other W1029 (Or.inr (sn_ids_openFirms hw)))
  have Fa1051 := (((((m23.keep K1002 (ninS ne_b1_b2_7 (ninS ne_b1_b2_6 (ninS ne_b1_b2_4 nin0)))).keep K1010 (ninS ne_b1_b2_9 (ninS ne_b1_b2_1 nin0))).other W1022 (Or.inl ne_b1_b2_3)).other W1025 (Or.inr (sn_changedBefore_freeSlot hw))).other W1029 (Or.inr (sn_changedBefore_openFirms hw)))
  have Fa1052 := (((((m24.keep K1002 (ninS ne_b1_b2_7 (ninS ne_b1_b2_6 (ninS ne_b1_b2_4 nin0)))).keep K1010 (ninS ne_b1_b2_9 (ninS ne_b1_b2_1 nin0))).other W1022 (Or.inl ne_b1_b2_3)).other W1025 (Or.inr (sn_slotsUsed_freeSlot hw))).other W1029 (Or.inr (sn_slotsUsed_openFirms hw)))
  exact ⟨rfl, N1029, K1029, Fa1031, Fa1032, Fa1033, Fa1034, Fa1035, Fa1036, Fa1037, Fa1038, Fa1039, Fa1040, Fa1030, Fa1041, Fa1042, Fa1043, Fa1044, Fa1045, Fa1046, Fa1047, Fa1048, Fw1029, Fa1049, Fa1050, Fa1051, Fa1052⟩
def Q_rm7_6 (Z : State) (b1 : Addr) (x0 : Int32) (x1 : Int32) (x2 : Int32) (x3 : Int32) (b2_3 : Addr) (k2_3 : ClassId) (b2_2 : Addr) (k2_2 : ClassId) (b2_0 : Addr) (k2_0 : ClassId) (b2_1 : Addr) (k2_1 : ClassId) (b2_4 : Addr) (b2_9 : Addr) (b2_10 : Addr) (h0 : Heap) (n0 : Nat) (v : Option Value) (h : Heap) (L : List Loc) : Prop := v = some (.int 1) ∧ Fr n0 L ∧ Keep h0 h [b1, b2_2, b2_3, b2_1] ∧ Fld Z h b1 cF "freeSlot" "I" (.int (-1)) ∧ Fld Z h b1 cF "births" "[I" (.ref b2_3) ∧ Arv Z h b2_3 k2_3 .int 4 [(.int 10), (.int x3), (.int 0), (.int 0)] (.int 0) ∧ Exa Z h b1 cF ∧ Fld Z h b1 cF "ids" "[J" (.ref b2_2) ∧ Fld Z h b1 cF "nextId" "J" (.long 4) ∧ Arv Z h b2_2 k2_2 .long 4 [(.long 1), (.long 3), (.long 0), (.long 0)] (.long 0) ∧ Fld Z h b1 cF "pages" "[[D" (.ref b2_0) ∧ Arv Z h b2_1 k2_1 .double 20 [(dl 1), (dl 2), (dl 3), (dl 0), (dl 0), (dl (x0.toInt64)), (dl (x1.toInt64)), (dl (x2.toInt64)), (dl 0), (dl 0), (dl 0), (dl 0), (dl 0), (dl 0), (dl 0), (dl 0), (dl 0), (dl 0), (dl 0), (dl 0)] (dl 0) ∧ Fld Z h b1 cF "openFirms" "I" (.int 2) ∧ Fld Z h b1 cF "members" "Lcom/example/housemartin/housemartin/firm/Members;" (.ref b2_4) ∧ Fld Z h b1 cF "changedNow" "[J" (.ref b2_9) ∧ Fld Z h b1 cF "changedBefore" "[J" (.ref b2_10) ∧ Fld Z h b1 cF "slotsUsed" "I" (.int 2) ∧ Exa Z h b2_1 "[D"
set_option maxRecDepth 65536 in
set_option maxHeartbeats 40000000 in
theorem rm7_6 (l : Launch) (Z : State) (a0 : Array Value) (hw : ∀ d ∈ tables_1, d.before a0 Z = true) (ws : List Jvm.Cond) (b1 : Addr) (x0 : Int32) (x1 : Int32) (x2 : Int32) (x3 : Int32) (b2_3 : Addr) (k2_3 : ClassId) (b2_2 : Addr) (k2_2 : ClassId) (b2_0 : Addr) (k2_0 : ClassId) (b2_1 : Addr) (k2_1 : ClassId) (b2_4 : Addr) (b2_9 : Addr) (b2_10 : Addr) (h0 : Heap) (n0 : Nat) (Z0 : n0 ≤ h0.size) (m0 : Fld Z h0 b1 cF "freeSlot" "I" (.int 1)) (m1 : Fld Z h0 b1 cF "births" "[I" (.ref b2_3)) (m2 : Arv Z h0 b2_3 k2_3 .int 4 [(.int 10), (.int (-1)), (.int 0), (.int 0)] (.int 0)) (m3 : Exa Z h0 b1 cF) (m4 : Fld Z h0 b1 cF "ids" "[J" (.ref b2_2)) (m5 : Fld Z h0 b1 cF "nextId" "J" (.long 3)) (m6 : Arv Z h0 b2_2 k2_2 .long 4 [(.long 1), (.long 2), (.long 0), (.long 0)] (.long 0)) (m7 : Fld Z h0 b1 cF "pages" "[[D" (.ref b2_0)) (m8 : Arv Z h0 b2_0 k2_0 (.array .double) 1 [(.ref b2_1)] .null) (m9 : Arv Z h0 b2_1 k2_1 .double 20 [(dl 1), (dl 2), (dl 3), (dl 0), (dl 0), (dl 4), (dl 5), (dl 6), (dl 0), (dl 0), (dl 0), (dl 0), (dl 0), (dl 0), (dl 0), (dl 0), (dl 0), (dl 0), (dl 0), (dl 0)] (dl 0)) (m10 : Fld Z h0 b1 cF "openFirms" "I" (.int 1)) (m11 : Fld Z h0 b1 cF "members" "Lcom/example/housemartin/housemartin/firm/Members;" (.ref b2_4)) (m12 : Fld Z h0 b1 cF "changedNow" "[J" (.ref b2_9)) (m13 : Fld Z h0 b1 cF "changedBefore" "[J" (.ref b2_10)) (m14 : Fld Z h0 b1 cF "slotsUsed" "I" (.int 2)) (m15 : Exa Z h0 b2_1 "[D") (ne_b2_2_b1 : b2_2 ≠ b1) (ne_b2_3_b1 : b2_3 ≠ b1) (ne_b2_3_b2_2 : b2_3 ≠ b2_2) (ne_b2_0_b1 : b2_0 ≠ b1) (ne_b2_0_b2_2 : b2_0 ≠ b2_2) (ne_b2_0_b2_3 : b2_0 ≠ b2_3) (ne_b2_1_b1 : b2_1 ≠ b1) (ne_b2_1_b2_2 : b2_1 ≠ b2_2) (ne_b2_1_b2_3 : b2_1 ≠ b2_3) (gg_b1 : n0 ≤ b1) (gg_b2_2 : n0 ≤ b2_2) (gg_b2_3 : n0 ≤ b2_3) (gg_b2_1 : n0 ≤ b2_1) :
    oM l y7 prog_8_method_2_code 11 (some .int) ws (⟨0, 0, 0, 0⟩ : Room) Z h0 #[(.ref b1), (dl (x0.toInt64)), (dl (x1.toInt64)), (dl (x2.toInt64)), (.int x3)] (Q_rm7_6 Z b1 x0 x1 x2 x3 b2_3 k2_3 b2_2 k2_2 b2_0 k2_0 b2_1 k2_1 b2_4 b2_9 b2_10 h0 n0) := by
  refine own_enter (Q := Q_rm7_6 Z b1 x0 x1 x2 x3 b2_3 k2_3 b2_2 k2_2 b2_0 k2_0 b2_1 k2_1 b2_4 b2_9 b2_10 h0 n0) (plainFor_of_name pn_com_example_housemartin_housemartin_firm_FirmSlots) ?_
  intro p e s m below meth c s₁ G X0 hx hby hml hZ hown hnm hret e0 go fin
  replace hown : s.vm.findClass cF = some m.cls := hown
  replace hnm : meth.name = "open" := hnm
  replace hml : c.maxLocals = 11 := hml
  rw [ef_7 m b1 _ _ _ x3]
  have N0 := Fr.nil n0
  refine go (fun tg kg => XS.aloadN X0.here hx rfl (hb hby d7_0) rfl rfl kg) ?_
  obtain ⟨T1001, X1001, e1001, st1001⟩ := getF X0 hx hZ hown (host := "") (Or.inl (own_w hw 10 rfl)) Via.refl e0 m0 (g := (mkF m 1 #[rv b1, dv (x0.toInt64), .second, dv (x1.toInt64), .second, dv (x2.toInt64), .second, iv x3, .unset, .unset, .unset] [(.ref b1)])) rfl rfl (hb hby d7_1)
  refine go st1001 ?_
  refine go (fun tg kg => XS.iconst X1001.here hx rfl (hb hby d7_4) kg) ?_
  refine go (fun tg kg => XS.icmpNo X1001.here hx rfl (hb hby d7_5) rfl (feq (by decide)).1 kg) ?_
  refine go (fun tg kg => XS.aloadN X1001.here hx rfl (hb hby d7_8) rfl rfl kg) ?_
  show G (T1001.setTop (mkF m 9 #[rv b1, dv (x0.toInt64), .second, dv (x1.toInt64), .second, dv (x2.toInt64), .second, iv x3, .unset, .unset, .unset] [(.ref b1)]))
  obtain ⟨T1002, X1002, e1002, st1002⟩ := getF X1001 hx hZ hown (host := "") (Or.inl (own_w hw 10 rfl)) Via.refl e1001 m0 (g := (mkF m 9 #[rv b1, dv (x0.toInt64), .second, dv (x1.toInt64), .second, dv (x2.toInt64), .second, iv x3, .unset, .unset, .unset] [(.ref b1)])) rfl rfl (hb hby d7_9)
  refine go st1002 ?_
  refine go (fun tg kg => XS.istore X1002.here hx rfl (hb hby d7_12) rfl (l' := #[rv b1, dv (x0.toInt64), .second, dv (x1.toInt64), .second, dv (x2.toInt64), .second, iv x3, iv 1, .unset, .unset]) rfl kg) ?_
  refine go (fun tg kg => XS.aloadN X1002.here hx rfl (hb hby d7_14) rfl rfl kg) ?_
  refine go (fun tg kg => XS.aloadN X1002.here hx rfl (hb hby d7_15) rfl rfl kg) ?_
  obtain ⟨T1003, X1003, e1003, st1003⟩ := getF X1002 hx hZ hown (host := "") (Or.inl (own_w hw 30 rfl)) Via.refl e1002 m1 (g := (mkF m 16 #[rv b1, dv (x0.toInt64), .second, dv (x1.toInt64), .second, dv (x2.toInt64), .second, iv x3, iv 1, .unset, .unset] [(.ref b1), (.ref b1)])) rfl rfl (hb hby d7_16)
  refine go st1003 ?_
  refine go (fun tg kg => XS.iload X1003.here hx rfl (hb hby d7_19) rfl kg) ?_
  show G (T1003.setTop (mkF m 21 #[rv b1, dv (x0.toInt64), .second, dv (x1.toInt64), .second, dv (x2.toInt64), .second, iv x3, iv 1, .unset, .unset] [(.int 1), (.ref b2_3), (.ref b1)]))
  obtain ⟨cl1004, Ar1004, q1004, S1004, M1004, H1004, U1004⟩ := id m2
  have hin1004 : ¬ ((1 : Int32) < 0 ∨ cl1004.slots.size ≤ ((1 : Int32)).toNatClampNeg) := inb_of S1004 ⟨by decide, by decide⟩
  refine go (fun tg kg => X1003.iaload hx (j := (1 : Int32)) (v := (.int (-1))) (by rw [e1003]; exact Ar1004.1) (State.isArrayOf_alike hZ.alike Ar1004.2.1) Ar1004.2.2 hin1004 (H1004.at hin1004 rfl) (g := (mkF m 21 #[rv b1, dv (x0.toInt64), .second, dv (x1.toInt64), .second, dv (x2.toInt64), .second, iv x3, iv 1, .unset, .unset] [(.int 1), (.ref b2_3), (.ref b1)])) rfl rfl (hb hby d7_21) _ kg) ?_
  obtain ⟨T1005, h1005, X1005, e1005, W1005, st1005⟩ := putF X1003 hx hZ hown (host := "") (Or.inl (own_w hw 10 rfl)) Via.refl e1003 m0 m3 (Or.inl (own_w hw 11 rfl)) (own_w hw 2 rfl) (ty := .int) (by decide) rfl rfl (g := (mkF m 22 #[rv b1, dv (x0.toInt64), .second, dv (x1.toInt64), .second, dv (x2.toInt64), .second, iv x3, iv 1, .unset, .unset] [(.int (-1)), (.ref b1)])) rfl rfl (hb hby d7_22)
  refine go st1005 ?_
  have Fw1005 : Fld Z h1005 b1 cF "freeSlot" "I" (.int (-1)) := m0.same W1005
  have N1005 := Fr.snoc X1005 N0 gg_b1
  have K1005 : Keep h0 h1005 [b1, b2_2, b2_3, b2_1] := (Keep.refl h0 [b1, b2_2, b2_3, b2_1]).wr W1005 (Or.inl (List.mem_of_getElem? (i := 0) rfl))
  have Z1005 := Nat.le_trans Z0 (Keep.of_wr W1005).1
  refine go (fun tg kg => XS.goto X1005.here hx rfl (pc0 := 25) (pc' := 44) rfl (hb hby d7_25) (by decide) (by decide) kg) ?_
  refine go (fun tg kg => XS.aloadN X1005.here hx rfl (hb hby d7_44) rfl rfl kg) ?_
  have Fa1006 := (m3.wr W1005)
  have Fa1007 := (m4.other W1005 (Or.inr (sn_ids_freeSlot hw)))
  obtain ⟨T1008, X1008, e1008, st1008⟩ := getF X1005 hx hZ hown (host := "") (Or.inl (own_w hw 27 rfl)) Via.refl e1005 Fa1007 (g := (mkF m 45 #[rv b1, dv (x0.toInt64), .second, dv (x1.toInt64), .second, dv (x2.toInt64), .second, iv x3, iv 1, .unset, .unset] [(.ref b1)])) rfl rfl (hb hby d7_45)
  refine go st1008 ?_
  refine go (fun tg kg => XS.iload X1008.here hx rfl (hb hby d7_48) rfl kg) ?_
  show G (T1008.setTop (mkF m 50 #[rv b1, dv (x0.toInt64), .second, dv (x1.toInt64), .second, dv (x2.toInt64), .second, iv x3, iv 1, .unset, .unset] [(.int 1), (.ref b2_2)]))
  refine go (fun tg kg => XS.aloadN X1008.here hx rfl (hb hby d7_50) rfl rfl kg) ?_
  have Fa1009 := (m5.other W1005 (Or.inr (sn_nextId_freeSlot hw)))
  obtain ⟨T1010, X1010, e1010, st1010⟩ := getF X1008 hx hZ hown (host := "") (Or.inl (own_w hw 12 rfl)) Via.refl e1008 Fa1009 (g := (mkF m 51 #[rv b1, dv (x0.toInt64), .second, dv (x1.toInt64), .second, dv (x2.toInt64), .second, iv x3, iv 1, .unset, .unset] [(.ref b1), (.int 1), (.ref b2_2)])) rfl rfl (hb hby d7_51)
  refine go st1010 ?_
  have Fa1011 := (m6.other W1005 ne_b2_2_b1)
  obtain ⟨cl1012, Ar1012, q1012, S1012, M1012, H1012, U1012⟩ := id Fa1011
  have hin1012 : ¬ ((1 : Int32) < 0 ∨ cl1012.slots.size ≤ ((1 : Int32)).toNatClampNeg) := inb_of S1012 ⟨by decide, by decide⟩
  obtain ⟨T1012, h1012, X1012, e1012, W1012, st1012⟩ := stJ X1010 hx hZ e1010 Ar1012 (j := (1 : Int32)) hin1012 (g := (mkF m 54 #[rv b1, dv (x0.toInt64), .second, dv (x1.toInt64), .second, dv (x2.toInt64), .second, iv x3, iv 1, .unset, .unset] [(.long 3), (.int 1), (.ref b2_2)])) rfl rfl (hb hby d7_54)
  refine go st1012 ?_
  have V1012 : Arv Z h1012 b2_2 k2_2 .long (4 : Int32) [(.long 1), (.long 3), (.long 0), (.long 0)] (.long 0) := Arv.set Ar1012 q1012 S1012 M1012 H1012 U1012 rfl W1012 1 rfl (Nat.le_of_ble_eq_true rfl)
  have N1012 := Fr.snoc X1012 N1005 gg_b2_2
  have K1012 : Keep h0 h1012 [b1, b2_2, b2_3, b2_1] := K1005.wr W1012 (Or.inl (List.mem_of_getElem? (i := 1) rfl))
  have Z1012 := Nat.le_trans Z1005 (Keep.of_wr W1012).1
  refine go (fun tg kg => XS.aloadN X1012.here hx rfl (hb hby d7_55) rfl rfl kg) ?_
  refine go (fun tg kg => XS.dup X1012.here hx rfl (hb hby d7_56) rfl rfl kg) ?_
  have Fa1013 := (Fa1009.other W1012 (Or.inl (Ne.symm ne_b2_2_b1)))
  obtain ⟨T1014, X1014, e1014, st1014⟩ := getF X1012 hx hZ hown (host := "") (Or.inl (own_w hw 12 rfl)) Via.refl e1012 Fa1013 (g := (mkF m 57 #[rv b1, dv (x0.toInt64), .second, dv (x1.toInt64), .second, dv (x2.toInt64), .second, iv x3, iv 1, .unset, .unset] [(.ref b1), (.ref b1)])) rfl rfl (hb hby d7_57)
  refine go st1014 ?_
  show G (T1014.setTop (mkF m 60 #[rv b1, dv (x0.toInt64), .second, dv (x1.toInt64), .second, dv (x2.toInt64), .second, iv x3, iv 1, .unset, .unset] [(.long 3), (.ref b1)]))
  refine go (fun tg kg => XS.lconst X1014.here hx rfl (hb hby d7_60) kg) ?_
  refine go (fun tg kg => XS.ladd X1014.here hx rfl (hb hby d7_61) rfl kg) ?_
  have Fa1015 := (Fa1006.wr W1012)
  obtain ⟨T1016, h1016, X1016, e1016, W1016, st1016⟩ := putF X1014 hx hZ hown (host := "") (Or.inl (own_w hw 12 rfl)) Via.refl e1014 Fa1013 Fa1015 (Or.inl (own_w hw 13 rfl)) (own_w hw 2 rfl) (ty := .long) (by decide) rfl rfl (g := (mkF m 62 #[rv b1, dv (x0.toInt64), .second, dv (x1.toInt64), .second, dv (x2.toInt64), .second, iv x3, iv 1, .unset, .unset] [(.long 4), (.ref b1)])) rfl rfl (hb hby d7_62)
  refine go st1016 ?_
  have Fw1016 : Fld Z h1016 b1 cF "nextId" "J" (.long 4) := Fa1013.same W1016
  have N1016 := Fr.snoc X1016 N1012 gg_b1
  have K1016 : Keep h0 h1016 [b1, b2_2, b2_3, b2_1] := K1012.wr W1016 (Or.inl (List.mem_of_getElem? (i := 0) rfl))
  have Z1016 := Nat.le_trans Z1012 (Keep.of_wr W1016).1
  refine go (fun tg kg => XS.aloadN X1016.here hx rfl (hb hby d7_65) rfl rfl kg) ?_
  have Fa1017 := (Fa1015.wr W1016)
  have Fa1018 := (((m1.other W1005 (Or.inr (sn_births_freeSlot hw))).other W1012 (Or.inl (Ne.symm ne_b2_2_b1))).other W1016 (Or.inr (sn_births_nextId hw)))
  obtain ⟨T1019, X1019, e1019, st1019⟩ := getF X1016 hx hZ hown (host := "") (Or.inl (own_w hw 30 rfl)) Via.refl e1016 Fa1018 (g := (mkF m 66 #[rv b1, dv (x0.toInt64), .second, dv (x1.toInt64), .second, dv (x2.toInt64), .second, iv x3, iv 1, .unset, .unset] [(.ref b1)])) rfl rfl (hb hby d7_66)
  refine go st1019 ?_
  refine go (fun tg kg => XS.iload X1019.here hx rfl (hb hby d7_69) rfl kg) ?_
  show G (T1019.setTop (mkF m 71 #[rv b1, dv (x0.toInt64), .second, dv (x1.toInt64), .second, dv (x2.toInt64), .second, iv x3, iv 1, .unset, .unset] [(.int 1), (.ref b2_3)]))
  refine go (fun tg kg => XS.iload X1019.here hx rfl (hb hby d7_71) rfl kg) ?_
  have Fa1020 := (((m2.other W1005 ne_b2_3_b1).other W1012 ne_b2_3_b2_2).other W1016 ne_b2_3_b1)
  obtain ⟨cl1021, Ar1021, q1021, S1021, M1021, H1021, U1021⟩ := id Fa1020
  have hin1021 : ¬ ((1 : Int32) < 0 ∨ cl1021.slots.size ≤ ((1 : Int32)).toNatClampNeg) := inb_of S1021 ⟨by decide, by decide⟩
  obtain ⟨T1021, h1021, X1021, e1021, W1021, st1021⟩ := stI X1019 hx hZ e1019 Ar1021 (j := (1 : Int32)) hin1021 (g := (mkF m 73 #[rv b1, dv (x0.toInt64), .second, dv (x1.toInt64), .second, dv (x2.toInt64), .second, iv x3, iv 1, .unset, .unset] [(.int x3), (.int 1), (.ref b2_3)])) rfl rfl (hb hby d7_73)
  refine go st1021 ?_
  have V1021 : Arv Z h1021 b2_3 k2_3 .int (4 : Int32) [(.int 10), (.int x3), (.int 0), (.int 0)] (.int 0) := Arv.set Ar1021 q1021 S1021 M1021 H1021 U1021 rfl W1021 1 rfl (Nat.le_of_ble_eq_true rfl)
  have N1021 := Fr.snoc X1021 N1016 gg_b2_3
  have K1021 : Keep h0 h1021 [b1, b2_2, b2_3, b2_1] := K1016.wr W1021 (Or.inl (List.mem_of_getElem? (i := 2) rfl))
  have Z1021 := Nat.le_trans Z1016 (Keep.of_wr W1021).1
  refine go (fun tg kg => XS.aloadN X1021.here hx rfl (hb hby d7_74) rfl rfl kg) ?_
  have Fa1022 := (Fa1017.wr W1021)
  have Fa1023 := ((((m7.other W1005 (Or.inr (sn_pages_freeSlot hw))).other W1012 (Or.inl (Ne.symm ne_b2_2_b1))).other W1016 (Or.inr (sn_pages_nextId hw))).other W1021 (Or.inl (Ne.symm ne_b2_3_b1)))
  obtain ⟨T1024, X1024, e1024, st1024⟩ := getF X1021 hx hZ hown (host := "") (Or.inl (own_w hw 17 rfl)) Via.refl e1021 Fa1023 (g := (mkF m 75 #[rv b1, dv (x0.toInt64), .second, dv (x1.toInt64), .second, dv (x2.toInt64), .second, iv x3, iv 1, .unset, .unset] [(.ref b1)])) rfl rfl (hb hby d7_75)
  refine go st1024 ?_
  refine go (fun tg kg => XS.iload X1024.here hx rfl (hb hby d7_78) rfl kg) ?_
  refine go (fun tg kg => XS.bipush X1024.here hx rfl (hb hby d7_80) kg) ?_
  show G (T1024.setTop (mkF m 82 #[rv b1, dv (x0.toInt64), .second, dv (x1.toInt64), .second, dv (x2.toInt64), .second, iv x3, iv 1, .unset, .unset] [(.int 24), (.int 1), (.ref b2_0)]))
  refine go (fun tg kg => XS.iushr X1024.here hx rfl (hb hby d7_82) rfl kg) ?_
  show G (T1024.setTop (mkF m 83 #[rv b1, dv (x0.toInt64), .second, dv (x1.toInt64), .second, dv (x2.toInt64), .second, iv x3, iv 1, .unset, .unset] [(.int (((1 : Int32).toUInt32 >>> ((24 : Int32) &&& 31).toUInt32).toInt32)), (.ref b2_0)]))
  rw [show (((1 : Int32).toUInt32 >>> ((24 : Int32) &&& 31).toUInt32).toInt32) = (0 : Int32) from by decide]
  show G (T1024.setTop (mkF m 83 #[rv b1, dv (x0.toInt64), .second, dv (x1.toInt64), .second, dv (x2.toInt64), .second, iv x3, iv 1, .unset, .unset] [(.int 0), (.ref b2_0)]))
  have Fa1025 := ((((m8.other W1005 ne_b2_0_b1).other W1012 ne_b2_0_b2_2).other W1016 ne_b2_0_b1).other W1021 ne_b2_0_b2_3)
  obtain ⟨cl1026, Ar1026, q1026, S1026, M1026, H1026, U1026⟩ := id Fa1025
  have hin1026 : ¬ ((0 : Int32) < 0 ∨ cl1026.slots.size ≤ ((0 : Int32)).toNatClampNeg) := inb_of S1026 ⟨by decide, by decide⟩
  refine go (fun tg kg => X1024.aaload hx (j := (0 : Int32)) (v := (.ref b2_1)) (by rw [e1024]; exact Ar1026.1) (State.isArrayOf_alike hZ.alike Ar1026.2.1) rfl Ar1026.2.2 hin1026 (H1026.at hin1026 rfl) (g := (mkF m 83 #[rv b1, dv (x0.toInt64), .second, dv (x1.toInt64), .second, dv (x2.toInt64), .second, iv x3, iv 1, .unset, .unset] [(.int 0), (.ref b2_0)])) rfl rfl (hb hby d7_83) _ kg) ?_
  refine go (fun tg kg => XS.astore X1024.here hx rfl (hb hby d7_84) rfl rfl (l' := #[rv b1, dv (x0.toInt64), .second, dv (x1.toInt64), .second, dv (x2.toInt64), .second, iv x3, iv 1, rv b2_1, .unset]) rfl kg) ?_
  refine go (fun tg kg => XS.iload X1024.here hx rfl (hb hby d7_86) rfl kg) ?_
  refine go (fun tg kg => X1024.ldcInt hx hown (mvT hZ (own_w hw 71 rfl)) (g := (mkF m 88 #[rv b1, dv (x0.toInt64), .second, dv (x1.toInt64), .second, dv (x2.toInt64), .second, iv x3, iv 1, rv b2_1, .unset] [(.int 1)])) rfl (hb hby d7_88) _ kg) ?_
  refine go (fun tg kg => XS.iand X1024.here hx rfl (hb hby d7_90) rfl kg) ?_
  refine go (fun tg kg => XS.iconst X1024.here hx rfl (hb hby d7_91) kg) ?_
  show G (T1024.setTop (mkF m 92 #[rv b1, dv (x0.toInt64), .second, dv (x1.toInt64), .second, dv (x2.toInt64), .second, iv x3, iv 1, rv b2_1, .unset] [(.int 5), (.int 1)]))
  refine go (fun tg kg => XS.imul X1024.here hx rfl (hb hby d7_92) rfl kg) ?_
  refine go (fun tg kg => XS.istore X1024.here hx rfl (hb hby d7_93) rfl (l' := #[rv b1, dv (x0.toInt64), .second, dv (x1.toInt64), .second, dv (x2.toInt64), .second, iv x3, iv 1, rv b2_1, iv 5]) rfl kg) ?_
  refine go (fun tg kg => XS.aload X1024.here hx rfl (hb hby d7_95) rfl rfl kg) ?_
  refine go (fun tg kg => XS.iload X1024.here hx rfl (hb hby d7_97) rfl kg) ?_
  refine go (fun tg kg => XS.iconst X1024.here hx rfl (hb hby d7_99) kg) ?_
  refine go (fun tg kg => XS.iadd X1024.here hx rfl (hb hby d7_100) rfl kg) ?_
  show G (T1024.setTop (mkF m 101 #[rv b1, dv (x0.toInt64), .second, dv (x1.toInt64), .second, dv (x2.toInt64), .second, iv x3, iv 1, rv b2_1, iv 5] [(.int 5), (.ref b2_1)]))
  refine go (fun tg kg => XS.dloadN X1024.here hx rfl (hb hby d7_101) rfl kg) ?_
  have Fa1027 := ((((m9.other W1005 ne_b2_1_b1).other W1012 ne_b2_1_b2_2).other W1016 ne_b2_1_b1).other W1021 ne_b2_1_b2_3)
  obtain ⟨cl1028, Ar1028, q1028, S1028, M1028, H1028, U1028⟩ := id Fa1027
  have hin1028 : ¬ ((5 : Int32) < 0 ∨ cl1028.slots.size ≤ ((5 : Int32)).toNatClampNeg) := inb_of S1028 ⟨by decide, by decide⟩
  obtain ⟨T1028, h1028, X1028, e1028, W1028, st1028⟩ := stD X1024 hx hZ e1024 Ar1028 (j := (5 : Int32)) hin1028 (g := (mkF m 102 #[rv b1, dv (x0.toInt64), .second, dv (x1.toInt64), .second, dv (x2.toInt64), .second, iv x3, iv 1, rv b2_1, iv 5] [(dl (x0.toInt64)), (.int 5), (.ref b2_1)])) rfl rfl (hb hby d7_102)
  refine go st1028 ?_
  have V1028 : Arv Z h1028 b2_1 k2_1 .double (20 : Int32) [(dl 1), (dl 2), (dl 3), (dl 0), (dl 0), (dl (x0.toInt64)), (dl 5), (dl 6), (dl 0), (dl 0), (dl 0), (dl 0), (dl 0), (dl 0), (dl 0), (dl 0), (dl 0), (dl 0), (dl 0), (dl 0)] (dl 0) := Arv.set Ar1028 q1028 S1028 M1028 H1028 U1028 rfl W1028 5 rfl (Nat.le_of_ble_eq_true rfl)
  have N1028 := Fr.snoc X1028 N1021 gg_b2_1
  have K1028 : Keep h0 h1028 [b1, b2_2, b2_3, b2_1] := K1021.wr W1028 (Or.inl (List.mem_of_getElem? (i := 3) rfl))
  have Z1028 := Nat.le_trans Z1021 (Keep.of_wr W1028).1
  refine go (fun tg kg => XS.aload X1028.here hx rfl (hb hby d7_103) rfl rfl kg) ?_
  refine go (fun tg kg => XS.iload X1028.here hx rfl (hb hby d7_105) rfl kg) ?_
  refine go (fun tg kg => XS.iconst X1028.here hx rfl (hb hby d7_107) kg) ?_
  refine go (fun tg kg => XS.iadd X1028.here hx rfl (hb hby d7_108) rfl kg) ?_
  show G (T1028.setTop (mkF m 109 #[rv b1, dv (x0.toInt64), .second, dv (x1.toInt64), .second, dv (x2.toInt64), .second, iv x3, iv 1, rv b2_1, iv 5] [(.int 6), (.ref b2_1)]))
  refine go (fun tg kg => XS.dloadN X1028.here hx rfl (hb hby d7_109) rfl kg) ?_
  obtain ⟨cl1029, Ar1029, q1029, S1029, M1029, H1029, U1029⟩ := id V1028
  have hin1029 : ¬ ((6 : Int32) < 0 ∨ cl1029.slots.size ≤ ((6 : Int32)).toNatClampNeg) := inb_of S1029 ⟨by decide, by decide⟩
  obtain ⟨T1029, h1029, X1029, e1029, W1029, st1029⟩ := stD X1028 hx hZ e1028 Ar1029 (j := (6 : Int32)) hin1029 (g := (mkF m 110 #[rv b1, dv (x0.toInt64), .second, dv (x1.toInt64), .second, dv (x2.toInt64), .second, iv x3, iv 1, rv b2_1, iv 5] [(dl (x1.toInt64)), (.int 6), (.ref b2_1)])) rfl rfl (hb hby d7_110)
  refine go st1029 ?_
  have V1029 : Arv Z h1029 b2_1 k2_1 .double (20 : Int32) [(dl 1), (dl 2), (dl 3), (dl 0), (dl 0), (dl (x0.toInt64)), (dl (x1.toInt64)), (dl 6), (dl 0), (dl 0), (dl 0), (dl 0), (dl 0), (dl 0), (dl 0), (dl 0), (dl 0), (dl 0), (dl 0), (dl 0)] (dl 0) := Arv.set Ar1029 q1029 S1029 M1029 H1029 U1029 rfl W1029 6 rfl (Nat.le_of_ble_eq_true rfl)
  have N1029 := Fr.snoc X1029 N1028 gg_b2_1
  have K1029 : Keep h0 h1029 [b1, b2_2, b2_3, b2_1] := K1028.wr W1029 (Or.inl (List.mem_of_getElem? (i := 3) rfl))
  have Z1029 := Nat.le_trans Z1028 (Keep.of_wr W1029).1
  refine go (fun tg kg => XS.aload X1029.here hx rfl (hb hby d7_111) rfl rfl kg) ?_
  refine go (fun tg kg => XS.iload X1029.here hx rfl (hb hby d7_113) rfl kg) ?_
  refine go (fun tg kg => XS.iconst X1029.here hx rfl (hb hby d7_115) kg) ?_
  refine go (fun tg kg => XS.iadd X1029.here hx rfl (hb hby d7_116) rfl kg) ?_
  show G (T1029.setTop (mkF m 117 #[rv b1, dv (x0.toInt64), .second, dv (x1.toInt64), .second, dv (x2.toInt64), .second, iv x3, iv 1, rv b2_1, iv 5] [(.int 7), (.ref b2_1)]))
  refine go (fun tg kg => XS.dload X1029.here hx rfl (hb hby d7_117) rfl kg) ?_
  obtain ⟨cl1030, Ar1030, q1030, S1030, M1030, H1030, U1030⟩ := id V1029
  have hin1030 : ¬ ((7 : Int32) < 0 ∨ cl1030.slots.size ≤ ((7 : Int32)).toNatClampNeg) := inb_of S1030 ⟨by decide, by decide⟩
  obtain ⟨T1030, h1030, X1030, e1030, W1030, st1030⟩ := stD X1029 hx hZ e1029 Ar1030 (j := (7 : Int32)) hin1030 (g := (mkF m 119 #[rv b1, dv (x0.toInt64), .second, dv (x1.toInt64), .second, dv (x2.toInt64), .second, iv x3, iv 1, rv b2_1, iv 5] [(dl (x2.toInt64)), (.int 7), (.ref b2_1)])) rfl rfl (hb hby d7_119)
  refine go st1030 ?_
  have V1030 : Arv Z h1030 b2_1 k2_1 .double (20 : Int32) [(dl 1), (dl 2), (dl 3), (dl 0), (dl 0), (dl (x0.toInt64)), (dl (x1.toInt64)), (dl (x2.toInt64)), (dl 0), (dl 0), (dl 0), (dl 0), (dl 0), (dl 0), (dl 0), (dl 0), (dl 0), (dl 0), (dl 0), (dl 0)] (dl 0) := Arv.set Ar1030 q1030 S1030 M1030 H1030 U1030 rfl W1030 7 rfl (Nat.le_of_ble_eq_true rfl)
  have N1030 := Fr.snoc X1030 N1029 gg_b2_1
  have K1030 : Keep h0 h1030 [b1, b2_2, b2_3, b2_1] := K1029.wr W1030 (Or.inl (List.mem_of_getElem? (i := 3) rfl))
  have Z1030 := Nat.le_trans Z1029 (Keep.of_wr W1030).1
  refine go (fun tg kg => XS.aload X1030.here hx rfl (hb hby d7_120) rfl rfl kg) ?_
  refine go (fun tg kg => XS.iload X1030.here hx rfl (hb hby d7_122) rfl kg) ?_
  refine go (fun tg kg => XS.iconst X1030.here hx rfl (hb hby d7_124) kg) ?_
  refine go (fun tg kg => XS.iadd X1030.here hx rfl (hb hby d7_125) rfl kg) ?_
  show G (T1030.setTop (mkF m 126 #[rv b1, dv (x0.toInt64), .second, dv (x1.toInt64), .second, dv (x2.toInt64), .second, iv x3, iv 1, rv b2_1, iv 5] [(.int 8), (.ref b2_1)]))
  refine go (fun tg kg => XS.dconst0 X1030.here hx rfl (hb hby d7_126) own_d0 kg) ?_
  obtain ⟨cl1031, Ar1031, q1031, S1031, M1031, H1031, U1031⟩ := id V1030
  have hin1031 : ¬ ((8 : Int32) < 0 ∨ cl1031.slots.size ≤ ((8 : Int32)).toNatClampNeg) := inb_of S1031 ⟨by decide, by decide⟩
  obtain ⟨T1031, h1031, X1031, e1031, W1031, st1031⟩ := stD X1030 hx hZ e1030 Ar1031 (j := (8 : Int32)) hin1031 (g := (mkF m 127 #[rv b1, dv (x0.toInt64), .second, dv (x1.toInt64), .second, dv (x2.toInt64), .second, iv x3, iv 1, rv b2_1, iv 5] [(dl 0), (.int 8), (.ref b2_1)])) rfl rfl (hb hby d7_127)
  refine go st1031 ?_
  have V1031 : Arv Z h1031 b2_1 k2_1 .double (20 : Int32) [(dl 1), (dl 2), (dl 3), (dl 0), (dl 0), (dl (x0.toInt64)), (dl (x1.toInt64)), (dl (x2.toInt64)), (dl 0), (dl 0), (dl 0), (dl 0), (dl 0), (dl 0), (dl 0), (dl 0), (dl 0), (dl 0), (dl 0), (dl 0)] (dl 0) := Arv.set Ar1031 q1031 S1031 M1031 H1031 U1031 rfl W1031 8 rfl (Nat.le_of_ble_eq_true rfl)
  have N1031 := Fr.snoc X1031 N1030 gg_b2_1
  have K1031 : Keep h0 h1031 [b1, b2_2, b2_3, b2_1] := K1030.wr W1031 (Or.inl (List.mem_of_getElem? (i := 3) rfl))
  have Z1031 := Nat.le_trans Z1030 (Keep.of_wr W1031).1
  refine go (fun tg kg => XS.aload X1031.here hx rfl (hb hby d7_128) rfl rfl kg) ?_
  refine go (fun tg kg => XS.iload X1031.here hx rfl (hb hby d7_130) rfl kg) ?_
  refine go (fun tg kg => XS.iconst X1031.here hx rfl (hb hby d7_132) kg) ?_
  refine go (fun tg kg => XS.iadd X1031.here hx rfl (hb hby d7_133) rfl kg) ?_
  show G (T1031.setTop (mkF m 134 #[rv b1, dv (x0.toInt64), .second, dv (x1.toInt64), .second, dv (x2.toInt64), .second, iv x3, iv 1, rv b2_1, iv 5] [(.int 9), (.ref b2_1)]))
  refine go (fun tg kg => XS.dconst0 X1031.here hx rfl (hb hby d7_134) own_d0 kg) ?_
  obtain ⟨cl1032, Ar1032, q1032, S1032, M1032, H1032, U1032⟩ := id V1031
  have hin1032 : ¬ ((9 : Int32) < 0 ∨ cl1032.slots.size ≤ ((9 : Int32)).toNatClampNeg) := inb_of S1032 ⟨by decide, by decide⟩
  obtain ⟨T1032, h1032, X1032, e1032, W1032, st1032⟩ := stD X1031 hx hZ e1031 Ar1032 (j := (9 : Int32)) hin1032 (g := (mkF m 135 #[rv b1, dv (x0.toInt64), .second, dv (x1.toInt64), .second, dv (x2.toInt64), .second, iv x3, iv 1, rv b2_1, iv 5] [(dl 0), (.int 9), (.ref b2_1)])) rfl rfl (hb hby d7_135)
  refine go st1032 ?_
  have V1032 : Arv Z h1032 b2_1 k2_1 .double (20 : Int32) [(dl 1), (dl 2), (dl 3), (dl 0), (dl 0), (dl (x0.toInt64)), (dl (x1.toInt64)), (dl (x2.toInt64)), (dl 0), (dl 0), (dl 0), (dl 0), (dl 0), (dl 0), (dl 0), (dl 0), (dl 0), (dl 0), (dl 0), (dl 0)] (dl 0) := Arv.set Ar1032 q1032 S1032 M1032 H1032 U1032 rfl W1032 9 rfl (Nat.le_of_ble_eq_true rfl)
  have N1032 := Fr.snoc X1032 N1031 gg_b2_1
  have K1032 : Keep h0 h1032 [b1, b2_2, b2_3, b2_1] := K1031.wr W1032 (Or.inl (List.mem_of_getElem? (i := 3) rfl))
  have Z1032 := Nat.le_trans Z1031 (Keep.of_wr W1032).1
  refine go (fun tg kg => XS.aloadN X1032.here hx rfl (hb hby d7_136) rfl rfl kg) ?_
  refine go (fun tg kg => XS.dup X1032.here hx rfl (hb hby d7_137) rfl rfl kg) ?_
  have Fa1033 := (((((Fa1022.wr W1028).wr W1029).wr W1030).wr W1031).wr W1032)
  have Fa1034 := (((((((((m10.other W1005 (Or.inr (sn_openFirms_freeSlot hw))).other W1012 (Or.inl (Ne.symm ne_b2_2_b1))).other W1016 (Or.inr (sn_openFirms_nextId hw))).other W1021 (Or.inl (Ne.symm ne_b2_3_b1))).other W1028 (Or.inl (Ne.symm ne_b2_1_b1))).other W1029 (Or.inl (Ne.symm ne_b2_1_b1))).other W1030 (Or.inl (Ne.symm ne_b2_1_b1))).other W1031 (Or.inl (Ne.symm ne_b2_1_b1))).other W1032 (Or.inl (Ne.symm ne_b2_1_b1)))
  obtain ⟨T1035, X1035, e1035, st1035⟩ := getF X1032 hx hZ hown (host := "") (Or.inl (own_w hw 72 rfl)) Via.refl e1032 Fa1034 (g := (mkF m 138 #[rv b1, dv (x0.toInt64), .second, dv (x1.toInt64), .second, dv (x2.toInt64), .second, iv x3, iv 1, rv b2_1, iv 5] [(.ref b1), (.ref b1)])) rfl rfl (hb hby d7_138)
  refine go st1035 ?_
  refine go (fun tg kg => XS.iconst X1035.here hx rfl (hb hby d7_141) kg) ?_
  show G (T1035.setTop (mkF m 142 #[rv b1, dv (x0.toInt64), .second, dv (x1.toInt64), .second, dv (x2.toInt64), .second, iv x3, iv 1, rv b2_1, iv 5] [(.int 1), (.int 1), (.ref b1)]))
  refine go (fun tg kg => XS.iadd X1035.here hx rfl (hb hby d7_142) rfl kg) ?_
  obtain ⟨T1036, h1036, X1036, e1036, W1036, st1036⟩ := putF X1035 hx hZ hown (host := "") (Or.inl (own_w hw 72 rfl)) Via.refl e1035 Fa1034 Fa1033 (Or.inl (own_w hw 73 rfl)) (own_w hw 2 rfl) (ty := .int) (by decide) rfl rfl (g := (mkF m 143 #[rv b1, dv (x0.toInt64), .second, dv (x1.toInt64), .second, dv (x2.toInt64), .second, iv x3, iv 1, rv b2_1, iv 5] [(.int 2), (.ref b1)])) rfl rfl (hb hby d7_143)
  refine go st1036 ?_
  have Fw1036 : Fld Z h1036 b1 cF "openFirms" "I" (.int 2) := Fa1034.same W1036
  have N1036 := Fr.snoc X1036 N1032 gg_b1
  have K1036 : Keep h0 h1036 [b1, b2_2, b2_3, b2_1] := K1032.wr W1036 (Or.inl (List.mem_of_getElem? (i := 0) rfl))
  have Z1036 := Nat.le_trans Z1032 (Keep.of_wr W1036).1
  refine go (fun tg kg => XS.iload X1036.here hx rfl (hb hby d7_146) rfl kg) ?_
  refine fin (some (.int 1)) X1036 (fun h => absurd h (by decide)) (fun fs hr => retOut X1036 hx hret rfl (Or.inl ⟨rfl, Or.inl rfl, _, rfl⟩) (hb hby d7_148) hr) (by decide) (by decide) ?_
  rw [e1036]
  have Fa1037 := (Fa1033.wr W1036)
  have Fa1038 := (((((((((Fw1005.other W1012 (Or.inl (Ne.symm ne_b2_2_b1))).other W1016 (Or.inr (sn_freeSlot_nextId hw))).other W1021 (Or.inl (Ne.symm ne_b2_3_b1))).other W1028 (Or.inl (Ne.symm ne_b2_1_b1))).other W1029 (Or.inl (Ne.symm ne_b2_1_b1))).other W1030 (Or.inl (Ne.symm ne_b2_1_b1))).other W1031 (Or.inl (Ne.symm ne_b2_1_b1))).other W1032 (Or.inl (Ne.symm ne_b2_1_b1))).other W1036 (Or.inr (sn_freeSlot_openFirms hw)))
  have Fa1039 := (((((((Fa1018.other W1021 (Or.inl (Ne.symm ne_b2_3_b1))).other W1028 (Or.inl (Ne.symm ne_b2_1_b1))).other W1029 (Or.inl (Ne.symm ne_b2_1_b1))).other W1030 (Or.inl (Ne.symm ne_b2_1_b1))).other W1031 (Or.inl (Ne.symm ne_b2_1_b1))).other W1032 (Or.inl (Ne.symm ne_b2_1_b1))).other W1036 (Or.inr (sn_births_openFirms hw)))
  have Fa1040 := ((((((V1021.other W1028 (Ne.symm ne_b2_1_b2_3)).other W1029 (Ne.symm ne_b2_1_b2_3)).other W1030 (Ne.symm ne_b2_1_b2_3)).other W1031 (Ne.symm ne_b2_1_b2_3)).other W1032 (Ne.symm ne_b2_1_b2_3)).other W1036 ne_b2_3_b1)
  have Fa1041 := (((((((((Fa1007.other W1012 (Or.inl (Ne.symm ne_b2_2_b1))).other W1016 (Or.inr (sn_ids_nextId hw))).other W1021 (Or.inl (Ne.symm ne_b2_3_b1))).other W1028 (Or.inl (Ne.symm ne_b2_1_b1))).other W1029 (Or.inl (Ne.symm ne_b2_1_b1))).other W1030 (Or.inl (Ne.symm ne_b2_1_b1))).other W1031 (Or.inl (Ne.symm ne_b2_1_b1))).other W1032 (Or.inl (Ne.symm ne_b2_1_b1))).other W1036 (Or.inr (sn_ids_openFirms hw)))
  have Fa1042 := (((((((Fw1016.other W1021 (Or.inl (Ne.symm ne_b2_3_b1))).other W1028 (Or.inl (Ne.symm ne_b2_1_b1))).other W1029 (Or.inl (Ne.symm ne_b2_1_b1))).other W1030 (Or.inl (Ne.symm ne_b2_1_b1))).other W1031 (Or.inl (Ne.symm ne_b2_1_b1))).other W1032 (Or.inl (Ne.symm ne_b2_1_b1))).other W1036 (Or.inr (sn_nextId_openFirms hw)))
  have Fa1043 := ((((((((V1012.other W1016 ne_b2_2_b1).other W1021 (Ne.symm ne_b2_3_b2_2)).other W1028 (Ne.symm ne_b2_1_b2_2)).other W1029 (Ne.symm ne_b2_1_b2_2)).other W1030 (Ne.symm ne_b2_1_b2_2)).other W1031 (Ne.symm ne_b2_1_b2_2)).other W1032 (Ne.symm ne_b2_1_b2_2)).other W1036 ne_b2_2_b1)
  have Fa1044 := ((((((Fa1023.other W1028 (Or.inl (Ne.symm ne_b2_1_b1))).other W1029 (Or.inl (Ne.symm ne_b2_1_b1))).other W1030 (Or.inl (Ne.symm ne_b2_1_b1))).other W1031 (Or.inl (Ne.symm ne_b2_1_b1))).other W1032 (Or.inl (Ne.symm ne_b2_1_b1))).other W1036 (Or.inr (sn_pages_openFirms hw)))
  have Fa1045 := (V1032.other W1036 ne_b2_1_b1)
  have Fa1046 := ((((((((((m11.other W1005 (Or.inr (sn_members_freeSlot hw))).other W1012 (Or.inl (Ne.symm ne_b2_2_b1))).other W1016 (Or.inr (sn_members_nextId hw))).other W1021 (Or.inl (Ne.symm ne_b2_3_b1))).other W1028 (Or.inl (Ne.symm ne_b2_1_b1))).other W1029 (Or.inl (Ne.symm ne_b2_1_b1))).other W1030 (Or.inl (Ne.symm ne_b2_1_b1))).other W1031 (Or.inl (Ne.symm ne_b2_1_b1))).other W1032 (Or.inl (Ne.symm ne_b2_1_b1))).other W1036 (Or.inr (sn_members_openFirms hw)))
  have Fa1047 := ((((((((((m12.other W1005 (Or.inr (sn_changedNow_freeSlot hw))).other W1012 (Or.inl (Ne.symm ne_b2_2_b1))).other W1016 (Or.inr (sn_changedNow_nextId hw))).other W1021 (Or.inl (Ne.symm ne_b2_3_b1))).other W1028 (Or.inl (Ne.symm ne_b2_1_b1))).other W1029 (Or.inl (Ne.symm ne_b2_1_b1))).other W1030 (Or.inl (Ne.symm ne_b2_1_b1))).other W1031 (Or.inl (Ne.symm ne_b2_1_b1))).other W1032 (Or.inl (Ne.symm ne_b2_1_b1))).other W1036 (Or.inr (sn_changedNow_openFirms hw)))
  have Fa1048 := ((((((((((m13.other W1005 (Or.inr (sn_changedBefore_freeSlot hw))).other W1012 (Or.inl (Ne.symm ne_b2_2_b1))).other W1016 (Or.inr (sn_changedBefore_nextId hw))).other W1021 (Or.inl (Ne.symm ne_b2_3_b1))).other W1028 (Or.inl (Ne.symm ne_b2_1_b1))).other W1029 (Or.inl (Ne.symm ne_b2_1_b1))).other W1030 (Or.inl (Ne.symm ne_b2_1_b1))).other W1031 (Or.inl (Ne.symm ne_b2_1_b1))).other W1032 (Or.inl (Ne.symm ne_b2_1_b1))).other W1036 (Or.inr (sn_changedBefore_openFirms hw)))
  have Fa1049 := ((((((((((m14.other W1005 (Or.inr (sn_slotsUsed_freeSlot hw))).other W1012 (Or.inl (Ne.symm ne_b2_2_b1))).other W1016 (Or.inr (sn_slotsUsed_nextId hw))).other W1021 (Or.inl (Ne.symm ne_b2_3_b1))).other W1028 (Or.inl (Ne.symm ne_b2_1_b1))).other W1029 (Or.inl (Ne.symm ne_b2_1_b1))).other W1030 (Or.inl (Ne.symm ne_b2_1_b1))).other W1031 (Or.inl (Ne.symm ne_b2_1_b1))).other W1032 (Or.inl (Ne.symm ne_b2_1_b1))).other W1036 (Or.inr (sn_slotsUsed_openFirms hw)))
  have Fa1050 := ((((((((((m15.wr W1005).wr W1012).wr W1016).wr W1021).wr W1028).wr W1029).wr W1030).wr W1031).wr W1032).wr W1036)
  exact ⟨rfl, N1036, K1036, Fa1038, Fa1039, Fa1040, Fa1037, Fa1041, Fa1042, Fa1043, Fa1044, Fa1045, Fw1036, Fa1046, Fa1047, Fa1048, Fa1049, Fa1050⟩
def Q_rm8_2 (Z : State) (b1 : Addr) (b2_2 : Addr) (k2_2 : ClassId) (h0 : Heap) (n0 : Nat) (v : Option Value) (h : Heap) (L : List Loc) : Prop := v = some (.long 3) ∧ Fr n0 L ∧ h = h0
set_option maxRecDepth 65536 in
set_option maxHeartbeats 40000000 in
theorem rm8_2 (l : Launch) (Z : State) (a0 : Array Value) (hw : ∀ d ∈ tables_1, d.before a0 Z = true) (ws : List Jvm.Cond) (b1 : Addr) (b2_2 : Addr) (k2_2 : ClassId) (h0 : Heap) (n0 : Nat) (Z0 : n0 ≤ h0.size) (m0 : Fld Z h0 b1 cF "ids" "[J" (.ref b2_2)) (m1 : Arv Z h0 b2_2 k2_2 .long 4 [(.long 1), (.long 3), (.long 0), (.long 0)] (.long 0)) :
    oM l y8 prog_8_method_8_code 2 (some .long) ws (⟨0, 0, 0, 0⟩ : Room) Z h0 #[(.ref b1), (.int 1)] (Q_rm8_2 Z b1 b2_2 k2_2 h0 n0) := by
  refine own_enter (Q := Q_rm8_2 Z b1 b2_2 k2_2 h0 n0) (plainFor_of_name pn_com_example_housemartin_housemartin_firm_FirmSlots) ?_
  intro p e s m below meth c s₁ G X0 hx hby hml hZ hown hnm hret e0 go fin
  replace hown : s.vm.findClass cF = some m.cls := hown
  replace hnm : meth.name = "id" := hnm
  replace hml : c.maxLocals = 2 := hml
  rw [ef_8 m b1 _]
  have N0 := Fr.nil n0
  refine go (fun tg kg => XS.aloadN X0.here hx rfl (hb hby d8_0) rfl rfl kg) ?_
  obtain ⟨T1001, X1001, e1001, st1001⟩ := getF X0 hx hZ hown (host := "") (Or.inl (own_w hw 27 rfl)) Via.refl e0 m0 (g := (mkF m 1 #[rv b1, iv 1] [(.ref b1)])) rfl rfl (hb hby d8_1)
  refine go st1001 ?_
  refine go (fun tg kg => XS.iloadN X1001.here hx rfl (hb hby d8_4) rfl kg) ?_
  obtain ⟨cl1002, Ar1002, q1002, S1002, M1002, H1002, U1002⟩ := id m1
  have hin1002 : ¬ ((1 : Int32) < 0 ∨ cl1002.slots.size ≤ ((1 : Int32)).toNatClampNeg) := inb_of S1002 ⟨by decide, by decide⟩
  refine go (fun tg kg => X1001.laload hx (j := (1 : Int32)) (v := (.long 3)) (by rw [e1001]; exact Ar1002.1) (State.isArrayOf_alike hZ.alike Ar1002.2.1) Ar1002.2.2 hin1002 (H1002.at hin1002 rfl) (g := (mkF m 5 #[rv b1, iv 1] [(.int 1), (.ref b2_2)])) rfl rfl (hb hby d8_5) _ kg) ?_
  refine fin (some (.long 3)) X1001 (fun h => absurd h (by decide)) (fun fs hr => retOut X1001 hx hret rfl (Or.inr (Or.inl ⟨rfl, rfl, _, rfl⟩)) (hb hby d8_6) hr) (by decide) (by decide) ?_
  rw [e1001]
  exact ⟨rfl, N0, rfl⟩
def Q_rm9_2 (Z : State) (b1 : Addr) (b2_3 : Addr) (k2_3 : ClassId) (x3 : Int32) (h0 : Heap) (n0 : Nat) (v : Option Value) (h : Heap) (L : List Loc) : Prop := v = some (.int x3) ∧ Fr n0 L ∧ h = h0
set_option maxRecDepth 65536 in
set_option maxHeartbeats 40000000 in
theorem rm9_2 (l : Launch) (Z : State) (a0 : Array Value) (hw : ∀ d ∈ tables_1, d.before a0 Z = true) (ws : List Jvm.Cond) (b1 : Addr) (b2_3 : Addr) (k2_3 : ClassId) (x3 : Int32) (h0 : Heap) (n0 : Nat) (Z0 : n0 ≤ h0.size) (m0 : Fld Z h0 b1 cF "births" "[I" (.ref b2_3)) (m1 : Arv Z h0 b2_3 k2_3 .int 4 [(.int 10), (.int x3), (.int 0), (.int 0)] (.int 0)) :
    oM l y9 prog_8_method_9_code 2 (some .int) ws (⟨0, 0, 0, 0⟩ : Room) Z h0 #[(.ref b1), (.int 1)] (Q_rm9_2 Z b1 b2_3 k2_3 x3 h0 n0) := by
  refine own_enter (Q := Q_rm9_2 Z b1 b2_3 k2_3 x3 h0 n0) (plainFor_of_name pn_com_example_housemartin_housemartin_firm_FirmSlots) ?_
  intro p e s m below meth c s₁ G X0 hx hby hml hZ hown hnm hret e0 go fin
  replace hown : s.vm.findClass cF = some m.cls := hown
  replace hnm : meth.name = "birth" := hnm
  replace hml : c.maxLocals = 2 := hml
  rw [ef_9 m b1 _]
  have N0 := Fr.nil n0
  refine go (fun tg kg => XS.aloadN X0.here hx rfl (hb hby d9_0) rfl rfl kg) ?_
  obtain ⟨T1001, X1001, e1001, st1001⟩ := getF X0 hx hZ hown (host := "") (Or.inl (own_w hw 30 rfl)) Via.refl e0 m0 (g := (mkF m 1 #[rv b1, iv 1] [(.ref b1)])) rfl rfl (hb hby d9_1)
  refine go st1001 ?_
  refine go (fun tg kg => XS.iloadN X1001.here hx rfl (hb hby d9_4) rfl kg) ?_
  obtain ⟨cl1002, Ar1002, q1002, S1002, M1002, H1002, U1002⟩ := id m1
  have hin1002 : ¬ ((1 : Int32) < 0 ∨ cl1002.slots.size ≤ ((1 : Int32)).toNatClampNeg) := inb_of S1002 ⟨by decide, by decide⟩
  refine go (fun tg kg => X1001.iaload hx (j := (1 : Int32)) (v := (.int x3)) (by rw [e1001]; exact Ar1002.1) (State.isArrayOf_alike hZ.alike Ar1002.2.1) Ar1002.2.2 hin1002 (H1002.at hin1002 rfl) (g := (mkF m 5 #[rv b1, iv 1] [(.int 1), (.ref b2_3)])) rfl rfl (hb hby d9_5) _ kg) ?_
  refine fin (some (.int x3)) X1001 (fun h => absurd h (by decide)) (fun fs hr => retOut X1001 hx hret rfl (Or.inl ⟨rfl, Or.inl rfl, _, rfl⟩) (hb hby d9_6) hr) (by decide) (by decide) ?_
  rw [e1001]
  exact ⟨rfl, N0, rfl⟩
def Q_rm10_2 (Z : State) (b1 : Addr) (b2_0 : Addr) (k2_0 : ClassId) (b2_1 : Addr) (k2_1 : ClassId) (x0 : Int32) (x1 : Int32) (x2 : Int32) (h0 : Heap) (n0 : Nat) (v : Option Value) (h : Heap) (L : List Loc) : Prop := v = some (dl (x0.toInt64)) ∧ Fr n0 L ∧ h = h0
set_option maxRecDepth 65536 in
set_option maxHeartbeats 40000000 in
theorem rm10_2 (l : Launch) (Z : State) (a0 : Array Value) (hw : ∀ d ∈ tables_1, d.before a0 Z = true) (ws : List Jvm.Cond) (b1 : Addr) (b2_0 : Addr) (k2_0 : ClassId) (b2_1 : Addr) (k2_1 : ClassId) (x0 : Int32) (x1 : Int32) (x2 : Int32) (h0 : Heap) (n0 : Nat) (Z0 : n0 ≤ h0.size) (m0 : Fld Z h0 b1 cF "pages" "[[D" (.ref b2_0)) (m1 : Arv Z h0 b2_0 k2_0 (.array .double) 1 [(.ref b2_1)] .null) (m2 : Arv Z h0 b2_1 k2_1 .double 20 [(dl 1), (dl 2), (dl 3), (dl 0), (dl 0), (dl (x0.toInt64)), (dl (x1.toInt64)), (dl (x2.toInt64)), (dl 0), (dl 0), (dl 0), (dl 0), (dl 0), (dl 0), (dl 0), (dl 0), (dl 0), (dl 0), (dl 0), (dl 0)] (dl 0)) :
    oM l y10 prog_8_method_10_code 2 (some .double) ws (⟨0, 0, 0, 0⟩ : Room) Z h0 #[(.ref b1), (.int 1)] (Q_rm10_2 Z b1 b2_0 k2_0 b2_1 k2_1 x0 x1 x2 h0 n0) := by
  refine own_enter (Q := Q_rm10_2 Z b1 b2_0 k2_0 b2_1 k2_1 x0 x1 x2 h0 n0) (plainFor_of_name pn_com_example_housemartin_housemartin_firm_FirmSlots) ?_
  intro p e s m below meth c s₁ G X0 hx hby hml hZ hown hnm hret e0 go fin
  replace hown : s.vm.findClass cF = some m.cls := hown
  replace hnm : meth.name = "a" := hnm
  replace hml : c.maxLocals = 2 := hml
  rw [ef_10 m b1 _]
  have N0 := Fr.nil n0
  refine go (fun tg kg => XS.aloadN X0.here hx rfl (hb hby d10_0) rfl rfl kg) ?_
  obtain ⟨T1001, X1001, e1001, st1001⟩ := getF X0 hx hZ hown (host := "") (Or.inl (own_w hw 17 rfl)) Via.refl e0 m0 (g := (mkF m 1 #[rv b1, iv 1] [(.ref b1)])) rfl rfl (hb hby d10_1)
  refine go st1001 ?_
  refine go (fun tg kg => XS.iloadN X1001.here hx rfl (hb hby d10_4) rfl kg) ?_
  refine go (fun tg kg => XS.bipush X1001.here hx rfl (hb hby d10_5) kg) ?_
  refine go (fun tg kg => XS.iushr X1001.here hx rfl (hb hby d10_7) rfl kg) ?_
  show G (T1001.setTop (mkF m 8 #[rv b1, iv 1] [(.int (((1 : Int32).toUInt32 >>> ((24 : Int32) &&& 31).toUInt32).toInt32)), (.ref b2_0)]))
  rw [show (((1 : Int32).toUInt32 >>> ((24 : Int32) &&& 31).toUInt32).toInt32) = (0 : Int32) from by decide]
  show G (T1001.setTop (mkF m 8 #[rv b1, iv 1] [(.int 0), (.ref b2_0)]))
  obtain ⟨cl1002, Ar1002, q1002, S1002, M1002, H1002, U1002⟩ := id m1
  have hin1002 : ¬ ((0 : Int32) < 0 ∨ cl1002.slots.size ≤ ((0 : Int32)).toNatClampNeg) := inb_of S1002 ⟨by decide, by decide⟩
  refine go (fun tg kg => X1001.aaload hx (j := (0 : Int32)) (v := (.ref b2_1)) (by rw [e1001]; exact Ar1002.1) (State.isArrayOf_alike hZ.alike Ar1002.2.1) rfl Ar1002.2.2 hin1002 (H1002.at hin1002 rfl) (g := (mkF m 8 #[rv b1, iv 1] [(.int 0), (.ref b2_0)])) rfl rfl (hb hby d10_8) _ kg) ?_
  show G (T1001.setTop (mkF m 9 #[rv b1, iv 1] [(.ref b2_1)]))
  refine go (fun tg kg => XS.iloadN X1001.here hx rfl (hb hby d10_9) rfl kg) ?_
  refine go (fun tg kg => X1001.ldcInt hx hown (mvT hZ (own_w hw 71 rfl)) (g := (mkF m 10 #[rv b1, iv 1] [(.int 1), (.ref b2_1)])) rfl (hb hby d10_10) _ kg) ?_
  refine go (fun tg kg => XS.iand X1001.here hx rfl (hb hby d10_12) rfl kg) ?_
  refine go (fun tg kg => XS.iconst X1001.here hx rfl (hb hby d10_13) kg) ?_
  refine go (fun tg kg => XS.imul X1001.here hx rfl (hb hby d10_14) rfl kg) ?_
  refine go (fun tg kg => XS.iconst X1001.here hx rfl (hb hby d10_15) kg) ?_
  show G (T1001.setTop (mkF m 16 #[rv b1, iv 1] [(.int 0), (.int 5), (.ref b2_1)]))
  refine go (fun tg kg => XS.iadd X1001.here hx rfl (hb hby d10_16) rfl kg) ?_
  obtain ⟨cl1003, Ar1003, q1003, S1003, M1003, H1003, U1003⟩ := id m2
  have hin1003 : ¬ ((5 : Int32) < 0 ∨ cl1003.slots.size ≤ ((5 : Int32)).toNatClampNeg) := inb_of S1003 ⟨by decide, by decide⟩
  refine go (fun tg kg => X1001.daload hx (j := (5 : Int32)) (v := (dl (x0.toInt64))) (by rw [e1001]; exact Ar1003.1) (State.isArrayOf_alike hZ.alike Ar1003.2.1) Ar1003.2.2 hin1003 (H1003.at hin1003 rfl) (g := (mkF m 17 #[rv b1, iv 1] [(.int 5), (.ref b2_1)])) rfl rfl (hb hby d10_17) _ kg) ?_
  refine fin (some (dl (x0.toInt64))) X1001 (fun h => absurd h (by decide)) (fun fs hr => retOut X1001 hx hret rfl (Or.inr (Or.inr (Or.inl ⟨rfl, rfl, _, rfl⟩))) (hb hby d10_18) hr) (by decide) (by decide) ?_
  rw [e1001]
  exact ⟨rfl, N0, rfl⟩
def Q_rm11_2 (Z : State) (b1 : Addr) (b2_0 : Addr) (k2_0 : ClassId) (b2_1 : Addr) (k2_1 : ClassId) (x0 : Int32) (x1 : Int32) (x2 : Int32) (h0 : Heap) (n0 : Nat) (v : Option Value) (h : Heap) (L : List Loc) : Prop := v = some (dl (x1.toInt64)) ∧ Fr n0 L ∧ h = h0
set_option maxRecDepth 65536 in
set_option maxHeartbeats 40000000 in
theorem rm11_2 (l : Launch) (Z : State) (a0 : Array Value) (hw : ∀ d ∈ tables_1, d.before a0 Z = true) (ws : List Jvm.Cond) (b1 : Addr) (b2_0 : Addr) (k2_0 : ClassId) (b2_1 : Addr) (k2_1 : ClassId) (x0 : Int32) (x1 : Int32) (x2 : Int32) (h0 : Heap) (n0 : Nat) (Z0 : n0 ≤ h0.size) (m0 : Fld Z h0 b1 cF "pages" "[[D" (.ref b2_0)) (m1 : Arv Z h0 b2_0 k2_0 (.array .double) 1 [(.ref b2_1)] .null) (m2 : Arv Z h0 b2_1 k2_1 .double 20 [(dl 1), (dl 2), (dl 3), (dl 0), (dl 0), (dl (x0.toInt64)), (dl (x1.toInt64)), (dl (x2.toInt64)), (dl 0), (dl 0), (dl 0), (dl 0), (dl 0), (dl 0), (dl 0), (dl 0), (dl 0), (dl 0), (dl 0), (dl 0)] (dl 0)) :
    oM l y11 prog_8_method_11_code 2 (some .double) ws (⟨0, 0, 0, 0⟩ : Room) Z h0 #[(.ref b1), (.int 1)] (Q_rm11_2 Z b1 b2_0 k2_0 b2_1 k2_1 x0 x1 x2 h0 n0) := by
  refine own_enter (Q := Q_rm11_2 Z b1 b2_0 k2_0 b2_1 k2_1 x0 x1 x2 h0 n0) (plainFor_of_name pn_com_example_housemartin_housemartin_firm_FirmSlots) ?_
  intro p e s m below meth c s₁ G X0 hx hby hml hZ hown hnm hret e0 go fin
  replace hown : s.vm.findClass cF = some m.cls := hown
  replace hnm : meth.name = "b" := hnm
  replace hml : c.maxLocals = 2 := hml
  rw [ef_11 m b1 _]
  have N0 := Fr.nil n0
  refine go (fun tg kg => XS.aloadN X0.here hx rfl (hb hby d11_0) rfl rfl kg) ?_
  obtain ⟨T1001, X1001, e1001, st1001⟩ := getF X0 hx hZ hown (host := "") (Or.inl (own_w hw 17 rfl)) Via.refl e0 m0 (g := (mkF m 1 #[rv b1, iv 1] [(.ref b1)])) rfl rfl (hb hby d11_1)
  refine go st1001 ?_
  refine go (fun tg kg => XS.iloadN X1001.here hx rfl (hb hby d11_4) rfl kg) ?_
  refine go (fun tg kg => XS.bipush X1001.here hx rfl (hb hby d11_5) kg) ?_
  refine go (fun tg kg => XS.iushr X1001.here hx rfl (hb hby d11_7) rfl kg) ?_
  show G (T1001.setTop (mkF m 8 #[rv b1, iv 1] [(.int (((1 : Int32).toUInt32 >>> ((24 : Int32) &&& 31).toUInt32).toInt32)), (.ref b2_0)]))
  rw [show (((1 : Int32).toUInt32 >>> ((24 : Int32) &&& 31).toUInt32).toInt32) = (0 : Int32) from by decide]
  show G (T1001.setTop (mkF m 8 #[rv b1, iv 1] [(.int 0), (.ref b2_0)]))
  obtain ⟨cl1002, Ar1002, q1002, S1002, M1002, H1002, U1002⟩ := id m1
  have hin1002 : ¬ ((0 : Int32) < 0 ∨ cl1002.slots.size ≤ ((0 : Int32)).toNatClampNeg) := inb_of S1002 ⟨by decide, by decide⟩
  refine go (fun tg kg => X1001.aaload hx (j := (0 : Int32)) (v := (.ref b2_1)) (by rw [e1001]; exact Ar1002.1) (State.isArrayOf_alike hZ.alike Ar1002.2.1) rfl Ar1002.2.2 hin1002 (H1002.at hin1002 rfl) (g := (mkF m 8 #[rv b1, iv 1] [(.int 0), (.ref b2_0)])) rfl rfl (hb hby d11_8) _ kg) ?_
  show G (T1001.setTop (mkF m 9 #[rv b1, iv 1] [(.ref b2_1)]))
  refine go (fun tg kg => XS.iloadN X1001.here hx rfl (hb hby d11_9) rfl kg) ?_
  refine go (fun tg kg => X1001.ldcInt hx hown (mvT hZ (own_w hw 71 rfl)) (g := (mkF m 10 #[rv b1, iv 1] [(.int 1), (.ref b2_1)])) rfl (hb hby d11_10) _ kg) ?_
  refine go (fun tg kg => XS.iand X1001.here hx rfl (hb hby d11_12) rfl kg) ?_
  refine go (fun tg kg => XS.iconst X1001.here hx rfl (hb hby d11_13) kg) ?_
  refine go (fun tg kg => XS.imul X1001.here hx rfl (hb hby d11_14) rfl kg) ?_
  refine go (fun tg kg => XS.iconst X1001.here hx rfl (hb hby d11_15) kg) ?_
  show G (T1001.setTop (mkF m 16 #[rv b1, iv 1] [(.int 1), (.int 5), (.ref b2_1)]))
  refine go (fun tg kg => XS.iadd X1001.here hx rfl (hb hby d11_16) rfl kg) ?_
  obtain ⟨cl1003, Ar1003, q1003, S1003, M1003, H1003, U1003⟩ := id m2
  have hin1003 : ¬ ((6 : Int32) < 0 ∨ cl1003.slots.size ≤ ((6 : Int32)).toNatClampNeg) := inb_of S1003 ⟨by decide, by decide⟩
  refine go (fun tg kg => X1001.daload hx (j := (6 : Int32)) (v := (dl (x1.toInt64))) (by rw [e1001]; exact Ar1003.1) (State.isArrayOf_alike hZ.alike Ar1003.2.1) Ar1003.2.2 hin1003 (H1003.at hin1003 rfl) (g := (mkF m 17 #[rv b1, iv 1] [(.int 6), (.ref b2_1)])) rfl rfl (hb hby d11_17) _ kg) ?_
  refine fin (some (dl (x1.toInt64))) X1001 (fun h => absurd h (by decide)) (fun fs hr => retOut X1001 hx hret rfl (Or.inr (Or.inr (Or.inl ⟨rfl, rfl, _, rfl⟩))) (hb hby d11_18) hr) (by decide) (by decide) ?_
  rw [e1001]
  exact ⟨rfl, N0, rfl⟩
def Q_rm12_2 (Z : State) (b1 : Addr) (b2_0 : Addr) (k2_0 : ClassId) (b2_1 : Addr) (k2_1 : ClassId) (x0 : Int32) (x1 : Int32) (x2 : Int32) (h0 : Heap) (n0 : Nat) (v : Option Value) (h : Heap) (L : List Loc) : Prop := v = some (dl (x2.toInt64)) ∧ Fr n0 L ∧ h = h0
set_option maxRecDepth 65536 in
set_option maxHeartbeats 40000000 in
theorem rm12_2 (l : Launch) (Z : State) (a0 : Array Value) (hw : ∀ d ∈ tables_1, d.before a0 Z = true) (ws : List Jvm.Cond) (b1 : Addr) (b2_0 : Addr) (k2_0 : ClassId) (b2_1 : Addr) (k2_1 : ClassId) (x0 : Int32) (x1 : Int32) (x2 : Int32) (h0 : Heap) (n0 : Nat) (Z0 : n0 ≤ h0.size) (m0 : Fld Z h0 b1 cF "pages" "[[D" (.ref b2_0)) (m1 : Arv Z h0 b2_0 k2_0 (.array .double) 1 [(.ref b2_1)] .null) (m2 : Arv Z h0 b2_1 k2_1 .double 20 [(dl 1), (dl 2), (dl 3), (dl 0), (dl 0), (dl (x0.toInt64)), (dl (x1.toInt64)), (dl (x2.toInt64)), (dl 0), (dl 0), (dl 0), (dl 0), (dl 0), (dl 0), (dl 0), (dl 0), (dl 0), (dl 0), (dl 0), (dl 0)] (dl 0)) :
    oM l y12 prog_8_method_12_code 2 (some .double) ws (⟨0, 0, 0, 0⟩ : Room) Z h0 #[(.ref b1), (.int 1)] (Q_rm12_2 Z b1 b2_0 k2_0 b2_1 k2_1 x0 x1 x2 h0 n0) := by
  refine own_enter (Q := Q_rm12_2 Z b1 b2_0 k2_0 b2_1 k2_1 x0 x1 x2 h0 n0) (plainFor_of_name pn_com_example_housemartin_housemartin_firm_FirmSlots) ?_
  intro p e s m below meth c s₁ G X0 hx hby hml hZ hown hnm hret e0 go fin
  replace hown : s.vm.findClass cF = some m.cls := hown
  replace hnm : meth.name = "beta" := hnm
  replace hml : c.maxLocals = 2 := hml
  rw [ef_12 m b1 _]
  have N0 := Fr.nil n0
  refine go (fun tg kg => XS.aloadN X0.here hx rfl (hb hby d12_0) rfl rfl kg) ?_
  obtain ⟨T1001, X1001, e1001, st1001⟩ := getF X0 hx hZ hown (host := "") (Or.inl (own_w hw 17 rfl)) Via.refl e0 m0 (g := (mkF m 1 #[rv b1, iv 1] [(.ref b1)])) rfl rfl (hb hby d12_1)
  refine go st1001 ?_
  refine go (fun tg kg => XS.iloadN X1001.here hx rfl (hb hby d12_4) rfl kg) ?_
  refine go (fun tg kg => XS.bipush X1001.here hx rfl (hb hby d12_5) kg) ?_
  refine go (fun tg kg => XS.iushr X1001.here hx rfl (hb hby d12_7) rfl kg) ?_
  show G (T1001.setTop (mkF m 8 #[rv b1, iv 1] [(.int (((1 : Int32).toUInt32 >>> ((24 : Int32) &&& 31).toUInt32).toInt32)), (.ref b2_0)]))
  rw [show (((1 : Int32).toUInt32 >>> ((24 : Int32) &&& 31).toUInt32).toInt32) = (0 : Int32) from by decide]
  show G (T1001.setTop (mkF m 8 #[rv b1, iv 1] [(.int 0), (.ref b2_0)]))
  obtain ⟨cl1002, Ar1002, q1002, S1002, M1002, H1002, U1002⟩ := id m1
  have hin1002 : ¬ ((0 : Int32) < 0 ∨ cl1002.slots.size ≤ ((0 : Int32)).toNatClampNeg) := inb_of S1002 ⟨by decide, by decide⟩
  refine go (fun tg kg => X1001.aaload hx (j := (0 : Int32)) (v := (.ref b2_1)) (by rw [e1001]; exact Ar1002.1) (State.isArrayOf_alike hZ.alike Ar1002.2.1) rfl Ar1002.2.2 hin1002 (H1002.at hin1002 rfl) (g := (mkF m 8 #[rv b1, iv 1] [(.int 0), (.ref b2_0)])) rfl rfl (hb hby d12_8) _ kg) ?_
  show G (T1001.setTop (mkF m 9 #[rv b1, iv 1] [(.ref b2_1)]))
  refine go (fun tg kg => XS.iloadN X1001.here hx rfl (hb hby d12_9) rfl kg) ?_
  refine go (fun tg kg => X1001.ldcInt hx hown (mvT hZ (own_w hw 71 rfl)) (g := (mkF m 10 #[rv b1, iv 1] [(.int 1), (.ref b2_1)])) rfl (hb hby d12_10) _ kg) ?_
  refine go (fun tg kg => XS.iand X1001.here hx rfl (hb hby d12_12) rfl kg) ?_
  refine go (fun tg kg => XS.iconst X1001.here hx rfl (hb hby d12_13) kg) ?_
  refine go (fun tg kg => XS.imul X1001.here hx rfl (hb hby d12_14) rfl kg) ?_
  refine go (fun tg kg => XS.iconst X1001.here hx rfl (hb hby d12_15) kg) ?_
  show G (T1001.setTop (mkF m 16 #[rv b1, iv 1] [(.int 2), (.int 5), (.ref b2_1)]))
  refine go (fun tg kg => XS.iadd X1001.here hx rfl (hb hby d12_16) rfl kg) ?_
  obtain ⟨cl1003, Ar1003, q1003, S1003, M1003, H1003, U1003⟩ := id m2
  have hin1003 : ¬ ((7 : Int32) < 0 ∨ cl1003.slots.size ≤ ((7 : Int32)).toNatClampNeg) := inb_of S1003 ⟨by decide, by decide⟩
  refine go (fun tg kg => X1001.daload hx (j := (7 : Int32)) (v := (dl (x2.toInt64))) (by rw [e1001]; exact Ar1003.1) (State.isArrayOf_alike hZ.alike Ar1003.2.1) Ar1003.2.2 hin1003 (H1003.at hin1003 rfl) (g := (mkF m 17 #[rv b1, iv 1] [(.int 7), (.ref b2_1)])) rfl rfl (hb hby d12_17) _ kg) ?_
  refine fin (some (dl (x2.toInt64))) X1001 (fun h => absurd h (by decide)) (fun fs hr => retOut X1001 hx hret rfl (Or.inr (Or.inr (Or.inl ⟨rfl, rfl, _, rfl⟩))) (hb hby d12_18) hr) (by decide) (by decide) ?_
  rw [e1001]
  exact ⟨rfl, N0, rfl⟩
def Q_rm7_7 (Z : State) (b1 : Addr) (b2_2 : Addr) (k2_2 : ClassId) (b2_3 : Addr) (k2_3 : ClassId) (x3 : Int32) (b2_0 : Addr) (k2_0 : ClassId) (b2_1 : Addr) (k2_1 : ClassId) (x0 : Int32) (x1 : Int32) (x2 : Int32) (b2_4 : Addr) (b2_9 : Addr) (b2_10 : Addr) (h0 : Heap) (n0 : Nat) (v : Option Value) (h : Heap) (L : List Loc) : Prop := v = some (.int 2) ∧ Fr n0 L ∧ Keep h0 h [b1, b2_2, b2_3, b2_1] ∧ Fld Z h b1 cF "freeSlot" "I" (.int (-1)) ∧ Fld Z h b1 cF "slotsUsed" "I" (.int 3) ∧ Exa Z h b1 cF ∧ Fld Z h b1 cF "ids" "[J" (.ref b2_2) ∧ Fld Z h b1 cF "nextId" "J" (.long 5) ∧ Arv Z h b2_2 k2_2 .long 4 [(.long 1), (.long 3), (.long 4), (.long 0)] (.long 0) ∧ Fld Z h b1 cF "births" "[I" (.ref b2_3) ∧ Arv Z h b2_3 k2_3 .int 4 [(.int 10), (.int x3), (.int 0), (.int 0)] (.int 0) ∧ Fld Z h b1 cF "pages" "[[D" (.ref b2_0) ∧ Arv Z h b2_1 k2_1 .double 20 [(dl 1), (dl 2), (dl 3), (dl 0), (dl 0), (dl (x0.toInt64)), (dl (x1.toInt64)), (dl (x2.toInt64)), (dl 0), (dl 0), (dl 0), (dl 0), (dl 0), (dl 0), (dl 0), (dl 0), (dl 0), (dl 0), (dl 0), (dl 0)] (dl 0) ∧ Fld Z h b1 cF "openFirms" "I" (.int 3) ∧ Fld Z h b1 cF "members" "Lcom/example/housemartin/housemartin/firm/Members;" (.ref b2_4) ∧ Fld Z h b1 cF "changedNow" "[J" (.ref b2_9) ∧ Fld Z h b1 cF "changedBefore" "[J" (.ref b2_10) ∧ Exa Z h b2_1 "[D"
set_option maxRecDepth 65536 in
set_option maxHeartbeats 40000000 in
theorem rm7_7 (l : Launch) (Z : State) (a0 : Array Value) (hw : ∀ d ∈ tables_1, d.before a0 Z = true) (ws : List Jvm.Cond) (b1 : Addr) (b2_2 : Addr) (k2_2 : ClassId) (b2_3 : Addr) (k2_3 : ClassId) (x3 : Int32) (b2_0 : Addr) (k2_0 : ClassId) (b2_1 : Addr) (k2_1 : ClassId) (x0 : Int32) (x1 : Int32) (x2 : Int32) (b2_4 : Addr) (b2_9 : Addr) (b2_10 : Addr) (h0 : Heap) (n0 : Nat) (Z0 : n0 ≤ h0.size) (m0 : Fld Z h0 b1 cF "freeSlot" "I" (.int (-1))) (m1 : Fld Z h0 b1 cF "slotsUsed" "I" (.int 2)) (m2 : Exa Z h0 b1 cF) (m3 : Fld Z h0 b1 cF "ids" "[J" (.ref b2_2)) (m4 : Fld Z h0 b1 cF "nextId" "J" (.long 4)) (m5 : Arv Z h0 b2_2 k2_2 .long 4 [(.long 1), (.long 3), (.long 0), (.long 0)] (.long 0)) (m6 : Fld Z h0 b1 cF "births" "[I" (.ref b2_3)) (m7 : Arv Z h0 b2_3 k2_3 .int 4 [(.int 10), (.int x3), (.int 0), (.int 0)] (.int 0)) (m8 : Fld Z h0 b1 cF "pages" "[[D" (.ref b2_0)) (m9 : Arv Z h0 b2_0 k2_0 (.array .double) 1 [(.ref b2_1)] .null) (m10 : Arv Z h0 b2_1 k2_1 .double 20 [(dl 1), (dl 2), (dl 3), (dl 0), (dl 0), (dl (x0.toInt64)), (dl (x1.toInt64)), (dl (x2.toInt64)), (dl 0), (dl 0), (dl 0), (dl 0), (dl 0), (dl 0), (dl 0), (dl 0), (dl 0), (dl 0), (dl 0), (dl 0)] (dl 0)) (m11 : Fld Z h0 b1 cF "openFirms" "I" (.int 2)) (m12 : Fld Z h0 b1 cF "members" "Lcom/example/housemartin/housemartin/firm/Members;" (.ref b2_4)) (m13 : Fld Z h0 b1 cF "changedNow" "[J" (.ref b2_9)) (m14 : Fld Z h0 b1 cF "changedBefore" "[J" (.ref b2_10)) (m15 : Exa Z h0 b2_1 "[D") (ne_b2_2_b1 : b2_2 ≠ b1) (ne_b2_3_b1 : b2_3 ≠ b1) (ne_b2_3_b2_2 : b2_3 ≠ b2_2) (ne_b2_0_b1 : b2_0 ≠ b1) (ne_b2_0_b2_2 : b2_0 ≠ b2_2) (ne_b2_0_b2_3 : b2_0 ≠ b2_3) (ne_b2_1_b1 : b2_1 ≠ b1) (ne_b2_1_b2_2 : b2_1 ≠ b2_2) (ne_b2_1_b2_3 : b2_1 ≠ b2_3) (gg_b1 : n0 ≤ b1) (gg_b2_2 : n0 ≤ b2_2) (gg_b2_3 : n0 ≤ b2_3) (gg_b2_1 : n0 ≤ b2_1) :
    oM l y7 prog_8_method_2_code 11 (some .int) ws (⟨0, 0, 0, 0⟩ : Room) Z h0 #[(.ref b1), (dl 0), (dl 0), (dl 0), (.int 0)] (Q_rm7_7 Z b1 b2_2 k2_2 b2_3 k2_3 x3 b2_0 k2_0 b2_1 k2_1 x0 x1 x2 b2_4 b2_9 b2_10 h0 n0) := by
  refine own_enter (Q := Q_rm7_7 Z b1 b2_2 k2_2 b2_3 k2_3 x3 b2_0 k2_0 b2_1 k2_1 x0 x1 x2 b2_4 b2_9 b2_10 h0 n0) (plainFor_of_name pn_com_example_housemartin_housemartin_firm_FirmSlots) ?_
  intro p e s m below meth c s₁ G X0 hx hby hml hZ hown hnm hret e0 go fin
  replace hown : s.vm.findClass cF = some m.cls := hown
  replace hnm : meth.name = "open" := hnm
  replace hml : c.maxLocals = 11 := hml
  rw [ef_7 m b1 _ _ _ _]
  have N0 := Fr.nil n0
  refine go (fun tg kg => XS.aloadN X0.here hx rfl (hb hby d7_0) rfl rfl kg) ?_
  obtain ⟨T1001, X1001, e1001, st1001⟩ := getF X0 hx hZ hown (host := "") (Or.inl (own_w hw 10 rfl)) Via.refl e0 m0 (g := (mkF m 1 #[rv b1, dv 0, .second, dv 0, .second, dv 0, .second, iv 0, .unset, .unset, .unset] [(.ref b1)])) rfl rfl (hb hby d7_1)
  refine go st1001 ?_
  refine go (fun tg kg => XS.iconst X1001.here hx rfl (hb hby d7_4) kg) ?_
  refine go (fun tg kg => XS.icmpYes X1001.here hx rfl (pc0 := 5) (pc' := 28) rfl (hb hby d7_5) rfl (teq (by decide)).1 (by decide) (by decide) kg) ?_
  refine go (fun tg kg => XS.aloadN X1001.here hx rfl (hb hby d7_28) rfl rfl kg) ?_
  show G (T1001.setTop (mkF m 29 #[rv b1, dv 0, .second, dv 0, .second, dv 0, .second, iv 0, .unset, .unset, .unset] [(.ref b1)]))
  obtain ⟨T1002, X1002, e1002, st1002⟩ := getF X1001 hx hZ hown (host := "") (Or.inl (own_w hw 69 rfl)) Via.refl e1001 m1 (g := (mkF m 29 #[rv b1, dv 0, .second, dv 0, .second, dv 0, .second, iv 0, .unset, .unset, .unset] [(.ref b1)])) rfl rfl (hb hby d7_29)
  refine go st1002 ?_
  refine go (fun tg kg => XS.istore X1002.here hx rfl (hb hby d7_32) rfl (l' := #[rv b1, dv 0, .second, dv 0, .second, dv 0, .second, iv 0, iv 2, .unset, .unset]) rfl kg) ?_
  refine go (fun tg kg => XS.aloadN X1002.here hx rfl (hb hby d7_34) rfl rfl kg) ?_
  refine go (fun tg kg => XS.dup X1002.here hx rfl (hb hby d7_35) rfl rfl kg) ?_
  obtain ⟨T1003, X1003, e1003, st1003⟩ := getF X1002 hx hZ hown (host := "") (Or.inl (own_w hw 69 rfl)) Via.refl e1002 m1 (g := (mkF m 36 #[rv b1, dv 0, .second, dv 0, .second, dv 0, .second, iv 0, iv 2, .unset, .unset] [(.ref b1), (.ref b1)])) rfl rfl (hb hby d7_36)
  refine go st1003 ?_
  refine go (fun tg kg => XS.iconst X1003.here hx rfl (hb hby d7_39) kg) ?_
  show G (T1003.setTop (mkF m 40 #[rv b1, dv 0, .second, dv 0, .second, dv 0, .second, iv 0, iv 2, .unset, .unset] [(.int 1), (.int 2), (.ref b1)]))
  refine go (fun tg kg => XS.iadd X1003.here hx rfl (hb hby d7_40) rfl kg) ?_
  obtain ⟨T1004, h1004, X1004, e1004, W1004, st1004⟩ := putF X1003 hx hZ hown (host := "") (Or.inl (own_w hw 69 rfl)) Via.refl e1003 m1 m2 (Or.inl (own_w hw 70 rfl)) (own_w hw 2 rfl) (ty := .int) (by decide) rfl rfl (g := (mkF m 41 #[rv b1, dv 0, .second, dv 0, .second, dv 0, .second, iv 0, iv 2, .unset, .unset] [(.int 3), (.ref b1)])) rfl rfl (hb hby d7_41)
  refine go st1004 ?_
  have Fw1004 : Fld Z h1004 b1 cF "slotsUsed" "I" (.int 3) := m1.same W1004
  have N1004 := Fr.snoc X1004 N0 gg_b1
  have K1004 : Keep h0 h1004 [b1, b2_2, b2_3, b2_1] := (Keep.refl h0 [b1, b2_2, b2_3, b2_1]).wr W1004 (Or.inl (List.mem_of_getElem? (i := 0) rfl))
  have Z1004 := Nat.le_trans Z0 (Keep.of_wr W1004).1
  refine go (fun tg kg => XS.aloadN X1004.here hx rfl (hb hby d7_44) rfl rfl kg) ?_
  have Fa1005 := (m2.wr W1004)
  have Fa1006 := (m3.other W1004 (Or.inr (sn_ids_slotsUsed hw)))
  obtain ⟨T1007, X1007, e1007, st1007⟩ := getF X1004 hx hZ hown (host := "") (Or.inl (own_w hw 27 rfl)) Via.refl e1004 Fa1006 (g := (mkF m 45 #[rv b1, dv 0, .second, dv 0, .second, dv 0, .second, iv 0, iv 2, .unset, .unset] [(.ref b1)])) rfl rfl (hb hby d7_45)
  refine go st1007 ?_
  refine go (fun tg kg => XS.iload X1007.here hx rfl (hb hby d7_48) rfl kg) ?_
  refine go (fun tg kg => XS.aloadN X1007.here hx rfl (hb hby d7_50) rfl rfl kg) ?_
  show G (T1007.setTop (mkF m 51 #[rv b1, dv 0, .second, dv 0, .second, dv 0, .second, iv 0, iv 2, .unset, .unset] [(.ref b1), (.int 2), (.ref b2_2)]))
  have Fa1008 := (m4.other W1004 (Or.inr (sn_nextId_slotsUsed hw)))
  obtain ⟨T1009, X1009, e1009, st1009⟩ := getF X1007 hx hZ hown (host := "") (Or.inl (own_w hw 12 rfl)) Via.refl e1007 Fa1008 (g := (mkF m 51 #[rv b1, dv 0, .second, dv 0, .second, dv 0, .second, iv 0, iv 2, .unset, .unset] [(.ref b1), (.int 2), (.ref b2_2)])) rfl rfl (hb hby d7_51)
  refine go st1009 ?_
  have Fa1010 := (m5.other W1004 ne_b2_2_b1)
  obtain ⟨cl1011, Ar1011, q1011, S1011, M1011, H1011, U1011⟩ := id Fa1010
  have hin1011 : ¬ ((2 : Int32) < 0 ∨ cl1011.slots.size ≤ ((2 : Int32)).toNatClampNeg) := inb_of S1011 ⟨by decide, by decide⟩
  obtain ⟨T1011, h1011, X1011, e1011, W1011, st1011⟩ := stJ X1009 hx hZ e1009 Ar1011 (j := (2 : Int32)) hin1011 (g := (mkF m 54 #[rv b1, dv 0, .second, dv 0, .second, dv 0, .second, iv 0, iv 2, .unset, .unset] [(.long 4), (.int 2), (.ref b2_2)])) rfl rfl (hb hby d7_54)
  refine go st1011 ?_
  have V1011 : Arv Z h1011 b2_2 k2_2 .long (4 : Int32) [(.long 1), (.long 3), (.long 4), (.long 0)] (.long 0) := Arv.set Ar1011 q1011 S1011 M1011 H1011 U1011 rfl W1011 2 rfl (Nat.le_of_ble_eq_true rfl)
  have N1011 := Fr.snoc X1011 N1004 gg_b2_2
  have K1011 : Keep h0 h1011 [b1, b2_2, b2_3, b2_1] := K1004.wr W1011 (Or.inl (List.mem_of_getElem? (i := 1) rfl))
  have Z1011 := Nat.le_trans Z1004 (Keep.of_wr W1011).1
  refine go (fun tg kg => XS.aloadN X1011.here hx rfl (hb hby d7_55) rfl rfl kg) ?_
  refine go (fun tg kg => XS.dup X1011.here hx rfl (hb hby d7_56) rfl rfl kg) ?_
  have Fa1012 := (Fa1008.other W1011 (Or.inl (Ne.symm ne_b2_2_b1)))
  obtain ⟨T1013, X1013, e1013, st1013⟩ := getF X1011 hx hZ hown (host := "") (Or.inl (own_w hw 12 rfl)) Via.refl e1011 Fa1012 (g := (mkF m 57 #[rv b1, dv 0, .second, dv 0, .second, dv 0, .second, iv 0, iv 2, .unset, .unset] [(.ref b1), (.ref b1)])) rfl rfl (hb hby d7_57)
  refine go st1013 ?_
  refine go (fun tg kg => XS.lconst X1013.here hx rfl (hb hby d7_60) kg) ?_
  show G (T1013.setTop (mkF m 61 #[rv b1, dv 0, .second, dv 0, .second, dv 0, .second, iv 0, iv 2, .unset, .unset] [(.long 1), (.long 4), (.ref b1)]))
  refine go (fun tg kg => XS.ladd X1013.here hx rfl (hb hby d7_61) rfl kg) ?_
  have Fa1014 := (Fa1005.wr W1011)
  obtain ⟨T1015, h1015, X1015, e1015, W1015, st1015⟩ := putF X1013 hx hZ hown (host := "") (Or.inl (own_w hw 12 rfl)) Via.refl e1013 Fa1012 Fa1014 (Or.inl (own_w hw 13 rfl)) (own_w hw 2 rfl) (ty := .long) (by decide) rfl rfl (g := (mkF m 62 #[rv b1, dv 0, .second, dv 0, .second, dv 0, .second, iv 0, iv 2, .unset, .unset] [(.long 5), (.ref b1)])) rfl rfl (hb hby d7_62)
  refine go st1015 ?_
  have Fw1015 : Fld Z h1015 b1 cF "nextId" "J" (.long 5) := Fa1012.same W1015
  have N1015 := Fr.snoc X1015 N1011 gg_b1
  have K1015 : Keep h0 h1015 [b1, b2_2, b2_3, b2_1] := K1011.wr W1015 (Or.inl (List.mem_of_getElem? (i := 0) rfl))
  have Z1015 := Nat.le_trans Z1011 (Keep.of_wr W1015).1
  refine go (fun tg kg => XS.aloadN X1015.here hx rfl (hb hby d7_65) rfl rfl kg) ?_
  have Fa1016 := (Fa1014.wr W1015)
  have Fa1017 := (((m6.other W1004 (Or.inr (sn_births_slotsUsed hw))).other W1011 (Or.inl (Ne.symm ne_b2_2_b1))).other W1015 (Or.inr (sn_births_nextId hw)))
  obtain ⟨T1018, X1018, e1018, st1018⟩ := getF X1015 hx hZ hown (host := "") (Or.inl (own_w hw 30 rfl)) Via.refl e1015 Fa1017 (g := (mkF m 66 #[rv b1, dv 0, .second, dv 0, .second, dv 0, .second, iv 0, iv 2, .unset, .unset] [(.ref b1)])) rfl rfl (hb hby d7_66)
  refine go st1018 ?_
  refine go (fun tg kg => XS.iload X1018.here hx rfl (hb hby d7_69) rfl kg) ?_
  refine go (fun tg kg => XS.iload X1018.here hx rfl (hb hby d7_71) rfl kg) ?_
  show G (T1018.setTop (mkF m 73 #[rv b1, dv 0, .second, dv 0, .second, dv 0, .second, iv 0, iv 2, .unset, .unset] [(.int 0), (.int 2), (.ref b2_3)]))
  have Fa1019 := (((m7.other W1004 ne_b2_3_b1).other W1011 ne_b2_3_b2_2).other W1015 ne_b2_3_b1)
  obtain ⟨cl1020, Ar1020, q1020, S1020, M1020, H1020, U1020⟩ := id Fa1019
  have hin1020 : ¬ ((2 : Int32) < 0 ∨ cl1020.slots.size ≤ ((2 : Int32)).toNatClampNeg) := inb_of S1020 ⟨by decide, by decide⟩
  obtain ⟨T1020, h1020, X1020, e1020, W1020, st1020⟩ := stI X1018 hx hZ e1018 Ar1020 (j := (2 : Int32)) hin1020 (g := (mkF m 73 #[rv b1, dv 0, .second, dv 0, .second, dv 0, .second, iv 0, iv 2, .unset, .unset] [(.int 0), (.int 2), (.ref b2_3)])) rfl rfl (hb hby d7_73)
  refine go st1020 ?_
  have V1020 : Arv Z h1020 b2_3 k2_3 .int (4 : Int32) [(.int 10), (.int x3), (.int 0), (.int 0)] (.int 0) := Arv.set Ar1020 q1020 S1020 M1020 H1020 U1020 rfl W1020 2 rfl (Nat.le_of_ble_eq_true rfl)
  have N1020 := Fr.snoc X1020 N1015 gg_b2_3
  have K1020 : Keep h0 h1020 [b1, b2_2, b2_3, b2_1] := K1015.wr W1020 (Or.inl (List.mem_of_getElem? (i := 2) rfl))
  have Z1020 := Nat.le_trans Z1015 (Keep.of_wr W1020).1
  refine go (fun tg kg => XS.aloadN X1020.here hx rfl (hb hby d7_74) rfl rfl kg) ?_
  have Fa1021 := (Fa1016.wr W1020)
  have Fa1022 := ((((m8.other W1004 (Or.inr (sn_pages_slotsUsed hw))).other W1011 (Or.inl (Ne.symm ne_b2_2_b1))).other W1015 (Or.inr (sn_pages_nextId hw))).other W1020 (Or.inl (Ne.symm ne_b2_3_b1)))
  obtain ⟨T1023, X1023, e1023, st1023⟩ := getF X1020 hx hZ hown (host := "") (Or.inl (own_w hw 17 rfl)) Via.refl e1020 Fa1022 (g := (mkF m 75 #[rv b1, dv 0, .second, dv 0, .second, dv 0, .second, iv 0, iv 2, .unset, .unset] [(.ref b1)])) rfl rfl (hb hby d7_75)
  refine go st1023 ?_
  refine go (fun tg kg => XS.iload X1023.here hx rfl (hb hby d7_78) rfl kg) ?_
  refine go (fun tg kg => XS.bipush X1023.here hx rfl (hb hby d7_80) kg) ?_
  refine go (fun tg kg => XS.iushr X1023.here hx rfl (hb hby d7_82) rfl kg) ?_
  show G (T1023.setTop (mkF m 83 #[rv b1, dv 0, .second, dv 0, .second, dv 0, .second, iv 0, iv 2, .unset, .unset] [(.int (((2 : Int32).toUInt32 >>> ((24 : Int32) &&& 31).toUInt32).toInt32)), (.ref b2_0)]))
  rw [show (((2 : Int32).toUInt32 >>> ((24 : Int32) &&& 31).toUInt32).toInt32) = (0 : Int32) from by decide]
  show G (T1023.setTop (mkF m 83 #[rv b1, dv 0, .second, dv 0, .second, dv 0, .second, iv 0, iv 2, .unset, .unset] [(.int 0), (.ref b2_0)]))
  have Fa1024 := ((((m9.other W1004 ne_b2_0_b1).other W1011 ne_b2_0_b2_2).other W1015 ne_b2_0_b1).other W1020 ne_b2_0_b2_3)
  obtain ⟨cl1025, Ar1025, q1025, S1025, M1025, H1025, U1025⟩ := id Fa1024
  have hin1025 : ¬ ((0 : Int32) < 0 ∨ cl1025.slots.size ≤ ((0 : Int32)).toNatClampNeg) := inb_of S1025 ⟨by decide, by decide⟩
  refine go (fun tg kg => X1023.aaload hx (j := (0 : Int32)) (v := (.ref b2_1)) (by rw [e1023]; exact Ar1025.1) (State.isArrayOf_alike hZ.alike Ar1025.2.1) rfl Ar1025.2.2 hin1025 (H1025.at hin1025 rfl) (g := (mkF m 83 #[rv b1, dv 0, .second, dv 0, .second, dv 0, .second, iv 0, iv 2, .unset, .unset] [(.int 0), (.ref b2_0)])) rfl rfl (hb hby d7_83) _ kg) ?_
  show G (T1023.setTop (mkF m 84 #[rv b1, dv 0, .second, dv 0, .second, dv 0, .second, iv 0, iv 2, .unset, .unset] [(.ref b2_1)]))
  refine go (fun tg kg => XS.astore X1023.here hx rfl (hb hby d7_84) rfl rfl (l' := #[rv b1, dv 0, .second, dv 0, .second, dv 0, .second, iv 0, iv 2, rv b2_1, .unset]) rfl kg) ?_
  refine go (fun tg kg => XS.iload X1023.here hx rfl (hb hby d7_86) rfl kg) ?_
  refine go (fun tg kg => X1023.ldcInt hx hown (mvT hZ (own_w hw 71 rfl)) (g := (mkF m 88 #[rv b1, dv 0, .second, dv 0, .second, dv 0, .second, iv 0, iv 2, rv b2_1, .unset] [(.int 2)])) rfl (hb hby d7_88) _ kg) ?_
  refine go (fun tg kg => XS.iand X1023.here hx rfl (hb hby d7_90) rfl kg) ?_
  refine go (fun tg kg => XS.iconst X1023.here hx rfl (hb hby d7_91) kg) ?_
  refine go (fun tg kg => XS.imul X1023.here hx rfl (hb hby d7_92) rfl kg) ?_
  show G (T1023.setTop (mkF m 93 #[rv b1, dv 0, .second, dv 0, .second, dv 0, .second, iv 0, iv 2, rv b2_1, .unset] [(.int 10)]))
  refine go (fun tg kg => XS.istore X1023.here hx rfl (hb hby d7_93) rfl (l' := #[rv b1, dv 0, .second, dv 0, .second, dv 0, .second, iv 0, iv 2, rv b2_1, iv 10]) rfl kg) ?_
  refine go (fun tg kg => XS.aload X1023.here hx rfl (hb hby d7_95) rfl rfl kg) ?_
  refine go (fun tg kg => XS.iload X1023.here hx rfl (hb hby d7_97) rfl kg) ?_
  refine go (fun tg kg => XS.iconst X1023.here hx rfl (hb hby d7_99) kg) ?_
  refine go (fun tg kg => XS.iadd X1023.here hx rfl (hb hby d7_100) rfl kg) ?_
  refine go (fun tg kg => XS.dloadN X1023.here hx rfl (hb hby d7_101) rfl kg) ?_
  show G (T1023.setTop (mkF m 102 #[rv b1, dv 0, .second, dv 0, .second, dv 0, .second, iv 0, iv 2, rv b2_1, iv 10] [(dl 0), (.int 10), (.ref b2_1)]))
  have Fa1026 := ((((m10.other W1004 ne_b2_1_b1).other W1011 ne_b2_1_b2_2).other W1015 ne_b2_1_b1).other W1020 ne_b2_1_b2_3)
  obtain ⟨cl1027, Ar1027, q1027, S1027, M1027, H1027, U1027⟩ := id Fa1026
  have hin1027 : ¬ ((10 : Int32) < 0 ∨ cl1027.slots.size ≤ ((10 : Int32)).toNatClampNeg) := inb_of S1027 ⟨by decide, by decide⟩
  obtain ⟨T1027, h1027, X1027, e1027, W1027, st1027⟩ := stD X1023 hx hZ e1023 Ar1027 (j := (10 : Int32)) hin1027 (g := (mkF m 102 #[rv b1, dv 0, .second, dv 0, .second, dv 0, .second, iv 0, iv 2, rv b2_1, iv 10] [(dl 0), (.int 10), (.ref b2_1)])) rfl rfl (hb hby d7_102)
  refine go st1027 ?_
  have V1027 : Arv Z h1027 b2_1 k2_1 .double (20 : Int32) [(dl 1), (dl 2), (dl 3), (dl 0), (dl 0), (dl (x0.toInt64)), (dl (x1.toInt64)), (dl (x2.toInt64)), (dl 0), (dl 0), (dl 0), (dl 0), (dl 0), (dl 0), (dl 0), (dl 0), (dl 0), (dl 0), (dl 0), (dl 0)] (dl 0) := Arv.set Ar1027 q1027 S1027 M1027 H1027 U1027 rfl W1027 10 rfl (Nat.le_of_ble_eq_true rfl)
  have N1027 := Fr.snoc X1027 N1020 gg_b2_1
  have K1027 : Keep h0 h1027 [b1, b2_2, b2_3, b2_1] := K1020.wr W1027 (Or.inl (List.mem_of_getElem? (i := 3) rfl))
  have Z1027 := Nat.le_trans Z1020 (Keep.of_wr W1027).1
  refine go (fun tg kg => XS.aload X1027.here hx rfl (hb hby d7_103) rfl rfl kg) ?_
  refine go (fun tg kg => XS.iload X1027.here hx rfl (hb hby d7_105) rfl kg) ?_
  refine go (fun tg kg => XS.iconst X1027.here hx rfl (hb hby d7_107) kg) ?_
  refine go (fun tg kg => XS.iadd X1027.here hx rfl (hb hby d7_108) rfl kg) ?_
  refine go (fun tg kg => XS.dloadN X1027.here hx rfl (hb hby d7_109) rfl kg) ?_
  show G (T1027.setTop (mkF m 110 #[rv b1, dv 0, .second, dv 0, .second, dv 0, .second, iv 0, iv 2, rv b2_1, iv 10] [(dl 0), (.int 11), (.ref b2_1)]))
  obtain ⟨cl1028, Ar1028, q1028, S1028, M1028, H1028, U1028⟩ := id V1027
  have hin1028 : ¬ ((11 : Int32) < 0 ∨ cl1028.slots.size ≤ ((11 : Int32)).toNatClampNeg) := inb_of S1028 ⟨by decide, by decide⟩
  obtain ⟨T1028, h1028, X1028, e1028, W1028, st1028⟩ := stD X1027 hx hZ e1027 Ar1028 (j := (11 : Int32)) hin1028 (g := (mkF m 110 #[rv b1, dv 0, .second, dv 0, .second, dv 0, .second, iv 0, iv 2, rv b2_1, iv 10] [(dl 0), (.int 11), (.ref b2_1)])) rfl rfl (hb hby d7_110)
  refine go st1028 ?_
  have V1028 : Arv Z h1028 b2_1 k2_1 .double (20 : Int32) [(dl 1), (dl 2), (dl 3), (dl 0), (dl 0), (dl (x0.toInt64)), (dl (x1.toInt64)), (dl (x2.toInt64)), (dl 0), (dl 0), (dl 0), (dl 0), (dl 0), (dl 0), (dl 0), (dl 0), (dl 0), (dl 0), (dl 0), (dl 0)] (dl 0) := Arv.set Ar1028 q1028 S1028 M1028 H1028 U1028 rfl W1028 11 rfl (Nat.le_of_ble_eq_true rfl)
  have N1028 := Fr.snoc X1028 N1027 gg_b2_1
  have K1028 : Keep h0 h1028 [b1, b2_2, b2_3, b2_1] := K1027.wr W1028 (Or.inl (List.mem_of_getElem? (i := 3) rfl))
  have Z1028 := Nat.le_trans Z1027 (Keep.of_wr W1028).1
  refine go (fun tg kg => XS.aload X1028.here hx rfl (hb hby d7_111) rfl rfl kg) ?_
  refine go (fun tg kg => XS.iload X1028.here hx rfl (hb hby d7_113) rfl kg) ?_
  refine go (fun tg kg => XS.iconst X1028.here hx rfl (hb hby d7_115) kg) ?_
  refine go (fun tg kg => XS.iadd X1028.here hx rfl (hb hby d7_116) rfl kg) ?_
  refine go (fun tg kg => XS.dload X1028.here hx rfl (hb hby d7_117) rfl kg) ?_
  show G (T1028.setTop (mkF m 119 #[rv b1, dv 0, .second, dv 0, .second, dv 0, .second, iv 0, iv 2, rv b2_1, iv 10] [(dl 0), (.int 12), (.ref b2_1)]))
  obtain ⟨cl1029, Ar1029, q1029, S1029, M1029, H1029, U1029⟩ := id V1028
  have hin1029 : ¬ ((12 : Int32) < 0 ∨ cl1029.slots.size ≤ ((12 : Int32)).toNatClampNeg) := inb_of S1029 ⟨by decide, by decide⟩
  obtain ⟨T1029, h1029, X1029, e1029, W1029, st1029⟩ := stD X1028 hx hZ e1028 Ar1029 (j := (12 : Int32)) hin1029 (g := (mkF m 119 #[rv b1, dv 0, .second, dv 0, .second, dv 0, .second, iv 0, iv 2, rv b2_1, iv 10] [(dl 0), (.int 12), (.ref b2_1)])) rfl rfl (hb hby d7_119)
  refine go st1029 ?_
  have V1029 : Arv Z h1029 b2_1 k2_1 .double (20 : Int32) [(dl 1), (dl 2), (dl 3), (dl 0), (dl 0), (dl (x0.toInt64)), (dl (x1.toInt64)), (dl (x2.toInt64)), (dl 0), (dl 0), (dl 0), (dl 0), (dl 0), (dl 0), (dl 0), (dl 0), (dl 0), (dl 0), (dl 0), (dl 0)] (dl 0) := Arv.set Ar1029 q1029 S1029 M1029 H1029 U1029 rfl W1029 12 rfl (Nat.le_of_ble_eq_true rfl)
  have N1029 := Fr.snoc X1029 N1028 gg_b2_1
  have K1029 : Keep h0 h1029 [b1, b2_2, b2_3, b2_1] := K1028.wr W1029 (Or.inl (List.mem_of_getElem? (i := 3) rfl))
  have Z1029 := Nat.le_trans Z1028 (Keep.of_wr W1029).1
  refine go (fun tg kg => XS.aload X1029.here hx rfl (hb hby d7_120) rfl rfl kg) ?_
  refine go (fun tg kg => XS.iload X1029.here hx rfl (hb hby d7_122) rfl kg) ?_
  refine go (fun tg kg => XS.iconst X1029.here hx rfl (hb hby d7_124) kg) ?_
  refine go (fun tg kg => XS.iadd X1029.here hx rfl (hb hby d7_125) rfl kg) ?_
  refine go (fun tg kg => XS.dconst0 X1029.here hx rfl (hb hby d7_126) own_d0 kg) ?_
  show G (T1029.setTop (mkF m 127 #[rv b1, dv 0, .second, dv 0, .second, dv 0, .second, iv 0, iv 2, rv b2_1, iv 10] [(dl 0), (.int 13), (.ref b2_1)]))
  obtain ⟨cl1030, Ar1030, q1030, S1030, M1030, H1030, U1030⟩ := id V1029
  have hin1030 : ¬ ((13 : Int32) < 0 ∨ cl1030.slots.size ≤ ((13 : Int32)).toNatClampNeg) := inb_of S1030 ⟨by decide, by decide⟩
  obtain ⟨T1030, h1030, X1030, e1030, W1030, st1030⟩ := stD X1029 hx hZ e1029 Ar1030 (j := (13 : Int32)) hin1030 (g := (mkF m 127 #[rv b1, dv 0, .second, dv 0, .second, dv 0, .second, iv 0, iv 2, rv b2_1, iv 10] [(dl 0), (.int 13), (.ref b2_1)])) rfl rfl (hb hby d7_127)
  refine go st1030 ?_
  have V1030 : Arv Z h1030 b2_1 k2_1 .double (20 : Int32) [(dl 1), (dl 2), (dl 3), (dl 0), (dl 0), (dl (x0.toInt64)), (dl (x1.toInt64)), (dl (x2.toInt64)), (dl 0), (dl 0), (dl 0), (dl 0), (dl 0), (dl 0), (dl 0), (dl 0), (dl 0), (dl 0), (dl 0), (dl 0)] (dl 0) := Arv.set Ar1030 q1030 S1030 M1030 H1030 U1030 rfl W1030 13 rfl (Nat.le_of_ble_eq_true rfl)
  have N1030 := Fr.snoc X1030 N1029 gg_b2_1
  have K1030 : Keep h0 h1030 [b1, b2_2, b2_3, b2_1] := K1029.wr W1030 (Or.inl (List.mem_of_getElem? (i := 3) rfl))
  have Z1030 := Nat.le_trans Z1029 (Keep.of_wr W1030).1
  refine go (fun tg kg => XS.aload X1030.here hx rfl (hb hby d7_128) rfl rfl kg) ?_
  refine go (fun tg kg => XS.iload X1030.here hx rfl (hb hby d7_130) rfl kg) ?_
  refine go (fun tg kg => XS.iconst X1030.here hx rfl (hb hby d7_132) kg) ?_
  refine go (fun tg kg => XS.iadd X1030.here hx rfl (hb hby d7_133) rfl kg) ?_
  refine go (fun tg kg => XS.dconst0 X1030.here hx rfl (hb hby d7_134) own_d0 kg) ?_
  show G (T1030.setTop (mkF m 135 #[rv b1, dv 0, .second, dv 0, .second, dv 0, .second, iv 0, iv 2, rv b2_1, iv 10] [(dl 0), (.int 14), (.ref b2_1)]))
  obtain ⟨cl1031, Ar1031, q1031, S1031, M1031, H1031, U1031⟩ := id V1030
  have hin1031 : ¬ ((14 : Int32) < 0 ∨ cl1031.slots.size ≤ ((14 : Int32)).toNatClampNeg) := inb_of S1031 ⟨by decide, by decide⟩
  obtain ⟨T1031, h1031, X1031, e1031, W1031, st1031⟩ := stD X1030 hx hZ e1030 Ar1031 (j := (14 : Int32)) hin1031 (g := (mkF m 135 #[rv b1, dv 0, .second, dv 0, .second, dv 0, .second, iv 0, iv 2, rv b2_1, iv 10] [(dl 0), (.int 14), (.ref b2_1)])) rfl rfl (hb hby d7_135)
  refine go st1031 ?_
  have V1031 : Arv Z h1031 b2_1 k2_1 .double (20 : Int32) [(dl 1), (dl 2), (dl 3), (dl 0), (dl 0), (dl (x0.toInt64)), (dl (x1.toInt64)), (dl (x2.toInt64)), (dl 0), (dl 0), (dl 0), (dl 0), (dl 0), (dl 0), (dl 0), (dl 0), (dl 0), (dl 0), (dl 0), (dl 0)] (dl 0) := Arv.set Ar1031 q1031 S1031 M1031 H1031 U1031 rfl W1031 14 rfl (Nat.le_of_ble_eq_true rfl)
  have N1031 := Fr.snoc X1031 N1030 gg_b2_1
  have K1031 : Keep h0 h1031 [b1, b2_2, b2_3, b2_1] := K1030.wr W1031 (Or.inl (List.mem_of_getElem? (i := 3) rfl))
  have Z1031 := Nat.le_trans Z1030 (Keep.of_wr W1031).1
  refine go (fun tg kg => XS.aloadN X1031.here hx rfl (hb hby d7_136) rfl rfl kg) ?_
  refine go (fun tg kg => XS.dup X1031.here hx rfl (hb hby d7_137) rfl rfl kg) ?_
  have Fa1032 := (((((Fa1021.wr W1027).wr W1028).wr W1029).wr W1030).wr W1031)
  have Fa1033 := (((((((((m11.other W1004 (Or.inr (sn_openFirms_slotsUsed hw))).other W1011 (Or.inl (Ne.symm ne_b2_2_b1))).other W1015 (Or.inr (sn_openFirms_nextId hw))).other W1020 (Or.inl (Ne.symm ne_b2_3_b1))).other W1027 (Or.inl (Ne.symm ne_b2_1_b1))).other W1028 (Or.inl (Ne.symm ne_b2_1_b1))).other W1029 (Or.inl (Ne.symm ne_b2_1_b1))).other W1030 (Or.inl (Ne.symm ne_b2_1_b1))).other W1031 (Or.inl (Ne.symm ne_b2_1_b1)))
  obtain ⟨T1034, X1034, e1034, st1034⟩ := getF X1031 hx hZ hown (host := "") (Or.inl (own_w hw 72 rfl)) Via.refl e1031 Fa1033 (g := (mkF m 138 #[rv b1, dv 0, .second, dv 0, .second, dv 0, .second, iv 0, iv 2, rv b2_1, iv 10] [(.ref b1), (.ref b1)])) rfl rfl (hb hby d7_138)
  refine go st1034 ?_
  refine go (fun tg kg => XS.iconst X1034.here hx rfl (hb hby d7_141) kg) ?_
  refine go (fun tg kg => XS.iadd X1034.here hx rfl (hb hby d7_142) rfl kg) ?_
  show G (T1034.setTop (mkF m 143 #[rv b1, dv 0, .second, dv 0, .second, dv 0, .second, iv 0, iv 2, rv b2_1, iv 10] [(.int 3), (.ref b1)]))
  obtain ⟨T1035, h1035, X1035, e1035, W1035, st1035⟩ := putF X1034 hx hZ hown (host := "") (Or.inl (own_w hw 72 rfl)) Via.refl e1034 Fa1033 Fa1032 (Or.inl (own_w hw 73 rfl)) (own_w hw 2 rfl) (ty := .int) (by decide) rfl rfl (g := (mkF m 143 #[rv b1, dv 0, .second, dv 0, .second, dv 0, .second, iv 0, iv 2, rv b2_1, iv 10] [(.int 3), (.ref b1)])) rfl rfl (hb hby d7_143)
  refine go st1035 ?_
  have Fw1035 : Fld Z h1035 b1 cF "openFirms" "I" (.int 3) := Fa1033.same W1035
  have N1035 := Fr.snoc X1035 N1031 gg_b1
  have K1035 : Keep h0 h1035 [b1, b2_2, b2_3, b2_1] := K1031.wr W1035 (Or.inl (List.mem_of_getElem? (i := 0) rfl))
  have Z1035 := Nat.le_trans Z1031 (Keep.of_wr W1035).1
  refine go (fun tg kg => XS.iload X1035.here hx rfl (hb hby d7_146) rfl kg) ?_
  refine fin (some (.int 2)) X1035 (fun h => absurd h (by decide)) (fun fs hr => retOut X1035 hx hret rfl (Or.inl ⟨rfl, Or.inl rfl, _, rfl⟩) (hb hby d7_148) hr) (by decide) (by decide) ?_
  rw [e1035]
  have Fa1036 := (Fa1032.wr W1035)
  have Fa1037 := ((((((((((m0.other W1004 (Or.inr (sn_freeSlot_slotsUsed hw))).other W1011 (Or.inl (Ne.symm ne_b2_2_b1))).other W1015 (Or.inr (sn_freeSlot_nextId hw))).other W1020 (Or.inl (Ne.symm ne_b2_3_b1))).other W1027 (Or.inl (Ne.symm ne_b2_1_b1))).other W1028 (Or.inl (Ne.symm ne_b2_1_b1))).other W1029 (Or.inl (Ne.symm ne_b2_1_b1))).other W1030 (Or.inl (Ne.symm ne_b2_1_b1))).other W1031 (Or.inl (Ne.symm ne_b2_1_b1))).other W1035 (Or.inr (sn_freeSlot_openFirms hw)))
  have Fa1038 := (((((((((Fw1004.other W1011 (Or.inl (Ne.symm ne_b2_2_b1))).other W1015 (Or.inr (sn_slotsUsed_nextId hw))).other W1020 (Or.inl (Ne.symm ne_b2_3_b1))).other W1027 (Or.inl (Ne.symm ne_b2_1_b1))).other W1028 (Or.inl (Ne.symm ne_b2_1_b1))).other W1029 (Or.inl (Ne.symm ne_b2_1_b1))).other W1030 (Or.inl (Ne.symm ne_b2_1_b1))).other W1031 (Or.inl (Ne.symm ne_b2_1_b1))).other W1035 (Or.inr (sn_slotsUsed_openFirms hw)))
  have Fa1039 := (((((((((Fa1006.other W1011 (Or.inl (Ne.symm ne_b2_2_b1))).other W1015 (Or.inr (sn_ids_nextId hw))).other W1020 (Or.inl (Ne.symm ne_b2_3_b1))).other W1027 (Or.inl (Ne.symm ne_b2_1_b1))).other W1028 (Or.inl (Ne.symm ne_b2_1_b1))).other W1029 (Or.inl (Ne.symm ne_b2_1_b1))).other W1030 (Or.inl (Ne.symm ne_b2_1_b1))).other W1031 (Or.inl (Ne.symm ne_b2_1_b1))).other W1035 (Or.inr (sn_ids_openFirms hw)))
  have Fa1040 := (((((((Fw1015.other W1020 (Or.inl (Ne.symm ne_b2_3_b1))).other W1027 (Or.inl (Ne.symm ne_b2_1_b1))).other W1028 (Or.inl (Ne.symm ne_b2_1_b1))).other W1029 (Or.inl (Ne.symm ne_b2_1_b1))).other W1030 (Or.inl (Ne.symm ne_b2_1_b1))).other W1031 (Or.inl (Ne.symm ne_b2_1_b1))).other W1035 (Or.inr (sn_nextId_openFirms hw)))
  have Fa1041 := ((((((((V1011.other W1015 ne_b2_2_b1).other W1020 (Ne.symm ne_b2_3_b2_2)).other W1027 (Ne.symm ne_b2_1_b2_2)).other W1028 (Ne.symm ne_b2_1_b2_2)).other W1029 (Ne.symm ne_b2_1_b2_2)).other W1030 (Ne.symm ne_b2_1_b2_2)).other W1031 (Ne.symm ne_b2_1_b2_2)).other W1035 ne_b2_2_b1)
  have Fa1042 := (((((((Fa1017.other W1020 (Or.inl (Ne.symm ne_b2_3_b1))).other W1027 (Or.inl (Ne.symm ne_b2_1_b1))).other W1028 (Or.inl (Ne.symm ne_b2_1_b1))).other W1029 (Or.inl (Ne.symm ne_b2_1_b1))).other W1030 (Or.inl (Ne.symm ne_b2_1_b1))).other W1031 (Or.inl (Ne.symm ne_b2_1_b1))).other W1035 (Or.inr (sn_births_openFirms hw)))
  have Fa1043 := ((((((V1020.other W1027 (Ne.symm ne_b2_1_b2_3)).other W1028 (Ne.symm ne_b2_1_b2_3)).other W1029 (Ne.symm ne_b2_1_b2_3)).other W1030 (Ne.symm ne_b2_1_b2_3)).other W1031 (Ne.symm ne_b2_1_b2_3)).other W1035 ne_b2_3_b1)
  have Fa1044 := ((((((Fa1022.other W1027 (Or.inl (Ne.symm ne_b2_1_b1))).other W1028 (Or.inl (Ne.symm ne_b2_1_b1))).other W1029 (Or.inl (Ne.symm ne_b2_1_b1))).other W1030 (Or.inl (Ne.symm ne_b2_1_b1))).other W1031 (Or.inl (Ne.symm ne_b2_1_b1))).other W1035 (Or.inr (sn_pages_openFirms hw)))
  have Fa1045 := (V1031.other W1035 ne_b2_1_b1)
  have Fa1046 := ((((((((((m12.other W1004 (Or.inr (sn_members_slotsUsed hw))).other W1011 (Or.inl (Ne.symm ne_b2_2_b1))).other W1015 (Or.inr (sn_members_nextId hw))).other W1020 (Or.inl (Ne.symm ne_b2_3_b1))).other W1027 (Or.inl (Ne.symm ne_b2_1_b1))).other W1028 (Or.inl (Ne.symm ne_b2_1_b1))).other W1029 (Or.inl (Ne.symm ne_b2_1_b1))).other W1030 (Or.inl (Ne.symm ne_b2_1_b1))).other W1031 (Or.inl (Ne.symm ne_b2_1_b1))).other W1035 (Or.inr (sn_members_openFirms hw)))
  have Fa1047 := ((((((((((m13.other W1004 (Or.inr (sn_changedNow_slotsUsed hw))).other W1011 (Or.inl (Ne.symm ne_b2_2_b1))).other W1015 (Or.inr (sn_changedNow_nextId hw))).other W1020 (Or.inl (Ne.symm ne_b2_3_b1))).other W1027 (Or.inl (Ne.symm ne_b2_1_b1))).other W1028 (Or.inl (Ne.symm ne_b2_1_b1))).other W1029 (Or.inl (Ne.symm ne_b2_1_b1))).other W1030 (Or.inl (Ne.symm ne_b2_1_b1))).other W1031 (Or.inl (Ne.symm ne_b2_1_b1))).other W1035 (Or.inr (sn_changedNow_openFirms hw)))
  have Fa1048 := ((((((((((m14.other W1004 (Or.inr (sn_changedBefore_slotsUsed hw))).other W1011 (Or.inl (Ne.symm ne_b2_2_b1))).other W1015 (Or.inr (sn_changedBefore_nextId hw))).other W1020 (Or.inl (Ne.symm ne_b2_3_b1))).other W1027 (Or.inl (Ne.symm ne_b2_1_b1))).other W1028 (Or.inl (Ne.symm ne_b2_1_b1))).other W1029 (Or.inl (Ne.symm ne_b2_1_b1))).other W1030 (Or.inl (Ne.symm ne_b2_1_b1))).other W1031 (Or.inl (Ne.symm ne_b2_1_b1))).other W1035 (Or.inr (sn_changedBefore_openFirms hw)))
  have Fa1049 := ((((((((((m15.wr W1004).wr W1011).wr W1015).wr W1020).wr W1027).wr W1028).wr W1029).wr W1030).wr W1031).wr W1035)
  exact ⟨rfl, N1035, K1035, Fa1037, Fa1038, Fa1036, Fa1039, Fa1040, Fa1041, Fa1042, Fa1043, Fa1044, Fa1045, Fw1035, Fa1046, Fa1047, Fa1048, Fa1049⟩
def Q_rm0 (Z : State) (x0 : Int32) (x1 : Int32) (x2 : Int32) (x3 : Int32) (x4 : Int32) (h0 : Heap) (n0 : Nat) (v : Option Value) (h : Heap) (L : List Loc) : Prop := v = some (.int 1) ∧ Fr n0 L
set_option maxRecDepth 65536 in
set_option maxHeartbeats 40000000 in
theorem rm0 (l : Launch) (Z : State) (a0 : Array Value) (hw : ∀ d ∈ tables_1, d.before a0 Z = true) (ws : List Jvm.Cond) (x0 : Int32) (x1 : Int32) (x2 : Int32) (x3 : Int32) (x4 : Int32) (h0 : Heap) (n0 : Nat) (Z0 : n0 ≤ h0.size) :
    oM l x code maxLocals ret ws room_1 Z h0 #[(.int x0), (.int x1), (.int x2), (.int x3), (.int x4)] (Q_rm0 Z x0 x1 x2 x3 x4 h0 n0) := by
  refine own_enter (Q := Q_rm0 Z x0 x1 x2 x3 x4 h0 n0) (plainFor_of_name pn_com_example_housemartin_housemartin_firm_FirmSlotsOpenPinLaw) ?_
  intro p e s m below meth c s₁ G X0 hx hby hml hZ hown hnm hret e0 go fin
  replace hown : s.vm.findClass "com/example/housemartin/housemartin/firm/FirmSlotsOpenPinLaw" = some m.cls := hown
  replace hnm : meth.name = "law" := hnm
  replace hml : c.maxLocals = 21 := hml
  rw [ef_0 m x0 x1 x2 x3 x4]
  have N0 := Fr.nil n0
  refine go (fun tg kg => XS.iload X0.here hx rfl (hb hby at_0) rfl kg) ?_
  refine go (fun tg kg => X0.ldcInt hx hown (mvT hZ (own_w hw 0 rfl)) (g := (mkF m 2 #[iv x0, iv x1, iv x2, iv x3, iv x4, .unset, .unset, .unset, .unset, .unset, .unset, .unset, .unset, .unset, .unset, .unset, .unset, .unset, .unset, .unset, .unset] [(.int x4)])) rfl (hb hby at_2) _ kg) ?_
  refine go (fun tg kg => XS.iand X0.here hx rfl (hb hby at_4) rfl kg) ?_
  refine go (fun tg kg => XS.iconst X0.here hx rfl (hb hby at_5) kg) ?_
  refine go (fun tg kg => iremM X0 hx rfl (hb hby at_6) rfl (by decide) kg) ?_
  show G (s₁.setTop (mkF m 7 #[iv x0, iv x1, iv x2, iv x3, iv x4, .unset, .unset, .unset, .unset, .unset, .unset, .unset, .unset, .unset, .unset, .unset, .unset, .unset, .unset, .unset, .unset] [(.int ((x4 &&& (2147483647 : Int32)) % (3 : Int32)))]))
  refine go (fun tg kg => XS.istore X0.here hx rfl (hb hby at_7) rfl (l' := #[iv x0, iv x1, iv x2, iv x3, iv x4, iv ((x4 &&& (2147483647 : Int32)) % (3 : Int32)), .unset, .unset, .unset, .unset, .unset, .unset, .unset, .unset, .unset, .unset, .unset, .unset, .unset, .unset, .unset]) rfl kg) ?_
  obtain ⟨T1, h1, X1, e1, E1, A1, D1, -, st1⟩ := newO X0 hx hZ hown (own_w hw 1 rfl) (own_w hw 2 rfl) (own_w hw 3 rfl) e0 (g := (mkF m 9 #[iv x0, iv x1, iv x2, iv x3, iv x4, iv ((x4 &&& (2147483647 : Int32)) % (3 : Int32)), .unset, .unset, .unset, .unset, .unset, .unset, .unset, .unset, .unset, .unset, .unset, .unset, .unset, .unset, .unset] [])) rfl (hb hby at_9) (by decide) (by decide)
  obtain ⟨b1, g1⟩ : ∃ z, z = h0.size := ⟨_, rfl⟩
  rw [← g1] at A1 D1 st1
  refine go st1 ?_
  have ge_b1 : n0 ≤ b1 := Nat.le_trans Z0 (Nat.le_of_eq g1.symm)
  have Z1 := Nat.le_trans Z0 E1.1
  have F1_freeSlot : Fld Z h1 b1 "com/example/housemartin/housemartin/firm/FirmSlots" "freeSlot" "I" (.int 0) := D1 (Or.inl (own_w hw 11 rfl)) (ty := .int) (by decide)
  have F1_nextId : Fld Z h1 b1 "com/example/housemartin/housemartin/firm/FirmSlots" "nextId" "J" (.long 0) := D1 (Or.inl (own_w hw 13 rfl)) (ty := .long) (by decide)
  have F1_pages : Fld Z h1 b1 "com/example/housemartin/housemartin/firm/FirmSlots" "pages" "[[D" .null := D1 (Or.inr (own_w hw 18 rfl)) (ty := (.array (.array .double))) (by decide)
  have F1_ids : Fld Z h1 b1 "com/example/housemartin/housemartin/firm/FirmSlots" "ids" "[J" .null := D1 (Or.inr (own_w hw 28 rfl)) (ty := (.array .long)) (by decide)
  have F1_births : Fld Z h1 b1 "com/example/housemartin/housemartin/firm/FirmSlots" "births" "[I" .null := D1 (Or.inr (own_w hw 31 rfl)) (ty := (.array .int)) (by decide)
  have F1_members : Fld Z h1 b1 "com/example/housemartin/housemartin/firm/FirmSlots" "members" "Lcom/example/housemartin/housemartin/firm/Members;" .null := D1 (Or.inr (own_w hw 57 rfl)) (ty := (.object "com/example/housemartin/housemartin/firm/Members")) (by decide)
  have F1_changedNow : Fld Z h1 b1 "com/example/housemartin/housemartin/firm/FirmSlots" "changedNow" "[J" .null := D1 (Or.inl (own_w hw 59 rfl)) (ty := (.array .long)) (by decide)
  have F1_changedBefore : Fld Z h1 b1 "com/example/housemartin/housemartin/firm/FirmSlots" "changedBefore" "[J" .null := D1 (Or.inl (own_w hw 61 rfl)) (ty := (.array .long)) (by decide)
  have F1_slotsUsed : Fld Z h1 b1 "com/example/housemartin/housemartin/firm/FirmSlots" "slotsUsed" "I" (.int 0) := D1 (Or.inl (own_w hw 70 rfl)) (ty := .int) (by decide)
  have F1_openFirms : Fld Z h1 b1 "com/example/housemartin/housemartin/firm/FirmSlots" "openFirms" "I" (.int 0) := D1 (Or.inl (own_w hw 73 rfl)) (ty := .int) (by decide)
  refine go (fun tg kg => XS.dup X1.here hx rfl (hb hby at_12) rfl rfl kg) ?_
  refine go (fun tg kg => XS.iconst X1.here hx rfl (hb hby at_13) kg) ?_
  obtain ⟨_, _, ⟨T2, L2, k2, n2⟩, -, X2, ⟨Lc2, hQ2, l2, y2, z2⟩, st2⟩ := X1.specialBack hx (y := y1) rfl hown (mvT hZ (own_w hw 4 rfl)) (mvT hZ (own_w hw 5 rfl)) (mvT hZ (own_w hw 6 rfl)) (by decide) (backOf (W := 1) (rm1_0 l Z a0 hw [] b1 h1 n0 Z1 A1 F1_freeSlot F1_nextId F1_pages F1_ids F1_births F1_members F1_changedNow F1_changedBefore F1_slotsUsed F1_openFirms ge_b1) hZ (own_w hw 6 rfl) (own_w hw 3 rfl) (by decide) (by decide)) (g := (mkF m 14 #[iv x0, iv x1, iv x2, iv x3, iv x4, iv ((x4 &&& (2147483647 : Int32)) % (3 : Int32)), .unset, .unset, .unset, .unset, .unset, .unset, .unset, .unset, .unset, .unset, .unset, .unset, .unset, .unset, .unset] [(.int 4), (.ref b1), (.ref b1)])) rfl (by rw [hml]; rfl) (Steps.refl _) (a := b1) (argsL := [(.int 4)]) (rest := [(.ref b1)]) (lenOf pd__I_V rfl) rfl (by show 2 * 0 + _ ≤ _; exact Nat.le_of_eq rfl) (hb hby at_14) (fun _ _ => ⟨rfl, e1, (by decide : 1 + 11 ≤ _), (by decide : 10 + 92 ≤ _)⟩)
  dsimp only [Pt.U, Pt.locs, Pt.cells, Pt.slots] at X2 l2 y2 z2 st2 hQ2
  subst l2 y2 z2
  obtain ⟨b2_0, b2_1, b2_2, b2_3, b2_4, b2_5, b2_6, b2_7, b2_8, b2_9, b2_10, k2_0, k2_1, k2_2, k2_3, k2_4, k2_5, k2_6, k2_7, k2_8, rfl, Nq2, K2, sz_b2_0, ge_b2_0, sz_b2_1, ge_b2_1, sz_b2_2, ge_b2_2, sz_b2_3, ge_b2_3, sz_b2_4, ge_b2_4, sz_b2_5, ge_b2_5, sz_b2_6, ge_b2_6, sz_b2_7, ge_b2_7, sz_b2_8, ge_b2_8, sz_b2_9, ge_b2_9, sz_b2_10, ge_b2_10, ne_b2_0_b2_1, ne_b2_0_b2_2, ne_b2_0_b2_3, ne_b2_0_b2_4, ne_b2_0_b2_5, ne_b2_0_b2_6, ne_b2_0_b2_7, ne_b2_0_b2_8, ne_b2_0_b2_9, ne_b2_0_b2_10, ne_b2_1_b2_2, ne_b2_1_b2_3, ne_b2_1_b2_4, ne_b2_1_b2_5, ne_b2_1_b2_6, ne_b2_1_b2_7, ne_b2_1_b2_8, ne_b2_1_b2_9, ne_b2_1_b2_10, ne_b2_2_b2_3, ne_b2_2_b2_4, ne_b2_2_b2_5, ne_b2_2_b2_6, ne_b2_2_b2_7, ne_b2_2_b2_8, ne_b2_2_b2_9, ne_b2_2_b2_10, ne_b2_3_b2_4, ne_b2_3_b2_5, ne_b2_3_b2_6, ne_b2_3_b2_7, ne_b2_3_b2_8, ne_b2_3_b2_9, ne_b2_3_b2_10, ne_b2_4_b2_5, ne_b2_4_b2_6, ne_b2_4_b2_7, ne_b2_4_b2_8, ne_b2_4_b2_9, ne_b2_4_b2_10, ne_b2_5_b2_6, ne_b2_5_b2_7, ne_b2_5_b2_8, ne_b2_5_b2_9, ne_b2_5_b2_10, ne_b2_6_b2_7, ne_b2_6_b2_8, ne_b2_6_b2_9, ne_b2_6_b2_10, ne_b2_7_b2_8, ne_b2_7_b2_9, ne_b2_7_b2_10, ne_b2_8_b2_9, ne_b2_8_b2_10, ne_b2_9_b2_10, Gf2_0, Gf2_1, Gf2_2, Gf2_3, Gf2_4, Gf2_5, Gf2_6, Gf2_7, Gf2_8, Gf2_9, Gf2_10, Gf2_11, Gf2_12, Gf2_13, Gf2_14, Gf2_15, Gf2_16, Gf2_17, Gf2_18, Gf2_19, Gf2_20, Gf2_21, Gf2_22, Gf2_23, Gf2_24, Gf2_25, Gf2_26, Gf2_27, Gf2_28, Gf2_29⟩ := hQ2
  have Z2 := Nat.le_trans Z1 K2.1
  have N2 := Fr.app N0 Nq2
  refine go (fun tg kg => st2.trans kg) ?_
  refine go (fun tg kg => XS.astore X2.here hx rfl (hb hby at_17) rfl rfl (l' := #[iv x0, iv x1, iv x2, iv x3, iv x4, iv ((x4 &&& (2147483647 : Int32)) % (3 : Int32)), rv b1, .unset, .unset, .unset, .unset, .unset, .unset, .unset, .unset, .unset, .unset, .unset, .unset, .unset, .unset]) rfl kg) ?_
  show G (T2.setTop (mkF m 19 #[iv x0, iv x1, iv x2, iv x3, iv x4, iv ((x4 &&& (2147483647 : Int32)) % (3 : Int32)), rv b1, .unset, .unset, .unset, .unset, .unset, .unset, .unset, .unset, .unset, .unset, .unset, .unset, .unset, .unset] []))
  refine go (fun tg kg => XS.aload X2.here hx rfl (hb hby at_19) rfl rfl kg) ?_
  refine go (fun tg kg => XS.dconst1 X2.here hx rfl (hb hby at_21) own_d1 kg) ?_
  refine go (fun tg kg => X2.ldc2DoubleC hx hown (mvT hZ (own_w hw 62 rfl)) (g := (mkF m 22 #[iv x0, iv x1, iv x2, iv x3, iv x4, iv ((x4 &&& (2147483647 : Int32)) % (3 : Int32)), rv b1, .unset, .unset, .unset, .unset, .unset, .unset, .unset, .unset, .unset, .unset, .unset, .unset, .unset, .unset] [(dl 1), (.ref b1)])) rfl (hb hby at_22) _ kg) ?_
  rw [own_dl2]
  refine go (fun tg kg => X2.ldc2DoubleC hx hown (mvT hZ (own_w hw 63 rfl)) (g := (mkF m 25 #[iv x0, iv x1, iv x2, iv x3, iv x4, iv ((x4 &&& (2147483647 : Int32)) % (3 : Int32)), rv b1, .unset, .unset, .unset, .unset, .unset, .unset, .unset, .unset, .unset, .unset, .unset, .unset, .unset, .unset] [(dl 2), (dl 1), (.ref b1)])) rfl (hb hby at_25) _ kg) ?_
  rw [own_dl3]
  refine go (fun tg kg => XS.bipush X2.here hx rfl (hb hby at_28) kg) ?_
  have nn4 : b1 ≠ b2_2 := (Nat.ne_of_lt (Nat.lt_of_lt_of_le F1_openFirms.lt sz_b2_2))
  have nn5 : b1 ≠ b2_3 := (Nat.ne_of_lt (Nat.lt_of_lt_of_le F1_openFirms.lt sz_b2_3))
  have nn6 : b1 ≠ b2_0 := (Nat.ne_of_lt (Nat.lt_of_lt_of_le F1_openFirms.lt sz_b2_0))
  have nn7 : b1 ≠ b2_1 := (Nat.ne_of_lt (Nat.lt_of_lt_of_le F1_openFirms.lt sz_b2_1))
  obtain ⟨cq3, kq3, q3a, q3b, q3c⟩ := isOf hZ rfl Gf2_0
  obtain ⟨_, _, ⟨T3, L3, k3, n3⟩, -, X3, ⟨Lc3, hQ3, l3, y3, z3⟩, st3⟩ := X2.virtualBack hx (y := y7) (z := y7) hown (mvT hZ (own_w hw 64 rfl)) (mvT hZ (own_w hw 65 rfl)) (notFace_of_selects (args := #[]) (mvT hZ (own_w hw 67 rfl))) (mvT hZ (own_w hw 67 rfl)) (mvT hZ (own_w hw 66 rfl)) (by decide) (backOf (W := 0) (rm7_0 l Z a0 hw [] b1 b2_2 k2_2 b2_3 k2_3 b2_0 k2_0 b2_1 k2_1 b2_4 b2_9 b2_10 T2.heap n0 Z2 Gf2_1 Gf2_9 Gf2_0 Gf2_4 Gf2_2 Gf2_15 Gf2_5 Gf2_16 Gf2_3 Gf2_11 Gf2_13 Gf2_10 Gf2_6 Gf2_7 Gf2_8 Gf2_14 (Ne.symm nn4) (Ne.symm nn5) (Ne.symm ne_b2_2_b2_3) (Ne.symm nn6) ne_b2_0_b2_2 ne_b2_0_b2_3 (Ne.symm nn7) ne_b2_1_b2_2 ne_b2_1_b2_3 ge_b1 ge_b2_2 ge_b2_3 ge_b2_1) hZ (own_w hw 68 rfl) (own_w hw 3 rfl) (by decide) (by decide)) q3a q3c (g := (mkF m 30 #[iv x0, iv x1, iv x2, iv x3, iv x4, iv ((x4 &&& (2147483647 : Int32)) % (3 : Int32)), rv b1, .unset, .unset, .unset, .unset, .unset, .unset, .unset, .unset, .unset, .unset, .unset, .unset, .unset, .unset] [(.int 10), (dl 3), (dl 2), (dl 1), (.ref b1)])) rfl (by rw [hml]; rfl) (Steps.refl _) (argsL := [(dl 1), (dl 2), (dl 3), (.int 10)]) (rest := []) (lenOf pd__DDDI_I rfl) rfl (by show 2 * 0 + _ ≤ _; exact Nat.le_of_eq rfl) (hb hby at_30) (fun _ _ => ⟨rfl, rfl, (by decide : 12 + 0 ≤ _), (by decide : 102 + 0 ≤ _)⟩)
  dsimp only [Pt.U, Pt.locs, Pt.cells, Pt.slots] at X3 l3 y3 z3 st3 hQ3
  subst l3 y3 z3
  obtain ⟨rfl, Nq3, K3, Gf3_0, Gf3_1, Gf3_2, Gf3_3, Gf3_4, Gf3_5, Gf3_6, Gf3_7, Gf3_8, Gf3_9, Gf3_10, Gf3_11, Gf3_12, Gf3_13, Gf3_14⟩ := hQ3
  have Z3 := Nat.le_trans Z2 K3.1
  have N3 := Fr.app N2 Nq3
  refine go (fun tg kg => st3.trans kg) ?_
  show G (T3.setTop (mkF m 33 #[iv x0, iv x1, iv x2, iv x3, iv x4, iv ((x4 &&& (2147483647 : Int32)) % (3 : Int32)), rv b1, .unset, .unset, .unset, .unset, .unset, .unset, .unset, .unset, .unset, .unset, .unset, .unset, .unset, .unset] [(.int 0)]))
  refine go (fun tg kg => XS.istore X3.here hx rfl (hb hby at_33) rfl (l' := #[iv x0, iv x1, iv x2, iv x3, iv x4, iv ((x4 &&& (2147483647 : Int32)) % (3 : Int32)), rv b1, iv 0, .unset, .unset, .unset, .unset, .unset, .unset, .unset, .unset, .unset, .unset, .unset, .unset, .unset]) rfl kg) ?_
  refine go (fun tg kg => XS.aload X3.here hx rfl (hb hby at_35) rfl rfl kg) ?_
  refine go (fun tg kg => X3.ldc2DoubleC hx hown (mvT hZ (own_w hw 74 rfl)) (g := (mkF m 37 #[iv x0, iv x1, iv x2, iv x3, iv x4, iv ((x4 &&& (2147483647 : Int32)) % (3 : Int32)), rv b1, iv 0, .unset, .unset, .unset, .unset, .unset, .unset, .unset, .unset, .unset, .unset, .unset, .unset, .unset] [(.ref b1)])) rfl (hb hby at_37) _ kg) ?_
  rw [own_dl4]
  refine go (fun tg kg => X3.ldc2DoubleC hx hown (mvT hZ (own_w hw 75 rfl)) (g := (mkF m 40 #[iv x0, iv x1, iv x2, iv x3, iv x4, iv ((x4 &&& (2147483647 : Int32)) % (3 : Int32)), rv b1, iv 0, .unset, .unset, .unset, .unset, .unset, .unset, .unset, .unset, .unset, .unset, .unset, .unset, .unset] [(dl 4), (.ref b1)])) rfl (hb hby at_40) _ kg) ?_
  rw [own_dl5]
  refine go (fun tg kg => X3.ldc2DoubleC hx hown (mvT hZ (own_w hw 76 rfl)) (g := (mkF m 43 #[iv x0, iv x1, iv x2, iv x3, iv x4, iv ((x4 &&& (2147483647 : Int32)) % (3 : Int32)), rv b1, iv 0, .unset, .unset, .unset, .unset, .unset, .unset, .unset, .unset, .unset, .unset, .unset, .unset, .unset] [(dl 5), (dl 4), (.ref b1)])) rfl (hb hby at_43) _ kg) ?_
  rw [own_dl6]
  refine go (fun tg kg => XS.bipush X3.here hx rfl (hb hby at_46) kg) ?_
  show G (T3.setTop (mkF m 48 #[iv x0, iv x1, iv x2, iv x3, iv x4, iv ((x4 &&& (2147483647 : Int32)) % (3 : Int32)), rv b1, iv 0, .unset, .unset, .unset, .unset, .unset, .unset, .unset, .unset, .unset, .unset, .unset, .unset, .unset] [(.int 20), (dl 6), (dl 5), (dl 4), (.ref b1)]))
  have Fa9 := (Gf2_11.keep K3 (ninS (Ne.symm nn6) (ninS ne_b2_0_b2_2 (ninS ne_b2_0_b2_3 (ninS ne_b2_0_b2_1 nin0)))))
  obtain ⟨cq8, kq8, q8a, q8b, q8c⟩ := isOf hZ rfl Gf3_2
  obtain ⟨_, _, ⟨T8, L8, k8, n8⟩, -, X8, ⟨Lc8, hQ8, l8, y8, z8⟩, st8⟩ := X3.virtualBack hx (y := y7) (z := y7) hown (mvT hZ (own_w hw 64 rfl)) (mvT hZ (own_w hw 65 rfl)) (notFace_of_selects (args := #[]) (mvT hZ (own_w hw 67 rfl))) (mvT hZ (own_w hw 67 rfl)) (mvT hZ (own_w hw 66 rfl)) (by decide) (backOf (W := 0) (rm7_1 l Z a0 hw [] b1 b2_2 k2_2 b2_3 k2_3 b2_0 k2_0 b2_1 k2_1 b2_4 b2_9 b2_10 T3.heap n0 Z3 Gf3_0 Gf3_1 Gf3_2 Gf3_3 Gf3_4 Gf3_5 Gf3_6 Gf3_7 Gf3_8 Fa9 Gf3_9 Gf3_10 Gf3_11 Gf3_12 Gf3_13 Gf3_14 (Ne.symm nn4) (Ne.symm nn5) (Ne.symm ne_b2_2_b2_3) (Ne.symm nn6) ne_b2_0_b2_2 ne_b2_0_b2_3 (Ne.symm nn7) ne_b2_1_b2_2 ne_b2_1_b2_3 ge_b1 ge_b2_2 ge_b2_3 ge_b2_1) hZ (own_w hw 68 rfl) (own_w hw 3 rfl) (by decide) (by decide)) q8a q8c (g := (mkF m 48 #[iv x0, iv x1, iv x2, iv x3, iv x4, iv ((x4 &&& (2147483647 : Int32)) % (3 : Int32)), rv b1, iv 0, .unset, .unset, .unset, .unset, .unset, .unset, .unset, .unset, .unset, .unset, .unset, .unset, .unset] [(.int 20), (dl 6), (dl 5), (dl 4), (.ref b1)])) rfl (by rw [hml]; rfl) (Steps.refl _) (argsL := [(dl 4), (dl 5), (dl 6), (.int 20)]) (rest := []) (lenOf pd__DDDI_I rfl) rfl (by show 2 * 0 + _ ≤ _; exact Nat.le_of_eq rfl) (hb hby at_48) (fun _ _ => ⟨rfl, rfl, (by decide : 12 + 0 ≤ _), (by decide : 102 + 0 ≤ _)⟩)
  dsimp only [Pt.U, Pt.locs, Pt.cells, Pt.slots] at X8 l8 y8 z8 st8 hQ8
  subst l8 y8 z8
  obtain ⟨rfl, Nq8, K8, Gf8_0, Gf8_1, Gf8_2, Gf8_3, Gf8_4, Gf8_5, Gf8_6, Gf8_7, Gf8_8, Gf8_9, Gf8_10, Gf8_11, Gf8_12, Gf8_13, Gf8_14⟩ := hQ8
  have Z8 := Nat.le_trans Z3 K8.1
  have N8 := Fr.app N3 Nq8
  refine go (fun tg kg => st8.trans kg) ?_
  refine go (fun tg kg => XS.istore X8.here hx rfl (hb hby at_51) rfl (l' := #[iv x0, iv x1, iv x2, iv x3, iv x4, iv ((x4 &&& (2147483647 : Int32)) % (3 : Int32)), rv b1, iv 0, iv 1, .unset, .unset, .unset, .unset, .unset, .unset, .unset, .unset, .unset, .unset, .unset, .unset]) rfl kg) ?_
  refine go (fun tg kg => XS.iload X8.here hx rfl (hb hby at_53) rfl kg) ?_
  refine go (fun tg kg => XS.ifNo X8.here hx rfl (hb hby at_55) rfl ((if0 _ _).trans (teq (by decide)).2) kg) ?_
  refine go (fun tg kg => XS.iload X8.here hx rfl (hb hby at_58) rfl kg) ?_
  refine go (fun tg kg => XS.iconst X8.here hx rfl (hb hby at_60) kg) ?_
  show G (T8.setTop (mkF m 61 #[iv x0, iv x1, iv x2, iv x3, iv x4, iv ((x4 &&& (2147483647 : Int32)) % (3 : Int32)), rv b1, iv 0, iv 1, .unset, .unset, .unset, .unset, .unset, .unset, .unset, .unset, .unset, .unset, .unset, .unset] [(.int 1), (.int 1)]))
  refine go (fun tg kg => XS.icmpNo X8.here hx rfl (hb hby at_61) rfl (teq (by decide)).2 kg) ?_
  refine go (fun tg kg => XS.iconst X8.here hx rfl (hb hby at_64) kg) ?_
  refine go (fun tg kg => XS.goto X8.here hx rfl (pc0 := 65) (pc' := 69) rfl (hb hby at_65) (by decide) (by decide) kg) ?_
  refine go (fun tg kg => XS.istore X8.here hx rfl (hb hby at_69) rfl (l' := #[iv x0, iv x1, iv x2, iv x3, iv x4, iv ((x4 &&& (2147483647 : Int32)) % (3 : Int32)), rv b1, iv 0, iv 1, iv 1, .unset, .unset, .unset, .unset, .unset, .unset, .unset, .unset, .unset, .unset, .unset]) rfl kg) ?_
  refine go (fun tg kg => XS.iconst X8.here hx rfl (hb hby at_71) kg) ?_
  refine go (fun tg kg => XS.istore X8.here hx rfl (hb hby at_72) rfl (l' := #[iv x0, iv x1, iv x2, iv x3, iv x4, iv ((x4 &&& (2147483647 : Int32)) % (3 : Int32)), rv b1, iv 0, iv 1, iv 1, iv 2, .unset, .unset, .unset, .unset, .unset, .unset, .unset, .unset, .unset, .unset]) rfl kg) ?_
  show G (T8.setTop (mkF m 74 #[iv x0, iv x1, iv x2, iv x3, iv x4, iv ((x4 &&& (2147483647 : Int32)) % (3 : Int32)), rv b1, iv 0, iv 1, iv 1, iv 2, .unset, .unset, .unset, .unset, .unset, .unset, .unset, .unset, .unset, .unset] []))
  refine go (fun tg kg => XS.iconst X8.here hx rfl (hb hby at_74) kg) ?_
  refine go (fun tg kg => XS.istore X8.here hx rfl (hb hby at_75) rfl (l' := #[iv x0, iv x1, iv x2, iv x3, iv x4, iv ((x4 &&& (2147483647 : Int32)) % (3 : Int32)), rv b1, iv 0, iv 1, iv 1, iv 2, iv 2, .unset, .unset, .unset, .unset, .unset, .unset, .unset, .unset, .unset]) rfl kg) ?_
  obtain ⟨nv, hnv⟩ : ∃ z : Int32, z = ((x4 &&& (2147483647 : Int32)) % (3 : Int32)) := ⟨_, rfl⟩
  have h3 := own_m3 x4 hnv
  rw [← hnv]
  clear hnv
  rcases h3 with rfl | rfl | rfl
  · skip
    refine go (fun tg kg => XS.iload X8.here hx rfl (hb hby at_77) rfl kg) ?_
    refine go (fun tg kg => XS.ifYes X8.here hx rfl (pc0 := 79) (pc' := 134) rfl (hb hby at_79) rfl ((if0 _ _).trans (teq (by decide)).1) (by decide) (by decide) kg) ?_
    refine go (fun tg kg => XS.iloadN X8.here hx rfl (hb hby at_134) rfl kg) ?_
    show G (T8.setTop (mkF m 135 #[iv x0, iv x1, iv x2, iv x3, iv x4, iv 0, rv b1, iv 0, iv 1, iv 1, iv 2, iv 2, .unset, .unset, .unset, .unset, .unset, .unset, .unset, .unset, .unset] [(.int x0)]))
    refine go (fun tg kg => XS.i2dS X8.here hx rfl (hb hby at_135) rfl (i2d_w _) kg) ?_
    refine go (fun tg kg => XS.dstore X8.here hx rfl (hb hby at_136) rfl (l' := #[iv x0, iv x1, iv x2, iv x3, iv x4, iv 0, rv b1, iv 0, iv 1, iv 1, iv 2, iv 2, dv (x0.toInt64), .second, .unset, .unset, .unset, .unset, .unset, .unset, .unset]) rfl kg) ?_
    refine go (fun tg kg => XS.iloadN X8.here hx rfl (hb hby at_138) rfl kg) ?_
    refine go (fun tg kg => XS.i2dS X8.here hx rfl (hb hby at_139) rfl (i2d_w _) kg) ?_
    refine go (fun tg kg => XS.dstore X8.here hx rfl (hb hby at_140) rfl (l' := #[iv x0, iv x1, iv x2, iv x3, iv x4, iv 0, rv b1, iv 0, iv 1, iv 1, iv 2, iv 2, dv (x0.toInt64), .second, dv (x1.toInt64), .second, .unset, .unset, .unset, .unset, .unset]) rfl kg) ?_
    refine go (fun tg kg => XS.iloadN X8.here hx rfl (hb hby at_142) rfl kg) ?_
    show G (T8.setTop (mkF m 143 #[iv x0, iv x1, iv x2, iv x3, iv x4, iv 0, rv b1, iv 0, iv 1, iv 1, iv 2, iv 2, dv (x0.toInt64), .second, dv (x1.toInt64), .second, .unset, .unset, .unset, .unset, .unset] [(.int x2)]))
    refine go (fun tg kg => XS.i2dS X8.here hx rfl (hb hby at_143) rfl (i2d_w _) kg) ?_
    refine go (fun tg kg => XS.dstore X8.here hx rfl (hb hby at_144) rfl (l' := #[iv x0, iv x1, iv x2, iv x3, iv x4, iv 0, rv b1, iv 0, iv 1, iv 1, iv 2, iv 2, dv (x0.toInt64), .second, dv (x1.toInt64), .second, dv (x2.toInt64), .second, .unset, .unset, .unset]) rfl kg) ?_
    refine go (fun tg kg => XS.aload X8.here hx rfl (hb hby at_146) rfl rfl kg) ?_
    refine go (fun tg kg => XS.dload X8.here hx rfl (hb hby at_148) rfl kg) ?_
    refine go (fun tg kg => XS.dload X8.here hx rfl (hb hby at_150) rfl kg) ?_
    refine go (fun tg kg => XS.dload X8.here hx rfl (hb hby at_152) rfl kg) ?_
    show G (T8.setTop (mkF m 154 #[iv x0, iv x1, iv x2, iv x3, iv x4, iv 0, rv b1, iv 0, iv 1, iv 1, iv 2, iv 2, dv (x0.toInt64), .second, dv (x1.toInt64), .second, dv (x2.toInt64), .second, .unset, .unset, .unset] [(dl (x2.toInt64)), (dl (x1.toInt64)), (dl (x0.toInt64)), (.ref b1)]))
    refine go (fun tg kg => XS.iloadN X8.here hx rfl (hb hby at_154) rfl kg) ?_
    have Fa11 := (Fa9.keep K8 (ninS (Ne.symm nn6) (ninS ne_b2_0_b2_2 (ninS ne_b2_0_b2_3 (ninS ne_b2_0_b2_1 nin0)))))
    obtain ⟨cq10, kq10, q10a, q10b, q10c⟩ := isOf hZ rfl Gf8_2
    obtain ⟨_, _, ⟨T10, L10, k10, n10⟩, -, X10, ⟨Lc10, hQ10, l10, y10, z10⟩, st10⟩ := X8.virtualBack hx (y := y7) (z := y7) hown (mvT hZ (own_w hw 64 rfl)) (mvT hZ (own_w hw 65 rfl)) (notFace_of_selects (args := #[]) (mvT hZ (own_w hw 67 rfl))) (mvT hZ (own_w hw 67 rfl)) (mvT hZ (own_w hw 66 rfl)) (by decide) (backOf (W := 0) (rm7_2 l Z a0 hw [] b1 x0 x1 x2 x3 b2_2 k2_2 b2_3 k2_3 b2_0 k2_0 b2_1 k2_1 b2_4 b2_9 b2_10 T8.heap n0 Z8 Gf8_0 Gf8_1 Gf8_2 Gf8_3 Gf8_4 Gf8_5 Gf8_6 Gf8_7 Gf8_8 Fa11 Gf8_9 Gf8_10 Gf8_11 Gf8_12 Gf8_13 Gf8_14 (Ne.symm nn4) (Ne.symm nn5) (Ne.symm ne_b2_2_b2_3) (Ne.symm nn6) ne_b2_0_b2_2 ne_b2_0_b2_3 (Ne.symm nn7) ne_b2_1_b2_2 ne_b2_1_b2_3 ge_b1 ge_b2_2 ge_b2_3 ge_b2_1) hZ (own_w hw 68 rfl) (own_w hw 3 rfl) (by decide) (by decide)) q10a q10c (g := (mkF m 155 #[iv x0, iv x1, iv x2, iv x3, iv x4, iv 0, rv b1, iv 0, iv 1, iv 1, iv 2, iv 2, dv (x0.toInt64), .second, dv (x1.toInt64), .second, dv (x2.toInt64), .second, .unset, .unset, .unset] [(.int x3), (dl (x2.toInt64)), (dl (x1.toInt64)), (dl (x0.toInt64)), (.ref b1)])) rfl (by rw [hml]; rfl) (Steps.refl _) (argsL := [(dl (x0.toInt64)), (dl (x1.toInt64)), (dl (x2.toInt64)), (.int x3)]) (rest := []) (lenOf pd__DDDI_I rfl) rfl (by show 2 * 0 + _ ≤ _; exact Nat.le_of_eq rfl) (hb hby at_155) (fun _ _ => ⟨rfl, rfl, (by decide : 12 + 0 ≤ _), (by decide : 102 + 0 ≤ _)⟩)
    dsimp only [Pt.U, Pt.locs, Pt.cells, Pt.slots] at X10 l10 y10 z10 st10 hQ10
    subst l10 y10 z10
    obtain ⟨rfl, Nq10, K10, Gf10_0, Gf10_1, Gf10_2, Gf10_3, Gf10_4, Gf10_5, Gf10_6, Gf10_7, Gf10_8, Gf10_9, Gf10_10, Gf10_11, Gf10_12, Gf10_13, Gf10_14⟩ := hQ10
    have Z10 := Nat.le_trans Z8 K10.1
    have N10 := Fr.app N8 Nq10
    refine go (fun tg kg => st10.trans kg) ?_
    refine go (fun tg kg => XS.istore X10.here hx rfl (hb hby at_158) rfl (l' := #[iv x0, iv x1, iv x2, iv x3, iv x4, iv 0, rv b1, iv 0, iv 1, iv 1, iv 2, iv 2, dv (x0.toInt64), .second, dv (x1.toInt64), .second, dv (x2.toInt64), .second, iv 2, .unset, .unset]) rfl kg) ?_
    refine go (fun tg kg => XS.iload X10.here hx rfl (hb hby at_160) rfl kg) ?_
    refine go (fun tg kg => XS.ifNo X10.here hx rfl (hb hby at_162) rfl ((if0 _ _).trans (feq (by decide)).1) kg) ?_
    refine go (fun tg kg => XS.iload X10.here hx rfl (hb hby at_165) rfl kg) ?_
    show G (T10.setTop (mkF m 167 #[iv x0, iv x1, iv x2, iv x3, iv x4, iv 0, rv b1, iv 0, iv 1, iv 1, iv 2, iv 2, dv (x0.toInt64), .second, dv (x1.toInt64), .second, dv (x2.toInt64), .second, iv 2, .unset, .unset] [(.int 2)]))
    refine go (fun tg kg => XS.iload X10.here hx rfl (hb hby at_167) rfl kg) ?_
    refine go (fun tg kg => XS.icmpNo X10.here hx rfl (hb hby at_169) rfl (teq (by decide)).2 kg) ?_
    refine go (fun tg kg => XS.iconst X10.here hx rfl (hb hby at_172) kg) ?_
    refine go (fun tg kg => XS.goto X10.here hx rfl (pc0 := 173) (pc' := 177) rfl (hb hby at_173) (by decide) (by decide) kg) ?_
    refine go (fun tg kg => XS.istore X10.here hx rfl (hb hby at_177) rfl (l' := #[iv x0, iv x1, iv x2, iv x3, iv x4, iv 0, rv b1, iv 0, iv 1, iv 1, iv 2, iv 2, dv (x0.toInt64), .second, dv (x1.toInt64), .second, dv (x2.toInt64), .second, iv 2, .unset, .unset]) rfl kg) ?_
    refine go (fun tg kg => XS.iload X10.here hx rfl (hb hby at_179) rfl kg) ?_
    show G (T10.setTop (mkF m 181 #[iv x0, iv x1, iv x2, iv x3, iv x4, iv 0, rv b1, iv 0, iv 1, iv 1, iv 2, iv 2, dv (x0.toInt64), .second, dv (x1.toInt64), .second, dv (x2.toInt64), .second, iv 2, .unset, .unset] [(.int 1)]))
    refine go (fun tg kg => XS.ifNo X10.here hx rfl (hb hby at_181) rfl ((if0 _ _).trans (feq (by decide)).1) kg) ?_
    refine go (fun tg kg => XS.aload X10.here hx rfl (hb hby at_184) rfl rfl kg) ?_
    refine go (fun tg kg => XS.iload X10.here hx rfl (hb hby at_186) rfl kg) ?_
    obtain ⟨cq12, kq12, q12a, q12b, q12c⟩ := isOf hZ rfl Gf10_2
    obtain ⟨_, _, ⟨T12, L12, k12, n12⟩, -, X12, ⟨Lc12, hQ12, l12, y12, z12⟩, st12⟩ := X10.virtualBack hx (y := y8) (z := y8) hown (mvT hZ (own_w hw 77 rfl)) (mvT hZ (own_w hw 78 rfl)) (notFace_of_selects (args := #[]) (mvT hZ (own_w hw 80 rfl))) (mvT hZ (own_w hw 80 rfl)) (mvT hZ (own_w hw 79 rfl)) (by decide) (backOf (W := 0) (rm8_0 l Z a0 hw [] b1 b2_2 k2_2 T10.heap n0 Z10 Gf10_3 Gf10_5) hZ (own_w hw 81 rfl) (own_w hw 3 rfl) (by decide) (by decide)) q12a q12c (g := (mkF m 188 #[iv x0, iv x1, iv x2, iv x3, iv x4, iv 0, rv b1, iv 0, iv 1, iv 1, iv 2, iv 2, dv (x0.toInt64), .second, dv (x1.toInt64), .second, dv (x2.toInt64), .second, iv 2, .unset, .unset] [(.int 2), (.ref b1)])) rfl (by rw [hml]; rfl) (Steps.refl _) (argsL := [(.int 2)]) (rest := []) (lenOf pd__I_J rfl) rfl (by show 2 * 0 + _ ≤ _; exact Nat.le_of_eq rfl) (hb hby at_188) (fun _ _ => ⟨rfl, rfl, (by decide : 12 + 0 ≤ _), (by decide : 102 + 0 ≤ _)⟩)
    dsimp only [Pt.U, Pt.locs, Pt.cells, Pt.slots] at X12 l12 y12 z12 st12 hQ12
    subst l12 y12 z12
    obtain ⟨rfl, Nq12, e12⟩ := hQ12
    have N12 := Fr.app N10 Nq12
    refine go (fun tg kg => st12.trans kg) ?_
    refine go (fun tg kg => X12.ldc2Long hx hown (mvT hZ (own_w hw 82 rfl)) (g := (mkF m 191 #[iv x0, iv x1, iv x2, iv x3, iv x4, iv 0, rv b1, iv 0, iv 1, iv 1, iv 2, iv 2, dv (x0.toInt64), .second, dv (x1.toInt64), .second, dv (x2.toInt64), .second, iv 2, .unset, .unset] [(.long 3)])) rfl (hb hby at_191) _ kg) ?_
    refine go (fun tg kg => XS.lcmp X12.here hx rfl (hb hby at_194) rfl kg) ?_
    show G (T12.setTop (mkF m 195 #[iv x0, iv x1, iv x2, iv x3, iv x4, iv 0, rv b1, iv 0, iv 1, iv 1, iv 2, iv 2, dv (x0.toInt64), .second, dv (x1.toInt64), .second, dv (x2.toInt64), .second, iv 2, .unset, .unset] [(.int (lcmpW (3 : Int64) (3 : Int64)))]))
    refine go (fun tg kg => XS.ifNo X12.here hx rfl (hb hby at_195) rfl ((if0 _ _).trans (teq ((lw_eq (3 : Int64) (3 : Int64)).mpr (by decide))).2) kg) ?_
    refine go (fun tg kg => XS.iconst X12.here hx rfl (hb hby at_198) kg) ?_
    refine go (fun tg kg => XS.goto X12.here hx rfl (pc0 := 199) (pc' := 203) rfl (hb hby at_199) (by decide) (by decide) kg) ?_
    refine go (fun tg kg => XS.istore X12.here hx rfl (hb hby at_203) rfl (l' := #[iv x0, iv x1, iv x2, iv x3, iv x4, iv 0, rv b1, iv 0, iv 1, iv 1, iv 2, iv 2, dv (x0.toInt64), .second, dv (x1.toInt64), .second, dv (x2.toInt64), .second, iv 2, .unset, .unset]) rfl kg) ?_
    refine go (fun tg kg => XS.iload X12.here hx rfl (hb hby at_205) rfl kg) ?_
    refine go (fun tg kg => XS.ifNo X12.here hx rfl (hb hby at_207) rfl ((if0 _ _).trans (feq (by decide)).1) kg) ?_
    show G (T12.setTop (mkF m 210 #[iv x0, iv x1, iv x2, iv x3, iv x4, iv 0, rv b1, iv 0, iv 1, iv 1, iv 2, iv 2, dv (x0.toInt64), .second, dv (x1.toInt64), .second, dv (x2.toInt64), .second, iv 2, .unset, .unset] []))
    refine go (fun tg kg => XS.aload X12.here hx rfl (hb hby at_210) rfl rfl kg) ?_
    refine go (fun tg kg => XS.iload X12.here hx rfl (hb hby at_212) rfl kg) ?_
    obtain ⟨cq13, kq13, q13a, q13b, q13c⟩ := isOf hZ e12 Gf10_2
    obtain ⟨_, _, ⟨T13, L13, k13, n13⟩, -, X13, ⟨Lc13, hQ13, l13, y13, z13⟩, st13⟩ := X12.virtualBack hx (y := y9) (z := y9) hown (mvT hZ (own_w hw 83 rfl)) (mvT hZ (own_w hw 84 rfl)) (notFace_of_selects (args := #[]) (mvT hZ (own_w hw 86 rfl))) (mvT hZ (own_w hw 86 rfl)) (mvT hZ (own_w hw 85 rfl)) (by decide) (backOf (W := 0) (rm9_0 l Z a0 hw [] b1 b2_3 k2_3 x3 T10.heap n0 Z10 Gf10_6 Gf10_7) hZ (own_w hw 87 rfl) (own_w hw 3 rfl) (by decide) (by decide)) q13a q13c (g := (mkF m 214 #[iv x0, iv x1, iv x2, iv x3, iv x4, iv 0, rv b1, iv 0, iv 1, iv 1, iv 2, iv 2, dv (x0.toInt64), .second, dv (x1.toInt64), .second, dv (x2.toInt64), .second, iv 2, .unset, .unset] [(.int 2), (.ref b1)])) rfl (by rw [hml]; rfl) (Steps.refl _) (argsL := [(.int 2)]) (rest := []) (lenOf pd__I_I rfl) rfl (by show 2 * 0 + _ ≤ _; exact Nat.le_of_eq rfl) (hb hby at_214) (fun _ _ => ⟨rfl, e12, (by decide : 12 + 0 ≤ _), (by decide : 102 + 0 ≤ _)⟩)
    dsimp only [Pt.U, Pt.locs, Pt.cells, Pt.slots] at X13 l13 y13 z13 st13 hQ13
    subst l13 y13 z13
    obtain ⟨rfl, Nq13, e13⟩ := hQ13
    have N13 := Fr.app N12 Nq13
    refine go (fun tg kg => st13.trans kg) ?_
    refine go (fun tg kg => XS.iloadN X13.here hx rfl (hb hby at_217) rfl kg) ?_
    refine go (fun tg kg => XS.icmpNo X13.here hx rfl (hb hby at_218) rfl (teq (rfl : x3 = x3)).2 kg) ?_
    refine go (fun tg kg => XS.iconst X13.here hx rfl (hb hby at_221) kg) ?_
    show G (T13.setTop (mkF m 222 #[iv x0, iv x1, iv x2, iv x3, iv x4, iv 0, rv b1, iv 0, iv 1, iv 1, iv 2, iv 2, dv (x0.toInt64), .second, dv (x1.toInt64), .second, dv (x2.toInt64), .second, iv 2, .unset, .unset] [(.int 1)]))
    refine go (fun tg kg => XS.goto X13.here hx rfl (pc0 := 222) (pc' := 226) rfl (hb hby at_222) (by decide) (by decide) kg) ?_
    refine go (fun tg kg => XS.istore X13.here hx rfl (hb hby at_226) rfl (l' := #[iv x0, iv x1, iv x2, iv x3, iv x4, iv 0, rv b1, iv 0, iv 1, iv 1, iv 2, iv 2, dv (x0.toInt64), .second, dv (x1.toInt64), .second, dv (x2.toInt64), .second, iv 2, .unset, .unset]) rfl kg) ?_
    refine go (fun tg kg => XS.iload X13.here hx rfl (hb hby at_228) rfl kg) ?_
    refine go (fun tg kg => XS.ifNo X13.here hx rfl (hb hby at_230) rfl ((if0 _ _).trans (feq (by decide)).1) kg) ?_
    refine go (fun tg kg => XS.aload X13.here hx rfl (hb hby at_233) rfl rfl kg) ?_
    refine go (fun tg kg => XS.iload X13.here hx rfl (hb hby at_235) rfl kg) ?_
    show G (T13.setTop (mkF m 237 #[iv x0, iv x1, iv x2, iv x3, iv x4, iv 0, rv b1, iv 0, iv 1, iv 1, iv 2, iv 2, dv (x0.toInt64), .second, dv (x1.toInt64), .second, dv (x2.toInt64), .second, iv 2, .unset, .unset] [(.int 2), (.ref b1)]))
    have Fa15 := (Fa11.keep K10 (ninS (Ne.symm nn6) (ninS ne_b2_0_b2_2 (ninS ne_b2_0_b2_3 (ninS ne_b2_0_b2_1 nin0)))))
    obtain ⟨cq14, kq14, q14a, q14b, q14c⟩ := isOf hZ e13 Gf10_2
    obtain ⟨_, _, ⟨T14, L14, k14, n14⟩, -, X14, ⟨Lc14, hQ14, l14, y14, z14⟩, st14⟩ := X13.virtualBack hx (y := y10) (z := y10) hown (mvT hZ (own_w hw 88 rfl)) (mvT hZ (own_w hw 89 rfl)) (notFace_of_selects (args := #[]) (mvT hZ (own_w hw 91 rfl))) (mvT hZ (own_w hw 91 rfl)) (mvT hZ (own_w hw 90 rfl)) (by decide) (backOf (W := 0) (rm10_0 l Z a0 hw [] b1 b2_0 k2_0 b2_1 k2_1 x0 x1 x2 T10.heap n0 Z10 Gf10_8 Fa15 Gf10_9) hZ (own_w hw 92 rfl) (own_w hw 3 rfl) (by decide) (by decide)) q14a q14c (g := (mkF m 237 #[iv x0, iv x1, iv x2, iv x3, iv x4, iv 0, rv b1, iv 0, iv 1, iv 1, iv 2, iv 2, dv (x0.toInt64), .second, dv (x1.toInt64), .second, dv (x2.toInt64), .second, iv 2, .unset, .unset] [(.int 2), (.ref b1)])) rfl (by rw [hml]; rfl) (Steps.refl _) (argsL := [(.int 2)]) (rest := []) (lenOf pd__I_D rfl) rfl (by show 2 * 0 + _ ≤ _; exact Nat.le_of_eq rfl) (hb hby at_237) (fun _ _ => ⟨rfl, e13, (by decide : 12 + 0 ≤ _), (by decide : 102 + 0 ≤ _)⟩)
    dsimp only [Pt.U, Pt.locs, Pt.cells, Pt.slots] at X14 l14 y14 z14 st14 hQ14
    subst l14 y14 z14
    obtain ⟨rfl, Nq14, e14⟩ := hQ14
    have N14 := Fr.app N13 Nq14
    refine go (fun tg kg => st14.trans kg) ?_
    refine go (fun tg kg => XS.dload X14.here hx rfl (hb hby at_240) rfl kg) ?_
    refine go (fun tg kg => XS.dcmpS X14.here hx rfl (hb hby at_242) rfl (dcmpV_self (nn_w rfl) _) kg) ?_
    refine go (fun tg kg => XS.ifNo X14.here hx rfl (hb hby at_243) rfl ((if0 _ _).trans (teq (by decide)).2) kg) ?_
    refine go (fun tg kg => XS.iconst X14.here hx rfl (hb hby at_246) kg) ?_
    refine go (fun tg kg => XS.goto X14.here hx rfl (pc0 := 247) (pc' := 251) rfl (hb hby at_247) (by decide) (by decide) kg) ?_
    show G (T14.setTop (mkF m 251 #[iv x0, iv x1, iv x2, iv x3, iv x4, iv 0, rv b1, iv 0, iv 1, iv 1, iv 2, iv 2, dv (x0.toInt64), .second, dv (x1.toInt64), .second, dv (x2.toInt64), .second, iv 2, .unset, .unset] [(.int 1)]))
    refine go (fun tg kg => XS.istore X14.here hx rfl (hb hby at_251) rfl (l' := #[iv x0, iv x1, iv x2, iv x3, iv x4, iv 0, rv b1, iv 0, iv 1, iv 1, iv 2, iv 2, dv (x0.toInt64), .second, dv (x1.toInt64), .second, dv (x2.toInt64), .second, iv 2, .unset, .unset]) rfl kg) ?_
    refine go (fun tg kg => XS.iload X14.here hx rfl (hb hby at_253) rfl kg) ?_
    refine go (fun tg kg => XS.ifNo X14.here hx rfl (hb hby at_255) rfl ((if0 _ _).trans (feq (by decide)).1) kg) ?_
    refine go (fun tg kg => XS.aload X14.here hx rfl (hb hby at_258) rfl rfl kg) ?_
    refine go (fun tg kg => XS.iload X14.here hx rfl (hb hby at_260) rfl kg) ?_
    obtain ⟨cq16, kq16, q16a, q16b, q16c⟩ := isOf hZ e14 Gf10_2
    obtain ⟨_, _, ⟨T16, L16, k16, n16⟩, -, X16, ⟨Lc16, hQ16, l16, y16, z16⟩, st16⟩ := X14.virtualBack hx (y := y11) (z := y11) hown (mvT hZ (own_w hw 93 rfl)) (mvT hZ (own_w hw 94 rfl)) (notFace_of_selects (args := #[]) (mvT hZ (own_w hw 96 rfl))) (mvT hZ (own_w hw 96 rfl)) (mvT hZ (own_w hw 95 rfl)) (by decide) (backOf (W := 0) (rm11_0 l Z a0 hw [] b1 b2_0 k2_0 b2_1 k2_1 x0 x1 x2 T10.heap n0 Z10 Gf10_8 Fa15 Gf10_9) hZ (own_w hw 97 rfl) (own_w hw 3 rfl) (by decide) (by decide)) q16a q16c (g := (mkF m 262 #[iv x0, iv x1, iv x2, iv x3, iv x4, iv 0, rv b1, iv 0, iv 1, iv 1, iv 2, iv 2, dv (x0.toInt64), .second, dv (x1.toInt64), .second, dv (x2.toInt64), .second, iv 2, .unset, .unset] [(.int 2), (.ref b1)])) rfl (by rw [hml]; rfl) (Steps.refl _) (argsL := [(.int 2)]) (rest := []) (lenOf pd__I_D rfl) rfl (by show 2 * 0 + _ ≤ _; exact Nat.le_of_eq rfl) (hb hby at_262) (fun _ _ => ⟨rfl, e14, (by decide : 12 + 0 ≤ _), (by decide : 102 + 0 ≤ _)⟩)
    dsimp only [Pt.U, Pt.locs, Pt.cells, Pt.slots] at X16 l16 y16 z16 st16 hQ16
    subst l16 y16 z16
    obtain ⟨rfl, Nq16, e16⟩ := hQ16
    have N16 := Fr.app N14 Nq16
    refine go (fun tg kg => st16.trans kg) ?_
    show G (T16.setTop (mkF m 265 #[iv x0, iv x1, iv x2, iv x3, iv x4, iv 0, rv b1, iv 0, iv 1, iv 1, iv 2, iv 2, dv (x0.toInt64), .second, dv (x1.toInt64), .second, dv (x2.toInt64), .second, iv 2, .unset, .unset] [(dl (x1.toInt64))]))
    refine go (fun tg kg => XS.dload X16.here hx rfl (hb hby at_265) rfl kg) ?_
    refine go (fun tg kg => XS.dcmpS X16.here hx rfl (hb hby at_267) rfl (dcmpV_self (nn_w rfl) _) kg) ?_
    refine go (fun tg kg => XS.ifNo X16.here hx rfl (hb hby at_268) rfl ((if0 _ _).trans (teq (by decide)).2) kg) ?_
    refine go (fun tg kg => XS.iconst X16.here hx rfl (hb hby at_271) kg) ?_
    refine go (fun tg kg => XS.goto X16.here hx rfl (pc0 := 272) (pc' := 276) rfl (hb hby at_272) (by decide) (by decide) kg) ?_
    refine go (fun tg kg => XS.istore X16.here hx rfl (hb hby at_276) rfl (l' := #[iv x0, iv x1, iv x2, iv x3, iv x4, iv 0, rv b1, iv 0, iv 1, iv 1, iv 2, iv 2, dv (x0.toInt64), .second, dv (x1.toInt64), .second, dv (x2.toInt64), .second, iv 2, .unset, .unset]) rfl kg) ?_
    show G (T16.setTop (mkF m 278 #[iv x0, iv x1, iv x2, iv x3, iv x4, iv 0, rv b1, iv 0, iv 1, iv 1, iv 2, iv 2, dv (x0.toInt64), .second, dv (x1.toInt64), .second, dv (x2.toInt64), .second, iv 2, .unset, .unset] []))
    refine go (fun tg kg => XS.iload X16.here hx rfl (hb hby at_278) rfl kg) ?_
    refine go (fun tg kg => XS.ifNo X16.here hx rfl (hb hby at_280) rfl ((if0 _ _).trans (feq (by decide)).1) kg) ?_
    refine go (fun tg kg => XS.aload X16.here hx rfl (hb hby at_283) rfl rfl kg) ?_
    refine go (fun tg kg => XS.iload X16.here hx rfl (hb hby at_285) rfl kg) ?_
    obtain ⟨cq17, kq17, q17a, q17b, q17c⟩ := isOf hZ e16 Gf10_2
    obtain ⟨_, _, ⟨T17, L17, k17, n17⟩, -, X17, ⟨Lc17, hQ17, l17, y17, z17⟩, st17⟩ := X16.virtualBack hx (y := y12) (z := y12) hown (mvT hZ (own_w hw 98 rfl)) (mvT hZ (own_w hw 99 rfl)) (notFace_of_selects (args := #[]) (mvT hZ (own_w hw 101 rfl))) (mvT hZ (own_w hw 101 rfl)) (mvT hZ (own_w hw 100 rfl)) (by decide) (backOf (W := 0) (rm12_0 l Z a0 hw [] b1 b2_0 k2_0 b2_1 k2_1 x0 x1 x2 T10.heap n0 Z10 Gf10_8 Fa15 Gf10_9) hZ (own_w hw 102 rfl) (own_w hw 3 rfl) (by decide) (by decide)) q17a q17c (g := (mkF m 287 #[iv x0, iv x1, iv x2, iv x3, iv x4, iv 0, rv b1, iv 0, iv 1, iv 1, iv 2, iv 2, dv (x0.toInt64), .second, dv (x1.toInt64), .second, dv (x2.toInt64), .second, iv 2, .unset, .unset] [(.int 2), (.ref b1)])) rfl (by rw [hml]; rfl) (Steps.refl _) (argsL := [(.int 2)]) (rest := []) (lenOf pd__I_D rfl) rfl (by show 2 * 0 + _ ≤ _; exact Nat.le_of_eq rfl) (hb hby at_287) (fun _ _ => ⟨rfl, e16, (by decide : 12 + 0 ≤ _), (by decide : 102 + 0 ≤ _)⟩)
    dsimp only [Pt.U, Pt.locs, Pt.cells, Pt.slots] at X17 l17 y17 z17 st17 hQ17
    subst l17 y17 z17
    obtain ⟨rfl, Nq17, e17⟩ := hQ17
    have N17 := Fr.app N16 Nq17
    refine go (fun tg kg => st17.trans kg) ?_
    refine go (fun tg kg => XS.dload X17.here hx rfl (hb hby at_290) rfl kg) ?_
    show G (T17.setTop (mkF m 292 #[iv x0, iv x1, iv x2, iv x3, iv x4, iv 0, rv b1, iv 0, iv 1, iv 1, iv 2, iv 2, dv (x0.toInt64), .second, dv (x1.toInt64), .second, dv (x2.toInt64), .second, iv 2, .unset, .unset] [(dl (x2.toInt64)), (dl (x2.toInt64))]))
    refine go (fun tg kg => XS.dcmpS X17.here hx rfl (hb hby at_292) rfl (dcmpV_self (nn_w rfl) _) kg) ?_
    refine go (fun tg kg => XS.ifNo X17.here hx rfl (hb hby at_293) rfl ((if0 _ _).trans (teq (by decide)).2) kg) ?_
    refine go (fun tg kg => XS.iconst X17.here hx rfl (hb hby at_296) kg) ?_
    refine go (fun tg kg => XS.goto X17.here hx rfl (pc0 := 297) (pc' := 301) rfl (hb hby at_297) (by decide) (by decide) kg) ?_
    refine go (fun tg kg => XS.istore X17.here hx rfl (hb hby at_301) rfl (l' := #[iv x0, iv x1, iv x2, iv x3, iv x4, iv 0, rv b1, iv 0, iv 1, iv 1, iv 2, iv 2, dv (x0.toInt64), .second, dv (x1.toInt64), .second, dv (x2.toInt64), .second, iv 2, .unset, .unset]) rfl kg) ?_
    refine go (fun tg kg => XS.iload X17.here hx rfl (hb hby at_303) rfl kg) ?_
    show G (T17.setTop (mkF m 305 #[iv x0, iv x1, iv x2, iv x3, iv x4, iv 0, rv b1, iv 0, iv 1, iv 1, iv 2, iv 2, dv (x0.toInt64), .second, dv (x1.toInt64), .second, dv (x2.toInt64), .second, iv 2, .unset, .unset] [(.int 1)]))
    refine go (fun tg kg => XS.ifNo X17.here hx rfl (hb hby at_305) rfl ((if0 _ _).trans (feq (by decide)).1) kg) ?_
    refine go (fun tg kg => XS.aload X17.here hx rfl (hb hby at_308) rfl rfl kg) ?_
    obtain ⟨cq18, kq18, q18a, q18b, q18c⟩ := isOf hZ e17 Gf10_2
    obtain ⟨_, _, ⟨T18, L18, k18, n18⟩, -, X18, ⟨Lc18, hQ18, l18, y18, z18⟩, st18⟩ := X17.virtualBack hx (y := y13) (z := y13) hown (mvT hZ (own_w hw 103 rfl)) (mvT hZ (own_w hw 104 rfl)) (notFace_of_selects (args := #[]) (mvT hZ (own_w hw 106 rfl))) (mvT hZ (own_w hw 106 rfl)) (mvT hZ (own_w hw 105 rfl)) (by decide) (backOf (W := 0) (rm13_0 l Z a0 hw [] b1 T10.heap n0 Z10 Gf10_10) hZ (own_w hw 107 rfl) (own_w hw 3 rfl) (by decide) (by decide)) q18a q18c (g := (mkF m 310 #[iv x0, iv x1, iv x2, iv x3, iv x4, iv 0, rv b1, iv 0, iv 1, iv 1, iv 2, iv 2, dv (x0.toInt64), .second, dv (x1.toInt64), .second, dv (x2.toInt64), .second, iv 2, .unset, .unset] [(.ref b1)])) rfl (by rw [hml]; rfl) (Steps.refl _) (argsL := []) (rest := []) (lenOf pd___I rfl) rfl (by show 2 * 0 + _ ≤ _; exact Nat.le_of_eq rfl) (hb hby at_310) (fun _ _ => ⟨rfl, e17, (by decide : 12 + 0 ≤ _), (by decide : 102 + 0 ≤ _)⟩)
    dsimp only [Pt.U, Pt.locs, Pt.cells, Pt.slots] at X18 l18 y18 z18 st18 hQ18
    subst l18 y18 z18
    obtain ⟨rfl, Nq18, e18⟩ := hQ18
    have N18 := Fr.app N17 Nq18
    refine go (fun tg kg => st18.trans kg) ?_
    refine go (fun tg kg => XS.iload X18.here hx rfl (hb hby at_313) rfl kg) ?_
    refine go (fun tg kg => XS.iconst X18.here hx rfl (hb hby at_315) kg) ?_
    refine go (fun tg kg => XS.iadd X18.here hx rfl (hb hby at_316) rfl kg) ?_
    show G (T18.setTop (mkF m 317 #[iv x0, iv x1, iv x2, iv x3, iv x4, iv 0, rv b1, iv 0, iv 1, iv 1, iv 2, iv 2, dv (x0.toInt64), .second, dv (x1.toInt64), .second, dv (x2.toInt64), .second, iv 2, .unset, .unset] [(.int 3), (.int 3)]))
    refine go (fun tg kg => XS.icmpNo X18.here hx rfl (hb hby at_317) rfl (teq (by decide)).2 kg) ?_
    refine go (fun tg kg => XS.iconst X18.here hx rfl (hb hby at_320) kg) ?_
    refine go (fun tg kg => XS.goto X18.here hx rfl (pc0 := 321) (pc' := 325) rfl (hb hby at_321) (by decide) (by decide) kg) ?_
    refine go (fun tg kg => XS.istore X18.here hx rfl (hb hby at_325) rfl (l' := #[iv x0, iv x1, iv x2, iv x3, iv x4, iv 0, rv b1, iv 0, iv 1, iv 1, iv 2, iv 2, dv (x0.toInt64), .second, dv (x1.toInt64), .second, dv (x2.toInt64), .second, iv 2, .unset, .unset]) rfl kg) ?_
    refine go (fun tg kg => XS.aload X18.here hx rfl (hb hby at_327) rfl rfl kg) ?_
    refine go (fun tg kg => XS.dconst0 X18.here hx rfl (hb hby at_329) own_d0 kg) ?_
    show G (T18.setTop (mkF m 330 #[iv x0, iv x1, iv x2, iv x3, iv x4, iv 0, rv b1, iv 0, iv 1, iv 1, iv 2, iv 2, dv (x0.toInt64), .second, dv (x1.toInt64), .second, dv (x2.toInt64), .second, iv 2, .unset, .unset] [(dl 0), (.ref b1)]))
    refine go (fun tg kg => XS.dconst0 X18.here hx rfl (hb hby at_330) own_d0 kg) ?_
    refine go (fun tg kg => XS.dconst0 X18.here hx rfl (hb hby at_331) own_d0 kg) ?_
    refine go (fun tg kg => XS.iconst X18.here hx rfl (hb hby at_332) kg) ?_
    obtain ⟨cq19, kq19, q19a, q19b, q19c⟩ := isOf hZ e18 Gf10_2
    obtain ⟨_, _, ⟨T19, L19, k19, n19⟩, -, X19, ⟨Lc19, hQ19, l19, y19, z19⟩, st19⟩ := X18.virtualBack hx (y := y7) (z := y7) hown (mvT hZ (own_w hw 64 rfl)) (mvT hZ (own_w hw 65 rfl)) (notFace_of_selects (args := #[]) (mvT hZ (own_w hw 67 rfl))) (mvT hZ (own_w hw 67 rfl)) (mvT hZ (own_w hw 66 rfl)) (by decide) (backOf (W := 0) (rm7_3 l Z a0 hw [] b1 b2_2 k2_2 b2_3 k2_3 x3 b2_0 k2_0 b2_1 k2_1 x0 x1 x2 b2_4 b2_9 b2_10 T10.heap n0 Z10 Gf10_0 Gf10_1 Gf10_2 Gf10_3 Gf10_4 Gf10_5 Gf10_6 Gf10_7 Gf10_8 Fa15 Gf10_9 Gf10_10 Gf10_11 Gf10_12 Gf10_13 Gf10_14 (Ne.symm nn4) (Ne.symm nn5) (Ne.symm ne_b2_2_b2_3) (Ne.symm nn6) ne_b2_0_b2_2 ne_b2_0_b2_3 (Ne.symm nn7) ne_b2_1_b2_2 ne_b2_1_b2_3 ge_b1 ge_b2_2 ge_b2_3 ge_b2_1) hZ (own_w hw 68 rfl) (own_w hw 3 rfl) (by decide) (by decide)) q19a q19c (g := (mkF m 333 #[iv x0, iv x1, iv x2, iv x3, iv x4, iv 0, rv b1, iv 0, iv 1, iv 1, iv 2, iv 2, dv (x0.toInt64), .second, dv (x1.toInt64), .second, dv (x2.toInt64), .second, iv 2, .unset, .unset] [(.int 0), (dl 0), (dl 0), (dl 0), (.ref b1)])) rfl (by rw [hml]; rfl) (Steps.refl _) (argsL := [(dl 0), (dl 0), (dl 0), (.int 0)]) (rest := []) (lenOf pd__DDDI_I rfl) rfl (by show 2 * 0 + _ ≤ _; exact Nat.le_of_eq rfl) (hb hby at_333) (fun _ _ => ⟨rfl, e18, (by decide : 12 + 0 ≤ _), (by decide : 102 + 0 ≤ _)⟩)
    dsimp only [Pt.U, Pt.locs, Pt.cells, Pt.slots] at X19 l19 y19 z19 st19 hQ19
    subst l19 y19 z19
    obtain ⟨rfl, Nq19, K19, Gf19_0, Gf19_1, Gf19_2, Gf19_3, Gf19_4, Gf19_5, Gf19_6, Gf19_7, Gf19_8, Gf19_9, Gf19_10, Gf19_11, Gf19_12, Gf19_13, Gf19_14⟩ := hQ19
    have Z19 := Nat.le_trans Z10 K19.1
    have N19 := Fr.app N18 Nq19
    refine go (fun tg kg => st19.trans kg) ?_
    refine go (fun tg kg => XS.istore X19.here hx rfl (hb hby at_336) rfl (l' := #[iv x0, iv x1, iv x2, iv x3, iv x4, iv 0, rv b1, iv 0, iv 1, iv 1, iv 2, iv 2, dv (x0.toInt64), .second, dv (x1.toInt64), .second, dv (x2.toInt64), .second, iv 2, iv 3, .unset]) rfl kg) ?_
    refine go (fun tg kg => XS.iload X19.here hx rfl (hb hby at_338) rfl kg) ?_
    show G (T19.setTop (mkF m 340 #[iv x0, iv x1, iv x2, iv x3, iv x4, iv 0, rv b1, iv 0, iv 1, iv 1, iv 2, iv 2, dv (x0.toInt64), .second, dv (x1.toInt64), .second, dv (x2.toInt64), .second, iv 2, iv 3, .unset] [(.int 0)]))
    refine go (fun tg kg => XS.ifYes X19.here hx rfl (pc0 := 340) (pc' := 347) rfl (hb hby at_340) rfl ((if0 _ _).trans (teq (by decide)).1) (by decide) (by decide) kg) ?_
    refine go (fun tg kg => XS.iconst X19.here hx rfl (hb hby at_347) kg) ?_
    refine go (fun tg kg => XS.istore X19.here hx rfl (hb hby at_348) rfl (l' := #[iv x0, iv x1, iv x2, iv x3, iv x4, iv 0, rv b1, iv 0, iv 1, iv 1, iv 2, iv 2, dv (x0.toInt64), .second, dv (x1.toInt64), .second, dv (x2.toInt64), .second, iv 2, iv 3, iv 3]) rfl kg) ?_
    refine go (fun tg kg => XS.iload X19.here hx rfl (hb hby at_350) rfl kg) ?_
    refine go (fun tg kg => XS.ifNo X19.here hx rfl (hb hby at_352) rfl ((if0 _ _).trans (feq (by decide)).1) kg) ?_
    refine go (fun tg kg => XS.iload X19.here hx rfl (hb hby at_355) rfl kg) ?_
    show G (T19.setTop (mkF m 357 #[iv x0, iv x1, iv x2, iv x3, iv x4, iv 0, rv b1, iv 0, iv 1, iv 1, iv 2, iv 2, dv (x0.toInt64), .second, dv (x1.toInt64), .second, dv (x2.toInt64), .second, iv 2, iv 3, iv 3] [(.int 3)]))
    refine go (fun tg kg => XS.iload X19.here hx rfl (hb hby at_357) rfl kg) ?_
    refine go (fun tg kg => XS.icmpNo X19.here hx rfl (hb hby at_359) rfl (teq (by decide)).2 kg) ?_
    refine go (fun tg kg => XS.iconst X19.here hx rfl (hb hby at_362) kg) ?_
    refine go (fun tg kg => XS.goto X19.here hx rfl (pc0 := 363) (pc' := 367) rfl (hb hby at_363) (by decide) (by decide) kg) ?_
    refine fin (some (.int 1)) X19 (fun h => absurd h (by decide)) (fun fs hr => retN X19 hx (t := .boolean) hret (by simp) (hb hby at_367) hr) (by decide) (by decide) ?_
    exact ⟨rfl, N19⟩
  · skip
    refine go (fun tg kg => XS.iload X8.here hx rfl (hb hby at_77) rfl kg) ?_
    show G (T8.setTop (mkF m 79 #[iv x0, iv x1, iv x2, iv x3, iv x4, iv 1, rv b1, iv 0, iv 1, iv 1, iv 2, iv 2, .unset, .unset, .unset, .unset, .unset, .unset, .unset, .unset, .unset] [(.int 1)]))
    refine go (fun tg kg => XS.ifNo X8.here hx rfl (hb hby at_79) rfl ((if0 _ _).trans (feq (by decide)).1) kg) ?_
    refine go (fun tg kg => XS.iload X8.here hx rfl (hb hby at_82) rfl kg) ?_
    refine go (fun tg kg => XS.iconst X8.here hx rfl (hb hby at_84) kg) ?_
    refine go (fun tg kg => XS.isub X8.here hx rfl (hb hby at_85) rfl kg) ?_
    refine go (fun tg kg => XS.istore X8.here hx rfl (hb hby at_86) rfl (l' := #[iv x0, iv x1, iv x2, iv x3, iv x4, iv 1, rv b1, iv 0, iv 1, iv 1, iv 2, iv 2, iv 0, .unset, .unset, .unset, .unset, .unset, .unset, .unset, .unset]) rfl kg) ?_
    refine go (fun tg kg => XS.aload X8.here hx rfl (hb hby at_88) rfl rfl kg) ?_
    show G (T8.setTop (mkF m 90 #[iv x0, iv x1, iv x2, iv x3, iv x4, iv 1, rv b1, iv 0, iv 1, iv 1, iv 2, iv 2, iv 0, .unset, .unset, .unset, .unset, .unset, .unset, .unset, .unset] [(.ref b1)]))
    refine go (fun tg kg => XS.iload X8.here hx rfl (hb hby at_90) rfl kg) ?_
    refine go (fun tg kg => XS.bipush X8.here hx rfl (hb hby at_92) kg) ?_
    refine go (fun tg kg => XS.dconst1 X8.here hx rfl (hb hby at_94) own_d1 kg) ?_
    have Fa21 := ((Gf2_17.keep K3).keep K8)
    have nn22 : b1 ≠ b2_4 := (Nat.ne_of_lt (Nat.lt_of_lt_of_le F1_openFirms.lt sz_b2_4))
    have Fa23 := ((Gf2_21.keep K3 (ninS (Ne.symm nn22) (ninS (Ne.symm ne_b2_2_b2_4) (ninS (Ne.symm ne_b2_3_b2_4) (ninS (Ne.symm ne_b2_1_b2_4) nin0))))).keep K8 (ninS (Ne.symm nn22) (ninS (Ne.symm ne_b2_2_b2_4) (ninS (Ne.symm ne_b2_3_b2_4) (ninS (Ne.symm ne_b2_1_b2_4) nin0)))))
    have nn24 : b1 ≠ b2_7 := (Nat.ne_of_lt (Nat.lt_of_lt_of_le F1_openFirms.lt sz_b2_7))
    have Fa25 := ((Gf2_26.keep K3 (ninS (Ne.symm nn24) (ninS (Ne.symm ne_b2_2_b2_7) (ninS (Ne.symm ne_b2_3_b2_7) (ninS (Ne.symm ne_b2_1_b2_7) nin0))))).keep K8 (ninS (Ne.symm nn24) (ninS (Ne.symm ne_b2_2_b2_7) (ninS (Ne.symm ne_b2_3_b2_7) (ninS (Ne.symm ne_b2_1_b2_7) nin0)))))
    have Fa26 := ((Gf2_20.keep K3 (ninS (Ne.symm nn22) (ninS (Ne.symm ne_b2_2_b2_4) (ninS (Ne.symm ne_b2_3_b2_4) (ninS (Ne.symm ne_b2_1_b2_4) nin0))))).keep K8 (ninS (Ne.symm nn22) (ninS (Ne.symm ne_b2_2_b2_4) (ninS (Ne.symm ne_b2_3_b2_4) (ninS (Ne.symm ne_b2_1_b2_4) nin0)))))
    have Fa27 := ((Gf2_19.keep K3 (ninS (Ne.symm nn22) (ninS (Ne.symm ne_b2_2_b2_4) (ninS (Ne.symm ne_b2_3_b2_4) (ninS (Ne.symm ne_b2_1_b2_4) nin0))))).keep K8 (ninS (Ne.symm nn22) (ninS (Ne.symm ne_b2_2_b2_4) (ninS (Ne.symm ne_b2_3_b2_4) (ninS (Ne.symm ne_b2_1_b2_4) nin0)))))
    have nn28 : b1 ≠ b2_6 := (Nat.ne_of_lt (Nat.lt_of_lt_of_le F1_openFirms.lt sz_b2_6))
    have Fa29 := ((Gf2_25.keep K3 (ninS (Ne.symm nn28) (ninS (Ne.symm ne_b2_2_b2_6) (ninS (Ne.symm ne_b2_3_b2_6) (ninS (Ne.symm ne_b2_1_b2_6) nin0))))).keep K8 (ninS (Ne.symm nn28) (ninS (Ne.symm ne_b2_2_b2_6) (ninS (Ne.symm ne_b2_3_b2_6) (ninS (Ne.symm ne_b2_1_b2_6) nin0)))))
    have Fa30 := ((Gf2_23.keep K3 (ninS (Ne.symm nn22) (ninS (Ne.symm ne_b2_2_b2_4) (ninS (Ne.symm ne_b2_3_b2_4) (ninS (Ne.symm ne_b2_1_b2_4) nin0))))).keep K8 (ninS (Ne.symm nn22) (ninS (Ne.symm ne_b2_2_b2_4) (ninS (Ne.symm ne_b2_3_b2_4) (ninS (Ne.symm ne_b2_1_b2_4) nin0)))))
    have Fa31 := ((Gf2_18.keep K3 (ninS (Ne.symm nn22) (ninS (Ne.symm ne_b2_2_b2_4) (ninS (Ne.symm ne_b2_3_b2_4) (ninS (Ne.symm ne_b2_1_b2_4) nin0))))).keep K8 (ninS (Ne.symm nn22) (ninS (Ne.symm ne_b2_2_b2_4) (ninS (Ne.symm ne_b2_3_b2_4) (ninS (Ne.symm ne_b2_1_b2_4) nin0)))))
    have Fa32 := ((Gf2_22.keep K3 (ninS (Ne.symm nn22) (ninS (Ne.symm ne_b2_2_b2_4) (ninS (Ne.symm ne_b2_3_b2_4) (ninS (Ne.symm ne_b2_1_b2_4) nin0))))).keep K8 (ninS (Ne.symm nn22) (ninS (Ne.symm ne_b2_2_b2_4) (ninS (Ne.symm ne_b2_3_b2_4) (ninS (Ne.symm ne_b2_1_b2_4) nin0)))))
    have nn33 : b1 ≠ b2_9 := (Nat.ne_of_lt (Nat.lt_of_lt_of_le F1_openFirms.lt sz_b2_9))
    have Fa34 := ((Gf2_28.keep K3 (ninS (Ne.symm nn33) (ninS (Ne.symm ne_b2_2_b2_9) (ninS (Ne.symm ne_b2_3_b2_9) (ninS (Ne.symm ne_b2_1_b2_9) nin0))))).keep K8 (ninS (Ne.symm nn33) (ninS (Ne.symm ne_b2_2_b2_9) (ninS (Ne.symm ne_b2_3_b2_9) (ninS (Ne.symm ne_b2_1_b2_9) nin0)))))
    have Fa35 := (Fa9.keep K8 (ninS (Ne.symm nn6) (ninS ne_b2_0_b2_2 (ninS ne_b2_0_b2_3 (ninS ne_b2_0_b2_1 nin0)))))
    obtain ⟨cq20, kq20, q20a, q20b, q20c⟩ := isOf hZ rfl Gf8_2
    obtain ⟨_, _, ⟨T20, L20, k20, n20⟩, -, X20, ⟨Lc20, hQ20, l20, y20, z20⟩, st20⟩ := X8.virtualBack hx (y := y14) (z := y14) hown (mvT hZ (own_w hw 108 rfl)) (mvT hZ (own_w hw 109 rfl)) (notFace_of_selects (args := #[]) (mvT hZ (own_w hw 111 rfl))) (mvT hZ (own_w hw 111 rfl)) (mvT hZ (own_w hw 110 rfl)) (by decide) (backOf (W := 0) (rm14_0 l Z a0 hw [] b1 b2_4 b2_7 k2_5 b2_6 k2_4 b2_5 b2_8 b2_9 k2_7 b2_0 k2_0 b2_1 k2_1 T8.heap n0 Z8 Gf8_11 Fa21 Fa23 Fa25 Fa26 Fa27 Fa29 Fa30 Fa31 Fa32 Gf8_2 Gf8_12 Fa34 Gf8_8 Fa35 Gf8_9 Gf8_14 ne_b2_4_b2_7 ne_b2_6_b2_7 ne_b2_4_b2_6 nn22 nn28 nn24 (Ne.symm ne_b2_4_b2_9) (Ne.symm ne_b2_6_b2_9) (Ne.symm ne_b2_7_b2_9) ne_b2_0_b2_4 ne_b2_0_b2_6 ne_b2_0_b2_7 ne_b2_1_b2_4 ne_b2_1_b2_6 ne_b2_1_b2_7 nn33 ne_b2_0_b2_9 ne_b2_1_b2_9 ge_b2_7 ge_b2_6 ge_b2_4 ge_b2_9 ge_b2_1) hZ (own_w hw 112 rfl) (own_w hw 3 rfl) (by decide) (by decide)) q20a q20c (g := (mkF m 95 #[iv x0, iv x1, iv x2, iv x3, iv x4, iv 1, rv b1, iv 0, iv 1, iv 1, iv 2, iv 2, iv 0, .unset, .unset, .unset, .unset, .unset, .unset, .unset, .unset] [(dl 1), (.int 7), (.int 0), (.ref b1)])) rfl (by rw [hml]; rfl) (Steps.refl _) (argsL := [(.int 0), (.int 7), (dl 1)]) (rest := []) (lenOf pd__IID_V rfl) rfl (by show 2 * 0 + _ ≤ _; exact Nat.le_of_eq rfl) (hb hby at_95) (fun _ _ => ⟨rfl, rfl, (by decide : 12 + 0 ≤ _), (by decide : 102 + 0 ≤ _)⟩)
    dsimp only [Pt.U, Pt.locs, Pt.cells, Pt.slots] at X20 l20 y20 z20 st20 hQ20
    subst l20 y20 z20
    obtain ⟨rfl, Nq20, K20, Gf20_0, Gf20_1, Gf20_2, Gf20_3, Gf20_4, Gf20_5, Gf20_6, Gf20_7, Gf20_8, Gf20_9, Gf20_10, Gf20_11⟩ := hQ20
    have Z20 := Nat.le_trans Z8 K20.1
    have N20 := Fr.app N8 Nq20
    refine go (fun tg kg => st20.trans kg) ?_
    refine go (fun tg kg => XS.aload X20.here hx rfl (hb hby at_98) rfl rfl kg) ?_
    refine go (fun tg kg => XS.iload X20.here hx rfl (hb hby at_100) rfl kg) ?_
    show G (T20.setTop (mkF m 102 #[iv x0, iv x1, iv x2, iv x3, iv x4, iv 1, rv b1, iv 0, iv 1, iv 1, iv 2, iv 2, iv 0, .unset, .unset, .unset, .unset, .unset, .unset, .unset, .unset] [(.int 0), (.ref b1)]))
    refine go (fun tg kg => XS.bipush X20.here hx rfl (hb hby at_102) kg) ?_
    refine go (fun tg kg => XS.dconst1 X20.here hx rfl (hb hby at_104) own_d1 kg) ?_
    have Fa36 := (Gf8_2.keep K20)
    have Fa37 := (Gf8_4.keep K20 (ninS nn24 (ninS nn28 (ninS nn22 (ninS nn33 (ninS nn7 nin0))))))
    have Fa38 := (Gf8_3.keep K20 (ninS nn24 (ninS nn28 (ninS nn22 (ninS nn33 (ninS nn7 nin0))))))
    have Fa39 := (Gf8_13.keep K20 (ninS nn24 (ninS nn28 (ninS nn22 (ninS nn33 (ninS nn7 nin0))))))
    have Fa40 := (Gf8_1.keep K20 (ninS nn24 (ninS nn28 (ninS nn22 (ninS nn33 (ninS nn7 nin0))))))
    have Fa42 := (Gf8_11.keep K20 (ninS nn24 (ninS nn28 (ninS nn22 (ninS nn33 (ninS nn7 nin0))))))
    have Fa43 := (Gf8_12.keep K20 (ninS nn24 (ninS nn28 (ninS nn22 (ninS nn33 (ninS nn7 nin0))))))
    have Fa44 := (Gf8_8.keep K20 (ninS nn24 (ninS nn28 (ninS nn22 (ninS nn33 (ninS nn7 nin0))))))
    have Fa45 := (Fa35.keep K20 (ninS ne_b2_0_b2_7 (ninS ne_b2_0_b2_6 (ninS ne_b2_0_b2_4 (ninS ne_b2_0_b2_9 (ninS ne_b2_0_b2_1 nin0))))))
    have Fa46 := (Gf8_6.keep K20 (ninS nn24 (ninS nn28 (ninS nn22 (ninS nn33 (ninS nn7 nin0))))))
    have Fa47 := (Gf8_0.keep K20 (ninS nn24 (ninS nn28 (ninS nn22 (ninS nn33 (ninS nn7 nin0))))))
    have Fa48 := (Gf8_7.keep K20 (ninS ne_b2_3_b2_7 (ninS ne_b2_3_b2_6 (ninS ne_b2_3_b2_4 (ninS ne_b2_3_b2_9 (ninS (Ne.symm ne_b2_1_b2_3) nin0))))))
    have Fa49 := (Gf8_10.keep K20 (ninS nn24 (ninS nn28 (ninS nn22 (ninS nn33 (ninS nn7 nin0))))))
    obtain ⟨cq41, kq41, q41a, q41b, q41c⟩ := isOf hZ rfl Fa36
    obtain ⟨_, _, ⟨T41, L41, k41, n41⟩, -, X41, ⟨Lc41, hQ41, l41, y41, z41⟩, st41⟩ := X20.virtualBack hx (y := y22) (z := y22) hown (mvT hZ (own_w hw 145 rfl)) (mvT hZ (own_w hw 146 rfl)) (notFace_of_selects (args := #[]) (mvT hZ (own_w hw 148 rfl))) (mvT hZ (own_w hw 148 rfl)) (mvT hZ (own_w hw 147 rfl)) (by decide) (backOf (W := 0) (rm22_0 l Z a0 hw [] b1 b2_4 b2_7 k2_5 b2_6 k2_4 b2_5 b2_8 b2_9 k2_7 b2_0 k2_0 b2_1 k2_1 b2_3 k2_3 b2_2 b2_10 T20.heap n0 Z20 Fa42 Gf20_0 Gf20_1 Gf20_2 Gf20_3 Gf20_4 Gf20_5 Gf20_6 Gf20_7 Gf20_8 Fa36 Fa43 Gf20_9 Fa44 Fa45 Gf20_10 Gf20_11 Fa46 Fa47 Fa48 Fa49 Fa37 Fa38 Fa39 Fa40 ne_b2_4_b2_7 ne_b2_6_b2_7 ne_b2_4_b2_6 nn22 nn28 nn24 (Ne.symm ne_b2_4_b2_9) (Ne.symm ne_b2_6_b2_9) (Ne.symm ne_b2_7_b2_9) ne_b2_0_b2_4 ne_b2_0_b2_6 ne_b2_0_b2_7 ne_b2_1_b2_4 ne_b2_1_b2_6 ne_b2_1_b2_7 nn33 ne_b2_0_b2_9 ne_b2_1_b2_9 nn7 ne_b2_3_b2_4 ne_b2_3_b2_6 ne_b2_3_b2_7 (Ne.symm ne_b2_1_b2_3) ne_b2_3_b2_9 nn5 ge_b2_7 ge_b2_6 ge_b2_4 ge_b2_9 ge_b2_1 ge_b2_3 ge_b1) hZ (own_w hw 149 rfl) (own_w hw 3 rfl) (by decide) (by decide)) q41a q41c (g := (mkF m 105 #[iv x0, iv x1, iv x2, iv x3, iv x4, iv 1, rv b1, iv 0, iv 1, iv 1, iv 2, iv 2, iv 0, .unset, .unset, .unset, .unset, .unset, .unset, .unset, .unset] [(dl 1), (.int 7), (.int 0), (.ref b1)])) rfl (by rw [hml]; rfl) (Steps.refl _) (argsL := [(.int 0), (.int 7), (dl 1)]) (rest := []) (lenOf pd__IID_Z rfl) rfl (by show 2 * 0 + _ ≤ _; exact Nat.le_of_eq rfl) (hb hby at_105) (fun _ _ => ⟨rfl, rfl, (by decide : 12 + 0 ≤ _), (by decide : 102 + 0 ≤ _)⟩)
    dsimp only [Pt.U, Pt.locs, Pt.cells, Pt.slots] at X41 l41 y41 z41 st41 hQ41
    subst l41 y41 z41
    obtain ⟨rfl, Nq41, K41, Gf41_0, Gf41_1, Gf41_2, Gf41_3, Gf41_4, Gf41_5, Gf41_6, Gf41_7, Gf41_8, Gf41_9, Gf41_10, Gf41_11, Gf41_12, Gf41_13, Gf41_14, Gf41_15, Gf41_16, Gf41_17, Gf41_18, Gf41_19, Gf41_20, Gf41_21, Gf41_22, Gf41_23⟩ := hQ41
    have Z41 := Nat.le_trans Z20 K41.1
    have N41 := Fr.app N20 Nq41
    refine go (fun tg kg => st41.trans kg) ?_
    refine go (fun tg kg => XS.istore X41.here hx rfl (hb hby at_108) rfl (l' := #[iv x0, iv x1, iv x2, iv x3, iv x4, iv 1, rv b1, iv 0, iv 1, iv 1, iv 2, iv 2, iv 0, iv 1, .unset, .unset, .unset, .unset, .unset, .unset, .unset]) rfl kg) ?_
    refine go (fun tg kg => XS.iload X41.here hx rfl (hb hby at_110) rfl kg) ?_
    refine go (fun tg kg => XS.ifNo X41.here hx rfl (hb hby at_112) rfl ((if0 _ _).trans (feq (by decide)).1) kg) ?_
    show G (T41.setTop (mkF m 115 #[iv x0, iv x1, iv x2, iv x3, iv x4, iv 1, rv b1, iv 0, iv 1, iv 1, iv 2, iv 2, iv 0, iv 1, .unset, .unset, .unset, .unset, .unset, .unset, .unset] []))
    refine go (fun tg kg => XS.iload X41.here hx rfl (hb hby at_115) rfl kg) ?_
    refine go (fun tg kg => XS.ifNo X41.here hx rfl (hb hby at_117) rfl ((if0 _ _).trans (feq (by decide)).1) kg) ?_
    refine go (fun tg kg => XS.iconst X41.here hx rfl (hb hby at_120) kg) ?_
    refine go (fun tg kg => XS.goto X41.here hx rfl (pc0 := 121) (pc' := 125) rfl (hb hby at_121) (by decide) (by decide) kg) ?_
    refine go (fun tg kg => XS.istore X41.here hx rfl (hb hby at_125) rfl (l' := #[iv x0, iv x1, iv x2, iv x3, iv x4, iv 1, rv b1, iv 0, iv 1, iv 1, iv 2, iv 2, iv 0, iv 1, .unset, .unset, .unset, .unset, .unset, .unset, .unset]) rfl kg) ?_
    refine go (fun tg kg => XS.iload X41.here hx rfl (hb hby at_127) rfl kg) ?_
    show G (T41.setTop (mkF m 129 #[iv x0, iv x1, iv x2, iv x3, iv x4, iv 1, rv b1, iv 0, iv 1, iv 1, iv 2, iv 2, iv 0, iv 1, .unset, .unset, .unset, .unset, .unset, .unset, .unset] [(.int 0)]))
    refine go (fun tg kg => XS.istore X41.here hx rfl (hb hby at_129) rfl (l' := #[iv x0, iv x1, iv x2, iv x3, iv x4, iv 1, rv b1, iv 0, iv 1, iv 1, iv 0, iv 2, iv 0, iv 1, .unset, .unset, .unset, .unset, .unset, .unset, .unset]) rfl kg) ?_
    refine go (fun tg kg => XS.iconst X41.here hx rfl (hb hby at_131) kg) ?_
    refine go (fun tg kg => XS.istore X41.here hx rfl (hb hby at_132) rfl (l' := #[iv x0, iv x1, iv x2, iv x3, iv x4, iv 1, rv b1, iv 0, iv 1, iv 1, iv 0, iv 1, iv 0, iv 1, .unset, .unset, .unset, .unset, .unset, .unset, .unset]) rfl kg) ?_
    refine go (fun tg kg => XS.iloadN X41.here hx rfl (hb hby at_134) rfl kg) ?_
    refine go (fun tg kg => XS.i2dS X41.here hx rfl (hb hby at_135) rfl (i2d_w _) kg) ?_
    refine go (fun tg kg => XS.dstore X41.here hx rfl (hb hby at_136) rfl (l' := #[iv x0, iv x1, iv x2, iv x3, iv x4, iv 1, rv b1, iv 0, iv 1, iv 1, iv 0, iv 1, dv (x0.toInt64), .second, .unset, .unset, .unset, .unset, .unset, .unset, .unset]) rfl kg) ?_
    show G (T41.setTop (mkF m 138 #[iv x0, iv x1, iv x2, iv x3, iv x4, iv 1, rv b1, iv 0, iv 1, iv 1, iv 0, iv 1, dv (x0.toInt64), .second, .unset, .unset, .unset, .unset, .unset, .unset, .unset] []))
    refine go (fun tg kg => XS.iloadN X41.here hx rfl (hb hby at_138) rfl kg) ?_
    refine go (fun tg kg => XS.i2dS X41.here hx rfl (hb hby at_139) rfl (i2d_w _) kg) ?_
    refine go (fun tg kg => XS.dstore X41.here hx rfl (hb hby at_140) rfl (l' := #[iv x0, iv x1, iv x2, iv x3, iv x4, iv 1, rv b1, iv 0, iv 1, iv 1, iv 0, iv 1, dv (x0.toInt64), .second, dv (x1.toInt64), .second, .unset, .unset, .unset, .unset, .unset]) rfl kg) ?_
    refine go (fun tg kg => XS.iloadN X41.here hx rfl (hb hby at_142) rfl kg) ?_
    refine go (fun tg kg => XS.i2dS X41.here hx rfl (hb hby at_143) rfl (i2d_w _) kg) ?_
    refine go (fun tg kg => XS.dstore X41.here hx rfl (hb hby at_144) rfl (l' := #[iv x0, iv x1, iv x2, iv x3, iv x4, iv 1, rv b1, iv 0, iv 1, iv 1, iv 0, iv 1, dv (x0.toInt64), .second, dv (x1.toInt64), .second, dv (x2.toInt64), .second, .unset, .unset, .unset]) rfl kg) ?_
    show G (T41.setTop (mkF m 146 #[iv x0, iv x1, iv x2, iv x3, iv x4, iv 1, rv b1, iv 0, iv 1, iv 1, iv 0, iv 1, dv (x0.toInt64), .second, dv (x1.toInt64), .second, dv (x2.toInt64), .second, .unset, .unset, .unset] []))
    refine go (fun tg kg => XS.aload X41.here hx rfl (hb hby at_146) rfl rfl kg) ?_
    refine go (fun tg kg => XS.dload X41.here hx rfl (hb hby at_148) rfl kg) ?_
    refine go (fun tg kg => XS.dload X41.here hx rfl (hb hby at_150) rfl kg) ?_
    refine go (fun tg kg => XS.dload X41.here hx rfl (hb hby at_152) rfl kg) ?_
    refine go (fun tg kg => XS.iloadN X41.here hx rfl (hb hby at_154) rfl kg) ?_
    have Fa51 := ((Gf8_5.keep K20 (ninS ne_b2_2_b2_7 (ninS ne_b2_2_b2_6 (ninS ne_b2_2_b2_4 (ninS ne_b2_2_b2_9 (ninS (Ne.symm ne_b2_1_b2_2) nin0)))))).keep K41 (ninS ne_b2_2_b2_7 (ninS ne_b2_2_b2_6 (ninS ne_b2_2_b2_4 (ninS ne_b2_2_b2_9 (ninS (Ne.symm ne_b2_1_b2_2) (ninS ne_b2_2_b2_3 (ninS (Ne.symm nn4) nin0))))))))
    have Fa52 := (Fa45.keep K41 (ninS ne_b2_0_b2_7 (ninS ne_b2_0_b2_6 (ninS ne_b2_0_b2_4 (ninS ne_b2_0_b2_9 (ninS ne_b2_0_b2_1 (ninS ne_b2_0_b2_3 (ninS (Ne.symm nn6) nin0))))))))
    obtain ⟨cq50, kq50, q50a, q50b, q50c⟩ := isOf hZ rfl Gf41_10
    obtain ⟨_, _, ⟨T50, L50, k50, n50⟩, -, X50, ⟨Lc50, hQ50, l50, y50, z50⟩, st50⟩ := X41.virtualBack hx (y := y7) (z := y7) hown (mvT hZ (own_w hw 64 rfl)) (mvT hZ (own_w hw 65 rfl)) (notFace_of_selects (args := #[]) (mvT hZ (own_w hw 67 rfl))) (mvT hZ (own_w hw 67 rfl)) (mvT hZ (own_w hw 66 rfl)) (by decide) (backOf (W := 0) (rm7_4 l Z a0 hw [] b1 x0 x1 x2 x3 b2_3 k2_3 b2_2 k2_2 b2_0 k2_0 b2_1 k2_1 b2_4 b2_9 b2_10 T41.heap n0 Z41 Gf41_17 Gf41_16 Gf41_18 Gf41_10 Gf41_21 Gf41_20 Fa51 Gf41_13 Fa52 Gf41_14 Gf41_19 Gf41_0 Gf41_11 Gf41_22 Gf41_23 Gf41_15 (Ne.symm nn4) (Ne.symm nn5) (Ne.symm ne_b2_2_b2_3) (Ne.symm nn6) ne_b2_0_b2_2 ne_b2_0_b2_3 (Ne.symm nn7) ne_b2_1_b2_2 ne_b2_1_b2_3 ge_b1 ge_b2_2 ge_b2_3 ge_b2_1) hZ (own_w hw 68 rfl) (own_w hw 3 rfl) (by decide) (by decide)) q50a q50c (g := (mkF m 155 #[iv x0, iv x1, iv x2, iv x3, iv x4, iv 1, rv b1, iv 0, iv 1, iv 1, iv 0, iv 1, dv (x0.toInt64), .second, dv (x1.toInt64), .second, dv (x2.toInt64), .second, .unset, .unset, .unset] [(.int x3), (dl (x2.toInt64)), (dl (x1.toInt64)), (dl (x0.toInt64)), (.ref b1)])) rfl (by rw [hml]; rfl) (Steps.refl _) (argsL := [(dl (x0.toInt64)), (dl (x1.toInt64)), (dl (x2.toInt64)), (.int x3)]) (rest := []) (lenOf pd__DDDI_I rfl) rfl (by show 2 * 0 + _ ≤ _; exact Nat.le_of_eq rfl) (hb hby at_155) (fun _ _ => ⟨rfl, rfl, (by decide : 12 + 0 ≤ _), (by decide : 102 + 0 ≤ _)⟩)
    dsimp only [Pt.U, Pt.locs, Pt.cells, Pt.slots] at X50 l50 y50 z50 st50 hQ50
    subst l50 y50 z50
    obtain ⟨rfl, Nq50, K50, Gf50_0, Gf50_1, Gf50_2, Gf50_3, Gf50_4, Gf50_5, Gf50_6, Gf50_7, Gf50_8, Gf50_9, Gf50_10, Gf50_11, Gf50_12, Gf50_13, Gf50_14⟩ := hQ50
    have Z50 := Nat.le_trans Z41 K50.1
    have N50 := Fr.app N41 Nq50
    refine go (fun tg kg => st50.trans kg) ?_
    show G (T50.setTop (mkF m 158 #[iv x0, iv x1, iv x2, iv x3, iv x4, iv 1, rv b1, iv 0, iv 1, iv 1, iv 0, iv 1, dv (x0.toInt64), .second, dv (x1.toInt64), .second, dv (x2.toInt64), .second, .unset, .unset, .unset] [(.int 0)]))
    refine go (fun tg kg => XS.istore X50.here hx rfl (hb hby at_158) rfl (l' := #[iv x0, iv x1, iv x2, iv x3, iv x4, iv 1, rv b1, iv 0, iv 1, iv 1, iv 0, iv 1, dv (x0.toInt64), .second, dv (x1.toInt64), .second, dv (x2.toInt64), .second, iv 0, .unset, .unset]) rfl kg) ?_
    refine go (fun tg kg => XS.iload X50.here hx rfl (hb hby at_160) rfl kg) ?_
    refine go (fun tg kg => XS.ifNo X50.here hx rfl (hb hby at_162) rfl ((if0 _ _).trans (feq (by decide)).1) kg) ?_
    refine go (fun tg kg => XS.iload X50.here hx rfl (hb hby at_165) rfl kg) ?_
    refine go (fun tg kg => XS.iload X50.here hx rfl (hb hby at_167) rfl kg) ?_
    refine go (fun tg kg => XS.icmpNo X50.here hx rfl (hb hby at_169) rfl (teq (by decide)).2 kg) ?_
    show G (T50.setTop (mkF m 172 #[iv x0, iv x1, iv x2, iv x3, iv x4, iv 1, rv b1, iv 0, iv 1, iv 1, iv 0, iv 1, dv (x0.toInt64), .second, dv (x1.toInt64), .second, dv (x2.toInt64), .second, iv 0, .unset, .unset] []))
    refine go (fun tg kg => XS.iconst X50.here hx rfl (hb hby at_172) kg) ?_
    refine go (fun tg kg => XS.goto X50.here hx rfl (pc0 := 173) (pc' := 177) rfl (hb hby at_173) (by decide) (by decide) kg) ?_
    refine go (fun tg kg => XS.istore X50.here hx rfl (hb hby at_177) rfl (l' := #[iv x0, iv x1, iv x2, iv x3, iv x4, iv 1, rv b1, iv 0, iv 1, iv 1, iv 0, iv 1, dv (x0.toInt64), .second, dv (x1.toInt64), .second, dv (x2.toInt64), .second, iv 0, .unset, .unset]) rfl kg) ?_
    refine go (fun tg kg => XS.iload X50.here hx rfl (hb hby at_179) rfl kg) ?_
    refine go (fun tg kg => XS.ifNo X50.here hx rfl (hb hby at_181) rfl ((if0 _ _).trans (feq (by decide)).1) kg) ?_
    refine go (fun tg kg => XS.aload X50.here hx rfl (hb hby at_184) rfl rfl kg) ?_
    show G (T50.setTop (mkF m 186 #[iv x0, iv x1, iv x2, iv x3, iv x4, iv 1, rv b1, iv 0, iv 1, iv 1, iv 0, iv 1, dv (x0.toInt64), .second, dv (x1.toInt64), .second, dv (x2.toInt64), .second, iv 0, .unset, .unset] [(.ref b1)]))
    refine go (fun tg kg => XS.iload X50.here hx rfl (hb hby at_186) rfl kg) ?_
    obtain ⟨cq53, kq53, q53a, q53b, q53c⟩ := isOf hZ rfl Gf50_3
    obtain ⟨_, _, ⟨T53, L53, k53, n53⟩, -, X53, ⟨Lc53, hQ53, l53, y53, z53⟩, st53⟩ := X50.virtualBack hx (y := y8) (z := y8) hown (mvT hZ (own_w hw 77 rfl)) (mvT hZ (own_w hw 78 rfl)) (notFace_of_selects (args := #[]) (mvT hZ (own_w hw 80 rfl))) (mvT hZ (own_w hw 80 rfl)) (mvT hZ (own_w hw 79 rfl)) (by decide) (backOf (W := 0) (rm8_1 l Z a0 hw [] b1 b2_2 k2_2 T50.heap n0 Z50 Gf50_4 Gf50_6) hZ (own_w hw 81 rfl) (own_w hw 3 rfl) (by decide) (by decide)) q53a q53c (g := (mkF m 188 #[iv x0, iv x1, iv x2, iv x3, iv x4, iv 1, rv b1, iv 0, iv 1, iv 1, iv 0, iv 1, dv (x0.toInt64), .second, dv (x1.toInt64), .second, dv (x2.toInt64), .second, iv 0, .unset, .unset] [(.int 0), (.ref b1)])) rfl (by rw [hml]; rfl) (Steps.refl _) (argsL := [(.int 0)]) (rest := []) (lenOf pd__I_J rfl) rfl (by show 2 * 0 + _ ≤ _; exact Nat.le_of_eq rfl) (hb hby at_188) (fun _ _ => ⟨rfl, rfl, (by decide : 12 + 0 ≤ _), (by decide : 102 + 0 ≤ _)⟩)
    dsimp only [Pt.U, Pt.locs, Pt.cells, Pt.slots] at X53 l53 y53 z53 st53 hQ53
    subst l53 y53 z53
    obtain ⟨rfl, Nq53, e53⟩ := hQ53
    have N53 := Fr.app N50 Nq53
    refine go (fun tg kg => st53.trans kg) ?_
    refine go (fun tg kg => X53.ldc2Long hx hown (mvT hZ (own_w hw 82 rfl)) (g := (mkF m 191 #[iv x0, iv x1, iv x2, iv x3, iv x4, iv 1, rv b1, iv 0, iv 1, iv 1, iv 0, iv 1, dv (x0.toInt64), .second, dv (x1.toInt64), .second, dv (x2.toInt64), .second, iv 0, .unset, .unset] [(.long 3)])) rfl (hb hby at_191) _ kg) ?_
    refine go (fun tg kg => XS.lcmp X53.here hx rfl (hb hby at_194) rfl kg) ?_
    refine go (fun tg kg => XS.ifNo X53.here hx rfl (hb hby at_195) rfl ((if0 _ _).trans (teq ((lw_eq (3 : Int64) (3 : Int64)).mpr (by decide))).2) kg) ?_
    refine go (fun tg kg => XS.iconst X53.here hx rfl (hb hby at_198) kg) ?_
    show G (T53.setTop (mkF m 199 #[iv x0, iv x1, iv x2, iv x3, iv x4, iv 1, rv b1, iv 0, iv 1, iv 1, iv 0, iv 1, dv (x0.toInt64), .second, dv (x1.toInt64), .second, dv (x2.toInt64), .second, iv 0, .unset, .unset] [(.int 1)]))
    refine go (fun tg kg => XS.goto X53.here hx rfl (pc0 := 199) (pc' := 203) rfl (hb hby at_199) (by decide) (by decide) kg) ?_
    refine go (fun tg kg => XS.istore X53.here hx rfl (hb hby at_203) rfl (l' := #[iv x0, iv x1, iv x2, iv x3, iv x4, iv 1, rv b1, iv 0, iv 1, iv 1, iv 0, iv 1, dv (x0.toInt64), .second, dv (x1.toInt64), .second, dv (x2.toInt64), .second, iv 0, .unset, .unset]) rfl kg) ?_
    refine go (fun tg kg => XS.iload X53.here hx rfl (hb hby at_205) rfl kg) ?_
    refine go (fun tg kg => XS.ifNo X53.here hx rfl (hb hby at_207) rfl ((if0 _ _).trans (feq (by decide)).1) kg) ?_
    refine go (fun tg kg => XS.aload X53.here hx rfl (hb hby at_210) rfl rfl kg) ?_
    refine go (fun tg kg => XS.iload X53.here hx rfl (hb hby at_212) rfl kg) ?_
    show G (T53.setTop (mkF m 214 #[iv x0, iv x1, iv x2, iv x3, iv x4, iv 1, rv b1, iv 0, iv 1, iv 1, iv 0, iv 1, dv (x0.toInt64), .second, dv (x1.toInt64), .second, dv (x2.toInt64), .second, iv 0, .unset, .unset] [(.int 0), (.ref b1)]))
    obtain ⟨cq54, kq54, q54a, q54b, q54c⟩ := isOf hZ e53 Gf50_3
    obtain ⟨_, _, ⟨T54, L54, k54, n54⟩, -, X54, ⟨Lc54, hQ54, l54, y54, z54⟩, st54⟩ := X53.virtualBack hx (y := y9) (z := y9) hown (mvT hZ (own_w hw 83 rfl)) (mvT hZ (own_w hw 84 rfl)) (notFace_of_selects (args := #[]) (mvT hZ (own_w hw 86 rfl))) (mvT hZ (own_w hw 86 rfl)) (mvT hZ (own_w hw 85 rfl)) (by decide) (backOf (W := 0) (rm9_1 l Z a0 hw [] b1 b2_3 k2_3 x3 T50.heap n0 Z50 Gf50_1 Gf50_2) hZ (own_w hw 87 rfl) (own_w hw 3 rfl) (by decide) (by decide)) q54a q54c (g := (mkF m 214 #[iv x0, iv x1, iv x2, iv x3, iv x4, iv 1, rv b1, iv 0, iv 1, iv 1, iv 0, iv 1, dv (x0.toInt64), .second, dv (x1.toInt64), .second, dv (x2.toInt64), .second, iv 0, .unset, .unset] [(.int 0), (.ref b1)])) rfl (by rw [hml]; rfl) (Steps.refl _) (argsL := [(.int 0)]) (rest := []) (lenOf pd__I_I rfl) rfl (by show 2 * 0 + _ ≤ _; exact Nat.le_of_eq rfl) (hb hby at_214) (fun _ _ => ⟨rfl, e53, (by decide : 12 + 0 ≤ _), (by decide : 102 + 0 ≤ _)⟩)
    dsimp only [Pt.U, Pt.locs, Pt.cells, Pt.slots] at X54 l54 y54 z54 st54 hQ54
    subst l54 y54 z54
    obtain ⟨rfl, Nq54, e54⟩ := hQ54
    have N54 := Fr.app N53 Nq54
    refine go (fun tg kg => st54.trans kg) ?_
    refine go (fun tg kg => XS.iloadN X54.here hx rfl (hb hby at_217) rfl kg) ?_
    refine go (fun tg kg => XS.icmpNo X54.here hx rfl (hb hby at_218) rfl (teq (rfl : x3 = x3)).2 kg) ?_
    refine go (fun tg kg => XS.iconst X54.here hx rfl (hb hby at_221) kg) ?_
    refine go (fun tg kg => XS.goto X54.here hx rfl (pc0 := 222) (pc' := 226) rfl (hb hby at_222) (by decide) (by decide) kg) ?_
    refine go (fun tg kg => XS.istore X54.here hx rfl (hb hby at_226) rfl (l' := #[iv x0, iv x1, iv x2, iv x3, iv x4, iv 1, rv b1, iv 0, iv 1, iv 1, iv 0, iv 1, dv (x0.toInt64), .second, dv (x1.toInt64), .second, dv (x2.toInt64), .second, iv 0, .unset, .unset]) rfl kg) ?_
    show G (T54.setTop (mkF m 228 #[iv x0, iv x1, iv x2, iv x3, iv x4, iv 1, rv b1, iv 0, iv 1, iv 1, iv 0, iv 1, dv (x0.toInt64), .second, dv (x1.toInt64), .second, dv (x2.toInt64), .second, iv 0, .unset, .unset] []))
    refine go (fun tg kg => XS.iload X54.here hx rfl (hb hby at_228) rfl kg) ?_
    refine go (fun tg kg => XS.ifNo X54.here hx rfl (hb hby at_230) rfl ((if0 _ _).trans (feq (by decide)).1) kg) ?_
    refine go (fun tg kg => XS.aload X54.here hx rfl (hb hby at_233) rfl rfl kg) ?_
    refine go (fun tg kg => XS.iload X54.here hx rfl (hb hby at_235) rfl kg) ?_
    have Fa56 := (Fa52.keep K50 (ninS (Ne.symm nn6) (ninS ne_b2_0_b2_2 (ninS ne_b2_0_b2_3 (ninS ne_b2_0_b2_1 nin0)))))
    obtain ⟨cq55, kq55, q55a, q55b, q55c⟩ := isOf hZ e54 Gf50_3
    obtain ⟨_, _, ⟨T55, L55, k55, n55⟩, -, X55, ⟨Lc55, hQ55, l55, y55, z55⟩, st55⟩ := X54.virtualBack hx (y := y10) (z := y10) hown (mvT hZ (own_w hw 88 rfl)) (mvT hZ (own_w hw 89 rfl)) (notFace_of_selects (args := #[]) (mvT hZ (own_w hw 91 rfl))) (mvT hZ (own_w hw 91 rfl)) (mvT hZ (own_w hw 90 rfl)) (by decide) (backOf (W := 0) (rm10_1 l Z a0 hw [] b1 b2_0 k2_0 b2_1 k2_1 x0 x1 x2 T50.heap n0 Z50 Gf50_7 Fa56 Gf50_8) hZ (own_w hw 92 rfl) (own_w hw 3 rfl) (by decide) (by decide)) q55a q55c (g := (mkF m 237 #[iv x0, iv x1, iv x2, iv x3, iv x4, iv 1, rv b1, iv 0, iv 1, iv 1, iv 0, iv 1, dv (x0.toInt64), .second, dv (x1.toInt64), .second, dv (x2.toInt64), .second, iv 0, .unset, .unset] [(.int 0), (.ref b1)])) rfl (by rw [hml]; rfl) (Steps.refl _) (argsL := [(.int 0)]) (rest := []) (lenOf pd__I_D rfl) rfl (by show 2 * 0 + _ ≤ _; exact Nat.le_of_eq rfl) (hb hby at_237) (fun _ _ => ⟨rfl, e54, (by decide : 12 + 0 ≤ _), (by decide : 102 + 0 ≤ _)⟩)
    dsimp only [Pt.U, Pt.locs, Pt.cells, Pt.slots] at X55 l55 y55 z55 st55 hQ55
    subst l55 y55 z55
    obtain ⟨rfl, Nq55, e55⟩ := hQ55
    have N55 := Fr.app N54 Nq55
    refine go (fun tg kg => st55.trans kg) ?_
    refine go (fun tg kg => XS.dload X55.here hx rfl (hb hby at_240) rfl kg) ?_
    show G (T55.setTop (mkF m 242 #[iv x0, iv x1, iv x2, iv x3, iv x4, iv 1, rv b1, iv 0, iv 1, iv 1, iv 0, iv 1, dv (x0.toInt64), .second, dv (x1.toInt64), .second, dv (x2.toInt64), .second, iv 0, .unset, .unset] [(dl (x0.toInt64)), (dl (x0.toInt64))]))
    refine go (fun tg kg => XS.dcmpS X55.here hx rfl (hb hby at_242) rfl (dcmpV_self (nn_w rfl) _) kg) ?_
    refine go (fun tg kg => XS.ifNo X55.here hx rfl (hb hby at_243) rfl ((if0 _ _).trans (teq (by decide)).2) kg) ?_
    refine go (fun tg kg => XS.iconst X55.here hx rfl (hb hby at_246) kg) ?_
    refine go (fun tg kg => XS.goto X55.here hx rfl (pc0 := 247) (pc' := 251) rfl (hb hby at_247) (by decide) (by decide) kg) ?_
    refine go (fun tg kg => XS.istore X55.here hx rfl (hb hby at_251) rfl (l' := #[iv x0, iv x1, iv x2, iv x3, iv x4, iv 1, rv b1, iv 0, iv 1, iv 1, iv 0, iv 1, dv (x0.toInt64), .second, dv (x1.toInt64), .second, dv (x2.toInt64), .second, iv 0, .unset, .unset]) rfl kg) ?_
    refine go (fun tg kg => XS.iload X55.here hx rfl (hb hby at_253) rfl kg) ?_
    show G (T55.setTop (mkF m 255 #[iv x0, iv x1, iv x2, iv x3, iv x4, iv 1, rv b1, iv 0, iv 1, iv 1, iv 0, iv 1, dv (x0.toInt64), .second, dv (x1.toInt64), .second, dv (x2.toInt64), .second, iv 0, .unset, .unset] [(.int 1)]))
    refine go (fun tg kg => XS.ifNo X55.here hx rfl (hb hby at_255) rfl ((if0 _ _).trans (feq (by decide)).1) kg) ?_
    refine go (fun tg kg => XS.aload X55.here hx rfl (hb hby at_258) rfl rfl kg) ?_
    refine go (fun tg kg => XS.iload X55.here hx rfl (hb hby at_260) rfl kg) ?_
    obtain ⟨cq57, kq57, q57a, q57b, q57c⟩ := isOf hZ e55 Gf50_3
    obtain ⟨_, _, ⟨T57, L57, k57, n57⟩, -, X57, ⟨Lc57, hQ57, l57, y57, z57⟩, st57⟩ := X55.virtualBack hx (y := y11) (z := y11) hown (mvT hZ (own_w hw 93 rfl)) (mvT hZ (own_w hw 94 rfl)) (notFace_of_selects (args := #[]) (mvT hZ (own_w hw 96 rfl))) (mvT hZ (own_w hw 96 rfl)) (mvT hZ (own_w hw 95 rfl)) (by decide) (backOf (W := 0) (rm11_1 l Z a0 hw [] b1 b2_0 k2_0 b2_1 k2_1 x0 x1 x2 T50.heap n0 Z50 Gf50_7 Fa56 Gf50_8) hZ (own_w hw 97 rfl) (own_w hw 3 rfl) (by decide) (by decide)) q57a q57c (g := (mkF m 262 #[iv x0, iv x1, iv x2, iv x3, iv x4, iv 1, rv b1, iv 0, iv 1, iv 1, iv 0, iv 1, dv (x0.toInt64), .second, dv (x1.toInt64), .second, dv (x2.toInt64), .second, iv 0, .unset, .unset] [(.int 0), (.ref b1)])) rfl (by rw [hml]; rfl) (Steps.refl _) (argsL := [(.int 0)]) (rest := []) (lenOf pd__I_D rfl) rfl (by show 2 * 0 + _ ≤ _; exact Nat.le_of_eq rfl) (hb hby at_262) (fun _ _ => ⟨rfl, e55, (by decide : 12 + 0 ≤ _), (by decide : 102 + 0 ≤ _)⟩)
    dsimp only [Pt.U, Pt.locs, Pt.cells, Pt.slots] at X57 l57 y57 z57 st57 hQ57
    subst l57 y57 z57
    obtain ⟨rfl, Nq57, e57⟩ := hQ57
    have N57 := Fr.app N55 Nq57
    refine go (fun tg kg => st57.trans kg) ?_
    refine go (fun tg kg => XS.dload X57.here hx rfl (hb hby at_265) rfl kg) ?_
    refine go (fun tg kg => XS.dcmpS X57.here hx rfl (hb hby at_267) rfl (dcmpV_self (nn_w rfl) _) kg) ?_
    show G (T57.setTop (mkF m 268 #[iv x0, iv x1, iv x2, iv x3, iv x4, iv 1, rv b1, iv 0, iv 1, iv 1, iv 0, iv 1, dv (x0.toInt64), .second, dv (x1.toInt64), .second, dv (x2.toInt64), .second, iv 0, .unset, .unset] [(.int 0)]))
    refine go (fun tg kg => XS.ifNo X57.here hx rfl (hb hby at_268) rfl ((if0 _ _).trans (teq (by decide)).2) kg) ?_
    refine go (fun tg kg => XS.iconst X57.here hx rfl (hb hby at_271) kg) ?_
    refine go (fun tg kg => XS.goto X57.here hx rfl (pc0 := 272) (pc' := 276) rfl (hb hby at_272) (by decide) (by decide) kg) ?_
    refine go (fun tg kg => XS.istore X57.here hx rfl (hb hby at_276) rfl (l' := #[iv x0, iv x1, iv x2, iv x3, iv x4, iv 1, rv b1, iv 0, iv 1, iv 1, iv 0, iv 1, dv (x0.toInt64), .second, dv (x1.toInt64), .second, dv (x2.toInt64), .second, iv 0, .unset, .unset]) rfl kg) ?_
    refine go (fun tg kg => XS.iload X57.here hx rfl (hb hby at_278) rfl kg) ?_
    refine go (fun tg kg => XS.ifNo X57.here hx rfl (hb hby at_280) rfl ((if0 _ _).trans (feq (by decide)).1) kg) ?_
    show G (T57.setTop (mkF m 283 #[iv x0, iv x1, iv x2, iv x3, iv x4, iv 1, rv b1, iv 0, iv 1, iv 1, iv 0, iv 1, dv (x0.toInt64), .second, dv (x1.toInt64), .second, dv (x2.toInt64), .second, iv 0, .unset, .unset] []))
    refine go (fun tg kg => XS.aload X57.here hx rfl (hb hby at_283) rfl rfl kg) ?_
    refine go (fun tg kg => XS.iload X57.here hx rfl (hb hby at_285) rfl kg) ?_
    obtain ⟨cq58, kq58, q58a, q58b, q58c⟩ := isOf hZ e57 Gf50_3
    obtain ⟨_, _, ⟨T58, L58, k58, n58⟩, -, X58, ⟨Lc58, hQ58, l58, y58, z58⟩, st58⟩ := X57.virtualBack hx (y := y12) (z := y12) hown (mvT hZ (own_w hw 98 rfl)) (mvT hZ (own_w hw 99 rfl)) (notFace_of_selects (args := #[]) (mvT hZ (own_w hw 101 rfl))) (mvT hZ (own_w hw 101 rfl)) (mvT hZ (own_w hw 100 rfl)) (by decide) (backOf (W := 0) (rm12_1 l Z a0 hw [] b1 b2_0 k2_0 b2_1 k2_1 x0 x1 x2 T50.heap n0 Z50 Gf50_7 Fa56 Gf50_8) hZ (own_w hw 102 rfl) (own_w hw 3 rfl) (by decide) (by decide)) q58a q58c (g := (mkF m 287 #[iv x0, iv x1, iv x2, iv x3, iv x4, iv 1, rv b1, iv 0, iv 1, iv 1, iv 0, iv 1, dv (x0.toInt64), .second, dv (x1.toInt64), .second, dv (x2.toInt64), .second, iv 0, .unset, .unset] [(.int 0), (.ref b1)])) rfl (by rw [hml]; rfl) (Steps.refl _) (argsL := [(.int 0)]) (rest := []) (lenOf pd__I_D rfl) rfl (by show 2 * 0 + _ ≤ _; exact Nat.le_of_eq rfl) (hb hby at_287) (fun _ _ => ⟨rfl, e57, (by decide : 12 + 0 ≤ _), (by decide : 102 + 0 ≤ _)⟩)
    dsimp only [Pt.U, Pt.locs, Pt.cells, Pt.slots] at X58 l58 y58 z58 st58 hQ58
    subst l58 y58 z58
    obtain ⟨rfl, Nq58, e58⟩ := hQ58
    have N58 := Fr.app N57 Nq58
    refine go (fun tg kg => st58.trans kg) ?_
    refine go (fun tg kg => XS.dload X58.here hx rfl (hb hby at_290) rfl kg) ?_
    refine go (fun tg kg => XS.dcmpS X58.here hx rfl (hb hby at_292) rfl (dcmpV_self (nn_w rfl) _) kg) ?_
    refine go (fun tg kg => XS.ifNo X58.here hx rfl (hb hby at_293) rfl ((if0 _ _).trans (teq (by decide)).2) kg) ?_
    show G (T58.setTop (mkF m 296 #[iv x0, iv x1, iv x2, iv x3, iv x4, iv 1, rv b1, iv 0, iv 1, iv 1, iv 0, iv 1, dv (x0.toInt64), .second, dv (x1.toInt64), .second, dv (x2.toInt64), .second, iv 0, .unset, .unset] []))
    refine go (fun tg kg => XS.iconst X58.here hx rfl (hb hby at_296) kg) ?_
    refine go (fun tg kg => XS.goto X58.here hx rfl (pc0 := 297) (pc' := 301) rfl (hb hby at_297) (by decide) (by decide) kg) ?_
    refine go (fun tg kg => XS.istore X58.here hx rfl (hb hby at_301) rfl (l' := #[iv x0, iv x1, iv x2, iv x3, iv x4, iv 1, rv b1, iv 0, iv 1, iv 1, iv 0, iv 1, dv (x0.toInt64), .second, dv (x1.toInt64), .second, dv (x2.toInt64), .second, iv 0, .unset, .unset]) rfl kg) ?_
    refine go (fun tg kg => XS.iload X58.here hx rfl (hb hby at_303) rfl kg) ?_
    refine go (fun tg kg => XS.ifNo X58.here hx rfl (hb hby at_305) rfl ((if0 _ _).trans (feq (by decide)).1) kg) ?_
    refine go (fun tg kg => XS.aload X58.here hx rfl (hb hby at_308) rfl rfl kg) ?_
    show G (T58.setTop (mkF m 310 #[iv x0, iv x1, iv x2, iv x3, iv x4, iv 1, rv b1, iv 0, iv 1, iv 1, iv 0, iv 1, dv (x0.toInt64), .second, dv (x1.toInt64), .second, dv (x2.toInt64), .second, iv 0, .unset, .unset] [(.ref b1)]))
    obtain ⟨cq59, kq59, q59a, q59b, q59c⟩ := isOf hZ e58 Gf50_3
    obtain ⟨_, _, ⟨T59, L59, k59, n59⟩, -, X59, ⟨Lc59, hQ59, l59, y59, z59⟩, st59⟩ := X58.virtualBack hx (y := y13) (z := y13) hown (mvT hZ (own_w hw 103 rfl)) (mvT hZ (own_w hw 104 rfl)) (notFace_of_selects (args := #[]) (mvT hZ (own_w hw 106 rfl))) (mvT hZ (own_w hw 106 rfl)) (mvT hZ (own_w hw 105 rfl)) (by decide) (backOf (W := 0) (rm13_1 l Z a0 hw [] b1 T50.heap n0 Z50 Gf50_9) hZ (own_w hw 107 rfl) (own_w hw 3 rfl) (by decide) (by decide)) q59a q59c (g := (mkF m 310 #[iv x0, iv x1, iv x2, iv x3, iv x4, iv 1, rv b1, iv 0, iv 1, iv 1, iv 0, iv 1, dv (x0.toInt64), .second, dv (x1.toInt64), .second, dv (x2.toInt64), .second, iv 0, .unset, .unset] [(.ref b1)])) rfl (by rw [hml]; rfl) (Steps.refl _) (argsL := []) (rest := []) (lenOf pd___I rfl) rfl (by show 2 * 0 + _ ≤ _; exact Nat.le_of_eq rfl) (hb hby at_310) (fun _ _ => ⟨rfl, e58, (by decide : 12 + 0 ≤ _), (by decide : 102 + 0 ≤ _)⟩)
    dsimp only [Pt.U, Pt.locs, Pt.cells, Pt.slots] at X59 l59 y59 z59 st59 hQ59
    subst l59 y59 z59
    obtain ⟨rfl, Nq59, e59⟩ := hQ59
    have N59 := Fr.app N58 Nq59
    refine go (fun tg kg => st59.trans kg) ?_
    refine go (fun tg kg => XS.iload X59.here hx rfl (hb hby at_313) rfl kg) ?_
    refine go (fun tg kg => XS.iconst X59.here hx rfl (hb hby at_315) kg) ?_
    refine go (fun tg kg => XS.iadd X59.here hx rfl (hb hby at_316) rfl kg) ?_
    refine go (fun tg kg => XS.icmpNo X59.here hx rfl (hb hby at_317) rfl (teq (by decide)).2 kg) ?_
    refine go (fun tg kg => XS.iconst X59.here hx rfl (hb hby at_320) kg) ?_
    show G (T59.setTop (mkF m 321 #[iv x0, iv x1, iv x2, iv x3, iv x4, iv 1, rv b1, iv 0, iv 1, iv 1, iv 0, iv 1, dv (x0.toInt64), .second, dv (x1.toInt64), .second, dv (x2.toInt64), .second, iv 0, .unset, .unset] [(.int 1)]))
    refine go (fun tg kg => XS.goto X59.here hx rfl (pc0 := 321) (pc' := 325) rfl (hb hby at_321) (by decide) (by decide) kg) ?_
    refine go (fun tg kg => XS.istore X59.here hx rfl (hb hby at_325) rfl (l' := #[iv x0, iv x1, iv x2, iv x3, iv x4, iv 1, rv b1, iv 0, iv 1, iv 1, iv 0, iv 1, dv (x0.toInt64), .second, dv (x1.toInt64), .second, dv (x2.toInt64), .second, iv 0, .unset, .unset]) rfl kg) ?_
    refine go (fun tg kg => XS.aload X59.here hx rfl (hb hby at_327) rfl rfl kg) ?_
    refine go (fun tg kg => XS.dconst0 X59.here hx rfl (hb hby at_329) own_d0 kg) ?_
    refine go (fun tg kg => XS.dconst0 X59.here hx rfl (hb hby at_330) own_d0 kg) ?_
    refine go (fun tg kg => XS.dconst0 X59.here hx rfl (hb hby at_331) own_d0 kg) ?_
    show G (T59.setTop (mkF m 332 #[iv x0, iv x1, iv x2, iv x3, iv x4, iv 1, rv b1, iv 0, iv 1, iv 1, iv 0, iv 1, dv (x0.toInt64), .second, dv (x1.toInt64), .second, dv (x2.toInt64), .second, iv 0, .unset, .unset] [(dl 0), (dl 0), (dl 0), (.ref b1)]))
    refine go (fun tg kg => XS.iconst X59.here hx rfl (hb hby at_332) kg) ?_
    obtain ⟨cq60, kq60, q60a, q60b, q60c⟩ := isOf hZ e59 Gf50_3
    obtain ⟨_, _, ⟨T60, L60, k60, n60⟩, -, X60, ⟨Lc60, hQ60, l60, y60, z60⟩, st60⟩ := X59.virtualBack hx (y := y7) (z := y7) hown (mvT hZ (own_w hw 64 rfl)) (mvT hZ (own_w hw 65 rfl)) (notFace_of_selects (args := #[]) (mvT hZ (own_w hw 67 rfl))) (mvT hZ (own_w hw 67 rfl)) (mvT hZ (own_w hw 66 rfl)) (by decide) (backOf (W := 0) (rm7_5 l Z a0 hw [] b1 b2_2 k2_2 b2_3 k2_3 x3 b2_0 k2_0 b2_1 k2_1 x0 x1 x2 b2_4 b2_9 b2_10 T50.heap n0 Z50 Gf50_0 Gf50_13 Gf50_3 Gf50_4 Gf50_5 Gf50_6 Gf50_1 Gf50_2 Gf50_7 Fa56 Gf50_8 Gf50_9 Gf50_10 Gf50_11 Gf50_12 Gf50_14 (Ne.symm nn4) (Ne.symm nn5) (Ne.symm ne_b2_2_b2_3) (Ne.symm nn6) ne_b2_0_b2_2 ne_b2_0_b2_3 (Ne.symm nn7) ne_b2_1_b2_2 ne_b2_1_b2_3 ge_b1 ge_b2_2 ge_b2_3 ge_b2_1) hZ (own_w hw 68 rfl) (own_w hw 3 rfl) (by decide) (by decide)) q60a q60c (g := (mkF m 333 #[iv x0, iv x1, iv x2, iv x3, iv x4, iv 1, rv b1, iv 0, iv 1, iv 1, iv 0, iv 1, dv (x0.toInt64), .second, dv (x1.toInt64), .second, dv (x2.toInt64), .second, iv 0, .unset, .unset] [(.int 0), (dl 0), (dl 0), (dl 0), (.ref b1)])) rfl (by rw [hml]; rfl) (Steps.refl _) (argsL := [(dl 0), (dl 0), (dl 0), (.int 0)]) (rest := []) (lenOf pd__DDDI_I rfl) rfl (by show 2 * 0 + _ ≤ _; exact Nat.le_of_eq rfl) (hb hby at_333) (fun _ _ => ⟨rfl, e59, (by decide : 12 + 0 ≤ _), (by decide : 102 + 0 ≤ _)⟩)
    dsimp only [Pt.U, Pt.locs, Pt.cells, Pt.slots] at X60 l60 y60 z60 st60 hQ60
    subst l60 y60 z60
    obtain ⟨rfl, Nq60, K60, Gf60_0, Gf60_1, Gf60_2, Gf60_3, Gf60_4, Gf60_5, Gf60_6, Gf60_7, Gf60_8, Gf60_9, Gf60_10, Gf60_11, Gf60_12, Gf60_13, Gf60_14⟩ := hQ60
    have Z60 := Nat.le_trans Z50 K60.1
    have N60 := Fr.app N59 Nq60
    refine go (fun tg kg => st60.trans kg) ?_
    refine go (fun tg kg => XS.istore X60.here hx rfl (hb hby at_336) rfl (l' := #[iv x0, iv x1, iv x2, iv x3, iv x4, iv 1, rv b1, iv 0, iv 1, iv 1, iv 0, iv 1, dv (x0.toInt64), .second, dv (x1.toInt64), .second, dv (x2.toInt64), .second, iv 0, iv 2, .unset]) rfl kg) ?_
    refine go (fun tg kg => XS.iload X60.here hx rfl (hb hby at_338) rfl kg) ?_
    refine go (fun tg kg => XS.ifNo X60.here hx rfl (hb hby at_340) rfl ((if0 _ _).trans (feq (by decide)).1) kg) ?_
    refine go (fun tg kg => XS.iconst X60.here hx rfl (hb hby at_343) kg) ?_
    show G (T60.setTop (mkF m 344 #[iv x0, iv x1, iv x2, iv x3, iv x4, iv 1, rv b1, iv 0, iv 1, iv 1, iv 0, iv 1, dv (x0.toInt64), .second, dv (x1.toInt64), .second, dv (x2.toInt64), .second, iv 0, iv 2, .unset] [(.int 2)]))
    refine go (fun tg kg => XS.goto X60.here hx rfl (pc0 := 344) (pc' := 348) rfl (hb hby at_344) (by decide) (by decide) kg) ?_
    refine go (fun tg kg => XS.istore X60.here hx rfl (hb hby at_348) rfl (l' := #[iv x0, iv x1, iv x2, iv x3, iv x4, iv 1, rv b1, iv 0, iv 1, iv 1, iv 0, iv 1, dv (x0.toInt64), .second, dv (x1.toInt64), .second, dv (x2.toInt64), .second, iv 0, iv 2, iv 2]) rfl kg) ?_
    refine go (fun tg kg => XS.iload X60.here hx rfl (hb hby at_350) rfl kg) ?_
    refine go (fun tg kg => XS.ifNo X60.here hx rfl (hb hby at_352) rfl ((if0 _ _).trans (feq (by decide)).1) kg) ?_
    refine go (fun tg kg => XS.iload X60.here hx rfl (hb hby at_355) rfl kg) ?_
    refine go (fun tg kg => XS.iload X60.here hx rfl (hb hby at_357) rfl kg) ?_
    show G (T60.setTop (mkF m 359 #[iv x0, iv x1, iv x2, iv x3, iv x4, iv 1, rv b1, iv 0, iv 1, iv 1, iv 0, iv 1, dv (x0.toInt64), .second, dv (x1.toInt64), .second, dv (x2.toInt64), .second, iv 0, iv 2, iv 2] [(.int 2), (.int 2)]))
    refine go (fun tg kg => XS.icmpNo X60.here hx rfl (hb hby at_359) rfl (teq (by decide)).2 kg) ?_
    refine go (fun tg kg => XS.iconst X60.here hx rfl (hb hby at_362) kg) ?_
    refine go (fun tg kg => XS.goto X60.here hx rfl (pc0 := 363) (pc' := 367) rfl (hb hby at_363) (by decide) (by decide) kg) ?_
    refine fin (some (.int 1)) X60 (fun h => absurd h (by decide)) (fun fs hr => retN X60 hx (t := .boolean) hret (by simp) (hb hby at_367) hr) (by decide) (by decide) ?_
    exact ⟨rfl, N60⟩
  · skip
    refine go (fun tg kg => XS.iload X8.here hx rfl (hb hby at_77) rfl kg) ?_
    refine go (fun tg kg => XS.ifNo X8.here hx rfl (hb hby at_79) rfl ((if0 _ _).trans (feq (by decide)).1) kg) ?_
    show G (T8.setTop (mkF m 82 #[iv x0, iv x1, iv x2, iv x3, iv x4, iv 2, rv b1, iv 0, iv 1, iv 1, iv 2, iv 2, .unset, .unset, .unset, .unset, .unset, .unset, .unset, .unset, .unset] []))
    refine go (fun tg kg => XS.iload X8.here hx rfl (hb hby at_82) rfl kg) ?_
    refine go (fun tg kg => XS.iconst X8.here hx rfl (hb hby at_84) kg) ?_
    refine go (fun tg kg => XS.isub X8.here hx rfl (hb hby at_85) rfl kg) ?_
    refine go (fun tg kg => XS.istore X8.here hx rfl (hb hby at_86) rfl (l' := #[iv x0, iv x1, iv x2, iv x3, iv x4, iv 2, rv b1, iv 0, iv 1, iv 1, iv 2, iv 2, iv 1, .unset, .unset, .unset, .unset, .unset, .unset, .unset, .unset]) rfl kg) ?_
    refine go (fun tg kg => XS.aload X8.here hx rfl (hb hby at_88) rfl rfl kg) ?_
    refine go (fun tg kg => XS.iload X8.here hx rfl (hb hby at_90) rfl kg) ?_
    show G (T8.setTop (mkF m 92 #[iv x0, iv x1, iv x2, iv x3, iv x4, iv 2, rv b1, iv 0, iv 1, iv 1, iv 2, iv 2, iv 1, .unset, .unset, .unset, .unset, .unset, .unset, .unset, .unset] [(.int 1), (.ref b1)]))
    refine go (fun tg kg => XS.bipush X8.here hx rfl (hb hby at_92) kg) ?_
    refine go (fun tg kg => XS.dconst1 X8.here hx rfl (hb hby at_94) own_d1 kg) ?_
    have Fa62 := ((Gf2_17.keep K3).keep K8)
    have nn63 : b1 ≠ b2_4 := (Nat.ne_of_lt (Nat.lt_of_lt_of_le F1_openFirms.lt sz_b2_4))
    have Fa64 := ((Gf2_21.keep K3 (ninS (Ne.symm nn63) (ninS (Ne.symm ne_b2_2_b2_4) (ninS (Ne.symm ne_b2_3_b2_4) (ninS (Ne.symm ne_b2_1_b2_4) nin0))))).keep K8 (ninS (Ne.symm nn63) (ninS (Ne.symm ne_b2_2_b2_4) (ninS (Ne.symm ne_b2_3_b2_4) (ninS (Ne.symm ne_b2_1_b2_4) nin0)))))
    have nn65 : b1 ≠ b2_7 := (Nat.ne_of_lt (Nat.lt_of_lt_of_le F1_openFirms.lt sz_b2_7))
    have Fa66 := ((Gf2_26.keep K3 (ninS (Ne.symm nn65) (ninS (Ne.symm ne_b2_2_b2_7) (ninS (Ne.symm ne_b2_3_b2_7) (ninS (Ne.symm ne_b2_1_b2_7) nin0))))).keep K8 (ninS (Ne.symm nn65) (ninS (Ne.symm ne_b2_2_b2_7) (ninS (Ne.symm ne_b2_3_b2_7) (ninS (Ne.symm ne_b2_1_b2_7) nin0)))))
    have Fa67 := ((Gf2_20.keep K3 (ninS (Ne.symm nn63) (ninS (Ne.symm ne_b2_2_b2_4) (ninS (Ne.symm ne_b2_3_b2_4) (ninS (Ne.symm ne_b2_1_b2_4) nin0))))).keep K8 (ninS (Ne.symm nn63) (ninS (Ne.symm ne_b2_2_b2_4) (ninS (Ne.symm ne_b2_3_b2_4) (ninS (Ne.symm ne_b2_1_b2_4) nin0)))))
    have Fa68 := ((Gf2_19.keep K3 (ninS (Ne.symm nn63) (ninS (Ne.symm ne_b2_2_b2_4) (ninS (Ne.symm ne_b2_3_b2_4) (ninS (Ne.symm ne_b2_1_b2_4) nin0))))).keep K8 (ninS (Ne.symm nn63) (ninS (Ne.symm ne_b2_2_b2_4) (ninS (Ne.symm ne_b2_3_b2_4) (ninS (Ne.symm ne_b2_1_b2_4) nin0)))))
    have nn69 : b1 ≠ b2_6 := (Nat.ne_of_lt (Nat.lt_of_lt_of_le F1_openFirms.lt sz_b2_6))
    have Fa70 := ((Gf2_25.keep K3 (ninS (Ne.symm nn69) (ninS (Ne.symm ne_b2_2_b2_6) (ninS (Ne.symm ne_b2_3_b2_6) (ninS (Ne.symm ne_b2_1_b2_6) nin0))))).keep K8 (ninS (Ne.symm nn69) (ninS (Ne.symm ne_b2_2_b2_6) (ninS (Ne.symm ne_b2_3_b2_6) (ninS (Ne.symm ne_b2_1_b2_6) nin0)))))
    have Fa71 := ((Gf2_23.keep K3 (ninS (Ne.symm nn63) (ninS (Ne.symm ne_b2_2_b2_4) (ninS (Ne.symm ne_b2_3_b2_4) (ninS (Ne.symm ne_b2_1_b2_4) nin0))))).keep K8 (ninS (Ne.symm nn63) (ninS (Ne.symm ne_b2_2_b2_4) (ninS (Ne.symm ne_b2_3_b2_4) (ninS (Ne.symm ne_b2_1_b2_4) nin0)))))
    have Fa72 := ((Gf2_18.keep K3 (ninS (Ne.symm nn63) (ninS (Ne.symm ne_b2_2_b2_4) (ninS (Ne.symm ne_b2_3_b2_4) (ninS (Ne.symm ne_b2_1_b2_4) nin0))))).keep K8 (ninS (Ne.symm nn63) (ninS (Ne.symm ne_b2_2_b2_4) (ninS (Ne.symm ne_b2_3_b2_4) (ninS (Ne.symm ne_b2_1_b2_4) nin0)))))
    have Fa73 := ((Gf2_22.keep K3 (ninS (Ne.symm nn63) (ninS (Ne.symm ne_b2_2_b2_4) (ninS (Ne.symm ne_b2_3_b2_4) (ninS (Ne.symm ne_b2_1_b2_4) nin0))))).keep K8 (ninS (Ne.symm nn63) (ninS (Ne.symm ne_b2_2_b2_4) (ninS (Ne.symm ne_b2_3_b2_4) (ninS (Ne.symm ne_b2_1_b2_4) nin0)))))
    have nn74 : b1 ≠ b2_9 := (Nat.ne_of_lt (Nat.lt_of_lt_of_le F1_openFirms.lt sz_b2_9))
    have Fa75 := ((Gf2_28.keep K3 (ninS (Ne.symm nn74) (ninS (Ne.symm ne_b2_2_b2_9) (ninS (Ne.symm ne_b2_3_b2_9) (ninS (Ne.symm ne_b2_1_b2_9) nin0))))).keep K8 (ninS (Ne.symm nn74) (ninS (Ne.symm ne_b2_2_b2_9) (ninS (Ne.symm ne_b2_3_b2_9) (ninS (Ne.symm ne_b2_1_b2_9) nin0)))))
    have Fa76 := (Fa9.keep K8 (ninS (Ne.symm nn6) (ninS ne_b2_0_b2_2 (ninS ne_b2_0_b2_3 (ninS ne_b2_0_b2_1 nin0)))))
    obtain ⟨cq61, kq61, q61a, q61b, q61c⟩ := isOf hZ rfl Gf8_2
    obtain ⟨_, _, ⟨T61, L61, k61, n61⟩, -, X61, ⟨Lc61, hQ61, l61, y61, z61⟩, st61⟩ := X8.virtualBack hx (y := y14) (z := y14) hown (mvT hZ (own_w hw 108 rfl)) (mvT hZ (own_w hw 109 rfl)) (notFace_of_selects (args := #[]) (mvT hZ (own_w hw 111 rfl))) (mvT hZ (own_w hw 111 rfl)) (mvT hZ (own_w hw 110 rfl)) (by decide) (backOf (W := 0) (rm14_1 l Z a0 hw [] b1 b2_4 b2_7 k2_5 b2_6 k2_4 b2_5 b2_8 b2_9 k2_7 b2_0 k2_0 b2_1 k2_1 T8.heap n0 Z8 Gf8_11 Fa62 Fa64 Fa66 Fa67 Fa68 Fa70 Fa71 Fa72 Fa73 Gf8_2 Gf8_12 Fa75 Gf8_8 Fa76 Gf8_9 Gf8_14 ne_b2_4_b2_7 ne_b2_6_b2_7 ne_b2_4_b2_6 nn63 nn69 nn65 (Ne.symm ne_b2_4_b2_9) (Ne.symm ne_b2_6_b2_9) (Ne.symm ne_b2_7_b2_9) ne_b2_0_b2_4 ne_b2_0_b2_6 ne_b2_0_b2_7 ne_b2_1_b2_4 ne_b2_1_b2_6 ne_b2_1_b2_7 nn74 ne_b2_0_b2_9 ne_b2_1_b2_9 ge_b2_7 ge_b2_6 ge_b2_4 ge_b2_9 ge_b2_1) hZ (own_w hw 112 rfl) (own_w hw 3 rfl) (by decide) (by decide)) q61a q61c (g := (mkF m 95 #[iv x0, iv x1, iv x2, iv x3, iv x4, iv 2, rv b1, iv 0, iv 1, iv 1, iv 2, iv 2, iv 1, .unset, .unset, .unset, .unset, .unset, .unset, .unset, .unset] [(dl 1), (.int 7), (.int 1), (.ref b1)])) rfl (by rw [hml]; rfl) (Steps.refl _) (argsL := [(.int 1), (.int 7), (dl 1)]) (rest := []) (lenOf pd__IID_V rfl) rfl (by show 2 * 0 + _ ≤ _; exact Nat.le_of_eq rfl) (hb hby at_95) (fun _ _ => ⟨rfl, rfl, (by decide : 12 + 0 ≤ _), (by decide : 102 + 0 ≤ _)⟩)
    dsimp only [Pt.U, Pt.locs, Pt.cells, Pt.slots] at X61 l61 y61 z61 st61 hQ61
    subst l61 y61 z61
    obtain ⟨rfl, Nq61, K61, Gf61_0, Gf61_1, Gf61_2, Gf61_3, Gf61_4, Gf61_5, Gf61_6, Gf61_7, Gf61_8, Gf61_9, Gf61_10, Gf61_11⟩ := hQ61
    have Z61 := Nat.le_trans Z8 K61.1
    have N61 := Fr.app N8 Nq61
    refine go (fun tg kg => st61.trans kg) ?_
    refine go (fun tg kg => XS.aload X61.here hx rfl (hb hby at_98) rfl rfl kg) ?_
    refine go (fun tg kg => XS.iload X61.here hx rfl (hb hby at_100) rfl kg) ?_
    refine go (fun tg kg => XS.bipush X61.here hx rfl (hb hby at_102) kg) ?_
    show G (T61.setTop (mkF m 104 #[iv x0, iv x1, iv x2, iv x3, iv x4, iv 2, rv b1, iv 0, iv 1, iv 1, iv 2, iv 2, iv 1, .unset, .unset, .unset, .unset, .unset, .unset, .unset, .unset] [(.int 7), (.int 1), (.ref b1)]))
    refine go (fun tg kg => XS.dconst1 X61.here hx rfl (hb hby at_104) own_d1 kg) ?_
    have Fa77 := (Gf8_2.keep K61)
    have Fa78 := (Gf8_4.keep K61 (ninS nn65 (ninS nn69 (ninS nn63 (ninS nn74 (ninS nn7 nin0))))))
    have Fa79 := (Gf8_3.keep K61 (ninS nn65 (ninS nn69 (ninS nn63 (ninS nn74 (ninS nn7 nin0))))))
    have Fa80 := (Gf8_13.keep K61 (ninS nn65 (ninS nn69 (ninS nn63 (ninS nn74 (ninS nn7 nin0))))))
    have Fa81 := (Gf8_1.keep K61 (ninS nn65 (ninS nn69 (ninS nn63 (ninS nn74 (ninS nn7 nin0))))))
    have Fa83 := (Gf8_11.keep K61 (ninS nn65 (ninS nn69 (ninS nn63 (ninS nn74 (ninS nn7 nin0))))))
    have Fa84 := (Gf8_12.keep K61 (ninS nn65 (ninS nn69 (ninS nn63 (ninS nn74 (ninS nn7 nin0))))))
    have Fa85 := (Gf8_8.keep K61 (ninS nn65 (ninS nn69 (ninS nn63 (ninS nn74 (ninS nn7 nin0))))))
    have Fa86 := (Fa76.keep K61 (ninS ne_b2_0_b2_7 (ninS ne_b2_0_b2_6 (ninS ne_b2_0_b2_4 (ninS ne_b2_0_b2_9 (ninS ne_b2_0_b2_1 nin0))))))
    have Fa87 := (Gf8_6.keep K61 (ninS nn65 (ninS nn69 (ninS nn63 (ninS nn74 (ninS nn7 nin0))))))
    have Fa88 := (Gf8_0.keep K61 (ninS nn65 (ninS nn69 (ninS nn63 (ninS nn74 (ninS nn7 nin0))))))
    have Fa89 := (Gf8_7.keep K61 (ninS ne_b2_3_b2_7 (ninS ne_b2_3_b2_6 (ninS ne_b2_3_b2_4 (ninS ne_b2_3_b2_9 (ninS (Ne.symm ne_b2_1_b2_3) nin0))))))
    have Fa90 := (Gf8_10.keep K61 (ninS nn65 (ninS nn69 (ninS nn63 (ninS nn74 (ninS nn7 nin0))))))
    obtain ⟨cq82, kq82, q82a, q82b, q82c⟩ := isOf hZ rfl Fa77
    obtain ⟨_, _, ⟨T82, L82, k82, n82⟩, -, X82, ⟨Lc82, hQ82, l82, y82, z82⟩, st82⟩ := X61.virtualBack hx (y := y22) (z := y22) hown (mvT hZ (own_w hw 145 rfl)) (mvT hZ (own_w hw 146 rfl)) (notFace_of_selects (args := #[]) (mvT hZ (own_w hw 148 rfl))) (mvT hZ (own_w hw 148 rfl)) (mvT hZ (own_w hw 147 rfl)) (by decide) (backOf (W := 0) (rm22_1 l Z a0 hw [] b1 b2_4 b2_7 k2_5 b2_6 k2_4 b2_5 b2_8 b2_9 k2_7 b2_0 k2_0 b2_1 k2_1 b2_3 k2_3 b2_2 b2_10 T61.heap n0 Z61 Fa83 Gf61_0 Gf61_1 Gf61_2 Gf61_3 Gf61_4 Gf61_5 Gf61_6 Gf61_7 Gf61_8 Fa77 Fa84 Gf61_9 Fa85 Fa86 Gf61_10 Gf61_11 Fa87 Fa88 Fa89 Fa90 Fa78 Fa79 Fa80 Fa81 ne_b2_4_b2_7 ne_b2_6_b2_7 ne_b2_4_b2_6 nn63 nn69 nn65 (Ne.symm ne_b2_4_b2_9) (Ne.symm ne_b2_6_b2_9) (Ne.symm ne_b2_7_b2_9) ne_b2_0_b2_4 ne_b2_0_b2_6 ne_b2_0_b2_7 ne_b2_1_b2_4 ne_b2_1_b2_6 ne_b2_1_b2_7 nn74 ne_b2_0_b2_9 ne_b2_1_b2_9 nn7 ne_b2_3_b2_4 ne_b2_3_b2_6 ne_b2_3_b2_7 (Ne.symm ne_b2_1_b2_3) ne_b2_3_b2_9 nn5 ge_b2_7 ge_b2_6 ge_b2_4 ge_b2_9 ge_b2_1 ge_b2_3 ge_b1) hZ (own_w hw 149 rfl) (own_w hw 3 rfl) (by decide) (by decide)) q82a q82c (g := (mkF m 105 #[iv x0, iv x1, iv x2, iv x3, iv x4, iv 2, rv b1, iv 0, iv 1, iv 1, iv 2, iv 2, iv 1, .unset, .unset, .unset, .unset, .unset, .unset, .unset, .unset] [(dl 1), (.int 7), (.int 1), (.ref b1)])) rfl (by rw [hml]; rfl) (Steps.refl _) (argsL := [(.int 1), (.int 7), (dl 1)]) (rest := []) (lenOf pd__IID_Z rfl) rfl (by show 2 * 0 + _ ≤ _; exact Nat.le_of_eq rfl) (hb hby at_105) (fun _ _ => ⟨rfl, rfl, (by decide : 12 + 0 ≤ _), (by decide : 102 + 0 ≤ _)⟩)
    dsimp only [Pt.U, Pt.locs, Pt.cells, Pt.slots] at X82 l82 y82 z82 st82 hQ82
    subst l82 y82 z82
    obtain ⟨rfl, Nq82, K82, Gf82_0, Gf82_1, Gf82_2, Gf82_3, Gf82_4, Gf82_5, Gf82_6, Gf82_7, Gf82_8, Gf82_9, Gf82_10, Gf82_11, Gf82_12, Gf82_13, Gf82_14, Gf82_15, Gf82_16, Gf82_17, Gf82_18, Gf82_19, Gf82_20, Gf82_21, Gf82_22, Gf82_23⟩ := hQ82
    have Z82 := Nat.le_trans Z61 K82.1
    have N82 := Fr.app N61 Nq82
    refine go (fun tg kg => st82.trans kg) ?_
    refine go (fun tg kg => XS.istore X82.here hx rfl (hb hby at_108) rfl (l' := #[iv x0, iv x1, iv x2, iv x3, iv x4, iv 2, rv b1, iv 0, iv 1, iv 1, iv 2, iv 2, iv 1, iv 1, .unset, .unset, .unset, .unset, .unset, .unset, .unset]) rfl kg) ?_
    refine go (fun tg kg => XS.iload X82.here hx rfl (hb hby at_110) rfl kg) ?_
    refine go (fun tg kg => XS.ifNo X82.here hx rfl (hb hby at_112) rfl ((if0 _ _).trans (feq (by decide)).1) kg) ?_
    refine go (fun tg kg => XS.iload X82.here hx rfl (hb hby at_115) rfl kg) ?_
    show G (T82.setTop (mkF m 117 #[iv x0, iv x1, iv x2, iv x3, iv x4, iv 2, rv b1, iv 0, iv 1, iv 1, iv 2, iv 2, iv 1, iv 1, .unset, .unset, .unset, .unset, .unset, .unset, .unset] [(.int 1)]))
    refine go (fun tg kg => XS.ifNo X82.here hx rfl (hb hby at_117) rfl ((if0 _ _).trans (feq (by decide)).1) kg) ?_
    refine go (fun tg kg => XS.iconst X82.here hx rfl (hb hby at_120) kg) ?_
    refine go (fun tg kg => XS.goto X82.here hx rfl (pc0 := 121) (pc' := 125) rfl (hb hby at_121) (by decide) (by decide) kg) ?_
    refine go (fun tg kg => XS.istore X82.here hx rfl (hb hby at_125) rfl (l' := #[iv x0, iv x1, iv x2, iv x3, iv x4, iv 2, rv b1, iv 0, iv 1, iv 1, iv 2, iv 2, iv 1, iv 1, .unset, .unset, .unset, .unset, .unset, .unset, .unset]) rfl kg) ?_
    refine go (fun tg kg => XS.iload X82.here hx rfl (hb hby at_127) rfl kg) ?_
    refine go (fun tg kg => XS.istore X82.here hx rfl (hb hby at_129) rfl (l' := #[iv x0, iv x1, iv x2, iv x3, iv x4, iv 2, rv b1, iv 0, iv 1, iv 1, iv 1, iv 2, iv 1, iv 1, .unset, .unset, .unset, .unset, .unset, .unset, .unset]) rfl kg) ?_
    show G (T82.setTop (mkF m 131 #[iv x0, iv x1, iv x2, iv x3, iv x4, iv 2, rv b1, iv 0, iv 1, iv 1, iv 1, iv 2, iv 1, iv 1, .unset, .unset, .unset, .unset, .unset, .unset, .unset] []))
    refine go (fun tg kg => XS.iconst X82.here hx rfl (hb hby at_131) kg) ?_
    refine go (fun tg kg => XS.istore X82.here hx rfl (hb hby at_132) rfl (l' := #[iv x0, iv x1, iv x2, iv x3, iv x4, iv 2, rv b1, iv 0, iv 1, iv 1, iv 1, iv 1, iv 1, iv 1, .unset, .unset, .unset, .unset, .unset, .unset, .unset]) rfl kg) ?_
    refine go (fun tg kg => XS.iloadN X82.here hx rfl (hb hby at_134) rfl kg) ?_
    refine go (fun tg kg => XS.i2dS X82.here hx rfl (hb hby at_135) rfl (i2d_w _) kg) ?_
    refine go (fun tg kg => XS.dstore X82.here hx rfl (hb hby at_136) rfl (l' := #[iv x0, iv x1, iv x2, iv x3, iv x4, iv 2, rv b1, iv 0, iv 1, iv 1, iv 1, iv 1, dv (x0.toInt64), .second, .unset, .unset, .unset, .unset, .unset, .unset, .unset]) rfl kg) ?_
    refine go (fun tg kg => XS.iloadN X82.here hx rfl (hb hby at_138) rfl kg) ?_
    show G (T82.setTop (mkF m 139 #[iv x0, iv x1, iv x2, iv x3, iv x4, iv 2, rv b1, iv 0, iv 1, iv 1, iv 1, iv 1, dv (x0.toInt64), .second, .unset, .unset, .unset, .unset, .unset, .unset, .unset] [(.int x1)]))
    refine go (fun tg kg => XS.i2dS X82.here hx rfl (hb hby at_139) rfl (i2d_w _) kg) ?_
    refine go (fun tg kg => XS.dstore X82.here hx rfl (hb hby at_140) rfl (l' := #[iv x0, iv x1, iv x2, iv x3, iv x4, iv 2, rv b1, iv 0, iv 1, iv 1, iv 1, iv 1, dv (x0.toInt64), .second, dv (x1.toInt64), .second, .unset, .unset, .unset, .unset, .unset]) rfl kg) ?_
    refine go (fun tg kg => XS.iloadN X82.here hx rfl (hb hby at_142) rfl kg) ?_
    refine go (fun tg kg => XS.i2dS X82.here hx rfl (hb hby at_143) rfl (i2d_w _) kg) ?_
    refine go (fun tg kg => XS.dstore X82.here hx rfl (hb hby at_144) rfl (l' := #[iv x0, iv x1, iv x2, iv x3, iv x4, iv 2, rv b1, iv 0, iv 1, iv 1, iv 1, iv 1, dv (x0.toInt64), .second, dv (x1.toInt64), .second, dv (x2.toInt64), .second, .unset, .unset, .unset]) rfl kg) ?_
    refine go (fun tg kg => XS.aload X82.here hx rfl (hb hby at_146) rfl rfl kg) ?_
    show G (T82.setTop (mkF m 148 #[iv x0, iv x1, iv x2, iv x3, iv x4, iv 2, rv b1, iv 0, iv 1, iv 1, iv 1, iv 1, dv (x0.toInt64), .second, dv (x1.toInt64), .second, dv (x2.toInt64), .second, .unset, .unset, .unset] [(.ref b1)]))
    refine go (fun tg kg => XS.dload X82.here hx rfl (hb hby at_148) rfl kg) ?_
    refine go (fun tg kg => XS.dload X82.here hx rfl (hb hby at_150) rfl kg) ?_
    refine go (fun tg kg => XS.dload X82.here hx rfl (hb hby at_152) rfl kg) ?_
    refine go (fun tg kg => XS.iloadN X82.here hx rfl (hb hby at_154) rfl kg) ?_
    have Fa92 := ((Gf8_5.keep K61 (ninS ne_b2_2_b2_7 (ninS ne_b2_2_b2_6 (ninS ne_b2_2_b2_4 (ninS ne_b2_2_b2_9 (ninS (Ne.symm ne_b2_1_b2_2) nin0)))))).keep K82 (ninS ne_b2_2_b2_7 (ninS ne_b2_2_b2_6 (ninS ne_b2_2_b2_4 (ninS ne_b2_2_b2_9 (ninS (Ne.symm ne_b2_1_b2_2) (ninS ne_b2_2_b2_3 (ninS (Ne.symm nn4) nin0))))))))
    have Fa93 := (Fa86.keep K82 (ninS ne_b2_0_b2_7 (ninS ne_b2_0_b2_6 (ninS ne_b2_0_b2_4 (ninS ne_b2_0_b2_9 (ninS ne_b2_0_b2_1 (ninS ne_b2_0_b2_3 (ninS (Ne.symm nn6) nin0))))))))
    obtain ⟨cq91, kq91, q91a, q91b, q91c⟩ := isOf hZ rfl Gf82_10
    obtain ⟨_, _, ⟨T91, L91, k91, n91⟩, -, X91, ⟨Lc91, hQ91, l91, y91, z91⟩, st91⟩ := X82.virtualBack hx (y := y7) (z := y7) hown (mvT hZ (own_w hw 64 rfl)) (mvT hZ (own_w hw 65 rfl)) (notFace_of_selects (args := #[]) (mvT hZ (own_w hw 67 rfl))) (mvT hZ (own_w hw 67 rfl)) (mvT hZ (own_w hw 66 rfl)) (by decide) (backOf (W := 0) (rm7_6 l Z a0 hw [] b1 x0 x1 x2 x3 b2_3 k2_3 b2_2 k2_2 b2_0 k2_0 b2_1 k2_1 b2_4 b2_9 b2_10 T82.heap n0 Z82 Gf82_17 Gf82_16 Gf82_18 Gf82_10 Gf82_21 Gf82_20 Fa92 Gf82_13 Fa93 Gf82_14 Gf82_19 Gf82_0 Gf82_11 Gf82_22 Gf82_23 Gf82_15 (Ne.symm nn4) (Ne.symm nn5) (Ne.symm ne_b2_2_b2_3) (Ne.symm nn6) ne_b2_0_b2_2 ne_b2_0_b2_3 (Ne.symm nn7) ne_b2_1_b2_2 ne_b2_1_b2_3 ge_b1 ge_b2_2 ge_b2_3 ge_b2_1) hZ (own_w hw 68 rfl) (own_w hw 3 rfl) (by decide) (by decide)) q91a q91c (g := (mkF m 155 #[iv x0, iv x1, iv x2, iv x3, iv x4, iv 2, rv b1, iv 0, iv 1, iv 1, iv 1, iv 1, dv (x0.toInt64), .second, dv (x1.toInt64), .second, dv (x2.toInt64), .second, .unset, .unset, .unset] [(.int x3), (dl (x2.toInt64)), (dl (x1.toInt64)), (dl (x0.toInt64)), (.ref b1)])) rfl (by rw [hml]; rfl) (Steps.refl _) (argsL := [(dl (x0.toInt64)), (dl (x1.toInt64)), (dl (x2.toInt64)), (.int x3)]) (rest := []) (lenOf pd__DDDI_I rfl) rfl (by show 2 * 0 + _ ≤ _; exact Nat.le_of_eq rfl) (hb hby at_155) (fun _ _ => ⟨rfl, rfl, (by decide : 12 + 0 ≤ _), (by decide : 102 + 0 ≤ _)⟩)
    dsimp only [Pt.U, Pt.locs, Pt.cells, Pt.slots] at X91 l91 y91 z91 st91 hQ91
    subst l91 y91 z91
    obtain ⟨rfl, Nq91, K91, Gf91_0, Gf91_1, Gf91_2, Gf91_3, Gf91_4, Gf91_5, Gf91_6, Gf91_7, Gf91_8, Gf91_9, Gf91_10, Gf91_11, Gf91_12, Gf91_13, Gf91_14⟩ := hQ91
    have Z91 := Nat.le_trans Z82 K91.1
    have N91 := Fr.app N82 Nq91
    refine go (fun tg kg => st91.trans kg) ?_
    refine go (fun tg kg => XS.istore X91.here hx rfl (hb hby at_158) rfl (l' := #[iv x0, iv x1, iv x2, iv x3, iv x4, iv 2, rv b1, iv 0, iv 1, iv 1, iv 1, iv 1, dv (x0.toInt64), .second, dv (x1.toInt64), .second, dv (x2.toInt64), .second, iv 1, .unset, .unset]) rfl kg) ?_
    show G (T91.setTop (mkF m 160 #[iv x0, iv x1, iv x2, iv x3, iv x4, iv 2, rv b1, iv 0, iv 1, iv 1, iv 1, iv 1, dv (x0.toInt64), .second, dv (x1.toInt64), .second, dv (x2.toInt64), .second, iv 1, .unset, .unset] []))
    refine go (fun tg kg => XS.iload X91.here hx rfl (hb hby at_160) rfl kg) ?_
    refine go (fun tg kg => XS.ifNo X91.here hx rfl (hb hby at_162) rfl ((if0 _ _).trans (feq (by decide)).1) kg) ?_
    refine go (fun tg kg => XS.iload X91.here hx rfl (hb hby at_165) rfl kg) ?_
    refine go (fun tg kg => XS.iload X91.here hx rfl (hb hby at_167) rfl kg) ?_
    refine go (fun tg kg => XS.icmpNo X91.here hx rfl (hb hby at_169) rfl (teq (by decide)).2 kg) ?_
    refine go (fun tg kg => XS.iconst X91.here hx rfl (hb hby at_172) kg) ?_
    show G (T91.setTop (mkF m 173 #[iv x0, iv x1, iv x2, iv x3, iv x4, iv 2, rv b1, iv 0, iv 1, iv 1, iv 1, iv 1, dv (x0.toInt64), .second, dv (x1.toInt64), .second, dv (x2.toInt64), .second, iv 1, .unset, .unset] [(.int 1)]))
    refine go (fun tg kg => XS.goto X91.here hx rfl (pc0 := 173) (pc' := 177) rfl (hb hby at_173) (by decide) (by decide) kg) ?_
    refine go (fun tg kg => XS.istore X91.here hx rfl (hb hby at_177) rfl (l' := #[iv x0, iv x1, iv x2, iv x3, iv x4, iv 2, rv b1, iv 0, iv 1, iv 1, iv 1, iv 1, dv (x0.toInt64), .second, dv (x1.toInt64), .second, dv (x2.toInt64), .second, iv 1, .unset, .unset]) rfl kg) ?_
    refine go (fun tg kg => XS.iload X91.here hx rfl (hb hby at_179) rfl kg) ?_
    refine go (fun tg kg => XS.ifNo X91.here hx rfl (hb hby at_181) rfl ((if0 _ _).trans (feq (by decide)).1) kg) ?_
    refine go (fun tg kg => XS.aload X91.here hx rfl (hb hby at_184) rfl rfl kg) ?_
    refine go (fun tg kg => XS.iload X91.here hx rfl (hb hby at_186) rfl kg) ?_
    show G (T91.setTop (mkF m 188 #[iv x0, iv x1, iv x2, iv x3, iv x4, iv 2, rv b1, iv 0, iv 1, iv 1, iv 1, iv 1, dv (x0.toInt64), .second, dv (x1.toInt64), .second, dv (x2.toInt64), .second, iv 1, .unset, .unset] [(.int 1), (.ref b1)]))
    obtain ⟨cq94, kq94, q94a, q94b, q94c⟩ := isOf hZ rfl Gf91_3
    obtain ⟨_, _, ⟨T94, L94, k94, n94⟩, -, X94, ⟨Lc94, hQ94, l94, y94, z94⟩, st94⟩ := X91.virtualBack hx (y := y8) (z := y8) hown (mvT hZ (own_w hw 77 rfl)) (mvT hZ (own_w hw 78 rfl)) (notFace_of_selects (args := #[]) (mvT hZ (own_w hw 80 rfl))) (mvT hZ (own_w hw 80 rfl)) (mvT hZ (own_w hw 79 rfl)) (by decide) (backOf (W := 0) (rm8_2 l Z a0 hw [] b1 b2_2 k2_2 T91.heap n0 Z91 Gf91_4 Gf91_6) hZ (own_w hw 81 rfl) (own_w hw 3 rfl) (by decide) (by decide)) q94a q94c (g := (mkF m 188 #[iv x0, iv x1, iv x2, iv x3, iv x4, iv 2, rv b1, iv 0, iv 1, iv 1, iv 1, iv 1, dv (x0.toInt64), .second, dv (x1.toInt64), .second, dv (x2.toInt64), .second, iv 1, .unset, .unset] [(.int 1), (.ref b1)])) rfl (by rw [hml]; rfl) (Steps.refl _) (argsL := [(.int 1)]) (rest := []) (lenOf pd__I_J rfl) rfl (by show 2 * 0 + _ ≤ _; exact Nat.le_of_eq rfl) (hb hby at_188) (fun _ _ => ⟨rfl, rfl, (by decide : 12 + 0 ≤ _), (by decide : 102 + 0 ≤ _)⟩)
    dsimp only [Pt.U, Pt.locs, Pt.cells, Pt.slots] at X94 l94 y94 z94 st94 hQ94
    subst l94 y94 z94
    obtain ⟨rfl, Nq94, e94⟩ := hQ94
    have N94 := Fr.app N91 Nq94
    refine go (fun tg kg => st94.trans kg) ?_
    refine go (fun tg kg => X94.ldc2Long hx hown (mvT hZ (own_w hw 82 rfl)) (g := (mkF m 191 #[iv x0, iv x1, iv x2, iv x3, iv x4, iv 2, rv b1, iv 0, iv 1, iv 1, iv 1, iv 1, dv (x0.toInt64), .second, dv (x1.toInt64), .second, dv (x2.toInt64), .second, iv 1, .unset, .unset] [(.long 3)])) rfl (hb hby at_191) _ kg) ?_
    refine go (fun tg kg => XS.lcmp X94.here hx rfl (hb hby at_194) rfl kg) ?_
    refine go (fun tg kg => XS.ifNo X94.here hx rfl (hb hby at_195) rfl ((if0 _ _).trans (teq ((lw_eq (3 : Int64) (3 : Int64)).mpr (by decide))).2) kg) ?_
    refine go (fun tg kg => XS.iconst X94.here hx rfl (hb hby at_198) kg) ?_
    refine go (fun tg kg => XS.goto X94.here hx rfl (pc0 := 199) (pc' := 203) rfl (hb hby at_199) (by decide) (by decide) kg) ?_
    show G (T94.setTop (mkF m 203 #[iv x0, iv x1, iv x2, iv x3, iv x4, iv 2, rv b1, iv 0, iv 1, iv 1, iv 1, iv 1, dv (x0.toInt64), .second, dv (x1.toInt64), .second, dv (x2.toInt64), .second, iv 1, .unset, .unset] [(.int 1)]))
    refine go (fun tg kg => XS.istore X94.here hx rfl (hb hby at_203) rfl (l' := #[iv x0, iv x1, iv x2, iv x3, iv x4, iv 2, rv b1, iv 0, iv 1, iv 1, iv 1, iv 1, dv (x0.toInt64), .second, dv (x1.toInt64), .second, dv (x2.toInt64), .second, iv 1, .unset, .unset]) rfl kg) ?_
    refine go (fun tg kg => XS.iload X94.here hx rfl (hb hby at_205) rfl kg) ?_
    refine go (fun tg kg => XS.ifNo X94.here hx rfl (hb hby at_207) rfl ((if0 _ _).trans (feq (by decide)).1) kg) ?_
    refine go (fun tg kg => XS.aload X94.here hx rfl (hb hby at_210) rfl rfl kg) ?_
    refine go (fun tg kg => XS.iload X94.here hx rfl (hb hby at_212) rfl kg) ?_
    obtain ⟨cq95, kq95, q95a, q95b, q95c⟩ := isOf hZ e94 Gf91_3
    obtain ⟨_, _, ⟨T95, L95, k95, n95⟩, -, X95, ⟨Lc95, hQ95, l95, y95, z95⟩, st95⟩ := X94.virtualBack hx (y := y9) (z := y9) hown (mvT hZ (own_w hw 83 rfl)) (mvT hZ (own_w hw 84 rfl)) (notFace_of_selects (args := #[]) (mvT hZ (own_w hw 86 rfl))) (mvT hZ (own_w hw 86 rfl)) (mvT hZ (own_w hw 85 rfl)) (by decide) (backOf (W := 0) (rm9_2 l Z a0 hw [] b1 b2_3 k2_3 x3 T91.heap n0 Z91 Gf91_1 Gf91_2) hZ (own_w hw 87 rfl) (own_w hw 3 rfl) (by decide) (by decide)) q95a q95c (g := (mkF m 214 #[iv x0, iv x1, iv x2, iv x3, iv x4, iv 2, rv b1, iv 0, iv 1, iv 1, iv 1, iv 1, dv (x0.toInt64), .second, dv (x1.toInt64), .second, dv (x2.toInt64), .second, iv 1, .unset, .unset] [(.int 1), (.ref b1)])) rfl (by rw [hml]; rfl) (Steps.refl _) (argsL := [(.int 1)]) (rest := []) (lenOf pd__I_I rfl) rfl (by show 2 * 0 + _ ≤ _; exact Nat.le_of_eq rfl) (hb hby at_214) (fun _ _ => ⟨rfl, e94, (by decide : 12 + 0 ≤ _), (by decide : 102 + 0 ≤ _)⟩)
    dsimp only [Pt.U, Pt.locs, Pt.cells, Pt.slots] at X95 l95 y95 z95 st95 hQ95
    subst l95 y95 z95
    obtain ⟨rfl, Nq95, e95⟩ := hQ95
    have N95 := Fr.app N94 Nq95
    refine go (fun tg kg => st95.trans kg) ?_
    show G (T95.setTop (mkF m 217 #[iv x0, iv x1, iv x2, iv x3, iv x4, iv 2, rv b1, iv 0, iv 1, iv 1, iv 1, iv 1, dv (x0.toInt64), .second, dv (x1.toInt64), .second, dv (x2.toInt64), .second, iv 1, .unset, .unset] [(.int x3)]))
    refine go (fun tg kg => XS.iloadN X95.here hx rfl (hb hby at_217) rfl kg) ?_
    refine go (fun tg kg => XS.icmpNo X95.here hx rfl (hb hby at_218) rfl (teq (rfl : x3 = x3)).2 kg) ?_
    refine go (fun tg kg => XS.iconst X95.here hx rfl (hb hby at_221) kg) ?_
    refine go (fun tg kg => XS.goto X95.here hx rfl (pc0 := 222) (pc' := 226) rfl (hb hby at_222) (by decide) (by decide) kg) ?_
    refine go (fun tg kg => XS.istore X95.here hx rfl (hb hby at_226) rfl (l' := #[iv x0, iv x1, iv x2, iv x3, iv x4, iv 2, rv b1, iv 0, iv 1, iv 1, iv 1, iv 1, dv (x0.toInt64), .second, dv (x1.toInt64), .second, dv (x2.toInt64), .second, iv 1, .unset, .unset]) rfl kg) ?_
    refine go (fun tg kg => XS.iload X95.here hx rfl (hb hby at_228) rfl kg) ?_
    show G (T95.setTop (mkF m 230 #[iv x0, iv x1, iv x2, iv x3, iv x4, iv 2, rv b1, iv 0, iv 1, iv 1, iv 1, iv 1, dv (x0.toInt64), .second, dv (x1.toInt64), .second, dv (x2.toInt64), .second, iv 1, .unset, .unset] [(.int 1)]))
    refine go (fun tg kg => XS.ifNo X95.here hx rfl (hb hby at_230) rfl ((if0 _ _).trans (feq (by decide)).1) kg) ?_
    refine go (fun tg kg => XS.aload X95.here hx rfl (hb hby at_233) rfl rfl kg) ?_
    refine go (fun tg kg => XS.iload X95.here hx rfl (hb hby at_235) rfl kg) ?_
    have Fa97 := (Fa93.keep K91 (ninS (Ne.symm nn6) (ninS ne_b2_0_b2_2 (ninS ne_b2_0_b2_3 (ninS ne_b2_0_b2_1 nin0)))))
    obtain ⟨cq96, kq96, q96a, q96b, q96c⟩ := isOf hZ e95 Gf91_3
    obtain ⟨_, _, ⟨T96, L96, k96, n96⟩, -, X96, ⟨Lc96, hQ96, l96, y96, z96⟩, st96⟩ := X95.virtualBack hx (y := y10) (z := y10) hown (mvT hZ (own_w hw 88 rfl)) (mvT hZ (own_w hw 89 rfl)) (notFace_of_selects (args := #[]) (mvT hZ (own_w hw 91 rfl))) (mvT hZ (own_w hw 91 rfl)) (mvT hZ (own_w hw 90 rfl)) (by decide) (backOf (W := 0) (rm10_2 l Z a0 hw [] b1 b2_0 k2_0 b2_1 k2_1 x0 x1 x2 T91.heap n0 Z91 Gf91_7 Fa97 Gf91_8) hZ (own_w hw 92 rfl) (own_w hw 3 rfl) (by decide) (by decide)) q96a q96c (g := (mkF m 237 #[iv x0, iv x1, iv x2, iv x3, iv x4, iv 2, rv b1, iv 0, iv 1, iv 1, iv 1, iv 1, dv (x0.toInt64), .second, dv (x1.toInt64), .second, dv (x2.toInt64), .second, iv 1, .unset, .unset] [(.int 1), (.ref b1)])) rfl (by rw [hml]; rfl) (Steps.refl _) (argsL := [(.int 1)]) (rest := []) (lenOf pd__I_D rfl) rfl (by show 2 * 0 + _ ≤ _; exact Nat.le_of_eq rfl) (hb hby at_237) (fun _ _ => ⟨rfl, e95, (by decide : 12 + 0 ≤ _), (by decide : 102 + 0 ≤ _)⟩)
    dsimp only [Pt.U, Pt.locs, Pt.cells, Pt.slots] at X96 l96 y96 z96 st96 hQ96
    subst l96 y96 z96
    obtain ⟨rfl, Nq96, e96⟩ := hQ96
    have N96 := Fr.app N95 Nq96
    refine go (fun tg kg => st96.trans kg) ?_
    refine go (fun tg kg => XS.dload X96.here hx rfl (hb hby at_240) rfl kg) ?_
    refine go (fun tg kg => XS.dcmpS X96.here hx rfl (hb hby at_242) rfl (dcmpV_self (nn_w rfl) _) kg) ?_
    show G (T96.setTop (mkF m 243 #[iv x0, iv x1, iv x2, iv x3, iv x4, iv 2, rv b1, iv 0, iv 1, iv 1, iv 1, iv 1, dv (x0.toInt64), .second, dv (x1.toInt64), .second, dv (x2.toInt64), .second, iv 1, .unset, .unset] [(.int 0)]))
    refine go (fun tg kg => XS.ifNo X96.here hx rfl (hb hby at_243) rfl ((if0 _ _).trans (teq (by decide)).2) kg) ?_
    refine go (fun tg kg => XS.iconst X96.here hx rfl (hb hby at_246) kg) ?_
    refine go (fun tg kg => XS.goto X96.here hx rfl (pc0 := 247) (pc' := 251) rfl (hb hby at_247) (by decide) (by decide) kg) ?_
    refine go (fun tg kg => XS.istore X96.here hx rfl (hb hby at_251) rfl (l' := #[iv x0, iv x1, iv x2, iv x3, iv x4, iv 2, rv b1, iv 0, iv 1, iv 1, iv 1, iv 1, dv (x0.toInt64), .second, dv (x1.toInt64), .second, dv (x2.toInt64), .second, iv 1, .unset, .unset]) rfl kg) ?_
    refine go (fun tg kg => XS.iload X96.here hx rfl (hb hby at_253) rfl kg) ?_
    refine go (fun tg kg => XS.ifNo X96.here hx rfl (hb hby at_255) rfl ((if0 _ _).trans (feq (by decide)).1) kg) ?_
    show G (T96.setTop (mkF m 258 #[iv x0, iv x1, iv x2, iv x3, iv x4, iv 2, rv b1, iv 0, iv 1, iv 1, iv 1, iv 1, dv (x0.toInt64), .second, dv (x1.toInt64), .second, dv (x2.toInt64), .second, iv 1, .unset, .unset] []))
    refine go (fun tg kg => XS.aload X96.here hx rfl (hb hby at_258) rfl rfl kg) ?_
    refine go (fun tg kg => XS.iload X96.here hx rfl (hb hby at_260) rfl kg) ?_
    obtain ⟨cq98, kq98, q98a, q98b, q98c⟩ := isOf hZ e96 Gf91_3
    obtain ⟨_, _, ⟨T98, L98, k98, n98⟩, -, X98, ⟨Lc98, hQ98, l98, y98, z98⟩, st98⟩ := X96.virtualBack hx (y := y11) (z := y11) hown (mvT hZ (own_w hw 93 rfl)) (mvT hZ (own_w hw 94 rfl)) (notFace_of_selects (args := #[]) (mvT hZ (own_w hw 96 rfl))) (mvT hZ (own_w hw 96 rfl)) (mvT hZ (own_w hw 95 rfl)) (by decide) (backOf (W := 0) (rm11_2 l Z a0 hw [] b1 b2_0 k2_0 b2_1 k2_1 x0 x1 x2 T91.heap n0 Z91 Gf91_7 Fa97 Gf91_8) hZ (own_w hw 97 rfl) (own_w hw 3 rfl) (by decide) (by decide)) q98a q98c (g := (mkF m 262 #[iv x0, iv x1, iv x2, iv x3, iv x4, iv 2, rv b1, iv 0, iv 1, iv 1, iv 1, iv 1, dv (x0.toInt64), .second, dv (x1.toInt64), .second, dv (x2.toInt64), .second, iv 1, .unset, .unset] [(.int 1), (.ref b1)])) rfl (by rw [hml]; rfl) (Steps.refl _) (argsL := [(.int 1)]) (rest := []) (lenOf pd__I_D rfl) rfl (by show 2 * 0 + _ ≤ _; exact Nat.le_of_eq rfl) (hb hby at_262) (fun _ _ => ⟨rfl, e96, (by decide : 12 + 0 ≤ _), (by decide : 102 + 0 ≤ _)⟩)
    dsimp only [Pt.U, Pt.locs, Pt.cells, Pt.slots] at X98 l98 y98 z98 st98 hQ98
    subst l98 y98 z98
    obtain ⟨rfl, Nq98, e98⟩ := hQ98
    have N98 := Fr.app N96 Nq98
    refine go (fun tg kg => st98.trans kg) ?_
    refine go (fun tg kg => XS.dload X98.here hx rfl (hb hby at_265) rfl kg) ?_
    refine go (fun tg kg => XS.dcmpS X98.here hx rfl (hb hby at_267) rfl (dcmpV_self (nn_w rfl) _) kg) ?_
    refine go (fun tg kg => XS.ifNo X98.here hx rfl (hb hby at_268) rfl ((if0 _ _).trans (teq (by decide)).2) kg) ?_
    show G (T98.setTop (mkF m 271 #[iv x0, iv x1, iv x2, iv x3, iv x4, iv 2, rv b1, iv 0, iv 1, iv 1, iv 1, iv 1, dv (x0.toInt64), .second, dv (x1.toInt64), .second, dv (x2.toInt64), .second, iv 1, .unset, .unset] []))
    refine go (fun tg kg => XS.iconst X98.here hx rfl (hb hby at_271) kg) ?_
    refine go (fun tg kg => XS.goto X98.here hx rfl (pc0 := 272) (pc' := 276) rfl (hb hby at_272) (by decide) (by decide) kg) ?_
    refine go (fun tg kg => XS.istore X98.here hx rfl (hb hby at_276) rfl (l' := #[iv x0, iv x1, iv x2, iv x3, iv x4, iv 2, rv b1, iv 0, iv 1, iv 1, iv 1, iv 1, dv (x0.toInt64), .second, dv (x1.toInt64), .second, dv (x2.toInt64), .second, iv 1, .unset, .unset]) rfl kg) ?_
    refine go (fun tg kg => XS.iload X98.here hx rfl (hb hby at_278) rfl kg) ?_
    refine go (fun tg kg => XS.ifNo X98.here hx rfl (hb hby at_280) rfl ((if0 _ _).trans (feq (by decide)).1) kg) ?_
    refine go (fun tg kg => XS.aload X98.here hx rfl (hb hby at_283) rfl rfl kg) ?_
    show G (T98.setTop (mkF m 285 #[iv x0, iv x1, iv x2, iv x3, iv x4, iv 2, rv b1, iv 0, iv 1, iv 1, iv 1, iv 1, dv (x0.toInt64), .second, dv (x1.toInt64), .second, dv (x2.toInt64), .second, iv 1, .unset, .unset] [(.ref b1)]))
    refine go (fun tg kg => XS.iload X98.here hx rfl (hb hby at_285) rfl kg) ?_
    obtain ⟨cq99, kq99, q99a, q99b, q99c⟩ := isOf hZ e98 Gf91_3
    obtain ⟨_, _, ⟨T99, L99, k99, n99⟩, -, X99, ⟨Lc99, hQ99, l99, y99, z99⟩, st99⟩ := X98.virtualBack hx (y := y12) (z := y12) hown (mvT hZ (own_w hw 98 rfl)) (mvT hZ (own_w hw 99 rfl)) (notFace_of_selects (args := #[]) (mvT hZ (own_w hw 101 rfl))) (mvT hZ (own_w hw 101 rfl)) (mvT hZ (own_w hw 100 rfl)) (by decide) (backOf (W := 0) (rm12_2 l Z a0 hw [] b1 b2_0 k2_0 b2_1 k2_1 x0 x1 x2 T91.heap n0 Z91 Gf91_7 Fa97 Gf91_8) hZ (own_w hw 102 rfl) (own_w hw 3 rfl) (by decide) (by decide)) q99a q99c (g := (mkF m 287 #[iv x0, iv x1, iv x2, iv x3, iv x4, iv 2, rv b1, iv 0, iv 1, iv 1, iv 1, iv 1, dv (x0.toInt64), .second, dv (x1.toInt64), .second, dv (x2.toInt64), .second, iv 1, .unset, .unset] [(.int 1), (.ref b1)])) rfl (by rw [hml]; rfl) (Steps.refl _) (argsL := [(.int 1)]) (rest := []) (lenOf pd__I_D rfl) rfl (by show 2 * 0 + _ ≤ _; exact Nat.le_of_eq rfl) (hb hby at_287) (fun _ _ => ⟨rfl, e98, (by decide : 12 + 0 ≤ _), (by decide : 102 + 0 ≤ _)⟩)
    dsimp only [Pt.U, Pt.locs, Pt.cells, Pt.slots] at X99 l99 y99 z99 st99 hQ99
    subst l99 y99 z99
    obtain ⟨rfl, Nq99, e99⟩ := hQ99
    have N99 := Fr.app N98 Nq99
    refine go (fun tg kg => st99.trans kg) ?_
    refine go (fun tg kg => XS.dload X99.here hx rfl (hb hby at_290) rfl kg) ?_
    refine go (fun tg kg => XS.dcmpS X99.here hx rfl (hb hby at_292) rfl (dcmpV_self (nn_w rfl) _) kg) ?_
    refine go (fun tg kg => XS.ifNo X99.here hx rfl (hb hby at_293) rfl ((if0 _ _).trans (teq (by decide)).2) kg) ?_
    refine go (fun tg kg => XS.iconst X99.here hx rfl (hb hby at_296) kg) ?_
    show G (T99.setTop (mkF m 297 #[iv x0, iv x1, iv x2, iv x3, iv x4, iv 2, rv b1, iv 0, iv 1, iv 1, iv 1, iv 1, dv (x0.toInt64), .second, dv (x1.toInt64), .second, dv (x2.toInt64), .second, iv 1, .unset, .unset] [(.int 1)]))
    refine go (fun tg kg => XS.goto X99.here hx rfl (pc0 := 297) (pc' := 301) rfl (hb hby at_297) (by decide) (by decide) kg) ?_
    refine go (fun tg kg => XS.istore X99.here hx rfl (hb hby at_301) rfl (l' := #[iv x0, iv x1, iv x2, iv x3, iv x4, iv 2, rv b1, iv 0, iv 1, iv 1, iv 1, iv 1, dv (x0.toInt64), .second, dv (x1.toInt64), .second, dv (x2.toInt64), .second, iv 1, .unset, .unset]) rfl kg) ?_
    refine go (fun tg kg => XS.iload X99.here hx rfl (hb hby at_303) rfl kg) ?_
    refine go (fun tg kg => XS.ifNo X99.here hx rfl (hb hby at_305) rfl ((if0 _ _).trans (feq (by decide)).1) kg) ?_
    refine go (fun tg kg => XS.aload X99.here hx rfl (hb hby at_308) rfl rfl kg) ?_
    obtain ⟨cq100, kq100, q100a, q100b, q100c⟩ := isOf hZ e99 Gf91_3
    obtain ⟨_, _, ⟨T100, L100, k100, n100⟩, -, X100, ⟨Lc100, hQ100, l100, y100, z100⟩, st100⟩ := X99.virtualBack hx (y := y13) (z := y13) hown (mvT hZ (own_w hw 103 rfl)) (mvT hZ (own_w hw 104 rfl)) (notFace_of_selects (args := #[]) (mvT hZ (own_w hw 106 rfl))) (mvT hZ (own_w hw 106 rfl)) (mvT hZ (own_w hw 105 rfl)) (by decide) (backOf (W := 0) (rm13_1 l Z a0 hw [] b1 T91.heap n0 Z91 Gf91_9) hZ (own_w hw 107 rfl) (own_w hw 3 rfl) (by decide) (by decide)) q100a q100c (g := (mkF m 310 #[iv x0, iv x1, iv x2, iv x3, iv x4, iv 2, rv b1, iv 0, iv 1, iv 1, iv 1, iv 1, dv (x0.toInt64), .second, dv (x1.toInt64), .second, dv (x2.toInt64), .second, iv 1, .unset, .unset] [(.ref b1)])) rfl (by rw [hml]; rfl) (Steps.refl _) (argsL := []) (rest := []) (lenOf pd___I rfl) rfl (by show 2 * 0 + _ ≤ _; exact Nat.le_of_eq rfl) (hb hby at_310) (fun _ _ => ⟨rfl, e99, (by decide : 12 + 0 ≤ _), (by decide : 102 + 0 ≤ _)⟩)
    dsimp only [Pt.U, Pt.locs, Pt.cells, Pt.slots] at X100 l100 y100 z100 st100 hQ100
    subst l100 y100 z100
    obtain ⟨rfl, Nq100, e100⟩ := hQ100
    have N100 := Fr.app N99 Nq100
    refine go (fun tg kg => st100.trans kg) ?_
    show G (T100.setTop (mkF m 313 #[iv x0, iv x1, iv x2, iv x3, iv x4, iv 2, rv b1, iv 0, iv 1, iv 1, iv 1, iv 1, dv (x0.toInt64), .second, dv (x1.toInt64), .second, dv (x2.toInt64), .second, iv 1, .unset, .unset] [(.int 2)]))
    refine go (fun tg kg => XS.iload X100.here hx rfl (hb hby at_313) rfl kg) ?_
    refine go (fun tg kg => XS.iconst X100.here hx rfl (hb hby at_315) kg) ?_
    refine go (fun tg kg => XS.iadd X100.here hx rfl (hb hby at_316) rfl kg) ?_
    refine go (fun tg kg => XS.icmpNo X100.here hx rfl (hb hby at_317) rfl (teq (by decide)).2 kg) ?_
    refine go (fun tg kg => XS.iconst X100.here hx rfl (hb hby at_320) kg) ?_
    refine go (fun tg kg => XS.goto X100.here hx rfl (pc0 := 321) (pc' := 325) rfl (hb hby at_321) (by decide) (by decide) kg) ?_
    show G (T100.setTop (mkF m 325 #[iv x0, iv x1, iv x2, iv x3, iv x4, iv 2, rv b1, iv 0, iv 1, iv 1, iv 1, iv 1, dv (x0.toInt64), .second, dv (x1.toInt64), .second, dv (x2.toInt64), .second, iv 1, .unset, .unset] [(.int 1)]))
    refine go (fun tg kg => XS.istore X100.here hx rfl (hb hby at_325) rfl (l' := #[iv x0, iv x1, iv x2, iv x3, iv x4, iv 2, rv b1, iv 0, iv 1, iv 1, iv 1, iv 1, dv (x0.toInt64), .second, dv (x1.toInt64), .second, dv (x2.toInt64), .second, iv 1, .unset, .unset]) rfl kg) ?_
    refine go (fun tg kg => XS.aload X100.here hx rfl (hb hby at_327) rfl rfl kg) ?_
    refine go (fun tg kg => XS.dconst0 X100.here hx rfl (hb hby at_329) own_d0 kg) ?_
    refine go (fun tg kg => XS.dconst0 X100.here hx rfl (hb hby at_330) own_d0 kg) ?_
    refine go (fun tg kg => XS.dconst0 X100.here hx rfl (hb hby at_331) own_d0 kg) ?_
    refine go (fun tg kg => XS.iconst X100.here hx rfl (hb hby at_332) kg) ?_
    show G (T100.setTop (mkF m 333 #[iv x0, iv x1, iv x2, iv x3, iv x4, iv 2, rv b1, iv 0, iv 1, iv 1, iv 1, iv 1, dv (x0.toInt64), .second, dv (x1.toInt64), .second, dv (x2.toInt64), .second, iv 1, .unset, .unset] [(.int 0), (dl 0), (dl 0), (dl 0), (.ref b1)]))
    obtain ⟨cq101, kq101, q101a, q101b, q101c⟩ := isOf hZ e100 Gf91_3
    obtain ⟨_, _, ⟨T101, L101, k101, n101⟩, -, X101, ⟨Lc101, hQ101, l101, y101, z101⟩, st101⟩ := X100.virtualBack hx (y := y7) (z := y7) hown (mvT hZ (own_w hw 64 rfl)) (mvT hZ (own_w hw 65 rfl)) (notFace_of_selects (args := #[]) (mvT hZ (own_w hw 67 rfl))) (mvT hZ (own_w hw 67 rfl)) (mvT hZ (own_w hw 66 rfl)) (by decide) (backOf (W := 0) (rm7_7 l Z a0 hw [] b1 b2_2 k2_2 b2_3 k2_3 x3 b2_0 k2_0 b2_1 k2_1 x0 x1 x2 b2_4 b2_9 b2_10 T91.heap n0 Z91 Gf91_0 Gf91_13 Gf91_3 Gf91_4 Gf91_5 Gf91_6 Gf91_1 Gf91_2 Gf91_7 Fa97 Gf91_8 Gf91_9 Gf91_10 Gf91_11 Gf91_12 Gf91_14 (Ne.symm nn4) (Ne.symm nn5) (Ne.symm ne_b2_2_b2_3) (Ne.symm nn6) ne_b2_0_b2_2 ne_b2_0_b2_3 (Ne.symm nn7) ne_b2_1_b2_2 ne_b2_1_b2_3 ge_b1 ge_b2_2 ge_b2_3 ge_b2_1) hZ (own_w hw 68 rfl) (own_w hw 3 rfl) (by decide) (by decide)) q101a q101c (g := (mkF m 333 #[iv x0, iv x1, iv x2, iv x3, iv x4, iv 2, rv b1, iv 0, iv 1, iv 1, iv 1, iv 1, dv (x0.toInt64), .second, dv (x1.toInt64), .second, dv (x2.toInt64), .second, iv 1, .unset, .unset] [(.int 0), (dl 0), (dl 0), (dl 0), (.ref b1)])) rfl (by rw [hml]; rfl) (Steps.refl _) (argsL := [(dl 0), (dl 0), (dl 0), (.int 0)]) (rest := []) (lenOf pd__DDDI_I rfl) rfl (by show 2 * 0 + _ ≤ _; exact Nat.le_of_eq rfl) (hb hby at_333) (fun _ _ => ⟨rfl, e100, (by decide : 12 + 0 ≤ _), (by decide : 102 + 0 ≤ _)⟩)
    dsimp only [Pt.U, Pt.locs, Pt.cells, Pt.slots] at X101 l101 y101 z101 st101 hQ101
    subst l101 y101 z101
    obtain ⟨rfl, Nq101, K101, Gf101_0, Gf101_1, Gf101_2, Gf101_3, Gf101_4, Gf101_5, Gf101_6, Gf101_7, Gf101_8, Gf101_9, Gf101_10, Gf101_11, Gf101_12, Gf101_13, Gf101_14⟩ := hQ101
    have Z101 := Nat.le_trans Z91 K101.1
    have N101 := Fr.app N100 Nq101
    refine go (fun tg kg => st101.trans kg) ?_
    refine go (fun tg kg => XS.istore X101.here hx rfl (hb hby at_336) rfl (l' := #[iv x0, iv x1, iv x2, iv x3, iv x4, iv 2, rv b1, iv 0, iv 1, iv 1, iv 1, iv 1, dv (x0.toInt64), .second, dv (x1.toInt64), .second, dv (x2.toInt64), .second, iv 1, iv 2, .unset]) rfl kg) ?_
    refine go (fun tg kg => XS.iload X101.here hx rfl (hb hby at_338) rfl kg) ?_
    refine go (fun tg kg => XS.ifNo X101.here hx rfl (hb hby at_340) rfl ((if0 _ _).trans (feq (by decide)).1) kg) ?_
    refine go (fun tg kg => XS.iconst X101.here hx rfl (hb hby at_343) kg) ?_
    refine go (fun tg kg => XS.goto X101.here hx rfl (pc0 := 344) (pc' := 348) rfl (hb hby at_344) (by decide) (by decide) kg) ?_
    show G (T101.setTop (mkF m 348 #[iv x0, iv x1, iv x2, iv x3, iv x4, iv 2, rv b1, iv 0, iv 1, iv 1, iv 1, iv 1, dv (x0.toInt64), .second, dv (x1.toInt64), .second, dv (x2.toInt64), .second, iv 1, iv 2, .unset] [(.int 2)]))
    refine go (fun tg kg => XS.istore X101.here hx rfl (hb hby at_348) rfl (l' := #[iv x0, iv x1, iv x2, iv x3, iv x4, iv 2, rv b1, iv 0, iv 1, iv 1, iv 1, iv 1, dv (x0.toInt64), .second, dv (x1.toInt64), .second, dv (x2.toInt64), .second, iv 1, iv 2, iv 2]) rfl kg) ?_
    refine go (fun tg kg => XS.iload X101.here hx rfl (hb hby at_350) rfl kg) ?_
    refine go (fun tg kg => XS.ifNo X101.here hx rfl (hb hby at_352) rfl ((if0 _ _).trans (feq (by decide)).1) kg) ?_
    refine go (fun tg kg => XS.iload X101.here hx rfl (hb hby at_355) rfl kg) ?_
    refine go (fun tg kg => XS.iload X101.here hx rfl (hb hby at_357) rfl kg) ?_
    refine go (fun tg kg => XS.icmpNo X101.here hx rfl (hb hby at_359) rfl (teq (by decide)).2 kg) ?_
    show G (T101.setTop (mkF m 362 #[iv x0, iv x1, iv x2, iv x3, iv x4, iv 2, rv b1, iv 0, iv 1, iv 1, iv 1, iv 1, dv (x0.toInt64), .second, dv (x1.toInt64), .second, dv (x2.toInt64), .second, iv 1, iv 2, iv 2] []))
    refine go (fun tg kg => XS.iconst X101.here hx rfl (hb hby at_362) kg) ?_
    refine go (fun tg kg => XS.goto X101.here hx rfl (pc0 := 363) (pc' := 367) rfl (hb hby at_363) (by decide) (by decide) kg) ?_
    refine fin (some (.int 1)) X101 (fun h => absurd h (by decide)) (fun fs hr => retN X101 hx (t := .boolean) hret (by simp) (hb hby at_367) hr) (by decide) (by decide) ?_
    exact ⟨rfl, N101⟩
set_option maxRecDepth 65536 in
set_option maxHeartbeats 40000000 in
theorem comes_1 {Post : Tables → Env → Array Value → State → Outcome → State → Prop} (hpost : ∀ tb e args s v u, (limb_1_1.after args s (.returned v) u = true ∧ limb_1_2.after args s (.returned v) u = true ∧ True) → FrameEnd s (.returned v) u (Jvm.fieldLocs frame_1_writes args s ++ Jvm.arrayLocs frame_1_arrays args s ++ Jvm.staticLocs frame_1_statics s) 32 320 → Post tb e args s (.returned v) u) :
    ArmFor flags0 classFile x code maxLocals ret World_1 tables_1 room_1 Calls_1 rest_1 Pre_1 Post := by
  intro l hfl _ _ p e ha hc hk s m args below hf hA hF happ hP
  obtain ⟨hcalls, hrest, hpre⟩ := hP
  obtain ⟨-, -, -, hnamed, -, -, -, hat⟩ := (Spec.applies_iff hf).mp happ
  obtain ⟨hg, hn⟩ := and_e (Cond.before_iff.mp (show (Jvm.Cond.and given_1 narrow_1).before args s = true from hpre))
  obtain ⟨gc, gr0⟩ := and_e hg
  obtain ⟨ga0, gr1⟩ := and_e gr0
  obtain ⟨ga1, gr2⟩ := and_e gr1
  obtain ⟨ga2, gr3⟩ := and_e gr2
  obtain ⟨ga3, gr4⟩ := and_e gr3
  have ga4 := gr4
  obtain ⟨w0, w1, w2, w3, w4, rfl⟩ : ∃ w0 w1 w2 w3 w4 : Value, args = #[w0, w1, w2, w3, w4] := by
    have hs : args.size = 5 := by simpa [Cond.value, given_1] using gc
    obtain ⟨L⟩ := args
    match L, hs with
    | [w0, w1, w2, w3, w4], _ => exact ⟨w0, w1, w2, w3, w4, rfl⟩
  have hw := fun d (hd : d ∈ tables_1) => atoms_spec (ws := Jvm.Cond.code x code maxLocals ret :: tables_1) hat d (List.mem_cons_of_mem _ hd)
  have hfit : Fit s := fun {y c} hc i hi => by
    obtain ⟨ha, rfl⟩ := Array.getElem?_eq_some_iff.mp hc
    have q := List.all_eq_true.mp ((Array.all_eq_true_iff_forall_mem.mp hF) _ (Array.getElem_mem ha)) i (List.mem_range.mpr hi)
    simpa [Array.getElem?_eq_getElem hi] using q
  obtain ⟨i0, ei0⟩ := is_v ga0
  obtain rfl : w0 = (.int i0) := Option.some.inj ei0
  obtain ⟨i1, ei1⟩ := is_v ga1
  obtain rfl : w1 = (.int i1) := Option.some.inj ei1
  obtain ⟨i2, ei2⟩ := is_v ga2
  obtain rfl : w2 = (.int i2) := Option.some.inj ei2
  obtain ⟨i3, ei3⟩ := is_v ga3
  obtain rfl : w3 = (.int i3) := Option.some.inj ei3
  obtain ⟨i4, ei4⟩ := is_v ga4
  obtain rfl : w4 = (.int i4) := Option.some.inj ei4
  obtain ⟨n, o, h1, h2, h3, _, L, rfl, ⟨rfl, N⟩, hq⟩ := rm0 l s _ hw tables_1 i0 i1 i2 i3 i4  s.heap s.heap.size (Nat.le_refl _)  p e ha hc hk s m _ below hf ((Spec.applies_iff_loose hf).mp happ).1 ⟨rfl, State.Warmed39.refl s, rfl⟩ trivial
  refine ⟨n, _, h1, h2, h3, hpost _ _ _ _ _ _ ⟨Cond.after_iff.mpr rfl, Cond.after_iff.mpr (eq_i res_at (Term.int_eval (1)) rfl), trivial⟩ ⟨hq.1, hq.2.1, (hq.2.2.sift fun y hy => Or.inr (N y hy)).mono (by decide) (by decide)⟩⟩
theorem main_1_1 : Claimed_1_1 := comes_1 fun _ _ _ _ _ _ h hF => ⟨h.1, hF⟩
theorem main_1_2 : Claimed_1_2 := comes_1 fun _ _ _ _ _ _ h hF => ⟨h.2.1, hF⟩
end Jvm.Pilot.@@N@@
namespace Jvm.Pilot.@@N@@
open Jvm Jvm.ClassFile Sem Op Lib Jvm.Free Jvm.Stand Jvm.Pilot.@@N@@.Jvm.D
/-! MADE BY PROGRAM (witnessworld.py) out of the Statement's table words and the real class files: 17 classes; the members and pool entries that the words name. The judged class is class 1, her method 1. -/
namespace start1
open Jvm.ClassFile
def u (s : String) : CpInfo := .utf8 (stringToUtf16 s)
/-- a pool by its gaps: so many unusable entries, then the entry; so many at the end -/
def gap : Nat → List CpInfo → List CpInfo
  | 0, r => r
  | n + 1, r => .unusable :: gap n r
def poolList (es : List (Nat × CpInfo)) (last : Nat) : List CpInfo := es.foldr (fun e r => gap e.1 (e.2 :: r)) (gap last [])
def pool (es : List (Nat × CpInfo)) (last : Nat) : Array CpInfo := ⟨poolList es last⟩
def fileOf (pool : Array CpInfo) (this : Nat) (attrs : Array Attribute := #[]) (ms : Array MethodInfo := #[]) (fl : Nat := 33) (sup : Nat := 0) (ifs : Array Nat := #[]) (fds : Array FieldInfo := #[]) : ClassFile where
  minorVersion := 0
  majorVersion := 65
  constantPool := pool
  accessFlags := fl
  thisClass := this
  superClass := sup
  interfaces := ifs
  fields := fds
  methods := ms
  attributes := attrs
def plain (name : String) (sup : Option ClassId) : Class where
  name := name
  kind := .ordinary
  loader := none
  accessFlags := 33
  super := sup
  interfaces := #[]
  cf := none
  fields := #[]
  methods := #[]
  instanceTypes := #[]
  staticTypes := #[]
  resolved := #[]
  callSites := []
  init := .initialized
  statics := none
  mirror := none

def pool0 : Array CpInfo := pool [(5, u "<init>"), (0, u "()V"), (1, .class_ 10), (1, u "java/lang/Object")] 113

def k0c0 : Code := { maxStack := 0, maxLocals := 1, code := object_method_1_code, exceptionTable := #[], attributes := #[] }
def k0m0 : Method := { name := "<init>", desc := "()V", sig := { parameters := [], returnType := none }, accessFlags := 1, code := some k0c0 }
/-- java/lang/Object -/
def k0 : Class := { plain "java/lang/Object" none with
  accessFlags := 33
  interfaces := #[]
  cf := some (fileOf pool0 8 #[] #[{ accessFlags := 1, nameIndex := 5, descriptorIndex := 6, attributes := #[] }] 33 0 #[] #[])
  fields := #[]
  methods := #[k0m0]
  instanceTypes := #[]
  staticTypes := #[]
  resolved := Array.replicate 124 none
  statics := none }

def pool1 : Array CpInfo := pool [(2, .class_ 4), (1, u "java/lang/Object"), (0, u "<init>"), (0, u "()V"), (0, .integer 2147483647), (0, .class_ 9), (0, u "com/example/housemartin/housemartin/firm/FirmSlots"), (0, .methodref 8 11), (0, .nameAndType 5 12), (0, u "(I)V"), (0, .double 4611686018427387904), (1, .double 4613937818241073152), (1, .methodref 8 18), (0, .nameAndType 19 20), (0, u "open"), (0, u "(DDDI)I"), (0, .double 4616189618054758400), (1, .double 4617315517961601024), (1, .double 4618441417868443648), (1, .methodref 8 28), (0, .nameAndType 29 30), (0, u "join"), (0, u "(IID)V"), (0, .methodref 8 32), (0, .nameAndType 33 34), (0, u "leave"), (0, u "(IID)Z"), (0, .methodref 8 36), (0, .nameAndType 37 38), (0, u "id"), (0, u "(I)J"), (0, .long 3), (1, .methodref 8 42), (0, .nameAndType 43 44), (0, u "birth"), (0, u "(I)I"), (0, .methodref 8 46), (0, .nameAndType 47 48), (0, u "a"), (0, u "(I)D"), (0, .methodref 8 50), (0, .nameAndType 51 48), (0, u "b"), (0, .methodref 8 53), (0, .nameAndType 54 48), (0, u "beta"), (0, .methodref 8 56), (0, .nameAndType 57 58), (0, u "count"), (0, u "()I"), (0, .class_ 60), (0, u "com/example/housemartin/housemartin/firm/FirmSlotsOpenPinLaw"), (2, u "law"), (0, u "(IIIII)Z")] 3

def k1m0 : Method := { name := "<init>", desc := "()V", sig := { parameters := [], returnType := none }, accessFlags := 1, code := none }
def k1c1 : Code := { maxStack := 8, maxLocals := 21, code := code, exceptionTable := #[], attributes := #[] }
def k1m1 : Method := { name := "law", desc := "(IIIII)Z", sig := { parameters := [.int, .int, .int, .int, .int], returnType := some .boolean }, accessFlags := 9, code := some k1c1 }
/-- com/example/housemartin/housemartin/firm/FirmSlotsOpenPinLaw -/
def k1 : Class := { plain "com/example/housemartin/housemartin/firm/FirmSlotsOpenPinLaw" (some 0) with
  accessFlags := 49
  interfaces := #[]
  cf := some (fileOf pool1 59 #[] #[{ accessFlags := 1, nameIndex := 5, descriptorIndex := 6, attributes := #[] }, { accessFlags := 9, nameIndex := 63, descriptorIndex := 64, attributes := #[] }] 49 2 #[] #[])
  fields := #[]
  methods := #[k1m0, k1m1]
  instanceTypes := #[]
  staticTypes := #[]
  resolved := Array.replicate 68 none
  statics := none }

def pool2 : Array CpInfo := pool [(1, .class_ 2), (0, u "com/example/housemartin/housemartin/firm/FirmSlots"), (0, .methodref 4 5), (0, .class_ 6), (0, .nameAndType 7 8), (0, u "java/lang/Object"), (0, u "<init>"), (0, u "()V"), (0, .fieldref 1 10), (0, .nameAndType 11 12), (0, u "freeSlot"), (0, u "I"), (0, .fieldref 1 14), (0, .nameAndType 15 16), (0, u "nextId"), (0, u "J"), (0, .long 16777215), (1, .class_ 20), (0, u "[D"), (0, .fieldref 1 22), (0, .nameAndType 23 24), (0, u "pages"), (0, u "[[D"), (0, .integer 16777216), (0, .methodref 27 28), (0, .class_ 29), (0, .nameAndType 30 31), (0, u "java/lang/Math"), (0, u "min"), (0, u "(II)I"), (0, .fieldref 1 33), (0, .nameAndType 34 35), (0, u "ids"), (0, u "[J"), (0, .fieldref 1 37), (0, .nameAndType 38 39), (0, u "births"), (0, u "[I"), (0, .class_ 41), (0, u "com/example/housemartin/housemartin/firm/Members"), (0, .methodref 40 43), (0, .nameAndType 7 44), (0, u "(I)V"), (0, .fieldref 1 46), (0, .nameAndType 47 48), (0, u "members"), (0, u "Lcom/example/housemartin/housemartin/firm/Members;"), (0, .fieldref 1 50), (0, .nameAndType 51 35), (0, u "changedNow"), (0, .fieldref 1 53), (0, .nameAndType 54 35), (0, u "changedBefore"), (0, .fieldref 1 56), (0, .nameAndType 57 12), (0, u "slotsUsed"), (0, .integer 16777215), (0, .fieldref 1 60), (0, .nameAndType 61 12), (0, u "openFirms"), (0, .methodref 40 63), (0, .nameAndType 64 65), (0, u "add"), (0, u "(II)V"), (0, .methodref 1 67), (0, .nameAndType 64 68), (0, u "(ID)V"), (0, .methodref 40 70), (0, .nameAndType 71 65), (0, u "remove"), (0, .methodref 40 73), (0, .nameAndType 74 75), (0, u "count"), (0, u "(I)I"), (10, u "a"), (0, u "(I)D"), (2, u "b"), (2, u "beta"), (18, u "()I"), (8, .methodref 1 122), (0, .nameAndType 123 44), (0, u "markChanged"), (0, .methodref 1 125), (0, .nameAndType 126 127), (0, u "roundingError"), (0, u "(DDD)D"), (0, u "PAGE_BITS"), (2, u "PAGE_MASK"), (0, u "A"), (1, u "B"), (1, u "BETA"), (1, u "TOTAL"), (1, u "TOTAL_ERROR"), (1, u "FIELDS"), (1, u "NONE"), (4, u "open"), (0, u "(DDDI)I"), (0, u "join"), (0, u "(IID)V"), (0, u "leave"), (0, u "(IID)Z"), (2, u "(I)J"), (2, u "id"), (0, u "birth")] 13

def k2c0 : Code := { maxStack := 5, maxLocals := 4, code := prog_8_method_1_code, exceptionTable := #[], attributes := #[] }
def k2m0 : Method := { name := "<init>", desc := "(I)V", sig := { parameters := [.int], returnType := none }, accessFlags := 0, code := some k2c0 }
def k2c1 : Code := { maxStack := 5, maxLocals := 11, code := prog_8_method_2_code, exceptionTable := #[], attributes := #[] }
def k2m1 : Method := { name := "open", desc := "(DDDI)I", sig := { parameters := [.double, .double, .double, .int], returnType := some .int }, accessFlags := 0, code := some k2c1 }
def k2c2 : Code := { maxStack := 4, maxLocals := 5, code := prog_8_method_3_code, exceptionTable := #[], attributes := #[] }
def k2m2 : Method := { name := "join", desc := "(IID)V", sig := { parameters := [.int, .int, .double], returnType := none }, accessFlags := 0, code := some k2c2 }
def k2c3 : Code := { maxStack := 4, maxLocals := 6, code := prog_8_method_4_code, exceptionTable := #[], attributes := #[] }
def k2m3 : Method := { name := "leave", desc := "(IID)Z", sig := { parameters := [.int, .int, .double], returnType := some .boolean }, accessFlags := 0, code := some k2c3 }
def k2c4 : Code := { maxStack := 2, maxLocals := 2, code := prog_8_method_8_code, exceptionTable := #[], attributes := #[] }
def k2m4 : Method := { name := "id", desc := "(I)J", sig := { parameters := [.int], returnType := some .long }, accessFlags := 0, code := some k2c4 }
def k2c5 : Code := { maxStack := 2, maxLocals := 2, code := prog_8_method_9_code, exceptionTable := #[], attributes := #[] }
def k2m5 : Method := { name := "birth", desc := "(I)I", sig := { parameters := [.int], returnType := some .int }, accessFlags := 0, code := some k2c5 }
def k2c6 : Code := { maxStack := 3, maxLocals := 2, code := prog_8_method_10_code, exceptionTable := #[], attributes := #[] }
def k2m6 : Method := { name := "a", desc := "(I)D", sig := { parameters := [.int], returnType := some .double }, accessFlags := 0, code := some k2c6 }
def k2c7 : Code := { maxStack := 3, maxLocals := 2, code := prog_8_method_11_code, exceptionTable := #[], attributes := #[] }
def k2m7 : Method := { name := "b", desc := "(I)D", sig := { parameters := [.int], returnType := some .double }, accessFlags := 0, code := some k2c7 }
def k2c8 : Code := { maxStack := 3, maxLocals := 2, code := prog_8_method_12_code, exceptionTable := #[], attributes := #[] }
def k2m8 : Method := { name := "beta", desc := "(I)D", sig := { parameters := [.int], returnType := some .double }, accessFlags := 0, code := some k2c8 }
def k2c9 : Code := { maxStack := 1, maxLocals := 1, code := prog_8_method_22_code, exceptionTable := #[], attributes := #[] }
def k2m9 : Method := { name := "count", desc := "()I", sig := { parameters := [], returnType := some .int }, accessFlags := 0, code := some k2c9 }
def k2c10 : Code := { maxStack := 8, maxLocals := 14, code := prog_8_method_25_code, exceptionTable := #[], attributes := #[] }
def k2m10 : Method := { name := "add", desc := "(ID)V", sig := { parameters := [.int, .double], returnType := none }, accessFlags := 2, code := some k2c10 }
def k2c11 : Code := { maxStack := 7, maxLocals := 2, code := prog_8_method_26_code, exceptionTable := #[], attributes := #[] }
def k2m11 : Method := { name := "markChanged", desc := "(I)V", sig := { parameters := [.int], returnType := none }, accessFlags := 2, code := some k2c11 }
def k2c12 : Code := { maxStack := 6, maxLocals := 10, code := prog_8_method_27_code, exceptionTable := #[], attributes := #[] }
def k2m12 : Method := { name := "roundingError", desc := "(DDD)D", sig := { parameters := [.double, .double, .double], returnType := some .double }, accessFlags := 10, code := some k2c12 }
/-- com/example/housemartin/housemartin/firm/FirmSlots -/
def k2 : Class := { plain "com/example/housemartin/housemartin/firm/FirmSlots" (some 0) with
  accessFlags := 48
  interfaces := #[]
  cf := some (fileOf pool2 1 #[] #[{ accessFlags := 0, nameIndex := 7, descriptorIndex := 44, attributes := #[] }, { accessFlags := 0, nameIndex := 149, descriptorIndex := 150, attributes := #[] }, { accessFlags := 0, nameIndex := 151, descriptorIndex := 152, attributes := #[] }, { accessFlags := 0, nameIndex := 153, descriptorIndex := 154, attributes := #[] }, { accessFlags := 0, nameIndex := 160, descriptorIndex := 157, attributes := #[] }, { accessFlags := 0, nameIndex := 161, descriptorIndex := 75, attributes := #[] }, { accessFlags := 0, nameIndex := 86, descriptorIndex := 87, attributes := #[] }, { accessFlags := 0, nameIndex := 90, descriptorIndex := 87, attributes := #[] }, { accessFlags := 0, nameIndex := 93, descriptorIndex := 87, attributes := #[] }, { accessFlags := 0, nameIndex := 74, descriptorIndex := 112, attributes := #[] }, { accessFlags := 2, nameIndex := 64, descriptorIndex := 68, attributes := #[] }, { accessFlags := 2, nameIndex := 123, descriptorIndex := 44, attributes := #[] }, { accessFlags := 10, nameIndex := 126, descriptorIndex := 127, attributes := #[] }] 48 4 #[] #[{ accessFlags := 26, nameIndex := 128, descriptorIndex := 12, attributes := #[] }, { accessFlags := 26, nameIndex := 131, descriptorIndex := 12, attributes := #[] }, { accessFlags := 26, nameIndex := 132, descriptorIndex := 12, attributes := #[] }, { accessFlags := 26, nameIndex := 134, descriptorIndex := 12, attributes := #[] }, { accessFlags := 26, nameIndex := 136, descriptorIndex := 12, attributes := #[] }, { accessFlags := 26, nameIndex := 138, descriptorIndex := 12, attributes := #[] }, { accessFlags := 26, nameIndex := 140, descriptorIndex := 12, attributes := #[] }, { accessFlags := 26, nameIndex := 142, descriptorIndex := 12, attributes := #[] }, { accessFlags := 26, nameIndex := 144, descriptorIndex := 12, attributes := #[] }, { accessFlags := 18, nameIndex := 23, descriptorIndex := 24, attributes := #[] }, { accessFlags := 18, nameIndex := 34, descriptorIndex := 35, attributes := #[] }, { accessFlags := 18, nameIndex := 38, descriptorIndex := 39, attributes := #[] }, { accessFlags := 18, nameIndex := 47, descriptorIndex := 48, attributes := #[] }, { accessFlags := 2, nameIndex := 51, descriptorIndex := 35, attributes := #[] }, { accessFlags := 2, nameIndex := 54, descriptorIndex := 35, attributes := #[] }, { accessFlags := 2, nameIndex := 11, descriptorIndex := 12, attributes := #[] }, { accessFlags := 2, nameIndex := 57, descriptorIndex := 12, attributes := #[] }, { accessFlags := 2, nameIndex := 61, descriptorIndex := 12, attributes := #[] }, { accessFlags := 2, nameIndex := 15, descriptorIndex := 16, attributes := #[] }])
  fields := #[{ name := "PAGE_BITS", type := .int, accessFlags := 26, slot := 0, constantValue := 0 }, { name := "PAGE_MASK", type := .int, accessFlags := 26, slot := 1, constantValue := 0 }, { name := "A", type := .int, accessFlags := 26, slot := 2, constantValue := 0 }, { name := "B", type := .int, accessFlags := 26, slot := 3, constantValue := 0 }, { name := "BETA", type := .int, accessFlags := 26, slot := 4, constantValue := 0 }, { name := "TOTAL", type := .int, accessFlags := 26, slot := 5, constantValue := 0 }, { name := "TOTAL_ERROR", type := .int, accessFlags := 26, slot := 6, constantValue := 0 }, { name := "FIELDS", type := .int, accessFlags := 26, slot := 7, constantValue := 0 }, { name := "NONE", type := .int, accessFlags := 26, slot := 8, constantValue := 0 }, { name := "pages", type := (.array (.array .double)), accessFlags := 18, slot := 0, constantValue := 0 }, { name := "ids", type := (.array .long), accessFlags := 18, slot := 1, constantValue := 0 }, { name := "births", type := (.array .int), accessFlags := 18, slot := 2, constantValue := 0 }, { name := "members", type := (.object "com/example/housemartin/housemartin/firm/Members"), accessFlags := 18, slot := 3, constantValue := 0 }, { name := "changedNow", type := (.array .long), accessFlags := 2, slot := 4, constantValue := 0 }, { name := "changedBefore", type := (.array .long), accessFlags := 2, slot := 5, constantValue := 0 }, { name := "freeSlot", type := .int, accessFlags := 2, slot := 6, constantValue := 0 }, { name := "slotsUsed", type := .int, accessFlags := 2, slot := 7, constantValue := 0 }, { name := "openFirms", type := .int, accessFlags := 2, slot := 8, constantValue := 0 }, { name := "nextId", type := .long, accessFlags := 2, slot := 9, constantValue := 0 }]
  methods := #[k2m0, k2m1, k2m2, k2m3, k2m4, k2m5, k2m6, k2m7, k2m8, k2m9, k2m10, k2m11, k2m12]
  instanceTypes := #[(.array (.array .double)), (.array .long), (.array .int), (.object "com/example/housemartin/housemartin/firm/Members"), (.array .long), (.array .long), .int, .int, .int, .long]
  staticTypes := #[.int, .int, .int, .int, .int, .int, .int, .int, .int]
  resolved := Array.replicate 175 none
  statics := none }

def pool3 : Array CpInfo := pool [(1, .class_ 2), (0, u "java/lang/Math"), (1, .class_ 6), (1, u "java/lang/Object"), (0, u "<init>"), (0, u "()V"), (89, .class_ 100), (1, u "java/lang/Math$RandomNumberGeneratorHolder"), (71, u "negativeZeroFloatBits"), (0, u "J"), (2, u "negativeZeroDoubleBits"), (21, u "max"), (2, u "min"), (43, u "$assertionsDisabled"), (0, u "Z"), (88, u "(II)I"), (2, u "twoToTheDoubleScaleDown"), (0, u "D"), (4, u "twoToTheDoubleScaleUp"), (9, u "E"), (3, u "PI"), (2, u "TAU"), (2, u "DEGREES_TO_RADIANS"), (0, u "RADIANS_TO_DEGREES")] 94

def k3m0 : Method := { name := "<init>", desc := "()V", sig := { parameters := [], returnType := none }, accessFlags := 2, code := none }
def k3c1 : Code := { maxStack := 2, maxLocals := 2, code := jdk_29_method_65_code, exceptionTable := #[], attributes := #[] }
def k3m1 : Method := { name := "max", desc := "(II)I", sig := { parameters := [.int, .int], returnType := some .int }, accessFlags := 9, code := some k3c1 }
def k3c2 : Code := { maxStack := 2, maxLocals := 2, code := jdk_29_method_69_code, exceptionTable := #[], attributes := #[] }
def k3m2 : Method := { name := "min", desc := "(II)I", sig := { parameters := [.int, .int], returnType := some .int }, accessFlags := 9, code := some k3c2 }
/-- java/lang/Math -/
def k3 : Class := { plain "java/lang/Math" (some 0) with
  accessFlags := 49
  interfaces := #[]
  cf := some (fileOf pool3 1 #[.nestMembers #[98]] #[{ accessFlags := 2, nameIndex := 7, descriptorIndex := 8, attributes := #[] }, { accessFlags := 9, nameIndex := 198, descriptorIndex := 335, attributes := #[] }, { accessFlags := 9, nameIndex := 201, descriptorIndex := 335, attributes := #[] }] 49 4 #[] #[{ accessFlags := 25, nameIndex := 354, descriptorIndex := 339, attributes := #[] }, { accessFlags := 25, nameIndex := 358, descriptorIndex := 339, attributes := #[] }, { accessFlags := 25, nameIndex := 361, descriptorIndex := 339, attributes := #[] }, { accessFlags := 26, nameIndex := 364, descriptorIndex := 339, attributes := #[] }, { accessFlags := 26, nameIndex := 365, descriptorIndex := 339, attributes := #[] }, { accessFlags := 26, nameIndex := 172, descriptorIndex := 173, attributes := #[] }, { accessFlags := 26, nameIndex := 176, descriptorIndex := 173, attributes := #[] }, { accessFlags := 8, nameIndex := 344, descriptorIndex := 339, attributes := #[] }, { accessFlags := 8, nameIndex := 338, descriptorIndex := 339, attributes := #[] }, { accessFlags := 4120, nameIndex := 245, descriptorIndex := 246, attributes := #[] }])
  fields := #[{ name := "E", type := .double, accessFlags := 25, slot := 0, constantValue := 0 }, { name := "PI", type := .double, accessFlags := 25, slot := 1, constantValue := 0 }, { name := "TAU", type := .double, accessFlags := 25, slot := 2, constantValue := 0 }, { name := "DEGREES_TO_RADIANS", type := .double, accessFlags := 26, slot := 3, constantValue := 0 }, { name := "RADIANS_TO_DEGREES", type := .double, accessFlags := 26, slot := 4, constantValue := 0 }, { name := "negativeZeroFloatBits", type := .long, accessFlags := 26, slot := 5, constantValue := 0 }, { name := "negativeZeroDoubleBits", type := .long, accessFlags := 26, slot := 6, constantValue := 0 }, { name := "twoToTheDoubleScaleUp", type := .double, accessFlags := 8, slot := 7, constantValue := 0 }, { name := "twoToTheDoubleScaleDown", type := .double, accessFlags := 8, slot := 8, constantValue := 0 }, { name := "$assertionsDisabled", type := .boolean, accessFlags := 4120, slot := 9, constantValue := 0 }]
  methods := #[k3m0, k3m1, k3m2]
  instanceTypes := #[]
  staticTypes := #[.double, .double, .double, .double, .double, .long, .long, .double, .double, .boolean]
  resolved := Array.replicate 460 none
  statics := none }

def pool4 : Array CpInfo := pool [(3, .methodref 4 5), (0, .class_ 6), (0, .nameAndType 7 8), (0, u "java/lang/Object"), (0, u "<init>"), (0, u "()V"), (0, .class_ 10), (0, u "com/example/housemartin/housemartin/firm/Members"), (0, .fieldref 9 12), (0, .nameAndType 13 14), (0, u "freeBlocks"), (0, u "[I"), (0, .fieldref 9 16), (0, .nameAndType 17 14), (0, u "firmsOfSize"), (0, .fieldref 9 19), (0, .nameAndType 20 21), (0, u "listed"), (0, u "Z"), (0, .fieldref 9 23), (0, .nameAndType 24 25), (0, u "heads"), (0, u "[J"), (0, .methodref 27 28), (0, .class_ 29), (0, .nameAndType 30 31), (0, u "java/lang/Math"), (0, u "max"), (0, u "(II)I"), (0, .fieldref 9 33), (0, .nameAndType 34 14), (0, u "pool"), (0, .methodref 36 37), (0, .class_ 38), (0, .nameAndType 39 40), (0, u "java/util/Arrays"), (0, u "fill"), (0, u "([II)V"), (3, .methodref 9 45), (0, .nameAndType 46 47), (0, u "count"), (0, u "(I)I"), (0, .methodref 9 49), (0, .nameAndType 50 47), (0, u "entry"), (0, .fieldref 9 52), (0, .nameAndType 53 54), (0, u "largest"), (0, u "I"), (3, u "(I)V"), (3, .methodref 27 63), (0, .nameAndType 64 31), (0, u "min"), (3, .integer 2147483647), (0, .methodref 9 70), (0, .nameAndType 71 72), (0, u "setHead"), (0, u "(III)V"), (0, .methodref 9 74), (0, .nameAndType 75 76), (0, u "recount"), (0, u "(II)V"), (7, .integer 2147483648), (2, u "poolEnd"), (2, u "freeEntries"), (0, u "J"), (29, .long 2147483639), (15, .long 4294967295), (1, .long 2), (1, u "NONE"), (2, u "SIZE_CLASSES"), (1, u "MAX_POOL"), (1, u "SLOT"), (1, u "ROOM"), (1, u "RUN"), (1, u "USED"), (1, u "HEADER"), (1, u "NEXT_FREE"), (0, u "LEFT"), (0, u "LEAST_JOINERS"), (8, u "add"), (0, u "remove")] 4

def k4c0 : Code := { maxStack := 4, maxLocals := 2, code := prog_10_method_1_code, exceptionTable := #[], attributes := #[] }
def k4m0 : Method := { name := "<init>", desc := "(I)V", sig := { parameters := [.int], returnType := none }, accessFlags := 0, code := some k4c0 }
def k4c1 : Code := { maxStack := 3, maxLocals := 2, code := prog_10_method_2_code, exceptionTable := #[], attributes := #[] }
def k4m1 : Method := { name := "count", desc := "(I)I", sig := { parameters := [.int], returnType := some .int }, accessFlags := 0, code := some k4c1 }
def k4c2 : Code := { maxStack := 6, maxLocals := 8, code := prog_10_method_7_code, exceptionTable := #[], attributes := #[] }
def k4m2 : Method := { name := "add", desc := "(II)V", sig := { parameters := [.int, .int], returnType := none }, accessFlags := 0, code := some k4c2 }
def k4c3 : Code := { maxStack := 5, maxLocals := 10, code := prog_10_method_8_code, exceptionTable := #[], attributes := #[] }
def k4m3 : Method := { name := "remove", desc := "(II)V", sig := { parameters := [.int, .int], returnType := none }, accessFlags := 0, code := some k4c3 }
def k4c4 : Code := { maxStack := 2, maxLocals := 2, code := prog_10_method_17_code, exceptionTable := #[], attributes := #[] }
def k4m4 : Method := { name := "entry", desc := "(I)I", sig := { parameters := [.int], returnType := some .int }, accessFlags := 2, code := some k4c4 }
def k4c5 : Code := { maxStack := 8, maxLocals := 4, code := prog_10_method_18_code, exceptionTable := #[], attributes := #[] }
def k4m5 : Method := { name := "setHead", desc := "(III)V", sig := { parameters := [.int, .int, .int], returnType := none }, accessFlags := 2, code := some k4c5 }
def k4c6 : Code := { maxStack := 8, maxLocals := 3, code := prog_10_method_19_code, exceptionTable := #[], attributes := #[] }
def k4m6 : Method := { name := "recount", desc := "(II)V", sig := { parameters := [.int, .int], returnType := none }, accessFlags := 2, code := some k4c6 }
/-- com/example/housemartin/housemartin/firm/Members -/
def k4 : Class := { plain "com/example/housemartin/housemartin/firm/Members" (some 0) with
  accessFlags := 48
  interfaces := #[]
  cf := some (fileOf pool4 9 #[] #[{ accessFlags := 0, nameIndex := 7, descriptorIndex := 58, attributes := #[] }, { accessFlags := 0, nameIndex := 46, descriptorIndex := 47, attributes := #[] }, { accessFlags := 0, nameIndex := 169, descriptorIndex := 76, attributes := #[] }, { accessFlags := 0, nameIndex := 170, descriptorIndex := 76, attributes := #[] }, { accessFlags := 2, nameIndex := 50, descriptorIndex := 47, attributes := #[] }, { accessFlags := 2, nameIndex := 71, descriptorIndex := 72, attributes := #[] }, { accessFlags := 2, nameIndex := 75, descriptorIndex := 76, attributes := #[] }] 48 4 #[] #[{ accessFlags := 26, nameIndex := 141, descriptorIndex := 54, attributes := #[] }, { accessFlags := 26, nameIndex := 144, descriptorIndex := 54, attributes := #[] }, { accessFlags := 26, nameIndex := 146, descriptorIndex := 54, attributes := #[] }, { accessFlags := 26, nameIndex := 148, descriptorIndex := 54, attributes := #[] }, { accessFlags := 26, nameIndex := 150, descriptorIndex := 54, attributes := #[] }, { accessFlags := 26, nameIndex := 152, descriptorIndex := 54, attributes := #[] }, { accessFlags := 26, nameIndex := 154, descriptorIndex := 54, attributes := #[] }, { accessFlags := 26, nameIndex := 156, descriptorIndex := 54, attributes := #[] }, { accessFlags := 26, nameIndex := 158, descriptorIndex := 54, attributes := #[] }, { accessFlags := 26, nameIndex := 159, descriptorIndex := 54, attributes := #[] }, { accessFlags := 26, nameIndex := 160, descriptorIndex := 54, attributes := #[] }, { accessFlags := 18, nameIndex := 24, descriptorIndex := 25, attributes := #[] }, { accessFlags := 2, nameIndex := 34, descriptorIndex := 14, attributes := #[] }, { accessFlags := 18, nameIndex := 13, descriptorIndex := 14, attributes := #[] }, { accessFlags := 2, nameIndex := 87, descriptorIndex := 54, attributes := #[] }, { accessFlags := 2, nameIndex := 90, descriptorIndex := 91, attributes := #[] }, { accessFlags := 2, nameIndex := 17, descriptorIndex := 14, attributes := #[] }, { accessFlags := 2, nameIndex := 53, descriptorIndex := 54, attributes := #[] }, { accessFlags := 2, nameIndex := 20, descriptorIndex := 21, attributes := #[] }])
  fields := #[{ name := "NONE", type := .int, accessFlags := 26, slot := 0, constantValue := 0 }, { name := "SIZE_CLASSES", type := .int, accessFlags := 26, slot := 1, constantValue := 0 }, { name := "MAX_POOL", type := .int, accessFlags := 26, slot := 2, constantValue := 0 }, { name := "SLOT", type := .int, accessFlags := 26, slot := 3, constantValue := 0 }, { name := "ROOM", type := .int, accessFlags := 26, slot := 4, constantValue := 0 }, { name := "RUN", type := .int, accessFlags := 26, slot := 5, constantValue := 0 }, { name := "USED", type := .int, accessFlags := 26, slot := 6, constantValue := 0 }, { name := "HEADER", type := .int, accessFlags := 26, slot := 7, constantValue := 0 }, { name := "NEXT_FREE", type := .int, accessFlags := 26, slot := 8, constantValue := 0 }, { name := "LEFT", type := .int, accessFlags := 26, slot := 9, constantValue := 0 }, { name := "LEAST_JOINERS", type := .int, accessFlags := 26, slot := 10, constantValue := 0 }, { name := "heads", type := (.array .long), accessFlags := 18, slot := 0, constantValue := 0 }, { name := "pool", type := (.array .int), accessFlags := 2, slot := 1, constantValue := 0 }, { name := "freeBlocks", type := (.array .int), accessFlags := 18, slot := 2, constantValue := 0 }, { name := "poolEnd", type := .int, accessFlags := 2, slot := 3, constantValue := 0 }, { name := "freeEntries", type := .long, accessFlags := 2, slot := 4, constantValue := 0 }, { name := "firmsOfSize", type := (.array .int), accessFlags := 2, slot := 5, constantValue := 0 }, { name := "largest", type := .int, accessFlags := 2, slot := 6, constantValue := 0 }, { name := "listed", type := .boolean, accessFlags := 2, slot := 7, constantValue := 0 }]
  methods := #[k4m0, k4m1, k4m2, k4m3, k4m4, k4m5, k4m6]
  instanceTypes := #[(.array .long), (.array .int), (.array .int), .int, .long, (.array .int), .int, .boolean]
  staticTypes := #[.int, .int, .int, .int, .int, .int, .int, .int, .int, .int, .int]
  resolved := Array.replicate 175 none
  statics := none }

def pool5 : Array CpInfo := pool [(2, .class_ 4), (1, u "java/lang/Object"), (0, u "<init>"), (0, u "()V"), (7, .class_ 16), (1, u "java/util/Arrays"), (57, .class_ 76), (1, u "java/util/Arrays$NaturalOrder"), (36, .class_ 115), (1, u "java/util/Arrays$LegacyMergeSort"), (1, u "Z"), (257, .class_ 376), (0, u "java/util/Arrays$ArrayList"), (68, u "$assertionsDisabled"), (269, u "MIN_ARRAY_SORT_GRAN"), (0, u "I"), (2, u "INSERTIONSORT_THRESHOLD"), (120, u "fill"), (4, u "([II)V"), (129, .class_ 976), (0, u "java/util/Arrays$ArrayItr")] 52

def k5m0 : Method := { name := "<init>", desc := "()V", sig := { parameters := [], returnType := none }, accessFlags := 2, code := none }
def k5c1 : Code := { maxStack := 3, maxLocals := 4, code := jdk_65_method_103_code, exceptionTable := #[], attributes := #[] }
def k5m1 : Method := { name := "fill", desc := "([II)V", sig := { parameters := [(.array .int), .int], returnType := none }, accessFlags := 9, code := some k5c1 }
/-- java/util/Arrays -/
def k5 : Class := { plain "java/util/Arrays" (some 0) with
  accessFlags := 49
  interfaces := #[]
  cf := some (fileOf pool5 14 #[.nestMembers #[975, 375, 113, 74]] #[{ accessFlags := 2, nameIndex := 5, descriptorIndex := 6, attributes := #[] }, { accessFlags := 9, nameIndex := 840, descriptorIndex := 845, attributes := #[] }] 49 2 #[] #[{ accessFlags := 26, nameIndex := 715, descriptorIndex := 716, attributes := #[] }, { accessFlags := 26, nameIndex := 719, descriptorIndex := 716, attributes := #[] }, { accessFlags := 4120, nameIndex := 445, descriptorIndex := 117, attributes := #[] }])
  fields := #[{ name := "MIN_ARRAY_SORT_GRAN", type := .int, accessFlags := 26, slot := 0, constantValue := 0 }, { name := "INSERTIONSORT_THRESHOLD", type := .int, accessFlags := 26, slot := 1, constantValue := 0 }, { name := "$assertionsDisabled", type := .boolean, accessFlags := 4120, slot := 2, constantValue := 0 }]
  methods := #[k5m0, k5m1]
  instanceTypes := #[]
  staticTypes := #[.int, .int, .boolean]
  resolved := Array.replicate 1029 none
  statics := none }

def pool6 : Array CpInfo := pool [(1, u "java/lang/Cloneable"), (0, .class_ 1), (0, u "java/lang/Object"), (0, .class_ 3)] 3

/-- java/lang/Cloneable -/
def k6 : Class := { plain "java/lang/Cloneable" (some 0) with
  accessFlags := 1537
  interfaces := #[]
  cf := some (fileOf pool6 2 #[] #[] 1537 4 #[] #[])
  fields := #[]
  methods := #[]
  instanceTypes := #[]
  staticTypes := #[]
  resolved := Array.replicate 8 none
  statics := none }

def pool7 : Array CpInfo := pool [(1, u "java/io/Serializable"), (0, .class_ 1), (0, u "java/lang/Object"), (0, .class_ 3)] 3

/-- java/io/Serializable -/
def k7 : Class := { plain "java/io/Serializable" (some 0) with
  accessFlags := 1537
  interfaces := #[]
  cf := some (fileOf pool7 2 #[] #[] 1537 4 #[] #[])
  fields := #[]
  methods := #[]
  instanceTypes := #[]
  staticTypes := #[]
  resolved := Array.replicate 8 none
  statics := none }

/-- the primitive byte -/
def k8 : Class := { plain "byte" none with kind := .primitive 'B', accessFlags := 0x411 }
/-- [B -/
def k9 : Class := { plain "[B" (some 0) with kind := .array 8 .byte, interfaces := #[6, 7], accessFlags := 1041 }

/-- the primitive double -/
def k10 : Class := { plain "double" none with kind := .primitive 'D', accessFlags := 0x411 }
/-- [D -/
def k11 : Class := { plain "[D" (some 0) with kind := .array 10 .double, interfaces := #[6, 7], accessFlags := 1041 }

/-- the primitive int -/
def k12 : Class := { plain "int" none with kind := .primitive 'I', accessFlags := 0x411 }
/-- [I -/
def k13 : Class := { plain "[I" (some 0) with kind := .array 12 .int, interfaces := #[6, 7], accessFlags := 1041 }

/-- the primitive long -/
def k14 : Class := { plain "long" none with kind := .primitive 'J', accessFlags := 0x411 }
/-- [J -/
def k15 : Class := { plain "[J" (some 0) with kind := .array 14 .long, interfaces := #[6, 7], accessFlags := 1041 }

/-- [[D -/
def k16 : Class := { plain "[[D" (some 0) with kind := .array 11 (.array .double), interfaces := #[6, 7], accessFlags := 1041 }

def heap : Heap := #[]
def classes : Array Class := #[k0, k1, k2, k3, k4, k5, k6, k7, k8, k9, k10, k11, k12, k13, k14, k15, k16]
def interned : List (Array UInt16 × Addr) := []
def slotsUsed : Nat := 0
def theMethod : MethodId := ⟨1, 1⟩
def args0 : Array Value := #[.int 3, .int 6, .int 7, .int 9, .int 1]
def aboutOver (below : List Frame) : State where
  vm := { classes := classes, interned := interned.toArray }
  heap := heap
  slotsUsed := slotsUsed
  threads := #[{ frames := .invoking theMethod args0 :: below }]
def below0 : List Frame := [.native { method := ⟨0, 0⟩, args := #[] }]
def about1 : State := aboutOver below0
def p0 : Program := .bare "" "" ""
def e0 : Env := launch0.env 0 0 0
theorem w_frames : about1.frames = Frame.invoking theMethod args0 :: below0 := rfl
set_option maxRecDepth 65536 in
theorem w_args : argsFit about1.vm theMethod args0 = true := by decide +kernel
set_option maxRecDepth 65536 in
theorem w_heap : heapFits about1 = true := by decide +kernel
set_option maxRecDepth 65536 in
theorem w_runnable : about1.curStatus? = some .runnable := by decide +kernel
set_option maxRecDepth 65536 in
theorem w_alone : about1.alone = true := by decide +kernel
set_option maxRecDepth 65536 in
theorem w_named : about1.methodNamed? x = some theMethod := by decide +kernel
set_option maxRecDepth 65536 in
theorem w_hears : about1.hears theMethod below0 = true := by decide +kernel
set_option maxRecDepth 65536 in
theorem w_ripe : about1.ripe theMethod args0 below0 = true := by decide +kernel
theorem w_running : about1.status = .running := rfl
set_option maxRecDepth 65536 in
theorem w_room : about1.hasRoom e0.platform room_1 = true :=
  launch0.hasRoom_least _ room_1 (by decide +kernel) (by decide +kernel) (by decide +kernel) (by decide +kernel) (by decide +kernel) (by decide +kernel)
theorem allAtoms_all (ts : List Jvm.Cond) (a : Array Jvm.Value) (st : Jvm.State) : (allAtoms ts).before a st = ts.all (fun c => c.before a st) := by
  induction ts with
  | nil => rfl
  | cons c t ih =>
    show (Jvm.Cond.and c (allAtoms t)).before a st = _
    rw [Jvm.Cond.before_and, ih, List.all_cons]
def words1 : List Jvm.Cond := Jvm.Cond.code x code maxLocals ret :: tables_1
/-- a 'code' word, met by the world's own term for the bytes: nothing is compared byte by byte -/
theorem code_word {y : MethodName} {bytes : ByteArray} {mx : Nat} {rt : Option FieldType} {a : Array Value} {s : State} {m : MethodId} {meth : Method} {c : Code} (h1 : s.methodNamed? y = some m) (h2 : s.vm.method? m = some meth) (h3 : meth.code = some c) (h4 : c.code = bytes)
    (h5 : (c.maxLocals == mx && c.exceptionTable.isEmpty && decide (c.maxStack ≤ mostOperands) && decide (meth.sig.returnType = rt) && !meth.locks && decide (parseMethodDescriptor y.desc = some meth.sig)) = true) : (Jvm.Cond.code y bytes mx rt).before a s = true := by
  simp only [Bool.and_eq_true, beq_iff_eq, Bool.not_eq_true', decide_eq_true_eq] at h5
  obtain ⟨⟨⟨⟨⟨g1, g2⟩, g3⟩, g4⟩, g5⟩, g6⟩ := h5
  simp [Cond.before, Cond.holds, Cond.value, h1, h2, h3, h4, g1, g2, g3, g4, g5, g6]
def isCode : Jvm.Cond → Bool
  | .code _ _ _ _ => true
  | _ => false
theorem all_split {L : List Jvm.Cond} {P : Jvm.Cond → Bool} (h1 : L.all (fun c => isCode c || P c) = true) (h2 : ∀ c ∈ L.filter isCode, P c = true) : L.all P = true := by
  refine List.all_eq_true.mpr fun c hc => ?_
  have h := List.all_eq_true.mp h1 c hc
  rcases Bool.eq_false_or_eq_true (isCode c) with hi | hi
  · exact h2 c (List.mem_filter.mpr ⟨hc, hi⟩)
  · simpa [hi] using h
set_option maxRecDepth 65536 in
theorem w_c0 : (Jvm.Cond.code x code maxLocals ret).before args0 about1 = true := code_word (m := ⟨1, 1⟩) (meth := k1m1) (c := k1c1) (by decide +kernel) rfl rfl rfl (by decide +kernel)
set_option maxRecDepth 65536 in
theorem w_c1 : (Jvm.Cond.code ({ cls := "com/example/housemartin/housemartin/firm/FirmSlots", name := "<init>", desc := "(I)V" } : Jvm.MethodName) prog_8_method_1_code (4 : Nat) (Option.none : Option Jvm.ClassFile.FieldType)).before args0 about1 = true := code_word (m := ⟨2, 0⟩) (meth := k2m0) (c := k2c0) (by decide +kernel) rfl rfl rfl (by decide +kernel)
set_option maxRecDepth 65536 in
theorem w_c2 : (Jvm.Cond.code ({ cls := "java/lang/Object", name := "<init>", desc := "()V" } : Jvm.MethodName) object_method_1_code (1 : Nat) (Option.none : Option Jvm.ClassFile.FieldType)).before args0 about1 = true := code_word (m := ⟨0, 0⟩) (meth := k0m0) (c := k0c0) (by decide +kernel) rfl rfl rfl (by decide +kernel)
set_option maxRecDepth 65536 in
theorem w_c3 : (Jvm.Cond.code ({ cls := "java/lang/Math", name := "min", desc := "(II)I" } : Jvm.MethodName) jdk_29_method_69_code (2 : Nat) (Option.some Jvm.ClassFile.FieldType.int)).before args0 about1 = true := code_word (m := ⟨3, 2⟩) (meth := k3m2) (c := k3c2) (by decide +kernel) rfl rfl rfl (by decide +kernel)
set_option maxRecDepth 65536 in
theorem w_c4 : (Jvm.Cond.code ({ cls := "com/example/housemartin/housemartin/firm/Members", name := "<init>", desc := "(I)V" } : Jvm.MethodName) prog_10_method_1_code (2 : Nat) (Option.none : Option Jvm.ClassFile.FieldType)).before args0 about1 = true := code_word (m := ⟨4, 0⟩) (meth := k4m0) (c := k4c0) (by decide +kernel) rfl rfl rfl (by decide +kernel)
set_option maxRecDepth 65536 in
theorem w_c5 : (Jvm.Cond.code ({ cls := "java/lang/Math", name := "max", desc := "(II)I" } : Jvm.MethodName) jdk_29_method_65_code (2 : Nat) (Option.some Jvm.ClassFile.FieldType.int)).before args0 about1 = true := code_word (m := ⟨3, 1⟩) (meth := k3m1) (c := k3c1) (by decide +kernel) rfl rfl rfl (by decide +kernel)
set_option maxRecDepth 65536 in
theorem w_c6 : (Jvm.Cond.code ({ cls := "java/util/Arrays", name := "fill", desc := "([II)V" } : Jvm.MethodName) jdk_65_method_103_code (4 : Nat) (Option.none : Option Jvm.ClassFile.FieldType)).before args0 about1 = true := code_word (m := ⟨5, 1⟩) (meth := k5m1) (c := k5c1) (by decide +kernel) rfl rfl rfl (by decide +kernel)
set_option maxRecDepth 65536 in
theorem w_c7 : (Jvm.Cond.code ({ cls := "com/example/housemartin/housemartin/firm/FirmSlots", name := "open", desc := "(DDDI)I" } : Jvm.MethodName) prog_8_method_2_code (11 : Nat) (Option.some Jvm.ClassFile.FieldType.int)).before args0 about1 = true := code_word (m := ⟨2, 1⟩) (meth := k2m1) (c := k2c1) (by decide +kernel) rfl rfl rfl (by decide +kernel)
set_option maxRecDepth 65536 in
theorem w_c8 : (Jvm.Cond.code ({ cls := "com/example/housemartin/housemartin/firm/FirmSlots", name := "id", desc := "(I)J" } : Jvm.MethodName) prog_8_method_8_code (2 : Nat) (Option.some Jvm.ClassFile.FieldType.long)).before args0 about1 = true := code_word (m := ⟨2, 4⟩) (meth := k2m4) (c := k2c4) (by decide +kernel) rfl rfl rfl (by decide +kernel)
set_option maxRecDepth 65536 in
theorem w_c9 : (Jvm.Cond.code ({ cls := "com/example/housemartin/housemartin/firm/FirmSlots", name := "birth", desc := "(I)I" } : Jvm.MethodName) prog_8_method_9_code (2 : Nat) (Option.some Jvm.ClassFile.FieldType.int)).before args0 about1 = true := code_word (m := ⟨2, 5⟩) (meth := k2m5) (c := k2c5) (by decide +kernel) rfl rfl rfl (by decide +kernel)
set_option maxRecDepth 65536 in
theorem w_c10 : (Jvm.Cond.code ({ cls := "com/example/housemartin/housemartin/firm/FirmSlots", name := "a", desc := "(I)D" } : Jvm.MethodName) prog_8_method_10_code (2 : Nat) (Option.some Jvm.ClassFile.FieldType.double)).before args0 about1 = true := code_word (m := ⟨2, 6⟩) (meth := k2m6) (c := k2c6) (by decide +kernel) rfl rfl rfl (by decide +kernel)
set_option maxRecDepth 65536 in
theorem w_c11 : (Jvm.Cond.code ({ cls := "com/example/housemartin/housemartin/firm/FirmSlots", name := "b", desc := "(I)D" } : Jvm.MethodName) prog_8_method_11_code (2 : Nat) (Option.some Jvm.ClassFile.FieldType.double)).before args0 about1 = true := code_word (m := ⟨2, 7⟩) (meth := k2m7) (c := k2c7) (by decide +kernel) rfl rfl rfl (by decide +kernel)
set_option maxRecDepth 65536 in
theorem w_c12 : (Jvm.Cond.code ({ cls := "com/example/housemartin/housemartin/firm/FirmSlots", name := "beta", desc := "(I)D" } : Jvm.MethodName) prog_8_method_12_code (2 : Nat) (Option.some Jvm.ClassFile.FieldType.double)).before args0 about1 = true := code_word (m := ⟨2, 8⟩) (meth := k2m8) (c := k2c8) (by decide +kernel) rfl rfl rfl (by decide +kernel)
set_option maxRecDepth 65536 in
theorem w_c13 : (Jvm.Cond.code ({ cls := "com/example/housemartin/housemartin/firm/FirmSlots", name := "count", desc := "()I" } : Jvm.MethodName) prog_8_method_22_code (1 : Nat) (Option.some Jvm.ClassFile.FieldType.int)).before args0 about1 = true := code_word (m := ⟨2, 9⟩) (meth := k2m9) (c := k2c9) (by decide +kernel) rfl rfl rfl (by decide +kernel)
set_option maxRecDepth 65536 in
theorem w_c14 : (Jvm.Cond.code ({ cls := "com/example/housemartin/housemartin/firm/FirmSlots", name := "join", desc := "(IID)V" } : Jvm.MethodName) prog_8_method_3_code (5 : Nat) (Option.none : Option Jvm.ClassFile.FieldType)).before args0 about1 = true := code_word (m := ⟨2, 2⟩) (meth := k2m2) (c := k2c2) (by decide +kernel) rfl rfl rfl (by decide +kernel)
set_option maxRecDepth 65536 in
theorem w_c15 : (Jvm.Cond.code ({ cls := "com/example/housemartin/housemartin/firm/Members", name := "add", desc := "(II)V" } : Jvm.MethodName) prog_10_method_7_code (8 : Nat) (Option.none : Option Jvm.ClassFile.FieldType)).before args0 about1 = true := code_word (m := ⟨4, 2⟩) (meth := k4m2) (c := k4c2) (by decide +kernel) rfl rfl rfl (by decide +kernel)
set_option maxRecDepth 65536 in
theorem w_c16 : (Jvm.Cond.code ({ cls := "com/example/housemartin/housemartin/firm/Members", name := "count", desc := "(I)I" } : Jvm.MethodName) prog_10_method_2_code (2 : Nat) (Option.some Jvm.ClassFile.FieldType.int)).before args0 about1 = true := code_word (m := ⟨4, 1⟩) (meth := k4m1) (c := k4c1) (by decide +kernel) rfl rfl rfl (by decide +kernel)
set_option maxRecDepth 65536 in
theorem w_c17 : (Jvm.Cond.code ({ cls := "com/example/housemartin/housemartin/firm/Members", name := "setHead", desc := "(III)V" } : Jvm.MethodName) prog_10_method_18_code (4 : Nat) (Option.none : Option Jvm.ClassFile.FieldType)).before args0 about1 = true := code_word (m := ⟨4, 5⟩) (meth := k4m5) (c := k4c5) (by decide +kernel) rfl rfl rfl (by decide +kernel)
set_option maxRecDepth 65536 in
theorem w_c18 : (Jvm.Cond.code ({ cls := "com/example/housemartin/housemartin/firm/Members", name := "recount", desc := "(II)V" } : Jvm.MethodName) prog_10_method_19_code (3 : Nat) (Option.none : Option Jvm.ClassFile.FieldType)).before args0 about1 = true := code_word (m := ⟨4, 6⟩) (meth := k4m6) (c := k4c6) (by decide +kernel) rfl rfl rfl (by decide +kernel)
set_option maxRecDepth 65536 in
theorem w_c19 : (Jvm.Cond.code ({ cls := "com/example/housemartin/housemartin/firm/FirmSlots", name := "add", desc := "(ID)V" } : Jvm.MethodName) prog_8_method_25_code (14 : Nat) (Option.none : Option Jvm.ClassFile.FieldType)).before args0 about1 = true := code_word (m := ⟨2, 10⟩) (meth := k2m10) (c := k2c10) (by decide +kernel) rfl rfl rfl (by decide +kernel)
set_option maxRecDepth 65536 in
theorem w_c20 : (Jvm.Cond.code ({ cls := "com/example/housemartin/housemartin/firm/FirmSlots", name := "markChanged", desc := "(I)V" } : Jvm.MethodName) prog_8_method_26_code (2 : Nat) (Option.none : Option Jvm.ClassFile.FieldType)).before args0 about1 = true := code_word (m := ⟨2, 11⟩) (meth := k2m11) (c := k2c11) (by decide +kernel) rfl rfl rfl (by decide +kernel)
set_option maxRecDepth 65536 in
theorem w_c21 : (Jvm.Cond.code ({ cls := "com/example/housemartin/housemartin/firm/FirmSlots", name := "roundingError", desc := "(DDD)D" } : Jvm.MethodName) prog_8_method_27_code (10 : Nat) (Option.some Jvm.ClassFile.FieldType.double)).before args0 about1 = true := code_word (m := ⟨2, 12⟩) (meth := k2m12) (c := k2c12) (by decide +kernel) rfl rfl rfl (by decide +kernel)
set_option maxRecDepth 65536 in
theorem w_c22 : (Jvm.Cond.code ({ cls := "com/example/housemartin/housemartin/firm/FirmSlots", name := "leave", desc := "(IID)Z" } : Jvm.MethodName) prog_8_method_4_code (6 : Nat) (Option.some Jvm.ClassFile.FieldType.boolean)).before args0 about1 = true := code_word (m := ⟨2, 3⟩) (meth := k2m3) (c := k2c3) (by decide +kernel) rfl rfl rfl (by decide +kernel)
set_option maxRecDepth 65536 in
theorem w_c23 : (Jvm.Cond.code ({ cls := "com/example/housemartin/housemartin/firm/Members", name := "remove", desc := "(II)V" } : Jvm.MethodName) prog_10_method_8_code (10 : Nat) (Option.none : Option Jvm.ClassFile.FieldType)).before args0 about1 = true := code_word (m := ⟨4, 3⟩) (meth := k4m3) (c := k4c3) (by decide +kernel) rfl rfl rfl (by decide +kernel)
set_option maxRecDepth 65536 in
theorem w_c24 : (Jvm.Cond.code ({ cls := "com/example/housemartin/housemartin/firm/Members", name := "entry", desc := "(I)I" } : Jvm.MethodName) prog_10_method_17_code (2 : Nat) (Option.some Jvm.ClassFile.FieldType.int)).before args0 about1 = true := code_word (m := ⟨4, 4⟩) (meth := k4m4) (c := k4c4) (by decide +kernel) rfl rfl rfl (by decide +kernel)
def codes1 : List Jvm.Cond := [Jvm.Cond.code x code maxLocals ret, Jvm.Cond.code ({ cls := "com/example/housemartin/housemartin/firm/FirmSlots", name := "<init>", desc := "(I)V" } : Jvm.MethodName) prog_8_method_1_code (4 : Nat) (Option.none : Option Jvm.ClassFile.FieldType), Jvm.Cond.code ({ cls := "java/lang/Object", name := "<init>", desc := "()V" } : Jvm.MethodName) object_method_1_code (1 : Nat) (Option.none : Option Jvm.ClassFile.FieldType), Jvm.Cond.code ({ cls := "java/lang/Math", name := "min", desc := "(II)I" } : Jvm.MethodName) jdk_29_method_69_code (2 : Nat) (Option.some Jvm.ClassFile.FieldType.int), Jvm.Cond.code ({ cls := "com/example/housemartin/housemartin/firm/Members", name := "<init>", desc := "(I)V" } : Jvm.MethodName) prog_10_method_1_code (2 : Nat) (Option.none : Option Jvm.ClassFile.FieldType), Jvm.Cond.code ({ cls := "java/lang/Math", name := "max", desc := "(II)I" } : Jvm.MethodName) jdk_29_method_65_code (2 : Nat) (Option.some Jvm.ClassFile.FieldType.int), Jvm.Cond.code ({ cls := "java/util/Arrays", name := "fill", desc := "([II)V" } : Jvm.MethodName) jdk_65_method_103_code (4 : Nat) (Option.none : Option Jvm.ClassFile.FieldType), Jvm.Cond.code ({ cls := "com/example/housemartin/housemartin/firm/FirmSlots", name := "open", desc := "(DDDI)I" } : Jvm.MethodName) prog_8_method_2_code (11 : Nat) (Option.some Jvm.ClassFile.FieldType.int), Jvm.Cond.code ({ cls := "com/example/housemartin/housemartin/firm/FirmSlots", name := "id", desc := "(I)J" } : Jvm.MethodName) prog_8_method_8_code (2 : Nat) (Option.some Jvm.ClassFile.FieldType.long), Jvm.Cond.code ({ cls := "com/example/housemartin/housemartin/firm/FirmSlots", name := "birth", desc := "(I)I" } : Jvm.MethodName) prog_8_method_9_code (2 : Nat) (Option.some Jvm.ClassFile.FieldType.int), Jvm.Cond.code ({ cls := "com/example/housemartin/housemartin/firm/FirmSlots", name := "a", desc := "(I)D" } : Jvm.MethodName) prog_8_method_10_code (2 : Nat) (Option.some Jvm.ClassFile.FieldType.double), Jvm.Cond.code ({ cls := "com/example/housemartin/housemartin/firm/FirmSlots", name := "b", desc := "(I)D" } : Jvm.MethodName) prog_8_method_11_code (2 : Nat) (Option.some Jvm.ClassFile.FieldType.double), Jvm.Cond.code ({ cls := "com/example/housemartin/housemartin/firm/FirmSlots", name := "beta", desc := "(I)D" } : Jvm.MethodName) prog_8_method_12_code (2 : Nat) (Option.some Jvm.ClassFile.FieldType.double), Jvm.Cond.code ({ cls := "com/example/housemartin/housemartin/firm/FirmSlots", name := "count", desc := "()I" } : Jvm.MethodName) prog_8_method_22_code (1 : Nat) (Option.some Jvm.ClassFile.FieldType.int), Jvm.Cond.code ({ cls := "com/example/housemartin/housemartin/firm/FirmSlots", name := "join", desc := "(IID)V" } : Jvm.MethodName) prog_8_method_3_code (5 : Nat) (Option.none : Option Jvm.ClassFile.FieldType), Jvm.Cond.code ({ cls := "com/example/housemartin/housemartin/firm/Members", name := "add", desc := "(II)V" } : Jvm.MethodName) prog_10_method_7_code (8 : Nat) (Option.none : Option Jvm.ClassFile.FieldType), Jvm.Cond.code ({ cls := "com/example/housemartin/housemartin/firm/Members", name := "count", desc := "(I)I" } : Jvm.MethodName) prog_10_method_2_code (2 : Nat) (Option.some Jvm.ClassFile.FieldType.int), Jvm.Cond.code ({ cls := "com/example/housemartin/housemartin/firm/Members", name := "setHead", desc := "(III)V" } : Jvm.MethodName) prog_10_method_18_code (4 : Nat) (Option.none : Option Jvm.ClassFile.FieldType), Jvm.Cond.code ({ cls := "com/example/housemartin/housemartin/firm/Members", name := "recount", desc := "(II)V" } : Jvm.MethodName) prog_10_method_19_code (3 : Nat) (Option.none : Option Jvm.ClassFile.FieldType), Jvm.Cond.code ({ cls := "com/example/housemartin/housemartin/firm/FirmSlots", name := "add", desc := "(ID)V" } : Jvm.MethodName) prog_8_method_25_code (14 : Nat) (Option.none : Option Jvm.ClassFile.FieldType), Jvm.Cond.code ({ cls := "com/example/housemartin/housemartin/firm/FirmSlots", name := "markChanged", desc := "(I)V" } : Jvm.MethodName) prog_8_method_26_code (2 : Nat) (Option.none : Option Jvm.ClassFile.FieldType), Jvm.Cond.code ({ cls := "com/example/housemartin/housemartin/firm/FirmSlots", name := "roundingError", desc := "(DDD)D" } : Jvm.MethodName) prog_8_method_27_code (10 : Nat) (Option.some Jvm.ClassFile.FieldType.double), Jvm.Cond.code ({ cls := "com/example/housemartin/housemartin/firm/FirmSlots", name := "leave", desc := "(IID)Z" } : Jvm.MethodName) prog_8_method_4_code (6 : Nat) (Option.some Jvm.ClassFile.FieldType.boolean), Jvm.Cond.code ({ cls := "com/example/housemartin/housemartin/firm/Members", name := "remove", desc := "(II)V" } : Jvm.MethodName) prog_10_method_8_code (10 : Nat) (Option.none : Option Jvm.ClassFile.FieldType), Jvm.Cond.code ({ cls := "com/example/housemartin/housemartin/firm/Members", name := "entry", desc := "(I)I" } : Jvm.MethodName) prog_10_method_17_code (2 : Nat) (Option.some Jvm.ClassFile.FieldType.int)]
set_option maxRecDepth 65536 in
theorem codes_eq : words1.filter isCode = codes1 := rfl
theorem w_codes : ∀ c ∈ words1.filter isCode, c.before args0 about1 = true := by
  rw [codes_eq]
  intro c hc
  simp only [codes1, List.mem_cons, List.not_mem_nil, or_false] at hc
  rcases hc with rfl | rfl | rfl | rfl | rfl | rfl | rfl | rfl | rfl | rfl | rfl | rfl | rfl | rfl | rfl | rfl | rfl | rfl | rfl | rfl | rfl | rfl | rfl | rfl | rfl
  · exact w_c0
  · exact w_c1
  · exact w_c2
  · exact w_c3
  · exact w_c4
  · exact w_c5
  · exact w_c6
  · exact w_c7
  · exact w_c8
  · exact w_c9
  · exact w_c10
  · exact w_c11
  · exact w_c12
  · exact w_c13
  · exact w_c14
  · exact w_c15
  · exact w_c16
  · exact w_c17
  · exact w_c18
  · exact w_c19
  · exact w_c20
  · exact w_c21
  · exact w_c22
  · exact w_c23
  · exact w_c24
set_option maxRecDepth 65536 in
theorem w_t1 : (words1.take 24).all (fun c => isCode c || c.before args0 about1) = true := by decide +kernel
set_option maxRecDepth 65536 in
theorem w_t2 : ((words1.drop 24).take 24).all (fun c => isCode c || c.before args0 about1) = true := by decide +kernel
set_option maxRecDepth 65536 in
theorem w_t3 : (((words1.drop 24).drop 24).take 24).all (fun c => isCode c || c.before args0 about1) = true := by decide +kernel
set_option maxRecDepth 65536 in
theorem w_t4 : ((((words1.drop 24).drop 24).drop 24).take 24).all (fun c => isCode c || c.before args0 about1) = true := by decide +kernel
set_option maxRecDepth 65536 in
theorem w_t5 : (((((words1.drop 24).drop 24).drop 24).drop 24).take 24).all (fun c => isCode c || c.before args0 about1) = true := by decide +kernel
set_option maxRecDepth 65536 in
theorem w_t6 : ((((((words1.drop 24).drop 24).drop 24).drop 24).drop 24).take 24).all (fun c => isCode c || c.before args0 about1) = true := by decide +kernel
set_option maxRecDepth 65536 in
theorem w_t7 : ((((((words1.drop 24).drop 24).drop 24).drop 24).drop 24).drop 24).all (fun c => isCode c || c.before args0 about1) = true := by decide +kernel
theorem w_tables : (allAtoms (Jvm.Cond.code x code maxLocals ret :: tables_1)).before args0 about1 = true := by
  rw [allAtoms_all]
  show words1.all (fun c => c.before args0 about1) = true
  refine all_split ?_ w_codes
  rw [← List.take_append_drop 24 words1, List.all_append, w_t1, ← List.take_append_drop 24 (words1.drop 24), List.all_append, w_t2, ← List.take_append_drop 24 ((words1.drop 24).drop 24), List.all_append, w_t3, ← List.take_append_drop 24 (((words1.drop 24).drop 24).drop 24), List.all_append, w_t4, ← List.take_append_drop 24 ((((words1.drop 24).drop 24).drop 24).drop 24), List.all_append, w_t5, ← List.take_append_drop 24 (((((words1.drop 24).drop 24).drop 24).drop 24).drop 24), List.all_append, w_t6, w_t7]
  rfl
set_option maxRecDepth 65536 in
theorem w_case : (Jvm.Cond.and given_1 narrow_1).before args0 about1 = true := by decide +kernel
theorem w_applies : (headSpec (Jvm.Cond.code x code maxLocals ret :: tables_1) room_1).applies x e0.platform about1 = true :=
  (Spec.applies_iff w_frames).mpr ⟨w_running, w_runnable, w_alone, w_named, w_hears, w_ripe, w_room, w_tables⟩
theorem atStart : AtStart classFile x code maxLocals ret World_1 tables_1 room_1 Calls_1 rest_1 Pre_1 launch0 p0 e0 about1 theMethod args0 below0 :=
  ⟨lists_1, trivial, launch0.admits_env _ _ _, launch0.least_env, fairChoices_fair.cas, fairChoices_fair.clock, w_frames, w_args, w_heap, w_applies, trivial, trivial, w_case⟩
end start1
theorem witness_1 : WitnessClaimed_1 := ⟨start1.p0, start1.e0, start1.about1, start1.theMethod, start1.args0, start1.below0, start1.atStart⟩
end Jvm.Pilot.@@N@@
