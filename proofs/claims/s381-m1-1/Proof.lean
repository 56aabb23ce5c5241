import JvmDerived
import JvmDerived.Pilot.@@N@@Statement
import JvmDerived.Pilot.@@N@@Code
set_option linter.unusedVariables false
set_option linter.unusedSimpArgs false
namespace Jvm.Pilot.@@N@@
open Jvm Jvm.ClassFile Sem Op Lib Jvm.Free Jvm.Stand Jvm.LawKit Jvm.RoadKit Bundle Jvm.Pilot.@@N@@.Jvm.D
/-- a body's contract by a walk whose goal is a predicate G: 'go' takes a step, 'fin' a return -/
theorem own_enter {l : Launch} {y : MethodName} {cd : ByteArray} {ml : Nat} {rt : Option FieldType} {ws : List Jvm.Cond} {R : Room} {Z : State} {h0 : Heap} {as : Array Value} {Q : Option Value → Heap → List Loc → Prop} (hpl : plainFor y = true)
    (body : ∀ (p : Program) (e : Env) (s : State) (m : MethodId) (below : List Frame) (meth : Method) (c : Code) (s₁ : State) (G : State → Prop),
      Stand p l e R s m as below meth c s₁ [] 0 0 → p.tables.exec = Jvm.exec → c.code = cd → c.maxLocals = ml → Z.Warmed39 s.vm → s.vm.findClass y.cls = some m.cls → meth.name = y.name → meth.sig.returnType = rt → s₁.heap = h0 →
      (∀ {a b : State}, (∀ t, Steps p.tables e below b t → Steps p.tables e below a t) → G b → G a) →
      (∀ {T : State} {locs : List Loc} {cells slots : Nat} {g : JFrame} (v : Option Value), Stand p l e R s m as below meth c T locs cells slots → (rt = none → v = none) →
        (∀ fs, (∀ (f : JFrame) (acts : List Action), f.method = m → f.locked = none → f.entered = [] → (doReturn e (T.setTop f) acts v).1 = T.setFrames fs) → Steps p.tables e below (T.setTop g) (T.setFrames fs)) →
        cells ≤ R.cells → slots ≤ R.slots → Q v T.heap locs → G (T.setTop g)) →
      G (s₁.setTop (entryFrame m as ml))) :
    MetFree l y (head1 (Jvm.Cond.code y cd ml rt :: ws) R) (fun a U => a = as ∧ Z.Warmed39 U.vm ∧ U.heap = h0) (fun _ _ _ _ _ => True) (fun _ U o U' => ∃ v L, o = .returned v ∧ Q v U'.heap L ∧ FrameEnd U o U' L R.cells R.slots) := by
  refine MetFree.of_bodySF hpl hisR ?_
  intro p e s m args below meth c s₁ Bd hml0 hP hK
  obtain ⟨rfl, hZ, hh⟩ := hP
  have hlk : meth.locks = false := Bd.notSynchronized
  have key := body p e s m below meth c s₁ (fun a => ∃ t, Steps p.tables e below a t ∧ ∃ o, t.status = .running ∧ Ended t below o ∧ ∃ v L, o = .returned v ∧ Q v t.heap L ∧ FrameEnd s o t L R.cells R.slots)
    (Stand.of_body Bd) Bd.exec Bd.bytes hml0 hZ (findClass_of_methodNamed Bd.named) (name_of_methodNamed Bd.named Bd.method).1 Bd.returns (by rw [← hh, Bd.state]; rfl)
    (fun h g => by obtain ⟨t, h1, h2⟩ := g; exact ⟨t, h t h1, h2⟩)
    (fun {T locs cells slots g} v X hv hs hc hsl hQ => by
      obtain ⟨fs, hr, hrun, hended, hW, hsame⟩ := X.leave (v := v) (fun h => hv (Bd.returns.symm.trans h)) hlk
      exact ⟨_, hs fs hr, _, hrun, hended, v, locs, rfl, hQ, ⟨_, rfl⟩, hW, hsame.mono hc hsl⟩)
  obtain ⟨t, h1, o, h2, h3, h4⟩ := key
  exact ⟨t, o, h1, h2, h3, h4⟩
theorem own_lrem {p : Program} {l : Launch} {e : Env} {R : Room} {s : State} {m : MethodId} {args : Array Value} {below : List Frame} {meth : Method} {c : Code} {T : State} {locs : List Loc} {cells slots : Nat} {g : JFrame} {target : State} (X : Stand p l e R s m args below meth c T locs cells slots) (hx : p.tables.exec = Jvm.exec) (hg : g.method = m) {x y : Int64} {rest : List Value} (hd : decode c.code g.pc = .ok (.lrem, 1)) (hs : g.stack = .long y :: .long x :: rest) (hy : y ≠ 0)
    (hr : Steps p.tables e below (T.setTop { g with pc := g.pc + 1, stack := .long (x % y) :: rest }) target) : Steps p.tables e below (T.setTop g) target := XS.lrem X.here hx hg hd hs hy (by rw [lrem_mod]; exact hr)
theorem own_irr (x : Int32) : ¬ x < x := Int32.lt_irrefl
theorem own_irrL (x : Int64) : ¬ x < x := Int64.lt_irrefl
theorem own_eq_int {a : Term} {k : Int32} {args : Array Value} {first s : State} {o : Option Outcome} {idx : List Nat} (h : (Jvm.Cond.eq a (.int k)).value args first o s idx = some true) : a.eval args first o idx s = some (.int k) := by
  obtain ⟨x, y, ha, hb, k1, k2⟩ := cmp_v (Or.inl h)
  cases (show some (Value.int k) = some y from hb)
  obtain ⟨z, rfl⟩ := k2
  have q : (Jvm.Cond.eq a (.int k)).value args first o s idx = some (decide (z = k)) := by simp [Cond.value, ha, Term.eval]
  rw [gotT q h] at ha
  exact ha
theorem own_eq_ref {a b : Term} {u : Addr} {args : Array Value} {first s : State} {o : Option Outcome} {idx : List Nat} (h : (Jvm.Cond.eq a b).value args first o s idx = some true) (hb : b.eval args first o idx s = some (.ref u)) : a.eval args first o idx s = some (.ref u) := by
  obtain ⟨x, y, ha, hb', k1, k2⟩ := cmp_v (Or.inl h)
  cases hb.symm.trans hb'
  have hr : x.isRef = true := by cases x <;> simp_all [Kin, Value.isRef]
  have q := gotT (eq_R ha hb hr rfl) h
  rw [q] at ha
  exact ha
theorem own_exa_ns {Z : State} {h : Heap} {a : Addr} {C : String} (F : Exa Z h a C) : ∀ cell : Cell, h[a]? = some cell → cell.vm.isStatics = false := fun cell hc => by
  obtain ⟨c, k, h1, -, -, h4, -⟩ := F
  cases hc.symm.trans h1
  exact h4
theorem own_sta_keep {Z : State} {h h' : Heap} {C n d : String} {v : Value} {ws : List Addr} (F : Sta Z h C n d v) (K : Keep h h' ws) (q : ∀ a ∈ ws, ∀ cell : Cell, h[a]? = some cell → cell.vm.isStatics = false) : Sta Z h' C n d v := by
  obtain ⟨cf, i, k, f, st, cell, h1, h2, h3, h4, h5, h6, h7⟩ := F
  exact ⟨cf, i, k, f, st, cell, h1, h2, h3, h4, K.2.1 _ _ h5 (fun z => by rw [q _ z _ h5] at h6; cases h6), h6, h7⟩
theorem own_len {s : State} {args : Array Value} {t : Term} {a : Addr} {cl : Cell} {ty : FieldType} {z : Int32} (ht : t.eval args s none [] s = some (.ref a)) (A : Arr s s.heap a cl ty) (h : (Term.length t).eval args s none [] s = some (.int z)) : cl.slots.size < 2 ^ 31 ∧ cl.slots.size.toInt32 = z := by
  have ha := Arr.fin (State.Warmed39.refl s).alike A
  by_cases hn : cl.slots.size < 2 ^ 31
  · have q := (len_f ht ha hn).symm.trans h
    exact ⟨hn, Value.int.inj (Option.some.inj q)⟩
  · simp [Term.eval, ht, ha] at h
    omega
theorem own_elem {s : State} {args : Array Value} {t : Term} {a : Addr} {cl : Cell} {ty : FieldType} {j : Int32} {v : Value} (ht : t.eval args s none [] s = some (.ref a)) (A : Arr s s.heap a cl ty) (h : (Term.elem t (.int j)).eval args s none [] s = some v) (hn : ¬ j < 0) : cl.slots[j.toNatClampNeg]? = some v :=
  (elem_f ht rfl (Arr.fin (State.Warmed39.refl s).alike A) hn).symm.trans h
theorem own_selp {Z s : State} {a0 args : Array Value} {y : MethodName} {n : Nat} (hZ : Z.Warmed39 s.vm) (wi : (Jvm.Cond.instantiable y.cls n).before a0 Z = true) (wp : (Jvm.Cond.privateMethod y).before a0 Z = true) (wm : (Jvm.Cond.instanceMethod y).before a0 Z = true) (hy : y.cls ≠ "java/lang/invoke/MethodHandle" ∧ y.cls ≠ "java/lang/invoke/VarHandle") : (Jvm.Cond.selects y.cls y y).before args s = true := by
  have wi' : (Jvm.Cond.instantiable y.cls n).before args s = true := mvT hZ wi
  obtain ⟨c, k, h1, h2, -, h4, -⟩ := Cond.instantiable_spec wi'
  exact selects_self_of_private h1 h2 (Bool.or_eq_false_iff.mp h4).1 (Cond.privateMethod_at (mvP hZ wp (args := args))) (mvT hZ wm) hy
def own_min (a b : Int32) : Int32 := if b < a then b else a
def own_max (a b : Int32) : Int32 := if a < b then b else a
def own_idx (n lo hi key : Int32) : Int32 := if hi < key then ((-n) - (1 : Int32)) else if key < lo then (-1 : Int32) else if key = lo then (key - lo) else if ((hi - lo) + (1 : Int32)) = n then (key - lo) else if key = hi then (n - (1 : Int32)) else (-2147483648 : Int32)
def own_key (sel lo hi mid b : Int32) : Int32 := if sel = (0 : Int32) then lo else if sel = (1 : Int32) then hi else if sel = (2 : Int32) then (lo - (1 : Int32)) else if sel = (3 : Int32) then (hi + (1 : Int32)) else if sel = (4 : Int32) then mid else if sel = (5 : Int32) then (mid + (1 : Int32)) else b
def own_fd (key lo hi : Int32) : Int32 := if key < lo then (0 : Int32) else if hi < key then (0 : Int32) else (1 : Int32)
def own_ex (f b : Int32) : Int32 := if f = (0 : Int32) then ((-b) - (1 : Int32)) else b
def own_lo (n k : Int32) : Int32 := if n = (0 : Int32) then (65535 : Int32) else k
def own_hi (n a b c d : Int32) : Int32 := if n = (0 : Int32) then (0 : Int32) else if n = (1 : Int32) then a else if n = (2 : Int32) then b else if n = (3 : Int32) then c else d
def own_lt (i n k key : Int32) : Int32 := if i < n then (if k < key then (1 : Int32) else (0 : Int32)) else (0 : Int32)
def own_fn (n a b c d key : Int32) : Int32 := if (0 : Int32) < n ∧ a = key then (1 : Int32) else if (1 : Int32) < n ∧ b = key then (1 : Int32) else if (2 : Int32) < n ∧ c = key then (1 : Int32) else if (3 : Int32) < n ∧ d = key then (1 : Int32) else (0 : Int32)
def own_told (n lo hi key : Int32) : Int32 := if n = (0 : Int32) then (1 : Int32) else if key < lo then (1 : Int32) else if hi < key then (1 : Int32) else if key = lo then (1 : Int32) else if key = hi then (1 : Int32) else if ((hi - lo) + (1 : Int32)) = n then (1 : Int32) else (0 : Int32)
abbrev own_c (x : Int32) : Int32 := x.toUInt32.toUInt16.toUInt32.toInt32
theorem own_c_id {x : Int32} (h : 0 ≤ x.toInt) (q : x.toInt < 65536) : own_c x = x := by
  have h1 := c_i2c x
  exact Int32.toInt_inj.mp (by show x.toUInt32.toUInt16.toUInt32.toInt32.toInt = _; omega)
theorem own_n1 (c : Int32) {n : Int32} (hn : n = ((1 : Int32) + ((c &&& (2147483647 : Int32)) % (65536 : Int32)))) : 1 ≤ n.toInt ∧ n.toInt ≤ 65536 := by
  have h1 := c_and c 2147483647 (by decide)
  have h2 := (c_irem (c &&& (2147483647 : Int32)) 65536 65536 (by decide)).1 h1.1
  have h3 := c_iadd 1 ((c &&& (2147483647 : Int32)) % (65536 : Int32))
  have h4 := rng32 n
  have h5 : (1 : Int32).toInt = 1 := by decide
  rw [← hn] at h3
  omega
theorem own_rem {x y : Int32} (h : 0 ≤ x.toInt) (q : 0 < y.toInt) : 0 ≤ (x % y).toInt ∧ (x % y).toInt < y.toInt := by
  have := (c_iremV x y).1 h q
  omega
theorem own_lo1 (a : Int32) {n lo : Int32} (h : 1 ≤ n.toInt ∧ n.toInt ≤ 65536) (hl : lo = ((a &&& (2147483647 : Int32)) % ((65537 : Int32) - n))) : 0 ≤ lo.toInt ∧ lo.toInt + n.toInt ≤ 65536 := by
  have h1 := c_and a 2147483647 (by decide)
  have h3 := c_isub 65537 n
  have h4 := rng32 ((65537 : Int32) - n)
  have h5 : (65537 : Int32).toInt = 65537 := by decide
  have h6 : ((65537 : Int32) - n).toInt = 65537 - n.toInt := by omega
  have h2 := own_rem (x := (a &&& (2147483647 : Int32))) (y := ((65537 : Int32) - n)) h1.1 (by omega)
  rw [← hl] at h2
  omega
theorem own_nz {n : Int32} (h : 1 ≤ n.toInt) : n ≠ 0 := fun q => by subst q; exact absurd h (by decide)
theorem own_nz2 {n : Int32} (h : 1 ≤ n.toInt ∧ n.toInt ≤ 65536) : ((65537 : Int32) - n) ≠ 0 := fun q => by
  have h3 := c_isub 65537 n
  have h5 : (65537 : Int32).toInt = 65537 := by decide
  have h6 : (0 : Int32).toInt = 0 := by decide
  rw [q] at h3
  omega
theorem own_hi1 {n lo hi : Int32} (h : 1 ≤ n.toInt ∧ n.toInt ≤ 65536) (hl : 0 ≤ lo.toInt ∧ lo.toInt + n.toInt ≤ 65536) (hh : hi = ((lo + n) - (1 : Int32))) : hi.toInt = lo.toInt + n.toInt - 1 := by
  have h1 := c_iadd lo n
  have h2 := c_isub (lo + n) 1
  have h3 := rng32 (lo + n)
  have h4 := rng32 hi
  have h5 : (1 : Int32).toInt = 1 := by decide
  rw [← hh] at h2
  omega
theorem own_key1 (x : Int32) {key : Int32} (hk : key = (x &&& (65535 : Int32))) : 0 ≤ key.toInt ∧ key.toInt < 65536 := by
  have h1 := c_and x 65535 (by decide)
  have h5 : (65535 : Int32).toInt = 65535 := by decide
  rw [← hk] at h1
  omega
theorem own_dense {n lo hi key : Int32} (h : 1 ≤ n.toInt ∧ n.toInt ≤ 65536) (hl : 0 ≤ lo.toInt ∧ lo.toInt + n.toInt ≤ 65536) (hh : hi.toInt = lo.toInt + n.toInt - 1) (hk : 0 ≤ key.toInt ∧ key.toInt < 65536) :
    own_idx n (own_c lo) (own_c hi) (own_c key) = own_ex (own_fd key lo hi) (own_min (own_max (key - lo) (0 : Int32)) n) := by
  rw [own_c_id hl.1 (by omega), own_c_id (x := hi) (by omega) (by omega), own_c_id hk.1 hk.2]
  have a1 := c_isub key lo
  have a2 := c_isub hi lo
  have a3 := c_iadd (hi - lo) 1
  have a4 := c_ineg n
  have a5 := c_isub (-n) 1
  have a6 := c_ineg (0 : Int32)
  have r1 := rng32 (key - lo)
  have r2 := rng32 (hi - lo)
  have r3 := rng32 ((hi - lo) + 1)
  have r4 := rng32 (-n)
  have r5 := rng32 ((-n) - 1)
  have k0 : (0 : Int32).toInt = 0 := by decide
  have k1 : (1 : Int32).toInt = 1 := by decide
  have km : (-1 : Int32).toInt = -1 := by decide
  have kz : ((-(0 : Int32)) - (1 : Int32)) = (-1 : Int32) := by decide
  have e3 : ((hi - lo) + (1 : Int32)) = n := Int32.toInt_inj.mp (by omega)
  simp only [own_idx, own_ex, own_fd, own_min, own_max, e3, if_true]
  by_cases c1 : hi < key
  · have d0 : ¬ key < lo := by rw [Int32.lt_iff_toInt_lt] at c1 ⊢; omega
    have d1 : ¬ (key - lo) < (0 : Int32) := by rw [Int32.lt_iff_toInt_lt] at c1 ⊢; omega
    have d2 : n < (key - lo) ∨ n = (key - lo) := by rw [Int32.lt_iff_toInt_lt] at c1 ⊢; rw [← Int32.toInt_inj]; omega
    rcases d2 with d2 | d2
    · simp only [c1, d0, d1, d2, reduceIte]
    · have d3 : ¬ n < n := own_irr n
      have d4 : ¬ n < (0 : Int32) := by rw [d2]; exact d1
      simp only [c1, d0, ← d2, d3, d4, reduceIte]
  · by_cases c2 : key < lo
    · have d1 : (key - lo) < (0 : Int32) := by rw [Int32.lt_iff_toInt_lt] at c2 ⊢; omega
      have d2 : ¬ n < (0 : Int32) := by rw [Int32.lt_iff_toInt_lt]; omega
      simp only [c1, c2, d1, d2, reduceIte, kz]
    · have d1 : ¬ (key - lo) < (0 : Int32) := by rw [Int32.lt_iff_toInt_lt] at c2 ⊢; omega
      have d2 : ¬ n < (key - lo) := by rw [Int32.lt_iff_toInt_lt] at c1 ⊢; omega
      have d3 : ¬ (1 : Int32) = (0 : Int32) := by decide
      simp only [c1, c2, d1, d2, d3, reduceIte]
      split <;> rfl
theorem pn_com_example_tightbits_tightbits_ReadableUnsignedIntSet : plainName "com/example/tightbits/tightbits/ReadableUnsignedIntSet" = true := by first | (simp [plainName, overriddenIn]; done) | decide +kernel
theorem ef_1 (m : MethodId) (x0 : Int32) (x1 : Int32) (x2 : Int32) (x3 : Int32) : entryFrame m #[(.int x0), (.int x1), (.int x2), (.int x3)] 4 = mkF m 0 #[.val (.int x0), .val (.int x1), .val (.int x2), .val (.int x3)] [] := by first | (simp [entryFrame, mkF, argsToLocals, Value.category]; done) | rfl
theorem d1_0 : decode prog_28_method_42_code 0 = .ok (.iload_n 3, 1) := by decide +kernel
theorem d1_1 : decode prog_28_method_42_code 1 = .ok (.iload_n 2, 1) := by decide +kernel
theorem d1_2 : decode prog_28_method_42_code 2 = .ok (.if_icmp .le 8, 3) := by decide +kernel
theorem d1_5 : decode prog_28_method_42_code 5 = .ok (.iload_n 0, 1) := by decide +kernel
theorem d1_6 : decode prog_28_method_42_code 6 = .ok (.ineg, 1) := by decide +kernel
theorem d1_7 : decode prog_28_method_42_code 7 = .ok (.iconst 1, 1) := by decide +kernel
theorem d1_8 : decode prog_28_method_42_code 8 = .ok (.isub, 1) := by decide +kernel
theorem d1_9 : decode prog_28_method_42_code 9 = .ok (.ireturn, 1) := by decide +kernel
theorem d1_10 : decode prog_28_method_42_code 10 = .ok (.iload_n 3, 1) := by decide +kernel
theorem d1_11 : decode prog_28_method_42_code 11 = .ok (.iload_n 1, 1) := by decide +kernel
theorem d1_12 : decode prog_28_method_42_code 12 = .ok (.if_icmp .ge 5, 3) := by decide +kernel
theorem d1_15 : decode prog_28_method_42_code 15 = .ok (.iconst (-1), 1) := by decide +kernel
theorem d1_16 : decode prog_28_method_42_code 16 = .ok (.ireturn, 1) := by decide +kernel
theorem d1_17 : decode prog_28_method_42_code 17 = .ok (.iload_n 3, 1) := by decide +kernel
theorem d1_18 : decode prog_28_method_42_code 18 = .ok (.iload_n 1, 1) := by decide +kernel
theorem d1_19 : decode prog_28_method_42_code 19 = .ok (.if_icmp .eq 12, 3) := by decide +kernel
theorem d1_31 : decode prog_28_method_42_code 31 = .ok (.iload_n 3, 1) := by decide +kernel
theorem d1_32 : decode prog_28_method_42_code 32 = .ok (.iload_n 1, 1) := by decide +kernel
theorem d1_33 : decode prog_28_method_42_code 33 = .ok (.isub, 1) := by decide +kernel
theorem d1_34 : decode prog_28_method_42_code 34 = .ok (.ireturn, 1) := by decide +kernel
theorem d1_22 : decode prog_28_method_42_code 22 = .ok (.iload_n 2, 1) := by decide +kernel
theorem d1_23 : decode prog_28_method_42_code 23 = .ok (.iload_n 1, 1) := by decide +kernel
theorem d1_24 : decode prog_28_method_42_code 24 = .ok (.isub, 1) := by decide +kernel
theorem d1_25 : decode prog_28_method_42_code 25 = .ok (.iconst 1, 1) := by decide +kernel
theorem d1_26 : decode prog_28_method_42_code 26 = .ok (.iadd, 1) := by decide +kernel
theorem d1_27 : decode prog_28_method_42_code 27 = .ok (.iload_n 0, 1) := by decide +kernel
theorem d1_28 : decode prog_28_method_42_code 28 = .ok (.if_icmp .ne 7, 3) := by decide +kernel
theorem d1_35 : decode prog_28_method_42_code 35 = .ok (.iload_n 3, 1) := by decide +kernel
theorem d1_36 : decode prog_28_method_42_code 36 = .ok (.iload_n 2, 1) := by decide +kernel
theorem d1_37 : decode prog_28_method_42_code 37 = .ok (.if_icmp .ne 7, 3) := by decide +kernel
theorem d1_40 : decode prog_28_method_42_code 40 = .ok (.iload_n 0, 1) := by decide +kernel
theorem d1_41 : decode prog_28_method_42_code 41 = .ok (.iconst 1, 1) := by decide +kernel
theorem d1_42 : decode prog_28_method_42_code 42 = .ok (.isub, 1) := by decide +kernel
theorem d1_43 : decode prog_28_method_42_code 43 = .ok (.ireturn, 1) := by decide +kernel
theorem d1_44 : decode prog_28_method_42_code 44 = .ok (.ldc_w 306, 3) := by decide +kernel
theorem d1_47 : decode prog_28_method_42_code 47 = .ok (.ireturn, 1) := by decide +kernel
def Q_rm1 (Z : State) (xn : Int32) (xl : Int32) (xh : Int32) (xk : Int32) (h0 : Heap) (n0 : Nat) (v : Option Value) (h : Heap) (L : List Loc) : Prop := v = some (.int (own_idx xn xl xh xk)) ∧ Fr n0 L ∧ h = h0
set_option maxRecDepth 65536 in
set_option maxHeartbeats 40000000 in
theorem rm1 (l : Launch) (Z : State) (a0 : Array Value) (hw : ∀ d ∈ tables_1, d.before a0 Z = true) (ws : List Jvm.Cond) (xn : Int32) (xl : Int32) (xh : Int32) (xk : Int32) (h0 : Heap) (n0 : Nat) (Z0 : n0 ≤ h0.size) :
    MetFree l (⟨"com/example/tightbits/tightbits/ReadableUnsignedIntSet", "indexByBounds", "(ICCC)I"⟩ : MethodName) (head1 (Jvm.Cond.code (⟨"com/example/tightbits/tightbits/ReadableUnsignedIntSet", "indexByBounds", "(ICCC)I"⟩ : MethodName) prog_28_method_42_code 4 (some .int) :: ws) ({ frames := 0, cells := 0, slots := 0, locals := 0 } : Room)) (fun a U => a = #[(.int xn), (.int xl), (.int xh), (.int xk)] ∧ Z.Warmed39 U.vm ∧ U.heap = h0) (fun _ _ _ _ _ => True) (fun _ U o U' => ∃ v L, o = .returned v ∧ Q_rm1 Z xn xl xh xk h0 n0 v U'.heap L ∧ FrameEnd U o U' L ({ frames := 0, cells := 0, slots := 0, locals := 0 } : Room).cells ({ frames := 0, cells := 0, slots := 0, locals := 0 } : Room).slots) := by
  refine own_enter (Q := Q_rm1 Z xn xl xh xk h0 n0) (plainFor_of_name pn_com_example_tightbits_tightbits_ReadableUnsignedIntSet) ?_
  intro p e s m below meth c s₁ G X0 hx hby hml hZ hown hnm hret e0 go fin
  replace hown : s.vm.findClass "com/example/tightbits/tightbits/ReadableUnsignedIntSet" = some m.cls := hown
  replace hnm : meth.name = "indexByBounds" := hnm
  replace hml : c.maxLocals = 4 := hml
  rw [ef_1 m xn xl xh xk]
  have N0 := Fr.nil n0
  show G (s₁.setTop (mkF m 0 #[.val (.int xn), .val (.int xl), .val (.int xh), .val (.int xk)] []))
  refine go (fun tg kg => XS.iloadN X0.here hx rfl (hb hby d1_0) rfl kg) ?_
  show G (s₁.setTop (mkF m 1 #[.val (.int xn), .val (.int xl), .val (.int xh), .val (.int xk)] [(.int xk)]))
  refine go (fun tg kg => XS.iloadN X0.here hx rfl (hb hby d1_1) rfl kg) ?_
  show G (s₁.setTop (mkF m 2 #[.val (.int xn), .val (.int xl), .val (.int xh), .val (.int xk)] [(.int xh), (.int xk)]))
  by_cases hc1 : xh < xk
  · refine go (fun tg kg => XS.icmpNo X0.here hx rfl (hb hby d1_2) rfl (tlt hc1).2.2.2 kg) ?_
    show G (s₁.setTop (mkF m 5 #[.val (.int xn), .val (.int xl), .val (.int xh), .val (.int xk)] []))
    refine go (fun tg kg => XS.iloadN X0.here hx rfl (hb hby d1_5) rfl kg) ?_
    show G (s₁.setTop (mkF m 6 #[.val (.int xn), .val (.int xl), .val (.int xh), .val (.int xk)] [(.int xn)]))
    refine go (fun tg kg => XS.ineg X0.here hx rfl (hb hby d1_6) rfl kg) ?_
    show G (s₁.setTop (mkF m 7 #[.val (.int xn), .val (.int xl), .val (.int xh), .val (.int xk)] [(.int (-xn))]))
    refine go (fun tg kg => XS.iconst X0.here hx rfl (hb hby d1_7) kg) ?_
    show G (s₁.setTop (mkF m 8 #[.val (.int xn), .val (.int xl), .val (.int xh), .val (.int xk)] [(.int (1 : Int32)), (.int (-xn))]))
    refine go (fun tg kg => XS.isub X0.here hx rfl (hb hby d1_8) rfl kg) ?_
    show G (s₁.setTop (mkF m 9 #[.val (.int xn), .val (.int xl), .val (.int xh), .val (.int xk)] [(.int ((-xn) - (1 : Int32)))]))
    refine fin (some (.int ((-xn) - (1 : Int32)))) X0 (fun h => absurd h (by decide)) (fun fs hr => retOut X0 hx hret rfl (Or.inl ⟨rfl, Or.inl rfl, _, rfl⟩) (hb hby d1_9) hr) (by decide) (by decide) ?_
    rw [e0]
    exact ⟨by simp only [own_idx, if_pos hc1], N0, rfl⟩
  · refine go (fun tg kg => XS.icmpYes X0.here hx rfl (pc0 := 2) (pc' := 10) rfl (hb hby d1_2) rfl (flt hc1).2.2.2 (by decide) (by decide) kg) ?_
    show G (s₁.setTop (mkF m 10 #[.val (.int xn), .val (.int xl), .val (.int xh), .val (.int xk)] []))
    refine go (fun tg kg => XS.iloadN X0.here hx rfl (hb hby d1_10) rfl kg) ?_
    show G (s₁.setTop (mkF m 11 #[.val (.int xn), .val (.int xl), .val (.int xh), .val (.int xk)] [(.int xk)]))
    refine go (fun tg kg => XS.iloadN X0.here hx rfl (hb hby d1_11) rfl kg) ?_
    show G (s₁.setTop (mkF m 12 #[.val (.int xn), .val (.int xl), .val (.int xh), .val (.int xk)] [(.int xl), (.int xk)]))
    by_cases hc2 : xk < xl
    · refine go (fun tg kg => XS.icmpNo X0.here hx rfl (hb hby d1_12) rfl (tlt hc2).2.1 kg) ?_
      show G (s₁.setTop (mkF m 15 #[.val (.int xn), .val (.int xl), .val (.int xh), .val (.int xk)] []))
      refine go (fun tg kg => XS.iconst X0.here hx rfl (hb hby d1_15) kg) ?_
      show G (s₁.setTop (mkF m 16 #[.val (.int xn), .val (.int xl), .val (.int xh), .val (.int xk)] [(.int (-1 : Int32))]))
      refine fin (some (.int (-1 : Int32))) X0 (fun h => absurd h (by decide)) (fun fs hr => retOut X0 hx hret rfl (Or.inl ⟨rfl, Or.inl rfl, _, rfl⟩) (hb hby d1_16) hr) (by decide) (by decide) ?_
      rw [e0]
      exact ⟨by simp only [own_idx, if_neg hc1, if_pos hc2], N0, rfl⟩
    · refine go (fun tg kg => XS.icmpYes X0.here hx rfl (pc0 := 12) (pc' := 17) rfl (hb hby d1_12) rfl (flt hc2).2.1 (by decide) (by decide) kg) ?_
      show G (s₁.setTop (mkF m 17 #[.val (.int xn), .val (.int xl), .val (.int xh), .val (.int xk)] []))
      refine go (fun tg kg => XS.iloadN X0.here hx rfl (hb hby d1_17) rfl kg) ?_
      show G (s₁.setTop (mkF m 18 #[.val (.int xn), .val (.int xl), .val (.int xh), .val (.int xk)] [(.int xk)]))
      refine go (fun tg kg => XS.iloadN X0.here hx rfl (hb hby d1_18) rfl kg) ?_
      show G (s₁.setTop (mkF m 19 #[.val (.int xn), .val (.int xl), .val (.int xh), .val (.int xk)] [(.int xl), (.int xk)]))
      by_cases hc3 : xk = xl
      · refine go (fun tg kg => XS.icmpYes X0.here hx rfl (pc0 := 19) (pc' := 31) rfl (hb hby d1_19) rfl (teq hc3).1 (by decide) (by decide) kg) ?_
        show G (s₁.setTop (mkF m 31 #[.val (.int xn), .val (.int xl), .val (.int xh), .val (.int xk)] []))
        refine go (fun tg kg => XS.iloadN X0.here hx rfl (hb hby d1_31) rfl kg) ?_
        show G (s₁.setTop (mkF m 32 #[.val (.int xn), .val (.int xl), .val (.int xh), .val (.int xk)] [(.int xk)]))
        refine go (fun tg kg => XS.iloadN X0.here hx rfl (hb hby d1_32) rfl kg) ?_
        show G (s₁.setTop (mkF m 33 #[.val (.int xn), .val (.int xl), .val (.int xh), .val (.int xk)] [(.int xl), (.int xk)]))
        refine go (fun tg kg => XS.isub X0.here hx rfl (hb hby d1_33) rfl kg) ?_
        show G (s₁.setTop (mkF m 34 #[.val (.int xn), .val (.int xl), .val (.int xh), .val (.int xk)] [(.int (xk - xl))]))
        refine fin (some (.int (xk - xl))) X0 (fun h => absurd h (by decide)) (fun fs hr => retOut X0 hx hret rfl (Or.inl ⟨rfl, Or.inl rfl, _, rfl⟩) (hb hby d1_34) hr) (by decide) (by decide) ?_
        rw [e0]
        exact ⟨by simp only [own_idx, if_neg hc1, if_neg hc2, if_pos hc3], N0, rfl⟩
      · refine go (fun tg kg => XS.icmpNo X0.here hx rfl (hb hby d1_19) rfl (feq hc3).1 kg) ?_
        show G (s₁.setTop (mkF m 22 #[.val (.int xn), .val (.int xl), .val (.int xh), .val (.int xk)] []))
        refine go (fun tg kg => XS.iloadN X0.here hx rfl (hb hby d1_22) rfl kg) ?_
        show G (s₁.setTop (mkF m 23 #[.val (.int xn), .val (.int xl), .val (.int xh), .val (.int xk)] [(.int xh)]))
        refine go (fun tg kg => XS.iloadN X0.here hx rfl (hb hby d1_23) rfl kg) ?_
        show G (s₁.setTop (mkF m 24 #[.val (.int xn), .val (.int xl), .val (.int xh), .val (.int xk)] [(.int xl), (.int xh)]))
        refine go (fun tg kg => XS.isub X0.here hx rfl (hb hby d1_24) rfl kg) ?_
        show G (s₁.setTop (mkF m 25 #[.val (.int xn), .val (.int xl), .val (.int xh), .val (.int xk)] [(.int (xh - xl))]))
        refine go (fun tg kg => XS.iconst X0.here hx rfl (hb hby d1_25) kg) ?_
        show G (s₁.setTop (mkF m 26 #[.val (.int xn), .val (.int xl), .val (.int xh), .val (.int xk)] [(.int (1 : Int32)), (.int (xh - xl))]))
        refine go (fun tg kg => XS.iadd X0.here hx rfl (hb hby d1_26) rfl kg) ?_
        show G (s₁.setTop (mkF m 27 #[.val (.int xn), .val (.int xl), .val (.int xh), .val (.int xk)] [(.int ((xh - xl) + (1 : Int32)))]))
        refine go (fun tg kg => XS.iloadN X0.here hx rfl (hb hby d1_27) rfl kg) ?_
        show G (s₁.setTop (mkF m 28 #[.val (.int xn), .val (.int xl), .val (.int xh), .val (.int xk)] [(.int xn), (.int ((xh - xl) + (1 : Int32)))]))
        by_cases hc4 : ((xh - xl) + (1 : Int32)) = xn
        · refine go (fun tg kg => XS.icmpNo X0.here hx rfl (hb hby d1_28) rfl (teq hc4).2 kg) ?_
          show G (s₁.setTop (mkF m 31 #[.val (.int xn), .val (.int xl), .val (.int xh), .val (.int xk)] []))
          refine go (fun tg kg => XS.iloadN X0.here hx rfl (hb hby d1_31) rfl kg) ?_
          show G (s₁.setTop (mkF m 32 #[.val (.int xn), .val (.int xl), .val (.int xh), .val (.int xk)] [(.int xk)]))
          refine go (fun tg kg => XS.iloadN X0.here hx rfl (hb hby d1_32) rfl kg) ?_
          show G (s₁.setTop (mkF m 33 #[.val (.int xn), .val (.int xl), .val (.int xh), .val (.int xk)] [(.int xl), (.int xk)]))
          refine go (fun tg kg => XS.isub X0.here hx rfl (hb hby d1_33) rfl kg) ?_
          show G (s₁.setTop (mkF m 34 #[.val (.int xn), .val (.int xl), .val (.int xh), .val (.int xk)] [(.int (xk - xl))]))
          refine fin (some (.int (xk - xl))) X0 (fun h => absurd h (by decide)) (fun fs hr => retOut X0 hx hret rfl (Or.inl ⟨rfl, Or.inl rfl, _, rfl⟩) (hb hby d1_34) hr) (by decide) (by decide) ?_
          rw [e0]
          exact ⟨by simp only [own_idx, if_neg hc1, if_neg hc2, if_neg hc3, if_pos hc4], N0, rfl⟩
        · refine go (fun tg kg => XS.icmpYes X0.here hx rfl (pc0 := 28) (pc' := 35) rfl (hb hby d1_28) rfl (feq hc4).2 (by decide) (by decide) kg) ?_
          show G (s₁.setTop (mkF m 35 #[.val (.int xn), .val (.int xl), .val (.int xh), .val (.int xk)] []))
          refine go (fun tg kg => XS.iloadN X0.here hx rfl (hb hby d1_35) rfl kg) ?_
          show G (s₁.setTop (mkF m 36 #[.val (.int xn), .val (.int xl), .val (.int xh), .val (.int xk)] [(.int xk)]))
          refine go (fun tg kg => XS.iloadN X0.here hx rfl (hb hby d1_36) rfl kg) ?_
          show G (s₁.setTop (mkF m 37 #[.val (.int xn), .val (.int xl), .val (.int xh), .val (.int xk)] [(.int xh), (.int xk)]))
          by_cases hc5 : xk = xh
          · refine go (fun tg kg => XS.icmpNo X0.here hx rfl (hb hby d1_37) rfl (teq hc5).2 kg) ?_
            show G (s₁.setTop (mkF m 40 #[.val (.int xn), .val (.int xl), .val (.int xh), .val (.int xk)] []))
            refine go (fun tg kg => XS.iloadN X0.here hx rfl (hb hby d1_40) rfl kg) ?_
            show G (s₁.setTop (mkF m 41 #[.val (.int xn), .val (.int xl), .val (.int xh), .val (.int xk)] [(.int xn)]))
            refine go (fun tg kg => XS.iconst X0.here hx rfl (hb hby d1_41) kg) ?_
            show G (s₁.setTop (mkF m 42 #[.val (.int xn), .val (.int xl), .val (.int xh), .val (.int xk)] [(.int (1 : Int32)), (.int xn)]))
            refine go (fun tg kg => XS.isub X0.here hx rfl (hb hby d1_42) rfl kg) ?_
            show G (s₁.setTop (mkF m 43 #[.val (.int xn), .val (.int xl), .val (.int xh), .val (.int xk)] [(.int (xn - (1 : Int32)))]))
            refine fin (some (.int (xn - (1 : Int32)))) X0 (fun h => absurd h (by decide)) (fun fs hr => retOut X0 hx hret rfl (Or.inl ⟨rfl, Or.inl rfl, _, rfl⟩) (hb hby d1_43) hr) (by decide) (by decide) ?_
            rw [e0]
            exact ⟨by simp only [own_idx, if_neg hc1, if_neg hc2, if_neg hc3, if_neg hc4, if_pos hc5], N0, rfl⟩
          · refine go (fun tg kg => XS.icmpYes X0.here hx rfl (pc0 := 37) (pc' := 44) rfl (hb hby d1_37) rfl (feq hc5).2 (by decide) (by decide) kg) ?_
            show G (s₁.setTop (mkF m 44 #[.val (.int xn), .val (.int xl), .val (.int xh), .val (.int xk)] []))
            refine go (fun tg kg => X0.ldcwInt hx hown (mvT hZ (hw _ (List.mem_of_getElem? (i := 15) rfl))) (g := (mkF m 44 #[.val (.int xn), .val (.int xl), .val (.int xh), .val (.int xk)] [])) rfl (hb hby d1_44) _ kg) ?_
            show G (s₁.setTop (mkF m 47 #[.val (.int xn), .val (.int xl), .val (.int xh), .val (.int xk)] [(.int (-2147483648 : Int32))]))
            refine fin (some (.int (-2147483648 : Int32))) X0 (fun h => absurd h (by decide)) (fun fs hr => retOut X0 hx hret rfl (Or.inl ⟨rfl, Or.inl rfl, _, rfl⟩) (hb hby d1_47) hr) (by decide) (by decide) ?_
            rw [e0]
            exact ⟨by simp only [own_idx, if_neg hc1, if_neg hc2, if_neg hc3, if_neg hc4, if_neg hc5], N0, rfl⟩
theorem ef_2 (m : MethodId) (x0 : Int32) (x1 : Int32) : entryFrame m #[(.int x0), (.int x1)] 2 = mkF m 0 #[.val (.int x0), .val (.int x1)] [] := by first | (simp [entryFrame, mkF, argsToLocals, Value.category]; done) | rfl
theorem d2_0 : decode jdk_29_method_65_code 0 = .ok (.iload_n 0, 1) := by decide +kernel
theorem d2_1 : decode jdk_29_method_65_code 1 = .ok (.iload_n 1, 1) := by decide +kernel
theorem d2_2 : decode jdk_29_method_65_code 2 = .ok (.if_icmp .lt 7, 3) := by decide +kernel
theorem d2_9 : decode jdk_29_method_65_code 9 = .ok (.iload_n 1, 1) := by decide +kernel
theorem d2_10 : decode jdk_29_method_65_code 10 = .ok (.ireturn, 1) := by decide +kernel
theorem d2_5 : decode jdk_29_method_65_code 5 = .ok (.iload_n 0, 1) := by decide +kernel
theorem d2_6 : decode jdk_29_method_65_code 6 = .ok (.goto 4, 3) := by decide +kernel
def Q_rm2 (Z : State) (xa : Int32) (xb : Int32) (h0 : Heap) (n0 : Nat) (v : Option Value) (h : Heap) (L : List Loc) : Prop := v = some (.int (own_max xa xb)) ∧ Fr n0 L ∧ h = h0
set_option maxRecDepth 65536 in
set_option maxHeartbeats 40000000 in
theorem rm2 (l : Launch) (Z : State) (a0 : Array Value) (hw : ∀ d ∈ tables_1, d.before a0 Z = true) (ws : List Jvm.Cond) (xa : Int32) (xb : Int32) (h0 : Heap) (n0 : Nat) (Z0 : n0 ≤ h0.size) :
    MetFree l (⟨"java/lang/Math", "max", "(II)I"⟩ : MethodName) (head1 (Jvm.Cond.code (⟨"java/lang/Math", "max", "(II)I"⟩ : MethodName) jdk_29_method_65_code 2 (some .int) :: ws) ({ frames := 0, cells := 0, slots := 0, locals := 0 } : Room)) (fun a U => a = #[(.int xa), (.int xb)] ∧ Z.Warmed39 U.vm ∧ U.heap = h0) (fun _ _ _ _ _ => True) (fun _ U o U' => ∃ v L, o = .returned v ∧ Q_rm2 Z xa xb h0 n0 v U'.heap L ∧ FrameEnd U o U' L ({ frames := 0, cells := 0, slots := 0, locals := 0 } : Room).cells ({ frames := 0, cells := 0, slots := 0, locals := 0 } : Room).slots) := by
  refine own_enter (Q := Q_rm2 Z xa xb h0 n0) (Jvm.Free.JP.mathPlain rfl (by decide +kernel)) ?_
  intro p e s m below meth c s₁ G X0 hx hby hml hZ hown hnm hret e0 go fin
  replace hown : s.vm.findClass "java/lang/Math" = some m.cls := hown
  replace hnm : meth.name = "max" := hnm
  replace hml : c.maxLocals = 2 := hml
  rw [ef_2 m xa xb]
  have N0 := Fr.nil n0
  show G (s₁.setTop (mkF m 0 #[.val (.int xa), .val (.int xb)] []))
  refine go (fun tg kg => XS.iloadN X0.here hx rfl (hb hby d2_0) rfl kg) ?_
  show G (s₁.setTop (mkF m 1 #[.val (.int xa), .val (.int xb)] [(.int xa)]))
  refine go (fun tg kg => XS.iloadN X0.here hx rfl (hb hby d2_1) rfl kg) ?_
  show G (s₁.setTop (mkF m 2 #[.val (.int xa), .val (.int xb)] [(.int xb), (.int xa)]))
  by_cases hc1 : xa < xb
  · refine go (fun tg kg => XS.icmpYes X0.here hx rfl (pc0 := 2) (pc' := 9) rfl (hb hby d2_2) rfl (tlt hc1).1 (by decide) (by decide) kg) ?_
    show G (s₁.setTop (mkF m 9 #[.val (.int xa), .val (.int xb)] []))
    refine go (fun tg kg => XS.iloadN X0.here hx rfl (hb hby d2_9) rfl kg) ?_
    show G (s₁.setTop (mkF m 10 #[.val (.int xa), .val (.int xb)] [(.int xb)]))
    refine fin (some (.int xb)) X0 (fun h => absurd h (by decide)) (fun fs hr => retOut X0 hx hret rfl (Or.inl ⟨rfl, Or.inl rfl, _, rfl⟩) (hb hby d2_10) hr) (by decide) (by decide) ?_
    rw [e0]
    exact ⟨by simp only [own_max, if_pos hc1], N0, rfl⟩
  · refine go (fun tg kg => XS.icmpNo X0.here hx rfl (hb hby d2_2) rfl (flt hc1).1 kg) ?_
    show G (s₁.setTop (mkF m 5 #[.val (.int xa), .val (.int xb)] []))
    refine go (fun tg kg => XS.iloadN X0.here hx rfl (hb hby d2_5) rfl kg) ?_
    show G (s₁.setTop (mkF m 6 #[.val (.int xa), .val (.int xb)] [(.int xa)]))
    refine go (fun tg kg => XS.goto X0.here hx rfl (pc0 := 6) (pc' := 10) rfl (hb hby d2_6) (by decide) (by decide) kg) ?_
    show G (s₁.setTop (mkF m 10 #[.val (.int xa), .val (.int xb)] [(.int xa)]))
    refine fin (some (.int xa)) X0 (fun h => absurd h (by decide)) (fun fs hr => retOut X0 hx hret rfl (Or.inl ⟨rfl, Or.inl rfl, _, rfl⟩) (hb hby d2_10) hr) (by decide) (by decide) ?_
    rw [e0]
    exact ⟨by simp only [own_max, if_neg hc1], N0, rfl⟩
theorem ef_3 (m : MethodId) (x0 : Int32) (x1 : Int32) : entryFrame m #[(.int x0), (.int x1)] 2 = mkF m 0 #[.val (.int x0), .val (.int x1)] [] := by first | (simp [entryFrame, mkF, argsToLocals, Value.category]; done) | rfl
theorem d3_0 : decode jdk_29_method_69_code 0 = .ok (.iload_n 0, 1) := by decide +kernel
theorem d3_1 : decode jdk_29_method_69_code 1 = .ok (.iload_n 1, 1) := by decide +kernel
theorem d3_2 : decode jdk_29_method_69_code 2 = .ok (.if_icmp .gt 7, 3) := by decide +kernel
theorem d3_9 : decode jdk_29_method_69_code 9 = .ok (.iload_n 1, 1) := by decide +kernel
theorem d3_10 : decode jdk_29_method_69_code 10 = .ok (.ireturn, 1) := by decide +kernel
theorem d3_5 : decode jdk_29_method_69_code 5 = .ok (.iload_n 0, 1) := by decide +kernel
theorem d3_6 : decode jdk_29_method_69_code 6 = .ok (.goto 4, 3) := by decide +kernel
def Q_rm3 (Z : State) (xa : Int32) (xb : Int32) (h0 : Heap) (n0 : Nat) (v : Option Value) (h : Heap) (L : List Loc) : Prop := v = some (.int (own_min xa xb)) ∧ Fr n0 L ∧ h = h0
set_option maxRecDepth 65536 in
set_option maxHeartbeats 40000000 in
theorem rm3 (l : Launch) (Z : State) (a0 : Array Value) (hw : ∀ d ∈ tables_1, d.before a0 Z = true) (ws : List Jvm.Cond) (xa : Int32) (xb : Int32) (h0 : Heap) (n0 : Nat) (Z0 : n0 ≤ h0.size) :
    MetFree l (⟨"java/lang/Math", "min", "(II)I"⟩ : MethodName) (head1 (Jvm.Cond.code (⟨"java/lang/Math", "min", "(II)I"⟩ : MethodName) jdk_29_method_69_code 2 (some .int) :: ws) ({ frames := 0, cells := 0, slots := 0, locals := 0 } : Room)) (fun a U => a = #[(.int xa), (.int xb)] ∧ Z.Warmed39 U.vm ∧ U.heap = h0) (fun _ _ _ _ _ => True) (fun _ U o U' => ∃ v L, o = .returned v ∧ Q_rm3 Z xa xb h0 n0 v U'.heap L ∧ FrameEnd U o U' L ({ frames := 0, cells := 0, slots := 0, locals := 0 } : Room).cells ({ frames := 0, cells := 0, slots := 0, locals := 0 } : Room).slots) := by
  refine own_enter (Q := Q_rm3 Z xa xb h0 n0) (Jvm.Free.JP.mathPlain rfl (by decide +kernel)) ?_
  intro p e s m below meth c s₁ G X0 hx hby hml hZ hown hnm hret e0 go fin
  replace hown : s.vm.findClass "java/lang/Math" = some m.cls := hown
  replace hnm : meth.name = "min" := hnm
  replace hml : c.maxLocals = 2 := hml
  rw [ef_3 m xa xb]
  have N0 := Fr.nil n0
  show G (s₁.setTop (mkF m 0 #[.val (.int xa), .val (.int xb)] []))
  refine go (fun tg kg => XS.iloadN X0.here hx rfl (hb hby d3_0) rfl kg) ?_
  show G (s₁.setTop (mkF m 1 #[.val (.int xa), .val (.int xb)] [(.int xa)]))
  refine go (fun tg kg => XS.iloadN X0.here hx rfl (hb hby d3_1) rfl kg) ?_
  show G (s₁.setTop (mkF m 2 #[.val (.int xa), .val (.int xb)] [(.int xb), (.int xa)]))
  by_cases hc1 : xb < xa
  · refine go (fun tg kg => XS.icmpYes X0.here hx rfl (pc0 := 2) (pc' := 9) rfl (hb hby d3_2) rfl (tlt hc1).2.2.1 (by decide) (by decide) kg) ?_
    show G (s₁.setTop (mkF m 9 #[.val (.int xa), .val (.int xb)] []))
    refine go (fun tg kg => XS.iloadN X0.here hx rfl (hb hby d3_9) rfl kg) ?_
    show G (s₁.setTop (mkF m 10 #[.val (.int xa), .val (.int xb)] [(.int xb)]))
    refine fin (some (.int xb)) X0 (fun h => absurd h (by decide)) (fun fs hr => retOut X0 hx hret rfl (Or.inl ⟨rfl, Or.inl rfl, _, rfl⟩) (hb hby d3_10) hr) (by decide) (by decide) ?_
    rw [e0]
    exact ⟨by simp only [own_min, if_pos hc1], N0, rfl⟩
  · refine go (fun tg kg => XS.icmpNo X0.here hx rfl (hb hby d3_2) rfl (flt hc1).2.2.1 kg) ?_
    show G (s₁.setTop (mkF m 5 #[.val (.int xa), .val (.int xb)] []))
    refine go (fun tg kg => XS.iloadN X0.here hx rfl (hb hby d3_5) rfl kg) ?_
    show G (s₁.setTop (mkF m 6 #[.val (.int xa), .val (.int xb)] [(.int xa)]))
    refine go (fun tg kg => XS.goto X0.here hx rfl (pc0 := 6) (pc' := 10) rfl (hb hby d3_6) (by decide) (by decide) kg) ?_
    show G (s₁.setTop (mkF m 10 #[.val (.int xa), .val (.int xb)] [(.int xa)]))
    refine fin (some (.int xa)) X0 (fun h => absurd h (by decide)) (fun fs hr => retOut X0 hx hret rfl (Or.inl ⟨rfl, Or.inl rfl, _, rfl⟩) (hb hby d3_10) hr) (by decide) (by decide) ?_
    rw [e0]
    exact ⟨by simp only [own_min, if_neg hc1], N0, rfl⟩
theorem own_n5 (c : Int32) {n : Int32} (hn : n = ((c &&& (7 : Int32)) % (5 : Int32))) : 0 ≤ n.toInt ∧ n.toInt ≤ 4 := by
  have h1 := c_and c 7 (by decide)
  have h2 := (c_irem (c &&& (7 : Int32)) 5 5 (by decide)).1 h1.1
  rw [← hn] at h2
  omega
theorem own_g (x : Int32) {g : Int32} (h : g = (x &&& (255 : Int32))) : 0 ≤ g.toInt ∧ g.toInt ≤ 255 := by
  have h1 := c_and x 255 (by decide)
  have h5 : (255 : Int32).toInt = 255 := by decide
  rw [← h] at h1
  omega
theorem own_span {g1 g2 g3 span : Int32} (b1 : 0 ≤ g1.toInt ∧ g1.toInt ≤ 255) (b2 : 0 ≤ g2.toInt ∧ g2.toInt ≤ 255) (b3 : 0 ≤ g3.toInt ∧ g3.toInt ≤ 255) (h : span = ((((3 : Int32) + g1) + g2) + g3)) : span.toInt = 3 + g1.toInt + g2.toInt + g3.toInt ∧ 3 ≤ span.toInt ∧ span.toInt ≤ 768 := by
  have a1 := c_iadd 3 g1
  have a2 := c_iadd ((3 : Int32) + g1) g2
  have a3 := c_iadd (((3 : Int32) + g1) + g2) g3
  have r1 := rng32 ((3 : Int32) + g1)
  have r2 := rng32 (((3 : Int32) + g1) + g2)
  have r3 := rng32 span
  have k3 : (3 : Int32).toInt = 3 := by decide
  rw [← h] at a3
  omega
theorem own_k0 (a : Int32) {span k0 : Int32} {S : Int} (bs : span.toInt = S ∧ 3 ≤ span.toInt ∧ span.toInt ≤ 768) (h : k0 = ((a &&& (2147483647 : Int32)) % ((65536 : Int32) - span))) : 0 ≤ k0.toInt ∧ k0.toInt + span.toInt < 65536 := by
  have h1 := c_and a 2147483647 (by decide)
  have h3 := c_isub 65536 span
  have h4 := rng32 ((65536 : Int32) - span)
  have h5 : (65536 : Int32).toInt = 65536 := by decide
  have h6 : ((65536 : Int32) - span).toInt = 65536 - span.toInt := by omega
  have h2 := own_rem (x := (a &&& (2147483647 : Int32))) (y := ((65536 : Int32) - span)) h1.1 (by omega)
  rw [← h] at h2
  omega
theorem own_nz3 {span : Int32} {S : Int} (bs : span.toInt = S ∧ 3 ≤ span.toInt ∧ span.toInt ≤ 768) : ((65536 : Int32) - span) ≠ 0 := fun q => by
  have h3 := c_isub 65536 span
  have h5 : (65536 : Int32).toInt = 65536 := by decide
  have h6 : (0 : Int32).toInt = 0 := by decide
  rw [q] at h3
  omega
theorem own_kk {k g k' : Int32} (h0 : 0 ≤ k.toInt) (hB : k.toInt ≤ 66000) (hg : 0 ≤ g.toInt ∧ g.toInt ≤ 255) (hk : k' = ((k + (1 : Int32)) + g)) : k'.toInt = k.toInt + 1 + g.toInt := by
  have a1 := c_iadd k 1
  have a2 := c_iadd (k + 1) g
  have r1 := rng32 (k + 1)
  have r2 := rng32 k'
  have k1 : (1 : Int32).toInt = 1 := by decide
  rw [← hk] at a2
  omega
set_option maxHeartbeats 4000000 in
theorem own_s0 {k0 k1 k2 k3 key : Int32} (c0 : 0 ≤ k0.toInt) (h01 : k0.toInt < k1.toInt) (h12 : k1.toInt < k2.toInt) (h23 : k2.toInt < k3.toInt) (c3 : k3.toInt < 65536) (bk : 0 ≤ key.toInt ∧ key.toInt < 65536) :
    (own_told (0 : Int32) (65535 : Int32) (0 : Int32) key = (0 : Int32) → own_idx (0 : Int32) (65535 : Int32) (0 : Int32) key = (-2147483648 : Int32)) ∧ (¬ own_told (0 : Int32) (65535 : Int32) (0 : Int32) key = (0 : Int32) → own_idx (0 : Int32) (65535 : Int32) (0 : Int32) key = own_ex (own_fn (0 : Int32) k0 k1 k2 k3 key) (((own_lt (0 : Int32) (0 : Int32) k0 key + own_lt (1 : Int32) (0 : Int32) k1 key) + own_lt (2 : Int32) (0 : Int32) k2 key) + own_lt (3 : Int32) (0 : Int32) k3 key)) := by
  have z0 : (0 : Int32).toInt = 0 := by decide
  have z1 : (1 : Int32).toInt = 1 := by decide
  have zn : (0 : Int32).toInt = 0 := by decide
  have zl : (65535 : Int32).toInt = 65535 := by decide
  have l0 : ¬ (0 : Int32) < (0 : Int32) := by decide
  have l1 : ¬ (1 : Int32) < (0 : Int32) := by decide
  have l2 : ¬ (2 : Int32) < (0 : Int32) := by decide
  have l3 : ¬ (3 : Int32) < (0 : Int32) := by decide
  have e0 : (0 : Int32) = (0 : Int32) := by decide
  have e1 : ¬ (1 : Int32) = (0 : Int32) := by decide
  by_cases q : (0 : Int32) < key
  · have d : ¬ key < (65535 : Int32) ∨ key < (65535 : Int32) := Classical.em _ |>.symm
    refine ⟨fun h => absurd h (by simp only [own_told, e0, e1, reduceIte, not_false_eq_true]), fun _ => ?_⟩
    simp only [own_told, own_idx, own_ex, own_fn, own_lt, true_and, and_true, false_and, and_false, not_true_eq_false, not_false_eq_true, reduceIte, q, l0, l1, l2, l3, e0, e1]
    decide
  · have d : key < (65535 : Int32) := by rw [Int32.lt_iff_toInt_lt] at q ⊢; omega
    refine ⟨fun h => absurd h (by simp only [own_told, e0, e1, reduceIte, not_false_eq_true]), fun _ => ?_⟩
    simp only [own_told, own_idx, own_ex, own_fn, own_lt, true_and, and_true, false_and, and_false, not_true_eq_false, not_false_eq_true, reduceIte, q, d, l0, l1, l2, l3, e0, e1]
    decide
set_option maxHeartbeats 4000000 in
theorem own_s1 {k0 k1 k2 k3 key : Int32} (c0 : 0 ≤ k0.toInt) (h01 : k0.toInt < k1.toInt) (h12 : k1.toInt < k2.toInt) (h23 : k2.toInt < k3.toInt) (c3 : k3.toInt < 65536) (bk : 0 ≤ key.toInt ∧ key.toInt < 65536) :
    (own_told (1 : Int32) k0 k0 key = (0 : Int32) → own_idx (1 : Int32) k0 k0 key = (-2147483648 : Int32)) ∧ (¬ own_told (1 : Int32) k0 k0 key = (0 : Int32) → own_idx (1 : Int32) k0 k0 key = own_ex (own_fn (1 : Int32) k0 k1 k2 k3 key) (((own_lt (0 : Int32) (1 : Int32) k0 key + own_lt (1 : Int32) (1 : Int32) k1 key) + own_lt (2 : Int32) (1 : Int32) k2 key) + own_lt (3 : Int32) (1 : Int32) k3 key)) := by
  have z0 : (0 : Int32).toInt = 0 := by decide
  have z1 : (1 : Int32).toInt = 1 := by decide
  have zn : (1 : Int32).toInt = 1 := by decide
  have zl : (65535 : Int32).toInt = 65535 := by decide
  have l0 : (0 : Int32) < (1 : Int32) := by decide
  have l1 : ¬ (1 : Int32) < (1 : Int32) := by decide
  have l2 : ¬ (2 : Int32) < (1 : Int32) := by decide
  have l3 : ¬ (3 : Int32) < (1 : Int32) := by decide
  have e0 : ¬ (1 : Int32) = (0 : Int32) := by decide
  have e1 : ¬ (1 : Int32) = (0 : Int32) := by decide
  have s1 := c_isub key k0
  have s2 := c_isub k0 k0
  have s3 := c_iadd (k0 - k0) 1
  have t1 := rng32 (key - k0)
  have t2 := rng32 (k0 - k0)
  have t3 := rng32 ((k0 - k0) + 1)
  have reg : (key.toInt < k0.toInt) ∨ (k0.toInt = key.toInt) ∨ (k0.toInt < key.toInt) := by omega
  rcases reg with reg | reg | reg
  · have a0 : ¬ k0 < key := by rw [Int32.lt_iff_toInt_lt]; omega
    have b0 : ¬ k0 = key := by rw [← Int32.toInt_inj]; omega
    have f2 : key < k0 := by rw [Int32.lt_iff_toInt_lt]; omega
    have f3 : ¬ key = k0 := by rw [← Int32.toInt_inj]; omega
    have f4 : ¬ key = k0 := by rw [← Int32.toInt_inj]; omega
    refine ⟨fun h => absurd h (by simp only [own_told, a0, b0, f2, f3, f4, l0, l1, l2, l3, e0, e1, reduceIte, not_false_eq_true]), fun _ => ?_⟩
    simp only [own_told, own_idx, own_ex, own_fn, own_lt, true_and, and_true, false_and, and_false, not_true_eq_false, not_false_eq_true, reduceIte, a0, b0, f2, f3, f4, l0, l1, l2, l3, e0, e1]
    try (first | rfl | decide | (apply Int32.toInt_inj.mp; omega))
  · have a0 : ¬ k0 < key := by rw [Int32.lt_iff_toInt_lt]; omega
    have b0 : k0 = key := by exact Int32.toInt_inj.mp (by omega)
    have f2 : ¬ key < k0 := by rw [Int32.lt_iff_toInt_lt]; omega
    have f3 : key = k0 := by exact Int32.toInt_inj.mp (by omega)
    have f4 : key = k0 := by exact Int32.toInt_inj.mp (by omega)
    refine ⟨fun h => absurd h (by simp only [own_told, a0, eq_true b0, f2, eq_true f3, eq_true f4, l0, l1, l2, l3, e0, e1, reduceIte, not_false_eq_true]), fun _ => ?_⟩
    simp only [own_told, own_idx, own_ex, own_fn, own_lt, true_and, and_true, false_and, and_false, not_true_eq_false, not_false_eq_true, reduceIte, a0, eq_true b0, f2, eq_true f3, eq_true f4, l0, l1, l2, l3, e0, e1]
    exact Int32.toInt_inj.mp ((show (key - k0).toInt = 0 by omega).trans (by decide))
  · have a0 : k0 < key := by rw [Int32.lt_iff_toInt_lt]; omega
    have b0 : ¬ k0 = key := by rw [← Int32.toInt_inj]; omega
    have f2 : ¬ key < k0 := by rw [Int32.lt_iff_toInt_lt]; omega
    have f3 : ¬ key = k0 := by rw [← Int32.toInt_inj]; omega
    have f4 : ¬ key = k0 := by rw [← Int32.toInt_inj]; omega
    refine ⟨fun h => absurd h (by simp only [own_told, a0, b0, f2, f3, f4, l0, l1, l2, l3, e0, e1, reduceIte, not_false_eq_true]), fun _ => ?_⟩
    simp only [own_told, own_idx, own_ex, own_fn, own_lt, true_and, and_true, false_and, and_false, not_true_eq_false, not_false_eq_true, reduceIte, a0, b0, f2, f3, f4, l0, l1, l2, l3, e0, e1]
    try (first | rfl | decide | (apply Int32.toInt_inj.mp; omega))
set_option maxHeartbeats 4000000 in
theorem own_s2 {k0 k1 k2 k3 key : Int32} (c0 : 0 ≤ k0.toInt) (h01 : k0.toInt < k1.toInt) (h12 : k1.toInt < k2.toInt) (h23 : k2.toInt < k3.toInt) (c3 : k3.toInt < 65536) (bk : 0 ≤ key.toInt ∧ key.toInt < 65536) :
    (own_told (2 : Int32) k0 k1 key = (0 : Int32) → own_idx (2 : Int32) k0 k1 key = (-2147483648 : Int32)) ∧ (¬ own_told (2 : Int32) k0 k1 key = (0 : Int32) → own_idx (2 : Int32) k0 k1 key = own_ex (own_fn (2 : Int32) k0 k1 k2 k3 key) (((own_lt (0 : Int32) (2 : Int32) k0 key + own_lt (1 : Int32) (2 : Int32) k1 key) + own_lt (2 : Int32) (2 : Int32) k2 key) + own_lt (3 : Int32) (2 : Int32) k3 key)) := by
  have z0 : (0 : Int32).toInt = 0 := by decide
  have z1 : (1 : Int32).toInt = 1 := by decide
  have zn : (2 : Int32).toInt = 2 := by decide
  have zl : (65535 : Int32).toInt = 65535 := by decide
  have l0 : (0 : Int32) < (2 : Int32) := by decide
  have l1 : (1 : Int32) < (2 : Int32) := by decide
  have l2 : ¬ (2 : Int32) < (2 : Int32) := by decide
  have l3 : ¬ (3 : Int32) < (2 : Int32) := by decide
  have e0 : ¬ (2 : Int32) = (0 : Int32) := by decide
  have e1 : ¬ (1 : Int32) = (0 : Int32) := by decide
  have s1 := c_isub key k0
  have s2 := c_isub k1 k0
  have s3 := c_iadd (k1 - k0) 1
  have t1 := rng32 (key - k0)
  have t2 := rng32 (k1 - k0)
  have t3 := rng32 ((k1 - k0) + 1)
  have reg : (key.toInt < k0.toInt) ∨ (k0.toInt = key.toInt) ∨ (k0.toInt < key.toInt ∧ key.toInt < k1.toInt) ∨ (k1.toInt = key.toInt) ∨ (k1.toInt < key.toInt) := by omega
  rcases reg with reg | reg | reg | reg | reg
  · have a0 : ¬ k0 < key := by rw [Int32.lt_iff_toInt_lt]; omega
    have b0 : ¬ k0 = key := by rw [← Int32.toInt_inj]; omega
    have a1 : ¬ k1 < key := by rw [Int32.lt_iff_toInt_lt]; omega
    have b1 : ¬ k1 = key := by rw [← Int32.toInt_inj]; omega
    have f2 : key < k0 := by rw [Int32.lt_iff_toInt_lt]; omega
    have f3 : ¬ key = k0 := by rw [← Int32.toInt_inj]; omega
    have f4 : ¬ key = k1 := by rw [← Int32.toInt_inj]; omega
    refine ⟨fun h => absurd h (by simp only [own_told, a0, b0, a1, b1, f2, f3, f4, l0, l1, l2, l3, e0, e1, reduceIte, not_false_eq_true]), fun _ => ?_⟩
    simp only [own_told, own_idx, own_ex, own_fn, own_lt, true_and, and_true, false_and, and_false, not_true_eq_false, not_false_eq_true, reduceIte, a0, b0, a1, b1, f2, f3, f4, l0, l1, l2, l3, e0, e1]
    try (first | rfl | decide | (apply Int32.toInt_inj.mp; omega))
  · have a0 : ¬ k0 < key := by rw [Int32.lt_iff_toInt_lt]; omega
    have b0 : k0 = key := by exact Int32.toInt_inj.mp (by omega)
    have a1 : ¬ k1 < key := by rw [Int32.lt_iff_toInt_lt]; omega
    have b1 : ¬ k1 = key := by rw [← Int32.toInt_inj]; omega
    have f2 : ¬ key < k0 := by rw [Int32.lt_iff_toInt_lt]; omega
    have f3 : key = k0 := by exact Int32.toInt_inj.mp (by omega)
    have f4 : ¬ key = k1 := by rw [← Int32.toInt_inj]; omega
    refine ⟨fun h => absurd h (by simp only [own_told, a0, eq_true b0, a1, b1, f2, eq_true f3, f4, l0, l1, l2, l3, e0, e1, reduceIte, not_false_eq_true]), fun _ => ?_⟩
    simp only [own_told, own_idx, own_ex, own_fn, own_lt, true_and, and_true, false_and, and_false, not_true_eq_false, not_false_eq_true, reduceIte, a0, eq_true b0, a1, b1, f2, eq_true f3, f4, l0, l1, l2, l3, e0, e1]
    exact Int32.toInt_inj.mp ((show (key - k0).toInt = 0 by omega).trans (by decide))
  · have a0 : k0 < key := by rw [Int32.lt_iff_toInt_lt]; omega
    have b0 : ¬ k0 = key := by rw [← Int32.toInt_inj]; omega
    have a1 : ¬ k1 < key := by rw [Int32.lt_iff_toInt_lt]; omega
    have b1 : ¬ k1 = key := by rw [← Int32.toInt_inj]; omega
    have f2 : ¬ key < k0 := by rw [Int32.lt_iff_toInt_lt]; omega
    have f3 : ¬ key = k0 := by rw [← Int32.toInt_inj]; omega
    have f4 : ¬ key = k1 := by rw [← Int32.toInt_inj]; omega
    by_cases hq : ((k1 - k0) + (1 : Int32)) = (2 : Int32)
    · have hq' : ((k1 - k0) + (1 : Int32)).toInt = 2 := by rw [hq]; decide
      exfalso; omega
    · refine ⟨fun _ => ?_, fun h => absurd (by simp only [own_told, hq, a0, b0, a1, b1, f2, f3, f4, l0, l1, l2, l3, e0, e1, reduceIte]) h⟩
      simp only [own_idx, hq, a0, b0, a1, b1, f2, f3, f4, l0, l1, l2, l3, e0, e1, reduceIte]
  · have a0 : k0 < key := by rw [Int32.lt_iff_toInt_lt]; omega
    have b0 : ¬ k0 = key := by rw [← Int32.toInt_inj]; omega
    have a1 : ¬ k1 < key := by rw [Int32.lt_iff_toInt_lt]; omega
    have b1 : k1 = key := by exact Int32.toInt_inj.mp (by omega)
    have f2 : ¬ key < k0 := by rw [Int32.lt_iff_toInt_lt]; omega
    have f3 : ¬ key = k0 := by rw [← Int32.toInt_inj]; omega
    have f4 : key = k1 := by exact Int32.toInt_inj.mp (by omega)
    refine ⟨fun h => absurd h (by simp only [own_told, a0, b0, a1, eq_true b1, f2, f3, eq_true f4, l0, l1, l2, l3, e0, e1, reduceIte, not_false_eq_true]), fun _ => ?_⟩
    simp only [own_told, own_idx, own_ex, own_fn, own_lt, true_and, and_true, false_and, and_false, not_true_eq_false, not_false_eq_true, reduceIte, a0, b0, a1, eq_true b1, f2, f3, eq_true f4, l0, l1, l2, l3, e0, e1]
    split
    · rename_i hq
      have hq' : ((k1 - k0) + (1 : Int32)).toInt = 2 := by rw [hq]; decide
      exact Int32.toInt_inj.mp ((show (key - k0).toInt = 1 by omega).trans (by decide))
    · decide
  · have a0 : k0 < key := by rw [Int32.lt_iff_toInt_lt]; omega
    have b0 : ¬ k0 = key := by rw [← Int32.toInt_inj]; omega
    have a1 : k1 < key := by rw [Int32.lt_iff_toInt_lt]; omega
    have b1 : ¬ k1 = key := by rw [← Int32.toInt_inj]; omega
    have f2 : ¬ key < k0 := by rw [Int32.lt_iff_toInt_lt]; omega
    have f3 : ¬ key = k0 := by rw [← Int32.toInt_inj]; omega
    have f4 : ¬ key = k1 := by rw [← Int32.toInt_inj]; omega
    refine ⟨fun h => absurd h (by simp only [own_told, a0, b0, a1, b1, f2, f3, f4, l0, l1, l2, l3, e0, e1, reduceIte, not_false_eq_true]), fun _ => ?_⟩
    simp only [own_told, own_idx, own_ex, own_fn, own_lt, true_and, and_true, false_and, and_false, not_true_eq_false, not_false_eq_true, reduceIte, a0, b0, a1, b1, f2, f3, f4, l0, l1, l2, l3, e0, e1]
    try (first | rfl | decide | (apply Int32.toInt_inj.mp; omega))
set_option maxHeartbeats 4000000 in
theorem own_s3 {k0 k1 k2 k3 key : Int32} (c0 : 0 ≤ k0.toInt) (h01 : k0.toInt < k1.toInt) (h12 : k1.toInt < k2.toInt) (h23 : k2.toInt < k3.toInt) (c3 : k3.toInt < 65536) (bk : 0 ≤ key.toInt ∧ key.toInt < 65536) :
    (own_told (3 : Int32) k0 k2 key = (0 : Int32) → own_idx (3 : Int32) k0 k2 key = (-2147483648 : Int32)) ∧ (¬ own_told (3 : Int32) k0 k2 key = (0 : Int32) → own_idx (3 : Int32) k0 k2 key = own_ex (own_fn (3 : Int32) k0 k1 k2 k3 key) (((own_lt (0 : Int32) (3 : Int32) k0 key + own_lt (1 : Int32) (3 : Int32) k1 key) + own_lt (2 : Int32) (3 : Int32) k2 key) + own_lt (3 : Int32) (3 : Int32) k3 key)) := by
  have z0 : (0 : Int32).toInt = 0 := by decide
  have z1 : (1 : Int32).toInt = 1 := by decide
  have zn : (3 : Int32).toInt = 3 := by decide
  have zl : (65535 : Int32).toInt = 65535 := by decide
  have l0 : (0 : Int32) < (3 : Int32) := by decide
  have l1 : (1 : Int32) < (3 : Int32) := by decide
  have l2 : (2 : Int32) < (3 : Int32) := by decide
  have l3 : ¬ (3 : Int32) < (3 : Int32) := by decide
  have e0 : ¬ (3 : Int32) = (0 : Int32) := by decide
  have e1 : ¬ (1 : Int32) = (0 : Int32) := by decide
  have s1 := c_isub key k0
  have s2 := c_isub k2 k0
  have s3 := c_iadd (k2 - k0) 1
  have t1 := rng32 (key - k0)
  have t2 := rng32 (k2 - k0)
  have t3 := rng32 ((k2 - k0) + 1)
  have reg : (key.toInt < k0.toInt) ∨ (k0.toInt = key.toInt) ∨ (k0.toInt < key.toInt ∧ key.toInt < k1.toInt) ∨ (k1.toInt = key.toInt) ∨ (k1.toInt < key.toInt ∧ key.toInt < k2.toInt) ∨ (k2.toInt = key.toInt) ∨ (k2.toInt < key.toInt) := by omega
  rcases reg with reg | reg | reg | reg | reg | reg | reg
  · have a0 : ¬ k0 < key := by rw [Int32.lt_iff_toInt_lt]; omega
    have b0 : ¬ k0 = key := by rw [← Int32.toInt_inj]; omega
    have a1 : ¬ k1 < key := by rw [Int32.lt_iff_toInt_lt]; omega
    have b1 : ¬ k1 = key := by rw [← Int32.toInt_inj]; omega
    have a2 : ¬ k2 < key := by rw [Int32.lt_iff_toInt_lt]; omega
    have b2 : ¬ k2 = key := by rw [← Int32.toInt_inj]; omega
    have f2 : key < k0 := by rw [Int32.lt_iff_toInt_lt]; omega
    have f3 : ¬ key = k0 := by rw [← Int32.toInt_inj]; omega
    have f4 : ¬ key = k2 := by rw [← Int32.toInt_inj]; omega
    refine ⟨fun h => absurd h (by simp only [own_told, a0, b0, a1, b1, a2, b2, f2, f3, f4, l0, l1, l2, l3, e0, e1, reduceIte, not_false_eq_true]), fun _ => ?_⟩
    simp only [own_told, own_idx, own_ex, own_fn, own_lt, true_and, and_true, false_and, and_false, not_true_eq_false, not_false_eq_true, reduceIte, a0, b0, a1, b1, a2, b2, f2, f3, f4, l0, l1, l2, l3, e0, e1]
    try (first | rfl | decide | (apply Int32.toInt_inj.mp; omega))
  · have a0 : ¬ k0 < key := by rw [Int32.lt_iff_toInt_lt]; omega
    have b0 : k0 = key := by exact Int32.toInt_inj.mp (by omega)
    have a1 : ¬ k1 < key := by rw [Int32.lt_iff_toInt_lt]; omega
    have b1 : ¬ k1 = key := by rw [← Int32.toInt_inj]; omega
    have a2 : ¬ k2 < key := by rw [Int32.lt_iff_toInt_lt]; omega
    have b2 : ¬ k2 = key := by rw [← Int32.toInt_inj]; omega
    have f2 : ¬ key < k0 := by rw [Int32.lt_iff_toInt_lt]; omega
    have f3 : key = k0 := by exact Int32.toInt_inj.mp (by omega)
    have f4 : ¬ key = k2 := by rw [← Int32.toInt_inj]; omega
    refine ⟨fun h => absurd h (by simp only [own_told, a0, eq_true b0, a1, b1, a2, b2, f2, eq_true f3, f4, l0, l1, l2, l3, e0, e1, reduceIte, not_false_eq_true]), fun _ => ?_⟩
    simp only [own_told, own_idx, own_ex, own_fn, own_lt, true_and, and_true, false_and, and_false, not_true_eq_false, not_false_eq_true, reduceIte, a0, eq_true b0, a1, b1, a2, b2, f2, eq_true f3, f4, l0, l1, l2, l3, e0, e1]
    exact Int32.toInt_inj.mp ((show (key - k0).toInt = 0 by omega).trans (by decide))
  · have a0 : k0 < key := by rw [Int32.lt_iff_toInt_lt]; omega
    have b0 : ¬ k0 = key := by rw [← Int32.toInt_inj]; omega
    have a1 : ¬ k1 < key := by rw [Int32.lt_iff_toInt_lt]; omega
    have b1 : ¬ k1 = key := by rw [← Int32.toInt_inj]; omega
    have a2 : ¬ k2 < key := by rw [Int32.lt_iff_toInt_lt]; omega
    have b2 : ¬ k2 = key := by rw [← Int32.toInt_inj]; omega
    have f2 : ¬ key < k0 := by rw [Int32.lt_iff_toInt_lt]; omega
    have f3 : ¬ key = k0 := by rw [← Int32.toInt_inj]; omega
    have f4 : ¬ key = k2 := by rw [← Int32.toInt_inj]; omega
    by_cases hq : ((k2 - k0) + (1 : Int32)) = (3 : Int32)
    · have hq' : ((k2 - k0) + (1 : Int32)).toInt = 3 := by rw [hq]; decide
      exfalso; omega
    · refine ⟨fun _ => ?_, fun h => absurd (by simp only [own_told, hq, a0, b0, a1, b1, a2, b2, f2, f3, f4, l0, l1, l2, l3, e0, e1, reduceIte]) h⟩
      simp only [own_idx, hq, a0, b0, a1, b1, a2, b2, f2, f3, f4, l0, l1, l2, l3, e0, e1, reduceIte]
  · have a0 : k0 < key := by rw [Int32.lt_iff_toInt_lt]; omega
    have b0 : ¬ k0 = key := by rw [← Int32.toInt_inj]; omega
    have a1 : ¬ k1 < key := by rw [Int32.lt_iff_toInt_lt]; omega
    have b1 : k1 = key := by exact Int32.toInt_inj.mp (by omega)
    have a2 : ¬ k2 < key := by rw [Int32.lt_iff_toInt_lt]; omega
    have b2 : ¬ k2 = key := by rw [← Int32.toInt_inj]; omega
    have f2 : ¬ key < k0 := by rw [Int32.lt_iff_toInt_lt]; omega
    have f3 : ¬ key = k0 := by rw [← Int32.toInt_inj]; omega
    have f4 : ¬ key = k2 := by rw [← Int32.toInt_inj]; omega
    by_cases hq : ((k2 - k0) + (1 : Int32)) = (3 : Int32)
    · have hq' : ((k2 - k0) + (1 : Int32)).toInt = 3 := by rw [hq]; decide
      refine ⟨fun h => absurd h (by simp only [own_told, hq, a0, b0, a1, eq_true b1, a2, b2, f2, f3, f4, l0, l1, l2, l3, e0, e1, reduceIte, not_false_eq_true]), fun _ => ?_⟩
      simp only [hq, own_told, own_idx, own_ex, own_fn, own_lt, true_and, and_true, false_and, and_false, not_true_eq_false, not_false_eq_true, reduceIte, a0, b0, a1, eq_true b1, a2, b2, f2, f3, f4, l0, l1, l2, l3, e0, e1]
      have tgt : (key - k0).toInt = 1 := by omega
      exact Int32.toInt_inj.mp (tgt.trans (by decide))
    · refine ⟨fun _ => ?_, fun h => absurd (by simp only [own_told, hq, a0, b0, a1, eq_true b1, a2, b2, f2, f3, f4, l0, l1, l2, l3, e0, e1, reduceIte]) h⟩
      simp only [own_idx, hq, a0, b0, a1, eq_true b1, a2, b2, f2, f3, f4, l0, l1, l2, l3, e0, e1, reduceIte]
  · have a0 : k0 < key := by rw [Int32.lt_iff_toInt_lt]; omega
    have b0 : ¬ k0 = key := by rw [← Int32.toInt_inj]; omega
    have a1 : k1 < key := by rw [Int32.lt_iff_toInt_lt]; omega
    have b1 : ¬ k1 = key := by rw [← Int32.toInt_inj]; omega
    have a2 : ¬ k2 < key := by rw [Int32.lt_iff_toInt_lt]; omega
    have b2 : ¬ k2 = key := by rw [← Int32.toInt_inj]; omega
    have f2 : ¬ key < k0 := by rw [Int32.lt_iff_toInt_lt]; omega
    have f3 : ¬ key = k0 := by rw [← Int32.toInt_inj]; omega
    have f4 : ¬ key = k2 := by rw [← Int32.toInt_inj]; omega
    by_cases hq : ((k2 - k0) + (1 : Int32)) = (3 : Int32)
    · have hq' : ((k2 - k0) + (1 : Int32)).toInt = 3 := by rw [hq]; decide
      exfalso; omega
    · refine ⟨fun _ => ?_, fun h => absurd (by simp only [own_told, hq, a0, b0, a1, b1, a2, b2, f2, f3, f4, l0, l1, l2, l3, e0, e1, reduceIte]) h⟩
      simp only [own_idx, hq, a0, b0, a1, b1, a2, b2, f2, f3, f4, l0, l1, l2, l3, e0, e1, reduceIte]
  · have a0 : k0 < key := by rw [Int32.lt_iff_toInt_lt]; omega
    have b0 : ¬ k0 = key := by rw [← Int32.toInt_inj]; omega
    have a1 : k1 < key := by rw [Int32.lt_iff_toInt_lt]; omega
    have b1 : ¬ k1 = key := by rw [← Int32.toInt_inj]; omega
    have a2 : ¬ k2 < key := by rw [Int32.lt_iff_toInt_lt]; omega
    have b2 : k2 = key := by exact Int32.toInt_inj.mp (by omega)
    have f2 : ¬ key < k0 := by rw [Int32.lt_iff_toInt_lt]; omega
    have f3 : ¬ key = k0 := by rw [← Int32.toInt_inj]; omega
    have f4 : key = k2 := by exact Int32.toInt_inj.mp (by omega)
    refine ⟨fun h => absurd h (by simp only [own_told, a0, b0, a1, b1, a2, eq_true b2, f2, f3, eq_true f4, l0, l1, l2, l3, e0, e1, reduceIte, not_false_eq_true]), fun _ => ?_⟩
    simp only [own_told, own_idx, own_ex, own_fn, own_lt, true_and, and_true, false_and, and_false, not_true_eq_false, not_false_eq_true, reduceIte, a0, b0, a1, b1, a2, eq_true b2, f2, f3, eq_true f4, l0, l1, l2, l3, e0, e1]
    split
    · rename_i hq
      have hq' : ((k2 - k0) + (1 : Int32)).toInt = 3 := by rw [hq]; decide
      exact Int32.toInt_inj.mp ((show (key - k0).toInt = 2 by omega).trans (by decide))
    · decide
  · have a0 : k0 < key := by rw [Int32.lt_iff_toInt_lt]; omega
    have b0 : ¬ k0 = key := by rw [← Int32.toInt_inj]; omega
    have a1 : k1 < key := by rw [Int32.lt_iff_toInt_lt]; omega
    have b1 : ¬ k1 = key := by rw [← Int32.toInt_inj]; omega
    have a2 : k2 < key := by rw [Int32.lt_iff_toInt_lt]; omega
    have b2 : ¬ k2 = key := by rw [← Int32.toInt_inj]; omega
    have f2 : ¬ key < k0 := by rw [Int32.lt_iff_toInt_lt]; omega
    have f3 : ¬ key = k0 := by rw [← Int32.toInt_inj]; omega
    have f4 : ¬ key = k2 := by rw [← Int32.toInt_inj]; omega
    refine ⟨fun h => absurd h (by simp only [own_told, a0, b0, a1, b1, a2, b2, f2, f3, f4, l0, l1, l2, l3, e0, e1, reduceIte, not_false_eq_true]), fun _ => ?_⟩
    simp only [own_told, own_idx, own_ex, own_fn, own_lt, true_and, and_true, false_and, and_false, not_true_eq_false, not_false_eq_true, reduceIte, a0, b0, a1, b1, a2, b2, f2, f3, f4, l0, l1, l2, l3, e0, e1]
    try (first | rfl | decide | (apply Int32.toInt_inj.mp; omega))
set_option maxHeartbeats 4000000 in
theorem own_s4 {k0 k1 k2 k3 key : Int32} (c0 : 0 ≤ k0.toInt) (h01 : k0.toInt < k1.toInt) (h12 : k1.toInt < k2.toInt) (h23 : k2.toInt < k3.toInt) (c3 : k3.toInt < 65536) (bk : 0 ≤ key.toInt ∧ key.toInt < 65536) :
    (own_told (4 : Int32) k0 k3 key = (0 : Int32) → own_idx (4 : Int32) k0 k3 key = (-2147483648 : Int32)) ∧ (¬ own_told (4 : Int32) k0 k3 key = (0 : Int32) → own_idx (4 : Int32) k0 k3 key = own_ex (own_fn (4 : Int32) k0 k1 k2 k3 key) (((own_lt (0 : Int32) (4 : Int32) k0 key + own_lt (1 : Int32) (4 : Int32) k1 key) + own_lt (2 : Int32) (4 : Int32) k2 key) + own_lt (3 : Int32) (4 : Int32) k3 key)) := by
  have z0 : (0 : Int32).toInt = 0 := by decide
  have z1 : (1 : Int32).toInt = 1 := by decide
  have zn : (4 : Int32).toInt = 4 := by decide
  have zl : (65535 : Int32).toInt = 65535 := by decide
  have l0 : (0 : Int32) < (4 : Int32) := by decide
  have l1 : (1 : Int32) < (4 : Int32) := by decide
  have l2 : (2 : Int32) < (4 : Int32) := by decide
  have l3 : (3 : Int32) < (4 : Int32) := by decide
  have e0 : ¬ (4 : Int32) = (0 : Int32) := by decide
  have e1 : ¬ (1 : Int32) = (0 : Int32) := by decide
  have s1 := c_isub key k0
  have s2 := c_isub k3 k0
  have s3 := c_iadd (k3 - k0) 1
  have t1 := rng32 (key - k0)
  have t2 := rng32 (k3 - k0)
  have t3 := rng32 ((k3 - k0) + 1)
  have reg : (key.toInt < k0.toInt) ∨ (k0.toInt = key.toInt) ∨ (k0.toInt < key.toInt ∧ key.toInt < k1.toInt) ∨ (k1.toInt = key.toInt) ∨ (k1.toInt < key.toInt ∧ key.toInt < k2.toInt) ∨ (k2.toInt = key.toInt) ∨ (k2.toInt < key.toInt ∧ key.toInt < k3.toInt) ∨ (k3.toInt = key.toInt) ∨ (k3.toInt < key.toInt) := by omega
  rcases reg with reg | reg | reg | reg | reg | reg | reg | reg | reg
  · have a0 : ¬ k0 < key := by rw [Int32.lt_iff_toInt_lt]; omega
    have b0 : ¬ k0 = key := by rw [← Int32.toInt_inj]; omega
    have a1 : ¬ k1 < key := by rw [Int32.lt_iff_toInt_lt]; omega
    have b1 : ¬ k1 = key := by rw [← Int32.toInt_inj]; omega
    have a2 : ¬ k2 < key := by rw [Int32.lt_iff_toInt_lt]; omega
    have b2 : ¬ k2 = key := by rw [← Int32.toInt_inj]; omega
    have a3 : ¬ k3 < key := by rw [Int32.lt_iff_toInt_lt]; omega
    have b3 : ¬ k3 = key := by rw [← Int32.toInt_inj]; omega
    have f2 : key < k0 := by rw [Int32.lt_iff_toInt_lt]; omega
    have f3 : ¬ key = k0 := by rw [← Int32.toInt_inj]; omega
    have f4 : ¬ key = k3 := by rw [← Int32.toInt_inj]; omega
    refine ⟨fun h => absurd h (by simp only [own_told, a0, b0, a1, b1, a2, b2, a3, b3, f2, f3, f4, l0, l1, l2, l3, e0, e1, reduceIte, not_false_eq_true]), fun _ => ?_⟩
    simp only [own_told, own_idx, own_ex, own_fn, own_lt, true_and, and_true, false_and, and_false, not_true_eq_false, not_false_eq_true, reduceIte, a0, b0, a1, b1, a2, b2, a3, b3, f2, f3, f4, l0, l1, l2, l3, e0, e1]
    try (first | rfl | decide | (apply Int32.toInt_inj.mp; omega))
  · have a0 : ¬ k0 < key := by rw [Int32.lt_iff_toInt_lt]; omega
    have b0 : k0 = key := by exact Int32.toInt_inj.mp (by omega)
    have a1 : ¬ k1 < key := by rw [Int32.lt_iff_toInt_lt]; omega
    have b1 : ¬ k1 = key := by rw [← Int32.toInt_inj]; omega
    have a2 : ¬ k2 < key := by rw [Int32.lt_iff_toInt_lt]; omega
    have b2 : ¬ k2 = key := by rw [← Int32.toInt_inj]; omega
    have a3 : ¬ k3 < key := by rw [Int32.lt_iff_toInt_lt]; omega
    have b3 : ¬ k3 = key := by rw [← Int32.toInt_inj]; omega
    have f2 : ¬ key < k0 := by rw [Int32.lt_iff_toInt_lt]; omega
    have f3 : key = k0 := by exact Int32.toInt_inj.mp (by omega)
    have f4 : ¬ key = k3 := by rw [← Int32.toInt_inj]; omega
    refine ⟨fun h => absurd h (by simp only [own_told, a0, eq_true b0, a1, b1, a2, b2, a3, b3, f2, eq_true f3, f4, l0, l1, l2, l3, e0, e1, reduceIte, not_false_eq_true]), fun _ => ?_⟩
    simp only [own_told, own_idx, own_ex, own_fn, own_lt, true_and, and_true, false_and, and_false, not_true_eq_false, not_false_eq_true, reduceIte, a0, eq_true b0, a1, b1, a2, b2, a3, b3, f2, eq_true f3, f4, l0, l1, l2, l3, e0, e1]
    exact Int32.toInt_inj.mp ((show (key - k0).toInt = 0 by omega).trans (by decide))
  · have a0 : k0 < key := by rw [Int32.lt_iff_toInt_lt]; omega
    have b0 : ¬ k0 = key := by rw [← Int32.toInt_inj]; omega
    have a1 : ¬ k1 < key := by rw [Int32.lt_iff_toInt_lt]; omega
    have b1 : ¬ k1 = key := by rw [← Int32.toInt_inj]; omega
    have a2 : ¬ k2 < key := by rw [Int32.lt_iff_toInt_lt]; omega
    have b2 : ¬ k2 = key := by rw [← Int32.toInt_inj]; omega
    have a3 : ¬ k3 < key := by rw [Int32.lt_iff_toInt_lt]; omega
    have b3 : ¬ k3 = key := by rw [← Int32.toInt_inj]; omega
    have f2 : ¬ key < k0 := by rw [Int32.lt_iff_toInt_lt]; omega
    have f3 : ¬ key = k0 := by rw [← Int32.toInt_inj]; omega
    have f4 : ¬ key = k3 := by rw [← Int32.toInt_inj]; omega
    by_cases hq : ((k3 - k0) + (1 : Int32)) = (4 : Int32)
    · have hq' : ((k3 - k0) + (1 : Int32)).toInt = 4 := by rw [hq]; decide
      exfalso; omega
    · refine ⟨fun _ => ?_, fun h => absurd (by simp only [own_told, hq, a0, b0, a1, b1, a2, b2, a3, b3, f2, f3, f4, l0, l1, l2, l3, e0, e1, reduceIte]) h⟩
      simp only [own_idx, hq, a0, b0, a1, b1, a2, b2, a3, b3, f2, f3, f4, l0, l1, l2, l3, e0, e1, reduceIte]
  · have a0 : k0 < key := by rw [Int32.lt_iff_toInt_lt]; omega
    have b0 : ¬ k0 = key := by rw [← Int32.toInt_inj]; omega
    have a1 : ¬ k1 < key := by rw [Int32.lt_iff_toInt_lt]; omega
    have b1 : k1 = key := by exact Int32.toInt_inj.mp (by omega)
    have a2 : ¬ k2 < key := by rw [Int32.lt_iff_toInt_lt]; omega
    have b2 : ¬ k2 = key := by rw [← Int32.toInt_inj]; omega
    have a3 : ¬ k3 < key := by rw [Int32.lt_iff_toInt_lt]; omega
    have b3 : ¬ k3 = key := by rw [← Int32.toInt_inj]; omega
    have f2 : ¬ key < k0 := by rw [Int32.lt_iff_toInt_lt]; omega
    have f3 : ¬ key = k0 := by rw [← Int32.toInt_inj]; omega
    have f4 : ¬ key = k3 := by rw [← Int32.toInt_inj]; omega
    by_cases hq : ((k3 - k0) + (1 : Int32)) = (4 : Int32)
    · have hq' : ((k3 - k0) + (1 : Int32)).toInt = 4 := by rw [hq]; decide
      refine ⟨fun h => absurd h (by simp only [own_told, hq, a0, b0, a1, eq_true b1, a2, b2, a3, b3, f2, f3, f4, l0, l1, l2, l3, e0, e1, reduceIte, not_false_eq_true]), fun _ => ?_⟩
      simp only [hq, own_told, own_idx, own_ex, own_fn, own_lt, true_and, and_true, false_and, and_false, not_true_eq_false, not_false_eq_true, reduceIte, a0, b0, a1, eq_true b1, a2, b2, a3, b3, f2, f3, f4, l0, l1, l2, l3, e0, e1]
      have tgt : (key - k0).toInt = 1 := by omega
      exact Int32.toInt_inj.mp (tgt.trans (by decide))
    · refine ⟨fun _ => ?_, fun h => absurd (by simp only [own_told, hq, a0, b0, a1, eq_true b1, a2, b2, a3, b3, f2, f3, f4, l0, l1, l2, l3, e0, e1, reduceIte]) h⟩
      simp only [own_idx, hq, a0, b0, a1, eq_true b1, a2, b2, a3, b3, f2, f3, f4, l0, l1, l2, l3, e0, e1, reduceIte]
  · have a0 : k0 < key := by rw [Int32.lt_iff_toInt_lt]; omega
    have b0 : ¬ k0 = key := by rw [← Int32.toInt_inj]; omega
    have a1 : k1 < key := by rw [Int32.lt_iff_toInt_lt]; omega
    have b1 : ¬ k1 = key := by rw [← Int32.toInt_inj]; omega
    have a2 : ¬ k2 < key := by rw [Int32.lt_iff_toInt_lt]; omega
    have b2 : ¬ k2 = key := by rw [← Int32.toInt_inj]; omega
    have a3 : ¬ k3 < key := by rw [Int32.lt_iff_toInt_lt]; omega
    have b3 : ¬ k3 = key := by rw [← Int32.toInt_inj]; omega
    have f2 : ¬ key < k0 := by rw [Int32.lt_iff_toInt_lt]; omega
    have f3 : ¬ key = k0 := by rw [← Int32.toInt_inj]; omega
    have f4 : ¬ key = k3 := by rw [← Int32.toInt_inj]; omega
    by_cases hq : ((k3 - k0) + (1 : Int32)) = (4 : Int32)
    · have hq' : ((k3 - k0) + (1 : Int32)).toInt = 4 := by rw [hq]; decide
      exfalso; omega
    · refine ⟨fun _ => ?_, fun h => absurd (by simp only [own_told, hq, a0, b0, a1, b1, a2, b2, a3, b3, f2, f3, f4, l0, l1, l2, l3, e0, e1, reduceIte]) h⟩
      simp only [own_idx, hq, a0, b0, a1, b1, a2, b2, a3, b3, f2, f3, f4, l0, l1, l2, l3, e0, e1, reduceIte]
  · have a0 : k0 < key := by rw [Int32.lt_iff_toInt_lt]; omega
    have b0 : ¬ k0 = key := by rw [← Int32.toInt_inj]; omega
    have a1 : k1 < key := by rw [Int32.lt_iff_toInt_lt]; omega
    have b1 : ¬ k1 = key := by rw [← Int32.toInt_inj]; omega
    have a2 : ¬ k2 < key := by rw [Int32.lt_iff_toInt_lt]; omega
    have b2 : k2 = key := by exact Int32.toInt_inj.mp (by omega)
    have a3 : ¬ k3 < key := by rw [Int32.lt_iff_toInt_lt]; omega
    have b3 : ¬ k3 = key := by rw [← Int32.toInt_inj]; omega
    have f2 : ¬ key < k0 := by rw [Int32.lt_iff_toInt_lt]; omega
    have f3 : ¬ key = k0 := by rw [← Int32.toInt_inj]; omega
    have f4 : ¬ key = k3 := by rw [← Int32.toInt_inj]; omega
    by_cases hq : ((k3 - k0) + (1 : Int32)) = (4 : Int32)
    · have hq' : ((k3 - k0) + (1 : Int32)).toInt = 4 := by rw [hq]; decide
      refine ⟨fun h => absurd h (by simp only [own_told, hq, a0, b0, a1, b1, a2, eq_true b2, a3, b3, f2, f3, f4, l0, l1, l2, l3, e0, e1, reduceIte, not_false_eq_true]), fun _ => ?_⟩
      simp only [hq, own_told, own_idx, own_ex, own_fn, own_lt, true_and, and_true, false_and, and_false, not_true_eq_false, not_false_eq_true, reduceIte, a0, b0, a1, b1, a2, eq_true b2, a3, b3, f2, f3, f4, l0, l1, l2, l3, e0, e1]
      have tgt : (key - k0).toInt = 2 := by omega
      exact Int32.toInt_inj.mp (tgt.trans (by decide))
    · refine ⟨fun _ => ?_, fun h => absurd (by simp only [own_told, hq, a0, b0, a1, b1, a2, eq_true b2, a3, b3, f2, f3, f4, l0, l1, l2, l3, e0, e1, reduceIte]) h⟩
      simp only [own_idx, hq, a0, b0, a1, b1, a2, eq_true b2, a3, b3, f2, f3, f4, l0, l1, l2, l3, e0, e1, reduceIte]
  · have a0 : k0 < key := by rw [Int32.lt_iff_toInt_lt]; omega
    have b0 : ¬ k0 = key := by rw [← Int32.toInt_inj]; omega
    have a1 : k1 < key := by rw [Int32.lt_iff_toInt_lt]; omega
    have b1 : ¬ k1 = key := by rw [← Int32.toInt_inj]; omega
    have a2 : k2 < key := by rw [Int32.lt_iff_toInt_lt]; omega
    have b2 : ¬ k2 = key := by rw [← Int32.toInt_inj]; omega
    have a3 : ¬ k3 < key := by rw [Int32.lt_iff_toInt_lt]; omega
    have b3 : ¬ k3 = key := by rw [← Int32.toInt_inj]; omega
    have f2 : ¬ key < k0 := by rw [Int32.lt_iff_toInt_lt]; omega
    have f3 : ¬ key = k0 := by rw [← Int32.toInt_inj]; omega
    have f4 : ¬ key = k3 := by rw [← Int32.toInt_inj]; omega
    by_cases hq : ((k3 - k0) + (1 : Int32)) = (4 : Int32)
    · have hq' : ((k3 - k0) + (1 : Int32)).toInt = 4 := by rw [hq]; decide
      exfalso; omega
    · refine ⟨fun _ => ?_, fun h => absurd (by simp only [own_told, hq, a0, b0, a1, b1, a2, b2, a3, b3, f2, f3, f4, l0, l1, l2, l3, e0, e1, reduceIte]) h⟩
      simp only [own_idx, hq, a0, b0, a1, b1, a2, b2, a3, b3, f2, f3, f4, l0, l1, l2, l3, e0, e1, reduceIte]
  · have a0 : k0 < key := by rw [Int32.lt_iff_toInt_lt]; omega
    have b0 : ¬ k0 = key := by rw [← Int32.toInt_inj]; omega
    have a1 : k1 < key := by rw [Int32.lt_iff_toInt_lt]; omega
    have b1 : ¬ k1 = key := by rw [← Int32.toInt_inj]; omega
    have a2 : k2 < key := by rw [Int32.lt_iff_toInt_lt]; omega
    have b2 : ¬ k2 = key := by rw [← Int32.toInt_inj]; omega
    have a3 : ¬ k3 < key := by rw [Int32.lt_iff_toInt_lt]; omega
    have b3 : k3 = key := by exact Int32.toInt_inj.mp (by omega)
    have f2 : ¬ key < k0 := by rw [Int32.lt_iff_toInt_lt]; omega
    have f3 : ¬ key = k0 := by rw [← Int32.toInt_inj]; omega
    have f4 : key = k3 := by exact Int32.toInt_inj.mp (by omega)
    refine ⟨fun h => absurd h (by simp only [own_told, a0, b0, a1, b1, a2, b2, a3, eq_true b3, f2, f3, eq_true f4, l0, l1, l2, l3, e0, e1, reduceIte, not_false_eq_true]), fun _ => ?_⟩
    simp only [own_told, own_idx, own_ex, own_fn, own_lt, true_and, and_true, false_and, and_false, not_true_eq_false, not_false_eq_true, reduceIte, a0, b0, a1, b1, a2, b2, a3, eq_true b3, f2, f3, eq_true f4, l0, l1, l2, l3, e0, e1]
    split
    · rename_i hq
      have hq' : ((k3 - k0) + (1 : Int32)).toInt = 4 := by rw [hq]; decide
      exact Int32.toInt_inj.mp ((show (key - k0).toInt = 3 by omega).trans (by decide))
    · decide
  · have a0 : k0 < key := by rw [Int32.lt_iff_toInt_lt]; omega
    have b0 : ¬ k0 = key := by rw [← Int32.toInt_inj]; omega
    have a1 : k1 < key := by rw [Int32.lt_iff_toInt_lt]; omega
    have b1 : ¬ k1 = key := by rw [← Int32.toInt_inj]; omega
    have a2 : k2 < key := by rw [Int32.lt_iff_toInt_lt]; omega
    have b2 : ¬ k2 = key := by rw [← Int32.toInt_inj]; omega
    have a3 : k3 < key := by rw [Int32.lt_iff_toInt_lt]; omega
    have b3 : ¬ k3 = key := by rw [← Int32.toInt_inj]; omega
    have f2 : ¬ key < k0 := by rw [Int32.lt_iff_toInt_lt]; omega
    have f3 : ¬ key = k0 := by rw [← Int32.toInt_inj]; omega
    have f4 : ¬ key = k3 := by rw [← Int32.toInt_inj]; omega
    refine ⟨fun h => absurd h (by simp only [own_told, a0, b0, a1, b1, a2, b2, a3, b3, f2, f3, f4, l0, l1, l2, l3, e0, e1, reduceIte, not_false_eq_true]), fun _ => ?_⟩
    simp only [own_told, own_idx, own_ex, own_fn, own_lt, true_and, and_true, false_and, and_false, not_true_eq_false, not_false_eq_true, reduceIte, a0, b0, a1, b1, a2, b2, a3, b3, f2, f3, f4, l0, l1, l2, l3, e0, e1]
    try (first | rfl | decide | (apply Int32.toInt_inj.mp; omega))
theorem own_n04 {n : Int32} (h : 0 ≤ n.toInt ∧ n.toInt ≤ 4) : n = 0 ∨ n = 1 ∨ n = 2 ∨ n = 3 ∨ n = 4 := by
  have z0 : (0 : Int32).toInt = 0 := by decide
  have z1 : (1 : Int32).toInt = 1 := by decide
  have z2 : (2 : Int32).toInt = 2 := by decide
  have z3 : (3 : Int32).toInt = 3 := by decide
  have z4 : (4 : Int32).toInt = 4 := by decide
  simp only [← Int32.toInt_inj]
  omega
theorem own_lohi {nn k0 k1 k2 k3 : Int32} (bn : 0 ≤ nn.toInt ∧ nn.toInt ≤ 4) (d0 : 0 ≤ k0.toInt) (d1 : k0.toInt < k1.toInt) (d2 : k1.toInt < k2.toInt) (d3 : k2.toInt < k3.toInt) (d4 : k3.toInt < 65536) : (0 ≤ (own_lo nn k0).toInt ∧ (own_lo nn k0).toInt < 65536) ∧ 0 ≤ (own_hi nn k0 k1 k2 k3).toInt ∧ (own_hi nn k0 k1 k2 k3).toInt < 65536 := by
  have zl : (65535 : Int32).toInt = 65535 := by decide
  have z0 : (0 : Int32).toInt = 0 := by decide
  unfold own_lo own_hi
  repeat' split
  all_goals omega
theorem own_sp0 {nn lo hi k0 k1 k2 k3 key g1 g2 g3 span : Int32} (bn : 0 ≤ nn.toInt ∧ nn.toInt ≤ 4) (bs : span.toInt = 3 + g1.toInt + g2.toInt + g3.toInt ∧ 3 ≤ span.toInt ∧ span.toInt ≤ 768) (c0 : 0 ≤ k0.toInt ∧ k0.toInt + span.toInt < 65536) (c1 : k1.toInt = k0.toInt + 1 + g1.toInt) (c2 : k2.toInt = k1.toInt + 1 + g2.toInt) (c3 : k3.toInt = k2.toInt + 1 + g3.toInt) (bk : 0 ≤ key.toInt ∧ key.toInt < 65536) (b1 : 0 ≤ g1.toInt ∧ g1.toInt ≤ 255) (b2 : 0 ≤ g2.toInt ∧ g2.toInt ≤ 255) (b3 : 0 ≤ g3.toInt ∧ g3.toInt ≤ 255) (hlo : lo = (own_lo nn k0)) (hhi : hi = (own_hi nn k0 k1 k2 k3)) (ht : own_told nn lo hi key = (0 : Int32)) : own_idx nn (own_c lo) (own_c hi) (own_c key) = (-2147483648 : Int32) := by
  have hb := own_lohi (k0 := k0) (k1 := k1) (k2 := k2) (k3 := k3) bn c0.1 (by omega) (by omega) (by omega) (by omega)
  rw [← hlo, ← hhi] at hb
  rw [own_c_id hb.1.1 hb.1.2, own_c_id hb.2.1 hb.2.2, own_c_id bk.1 bk.2]
  rcases own_n04 bn with rfl | rfl | rfl | rfl | rfl
  · have hlo' : lo = (65535 : Int32) := hlo.trans (by simp [own_lo])
    have hhi' : hi = (0 : Int32) := hhi.trans (by simp [own_hi])
    rw [hlo', hhi'] at ht ⊢
    exact (own_s0 (k0 := k0) (k1 := k1) (k2 := k2) (k3 := k3) (key := key) c0.1 (by omega) (by omega) (by omega) (by omega) bk).1 ht
  · have hlo' : lo = k0 := hlo.trans (by simp [own_lo])
    have hhi' : hi = k0 := hhi.trans (by simp [own_hi])
    rw [hlo', hhi'] at ht ⊢
    exact (own_s1 (k0 := k0) (k1 := k1) (k2 := k2) (k3 := k3) (key := key) c0.1 (by omega) (by omega) (by omega) (by omega) bk).1 ht
  · have hlo' : lo = k0 := hlo.trans (by simp [own_lo])
    have hhi' : hi = k1 := hhi.trans (by simp [own_hi])
    rw [hlo', hhi'] at ht ⊢
    exact (own_s2 (k0 := k0) (k1 := k1) (k2 := k2) (k3 := k3) (key := key) c0.1 (by omega) (by omega) (by omega) (by omega) bk).1 ht
  · have hlo' : lo = k0 := hlo.trans (by simp [own_lo])
    have hhi' : hi = k2 := hhi.trans (by simp [own_hi])
    rw [hlo', hhi'] at ht ⊢
    exact (own_s3 (k0 := k0) (k1 := k1) (k2 := k2) (k3 := k3) (key := key) c0.1 (by omega) (by omega) (by omega) (by omega) bk).1 ht
  · have hlo' : lo = k0 := hlo.trans (by simp [own_lo])
    have hhi' : hi = k3 := hhi.trans (by simp [own_hi])
    rw [hlo', hhi'] at ht ⊢
    exact (own_s4 (k0 := k0) (k1 := k1) (k2 := k2) (k3 := k3) (key := key) c0.1 (by omega) (by omega) (by omega) (by omega) bk).1 ht
theorem own_sp1 {nn lo hi k0 k1 k2 k3 key g1 g2 g3 span : Int32} (bn : 0 ≤ nn.toInt ∧ nn.toInt ≤ 4) (bs : span.toInt = 3 + g1.toInt + g2.toInt + g3.toInt ∧ 3 ≤ span.toInt ∧ span.toInt ≤ 768) (c0 : 0 ≤ k0.toInt ∧ k0.toInt + span.toInt < 65536) (c1 : k1.toInt = k0.toInt + 1 + g1.toInt) (c2 : k2.toInt = k1.toInt + 1 + g2.toInt) (c3 : k3.toInt = k2.toInt + 1 + g3.toInt) (bk : 0 ≤ key.toInt ∧ key.toInt < 65536) (b1 : 0 ≤ g1.toInt ∧ g1.toInt ≤ 255) (b2 : 0 ≤ g2.toInt ∧ g2.toInt ≤ 255) (b3 : 0 ≤ g3.toInt ∧ g3.toInt ≤ 255) (hlo : lo = (own_lo nn k0)) (hhi : hi = (own_hi nn k0 k1 k2 k3)) (ht : ¬ own_told nn lo hi key = (0 : Int32)) : own_idx nn (own_c lo) (own_c hi) (own_c key) = own_ex (own_fn nn k0 k1 k2 k3 key) (((own_lt (0 : Int32) nn k0 key + own_lt (1 : Int32) nn k1 key) + own_lt (2 : Int32) nn k2 key) + own_lt (3 : Int32) nn k3 key) := by
  have hb := own_lohi (k0 := k0) (k1 := k1) (k2 := k2) (k3 := k3) bn c0.1 (by omega) (by omega) (by omega) (by omega)
  rw [← hlo, ← hhi] at hb
  rw [own_c_id hb.1.1 hb.1.2, own_c_id hb.2.1 hb.2.2, own_c_id bk.1 bk.2]
  rcases own_n04 bn with rfl | rfl | rfl | rfl | rfl
  · have hlo' : lo = (65535 : Int32) := hlo.trans (by simp [own_lo])
    have hhi' : hi = (0 : Int32) := hhi.trans (by simp [own_hi])
    rw [hlo', hhi'] at ht ⊢
    exact (own_s0 (k0 := k0) (k1 := k1) (k2 := k2) (k3 := k3) (key := key) c0.1 (by omega) (by omega) (by omega) (by omega) bk).2 ht
  · have hlo' : lo = k0 := hlo.trans (by simp [own_lo])
    have hhi' : hi = k0 := hhi.trans (by simp [own_hi])
    rw [hlo', hhi'] at ht ⊢
    exact (own_s1 (k0 := k0) (k1 := k1) (k2 := k2) (k3 := k3) (key := key) c0.1 (by omega) (by omega) (by omega) (by omega) bk).2 ht
  · have hlo' : lo = k0 := hlo.trans (by simp [own_lo])
    have hhi' : hi = k1 := hhi.trans (by simp [own_hi])
    rw [hlo', hhi'] at ht ⊢
    exact (own_s2 (k0 := k0) (k1 := k1) (k2 := k2) (k3 := k3) (key := key) c0.1 (by omega) (by omega) (by omega) (by omega) bk).2 ht
  · have hlo' : lo = k0 := hlo.trans (by simp [own_lo])
    have hhi' : hi = k2 := hhi.trans (by simp [own_hi])
    rw [hlo', hhi'] at ht ⊢
    exact (own_s3 (k0 := k0) (k1 := k1) (k2 := k2) (k3 := k3) (key := key) c0.1 (by omega) (by omega) (by omega) (by omega) bk).2 ht
  · have hlo' : lo = k0 := hlo.trans (by simp [own_lo])
    have hhi' : hi = k3 := hhi.trans (by simp [own_hi])
    rw [hlo', hhi'] at ht ⊢
    exact (own_s4 (k0 := k0) (k1 := k1) (k2 := k2) (k3 := k3) (key := key) c0.1 (by omega) (by omega) (by omega) (by omega) bk).2 ht

theorem pn_com_example_tightbits_tightbits_ReadableUnsignedIntSetIndexByBoundsPinLaw : plainName "com/example/tightbits/tightbits/ReadableUnsignedIntSetIndexByBoundsPinLaw" = true := by first | (simp [plainName, overriddenIn]; done) | decide +kernel
theorem ef_0 (m : MethodId) (x0 : Int32) (x1 : Int32) (x2 : Int32) (x3 : Int32) (x4 : Int32) : entryFrame m #[(.int x0), (.int x1), (.int x2), (.int x3), (.int x4)] maxLocals = mkF m 0 #[.val (.int x0), .val (.int x1), .val (.int x2), .val (.int x3), .val (.int x4), .unset, .unset, .unset, .unset, .unset, .unset, .unset, .unset, .unset, .unset, .unset, .unset, .unset, .unset, .unset, .unset] [] := by first | (simp [entryFrame, mkF, argsToLocals, Value.category, maxLocals]; done) | rfl
theorem pd__ICCC_I : parseMethodDescriptor "(ICCC)I" = some ⟨[.int, .char, .char, .char], some .int⟩ := by decide +kernel
theorem pd__II_I : parseMethodDescriptor "(II)I" = some ⟨[.int, .int], some .int⟩ := by decide +kernel
def Q_rm0 (Z : State) (x0 : Int32) (x1 : Int32) (x2 : Int32) (x3 : Int32) (x4 : Int32) (h0 : Heap) (n0 : Nat) (v : Option Value) (h : Heap) (L : List Loc) : Prop := v = some (.int 1) ∧ Fr n0 L
set_option maxRecDepth 65536 in
set_option maxHeartbeats 40000000 in
theorem rm0 (l : Launch) (Z : State) (a0 : Array Value) (hw : ∀ d ∈ tables_1, d.before a0 Z = true) (ws : List Jvm.Cond) (x0 : Int32) (x1 : Int32) (x2 : Int32) (x3 : Int32) (x4 : Int32) (h0 : Heap) (n0 : Nat) (Z0 : n0 ≤ h0.size) :
    MetFree l x (head1 (Jvm.Cond.code x code maxLocals ret :: ws) room_1) (fun a U => a = #[(.int x0), (.int x1), (.int x2), (.int x3), (.int x4)] ∧ Z.Warmed39 U.vm ∧ U.heap = h0) (fun _ _ _ _ _ => True) (fun _ U o U' => ∃ v L, o = .returned v ∧ Q_rm0 Z x0 x1 x2 x3 x4 h0 n0 v U'.heap L ∧ FrameEnd U o U' L room_1.cells room_1.slots) := by
  refine own_enter (Q := Q_rm0 Z x0 x1 x2 x3 x4 h0 n0) (plainFor_of_name pn_com_example_tightbits_tightbits_ReadableUnsignedIntSetIndexByBoundsPinLaw) ?_
  intro p e s m below meth c s₁ G X0 hx hby hml hZ hown hnm hret e0 go fin
  replace hown : s.vm.findClass "com/example/tightbits/tightbits/ReadableUnsignedIntSetIndexByBoundsPinLaw" = some m.cls := hown
  replace hnm : meth.name = "law" := hnm
  replace hml : c.maxLocals = 21 := hml
  rw [ef_0 m x0 x1 x2 x3 x4]
  have N0 := Fr.nil n0
  show G (s₁.setTop (mkF m 0 #[.val (.int x0), .val (.int x1), .val (.int x2), .val (.int x3), .val (.int x4), .unset, .unset, .unset, .unset, .unset, .unset, .unset, .unset, .unset, .unset, .unset, .unset, .unset, .unset, .unset, .unset] []))
  refine go (fun tg kg => XS.iload X0.here hx rfl (hb hby at_0) rfl kg) ?_
  show G (s₁.setTop (mkF m 2 #[.val (.int x0), .val (.int x1), .val (.int x2), .val (.int x3), .val (.int x4), .unset, .unset, .unset, .unset, .unset, .unset, .unset, .unset, .unset, .unset, .unset, .unset, .unset, .unset, .unset, .unset] [(.int x4)]))
  refine go (fun tg kg => XS.iconst X0.here hx rfl (hb hby at_2) kg) ?_
  show G (s₁.setTop (mkF m 3 #[.val (.int x0), .val (.int x1), .val (.int x2), .val (.int x3), .val (.int x4), .unset, .unset, .unset, .unset, .unset, .unset, .unset, .unset, .unset, .unset, .unset, .unset, .unset, .unset, .unset, .unset] [(.int (1 : Int32)), (.int x4)]))
  refine go (fun tg kg => XS.iand X0.here hx rfl (hb hby at_3) rfl kg) ?_
  show G (s₁.setTop (mkF m 4 #[.val (.int x0), .val (.int x1), .val (.int x2), .val (.int x3), .val (.int x4), .unset, .unset, .unset, .unset, .unset, .unset, .unset, .unset, .unset, .unset, .unset, .unset, .unset, .unset, .unset, .unset] [(.int (x4 &&& (1 : Int32)))]))
  by_cases hc1 : (x4 &&& (1 : Int32)) = (0 : Int32)
  · refine go (fun tg kg => XS.ifYes X0.here hx rfl (pc0 := 4) (pc' := 11) rfl (hb hby at_4) rfl ((if0 _ _).trans (teq hc1).1) (by decide) (by decide) kg) ?_
    show G (s₁.setTop (mkF m 11 #[.val (.int x0), .val (.int x1), .val (.int x2), .val (.int x3), .val (.int x4), .unset, .unset, .unset, .unset, .unset, .unset, .unset, .unset, .unset, .unset, .unset, .unset, .unset, .unset, .unset, .unset] []))
    refine go (fun tg kg => XS.iconst X0.here hx rfl (hb hby at_11) kg) ?_
    show G (s₁.setTop (mkF m 12 #[.val (.int x0), .val (.int x1), .val (.int x2), .val (.int x3), .val (.int x4), .unset, .unset, .unset, .unset, .unset, .unset, .unset, .unset, .unset, .unset, .unset, .unset, .unset, .unset, .unset, .unset] [(.int (0 : Int32))]))
    refine go (fun tg kg => XS.istore X0.here hx rfl (hb hby at_12) rfl (l' := #[.val (.int x0), .val (.int x1), .val (.int x2), .val (.int x3), .val (.int x4), .val (.int (0 : Int32)), .unset, .unset, .unset, .unset, .unset, .unset, .unset, .unset, .unset, .unset, .unset, .unset, .unset, .unset, .unset]) rfl kg) ?_
    show G (s₁.setTop (mkF m 14 #[.val (.int x0), .val (.int x1), .val (.int x2), .val (.int x3), .val (.int x4), .val (.int (0 : Int32)), .unset, .unset, .unset, .unset, .unset, .unset, .unset, .unset, .unset, .unset, .unset, .unset, .unset, .unset, .unset] []))
    refine go (fun tg kg => XS.iconst X0.here hx rfl (hb hby at_14) kg) ?_
    show G (s₁.setTop (mkF m 15 #[.val (.int x0), .val (.int x1), .val (.int x2), .val (.int x3), .val (.int x4), .val (.int (0 : Int32)), .unset, .unset, .unset, .unset, .unset, .unset, .unset, .unset, .unset, .unset, .unset, .unset, .unset, .unset, .unset] [(.int (0 : Int32))]))
    refine go (fun tg kg => XS.istore X0.here hx rfl (hb hby at_15) rfl (l' := #[.val (.int x0), .val (.int x1), .val (.int x2), .val (.int x3), .val (.int x4), .val (.int (0 : Int32)), .unset, .unset, .unset, .unset, .val (.int (0 : Int32)), .unset, .unset, .unset, .unset, .unset, .unset, .unset, .unset, .unset, .unset]) rfl kg) ?_
    show G (s₁.setTop (mkF m 17 #[.val (.int x0), .val (.int x1), .val (.int x2), .val (.int x3), .val (.int x4), .val (.int (0 : Int32)), .unset, .unset, .unset, .unset, .val (.int (0 : Int32)), .unset, .unset, .unset, .unset, .unset, .unset, .unset, .unset, .unset, .unset] []))
    refine go (fun tg kg => XS.iconst X0.here hx rfl (hb hby at_17) kg) ?_
    show G (s₁.setTop (mkF m 18 #[.val (.int x0), .val (.int x1), .val (.int x2), .val (.int x3), .val (.int x4), .val (.int (0 : Int32)), .unset, .unset, .unset, .unset, .val (.int (0 : Int32)), .unset, .unset, .unset, .unset, .unset, .unset, .unset, .unset, .unset, .unset] [(.int (0 : Int32))]))
    refine go (fun tg kg => XS.istore X0.here hx rfl (hb hby at_18) rfl (l' := #[.val (.int x0), .val (.int x1), .val (.int x2), .val (.int x3), .val (.int x4), .val (.int (0 : Int32)), .unset, .unset, .unset, .unset, .val (.int (0 : Int32)), .val (.int (0 : Int32)), .unset, .unset, .unset, .unset, .unset, .unset, .unset, .unset, .unset]) rfl kg) ?_
    show G (s₁.setTop (mkF m 20 #[.val (.int x0), .val (.int x1), .val (.int x2), .val (.int x3), .val (.int x4), .val (.int (0 : Int32)), .unset, .unset, .unset, .unset, .val (.int (0 : Int32)), .val (.int (0 : Int32)), .unset, .unset, .unset, .unset, .unset, .unset, .unset, .unset, .unset] []))
    refine go (fun tg kg => XS.iconst X0.here hx rfl (hb hby at_20) kg) ?_
    show G (s₁.setTop (mkF m 21 #[.val (.int x0), .val (.int x1), .val (.int x2), .val (.int x3), .val (.int x4), .val (.int (0 : Int32)), .unset, .unset, .unset, .unset, .val (.int (0 : Int32)), .val (.int (0 : Int32)), .unset, .unset, .unset, .unset, .unset, .unset, .unset, .unset, .unset] [(.int (0 : Int32))]))
    refine go (fun tg kg => XS.istore X0.here hx rfl (hb hby at_21) rfl (l' := #[.val (.int x0), .val (.int x1), .val (.int x2), .val (.int x3), .val (.int x4), .val (.int (0 : Int32)), .unset, .unset, .unset, .unset, .val (.int (0 : Int32)), .val (.int (0 : Int32)), .val (.int (0 : Int32)), .unset, .unset, .unset, .unset, .unset, .unset, .unset, .unset]) rfl kg) ?_
    show G (s₁.setTop (mkF m 23 #[.val (.int x0), .val (.int x1), .val (.int x2), .val (.int x3), .val (.int x4), .val (.int (0 : Int32)), .unset, .unset, .unset, .unset, .val (.int (0 : Int32)), .val (.int (0 : Int32)), .val (.int (0 : Int32)), .unset, .unset, .unset, .unset, .unset, .unset, .unset, .unset] []))
    refine go (fun tg kg => XS.iconst X0.here hx rfl (hb hby at_23) kg) ?_
    show G (s₁.setTop (mkF m 24 #[.val (.int x0), .val (.int x1), .val (.int x2), .val (.int x3), .val (.int x4), .val (.int (0 : Int32)), .unset, .unset, .unset, .unset, .val (.int (0 : Int32)), .val (.int (0 : Int32)), .val (.int (0 : Int32)), .unset, .unset, .unset, .unset, .unset, .unset, .unset, .unset] [(.int (0 : Int32))]))
    refine go (fun tg kg => XS.istore X0.here hx rfl (hb hby at_24) rfl (l' := #[.val (.int x0), .val (.int x1), .val (.int x2), .val (.int x3), .val (.int x4), .val (.int (0 : Int32)), .unset, .unset, .unset, .unset, .val (.int (0 : Int32)), .val (.int (0 : Int32)), .val (.int (0 : Int32)), .val (.int (0 : Int32)), .unset, .unset, .unset, .unset, .unset, .unset, .unset]) rfl kg) ?_
    show G (s₁.setTop (mkF m 26 #[.val (.int x0), .val (.int x1), .val (.int x2), .val (.int x3), .val (.int x4), .val (.int (0 : Int32)), .unset, .unset, .unset, .unset, .val (.int (0 : Int32)), .val (.int (0 : Int32)), .val (.int (0 : Int32)), .val (.int (0 : Int32)), .unset, .unset, .unset, .unset, .unset, .unset, .unset] []))
    refine go (fun tg kg => XS.iload X0.here hx rfl (hb hby at_26) rfl kg) ?_
    show G (s₁.setTop (mkF m 28 #[.val (.int x0), .val (.int x1), .val (.int x2), .val (.int x3), .val (.int x4), .val (.int (0 : Int32)), .unset, .unset, .unset, .unset, .val (.int (0 : Int32)), .val (.int (0 : Int32)), .val (.int (0 : Int32)), .val (.int (0 : Int32)), .unset, .unset, .unset, .unset, .unset, .unset, .unset] [(.int (0 : Int32))]))
    refine go (fun tg kg => XS.ifYes X0.here hx rfl (pc0 := 28) (pc' := 78) rfl (hb hby at_28) rfl ((if0 _ _).trans (teq (by decide)).1) (by decide) (by decide) kg) ?_
    show G (s₁.setTop (mkF m 78 #[.val (.int x0), .val (.int x1), .val (.int x2), .val (.int x3), .val (.int x4), .val (.int (0 : Int32)), .unset, .unset, .unset, .unset, .val (.int (0 : Int32)), .val (.int (0 : Int32)), .val (.int (0 : Int32)), .val (.int (0 : Int32)), .unset, .unset, .unset, .unset, .unset, .unset, .unset] []))
    refine go (fun tg kg => XS.iloadN X0.here hx rfl (hb hby at_78) rfl kg) ?_
    show G (s₁.setTop (mkF m 79 #[.val (.int x0), .val (.int x1), .val (.int x2), .val (.int x3), .val (.int x4), .val (.int (0 : Int32)), .unset, .unset, .unset, .unset, .val (.int (0 : Int32)), .val (.int (0 : Int32)), .val (.int (0 : Int32)), .val (.int (0 : Int32)), .unset, .unset, .unset, .unset, .unset, .unset, .unset] [(.int x0)]))
    refine go (fun tg kg => XS.bipush X0.here hx rfl (hb hby at_79) kg) ?_
    show G (s₁.setTop (mkF m 81 #[.val (.int x0), .val (.int x1), .val (.int x2), .val (.int x3), .val (.int x4), .val (.int (0 : Int32)), .unset, .unset, .unset, .unset, .val (.int (0 : Int32)), .val (.int (0 : Int32)), .val (.int (0 : Int32)), .val (.int (0 : Int32)), .unset, .unset, .unset, .unset, .unset, .unset, .unset] [(.int (7 : Int32)), (.int x0)]))
    refine go (fun tg kg => XS.iand X0.here hx rfl (hb hby at_81) rfl kg) ?_
    show G (s₁.setTop (mkF m 82 #[.val (.int x0), .val (.int x1), .val (.int x2), .val (.int x3), .val (.int x4), .val (.int (0 : Int32)), .unset, .unset, .unset, .unset, .val (.int (0 : Int32)), .val (.int (0 : Int32)), .val (.int (0 : Int32)), .val (.int (0 : Int32)), .unset, .unset, .unset, .unset, .unset, .unset, .unset] [(.int (x0 &&& (7 : Int32)))]))
    refine go (fun tg kg => XS.iconst X0.here hx rfl (hb hby at_82) kg) ?_
    show G (s₁.setTop (mkF m 83 #[.val (.int x0), .val (.int x1), .val (.int x2), .val (.int x3), .val (.int x4), .val (.int (0 : Int32)), .unset, .unset, .unset, .unset, .val (.int (0 : Int32)), .val (.int (0 : Int32)), .val (.int (0 : Int32)), .val (.int (0 : Int32)), .unset, .unset, .unset, .unset, .unset, .unset, .unset] [(.int (5 : Int32)), (.int (x0 &&& (7 : Int32)))]))
    refine go (fun tg kg => iremM X0 hx rfl (hb hby at_83) rfl (by decide) kg) ?_
    show G (s₁.setTop (mkF m 84 #[.val (.int x0), .val (.int x1), .val (.int x2), .val (.int x3), .val (.int x4), .val (.int (0 : Int32)), .unset, .unset, .unset, .unset, .val (.int (0 : Int32)), .val (.int (0 : Int32)), .val (.int (0 : Int32)), .val (.int (0 : Int32)), .unset, .unset, .unset, .unset, .unset, .unset, .unset] [(.int ((x0 &&& (7 : Int32)) % (5 : Int32)))]))
    refine go (fun tg kg => XS.istore X0.here hx rfl (hb hby at_84) rfl (l' := #[.val (.int x0), .val (.int x1), .val (.int x2), .val (.int x3), .val (.int x4), .val (.int (0 : Int32)), .val (.int ((x0 &&& (7 : Int32)) % (5 : Int32))), .unset, .unset, .unset, .val (.int (0 : Int32)), .val (.int (0 : Int32)), .val (.int (0 : Int32)), .val (.int (0 : Int32)), .unset, .unset, .unset, .unset, .unset, .unset, .unset]) rfl kg) ?_
    show G (s₁.setTop (mkF m 86 #[.val (.int x0), .val (.int x1), .val (.int x2), .val (.int x3), .val (.int x4), .val (.int (0 : Int32)), .val (.int ((x0 &&& (7 : Int32)) % (5 : Int32))), .unset, .unset, .unset, .val (.int (0 : Int32)), .val (.int (0 : Int32)), .val (.int (0 : Int32)), .val (.int (0 : Int32)), .unset, .unset, .unset, .unset, .unset, .unset, .unset] []))
    obtain ⟨nn, hnn⟩ : ∃ z : Int32, z = ((x0 &&& (7 : Int32)) % (5 : Int32)) := ⟨_, rfl⟩
    have bn := own_n5 x0 hnn
    rw [← hnn]
    show G (s₁.setTop (mkF m 86 #[.val (.int x0), .val (.int x1), .val (.int x2), .val (.int x3), .val (.int x4), .val (.int (0 : Int32)), .val (.int nn), .unset, .unset, .unset, .val (.int (0 : Int32)), .val (.int (0 : Int32)), .val (.int (0 : Int32)), .val (.int (0 : Int32)), .unset, .unset, .unset, .unset, .unset, .unset, .unset] []))
    refine go (fun tg kg => XS.iloadN X0.here hx rfl (hb hby at_86) rfl kg) ?_
    show G (s₁.setTop (mkF m 87 #[.val (.int x0), .val (.int x1), .val (.int x2), .val (.int x3), .val (.int x4), .val (.int (0 : Int32)), .val (.int nn), .unset, .unset, .unset, .val (.int (0 : Int32)), .val (.int (0 : Int32)), .val (.int (0 : Int32)), .val (.int (0 : Int32)), .unset, .unset, .unset, .unset, .unset, .unset, .unset] [(.int x2)]))
    refine go (fun tg kg => XS.sipush X0.here hx rfl (hb hby at_87) kg) ?_
    show G (s₁.setTop (mkF m 90 #[.val (.int x0), .val (.int x1), .val (.int x2), .val (.int x3), .val (.int x4), .val (.int (0 : Int32)), .val (.int nn), .unset, .unset, .unset, .val (.int (0 : Int32)), .val (.int (0 : Int32)), .val (.int (0 : Int32)), .val (.int (0 : Int32)), .unset, .unset, .unset, .unset, .unset, .unset, .unset] [(.int (255 : Int32)), (.int x2)]))
    refine go (fun tg kg => XS.iand X0.here hx rfl (hb hby at_90) rfl kg) ?_
    show G (s₁.setTop (mkF m 91 #[.val (.int x0), .val (.int x1), .val (.int x2), .val (.int x3), .val (.int x4), .val (.int (0 : Int32)), .val (.int nn), .unset, .unset, .unset, .val (.int (0 : Int32)), .val (.int (0 : Int32)), .val (.int (0 : Int32)), .val (.int (0 : Int32)), .unset, .unset, .unset, .unset, .unset, .unset, .unset] [(.int (x2 &&& (255 : Int32)))]))
    refine go (fun tg kg => XS.istore X0.here hx rfl (hb hby at_91) rfl (l' := #[.val (.int x0), .val (.int x1), .val (.int x2), .val (.int x3), .val (.int x4), .val (.int (0 : Int32)), .val (.int nn), .unset, .unset, .unset, .val (.int (0 : Int32)), .val (.int (0 : Int32)), .val (.int (0 : Int32)), .val (.int (0 : Int32)), .val (.int (x2 &&& (255 : Int32))), .unset, .unset, .unset, .unset, .unset, .unset]) rfl kg) ?_
    show G (s₁.setTop (mkF m 93 #[.val (.int x0), .val (.int x1), .val (.int x2), .val (.int x3), .val (.int x4), .val (.int (0 : Int32)), .val (.int nn), .unset, .unset, .unset, .val (.int (0 : Int32)), .val (.int (0 : Int32)), .val (.int (0 : Int32)), .val (.int (0 : Int32)), .val (.int (x2 &&& (255 : Int32))), .unset, .unset, .unset, .unset, .unset, .unset] []))
    obtain ⟨g1, hg1⟩ : ∃ z : Int32, z = (x2 &&& (255 : Int32)) := ⟨_, rfl⟩
    have b1 := own_g x2 hg1
    rw [← hg1]
    show G (s₁.setTop (mkF m 93 #[.val (.int x0), .val (.int x1), .val (.int x2), .val (.int x3), .val (.int x4), .val (.int (0 : Int32)), .val (.int nn), .unset, .unset, .unset, .val (.int (0 : Int32)), .val (.int (0 : Int32)), .val (.int (0 : Int32)), .val (.int (0 : Int32)), .val (.int g1), .unset, .unset, .unset, .unset, .unset, .unset] []))
    refine go (fun tg kg => XS.iloadN X0.here hx rfl (hb hby at_93) rfl kg) ?_
    show G (s₁.setTop (mkF m 94 #[.val (.int x0), .val (.int x1), .val (.int x2), .val (.int x3), .val (.int x4), .val (.int (0 : Int32)), .val (.int nn), .unset, .unset, .unset, .val (.int (0 : Int32)), .val (.int (0 : Int32)), .val (.int (0 : Int32)), .val (.int (0 : Int32)), .val (.int g1), .unset, .unset, .unset, .unset, .unset, .unset] [(.int x2)]))
    refine go (fun tg kg => XS.bipush X0.here hx rfl (hb hby at_94) kg) ?_
    show G (s₁.setTop (mkF m 96 #[.val (.int x0), .val (.int x1), .val (.int x2), .val (.int x3), .val (.int x4), .val (.int (0 : Int32)), .val (.int nn), .unset, .unset, .unset, .val (.int (0 : Int32)), .val (.int (0 : Int32)), .val (.int (0 : Int32)), .val (.int (0 : Int32)), .val (.int g1), .unset, .unset, .unset, .unset, .unset, .unset] [(.int (8 : Int32)), (.int x2)]))
    refine go (fun tg kg => XS.iushr X0.here hx rfl (hb hby at_96) rfl kg) ?_
    show G (s₁.setTop (mkF m 97 #[.val (.int x0), .val (.int x1), .val (.int x2), .val (.int x3), .val (.int x4), .val (.int (0 : Int32)), .val (.int nn), .unset, .unset, .unset, .val (.int (0 : Int32)), .val (.int (0 : Int32)), .val (.int (0 : Int32)), .val (.int (0 : Int32)), .val (.int g1), .unset, .unset, .unset, .unset, .unset, .unset] [(.int ((x2.toUInt32 >>> ((8 : Int32) &&& 31).toUInt32).toInt32))]))
    refine go (fun tg kg => XS.sipush X0.here hx rfl (hb hby at_97) kg) ?_
    show G (s₁.setTop (mkF m 100 #[.val (.int x0), .val (.int x1), .val (.int x2), .val (.int x3), .val (.int x4), .val (.int (0 : Int32)), .val (.int nn), .unset, .unset, .unset, .val (.int (0 : Int32)), .val (.int (0 : Int32)), .val (.int (0 : Int32)), .val (.int (0 : Int32)), .val (.int g1), .unset, .unset, .unset, .unset, .unset, .unset] [(.int (255 : Int32)), (.int ((x2.toUInt32 >>> ((8 : Int32) &&& 31).toUInt32).toInt32))]))
    refine go (fun tg kg => XS.iand X0.here hx rfl (hb hby at_100) rfl kg) ?_
    show G (s₁.setTop (mkF m 101 #[.val (.int x0), .val (.int x1), .val (.int x2), .val (.int x3), .val (.int x4), .val (.int (0 : Int32)), .val (.int nn), .unset, .unset, .unset, .val (.int (0 : Int32)), .val (.int (0 : Int32)), .val (.int (0 : Int32)), .val (.int (0 : Int32)), .val (.int g1), .unset, .unset, .unset, .unset, .unset, .unset] [(.int (((x2.toUInt32 >>> ((8 : Int32) &&& 31).toUInt32).toInt32) &&& (255 : Int32)))]))
    refine go (fun tg kg => XS.istore X0.here hx rfl (hb hby at_101) rfl (l' := #[.val (.int x0), .val (.int x1), .val (.int x2), .val (.int x3), .val (.int x4), .val (.int (0 : Int32)), .val (.int nn), .unset, .unset, .unset, .val (.int (0 : Int32)), .val (.int (0 : Int32)), .val (.int (0 : Int32)), .val (.int (0 : Int32)), .val (.int g1), .val (.int (((x2.toUInt32 >>> ((8 : Int32) &&& 31).toUInt32).toInt32) &&& (255 : Int32))), .unset, .unset, .unset, .unset, .unset]) rfl kg) ?_
    show G (s₁.setTop (mkF m 103 #[.val (.int x0), .val (.int x1), .val (.int x2), .val (.int x3), .val (.int x4), .val (.int (0 : Int32)), .val (.int nn), .unset, .unset, .unset, .val (.int (0 : Int32)), .val (.int (0 : Int32)), .val (.int (0 : Int32)), .val (.int (0 : Int32)), .val (.int g1), .val (.int (((x2.toUInt32 >>> ((8 : Int32) &&& 31).toUInt32).toInt32) &&& (255 : Int32))), .unset, .unset, .unset, .unset, .unset] []))
    obtain ⟨g2, hg2⟩ : ∃ z : Int32, z = (((x2.toUInt32 >>> ((8 : Int32) &&& 31).toUInt32).toInt32) &&& (255 : Int32)) := ⟨_, rfl⟩
    have b2 := own_g _ hg2
    rw [← hg2]
    show G (s₁.setTop (mkF m 103 #[.val (.int x0), .val (.int x1), .val (.int x2), .val (.int x3), .val (.int x4), .val (.int (0 : Int32)), .val (.int nn), .unset, .unset, .unset, .val (.int (0 : Int32)), .val (.int (0 : Int32)), .val (.int (0 : Int32)), .val (.int (0 : Int32)), .val (.int g1), .val (.int g2), .unset, .unset, .unset, .unset, .unset] []))
    refine go (fun tg kg => XS.iloadN X0.here hx rfl (hb hby at_103) rfl kg) ?_
    show G (s₁.setTop (mkF m 104 #[.val (.int x0), .val (.int x1), .val (.int x2), .val (.int x3), .val (.int x4), .val (.int (0 : Int32)), .val (.int nn), .unset, .unset, .unset, .val (.int (0 : Int32)), .val (.int (0 : Int32)), .val (.int (0 : Int32)), .val (.int (0 : Int32)), .val (.int g1), .val (.int g2), .unset, .unset, .unset, .unset, .unset] [(.int x2)]))
    refine go (fun tg kg => XS.bipush X0.here hx rfl (hb hby at_104) kg) ?_
    show G (s₁.setTop (mkF m 106 #[.val (.int x0), .val (.int x1), .val (.int x2), .val (.int x3), .val (.int x4), .val (.int (0 : Int32)), .val (.int nn), .unset, .unset, .unset, .val (.int (0 : Int32)), .val (.int (0 : Int32)), .val (.int (0 : Int32)), .val (.int (0 : Int32)), .val (.int g1), .val (.int g2), .unset, .unset, .unset, .unset, .unset] [(.int (16 : Int32)), (.int x2)]))
    refine go (fun tg kg => XS.iushr X0.here hx rfl (hb hby at_106) rfl kg) ?_
    show G (s₁.setTop (mkF m 107 #[.val (.int x0), .val (.int x1), .val (.int x2), .val (.int x3), .val (.int x4), .val (.int (0 : Int32)), .val (.int nn), .unset, .unset, .unset, .val (.int (0 : Int32)), .val (.int (0 : Int32)), .val (.int (0 : Int32)), .val (.int (0 : Int32)), .val (.int g1), .val (.int g2), .unset, .unset, .unset, .unset, .unset] [(.int ((x2.toUInt32 >>> ((16 : Int32) &&& 31).toUInt32).toInt32))]))
    refine go (fun tg kg => XS.sipush X0.here hx rfl (hb hby at_107) kg) ?_
    show G (s₁.setTop (mkF m 110 #[.val (.int x0), .val (.int x1), .val (.int x2), .val (.int x3), .val (.int x4), .val (.int (0 : Int32)), .val (.int nn), .unset, .unset, .unset, .val (.int (0 : Int32)), .val (.int (0 : Int32)), .val (.int (0 : Int32)), .val (.int (0 : Int32)), .val (.int g1), .val (.int g2), .unset, .unset, .unset, .unset, .unset] [(.int (255 : Int32)), (.int ((x2.toUInt32 >>> ((16 : Int32) &&& 31).toUInt32).toInt32))]))
    refine go (fun tg kg => XS.iand X0.here hx rfl (hb hby at_110) rfl kg) ?_
    show G (s₁.setTop (mkF m 111 #[.val (.int x0), .val (.int x1), .val (.int x2), .val (.int x3), .val (.int x4), .val (.int (0 : Int32)), .val (.int nn), .unset, .unset, .unset, .val (.int (0 : Int32)), .val (.int (0 : Int32)), .val (.int (0 : Int32)), .val (.int (0 : Int32)), .val (.int g1), .val (.int g2), .unset, .unset, .unset, .unset, .unset] [(.int (((x2.toUInt32 >>> ((16 : Int32) &&& 31).toUInt32).toInt32) &&& (255 : Int32)))]))
    refine go (fun tg kg => XS.istore X0.here hx rfl (hb hby at_111) rfl (l' := #[.val (.int x0), .val (.int x1), .val (.int x2), .val (.int x3), .val (.int x4), .val (.int (0 : Int32)), .val (.int nn), .unset, .unset, .unset, .val (.int (0 : Int32)), .val (.int (0 : Int32)), .val (.int (0 : Int32)), .val (.int (0 : Int32)), .val (.int g1), .val (.int g2), .val (.int (((x2.toUInt32 >>> ((16 : Int32) &&& 31).toUInt32).toInt32) &&& (255 : Int32))), .unset, .unset, .unset, .unset]) rfl kg) ?_
    show G (s₁.setTop (mkF m 113 #[.val (.int x0), .val (.int x1), .val (.int x2), .val (.int x3), .val (.int x4), .val (.int (0 : Int32)), .val (.int nn), .unset, .unset, .unset, .val (.int (0 : Int32)), .val (.int (0 : Int32)), .val (.int (0 : Int32)), .val (.int (0 : Int32)), .val (.int g1), .val (.int g2), .val (.int (((x2.toUInt32 >>> ((16 : Int32) &&& 31).toUInt32).toInt32) &&& (255 : Int32))), .unset, .unset, .unset, .unset] []))
    obtain ⟨g3, hg3⟩ : ∃ z : Int32, z = (((x2.toUInt32 >>> ((16 : Int32) &&& 31).toUInt32).toInt32) &&& (255 : Int32)) := ⟨_, rfl⟩
    have b3 := own_g _ hg3
    rw [← hg3]
    show G (s₁.setTop (mkF m 113 #[.val (.int x0), .val (.int x1), .val (.int x2), .val (.int x3), .val (.int x4), .val (.int (0 : Int32)), .val (.int nn), .unset, .unset, .unset, .val (.int (0 : Int32)), .val (.int (0 : Int32)), .val (.int (0 : Int32)), .val (.int (0 : Int32)), .val (.int g1), .val (.int g2), .val (.int g3), .unset, .unset, .unset, .unset] []))
    refine go (fun tg kg => XS.iconst X0.here hx rfl (hb hby at_113) kg) ?_
    show G (s₁.setTop (mkF m 114 #[.val (.int x0), .val (.int x1), .val (.int x2), .val (.int x3), .val (.int x4), .val (.int (0 : Int32)), .val (.int nn), .unset, .unset, .unset, .val (.int (0 : Int32)), .val (.int (0 : Int32)), .val (.int (0 : Int32)), .val (.int (0 : Int32)), .val (.int g1), .val (.int g2), .val (.int g3), .unset, .unset, .unset, .unset] [(.int (3 : Int32))]))
    refine go (fun tg kg => XS.iload X0.here hx rfl (hb hby at_114) rfl kg) ?_
    show G (s₁.setTop (mkF m 116 #[.val (.int x0), .val (.int x1), .val (.int x2), .val (.int x3), .val (.int x4), .val (.int (0 : Int32)), .val (.int nn), .unset, .unset, .unset, .val (.int (0 : Int32)), .val (.int (0 : Int32)), .val (.int (0 : Int32)), .val (.int (0 : Int32)), .val (.int g1), .val (.int g2), .val (.int g3), .unset, .unset, .unset, .unset] [(.int g1), (.int (3 : Int32))]))
    refine go (fun tg kg => XS.iadd X0.here hx rfl (hb hby at_116) rfl kg) ?_
    show G (s₁.setTop (mkF m 117 #[.val (.int x0), .val (.int x1), .val (.int x2), .val (.int x3), .val (.int x4), .val (.int (0 : Int32)), .val (.int nn), .unset, .unset, .unset, .val (.int (0 : Int32)), .val (.int (0 : Int32)), .val (.int (0 : Int32)), .val (.int (0 : Int32)), .val (.int g1), .val (.int g2), .val (.int g3), .unset, .unset, .unset, .unset] [(.int ((3 : Int32) + g1))]))
    refine go (fun tg kg => XS.iload X0.here hx rfl (hb hby at_117) rfl kg) ?_
    show G (s₁.setTop (mkF m 119 #[.val (.int x0), .val (.int x1), .val (.int x2), .val (.int x3), .val (.int x4), .val (.int (0 : Int32)), .val (.int nn), .unset, .unset, .unset, .val (.int (0 : Int32)), .val (.int (0 : Int32)), .val (.int (0 : Int32)), .val (.int (0 : Int32)), .val (.int g1), .val (.int g2), .val (.int g3), .unset, .unset, .unset, .unset] [(.int g2), (.int ((3 : Int32) + g1))]))
    refine go (fun tg kg => XS.iadd X0.here hx rfl (hb hby at_119) rfl kg) ?_
    show G (s₁.setTop (mkF m 120 #[.val (.int x0), .val (.int x1), .val (.int x2), .val (.int x3), .val (.int x4), .val (.int (0 : Int32)), .val (.int nn), .unset, .unset, .unset, .val (.int (0 : Int32)), .val (.int (0 : Int32)), .val (.int (0 : Int32)), .val (.int (0 : Int32)), .val (.int g1), .val (.int g2), .val (.int g3), .unset, .unset, .unset, .unset] [(.int (((3 : Int32) + g1) + g2))]))
    refine go (fun tg kg => XS.iload X0.here hx rfl (hb hby at_120) rfl kg) ?_
    show G (s₁.setTop (mkF m 122 #[.val (.int x0), .val (.int x1), .val (.int x2), .val (.int x3), .val (.int x4), .val (.int (0 : Int32)), .val (.int nn), .unset, .unset, .unset, .val (.int (0 : Int32)), .val (.int (0 : Int32)), .val (.int (0 : Int32)), .val (.int (0 : Int32)), .val (.int g1), .val (.int g2), .val (.int g3), .unset, .unset, .unset, .unset] [(.int g3), (.int (((3 : Int32) + g1) + g2))]))
    refine go (fun tg kg => XS.iadd X0.here hx rfl (hb hby at_122) rfl kg) ?_
    show G (s₁.setTop (mkF m 123 #[.val (.int x0), .val (.int x1), .val (.int x2), .val (.int x3), .val (.int x4), .val (.int (0 : Int32)), .val (.int nn), .unset, .unset, .unset, .val (.int (0 : Int32)), .val (.int (0 : Int32)), .val (.int (0 : Int32)), .val (.int (0 : Int32)), .val (.int g1), .val (.int g2), .val (.int g3), .unset, .unset, .unset, .unset] [(.int ((((3 : Int32) + g1) + g2) + g3))]))
    refine go (fun tg kg => XS.istore X0.here hx rfl (hb hby at_123) rfl (l' := #[.val (.int x0), .val (.int x1), .val (.int x2), .val (.int x3), .val (.int x4), .val (.int (0 : Int32)), .val (.int nn), .unset, .unset, .unset, .val (.int (0 : Int32)), .val (.int (0 : Int32)), .val (.int (0 : Int32)), .val (.int (0 : Int32)), .val (.int g1), .val (.int g2), .val (.int g3), .val (.int ((((3 : Int32) + g1) + g2) + g3)), .unset, .unset, .unset]) rfl kg) ?_
    show G (s₁.setTop (mkF m 125 #[.val (.int x0), .val (.int x1), .val (.int x2), .val (.int x3), .val (.int x4), .val (.int (0 : Int32)), .val (.int nn), .unset, .unset, .unset, .val (.int (0 : Int32)), .val (.int (0 : Int32)), .val (.int (0 : Int32)), .val (.int (0 : Int32)), .val (.int g1), .val (.int g2), .val (.int g3), .val (.int ((((3 : Int32) + g1) + g2) + g3)), .unset, .unset, .unset] []))
    obtain ⟨span, hspan⟩ : ∃ z : Int32, z = ((((3 : Int32) + g1) + g2) + g3) := ⟨_, rfl⟩
    have bs := own_span b1 b2 b3 hspan
    rw [← hspan]
    show G (s₁.setTop (mkF m 125 #[.val (.int x0), .val (.int x1), .val (.int x2), .val (.int x3), .val (.int x4), .val (.int (0 : Int32)), .val (.int nn), .unset, .unset, .unset, .val (.int (0 : Int32)), .val (.int (0 : Int32)), .val (.int (0 : Int32)), .val (.int (0 : Int32)), .val (.int g1), .val (.int g2), .val (.int g3), .val (.int span), .unset, .unset, .unset] []))
    refine go (fun tg kg => XS.iloadN X0.here hx rfl (hb hby at_125) rfl kg) ?_
    show G (s₁.setTop (mkF m 126 #[.val (.int x0), .val (.int x1), .val (.int x2), .val (.int x3), .val (.int x4), .val (.int (0 : Int32)), .val (.int nn), .unset, .unset, .unset, .val (.int (0 : Int32)), .val (.int (0 : Int32)), .val (.int (0 : Int32)), .val (.int (0 : Int32)), .val (.int g1), .val (.int g2), .val (.int g3), .val (.int span), .unset, .unset, .unset] [(.int x1)]))
    refine go (fun tg kg => X0.ldcInt hx hown (mvT hZ (hw _ (List.mem_of_getElem? (i := 0) rfl))) (g := (mkF m 126 #[.val (.int x0), .val (.int x1), .val (.int x2), .val (.int x3), .val (.int x4), .val (.int (0 : Int32)), .val (.int nn), .unset, .unset, .unset, .val (.int (0 : Int32)), .val (.int (0 : Int32)), .val (.int (0 : Int32)), .val (.int (0 : Int32)), .val (.int g1), .val (.int g2), .val (.int g3), .val (.int span), .unset, .unset, .unset] [(.int x1)])) rfl (hb hby at_126) _ kg) ?_
    show G (s₁.setTop (mkF m 128 #[.val (.int x0), .val (.int x1), .val (.int x2), .val (.int x3), .val (.int x4), .val (.int (0 : Int32)), .val (.int nn), .unset, .unset, .unset, .val (.int (0 : Int32)), .val (.int (0 : Int32)), .val (.int (0 : Int32)), .val (.int (0 : Int32)), .val (.int g1), .val (.int g2), .val (.int g3), .val (.int span), .unset, .unset, .unset] [(.int (2147483647 : Int32)), (.int x1)]))
    refine go (fun tg kg => XS.iand X0.here hx rfl (hb hby at_128) rfl kg) ?_
    show G (s₁.setTop (mkF m 129 #[.val (.int x0), .val (.int x1), .val (.int x2), .val (.int x3), .val (.int x4), .val (.int (0 : Int32)), .val (.int nn), .unset, .unset, .unset, .val (.int (0 : Int32)), .val (.int (0 : Int32)), .val (.int (0 : Int32)), .val (.int (0 : Int32)), .val (.int g1), .val (.int g2), .val (.int g3), .val (.int span), .unset, .unset, .unset] [(.int (x1 &&& (2147483647 : Int32)))]))
    refine go (fun tg kg => X0.ldcInt hx hown (mvT hZ (hw _ (List.mem_of_getElem? (i := 1) rfl))) (g := (mkF m 129 #[.val (.int x0), .val (.int x1), .val (.int x2), .val (.int x3), .val (.int x4), .val (.int (0 : Int32)), .val (.int nn), .unset, .unset, .unset, .val (.int (0 : Int32)), .val (.int (0 : Int32)), .val (.int (0 : Int32)), .val (.int (0 : Int32)), .val (.int g1), .val (.int g2), .val (.int g3), .val (.int span), .unset, .unset, .unset] [(.int (x1 &&& (2147483647 : Int32)))])) rfl (hb hby at_129) _ kg) ?_
    show G (s₁.setTop (mkF m 131 #[.val (.int x0), .val (.int x1), .val (.int x2), .val (.int x3), .val (.int x4), .val (.int (0 : Int32)), .val (.int nn), .unset, .unset, .unset, .val (.int (0 : Int32)), .val (.int (0 : Int32)), .val (.int (0 : Int32)), .val (.int (0 : Int32)), .val (.int g1), .val (.int g2), .val (.int g3), .val (.int span), .unset, .unset, .unset] [(.int (65536 : Int32)), (.int (x1 &&& (2147483647 : Int32)))]))
    refine go (fun tg kg => XS.iload X0.here hx rfl (hb hby at_131) rfl kg) ?_
    show G (s₁.setTop (mkF m 133 #[.val (.int x0), .val (.int x1), .val (.int x2), .val (.int x3), .val (.int x4), .val (.int (0 : Int32)), .val (.int nn), .unset, .unset, .unset, .val (.int (0 : Int32)), .val (.int (0 : Int32)), .val (.int (0 : Int32)), .val (.int (0 : Int32)), .val (.int g1), .val (.int g2), .val (.int g3), .val (.int span), .unset, .unset, .unset] [(.int span), (.int (65536 : Int32)), (.int (x1 &&& (2147483647 : Int32)))]))
    refine go (fun tg kg => XS.isub X0.here hx rfl (hb hby at_133) rfl kg) ?_
    show G (s₁.setTop (mkF m 134 #[.val (.int x0), .val (.int x1), .val (.int x2), .val (.int x3), .val (.int x4), .val (.int (0 : Int32)), .val (.int nn), .unset, .unset, .unset, .val (.int (0 : Int32)), .val (.int (0 : Int32)), .val (.int (0 : Int32)), .val (.int (0 : Int32)), .val (.int g1), .val (.int g2), .val (.int g3), .val (.int span), .unset, .unset, .unset] [(.int ((65536 : Int32) - span)), (.int (x1 &&& (2147483647 : Int32)))]))
    refine go (fun tg kg => iremM X0 hx rfl (hb hby at_134) rfl (own_nz3 bs) kg) ?_
    show G (s₁.setTop (mkF m 135 #[.val (.int x0), .val (.int x1), .val (.int x2), .val (.int x3), .val (.int x4), .val (.int (0 : Int32)), .val (.int nn), .unset, .unset, .unset, .val (.int (0 : Int32)), .val (.int (0 : Int32)), .val (.int (0 : Int32)), .val (.int (0 : Int32)), .val (.int g1), .val (.int g2), .val (.int g3), .val (.int span), .unset, .unset, .unset] [(.int ((x1 &&& (2147483647 : Int32)) % ((65536 : Int32) - span)))]))
    refine go (fun tg kg => XS.istore X0.here hx rfl (hb hby at_135) rfl (l' := #[.val (.int x0), .val (.int x1), .val (.int x2), .val (.int x3), .val (.int x4), .val (.int (0 : Int32)), .val (.int nn), .unset, .unset, .unset, .val (.int ((x1 &&& (2147483647 : Int32)) % ((65536 : Int32) - span))), .val (.int (0 : Int32)), .val (.int (0 : Int32)), .val (.int (0 : Int32)), .val (.int g1), .val (.int g2), .val (.int g3), .val (.int span), .unset, .unset, .unset]) rfl kg) ?_
    show G (s₁.setTop (mkF m 137 #[.val (.int x0), .val (.int x1), .val (.int x2), .val (.int x3), .val (.int x4), .val (.int (0 : Int32)), .val (.int nn), .unset, .unset, .unset, .val (.int ((x1 &&& (2147483647 : Int32)) % ((65536 : Int32) - span))), .val (.int (0 : Int32)), .val (.int (0 : Int32)), .val (.int (0 : Int32)), .val (.int g1), .val (.int g2), .val (.int g3), .val (.int span), .unset, .unset, .unset] []))
    obtain ⟨k0, hk0⟩ : ∃ z : Int32, z = ((x1 &&& (2147483647 : Int32)) % ((65536 : Int32) - span)) := ⟨_, rfl⟩
    have c0 := own_k0 x1 bs hk0
    rw [← hk0]
    show G (s₁.setTop (mkF m 137 #[.val (.int x0), .val (.int x1), .val (.int x2), .val (.int x3), .val (.int x4), .val (.int (0 : Int32)), .val (.int nn), .unset, .unset, .unset, .val (.int k0), .val (.int (0 : Int32)), .val (.int (0 : Int32)), .val (.int (0 : Int32)), .val (.int g1), .val (.int g2), .val (.int g3), .val (.int span), .unset, .unset, .unset] []))
    refine go (fun tg kg => XS.iload X0.here hx rfl (hb hby at_137) rfl kg) ?_
    show G (s₁.setTop (mkF m 139 #[.val (.int x0), .val (.int x1), .val (.int x2), .val (.int x3), .val (.int x4), .val (.int (0 : Int32)), .val (.int nn), .unset, .unset, .unset, .val (.int k0), .val (.int (0 : Int32)), .val (.int (0 : Int32)), .val (.int (0 : Int32)), .val (.int g1), .val (.int g2), .val (.int g3), .val (.int span), .unset, .unset, .unset] [(.int k0)]))
    refine go (fun tg kg => XS.iconst X0.here hx rfl (hb hby at_139) kg) ?_
    show G (s₁.setTop (mkF m 140 #[.val (.int x0), .val (.int x1), .val (.int x2), .val (.int x3), .val (.int x4), .val (.int (0 : Int32)), .val (.int nn), .unset, .unset, .unset, .val (.int k0), .val (.int (0 : Int32)), .val (.int (0 : Int32)), .val (.int (0 : Int32)), .val (.int g1), .val (.int g2), .val (.int g3), .val (.int span), .unset, .unset, .unset] [(.int (1 : Int32)), (.int k0)]))
    refine go (fun tg kg => XS.iadd X0.here hx rfl (hb hby at_140) rfl kg) ?_
    show G (s₁.setTop (mkF m 141 #[.val (.int x0), .val (.int x1), .val (.int x2), .val (.int x3), .val (.int x4), .val (.int (0 : Int32)), .val (.int nn), .unset, .unset, .unset, .val (.int k0), .val (.int (0 : Int32)), .val (.int (0 : Int32)), .val (.int (0 : Int32)), .val (.int g1), .val (.int g2), .val (.int g3), .val (.int span), .unset, .unset, .unset] [(.int (k0 + (1 : Int32)))]))
    refine go (fun tg kg => XS.iload X0.here hx rfl (hb hby at_141) rfl kg) ?_
    show G (s₁.setTop (mkF m 143 #[.val (.int x0), .val (.int x1), .val (.int x2), .val (.int x3), .val (.int x4), .val (.int (0 : Int32)), .val (.int nn), .unset, .unset, .unset, .val (.int k0), .val (.int (0 : Int32)), .val (.int (0 : Int32)), .val (.int (0 : Int32)), .val (.int g1), .val (.int g2), .val (.int g3), .val (.int span), .unset, .unset, .unset] [(.int g1), (.int (k0 + (1 : Int32)))]))
    refine go (fun tg kg => XS.iadd X0.here hx rfl (hb hby at_143) rfl kg) ?_
    show G (s₁.setTop (mkF m 144 #[.val (.int x0), .val (.int x1), .val (.int x2), .val (.int x3), .val (.int x4), .val (.int (0 : Int32)), .val (.int nn), .unset, .unset, .unset, .val (.int k0), .val (.int (0 : Int32)), .val (.int (0 : Int32)), .val (.int (0 : Int32)), .val (.int g1), .val (.int g2), .val (.int g3), .val (.int span), .unset, .unset, .unset] [(.int ((k0 + (1 : Int32)) + g1))]))
    refine go (fun tg kg => XS.istore X0.here hx rfl (hb hby at_144) rfl (l' := #[.val (.int x0), .val (.int x1), .val (.int x2), .val (.int x3), .val (.int x4), .val (.int (0 : Int32)), .val (.int nn), .unset, .unset, .unset, .val (.int k0), .val (.int ((k0 + (1 : Int32)) + g1)), .val (.int (0 : Int32)), .val (.int (0 : Int32)), .val (.int g1), .val (.int g2), .val (.int g3), .val (.int span), .unset, .unset, .unset]) rfl kg) ?_
    show G (s₁.setTop (mkF m 146 #[.val (.int x0), .val (.int x1), .val (.int x2), .val (.int x3), .val (.int x4), .val (.int (0 : Int32)), .val (.int nn), .unset, .unset, .unset, .val (.int k0), .val (.int ((k0 + (1 : Int32)) + g1)), .val (.int (0 : Int32)), .val (.int (0 : Int32)), .val (.int g1), .val (.int g2), .val (.int g3), .val (.int span), .unset, .unset, .unset] []))
    obtain ⟨k1, hk1⟩ : ∃ z : Int32, z = ((k0 + (1 : Int32)) + g1) := ⟨_, rfl⟩
    have c1 := own_kk c0.1 (by omega) b1 hk1
    rw [← hk1]
    show G (s₁.setTop (mkF m 146 #[.val (.int x0), .val (.int x1), .val (.int x2), .val (.int x3), .val (.int x4), .val (.int (0 : Int32)), .val (.int nn), .unset, .unset, .unset, .val (.int k0), .val (.int k1), .val (.int (0 : Int32)), .val (.int (0 : Int32)), .val (.int g1), .val (.int g2), .val (.int g3), .val (.int span), .unset, .unset, .unset] []))
    refine go (fun tg kg => XS.iload X0.here hx rfl (hb hby at_146) rfl kg) ?_
    show G (s₁.setTop (mkF m 148 #[.val (.int x0), .val (.int x1), .val (.int x2), .val (.int x3), .val (.int x4), .val (.int (0 : Int32)), .val (.int nn), .unset, .unset, .unset, .val (.int k0), .val (.int k1), .val (.int (0 : Int32)), .val (.int (0 : Int32)), .val (.int g1), .val (.int g2), .val (.int g3), .val (.int span), .unset, .unset, .unset] [(.int k1)]))
    refine go (fun tg kg => XS.iconst X0.here hx rfl (hb hby at_148) kg) ?_
    show G (s₁.setTop (mkF m 149 #[.val (.int x0), .val (.int x1), .val (.int x2), .val (.int x3), .val (.int x4), .val (.int (0 : Int32)), .val (.int nn), .unset, .unset, .unset, .val (.int k0), .val (.int k1), .val (.int (0 : Int32)), .val (.int (0 : Int32)), .val (.int g1), .val (.int g2), .val (.int g3), .val (.int span), .unset, .unset, .unset] [(.int (1 : Int32)), (.int k1)]))
    refine go (fun tg kg => XS.iadd X0.here hx rfl (hb hby at_149) rfl kg) ?_
    show G (s₁.setTop (mkF m 150 #[.val (.int x0), .val (.int x1), .val (.int x2), .val (.int x3), .val (.int x4), .val (.int (0 : Int32)), .val (.int nn), .unset, .unset, .unset, .val (.int k0), .val (.int k1), .val (.int (0 : Int32)), .val (.int (0 : Int32)), .val (.int g1), .val (.int g2), .val (.int g3), .val (.int span), .unset, .unset, .unset] [(.int (k1 + (1 : Int32)))]))
    refine go (fun tg kg => XS.iload X0.here hx rfl (hb hby at_150) rfl kg) ?_
    show G (s₁.setTop (mkF m 152 #[.val (.int x0), .val (.int x1), .val (.int x2), .val (.int x3), .val (.int x4), .val (.int (0 : Int32)), .val (.int nn), .unset, .unset, .unset, .val (.int k0), .val (.int k1), .val (.int (0 : Int32)), .val (.int (0 : Int32)), .val (.int g1), .val (.int g2), .val (.int g3), .val (.int span), .unset, .unset, .unset] [(.int g2), (.int (k1 + (1 : Int32)))]))
    refine go (fun tg kg => XS.iadd X0.here hx rfl (hb hby at_152) rfl kg) ?_
    show G (s₁.setTop (mkF m 153 #[.val (.int x0), .val (.int x1), .val (.int x2), .val (.int x3), .val (.int x4), .val (.int (0 : Int32)), .val (.int nn), .unset, .unset, .unset, .val (.int k0), .val (.int k1), .val (.int (0 : Int32)), .val (.int (0 : Int32)), .val (.int g1), .val (.int g2), .val (.int g3), .val (.int span), .unset, .unset, .unset] [(.int ((k1 + (1 : Int32)) + g2))]))
    refine go (fun tg kg => XS.istore X0.here hx rfl (hb hby at_153) rfl (l' := #[.val (.int x0), .val (.int x1), .val (.int x2), .val (.int x3), .val (.int x4), .val (.int (0 : Int32)), .val (.int nn), .unset, .unset, .unset, .val (.int k0), .val (.int k1), .val (.int ((k1 + (1 : Int32)) + g2)), .val (.int (0 : Int32)), .val (.int g1), .val (.int g2), .val (.int g3), .val (.int span), .unset, .unset, .unset]) rfl kg) ?_
    show G (s₁.setTop (mkF m 155 #[.val (.int x0), .val (.int x1), .val (.int x2), .val (.int x3), .val (.int x4), .val (.int (0 : Int32)), .val (.int nn), .unset, .unset, .unset, .val (.int k0), .val (.int k1), .val (.int ((k1 + (1 : Int32)) + g2)), .val (.int (0 : Int32)), .val (.int g1), .val (.int g2), .val (.int g3), .val (.int span), .unset, .unset, .unset] []))
    obtain ⟨k2, hk2⟩ : ∃ z : Int32, z = ((k1 + (1 : Int32)) + g2) := ⟨_, rfl⟩
    have c2 := own_kk (by omega) (by omega) b2 hk2
    rw [← hk2]
    show G (s₁.setTop (mkF m 155 #[.val (.int x0), .val (.int x1), .val (.int x2), .val (.int x3), .val (.int x4), .val (.int (0 : Int32)), .val (.int nn), .unset, .unset, .unset, .val (.int k0), .val (.int k1), .val (.int k2), .val (.int (0 : Int32)), .val (.int g1), .val (.int g2), .val (.int g3), .val (.int span), .unset, .unset, .unset] []))
    refine go (fun tg kg => XS.iload X0.here hx rfl (hb hby at_155) rfl kg) ?_
    show G (s₁.setTop (mkF m 157 #[.val (.int x0), .val (.int x1), .val (.int x2), .val (.int x3), .val (.int x4), .val (.int (0 : Int32)), .val (.int nn), .unset, .unset, .unset, .val (.int k0), .val (.int k1), .val (.int k2), .val (.int (0 : Int32)), .val (.int g1), .val (.int g2), .val (.int g3), .val (.int span), .unset, .unset, .unset] [(.int k2)]))
    refine go (fun tg kg => XS.iconst X0.here hx rfl (hb hby at_157) kg) ?_
    show G (s₁.setTop (mkF m 158 #[.val (.int x0), .val (.int x1), .val (.int x2), .val (.int x3), .val (.int x4), .val (.int (0 : Int32)), .val (.int nn), .unset, .unset, .unset, .val (.int k0), .val (.int k1), .val (.int k2), .val (.int (0 : Int32)), .val (.int g1), .val (.int g2), .val (.int g3), .val (.int span), .unset, .unset, .unset] [(.int (1 : Int32)), (.int k2)]))
    refine go (fun tg kg => XS.iadd X0.here hx rfl (hb hby at_158) rfl kg) ?_
    show G (s₁.setTop (mkF m 159 #[.val (.int x0), .val (.int x1), .val (.int x2), .val (.int x3), .val (.int x4), .val (.int (0 : Int32)), .val (.int nn), .unset, .unset, .unset, .val (.int k0), .val (.int k1), .val (.int k2), .val (.int (0 : Int32)), .val (.int g1), .val (.int g2), .val (.int g3), .val (.int span), .unset, .unset, .unset] [(.int (k2 + (1 : Int32)))]))
    refine go (fun tg kg => XS.iload X0.here hx rfl (hb hby at_159) rfl kg) ?_
    show G (s₁.setTop (mkF m 161 #[.val (.int x0), .val (.int x1), .val (.int x2), .val (.int x3), .val (.int x4), .val (.int (0 : Int32)), .val (.int nn), .unset, .unset, .unset, .val (.int k0), .val (.int k1), .val (.int k2), .val (.int (0 : Int32)), .val (.int g1), .val (.int g2), .val (.int g3), .val (.int span), .unset, .unset, .unset] [(.int g3), (.int (k2 + (1 : Int32)))]))
    refine go (fun tg kg => XS.iadd X0.here hx rfl (hb hby at_161) rfl kg) ?_
    show G (s₁.setTop (mkF m 162 #[.val (.int x0), .val (.int x1), .val (.int x2), .val (.int x3), .val (.int x4), .val (.int (0 : Int32)), .val (.int nn), .unset, .unset, .unset, .val (.int k0), .val (.int k1), .val (.int k2), .val (.int (0 : Int32)), .val (.int g1), .val (.int g2), .val (.int g3), .val (.int span), .unset, .unset, .unset] [(.int ((k2 + (1 : Int32)) + g3))]))
    refine go (fun tg kg => XS.istore X0.here hx rfl (hb hby at_162) rfl (l' := #[.val (.int x0), .val (.int x1), .val (.int x2), .val (.int x3), .val (.int x4), .val (.int (0 : Int32)), .val (.int nn), .unset, .unset, .unset, .val (.int k0), .val (.int k1), .val (.int k2), .val (.int ((k2 + (1 : Int32)) + g3)), .val (.int g1), .val (.int g2), .val (.int g3), .val (.int span), .unset, .unset, .unset]) rfl kg) ?_
    show G (s₁.setTop (mkF m 164 #[.val (.int x0), .val (.int x1), .val (.int x2), .val (.int x3), .val (.int x4), .val (.int (0 : Int32)), .val (.int nn), .unset, .unset, .unset, .val (.int k0), .val (.int k1), .val (.int k2), .val (.int ((k2 + (1 : Int32)) + g3)), .val (.int g1), .val (.int g2), .val (.int g3), .val (.int span), .unset, .unset, .unset] []))
    obtain ⟨k3, hk3⟩ : ∃ z : Int32, z = ((k2 + (1 : Int32)) + g3) := ⟨_, rfl⟩
    have c3 := own_kk (by omega) (by omega) b3 hk3
    rw [← hk3]
    show G (s₁.setTop (mkF m 164 #[.val (.int x0), .val (.int x1), .val (.int x2), .val (.int x3), .val (.int x4), .val (.int (0 : Int32)), .val (.int nn), .unset, .unset, .unset, .val (.int k0), .val (.int k1), .val (.int k2), .val (.int k3), .val (.int g1), .val (.int g2), .val (.int g3), .val (.int span), .unset, .unset, .unset] []))
    refine go (b := s₁.setTop (mkF m 220 #[.val (.int x0), .val (.int x1), .val (.int x2), .val (.int x3), .val (.int x4), .val (.int (0 : Int32)), .val (.int nn), .val (.int (own_lo nn k0)), .val (.int (own_hi nn k0 k1 k2 k3)), .unset, .val (.int k0), .val (.int k1), .val (.int k2), .val (.int k3), .val (.int g1), .val (.int g2), .val (.int g3), .val (.int span), .unset, .unset, .unset] [])) (fun tg kg => ?_) ?_
    · show Steps p.tables e below (s₁.setTop (mkF m 164 #[.val (.int x0), .val (.int x1), .val (.int x2), .val (.int x3), .val (.int x4), .val (.int (0 : Int32)), .val (.int nn), .unset, .unset, .unset, .val (.int k0), .val (.int k1), .val (.int k2), .val (.int k3), .val (.int g1), .val (.int g2), .val (.int g3), .val (.int span), .unset, .unset, .unset] [])) _
      refine XS.iload X0.here hx rfl (hb hby at_164) rfl ?_
      show Steps p.tables e below (s₁.setTop (mkF m 166 #[.val (.int x0), .val (.int x1), .val (.int x2), .val (.int x3), .val (.int x4), .val (.int (0 : Int32)), .val (.int nn), .unset, .unset, .unset, .val (.int k0), .val (.int k1), .val (.int k2), .val (.int k3), .val (.int g1), .val (.int g2), .val (.int g3), .val (.int span), .unset, .unset, .unset] [(.int nn)])) _
      by_cases hc2 : nn = (0 : Int32)
      · refine XS.ifNo X0.here hx rfl (hb hby at_166) rfl ((if0 _ _).trans (teq hc2).2) ?_
        show Steps p.tables e below (s₁.setTop (mkF m 169 #[.val (.int x0), .val (.int x1), .val (.int x2), .val (.int x3), .val (.int x4), .val (.int (0 : Int32)), .val (.int nn), .unset, .unset, .unset, .val (.int k0), .val (.int k1), .val (.int k2), .val (.int k3), .val (.int g1), .val (.int g2), .val (.int g3), .val (.int span), .unset, .unset, .unset] [])) _
        refine X0.ldcInt hx hown (mvT hZ (hw _ (List.mem_of_getElem? (i := 2) rfl))) (g := (mkF m 169 #[.val (.int x0), .val (.int x1), .val (.int x2), .val (.int x3), .val (.int x4), .val (.int (0 : Int32)), .val (.int nn), .unset, .unset, .unset, .val (.int k0), .val (.int k1), .val (.int k2), .val (.int k3), .val (.int g1), .val (.int g2), .val (.int g3), .val (.int span), .unset, .unset, .unset] [])) rfl (hb hby at_169) _ ?_
        show Steps p.tables e below (s₁.setTop (mkF m 171 #[.val (.int x0), .val (.int x1), .val (.int x2), .val (.int x3), .val (.int x4), .val (.int (0 : Int32)), .val (.int nn), .unset, .unset, .unset, .val (.int k0), .val (.int k1), .val (.int k2), .val (.int k3), .val (.int g1), .val (.int g2), .val (.int g3), .val (.int span), .unset, .unset, .unset] [(.int (65535 : Int32))])) _
        refine XS.istore X0.here hx rfl (hb hby at_171) rfl (l' := #[.val (.int x0), .val (.int x1), .val (.int x2), .val (.int x3), .val (.int x4), .val (.int (0 : Int32)), .val (.int nn), .val (.int (65535 : Int32)), .unset, .unset, .val (.int k0), .val (.int k1), .val (.int k2), .val (.int k3), .val (.int g1), .val (.int g2), .val (.int g3), .val (.int span), .unset, .unset, .unset]) rfl ?_
        show Steps p.tables e below (s₁.setTop (mkF m 173 #[.val (.int x0), .val (.int x1), .val (.int x2), .val (.int x3), .val (.int x4), .val (.int (0 : Int32)), .val (.int nn), .val (.int (65535 : Int32)), .unset, .unset, .val (.int k0), .val (.int k1), .val (.int k2), .val (.int k3), .val (.int g1), .val (.int g2), .val (.int g3), .val (.int span), .unset, .unset, .unset] [])) _
        refine XS.iconst X0.here hx rfl (hb hby at_173) ?_
        show Steps p.tables e below (s₁.setTop (mkF m 174 #[.val (.int x0), .val (.int x1), .val (.int x2), .val (.int x3), .val (.int x4), .val (.int (0 : Int32)), .val (.int nn), .val (.int (65535 : Int32)), .unset, .unset, .val (.int k0), .val (.int k1), .val (.int k2), .val (.int k3), .val (.int g1), .val (.int g2), .val (.int g3), .val (.int span), .unset, .unset, .unset] [(.int (0 : Int32))])) _
        refine XS.istore X0.here hx rfl (hb hby at_174) rfl (l' := #[.val (.int x0), .val (.int x1), .val (.int x2), .val (.int x3), .val (.int x4), .val (.int (0 : Int32)), .val (.int nn), .val (.int (65535 : Int32)), .val (.int (0 : Int32)), .unset, .val (.int k0), .val (.int k1), .val (.int k2), .val (.int k3), .val (.int g1), .val (.int g2), .val (.int g3), .val (.int span), .unset, .unset, .unset]) rfl ?_
        show Steps p.tables e below (s₁.setTop (mkF m 176 #[.val (.int x0), .val (.int x1), .val (.int x2), .val (.int x3), .val (.int x4), .val (.int (0 : Int32)), .val (.int nn), .val (.int (65535 : Int32)), .val (.int (0 : Int32)), .unset, .val (.int k0), .val (.int k1), .val (.int k2), .val (.int k3), .val (.int g1), .val (.int g2), .val (.int g3), .val (.int span), .unset, .unset, .unset] [])) _
        refine XS.goto X0.here hx rfl (pc0 := 176) (pc' := 220) rfl (hb hby at_176) (by decide) (by decide) ?_
        show Steps p.tables e below (s₁.setTop (mkF m 220 #[.val (.int x0), .val (.int x1), .val (.int x2), .val (.int x3), .val (.int x4), .val (.int (0 : Int32)), .val (.int nn), .val (.int (65535 : Int32)), .val (.int (0 : Int32)), .unset, .val (.int k0), .val (.int k1), .val (.int k2), .val (.int k3), .val (.int g1), .val (.int g2), .val (.int g3), .val (.int span), .unset, .unset, .unset] [])) _
        have q0 : (own_lo nn k0) = (65535 : Int32) := by simp only [own_lo, own_hi, if_pos hc1, if_pos hc2]
        have q1 : (own_hi nn k0 k1 k2 k3) = (0 : Int32) := by simp only [own_lo, own_hi, if_pos hc1, if_pos hc2]
        rw [q0, q1] at kg
        exact kg
      · refine XS.ifYes X0.here hx rfl (pc0 := 166) (pc' := 179) rfl (hb hby at_166) rfl ((if0 _ _).trans (feq hc2).2) (by decide) (by decide) ?_
        show Steps p.tables e below (s₁.setTop (mkF m 179 #[.val (.int x0), .val (.int x1), .val (.int x2), .val (.int x3), .val (.int x4), .val (.int (0 : Int32)), .val (.int nn), .unset, .unset, .unset, .val (.int k0), .val (.int k1), .val (.int k2), .val (.int k3), .val (.int g1), .val (.int g2), .val (.int g3), .val (.int span), .unset, .unset, .unset] [])) _
        refine XS.iload X0.here hx rfl (hb hby at_179) rfl ?_
        show Steps p.tables e below (s₁.setTop (mkF m 181 #[.val (.int x0), .val (.int x1), .val (.int x2), .val (.int x3), .val (.int x4), .val (.int (0 : Int32)), .val (.int nn), .unset, .unset, .unset, .val (.int k0), .val (.int k1), .val (.int k2), .val (.int k3), .val (.int g1), .val (.int g2), .val (.int g3), .val (.int span), .unset, .unset, .unset] [(.int k0)])) _
        refine XS.istore X0.here hx rfl (hb hby at_181) rfl (l' := #[.val (.int x0), .val (.int x1), .val (.int x2), .val (.int x3), .val (.int x4), .val (.int (0 : Int32)), .val (.int nn), .val (.int k0), .unset, .unset, .val (.int k0), .val (.int k1), .val (.int k2), .val (.int k3), .val (.int g1), .val (.int g2), .val (.int g3), .val (.int span), .unset, .unset, .unset]) rfl ?_
        show Steps p.tables e below (s₁.setTop (mkF m 183 #[.val (.int x0), .val (.int x1), .val (.int x2), .val (.int x3), .val (.int x4), .val (.int (0 : Int32)), .val (.int nn), .val (.int k0), .unset, .unset, .val (.int k0), .val (.int k1), .val (.int k2), .val (.int k3), .val (.int g1), .val (.int g2), .val (.int g3), .val (.int span), .unset, .unset, .unset] [])) _
        refine XS.iload X0.here hx rfl (hb hby at_183) rfl ?_
        show Steps p.tables e below (s₁.setTop (mkF m 185 #[.val (.int x0), .val (.int x1), .val (.int x2), .val (.int x3), .val (.int x4), .val (.int (0 : Int32)), .val (.int nn), .val (.int k0), .unset, .unset, .val (.int k0), .val (.int k1), .val (.int k2), .val (.int k3), .val (.int g1), .val (.int g2), .val (.int g3), .val (.int span), .unset, .unset, .unset] [(.int nn)])) _
        refine XS.iconst X0.here hx rfl (hb hby at_185) ?_
        show Steps p.tables e below (s₁.setTop (mkF m 186 #[.val (.int x0), .val (.int x1), .val (.int x2), .val (.int x3), .val (.int x4), .val (.int (0 : Int32)), .val (.int nn), .val (.int k0), .unset, .unset, .val (.int k0), .val (.int k1), .val (.int k2), .val (.int k3), .val (.int g1), .val (.int g2), .val (.int g3), .val (.int span), .unset, .unset, .unset] [(.int (1 : Int32)), (.int nn)])) _
        by_cases hc3 : nn = (1 : Int32)
        · refine XS.icmpNo X0.here hx rfl (hb hby at_186) rfl (teq hc3).2 ?_
          show Steps p.tables e below (s₁.setTop (mkF m 189 #[.val (.int x0), .val (.int x1), .val (.int x2), .val (.int x3), .val (.int x4), .val (.int (0 : Int32)), .val (.int nn), .val (.int k0), .unset, .unset, .val (.int k0), .val (.int k1), .val (.int k2), .val (.int k3), .val (.int g1), .val (.int g2), .val (.int g3), .val (.int span), .unset, .unset, .unset] [])) _
          refine XS.iload X0.here hx rfl (hb hby at_189) rfl ?_
          show Steps p.tables e below (s₁.setTop (mkF m 191 #[.val (.int x0), .val (.int x1), .val (.int x2), .val (.int x3), .val (.int x4), .val (.int (0 : Int32)), .val (.int nn), .val (.int k0), .unset, .unset, .val (.int k0), .val (.int k1), .val (.int k2), .val (.int k3), .val (.int g1), .val (.int g2), .val (.int g3), .val (.int span), .unset, .unset, .unset] [(.int k0)])) _
          refine XS.goto X0.here hx rfl (pc0 := 191) (pc' := 218) rfl (hb hby at_191) (by decide) (by decide) ?_
          show Steps p.tables e below (s₁.setTop (mkF m 218 #[.val (.int x0), .val (.int x1), .val (.int x2), .val (.int x3), .val (.int x4), .val (.int (0 : Int32)), .val (.int nn), .val (.int k0), .unset, .unset, .val (.int k0), .val (.int k1), .val (.int k2), .val (.int k3), .val (.int g1), .val (.int g2), .val (.int g3), .val (.int span), .unset, .unset, .unset] [(.int k0)])) _
          refine XS.istore X0.here hx rfl (hb hby at_218) rfl (l' := #[.val (.int x0), .val (.int x1), .val (.int x2), .val (.int x3), .val (.int x4), .val (.int (0 : Int32)), .val (.int nn), .val (.int k0), .val (.int k0), .unset, .val (.int k0), .val (.int k1), .val (.int k2), .val (.int k3), .val (.int g1), .val (.int g2), .val (.int g3), .val (.int span), .unset, .unset, .unset]) rfl ?_
          show Steps p.tables e below (s₁.setTop (mkF m 220 #[.val (.int x0), .val (.int x1), .val (.int x2), .val (.int x3), .val (.int x4), .val (.int (0 : Int32)), .val (.int nn), .val (.int k0), .val (.int k0), .unset, .val (.int k0), .val (.int k1), .val (.int k2), .val (.int k3), .val (.int g1), .val (.int g2), .val (.int g3), .val (.int span), .unset, .unset, .unset] [])) _
          have q0 : (own_lo nn k0) = k0 := by simp only [own_lo, own_hi, if_pos hc1, if_neg hc2, if_pos hc3]
          have q1 : (own_hi nn k0 k1 k2 k3) = k0 := by simp only [own_lo, own_hi, if_pos hc1, if_neg hc2, if_pos hc3]
          rw [q0, q1] at kg
          exact kg
        · refine XS.icmpYes X0.here hx rfl (pc0 := 186) (pc' := 194) rfl (hb hby at_186) rfl (feq hc3).2 (by decide) (by decide) ?_
          show Steps p.tables e below (s₁.setTop (mkF m 194 #[.val (.int x0), .val (.int x1), .val (.int x2), .val (.int x3), .val (.int x4), .val (.int (0 : Int32)), .val (.int nn), .val (.int k0), .unset, .unset, .val (.int k0), .val (.int k1), .val (.int k2), .val (.int k3), .val (.int g1), .val (.int g2), .val (.int g3), .val (.int span), .unset, .unset, .unset] [])) _
          refine XS.iload X0.here hx rfl (hb hby at_194) rfl ?_
          show Steps p.tables e below (s₁.setTop (mkF m 196 #[.val (.int x0), .val (.int x1), .val (.int x2), .val (.int x3), .val (.int x4), .val (.int (0 : Int32)), .val (.int nn), .val (.int k0), .unset, .unset, .val (.int k0), .val (.int k1), .val (.int k2), .val (.int k3), .val (.int g1), .val (.int g2), .val (.int g3), .val (.int span), .unset, .unset, .unset] [(.int nn)])) _
          refine XS.iconst X0.here hx rfl (hb hby at_196) ?_
          show Steps p.tables e below (s₁.setTop (mkF m 197 #[.val (.int x0), .val (.int x1), .val (.int x2), .val (.int x3), .val (.int x4), .val (.int (0 : Int32)), .val (.int nn), .val (.int k0), .unset, .unset, .val (.int k0), .val (.int k1), .val (.int k2), .val (.int k3), .val (.int g1), .val (.int g2), .val (.int g3), .val (.int span), .unset, .unset, .unset] [(.int (2 : Int32)), (.int nn)])) _
          by_cases hc4 : nn = (2 : Int32)
          · refine XS.icmpNo X0.here hx rfl (hb hby at_197) rfl (teq hc4).2 ?_
            show Steps p.tables e below (s₁.setTop (mkF m 200 #[.val (.int x0), .val (.int x1), .val (.int x2), .val (.int x3), .val (.int x4), .val (.int (0 : Int32)), .val (.int nn), .val (.int k0), .unset, .unset, .val (.int k0), .val (.int k1), .val (.int k2), .val (.int k3), .val (.int g1), .val (.int g2), .val (.int g3), .val (.int span), .unset, .unset, .unset] [])) _
            refine XS.iload X0.here hx rfl (hb hby at_200) rfl ?_
            show Steps p.tables e below (s₁.setTop (mkF m 202 #[.val (.int x0), .val (.int x1), .val (.int x2), .val (.int x3), .val (.int x4), .val (.int (0 : Int32)), .val (.int nn), .val (.int k0), .unset, .unset, .val (.int k0), .val (.int k1), .val (.int k2), .val (.int k3), .val (.int g1), .val (.int g2), .val (.int g3), .val (.int span), .unset, .unset, .unset] [(.int k1)])) _
            refine XS.goto X0.here hx rfl (pc0 := 202) (pc' := 218) rfl (hb hby at_202) (by decide) (by decide) ?_
            show Steps p.tables e below (s₁.setTop (mkF m 218 #[.val (.int x0), .val (.int x1), .val (.int x2), .val (.int x3), .val (.int x4), .val (.int (0 : Int32)), .val (.int nn), .val (.int k0), .unset, .unset, .val (.int k0), .val (.int k1), .val (.int k2), .val (.int k3), .val (.int g1), .val (.int g2), .val (.int g3), .val (.int span), .unset, .unset, .unset] [(.int k1)])) _
            refine XS.istore X0.here hx rfl (hb hby at_218) rfl (l' := #[.val (.int x0), .val (.int x1), .val (.int x2), .val (.int x3), .val (.int x4), .val (.int (0 : Int32)), .val (.int nn), .val (.int k0), .val (.int k1), .unset, .val (.int k0), .val (.int k1), .val (.int k2), .val (.int k3), .val (.int g1), .val (.int g2), .val (.int g3), .val (.int span), .unset, .unset, .unset]) rfl ?_
            show Steps p.tables e below (s₁.setTop (mkF m 220 #[.val (.int x0), .val (.int x1), .val (.int x2), .val (.int x3), .val (.int x4), .val (.int (0 : Int32)), .val (.int nn), .val (.int k0), .val (.int k1), .unset, .val (.int k0), .val (.int k1), .val (.int k2), .val (.int k3), .val (.int g1), .val (.int g2), .val (.int g3), .val (.int span), .unset, .unset, .unset] [])) _
            have q0 : (own_lo nn k0) = k0 := by simp only [own_lo, own_hi, if_pos hc1, if_neg hc2, if_neg hc3, if_pos hc4]
            have q1 : (own_hi nn k0 k1 k2 k3) = k1 := by simp only [own_lo, own_hi, if_pos hc1, if_neg hc2, if_neg hc3, if_pos hc4]
            rw [q0, q1] at kg
            exact kg
          · refine XS.icmpYes X0.here hx rfl (pc0 := 197) (pc' := 205) rfl (hb hby at_197) rfl (feq hc4).2 (by decide) (by decide) ?_
            show Steps p.tables e below (s₁.setTop (mkF m 205 #[.val (.int x0), .val (.int x1), .val (.int x2), .val (.int x3), .val (.int x4), .val (.int (0 : Int32)), .val (.int nn), .val (.int k0), .unset, .unset, .val (.int k0), .val (.int k1), .val (.int k2), .val (.int k3), .val (.int g1), .val (.int g2), .val (.int g3), .val (.int span), .unset, .unset, .unset] [])) _
            refine XS.iload X0.here hx rfl (hb hby at_205) rfl ?_
            show Steps p.tables e below (s₁.setTop (mkF m 207 #[.val (.int x0), .val (.int x1), .val (.int x2), .val (.int x3), .val (.int x4), .val (.int (0 : Int32)), .val (.int nn), .val (.int k0), .unset, .unset, .val (.int k0), .val (.int k1), .val (.int k2), .val (.int k3), .val (.int g1), .val (.int g2), .val (.int g3), .val (.int span), .unset, .unset, .unset] [(.int nn)])) _
            refine XS.iconst X0.here hx rfl (hb hby at_207) ?_
            show Steps p.tables e below (s₁.setTop (mkF m 208 #[.val (.int x0), .val (.int x1), .val (.int x2), .val (.int x3), .val (.int x4), .val (.int (0 : Int32)), .val (.int nn), .val (.int k0), .unset, .unset, .val (.int k0), .val (.int k1), .val (.int k2), .val (.int k3), .val (.int g1), .val (.int g2), .val (.int g3), .val (.int span), .unset, .unset, .unset] [(.int (3 : Int32)), (.int nn)])) _
            by_cases hc5 : nn = (3 : Int32)
            · refine XS.icmpNo X0.here hx rfl (hb hby at_208) rfl (teq hc5).2 ?_
              show Steps p.tables e below (s₁.setTop (mkF m 211 #[.val (.int x0), .val (.int x1), .val (.int x2), .val (.int x3), .val (.int x4), .val (.int (0 : Int32)), .val (.int nn), .val (.int k0), .unset, .unset, .val (.int k0), .val (.int k1), .val (.int k2), .val (.int k3), .val (.int g1), .val (.int g2), .val (.int g3), .val (.int span), .unset, .unset, .unset] [])) _
              refine XS.iload X0.here hx rfl (hb hby at_211) rfl ?_
              show Steps p.tables e below (s₁.setTop (mkF m 213 #[.val (.int x0), .val (.int x1), .val (.int x2), .val (.int x3), .val (.int x4), .val (.int (0 : Int32)), .val (.int nn), .val (.int k0), .unset, .unset, .val (.int k0), .val (.int k1), .val (.int k2), .val (.int k3), .val (.int g1), .val (.int g2), .val (.int g3), .val (.int span), .unset, .unset, .unset] [(.int k2)])) _
              refine XS.goto X0.here hx rfl (pc0 := 213) (pc' := 218) rfl (hb hby at_213) (by decide) (by decide) ?_
              show Steps p.tables e below (s₁.setTop (mkF m 218 #[.val (.int x0), .val (.int x1), .val (.int x2), .val (.int x3), .val (.int x4), .val (.int (0 : Int32)), .val (.int nn), .val (.int k0), .unset, .unset, .val (.int k0), .val (.int k1), .val (.int k2), .val (.int k3), .val (.int g1), .val (.int g2), .val (.int g3), .val (.int span), .unset, .unset, .unset] [(.int k2)])) _
              refine XS.istore X0.here hx rfl (hb hby at_218) rfl (l' := #[.val (.int x0), .val (.int x1), .val (.int x2), .val (.int x3), .val (.int x4), .val (.int (0 : Int32)), .val (.int nn), .val (.int k0), .val (.int k2), .unset, .val (.int k0), .val (.int k1), .val (.int k2), .val (.int k3), .val (.int g1), .val (.int g2), .val (.int g3), .val (.int span), .unset, .unset, .unset]) rfl ?_
              show Steps p.tables e below (s₁.setTop (mkF m 220 #[.val (.int x0), .val (.int x1), .val (.int x2), .val (.int x3), .val (.int x4), .val (.int (0 : Int32)), .val (.int nn), .val (.int k0), .val (.int k2), .unset, .val (.int k0), .val (.int k1), .val (.int k2), .val (.int k3), .val (.int g1), .val (.int g2), .val (.int g3), .val (.int span), .unset, .unset, .unset] [])) _
              have q0 : (own_lo nn k0) = k0 := by simp only [own_lo, own_hi, if_pos hc1, if_neg hc2, if_neg hc3, if_neg hc4, if_pos hc5]
              have q1 : (own_hi nn k0 k1 k2 k3) = k2 := by simp only [own_lo, own_hi, if_pos hc1, if_neg hc2, if_neg hc3, if_neg hc4, if_pos hc5]
              rw [q0, q1] at kg
              exact kg
            · refine XS.icmpYes X0.here hx rfl (pc0 := 208) (pc' := 216) rfl (hb hby at_208) rfl (feq hc5).2 (by decide) (by decide) ?_
              show Steps p.tables e below (s₁.setTop (mkF m 216 #[.val (.int x0), .val (.int x1), .val (.int x2), .val (.int x3), .val (.int x4), .val (.int (0 : Int32)), .val (.int nn), .val (.int k0), .unset, .unset, .val (.int k0), .val (.int k1), .val (.int k2), .val (.int k3), .val (.int g1), .val (.int g2), .val (.int g3), .val (.int span), .unset, .unset, .unset] [])) _
              refine XS.iload X0.here hx rfl (hb hby at_216) rfl ?_
              show Steps p.tables e below (s₁.setTop (mkF m 218 #[.val (.int x0), .val (.int x1), .val (.int x2), .val (.int x3), .val (.int x4), .val (.int (0 : Int32)), .val (.int nn), .val (.int k0), .unset, .unset, .val (.int k0), .val (.int k1), .val (.int k2), .val (.int k3), .val (.int g1), .val (.int g2), .val (.int g3), .val (.int span), .unset, .unset, .unset] [(.int k3)])) _
              refine XS.istore X0.here hx rfl (hb hby at_218) rfl (l' := #[.val (.int x0), .val (.int x1), .val (.int x2), .val (.int x3), .val (.int x4), .val (.int (0 : Int32)), .val (.int nn), .val (.int k0), .val (.int k3), .unset, .val (.int k0), .val (.int k1), .val (.int k2), .val (.int k3), .val (.int g1), .val (.int g2), .val (.int g3), .val (.int span), .unset, .unset, .unset]) rfl ?_
              show Steps p.tables e below (s₁.setTop (mkF m 220 #[.val (.int x0), .val (.int x1), .val (.int x2), .val (.int x3), .val (.int x4), .val (.int (0 : Int32)), .val (.int nn), .val (.int k0), .val (.int k3), .unset, .val (.int k0), .val (.int k1), .val (.int k2), .val (.int k3), .val (.int g1), .val (.int g2), .val (.int g3), .val (.int span), .unset, .unset, .unset] [])) _
              have q0 : (own_lo nn k0) = k0 := by simp only [own_lo, own_hi, if_pos hc1, if_neg hc2, if_neg hc3, if_neg hc4, if_neg hc5]
              have q1 : (own_hi nn k0 k1 k2 k3) = k3 := by simp only [own_lo, own_hi, if_pos hc1, if_neg hc2, if_neg hc3, if_neg hc4, if_neg hc5]
              rw [q0, q1] at kg
              exact kg
    show G (s₁.setTop (mkF m 220 #[.val (.int x0), .val (.int x1), .val (.int x2), .val (.int x3), .val (.int x4), .val (.int (0 : Int32)), .val (.int nn), .val (.int (own_lo nn k0)), .val (.int (own_hi nn k0 k1 k2 k3)), .unset, .val (.int k0), .val (.int k1), .val (.int k2), .val (.int k3), .val (.int g1), .val (.int g2), .val (.int g3), .val (.int span), .unset, .unset, .unset] []))
    obtain ⟨lo, hlo⟩ : ∃ z : Int32, z = (own_lo nn k0) := ⟨_, rfl⟩
    rw [← hlo]
    show G (s₁.setTop (mkF m 220 #[.val (.int x0), .val (.int x1), .val (.int x2), .val (.int x3), .val (.int x4), .val (.int (0 : Int32)), .val (.int nn), .val (.int lo), .val (.int (own_hi nn k0 k1 k2 k3)), .unset, .val (.int k0), .val (.int k1), .val (.int k2), .val (.int k3), .val (.int g1), .val (.int g2), .val (.int g3), .val (.int span), .unset, .unset, .unset] []))
    obtain ⟨hi, hhi⟩ : ∃ z : Int32, z = (own_hi nn k0 k1 k2 k3) := ⟨_, rfl⟩
    rw [← hhi]
    show G (s₁.setTop (mkF m 220 #[.val (.int x0), .val (.int x1), .val (.int x2), .val (.int x3), .val (.int x4), .val (.int (0 : Int32)), .val (.int nn), .val (.int lo), .val (.int hi), .unset, .val (.int k0), .val (.int k1), .val (.int k2), .val (.int k3), .val (.int g1), .val (.int g2), .val (.int g3), .val (.int span), .unset, .unset, .unset] []))
    refine go (fun tg kg => XS.iload X0.here hx rfl (hb hby at_220) rfl kg) ?_
    show G (s₁.setTop (mkF m 222 #[.val (.int x0), .val (.int x1), .val (.int x2), .val (.int x3), .val (.int x4), .val (.int (0 : Int32)), .val (.int nn), .val (.int lo), .val (.int hi), .unset, .val (.int k0), .val (.int k1), .val (.int k2), .val (.int k3), .val (.int g1), .val (.int g2), .val (.int g3), .val (.int span), .unset, .unset, .unset] [(.int k1)]))
    refine go (fun tg kg => XS.istore X0.here hx rfl (hb hby at_222) rfl (l' := #[.val (.int x0), .val (.int x1), .val (.int x2), .val (.int x3), .val (.int x4), .val (.int (0 : Int32)), .val (.int nn), .val (.int lo), .val (.int hi), .val (.int k1), .val (.int k0), .val (.int k1), .val (.int k2), .val (.int k3), .val (.int g1), .val (.int g2), .val (.int g3), .val (.int span), .unset, .unset, .unset]) rfl kg) ?_
    show G (s₁.setTop (mkF m 224 #[.val (.int x0), .val (.int x1), .val (.int x2), .val (.int x3), .val (.int x4), .val (.int (0 : Int32)), .val (.int nn), .val (.int lo), .val (.int hi), .val (.int k1), .val (.int k0), .val (.int k1), .val (.int k2), .val (.int k3), .val (.int g1), .val (.int g2), .val (.int g3), .val (.int span), .unset, .unset, .unset] []))
    refine go (fun tg kg => XS.iloadN X0.here hx rfl (hb hby at_224) rfl kg) ?_
    show G (s₁.setTop (mkF m 225 #[.val (.int x0), .val (.int x1), .val (.int x2), .val (.int x3), .val (.int x4), .val (.int (0 : Int32)), .val (.int nn), .val (.int lo), .val (.int hi), .val (.int k1), .val (.int k0), .val (.int k1), .val (.int k2), .val (.int k3), .val (.int g1), .val (.int g2), .val (.int g3), .val (.int span), .unset, .unset, .unset] [(.int x3)]))
    refine go (fun tg kg => XS.bipush X0.here hx rfl (hb hby at_225) kg) ?_
    show G (s₁.setTop (mkF m 227 #[.val (.int x0), .val (.int x1), .val (.int x2), .val (.int x3), .val (.int x4), .val (.int (0 : Int32)), .val (.int nn), .val (.int lo), .val (.int hi), .val (.int k1), .val (.int k0), .val (.int k1), .val (.int k2), .val (.int k3), .val (.int g1), .val (.int g2), .val (.int g3), .val (.int span), .unset, .unset, .unset] [(.int (16 : Int32)), (.int x3)]))
    refine go (fun tg kg => XS.iushr X0.here hx rfl (hb hby at_227) rfl kg) ?_
    show G (s₁.setTop (mkF m 228 #[.val (.int x0), .val (.int x1), .val (.int x2), .val (.int x3), .val (.int x4), .val (.int (0 : Int32)), .val (.int nn), .val (.int lo), .val (.int hi), .val (.int k1), .val (.int k0), .val (.int k1), .val (.int k2), .val (.int k3), .val (.int g1), .val (.int g2), .val (.int g3), .val (.int span), .unset, .unset, .unset] [(.int ((x3.toUInt32 >>> ((16 : Int32) &&& 31).toUInt32).toInt32))]))
    refine go (fun tg kg => XS.bipush X0.here hx rfl (hb hby at_228) kg) ?_
    show G (s₁.setTop (mkF m 230 #[.val (.int x0), .val (.int x1), .val (.int x2), .val (.int x3), .val (.int x4), .val (.int (0 : Int32)), .val (.int nn), .val (.int lo), .val (.int hi), .val (.int k1), .val (.int k0), .val (.int k1), .val (.int k2), .val (.int k3), .val (.int g1), .val (.int g2), .val (.int g3), .val (.int span), .unset, .unset, .unset] [(.int (7 : Int32)), (.int ((x3.toUInt32 >>> ((16 : Int32) &&& 31).toUInt32).toInt32))]))
    refine go (fun tg kg => XS.iand X0.here hx rfl (hb hby at_230) rfl kg) ?_
    show G (s₁.setTop (mkF m 231 #[.val (.int x0), .val (.int x1), .val (.int x2), .val (.int x3), .val (.int x4), .val (.int (0 : Int32)), .val (.int nn), .val (.int lo), .val (.int hi), .val (.int k1), .val (.int k0), .val (.int k1), .val (.int k2), .val (.int k3), .val (.int g1), .val (.int g2), .val (.int g3), .val (.int span), .unset, .unset, .unset] [(.int (((x3.toUInt32 >>> ((16 : Int32) &&& 31).toUInt32).toInt32) &&& (7 : Int32)))]))
    refine go (fun tg kg => XS.istore X0.here hx rfl (hb hby at_231) rfl (l' := #[.val (.int x0), .val (.int x1), .val (.int x2), .val (.int x3), .val (.int x4), .val (.int (0 : Int32)), .val (.int nn), .val (.int lo), .val (.int hi), .val (.int k1), .val (.int k0), .val (.int k1), .val (.int k2), .val (.int k3), .val (.int (((x3.toUInt32 >>> ((16 : Int32) &&& 31).toUInt32).toInt32) &&& (7 : Int32))), .val (.int g2), .val (.int g3), .val (.int span), .unset, .unset, .unset]) rfl kg) ?_
    show G (s₁.setTop (mkF m 233 #[.val (.int x0), .val (.int x1), .val (.int x2), .val (.int x3), .val (.int x4), .val (.int (0 : Int32)), .val (.int nn), .val (.int lo), .val (.int hi), .val (.int k1), .val (.int k0), .val (.int k1), .val (.int k2), .val (.int k3), .val (.int (((x3.toUInt32 >>> ((16 : Int32) &&& 31).toUInt32).toInt32) &&& (7 : Int32))), .val (.int g2), .val (.int g3), .val (.int span), .unset, .unset, .unset] []))
    obtain ⟨sel, hsel⟩ : ∃ z : Int32, z = (((x3.toUInt32 >>> ((16 : Int32) &&& 31).toUInt32).toInt32) &&& (7 : Int32)) := ⟨_, rfl⟩
    rw [← hsel]
    show G (s₁.setTop (mkF m 233 #[.val (.int x0), .val (.int x1), .val (.int x2), .val (.int x3), .val (.int x4), .val (.int (0 : Int32)), .val (.int nn), .val (.int lo), .val (.int hi), .val (.int k1), .val (.int k0), .val (.int k1), .val (.int k2), .val (.int k3), .val (.int sel), .val (.int g2), .val (.int g3), .val (.int span), .unset, .unset, .unset] []))
    refine go (b := s₁.setTop (mkF m 319 #[.val (.int x0), .val (.int x1), .val (.int x2), .val (.int x3), .val (.int x4), .val (.int (0 : Int32)), .val (.int nn), .val (.int lo), .val (.int hi), .val (.int k1), .val (.int k0), .val (.int k1), .val (.int k2), .val (.int k3), .val (.int sel), .val (.int (own_key sel lo hi k1 x3)), .val (.int g3), .val (.int span), .unset, .unset, .unset] [])) (fun tg kg => ?_) ?_
    · show Steps p.tables e below (s₁.setTop (mkF m 233 #[.val (.int x0), .val (.int x1), .val (.int x2), .val (.int x3), .val (.int x4), .val (.int (0 : Int32)), .val (.int nn), .val (.int lo), .val (.int hi), .val (.int k1), .val (.int k0), .val (.int k1), .val (.int k2), .val (.int k3), .val (.int sel), .val (.int g2), .val (.int g3), .val (.int span), .unset, .unset, .unset] [])) _
      refine XS.iload X0.here hx rfl (hb hby at_233) rfl ?_
      show Steps p.tables e below (s₁.setTop (mkF m 235 #[.val (.int x0), .val (.int x1), .val (.int x2), .val (.int x3), .val (.int x4), .val (.int (0 : Int32)), .val (.int nn), .val (.int lo), .val (.int hi), .val (.int k1), .val (.int k0), .val (.int k1), .val (.int k2), .val (.int k3), .val (.int sel), .val (.int g2), .val (.int g3), .val (.int span), .unset, .unset, .unset] [(.int sel)])) _
      by_cases hc6 : sel = (0 : Int32)
      · refine XS.ifNo X0.here hx rfl (hb hby at_235) rfl ((if0 _ _).trans (teq hc6).2) ?_
        show Steps p.tables e below (s₁.setTop (mkF m 238 #[.val (.int x0), .val (.int x1), .val (.int x2), .val (.int x3), .val (.int x4), .val (.int (0 : Int32)), .val (.int nn), .val (.int lo), .val (.int hi), .val (.int k1), .val (.int k0), .val (.int k1), .val (.int k2), .val (.int k3), .val (.int sel), .val (.int g2), .val (.int g3), .val (.int span), .unset, .unset, .unset] [])) _
        refine XS.iload X0.here hx rfl (hb hby at_238) rfl ?_
        show Steps p.tables e below (s₁.setTop (mkF m 240 #[.val (.int x0), .val (.int x1), .val (.int x2), .val (.int x3), .val (.int x4), .val (.int (0 : Int32)), .val (.int nn), .val (.int lo), .val (.int hi), .val (.int k1), .val (.int k0), .val (.int k1), .val (.int k2), .val (.int k3), .val (.int sel), .val (.int g2), .val (.int g3), .val (.int span), .unset, .unset, .unset] [(.int lo)])) _
        refine XS.istore X0.here hx rfl (hb hby at_240) rfl (l' := #[.val (.int x0), .val (.int x1), .val (.int x2), .val (.int x3), .val (.int x4), .val (.int (0 : Int32)), .val (.int nn), .val (.int lo), .val (.int hi), .val (.int k1), .val (.int k0), .val (.int k1), .val (.int k2), .val (.int k3), .val (.int sel), .val (.int lo), .val (.int g3), .val (.int span), .unset, .unset, .unset]) rfl ?_
        show Steps p.tables e below (s₁.setTop (mkF m 242 #[.val (.int x0), .val (.int x1), .val (.int x2), .val (.int x3), .val (.int x4), .val (.int (0 : Int32)), .val (.int nn), .val (.int lo), .val (.int hi), .val (.int k1), .val (.int k0), .val (.int k1), .val (.int k2), .val (.int k3), .val (.int sel), .val (.int lo), .val (.int g3), .val (.int span), .unset, .unset, .unset] [])) _
        refine XS.goto X0.here hx rfl (pc0 := 242) (pc' := 319) rfl (hb hby at_242) (by decide) (by decide) ?_
        show Steps p.tables e below (s₁.setTop (mkF m 319 #[.val (.int x0), .val (.int x1), .val (.int x2), .val (.int x3), .val (.int x4), .val (.int (0 : Int32)), .val (.int nn), .val (.int lo), .val (.int hi), .val (.int k1), .val (.int k0), .val (.int k1), .val (.int k2), .val (.int k3), .val (.int sel), .val (.int lo), .val (.int g3), .val (.int span), .unset, .unset, .unset] [])) _
        have q0 : (own_key sel lo hi k1 x3) = lo := by simp only [own_key, if_pos hc1, if_pos hc6]
        rw [q0] at kg
        exact kg
      · refine XS.ifYes X0.here hx rfl (pc0 := 235) (pc' := 245) rfl (hb hby at_235) rfl ((if0 _ _).trans (feq hc6).2) (by decide) (by decide) ?_
        show Steps p.tables e below (s₁.setTop (mkF m 245 #[.val (.int x0), .val (.int x1), .val (.int x2), .val (.int x3), .val (.int x4), .val (.int (0 : Int32)), .val (.int nn), .val (.int lo), .val (.int hi), .val (.int k1), .val (.int k0), .val (.int k1), .val (.int k2), .val (.int k3), .val (.int sel), .val (.int g2), .val (.int g3), .val (.int span), .unset, .unset, .unset] [])) _
        refine XS.iload X0.here hx rfl (hb hby at_245) rfl ?_
        show Steps p.tables e below (s₁.setTop (mkF m 247 #[.val (.int x0), .val (.int x1), .val (.int x2), .val (.int x3), .val (.int x4), .val (.int (0 : Int32)), .val (.int nn), .val (.int lo), .val (.int hi), .val (.int k1), .val (.int k0), .val (.int k1), .val (.int k2), .val (.int k3), .val (.int sel), .val (.int g2), .val (.int g3), .val (.int span), .unset, .unset, .unset] [(.int sel)])) _
        refine XS.iconst X0.here hx rfl (hb hby at_247) ?_
        show Steps p.tables e below (s₁.setTop (mkF m 248 #[.val (.int x0), .val (.int x1), .val (.int x2), .val (.int x3), .val (.int x4), .val (.int (0 : Int32)), .val (.int nn), .val (.int lo), .val (.int hi), .val (.int k1), .val (.int k0), .val (.int k1), .val (.int k2), .val (.int k3), .val (.int sel), .val (.int g2), .val (.int g3), .val (.int span), .unset, .unset, .unset] [(.int (1 : Int32)), (.int sel)])) _
        by_cases hc7 : sel = (1 : Int32)
        · refine XS.icmpNo X0.here hx rfl (hb hby at_248) rfl (teq hc7).2 ?_
          show Steps p.tables e below (s₁.setTop (mkF m 251 #[.val (.int x0), .val (.int x1), .val (.int x2), .val (.int x3), .val (.int x4), .val (.int (0 : Int32)), .val (.int nn), .val (.int lo), .val (.int hi), .val (.int k1), .val (.int k0), .val (.int k1), .val (.int k2), .val (.int k3), .val (.int sel), .val (.int g2), .val (.int g3), .val (.int span), .unset, .unset, .unset] [])) _
          refine XS.iload X0.here hx rfl (hb hby at_251) rfl ?_
          show Steps p.tables e below (s₁.setTop (mkF m 253 #[.val (.int x0), .val (.int x1), .val (.int x2), .val (.int x3), .val (.int x4), .val (.int (0 : Int32)), .val (.int nn), .val (.int lo), .val (.int hi), .val (.int k1), .val (.int k0), .val (.int k1), .val (.int k2), .val (.int k3), .val (.int sel), .val (.int g2), .val (.int g3), .val (.int span), .unset, .unset, .unset] [(.int hi)])) _
          refine XS.istore X0.here hx rfl (hb hby at_253) rfl (l' := #[.val (.int x0), .val (.int x1), .val (.int x2), .val (.int x3), .val (.int x4), .val (.int (0 : Int32)), .val (.int nn), .val (.int lo), .val (.int hi), .val (.int k1), .val (.int k0), .val (.int k1), .val (.int k2), .val (.int k3), .val (.int sel), .val (.int hi), .val (.int g3), .val (.int span), .unset, .unset, .unset]) rfl ?_
          show Steps p.tables e below (s₁.setTop (mkF m 255 #[.val (.int x0), .val (.int x1), .val (.int x2), .val (.int x3), .val (.int x4), .val (.int (0 : Int32)), .val (.int nn), .val (.int lo), .val (.int hi), .val (.int k1), .val (.int k0), .val (.int k1), .val (.int k2), .val (.int k3), .val (.int sel), .val (.int hi), .val (.int g3), .val (.int span), .unset, .unset, .unset] [])) _
          refine XS.goto X0.here hx rfl (pc0 := 255) (pc' := 319) rfl (hb hby at_255) (by decide) (by decide) ?_
          show Steps p.tables e below (s₁.setTop (mkF m 319 #[.val (.int x0), .val (.int x1), .val (.int x2), .val (.int x3), .val (.int x4), .val (.int (0 : Int32)), .val (.int nn), .val (.int lo), .val (.int hi), .val (.int k1), .val (.int k0), .val (.int k1), .val (.int k2), .val (.int k3), .val (.int sel), .val (.int hi), .val (.int g3), .val (.int span), .unset, .unset, .unset] [])) _
          have q0 : (own_key sel lo hi k1 x3) = hi := by simp only [own_key, if_pos hc1, if_neg hc6, if_pos hc7]
          rw [q0] at kg
          exact kg
        · refine XS.icmpYes X0.here hx rfl (pc0 := 248) (pc' := 258) rfl (hb hby at_248) rfl (feq hc7).2 (by decide) (by decide) ?_
          show Steps p.tables e below (s₁.setTop (mkF m 258 #[.val (.int x0), .val (.int x1), .val (.int x2), .val (.int x3), .val (.int x4), .val (.int (0 : Int32)), .val (.int nn), .val (.int lo), .val (.int hi), .val (.int k1), .val (.int k0), .val (.int k1), .val (.int k2), .val (.int k3), .val (.int sel), .val (.int g2), .val (.int g3), .val (.int span), .unset, .unset, .unset] [])) _
          refine XS.iload X0.here hx rfl (hb hby at_258) rfl ?_
          show Steps p.tables e below (s₁.setTop (mkF m 260 #[.val (.int x0), .val (.int x1), .val (.int x2), .val (.int x3), .val (.int x4), .val (.int (0 : Int32)), .val (.int nn), .val (.int lo), .val (.int hi), .val (.int k1), .val (.int k0), .val (.int k1), .val (.int k2), .val (.int k3), .val (.int sel), .val (.int g2), .val (.int g3), .val (.int span), .unset, .unset, .unset] [(.int sel)])) _
          refine XS.iconst X0.here hx rfl (hb hby at_260) ?_
          show Steps p.tables e below (s₁.setTop (mkF m 261 #[.val (.int x0), .val (.int x1), .val (.int x2), .val (.int x3), .val (.int x4), .val (.int (0 : Int32)), .val (.int nn), .val (.int lo), .val (.int hi), .val (.int k1), .val (.int k0), .val (.int k1), .val (.int k2), .val (.int k3), .val (.int sel), .val (.int g2), .val (.int g3), .val (.int span), .unset, .unset, .unset] [(.int (2 : Int32)), (.int sel)])) _
          by_cases hc8 : sel = (2 : Int32)
          · refine XS.icmpNo X0.here hx rfl (hb hby at_261) rfl (teq hc8).2 ?_
            show Steps p.tables e below (s₁.setTop (mkF m 264 #[.val (.int x0), .val (.int x1), .val (.int x2), .val (.int x3), .val (.int x4), .val (.int (0 : Int32)), .val (.int nn), .val (.int lo), .val (.int hi), .val (.int k1), .val (.int k0), .val (.int k1), .val (.int k2), .val (.int k3), .val (.int sel), .val (.int g2), .val (.int g3), .val (.int span), .unset, .unset, .unset] [])) _
            refine XS.iload X0.here hx rfl (hb hby at_264) rfl ?_
            show Steps p.tables e below (s₁.setTop (mkF m 266 #[.val (.int x0), .val (.int x1), .val (.int x2), .val (.int x3), .val (.int x4), .val (.int (0 : Int32)), .val (.int nn), .val (.int lo), .val (.int hi), .val (.int k1), .val (.int k0), .val (.int k1), .val (.int k2), .val (.int k3), .val (.int sel), .val (.int g2), .val (.int g3), .val (.int span), .unset, .unset, .unset] [(.int lo)])) _
            refine XS.iconst X0.here hx rfl (hb hby at_266) ?_
            show Steps p.tables e below (s₁.setTop (mkF m 267 #[.val (.int x0), .val (.int x1), .val (.int x2), .val (.int x3), .val (.int x4), .val (.int (0 : Int32)), .val (.int nn), .val (.int lo), .val (.int hi), .val (.int k1), .val (.int k0), .val (.int k1), .val (.int k2), .val (.int k3), .val (.int sel), .val (.int g2), .val (.int g3), .val (.int span), .unset, .unset, .unset] [(.int (1 : Int32)), (.int lo)])) _
            refine XS.isub X0.here hx rfl (hb hby at_267) rfl ?_
            show Steps p.tables e below (s₁.setTop (mkF m 268 #[.val (.int x0), .val (.int x1), .val (.int x2), .val (.int x3), .val (.int x4), .val (.int (0 : Int32)), .val (.int nn), .val (.int lo), .val (.int hi), .val (.int k1), .val (.int k0), .val (.int k1), .val (.int k2), .val (.int k3), .val (.int sel), .val (.int g2), .val (.int g3), .val (.int span), .unset, .unset, .unset] [(.int (lo - (1 : Int32)))])) _
            refine XS.istore X0.here hx rfl (hb hby at_268) rfl (l' := #[.val (.int x0), .val (.int x1), .val (.int x2), .val (.int x3), .val (.int x4), .val (.int (0 : Int32)), .val (.int nn), .val (.int lo), .val (.int hi), .val (.int k1), .val (.int k0), .val (.int k1), .val (.int k2), .val (.int k3), .val (.int sel), .val (.int (lo - (1 : Int32))), .val (.int g3), .val (.int span), .unset, .unset, .unset]) rfl ?_
            show Steps p.tables e below (s₁.setTop (mkF m 270 #[.val (.int x0), .val (.int x1), .val (.int x2), .val (.int x3), .val (.int x4), .val (.int (0 : Int32)), .val (.int nn), .val (.int lo), .val (.int hi), .val (.int k1), .val (.int k0), .val (.int k1), .val (.int k2), .val (.int k3), .val (.int sel), .val (.int (lo - (1 : Int32))), .val (.int g3), .val (.int span), .unset, .unset, .unset] [])) _
            refine XS.goto X0.here hx rfl (pc0 := 270) (pc' := 319) rfl (hb hby at_270) (by decide) (by decide) ?_
            show Steps p.tables e below (s₁.setTop (mkF m 319 #[.val (.int x0), .val (.int x1), .val (.int x2), .val (.int x3), .val (.int x4), .val (.int (0 : Int32)), .val (.int nn), .val (.int lo), .val (.int hi), .val (.int k1), .val (.int k0), .val (.int k1), .val (.int k2), .val (.int k3), .val (.int sel), .val (.int (lo - (1 : Int32))), .val (.int g3), .val (.int span), .unset, .unset, .unset] [])) _
            have q0 : (own_key sel lo hi k1 x3) = (lo - (1 : Int32)) := by simp only [own_key, if_pos hc1, if_neg hc6, if_neg hc7, if_pos hc8]
            rw [q0] at kg
            exact kg
          · refine XS.icmpYes X0.here hx rfl (pc0 := 261) (pc' := 273) rfl (hb hby at_261) rfl (feq hc8).2 (by decide) (by decide) ?_
            show Steps p.tables e below (s₁.setTop (mkF m 273 #[.val (.int x0), .val (.int x1), .val (.int x2), .val (.int x3), .val (.int x4), .val (.int (0 : Int32)), .val (.int nn), .val (.int lo), .val (.int hi), .val (.int k1), .val (.int k0), .val (.int k1), .val (.int k2), .val (.int k3), .val (.int sel), .val (.int g2), .val (.int g3), .val (.int span), .unset, .unset, .unset] [])) _
            refine XS.iload X0.here hx rfl (hb hby at_273) rfl ?_
            show Steps p.tables e below (s₁.setTop (mkF m 275 #[.val (.int x0), .val (.int x1), .val (.int x2), .val (.int x3), .val (.int x4), .val (.int (0 : Int32)), .val (.int nn), .val (.int lo), .val (.int hi), .val (.int k1), .val (.int k0), .val (.int k1), .val (.int k2), .val (.int k3), .val (.int sel), .val (.int g2), .val (.int g3), .val (.int span), .unset, .unset, .unset] [(.int sel)])) _
            refine XS.iconst X0.here hx rfl (hb hby at_275) ?_
            show Steps p.tables e below (s₁.setTop (mkF m 276 #[.val (.int x0), .val (.int x1), .val (.int x2), .val (.int x3), .val (.int x4), .val (.int (0 : Int32)), .val (.int nn), .val (.int lo), .val (.int hi), .val (.int k1), .val (.int k0), .val (.int k1), .val (.int k2), .val (.int k3), .val (.int sel), .val (.int g2), .val (.int g3), .val (.int span), .unset, .unset, .unset] [(.int (3 : Int32)), (.int sel)])) _
            by_cases hc9 : sel = (3 : Int32)
            · refine XS.icmpNo X0.here hx rfl (hb hby at_276) rfl (teq hc9).2 ?_
              show Steps p.tables e below (s₁.setTop (mkF m 279 #[.val (.int x0), .val (.int x1), .val (.int x2), .val (.int x3), .val (.int x4), .val (.int (0 : Int32)), .val (.int nn), .val (.int lo), .val (.int hi), .val (.int k1), .val (.int k0), .val (.int k1), .val (.int k2), .val (.int k3), .val (.int sel), .val (.int g2), .val (.int g3), .val (.int span), .unset, .unset, .unset] [])) _
              refine XS.iload X0.here hx rfl (hb hby at_279) rfl ?_
              show Steps p.tables e below (s₁.setTop (mkF m 281 #[.val (.int x0), .val (.int x1), .val (.int x2), .val (.int x3), .val (.int x4), .val (.int (0 : Int32)), .val (.int nn), .val (.int lo), .val (.int hi), .val (.int k1), .val (.int k0), .val (.int k1), .val (.int k2), .val (.int k3), .val (.int sel), .val (.int g2), .val (.int g3), .val (.int span), .unset, .unset, .unset] [(.int hi)])) _
              refine XS.iconst X0.here hx rfl (hb hby at_281) ?_
              show Steps p.tables e below (s₁.setTop (mkF m 282 #[.val (.int x0), .val (.int x1), .val (.int x2), .val (.int x3), .val (.int x4), .val (.int (0 : Int32)), .val (.int nn), .val (.int lo), .val (.int hi), .val (.int k1), .val (.int k0), .val (.int k1), .val (.int k2), .val (.int k3), .val (.int sel), .val (.int g2), .val (.int g3), .val (.int span), .unset, .unset, .unset] [(.int (1 : Int32)), (.int hi)])) _
              refine XS.iadd X0.here hx rfl (hb hby at_282) rfl ?_
              show Steps p.tables e below (s₁.setTop (mkF m 283 #[.val (.int x0), .val (.int x1), .val (.int x2), .val (.int x3), .val (.int x4), .val (.int (0 : Int32)), .val (.int nn), .val (.int lo), .val (.int hi), .val (.int k1), .val (.int k0), .val (.int k1), .val (.int k2), .val (.int k3), .val (.int sel), .val (.int g2), .val (.int g3), .val (.int span), .unset, .unset, .unset] [(.int (hi + (1 : Int32)))])) _
              refine XS.istore X0.here hx rfl (hb hby at_283) rfl (l' := #[.val (.int x0), .val (.int x1), .val (.int x2), .val (.int x3), .val (.int x4), .val (.int (0 : Int32)), .val (.int nn), .val (.int lo), .val (.int hi), .val (.int k1), .val (.int k0), .val (.int k1), .val (.int k2), .val (.int k3), .val (.int sel), .val (.int (hi + (1 : Int32))), .val (.int g3), .val (.int span), .unset, .unset, .unset]) rfl ?_
              show Steps p.tables e below (s₁.setTop (mkF m 285 #[.val (.int x0), .val (.int x1), .val (.int x2), .val (.int x3), .val (.int x4), .val (.int (0 : Int32)), .val (.int nn), .val (.int lo), .val (.int hi), .val (.int k1), .val (.int k0), .val (.int k1), .val (.int k2), .val (.int k3), .val (.int sel), .val (.int (hi + (1 : Int32))), .val (.int g3), .val (.int span), .unset, .unset, .unset] [])) _
              refine XS.goto X0.here hx rfl (pc0 := 285) (pc' := 319) rfl (hb hby at_285) (by decide) (by decide) ?_
              show Steps p.tables e below (s₁.setTop (mkF m 319 #[.val (.int x0), .val (.int x1), .val (.int x2), .val (.int x3), .val (.int x4), .val (.int (0 : Int32)), .val (.int nn), .val (.int lo), .val (.int hi), .val (.int k1), .val (.int k0), .val (.int k1), .val (.int k2), .val (.int k3), .val (.int sel), .val (.int (hi + (1 : Int32))), .val (.int g3), .val (.int span), .unset, .unset, .unset] [])) _
              have q0 : (own_key sel lo hi k1 x3) = (hi + (1 : Int32)) := by simp only [own_key, if_pos hc1, if_neg hc6, if_neg hc7, if_neg hc8, if_pos hc9]
              rw [q0] at kg
              exact kg
            · refine XS.icmpYes X0.here hx rfl (pc0 := 276) (pc' := 288) rfl (hb hby at_276) rfl (feq hc9).2 (by decide) (by decide) ?_
              show Steps p.tables e below (s₁.setTop (mkF m 288 #[.val (.int x0), .val (.int x1), .val (.int x2), .val (.int x3), .val (.int x4), .val (.int (0 : Int32)), .val (.int nn), .val (.int lo), .val (.int hi), .val (.int k1), .val (.int k0), .val (.int k1), .val (.int k2), .val (.int k3), .val (.int sel), .val (.int g2), .val (.int g3), .val (.int span), .unset, .unset, .unset] [])) _
              refine XS.iload X0.here hx rfl (hb hby at_288) rfl ?_
              show Steps p.tables e below (s₁.setTop (mkF m 290 #[.val (.int x0), .val (.int x1), .val (.int x2), .val (.int x3), .val (.int x4), .val (.int (0 : Int32)), .val (.int nn), .val (.int lo), .val (.int hi), .val (.int k1), .val (.int k0), .val (.int k1), .val (.int k2), .val (.int k3), .val (.int sel), .val (.int g2), .val (.int g3), .val (.int span), .unset, .unset, .unset] [(.int sel)])) _
              refine XS.iconst X0.here hx rfl (hb hby at_290) ?_
              show Steps p.tables e below (s₁.setTop (mkF m 291 #[.val (.int x0), .val (.int x1), .val (.int x2), .val (.int x3), .val (.int x4), .val (.int (0 : Int32)), .val (.int nn), .val (.int lo), .val (.int hi), .val (.int k1), .val (.int k0), .val (.int k1), .val (.int k2), .val (.int k3), .val (.int sel), .val (.int g2), .val (.int g3), .val (.int span), .unset, .unset, .unset] [(.int (4 : Int32)), (.int sel)])) _
              by_cases hc10 : sel = (4 : Int32)
              · refine XS.icmpNo X0.here hx rfl (hb hby at_291) rfl (teq hc10).2 ?_
                show Steps p.tables e below (s₁.setTop (mkF m 294 #[.val (.int x0), .val (.int x1), .val (.int x2), .val (.int x3), .val (.int x4), .val (.int (0 : Int32)), .val (.int nn), .val (.int lo), .val (.int hi), .val (.int k1), .val (.int k0), .val (.int k1), .val (.int k2), .val (.int k3), .val (.int sel), .val (.int g2), .val (.int g3), .val (.int span), .unset, .unset, .unset] [])) _
                refine XS.iload X0.here hx rfl (hb hby at_294) rfl ?_
                show Steps p.tables e below (s₁.setTop (mkF m 296 #[.val (.int x0), .val (.int x1), .val (.int x2), .val (.int x3), .val (.int x4), .val (.int (0 : Int32)), .val (.int nn), .val (.int lo), .val (.int hi), .val (.int k1), .val (.int k0), .val (.int k1), .val (.int k2), .val (.int k3), .val (.int sel), .val (.int g2), .val (.int g3), .val (.int span), .unset, .unset, .unset] [(.int k1)])) _
                refine XS.istore X0.here hx rfl (hb hby at_296) rfl (l' := #[.val (.int x0), .val (.int x1), .val (.int x2), .val (.int x3), .val (.int x4), .val (.int (0 : Int32)), .val (.int nn), .val (.int lo), .val (.int hi), .val (.int k1), .val (.int k0), .val (.int k1), .val (.int k2), .val (.int k3), .val (.int sel), .val (.int k1), .val (.int g3), .val (.int span), .unset, .unset, .unset]) rfl ?_
                show Steps p.tables e below (s₁.setTop (mkF m 298 #[.val (.int x0), .val (.int x1), .val (.int x2), .val (.int x3), .val (.int x4), .val (.int (0 : Int32)), .val (.int nn), .val (.int lo), .val (.int hi), .val (.int k1), .val (.int k0), .val (.int k1), .val (.int k2), .val (.int k3), .val (.int sel), .val (.int k1), .val (.int g3), .val (.int span), .unset, .unset, .unset] [])) _
                refine XS.goto X0.here hx rfl (pc0 := 298) (pc' := 319) rfl (hb hby at_298) (by decide) (by decide) ?_
                show Steps p.tables e below (s₁.setTop (mkF m 319 #[.val (.int x0), .val (.int x1), .val (.int x2), .val (.int x3), .val (.int x4), .val (.int (0 : Int32)), .val (.int nn), .val (.int lo), .val (.int hi), .val (.int k1), .val (.int k0), .val (.int k1), .val (.int k2), .val (.int k3), .val (.int sel), .val (.int k1), .val (.int g3), .val (.int span), .unset, .unset, .unset] [])) _
                have q0 : (own_key sel lo hi k1 x3) = k1 := by simp only [own_key, if_pos hc1, if_neg hc6, if_neg hc7, if_neg hc8, if_neg hc9, if_pos hc10]
                rw [q0] at kg
                exact kg
              · refine XS.icmpYes X0.here hx rfl (pc0 := 291) (pc' := 301) rfl (hb hby at_291) rfl (feq hc10).2 (by decide) (by decide) ?_
                show Steps p.tables e below (s₁.setTop (mkF m 301 #[.val (.int x0), .val (.int x1), .val (.int x2), .val (.int x3), .val (.int x4), .val (.int (0 : Int32)), .val (.int nn), .val (.int lo), .val (.int hi), .val (.int k1), .val (.int k0), .val (.int k1), .val (.int k2), .val (.int k3), .val (.int sel), .val (.int g2), .val (.int g3), .val (.int span), .unset, .unset, .unset] [])) _
                refine XS.iload X0.here hx rfl (hb hby at_301) rfl ?_
                show Steps p.tables e below (s₁.setTop (mkF m 303 #[.val (.int x0), .val (.int x1), .val (.int x2), .val (.int x3), .val (.int x4), .val (.int (0 : Int32)), .val (.int nn), .val (.int lo), .val (.int hi), .val (.int k1), .val (.int k0), .val (.int k1), .val (.int k2), .val (.int k3), .val (.int sel), .val (.int g2), .val (.int g3), .val (.int span), .unset, .unset, .unset] [(.int sel)])) _
                refine XS.iconst X0.here hx rfl (hb hby at_303) ?_
                show Steps p.tables e below (s₁.setTop (mkF m 304 #[.val (.int x0), .val (.int x1), .val (.int x2), .val (.int x3), .val (.int x4), .val (.int (0 : Int32)), .val (.int nn), .val (.int lo), .val (.int hi), .val (.int k1), .val (.int k0), .val (.int k1), .val (.int k2), .val (.int k3), .val (.int sel), .val (.int g2), .val (.int g3), .val (.int span), .unset, .unset, .unset] [(.int (5 : Int32)), (.int sel)])) _
                by_cases hc11 : sel = (5 : Int32)
                · refine XS.icmpNo X0.here hx rfl (hb hby at_304) rfl (teq hc11).2 ?_
                  show Steps p.tables e below (s₁.setTop (mkF m 307 #[.val (.int x0), .val (.int x1), .val (.int x2), .val (.int x3), .val (.int x4), .val (.int (0 : Int32)), .val (.int nn), .val (.int lo), .val (.int hi), .val (.int k1), .val (.int k0), .val (.int k1), .val (.int k2), .val (.int k3), .val (.int sel), .val (.int g2), .val (.int g3), .val (.int span), .unset, .unset, .unset] [])) _
                  refine XS.iload X0.here hx rfl (hb hby at_307) rfl ?_
                  show Steps p.tables e below (s₁.setTop (mkF m 309 #[.val (.int x0), .val (.int x1), .val (.int x2), .val (.int x3), .val (.int x4), .val (.int (0 : Int32)), .val (.int nn), .val (.int lo), .val (.int hi), .val (.int k1), .val (.int k0), .val (.int k1), .val (.int k2), .val (.int k3), .val (.int sel), .val (.int g2), .val (.int g3), .val (.int span), .unset, .unset, .unset] [(.int k1)])) _
                  refine XS.iconst X0.here hx rfl (hb hby at_309) ?_
                  show Steps p.tables e below (s₁.setTop (mkF m 310 #[.val (.int x0), .val (.int x1), .val (.int x2), .val (.int x3), .val (.int x4), .val (.int (0 : Int32)), .val (.int nn), .val (.int lo), .val (.int hi), .val (.int k1), .val (.int k0), .val (.int k1), .val (.int k2), .val (.int k3), .val (.int sel), .val (.int g2), .val (.int g3), .val (.int span), .unset, .unset, .unset] [(.int (1 : Int32)), (.int k1)])) _
                  refine XS.iadd X0.here hx rfl (hb hby at_310) rfl ?_
                  show Steps p.tables e below (s₁.setTop (mkF m 311 #[.val (.int x0), .val (.int x1), .val (.int x2), .val (.int x3), .val (.int x4), .val (.int (0 : Int32)), .val (.int nn), .val (.int lo), .val (.int hi), .val (.int k1), .val (.int k0), .val (.int k1), .val (.int k2), .val (.int k3), .val (.int sel), .val (.int g2), .val (.int g3), .val (.int span), .unset, .unset, .unset] [(.int (k1 + (1 : Int32)))])) _
                  refine XS.istore X0.here hx rfl (hb hby at_311) rfl (l' := #[.val (.int x0), .val (.int x1), .val (.int x2), .val (.int x3), .val (.int x4), .val (.int (0 : Int32)), .val (.int nn), .val (.int lo), .val (.int hi), .val (.int k1), .val (.int k0), .val (.int k1), .val (.int k2), .val (.int k3), .val (.int sel), .val (.int (k1 + (1 : Int32))), .val (.int g3), .val (.int span), .unset, .unset, .unset]) rfl ?_
                  show Steps p.tables e below (s₁.setTop (mkF m 313 #[.val (.int x0), .val (.int x1), .val (.int x2), .val (.int x3), .val (.int x4), .val (.int (0 : Int32)), .val (.int nn), .val (.int lo), .val (.int hi), .val (.int k1), .val (.int k0), .val (.int k1), .val (.int k2), .val (.int k3), .val (.int sel), .val (.int (k1 + (1 : Int32))), .val (.int g3), .val (.int span), .unset, .unset, .unset] [])) _
                  refine XS.goto X0.here hx rfl (pc0 := 313) (pc' := 319) rfl (hb hby at_313) (by decide) (by decide) ?_
                  show Steps p.tables e below (s₁.setTop (mkF m 319 #[.val (.int x0), .val (.int x1), .val (.int x2), .val (.int x3), .val (.int x4), .val (.int (0 : Int32)), .val (.int nn), .val (.int lo), .val (.int hi), .val (.int k1), .val (.int k0), .val (.int k1), .val (.int k2), .val (.int k3), .val (.int sel), .val (.int (k1 + (1 : Int32))), .val (.int g3), .val (.int span), .unset, .unset, .unset] [])) _
                  have q0 : (own_key sel lo hi k1 x3) = (k1 + (1 : Int32)) := by simp only [own_key, if_pos hc1, if_neg hc6, if_neg hc7, if_neg hc8, if_neg hc9, if_neg hc10, if_pos hc11]
                  rw [q0] at kg
                  exact kg
                · refine XS.icmpYes X0.here hx rfl (pc0 := 304) (pc' := 316) rfl (hb hby at_304) rfl (feq hc11).2 (by decide) (by decide) ?_
                  show Steps p.tables e below (s₁.setTop (mkF m 316 #[.val (.int x0), .val (.int x1), .val (.int x2), .val (.int x3), .val (.int x4), .val (.int (0 : Int32)), .val (.int nn), .val (.int lo), .val (.int hi), .val (.int k1), .val (.int k0), .val (.int k1), .val (.int k2), .val (.int k3), .val (.int sel), .val (.int g2), .val (.int g3), .val (.int span), .unset, .unset, .unset] [])) _
                  refine XS.iloadN X0.here hx rfl (hb hby at_316) rfl ?_
                  show Steps p.tables e below (s₁.setTop (mkF m 317 #[.val (.int x0), .val (.int x1), .val (.int x2), .val (.int x3), .val (.int x4), .val (.int (0 : Int32)), .val (.int nn), .val (.int lo), .val (.int hi), .val (.int k1), .val (.int k0), .val (.int k1), .val (.int k2), .val (.int k3), .val (.int sel), .val (.int g2), .val (.int g3), .val (.int span), .unset, .unset, .unset] [(.int x3)])) _
                  refine XS.istore X0.here hx rfl (hb hby at_317) rfl (l' := #[.val (.int x0), .val (.int x1), .val (.int x2), .val (.int x3), .val (.int x4), .val (.int (0 : Int32)), .val (.int nn), .val (.int lo), .val (.int hi), .val (.int k1), .val (.int k0), .val (.int k1), .val (.int k2), .val (.int k3), .val (.int sel), .val (.int x3), .val (.int g3), .val (.int span), .unset, .unset, .unset]) rfl ?_
                  show Steps p.tables e below (s₁.setTop (mkF m 319 #[.val (.int x0), .val (.int x1), .val (.int x2), .val (.int x3), .val (.int x4), .val (.int (0 : Int32)), .val (.int nn), .val (.int lo), .val (.int hi), .val (.int k1), .val (.int k0), .val (.int k1), .val (.int k2), .val (.int k3), .val (.int sel), .val (.int x3), .val (.int g3), .val (.int span), .unset, .unset, .unset] [])) _
                  have q0 : (own_key sel lo hi k1 x3) = x3 := by simp only [own_key, if_pos hc1, if_neg hc6, if_neg hc7, if_neg hc8, if_neg hc9, if_neg hc10, if_neg hc11]
                  rw [q0] at kg
                  exact kg
    show G (s₁.setTop (mkF m 319 #[.val (.int x0), .val (.int x1), .val (.int x2), .val (.int x3), .val (.int x4), .val (.int (0 : Int32)), .val (.int nn), .val (.int lo), .val (.int hi), .val (.int k1), .val (.int k0), .val (.int k1), .val (.int k2), .val (.int k3), .val (.int sel), .val (.int (own_key sel lo hi k1 x3)), .val (.int g3), .val (.int span), .unset, .unset, .unset] []))
    obtain ⟨ky, hky⟩ : ∃ z : Int32, z = (own_key sel lo hi k1 x3) := ⟨_, rfl⟩
    rw [← hky]
    show G (s₁.setTop (mkF m 319 #[.val (.int x0), .val (.int x1), .val (.int x2), .val (.int x3), .val (.int x4), .val (.int (0 : Int32)), .val (.int nn), .val (.int lo), .val (.int hi), .val (.int k1), .val (.int k0), .val (.int k1), .val (.int k2), .val (.int k3), .val (.int sel), .val (.int ky), .val (.int g3), .val (.int span), .unset, .unset, .unset] []))
    refine go (fun tg kg => XS.iload X0.here hx rfl (hb hby at_319) rfl kg) ?_
    show G (s₁.setTop (mkF m 321 #[.val (.int x0), .val (.int x1), .val (.int x2), .val (.int x3), .val (.int x4), .val (.int (0 : Int32)), .val (.int nn), .val (.int lo), .val (.int hi), .val (.int k1), .val (.int k0), .val (.int k1), .val (.int k2), .val (.int k3), .val (.int sel), .val (.int ky), .val (.int g3), .val (.int span), .unset, .unset, .unset] [(.int ky)]))
    refine go (fun tg kg => X0.ldcInt hx hown (mvT hZ (hw _ (List.mem_of_getElem? (i := 2) rfl))) (g := (mkF m 321 #[.val (.int x0), .val (.int x1), .val (.int x2), .val (.int x3), .val (.int x4), .val (.int (0 : Int32)), .val (.int nn), .val (.int lo), .val (.int hi), .val (.int k1), .val (.int k0), .val (.int k1), .val (.int k2), .val (.int k3), .val (.int sel), .val (.int ky), .val (.int g3), .val (.int span), .unset, .unset, .unset] [(.int ky)])) rfl (hb hby at_321) _ kg) ?_
    show G (s₁.setTop (mkF m 323 #[.val (.int x0), .val (.int x1), .val (.int x2), .val (.int x3), .val (.int x4), .val (.int (0 : Int32)), .val (.int nn), .val (.int lo), .val (.int hi), .val (.int k1), .val (.int k0), .val (.int k1), .val (.int k2), .val (.int k3), .val (.int sel), .val (.int ky), .val (.int g3), .val (.int span), .unset, .unset, .unset] [(.int (65535 : Int32)), (.int ky)]))
    refine go (fun tg kg => XS.iand X0.here hx rfl (hb hby at_323) rfl kg) ?_
    show G (s₁.setTop (mkF m 324 #[.val (.int x0), .val (.int x1), .val (.int x2), .val (.int x3), .val (.int x4), .val (.int (0 : Int32)), .val (.int nn), .val (.int lo), .val (.int hi), .val (.int k1), .val (.int k0), .val (.int k1), .val (.int k2), .val (.int k3), .val (.int sel), .val (.int ky), .val (.int g3), .val (.int span), .unset, .unset, .unset] [(.int (ky &&& (65535 : Int32)))]))
    refine go (fun tg kg => XS.istore X0.here hx rfl (hb hby at_324) rfl (l' := #[.val (.int x0), .val (.int x1), .val (.int x2), .val (.int x3), .val (.int x4), .val (.int (0 : Int32)), .val (.int nn), .val (.int lo), .val (.int hi), .val (.int k1), .val (.int k0), .val (.int k1), .val (.int k2), .val (.int k3), .val (.int sel), .val (.int (ky &&& (65535 : Int32))), .val (.int g3), .val (.int span), .unset, .unset, .unset]) rfl kg) ?_
    show G (s₁.setTop (mkF m 326 #[.val (.int x0), .val (.int x1), .val (.int x2), .val (.int x3), .val (.int x4), .val (.int (0 : Int32)), .val (.int nn), .val (.int lo), .val (.int hi), .val (.int k1), .val (.int k0), .val (.int k1), .val (.int k2), .val (.int k3), .val (.int sel), .val (.int (ky &&& (65535 : Int32))), .val (.int g3), .val (.int span), .unset, .unset, .unset] []))
    obtain ⟨key, hkey⟩ : ∃ z : Int32, z = (ky &&& (65535 : Int32)) := ⟨_, rfl⟩
    have bk := own_key1 _ hkey
    rw [← hkey]
    show G (s₁.setTop (mkF m 326 #[.val (.int x0), .val (.int x1), .val (.int x2), .val (.int x3), .val (.int x4), .val (.int (0 : Int32)), .val (.int nn), .val (.int lo), .val (.int hi), .val (.int k1), .val (.int k0), .val (.int k1), .val (.int k2), .val (.int k3), .val (.int sel), .val (.int key), .val (.int g3), .val (.int span), .unset, .unset, .unset] []))
    refine go (fun tg kg => XS.iload X0.here hx rfl (hb hby at_326) rfl kg) ?_
    show G (s₁.setTop (mkF m 328 #[.val (.int x0), .val (.int x1), .val (.int x2), .val (.int x3), .val (.int x4), .val (.int (0 : Int32)), .val (.int nn), .val (.int lo), .val (.int hi), .val (.int k1), .val (.int k0), .val (.int k1), .val (.int k2), .val (.int k3), .val (.int sel), .val (.int key), .val (.int g3), .val (.int span), .unset, .unset, .unset] [(.int (0 : Int32))]))
    refine go (fun tg kg => XS.ifYes X0.here hx rfl (pc0 := 328) (pc' := 374) rfl (hb hby at_328) rfl ((if0 _ _).trans (teq (by decide)).1) (by decide) (by decide) kg) ?_
    show G (s₁.setTop (mkF m 374 #[.val (.int x0), .val (.int x1), .val (.int x2), .val (.int x3), .val (.int x4), .val (.int (0 : Int32)), .val (.int nn), .val (.int lo), .val (.int hi), .val (.int k1), .val (.int k0), .val (.int k1), .val (.int k2), .val (.int k3), .val (.int sel), .val (.int key), .val (.int g3), .val (.int span), .unset, .unset, .unset] []))
    refine go (b := s₁.setTop (mkF m 391 #[.val (.int x0), .val (.int x1), .val (.int x2), .val (.int x3), .val (.int x4), .val (.int (0 : Int32)), .val (.int nn), .val (.int lo), .val (.int hi), .val (.int k1), .val (.int k0), .val (.int k1), .val (.int k2), .val (.int k3), .val (.int sel), .val (.int key), .val (.int g3), .val (.int span), .unset, .unset, .unset] [(.int (own_lt (0 : Int32) nn k0 key))])) (fun tg kg => ?_) ?_
    · show Steps p.tables e below (s₁.setTop (mkF m 374 #[.val (.int x0), .val (.int x1), .val (.int x2), .val (.int x3), .val (.int x4), .val (.int (0 : Int32)), .val (.int nn), .val (.int lo), .val (.int hi), .val (.int k1), .val (.int k0), .val (.int k1), .val (.int k2), .val (.int k3), .val (.int sel), .val (.int key), .val (.int g3), .val (.int span), .unset, .unset, .unset] [])) _
      refine XS.iload X0.here hx rfl (hb hby at_374) rfl ?_
      show Steps p.tables e below (s₁.setTop (mkF m 376 #[.val (.int x0), .val (.int x1), .val (.int x2), .val (.int x3), .val (.int x4), .val (.int (0 : Int32)), .val (.int nn), .val (.int lo), .val (.int hi), .val (.int k1), .val (.int k0), .val (.int k1), .val (.int k2), .val (.int k3), .val (.int sel), .val (.int key), .val (.int g3), .val (.int span), .unset, .unset, .unset] [(.int nn)])) _
      by_cases hc12 : (0 : Int32) < nn
      · refine XS.ifNo X0.here hx rfl (hb hby at_376) rfl ((if0 _ _).trans (tlt hc12).2.2.2) ?_
        show Steps p.tables e below (s₁.setTop (mkF m 379 #[.val (.int x0), .val (.int x1), .val (.int x2), .val (.int x3), .val (.int x4), .val (.int (0 : Int32)), .val (.int nn), .val (.int lo), .val (.int hi), .val (.int k1), .val (.int k0), .val (.int k1), .val (.int k2), .val (.int k3), .val (.int sel), .val (.int key), .val (.int g3), .val (.int span), .unset, .unset, .unset] [])) _
        refine XS.iload X0.here hx rfl (hb hby at_379) rfl ?_
        show Steps p.tables e below (s₁.setTop (mkF m 381 #[.val (.int x0), .val (.int x1), .val (.int x2), .val (.int x3), .val (.int x4), .val (.int (0 : Int32)), .val (.int nn), .val (.int lo), .val (.int hi), .val (.int k1), .val (.int k0), .val (.int k1), .val (.int k2), .val (.int k3), .val (.int sel), .val (.int key), .val (.int g3), .val (.int span), .unset, .unset, .unset] [(.int k0)])) _
        refine XS.iload X0.here hx rfl (hb hby at_381) rfl ?_
        show Steps p.tables e below (s₁.setTop (mkF m 383 #[.val (.int x0), .val (.int x1), .val (.int x2), .val (.int x3), .val (.int x4), .val (.int (0 : Int32)), .val (.int nn), .val (.int lo), .val (.int hi), .val (.int k1), .val (.int k0), .val (.int k1), .val (.int k2), .val (.int k3), .val (.int sel), .val (.int key), .val (.int g3), .val (.int span), .unset, .unset, .unset] [(.int key), (.int k0)])) _
        by_cases hc13 : k0 < key
        · refine XS.icmpNo X0.here hx rfl (hb hby at_383) rfl (tlt hc13).2.1 ?_
          show Steps p.tables e below (s₁.setTop (mkF m 386 #[.val (.int x0), .val (.int x1), .val (.int x2), .val (.int x3), .val (.int x4), .val (.int (0 : Int32)), .val (.int nn), .val (.int lo), .val (.int hi), .val (.int k1), .val (.int k0), .val (.int k1), .val (.int k2), .val (.int k3), .val (.int sel), .val (.int key), .val (.int g3), .val (.int span), .unset, .unset, .unset] [])) _
          refine XS.iconst X0.here hx rfl (hb hby at_386) ?_
          show Steps p.tables e below (s₁.setTop (mkF m 387 #[.val (.int x0), .val (.int x1), .val (.int x2), .val (.int x3), .val (.int x4), .val (.int (0 : Int32)), .val (.int nn), .val (.int lo), .val (.int hi), .val (.int k1), .val (.int k0), .val (.int k1), .val (.int k2), .val (.int k3), .val (.int sel), .val (.int key), .val (.int g3), .val (.int span), .unset, .unset, .unset] [(.int (1 : Int32))])) _
          refine XS.goto X0.here hx rfl (pc0 := 387) (pc' := 391) rfl (hb hby at_387) (by decide) (by decide) ?_
          show Steps p.tables e below (s₁.setTop (mkF m 391 #[.val (.int x0), .val (.int x1), .val (.int x2), .val (.int x3), .val (.int x4), .val (.int (0 : Int32)), .val (.int nn), .val (.int lo), .val (.int hi), .val (.int k1), .val (.int k0), .val (.int k1), .val (.int k2), .val (.int k3), .val (.int sel), .val (.int key), .val (.int g3), .val (.int span), .unset, .unset, .unset] [(.int (1 : Int32))])) _
          have q0 : (own_lt (0 : Int32) nn k0 key) = (1 : Int32) := by simp only [own_lt, if_pos hc1, if_pos hc12, if_pos hc13]
          rw [q0] at kg
          exact kg
        · refine XS.icmpYes X0.here hx rfl (pc0 := 383) (pc' := 390) rfl (hb hby at_383) rfl (flt hc13).2.1 (by decide) (by decide) ?_
          show Steps p.tables e below (s₁.setTop (mkF m 390 #[.val (.int x0), .val (.int x1), .val (.int x2), .val (.int x3), .val (.int x4), .val (.int (0 : Int32)), .val (.int nn), .val (.int lo), .val (.int hi), .val (.int k1), .val (.int k0), .val (.int k1), .val (.int k2), .val (.int k3), .val (.int sel), .val (.int key), .val (.int g3), .val (.int span), .unset, .unset, .unset] [])) _
          refine XS.iconst X0.here hx rfl (hb hby at_390) ?_
          show Steps p.tables e below (s₁.setTop (mkF m 391 #[.val (.int x0), .val (.int x1), .val (.int x2), .val (.int x3), .val (.int x4), .val (.int (0 : Int32)), .val (.int nn), .val (.int lo), .val (.int hi), .val (.int k1), .val (.int k0), .val (.int k1), .val (.int k2), .val (.int k3), .val (.int sel), .val (.int key), .val (.int g3), .val (.int span), .unset, .unset, .unset] [(.int (0 : Int32))])) _
          have q0 : (own_lt (0 : Int32) nn k0 key) = (0 : Int32) := by simp only [own_lt, if_pos hc1, if_pos hc12, if_neg hc13]
          rw [q0] at kg
          exact kg
      · refine XS.ifYes X0.here hx rfl (pc0 := 376) (pc' := 390) rfl (hb hby at_376) rfl ((if0 _ _).trans (flt hc12).2.2.2) (by decide) (by decide) ?_
        show Steps p.tables e below (s₁.setTop (mkF m 390 #[.val (.int x0), .val (.int x1), .val (.int x2), .val (.int x3), .val (.int x4), .val (.int (0 : Int32)), .val (.int nn), .val (.int lo), .val (.int hi), .val (.int k1), .val (.int k0), .val (.int k1), .val (.int k2), .val (.int k3), .val (.int sel), .val (.int key), .val (.int g3), .val (.int span), .unset, .unset, .unset] [])) _
        refine XS.iconst X0.here hx rfl (hb hby at_390) ?_
        show Steps p.tables e below (s₁.setTop (mkF m 391 #[.val (.int x0), .val (.int x1), .val (.int x2), .val (.int x3), .val (.int x4), .val (.int (0 : Int32)), .val (.int nn), .val (.int lo), .val (.int hi), .val (.int k1), .val (.int k0), .val (.int k1), .val (.int k2), .val (.int k3), .val (.int sel), .val (.int key), .val (.int g3), .val (.int span), .unset, .unset, .unset] [(.int (0 : Int32))])) _
        have q0 : (own_lt (0 : Int32) nn k0 key) = (0 : Int32) := by simp only [own_lt, if_pos hc1, if_neg hc12]
        rw [q0] at kg
        exact kg
    show G (s₁.setTop (mkF m 391 #[.val (.int x0), .val (.int x1), .val (.int x2), .val (.int x3), .val (.int x4), .val (.int (0 : Int32)), .val (.int nn), .val (.int lo), .val (.int hi), .val (.int k1), .val (.int k0), .val (.int k1), .val (.int k2), .val (.int k3), .val (.int sel), .val (.int key), .val (.int g3), .val (.int span), .unset, .unset, .unset] [(.int (own_lt (0 : Int32) nn k0 key))]))
    refine go (b := s₁.setTop (mkF m 409 #[.val (.int x0), .val (.int x1), .val (.int x2), .val (.int x3), .val (.int x4), .val (.int (0 : Int32)), .val (.int nn), .val (.int lo), .val (.int hi), .val (.int k1), .val (.int k0), .val (.int k1), .val (.int k2), .val (.int k3), .val (.int sel), .val (.int key), .val (.int g3), .val (.int span), .unset, .unset, .unset] [(.int (own_lt (1 : Int32) nn k1 key)), (.int (own_lt (0 : Int32) nn k0 key))])) (fun tg kg => ?_) ?_
    · show Steps p.tables e below (s₁.setTop (mkF m 391 #[.val (.int x0), .val (.int x1), .val (.int x2), .val (.int x3), .val (.int x4), .val (.int (0 : Int32)), .val (.int nn), .val (.int lo), .val (.int hi), .val (.int k1), .val (.int k0), .val (.int k1), .val (.int k2), .val (.int k3), .val (.int sel), .val (.int key), .val (.int g3), .val (.int span), .unset, .unset, .unset] [(.int (own_lt (0 : Int32) nn k0 key))])) _
      refine XS.iload X0.here hx rfl (hb hby at_391) rfl ?_
      show Steps p.tables e below (s₁.setTop (mkF m 393 #[.val (.int x0), .val (.int x1), .val (.int x2), .val (.int x3), .val (.int x4), .val (.int (0 : Int32)), .val (.int nn), .val (.int lo), .val (.int hi), .val (.int k1), .val (.int k0), .val (.int k1), .val (.int k2), .val (.int k3), .val (.int sel), .val (.int key), .val (.int g3), .val (.int span), .unset, .unset, .unset] [(.int nn), (.int (own_lt (0 : Int32) nn k0 key))])) _
      refine XS.iconst X0.here hx rfl (hb hby at_393) ?_
      show Steps p.tables e below (s₁.setTop (mkF m 394 #[.val (.int x0), .val (.int x1), .val (.int x2), .val (.int x3), .val (.int x4), .val (.int (0 : Int32)), .val (.int nn), .val (.int lo), .val (.int hi), .val (.int k1), .val (.int k0), .val (.int k1), .val (.int k2), .val (.int k3), .val (.int sel), .val (.int key), .val (.int g3), .val (.int span), .unset, .unset, .unset] [(.int (1 : Int32)), (.int nn), (.int (own_lt (0 : Int32) nn k0 key))])) _
      by_cases hc14 : (1 : Int32) < nn
      · refine XS.icmpNo X0.here hx rfl (hb hby at_394) rfl (tlt hc14).2.2.2 ?_
        show Steps p.tables e below (s₁.setTop (mkF m 397 #[.val (.int x0), .val (.int x1), .val (.int x2), .val (.int x3), .val (.int x4), .val (.int (0 : Int32)), .val (.int nn), .val (.int lo), .val (.int hi), .val (.int k1), .val (.int k0), .val (.int k1), .val (.int k2), .val (.int k3), .val (.int sel), .val (.int key), .val (.int g3), .val (.int span), .unset, .unset, .unset] [(.int (own_lt (0 : Int32) nn k0 key))])) _
        refine XS.iload X0.here hx rfl (hb hby at_397) rfl ?_
        show Steps p.tables e below (s₁.setTop (mkF m 399 #[.val (.int x0), .val (.int x1), .val (.int x2), .val (.int x3), .val (.int x4), .val (.int (0 : Int32)), .val (.int nn), .val (.int lo), .val (.int hi), .val (.int k1), .val (.int k0), .val (.int k1), .val (.int k2), .val (.int k3), .val (.int sel), .val (.int key), .val (.int g3), .val (.int span), .unset, .unset, .unset] [(.int k1), (.int (own_lt (0 : Int32) nn k0 key))])) _
        refine XS.iload X0.here hx rfl (hb hby at_399) rfl ?_
        show Steps p.tables e below (s₁.setTop (mkF m 401 #[.val (.int x0), .val (.int x1), .val (.int x2), .val (.int x3), .val (.int x4), .val (.int (0 : Int32)), .val (.int nn), .val (.int lo), .val (.int hi), .val (.int k1), .val (.int k0), .val (.int k1), .val (.int k2), .val (.int k3), .val (.int sel), .val (.int key), .val (.int g3), .val (.int span), .unset, .unset, .unset] [(.int key), (.int k1), (.int (own_lt (0 : Int32) nn k0 key))])) _
        by_cases hc15 : k1 < key
        · refine XS.icmpNo X0.here hx rfl (hb hby at_401) rfl (tlt hc15).2.1 ?_
          show Steps p.tables e below (s₁.setTop (mkF m 404 #[.val (.int x0), .val (.int x1), .val (.int x2), .val (.int x3), .val (.int x4), .val (.int (0 : Int32)), .val (.int nn), .val (.int lo), .val (.int hi), .val (.int k1), .val (.int k0), .val (.int k1), .val (.int k2), .val (.int k3), .val (.int sel), .val (.int key), .val (.int g3), .val (.int span), .unset, .unset, .unset] [(.int (own_lt (0 : Int32) nn k0 key))])) _
          refine XS.iconst X0.here hx rfl (hb hby at_404) ?_
          show Steps p.tables e below (s₁.setTop (mkF m 405 #[.val (.int x0), .val (.int x1), .val (.int x2), .val (.int x3), .val (.int x4), .val (.int (0 : Int32)), .val (.int nn), .val (.int lo), .val (.int hi), .val (.int k1), .val (.int k0), .val (.int k1), .val (.int k2), .val (.int k3), .val (.int sel), .val (.int key), .val (.int g3), .val (.int span), .unset, .unset, .unset] [(.int (1 : Int32)), (.int (own_lt (0 : Int32) nn k0 key))])) _
          refine XS.goto X0.here hx rfl (pc0 := 405) (pc' := 409) rfl (hb hby at_405) (by decide) (by decide) ?_
          show Steps p.tables e below (s₁.setTop (mkF m 409 #[.val (.int x0), .val (.int x1), .val (.int x2), .val (.int x3), .val (.int x4), .val (.int (0 : Int32)), .val (.int nn), .val (.int lo), .val (.int hi), .val (.int k1), .val (.int k0), .val (.int k1), .val (.int k2), .val (.int k3), .val (.int sel), .val (.int key), .val (.int g3), .val (.int span), .unset, .unset, .unset] [(.int (1 : Int32)), (.int (own_lt (0 : Int32) nn k0 key))])) _
          have q0 : (own_lt (1 : Int32) nn k1 key) = (1 : Int32) := by simp only [own_lt, if_pos hc1, if_pos hc14, if_pos hc15]
          rw [q0] at kg
          exact kg
        · refine XS.icmpYes X0.here hx rfl (pc0 := 401) (pc' := 408) rfl (hb hby at_401) rfl (flt hc15).2.1 (by decide) (by decide) ?_
          show Steps p.tables e below (s₁.setTop (mkF m 408 #[.val (.int x0), .val (.int x1), .val (.int x2), .val (.int x3), .val (.int x4), .val (.int (0 : Int32)), .val (.int nn), .val (.int lo), .val (.int hi), .val (.int k1), .val (.int k0), .val (.int k1), .val (.int k2), .val (.int k3), .val (.int sel), .val (.int key), .val (.int g3), .val (.int span), .unset, .unset, .unset] [(.int (own_lt (0 : Int32) nn k0 key))])) _
          refine XS.iconst X0.here hx rfl (hb hby at_408) ?_
          show Steps p.tables e below (s₁.setTop (mkF m 409 #[.val (.int x0), .val (.int x1), .val (.int x2), .val (.int x3), .val (.int x4), .val (.int (0 : Int32)), .val (.int nn), .val (.int lo), .val (.int hi), .val (.int k1), .val (.int k0), .val (.int k1), .val (.int k2), .val (.int k3), .val (.int sel), .val (.int key), .val (.int g3), .val (.int span), .unset, .unset, .unset] [(.int (0 : Int32)), (.int (own_lt (0 : Int32) nn k0 key))])) _
          have q0 : (own_lt (1 : Int32) nn k1 key) = (0 : Int32) := by simp only [own_lt, if_pos hc1, if_pos hc14, if_neg hc15]
          rw [q0] at kg
          exact kg
      · refine XS.icmpYes X0.here hx rfl (pc0 := 394) (pc' := 408) rfl (hb hby at_394) rfl (flt hc14).2.2.2 (by decide) (by decide) ?_
        show Steps p.tables e below (s₁.setTop (mkF m 408 #[.val (.int x0), .val (.int x1), .val (.int x2), .val (.int x3), .val (.int x4), .val (.int (0 : Int32)), .val (.int nn), .val (.int lo), .val (.int hi), .val (.int k1), .val (.int k0), .val (.int k1), .val (.int k2), .val (.int k3), .val (.int sel), .val (.int key), .val (.int g3), .val (.int span), .unset, .unset, .unset] [(.int (own_lt (0 : Int32) nn k0 key))])) _
        refine XS.iconst X0.here hx rfl (hb hby at_408) ?_
        show Steps p.tables e below (s₁.setTop (mkF m 409 #[.val (.int x0), .val (.int x1), .val (.int x2), .val (.int x3), .val (.int x4), .val (.int (0 : Int32)), .val (.int nn), .val (.int lo), .val (.int hi), .val (.int k1), .val (.int k0), .val (.int k1), .val (.int k2), .val (.int k3), .val (.int sel), .val (.int key), .val (.int g3), .val (.int span), .unset, .unset, .unset] [(.int (0 : Int32)), (.int (own_lt (0 : Int32) nn k0 key))])) _
        have q0 : (own_lt (1 : Int32) nn k1 key) = (0 : Int32) := by simp only [own_lt, if_pos hc1, if_neg hc14]
        rw [q0] at kg
        exact kg
    show G (s₁.setTop (mkF m 409 #[.val (.int x0), .val (.int x1), .val (.int x2), .val (.int x3), .val (.int x4), .val (.int (0 : Int32)), .val (.int nn), .val (.int lo), .val (.int hi), .val (.int k1), .val (.int k0), .val (.int k1), .val (.int k2), .val (.int k3), .val (.int sel), .val (.int key), .val (.int g3), .val (.int span), .unset, .unset, .unset] [(.int (own_lt (1 : Int32) nn k1 key)), (.int (own_lt (0 : Int32) nn k0 key))]))
    refine go (fun tg kg => XS.iadd X0.here hx rfl (hb hby at_409) rfl kg) ?_
    show G (s₁.setTop (mkF m 410 #[.val (.int x0), .val (.int x1), .val (.int x2), .val (.int x3), .val (.int x4), .val (.int (0 : Int32)), .val (.int nn), .val (.int lo), .val (.int hi), .val (.int k1), .val (.int k0), .val (.int k1), .val (.int k2), .val (.int k3), .val (.int sel), .val (.int key), .val (.int g3), .val (.int span), .unset, .unset, .unset] [(.int ((own_lt (0 : Int32) nn k0 key) + (own_lt (1 : Int32) nn k1 key)))]))
    refine go (b := s₁.setTop (mkF m 428 #[.val (.int x0), .val (.int x1), .val (.int x2), .val (.int x3), .val (.int x4), .val (.int (0 : Int32)), .val (.int nn), .val (.int lo), .val (.int hi), .val (.int k1), .val (.int k0), .val (.int k1), .val (.int k2), .val (.int k3), .val (.int sel), .val (.int key), .val (.int g3), .val (.int span), .unset, .unset, .unset] [(.int (own_lt (2 : Int32) nn k2 key)), (.int ((own_lt (0 : Int32) nn k0 key) + (own_lt (1 : Int32) nn k1 key)))])) (fun tg kg => ?_) ?_
    · show Steps p.tables e below (s₁.setTop (mkF m 410 #[.val (.int x0), .val (.int x1), .val (.int x2), .val (.int x3), .val (.int x4), .val (.int (0 : Int32)), .val (.int nn), .val (.int lo), .val (.int hi), .val (.int k1), .val (.int k0), .val (.int k1), .val (.int k2), .val (.int k3), .val (.int sel), .val (.int key), .val (.int g3), .val (.int span), .unset, .unset, .unset] [(.int ((own_lt (0 : Int32) nn k0 key) + (own_lt (1 : Int32) nn k1 key)))])) _
      refine XS.iload X0.here hx rfl (hb hby at_410) rfl ?_
      show Steps p.tables e below (s₁.setTop (mkF m 412 #[.val (.int x0), .val (.int x1), .val (.int x2), .val (.int x3), .val (.int x4), .val (.int (0 : Int32)), .val (.int nn), .val (.int lo), .val (.int hi), .val (.int k1), .val (.int k0), .val (.int k1), .val (.int k2), .val (.int k3), .val (.int sel), .val (.int key), .val (.int g3), .val (.int span), .unset, .unset, .unset] [(.int nn), (.int ((own_lt (0 : Int32) nn k0 key) + (own_lt (1 : Int32) nn k1 key)))])) _
      refine XS.iconst X0.here hx rfl (hb hby at_412) ?_
      show Steps p.tables e below (s₁.setTop (mkF m 413 #[.val (.int x0), .val (.int x1), .val (.int x2), .val (.int x3), .val (.int x4), .val (.int (0 : Int32)), .val (.int nn), .val (.int lo), .val (.int hi), .val (.int k1), .val (.int k0), .val (.int k1), .val (.int k2), .val (.int k3), .val (.int sel), .val (.int key), .val (.int g3), .val (.int span), .unset, .unset, .unset] [(.int (2 : Int32)), (.int nn), (.int ((own_lt (0 : Int32) nn k0 key) + (own_lt (1 : Int32) nn k1 key)))])) _
      by_cases hc16 : (2 : Int32) < nn
      · refine XS.icmpNo X0.here hx rfl (hb hby at_413) rfl (tlt hc16).2.2.2 ?_
        show Steps p.tables e below (s₁.setTop (mkF m 416 #[.val (.int x0), .val (.int x1), .val (.int x2), .val (.int x3), .val (.int x4), .val (.int (0 : Int32)), .val (.int nn), .val (.int lo), .val (.int hi), .val (.int k1), .val (.int k0), .val (.int k1), .val (.int k2), .val (.int k3), .val (.int sel), .val (.int key), .val (.int g3), .val (.int span), .unset, .unset, .unset] [(.int ((own_lt (0 : Int32) nn k0 key) + (own_lt (1 : Int32) nn k1 key)))])) _
        refine XS.iload X0.here hx rfl (hb hby at_416) rfl ?_
        show Steps p.tables e below (s₁.setTop (mkF m 418 #[.val (.int x0), .val (.int x1), .val (.int x2), .val (.int x3), .val (.int x4), .val (.int (0 : Int32)), .val (.int nn), .val (.int lo), .val (.int hi), .val (.int k1), .val (.int k0), .val (.int k1), .val (.int k2), .val (.int k3), .val (.int sel), .val (.int key), .val (.int g3), .val (.int span), .unset, .unset, .unset] [(.int k2), (.int ((own_lt (0 : Int32) nn k0 key) + (own_lt (1 : Int32) nn k1 key)))])) _
        refine XS.iload X0.here hx rfl (hb hby at_418) rfl ?_
        show Steps p.tables e below (s₁.setTop (mkF m 420 #[.val (.int x0), .val (.int x1), .val (.int x2), .val (.int x3), .val (.int x4), .val (.int (0 : Int32)), .val (.int nn), .val (.int lo), .val (.int hi), .val (.int k1), .val (.int k0), .val (.int k1), .val (.int k2), .val (.int k3), .val (.int sel), .val (.int key), .val (.int g3), .val (.int span), .unset, .unset, .unset] [(.int key), (.int k2), (.int ((own_lt (0 : Int32) nn k0 key) + (own_lt (1 : Int32) nn k1 key)))])) _
        by_cases hc17 : k2 < key
        · refine XS.icmpNo X0.here hx rfl (hb hby at_420) rfl (tlt hc17).2.1 ?_
          show Steps p.tables e below (s₁.setTop (mkF m 423 #[.val (.int x0), .val (.int x1), .val (.int x2), .val (.int x3), .val (.int x4), .val (.int (0 : Int32)), .val (.int nn), .val (.int lo), .val (.int hi), .val (.int k1), .val (.int k0), .val (.int k1), .val (.int k2), .val (.int k3), .val (.int sel), .val (.int key), .val (.int g3), .val (.int span), .unset, .unset, .unset] [(.int ((own_lt (0 : Int32) nn k0 key) + (own_lt (1 : Int32) nn k1 key)))])) _
          refine XS.iconst X0.here hx rfl (hb hby at_423) ?_
          show Steps p.tables e below (s₁.setTop (mkF m 424 #[.val (.int x0), .val (.int x1), .val (.int x2), .val (.int x3), .val (.int x4), .val (.int (0 : Int32)), .val (.int nn), .val (.int lo), .val (.int hi), .val (.int k1), .val (.int k0), .val (.int k1), .val (.int k2), .val (.int k3), .val (.int sel), .val (.int key), .val (.int g3), .val (.int span), .unset, .unset, .unset] [(.int (1 : Int32)), (.int ((own_lt (0 : Int32) nn k0 key) + (own_lt (1 : Int32) nn k1 key)))])) _
          refine XS.goto X0.here hx rfl (pc0 := 424) (pc' := 428) rfl (hb hby at_424) (by decide) (by decide) ?_
          show Steps p.tables e below (s₁.setTop (mkF m 428 #[.val (.int x0), .val (.int x1), .val (.int x2), .val (.int x3), .val (.int x4), .val (.int (0 : Int32)), .val (.int nn), .val (.int lo), .val (.int hi), .val (.int k1), .val (.int k0), .val (.int k1), .val (.int k2), .val (.int k3), .val (.int sel), .val (.int key), .val (.int g3), .val (.int span), .unset, .unset, .unset] [(.int (1 : Int32)), (.int ((own_lt (0 : Int32) nn k0 key) + (own_lt (1 : Int32) nn k1 key)))])) _
          have q0 : (own_lt (2 : Int32) nn k2 key) = (1 : Int32) := by simp only [own_lt, if_pos hc1, if_pos hc16, if_pos hc17]
          rw [q0] at kg
          exact kg
        · refine XS.icmpYes X0.here hx rfl (pc0 := 420) (pc' := 427) rfl (hb hby at_420) rfl (flt hc17).2.1 (by decide) (by decide) ?_
          show Steps p.tables e below (s₁.setTop (mkF m 427 #[.val (.int x0), .val (.int x1), .val (.int x2), .val (.int x3), .val (.int x4), .val (.int (0 : Int32)), .val (.int nn), .val (.int lo), .val (.int hi), .val (.int k1), .val (.int k0), .val (.int k1), .val (.int k2), .val (.int k3), .val (.int sel), .val (.int key), .val (.int g3), .val (.int span), .unset, .unset, .unset] [(.int ((own_lt (0 : Int32) nn k0 key) + (own_lt (1 : Int32) nn k1 key)))])) _
          refine XS.iconst X0.here hx rfl (hb hby at_427) ?_
          show Steps p.tables e below (s₁.setTop (mkF m 428 #[.val (.int x0), .val (.int x1), .val (.int x2), .val (.int x3), .val (.int x4), .val (.int (0 : Int32)), .val (.int nn), .val (.int lo), .val (.int hi), .val (.int k1), .val (.int k0), .val (.int k1), .val (.int k2), .val (.int k3), .val (.int sel), .val (.int key), .val (.int g3), .val (.int span), .unset, .unset, .unset] [(.int (0 : Int32)), (.int ((own_lt (0 : Int32) nn k0 key) + (own_lt (1 : Int32) nn k1 key)))])) _
          have q0 : (own_lt (2 : Int32) nn k2 key) = (0 : Int32) := by simp only [own_lt, if_pos hc1, if_pos hc16, if_neg hc17]
          rw [q0] at kg
          exact kg
      · refine XS.icmpYes X0.here hx rfl (pc0 := 413) (pc' := 427) rfl (hb hby at_413) rfl (flt hc16).2.2.2 (by decide) (by decide) ?_
        show Steps p.tables e below (s₁.setTop (mkF m 427 #[.val (.int x0), .val (.int x1), .val (.int x2), .val (.int x3), .val (.int x4), .val (.int (0 : Int32)), .val (.int nn), .val (.int lo), .val (.int hi), .val (.int k1), .val (.int k0), .val (.int k1), .val (.int k2), .val (.int k3), .val (.int sel), .val (.int key), .val (.int g3), .val (.int span), .unset, .unset, .unset] [(.int ((own_lt (0 : Int32) nn k0 key) + (own_lt (1 : Int32) nn k1 key)))])) _
        refine XS.iconst X0.here hx rfl (hb hby at_427) ?_
        show Steps p.tables e below (s₁.setTop (mkF m 428 #[.val (.int x0), .val (.int x1), .val (.int x2), .val (.int x3), .val (.int x4), .val (.int (0 : Int32)), .val (.int nn), .val (.int lo), .val (.int hi), .val (.int k1), .val (.int k0), .val (.int k1), .val (.int k2), .val (.int k3), .val (.int sel), .val (.int key), .val (.int g3), .val (.int span), .unset, .unset, .unset] [(.int (0 : Int32)), (.int ((own_lt (0 : Int32) nn k0 key) + (own_lt (1 : Int32) nn k1 key)))])) _
        have q0 : (own_lt (2 : Int32) nn k2 key) = (0 : Int32) := by simp only [own_lt, if_pos hc1, if_neg hc16]
        rw [q0] at kg
        exact kg
    show G (s₁.setTop (mkF m 428 #[.val (.int x0), .val (.int x1), .val (.int x2), .val (.int x3), .val (.int x4), .val (.int (0 : Int32)), .val (.int nn), .val (.int lo), .val (.int hi), .val (.int k1), .val (.int k0), .val (.int k1), .val (.int k2), .val (.int k3), .val (.int sel), .val (.int key), .val (.int g3), .val (.int span), .unset, .unset, .unset] [(.int (own_lt (2 : Int32) nn k2 key)), (.int ((own_lt (0 : Int32) nn k0 key) + (own_lt (1 : Int32) nn k1 key)))]))
    refine go (fun tg kg => XS.iadd X0.here hx rfl (hb hby at_428) rfl kg) ?_
    show G (s₁.setTop (mkF m 429 #[.val (.int x0), .val (.int x1), .val (.int x2), .val (.int x3), .val (.int x4), .val (.int (0 : Int32)), .val (.int nn), .val (.int lo), .val (.int hi), .val (.int k1), .val (.int k0), .val (.int k1), .val (.int k2), .val (.int k3), .val (.int sel), .val (.int key), .val (.int g3), .val (.int span), .unset, .unset, .unset] [(.int (((own_lt (0 : Int32) nn k0 key) + (own_lt (1 : Int32) nn k1 key)) + (own_lt (2 : Int32) nn k2 key)))]))
    refine go (b := s₁.setTop (mkF m 447 #[.val (.int x0), .val (.int x1), .val (.int x2), .val (.int x3), .val (.int x4), .val (.int (0 : Int32)), .val (.int nn), .val (.int lo), .val (.int hi), .val (.int k1), .val (.int k0), .val (.int k1), .val (.int k2), .val (.int k3), .val (.int sel), .val (.int key), .val (.int g3), .val (.int span), .unset, .unset, .unset] [(.int (own_lt (3 : Int32) nn k3 key)), (.int (((own_lt (0 : Int32) nn k0 key) + (own_lt (1 : Int32) nn k1 key)) + (own_lt (2 : Int32) nn k2 key)))])) (fun tg kg => ?_) ?_
    · show Steps p.tables e below (s₁.setTop (mkF m 429 #[.val (.int x0), .val (.int x1), .val (.int x2), .val (.int x3), .val (.int x4), .val (.int (0 : Int32)), .val (.int nn), .val (.int lo), .val (.int hi), .val (.int k1), .val (.int k0), .val (.int k1), .val (.int k2), .val (.int k3), .val (.int sel), .val (.int key), .val (.int g3), .val (.int span), .unset, .unset, .unset] [(.int (((own_lt (0 : Int32) nn k0 key) + (own_lt (1 : Int32) nn k1 key)) + (own_lt (2 : Int32) nn k2 key)))])) _
      refine XS.iload X0.here hx rfl (hb hby at_429) rfl ?_
      show Steps p.tables e below (s₁.setTop (mkF m 431 #[.val (.int x0), .val (.int x1), .val (.int x2), .val (.int x3), .val (.int x4), .val (.int (0 : Int32)), .val (.int nn), .val (.int lo), .val (.int hi), .val (.int k1), .val (.int k0), .val (.int k1), .val (.int k2), .val (.int k3), .val (.int sel), .val (.int key), .val (.int g3), .val (.int span), .unset, .unset, .unset] [(.int nn), (.int (((own_lt (0 : Int32) nn k0 key) + (own_lt (1 : Int32) nn k1 key)) + (own_lt (2 : Int32) nn k2 key)))])) _
      refine XS.iconst X0.here hx rfl (hb hby at_431) ?_
      show Steps p.tables e below (s₁.setTop (mkF m 432 #[.val (.int x0), .val (.int x1), .val (.int x2), .val (.int x3), .val (.int x4), .val (.int (0 : Int32)), .val (.int nn), .val (.int lo), .val (.int hi), .val (.int k1), .val (.int k0), .val (.int k1), .val (.int k2), .val (.int k3), .val (.int sel), .val (.int key), .val (.int g3), .val (.int span), .unset, .unset, .unset] [(.int (3 : Int32)), (.int nn), (.int (((own_lt (0 : Int32) nn k0 key) + (own_lt (1 : Int32) nn k1 key)) + (own_lt (2 : Int32) nn k2 key)))])) _
      by_cases hc18 : (3 : Int32) < nn
      · refine XS.icmpNo X0.here hx rfl (hb hby at_432) rfl (tlt hc18).2.2.2 ?_
        show Steps p.tables e below (s₁.setTop (mkF m 435 #[.val (.int x0), .val (.int x1), .val (.int x2), .val (.int x3), .val (.int x4), .val (.int (0 : Int32)), .val (.int nn), .val (.int lo), .val (.int hi), .val (.int k1), .val (.int k0), .val (.int k1), .val (.int k2), .val (.int k3), .val (.int sel), .val (.int key), .val (.int g3), .val (.int span), .unset, .unset, .unset] [(.int (((own_lt (0 : Int32) nn k0 key) + (own_lt (1 : Int32) nn k1 key)) + (own_lt (2 : Int32) nn k2 key)))])) _
        refine XS.iload X0.here hx rfl (hb hby at_435) rfl ?_
        show Steps p.tables e below (s₁.setTop (mkF m 437 #[.val (.int x0), .val (.int x1), .val (.int x2), .val (.int x3), .val (.int x4), .val (.int (0 : Int32)), .val (.int nn), .val (.int lo), .val (.int hi), .val (.int k1), .val (.int k0), .val (.int k1), .val (.int k2), .val (.int k3), .val (.int sel), .val (.int key), .val (.int g3), .val (.int span), .unset, .unset, .unset] [(.int k3), (.int (((own_lt (0 : Int32) nn k0 key) + (own_lt (1 : Int32) nn k1 key)) + (own_lt (2 : Int32) nn k2 key)))])) _
        refine XS.iload X0.here hx rfl (hb hby at_437) rfl ?_
        show Steps p.tables e below (s₁.setTop (mkF m 439 #[.val (.int x0), .val (.int x1), .val (.int x2), .val (.int x3), .val (.int x4), .val (.int (0 : Int32)), .val (.int nn), .val (.int lo), .val (.int hi), .val (.int k1), .val (.int k0), .val (.int k1), .val (.int k2), .val (.int k3), .val (.int sel), .val (.int key), .val (.int g3), .val (.int span), .unset, .unset, .unset] [(.int key), (.int k3), (.int (((own_lt (0 : Int32) nn k0 key) + (own_lt (1 : Int32) nn k1 key)) + (own_lt (2 : Int32) nn k2 key)))])) _
        by_cases hc19 : k3 < key
        · refine XS.icmpNo X0.here hx rfl (hb hby at_439) rfl (tlt hc19).2.1 ?_
          show Steps p.tables e below (s₁.setTop (mkF m 442 #[.val (.int x0), .val (.int x1), .val (.int x2), .val (.int x3), .val (.int x4), .val (.int (0 : Int32)), .val (.int nn), .val (.int lo), .val (.int hi), .val (.int k1), .val (.int k0), .val (.int k1), .val (.int k2), .val (.int k3), .val (.int sel), .val (.int key), .val (.int g3), .val (.int span), .unset, .unset, .unset] [(.int (((own_lt (0 : Int32) nn k0 key) + (own_lt (1 : Int32) nn k1 key)) + (own_lt (2 : Int32) nn k2 key)))])) _
          refine XS.iconst X0.here hx rfl (hb hby at_442) ?_
          show Steps p.tables e below (s₁.setTop (mkF m 443 #[.val (.int x0), .val (.int x1), .val (.int x2), .val (.int x3), .val (.int x4), .val (.int (0 : Int32)), .val (.int nn), .val (.int lo), .val (.int hi), .val (.int k1), .val (.int k0), .val (.int k1), .val (.int k2), .val (.int k3), .val (.int sel), .val (.int key), .val (.int g3), .val (.int span), .unset, .unset, .unset] [(.int (1 : Int32)), (.int (((own_lt (0 : Int32) nn k0 key) + (own_lt (1 : Int32) nn k1 key)) + (own_lt (2 : Int32) nn k2 key)))])) _
          refine XS.goto X0.here hx rfl (pc0 := 443) (pc' := 447) rfl (hb hby at_443) (by decide) (by decide) ?_
          show Steps p.tables e below (s₁.setTop (mkF m 447 #[.val (.int x0), .val (.int x1), .val (.int x2), .val (.int x3), .val (.int x4), .val (.int (0 : Int32)), .val (.int nn), .val (.int lo), .val (.int hi), .val (.int k1), .val (.int k0), .val (.int k1), .val (.int k2), .val (.int k3), .val (.int sel), .val (.int key), .val (.int g3), .val (.int span), .unset, .unset, .unset] [(.int (1 : Int32)), (.int (((own_lt (0 : Int32) nn k0 key) + (own_lt (1 : Int32) nn k1 key)) + (own_lt (2 : Int32) nn k2 key)))])) _
          have q0 : (own_lt (3 : Int32) nn k3 key) = (1 : Int32) := by simp only [own_lt, if_pos hc1, if_pos hc18, if_pos hc19]
          rw [q0] at kg
          exact kg
        · refine XS.icmpYes X0.here hx rfl (pc0 := 439) (pc' := 446) rfl (hb hby at_439) rfl (flt hc19).2.1 (by decide) (by decide) ?_
          show Steps p.tables e below (s₁.setTop (mkF m 446 #[.val (.int x0), .val (.int x1), .val (.int x2), .val (.int x3), .val (.int x4), .val (.int (0 : Int32)), .val (.int nn), .val (.int lo), .val (.int hi), .val (.int k1), .val (.int k0), .val (.int k1), .val (.int k2), .val (.int k3), .val (.int sel), .val (.int key), .val (.int g3), .val (.int span), .unset, .unset, .unset] [(.int (((own_lt (0 : Int32) nn k0 key) + (own_lt (1 : Int32) nn k1 key)) + (own_lt (2 : Int32) nn k2 key)))])) _
          refine XS.iconst X0.here hx rfl (hb hby at_446) ?_
          show Steps p.tables e below (s₁.setTop (mkF m 447 #[.val (.int x0), .val (.int x1), .val (.int x2), .val (.int x3), .val (.int x4), .val (.int (0 : Int32)), .val (.int nn), .val (.int lo), .val (.int hi), .val (.int k1), .val (.int k0), .val (.int k1), .val (.int k2), .val (.int k3), .val (.int sel), .val (.int key), .val (.int g3), .val (.int span), .unset, .unset, .unset] [(.int (0 : Int32)), (.int (((own_lt (0 : Int32) nn k0 key) + (own_lt (1 : Int32) nn k1 key)) + (own_lt (2 : Int32) nn k2 key)))])) _
          have q0 : (own_lt (3 : Int32) nn k3 key) = (0 : Int32) := by simp only [own_lt, if_pos hc1, if_pos hc18, if_neg hc19]
          rw [q0] at kg
          exact kg
      · refine XS.icmpYes X0.here hx rfl (pc0 := 432) (pc' := 446) rfl (hb hby at_432) rfl (flt hc18).2.2.2 (by decide) (by decide) ?_
        show Steps p.tables e below (s₁.setTop (mkF m 446 #[.val (.int x0), .val (.int x1), .val (.int x2), .val (.int x3), .val (.int x4), .val (.int (0 : Int32)), .val (.int nn), .val (.int lo), .val (.int hi), .val (.int k1), .val (.int k0), .val (.int k1), .val (.int k2), .val (.int k3), .val (.int sel), .val (.int key), .val (.int g3), .val (.int span), .unset, .unset, .unset] [(.int (((own_lt (0 : Int32) nn k0 key) + (own_lt (1 : Int32) nn k1 key)) + (own_lt (2 : Int32) nn k2 key)))])) _
        refine XS.iconst X0.here hx rfl (hb hby at_446) ?_
        show Steps p.tables e below (s₁.setTop (mkF m 447 #[.val (.int x0), .val (.int x1), .val (.int x2), .val (.int x3), .val (.int x4), .val (.int (0 : Int32)), .val (.int nn), .val (.int lo), .val (.int hi), .val (.int k1), .val (.int k0), .val (.int k1), .val (.int k2), .val (.int k3), .val (.int sel), .val (.int key), .val (.int g3), .val (.int span), .unset, .unset, .unset] [(.int (0 : Int32)), (.int (((own_lt (0 : Int32) nn k0 key) + (own_lt (1 : Int32) nn k1 key)) + (own_lt (2 : Int32) nn k2 key)))])) _
        have q0 : (own_lt (3 : Int32) nn k3 key) = (0 : Int32) := by simp only [own_lt, if_pos hc1, if_neg hc18]
        rw [q0] at kg
        exact kg
    show G (s₁.setTop (mkF m 447 #[.val (.int x0), .val (.int x1), .val (.int x2), .val (.int x3), .val (.int x4), .val (.int (0 : Int32)), .val (.int nn), .val (.int lo), .val (.int hi), .val (.int k1), .val (.int k0), .val (.int k1), .val (.int k2), .val (.int k3), .val (.int sel), .val (.int key), .val (.int g3), .val (.int span), .unset, .unset, .unset] [(.int (own_lt (3 : Int32) nn k3 key)), (.int (((own_lt (0 : Int32) nn k0 key) + (own_lt (1 : Int32) nn k1 key)) + (own_lt (2 : Int32) nn k2 key)))]))
    refine go (fun tg kg => XS.iadd X0.here hx rfl (hb hby at_447) rfl kg) ?_
    show G (s₁.setTop (mkF m 448 #[.val (.int x0), .val (.int x1), .val (.int x2), .val (.int x3), .val (.int x4), .val (.int (0 : Int32)), .val (.int nn), .val (.int lo), .val (.int hi), .val (.int k1), .val (.int k0), .val (.int k1), .val (.int k2), .val (.int k3), .val (.int sel), .val (.int key), .val (.int g3), .val (.int span), .unset, .unset, .unset] [(.int ((((own_lt (0 : Int32) nn k0 key) + (own_lt (1 : Int32) nn k1 key)) + (own_lt (2 : Int32) nn k2 key)) + (own_lt (3 : Int32) nn k3 key)))]))
    refine go (fun tg kg => XS.istore X0.here hx rfl (hb hby at_448) rfl (l' := #[.val (.int x0), .val (.int x1), .val (.int x2), .val (.int x3), .val (.int x4), .val (.int (0 : Int32)), .val (.int nn), .val (.int lo), .val (.int hi), .val (.int k1), .val (.int k0), .val (.int k1), .val (.int k2), .val (.int k3), .val (.int sel), .val (.int key), .val (.int ((((own_lt (0 : Int32) nn k0 key) + (own_lt (1 : Int32) nn k1 key)) + (own_lt (2 : Int32) nn k2 key)) + (own_lt (3 : Int32) nn k3 key))), .val (.int span), .unset, .unset, .unset]) rfl kg) ?_
    show G (s₁.setTop (mkF m 450 #[.val (.int x0), .val (.int x1), .val (.int x2), .val (.int x3), .val (.int x4), .val (.int (0 : Int32)), .val (.int nn), .val (.int lo), .val (.int hi), .val (.int k1), .val (.int k0), .val (.int k1), .val (.int k2), .val (.int k3), .val (.int sel), .val (.int key), .val (.int ((((own_lt (0 : Int32) nn k0 key) + (own_lt (1 : Int32) nn k1 key)) + (own_lt (2 : Int32) nn k2 key)) + (own_lt (3 : Int32) nn k3 key))), .val (.int span), .unset, .unset, .unset] []))
    refine go (b := s₁.setTop (mkF m 506 #[.val (.int x0), .val (.int x1), .val (.int x2), .val (.int x3), .val (.int x4), .val (.int (0 : Int32)), .val (.int nn), .val (.int lo), .val (.int hi), .val (.int k1), .val (.int k0), .val (.int k1), .val (.int k2), .val (.int k3), .val (.int sel), .val (.int key), .val (.int ((((own_lt (0 : Int32) nn k0 key) + (own_lt (1 : Int32) nn k1 key)) + (own_lt (2 : Int32) nn k2 key)) + (own_lt (3 : Int32) nn k3 key))), .val (.int span), .unset, .unset, .unset] [(.int (own_fn nn k0 k1 k2 k3 key))])) (fun tg kg => ?_) ?_
    · show Steps p.tables e below (s₁.setTop (mkF m 450 #[.val (.int x0), .val (.int x1), .val (.int x2), .val (.int x3), .val (.int x4), .val (.int (0 : Int32)), .val (.int nn), .val (.int lo), .val (.int hi), .val (.int k1), .val (.int k0), .val (.int k1), .val (.int k2), .val (.int k3), .val (.int sel), .val (.int key), .val (.int ((((own_lt (0 : Int32) nn k0 key) + (own_lt (1 : Int32) nn k1 key)) + (own_lt (2 : Int32) nn k2 key)) + (own_lt (3 : Int32) nn k3 key))), .val (.int span), .unset, .unset, .unset] [])) _
      refine XS.iload X0.here hx rfl (hb hby at_450) rfl ?_
      show Steps p.tables e below (s₁.setTop (mkF m 452 #[.val (.int x0), .val (.int x1), .val (.int x2), .val (.int x3), .val (.int x4), .val (.int (0 : Int32)), .val (.int nn), .val (.int lo), .val (.int hi), .val (.int k1), .val (.int k0), .val (.int k1), .val (.int k2), .val (.int k3), .val (.int sel), .val (.int key), .val (.int ((((own_lt (0 : Int32) nn k0 key) + (own_lt (1 : Int32) nn k1 key)) + (own_lt (2 : Int32) nn k2 key)) + (own_lt (3 : Int32) nn k3 key))), .val (.int span), .unset, .unset, .unset] [(.int nn)])) _
      by_cases hc20 : (0 : Int32) < nn
      · refine XS.ifNo X0.here hx rfl (hb hby at_452) rfl ((if0 _ _).trans (tlt hc20).2.2.2) ?_
        show Steps p.tables e below (s₁.setTop (mkF m 455 #[.val (.int x0), .val (.int x1), .val (.int x2), .val (.int x3), .val (.int x4), .val (.int (0 : Int32)), .val (.int nn), .val (.int lo), .val (.int hi), .val (.int k1), .val (.int k0), .val (.int k1), .val (.int k2), .val (.int k3), .val (.int sel), .val (.int key), .val (.int ((((own_lt (0 : Int32) nn k0 key) + (own_lt (1 : Int32) nn k1 key)) + (own_lt (2 : Int32) nn k2 key)) + (own_lt (3 : Int32) nn k3 key))), .val (.int span), .unset, .unset, .unset] [])) _
        refine XS.iload X0.here hx rfl (hb hby at_455) rfl ?_
        show Steps p.tables e below (s₁.setTop (mkF m 457 #[.val (.int x0), .val (.int x1), .val (.int x2), .val (.int x3), .val (.int x4), .val (.int (0 : Int32)), .val (.int nn), .val (.int lo), .val (.int hi), .val (.int k1), .val (.int k0), .val (.int k1), .val (.int k2), .val (.int k3), .val (.int sel), .val (.int key), .val (.int ((((own_lt (0 : Int32) nn k0 key) + (own_lt (1 : Int32) nn k1 key)) + (own_lt (2 : Int32) nn k2 key)) + (own_lt (3 : Int32) nn k3 key))), .val (.int span), .unset, .unset, .unset] [(.int k0)])) _
        refine XS.iload X0.here hx rfl (hb hby at_457) rfl ?_
        show Steps p.tables e below (s₁.setTop (mkF m 459 #[.val (.int x0), .val (.int x1), .val (.int x2), .val (.int x3), .val (.int x4), .val (.int (0 : Int32)), .val (.int nn), .val (.int lo), .val (.int hi), .val (.int k1), .val (.int k0), .val (.int k1), .val (.int k2), .val (.int k3), .val (.int sel), .val (.int key), .val (.int ((((own_lt (0 : Int32) nn k0 key) + (own_lt (1 : Int32) nn k1 key)) + (own_lt (2 : Int32) nn k2 key)) + (own_lt (3 : Int32) nn k3 key))), .val (.int span), .unset, .unset, .unset] [(.int key), (.int k0)])) _
        by_cases hc21 : k0 = key
        · refine XS.icmpYes X0.here hx rfl (pc0 := 459) (pc' := 501) rfl (hb hby at_459) rfl (teq hc21).1 (by decide) (by decide) ?_
          show Steps p.tables e below (s₁.setTop (mkF m 501 #[.val (.int x0), .val (.int x1), .val (.int x2), .val (.int x3), .val (.int x4), .val (.int (0 : Int32)), .val (.int nn), .val (.int lo), .val (.int hi), .val (.int k1), .val (.int k0), .val (.int k1), .val (.int k2), .val (.int k3), .val (.int sel), .val (.int key), .val (.int ((((own_lt (0 : Int32) nn k0 key) + (own_lt (1 : Int32) nn k1 key)) + (own_lt (2 : Int32) nn k2 key)) + (own_lt (3 : Int32) nn k3 key))), .val (.int span), .unset, .unset, .unset] [])) _
          refine XS.iconst X0.here hx rfl (hb hby at_501) ?_
          show Steps p.tables e below (s₁.setTop (mkF m 502 #[.val (.int x0), .val (.int x1), .val (.int x2), .val (.int x3), .val (.int x4), .val (.int (0 : Int32)), .val (.int nn), .val (.int lo), .val (.int hi), .val (.int k1), .val (.int k0), .val (.int k1), .val (.int k2), .val (.int k3), .val (.int sel), .val (.int key), .val (.int ((((own_lt (0 : Int32) nn k0 key) + (own_lt (1 : Int32) nn k1 key)) + (own_lt (2 : Int32) nn k2 key)) + (own_lt (3 : Int32) nn k3 key))), .val (.int span), .unset, .unset, .unset] [(.int (1 : Int32))])) _
          refine XS.goto X0.here hx rfl (pc0 := 502) (pc' := 506) rfl (hb hby at_502) (by decide) (by decide) ?_
          show Steps p.tables e below (s₁.setTop (mkF m 506 #[.val (.int x0), .val (.int x1), .val (.int x2), .val (.int x3), .val (.int x4), .val (.int (0 : Int32)), .val (.int nn), .val (.int lo), .val (.int hi), .val (.int k1), .val (.int k0), .val (.int k1), .val (.int k2), .val (.int k3), .val (.int sel), .val (.int key), .val (.int ((((own_lt (0 : Int32) nn k0 key) + (own_lt (1 : Int32) nn k1 key)) + (own_lt (2 : Int32) nn k2 key)) + (own_lt (3 : Int32) nn k3 key))), .val (.int span), .unset, .unset, .unset] [(.int (1 : Int32))])) _
          have q0 : (own_fn nn k0 k1 k2 k3 key) = (1 : Int32) := by simp [own_fn, hc1, hc20, hc21]
          rw [q0] at kg
          exact kg
        · refine XS.icmpNo X0.here hx rfl (hb hby at_459) rfl (feq hc21).1 ?_
          show Steps p.tables e below (s₁.setTop (mkF m 462 #[.val (.int x0), .val (.int x1), .val (.int x2), .val (.int x3), .val (.int x4), .val (.int (0 : Int32)), .val (.int nn), .val (.int lo), .val (.int hi), .val (.int k1), .val (.int k0), .val (.int k1), .val (.int k2), .val (.int k3), .val (.int sel), .val (.int key), .val (.int ((((own_lt (0 : Int32) nn k0 key) + (own_lt (1 : Int32) nn k1 key)) + (own_lt (2 : Int32) nn k2 key)) + (own_lt (3 : Int32) nn k3 key))), .val (.int span), .unset, .unset, .unset] [])) _
          refine XS.iload X0.here hx rfl (hb hby at_462) rfl ?_
          show Steps p.tables e below (s₁.setTop (mkF m 464 #[.val (.int x0), .val (.int x1), .val (.int x2), .val (.int x3), .val (.int x4), .val (.int (0 : Int32)), .val (.int nn), .val (.int lo), .val (.int hi), .val (.int k1), .val (.int k0), .val (.int k1), .val (.int k2), .val (.int k3), .val (.int sel), .val (.int key), .val (.int ((((own_lt (0 : Int32) nn k0 key) + (own_lt (1 : Int32) nn k1 key)) + (own_lt (2 : Int32) nn k2 key)) + (own_lt (3 : Int32) nn k3 key))), .val (.int span), .unset, .unset, .unset] [(.int nn)])) _
          refine XS.iconst X0.here hx rfl (hb hby at_464) ?_
          show Steps p.tables e below (s₁.setTop (mkF m 465 #[.val (.int x0), .val (.int x1), .val (.int x2), .val (.int x3), .val (.int x4), .val (.int (0 : Int32)), .val (.int nn), .val (.int lo), .val (.int hi), .val (.int k1), .val (.int k0), .val (.int k1), .val (.int k2), .val (.int k3), .val (.int sel), .val (.int key), .val (.int ((((own_lt (0 : Int32) nn k0 key) + (own_lt (1 : Int32) nn k1 key)) + (own_lt (2 : Int32) nn k2 key)) + (own_lt (3 : Int32) nn k3 key))), .val (.int span), .unset, .unset, .unset] [(.int (1 : Int32)), (.int nn)])) _
          by_cases hc22 : (1 : Int32) < nn
          · refine XS.icmpNo X0.here hx rfl (hb hby at_465) rfl (tlt hc22).2.2.2 ?_
            show Steps p.tables e below (s₁.setTop (mkF m 468 #[.val (.int x0), .val (.int x1), .val (.int x2), .val (.int x3), .val (.int x4), .val (.int (0 : Int32)), .val (.int nn), .val (.int lo), .val (.int hi), .val (.int k1), .val (.int k0), .val (.int k1), .val (.int k2), .val (.int k3), .val (.int sel), .val (.int key), .val (.int ((((own_lt (0 : Int32) nn k0 key) + (own_lt (1 : Int32) nn k1 key)) + (own_lt (2 : Int32) nn k2 key)) + (own_lt (3 : Int32) nn k3 key))), .val (.int span), .unset, .unset, .unset] [])) _
            refine XS.iload X0.here hx rfl (hb hby at_468) rfl ?_
            show Steps p.tables e below (s₁.setTop (mkF m 470 #[.val (.int x0), .val (.int x1), .val (.int x2), .val (.int x3), .val (.int x4), .val (.int (0 : Int32)), .val (.int nn), .val (.int lo), .val (.int hi), .val (.int k1), .val (.int k0), .val (.int k1), .val (.int k2), .val (.int k3), .val (.int sel), .val (.int key), .val (.int ((((own_lt (0 : Int32) nn k0 key) + (own_lt (1 : Int32) nn k1 key)) + (own_lt (2 : Int32) nn k2 key)) + (own_lt (3 : Int32) nn k3 key))), .val (.int span), .unset, .unset, .unset] [(.int k1)])) _
            refine XS.iload X0.here hx rfl (hb hby at_470) rfl ?_
            show Steps p.tables e below (s₁.setTop (mkF m 472 #[.val (.int x0), .val (.int x1), .val (.int x2), .val (.int x3), .val (.int x4), .val (.int (0 : Int32)), .val (.int nn), .val (.int lo), .val (.int hi), .val (.int k1), .val (.int k0), .val (.int k1), .val (.int k2), .val (.int k3), .val (.int sel), .val (.int key), .val (.int ((((own_lt (0 : Int32) nn k0 key) + (own_lt (1 : Int32) nn k1 key)) + (own_lt (2 : Int32) nn k2 key)) + (own_lt (3 : Int32) nn k3 key))), .val (.int span), .unset, .unset, .unset] [(.int key), (.int k1)])) _
            by_cases hc23 : k1 = key
            · refine XS.icmpYes X0.here hx rfl (pc0 := 472) (pc' := 501) rfl (hb hby at_472) rfl (teq hc23).1 (by decide) (by decide) ?_
              show Steps p.tables e below (s₁.setTop (mkF m 501 #[.val (.int x0), .val (.int x1), .val (.int x2), .val (.int x3), .val (.int x4), .val (.int (0 : Int32)), .val (.int nn), .val (.int lo), .val (.int hi), .val (.int k1), .val (.int k0), .val (.int k1), .val (.int k2), .val (.int k3), .val (.int sel), .val (.int key), .val (.int ((((own_lt (0 : Int32) nn k0 key) + (own_lt (1 : Int32) nn k1 key)) + (own_lt (2 : Int32) nn k2 key)) + (own_lt (3 : Int32) nn k3 key))), .val (.int span), .unset, .unset, .unset] [])) _
              refine XS.iconst X0.here hx rfl (hb hby at_501) ?_
              show Steps p.tables e below (s₁.setTop (mkF m 502 #[.val (.int x0), .val (.int x1), .val (.int x2), .val (.int x3), .val (.int x4), .val (.int (0 : Int32)), .val (.int nn), .val (.int lo), .val (.int hi), .val (.int k1), .val (.int k0), .val (.int k1), .val (.int k2), .val (.int k3), .val (.int sel), .val (.int key), .val (.int ((((own_lt (0 : Int32) nn k0 key) + (own_lt (1 : Int32) nn k1 key)) + (own_lt (2 : Int32) nn k2 key)) + (own_lt (3 : Int32) nn k3 key))), .val (.int span), .unset, .unset, .unset] [(.int (1 : Int32))])) _
              refine XS.goto X0.here hx rfl (pc0 := 502) (pc' := 506) rfl (hb hby at_502) (by decide) (by decide) ?_
              show Steps p.tables e below (s₁.setTop (mkF m 506 #[.val (.int x0), .val (.int x1), .val (.int x2), .val (.int x3), .val (.int x4), .val (.int (0 : Int32)), .val (.int nn), .val (.int lo), .val (.int hi), .val (.int k1), .val (.int k0), .val (.int k1), .val (.int k2), .val (.int k3), .val (.int sel), .val (.int key), .val (.int ((((own_lt (0 : Int32) nn k0 key) + (own_lt (1 : Int32) nn k1 key)) + (own_lt (2 : Int32) nn k2 key)) + (own_lt (3 : Int32) nn k3 key))), .val (.int span), .unset, .unset, .unset] [(.int (1 : Int32))])) _
              have q0 : (own_fn nn k0 k1 k2 k3 key) = (1 : Int32) := by simp [own_fn, hc1, hc20, hc21, hc22, hc23]
              rw [q0] at kg
              exact kg
            · refine XS.icmpNo X0.here hx rfl (hb hby at_472) rfl (feq hc23).1 ?_
              show Steps p.tables e below (s₁.setTop (mkF m 475 #[.val (.int x0), .val (.int x1), .val (.int x2), .val (.int x3), .val (.int x4), .val (.int (0 : Int32)), .val (.int nn), .val (.int lo), .val (.int hi), .val (.int k1), .val (.int k0), .val (.int k1), .val (.int k2), .val (.int k3), .val (.int sel), .val (.int key), .val (.int ((((own_lt (0 : Int32) nn k0 key) + (own_lt (1 : Int32) nn k1 key)) + (own_lt (2 : Int32) nn k2 key)) + (own_lt (3 : Int32) nn k3 key))), .val (.int span), .unset, .unset, .unset] [])) _
              refine XS.iload X0.here hx rfl (hb hby at_475) rfl ?_
              show Steps p.tables e below (s₁.setTop (mkF m 477 #[.val (.int x0), .val (.int x1), .val (.int x2), .val (.int x3), .val (.int x4), .val (.int (0 : Int32)), .val (.int nn), .val (.int lo), .val (.int hi), .val (.int k1), .val (.int k0), .val (.int k1), .val (.int k2), .val (.int k3), .val (.int sel), .val (.int key), .val (.int ((((own_lt (0 : Int32) nn k0 key) + (own_lt (1 : Int32) nn k1 key)) + (own_lt (2 : Int32) nn k2 key)) + (own_lt (3 : Int32) nn k3 key))), .val (.int span), .unset, .unset, .unset] [(.int nn)])) _
              refine XS.iconst X0.here hx rfl (hb hby at_477) ?_
              show Steps p.tables e below (s₁.setTop (mkF m 478 #[.val (.int x0), .val (.int x1), .val (.int x2), .val (.int x3), .val (.int x4), .val (.int (0 : Int32)), .val (.int nn), .val (.int lo), .val (.int hi), .val (.int k1), .val (.int k0), .val (.int k1), .val (.int k2), .val (.int k3), .val (.int sel), .val (.int key), .val (.int ((((own_lt (0 : Int32) nn k0 key) + (own_lt (1 : Int32) nn k1 key)) + (own_lt (2 : Int32) nn k2 key)) + (own_lt (3 : Int32) nn k3 key))), .val (.int span), .unset, .unset, .unset] [(.int (2 : Int32)), (.int nn)])) _
              by_cases hc24 : (2 : Int32) < nn
              · refine XS.icmpNo X0.here hx rfl (hb hby at_478) rfl (tlt hc24).2.2.2 ?_
                show Steps p.tables e below (s₁.setTop (mkF m 481 #[.val (.int x0), .val (.int x1), .val (.int x2), .val (.int x3), .val (.int x4), .val (.int (0 : Int32)), .val (.int nn), .val (.int lo), .val (.int hi), .val (.int k1), .val (.int k0), .val (.int k1), .val (.int k2), .val (.int k3), .val (.int sel), .val (.int key), .val (.int ((((own_lt (0 : Int32) nn k0 key) + (own_lt (1 : Int32) nn k1 key)) + (own_lt (2 : Int32) nn k2 key)) + (own_lt (3 : Int32) nn k3 key))), .val (.int span), .unset, .unset, .unset] [])) _
                refine XS.iload X0.here hx rfl (hb hby at_481) rfl ?_
                show Steps p.tables e below (s₁.setTop (mkF m 483 #[.val (.int x0), .val (.int x1), .val (.int x2), .val (.int x3), .val (.int x4), .val (.int (0 : Int32)), .val (.int nn), .val (.int lo), .val (.int hi), .val (.int k1), .val (.int k0), .val (.int k1), .val (.int k2), .val (.int k3), .val (.int sel), .val (.int key), .val (.int ((((own_lt (0 : Int32) nn k0 key) + (own_lt (1 : Int32) nn k1 key)) + (own_lt (2 : Int32) nn k2 key)) + (own_lt (3 : Int32) nn k3 key))), .val (.int span), .unset, .unset, .unset] [(.int k2)])) _
                refine XS.iload X0.here hx rfl (hb hby at_483) rfl ?_
                show Steps p.tables e below (s₁.setTop (mkF m 485 #[.val (.int x0), .val (.int x1), .val (.int x2), .val (.int x3), .val (.int x4), .val (.int (0 : Int32)), .val (.int nn), .val (.int lo), .val (.int hi), .val (.int k1), .val (.int k0), .val (.int k1), .val (.int k2), .val (.int k3), .val (.int sel), .val (.int key), .val (.int ((((own_lt (0 : Int32) nn k0 key) + (own_lt (1 : Int32) nn k1 key)) + (own_lt (2 : Int32) nn k2 key)) + (own_lt (3 : Int32) nn k3 key))), .val (.int span), .unset, .unset, .unset] [(.int key), (.int k2)])) _
                by_cases hc25 : k2 = key
                · refine XS.icmpYes X0.here hx rfl (pc0 := 485) (pc' := 501) rfl (hb hby at_485) rfl (teq hc25).1 (by decide) (by decide) ?_
                  show Steps p.tables e below (s₁.setTop (mkF m 501 #[.val (.int x0), .val (.int x1), .val (.int x2), .val (.int x3), .val (.int x4), .val (.int (0 : Int32)), .val (.int nn), .val (.int lo), .val (.int hi), .val (.int k1), .val (.int k0), .val (.int k1), .val (.int k2), .val (.int k3), .val (.int sel), .val (.int key), .val (.int ((((own_lt (0 : Int32) nn k0 key) + (own_lt (1 : Int32) nn k1 key)) + (own_lt (2 : Int32) nn k2 key)) + (own_lt (3 : Int32) nn k3 key))), .val (.int span), .unset, .unset, .unset] [])) _
                  refine XS.iconst X0.here hx rfl (hb hby at_501) ?_
                  show Steps p.tables e below (s₁.setTop (mkF m 502 #[.val (.int x0), .val (.int x1), .val (.int x2), .val (.int x3), .val (.int x4), .val (.int (0 : Int32)), .val (.int nn), .val (.int lo), .val (.int hi), .val (.int k1), .val (.int k0), .val (.int k1), .val (.int k2), .val (.int k3), .val (.int sel), .val (.int key), .val (.int ((((own_lt (0 : Int32) nn k0 key) + (own_lt (1 : Int32) nn k1 key)) + (own_lt (2 : Int32) nn k2 key)) + (own_lt (3 : Int32) nn k3 key))), .val (.int span), .unset, .unset, .unset] [(.int (1 : Int32))])) _
                  refine XS.goto X0.here hx rfl (pc0 := 502) (pc' := 506) rfl (hb hby at_502) (by decide) (by decide) ?_
                  show Steps p.tables e below (s₁.setTop (mkF m 506 #[.val (.int x0), .val (.int x1), .val (.int x2), .val (.int x3), .val (.int x4), .val (.int (0 : Int32)), .val (.int nn), .val (.int lo), .val (.int hi), .val (.int k1), .val (.int k0), .val (.int k1), .val (.int k2), .val (.int k3), .val (.int sel), .val (.int key), .val (.int ((((own_lt (0 : Int32) nn k0 key) + (own_lt (1 : Int32) nn k1 key)) + (own_lt (2 : Int32) nn k2 key)) + (own_lt (3 : Int32) nn k3 key))), .val (.int span), .unset, .unset, .unset] [(.int (1 : Int32))])) _
                  have q0 : (own_fn nn k0 k1 k2 k3 key) = (1 : Int32) := by simp [own_fn, hc1, hc20, hc21, hc22, hc23, hc24, hc25]
                  rw [q0] at kg
                  exact kg
                · refine XS.icmpNo X0.here hx rfl (hb hby at_485) rfl (feq hc25).1 ?_
                  show Steps p.tables e below (s₁.setTop (mkF m 488 #[.val (.int x0), .val (.int x1), .val (.int x2), .val (.int x3), .val (.int x4), .val (.int (0 : Int32)), .val (.int nn), .val (.int lo), .val (.int hi), .val (.int k1), .val (.int k0), .val (.int k1), .val (.int k2), .val (.int k3), .val (.int sel), .val (.int key), .val (.int ((((own_lt (0 : Int32) nn k0 key) + (own_lt (1 : Int32) nn k1 key)) + (own_lt (2 : Int32) nn k2 key)) + (own_lt (3 : Int32) nn k3 key))), .val (.int span), .unset, .unset, .unset] [])) _
                  refine XS.iload X0.here hx rfl (hb hby at_488) rfl ?_
                  show Steps p.tables e below (s₁.setTop (mkF m 490 #[.val (.int x0), .val (.int x1), .val (.int x2), .val (.int x3), .val (.int x4), .val (.int (0 : Int32)), .val (.int nn), .val (.int lo), .val (.int hi), .val (.int k1), .val (.int k0), .val (.int k1), .val (.int k2), .val (.int k3), .val (.int sel), .val (.int key), .val (.int ((((own_lt (0 : Int32) nn k0 key) + (own_lt (1 : Int32) nn k1 key)) + (own_lt (2 : Int32) nn k2 key)) + (own_lt (3 : Int32) nn k3 key))), .val (.int span), .unset, .unset, .unset] [(.int nn)])) _
                  refine XS.iconst X0.here hx rfl (hb hby at_490) ?_
                  show Steps p.tables e below (s₁.setTop (mkF m 491 #[.val (.int x0), .val (.int x1), .val (.int x2), .val (.int x3), .val (.int x4), .val (.int (0 : Int32)), .val (.int nn), .val (.int lo), .val (.int hi), .val (.int k1), .val (.int k0), .val (.int k1), .val (.int k2), .val (.int k3), .val (.int sel), .val (.int key), .val (.int ((((own_lt (0 : Int32) nn k0 key) + (own_lt (1 : Int32) nn k1 key)) + (own_lt (2 : Int32) nn k2 key)) + (own_lt (3 : Int32) nn k3 key))), .val (.int span), .unset, .unset, .unset] [(.int (3 : Int32)), (.int nn)])) _
                  by_cases hc26 : (3 : Int32) < nn
                  · refine XS.icmpNo X0.here hx rfl (hb hby at_491) rfl (tlt hc26).2.2.2 ?_
                    show Steps p.tables e below (s₁.setTop (mkF m 494 #[.val (.int x0), .val (.int x1), .val (.int x2), .val (.int x3), .val (.int x4), .val (.int (0 : Int32)), .val (.int nn), .val (.int lo), .val (.int hi), .val (.int k1), .val (.int k0), .val (.int k1), .val (.int k2), .val (.int k3), .val (.int sel), .val (.int key), .val (.int ((((own_lt (0 : Int32) nn k0 key) + (own_lt (1 : Int32) nn k1 key)) + (own_lt (2 : Int32) nn k2 key)) + (own_lt (3 : Int32) nn k3 key))), .val (.int span), .unset, .unset, .unset] [])) _
                    refine XS.iload X0.here hx rfl (hb hby at_494) rfl ?_
                    show Steps p.tables e below (s₁.setTop (mkF m 496 #[.val (.int x0), .val (.int x1), .val (.int x2), .val (.int x3), .val (.int x4), .val (.int (0 : Int32)), .val (.int nn), .val (.int lo), .val (.int hi), .val (.int k1), .val (.int k0), .val (.int k1), .val (.int k2), .val (.int k3), .val (.int sel), .val (.int key), .val (.int ((((own_lt (0 : Int32) nn k0 key) + (own_lt (1 : Int32) nn k1 key)) + (own_lt (2 : Int32) nn k2 key)) + (own_lt (3 : Int32) nn k3 key))), .val (.int span), .unset, .unset, .unset] [(.int k3)])) _
                    refine XS.iload X0.here hx rfl (hb hby at_496) rfl ?_
                    show Steps p.tables e below (s₁.setTop (mkF m 498 #[.val (.int x0), .val (.int x1), .val (.int x2), .val (.int x3), .val (.int x4), .val (.int (0 : Int32)), .val (.int nn), .val (.int lo), .val (.int hi), .val (.int k1), .val (.int k0), .val (.int k1), .val (.int k2), .val (.int k3), .val (.int sel), .val (.int key), .val (.int ((((own_lt (0 : Int32) nn k0 key) + (own_lt (1 : Int32) nn k1 key)) + (own_lt (2 : Int32) nn k2 key)) + (own_lt (3 : Int32) nn k3 key))), .val (.int span), .unset, .unset, .unset] [(.int key), (.int k3)])) _
                    by_cases hc27 : k3 = key
                    · refine XS.icmpNo X0.here hx rfl (hb hby at_498) rfl (teq hc27).2 ?_
                      show Steps p.tables e below (s₁.setTop (mkF m 501 #[.val (.int x0), .val (.int x1), .val (.int x2), .val (.int x3), .val (.int x4), .val (.int (0 : Int32)), .val (.int nn), .val (.int lo), .val (.int hi), .val (.int k1), .val (.int k0), .val (.int k1), .val (.int k2), .val (.int k3), .val (.int sel), .val (.int key), .val (.int ((((own_lt (0 : Int32) nn k0 key) + (own_lt (1 : Int32) nn k1 key)) + (own_lt (2 : Int32) nn k2 key)) + (own_lt (3 : Int32) nn k3 key))), .val (.int span), .unset, .unset, .unset] [])) _
                      refine XS.iconst X0.here hx rfl (hb hby at_501) ?_
                      show Steps p.tables e below (s₁.setTop (mkF m 502 #[.val (.int x0), .val (.int x1), .val (.int x2), .val (.int x3), .val (.int x4), .val (.int (0 : Int32)), .val (.int nn), .val (.int lo), .val (.int hi), .val (.int k1), .val (.int k0), .val (.int k1), .val (.int k2), .val (.int k3), .val (.int sel), .val (.int key), .val (.int ((((own_lt (0 : Int32) nn k0 key) + (own_lt (1 : Int32) nn k1 key)) + (own_lt (2 : Int32) nn k2 key)) + (own_lt (3 : Int32) nn k3 key))), .val (.int span), .unset, .unset, .unset] [(.int (1 : Int32))])) _
                      refine XS.goto X0.here hx rfl (pc0 := 502) (pc' := 506) rfl (hb hby at_502) (by decide) (by decide) ?_
                      show Steps p.tables e below (s₁.setTop (mkF m 506 #[.val (.int x0), .val (.int x1), .val (.int x2), .val (.int x3), .val (.int x4), .val (.int (0 : Int32)), .val (.int nn), .val (.int lo), .val (.int hi), .val (.int k1), .val (.int k0), .val (.int k1), .val (.int k2), .val (.int k3), .val (.int sel), .val (.int key), .val (.int ((((own_lt (0 : Int32) nn k0 key) + (own_lt (1 : Int32) nn k1 key)) + (own_lt (2 : Int32) nn k2 key)) + (own_lt (3 : Int32) nn k3 key))), .val (.int span), .unset, .unset, .unset] [(.int (1 : Int32))])) _
                      have q0 : (own_fn nn k0 k1 k2 k3 key) = (1 : Int32) := by simp [own_fn, hc1, hc20, hc21, hc22, hc23, hc24, hc25, hc26, hc27]
                      rw [q0] at kg
                      exact kg
                    · refine XS.icmpYes X0.here hx rfl (pc0 := 498) (pc' := 505) rfl (hb hby at_498) rfl (feq hc27).2 (by decide) (by decide) ?_
                      show Steps p.tables e below (s₁.setTop (mkF m 505 #[.val (.int x0), .val (.int x1), .val (.int x2), .val (.int x3), .val (.int x4), .val (.int (0 : Int32)), .val (.int nn), .val (.int lo), .val (.int hi), .val (.int k1), .val (.int k0), .val (.int k1), .val (.int k2), .val (.int k3), .val (.int sel), .val (.int key), .val (.int ((((own_lt (0 : Int32) nn k0 key) + (own_lt (1 : Int32) nn k1 key)) + (own_lt (2 : Int32) nn k2 key)) + (own_lt (3 : Int32) nn k3 key))), .val (.int span), .unset, .unset, .unset] [])) _
                      refine XS.iconst X0.here hx rfl (hb hby at_505) ?_
                      show Steps p.tables e below (s₁.setTop (mkF m 506 #[.val (.int x0), .val (.int x1), .val (.int x2), .val (.int x3), .val (.int x4), .val (.int (0 : Int32)), .val (.int nn), .val (.int lo), .val (.int hi), .val (.int k1), .val (.int k0), .val (.int k1), .val (.int k2), .val (.int k3), .val (.int sel), .val (.int key), .val (.int ((((own_lt (0 : Int32) nn k0 key) + (own_lt (1 : Int32) nn k1 key)) + (own_lt (2 : Int32) nn k2 key)) + (own_lt (3 : Int32) nn k3 key))), .val (.int span), .unset, .unset, .unset] [(.int (0 : Int32))])) _
                      have q0 : (own_fn nn k0 k1 k2 k3 key) = (0 : Int32) := by simp [own_fn, hc1, hc20, hc21, hc22, hc23, hc24, hc25, hc26, hc27]
                      rw [q0] at kg
                      exact kg
                  · refine XS.icmpYes X0.here hx rfl (pc0 := 491) (pc' := 505) rfl (hb hby at_491) rfl (flt hc26).2.2.2 (by decide) (by decide) ?_
                    show Steps p.tables e below (s₁.setTop (mkF m 505 #[.val (.int x0), .val (.int x1), .val (.int x2), .val (.int x3), .val (.int x4), .val (.int (0 : Int32)), .val (.int nn), .val (.int lo), .val (.int hi), .val (.int k1), .val (.int k0), .val (.int k1), .val (.int k2), .val (.int k3), .val (.int sel), .val (.int key), .val (.int ((((own_lt (0 : Int32) nn k0 key) + (own_lt (1 : Int32) nn k1 key)) + (own_lt (2 : Int32) nn k2 key)) + (own_lt (3 : Int32) nn k3 key))), .val (.int span), .unset, .unset, .unset] [])) _
                    refine XS.iconst X0.here hx rfl (hb hby at_505) ?_
                    show Steps p.tables e below (s₁.setTop (mkF m 506 #[.val (.int x0), .val (.int x1), .val (.int x2), .val (.int x3), .val (.int x4), .val (.int (0 : Int32)), .val (.int nn), .val (.int lo), .val (.int hi), .val (.int k1), .val (.int k0), .val (.int k1), .val (.int k2), .val (.int k3), .val (.int sel), .val (.int key), .val (.int ((((own_lt (0 : Int32) nn k0 key) + (own_lt (1 : Int32) nn k1 key)) + (own_lt (2 : Int32) nn k2 key)) + (own_lt (3 : Int32) nn k3 key))), .val (.int span), .unset, .unset, .unset] [(.int (0 : Int32))])) _
                    have q0 : (own_fn nn k0 k1 k2 k3 key) = (0 : Int32) := by simp [own_fn, hc1, hc20, hc21, hc22, hc23, hc24, hc25, hc26]
                    rw [q0] at kg
                    exact kg
              · refine XS.icmpYes X0.here hx rfl (pc0 := 478) (pc' := 488) rfl (hb hby at_478) rfl (flt hc24).2.2.2 (by decide) (by decide) ?_
                show Steps p.tables e below (s₁.setTop (mkF m 488 #[.val (.int x0), .val (.int x1), .val (.int x2), .val (.int x3), .val (.int x4), .val (.int (0 : Int32)), .val (.int nn), .val (.int lo), .val (.int hi), .val (.int k1), .val (.int k0), .val (.int k1), .val (.int k2), .val (.int k3), .val (.int sel), .val (.int key), .val (.int ((((own_lt (0 : Int32) nn k0 key) + (own_lt (1 : Int32) nn k1 key)) + (own_lt (2 : Int32) nn k2 key)) + (own_lt (3 : Int32) nn k3 key))), .val (.int span), .unset, .unset, .unset] [])) _
                refine XS.iload X0.here hx rfl (hb hby at_488) rfl ?_
                show Steps p.tables e below (s₁.setTop (mkF m 490 #[.val (.int x0), .val (.int x1), .val (.int x2), .val (.int x3), .val (.int x4), .val (.int (0 : Int32)), .val (.int nn), .val (.int lo), .val (.int hi), .val (.int k1), .val (.int k0), .val (.int k1), .val (.int k2), .val (.int k3), .val (.int sel), .val (.int key), .val (.int ((((own_lt (0 : Int32) nn k0 key) + (own_lt (1 : Int32) nn k1 key)) + (own_lt (2 : Int32) nn k2 key)) + (own_lt (3 : Int32) nn k3 key))), .val (.int span), .unset, .unset, .unset] [(.int nn)])) _
                refine XS.iconst X0.here hx rfl (hb hby at_490) ?_
                show Steps p.tables e below (s₁.setTop (mkF m 491 #[.val (.int x0), .val (.int x1), .val (.int x2), .val (.int x3), .val (.int x4), .val (.int (0 : Int32)), .val (.int nn), .val (.int lo), .val (.int hi), .val (.int k1), .val (.int k0), .val (.int k1), .val (.int k2), .val (.int k3), .val (.int sel), .val (.int key), .val (.int ((((own_lt (0 : Int32) nn k0 key) + (own_lt (1 : Int32) nn k1 key)) + (own_lt (2 : Int32) nn k2 key)) + (own_lt (3 : Int32) nn k3 key))), .val (.int span), .unset, .unset, .unset] [(.int (3 : Int32)), (.int nn)])) _
                by_cases hc28 : (3 : Int32) < nn
                · refine XS.icmpNo X0.here hx rfl (hb hby at_491) rfl (tlt hc28).2.2.2 ?_
                  show Steps p.tables e below (s₁.setTop (mkF m 494 #[.val (.int x0), .val (.int x1), .val (.int x2), .val (.int x3), .val (.int x4), .val (.int (0 : Int32)), .val (.int nn), .val (.int lo), .val (.int hi), .val (.int k1), .val (.int k0), .val (.int k1), .val (.int k2), .val (.int k3), .val (.int sel), .val (.int key), .val (.int ((((own_lt (0 : Int32) nn k0 key) + (own_lt (1 : Int32) nn k1 key)) + (own_lt (2 : Int32) nn k2 key)) + (own_lt (3 : Int32) nn k3 key))), .val (.int span), .unset, .unset, .unset] [])) _
                  refine XS.iload X0.here hx rfl (hb hby at_494) rfl ?_
                  show Steps p.tables e below (s₁.setTop (mkF m 496 #[.val (.int x0), .val (.int x1), .val (.int x2), .val (.int x3), .val (.int x4), .val (.int (0 : Int32)), .val (.int nn), .val (.int lo), .val (.int hi), .val (.int k1), .val (.int k0), .val (.int k1), .val (.int k2), .val (.int k3), .val (.int sel), .val (.int key), .val (.int ((((own_lt (0 : Int32) nn k0 key) + (own_lt (1 : Int32) nn k1 key)) + (own_lt (2 : Int32) nn k2 key)) + (own_lt (3 : Int32) nn k3 key))), .val (.int span), .unset, .unset, .unset] [(.int k3)])) _
                  refine XS.iload X0.here hx rfl (hb hby at_496) rfl ?_
                  show Steps p.tables e below (s₁.setTop (mkF m 498 #[.val (.int x0), .val (.int x1), .val (.int x2), .val (.int x3), .val (.int x4), .val (.int (0 : Int32)), .val (.int nn), .val (.int lo), .val (.int hi), .val (.int k1), .val (.int k0), .val (.int k1), .val (.int k2), .val (.int k3), .val (.int sel), .val (.int key), .val (.int ((((own_lt (0 : Int32) nn k0 key) + (own_lt (1 : Int32) nn k1 key)) + (own_lt (2 : Int32) nn k2 key)) + (own_lt (3 : Int32) nn k3 key))), .val (.int span), .unset, .unset, .unset] [(.int key), (.int k3)])) _
                  by_cases hc29 : k3 = key
                  · refine XS.icmpNo X0.here hx rfl (hb hby at_498) rfl (teq hc29).2 ?_
                    show Steps p.tables e below (s₁.setTop (mkF m 501 #[.val (.int x0), .val (.int x1), .val (.int x2), .val (.int x3), .val (.int x4), .val (.int (0 : Int32)), .val (.int nn), .val (.int lo), .val (.int hi), .val (.int k1), .val (.int k0), .val (.int k1), .val (.int k2), .val (.int k3), .val (.int sel), .val (.int key), .val (.int ((((own_lt (0 : Int32) nn k0 key) + (own_lt (1 : Int32) nn k1 key)) + (own_lt (2 : Int32) nn k2 key)) + (own_lt (3 : Int32) nn k3 key))), .val (.int span), .unset, .unset, .unset] [])) _
                    refine XS.iconst X0.here hx rfl (hb hby at_501) ?_
                    show Steps p.tables e below (s₁.setTop (mkF m 502 #[.val (.int x0), .val (.int x1), .val (.int x2), .val (.int x3), .val (.int x4), .val (.int (0 : Int32)), .val (.int nn), .val (.int lo), .val (.int hi), .val (.int k1), .val (.int k0), .val (.int k1), .val (.int k2), .val (.int k3), .val (.int sel), .val (.int key), .val (.int ((((own_lt (0 : Int32) nn k0 key) + (own_lt (1 : Int32) nn k1 key)) + (own_lt (2 : Int32) nn k2 key)) + (own_lt (3 : Int32) nn k3 key))), .val (.int span), .unset, .unset, .unset] [(.int (1 : Int32))])) _
                    refine XS.goto X0.here hx rfl (pc0 := 502) (pc' := 506) rfl (hb hby at_502) (by decide) (by decide) ?_
                    show Steps p.tables e below (s₁.setTop (mkF m 506 #[.val (.int x0), .val (.int x1), .val (.int x2), .val (.int x3), .val (.int x4), .val (.int (0 : Int32)), .val (.int nn), .val (.int lo), .val (.int hi), .val (.int k1), .val (.int k0), .val (.int k1), .val (.int k2), .val (.int k3), .val (.int sel), .val (.int key), .val (.int ((((own_lt (0 : Int32) nn k0 key) + (own_lt (1 : Int32) nn k1 key)) + (own_lt (2 : Int32) nn k2 key)) + (own_lt (3 : Int32) nn k3 key))), .val (.int span), .unset, .unset, .unset] [(.int (1 : Int32))])) _
                    have q0 : (own_fn nn k0 k1 k2 k3 key) = (1 : Int32) := by simp [own_fn, hc1, hc20, hc21, hc22, hc23, hc24, hc28, hc29]
                    rw [q0] at kg
                    exact kg
                  · refine XS.icmpYes X0.here hx rfl (pc0 := 498) (pc' := 505) rfl (hb hby at_498) rfl (feq hc29).2 (by decide) (by decide) ?_
                    show Steps p.tables e below (s₁.setTop (mkF m 505 #[.val (.int x0), .val (.int x1), .val (.int x2), .val (.int x3), .val (.int x4), .val (.int (0 : Int32)), .val (.int nn), .val (.int lo), .val (.int hi), .val (.int k1), .val (.int k0), .val (.int k1), .val (.int k2), .val (.int k3), .val (.int sel), .val (.int key), .val (.int ((((own_lt (0 : Int32) nn k0 key) + (own_lt (1 : Int32) nn k1 key)) + (own_lt (2 : Int32) nn k2 key)) + (own_lt (3 : Int32) nn k3 key))), .val (.int span), .unset, .unset, .unset] [])) _
                    refine XS.iconst X0.here hx rfl (hb hby at_505) ?_
                    show Steps p.tables e below (s₁.setTop (mkF m 506 #[.val (.int x0), .val (.int x1), .val (.int x2), .val (.int x3), .val (.int x4), .val (.int (0 : Int32)), .val (.int nn), .val (.int lo), .val (.int hi), .val (.int k1), .val (.int k0), .val (.int k1), .val (.int k2), .val (.int k3), .val (.int sel), .val (.int key), .val (.int ((((own_lt (0 : Int32) nn k0 key) + (own_lt (1 : Int32) nn k1 key)) + (own_lt (2 : Int32) nn k2 key)) + (own_lt (3 : Int32) nn k3 key))), .val (.int span), .unset, .unset, .unset] [(.int (0 : Int32))])) _
                    have q0 : (own_fn nn k0 k1 k2 k3 key) = (0 : Int32) := by simp [own_fn, hc1, hc20, hc21, hc22, hc23, hc24, hc28, hc29]
                    rw [q0] at kg
                    exact kg
                · refine XS.icmpYes X0.here hx rfl (pc0 := 491) (pc' := 505) rfl (hb hby at_491) rfl (flt hc28).2.2.2 (by decide) (by decide) ?_
                  show Steps p.tables e below (s₁.setTop (mkF m 505 #[.val (.int x0), .val (.int x1), .val (.int x2), .val (.int x3), .val (.int x4), .val (.int (0 : Int32)), .val (.int nn), .val (.int lo), .val (.int hi), .val (.int k1), .val (.int k0), .val (.int k1), .val (.int k2), .val (.int k3), .val (.int sel), .val (.int key), .val (.int ((((own_lt (0 : Int32) nn k0 key) + (own_lt (1 : Int32) nn k1 key)) + (own_lt (2 : Int32) nn k2 key)) + (own_lt (3 : Int32) nn k3 key))), .val (.int span), .unset, .unset, .unset] [])) _
                  refine XS.iconst X0.here hx rfl (hb hby at_505) ?_
                  show Steps p.tables e below (s₁.setTop (mkF m 506 #[.val (.int x0), .val (.int x1), .val (.int x2), .val (.int x3), .val (.int x4), .val (.int (0 : Int32)), .val (.int nn), .val (.int lo), .val (.int hi), .val (.int k1), .val (.int k0), .val (.int k1), .val (.int k2), .val (.int k3), .val (.int sel), .val (.int key), .val (.int ((((own_lt (0 : Int32) nn k0 key) + (own_lt (1 : Int32) nn k1 key)) + (own_lt (2 : Int32) nn k2 key)) + (own_lt (3 : Int32) nn k3 key))), .val (.int span), .unset, .unset, .unset] [(.int (0 : Int32))])) _
                  have q0 : (own_fn nn k0 k1 k2 k3 key) = (0 : Int32) := by simp [own_fn, hc1, hc20, hc21, hc22, hc23, hc24, hc28]
                  rw [q0] at kg
                  exact kg
          · refine XS.icmpYes X0.here hx rfl (pc0 := 465) (pc' := 475) rfl (hb hby at_465) rfl (flt hc22).2.2.2 (by decide) (by decide) ?_
            show Steps p.tables e below (s₁.setTop (mkF m 475 #[.val (.int x0), .val (.int x1), .val (.int x2), .val (.int x3), .val (.int x4), .val (.int (0 : Int32)), .val (.int nn), .val (.int lo), .val (.int hi), .val (.int k1), .val (.int k0), .val (.int k1), .val (.int k2), .val (.int k3), .val (.int sel), .val (.int key), .val (.int ((((own_lt (0 : Int32) nn k0 key) + (own_lt (1 : Int32) nn k1 key)) + (own_lt (2 : Int32) nn k2 key)) + (own_lt (3 : Int32) nn k3 key))), .val (.int span), .unset, .unset, .unset] [])) _
            refine XS.iload X0.here hx rfl (hb hby at_475) rfl ?_
            show Steps p.tables e below (s₁.setTop (mkF m 477 #[.val (.int x0), .val (.int x1), .val (.int x2), .val (.int x3), .val (.int x4), .val (.int (0 : Int32)), .val (.int nn), .val (.int lo), .val (.int hi), .val (.int k1), .val (.int k0), .val (.int k1), .val (.int k2), .val (.int k3), .val (.int sel), .val (.int key), .val (.int ((((own_lt (0 : Int32) nn k0 key) + (own_lt (1 : Int32) nn k1 key)) + (own_lt (2 : Int32) nn k2 key)) + (own_lt (3 : Int32) nn k3 key))), .val (.int span), .unset, .unset, .unset] [(.int nn)])) _
            refine XS.iconst X0.here hx rfl (hb hby at_477) ?_
            show Steps p.tables e below (s₁.setTop (mkF m 478 #[.val (.int x0), .val (.int x1), .val (.int x2), .val (.int x3), .val (.int x4), .val (.int (0 : Int32)), .val (.int nn), .val (.int lo), .val (.int hi), .val (.int k1), .val (.int k0), .val (.int k1), .val (.int k2), .val (.int k3), .val (.int sel), .val (.int key), .val (.int ((((own_lt (0 : Int32) nn k0 key) + (own_lt (1 : Int32) nn k1 key)) + (own_lt (2 : Int32) nn k2 key)) + (own_lt (3 : Int32) nn k3 key))), .val (.int span), .unset, .unset, .unset] [(.int (2 : Int32)), (.int nn)])) _
            by_cases hc30 : (2 : Int32) < nn
            · refine XS.icmpNo X0.here hx rfl (hb hby at_478) rfl (tlt hc30).2.2.2 ?_
              show Steps p.tables e below (s₁.setTop (mkF m 481 #[.val (.int x0), .val (.int x1), .val (.int x2), .val (.int x3), .val (.int x4), .val (.int (0 : Int32)), .val (.int nn), .val (.int lo), .val (.int hi), .val (.int k1), .val (.int k0), .val (.int k1), .val (.int k2), .val (.int k3), .val (.int sel), .val (.int key), .val (.int ((((own_lt (0 : Int32) nn k0 key) + (own_lt (1 : Int32) nn k1 key)) + (own_lt (2 : Int32) nn k2 key)) + (own_lt (3 : Int32) nn k3 key))), .val (.int span), .unset, .unset, .unset] [])) _
              refine XS.iload X0.here hx rfl (hb hby at_481) rfl ?_
              show Steps p.tables e below (s₁.setTop (mkF m 483 #[.val (.int x0), .val (.int x1), .val (.int x2), .val (.int x3), .val (.int x4), .val (.int (0 : Int32)), .val (.int nn), .val (.int lo), .val (.int hi), .val (.int k1), .val (.int k0), .val (.int k1), .val (.int k2), .val (.int k3), .val (.int sel), .val (.int key), .val (.int ((((own_lt (0 : Int32) nn k0 key) + (own_lt (1 : Int32) nn k1 key)) + (own_lt (2 : Int32) nn k2 key)) + (own_lt (3 : Int32) nn k3 key))), .val (.int span), .unset, .unset, .unset] [(.int k2)])) _
              refine XS.iload X0.here hx rfl (hb hby at_483) rfl ?_
              show Steps p.tables e below (s₁.setTop (mkF m 485 #[.val (.int x0), .val (.int x1), .val (.int x2), .val (.int x3), .val (.int x4), .val (.int (0 : Int32)), .val (.int nn), .val (.int lo), .val (.int hi), .val (.int k1), .val (.int k0), .val (.int k1), .val (.int k2), .val (.int k3), .val (.int sel), .val (.int key), .val (.int ((((own_lt (0 : Int32) nn k0 key) + (own_lt (1 : Int32) nn k1 key)) + (own_lt (2 : Int32) nn k2 key)) + (own_lt (3 : Int32) nn k3 key))), .val (.int span), .unset, .unset, .unset] [(.int key), (.int k2)])) _
              by_cases hc31 : k2 = key
              · refine XS.icmpYes X0.here hx rfl (pc0 := 485) (pc' := 501) rfl (hb hby at_485) rfl (teq hc31).1 (by decide) (by decide) ?_
                show Steps p.tables e below (s₁.setTop (mkF m 501 #[.val (.int x0), .val (.int x1), .val (.int x2), .val (.int x3), .val (.int x4), .val (.int (0 : Int32)), .val (.int nn), .val (.int lo), .val (.int hi), .val (.int k1), .val (.int k0), .val (.int k1), .val (.int k2), .val (.int k3), .val (.int sel), .val (.int key), .val (.int ((((own_lt (0 : Int32) nn k0 key) + (own_lt (1 : Int32) nn k1 key)) + (own_lt (2 : Int32) nn k2 key)) + (own_lt (3 : Int32) nn k3 key))), .val (.int span), .unset, .unset, .unset] [])) _
                refine XS.iconst X0.here hx rfl (hb hby at_501) ?_
                show Steps p.tables e below (s₁.setTop (mkF m 502 #[.val (.int x0), .val (.int x1), .val (.int x2), .val (.int x3), .val (.int x4), .val (.int (0 : Int32)), .val (.int nn), .val (.int lo), .val (.int hi), .val (.int k1), .val (.int k0), .val (.int k1), .val (.int k2), .val (.int k3), .val (.int sel), .val (.int key), .val (.int ((((own_lt (0 : Int32) nn k0 key) + (own_lt (1 : Int32) nn k1 key)) + (own_lt (2 : Int32) nn k2 key)) + (own_lt (3 : Int32) nn k3 key))), .val (.int span), .unset, .unset, .unset] [(.int (1 : Int32))])) _
                refine XS.goto X0.here hx rfl (pc0 := 502) (pc' := 506) rfl (hb hby at_502) (by decide) (by decide) ?_
                show Steps p.tables e below (s₁.setTop (mkF m 506 #[.val (.int x0), .val (.int x1), .val (.int x2), .val (.int x3), .val (.int x4), .val (.int (0 : Int32)), .val (.int nn), .val (.int lo), .val (.int hi), .val (.int k1), .val (.int k0), .val (.int k1), .val (.int k2), .val (.int k3), .val (.int sel), .val (.int key), .val (.int ((((own_lt (0 : Int32) nn k0 key) + (own_lt (1 : Int32) nn k1 key)) + (own_lt (2 : Int32) nn k2 key)) + (own_lt (3 : Int32) nn k3 key))), .val (.int span), .unset, .unset, .unset] [(.int (1 : Int32))])) _
                have q0 : (own_fn nn k0 k1 k2 k3 key) = (1 : Int32) := by simp [own_fn, hc1, hc20, hc21, hc22, hc30, hc31]
                rw [q0] at kg
                exact kg
              · refine XS.icmpNo X0.here hx rfl (hb hby at_485) rfl (feq hc31).1 ?_
                show Steps p.tables e below (s₁.setTop (mkF m 488 #[.val (.int x0), .val (.int x1), .val (.int x2), .val (.int x3), .val (.int x4), .val (.int (0 : Int32)), .val (.int nn), .val (.int lo), .val (.int hi), .val (.int k1), .val (.int k0), .val (.int k1), .val (.int k2), .val (.int k3), .val (.int sel), .val (.int key), .val (.int ((((own_lt (0 : Int32) nn k0 key) + (own_lt (1 : Int32) nn k1 key)) + (own_lt (2 : Int32) nn k2 key)) + (own_lt (3 : Int32) nn k3 key))), .val (.int span), .unset, .unset, .unset] [])) _
                refine XS.iload X0.here hx rfl (hb hby at_488) rfl ?_
                show Steps p.tables e below (s₁.setTop (mkF m 490 #[.val (.int x0), .val (.int x1), .val (.int x2), .val (.int x3), .val (.int x4), .val (.int (0 : Int32)), .val (.int nn), .val (.int lo), .val (.int hi), .val (.int k1), .val (.int k0), .val (.int k1), .val (.int k2), .val (.int k3), .val (.int sel), .val (.int key), .val (.int ((((own_lt (0 : Int32) nn k0 key) + (own_lt (1 : Int32) nn k1 key)) + (own_lt (2 : Int32) nn k2 key)) + (own_lt (3 : Int32) nn k3 key))), .val (.int span), .unset, .unset, .unset] [(.int nn)])) _
                refine XS.iconst X0.here hx rfl (hb hby at_490) ?_
                show Steps p.tables e below (s₁.setTop (mkF m 491 #[.val (.int x0), .val (.int x1), .val (.int x2), .val (.int x3), .val (.int x4), .val (.int (0 : Int32)), .val (.int nn), .val (.int lo), .val (.int hi), .val (.int k1), .val (.int k0), .val (.int k1), .val (.int k2), .val (.int k3), .val (.int sel), .val (.int key), .val (.int ((((own_lt (0 : Int32) nn k0 key) + (own_lt (1 : Int32) nn k1 key)) + (own_lt (2 : Int32) nn k2 key)) + (own_lt (3 : Int32) nn k3 key))), .val (.int span), .unset, .unset, .unset] [(.int (3 : Int32)), (.int nn)])) _
                by_cases hc32 : (3 : Int32) < nn
                · refine XS.icmpNo X0.here hx rfl (hb hby at_491) rfl (tlt hc32).2.2.2 ?_
                  show Steps p.tables e below (s₁.setTop (mkF m 494 #[.val (.int x0), .val (.int x1), .val (.int x2), .val (.int x3), .val (.int x4), .val (.int (0 : Int32)), .val (.int nn), .val (.int lo), .val (.int hi), .val (.int k1), .val (.int k0), .val (.int k1), .val (.int k2), .val (.int k3), .val (.int sel), .val (.int key), .val (.int ((((own_lt (0 : Int32) nn k0 key) + (own_lt (1 : Int32) nn k1 key)) + (own_lt (2 : Int32) nn k2 key)) + (own_lt (3 : Int32) nn k3 key))), .val (.int span), .unset, .unset, .unset] [])) _
                  refine XS.iload X0.here hx rfl (hb hby at_494) rfl ?_
                  show Steps p.tables e below (s₁.setTop (mkF m 496 #[.val (.int x0), .val (.int x1), .val (.int x2), .val (.int x3), .val (.int x4), .val (.int (0 : Int32)), .val (.int nn), .val (.int lo), .val (.int hi), .val (.int k1), .val (.int k0), .val (.int k1), .val (.int k2), .val (.int k3), .val (.int sel), .val (.int key), .val (.int ((((own_lt (0 : Int32) nn k0 key) + (own_lt (1 : Int32) nn k1 key)) + (own_lt (2 : Int32) nn k2 key)) + (own_lt (3 : Int32) nn k3 key))), .val (.int span), .unset, .unset, .unset] [(.int k3)])) _
                  refine XS.iload X0.here hx rfl (hb hby at_496) rfl ?_
                  show Steps p.tables e below (s₁.setTop (mkF m 498 #[.val (.int x0), .val (.int x1), .val (.int x2), .val (.int x3), .val (.int x4), .val (.int (0 : Int32)), .val (.int nn), .val (.int lo), .val (.int hi), .val (.int k1), .val (.int k0), .val (.int k1), .val (.int k2), .val (.int k3), .val (.int sel), .val (.int key), .val (.int ((((own_lt (0 : Int32) nn k0 key) + (own_lt (1 : Int32) nn k1 key)) + (own_lt (2 : Int32) nn k2 key)) + (own_lt (3 : Int32) nn k3 key))), .val (.int span), .unset, .unset, .unset] [(.int key), (.int k3)])) _
                  by_cases hc33 : k3 = key
                  · refine XS.icmpNo X0.here hx rfl (hb hby at_498) rfl (teq hc33).2 ?_
                    show Steps p.tables e below (s₁.setTop (mkF m 501 #[.val (.int x0), .val (.int x1), .val (.int x2), .val (.int x3), .val (.int x4), .val (.int (0 : Int32)), .val (.int nn), .val (.int lo), .val (.int hi), .val (.int k1), .val (.int k0), .val (.int k1), .val (.int k2), .val (.int k3), .val (.int sel), .val (.int key), .val (.int ((((own_lt (0 : Int32) nn k0 key) + (own_lt (1 : Int32) nn k1 key)) + (own_lt (2 : Int32) nn k2 key)) + (own_lt (3 : Int32) nn k3 key))), .val (.int span), .unset, .unset, .unset] [])) _
                    refine XS.iconst X0.here hx rfl (hb hby at_501) ?_
                    show Steps p.tables e below (s₁.setTop (mkF m 502 #[.val (.int x0), .val (.int x1), .val (.int x2), .val (.int x3), .val (.int x4), .val (.int (0 : Int32)), .val (.int nn), .val (.int lo), .val (.int hi), .val (.int k1), .val (.int k0), .val (.int k1), .val (.int k2), .val (.int k3), .val (.int sel), .val (.int key), .val (.int ((((own_lt (0 : Int32) nn k0 key) + (own_lt (1 : Int32) nn k1 key)) + (own_lt (2 : Int32) nn k2 key)) + (own_lt (3 : Int32) nn k3 key))), .val (.int span), .unset, .unset, .unset] [(.int (1 : Int32))])) _
                    refine XS.goto X0.here hx rfl (pc0 := 502) (pc' := 506) rfl (hb hby at_502) (by decide) (by decide) ?_
                    show Steps p.tables e below (s₁.setTop (mkF m 506 #[.val (.int x0), .val (.int x1), .val (.int x2), .val (.int x3), .val (.int x4), .val (.int (0 : Int32)), .val (.int nn), .val (.int lo), .val (.int hi), .val (.int k1), .val (.int k0), .val (.int k1), .val (.int k2), .val (.int k3), .val (.int sel), .val (.int key), .val (.int ((((own_lt (0 : Int32) nn k0 key) + (own_lt (1 : Int32) nn k1 key)) + (own_lt (2 : Int32) nn k2 key)) + (own_lt (3 : Int32) nn k3 key))), .val (.int span), .unset, .unset, .unset] [(.int (1 : Int32))])) _
                    have q0 : (own_fn nn k0 k1 k2 k3 key) = (1 : Int32) := by simp [own_fn, hc1, hc20, hc21, hc22, hc30, hc31, hc32, hc33]
                    rw [q0] at kg
                    exact kg
                  · refine XS.icmpYes X0.here hx rfl (pc0 := 498) (pc' := 505) rfl (hb hby at_498) rfl (feq hc33).2 (by decide) (by decide) ?_
                    show Steps p.tables e below (s₁.setTop (mkF m 505 #[.val (.int x0), .val (.int x1), .val (.int x2), .val (.int x3), .val (.int x4), .val (.int (0 : Int32)), .val (.int nn), .val (.int lo), .val (.int hi), .val (.int k1), .val (.int k0), .val (.int k1), .val (.int k2), .val (.int k3), .val (.int sel), .val (.int key), .val (.int ((((own_lt (0 : Int32) nn k0 key) + (own_lt (1 : Int32) nn k1 key)) + (own_lt (2 : Int32) nn k2 key)) + (own_lt (3 : Int32) nn k3 key))), .val (.int span), .unset, .unset, .unset] [])) _
                    refine XS.iconst X0.here hx rfl (hb hby at_505) ?_
                    show Steps p.tables e below (s₁.setTop (mkF m 506 #[.val (.int x0), .val (.int x1), .val (.int x2), .val (.int x3), .val (.int x4), .val (.int (0 : Int32)), .val (.int nn), .val (.int lo), .val (.int hi), .val (.int k1), .val (.int k0), .val (.int k1), .val (.int k2), .val (.int k3), .val (.int sel), .val (.int key), .val (.int ((((own_lt (0 : Int32) nn k0 key) + (own_lt (1 : Int32) nn k1 key)) + (own_lt (2 : Int32) nn k2 key)) + (own_lt (3 : Int32) nn k3 key))), .val (.int span), .unset, .unset, .unset] [(.int (0 : Int32))])) _
                    have q0 : (own_fn nn k0 k1 k2 k3 key) = (0 : Int32) := by simp [own_fn, hc1, hc20, hc21, hc22, hc30, hc31, hc32, hc33]
                    rw [q0] at kg
                    exact kg
                · refine XS.icmpYes X0.here hx rfl (pc0 := 491) (pc' := 505) rfl (hb hby at_491) rfl (flt hc32).2.2.2 (by decide) (by decide) ?_
                  show Steps p.tables e below (s₁.setTop (mkF m 505 #[.val (.int x0), .val (.int x1), .val (.int x2), .val (.int x3), .val (.int x4), .val (.int (0 : Int32)), .val (.int nn), .val (.int lo), .val (.int hi), .val (.int k1), .val (.int k0), .val (.int k1), .val (.int k2), .val (.int k3), .val (.int sel), .val (.int key), .val (.int ((((own_lt (0 : Int32) nn k0 key) + (own_lt (1 : Int32) nn k1 key)) + (own_lt (2 : Int32) nn k2 key)) + (own_lt (3 : Int32) nn k3 key))), .val (.int span), .unset, .unset, .unset] [])) _
                  refine XS.iconst X0.here hx rfl (hb hby at_505) ?_
                  show Steps p.tables e below (s₁.setTop (mkF m 506 #[.val (.int x0), .val (.int x1), .val (.int x2), .val (.int x3), .val (.int x4), .val (.int (0 : Int32)), .val (.int nn), .val (.int lo), .val (.int hi), .val (.int k1), .val (.int k0), .val (.int k1), .val (.int k2), .val (.int k3), .val (.int sel), .val (.int key), .val (.int ((((own_lt (0 : Int32) nn k0 key) + (own_lt (1 : Int32) nn k1 key)) + (own_lt (2 : Int32) nn k2 key)) + (own_lt (3 : Int32) nn k3 key))), .val (.int span), .unset, .unset, .unset] [(.int (0 : Int32))])) _
                  have q0 : (own_fn nn k0 k1 k2 k3 key) = (0 : Int32) := by simp [own_fn, hc1, hc20, hc21, hc22, hc30, hc31, hc32]
                  rw [q0] at kg
                  exact kg
            · refine XS.icmpYes X0.here hx rfl (pc0 := 478) (pc' := 488) rfl (hb hby at_478) rfl (flt hc30).2.2.2 (by decide) (by decide) ?_
              show Steps p.tables e below (s₁.setTop (mkF m 488 #[.val (.int x0), .val (.int x1), .val (.int x2), .val (.int x3), .val (.int x4), .val (.int (0 : Int32)), .val (.int nn), .val (.int lo), .val (.int hi), .val (.int k1), .val (.int k0), .val (.int k1), .val (.int k2), .val (.int k3), .val (.int sel), .val (.int key), .val (.int ((((own_lt (0 : Int32) nn k0 key) + (own_lt (1 : Int32) nn k1 key)) + (own_lt (2 : Int32) nn k2 key)) + (own_lt (3 : Int32) nn k3 key))), .val (.int span), .unset, .unset, .unset] [])) _
              refine XS.iload X0.here hx rfl (hb hby at_488) rfl ?_
              show Steps p.tables e below (s₁.setTop (mkF m 490 #[.val (.int x0), .val (.int x1), .val (.int x2), .val (.int x3), .val (.int x4), .val (.int (0 : Int32)), .val (.int nn), .val (.int lo), .val (.int hi), .val (.int k1), .val (.int k0), .val (.int k1), .val (.int k2), .val (.int k3), .val (.int sel), .val (.int key), .val (.int ((((own_lt (0 : Int32) nn k0 key) + (own_lt (1 : Int32) nn k1 key)) + (own_lt (2 : Int32) nn k2 key)) + (own_lt (3 : Int32) nn k3 key))), .val (.int span), .unset, .unset, .unset] [(.int nn)])) _
              refine XS.iconst X0.here hx rfl (hb hby at_490) ?_
              show Steps p.tables e below (s₁.setTop (mkF m 491 #[.val (.int x0), .val (.int x1), .val (.int x2), .val (.int x3), .val (.int x4), .val (.int (0 : Int32)), .val (.int nn), .val (.int lo), .val (.int hi), .val (.int k1), .val (.int k0), .val (.int k1), .val (.int k2), .val (.int k3), .val (.int sel), .val (.int key), .val (.int ((((own_lt (0 : Int32) nn k0 key) + (own_lt (1 : Int32) nn k1 key)) + (own_lt (2 : Int32) nn k2 key)) + (own_lt (3 : Int32) nn k3 key))), .val (.int span), .unset, .unset, .unset] [(.int (3 : Int32)), (.int nn)])) _
              by_cases hc34 : (3 : Int32) < nn
              · refine XS.icmpNo X0.here hx rfl (hb hby at_491) rfl (tlt hc34).2.2.2 ?_
                show Steps p.tables e below (s₁.setTop (mkF m 494 #[.val (.int x0), .val (.int x1), .val (.int x2), .val (.int x3), .val (.int x4), .val (.int (0 : Int32)), .val (.int nn), .val (.int lo), .val (.int hi), .val (.int k1), .val (.int k0), .val (.int k1), .val (.int k2), .val (.int k3), .val (.int sel), .val (.int key), .val (.int ((((own_lt (0 : Int32) nn k0 key) + (own_lt (1 : Int32) nn k1 key)) + (own_lt (2 : Int32) nn k2 key)) + (own_lt (3 : Int32) nn k3 key))), .val (.int span), .unset, .unset, .unset] [])) _
                refine XS.iload X0.here hx rfl (hb hby at_494) rfl ?_
                show Steps p.tables e below (s₁.setTop (mkF m 496 #[.val (.int x0), .val (.int x1), .val (.int x2), .val (.int x3), .val (.int x4), .val (.int (0 : Int32)), .val (.int nn), .val (.int lo), .val (.int hi), .val (.int k1), .val (.int k0), .val (.int k1), .val (.int k2), .val (.int k3), .val (.int sel), .val (.int key), .val (.int ((((own_lt (0 : Int32) nn k0 key) + (own_lt (1 : Int32) nn k1 key)) + (own_lt (2 : Int32) nn k2 key)) + (own_lt (3 : Int32) nn k3 key))), .val (.int span), .unset, .unset, .unset] [(.int k3)])) _
                refine XS.iload X0.here hx rfl (hb hby at_496) rfl ?_
                show Steps p.tables e below (s₁.setTop (mkF m 498 #[.val (.int x0), .val (.int x1), .val (.int x2), .val (.int x3), .val (.int x4), .val (.int (0 : Int32)), .val (.int nn), .val (.int lo), .val (.int hi), .val (.int k1), .val (.int k0), .val (.int k1), .val (.int k2), .val (.int k3), .val (.int sel), .val (.int key), .val (.int ((((own_lt (0 : Int32) nn k0 key) + (own_lt (1 : Int32) nn k1 key)) + (own_lt (2 : Int32) nn k2 key)) + (own_lt (3 : Int32) nn k3 key))), .val (.int span), .unset, .unset, .unset] [(.int key), (.int k3)])) _
                by_cases hc35 : k3 = key
                · refine XS.icmpNo X0.here hx rfl (hb hby at_498) rfl (teq hc35).2 ?_
                  show Steps p.tables e below (s₁.setTop (mkF m 501 #[.val (.int x0), .val (.int x1), .val (.int x2), .val (.int x3), .val (.int x4), .val (.int (0 : Int32)), .val (.int nn), .val (.int lo), .val (.int hi), .val (.int k1), .val (.int k0), .val (.int k1), .val (.int k2), .val (.int k3), .val (.int sel), .val (.int key), .val (.int ((((own_lt (0 : Int32) nn k0 key) + (own_lt (1 : Int32) nn k1 key)) + (own_lt (2 : Int32) nn k2 key)) + (own_lt (3 : Int32) nn k3 key))), .val (.int span), .unset, .unset, .unset] [])) _
                  refine XS.iconst X0.here hx rfl (hb hby at_501) ?_
                  show Steps p.tables e below (s₁.setTop (mkF m 502 #[.val (.int x0), .val (.int x1), .val (.int x2), .val (.int x3), .val (.int x4), .val (.int (0 : Int32)), .val (.int nn), .val (.int lo), .val (.int hi), .val (.int k1), .val (.int k0), .val (.int k1), .val (.int k2), .val (.int k3), .val (.int sel), .val (.int key), .val (.int ((((own_lt (0 : Int32) nn k0 key) + (own_lt (1 : Int32) nn k1 key)) + (own_lt (2 : Int32) nn k2 key)) + (own_lt (3 : Int32) nn k3 key))), .val (.int span), .unset, .unset, .unset] [(.int (1 : Int32))])) _
                  refine XS.goto X0.here hx rfl (pc0 := 502) (pc' := 506) rfl (hb hby at_502) (by decide) (by decide) ?_
                  show Steps p.tables e below (s₁.setTop (mkF m 506 #[.val (.int x0), .val (.int x1), .val (.int x2), .val (.int x3), .val (.int x4), .val (.int (0 : Int32)), .val (.int nn), .val (.int lo), .val (.int hi), .val (.int k1), .val (.int k0), .val (.int k1), .val (.int k2), .val (.int k3), .val (.int sel), .val (.int key), .val (.int ((((own_lt (0 : Int32) nn k0 key) + (own_lt (1 : Int32) nn k1 key)) + (own_lt (2 : Int32) nn k2 key)) + (own_lt (3 : Int32) nn k3 key))), .val (.int span), .unset, .unset, .unset] [(.int (1 : Int32))])) _
                  have q0 : (own_fn nn k0 k1 k2 k3 key) = (1 : Int32) := by simp [own_fn, hc1, hc20, hc21, hc22, hc30, hc34, hc35]
                  rw [q0] at kg
                  exact kg
                · refine XS.icmpYes X0.here hx rfl (pc0 := 498) (pc' := 505) rfl (hb hby at_498) rfl (feq hc35).2 (by decide) (by decide) ?_
                  show Steps p.tables e below (s₁.setTop (mkF m 505 #[.val (.int x0), .val (.int x1), .val (.int x2), .val (.int x3), .val (.int x4), .val (.int (0 : Int32)), .val (.int nn), .val (.int lo), .val (.int hi), .val (.int k1), .val (.int k0), .val (.int k1), .val (.int k2), .val (.int k3), .val (.int sel), .val (.int key), .val (.int ((((own_lt (0 : Int32) nn k0 key) + (own_lt (1 : Int32) nn k1 key)) + (own_lt (2 : Int32) nn k2 key)) + (own_lt (3 : Int32) nn k3 key))), .val (.int span), .unset, .unset, .unset] [])) _
                  refine XS.iconst X0.here hx rfl (hb hby at_505) ?_
                  show Steps p.tables e below (s₁.setTop (mkF m 506 #[.val (.int x0), .val (.int x1), .val (.int x2), .val (.int x3), .val (.int x4), .val (.int (0 : Int32)), .val (.int nn), .val (.int lo), .val (.int hi), .val (.int k1), .val (.int k0), .val (.int k1), .val (.int k2), .val (.int k3), .val (.int sel), .val (.int key), .val (.int ((((own_lt (0 : Int32) nn k0 key) + (own_lt (1 : Int32) nn k1 key)) + (own_lt (2 : Int32) nn k2 key)) + (own_lt (3 : Int32) nn k3 key))), .val (.int span), .unset, .unset, .unset] [(.int (0 : Int32))])) _
                  have q0 : (own_fn nn k0 k1 k2 k3 key) = (0 : Int32) := by simp [own_fn, hc1, hc20, hc21, hc22, hc30, hc34, hc35]
                  rw [q0] at kg
                  exact kg
              · refine XS.icmpYes X0.here hx rfl (pc0 := 491) (pc' := 505) rfl (hb hby at_491) rfl (flt hc34).2.2.2 (by decide) (by decide) ?_
                show Steps p.tables e below (s₁.setTop (mkF m 505 #[.val (.int x0), .val (.int x1), .val (.int x2), .val (.int x3), .val (.int x4), .val (.int (0 : Int32)), .val (.int nn), .val (.int lo), .val (.int hi), .val (.int k1), .val (.int k0), .val (.int k1), .val (.int k2), .val (.int k3), .val (.int sel), .val (.int key), .val (.int ((((own_lt (0 : Int32) nn k0 key) + (own_lt (1 : Int32) nn k1 key)) + (own_lt (2 : Int32) nn k2 key)) + (own_lt (3 : Int32) nn k3 key))), .val (.int span), .unset, .unset, .unset] [])) _
                refine XS.iconst X0.here hx rfl (hb hby at_505) ?_
                show Steps p.tables e below (s₁.setTop (mkF m 506 #[.val (.int x0), .val (.int x1), .val (.int x2), .val (.int x3), .val (.int x4), .val (.int (0 : Int32)), .val (.int nn), .val (.int lo), .val (.int hi), .val (.int k1), .val (.int k0), .val (.int k1), .val (.int k2), .val (.int k3), .val (.int sel), .val (.int key), .val (.int ((((own_lt (0 : Int32) nn k0 key) + (own_lt (1 : Int32) nn k1 key)) + (own_lt (2 : Int32) nn k2 key)) + (own_lt (3 : Int32) nn k3 key))), .val (.int span), .unset, .unset, .unset] [(.int (0 : Int32))])) _
                have q0 : (own_fn nn k0 k1 k2 k3 key) = (0 : Int32) := by simp [own_fn, hc1, hc20, hc21, hc22, hc30, hc34]
                rw [q0] at kg
                exact kg
      · refine XS.ifYes X0.here hx rfl (pc0 := 452) (pc' := 462) rfl (hb hby at_452) rfl ((if0 _ _).trans (flt hc20).2.2.2) (by decide) (by decide) ?_
        show Steps p.tables e below (s₁.setTop (mkF m 462 #[.val (.int x0), .val (.int x1), .val (.int x2), .val (.int x3), .val (.int x4), .val (.int (0 : Int32)), .val (.int nn), .val (.int lo), .val (.int hi), .val (.int k1), .val (.int k0), .val (.int k1), .val (.int k2), .val (.int k3), .val (.int sel), .val (.int key), .val (.int ((((own_lt (0 : Int32) nn k0 key) + (own_lt (1 : Int32) nn k1 key)) + (own_lt (2 : Int32) nn k2 key)) + (own_lt (3 : Int32) nn k3 key))), .val (.int span), .unset, .unset, .unset] [])) _
        refine XS.iload X0.here hx rfl (hb hby at_462) rfl ?_
        show Steps p.tables e below (s₁.setTop (mkF m 464 #[.val (.int x0), .val (.int x1), .val (.int x2), .val (.int x3), .val (.int x4), .val (.int (0 : Int32)), .val (.int nn), .val (.int lo), .val (.int hi), .val (.int k1), .val (.int k0), .val (.int k1), .val (.int k2), .val (.int k3), .val (.int sel), .val (.int key), .val (.int ((((own_lt (0 : Int32) nn k0 key) + (own_lt (1 : Int32) nn k1 key)) + (own_lt (2 : Int32) nn k2 key)) + (own_lt (3 : Int32) nn k3 key))), .val (.int span), .unset, .unset, .unset] [(.int nn)])) _
        refine XS.iconst X0.here hx rfl (hb hby at_464) ?_
        show Steps p.tables e below (s₁.setTop (mkF m 465 #[.val (.int x0), .val (.int x1), .val (.int x2), .val (.int x3), .val (.int x4), .val (.int (0 : Int32)), .val (.int nn), .val (.int lo), .val (.int hi), .val (.int k1), .val (.int k0), .val (.int k1), .val (.int k2), .val (.int k3), .val (.int sel), .val (.int key), .val (.int ((((own_lt (0 : Int32) nn k0 key) + (own_lt (1 : Int32) nn k1 key)) + (own_lt (2 : Int32) nn k2 key)) + (own_lt (3 : Int32) nn k3 key))), .val (.int span), .unset, .unset, .unset] [(.int (1 : Int32)), (.int nn)])) _
        by_cases hc36 : (1 : Int32) < nn
        · refine XS.icmpNo X0.here hx rfl (hb hby at_465) rfl (tlt hc36).2.2.2 ?_
          show Steps p.tables e below (s₁.setTop (mkF m 468 #[.val (.int x0), .val (.int x1), .val (.int x2), .val (.int x3), .val (.int x4), .val (.int (0 : Int32)), .val (.int nn), .val (.int lo), .val (.int hi), .val (.int k1), .val (.int k0), .val (.int k1), .val (.int k2), .val (.int k3), .val (.int sel), .val (.int key), .val (.int ((((own_lt (0 : Int32) nn k0 key) + (own_lt (1 : Int32) nn k1 key)) + (own_lt (2 : Int32) nn k2 key)) + (own_lt (3 : Int32) nn k3 key))), .val (.int span), .unset, .unset, .unset] [])) _
          refine XS.iload X0.here hx rfl (hb hby at_468) rfl ?_
          show Steps p.tables e below (s₁.setTop (mkF m 470 #[.val (.int x0), .val (.int x1), .val (.int x2), .val (.int x3), .val (.int x4), .val (.int (0 : Int32)), .val (.int nn), .val (.int lo), .val (.int hi), .val (.int k1), .val (.int k0), .val (.int k1), .val (.int k2), .val (.int k3), .val (.int sel), .val (.int key), .val (.int ((((own_lt (0 : Int32) nn k0 key) + (own_lt (1 : Int32) nn k1 key)) + (own_lt (2 : Int32) nn k2 key)) + (own_lt (3 : Int32) nn k3 key))), .val (.int span), .unset, .unset, .unset] [(.int k1)])) _
          refine XS.iload X0.here hx rfl (hb hby at_470) rfl ?_
          show Steps p.tables e below (s₁.setTop (mkF m 472 #[.val (.int x0), .val (.int x1), .val (.int x2), .val (.int x3), .val (.int x4), .val (.int (0 : Int32)), .val (.int nn), .val (.int lo), .val (.int hi), .val (.int k1), .val (.int k0), .val (.int k1), .val (.int k2), .val (.int k3), .val (.int sel), .val (.int key), .val (.int ((((own_lt (0 : Int32) nn k0 key) + (own_lt (1 : Int32) nn k1 key)) + (own_lt (2 : Int32) nn k2 key)) + (own_lt (3 : Int32) nn k3 key))), .val (.int span), .unset, .unset, .unset] [(.int key), (.int k1)])) _
          by_cases hc37 : k1 = key
          · refine XS.icmpYes X0.here hx rfl (pc0 := 472) (pc' := 501) rfl (hb hby at_472) rfl (teq hc37).1 (by decide) (by decide) ?_
            show Steps p.tables e below (s₁.setTop (mkF m 501 #[.val (.int x0), .val (.int x1), .val (.int x2), .val (.int x3), .val (.int x4), .val (.int (0 : Int32)), .val (.int nn), .val (.int lo), .val (.int hi), .val (.int k1), .val (.int k0), .val (.int k1), .val (.int k2), .val (.int k3), .val (.int sel), .val (.int key), .val (.int ((((own_lt (0 : Int32) nn k0 key) + (own_lt (1 : Int32) nn k1 key)) + (own_lt (2 : Int32) nn k2 key)) + (own_lt (3 : Int32) nn k3 key))), .val (.int span), .unset, .unset, .unset] [])) _
            refine XS.iconst X0.here hx rfl (hb hby at_501) ?_
            show Steps p.tables e below (s₁.setTop (mkF m 502 #[.val (.int x0), .val (.int x1), .val (.int x2), .val (.int x3), .val (.int x4), .val (.int (0 : Int32)), .val (.int nn), .val (.int lo), .val (.int hi), .val (.int k1), .val (.int k0), .val (.int k1), .val (.int k2), .val (.int k3), .val (.int sel), .val (.int key), .val (.int ((((own_lt (0 : Int32) nn k0 key) + (own_lt (1 : Int32) nn k1 key)) + (own_lt (2 : Int32) nn k2 key)) + (own_lt (3 : Int32) nn k3 key))), .val (.int span), .unset, .unset, .unset] [(.int (1 : Int32))])) _
            refine XS.goto X0.here hx rfl (pc0 := 502) (pc' := 506) rfl (hb hby at_502) (by decide) (by decide) ?_
            show Steps p.tables e below (s₁.setTop (mkF m 506 #[.val (.int x0), .val (.int x1), .val (.int x2), .val (.int x3), .val (.int x4), .val (.int (0 : Int32)), .val (.int nn), .val (.int lo), .val (.int hi), .val (.int k1), .val (.int k0), .val (.int k1), .val (.int k2), .val (.int k3), .val (.int sel), .val (.int key), .val (.int ((((own_lt (0 : Int32) nn k0 key) + (own_lt (1 : Int32) nn k1 key)) + (own_lt (2 : Int32) nn k2 key)) + (own_lt (3 : Int32) nn k3 key))), .val (.int span), .unset, .unset, .unset] [(.int (1 : Int32))])) _
            have q0 : (own_fn nn k0 k1 k2 k3 key) = (1 : Int32) := by simp [own_fn, hc1, hc20, hc36, hc37]
            rw [q0] at kg
            exact kg
          · refine XS.icmpNo X0.here hx rfl (hb hby at_472) rfl (feq hc37).1 ?_
            show Steps p.tables e below (s₁.setTop (mkF m 475 #[.val (.int x0), .val (.int x1), .val (.int x2), .val (.int x3), .val (.int x4), .val (.int (0 : Int32)), .val (.int nn), .val (.int lo), .val (.int hi), .val (.int k1), .val (.int k0), .val (.int k1), .val (.int k2), .val (.int k3), .val (.int sel), .val (.int key), .val (.int ((((own_lt (0 : Int32) nn k0 key) + (own_lt (1 : Int32) nn k1 key)) + (own_lt (2 : Int32) nn k2 key)) + (own_lt (3 : Int32) nn k3 key))), .val (.int span), .unset, .unset, .unset] [])) _
            refine XS.iload X0.here hx rfl (hb hby at_475) rfl ?_
            show Steps p.tables e below (s₁.setTop (mkF m 477 #[.val (.int x0), .val (.int x1), .val (.int x2), .val (.int x3), .val (.int x4), .val (.int (0 : Int32)), .val (.int nn), .val (.int lo), .val (.int hi), .val (.int k1), .val (.int k0), .val (.int k1), .val (.int k2), .val (.int k3), .val (.int sel), .val (.int key), .val (.int ((((own_lt (0 : Int32) nn k0 key) + (own_lt (1 : Int32) nn k1 key)) + (own_lt (2 : Int32) nn k2 key)) + (own_lt (3 : Int32) nn k3 key))), .val (.int span), .unset, .unset, .unset] [(.int nn)])) _
            refine XS.iconst X0.here hx rfl (hb hby at_477) ?_
            show Steps p.tables e below (s₁.setTop (mkF m 478 #[.val (.int x0), .val (.int x1), .val (.int x2), .val (.int x3), .val (.int x4), .val (.int (0 : Int32)), .val (.int nn), .val (.int lo), .val (.int hi), .val (.int k1), .val (.int k0), .val (.int k1), .val (.int k2), .val (.int k3), .val (.int sel), .val (.int key), .val (.int ((((own_lt (0 : Int32) nn k0 key) + (own_lt (1 : Int32) nn k1 key)) + (own_lt (2 : Int32) nn k2 key)) + (own_lt (3 : Int32) nn k3 key))), .val (.int span), .unset, .unset, .unset] [(.int (2 : Int32)), (.int nn)])) _
            by_cases hc38 : (2 : Int32) < nn
            · refine XS.icmpNo X0.here hx rfl (hb hby at_478) rfl (tlt hc38).2.2.2 ?_
              show Steps p.tables e below (s₁.setTop (mkF m 481 #[.val (.int x0), .val (.int x1), .val (.int x2), .val (.int x3), .val (.int x4), .val (.int (0 : Int32)), .val (.int nn), .val (.int lo), .val (.int hi), .val (.int k1), .val (.int k0), .val (.int k1), .val (.int k2), .val (.int k3), .val (.int sel), .val (.int key), .val (.int ((((own_lt (0 : Int32) nn k0 key) + (own_lt (1 : Int32) nn k1 key)) + (own_lt (2 : Int32) nn k2 key)) + (own_lt (3 : Int32) nn k3 key))), .val (.int span), .unset, .unset, .unset] [])) _
              refine XS.iload X0.here hx rfl (hb hby at_481) rfl ?_
              show Steps p.tables e below (s₁.setTop (mkF m 483 #[.val (.int x0), .val (.int x1), .val (.int x2), .val (.int x3), .val (.int x4), .val (.int (0 : Int32)), .val (.int nn), .val (.int lo), .val (.int hi), .val (.int k1), .val (.int k0), .val (.int k1), .val (.int k2), .val (.int k3), .val (.int sel), .val (.int key), .val (.int ((((own_lt (0 : Int32) nn k0 key) + (own_lt (1 : Int32) nn k1 key)) + (own_lt (2 : Int32) nn k2 key)) + (own_lt (3 : Int32) nn k3 key))), .val (.int span), .unset, .unset, .unset] [(.int k2)])) _
              refine XS.iload X0.here hx rfl (hb hby at_483) rfl ?_
              show Steps p.tables e below (s₁.setTop (mkF m 485 #[.val (.int x0), .val (.int x1), .val (.int x2), .val (.int x3), .val (.int x4), .val (.int (0 : Int32)), .val (.int nn), .val (.int lo), .val (.int hi), .val (.int k1), .val (.int k0), .val (.int k1), .val (.int k2), .val (.int k3), .val (.int sel), .val (.int key), .val (.int ((((own_lt (0 : Int32) nn k0 key) + (own_lt (1 : Int32) nn k1 key)) + (own_lt (2 : Int32) nn k2 key)) + (own_lt (3 : Int32) nn k3 key))), .val (.int span), .unset, .unset, .unset] [(.int key), (.int k2)])) _
              by_cases hc39 : k2 = key
              · refine XS.icmpYes X0.here hx rfl (pc0 := 485) (pc' := 501) rfl (hb hby at_485) rfl (teq hc39).1 (by decide) (by decide) ?_
                show Steps p.tables e below (s₁.setTop (mkF m 501 #[.val (.int x0), .val (.int x1), .val (.int x2), .val (.int x3), .val (.int x4), .val (.int (0 : Int32)), .val (.int nn), .val (.int lo), .val (.int hi), .val (.int k1), .val (.int k0), .val (.int k1), .val (.int k2), .val (.int k3), .val (.int sel), .val (.int key), .val (.int ((((own_lt (0 : Int32) nn k0 key) + (own_lt (1 : Int32) nn k1 key)) + (own_lt (2 : Int32) nn k2 key)) + (own_lt (3 : Int32) nn k3 key))), .val (.int span), .unset, .unset, .unset] [])) _
                refine XS.iconst X0.here hx rfl (hb hby at_501) ?_
                show Steps p.tables e below (s₁.setTop (mkF m 502 #[.val (.int x0), .val (.int x1), .val (.int x2), .val (.int x3), .val (.int x4), .val (.int (0 : Int32)), .val (.int nn), .val (.int lo), .val (.int hi), .val (.int k1), .val (.int k0), .val (.int k1), .val (.int k2), .val (.int k3), .val (.int sel), .val (.int key), .val (.int ((((own_lt (0 : Int32) nn k0 key) + (own_lt (1 : Int32) nn k1 key)) + (own_lt (2 : Int32) nn k2 key)) + (own_lt (3 : Int32) nn k3 key))), .val (.int span), .unset, .unset, .unset] [(.int (1 : Int32))])) _
                refine XS.goto X0.here hx rfl (pc0 := 502) (pc' := 506) rfl (hb hby at_502) (by decide) (by decide) ?_
                show Steps p.tables e below (s₁.setTop (mkF m 506 #[.val (.int x0), .val (.int x1), .val (.int x2), .val (.int x3), .val (.int x4), .val (.int (0 : Int32)), .val (.int nn), .val (.int lo), .val (.int hi), .val (.int k1), .val (.int k0), .val (.int k1), .val (.int k2), .val (.int k3), .val (.int sel), .val (.int key), .val (.int ((((own_lt (0 : Int32) nn k0 key) + (own_lt (1 : Int32) nn k1 key)) + (own_lt (2 : Int32) nn k2 key)) + (own_lt (3 : Int32) nn k3 key))), .val (.int span), .unset, .unset, .unset] [(.int (1 : Int32))])) _
                have q0 : (own_fn nn k0 k1 k2 k3 key) = (1 : Int32) := by simp [own_fn, hc1, hc20, hc36, hc37, hc38, hc39]
                rw [q0] at kg
                exact kg
              · refine XS.icmpNo X0.here hx rfl (hb hby at_485) rfl (feq hc39).1 ?_
                show Steps p.tables e below (s₁.setTop (mkF m 488 #[.val (.int x0), .val (.int x1), .val (.int x2), .val (.int x3), .val (.int x4), .val (.int (0 : Int32)), .val (.int nn), .val (.int lo), .val (.int hi), .val (.int k1), .val (.int k0), .val (.int k1), .val (.int k2), .val (.int k3), .val (.int sel), .val (.int key), .val (.int ((((own_lt (0 : Int32) nn k0 key) + (own_lt (1 : Int32) nn k1 key)) + (own_lt (2 : Int32) nn k2 key)) + (own_lt (3 : Int32) nn k3 key))), .val (.int span), .unset, .unset, .unset] [])) _
                refine XS.iload X0.here hx rfl (hb hby at_488) rfl ?_
                show Steps p.tables e below (s₁.setTop (mkF m 490 #[.val (.int x0), .val (.int x1), .val (.int x2), .val (.int x3), .val (.int x4), .val (.int (0 : Int32)), .val (.int nn), .val (.int lo), .val (.int hi), .val (.int k1), .val (.int k0), .val (.int k1), .val (.int k2), .val (.int k3), .val (.int sel), .val (.int key), .val (.int ((((own_lt (0 : Int32) nn k0 key) + (own_lt (1 : Int32) nn k1 key)) + (own_lt (2 : Int32) nn k2 key)) + (own_lt (3 : Int32) nn k3 key))), .val (.int span), .unset, .unset, .unset] [(.int nn)])) _
                refine XS.iconst X0.here hx rfl (hb hby at_490) ?_
                show Steps p.tables e below (s₁.setTop (mkF m 491 #[.val (.int x0), .val (.int x1), .val (.int x2), .val (.int x3), .val (.int x4), .val (.int (0 : Int32)), .val (.int nn), .val (.int lo), .val (.int hi), .val (.int k1), .val (.int k0), .val (.int k1), .val (.int k2), .val (.int k3), .val (.int sel), .val (.int key), .val (.int ((((own_lt (0 : Int32) nn k0 key) + (own_lt (1 : Int32) nn k1 key)) + (own_lt (2 : Int32) nn k2 key)) + (own_lt (3 : Int32) nn k3 key))), .val (.int span), .unset, .unset, .unset] [(.int (3 : Int32)), (.int nn)])) _
                by_cases hc40 : (3 : Int32) < nn
                · refine XS.icmpNo X0.here hx rfl (hb hby at_491) rfl (tlt hc40).2.2.2 ?_
                  show Steps p.tables e below (s₁.setTop (mkF m 494 #[.val (.int x0), .val (.int x1), .val (.int x2), .val (.int x3), .val (.int x4), .val (.int (0 : Int32)), .val (.int nn), .val (.int lo), .val (.int hi), .val (.int k1), .val (.int k0), .val (.int k1), .val (.int k2), .val (.int k3), .val (.int sel), .val (.int key), .val (.int ((((own_lt (0 : Int32) nn k0 key) + (own_lt (1 : Int32) nn k1 key)) + (own_lt (2 : Int32) nn k2 key)) + (own_lt (3 : Int32) nn k3 key))), .val (.int span), .unset, .unset, .unset] [])) _
                  refine XS.iload X0.here hx rfl (hb hby at_494) rfl ?_
                  show Steps p.tables e below (s₁.setTop (mkF m 496 #[.val (.int x0), .val (.int x1), .val (.int x2), .val (.int x3), .val (.int x4), .val (.int (0 : Int32)), .val (.int nn), .val (.int lo), .val (.int hi), .val (.int k1), .val (.int k0), .val (.int k1), .val (.int k2), .val (.int k3), .val (.int sel), .val (.int key), .val (.int ((((own_lt (0 : Int32) nn k0 key) + (own_lt (1 : Int32) nn k1 key)) + (own_lt (2 : Int32) nn k2 key)) + (own_lt (3 : Int32) nn k3 key))), .val (.int span), .unset, .unset, .unset] [(.int k3)])) _
                  refine XS.iload X0.here hx rfl (hb hby at_496) rfl ?_
                  show Steps p.tables e below (s₁.setTop (mkF m 498 #[.val (.int x0), .val (.int x1), .val (.int x2), .val (.int x3), .val (.int x4), .val (.int (0 : Int32)), .val (.int nn), .val (.int lo), .val (.int hi), .val (.int k1), .val (.int k0), .val (.int k1), .val (.int k2), .val (.int k3), .val (.int sel), .val (.int key), .val (.int ((((own_lt (0 : Int32) nn k0 key) + (own_lt (1 : Int32) nn k1 key)) + (own_lt (2 : Int32) nn k2 key)) + (own_lt (3 : Int32) nn k3 key))), .val (.int span), .unset, .unset, .unset] [(.int key), (.int k3)])) _
                  by_cases hc41 : k3 = key
                  · refine XS.icmpNo X0.here hx rfl (hb hby at_498) rfl (teq hc41).2 ?_
                    show Steps p.tables e below (s₁.setTop (mkF m 501 #[.val (.int x0), .val (.int x1), .val (.int x2), .val (.int x3), .val (.int x4), .val (.int (0 : Int32)), .val (.int nn), .val (.int lo), .val (.int hi), .val (.int k1), .val (.int k0), .val (.int k1), .val (.int k2), .val (.int k3), .val (.int sel), .val (.int key), .val (.int ((((own_lt (0 : Int32) nn k0 key) + (own_lt (1 : Int32) nn k1 key)) + (own_lt (2 : Int32) nn k2 key)) + (own_lt (3 : Int32) nn k3 key))), .val (.int span), .unset, .unset, .unset] [])) _
                    refine XS.iconst X0.here hx rfl (hb hby at_501) ?_
                    show Steps p.tables e below (s₁.setTop (mkF m 502 #[.val (.int x0), .val (.int x1), .val (.int x2), .val (.int x3), .val (.int x4), .val (.int (0 : Int32)), .val (.int nn), .val (.int lo), .val (.int hi), .val (.int k1), .val (.int k0), .val (.int k1), .val (.int k2), .val (.int k3), .val (.int sel), .val (.int key), .val (.int ((((own_lt (0 : Int32) nn k0 key) + (own_lt (1 : Int32) nn k1 key)) + (own_lt (2 : Int32) nn k2 key)) + (own_lt (3 : Int32) nn k3 key))), .val (.int span), .unset, .unset, .unset] [(.int (1 : Int32))])) _
                    refine XS.goto X0.here hx rfl (pc0 := 502) (pc' := 506) rfl (hb hby at_502) (by decide) (by decide) ?_
                    show Steps p.tables e below (s₁.setTop (mkF m 506 #[.val (.int x0), .val (.int x1), .val (.int x2), .val (.int x3), .val (.int x4), .val (.int (0 : Int32)), .val (.int nn), .val (.int lo), .val (.int hi), .val (.int k1), .val (.int k0), .val (.int k1), .val (.int k2), .val (.int k3), .val (.int sel), .val (.int key), .val (.int ((((own_lt (0 : Int32) nn k0 key) + (own_lt (1 : Int32) nn k1 key)) + (own_lt (2 : Int32) nn k2 key)) + (own_lt (3 : Int32) nn k3 key))), .val (.int span), .unset, .unset, .unset] [(.int (1 : Int32))])) _
                    have q0 : (own_fn nn k0 k1 k2 k3 key) = (1 : Int32) := by simp [own_fn, hc1, hc20, hc36, hc37, hc38, hc39, hc40, hc41]
                    rw [q0] at kg
                    exact kg
                  · refine XS.icmpYes X0.here hx rfl (pc0 := 498) (pc' := 505) rfl (hb hby at_498) rfl (feq hc41).2 (by decide) (by decide) ?_
                    show Steps p.tables e below (s₁.setTop (mkF m 505 #[.val (.int x0), .val (.int x1), .val (.int x2), .val (.int x3), .val (.int x4), .val (.int (0 : Int32)), .val (.int nn), .val (.int lo), .val (.int hi), .val (.int k1), .val (.int k0), .val (.int k1), .val (.int k2), .val (.int k3), .val (.int sel), .val (.int key), .val (.int ((((own_lt (0 : Int32) nn k0 key) + (own_lt (1 : Int32) nn k1 key)) + (own_lt (2 : Int32) nn k2 key)) + (own_lt (3 : Int32) nn k3 key))), .val (.int span), .unset, .unset, .unset] [])) _
                    refine XS.iconst X0.here hx rfl (hb hby at_505) ?_
                    show Steps p.tables e below (s₁.setTop (mkF m 506 #[.val (.int x0), .val (.int x1), .val (.int x2), .val (.int x3), .val (.int x4), .val (.int (0 : Int32)), .val (.int nn), .val (.int lo), .val (.int hi), .val (.int k1), .val (.int k0), .val (.int k1), .val (.int k2), .val (.int k3), .val (.int sel), .val (.int key), .val (.int ((((own_lt (0 : Int32) nn k0 key) + (own_lt (1 : Int32) nn k1 key)) + (own_lt (2 : Int32) nn k2 key)) + (own_lt (3 : Int32) nn k3 key))), .val (.int span), .unset, .unset, .unset] [(.int (0 : Int32))])) _
                    have q0 : (own_fn nn k0 k1 k2 k3 key) = (0 : Int32) := by simp [own_fn, hc1, hc20, hc36, hc37, hc38, hc39, hc40, hc41]
                    rw [q0] at kg
                    exact kg
                · refine XS.icmpYes X0.here hx rfl (pc0 := 491) (pc' := 505) rfl (hb hby at_491) rfl (flt hc40).2.2.2 (by decide) (by decide) ?_
                  show Steps p.tables e below (s₁.setTop (mkF m 505 #[.val (.int x0), .val (.int x1), .val (.int x2), .val (.int x3), .val (.int x4), .val (.int (0 : Int32)), .val (.int nn), .val (.int lo), .val (.int hi), .val (.int k1), .val (.int k0), .val (.int k1), .val (.int k2), .val (.int k3), .val (.int sel), .val (.int key), .val (.int ((((own_lt (0 : Int32) nn k0 key) + (own_lt (1 : Int32) nn k1 key)) + (own_lt (2 : Int32) nn k2 key)) + (own_lt (3 : Int32) nn k3 key))), .val (.int span), .unset, .unset, .unset] [])) _
                  refine XS.iconst X0.here hx rfl (hb hby at_505) ?_
                  show Steps p.tables e below (s₁.setTop (mkF m 506 #[.val (.int x0), .val (.int x1), .val (.int x2), .val (.int x3), .val (.int x4), .val (.int (0 : Int32)), .val (.int nn), .val (.int lo), .val (.int hi), .val (.int k1), .val (.int k0), .val (.int k1), .val (.int k2), .val (.int k3), .val (.int sel), .val (.int key), .val (.int ((((own_lt (0 : Int32) nn k0 key) + (own_lt (1 : Int32) nn k1 key)) + (own_lt (2 : Int32) nn k2 key)) + (own_lt (3 : Int32) nn k3 key))), .val (.int span), .unset, .unset, .unset] [(.int (0 : Int32))])) _
                  have q0 : (own_fn nn k0 k1 k2 k3 key) = (0 : Int32) := by simp [own_fn, hc1, hc20, hc36, hc37, hc38, hc39, hc40]
                  rw [q0] at kg
                  exact kg
            · refine XS.icmpYes X0.here hx rfl (pc0 := 478) (pc' := 488) rfl (hb hby at_478) rfl (flt hc38).2.2.2 (by decide) (by decide) ?_
              show Steps p.tables e below (s₁.setTop (mkF m 488 #[.val (.int x0), .val (.int x1), .val (.int x2), .val (.int x3), .val (.int x4), .val (.int (0 : Int32)), .val (.int nn), .val (.int lo), .val (.int hi), .val (.int k1), .val (.int k0), .val (.int k1), .val (.int k2), .val (.int k3), .val (.int sel), .val (.int key), .val (.int ((((own_lt (0 : Int32) nn k0 key) + (own_lt (1 : Int32) nn k1 key)) + (own_lt (2 : Int32) nn k2 key)) + (own_lt (3 : Int32) nn k3 key))), .val (.int span), .unset, .unset, .unset] [])) _
              refine XS.iload X0.here hx rfl (hb hby at_488) rfl ?_
              show Steps p.tables e below (s₁.setTop (mkF m 490 #[.val (.int x0), .val (.int x1), .val (.int x2), .val (.int x3), .val (.int x4), .val (.int (0 : Int32)), .val (.int nn), .val (.int lo), .val (.int hi), .val (.int k1), .val (.int k0), .val (.int k1), .val (.int k2), .val (.int k3), .val (.int sel), .val (.int key), .val (.int ((((own_lt (0 : Int32) nn k0 key) + (own_lt (1 : Int32) nn k1 key)) + (own_lt (2 : Int32) nn k2 key)) + (own_lt (3 : Int32) nn k3 key))), .val (.int span), .unset, .unset, .unset] [(.int nn)])) _
              refine XS.iconst X0.here hx rfl (hb hby at_490) ?_
              show Steps p.tables e below (s₁.setTop (mkF m 491 #[.val (.int x0), .val (.int x1), .val (.int x2), .val (.int x3), .val (.int x4), .val (.int (0 : Int32)), .val (.int nn), .val (.int lo), .val (.int hi), .val (.int k1), .val (.int k0), .val (.int k1), .val (.int k2), .val (.int k3), .val (.int sel), .val (.int key), .val (.int ((((own_lt (0 : Int32) nn k0 key) + (own_lt (1 : Int32) nn k1 key)) + (own_lt (2 : Int32) nn k2 key)) + (own_lt (3 : Int32) nn k3 key))), .val (.int span), .unset, .unset, .unset] [(.int (3 : Int32)), (.int nn)])) _
              by_cases hc42 : (3 : Int32) < nn
              · refine XS.icmpNo X0.here hx rfl (hb hby at_491) rfl (tlt hc42).2.2.2 ?_
                show Steps p.tables e below (s₁.setTop (mkF m 494 #[.val (.int x0), .val (.int x1), .val (.int x2), .val (.int x3), .val (.int x4), .val (.int (0 : Int32)), .val (.int nn), .val (.int lo), .val (.int hi), .val (.int k1), .val (.int k0), .val (.int k1), .val (.int k2), .val (.int k3), .val (.int sel), .val (.int key), .val (.int ((((own_lt (0 : Int32) nn k0 key) + (own_lt (1 : Int32) nn k1 key)) + (own_lt (2 : Int32) nn k2 key)) + (own_lt (3 : Int32) nn k3 key))), .val (.int span), .unset, .unset, .unset] [])) _
                refine XS.iload X0.here hx rfl (hb hby at_494) rfl ?_
                show Steps p.tables e below (s₁.setTop (mkF m 496 #[.val (.int x0), .val (.int x1), .val (.int x2), .val (.int x3), .val (.int x4), .val (.int (0 : Int32)), .val (.int nn), .val (.int lo), .val (.int hi), .val (.int k1), .val (.int k0), .val (.int k1), .val (.int k2), .val (.int k3), .val (.int sel), .val (.int key), .val (.int ((((own_lt (0 : Int32) nn k0 key) + (own_lt (1 : Int32) nn k1 key)) + (own_lt (2 : Int32) nn k2 key)) + (own_lt (3 : Int32) nn k3 key))), .val (.int span), .unset, .unset, .unset] [(.int k3)])) _
                refine XS.iload X0.here hx rfl (hb hby at_496) rfl ?_
                show Steps p.tables e below (s₁.setTop (mkF m 498 #[.val (.int x0), .val (.int x1), .val (.int x2), .val (.int x3), .val (.int x4), .val (.int (0 : Int32)), .val (.int nn), .val (.int lo), .val (.int hi), .val (.int k1), .val (.int k0), .val (.int k1), .val (.int k2), .val (.int k3), .val (.int sel), .val (.int key), .val (.int ((((own_lt (0 : Int32) nn k0 key) + (own_lt (1 : Int32) nn k1 key)) + (own_lt (2 : Int32) nn k2 key)) + (own_lt (3 : Int32) nn k3 key))), .val (.int span), .unset, .unset, .unset] [(.int key), (.int k3)])) _
                by_cases hc43 : k3 = key
                · refine XS.icmpNo X0.here hx rfl (hb hby at_498) rfl (teq hc43).2 ?_
                  show Steps p.tables e below (s₁.setTop (mkF m 501 #[.val (.int x0), .val (.int x1), .val (.int x2), .val (.int x3), .val (.int x4), .val (.int (0 : Int32)), .val (.int nn), .val (.int lo), .val (.int hi), .val (.int k1), .val (.int k0), .val (.int k1), .val (.int k2), .val (.int k3), .val (.int sel), .val (.int key), .val (.int ((((own_lt (0 : Int32) nn k0 key) + (own_lt (1 : Int32) nn k1 key)) + (own_lt (2 : Int32) nn k2 key)) + (own_lt (3 : Int32) nn k3 key))), .val (.int span), .unset, .unset, .unset] [])) _
                  refine XS.iconst X0.here hx rfl (hb hby at_501) ?_
                  show Steps p.tables e below (s₁.setTop (mkF m 502 #[.val (.int x0), .val (.int x1), .val (.int x2), .val (.int x3), .val (.int x4), .val (.int (0 : Int32)), .val (.int nn), .val (.int lo), .val (.int hi), .val (.int k1), .val (.int k0), .val (.int k1), .val (.int k2), .val (.int k3), .val (.int sel), .val (.int key), .val (.int ((((own_lt (0 : Int32) nn k0 key) + (own_lt (1 : Int32) nn k1 key)) + (own_lt (2 : Int32) nn k2 key)) + (own_lt (3 : Int32) nn k3 key))), .val (.int span), .unset, .unset, .unset] [(.int (1 : Int32))])) _
                  refine XS.goto X0.here hx rfl (pc0 := 502) (pc' := 506) rfl (hb hby at_502) (by decide) (by decide) ?_
                  show Steps p.tables e below (s₁.setTop (mkF m 506 #[.val (.int x0), .val (.int x1), .val (.int x2), .val (.int x3), .val (.int x4), .val (.int (0 : Int32)), .val (.int nn), .val (.int lo), .val (.int hi), .val (.int k1), .val (.int k0), .val (.int k1), .val (.int k2), .val (.int k3), .val (.int sel), .val (.int key), .val (.int ((((own_lt (0 : Int32) nn k0 key) + (own_lt (1 : Int32) nn k1 key)) + (own_lt (2 : Int32) nn k2 key)) + (own_lt (3 : Int32) nn k3 key))), .val (.int span), .unset, .unset, .unset] [(.int (1 : Int32))])) _
                  have q0 : (own_fn nn k0 k1 k2 k3 key) = (1 : Int32) := by simp [own_fn, hc1, hc20, hc36, hc37, hc38, hc42, hc43]
                  rw [q0] at kg
                  exact kg
                · refine XS.icmpYes X0.here hx rfl (pc0 := 498) (pc' := 505) rfl (hb hby at_498) rfl (feq hc43).2 (by decide) (by decide) ?_
                  show Steps p.tables e below (s₁.setTop (mkF m 505 #[.val (.int x0), .val (.int x1), .val (.int x2), .val (.int x3), .val (.int x4), .val (.int (0 : Int32)), .val (.int nn), .val (.int lo), .val (.int hi), .val (.int k1), .val (.int k0), .val (.int k1), .val (.int k2), .val (.int k3), .val (.int sel), .val (.int key), .val (.int ((((own_lt (0 : Int32) nn k0 key) + (own_lt (1 : Int32) nn k1 key)) + (own_lt (2 : Int32) nn k2 key)) + (own_lt (3 : Int32) nn k3 key))), .val (.int span), .unset, .unset, .unset] [])) _
                  refine XS.iconst X0.here hx rfl (hb hby at_505) ?_
                  show Steps p.tables e below (s₁.setTop (mkF m 506 #[.val (.int x0), .val (.int x1), .val (.int x2), .val (.int x3), .val (.int x4), .val (.int (0 : Int32)), .val (.int nn), .val (.int lo), .val (.int hi), .val (.int k1), .val (.int k0), .val (.int k1), .val (.int k2), .val (.int k3), .val (.int sel), .val (.int key), .val (.int ((((own_lt (0 : Int32) nn k0 key) + (own_lt (1 : Int32) nn k1 key)) + (own_lt (2 : Int32) nn k2 key)) + (own_lt (3 : Int32) nn k3 key))), .val (.int span), .unset, .unset, .unset] [(.int (0 : Int32))])) _
                  have q0 : (own_fn nn k0 k1 k2 k3 key) = (0 : Int32) := by simp [own_fn, hc1, hc20, hc36, hc37, hc38, hc42, hc43]
                  rw [q0] at kg
                  exact kg
              · refine XS.icmpYes X0.here hx rfl (pc0 := 491) (pc' := 505) rfl (hb hby at_491) rfl (flt hc42).2.2.2 (by decide) (by decide) ?_
                show Steps p.tables e below (s₁.setTop (mkF m 505 #[.val (.int x0), .val (.int x1), .val (.int x2), .val (.int x3), .val (.int x4), .val (.int (0 : Int32)), .val (.int nn), .val (.int lo), .val (.int hi), .val (.int k1), .val (.int k0), .val (.int k1), .val (.int k2), .val (.int k3), .val (.int sel), .val (.int key), .val (.int ((((own_lt (0 : Int32) nn k0 key) + (own_lt (1 : Int32) nn k1 key)) + (own_lt (2 : Int32) nn k2 key)) + (own_lt (3 : Int32) nn k3 key))), .val (.int span), .unset, .unset, .unset] [])) _
                refine XS.iconst X0.here hx rfl (hb hby at_505) ?_
                show Steps p.tables e below (s₁.setTop (mkF m 506 #[.val (.int x0), .val (.int x1), .val (.int x2), .val (.int x3), .val (.int x4), .val (.int (0 : Int32)), .val (.int nn), .val (.int lo), .val (.int hi), .val (.int k1), .val (.int k0), .val (.int k1), .val (.int k2), .val (.int k3), .val (.int sel), .val (.int key), .val (.int ((((own_lt (0 : Int32) nn k0 key) + (own_lt (1 : Int32) nn k1 key)) + (own_lt (2 : Int32) nn k2 key)) + (own_lt (3 : Int32) nn k3 key))), .val (.int span), .unset, .unset, .unset] [(.int (0 : Int32))])) _
                have q0 : (own_fn nn k0 k1 k2 k3 key) = (0 : Int32) := by simp [own_fn, hc1, hc20, hc36, hc37, hc38, hc42]
                rw [q0] at kg
                exact kg
        · refine XS.icmpYes X0.here hx rfl (pc0 := 465) (pc' := 475) rfl (hb hby at_465) rfl (flt hc36).2.2.2 (by decide) (by decide) ?_
          show Steps p.tables e below (s₁.setTop (mkF m 475 #[.val (.int x0), .val (.int x1), .val (.int x2), .val (.int x3), .val (.int x4), .val (.int (0 : Int32)), .val (.int nn), .val (.int lo), .val (.int hi), .val (.int k1), .val (.int k0), .val (.int k1), .val (.int k2), .val (.int k3), .val (.int sel), .val (.int key), .val (.int ((((own_lt (0 : Int32) nn k0 key) + (own_lt (1 : Int32) nn k1 key)) + (own_lt (2 : Int32) nn k2 key)) + (own_lt (3 : Int32) nn k3 key))), .val (.int span), .unset, .unset, .unset] [])) _
          refine XS.iload X0.here hx rfl (hb hby at_475) rfl ?_
          show Steps p.tables e below (s₁.setTop (mkF m 477 #[.val (.int x0), .val (.int x1), .val (.int x2), .val (.int x3), .val (.int x4), .val (.int (0 : Int32)), .val (.int nn), .val (.int lo), .val (.int hi), .val (.int k1), .val (.int k0), .val (.int k1), .val (.int k2), .val (.int k3), .val (.int sel), .val (.int key), .val (.int ((((own_lt (0 : Int32) nn k0 key) + (own_lt (1 : Int32) nn k1 key)) + (own_lt (2 : Int32) nn k2 key)) + (own_lt (3 : Int32) nn k3 key))), .val (.int span), .unset, .unset, .unset] [(.int nn)])) _
          refine XS.iconst X0.here hx rfl (hb hby at_477) ?_
          show Steps p.tables e below (s₁.setTop (mkF m 478 #[.val (.int x0), .val (.int x1), .val (.int x2), .val (.int x3), .val (.int x4), .val (.int (0 : Int32)), .val (.int nn), .val (.int lo), .val (.int hi), .val (.int k1), .val (.int k0), .val (.int k1), .val (.int k2), .val (.int k3), .val (.int sel), .val (.int key), .val (.int ((((own_lt (0 : Int32) nn k0 key) + (own_lt (1 : Int32) nn k1 key)) + (own_lt (2 : Int32) nn k2 key)) + (own_lt (3 : Int32) nn k3 key))), .val (.int span), .unset, .unset, .unset] [(.int (2 : Int32)), (.int nn)])) _
          by_cases hc44 : (2 : Int32) < nn
          · refine XS.icmpNo X0.here hx rfl (hb hby at_478) rfl (tlt hc44).2.2.2 ?_
            show Steps p.tables e below (s₁.setTop (mkF m 481 #[.val (.int x0), .val (.int x1), .val (.int x2), .val (.int x3), .val (.int x4), .val (.int (0 : Int32)), .val (.int nn), .val (.int lo), .val (.int hi), .val (.int k1), .val (.int k0), .val (.int k1), .val (.int k2), .val (.int k3), .val (.int sel), .val (.int key), .val (.int ((((own_lt (0 : Int32) nn k0 key) + (own_lt (1 : Int32) nn k1 key)) + (own_lt (2 : Int32) nn k2 key)) + (own_lt (3 : Int32) nn k3 key))), .val (.int span), .unset, .unset, .unset] [])) _
            refine XS.iload X0.here hx rfl (hb hby at_481) rfl ?_
            show Steps p.tables e below (s₁.setTop (mkF m 483 #[.val (.int x0), .val (.int x1), .val (.int x2), .val (.int x3), .val (.int x4), .val (.int (0 : Int32)), .val (.int nn), .val (.int lo), .val (.int hi), .val (.int k1), .val (.int k0), .val (.int k1), .val (.int k2), .val (.int k3), .val (.int sel), .val (.int key), .val (.int ((((own_lt (0 : Int32) nn k0 key) + (own_lt (1 : Int32) nn k1 key)) + (own_lt (2 : Int32) nn k2 key)) + (own_lt (3 : Int32) nn k3 key))), .val (.int span), .unset, .unset, .unset] [(.int k2)])) _
            refine XS.iload X0.here hx rfl (hb hby at_483) rfl ?_
            show Steps p.tables e below (s₁.setTop (mkF m 485 #[.val (.int x0), .val (.int x1), .val (.int x2), .val (.int x3), .val (.int x4), .val (.int (0 : Int32)), .val (.int nn), .val (.int lo), .val (.int hi), .val (.int k1), .val (.int k0), .val (.int k1), .val (.int k2), .val (.int k3), .val (.int sel), .val (.int key), .val (.int ((((own_lt (0 : Int32) nn k0 key) + (own_lt (1 : Int32) nn k1 key)) + (own_lt (2 : Int32) nn k2 key)) + (own_lt (3 : Int32) nn k3 key))), .val (.int span), .unset, .unset, .unset] [(.int key), (.int k2)])) _
            by_cases hc45 : k2 = key
            · refine XS.icmpYes X0.here hx rfl (pc0 := 485) (pc' := 501) rfl (hb hby at_485) rfl (teq hc45).1 (by decide) (by decide) ?_
              show Steps p.tables e below (s₁.setTop (mkF m 501 #[.val (.int x0), .val (.int x1), .val (.int x2), .val (.int x3), .val (.int x4), .val (.int (0 : Int32)), .val (.int nn), .val (.int lo), .val (.int hi), .val (.int k1), .val (.int k0), .val (.int k1), .val (.int k2), .val (.int k3), .val (.int sel), .val (.int key), .val (.int ((((own_lt (0 : Int32) nn k0 key) + (own_lt (1 : Int32) nn k1 key)) + (own_lt (2 : Int32) nn k2 key)) + (own_lt (3 : Int32) nn k3 key))), .val (.int span), .unset, .unset, .unset] [])) _
              refine XS.iconst X0.here hx rfl (hb hby at_501) ?_
              show Steps p.tables e below (s₁.setTop (mkF m 502 #[.val (.int x0), .val (.int x1), .val (.int x2), .val (.int x3), .val (.int x4), .val (.int (0 : Int32)), .val (.int nn), .val (.int lo), .val (.int hi), .val (.int k1), .val (.int k0), .val (.int k1), .val (.int k2), .val (.int k3), .val (.int sel), .val (.int key), .val (.int ((((own_lt (0 : Int32) nn k0 key) + (own_lt (1 : Int32) nn k1 key)) + (own_lt (2 : Int32) nn k2 key)) + (own_lt (3 : Int32) nn k3 key))), .val (.int span), .unset, .unset, .unset] [(.int (1 : Int32))])) _
              refine XS.goto X0.here hx rfl (pc0 := 502) (pc' := 506) rfl (hb hby at_502) (by decide) (by decide) ?_
              show Steps p.tables e below (s₁.setTop (mkF m 506 #[.val (.int x0), .val (.int x1), .val (.int x2), .val (.int x3), .val (.int x4), .val (.int (0 : Int32)), .val (.int nn), .val (.int lo), .val (.int hi), .val (.int k1), .val (.int k0), .val (.int k1), .val (.int k2), .val (.int k3), .val (.int sel), .val (.int key), .val (.int ((((own_lt (0 : Int32) nn k0 key) + (own_lt (1 : Int32) nn k1 key)) + (own_lt (2 : Int32) nn k2 key)) + (own_lt (3 : Int32) nn k3 key))), .val (.int span), .unset, .unset, .unset] [(.int (1 : Int32))])) _
              have q0 : (own_fn nn k0 k1 k2 k3 key) = (1 : Int32) := by simp [own_fn, hc1, hc20, hc36, hc44, hc45]
              rw [q0] at kg
              exact kg
            · refine XS.icmpNo X0.here hx rfl (hb hby at_485) rfl (feq hc45).1 ?_
              show Steps p.tables e below (s₁.setTop (mkF m 488 #[.val (.int x0), .val (.int x1), .val (.int x2), .val (.int x3), .val (.int x4), .val (.int (0 : Int32)), .val (.int nn), .val (.int lo), .val (.int hi), .val (.int k1), .val (.int k0), .val (.int k1), .val (.int k2), .val (.int k3), .val (.int sel), .val (.int key), .val (.int ((((own_lt (0 : Int32) nn k0 key) + (own_lt (1 : Int32) nn k1 key)) + (own_lt (2 : Int32) nn k2 key)) + (own_lt (3 : Int32) nn k3 key))), .val (.int span), .unset, .unset, .unset] [])) _
              refine XS.iload X0.here hx rfl (hb hby at_488) rfl ?_
              show Steps p.tables e below (s₁.setTop (mkF m 490 #[.val (.int x0), .val (.int x1), .val (.int x2), .val (.int x3), .val (.int x4), .val (.int (0 : Int32)), .val (.int nn), .val (.int lo), .val (.int hi), .val (.int k1), .val (.int k0), .val (.int k1), .val (.int k2), .val (.int k3), .val (.int sel), .val (.int key), .val (.int ((((own_lt (0 : Int32) nn k0 key) + (own_lt (1 : Int32) nn k1 key)) + (own_lt (2 : Int32) nn k2 key)) + (own_lt (3 : Int32) nn k3 key))), .val (.int span), .unset, .unset, .unset] [(.int nn)])) _
              refine XS.iconst X0.here hx rfl (hb hby at_490) ?_
              show Steps p.tables e below (s₁.setTop (mkF m 491 #[.val (.int x0), .val (.int x1), .val (.int x2), .val (.int x3), .val (.int x4), .val (.int (0 : Int32)), .val (.int nn), .val (.int lo), .val (.int hi), .val (.int k1), .val (.int k0), .val (.int k1), .val (.int k2), .val (.int k3), .val (.int sel), .val (.int key), .val (.int ((((own_lt (0 : Int32) nn k0 key) + (own_lt (1 : Int32) nn k1 key)) + (own_lt (2 : Int32) nn k2 key)) + (own_lt (3 : Int32) nn k3 key))), .val (.int span), .unset, .unset, .unset] [(.int (3 : Int32)), (.int nn)])) _
              by_cases hc46 : (3 : Int32) < nn
              · refine XS.icmpNo X0.here hx rfl (hb hby at_491) rfl (tlt hc46).2.2.2 ?_
                show Steps p.tables e below (s₁.setTop (mkF m 494 #[.val (.int x0), .val (.int x1), .val (.int x2), .val (.int x3), .val (.int x4), .val (.int (0 : Int32)), .val (.int nn), .val (.int lo), .val (.int hi), .val (.int k1), .val (.int k0), .val (.int k1), .val (.int k2), .val (.int k3), .val (.int sel), .val (.int key), .val (.int ((((own_lt (0 : Int32) nn k0 key) + (own_lt (1 : Int32) nn k1 key)) + (own_lt (2 : Int32) nn k2 key)) + (own_lt (3 : Int32) nn k3 key))), .val (.int span), .unset, .unset, .unset] [])) _
                refine XS.iload X0.here hx rfl (hb hby at_494) rfl ?_
                show Steps p.tables e below (s₁.setTop (mkF m 496 #[.val (.int x0), .val (.int x1), .val (.int x2), .val (.int x3), .val (.int x4), .val (.int (0 : Int32)), .val (.int nn), .val (.int lo), .val (.int hi), .val (.int k1), .val (.int k0), .val (.int k1), .val (.int k2), .val (.int k3), .val (.int sel), .val (.int key), .val (.int ((((own_lt (0 : Int32) nn k0 key) + (own_lt (1 : Int32) nn k1 key)) + (own_lt (2 : Int32) nn k2 key)) + (own_lt (3 : Int32) nn k3 key))), .val (.int span), .unset, .unset, .unset] [(.int k3)])) _
                refine XS.iload X0.here hx rfl (hb hby at_496) rfl ?_
                show Steps p.tables e below (s₁.setTop (mkF m 498 #[.val (.int x0), .val (.int x1), .val (.int x2), .val (.int x3), .val (.int x4), .val (.int (0 : Int32)), .val (.int nn), .val (.int lo), .val (.int hi), .val (.int k1), .val (.int k0), .val (.int k1), .val (.int k2), .val (.int k3), .val (.int sel), .val (.int key), .val (.int ((((own_lt (0 : Int32) nn k0 key) + (own_lt (1 : Int32) nn k1 key)) + (own_lt (2 : Int32) nn k2 key)) + (own_lt (3 : Int32) nn k3 key))), .val (.int span), .unset, .unset, .unset] [(.int key), (.int k3)])) _
                by_cases hc47 : k3 = key
                · refine XS.icmpNo X0.here hx rfl (hb hby at_498) rfl (teq hc47).2 ?_
                  show Steps p.tables e below (s₁.setTop (mkF m 501 #[.val (.int x0), .val (.int x1), .val (.int x2), .val (.int x3), .val (.int x4), .val (.int (0 : Int32)), .val (.int nn), .val (.int lo), .val (.int hi), .val (.int k1), .val (.int k0), .val (.int k1), .val (.int k2), .val (.int k3), .val (.int sel), .val (.int key), .val (.int ((((own_lt (0 : Int32) nn k0 key) + (own_lt (1 : Int32) nn k1 key)) + (own_lt (2 : Int32) nn k2 key)) + (own_lt (3 : Int32) nn k3 key))), .val (.int span), .unset, .unset, .unset] [])) _
                  refine XS.iconst X0.here hx rfl (hb hby at_501) ?_
                  show Steps p.tables e below (s₁.setTop (mkF m 502 #[.val (.int x0), .val (.int x1), .val (.int x2), .val (.int x3), .val (.int x4), .val (.int (0 : Int32)), .val (.int nn), .val (.int lo), .val (.int hi), .val (.int k1), .val (.int k0), .val (.int k1), .val (.int k2), .val (.int k3), .val (.int sel), .val (.int key), .val (.int ((((own_lt (0 : Int32) nn k0 key) + (own_lt (1 : Int32) nn k1 key)) + (own_lt (2 : Int32) nn k2 key)) + (own_lt (3 : Int32) nn k3 key))), .val (.int span), .unset, .unset, .unset] [(.int (1 : Int32))])) _
                  refine XS.goto X0.here hx rfl (pc0 := 502) (pc' := 506) rfl (hb hby at_502) (by decide) (by decide) ?_
                  show Steps p.tables e below (s₁.setTop (mkF m 506 #[.val (.int x0), .val (.int x1), .val (.int x2), .val (.int x3), .val (.int x4), .val (.int (0 : Int32)), .val (.int nn), .val (.int lo), .val (.int hi), .val (.int k1), .val (.int k0), .val (.int k1), .val (.int k2), .val (.int k3), .val (.int sel), .val (.int key), .val (.int ((((own_lt (0 : Int32) nn k0 key) + (own_lt (1 : Int32) nn k1 key)) + (own_lt (2 : Int32) nn k2 key)) + (own_lt (3 : Int32) nn k3 key))), .val (.int span), .unset, .unset, .unset] [(.int (1 : Int32))])) _
                  have q0 : (own_fn nn k0 k1 k2 k3 key) = (1 : Int32) := by simp [own_fn, hc1, hc20, hc36, hc44, hc45, hc46, hc47]
                  rw [q0] at kg
                  exact kg
                · refine XS.icmpYes X0.here hx rfl (pc0 := 498) (pc' := 505) rfl (hb hby at_498) rfl (feq hc47).2 (by decide) (by decide) ?_
                  show Steps p.tables e below (s₁.setTop (mkF m 505 #[.val (.int x0), .val (.int x1), .val (.int x2), .val (.int x3), .val (.int x4), .val (.int (0 : Int32)), .val (.int nn), .val (.int lo), .val (.int hi), .val (.int k1), .val (.int k0), .val (.int k1), .val (.int k2), .val (.int k3), .val (.int sel), .val (.int key), .val (.int ((((own_lt (0 : Int32) nn k0 key) + (own_lt (1 : Int32) nn k1 key)) + (own_lt (2 : Int32) nn k2 key)) + (own_lt (3 : Int32) nn k3 key))), .val (.int span), .unset, .unset, .unset] [])) _
                  refine XS.iconst X0.here hx rfl (hb hby at_505) ?_
                  show Steps p.tables e below (s₁.setTop (mkF m 506 #[.val (.int x0), .val (.int x1), .val (.int x2), .val (.int x3), .val (.int x4), .val (.int (0 : Int32)), .val (.int nn), .val (.int lo), .val (.int hi), .val (.int k1), .val (.int k0), .val (.int k1), .val (.int k2), .val (.int k3), .val (.int sel), .val (.int key), .val (.int ((((own_lt (0 : Int32) nn k0 key) + (own_lt (1 : Int32) nn k1 key)) + (own_lt (2 : Int32) nn k2 key)) + (own_lt (3 : Int32) nn k3 key))), .val (.int span), .unset, .unset, .unset] [(.int (0 : Int32))])) _
                  have q0 : (own_fn nn k0 k1 k2 k3 key) = (0 : Int32) := by simp [own_fn, hc1, hc20, hc36, hc44, hc45, hc46, hc47]
                  rw [q0] at kg
                  exact kg
              · refine XS.icmpYes X0.here hx rfl (pc0 := 491) (pc' := 505) rfl (hb hby at_491) rfl (flt hc46).2.2.2 (by decide) (by decide) ?_
                show Steps p.tables e below (s₁.setTop (mkF m 505 #[.val (.int x0), .val (.int x1), .val (.int x2), .val (.int x3), .val (.int x4), .val (.int (0 : Int32)), .val (.int nn), .val (.int lo), .val (.int hi), .val (.int k1), .val (.int k0), .val (.int k1), .val (.int k2), .val (.int k3), .val (.int sel), .val (.int key), .val (.int ((((own_lt (0 : Int32) nn k0 key) + (own_lt (1 : Int32) nn k1 key)) + (own_lt (2 : Int32) nn k2 key)) + (own_lt (3 : Int32) nn k3 key))), .val (.int span), .unset, .unset, .unset] [])) _
                refine XS.iconst X0.here hx rfl (hb hby at_505) ?_
                show Steps p.tables e below (s₁.setTop (mkF m 506 #[.val (.int x0), .val (.int x1), .val (.int x2), .val (.int x3), .val (.int x4), .val (.int (0 : Int32)), .val (.int nn), .val (.int lo), .val (.int hi), .val (.int k1), .val (.int k0), .val (.int k1), .val (.int k2), .val (.int k3), .val (.int sel), .val (.int key), .val (.int ((((own_lt (0 : Int32) nn k0 key) + (own_lt (1 : Int32) nn k1 key)) + (own_lt (2 : Int32) nn k2 key)) + (own_lt (3 : Int32) nn k3 key))), .val (.int span), .unset, .unset, .unset] [(.int (0 : Int32))])) _
                have q0 : (own_fn nn k0 k1 k2 k3 key) = (0 : Int32) := by simp [own_fn, hc1, hc20, hc36, hc44, hc45, hc46]
                rw [q0] at kg
                exact kg
          · refine XS.icmpYes X0.here hx rfl (pc0 := 478) (pc' := 488) rfl (hb hby at_478) rfl (flt hc44).2.2.2 (by decide) (by decide) ?_
            show Steps p.tables e below (s₁.setTop (mkF m 488 #[.val (.int x0), .val (.int x1), .val (.int x2), .val (.int x3), .val (.int x4), .val (.int (0 : Int32)), .val (.int nn), .val (.int lo), .val (.int hi), .val (.int k1), .val (.int k0), .val (.int k1), .val (.int k2), .val (.int k3), .val (.int sel), .val (.int key), .val (.int ((((own_lt (0 : Int32) nn k0 key) + (own_lt (1 : Int32) nn k1 key)) + (own_lt (2 : Int32) nn k2 key)) + (own_lt (3 : Int32) nn k3 key))), .val (.int span), .unset, .unset, .unset] [])) _
            refine XS.iload X0.here hx rfl (hb hby at_488) rfl ?_
            show Steps p.tables e below (s₁.setTop (mkF m 490 #[.val (.int x0), .val (.int x1), .val (.int x2), .val (.int x3), .val (.int x4), .val (.int (0 : Int32)), .val (.int nn), .val (.int lo), .val (.int hi), .val (.int k1), .val (.int k0), .val (.int k1), .val (.int k2), .val (.int k3), .val (.int sel), .val (.int key), .val (.int ((((own_lt (0 : Int32) nn k0 key) + (own_lt (1 : Int32) nn k1 key)) + (own_lt (2 : Int32) nn k2 key)) + (own_lt (3 : Int32) nn k3 key))), .val (.int span), .unset, .unset, .unset] [(.int nn)])) _
            refine XS.iconst X0.here hx rfl (hb hby at_490) ?_
            show Steps p.tables e below (s₁.setTop (mkF m 491 #[.val (.int x0), .val (.int x1), .val (.int x2), .val (.int x3), .val (.int x4), .val (.int (0 : Int32)), .val (.int nn), .val (.int lo), .val (.int hi), .val (.int k1), .val (.int k0), .val (.int k1), .val (.int k2), .val (.int k3), .val (.int sel), .val (.int key), .val (.int ((((own_lt (0 : Int32) nn k0 key) + (own_lt (1 : Int32) nn k1 key)) + (own_lt (2 : Int32) nn k2 key)) + (own_lt (3 : Int32) nn k3 key))), .val (.int span), .unset, .unset, .unset] [(.int (3 : Int32)), (.int nn)])) _
            by_cases hc48 : (3 : Int32) < nn
            · refine XS.icmpNo X0.here hx rfl (hb hby at_491) rfl (tlt hc48).2.2.2 ?_
              show Steps p.tables e below (s₁.setTop (mkF m 494 #[.val (.int x0), .val (.int x1), .val (.int x2), .val (.int x3), .val (.int x4), .val (.int (0 : Int32)), .val (.int nn), .val (.int lo), .val (.int hi), .val (.int k1), .val (.int k0), .val (.int k1), .val (.int k2), .val (.int k3), .val (.int sel), .val (.int key), .val (.int ((((own_lt (0 : Int32) nn k0 key) + (own_lt (1 : Int32) nn k1 key)) + (own_lt (2 : Int32) nn k2 key)) + (own_lt (3 : Int32) nn k3 key))), .val (.int span), .unset, .unset, .unset] [])) _
              refine XS.iload X0.here hx rfl (hb hby at_494) rfl ?_
              show Steps p.tables e below (s₁.setTop (mkF m 496 #[.val (.int x0), .val (.int x1), .val (.int x2), .val (.int x3), .val (.int x4), .val (.int (0 : Int32)), .val (.int nn), .val (.int lo), .val (.int hi), .val (.int k1), .val (.int k0), .val (.int k1), .val (.int k2), .val (.int k3), .val (.int sel), .val (.int key), .val (.int ((((own_lt (0 : Int32) nn k0 key) + (own_lt (1 : Int32) nn k1 key)) + (own_lt (2 : Int32) nn k2 key)) + (own_lt (3 : Int32) nn k3 key))), .val (.int span), .unset, .unset, .unset] [(.int k3)])) _
              refine XS.iload X0.here hx rfl (hb hby at_496) rfl ?_
              show Steps p.tables e below (s₁.setTop (mkF m 498 #[.val (.int x0), .val (.int x1), .val (.int x2), .val (.int x3), .val (.int x4), .val (.int (0 : Int32)), .val (.int nn), .val (.int lo), .val (.int hi), .val (.int k1), .val (.int k0), .val (.int k1), .val (.int k2), .val (.int k3), .val (.int sel), .val (.int key), .val (.int ((((own_lt (0 : Int32) nn k0 key) + (own_lt (1 : Int32) nn k1 key)) + (own_lt (2 : Int32) nn k2 key)) + (own_lt (3 : Int32) nn k3 key))), .val (.int span), .unset, .unset, .unset] [(.int key), (.int k3)])) _
              by_cases hc49 : k3 = key
              · refine XS.icmpNo X0.here hx rfl (hb hby at_498) rfl (teq hc49).2 ?_
                show Steps p.tables e below (s₁.setTop (mkF m 501 #[.val (.int x0), .val (.int x1), .val (.int x2), .val (.int x3), .val (.int x4), .val (.int (0 : Int32)), .val (.int nn), .val (.int lo), .val (.int hi), .val (.int k1), .val (.int k0), .val (.int k1), .val (.int k2), .val (.int k3), .val (.int sel), .val (.int key), .val (.int ((((own_lt (0 : Int32) nn k0 key) + (own_lt (1 : Int32) nn k1 key)) + (own_lt (2 : Int32) nn k2 key)) + (own_lt (3 : Int32) nn k3 key))), .val (.int span), .unset, .unset, .unset] [])) _
                refine XS.iconst X0.here hx rfl (hb hby at_501) ?_
                show Steps p.tables e below (s₁.setTop (mkF m 502 #[.val (.int x0), .val (.int x1), .val (.int x2), .val (.int x3), .val (.int x4), .val (.int (0 : Int32)), .val (.int nn), .val (.int lo), .val (.int hi), .val (.int k1), .val (.int k0), .val (.int k1), .val (.int k2), .val (.int k3), .val (.int sel), .val (.int key), .val (.int ((((own_lt (0 : Int32) nn k0 key) + (own_lt (1 : Int32) nn k1 key)) + (own_lt (2 : Int32) nn k2 key)) + (own_lt (3 : Int32) nn k3 key))), .val (.int span), .unset, .unset, .unset] [(.int (1 : Int32))])) _
                refine XS.goto X0.here hx rfl (pc0 := 502) (pc' := 506) rfl (hb hby at_502) (by decide) (by decide) ?_
                show Steps p.tables e below (s₁.setTop (mkF m 506 #[.val (.int x0), .val (.int x1), .val (.int x2), .val (.int x3), .val (.int x4), .val (.int (0 : Int32)), .val (.int nn), .val (.int lo), .val (.int hi), .val (.int k1), .val (.int k0), .val (.int k1), .val (.int k2), .val (.int k3), .val (.int sel), .val (.int key), .val (.int ((((own_lt (0 : Int32) nn k0 key) + (own_lt (1 : Int32) nn k1 key)) + (own_lt (2 : Int32) nn k2 key)) + (own_lt (3 : Int32) nn k3 key))), .val (.int span), .unset, .unset, .unset] [(.int (1 : Int32))])) _
                have q0 : (own_fn nn k0 k1 k2 k3 key) = (1 : Int32) := by simp [own_fn, hc1, hc20, hc36, hc44, hc48, hc49]
                rw [q0] at kg
                exact kg
              · refine XS.icmpYes X0.here hx rfl (pc0 := 498) (pc' := 505) rfl (hb hby at_498) rfl (feq hc49).2 (by decide) (by decide) ?_
                show Steps p.tables e below (s₁.setTop (mkF m 505 #[.val (.int x0), .val (.int x1), .val (.int x2), .val (.int x3), .val (.int x4), .val (.int (0 : Int32)), .val (.int nn), .val (.int lo), .val (.int hi), .val (.int k1), .val (.int k0), .val (.int k1), .val (.int k2), .val (.int k3), .val (.int sel), .val (.int key), .val (.int ((((own_lt (0 : Int32) nn k0 key) + (own_lt (1 : Int32) nn k1 key)) + (own_lt (2 : Int32) nn k2 key)) + (own_lt (3 : Int32) nn k3 key))), .val (.int span), .unset, .unset, .unset] [])) _
                refine XS.iconst X0.here hx rfl (hb hby at_505) ?_
                show Steps p.tables e below (s₁.setTop (mkF m 506 #[.val (.int x0), .val (.int x1), .val (.int x2), .val (.int x3), .val (.int x4), .val (.int (0 : Int32)), .val (.int nn), .val (.int lo), .val (.int hi), .val (.int k1), .val (.int k0), .val (.int k1), .val (.int k2), .val (.int k3), .val (.int sel), .val (.int key), .val (.int ((((own_lt (0 : Int32) nn k0 key) + (own_lt (1 : Int32) nn k1 key)) + (own_lt (2 : Int32) nn k2 key)) + (own_lt (3 : Int32) nn k3 key))), .val (.int span), .unset, .unset, .unset] [(.int (0 : Int32))])) _
                have q0 : (own_fn nn k0 k1 k2 k3 key) = (0 : Int32) := by simp [own_fn, hc1, hc20, hc36, hc44, hc48, hc49]
                rw [q0] at kg
                exact kg
            · refine XS.icmpYes X0.here hx rfl (pc0 := 491) (pc' := 505) rfl (hb hby at_491) rfl (flt hc48).2.2.2 (by decide) (by decide) ?_
              show Steps p.tables e below (s₁.setTop (mkF m 505 #[.val (.int x0), .val (.int x1), .val (.int x2), .val (.int x3), .val (.int x4), .val (.int (0 : Int32)), .val (.int nn), .val (.int lo), .val (.int hi), .val (.int k1), .val (.int k0), .val (.int k1), .val (.int k2), .val (.int k3), .val (.int sel), .val (.int key), .val (.int ((((own_lt (0 : Int32) nn k0 key) + (own_lt (1 : Int32) nn k1 key)) + (own_lt (2 : Int32) nn k2 key)) + (own_lt (3 : Int32) nn k3 key))), .val (.int span), .unset, .unset, .unset] [])) _
              refine XS.iconst X0.here hx rfl (hb hby at_505) ?_
              show Steps p.tables e below (s₁.setTop (mkF m 506 #[.val (.int x0), .val (.int x1), .val (.int x2), .val (.int x3), .val (.int x4), .val (.int (0 : Int32)), .val (.int nn), .val (.int lo), .val (.int hi), .val (.int k1), .val (.int k0), .val (.int k1), .val (.int k2), .val (.int k3), .val (.int sel), .val (.int key), .val (.int ((((own_lt (0 : Int32) nn k0 key) + (own_lt (1 : Int32) nn k1 key)) + (own_lt (2 : Int32) nn k2 key)) + (own_lt (3 : Int32) nn k3 key))), .val (.int span), .unset, .unset, .unset] [(.int (0 : Int32))])) _
              have q0 : (own_fn nn k0 k1 k2 k3 key) = (0 : Int32) := by simp [own_fn, hc1, hc20, hc36, hc44, hc48]
              rw [q0] at kg
              exact kg
    show G (s₁.setTop (mkF m 506 #[.val (.int x0), .val (.int x1), .val (.int x2), .val (.int x3), .val (.int x4), .val (.int (0 : Int32)), .val (.int nn), .val (.int lo), .val (.int hi), .val (.int k1), .val (.int k0), .val (.int k1), .val (.int k2), .val (.int k3), .val (.int sel), .val (.int key), .val (.int ((((own_lt (0 : Int32) nn k0 key) + (own_lt (1 : Int32) nn k1 key)) + (own_lt (2 : Int32) nn k2 key)) + (own_lt (3 : Int32) nn k3 key))), .val (.int span), .unset, .unset, .unset] [(.int (own_fn nn k0 k1 k2 k3 key))]))
    refine go (fun tg kg => XS.istore X0.here hx rfl (hb hby at_506) rfl (l' := #[.val (.int x0), .val (.int x1), .val (.int x2), .val (.int x3), .val (.int x4), .val (.int (0 : Int32)), .val (.int nn), .val (.int lo), .val (.int hi), .val (.int k1), .val (.int k0), .val (.int k1), .val (.int k2), .val (.int k3), .val (.int sel), .val (.int key), .val (.int ((((own_lt (0 : Int32) nn k0 key) + (own_lt (1 : Int32) nn k1 key)) + (own_lt (2 : Int32) nn k2 key)) + (own_lt (3 : Int32) nn k3 key))), .val (.int (own_fn nn k0 k1 k2 k3 key)), .unset, .unset, .unset]) rfl kg) ?_
    show G (s₁.setTop (mkF m 508 #[.val (.int x0), .val (.int x1), .val (.int x2), .val (.int x3), .val (.int x4), .val (.int (0 : Int32)), .val (.int nn), .val (.int lo), .val (.int hi), .val (.int k1), .val (.int k0), .val (.int k1), .val (.int k2), .val (.int k3), .val (.int sel), .val (.int key), .val (.int ((((own_lt (0 : Int32) nn k0 key) + (own_lt (1 : Int32) nn k1 key)) + (own_lt (2 : Int32) nn k2 key)) + (own_lt (3 : Int32) nn k3 key))), .val (.int (own_fn nn k0 k1 k2 k3 key)), .unset, .unset, .unset] []))
    refine go (b := s₁.setTop (mkF m 558 #[.val (.int x0), .val (.int x1), .val (.int x2), .val (.int x3), .val (.int x4), .val (.int (0 : Int32)), .val (.int nn), .val (.int lo), .val (.int hi), .val (.int k1), .val (.int k0), .val (.int k1), .val (.int k2), .val (.int k3), .val (.int sel), .val (.int key), .val (.int ((((own_lt (0 : Int32) nn k0 key) + (own_lt (1 : Int32) nn k1 key)) + (own_lt (2 : Int32) nn k2 key)) + (own_lt (3 : Int32) nn k3 key))), .val (.int (own_fn nn k0 k1 k2 k3 key)), .unset, .unset, .unset] [(.int (own_told nn lo hi key))])) (fun tg kg => ?_) ?_
    · show Steps p.tables e below (s₁.setTop (mkF m 508 #[.val (.int x0), .val (.int x1), .val (.int x2), .val (.int x3), .val (.int x4), .val (.int (0 : Int32)), .val (.int nn), .val (.int lo), .val (.int hi), .val (.int k1), .val (.int k0), .val (.int k1), .val (.int k2), .val (.int k3), .val (.int sel), .val (.int key), .val (.int ((((own_lt (0 : Int32) nn k0 key) + (own_lt (1 : Int32) nn k1 key)) + (own_lt (2 : Int32) nn k2 key)) + (own_lt (3 : Int32) nn k3 key))), .val (.int (own_fn nn k0 k1 k2 k3 key)), .unset, .unset, .unset] [])) _
      refine XS.iload X0.here hx rfl (hb hby at_508) rfl ?_
      show Steps p.tables e below (s₁.setTop (mkF m 510 #[.val (.int x0), .val (.int x1), .val (.int x2), .val (.int x3), .val (.int x4), .val (.int (0 : Int32)), .val (.int nn), .val (.int lo), .val (.int hi), .val (.int k1), .val (.int k0), .val (.int k1), .val (.int k2), .val (.int k3), .val (.int sel), .val (.int key), .val (.int ((((own_lt (0 : Int32) nn k0 key) + (own_lt (1 : Int32) nn k1 key)) + (own_lt (2 : Int32) nn k2 key)) + (own_lt (3 : Int32) nn k3 key))), .val (.int (own_fn nn k0 k1 k2 k3 key)), .unset, .unset, .unset] [(.int nn)])) _
      by_cases hc50 : nn = (0 : Int32)
      · refine XS.ifYes X0.here hx rfl (pc0 := 510) (pc' := 553) rfl (hb hby at_510) rfl ((if0 _ _).trans (teq hc50).1) (by decide) (by decide) ?_
        show Steps p.tables e below (s₁.setTop (mkF m 553 #[.val (.int x0), .val (.int x1), .val (.int x2), .val (.int x3), .val (.int x4), .val (.int (0 : Int32)), .val (.int nn), .val (.int lo), .val (.int hi), .val (.int k1), .val (.int k0), .val (.int k1), .val (.int k2), .val (.int k3), .val (.int sel), .val (.int key), .val (.int ((((own_lt (0 : Int32) nn k0 key) + (own_lt (1 : Int32) nn k1 key)) + (own_lt (2 : Int32) nn k2 key)) + (own_lt (3 : Int32) nn k3 key))), .val (.int (own_fn nn k0 k1 k2 k3 key)), .unset, .unset, .unset] [])) _
        refine XS.iconst X0.here hx rfl (hb hby at_553) ?_
        show Steps p.tables e below (s₁.setTop (mkF m 554 #[.val (.int x0), .val (.int x1), .val (.int x2), .val (.int x3), .val (.int x4), .val (.int (0 : Int32)), .val (.int nn), .val (.int lo), .val (.int hi), .val (.int k1), .val (.int k0), .val (.int k1), .val (.int k2), .val (.int k3), .val (.int sel), .val (.int key), .val (.int ((((own_lt (0 : Int32) nn k0 key) + (own_lt (1 : Int32) nn k1 key)) + (own_lt (2 : Int32) nn k2 key)) + (own_lt (3 : Int32) nn k3 key))), .val (.int (own_fn nn k0 k1 k2 k3 key)), .unset, .unset, .unset] [(.int (1 : Int32))])) _
        refine XS.goto X0.here hx rfl (pc0 := 554) (pc' := 558) rfl (hb hby at_554) (by decide) (by decide) ?_
        show Steps p.tables e below (s₁.setTop (mkF m 558 #[.val (.int x0), .val (.int x1), .val (.int x2), .val (.int x3), .val (.int x4), .val (.int (0 : Int32)), .val (.int nn), .val (.int lo), .val (.int hi), .val (.int k1), .val (.int k0), .val (.int k1), .val (.int k2), .val (.int k3), .val (.int sel), .val (.int key), .val (.int ((((own_lt (0 : Int32) nn k0 key) + (own_lt (1 : Int32) nn k1 key)) + (own_lt (2 : Int32) nn k2 key)) + (own_lt (3 : Int32) nn k3 key))), .val (.int (own_fn nn k0 k1 k2 k3 key)), .unset, .unset, .unset] [(.int (1 : Int32))])) _
        have q0 : (own_told nn lo hi key) = (1 : Int32) := by simp only [own_told, if_pos hc1, if_pos hc50]
        rw [q0] at kg
        exact kg
      · refine XS.ifNo X0.here hx rfl (hb hby at_510) rfl ((if0 _ _).trans (feq hc50).1) ?_
        show Steps p.tables e below (s₁.setTop (mkF m 513 #[.val (.int x0), .val (.int x1), .val (.int x2), .val (.int x3), .val (.int x4), .val (.int (0 : Int32)), .val (.int nn), .val (.int lo), .val (.int hi), .val (.int k1), .val (.int k0), .val (.int k1), .val (.int k2), .val (.int k3), .val (.int sel), .val (.int key), .val (.int ((((own_lt (0 : Int32) nn k0 key) + (own_lt (1 : Int32) nn k1 key)) + (own_lt (2 : Int32) nn k2 key)) + (own_lt (3 : Int32) nn k3 key))), .val (.int (own_fn nn k0 k1 k2 k3 key)), .unset, .unset, .unset] [])) _
        refine XS.iload X0.here hx rfl (hb hby at_513) rfl ?_
        show Steps p.tables e below (s₁.setTop (mkF m 515 #[.val (.int x0), .val (.int x1), .val (.int x2), .val (.int x3), .val (.int x4), .val (.int (0 : Int32)), .val (.int nn), .val (.int lo), .val (.int hi), .val (.int k1), .val (.int k0), .val (.int k1), .val (.int k2), .val (.int k3), .val (.int sel), .val (.int key), .val (.int ((((own_lt (0 : Int32) nn k0 key) + (own_lt (1 : Int32) nn k1 key)) + (own_lt (2 : Int32) nn k2 key)) + (own_lt (3 : Int32) nn k3 key))), .val (.int (own_fn nn k0 k1 k2 k3 key)), .unset, .unset, .unset] [(.int key)])) _
        refine XS.iload X0.here hx rfl (hb hby at_515) rfl ?_
        show Steps p.tables e below (s₁.setTop (mkF m 517 #[.val (.int x0), .val (.int x1), .val (.int x2), .val (.int x3), .val (.int x4), .val (.int (0 : Int32)), .val (.int nn), .val (.int lo), .val (.int hi), .val (.int k1), .val (.int k0), .val (.int k1), .val (.int k2), .val (.int k3), .val (.int sel), .val (.int key), .val (.int ((((own_lt (0 : Int32) nn k0 key) + (own_lt (1 : Int32) nn k1 key)) + (own_lt (2 : Int32) nn k2 key)) + (own_lt (3 : Int32) nn k3 key))), .val (.int (own_fn nn k0 k1 k2 k3 key)), .unset, .unset, .unset] [(.int lo), (.int key)])) _
        by_cases hc51 : key < lo
        · refine XS.icmpYes X0.here hx rfl (pc0 := 517) (pc' := 553) rfl (hb hby at_517) rfl (tlt hc51).1 (by decide) (by decide) ?_
          show Steps p.tables e below (s₁.setTop (mkF m 553 #[.val (.int x0), .val (.int x1), .val (.int x2), .val (.int x3), .val (.int x4), .val (.int (0 : Int32)), .val (.int nn), .val (.int lo), .val (.int hi), .val (.int k1), .val (.int k0), .val (.int k1), .val (.int k2), .val (.int k3), .val (.int sel), .val (.int key), .val (.int ((((own_lt (0 : Int32) nn k0 key) + (own_lt (1 : Int32) nn k1 key)) + (own_lt (2 : Int32) nn k2 key)) + (own_lt (3 : Int32) nn k3 key))), .val (.int (own_fn nn k0 k1 k2 k3 key)), .unset, .unset, .unset] [])) _
          refine XS.iconst X0.here hx rfl (hb hby at_553) ?_
          show Steps p.tables e below (s₁.setTop (mkF m 554 #[.val (.int x0), .val (.int x1), .val (.int x2), .val (.int x3), .val (.int x4), .val (.int (0 : Int32)), .val (.int nn), .val (.int lo), .val (.int hi), .val (.int k1), .val (.int k0), .val (.int k1), .val (.int k2), .val (.int k3), .val (.int sel), .val (.int key), .val (.int ((((own_lt (0 : Int32) nn k0 key) + (own_lt (1 : Int32) nn k1 key)) + (own_lt (2 : Int32) nn k2 key)) + (own_lt (3 : Int32) nn k3 key))), .val (.int (own_fn nn k0 k1 k2 k3 key)), .unset, .unset, .unset] [(.int (1 : Int32))])) _
          refine XS.goto X0.here hx rfl (pc0 := 554) (pc' := 558) rfl (hb hby at_554) (by decide) (by decide) ?_
          show Steps p.tables e below (s₁.setTop (mkF m 558 #[.val (.int x0), .val (.int x1), .val (.int x2), .val (.int x3), .val (.int x4), .val (.int (0 : Int32)), .val (.int nn), .val (.int lo), .val (.int hi), .val (.int k1), .val (.int k0), .val (.int k1), .val (.int k2), .val (.int k3), .val (.int sel), .val (.int key), .val (.int ((((own_lt (0 : Int32) nn k0 key) + (own_lt (1 : Int32) nn k1 key)) + (own_lt (2 : Int32) nn k2 key)) + (own_lt (3 : Int32) nn k3 key))), .val (.int (own_fn nn k0 k1 k2 k3 key)), .unset, .unset, .unset] [(.int (1 : Int32))])) _
          have q0 : (own_told nn lo hi key) = (1 : Int32) := by simp only [own_told, if_pos hc1, if_neg hc50, if_pos hc51]
          rw [q0] at kg
          exact kg
        · refine XS.icmpNo X0.here hx rfl (hb hby at_517) rfl (flt hc51).1 ?_
          show Steps p.tables e below (s₁.setTop (mkF m 520 #[.val (.int x0), .val (.int x1), .val (.int x2), .val (.int x3), .val (.int x4), .val (.int (0 : Int32)), .val (.int nn), .val (.int lo), .val (.int hi), .val (.int k1), .val (.int k0), .val (.int k1), .val (.int k2), .val (.int k3), .val (.int sel), .val (.int key), .val (.int ((((own_lt (0 : Int32) nn k0 key) + (own_lt (1 : Int32) nn k1 key)) + (own_lt (2 : Int32) nn k2 key)) + (own_lt (3 : Int32) nn k3 key))), .val (.int (own_fn nn k0 k1 k2 k3 key)), .unset, .unset, .unset] [])) _
          refine XS.iload X0.here hx rfl (hb hby at_520) rfl ?_
          show Steps p.tables e below (s₁.setTop (mkF m 522 #[.val (.int x0), .val (.int x1), .val (.int x2), .val (.int x3), .val (.int x4), .val (.int (0 : Int32)), .val (.int nn), .val (.int lo), .val (.int hi), .val (.int k1), .val (.int k0), .val (.int k1), .val (.int k2), .val (.int k3), .val (.int sel), .val (.int key), .val (.int ((((own_lt (0 : Int32) nn k0 key) + (own_lt (1 : Int32) nn k1 key)) + (own_lt (2 : Int32) nn k2 key)) + (own_lt (3 : Int32) nn k3 key))), .val (.int (own_fn nn k0 k1 k2 k3 key)), .unset, .unset, .unset] [(.int key)])) _
          refine XS.iload X0.here hx rfl (hb hby at_522) rfl ?_
          show Steps p.tables e below (s₁.setTop (mkF m 524 #[.val (.int x0), .val (.int x1), .val (.int x2), .val (.int x3), .val (.int x4), .val (.int (0 : Int32)), .val (.int nn), .val (.int lo), .val (.int hi), .val (.int k1), .val (.int k0), .val (.int k1), .val (.int k2), .val (.int k3), .val (.int sel), .val (.int key), .val (.int ((((own_lt (0 : Int32) nn k0 key) + (own_lt (1 : Int32) nn k1 key)) + (own_lt (2 : Int32) nn k2 key)) + (own_lt (3 : Int32) nn k3 key))), .val (.int (own_fn nn k0 k1 k2 k3 key)), .unset, .unset, .unset] [(.int hi), (.int key)])) _
          by_cases hc52 : hi < key
          · refine XS.icmpYes X0.here hx rfl (pc0 := 524) (pc' := 553) rfl (hb hby at_524) rfl (tlt hc52).2.2.1 (by decide) (by decide) ?_
            show Steps p.tables e below (s₁.setTop (mkF m 553 #[.val (.int x0), .val (.int x1), .val (.int x2), .val (.int x3), .val (.int x4), .val (.int (0 : Int32)), .val (.int nn), .val (.int lo), .val (.int hi), .val (.int k1), .val (.int k0), .val (.int k1), .val (.int k2), .val (.int k3), .val (.int sel), .val (.int key), .val (.int ((((own_lt (0 : Int32) nn k0 key) + (own_lt (1 : Int32) nn k1 key)) + (own_lt (2 : Int32) nn k2 key)) + (own_lt (3 : Int32) nn k3 key))), .val (.int (own_fn nn k0 k1 k2 k3 key)), .unset, .unset, .unset] [])) _
            refine XS.iconst X0.here hx rfl (hb hby at_553) ?_
            show Steps p.tables e below (s₁.setTop (mkF m 554 #[.val (.int x0), .val (.int x1), .val (.int x2), .val (.int x3), .val (.int x4), .val (.int (0 : Int32)), .val (.int nn), .val (.int lo), .val (.int hi), .val (.int k1), .val (.int k0), .val (.int k1), .val (.int k2), .val (.int k3), .val (.int sel), .val (.int key), .val (.int ((((own_lt (0 : Int32) nn k0 key) + (own_lt (1 : Int32) nn k1 key)) + (own_lt (2 : Int32) nn k2 key)) + (own_lt (3 : Int32) nn k3 key))), .val (.int (own_fn nn k0 k1 k2 k3 key)), .unset, .unset, .unset] [(.int (1 : Int32))])) _
            refine XS.goto X0.here hx rfl (pc0 := 554) (pc' := 558) rfl (hb hby at_554) (by decide) (by decide) ?_
            show Steps p.tables e below (s₁.setTop (mkF m 558 #[.val (.int x0), .val (.int x1), .val (.int x2), .val (.int x3), .val (.int x4), .val (.int (0 : Int32)), .val (.int nn), .val (.int lo), .val (.int hi), .val (.int k1), .val (.int k0), .val (.int k1), .val (.int k2), .val (.int k3), .val (.int sel), .val (.int key), .val (.int ((((own_lt (0 : Int32) nn k0 key) + (own_lt (1 : Int32) nn k1 key)) + (own_lt (2 : Int32) nn k2 key)) + (own_lt (3 : Int32) nn k3 key))), .val (.int (own_fn nn k0 k1 k2 k3 key)), .unset, .unset, .unset] [(.int (1 : Int32))])) _
            have q0 : (own_told nn lo hi key) = (1 : Int32) := by simp only [own_told, if_pos hc1, if_neg hc50, if_neg hc51, if_pos hc52]
            rw [q0] at kg
            exact kg
          · refine XS.icmpNo X0.here hx rfl (hb hby at_524) rfl (flt hc52).2.2.1 ?_
            show Steps p.tables e below (s₁.setTop (mkF m 527 #[.val (.int x0), .val (.int x1), .val (.int x2), .val (.int x3), .val (.int x4), .val (.int (0 : Int32)), .val (.int nn), .val (.int lo), .val (.int hi), .val (.int k1), .val (.int k0), .val (.int k1), .val (.int k2), .val (.int k3), .val (.int sel), .val (.int key), .val (.int ((((own_lt (0 : Int32) nn k0 key) + (own_lt (1 : Int32) nn k1 key)) + (own_lt (2 : Int32) nn k2 key)) + (own_lt (3 : Int32) nn k3 key))), .val (.int (own_fn nn k0 k1 k2 k3 key)), .unset, .unset, .unset] [])) _
            refine XS.iload X0.here hx rfl (hb hby at_527) rfl ?_
            show Steps p.tables e below (s₁.setTop (mkF m 529 #[.val (.int x0), .val (.int x1), .val (.int x2), .val (.int x3), .val (.int x4), .val (.int (0 : Int32)), .val (.int nn), .val (.int lo), .val (.int hi), .val (.int k1), .val (.int k0), .val (.int k1), .val (.int k2), .val (.int k3), .val (.int sel), .val (.int key), .val (.int ((((own_lt (0 : Int32) nn k0 key) + (own_lt (1 : Int32) nn k1 key)) + (own_lt (2 : Int32) nn k2 key)) + (own_lt (3 : Int32) nn k3 key))), .val (.int (own_fn nn k0 k1 k2 k3 key)), .unset, .unset, .unset] [(.int key)])) _
            refine XS.iload X0.here hx rfl (hb hby at_529) rfl ?_
            show Steps p.tables e below (s₁.setTop (mkF m 531 #[.val (.int x0), .val (.int x1), .val (.int x2), .val (.int x3), .val (.int x4), .val (.int (0 : Int32)), .val (.int nn), .val (.int lo), .val (.int hi), .val (.int k1), .val (.int k0), .val (.int k1), .val (.int k2), .val (.int k3), .val (.int sel), .val (.int key), .val (.int ((((own_lt (0 : Int32) nn k0 key) + (own_lt (1 : Int32) nn k1 key)) + (own_lt (2 : Int32) nn k2 key)) + (own_lt (3 : Int32) nn k3 key))), .val (.int (own_fn nn k0 k1 k2 k3 key)), .unset, .unset, .unset] [(.int lo), (.int key)])) _
            by_cases hc53 : key = lo
            · refine XS.icmpYes X0.here hx rfl (pc0 := 531) (pc' := 553) rfl (hb hby at_531) rfl (teq hc53).1 (by decide) (by decide) ?_
              show Steps p.tables e below (s₁.setTop (mkF m 553 #[.val (.int x0), .val (.int x1), .val (.int x2), .val (.int x3), .val (.int x4), .val (.int (0 : Int32)), .val (.int nn), .val (.int lo), .val (.int hi), .val (.int k1), .val (.int k0), .val (.int k1), .val (.int k2), .val (.int k3), .val (.int sel), .val (.int key), .val (.int ((((own_lt (0 : Int32) nn k0 key) + (own_lt (1 : Int32) nn k1 key)) + (own_lt (2 : Int32) nn k2 key)) + (own_lt (3 : Int32) nn k3 key))), .val (.int (own_fn nn k0 k1 k2 k3 key)), .unset, .unset, .unset] [])) _
              refine XS.iconst X0.here hx rfl (hb hby at_553) ?_
              show Steps p.tables e below (s₁.setTop (mkF m 554 #[.val (.int x0), .val (.int x1), .val (.int x2), .val (.int x3), .val (.int x4), .val (.int (0 : Int32)), .val (.int nn), .val (.int lo), .val (.int hi), .val (.int k1), .val (.int k0), .val (.int k1), .val (.int k2), .val (.int k3), .val (.int sel), .val (.int key), .val (.int ((((own_lt (0 : Int32) nn k0 key) + (own_lt (1 : Int32) nn k1 key)) + (own_lt (2 : Int32) nn k2 key)) + (own_lt (3 : Int32) nn k3 key))), .val (.int (own_fn nn k0 k1 k2 k3 key)), .unset, .unset, .unset] [(.int (1 : Int32))])) _
              refine XS.goto X0.here hx rfl (pc0 := 554) (pc' := 558) rfl (hb hby at_554) (by decide) (by decide) ?_
              show Steps p.tables e below (s₁.setTop (mkF m 558 #[.val (.int x0), .val (.int x1), .val (.int x2), .val (.int x3), .val (.int x4), .val (.int (0 : Int32)), .val (.int nn), .val (.int lo), .val (.int hi), .val (.int k1), .val (.int k0), .val (.int k1), .val (.int k2), .val (.int k3), .val (.int sel), .val (.int key), .val (.int ((((own_lt (0 : Int32) nn k0 key) + (own_lt (1 : Int32) nn k1 key)) + (own_lt (2 : Int32) nn k2 key)) + (own_lt (3 : Int32) nn k3 key))), .val (.int (own_fn nn k0 k1 k2 k3 key)), .unset, .unset, .unset] [(.int (1 : Int32))])) _
              have q0 : (own_told nn lo hi key) = (1 : Int32) := by simp only [own_told, if_pos hc1, if_neg hc50, if_neg hc51, if_neg hc52, if_pos hc53]
              rw [q0] at kg
              exact kg
            · refine XS.icmpNo X0.here hx rfl (hb hby at_531) rfl (feq hc53).1 ?_
              show Steps p.tables e below (s₁.setTop (mkF m 534 #[.val (.int x0), .val (.int x1), .val (.int x2), .val (.int x3), .val (.int x4), .val (.int (0 : Int32)), .val (.int nn), .val (.int lo), .val (.int hi), .val (.int k1), .val (.int k0), .val (.int k1), .val (.int k2), .val (.int k3), .val (.int sel), .val (.int key), .val (.int ((((own_lt (0 : Int32) nn k0 key) + (own_lt (1 : Int32) nn k1 key)) + (own_lt (2 : Int32) nn k2 key)) + (own_lt (3 : Int32) nn k3 key))), .val (.int (own_fn nn k0 k1 k2 k3 key)), .unset, .unset, .unset] [])) _
              refine XS.iload X0.here hx rfl (hb hby at_534) rfl ?_
              show Steps p.tables e below (s₁.setTop (mkF m 536 #[.val (.int x0), .val (.int x1), .val (.int x2), .val (.int x3), .val (.int x4), .val (.int (0 : Int32)), .val (.int nn), .val (.int lo), .val (.int hi), .val (.int k1), .val (.int k0), .val (.int k1), .val (.int k2), .val (.int k3), .val (.int sel), .val (.int key), .val (.int ((((own_lt (0 : Int32) nn k0 key) + (own_lt (1 : Int32) nn k1 key)) + (own_lt (2 : Int32) nn k2 key)) + (own_lt (3 : Int32) nn k3 key))), .val (.int (own_fn nn k0 k1 k2 k3 key)), .unset, .unset, .unset] [(.int key)])) _
              refine XS.iload X0.here hx rfl (hb hby at_536) rfl ?_
              show Steps p.tables e below (s₁.setTop (mkF m 538 #[.val (.int x0), .val (.int x1), .val (.int x2), .val (.int x3), .val (.int x4), .val (.int (0 : Int32)), .val (.int nn), .val (.int lo), .val (.int hi), .val (.int k1), .val (.int k0), .val (.int k1), .val (.int k2), .val (.int k3), .val (.int sel), .val (.int key), .val (.int ((((own_lt (0 : Int32) nn k0 key) + (own_lt (1 : Int32) nn k1 key)) + (own_lt (2 : Int32) nn k2 key)) + (own_lt (3 : Int32) nn k3 key))), .val (.int (own_fn nn k0 k1 k2 k3 key)), .unset, .unset, .unset] [(.int hi), (.int key)])) _
              by_cases hc54 : key = hi
              · refine XS.icmpYes X0.here hx rfl (pc0 := 538) (pc' := 553) rfl (hb hby at_538) rfl (teq hc54).1 (by decide) (by decide) ?_
                show Steps p.tables e below (s₁.setTop (mkF m 553 #[.val (.int x0), .val (.int x1), .val (.int x2), .val (.int x3), .val (.int x4), .val (.int (0 : Int32)), .val (.int nn), .val (.int lo), .val (.int hi), .val (.int k1), .val (.int k0), .val (.int k1), .val (.int k2), .val (.int k3), .val (.int sel), .val (.int key), .val (.int ((((own_lt (0 : Int32) nn k0 key) + (own_lt (1 : Int32) nn k1 key)) + (own_lt (2 : Int32) nn k2 key)) + (own_lt (3 : Int32) nn k3 key))), .val (.int (own_fn nn k0 k1 k2 k3 key)), .unset, .unset, .unset] [])) _
                refine XS.iconst X0.here hx rfl (hb hby at_553) ?_
                show Steps p.tables e below (s₁.setTop (mkF m 554 #[.val (.int x0), .val (.int x1), .val (.int x2), .val (.int x3), .val (.int x4), .val (.int (0 : Int32)), .val (.int nn), .val (.int lo), .val (.int hi), .val (.int k1), .val (.int k0), .val (.int k1), .val (.int k2), .val (.int k3), .val (.int sel), .val (.int key), .val (.int ((((own_lt (0 : Int32) nn k0 key) + (own_lt (1 : Int32) nn k1 key)) + (own_lt (2 : Int32) nn k2 key)) + (own_lt (3 : Int32) nn k3 key))), .val (.int (own_fn nn k0 k1 k2 k3 key)), .unset, .unset, .unset] [(.int (1 : Int32))])) _
                refine XS.goto X0.here hx rfl (pc0 := 554) (pc' := 558) rfl (hb hby at_554) (by decide) (by decide) ?_
                show Steps p.tables e below (s₁.setTop (mkF m 558 #[.val (.int x0), .val (.int x1), .val (.int x2), .val (.int x3), .val (.int x4), .val (.int (0 : Int32)), .val (.int nn), .val (.int lo), .val (.int hi), .val (.int k1), .val (.int k0), .val (.int k1), .val (.int k2), .val (.int k3), .val (.int sel), .val (.int key), .val (.int ((((own_lt (0 : Int32) nn k0 key) + (own_lt (1 : Int32) nn k1 key)) + (own_lt (2 : Int32) nn k2 key)) + (own_lt (3 : Int32) nn k3 key))), .val (.int (own_fn nn k0 k1 k2 k3 key)), .unset, .unset, .unset] [(.int (1 : Int32))])) _
                have q0 : (own_told nn lo hi key) = (1 : Int32) := by simp only [own_told, if_pos hc1, if_neg hc50, if_neg hc51, if_neg hc52, if_neg hc53, if_pos hc54]
                rw [q0] at kg
                exact kg
              · refine XS.icmpNo X0.here hx rfl (hb hby at_538) rfl (feq hc54).1 ?_
                show Steps p.tables e below (s₁.setTop (mkF m 541 #[.val (.int x0), .val (.int x1), .val (.int x2), .val (.int x3), .val (.int x4), .val (.int (0 : Int32)), .val (.int nn), .val (.int lo), .val (.int hi), .val (.int k1), .val (.int k0), .val (.int k1), .val (.int k2), .val (.int k3), .val (.int sel), .val (.int key), .val (.int ((((own_lt (0 : Int32) nn k0 key) + (own_lt (1 : Int32) nn k1 key)) + (own_lt (2 : Int32) nn k2 key)) + (own_lt (3 : Int32) nn k3 key))), .val (.int (own_fn nn k0 k1 k2 k3 key)), .unset, .unset, .unset] [])) _
                refine XS.iload X0.here hx rfl (hb hby at_541) rfl ?_
                show Steps p.tables e below (s₁.setTop (mkF m 543 #[.val (.int x0), .val (.int x1), .val (.int x2), .val (.int x3), .val (.int x4), .val (.int (0 : Int32)), .val (.int nn), .val (.int lo), .val (.int hi), .val (.int k1), .val (.int k0), .val (.int k1), .val (.int k2), .val (.int k3), .val (.int sel), .val (.int key), .val (.int ((((own_lt (0 : Int32) nn k0 key) + (own_lt (1 : Int32) nn k1 key)) + (own_lt (2 : Int32) nn k2 key)) + (own_lt (3 : Int32) nn k3 key))), .val (.int (own_fn nn k0 k1 k2 k3 key)), .unset, .unset, .unset] [(.int hi)])) _
                refine XS.iload X0.here hx rfl (hb hby at_543) rfl ?_
                show Steps p.tables e below (s₁.setTop (mkF m 545 #[.val (.int x0), .val (.int x1), .val (.int x2), .val (.int x3), .val (.int x4), .val (.int (0 : Int32)), .val (.int nn), .val (.int lo), .val (.int hi), .val (.int k1), .val (.int k0), .val (.int k1), .val (.int k2), .val (.int k3), .val (.int sel), .val (.int key), .val (.int ((((own_lt (0 : Int32) nn k0 key) + (own_lt (1 : Int32) nn k1 key)) + (own_lt (2 : Int32) nn k2 key)) + (own_lt (3 : Int32) nn k3 key))), .val (.int (own_fn nn k0 k1 k2 k3 key)), .unset, .unset, .unset] [(.int lo), (.int hi)])) _
                refine XS.isub X0.here hx rfl (hb hby at_545) rfl ?_
                show Steps p.tables e below (s₁.setTop (mkF m 546 #[.val (.int x0), .val (.int x1), .val (.int x2), .val (.int x3), .val (.int x4), .val (.int (0 : Int32)), .val (.int nn), .val (.int lo), .val (.int hi), .val (.int k1), .val (.int k0), .val (.int k1), .val (.int k2), .val (.int k3), .val (.int sel), .val (.int key), .val (.int ((((own_lt (0 : Int32) nn k0 key) + (own_lt (1 : Int32) nn k1 key)) + (own_lt (2 : Int32) nn k2 key)) + (own_lt (3 : Int32) nn k3 key))), .val (.int (own_fn nn k0 k1 k2 k3 key)), .unset, .unset, .unset] [(.int (hi - lo))])) _
                refine XS.iconst X0.here hx rfl (hb hby at_546) ?_
                show Steps p.tables e below (s₁.setTop (mkF m 547 #[.val (.int x0), .val (.int x1), .val (.int x2), .val (.int x3), .val (.int x4), .val (.int (0 : Int32)), .val (.int nn), .val (.int lo), .val (.int hi), .val (.int k1), .val (.int k0), .val (.int k1), .val (.int k2), .val (.int k3), .val (.int sel), .val (.int key), .val (.int ((((own_lt (0 : Int32) nn k0 key) + (own_lt (1 : Int32) nn k1 key)) + (own_lt (2 : Int32) nn k2 key)) + (own_lt (3 : Int32) nn k3 key))), .val (.int (own_fn nn k0 k1 k2 k3 key)), .unset, .unset, .unset] [(.int (1 : Int32)), (.int (hi - lo))])) _
                refine XS.iadd X0.here hx rfl (hb hby at_547) rfl ?_
                show Steps p.tables e below (s₁.setTop (mkF m 548 #[.val (.int x0), .val (.int x1), .val (.int x2), .val (.int x3), .val (.int x4), .val (.int (0 : Int32)), .val (.int nn), .val (.int lo), .val (.int hi), .val (.int k1), .val (.int k0), .val (.int k1), .val (.int k2), .val (.int k3), .val (.int sel), .val (.int key), .val (.int ((((own_lt (0 : Int32) nn k0 key) + (own_lt (1 : Int32) nn k1 key)) + (own_lt (2 : Int32) nn k2 key)) + (own_lt (3 : Int32) nn k3 key))), .val (.int (own_fn nn k0 k1 k2 k3 key)), .unset, .unset, .unset] [(.int ((hi - lo) + (1 : Int32)))])) _
                refine XS.iload X0.here hx rfl (hb hby at_548) rfl ?_
                show Steps p.tables e below (s₁.setTop (mkF m 550 #[.val (.int x0), .val (.int x1), .val (.int x2), .val (.int x3), .val (.int x4), .val (.int (0 : Int32)), .val (.int nn), .val (.int lo), .val (.int hi), .val (.int k1), .val (.int k0), .val (.int k1), .val (.int k2), .val (.int k3), .val (.int sel), .val (.int key), .val (.int ((((own_lt (0 : Int32) nn k0 key) + (own_lt (1 : Int32) nn k1 key)) + (own_lt (2 : Int32) nn k2 key)) + (own_lt (3 : Int32) nn k3 key))), .val (.int (own_fn nn k0 k1 k2 k3 key)), .unset, .unset, .unset] [(.int nn), (.int ((hi - lo) + (1 : Int32)))])) _
                by_cases hc55 : ((hi - lo) + (1 : Int32)) = nn
                · refine XS.icmpNo X0.here hx rfl (hb hby at_550) rfl (teq hc55).2 ?_
                  show Steps p.tables e below (s₁.setTop (mkF m 553 #[.val (.int x0), .val (.int x1), .val (.int x2), .val (.int x3), .val (.int x4), .val (.int (0 : Int32)), .val (.int nn), .val (.int lo), .val (.int hi), .val (.int k1), .val (.int k0), .val (.int k1), .val (.int k2), .val (.int k3), .val (.int sel), .val (.int key), .val (.int ((((own_lt (0 : Int32) nn k0 key) + (own_lt (1 : Int32) nn k1 key)) + (own_lt (2 : Int32) nn k2 key)) + (own_lt (3 : Int32) nn k3 key))), .val (.int (own_fn nn k0 k1 k2 k3 key)), .unset, .unset, .unset] [])) _
                  refine XS.iconst X0.here hx rfl (hb hby at_553) ?_
                  show Steps p.tables e below (s₁.setTop (mkF m 554 #[.val (.int x0), .val (.int x1), .val (.int x2), .val (.int x3), .val (.int x4), .val (.int (0 : Int32)), .val (.int nn), .val (.int lo), .val (.int hi), .val (.int k1), .val (.int k0), .val (.int k1), .val (.int k2), .val (.int k3), .val (.int sel), .val (.int key), .val (.int ((((own_lt (0 : Int32) nn k0 key) + (own_lt (1 : Int32) nn k1 key)) + (own_lt (2 : Int32) nn k2 key)) + (own_lt (3 : Int32) nn k3 key))), .val (.int (own_fn nn k0 k1 k2 k3 key)), .unset, .unset, .unset] [(.int (1 : Int32))])) _
                  refine XS.goto X0.here hx rfl (pc0 := 554) (pc' := 558) rfl (hb hby at_554) (by decide) (by decide) ?_
                  show Steps p.tables e below (s₁.setTop (mkF m 558 #[.val (.int x0), .val (.int x1), .val (.int x2), .val (.int x3), .val (.int x4), .val (.int (0 : Int32)), .val (.int nn), .val (.int lo), .val (.int hi), .val (.int k1), .val (.int k0), .val (.int k1), .val (.int k2), .val (.int k3), .val (.int sel), .val (.int key), .val (.int ((((own_lt (0 : Int32) nn k0 key) + (own_lt (1 : Int32) nn k1 key)) + (own_lt (2 : Int32) nn k2 key)) + (own_lt (3 : Int32) nn k3 key))), .val (.int (own_fn nn k0 k1 k2 k3 key)), .unset, .unset, .unset] [(.int (1 : Int32))])) _
                  have q0 : (own_told nn lo hi key) = (1 : Int32) := by simp only [own_told, if_pos hc1, if_neg hc50, if_neg hc51, if_neg hc52, if_neg hc53, if_neg hc54, if_pos hc55]
                  rw [q0] at kg
                  exact kg
                · refine XS.icmpYes X0.here hx rfl (pc0 := 550) (pc' := 557) rfl (hb hby at_550) rfl (feq hc55).2 (by decide) (by decide) ?_
                  show Steps p.tables e below (s₁.setTop (mkF m 557 #[.val (.int x0), .val (.int x1), .val (.int x2), .val (.int x3), .val (.int x4), .val (.int (0 : Int32)), .val (.int nn), .val (.int lo), .val (.int hi), .val (.int k1), .val (.int k0), .val (.int k1), .val (.int k2), .val (.int k3), .val (.int sel), .val (.int key), .val (.int ((((own_lt (0 : Int32) nn k0 key) + (own_lt (1 : Int32) nn k1 key)) + (own_lt (2 : Int32) nn k2 key)) + (own_lt (3 : Int32) nn k3 key))), .val (.int (own_fn nn k0 k1 k2 k3 key)), .unset, .unset, .unset] [])) _
                  refine XS.iconst X0.here hx rfl (hb hby at_557) ?_
                  show Steps p.tables e below (s₁.setTop (mkF m 558 #[.val (.int x0), .val (.int x1), .val (.int x2), .val (.int x3), .val (.int x4), .val (.int (0 : Int32)), .val (.int nn), .val (.int lo), .val (.int hi), .val (.int k1), .val (.int k0), .val (.int k1), .val (.int k2), .val (.int k3), .val (.int sel), .val (.int key), .val (.int ((((own_lt (0 : Int32) nn k0 key) + (own_lt (1 : Int32) nn k1 key)) + (own_lt (2 : Int32) nn k2 key)) + (own_lt (3 : Int32) nn k3 key))), .val (.int (own_fn nn k0 k1 k2 k3 key)), .unset, .unset, .unset] [(.int (0 : Int32))])) _
                  have q0 : (own_told nn lo hi key) = (0 : Int32) := by simp only [own_told, if_pos hc1, if_neg hc50, if_neg hc51, if_neg hc52, if_neg hc53, if_neg hc54, if_neg hc55]
                  rw [q0] at kg
                  exact kg
    show G (s₁.setTop (mkF m 558 #[.val (.int x0), .val (.int x1), .val (.int x2), .val (.int x3), .val (.int x4), .val (.int (0 : Int32)), .val (.int nn), .val (.int lo), .val (.int hi), .val (.int k1), .val (.int k0), .val (.int k1), .val (.int k2), .val (.int k3), .val (.int sel), .val (.int key), .val (.int ((((own_lt (0 : Int32) nn k0 key) + (own_lt (1 : Int32) nn k1 key)) + (own_lt (2 : Int32) nn k2 key)) + (own_lt (3 : Int32) nn k3 key))), .val (.int (own_fn nn k0 k1 k2 k3 key)), .unset, .unset, .unset] [(.int (own_told nn lo hi key))]))
    refine go (fun tg kg => XS.istore X0.here hx rfl (hb hby at_558) rfl (l' := #[.val (.int x0), .val (.int x1), .val (.int x2), .val (.int x3), .val (.int x4), .val (.int (0 : Int32)), .val (.int nn), .val (.int lo), .val (.int hi), .val (.int k1), .val (.int k0), .val (.int k1), .val (.int k2), .val (.int k3), .val (.int sel), .val (.int key), .val (.int ((((own_lt (0 : Int32) nn k0 key) + (own_lt (1 : Int32) nn k1 key)) + (own_lt (2 : Int32) nn k2 key)) + (own_lt (3 : Int32) nn k3 key))), .val (.int (own_fn nn k0 k1 k2 k3 key)), .val (.int (own_told nn lo hi key)), .unset, .unset]) rfl kg) ?_
    show G (s₁.setTop (mkF m 560 #[.val (.int x0), .val (.int x1), .val (.int x2), .val (.int x3), .val (.int x4), .val (.int (0 : Int32)), .val (.int nn), .val (.int lo), .val (.int hi), .val (.int k1), .val (.int k0), .val (.int k1), .val (.int k2), .val (.int k3), .val (.int sel), .val (.int key), .val (.int ((((own_lt (0 : Int32) nn k0 key) + (own_lt (1 : Int32) nn k1 key)) + (own_lt (2 : Int32) nn k2 key)) + (own_lt (3 : Int32) nn k3 key))), .val (.int (own_fn nn k0 k1 k2 k3 key)), .val (.int (own_told nn lo hi key)), .unset, .unset] []))
    refine go (b := s₁.setTop (mkF m 575 #[.val (.int x0), .val (.int x1), .val (.int x2), .val (.int x3), .val (.int x4), .val (.int (0 : Int32)), .val (.int nn), .val (.int lo), .val (.int hi), .val (.int k1), .val (.int k0), .val (.int k1), .val (.int k2), .val (.int k3), .val (.int sel), .val (.int key), .val (.int ((((own_lt (0 : Int32) nn k0 key) + (own_lt (1 : Int32) nn k1 key)) + (own_lt (2 : Int32) nn k2 key)) + (own_lt (3 : Int32) nn k3 key))), .val (.int (own_fn nn k0 k1 k2 k3 key)), .val (.int (own_told nn lo hi key)), .unset, .unset] [(.int (own_ex (own_fn nn k0 k1 k2 k3 key) ((((own_lt (0 : Int32) nn k0 key) + (own_lt (1 : Int32) nn k1 key)) + (own_lt (2 : Int32) nn k2 key)) + (own_lt (3 : Int32) nn k3 key))))])) (fun tg kg => ?_) ?_
    · show Steps p.tables e below (s₁.setTop (mkF m 560 #[.val (.int x0), .val (.int x1), .val (.int x2), .val (.int x3), .val (.int x4), .val (.int (0 : Int32)), .val (.int nn), .val (.int lo), .val (.int hi), .val (.int k1), .val (.int k0), .val (.int k1), .val (.int k2), .val (.int k3), .val (.int sel), .val (.int key), .val (.int ((((own_lt (0 : Int32) nn k0 key) + (own_lt (1 : Int32) nn k1 key)) + (own_lt (2 : Int32) nn k2 key)) + (own_lt (3 : Int32) nn k3 key))), .val (.int (own_fn nn k0 k1 k2 k3 key)), .val (.int (own_told nn lo hi key)), .unset, .unset] [])) _
      refine XS.iload X0.here hx rfl (hb hby at_560) rfl ?_
      show Steps p.tables e below (s₁.setTop (mkF m 562 #[.val (.int x0), .val (.int x1), .val (.int x2), .val (.int x3), .val (.int x4), .val (.int (0 : Int32)), .val (.int nn), .val (.int lo), .val (.int hi), .val (.int k1), .val (.int k0), .val (.int k1), .val (.int k2), .val (.int k3), .val (.int sel), .val (.int key), .val (.int ((((own_lt (0 : Int32) nn k0 key) + (own_lt (1 : Int32) nn k1 key)) + (own_lt (2 : Int32) nn k2 key)) + (own_lt (3 : Int32) nn k3 key))), .val (.int (own_fn nn k0 k1 k2 k3 key)), .val (.int (own_told nn lo hi key)), .unset, .unset] [(.int (own_fn nn k0 k1 k2 k3 key))])) _
      by_cases hc56 : (own_fn nn k0 k1 k2 k3 key) = (0 : Int32)
      · refine XS.ifYes X0.here hx rfl (pc0 := 562) (pc' := 570) rfl (hb hby at_562) rfl ((if0 _ _).trans (teq hc56).1) (by decide) (by decide) ?_
        show Steps p.tables e below (s₁.setTop (mkF m 570 #[.val (.int x0), .val (.int x1), .val (.int x2), .val (.int x3), .val (.int x4), .val (.int (0 : Int32)), .val (.int nn), .val (.int lo), .val (.int hi), .val (.int k1), .val (.int k0), .val (.int k1), .val (.int k2), .val (.int k3), .val (.int sel), .val (.int key), .val (.int ((((own_lt (0 : Int32) nn k0 key) + (own_lt (1 : Int32) nn k1 key)) + (own_lt (2 : Int32) nn k2 key)) + (own_lt (3 : Int32) nn k3 key))), .val (.int (own_fn nn k0 k1 k2 k3 key)), .val (.int (own_told nn lo hi key)), .unset, .unset] [])) _
        refine XS.iload X0.here hx rfl (hb hby at_570) rfl ?_
        show Steps p.tables e below (s₁.setTop (mkF m 572 #[.val (.int x0), .val (.int x1), .val (.int x2), .val (.int x3), .val (.int x4), .val (.int (0 : Int32)), .val (.int nn), .val (.int lo), .val (.int hi), .val (.int k1), .val (.int k0), .val (.int k1), .val (.int k2), .val (.int k3), .val (.int sel), .val (.int key), .val (.int ((((own_lt (0 : Int32) nn k0 key) + (own_lt (1 : Int32) nn k1 key)) + (own_lt (2 : Int32) nn k2 key)) + (own_lt (3 : Int32) nn k3 key))), .val (.int (own_fn nn k0 k1 k2 k3 key)), .val (.int (own_told nn lo hi key)), .unset, .unset] [(.int ((((own_lt (0 : Int32) nn k0 key) + (own_lt (1 : Int32) nn k1 key)) + (own_lt (2 : Int32) nn k2 key)) + (own_lt (3 : Int32) nn k3 key)))])) _
        refine XS.ineg X0.here hx rfl (hb hby at_572) rfl ?_
        show Steps p.tables e below (s₁.setTop (mkF m 573 #[.val (.int x0), .val (.int x1), .val (.int x2), .val (.int x3), .val (.int x4), .val (.int (0 : Int32)), .val (.int nn), .val (.int lo), .val (.int hi), .val (.int k1), .val (.int k0), .val (.int k1), .val (.int k2), .val (.int k3), .val (.int sel), .val (.int key), .val (.int ((((own_lt (0 : Int32) nn k0 key) + (own_lt (1 : Int32) nn k1 key)) + (own_lt (2 : Int32) nn k2 key)) + (own_lt (3 : Int32) nn k3 key))), .val (.int (own_fn nn k0 k1 k2 k3 key)), .val (.int (own_told nn lo hi key)), .unset, .unset] [(.int (-((((own_lt (0 : Int32) nn k0 key) + (own_lt (1 : Int32) nn k1 key)) + (own_lt (2 : Int32) nn k2 key)) + (own_lt (3 : Int32) nn k3 key))))])) _
        refine XS.iconst X0.here hx rfl (hb hby at_573) ?_
        show Steps p.tables e below (s₁.setTop (mkF m 574 #[.val (.int x0), .val (.int x1), .val (.int x2), .val (.int x3), .val (.int x4), .val (.int (0 : Int32)), .val (.int nn), .val (.int lo), .val (.int hi), .val (.int k1), .val (.int k0), .val (.int k1), .val (.int k2), .val (.int k3), .val (.int sel), .val (.int key), .val (.int ((((own_lt (0 : Int32) nn k0 key) + (own_lt (1 : Int32) nn k1 key)) + (own_lt (2 : Int32) nn k2 key)) + (own_lt (3 : Int32) nn k3 key))), .val (.int (own_fn nn k0 k1 k2 k3 key)), .val (.int (own_told nn lo hi key)), .unset, .unset] [(.int (1 : Int32)), (.int (-((((own_lt (0 : Int32) nn k0 key) + (own_lt (1 : Int32) nn k1 key)) + (own_lt (2 : Int32) nn k2 key)) + (own_lt (3 : Int32) nn k3 key))))])) _
        refine XS.isub X0.here hx rfl (hb hby at_574) rfl ?_
        show Steps p.tables e below (s₁.setTop (mkF m 575 #[.val (.int x0), .val (.int x1), .val (.int x2), .val (.int x3), .val (.int x4), .val (.int (0 : Int32)), .val (.int nn), .val (.int lo), .val (.int hi), .val (.int k1), .val (.int k0), .val (.int k1), .val (.int k2), .val (.int k3), .val (.int sel), .val (.int key), .val (.int ((((own_lt (0 : Int32) nn k0 key) + (own_lt (1 : Int32) nn k1 key)) + (own_lt (2 : Int32) nn k2 key)) + (own_lt (3 : Int32) nn k3 key))), .val (.int (own_fn nn k0 k1 k2 k3 key)), .val (.int (own_told nn lo hi key)), .unset, .unset] [(.int ((-((((own_lt (0 : Int32) nn k0 key) + (own_lt (1 : Int32) nn k1 key)) + (own_lt (2 : Int32) nn k2 key)) + (own_lt (3 : Int32) nn k3 key))) - (1 : Int32)))])) _
        have q0 : (own_ex (own_fn nn k0 k1 k2 k3 key) ((((own_lt (0 : Int32) nn k0 key) + (own_lt (1 : Int32) nn k1 key)) + (own_lt (2 : Int32) nn k2 key)) + (own_lt (3 : Int32) nn k3 key))) = ((-((((own_lt (0 : Int32) nn k0 key) + (own_lt (1 : Int32) nn k1 key)) + (own_lt (2 : Int32) nn k2 key)) + (own_lt (3 : Int32) nn k3 key))) - (1 : Int32)) := by simp only [own_ex, if_pos hc1, if_pos hc56]
        rw [q0] at kg
        exact kg
      · refine XS.ifNo X0.here hx rfl (hb hby at_562) rfl ((if0 _ _).trans (feq hc56).1) ?_
        show Steps p.tables e below (s₁.setTop (mkF m 565 #[.val (.int x0), .val (.int x1), .val (.int x2), .val (.int x3), .val (.int x4), .val (.int (0 : Int32)), .val (.int nn), .val (.int lo), .val (.int hi), .val (.int k1), .val (.int k0), .val (.int k1), .val (.int k2), .val (.int k3), .val (.int sel), .val (.int key), .val (.int ((((own_lt (0 : Int32) nn k0 key) + (own_lt (1 : Int32) nn k1 key)) + (own_lt (2 : Int32) nn k2 key)) + (own_lt (3 : Int32) nn k3 key))), .val (.int (own_fn nn k0 k1 k2 k3 key)), .val (.int (own_told nn lo hi key)), .unset, .unset] [])) _
        refine XS.iload X0.here hx rfl (hb hby at_565) rfl ?_
        show Steps p.tables e below (s₁.setTop (mkF m 567 #[.val (.int x0), .val (.int x1), .val (.int x2), .val (.int x3), .val (.int x4), .val (.int (0 : Int32)), .val (.int nn), .val (.int lo), .val (.int hi), .val (.int k1), .val (.int k0), .val (.int k1), .val (.int k2), .val (.int k3), .val (.int sel), .val (.int key), .val (.int ((((own_lt (0 : Int32) nn k0 key) + (own_lt (1 : Int32) nn k1 key)) + (own_lt (2 : Int32) nn k2 key)) + (own_lt (3 : Int32) nn k3 key))), .val (.int (own_fn nn k0 k1 k2 k3 key)), .val (.int (own_told nn lo hi key)), .unset, .unset] [(.int ((((own_lt (0 : Int32) nn k0 key) + (own_lt (1 : Int32) nn k1 key)) + (own_lt (2 : Int32) nn k2 key)) + (own_lt (3 : Int32) nn k3 key)))])) _
        refine XS.goto X0.here hx rfl (pc0 := 567) (pc' := 575) rfl (hb hby at_567) (by decide) (by decide) ?_
        show Steps p.tables e below (s₁.setTop (mkF m 575 #[.val (.int x0), .val (.int x1), .val (.int x2), .val (.int x3), .val (.int x4), .val (.int (0 : Int32)), .val (.int nn), .val (.int lo), .val (.int hi), .val (.int k1), .val (.int k0), .val (.int k1), .val (.int k2), .val (.int k3), .val (.int sel), .val (.int key), .val (.int ((((own_lt (0 : Int32) nn k0 key) + (own_lt (1 : Int32) nn k1 key)) + (own_lt (2 : Int32) nn k2 key)) + (own_lt (3 : Int32) nn k3 key))), .val (.int (own_fn nn k0 k1 k2 k3 key)), .val (.int (own_told nn lo hi key)), .unset, .unset] [(.int ((((own_lt (0 : Int32) nn k0 key) + (own_lt (1 : Int32) nn k1 key)) + (own_lt (2 : Int32) nn k2 key)) + (own_lt (3 : Int32) nn k3 key)))])) _
        have q0 : (own_ex (own_fn nn k0 k1 k2 k3 key) ((((own_lt (0 : Int32) nn k0 key) + (own_lt (1 : Int32) nn k1 key)) + (own_lt (2 : Int32) nn k2 key)) + (own_lt (3 : Int32) nn k3 key))) = ((((own_lt (0 : Int32) nn k0 key) + (own_lt (1 : Int32) nn k1 key)) + (own_lt (2 : Int32) nn k2 key)) + (own_lt (3 : Int32) nn k3 key)) := by simp only [own_ex, if_pos hc1, if_neg hc56]
        rw [q0] at kg
        exact kg
    show G (s₁.setTop (mkF m 575 #[.val (.int x0), .val (.int x1), .val (.int x2), .val (.int x3), .val (.int x4), .val (.int (0 : Int32)), .val (.int nn), .val (.int lo), .val (.int hi), .val (.int k1), .val (.int k0), .val (.int k1), .val (.int k2), .val (.int k3), .val (.int sel), .val (.int key), .val (.int ((((own_lt (0 : Int32) nn k0 key) + (own_lt (1 : Int32) nn k1 key)) + (own_lt (2 : Int32) nn k2 key)) + (own_lt (3 : Int32) nn k3 key))), .val (.int (own_fn nn k0 k1 k2 k3 key)), .val (.int (own_told nn lo hi key)), .unset, .unset] [(.int (own_ex (own_fn nn k0 k1 k2 k3 key) ((((own_lt (0 : Int32) nn k0 key) + (own_lt (1 : Int32) nn k1 key)) + (own_lt (2 : Int32) nn k2 key)) + (own_lt (3 : Int32) nn k3 key))))]))
    refine go (fun tg kg => XS.istore X0.here hx rfl (hb hby at_575) rfl (l' := #[.val (.int x0), .val (.int x1), .val (.int x2), .val (.int x3), .val (.int x4), .val (.int (0 : Int32)), .val (.int nn), .val (.int lo), .val (.int hi), .val (.int k1), .val (.int k0), .val (.int k1), .val (.int k2), .val (.int k3), .val (.int sel), .val (.int key), .val (.int ((((own_lt (0 : Int32) nn k0 key) + (own_lt (1 : Int32) nn k1 key)) + (own_lt (2 : Int32) nn k2 key)) + (own_lt (3 : Int32) nn k3 key))), .val (.int (own_fn nn k0 k1 k2 k3 key)), .val (.int (own_told nn lo hi key)), .val (.int (own_ex (own_fn nn k0 k1 k2 k3 key) ((((own_lt (0 : Int32) nn k0 key) + (own_lt (1 : Int32) nn k1 key)) + (own_lt (2 : Int32) nn k2 key)) + (own_lt (3 : Int32) nn k3 key)))), .unset]) rfl kg) ?_
    show G (s₁.setTop (mkF m 577 #[.val (.int x0), .val (.int x1), .val (.int x2), .val (.int x3), .val (.int x4), .val (.int (0 : Int32)), .val (.int nn), .val (.int lo), .val (.int hi), .val (.int k1), .val (.int k0), .val (.int k1), .val (.int k2), .val (.int k3), .val (.int sel), .val (.int key), .val (.int ((((own_lt (0 : Int32) nn k0 key) + (own_lt (1 : Int32) nn k1 key)) + (own_lt (2 : Int32) nn k2 key)) + (own_lt (3 : Int32) nn k3 key))), .val (.int (own_fn nn k0 k1 k2 k3 key)), .val (.int (own_told nn lo hi key)), .val (.int (own_ex (own_fn nn k0 k1 k2 k3 key) ((((own_lt (0 : Int32) nn k0 key) + (own_lt (1 : Int32) nn k1 key)) + (own_lt (2 : Int32) nn k2 key)) + (own_lt (3 : Int32) nn k3 key)))), .unset] []))
    refine go (fun tg kg => XS.iload X0.here hx rfl (hb hby at_577) rfl kg) ?_
    show G (s₁.setTop (mkF m 579 #[.val (.int x0), .val (.int x1), .val (.int x2), .val (.int x3), .val (.int x4), .val (.int (0 : Int32)), .val (.int nn), .val (.int lo), .val (.int hi), .val (.int k1), .val (.int k0), .val (.int k1), .val (.int k2), .val (.int k3), .val (.int sel), .val (.int key), .val (.int ((((own_lt (0 : Int32) nn k0 key) + (own_lt (1 : Int32) nn k1 key)) + (own_lt (2 : Int32) nn k2 key)) + (own_lt (3 : Int32) nn k3 key))), .val (.int (own_fn nn k0 k1 k2 k3 key)), .val (.int (own_told nn lo hi key)), .val (.int (own_ex (own_fn nn k0 k1 k2 k3 key) ((((own_lt (0 : Int32) nn k0 key) + (own_lt (1 : Int32) nn k1 key)) + (own_lt (2 : Int32) nn k2 key)) + (own_lt (3 : Int32) nn k3 key)))), .unset] [(.int nn)]))
    refine go (fun tg kg => XS.iload X0.here hx rfl (hb hby at_579) rfl kg) ?_
    show G (s₁.setTop (mkF m 581 #[.val (.int x0), .val (.int x1), .val (.int x2), .val (.int x3), .val (.int x4), .val (.int (0 : Int32)), .val (.int nn), .val (.int lo), .val (.int hi), .val (.int k1), .val (.int k0), .val (.int k1), .val (.int k2), .val (.int k3), .val (.int sel), .val (.int key), .val (.int ((((own_lt (0 : Int32) nn k0 key) + (own_lt (1 : Int32) nn k1 key)) + (own_lt (2 : Int32) nn k2 key)) + (own_lt (3 : Int32) nn k3 key))), .val (.int (own_fn nn k0 k1 k2 k3 key)), .val (.int (own_told nn lo hi key)), .val (.int (own_ex (own_fn nn k0 k1 k2 k3 key) ((((own_lt (0 : Int32) nn k0 key) + (own_lt (1 : Int32) nn k1 key)) + (own_lt (2 : Int32) nn k2 key)) + (own_lt (3 : Int32) nn k3 key)))), .unset] [(.int lo), (.int nn)]))
    refine go (fun tg kg => XS.i2c X0.here hx rfl (hb hby at_581) rfl kg) ?_
    show G (s₁.setTop (mkF m 582 #[.val (.int x0), .val (.int x1), .val (.int x2), .val (.int x3), .val (.int x4), .val (.int (0 : Int32)), .val (.int nn), .val (.int lo), .val (.int hi), .val (.int k1), .val (.int k0), .val (.int k1), .val (.int k2), .val (.int k3), .val (.int sel), .val (.int key), .val (.int ((((own_lt (0 : Int32) nn k0 key) + (own_lt (1 : Int32) nn k1 key)) + (own_lt (2 : Int32) nn k2 key)) + (own_lt (3 : Int32) nn k3 key))), .val (.int (own_fn nn k0 k1 k2 k3 key)), .val (.int (own_told nn lo hi key)), .val (.int (own_ex (own_fn nn k0 k1 k2 k3 key) ((((own_lt (0 : Int32) nn k0 key) + (own_lt (1 : Int32) nn k1 key)) + (own_lt (2 : Int32) nn k2 key)) + (own_lt (3 : Int32) nn k3 key)))), .unset] [(.int (lo.toUInt32.toUInt16.toUInt32.toInt32)), (.int nn)]))
    refine go (fun tg kg => XS.iload X0.here hx rfl (hb hby at_582) rfl kg) ?_
    show G (s₁.setTop (mkF m 584 #[.val (.int x0), .val (.int x1), .val (.int x2), .val (.int x3), .val (.int x4), .val (.int (0 : Int32)), .val (.int nn), .val (.int lo), .val (.int hi), .val (.int k1), .val (.int k0), .val (.int k1), .val (.int k2), .val (.int k3), .val (.int sel), .val (.int key), .val (.int ((((own_lt (0 : Int32) nn k0 key) + (own_lt (1 : Int32) nn k1 key)) + (own_lt (2 : Int32) nn k2 key)) + (own_lt (3 : Int32) nn k3 key))), .val (.int (own_fn nn k0 k1 k2 k3 key)), .val (.int (own_told nn lo hi key)), .val (.int (own_ex (own_fn nn k0 k1 k2 k3 key) ((((own_lt (0 : Int32) nn k0 key) + (own_lt (1 : Int32) nn k1 key)) + (own_lt (2 : Int32) nn k2 key)) + (own_lt (3 : Int32) nn k3 key)))), .unset] [(.int hi), (.int (lo.toUInt32.toUInt16.toUInt32.toInt32)), (.int nn)]))
    refine go (fun tg kg => XS.i2c X0.here hx rfl (hb hby at_584) rfl kg) ?_
    show G (s₁.setTop (mkF m 585 #[.val (.int x0), .val (.int x1), .val (.int x2), .val (.int x3), .val (.int x4), .val (.int (0 : Int32)), .val (.int nn), .val (.int lo), .val (.int hi), .val (.int k1), .val (.int k0), .val (.int k1), .val (.int k2), .val (.int k3), .val (.int sel), .val (.int key), .val (.int ((((own_lt (0 : Int32) nn k0 key) + (own_lt (1 : Int32) nn k1 key)) + (own_lt (2 : Int32) nn k2 key)) + (own_lt (3 : Int32) nn k3 key))), .val (.int (own_fn nn k0 k1 k2 k3 key)), .val (.int (own_told nn lo hi key)), .val (.int (own_ex (own_fn nn k0 k1 k2 k3 key) ((((own_lt (0 : Int32) nn k0 key) + (own_lt (1 : Int32) nn k1 key)) + (own_lt (2 : Int32) nn k2 key)) + (own_lt (3 : Int32) nn k3 key)))), .unset] [(.int (hi.toUInt32.toUInt16.toUInt32.toInt32)), (.int (lo.toUInt32.toUInt16.toUInt32.toInt32)), (.int nn)]))
    refine go (fun tg kg => XS.iload X0.here hx rfl (hb hby at_585) rfl kg) ?_
    show G (s₁.setTop (mkF m 587 #[.val (.int x0), .val (.int x1), .val (.int x2), .val (.int x3), .val (.int x4), .val (.int (0 : Int32)), .val (.int nn), .val (.int lo), .val (.int hi), .val (.int k1), .val (.int k0), .val (.int k1), .val (.int k2), .val (.int k3), .val (.int sel), .val (.int key), .val (.int ((((own_lt (0 : Int32) nn k0 key) + (own_lt (1 : Int32) nn k1 key)) + (own_lt (2 : Int32) nn k2 key)) + (own_lt (3 : Int32) nn k3 key))), .val (.int (own_fn nn k0 k1 k2 k3 key)), .val (.int (own_told nn lo hi key)), .val (.int (own_ex (own_fn nn k0 k1 k2 k3 key) ((((own_lt (0 : Int32) nn k0 key) + (own_lt (1 : Int32) nn k1 key)) + (own_lt (2 : Int32) nn k2 key)) + (own_lt (3 : Int32) nn k3 key)))), .unset] [(.int key), (.int (hi.toUInt32.toUInt16.toUInt32.toInt32)), (.int (lo.toUInt32.toUInt16.toUInt32.toInt32)), (.int nn)]))
    refine go (fun tg kg => XS.i2c X0.here hx rfl (hb hby at_587) rfl kg) ?_
    show G (s₁.setTop (mkF m 588 #[.val (.int x0), .val (.int x1), .val (.int x2), .val (.int x3), .val (.int x4), .val (.int (0 : Int32)), .val (.int nn), .val (.int lo), .val (.int hi), .val (.int k1), .val (.int k0), .val (.int k1), .val (.int k2), .val (.int k3), .val (.int sel), .val (.int key), .val (.int ((((own_lt (0 : Int32) nn k0 key) + (own_lt (1 : Int32) nn k1 key)) + (own_lt (2 : Int32) nn k2 key)) + (own_lt (3 : Int32) nn k3 key))), .val (.int (own_fn nn k0 k1 k2 k3 key)), .val (.int (own_told nn lo hi key)), .val (.int (own_ex (own_fn nn k0 k1 k2 k3 key) ((((own_lt (0 : Int32) nn k0 key) + (own_lt (1 : Int32) nn k1 key)) + (own_lt (2 : Int32) nn k2 key)) + (own_lt (3 : Int32) nn k3 key)))), .unset] [(.int (key.toUInt32.toUInt16.toUInt32.toInt32)), (.int (hi.toUInt32.toUInt16.toUInt32.toInt32)), (.int (lo.toUInt32.toUInt16.toUInt32.toInt32)), (.int nn)]))
    obtain ⟨_, _, ⟨T57, L57, k57, n57⟩, -, X57, ⟨Lc57, hQ57, l57, y57, z57⟩, st57⟩ := Jvm.LawKit.callS X0 hx (y := (⟨"com/example/tightbits/tightbits/ReadableUnsignedIntSet", "indexByBounds", "(ICCC)I"⟩ : MethodName)) hown (mvT hZ (hw _ (List.mem_of_getElem? (i := 3) rfl))) (mvT hZ (hw _ (List.mem_of_getElem? (i := 4) rfl))) (mvT hZ (hw _ (List.mem_of_getElem? (i := 5) rfl))) (mvT hZ (hw _ (List.mem_of_getElem? (i := 6) rfl))) (by decide) (backOf (W := 0) (rm1 l Z a0 hw [] nn (lo.toUInt32.toUInt16.toUInt32.toInt32) (hi.toUInt32.toUInt16.toUInt32.toInt32) (key.toUInt32.toUInt16.toUInt32.toInt32) h0 n0 Z0 ) hZ (hw _ (List.mem_of_getElem? (i := 6) rfl)) (hw _ (List.mem_of_getElem? (i := 5) rfl)) (by decide) (by decide)) (g := (mkF m 588 #[.val (.int x0), .val (.int x1), .val (.int x2), .val (.int x3), .val (.int x4), .val (.int (0 : Int32)), .val (.int nn), .val (.int lo), .val (.int hi), .val (.int k1), .val (.int k0), .val (.int k1), .val (.int k2), .val (.int k3), .val (.int sel), .val (.int key), .val (.int ((((own_lt (0 : Int32) nn k0 key) + (own_lt (1 : Int32) nn k1 key)) + (own_lt (2 : Int32) nn k2 key)) + (own_lt (3 : Int32) nn k3 key))), .val (.int (own_fn nn k0 k1 k2 k3 key)), .val (.int (own_told nn lo hi key)), .val (.int (own_ex (own_fn nn k0 k1 k2 k3 key) ((((own_lt (0 : Int32) nn k0 key) + (own_lt (1 : Int32) nn k1 key)) + (own_lt (2 : Int32) nn k2 key)) + (own_lt (3 : Int32) nn k3 key)))), .unset] [(.int (key.toUInt32.toUInt16.toUInt32.toInt32)), (.int (hi.toUInt32.toUInt16.toUInt32.toInt32)), (.int (lo.toUInt32.toUInt16.toUInt32.toInt32)), (.int nn)])) rfl (by rw [hml]; rfl) (argsL := [(.int nn), (.int (lo.toUInt32.toUInt16.toUInt32.toInt32)), (.int (hi.toUInt32.toUInt16.toUInt32.toInt32)), (.int (key.toUInt32.toUInt16.toUInt32.toInt32))]) (rest := []) (lenOf pd__ICCC_I rfl) rfl (by show 2 * 0 + _ ≤ _; exact Nat.le_of_eq rfl) (hb hby at_588) (fun _ _ => ⟨rfl, e0, (by decide : 0 + 0 ≤ _), (by decide : 0 + 0 ≤ _)⟩)
    dsimp only [Pt.U, Pt.locs, Pt.cells, Pt.slots] at X57 l57 y57 z57 st57 hQ57
    subst l57 y57 z57
    obtain ⟨rfl, Nq57, e57⟩ := hQ57
    have N57 := Fr.app N0 Nq57
    refine go st57 ?_
    show G (T57.setTop (mkF m 591 #[.val (.int x0), .val (.int x1), .val (.int x2), .val (.int x3), .val (.int x4), .val (.int (0 : Int32)), .val (.int nn), .val (.int lo), .val (.int hi), .val (.int k1), .val (.int k0), .val (.int k1), .val (.int k2), .val (.int k3), .val (.int sel), .val (.int key), .val (.int ((((own_lt (0 : Int32) nn k0 key) + (own_lt (1 : Int32) nn k1 key)) + (own_lt (2 : Int32) nn k2 key)) + (own_lt (3 : Int32) nn k3 key))), .val (.int (own_fn nn k0 k1 k2 k3 key)), .val (.int (own_told nn lo hi key)), .val (.int (own_ex (own_fn nn k0 k1 k2 k3 key) ((((own_lt (0 : Int32) nn k0 key) + (own_lt (1 : Int32) nn k1 key)) + (own_lt (2 : Int32) nn k2 key)) + (own_lt (3 : Int32) nn k3 key)))), .unset] [(.int (own_idx nn (lo.toUInt32.toUInt16.toUInt32.toInt32) (hi.toUInt32.toUInt16.toUInt32.toInt32) (key.toUInt32.toUInt16.toUInt32.toInt32)))]))
    refine go (fun tg kg => XS.istore X57.here hx rfl (hb hby at_591) rfl (l' := #[.val (.int x0), .val (.int x1), .val (.int x2), .val (.int x3), .val (.int x4), .val (.int (0 : Int32)), .val (.int nn), .val (.int lo), .val (.int hi), .val (.int k1), .val (.int k0), .val (.int k1), .val (.int k2), .val (.int k3), .val (.int sel), .val (.int key), .val (.int ((((own_lt (0 : Int32) nn k0 key) + (own_lt (1 : Int32) nn k1 key)) + (own_lt (2 : Int32) nn k2 key)) + (own_lt (3 : Int32) nn k3 key))), .val (.int (own_fn nn k0 k1 k2 k3 key)), .val (.int (own_told nn lo hi key)), .val (.int (own_ex (own_fn nn k0 k1 k2 k3 key) ((((own_lt (0 : Int32) nn k0 key) + (own_lt (1 : Int32) nn k1 key)) + (own_lt (2 : Int32) nn k2 key)) + (own_lt (3 : Int32) nn k3 key)))), .val (.int (own_idx nn (lo.toUInt32.toUInt16.toUInt32.toInt32) (hi.toUInt32.toUInt16.toUInt32.toInt32) (key.toUInt32.toUInt16.toUInt32.toInt32)))]) rfl kg) ?_
    show G (T57.setTop (mkF m 593 #[.val (.int x0), .val (.int x1), .val (.int x2), .val (.int x3), .val (.int x4), .val (.int (0 : Int32)), .val (.int nn), .val (.int lo), .val (.int hi), .val (.int k1), .val (.int k0), .val (.int k1), .val (.int k2), .val (.int k3), .val (.int sel), .val (.int key), .val (.int ((((own_lt (0 : Int32) nn k0 key) + (own_lt (1 : Int32) nn k1 key)) + (own_lt (2 : Int32) nn k2 key)) + (own_lt (3 : Int32) nn k3 key))), .val (.int (own_fn nn k0 k1 k2 k3 key)), .val (.int (own_told nn lo hi key)), .val (.int (own_ex (own_fn nn k0 k1 k2 k3 key) ((((own_lt (0 : Int32) nn k0 key) + (own_lt (1 : Int32) nn k1 key)) + (own_lt (2 : Int32) nn k2 key)) + (own_lt (3 : Int32) nn k3 key)))), .val (.int (own_idx nn (lo.toUInt32.toUInt16.toUInt32.toInt32) (hi.toUInt32.toUInt16.toUInt32.toInt32) (key.toUInt32.toUInt16.toUInt32.toInt32)))] []))
    refine go (fun tg kg => XS.iload X57.here hx rfl (hb hby at_593) rfl kg) ?_
    show G (T57.setTop (mkF m 595 #[.val (.int x0), .val (.int x1), .val (.int x2), .val (.int x3), .val (.int x4), .val (.int (0 : Int32)), .val (.int nn), .val (.int lo), .val (.int hi), .val (.int k1), .val (.int k0), .val (.int k1), .val (.int k2), .val (.int k3), .val (.int sel), .val (.int key), .val (.int ((((own_lt (0 : Int32) nn k0 key) + (own_lt (1 : Int32) nn k1 key)) + (own_lt (2 : Int32) nn k2 key)) + (own_lt (3 : Int32) nn k3 key))), .val (.int (own_fn nn k0 k1 k2 k3 key)), .val (.int (own_told nn lo hi key)), .val (.int (own_ex (own_fn nn k0 k1 k2 k3 key) ((((own_lt (0 : Int32) nn k0 key) + (own_lt (1 : Int32) nn k1 key)) + (own_lt (2 : Int32) nn k2 key)) + (own_lt (3 : Int32) nn k3 key)))), .val (.int (own_idx nn (lo.toUInt32.toUInt16.toUInt32.toInt32) (hi.toUInt32.toUInt16.toUInt32.toInt32) (key.toUInt32.toUInt16.toUInt32.toInt32)))] [(.int (own_told nn lo hi key))]))
    by_cases hc58 : (own_told nn lo hi key) = (0 : Int32)
    · refine go (fun tg kg => XS.ifYes X57.here hx rfl (pc0 := 595) (pc' := 613) rfl (hb hby at_595) rfl ((if0 _ _).trans (teq hc58).1) (by decide) (by decide) kg) ?_
      show G (T57.setTop (mkF m 613 #[.val (.int x0), .val (.int x1), .val (.int x2), .val (.int x3), .val (.int x4), .val (.int (0 : Int32)), .val (.int nn), .val (.int lo), .val (.int hi), .val (.int k1), .val (.int k0), .val (.int k1), .val (.int k2), .val (.int k3), .val (.int sel), .val (.int key), .val (.int ((((own_lt (0 : Int32) nn k0 key) + (own_lt (1 : Int32) nn k1 key)) + (own_lt (2 : Int32) nn k2 key)) + (own_lt (3 : Int32) nn k3 key))), .val (.int (own_fn nn k0 k1 k2 k3 key)), .val (.int (own_told nn lo hi key)), .val (.int (own_ex (own_fn nn k0 k1 k2 k3 key) ((((own_lt (0 : Int32) nn k0 key) + (own_lt (1 : Int32) nn k1 key)) + (own_lt (2 : Int32) nn k2 key)) + (own_lt (3 : Int32) nn k3 key)))), .val (.int (own_idx nn (lo.toUInt32.toUInt16.toUInt32.toInt32) (hi.toUInt32.toUInt16.toUInt32.toInt32) (key.toUInt32.toUInt16.toUInt32.toInt32)))] []))
      refine go (fun tg kg => XS.iload X57.here hx rfl (hb hby at_613) rfl kg) ?_
      show G (T57.setTop (mkF m 615 #[.val (.int x0), .val (.int x1), .val (.int x2), .val (.int x3), .val (.int x4), .val (.int (0 : Int32)), .val (.int nn), .val (.int lo), .val (.int hi), .val (.int k1), .val (.int k0), .val (.int k1), .val (.int k2), .val (.int k3), .val (.int sel), .val (.int key), .val (.int ((((own_lt (0 : Int32) nn k0 key) + (own_lt (1 : Int32) nn k1 key)) + (own_lt (2 : Int32) nn k2 key)) + (own_lt (3 : Int32) nn k3 key))), .val (.int (own_fn nn k0 k1 k2 k3 key)), .val (.int (own_told nn lo hi key)), .val (.int (own_ex (own_fn nn k0 k1 k2 k3 key) ((((own_lt (0 : Int32) nn k0 key) + (own_lt (1 : Int32) nn k1 key)) + (own_lt (2 : Int32) nn k2 key)) + (own_lt (3 : Int32) nn k3 key)))), .val (.int (own_idx nn (lo.toUInt32.toUInt16.toUInt32.toInt32) (hi.toUInt32.toUInt16.toUInt32.toInt32) (key.toUInt32.toUInt16.toUInt32.toInt32)))] [(.int (own_idx nn (lo.toUInt32.toUInt16.toUInt32.toInt32) (hi.toUInt32.toUInt16.toUInt32.toInt32) (key.toUInt32.toUInt16.toUInt32.toInt32)))]))
      refine go (fun tg kg => X57.ldcInt hx hown (mvT hZ (hw _ (List.mem_of_getElem? (i := 16) rfl))) (g := (mkF m 615 #[.val (.int x0), .val (.int x1), .val (.int x2), .val (.int x3), .val (.int x4), .val (.int (0 : Int32)), .val (.int nn), .val (.int lo), .val (.int hi), .val (.int k1), .val (.int k0), .val (.int k1), .val (.int k2), .val (.int k3), .val (.int sel), .val (.int key), .val (.int ((((own_lt (0 : Int32) nn k0 key) + (own_lt (1 : Int32) nn k1 key)) + (own_lt (2 : Int32) nn k2 key)) + (own_lt (3 : Int32) nn k3 key))), .val (.int (own_fn nn k0 k1 k2 k3 key)), .val (.int (own_told nn lo hi key)), .val (.int (own_ex (own_fn nn k0 k1 k2 k3 key) ((((own_lt (0 : Int32) nn k0 key) + (own_lt (1 : Int32) nn k1 key)) + (own_lt (2 : Int32) nn k2 key)) + (own_lt (3 : Int32) nn k3 key)))), .val (.int (own_idx nn (lo.toUInt32.toUInt16.toUInt32.toInt32) (hi.toUInt32.toUInt16.toUInt32.toInt32) (key.toUInt32.toUInt16.toUInt32.toInt32)))] [(.int (own_idx nn (lo.toUInt32.toUInt16.toUInt32.toInt32) (hi.toUInt32.toUInt16.toUInt32.toInt32) (key.toUInt32.toUInt16.toUInt32.toInt32)))])) rfl (hb hby at_615) _ kg) ?_
      show G (T57.setTop (mkF m 617 #[.val (.int x0), .val (.int x1), .val (.int x2), .val (.int x3), .val (.int x4), .val (.int (0 : Int32)), .val (.int nn), .val (.int lo), .val (.int hi), .val (.int k1), .val (.int k0), .val (.int k1), .val (.int k2), .val (.int k3), .val (.int sel), .val (.int key), .val (.int ((((own_lt (0 : Int32) nn k0 key) + (own_lt (1 : Int32) nn k1 key)) + (own_lt (2 : Int32) nn k2 key)) + (own_lt (3 : Int32) nn k3 key))), .val (.int (own_fn nn k0 k1 k2 k3 key)), .val (.int (own_told nn lo hi key)), .val (.int (own_ex (own_fn nn k0 k1 k2 k3 key) ((((own_lt (0 : Int32) nn k0 key) + (own_lt (1 : Int32) nn k1 key)) + (own_lt (2 : Int32) nn k2 key)) + (own_lt (3 : Int32) nn k3 key)))), .val (.int (own_idx nn (lo.toUInt32.toUInt16.toUInt32.toInt32) (hi.toUInt32.toUInt16.toUInt32.toInt32) (key.toUInt32.toUInt16.toUInt32.toInt32)))] [(.int (-2147483648 : Int32)), (.int (own_idx nn (lo.toUInt32.toUInt16.toUInt32.toInt32) (hi.toUInt32.toUInt16.toUInt32.toInt32) (key.toUInt32.toUInt16.toUInt32.toInt32)))]))
      refine go (fun tg kg => XS.icmpNo X57.here hx rfl (hb hby at_617) rfl (teq (own_sp0 bn bs c0 c1 c2 c3 bk b1 b2 b3 hlo hhi hc58)).2 kg) ?_
      show G (T57.setTop (mkF m 620 #[.val (.int x0), .val (.int x1), .val (.int x2), .val (.int x3), .val (.int x4), .val (.int (0 : Int32)), .val (.int nn), .val (.int lo), .val (.int hi), .val (.int k1), .val (.int k0), .val (.int k1), .val (.int k2), .val (.int k3), .val (.int sel), .val (.int key), .val (.int ((((own_lt (0 : Int32) nn k0 key) + (own_lt (1 : Int32) nn k1 key)) + (own_lt (2 : Int32) nn k2 key)) + (own_lt (3 : Int32) nn k3 key))), .val (.int (own_fn nn k0 k1 k2 k3 key)), .val (.int (own_told nn lo hi key)), .val (.int (own_ex (own_fn nn k0 k1 k2 k3 key) ((((own_lt (0 : Int32) nn k0 key) + (own_lt (1 : Int32) nn k1 key)) + (own_lt (2 : Int32) nn k2 key)) + (own_lt (3 : Int32) nn k3 key)))), .val (.int (own_idx nn (lo.toUInt32.toUInt16.toUInt32.toInt32) (hi.toUInt32.toUInt16.toUInt32.toInt32) (key.toUInt32.toUInt16.toUInt32.toInt32)))] []))
      refine go (fun tg kg => XS.iconst X57.here hx rfl (hb hby at_620) kg) ?_
      show G (T57.setTop (mkF m 621 #[.val (.int x0), .val (.int x1), .val (.int x2), .val (.int x3), .val (.int x4), .val (.int (0 : Int32)), .val (.int nn), .val (.int lo), .val (.int hi), .val (.int k1), .val (.int k0), .val (.int k1), .val (.int k2), .val (.int k3), .val (.int sel), .val (.int key), .val (.int ((((own_lt (0 : Int32) nn k0 key) + (own_lt (1 : Int32) nn k1 key)) + (own_lt (2 : Int32) nn k2 key)) + (own_lt (3 : Int32) nn k3 key))), .val (.int (own_fn nn k0 k1 k2 k3 key)), .val (.int (own_told nn lo hi key)), .val (.int (own_ex (own_fn nn k0 k1 k2 k3 key) ((((own_lt (0 : Int32) nn k0 key) + (own_lt (1 : Int32) nn k1 key)) + (own_lt (2 : Int32) nn k2 key)) + (own_lt (3 : Int32) nn k3 key)))), .val (.int (own_idx nn (lo.toUInt32.toUInt16.toUInt32.toInt32) (hi.toUInt32.toUInt16.toUInt32.toInt32) (key.toUInt32.toUInt16.toUInt32.toInt32)))] [(.int (1 : Int32))]))
      refine go (fun tg kg => XS.goto X57.here hx rfl (pc0 := 621) (pc' := 625) rfl (hb hby at_621) (by decide) (by decide) kg) ?_
      show G (T57.setTop (mkF m 625 #[.val (.int x0), .val (.int x1), .val (.int x2), .val (.int x3), .val (.int x4), .val (.int (0 : Int32)), .val (.int nn), .val (.int lo), .val (.int hi), .val (.int k1), .val (.int k0), .val (.int k1), .val (.int k2), .val (.int k3), .val (.int sel), .val (.int key), .val (.int ((((own_lt (0 : Int32) nn k0 key) + (own_lt (1 : Int32) nn k1 key)) + (own_lt (2 : Int32) nn k2 key)) + (own_lt (3 : Int32) nn k3 key))), .val (.int (own_fn nn k0 k1 k2 k3 key)), .val (.int (own_told nn lo hi key)), .val (.int (own_ex (own_fn nn k0 k1 k2 k3 key) ((((own_lt (0 : Int32) nn k0 key) + (own_lt (1 : Int32) nn k1 key)) + (own_lt (2 : Int32) nn k2 key)) + (own_lt (3 : Int32) nn k3 key)))), .val (.int (own_idx nn (lo.toUInt32.toUInt16.toUInt32.toInt32) (hi.toUInt32.toUInt16.toUInt32.toInt32) (key.toUInt32.toUInt16.toUInt32.toInt32)))] [(.int (1 : Int32))]))
      refine fin (some (.int (1 : Int32))) X57 (fun h => absurd h (by decide)) (fun fs hr => retN X57 hx (t := .boolean) hret (by simp) (hb hby at_625) hr) (by decide) (by decide) ?_
      rw [e57]
      exact ⟨rfl, N57⟩
    · refine go (fun tg kg => XS.ifNo X57.here hx rfl (hb hby at_595) rfl ((if0 _ _).trans (feq hc58).1) kg) ?_
      show G (T57.setTop (mkF m 598 #[.val (.int x0), .val (.int x1), .val (.int x2), .val (.int x3), .val (.int x4), .val (.int (0 : Int32)), .val (.int nn), .val (.int lo), .val (.int hi), .val (.int k1), .val (.int k0), .val (.int k1), .val (.int k2), .val (.int k3), .val (.int sel), .val (.int key), .val (.int ((((own_lt (0 : Int32) nn k0 key) + (own_lt (1 : Int32) nn k1 key)) + (own_lt (2 : Int32) nn k2 key)) + (own_lt (3 : Int32) nn k3 key))), .val (.int (own_fn nn k0 k1 k2 k3 key)), .val (.int (own_told nn lo hi key)), .val (.int (own_ex (own_fn nn k0 k1 k2 k3 key) ((((own_lt (0 : Int32) nn k0 key) + (own_lt (1 : Int32) nn k1 key)) + (own_lt (2 : Int32) nn k2 key)) + (own_lt (3 : Int32) nn k3 key)))), .val (.int (own_idx nn (lo.toUInt32.toUInt16.toUInt32.toInt32) (hi.toUInt32.toUInt16.toUInt32.toInt32) (key.toUInt32.toUInt16.toUInt32.toInt32)))] []))
      refine go (fun tg kg => XS.iload X57.here hx rfl (hb hby at_598) rfl kg) ?_
      show G (T57.setTop (mkF m 600 #[.val (.int x0), .val (.int x1), .val (.int x2), .val (.int x3), .val (.int x4), .val (.int (0 : Int32)), .val (.int nn), .val (.int lo), .val (.int hi), .val (.int k1), .val (.int k0), .val (.int k1), .val (.int k2), .val (.int k3), .val (.int sel), .val (.int key), .val (.int ((((own_lt (0 : Int32) nn k0 key) + (own_lt (1 : Int32) nn k1 key)) + (own_lt (2 : Int32) nn k2 key)) + (own_lt (3 : Int32) nn k3 key))), .val (.int (own_fn nn k0 k1 k2 k3 key)), .val (.int (own_told nn lo hi key)), .val (.int (own_ex (own_fn nn k0 k1 k2 k3 key) ((((own_lt (0 : Int32) nn k0 key) + (own_lt (1 : Int32) nn k1 key)) + (own_lt (2 : Int32) nn k2 key)) + (own_lt (3 : Int32) nn k3 key)))), .val (.int (own_idx nn (lo.toUInt32.toUInt16.toUInt32.toInt32) (hi.toUInt32.toUInt16.toUInt32.toInt32) (key.toUInt32.toUInt16.toUInt32.toInt32)))] [(.int (own_idx nn (lo.toUInt32.toUInt16.toUInt32.toInt32) (hi.toUInt32.toUInt16.toUInt32.toInt32) (key.toUInt32.toUInt16.toUInt32.toInt32)))]))
      refine go (fun tg kg => XS.iload X57.here hx rfl (hb hby at_600) rfl kg) ?_
      show G (T57.setTop (mkF m 602 #[.val (.int x0), .val (.int x1), .val (.int x2), .val (.int x3), .val (.int x4), .val (.int (0 : Int32)), .val (.int nn), .val (.int lo), .val (.int hi), .val (.int k1), .val (.int k0), .val (.int k1), .val (.int k2), .val (.int k3), .val (.int sel), .val (.int key), .val (.int ((((own_lt (0 : Int32) nn k0 key) + (own_lt (1 : Int32) nn k1 key)) + (own_lt (2 : Int32) nn k2 key)) + (own_lt (3 : Int32) nn k3 key))), .val (.int (own_fn nn k0 k1 k2 k3 key)), .val (.int (own_told nn lo hi key)), .val (.int (own_ex (own_fn nn k0 k1 k2 k3 key) ((((own_lt (0 : Int32) nn k0 key) + (own_lt (1 : Int32) nn k1 key)) + (own_lt (2 : Int32) nn k2 key)) + (own_lt (3 : Int32) nn k3 key)))), .val (.int (own_idx nn (lo.toUInt32.toUInt16.toUInt32.toInt32) (hi.toUInt32.toUInt16.toUInt32.toInt32) (key.toUInt32.toUInt16.toUInt32.toInt32)))] [(.int (own_ex (own_fn nn k0 k1 k2 k3 key) ((((own_lt (0 : Int32) nn k0 key) + (own_lt (1 : Int32) nn k1 key)) + (own_lt (2 : Int32) nn k2 key)) + (own_lt (3 : Int32) nn k3 key)))), (.int (own_idx nn (lo.toUInt32.toUInt16.toUInt32.toInt32) (hi.toUInt32.toUInt16.toUInt32.toInt32) (key.toUInt32.toUInt16.toUInt32.toInt32)))]))
      refine go (fun tg kg => XS.icmpNo X57.here hx rfl (hb hby at_602) rfl (teq (own_sp1 bn bs c0 c1 c2 c3 bk b1 b2 b3 hlo hhi hc58)).2 kg) ?_
      show G (T57.setTop (mkF m 605 #[.val (.int x0), .val (.int x1), .val (.int x2), .val (.int x3), .val (.int x4), .val (.int (0 : Int32)), .val (.int nn), .val (.int lo), .val (.int hi), .val (.int k1), .val (.int k0), .val (.int k1), .val (.int k2), .val (.int k3), .val (.int sel), .val (.int key), .val (.int ((((own_lt (0 : Int32) nn k0 key) + (own_lt (1 : Int32) nn k1 key)) + (own_lt (2 : Int32) nn k2 key)) + (own_lt (3 : Int32) nn k3 key))), .val (.int (own_fn nn k0 k1 k2 k3 key)), .val (.int (own_told nn lo hi key)), .val (.int (own_ex (own_fn nn k0 k1 k2 k3 key) ((((own_lt (0 : Int32) nn k0 key) + (own_lt (1 : Int32) nn k1 key)) + (own_lt (2 : Int32) nn k2 key)) + (own_lt (3 : Int32) nn k3 key)))), .val (.int (own_idx nn (lo.toUInt32.toUInt16.toUInt32.toInt32) (hi.toUInt32.toUInt16.toUInt32.toInt32) (key.toUInt32.toUInt16.toUInt32.toInt32)))] []))
      refine go (fun tg kg => XS.iconst X57.here hx rfl (hb hby at_605) kg) ?_
      show G (T57.setTop (mkF m 606 #[.val (.int x0), .val (.int x1), .val (.int x2), .val (.int x3), .val (.int x4), .val (.int (0 : Int32)), .val (.int nn), .val (.int lo), .val (.int hi), .val (.int k1), .val (.int k0), .val (.int k1), .val (.int k2), .val (.int k3), .val (.int sel), .val (.int key), .val (.int ((((own_lt (0 : Int32) nn k0 key) + (own_lt (1 : Int32) nn k1 key)) + (own_lt (2 : Int32) nn k2 key)) + (own_lt (3 : Int32) nn k3 key))), .val (.int (own_fn nn k0 k1 k2 k3 key)), .val (.int (own_told nn lo hi key)), .val (.int (own_ex (own_fn nn k0 k1 k2 k3 key) ((((own_lt (0 : Int32) nn k0 key) + (own_lt (1 : Int32) nn k1 key)) + (own_lt (2 : Int32) nn k2 key)) + (own_lt (3 : Int32) nn k3 key)))), .val (.int (own_idx nn (lo.toUInt32.toUInt16.toUInt32.toInt32) (hi.toUInt32.toUInt16.toUInt32.toInt32) (key.toUInt32.toUInt16.toUInt32.toInt32)))] [(.int (1 : Int32))]))
      refine go (fun tg kg => XS.goto X57.here hx rfl (pc0 := 606) (pc' := 625) rfl (hb hby at_606) (by decide) (by decide) kg) ?_
      show G (T57.setTop (mkF m 625 #[.val (.int x0), .val (.int x1), .val (.int x2), .val (.int x3), .val (.int x4), .val (.int (0 : Int32)), .val (.int nn), .val (.int lo), .val (.int hi), .val (.int k1), .val (.int k0), .val (.int k1), .val (.int k2), .val (.int k3), .val (.int sel), .val (.int key), .val (.int ((((own_lt (0 : Int32) nn k0 key) + (own_lt (1 : Int32) nn k1 key)) + (own_lt (2 : Int32) nn k2 key)) + (own_lt (3 : Int32) nn k3 key))), .val (.int (own_fn nn k0 k1 k2 k3 key)), .val (.int (own_told nn lo hi key)), .val (.int (own_ex (own_fn nn k0 k1 k2 k3 key) ((((own_lt (0 : Int32) nn k0 key) + (own_lt (1 : Int32) nn k1 key)) + (own_lt (2 : Int32) nn k2 key)) + (own_lt (3 : Int32) nn k3 key)))), .val (.int (own_idx nn (lo.toUInt32.toUInt16.toUInt32.toInt32) (hi.toUInt32.toUInt16.toUInt32.toInt32) (key.toUInt32.toUInt16.toUInt32.toInt32)))] [(.int (1 : Int32))]))
      refine fin (some (.int (1 : Int32))) X57 (fun h => absurd h (by decide)) (fun fs hr => retN X57 hx (t := .boolean) hret (by simp) (hb hby at_625) hr) (by decide) (by decide) ?_
      rw [e57]
      exact ⟨rfl, N57⟩
  · refine go (fun tg kg => XS.ifNo X0.here hx rfl (hb hby at_4) rfl ((if0 _ _).trans (feq hc1).1) kg) ?_
    show G (s₁.setTop (mkF m 7 #[.val (.int x0), .val (.int x1), .val (.int x2), .val (.int x3), .val (.int x4), .unset, .unset, .unset, .unset, .unset, .unset, .unset, .unset, .unset, .unset, .unset, .unset, .unset, .unset, .unset, .unset] []))
    refine go (fun tg kg => XS.iconst X0.here hx rfl (hb hby at_7) kg) ?_
    show G (s₁.setTop (mkF m 8 #[.val (.int x0), .val (.int x1), .val (.int x2), .val (.int x3), .val (.int x4), .unset, .unset, .unset, .unset, .unset, .unset, .unset, .unset, .unset, .unset, .unset, .unset, .unset, .unset, .unset, .unset] [(.int (1 : Int32))]))
    refine go (fun tg kg => XS.goto X0.here hx rfl (pc0 := 8) (pc' := 12) rfl (hb hby at_8) (by decide) (by decide) kg) ?_
    show G (s₁.setTop (mkF m 12 #[.val (.int x0), .val (.int x1), .val (.int x2), .val (.int x3), .val (.int x4), .unset, .unset, .unset, .unset, .unset, .unset, .unset, .unset, .unset, .unset, .unset, .unset, .unset, .unset, .unset, .unset] [(.int (1 : Int32))]))
    refine go (fun tg kg => XS.istore X0.here hx rfl (hb hby at_12) rfl (l' := #[.val (.int x0), .val (.int x1), .val (.int x2), .val (.int x3), .val (.int x4), .val (.int (1 : Int32)), .unset, .unset, .unset, .unset, .unset, .unset, .unset, .unset, .unset, .unset, .unset, .unset, .unset, .unset, .unset]) rfl kg) ?_
    show G (s₁.setTop (mkF m 14 #[.val (.int x0), .val (.int x1), .val (.int x2), .val (.int x3), .val (.int x4), .val (.int (1 : Int32)), .unset, .unset, .unset, .unset, .unset, .unset, .unset, .unset, .unset, .unset, .unset, .unset, .unset, .unset, .unset] []))
    refine go (fun tg kg => XS.iconst X0.here hx rfl (hb hby at_14) kg) ?_
    show G (s₁.setTop (mkF m 15 #[.val (.int x0), .val (.int x1), .val (.int x2), .val (.int x3), .val (.int x4), .val (.int (1 : Int32)), .unset, .unset, .unset, .unset, .unset, .unset, .unset, .unset, .unset, .unset, .unset, .unset, .unset, .unset, .unset] [(.int (0 : Int32))]))
    refine go (fun tg kg => XS.istore X0.here hx rfl (hb hby at_15) rfl (l' := #[.val (.int x0), .val (.int x1), .val (.int x2), .val (.int x3), .val (.int x4), .val (.int (1 : Int32)), .unset, .unset, .unset, .unset, .val (.int (0 : Int32)), .unset, .unset, .unset, .unset, .unset, .unset, .unset, .unset, .unset, .unset]) rfl kg) ?_
    show G (s₁.setTop (mkF m 17 #[.val (.int x0), .val (.int x1), .val (.int x2), .val (.int x3), .val (.int x4), .val (.int (1 : Int32)), .unset, .unset, .unset, .unset, .val (.int (0 : Int32)), .unset, .unset, .unset, .unset, .unset, .unset, .unset, .unset, .unset, .unset] []))
    refine go (fun tg kg => XS.iconst X0.here hx rfl (hb hby at_17) kg) ?_
    show G (s₁.setTop (mkF m 18 #[.val (.int x0), .val (.int x1), .val (.int x2), .val (.int x3), .val (.int x4), .val (.int (1 : Int32)), .unset, .unset, .unset, .unset, .val (.int (0 : Int32)), .unset, .unset, .unset, .unset, .unset, .unset, .unset, .unset, .unset, .unset] [(.int (0 : Int32))]))
    refine go (fun tg kg => XS.istore X0.here hx rfl (hb hby at_18) rfl (l' := #[.val (.int x0), .val (.int x1), .val (.int x2), .val (.int x3), .val (.int x4), .val (.int (1 : Int32)), .unset, .unset, .unset, .unset, .val (.int (0 : Int32)), .val (.int (0 : Int32)), .unset, .unset, .unset, .unset, .unset, .unset, .unset, .unset, .unset]) rfl kg) ?_
    show G (s₁.setTop (mkF m 20 #[.val (.int x0), .val (.int x1), .val (.int x2), .val (.int x3), .val (.int x4), .val (.int (1 : Int32)), .unset, .unset, .unset, .unset, .val (.int (0 : Int32)), .val (.int (0 : Int32)), .unset, .unset, .unset, .unset, .unset, .unset, .unset, .unset, .unset] []))
    refine go (fun tg kg => XS.iconst X0.here hx rfl (hb hby at_20) kg) ?_
    show G (s₁.setTop (mkF m 21 #[.val (.int x0), .val (.int x1), .val (.int x2), .val (.int x3), .val (.int x4), .val (.int (1 : Int32)), .unset, .unset, .unset, .unset, .val (.int (0 : Int32)), .val (.int (0 : Int32)), .unset, .unset, .unset, .unset, .unset, .unset, .unset, .unset, .unset] [(.int (0 : Int32))]))
    refine go (fun tg kg => XS.istore X0.here hx rfl (hb hby at_21) rfl (l' := #[.val (.int x0), .val (.int x1), .val (.int x2), .val (.int x3), .val (.int x4), .val (.int (1 : Int32)), .unset, .unset, .unset, .unset, .val (.int (0 : Int32)), .val (.int (0 : Int32)), .val (.int (0 : Int32)), .unset, .unset, .unset, .unset, .unset, .unset, .unset, .unset]) rfl kg) ?_
    show G (s₁.setTop (mkF m 23 #[.val (.int x0), .val (.int x1), .val (.int x2), .val (.int x3), .val (.int x4), .val (.int (1 : Int32)), .unset, .unset, .unset, .unset, .val (.int (0 : Int32)), .val (.int (0 : Int32)), .val (.int (0 : Int32)), .unset, .unset, .unset, .unset, .unset, .unset, .unset, .unset] []))
    refine go (fun tg kg => XS.iconst X0.here hx rfl (hb hby at_23) kg) ?_
    show G (s₁.setTop (mkF m 24 #[.val (.int x0), .val (.int x1), .val (.int x2), .val (.int x3), .val (.int x4), .val (.int (1 : Int32)), .unset, .unset, .unset, .unset, .val (.int (0 : Int32)), .val (.int (0 : Int32)), .val (.int (0 : Int32)), .unset, .unset, .unset, .unset, .unset, .unset, .unset, .unset] [(.int (0 : Int32))]))
    refine go (fun tg kg => XS.istore X0.here hx rfl (hb hby at_24) rfl (l' := #[.val (.int x0), .val (.int x1), .val (.int x2), .val (.int x3), .val (.int x4), .val (.int (1 : Int32)), .unset, .unset, .unset, .unset, .val (.int (0 : Int32)), .val (.int (0 : Int32)), .val (.int (0 : Int32)), .val (.int (0 : Int32)), .unset, .unset, .unset, .unset, .unset, .unset, .unset]) rfl kg) ?_
    show G (s₁.setTop (mkF m 26 #[.val (.int x0), .val (.int x1), .val (.int x2), .val (.int x3), .val (.int x4), .val (.int (1 : Int32)), .unset, .unset, .unset, .unset, .val (.int (0 : Int32)), .val (.int (0 : Int32)), .val (.int (0 : Int32)), .val (.int (0 : Int32)), .unset, .unset, .unset, .unset, .unset, .unset, .unset] []))
    refine go (fun tg kg => XS.iload X0.here hx rfl (hb hby at_26) rfl kg) ?_
    show G (s₁.setTop (mkF m 28 #[.val (.int x0), .val (.int x1), .val (.int x2), .val (.int x3), .val (.int x4), .val (.int (1 : Int32)), .unset, .unset, .unset, .unset, .val (.int (0 : Int32)), .val (.int (0 : Int32)), .val (.int (0 : Int32)), .val (.int (0 : Int32)), .unset, .unset, .unset, .unset, .unset, .unset, .unset] [(.int (1 : Int32))]))
    refine go (fun tg kg => XS.ifNo X0.here hx rfl (hb hby at_28) rfl ((if0 _ _).trans (feq (by decide)).1) kg) ?_
    show G (s₁.setTop (mkF m 31 #[.val (.int x0), .val (.int x1), .val (.int x2), .val (.int x3), .val (.int x4), .val (.int (1 : Int32)), .unset, .unset, .unset, .unset, .val (.int (0 : Int32)), .val (.int (0 : Int32)), .val (.int (0 : Int32)), .val (.int (0 : Int32)), .unset, .unset, .unset, .unset, .unset, .unset, .unset] []))
    refine go (fun tg kg => XS.iconst X0.here hx rfl (hb hby at_31) kg) ?_
    show G (s₁.setTop (mkF m 32 #[.val (.int x0), .val (.int x1), .val (.int x2), .val (.int x3), .val (.int x4), .val (.int (1 : Int32)), .unset, .unset, .unset, .unset, .val (.int (0 : Int32)), .val (.int (0 : Int32)), .val (.int (0 : Int32)), .val (.int (0 : Int32)), .unset, .unset, .unset, .unset, .unset, .unset, .unset] [(.int (1 : Int32))]))
    refine go (fun tg kg => XS.iloadN X0.here hx rfl (hb hby at_32) rfl kg) ?_
    show G (s₁.setTop (mkF m 33 #[.val (.int x0), .val (.int x1), .val (.int x2), .val (.int x3), .val (.int x4), .val (.int (1 : Int32)), .unset, .unset, .unset, .unset, .val (.int (0 : Int32)), .val (.int (0 : Int32)), .val (.int (0 : Int32)), .val (.int (0 : Int32)), .unset, .unset, .unset, .unset, .unset, .unset, .unset] [(.int x0), (.int (1 : Int32))]))
    refine go (fun tg kg => X0.ldcInt hx hown (mvT hZ (hw _ (List.mem_of_getElem? (i := 0) rfl))) (g := (mkF m 33 #[.val (.int x0), .val (.int x1), .val (.int x2), .val (.int x3), .val (.int x4), .val (.int (1 : Int32)), .unset, .unset, .unset, .unset, .val (.int (0 : Int32)), .val (.int (0 : Int32)), .val (.int (0 : Int32)), .val (.int (0 : Int32)), .unset, .unset, .unset, .unset, .unset, .unset, .unset] [(.int x0), (.int (1 : Int32))])) rfl (hb hby at_33) _ kg) ?_
    show G (s₁.setTop (mkF m 35 #[.val (.int x0), .val (.int x1), .val (.int x2), .val (.int x3), .val (.int x4), .val (.int (1 : Int32)), .unset, .unset, .unset, .unset, .val (.int (0 : Int32)), .val (.int (0 : Int32)), .val (.int (0 : Int32)), .val (.int (0 : Int32)), .unset, .unset, .unset, .unset, .unset, .unset, .unset] [(.int (2147483647 : Int32)), (.int x0), (.int (1 : Int32))]))
    refine go (fun tg kg => XS.iand X0.here hx rfl (hb hby at_35) rfl kg) ?_
    show G (s₁.setTop (mkF m 36 #[.val (.int x0), .val (.int x1), .val (.int x2), .val (.int x3), .val (.int x4), .val (.int (1 : Int32)), .unset, .unset, .unset, .unset, .val (.int (0 : Int32)), .val (.int (0 : Int32)), .val (.int (0 : Int32)), .val (.int (0 : Int32)), .unset, .unset, .unset, .unset, .unset, .unset, .unset] [(.int (x0 &&& (2147483647 : Int32))), (.int (1 : Int32))]))
    refine go (fun tg kg => X0.ldcInt hx hown (mvT hZ (hw _ (List.mem_of_getElem? (i := 1) rfl))) (g := (mkF m 36 #[.val (.int x0), .val (.int x1), .val (.int x2), .val (.int x3), .val (.int x4), .val (.int (1 : Int32)), .unset, .unset, .unset, .unset, .val (.int (0 : Int32)), .val (.int (0 : Int32)), .val (.int (0 : Int32)), .val (.int (0 : Int32)), .unset, .unset, .unset, .unset, .unset, .unset, .unset] [(.int (x0 &&& (2147483647 : Int32))), (.int (1 : Int32))])) rfl (hb hby at_36) _ kg) ?_
    show G (s₁.setTop (mkF m 38 #[.val (.int x0), .val (.int x1), .val (.int x2), .val (.int x3), .val (.int x4), .val (.int (1 : Int32)), .unset, .unset, .unset, .unset, .val (.int (0 : Int32)), .val (.int (0 : Int32)), .val (.int (0 : Int32)), .val (.int (0 : Int32)), .unset, .unset, .unset, .unset, .unset, .unset, .unset] [(.int (65536 : Int32)), (.int (x0 &&& (2147483647 : Int32))), (.int (1 : Int32))]))
    refine go (fun tg kg => iremM X0 hx rfl (hb hby at_38) rfl (by decide) kg) ?_
    show G (s₁.setTop (mkF m 39 #[.val (.int x0), .val (.int x1), .val (.int x2), .val (.int x3), .val (.int x4), .val (.int (1 : Int32)), .unset, .unset, .unset, .unset, .val (.int (0 : Int32)), .val (.int (0 : Int32)), .val (.int (0 : Int32)), .val (.int (0 : Int32)), .unset, .unset, .unset, .unset, .unset, .unset, .unset] [(.int ((x0 &&& (2147483647 : Int32)) % (65536 : Int32))), (.int (1 : Int32))]))
    refine go (fun tg kg => XS.iadd X0.here hx rfl (hb hby at_39) rfl kg) ?_
    show G (s₁.setTop (mkF m 40 #[.val (.int x0), .val (.int x1), .val (.int x2), .val (.int x3), .val (.int x4), .val (.int (1 : Int32)), .unset, .unset, .unset, .unset, .val (.int (0 : Int32)), .val (.int (0 : Int32)), .val (.int (0 : Int32)), .val (.int (0 : Int32)), .unset, .unset, .unset, .unset, .unset, .unset, .unset] [(.int ((1 : Int32) + ((x0 &&& (2147483647 : Int32)) % (65536 : Int32))))]))
    refine go (fun tg kg => XS.istore X0.here hx rfl (hb hby at_40) rfl (l' := #[.val (.int x0), .val (.int x1), .val (.int x2), .val (.int x3), .val (.int x4), .val (.int (1 : Int32)), .val (.int ((1 : Int32) + ((x0 &&& (2147483647 : Int32)) % (65536 : Int32)))), .unset, .unset, .unset, .val (.int (0 : Int32)), .val (.int (0 : Int32)), .val (.int (0 : Int32)), .val (.int (0 : Int32)), .unset, .unset, .unset, .unset, .unset, .unset, .unset]) rfl kg) ?_
    show G (s₁.setTop (mkF m 42 #[.val (.int x0), .val (.int x1), .val (.int x2), .val (.int x3), .val (.int x4), .val (.int (1 : Int32)), .val (.int ((1 : Int32) + ((x0 &&& (2147483647 : Int32)) % (65536 : Int32)))), .unset, .unset, .unset, .val (.int (0 : Int32)), .val (.int (0 : Int32)), .val (.int (0 : Int32)), .val (.int (0 : Int32)), .unset, .unset, .unset, .unset, .unset, .unset, .unset] []))
    obtain ⟨nn, hnn⟩ : ∃ z : Int32, z = ((1 : Int32) + ((x0 &&& (2147483647 : Int32)) % (65536 : Int32))) := ⟨_, rfl⟩
    have bn := own_n1 x0 hnn
    rw [← hnn]
    show G (s₁.setTop (mkF m 42 #[.val (.int x0), .val (.int x1), .val (.int x2), .val (.int x3), .val (.int x4), .val (.int (1 : Int32)), .val (.int nn), .unset, .unset, .unset, .val (.int (0 : Int32)), .val (.int (0 : Int32)), .val (.int (0 : Int32)), .val (.int (0 : Int32)), .unset, .unset, .unset, .unset, .unset, .unset, .unset] []))
    refine go (fun tg kg => XS.iloadN X0.here hx rfl (hb hby at_42) rfl kg) ?_
    show G (s₁.setTop (mkF m 43 #[.val (.int x0), .val (.int x1), .val (.int x2), .val (.int x3), .val (.int x4), .val (.int (1 : Int32)), .val (.int nn), .unset, .unset, .unset, .val (.int (0 : Int32)), .val (.int (0 : Int32)), .val (.int (0 : Int32)), .val (.int (0 : Int32)), .unset, .unset, .unset, .unset, .unset, .unset, .unset] [(.int x1)]))
    refine go (fun tg kg => X0.ldcInt hx hown (mvT hZ (hw _ (List.mem_of_getElem? (i := 0) rfl))) (g := (mkF m 43 #[.val (.int x0), .val (.int x1), .val (.int x2), .val (.int x3), .val (.int x4), .val (.int (1 : Int32)), .val (.int nn), .unset, .unset, .unset, .val (.int (0 : Int32)), .val (.int (0 : Int32)), .val (.int (0 : Int32)), .val (.int (0 : Int32)), .unset, .unset, .unset, .unset, .unset, .unset, .unset] [(.int x1)])) rfl (hb hby at_43) _ kg) ?_
    show G (s₁.setTop (mkF m 45 #[.val (.int x0), .val (.int x1), .val (.int x2), .val (.int x3), .val (.int x4), .val (.int (1 : Int32)), .val (.int nn), .unset, .unset, .unset, .val (.int (0 : Int32)), .val (.int (0 : Int32)), .val (.int (0 : Int32)), .val (.int (0 : Int32)), .unset, .unset, .unset, .unset, .unset, .unset, .unset] [(.int (2147483647 : Int32)), (.int x1)]))
    refine go (fun tg kg => XS.iand X0.here hx rfl (hb hby at_45) rfl kg) ?_
    show G (s₁.setTop (mkF m 46 #[.val (.int x0), .val (.int x1), .val (.int x2), .val (.int x3), .val (.int x4), .val (.int (1 : Int32)), .val (.int nn), .unset, .unset, .unset, .val (.int (0 : Int32)), .val (.int (0 : Int32)), .val (.int (0 : Int32)), .val (.int (0 : Int32)), .unset, .unset, .unset, .unset, .unset, .unset, .unset] [(.int (x1 &&& (2147483647 : Int32)))]))
    refine go (fun tg kg => X0.ldcInt hx hown (mvT hZ (hw _ (List.mem_of_getElem? (i := 7) rfl))) (g := (mkF m 46 #[.val (.int x0), .val (.int x1), .val (.int x2), .val (.int x3), .val (.int x4), .val (.int (1 : Int32)), .val (.int nn), .unset, .unset, .unset, .val (.int (0 : Int32)), .val (.int (0 : Int32)), .val (.int (0 : Int32)), .val (.int (0 : Int32)), .unset, .unset, .unset, .unset, .unset, .unset, .unset] [(.int (x1 &&& (2147483647 : Int32)))])) rfl (hb hby at_46) _ kg) ?_
    show G (s₁.setTop (mkF m 48 #[.val (.int x0), .val (.int x1), .val (.int x2), .val (.int x3), .val (.int x4), .val (.int (1 : Int32)), .val (.int nn), .unset, .unset, .unset, .val (.int (0 : Int32)), .val (.int (0 : Int32)), .val (.int (0 : Int32)), .val (.int (0 : Int32)), .unset, .unset, .unset, .unset, .unset, .unset, .unset] [(.int (65537 : Int32)), (.int (x1 &&& (2147483647 : Int32)))]))
    refine go (fun tg kg => XS.iload X0.here hx rfl (hb hby at_48) rfl kg) ?_
    show G (s₁.setTop (mkF m 50 #[.val (.int x0), .val (.int x1), .val (.int x2), .val (.int x3), .val (.int x4), .val (.int (1 : Int32)), .val (.int nn), .unset, .unset, .unset, .val (.int (0 : Int32)), .val (.int (0 : Int32)), .val (.int (0 : Int32)), .val (.int (0 : Int32)), .unset, .unset, .unset, .unset, .unset, .unset, .unset] [(.int nn), (.int (65537 : Int32)), (.int (x1 &&& (2147483647 : Int32)))]))
    refine go (fun tg kg => XS.isub X0.here hx rfl (hb hby at_50) rfl kg) ?_
    show G (s₁.setTop (mkF m 51 #[.val (.int x0), .val (.int x1), .val (.int x2), .val (.int x3), .val (.int x4), .val (.int (1 : Int32)), .val (.int nn), .unset, .unset, .unset, .val (.int (0 : Int32)), .val (.int (0 : Int32)), .val (.int (0 : Int32)), .val (.int (0 : Int32)), .unset, .unset, .unset, .unset, .unset, .unset, .unset] [(.int ((65537 : Int32) - nn)), (.int (x1 &&& (2147483647 : Int32)))]))
    refine go (fun tg kg => iremM X0 hx rfl (hb hby at_51) rfl (own_nz2 bn) kg) ?_
    show G (s₁.setTop (mkF m 52 #[.val (.int x0), .val (.int x1), .val (.int x2), .val (.int x3), .val (.int x4), .val (.int (1 : Int32)), .val (.int nn), .unset, .unset, .unset, .val (.int (0 : Int32)), .val (.int (0 : Int32)), .val (.int (0 : Int32)), .val (.int (0 : Int32)), .unset, .unset, .unset, .unset, .unset, .unset, .unset] [(.int ((x1 &&& (2147483647 : Int32)) % ((65537 : Int32) - nn)))]))
    refine go (fun tg kg => XS.istore X0.here hx rfl (hb hby at_52) rfl (l' := #[.val (.int x0), .val (.int x1), .val (.int x2), .val (.int x3), .val (.int x4), .val (.int (1 : Int32)), .val (.int nn), .val (.int ((x1 &&& (2147483647 : Int32)) % ((65537 : Int32) - nn))), .unset, .unset, .val (.int (0 : Int32)), .val (.int (0 : Int32)), .val (.int (0 : Int32)), .val (.int (0 : Int32)), .unset, .unset, .unset, .unset, .unset, .unset, .unset]) rfl kg) ?_
    show G (s₁.setTop (mkF m 54 #[.val (.int x0), .val (.int x1), .val (.int x2), .val (.int x3), .val (.int x4), .val (.int (1 : Int32)), .val (.int nn), .val (.int ((x1 &&& (2147483647 : Int32)) % ((65537 : Int32) - nn))), .unset, .unset, .val (.int (0 : Int32)), .val (.int (0 : Int32)), .val (.int (0 : Int32)), .val (.int (0 : Int32)), .unset, .unset, .unset, .unset, .unset, .unset, .unset] []))
    obtain ⟨lo, hlo⟩ : ∃ z : Int32, z = ((x1 &&& (2147483647 : Int32)) % ((65537 : Int32) - nn)) := ⟨_, rfl⟩
    have bl := own_lo1 x1 bn hlo
    rw [← hlo]
    show G (s₁.setTop (mkF m 54 #[.val (.int x0), .val (.int x1), .val (.int x2), .val (.int x3), .val (.int x4), .val (.int (1 : Int32)), .val (.int nn), .val (.int lo), .unset, .unset, .val (.int (0 : Int32)), .val (.int (0 : Int32)), .val (.int (0 : Int32)), .val (.int (0 : Int32)), .unset, .unset, .unset, .unset, .unset, .unset, .unset] []))
    refine go (fun tg kg => XS.iload X0.here hx rfl (hb hby at_54) rfl kg) ?_
    show G (s₁.setTop (mkF m 56 #[.val (.int x0), .val (.int x1), .val (.int x2), .val (.int x3), .val (.int x4), .val (.int (1 : Int32)), .val (.int nn), .val (.int lo), .unset, .unset, .val (.int (0 : Int32)), .val (.int (0 : Int32)), .val (.int (0 : Int32)), .val (.int (0 : Int32)), .unset, .unset, .unset, .unset, .unset, .unset, .unset] [(.int lo)]))
    refine go (fun tg kg => XS.iload X0.here hx rfl (hb hby at_56) rfl kg) ?_
    show G (s₁.setTop (mkF m 58 #[.val (.int x0), .val (.int x1), .val (.int x2), .val (.int x3), .val (.int x4), .val (.int (1 : Int32)), .val (.int nn), .val (.int lo), .unset, .unset, .val (.int (0 : Int32)), .val (.int (0 : Int32)), .val (.int (0 : Int32)), .val (.int (0 : Int32)), .unset, .unset, .unset, .unset, .unset, .unset, .unset] [(.int nn), (.int lo)]))
    refine go (fun tg kg => XS.iadd X0.here hx rfl (hb hby at_58) rfl kg) ?_
    show G (s₁.setTop (mkF m 59 #[.val (.int x0), .val (.int x1), .val (.int x2), .val (.int x3), .val (.int x4), .val (.int (1 : Int32)), .val (.int nn), .val (.int lo), .unset, .unset, .val (.int (0 : Int32)), .val (.int (0 : Int32)), .val (.int (0 : Int32)), .val (.int (0 : Int32)), .unset, .unset, .unset, .unset, .unset, .unset, .unset] [(.int (lo + nn))]))
    refine go (fun tg kg => XS.iconst X0.here hx rfl (hb hby at_59) kg) ?_
    show G (s₁.setTop (mkF m 60 #[.val (.int x0), .val (.int x1), .val (.int x2), .val (.int x3), .val (.int x4), .val (.int (1 : Int32)), .val (.int nn), .val (.int lo), .unset, .unset, .val (.int (0 : Int32)), .val (.int (0 : Int32)), .val (.int (0 : Int32)), .val (.int (0 : Int32)), .unset, .unset, .unset, .unset, .unset, .unset, .unset] [(.int (1 : Int32)), (.int (lo + nn))]))
    refine go (fun tg kg => XS.isub X0.here hx rfl (hb hby at_60) rfl kg) ?_
    show G (s₁.setTop (mkF m 61 #[.val (.int x0), .val (.int x1), .val (.int x2), .val (.int x3), .val (.int x4), .val (.int (1 : Int32)), .val (.int nn), .val (.int lo), .unset, .unset, .val (.int (0 : Int32)), .val (.int (0 : Int32)), .val (.int (0 : Int32)), .val (.int (0 : Int32)), .unset, .unset, .unset, .unset, .unset, .unset, .unset] [(.int ((lo + nn) - (1 : Int32)))]))
    refine go (fun tg kg => XS.istore X0.here hx rfl (hb hby at_61) rfl (l' := #[.val (.int x0), .val (.int x1), .val (.int x2), .val (.int x3), .val (.int x4), .val (.int (1 : Int32)), .val (.int nn), .val (.int lo), .val (.int ((lo + nn) - (1 : Int32))), .unset, .val (.int (0 : Int32)), .val (.int (0 : Int32)), .val (.int (0 : Int32)), .val (.int (0 : Int32)), .unset, .unset, .unset, .unset, .unset, .unset, .unset]) rfl kg) ?_
    show G (s₁.setTop (mkF m 63 #[.val (.int x0), .val (.int x1), .val (.int x2), .val (.int x3), .val (.int x4), .val (.int (1 : Int32)), .val (.int nn), .val (.int lo), .val (.int ((lo + nn) - (1 : Int32))), .unset, .val (.int (0 : Int32)), .val (.int (0 : Int32)), .val (.int (0 : Int32)), .val (.int (0 : Int32)), .unset, .unset, .unset, .unset, .unset, .unset, .unset] []))
    obtain ⟨hi, hhi⟩ : ∃ z : Int32, z = ((lo + nn) - (1 : Int32)) := ⟨_, rfl⟩
    have bh := own_hi1 bn bl hhi
    rw [← hhi]
    show G (s₁.setTop (mkF m 63 #[.val (.int x0), .val (.int x1), .val (.int x2), .val (.int x3), .val (.int x4), .val (.int (1 : Int32)), .val (.int nn), .val (.int lo), .val (.int hi), .unset, .val (.int (0 : Int32)), .val (.int (0 : Int32)), .val (.int (0 : Int32)), .val (.int (0 : Int32)), .unset, .unset, .unset, .unset, .unset, .unset, .unset] []))
    refine go (fun tg kg => XS.iload X0.here hx rfl (hb hby at_63) rfl kg) ?_
    show G (s₁.setTop (mkF m 65 #[.val (.int x0), .val (.int x1), .val (.int x2), .val (.int x3), .val (.int x4), .val (.int (1 : Int32)), .val (.int nn), .val (.int lo), .val (.int hi), .unset, .val (.int (0 : Int32)), .val (.int (0 : Int32)), .val (.int (0 : Int32)), .val (.int (0 : Int32)), .unset, .unset, .unset, .unset, .unset, .unset, .unset] [(.int lo)]))
    refine go (fun tg kg => XS.iloadN X0.here hx rfl (hb hby at_65) rfl kg) ?_
    show G (s₁.setTop (mkF m 66 #[.val (.int x0), .val (.int x1), .val (.int x2), .val (.int x3), .val (.int x4), .val (.int (1 : Int32)), .val (.int nn), .val (.int lo), .val (.int hi), .unset, .val (.int (0 : Int32)), .val (.int (0 : Int32)), .val (.int (0 : Int32)), .val (.int (0 : Int32)), .unset, .unset, .unset, .unset, .unset, .unset, .unset] [(.int x3), (.int lo)]))
    refine go (fun tg kg => X0.ldcInt hx hown (mvT hZ (hw _ (List.mem_of_getElem? (i := 2) rfl))) (g := (mkF m 66 #[.val (.int x0), .val (.int x1), .val (.int x2), .val (.int x3), .val (.int x4), .val (.int (1 : Int32)), .val (.int nn), .val (.int lo), .val (.int hi), .unset, .val (.int (0 : Int32)), .val (.int (0 : Int32)), .val (.int (0 : Int32)), .val (.int (0 : Int32)), .unset, .unset, .unset, .unset, .unset, .unset, .unset] [(.int x3), (.int lo)])) rfl (hb hby at_66) _ kg) ?_
    show G (s₁.setTop (mkF m 68 #[.val (.int x0), .val (.int x1), .val (.int x2), .val (.int x3), .val (.int x4), .val (.int (1 : Int32)), .val (.int nn), .val (.int lo), .val (.int hi), .unset, .val (.int (0 : Int32)), .val (.int (0 : Int32)), .val (.int (0 : Int32)), .val (.int (0 : Int32)), .unset, .unset, .unset, .unset, .unset, .unset, .unset] [(.int (65535 : Int32)), (.int x3), (.int lo)]))
    refine go (fun tg kg => XS.iand X0.here hx rfl (hb hby at_68) rfl kg) ?_
    show G (s₁.setTop (mkF m 69 #[.val (.int x0), .val (.int x1), .val (.int x2), .val (.int x3), .val (.int x4), .val (.int (1 : Int32)), .val (.int nn), .val (.int lo), .val (.int hi), .unset, .val (.int (0 : Int32)), .val (.int (0 : Int32)), .val (.int (0 : Int32)), .val (.int (0 : Int32)), .unset, .unset, .unset, .unset, .unset, .unset, .unset] [(.int (x3 &&& (65535 : Int32))), (.int lo)]))
    refine go (fun tg kg => XS.iload X0.here hx rfl (hb hby at_69) rfl kg) ?_
    show G (s₁.setTop (mkF m 71 #[.val (.int x0), .val (.int x1), .val (.int x2), .val (.int x3), .val (.int x4), .val (.int (1 : Int32)), .val (.int nn), .val (.int lo), .val (.int hi), .unset, .val (.int (0 : Int32)), .val (.int (0 : Int32)), .val (.int (0 : Int32)), .val (.int (0 : Int32)), .unset, .unset, .unset, .unset, .unset, .unset, .unset] [(.int nn), (.int (x3 &&& (65535 : Int32))), (.int lo)]))
    refine go (fun tg kg => iremM X0 hx rfl (hb hby at_71) rfl (own_nz bn.1) kg) ?_
    show G (s₁.setTop (mkF m 72 #[.val (.int x0), .val (.int x1), .val (.int x2), .val (.int x3), .val (.int x4), .val (.int (1 : Int32)), .val (.int nn), .val (.int lo), .val (.int hi), .unset, .val (.int (0 : Int32)), .val (.int (0 : Int32)), .val (.int (0 : Int32)), .val (.int (0 : Int32)), .unset, .unset, .unset, .unset, .unset, .unset, .unset] [(.int ((x3 &&& (65535 : Int32)) % nn)), (.int lo)]))
    refine go (fun tg kg => XS.iadd X0.here hx rfl (hb hby at_72) rfl kg) ?_
    show G (s₁.setTop (mkF m 73 #[.val (.int x0), .val (.int x1), .val (.int x2), .val (.int x3), .val (.int x4), .val (.int (1 : Int32)), .val (.int nn), .val (.int lo), .val (.int hi), .unset, .val (.int (0 : Int32)), .val (.int (0 : Int32)), .val (.int (0 : Int32)), .val (.int (0 : Int32)), .unset, .unset, .unset, .unset, .unset, .unset, .unset] [(.int (lo + ((x3 &&& (65535 : Int32)) % nn)))]))
    refine go (fun tg kg => XS.istore X0.here hx rfl (hb hby at_73) rfl (l' := #[.val (.int x0), .val (.int x1), .val (.int x2), .val (.int x3), .val (.int x4), .val (.int (1 : Int32)), .val (.int nn), .val (.int lo), .val (.int hi), .val (.int (lo + ((x3 &&& (65535 : Int32)) % nn))), .val (.int (0 : Int32)), .val (.int (0 : Int32)), .val (.int (0 : Int32)), .val (.int (0 : Int32)), .unset, .unset, .unset, .unset, .unset, .unset, .unset]) rfl kg) ?_
    show G (s₁.setTop (mkF m 75 #[.val (.int x0), .val (.int x1), .val (.int x2), .val (.int x3), .val (.int x4), .val (.int (1 : Int32)), .val (.int nn), .val (.int lo), .val (.int hi), .val (.int (lo + ((x3 &&& (65535 : Int32)) % nn))), .val (.int (0 : Int32)), .val (.int (0 : Int32)), .val (.int (0 : Int32)), .val (.int (0 : Int32)), .unset, .unset, .unset, .unset, .unset, .unset, .unset] []))
    obtain ⟨mid, hmid⟩ : ∃ z : Int32, z = (lo + ((x3 &&& (65535 : Int32)) % nn)) := ⟨_, rfl⟩
    rw [← hmid]
    show G (s₁.setTop (mkF m 75 #[.val (.int x0), .val (.int x1), .val (.int x2), .val (.int x3), .val (.int x4), .val (.int (1 : Int32)), .val (.int nn), .val (.int lo), .val (.int hi), .val (.int mid), .val (.int (0 : Int32)), .val (.int (0 : Int32)), .val (.int (0 : Int32)), .val (.int (0 : Int32)), .unset, .unset, .unset, .unset, .unset, .unset, .unset] []))
    refine go (fun tg kg => XS.goto X0.here hx rfl (pc0 := 75) (pc' := 224) rfl (hb hby at_75) (by decide) (by decide) kg) ?_
    show G (s₁.setTop (mkF m 224 #[.val (.int x0), .val (.int x1), .val (.int x2), .val (.int x3), .val (.int x4), .val (.int (1 : Int32)), .val (.int nn), .val (.int lo), .val (.int hi), .val (.int mid), .val (.int (0 : Int32)), .val (.int (0 : Int32)), .val (.int (0 : Int32)), .val (.int (0 : Int32)), .unset, .unset, .unset, .unset, .unset, .unset, .unset] []))
    refine go (fun tg kg => XS.iloadN X0.here hx rfl (hb hby at_224) rfl kg) ?_
    show G (s₁.setTop (mkF m 225 #[.val (.int x0), .val (.int x1), .val (.int x2), .val (.int x3), .val (.int x4), .val (.int (1 : Int32)), .val (.int nn), .val (.int lo), .val (.int hi), .val (.int mid), .val (.int (0 : Int32)), .val (.int (0 : Int32)), .val (.int (0 : Int32)), .val (.int (0 : Int32)), .unset, .unset, .unset, .unset, .unset, .unset, .unset] [(.int x3)]))
    refine go (fun tg kg => XS.bipush X0.here hx rfl (hb hby at_225) kg) ?_
    show G (s₁.setTop (mkF m 227 #[.val (.int x0), .val (.int x1), .val (.int x2), .val (.int x3), .val (.int x4), .val (.int (1 : Int32)), .val (.int nn), .val (.int lo), .val (.int hi), .val (.int mid), .val (.int (0 : Int32)), .val (.int (0 : Int32)), .val (.int (0 : Int32)), .val (.int (0 : Int32)), .unset, .unset, .unset, .unset, .unset, .unset, .unset] [(.int (16 : Int32)), (.int x3)]))
    refine go (fun tg kg => XS.iushr X0.here hx rfl (hb hby at_227) rfl kg) ?_
    show G (s₁.setTop (mkF m 228 #[.val (.int x0), .val (.int x1), .val (.int x2), .val (.int x3), .val (.int x4), .val (.int (1 : Int32)), .val (.int nn), .val (.int lo), .val (.int hi), .val (.int mid), .val (.int (0 : Int32)), .val (.int (0 : Int32)), .val (.int (0 : Int32)), .val (.int (0 : Int32)), .unset, .unset, .unset, .unset, .unset, .unset, .unset] [(.int ((x3.toUInt32 >>> ((16 : Int32) &&& 31).toUInt32).toInt32))]))
    refine go (fun tg kg => XS.bipush X0.here hx rfl (hb hby at_228) kg) ?_
    show G (s₁.setTop (mkF m 230 #[.val (.int x0), .val (.int x1), .val (.int x2), .val (.int x3), .val (.int x4), .val (.int (1 : Int32)), .val (.int nn), .val (.int lo), .val (.int hi), .val (.int mid), .val (.int (0 : Int32)), .val (.int (0 : Int32)), .val (.int (0 : Int32)), .val (.int (0 : Int32)), .unset, .unset, .unset, .unset, .unset, .unset, .unset] [(.int (7 : Int32)), (.int ((x3.toUInt32 >>> ((16 : Int32) &&& 31).toUInt32).toInt32))]))
    refine go (fun tg kg => XS.iand X0.here hx rfl (hb hby at_230) rfl kg) ?_
    show G (s₁.setTop (mkF m 231 #[.val (.int x0), .val (.int x1), .val (.int x2), .val (.int x3), .val (.int x4), .val (.int (1 : Int32)), .val (.int nn), .val (.int lo), .val (.int hi), .val (.int mid), .val (.int (0 : Int32)), .val (.int (0 : Int32)), .val (.int (0 : Int32)), .val (.int (0 : Int32)), .unset, .unset, .unset, .unset, .unset, .unset, .unset] [(.int (((x3.toUInt32 >>> ((16 : Int32) &&& 31).toUInt32).toInt32) &&& (7 : Int32)))]))
    refine go (fun tg kg => XS.istore X0.here hx rfl (hb hby at_231) rfl (l' := #[.val (.int x0), .val (.int x1), .val (.int x2), .val (.int x3), .val (.int x4), .val (.int (1 : Int32)), .val (.int nn), .val (.int lo), .val (.int hi), .val (.int mid), .val (.int (0 : Int32)), .val (.int (0 : Int32)), .val (.int (0 : Int32)), .val (.int (0 : Int32)), .val (.int (((x3.toUInt32 >>> ((16 : Int32) &&& 31).toUInt32).toInt32) &&& (7 : Int32))), .unset, .unset, .unset, .unset, .unset, .unset]) rfl kg) ?_
    show G (s₁.setTop (mkF m 233 #[.val (.int x0), .val (.int x1), .val (.int x2), .val (.int x3), .val (.int x4), .val (.int (1 : Int32)), .val (.int nn), .val (.int lo), .val (.int hi), .val (.int mid), .val (.int (0 : Int32)), .val (.int (0 : Int32)), .val (.int (0 : Int32)), .val (.int (0 : Int32)), .val (.int (((x3.toUInt32 >>> ((16 : Int32) &&& 31).toUInt32).toInt32) &&& (7 : Int32))), .unset, .unset, .unset, .unset, .unset, .unset] []))
    obtain ⟨sel, hsel⟩ : ∃ z : Int32, z = (((x3.toUInt32 >>> ((16 : Int32) &&& 31).toUInt32).toInt32) &&& (7 : Int32)) := ⟨_, rfl⟩
    rw [← hsel]
    show G (s₁.setTop (mkF m 233 #[.val (.int x0), .val (.int x1), .val (.int x2), .val (.int x3), .val (.int x4), .val (.int (1 : Int32)), .val (.int nn), .val (.int lo), .val (.int hi), .val (.int mid), .val (.int (0 : Int32)), .val (.int (0 : Int32)), .val (.int (0 : Int32)), .val (.int (0 : Int32)), .val (.int sel), .unset, .unset, .unset, .unset, .unset, .unset] []))
    refine go (b := s₁.setTop (mkF m 319 #[.val (.int x0), .val (.int x1), .val (.int x2), .val (.int x3), .val (.int x4), .val (.int (1 : Int32)), .val (.int nn), .val (.int lo), .val (.int hi), .val (.int mid), .val (.int (0 : Int32)), .val (.int (0 : Int32)), .val (.int (0 : Int32)), .val (.int (0 : Int32)), .val (.int sel), .val (.int (own_key sel lo hi mid x3)), .unset, .unset, .unset, .unset, .unset] [])) (fun tg kg => ?_) ?_
    · show Steps p.tables e below (s₁.setTop (mkF m 233 #[.val (.int x0), .val (.int x1), .val (.int x2), .val (.int x3), .val (.int x4), .val (.int (1 : Int32)), .val (.int nn), .val (.int lo), .val (.int hi), .val (.int mid), .val (.int (0 : Int32)), .val (.int (0 : Int32)), .val (.int (0 : Int32)), .val (.int (0 : Int32)), .val (.int sel), .unset, .unset, .unset, .unset, .unset, .unset] [])) _
      refine XS.iload X0.here hx rfl (hb hby at_233) rfl ?_
      show Steps p.tables e below (s₁.setTop (mkF m 235 #[.val (.int x0), .val (.int x1), .val (.int x2), .val (.int x3), .val (.int x4), .val (.int (1 : Int32)), .val (.int nn), .val (.int lo), .val (.int hi), .val (.int mid), .val (.int (0 : Int32)), .val (.int (0 : Int32)), .val (.int (0 : Int32)), .val (.int (0 : Int32)), .val (.int sel), .unset, .unset, .unset, .unset, .unset, .unset] [(.int sel)])) _
      by_cases hc59 : sel = (0 : Int32)
      · refine XS.ifNo X0.here hx rfl (hb hby at_235) rfl ((if0 _ _).trans (teq hc59).2) ?_
        show Steps p.tables e below (s₁.setTop (mkF m 238 #[.val (.int x0), .val (.int x1), .val (.int x2), .val (.int x3), .val (.int x4), .val (.int (1 : Int32)), .val (.int nn), .val (.int lo), .val (.int hi), .val (.int mid), .val (.int (0 : Int32)), .val (.int (0 : Int32)), .val (.int (0 : Int32)), .val (.int (0 : Int32)), .val (.int sel), .unset, .unset, .unset, .unset, .unset, .unset] [])) _
        refine XS.iload X0.here hx rfl (hb hby at_238) rfl ?_
        show Steps p.tables e below (s₁.setTop (mkF m 240 #[.val (.int x0), .val (.int x1), .val (.int x2), .val (.int x3), .val (.int x4), .val (.int (1 : Int32)), .val (.int nn), .val (.int lo), .val (.int hi), .val (.int mid), .val (.int (0 : Int32)), .val (.int (0 : Int32)), .val (.int (0 : Int32)), .val (.int (0 : Int32)), .val (.int sel), .unset, .unset, .unset, .unset, .unset, .unset] [(.int lo)])) _
        refine XS.istore X0.here hx rfl (hb hby at_240) rfl (l' := #[.val (.int x0), .val (.int x1), .val (.int x2), .val (.int x3), .val (.int x4), .val (.int (1 : Int32)), .val (.int nn), .val (.int lo), .val (.int hi), .val (.int mid), .val (.int (0 : Int32)), .val (.int (0 : Int32)), .val (.int (0 : Int32)), .val (.int (0 : Int32)), .val (.int sel), .val (.int lo), .unset, .unset, .unset, .unset, .unset]) rfl ?_
        show Steps p.tables e below (s₁.setTop (mkF m 242 #[.val (.int x0), .val (.int x1), .val (.int x2), .val (.int x3), .val (.int x4), .val (.int (1 : Int32)), .val (.int nn), .val (.int lo), .val (.int hi), .val (.int mid), .val (.int (0 : Int32)), .val (.int (0 : Int32)), .val (.int (0 : Int32)), .val (.int (0 : Int32)), .val (.int sel), .val (.int lo), .unset, .unset, .unset, .unset, .unset] [])) _
        refine XS.goto X0.here hx rfl (pc0 := 242) (pc' := 319) rfl (hb hby at_242) (by decide) (by decide) ?_
        show Steps p.tables e below (s₁.setTop (mkF m 319 #[.val (.int x0), .val (.int x1), .val (.int x2), .val (.int x3), .val (.int x4), .val (.int (1 : Int32)), .val (.int nn), .val (.int lo), .val (.int hi), .val (.int mid), .val (.int (0 : Int32)), .val (.int (0 : Int32)), .val (.int (0 : Int32)), .val (.int (0 : Int32)), .val (.int sel), .val (.int lo), .unset, .unset, .unset, .unset, .unset] [])) _
        have q0 : (own_key sel lo hi mid x3) = lo := by simp only [own_key, if_neg hc1, if_pos hc59]
        rw [q0] at kg
        exact kg
      · refine XS.ifYes X0.here hx rfl (pc0 := 235) (pc' := 245) rfl (hb hby at_235) rfl ((if0 _ _).trans (feq hc59).2) (by decide) (by decide) ?_
        show Steps p.tables e below (s₁.setTop (mkF m 245 #[.val (.int x0), .val (.int x1), .val (.int x2), .val (.int x3), .val (.int x4), .val (.int (1 : Int32)), .val (.int nn), .val (.int lo), .val (.int hi), .val (.int mid), .val (.int (0 : Int32)), .val (.int (0 : Int32)), .val (.int (0 : Int32)), .val (.int (0 : Int32)), .val (.int sel), .unset, .unset, .unset, .unset, .unset, .unset] [])) _
        refine XS.iload X0.here hx rfl (hb hby at_245) rfl ?_
        show Steps p.tables e below (s₁.setTop (mkF m 247 #[.val (.int x0), .val (.int x1), .val (.int x2), .val (.int x3), .val (.int x4), .val (.int (1 : Int32)), .val (.int nn), .val (.int lo), .val (.int hi), .val (.int mid), .val (.int (0 : Int32)), .val (.int (0 : Int32)), .val (.int (0 : Int32)), .val (.int (0 : Int32)), .val (.int sel), .unset, .unset, .unset, .unset, .unset, .unset] [(.int sel)])) _
        refine XS.iconst X0.here hx rfl (hb hby at_247) ?_
        show Steps p.tables e below (s₁.setTop (mkF m 248 #[.val (.int x0), .val (.int x1), .val (.int x2), .val (.int x3), .val (.int x4), .val (.int (1 : Int32)), .val (.int nn), .val (.int lo), .val (.int hi), .val (.int mid), .val (.int (0 : Int32)), .val (.int (0 : Int32)), .val (.int (0 : Int32)), .val (.int (0 : Int32)), .val (.int sel), .unset, .unset, .unset, .unset, .unset, .unset] [(.int (1 : Int32)), (.int sel)])) _
        by_cases hc60 : sel = (1 : Int32)
        · refine XS.icmpNo X0.here hx rfl (hb hby at_248) rfl (teq hc60).2 ?_
          show Steps p.tables e below (s₁.setTop (mkF m 251 #[.val (.int x0), .val (.int x1), .val (.int x2), .val (.int x3), .val (.int x4), .val (.int (1 : Int32)), .val (.int nn), .val (.int lo), .val (.int hi), .val (.int mid), .val (.int (0 : Int32)), .val (.int (0 : Int32)), .val (.int (0 : Int32)), .val (.int (0 : Int32)), .val (.int sel), .unset, .unset, .unset, .unset, .unset, .unset] [])) _
          refine XS.iload X0.here hx rfl (hb hby at_251) rfl ?_
          show Steps p.tables e below (s₁.setTop (mkF m 253 #[.val (.int x0), .val (.int x1), .val (.int x2), .val (.int x3), .val (.int x4), .val (.int (1 : Int32)), .val (.int nn), .val (.int lo), .val (.int hi), .val (.int mid), .val (.int (0 : Int32)), .val (.int (0 : Int32)), .val (.int (0 : Int32)), .val (.int (0 : Int32)), .val (.int sel), .unset, .unset, .unset, .unset, .unset, .unset] [(.int hi)])) _
          refine XS.istore X0.here hx rfl (hb hby at_253) rfl (l' := #[.val (.int x0), .val (.int x1), .val (.int x2), .val (.int x3), .val (.int x4), .val (.int (1 : Int32)), .val (.int nn), .val (.int lo), .val (.int hi), .val (.int mid), .val (.int (0 : Int32)), .val (.int (0 : Int32)), .val (.int (0 : Int32)), .val (.int (0 : Int32)), .val (.int sel), .val (.int hi), .unset, .unset, .unset, .unset, .unset]) rfl ?_
          show Steps p.tables e below (s₁.setTop (mkF m 255 #[.val (.int x0), .val (.int x1), .val (.int x2), .val (.int x3), .val (.int x4), .val (.int (1 : Int32)), .val (.int nn), .val (.int lo), .val (.int hi), .val (.int mid), .val (.int (0 : Int32)), .val (.int (0 : Int32)), .val (.int (0 : Int32)), .val (.int (0 : Int32)), .val (.int sel), .val (.int hi), .unset, .unset, .unset, .unset, .unset] [])) _
          refine XS.goto X0.here hx rfl (pc0 := 255) (pc' := 319) rfl (hb hby at_255) (by decide) (by decide) ?_
          show Steps p.tables e below (s₁.setTop (mkF m 319 #[.val (.int x0), .val (.int x1), .val (.int x2), .val (.int x3), .val (.int x4), .val (.int (1 : Int32)), .val (.int nn), .val (.int lo), .val (.int hi), .val (.int mid), .val (.int (0 : Int32)), .val (.int (0 : Int32)), .val (.int (0 : Int32)), .val (.int (0 : Int32)), .val (.int sel), .val (.int hi), .unset, .unset, .unset, .unset, .unset] [])) _
          have q0 : (own_key sel lo hi mid x3) = hi := by simp only [own_key, if_neg hc1, if_neg hc59, if_pos hc60]
          rw [q0] at kg
          exact kg
        · refine XS.icmpYes X0.here hx rfl (pc0 := 248) (pc' := 258) rfl (hb hby at_248) rfl (feq hc60).2 (by decide) (by decide) ?_
          show Steps p.tables e below (s₁.setTop (mkF m 258 #[.val (.int x0), .val (.int x1), .val (.int x2), .val (.int x3), .val (.int x4), .val (.int (1 : Int32)), .val (.int nn), .val (.int lo), .val (.int hi), .val (.int mid), .val (.int (0 : Int32)), .val (.int (0 : Int32)), .val (.int (0 : Int32)), .val (.int (0 : Int32)), .val (.int sel), .unset, .unset, .unset, .unset, .unset, .unset] [])) _
          refine XS.iload X0.here hx rfl (hb hby at_258) rfl ?_
          show Steps p.tables e below (s₁.setTop (mkF m 260 #[.val (.int x0), .val (.int x1), .val (.int x2), .val (.int x3), .val (.int x4), .val (.int (1 : Int32)), .val (.int nn), .val (.int lo), .val (.int hi), .val (.int mid), .val (.int (0 : Int32)), .val (.int (0 : Int32)), .val (.int (0 : Int32)), .val (.int (0 : Int32)), .val (.int sel), .unset, .unset, .unset, .unset, .unset, .unset] [(.int sel)])) _
          refine XS.iconst X0.here hx rfl (hb hby at_260) ?_
          show Steps p.tables e below (s₁.setTop (mkF m 261 #[.val (.int x0), .val (.int x1), .val (.int x2), .val (.int x3), .val (.int x4), .val (.int (1 : Int32)), .val (.int nn), .val (.int lo), .val (.int hi), .val (.int mid), .val (.int (0 : Int32)), .val (.int (0 : Int32)), .val (.int (0 : Int32)), .val (.int (0 : Int32)), .val (.int sel), .unset, .unset, .unset, .unset, .unset, .unset] [(.int (2 : Int32)), (.int sel)])) _
          by_cases hc61 : sel = (2 : Int32)
          · refine XS.icmpNo X0.here hx rfl (hb hby at_261) rfl (teq hc61).2 ?_
            show Steps p.tables e below (s₁.setTop (mkF m 264 #[.val (.int x0), .val (.int x1), .val (.int x2), .val (.int x3), .val (.int x4), .val (.int (1 : Int32)), .val (.int nn), .val (.int lo), .val (.int hi), .val (.int mid), .val (.int (0 : Int32)), .val (.int (0 : Int32)), .val (.int (0 : Int32)), .val (.int (0 : Int32)), .val (.int sel), .unset, .unset, .unset, .unset, .unset, .unset] [])) _
            refine XS.iload X0.here hx rfl (hb hby at_264) rfl ?_
            show Steps p.tables e below (s₁.setTop (mkF m 266 #[.val (.int x0), .val (.int x1), .val (.int x2), .val (.int x3), .val (.int x4), .val (.int (1 : Int32)), .val (.int nn), .val (.int lo), .val (.int hi), .val (.int mid), .val (.int (0 : Int32)), .val (.int (0 : Int32)), .val (.int (0 : Int32)), .val (.int (0 : Int32)), .val (.int sel), .unset, .unset, .unset, .unset, .unset, .unset] [(.int lo)])) _
            refine XS.iconst X0.here hx rfl (hb hby at_266) ?_
            show Steps p.tables e below (s₁.setTop (mkF m 267 #[.val (.int x0), .val (.int x1), .val (.int x2), .val (.int x3), .val (.int x4), .val (.int (1 : Int32)), .val (.int nn), .val (.int lo), .val (.int hi), .val (.int mid), .val (.int (0 : Int32)), .val (.int (0 : Int32)), .val (.int (0 : Int32)), .val (.int (0 : Int32)), .val (.int sel), .unset, .unset, .unset, .unset, .unset, .unset] [(.int (1 : Int32)), (.int lo)])) _
            refine XS.isub X0.here hx rfl (hb hby at_267) rfl ?_
            show Steps p.tables e below (s₁.setTop (mkF m 268 #[.val (.int x0), .val (.int x1), .val (.int x2), .val (.int x3), .val (.int x4), .val (.int (1 : Int32)), .val (.int nn), .val (.int lo), .val (.int hi), .val (.int mid), .val (.int (0 : Int32)), .val (.int (0 : Int32)), .val (.int (0 : Int32)), .val (.int (0 : Int32)), .val (.int sel), .unset, .unset, .unset, .unset, .unset, .unset] [(.int (lo - (1 : Int32)))])) _
            refine XS.istore X0.here hx rfl (hb hby at_268) rfl (l' := #[.val (.int x0), .val (.int x1), .val (.int x2), .val (.int x3), .val (.int x4), .val (.int (1 : Int32)), .val (.int nn), .val (.int lo), .val (.int hi), .val (.int mid), .val (.int (0 : Int32)), .val (.int (0 : Int32)), .val (.int (0 : Int32)), .val (.int (0 : Int32)), .val (.int sel), .val (.int (lo - (1 : Int32))), .unset, .unset, .unset, .unset, .unset]) rfl ?_
            show Steps p.tables e below (s₁.setTop (mkF m 270 #[.val (.int x0), .val (.int x1), .val (.int x2), .val (.int x3), .val (.int x4), .val (.int (1 : Int32)), .val (.int nn), .val (.int lo), .val (.int hi), .val (.int mid), .val (.int (0 : Int32)), .val (.int (0 : Int32)), .val (.int (0 : Int32)), .val (.int (0 : Int32)), .val (.int sel), .val (.int (lo - (1 : Int32))), .unset, .unset, .unset, .unset, .unset] [])) _
            refine XS.goto X0.here hx rfl (pc0 := 270) (pc' := 319) rfl (hb hby at_270) (by decide) (by decide) ?_
            show Steps p.tables e below (s₁.setTop (mkF m 319 #[.val (.int x0), .val (.int x1), .val (.int x2), .val (.int x3), .val (.int x4), .val (.int (1 : Int32)), .val (.int nn), .val (.int lo), .val (.int hi), .val (.int mid), .val (.int (0 : Int32)), .val (.int (0 : Int32)), .val (.int (0 : Int32)), .val (.int (0 : Int32)), .val (.int sel), .val (.int (lo - (1 : Int32))), .unset, .unset, .unset, .unset, .unset] [])) _
            have q0 : (own_key sel lo hi mid x3) = (lo - (1 : Int32)) := by simp only [own_key, if_neg hc1, if_neg hc59, if_neg hc60, if_pos hc61]
            rw [q0] at kg
            exact kg
          · refine XS.icmpYes X0.here hx rfl (pc0 := 261) (pc' := 273) rfl (hb hby at_261) rfl (feq hc61).2 (by decide) (by decide) ?_
            show Steps p.tables e below (s₁.setTop (mkF m 273 #[.val (.int x0), .val (.int x1), .val (.int x2), .val (.int x3), .val (.int x4), .val (.int (1 : Int32)), .val (.int nn), .val (.int lo), .val (.int hi), .val (.int mid), .val (.int (0 : Int32)), .val (.int (0 : Int32)), .val (.int (0 : Int32)), .val (.int (0 : Int32)), .val (.int sel), .unset, .unset, .unset, .unset, .unset, .unset] [])) _
            refine XS.iload X0.here hx rfl (hb hby at_273) rfl ?_
            show Steps p.tables e below (s₁.setTop (mkF m 275 #[.val (.int x0), .val (.int x1), .val (.int x2), .val (.int x3), .val (.int x4), .val (.int (1 : Int32)), .val (.int nn), .val (.int lo), .val (.int hi), .val (.int mid), .val (.int (0 : Int32)), .val (.int (0 : Int32)), .val (.int (0 : Int32)), .val (.int (0 : Int32)), .val (.int sel), .unset, .unset, .unset, .unset, .unset, .unset] [(.int sel)])) _
            refine XS.iconst X0.here hx rfl (hb hby at_275) ?_
            show Steps p.tables e below (s₁.setTop (mkF m 276 #[.val (.int x0), .val (.int x1), .val (.int x2), .val (.int x3), .val (.int x4), .val (.int (1 : Int32)), .val (.int nn), .val (.int lo), .val (.int hi), .val (.int mid), .val (.int (0 : Int32)), .val (.int (0 : Int32)), .val (.int (0 : Int32)), .val (.int (0 : Int32)), .val (.int sel), .unset, .unset, .unset, .unset, .unset, .unset] [(.int (3 : Int32)), (.int sel)])) _
            by_cases hc62 : sel = (3 : Int32)
            · refine XS.icmpNo X0.here hx rfl (hb hby at_276) rfl (teq hc62).2 ?_
              show Steps p.tables e below (s₁.setTop (mkF m 279 #[.val (.int x0), .val (.int x1), .val (.int x2), .val (.int x3), .val (.int x4), .val (.int (1 : Int32)), .val (.int nn), .val (.int lo), .val (.int hi), .val (.int mid), .val (.int (0 : Int32)), .val (.int (0 : Int32)), .val (.int (0 : Int32)), .val (.int (0 : Int32)), .val (.int sel), .unset, .unset, .unset, .unset, .unset, .unset] [])) _
              refine XS.iload X0.here hx rfl (hb hby at_279) rfl ?_
              show Steps p.tables e below (s₁.setTop (mkF m 281 #[.val (.int x0), .val (.int x1), .val (.int x2), .val (.int x3), .val (.int x4), .val (.int (1 : Int32)), .val (.int nn), .val (.int lo), .val (.int hi), .val (.int mid), .val (.int (0 : Int32)), .val (.int (0 : Int32)), .val (.int (0 : Int32)), .val (.int (0 : Int32)), .val (.int sel), .unset, .unset, .unset, .unset, .unset, .unset] [(.int hi)])) _
              refine XS.iconst X0.here hx rfl (hb hby at_281) ?_
              show Steps p.tables e below (s₁.setTop (mkF m 282 #[.val (.int x0), .val (.int x1), .val (.int x2), .val (.int x3), .val (.int x4), .val (.int (1 : Int32)), .val (.int nn), .val (.int lo), .val (.int hi), .val (.int mid), .val (.int (0 : Int32)), .val (.int (0 : Int32)), .val (.int (0 : Int32)), .val (.int (0 : Int32)), .val (.int sel), .unset, .unset, .unset, .unset, .unset, .unset] [(.int (1 : Int32)), (.int hi)])) _
              refine XS.iadd X0.here hx rfl (hb hby at_282) rfl ?_
              show Steps p.tables e below (s₁.setTop (mkF m 283 #[.val (.int x0), .val (.int x1), .val (.int x2), .val (.int x3), .val (.int x4), .val (.int (1 : Int32)), .val (.int nn), .val (.int lo), .val (.int hi), .val (.int mid), .val (.int (0 : Int32)), .val (.int (0 : Int32)), .val (.int (0 : Int32)), .val (.int (0 : Int32)), .val (.int sel), .unset, .unset, .unset, .unset, .unset, .unset] [(.int (hi + (1 : Int32)))])) _
              refine XS.istore X0.here hx rfl (hb hby at_283) rfl (l' := #[.val (.int x0), .val (.int x1), .val (.int x2), .val (.int x3), .val (.int x4), .val (.int (1 : Int32)), .val (.int nn), .val (.int lo), .val (.int hi), .val (.int mid), .val (.int (0 : Int32)), .val (.int (0 : Int32)), .val (.int (0 : Int32)), .val (.int (0 : Int32)), .val (.int sel), .val (.int (hi + (1 : Int32))), .unset, .unset, .unset, .unset, .unset]) rfl ?_
              show Steps p.tables e below (s₁.setTop (mkF m 285 #[.val (.int x0), .val (.int x1), .val (.int x2), .val (.int x3), .val (.int x4), .val (.int (1 : Int32)), .val (.int nn), .val (.int lo), .val (.int hi), .val (.int mid), .val (.int (0 : Int32)), .val (.int (0 : Int32)), .val (.int (0 : Int32)), .val (.int (0 : Int32)), .val (.int sel), .val (.int (hi + (1 : Int32))), .unset, .unset, .unset, .unset, .unset] [])) _
              refine XS.goto X0.here hx rfl (pc0 := 285) (pc' := 319) rfl (hb hby at_285) (by decide) (by decide) ?_
              show Steps p.tables e below (s₁.setTop (mkF m 319 #[.val (.int x0), .val (.int x1), .val (.int x2), .val (.int x3), .val (.int x4), .val (.int (1 : Int32)), .val (.int nn), .val (.int lo), .val (.int hi), .val (.int mid), .val (.int (0 : Int32)), .val (.int (0 : Int32)), .val (.int (0 : Int32)), .val (.int (0 : Int32)), .val (.int sel), .val (.int (hi + (1 : Int32))), .unset, .unset, .unset, .unset, .unset] [])) _
              have q0 : (own_key sel lo hi mid x3) = (hi + (1 : Int32)) := by simp only [own_key, if_neg hc1, if_neg hc59, if_neg hc60, if_neg hc61, if_pos hc62]
              rw [q0] at kg
              exact kg
            · refine XS.icmpYes X0.here hx rfl (pc0 := 276) (pc' := 288) rfl (hb hby at_276) rfl (feq hc62).2 (by decide) (by decide) ?_
              show Steps p.tables e below (s₁.setTop (mkF m 288 #[.val (.int x0), .val (.int x1), .val (.int x2), .val (.int x3), .val (.int x4), .val (.int (1 : Int32)), .val (.int nn), .val (.int lo), .val (.int hi), .val (.int mid), .val (.int (0 : Int32)), .val (.int (0 : Int32)), .val (.int (0 : Int32)), .val (.int (0 : Int32)), .val (.int sel), .unset, .unset, .unset, .unset, .unset, .unset] [])) _
              refine XS.iload X0.here hx rfl (hb hby at_288) rfl ?_
              show Steps p.tables e below (s₁.setTop (mkF m 290 #[.val (.int x0), .val (.int x1), .val (.int x2), .val (.int x3), .val (.int x4), .val (.int (1 : Int32)), .val (.int nn), .val (.int lo), .val (.int hi), .val (.int mid), .val (.int (0 : Int32)), .val (.int (0 : Int32)), .val (.int (0 : Int32)), .val (.int (0 : Int32)), .val (.int sel), .unset, .unset, .unset, .unset, .unset, .unset] [(.int sel)])) _
              refine XS.iconst X0.here hx rfl (hb hby at_290) ?_
              show Steps p.tables e below (s₁.setTop (mkF m 291 #[.val (.int x0), .val (.int x1), .val (.int x2), .val (.int x3), .val (.int x4), .val (.int (1 : Int32)), .val (.int nn), .val (.int lo), .val (.int hi), .val (.int mid), .val (.int (0 : Int32)), .val (.int (0 : Int32)), .val (.int (0 : Int32)), .val (.int (0 : Int32)), .val (.int sel), .unset, .unset, .unset, .unset, .unset, .unset] [(.int (4 : Int32)), (.int sel)])) _
              by_cases hc63 : sel = (4 : Int32)
              · refine XS.icmpNo X0.here hx rfl (hb hby at_291) rfl (teq hc63).2 ?_
                show Steps p.tables e below (s₁.setTop (mkF m 294 #[.val (.int x0), .val (.int x1), .val (.int x2), .val (.int x3), .val (.int x4), .val (.int (1 : Int32)), .val (.int nn), .val (.int lo), .val (.int hi), .val (.int mid), .val (.int (0 : Int32)), .val (.int (0 : Int32)), .val (.int (0 : Int32)), .val (.int (0 : Int32)), .val (.int sel), .unset, .unset, .unset, .unset, .unset, .unset] [])) _
                refine XS.iload X0.here hx rfl (hb hby at_294) rfl ?_
                show Steps p.tables e below (s₁.setTop (mkF m 296 #[.val (.int x0), .val (.int x1), .val (.int x2), .val (.int x3), .val (.int x4), .val (.int (1 : Int32)), .val (.int nn), .val (.int lo), .val (.int hi), .val (.int mid), .val (.int (0 : Int32)), .val (.int (0 : Int32)), .val (.int (0 : Int32)), .val (.int (0 : Int32)), .val (.int sel), .unset, .unset, .unset, .unset, .unset, .unset] [(.int mid)])) _
                refine XS.istore X0.here hx rfl (hb hby at_296) rfl (l' := #[.val (.int x0), .val (.int x1), .val (.int x2), .val (.int x3), .val (.int x4), .val (.int (1 : Int32)), .val (.int nn), .val (.int lo), .val (.int hi), .val (.int mid), .val (.int (0 : Int32)), .val (.int (0 : Int32)), .val (.int (0 : Int32)), .val (.int (0 : Int32)), .val (.int sel), .val (.int mid), .unset, .unset, .unset, .unset, .unset]) rfl ?_
                show Steps p.tables e below (s₁.setTop (mkF m 298 #[.val (.int x0), .val (.int x1), .val (.int x2), .val (.int x3), .val (.int x4), .val (.int (1 : Int32)), .val (.int nn), .val (.int lo), .val (.int hi), .val (.int mid), .val (.int (0 : Int32)), .val (.int (0 : Int32)), .val (.int (0 : Int32)), .val (.int (0 : Int32)), .val (.int sel), .val (.int mid), .unset, .unset, .unset, .unset, .unset] [])) _
                refine XS.goto X0.here hx rfl (pc0 := 298) (pc' := 319) rfl (hb hby at_298) (by decide) (by decide) ?_
                show Steps p.tables e below (s₁.setTop (mkF m 319 #[.val (.int x0), .val (.int x1), .val (.int x2), .val (.int x3), .val (.int x4), .val (.int (1 : Int32)), .val (.int nn), .val (.int lo), .val (.int hi), .val (.int mid), .val (.int (0 : Int32)), .val (.int (0 : Int32)), .val (.int (0 : Int32)), .val (.int (0 : Int32)), .val (.int sel), .val (.int mid), .unset, .unset, .unset, .unset, .unset] [])) _
                have q0 : (own_key sel lo hi mid x3) = mid := by simp only [own_key, if_neg hc1, if_neg hc59, if_neg hc60, if_neg hc61, if_neg hc62, if_pos hc63]
                rw [q0] at kg
                exact kg
              · refine XS.icmpYes X0.here hx rfl (pc0 := 291) (pc' := 301) rfl (hb hby at_291) rfl (feq hc63).2 (by decide) (by decide) ?_
                show Steps p.tables e below (s₁.setTop (mkF m 301 #[.val (.int x0), .val (.int x1), .val (.int x2), .val (.int x3), .val (.int x4), .val (.int (1 : Int32)), .val (.int nn), .val (.int lo), .val (.int hi), .val (.int mid), .val (.int (0 : Int32)), .val (.int (0 : Int32)), .val (.int (0 : Int32)), .val (.int (0 : Int32)), .val (.int sel), .unset, .unset, .unset, .unset, .unset, .unset] [])) _
                refine XS.iload X0.here hx rfl (hb hby at_301) rfl ?_
                show Steps p.tables e below (s₁.setTop (mkF m 303 #[.val (.int x0), .val (.int x1), .val (.int x2), .val (.int x3), .val (.int x4), .val (.int (1 : Int32)), .val (.int nn), .val (.int lo), .val (.int hi), .val (.int mid), .val (.int (0 : Int32)), .val (.int (0 : Int32)), .val (.int (0 : Int32)), .val (.int (0 : Int32)), .val (.int sel), .unset, .unset, .unset, .unset, .unset, .unset] [(.int sel)])) _
                refine XS.iconst X0.here hx rfl (hb hby at_303) ?_
                show Steps p.tables e below (s₁.setTop (mkF m 304 #[.val (.int x0), .val (.int x1), .val (.int x2), .val (.int x3), .val (.int x4), .val (.int (1 : Int32)), .val (.int nn), .val (.int lo), .val (.int hi), .val (.int mid), .val (.int (0 : Int32)), .val (.int (0 : Int32)), .val (.int (0 : Int32)), .val (.int (0 : Int32)), .val (.int sel), .unset, .unset, .unset, .unset, .unset, .unset] [(.int (5 : Int32)), (.int sel)])) _
                by_cases hc64 : sel = (5 : Int32)
                · refine XS.icmpNo X0.here hx rfl (hb hby at_304) rfl (teq hc64).2 ?_
                  show Steps p.tables e below (s₁.setTop (mkF m 307 #[.val (.int x0), .val (.int x1), .val (.int x2), .val (.int x3), .val (.int x4), .val (.int (1 : Int32)), .val (.int nn), .val (.int lo), .val (.int hi), .val (.int mid), .val (.int (0 : Int32)), .val (.int (0 : Int32)), .val (.int (0 : Int32)), .val (.int (0 : Int32)), .val (.int sel), .unset, .unset, .unset, .unset, .unset, .unset] [])) _
                  refine XS.iload X0.here hx rfl (hb hby at_307) rfl ?_
                  show Steps p.tables e below (s₁.setTop (mkF m 309 #[.val (.int x0), .val (.int x1), .val (.int x2), .val (.int x3), .val (.int x4), .val (.int (1 : Int32)), .val (.int nn), .val (.int lo), .val (.int hi), .val (.int mid), .val (.int (0 : Int32)), .val (.int (0 : Int32)), .val (.int (0 : Int32)), .val (.int (0 : Int32)), .val (.int sel), .unset, .unset, .unset, .unset, .unset, .unset] [(.int mid)])) _
                  refine XS.iconst X0.here hx rfl (hb hby at_309) ?_
                  show Steps p.tables e below (s₁.setTop (mkF m 310 #[.val (.int x0), .val (.int x1), .val (.int x2), .val (.int x3), .val (.int x4), .val (.int (1 : Int32)), .val (.int nn), .val (.int lo), .val (.int hi), .val (.int mid), .val (.int (0 : Int32)), .val (.int (0 : Int32)), .val (.int (0 : Int32)), .val (.int (0 : Int32)), .val (.int sel), .unset, .unset, .unset, .unset, .unset, .unset] [(.int (1 : Int32)), (.int mid)])) _
                  refine XS.iadd X0.here hx rfl (hb hby at_310) rfl ?_
                  show Steps p.tables e below (s₁.setTop (mkF m 311 #[.val (.int x0), .val (.int x1), .val (.int x2), .val (.int x3), .val (.int x4), .val (.int (1 : Int32)), .val (.int nn), .val (.int lo), .val (.int hi), .val (.int mid), .val (.int (0 : Int32)), .val (.int (0 : Int32)), .val (.int (0 : Int32)), .val (.int (0 : Int32)), .val (.int sel), .unset, .unset, .unset, .unset, .unset, .unset] [(.int (mid + (1 : Int32)))])) _
                  refine XS.istore X0.here hx rfl (hb hby at_311) rfl (l' := #[.val (.int x0), .val (.int x1), .val (.int x2), .val (.int x3), .val (.int x4), .val (.int (1 : Int32)), .val (.int nn), .val (.int lo), .val (.int hi), .val (.int mid), .val (.int (0 : Int32)), .val (.int (0 : Int32)), .val (.int (0 : Int32)), .val (.int (0 : Int32)), .val (.int sel), .val (.int (mid + (1 : Int32))), .unset, .unset, .unset, .unset, .unset]) rfl ?_
                  show Steps p.tables e below (s₁.setTop (mkF m 313 #[.val (.int x0), .val (.int x1), .val (.int x2), .val (.int x3), .val (.int x4), .val (.int (1 : Int32)), .val (.int nn), .val (.int lo), .val (.int hi), .val (.int mid), .val (.int (0 : Int32)), .val (.int (0 : Int32)), .val (.int (0 : Int32)), .val (.int (0 : Int32)), .val (.int sel), .val (.int (mid + (1 : Int32))), .unset, .unset, .unset, .unset, .unset] [])) _
                  refine XS.goto X0.here hx rfl (pc0 := 313) (pc' := 319) rfl (hb hby at_313) (by decide) (by decide) ?_
                  show Steps p.tables e below (s₁.setTop (mkF m 319 #[.val (.int x0), .val (.int x1), .val (.int x2), .val (.int x3), .val (.int x4), .val (.int (1 : Int32)), .val (.int nn), .val (.int lo), .val (.int hi), .val (.int mid), .val (.int (0 : Int32)), .val (.int (0 : Int32)), .val (.int (0 : Int32)), .val (.int (0 : Int32)), .val (.int sel), .val (.int (mid + (1 : Int32))), .unset, .unset, .unset, .unset, .unset] [])) _
                  have q0 : (own_key sel lo hi mid x3) = (mid + (1 : Int32)) := by simp only [own_key, if_neg hc1, if_neg hc59, if_neg hc60, if_neg hc61, if_neg hc62, if_neg hc63, if_pos hc64]
                  rw [q0] at kg
                  exact kg
                · refine XS.icmpYes X0.here hx rfl (pc0 := 304) (pc' := 316) rfl (hb hby at_304) rfl (feq hc64).2 (by decide) (by decide) ?_
                  show Steps p.tables e below (s₁.setTop (mkF m 316 #[.val (.int x0), .val (.int x1), .val (.int x2), .val (.int x3), .val (.int x4), .val (.int (1 : Int32)), .val (.int nn), .val (.int lo), .val (.int hi), .val (.int mid), .val (.int (0 : Int32)), .val (.int (0 : Int32)), .val (.int (0 : Int32)), .val (.int (0 : Int32)), .val (.int sel), .unset, .unset, .unset, .unset, .unset, .unset] [])) _
                  refine XS.iloadN X0.here hx rfl (hb hby at_316) rfl ?_
                  show Steps p.tables e below (s₁.setTop (mkF m 317 #[.val (.int x0), .val (.int x1), .val (.int x2), .val (.int x3), .val (.int x4), .val (.int (1 : Int32)), .val (.int nn), .val (.int lo), .val (.int hi), .val (.int mid), .val (.int (0 : Int32)), .val (.int (0 : Int32)), .val (.int (0 : Int32)), .val (.int (0 : Int32)), .val (.int sel), .unset, .unset, .unset, .unset, .unset, .unset] [(.int x3)])) _
                  refine XS.istore X0.here hx rfl (hb hby at_317) rfl (l' := #[.val (.int x0), .val (.int x1), .val (.int x2), .val (.int x3), .val (.int x4), .val (.int (1 : Int32)), .val (.int nn), .val (.int lo), .val (.int hi), .val (.int mid), .val (.int (0 : Int32)), .val (.int (0 : Int32)), .val (.int (0 : Int32)), .val (.int (0 : Int32)), .val (.int sel), .val (.int x3), .unset, .unset, .unset, .unset, .unset]) rfl ?_
                  show Steps p.tables e below (s₁.setTop (mkF m 319 #[.val (.int x0), .val (.int x1), .val (.int x2), .val (.int x3), .val (.int x4), .val (.int (1 : Int32)), .val (.int nn), .val (.int lo), .val (.int hi), .val (.int mid), .val (.int (0 : Int32)), .val (.int (0 : Int32)), .val (.int (0 : Int32)), .val (.int (0 : Int32)), .val (.int sel), .val (.int x3), .unset, .unset, .unset, .unset, .unset] [])) _
                  have q0 : (own_key sel lo hi mid x3) = x3 := by simp only [own_key, if_neg hc1, if_neg hc59, if_neg hc60, if_neg hc61, if_neg hc62, if_neg hc63, if_neg hc64]
                  rw [q0] at kg
                  exact kg
    show G (s₁.setTop (mkF m 319 #[.val (.int x0), .val (.int x1), .val (.int x2), .val (.int x3), .val (.int x4), .val (.int (1 : Int32)), .val (.int nn), .val (.int lo), .val (.int hi), .val (.int mid), .val (.int (0 : Int32)), .val (.int (0 : Int32)), .val (.int (0 : Int32)), .val (.int (0 : Int32)), .val (.int sel), .val (.int (own_key sel lo hi mid x3)), .unset, .unset, .unset, .unset, .unset] []))
    obtain ⟨ky, hky⟩ : ∃ z : Int32, z = (own_key sel lo hi mid x3) := ⟨_, rfl⟩
    rw [← hky]
    show G (s₁.setTop (mkF m 319 #[.val (.int x0), .val (.int x1), .val (.int x2), .val (.int x3), .val (.int x4), .val (.int (1 : Int32)), .val (.int nn), .val (.int lo), .val (.int hi), .val (.int mid), .val (.int (0 : Int32)), .val (.int (0 : Int32)), .val (.int (0 : Int32)), .val (.int (0 : Int32)), .val (.int sel), .val (.int ky), .unset, .unset, .unset, .unset, .unset] []))
    refine go (fun tg kg => XS.iload X0.here hx rfl (hb hby at_319) rfl kg) ?_
    show G (s₁.setTop (mkF m 321 #[.val (.int x0), .val (.int x1), .val (.int x2), .val (.int x3), .val (.int x4), .val (.int (1 : Int32)), .val (.int nn), .val (.int lo), .val (.int hi), .val (.int mid), .val (.int (0 : Int32)), .val (.int (0 : Int32)), .val (.int (0 : Int32)), .val (.int (0 : Int32)), .val (.int sel), .val (.int ky), .unset, .unset, .unset, .unset, .unset] [(.int ky)]))
    refine go (fun tg kg => X0.ldcInt hx hown (mvT hZ (hw _ (List.mem_of_getElem? (i := 2) rfl))) (g := (mkF m 321 #[.val (.int x0), .val (.int x1), .val (.int x2), .val (.int x3), .val (.int x4), .val (.int (1 : Int32)), .val (.int nn), .val (.int lo), .val (.int hi), .val (.int mid), .val (.int (0 : Int32)), .val (.int (0 : Int32)), .val (.int (0 : Int32)), .val (.int (0 : Int32)), .val (.int sel), .val (.int ky), .unset, .unset, .unset, .unset, .unset] [(.int ky)])) rfl (hb hby at_321) _ kg) ?_
    show G (s₁.setTop (mkF m 323 #[.val (.int x0), .val (.int x1), .val (.int x2), .val (.int x3), .val (.int x4), .val (.int (1 : Int32)), .val (.int nn), .val (.int lo), .val (.int hi), .val (.int mid), .val (.int (0 : Int32)), .val (.int (0 : Int32)), .val (.int (0 : Int32)), .val (.int (0 : Int32)), .val (.int sel), .val (.int ky), .unset, .unset, .unset, .unset, .unset] [(.int (65535 : Int32)), (.int ky)]))
    refine go (fun tg kg => XS.iand X0.here hx rfl (hb hby at_323) rfl kg) ?_
    show G (s₁.setTop (mkF m 324 #[.val (.int x0), .val (.int x1), .val (.int x2), .val (.int x3), .val (.int x4), .val (.int (1 : Int32)), .val (.int nn), .val (.int lo), .val (.int hi), .val (.int mid), .val (.int (0 : Int32)), .val (.int (0 : Int32)), .val (.int (0 : Int32)), .val (.int (0 : Int32)), .val (.int sel), .val (.int ky), .unset, .unset, .unset, .unset, .unset] [(.int (ky &&& (65535 : Int32)))]))
    refine go (fun tg kg => XS.istore X0.here hx rfl (hb hby at_324) rfl (l' := #[.val (.int x0), .val (.int x1), .val (.int x2), .val (.int x3), .val (.int x4), .val (.int (1 : Int32)), .val (.int nn), .val (.int lo), .val (.int hi), .val (.int mid), .val (.int (0 : Int32)), .val (.int (0 : Int32)), .val (.int (0 : Int32)), .val (.int (0 : Int32)), .val (.int sel), .val (.int (ky &&& (65535 : Int32))), .unset, .unset, .unset, .unset, .unset]) rfl kg) ?_
    show G (s₁.setTop (mkF m 326 #[.val (.int x0), .val (.int x1), .val (.int x2), .val (.int x3), .val (.int x4), .val (.int (1 : Int32)), .val (.int nn), .val (.int lo), .val (.int hi), .val (.int mid), .val (.int (0 : Int32)), .val (.int (0 : Int32)), .val (.int (0 : Int32)), .val (.int (0 : Int32)), .val (.int sel), .val (.int (ky &&& (65535 : Int32))), .unset, .unset, .unset, .unset, .unset] []))
    obtain ⟨key, hkey⟩ : ∃ z : Int32, z = (ky &&& (65535 : Int32)) := ⟨_, rfl⟩
    have bk := own_key1 _ hkey
    rw [← hkey]
    show G (s₁.setTop (mkF m 326 #[.val (.int x0), .val (.int x1), .val (.int x2), .val (.int x3), .val (.int x4), .val (.int (1 : Int32)), .val (.int nn), .val (.int lo), .val (.int hi), .val (.int mid), .val (.int (0 : Int32)), .val (.int (0 : Int32)), .val (.int (0 : Int32)), .val (.int (0 : Int32)), .val (.int sel), .val (.int key), .unset, .unset, .unset, .unset, .unset] []))
    refine go (fun tg kg => XS.iload X0.here hx rfl (hb hby at_326) rfl kg) ?_
    show G (s₁.setTop (mkF m 328 #[.val (.int x0), .val (.int x1), .val (.int x2), .val (.int x3), .val (.int x4), .val (.int (1 : Int32)), .val (.int nn), .val (.int lo), .val (.int hi), .val (.int mid), .val (.int (0 : Int32)), .val (.int (0 : Int32)), .val (.int (0 : Int32)), .val (.int (0 : Int32)), .val (.int sel), .val (.int key), .unset, .unset, .unset, .unset, .unset] [(.int (1 : Int32))]))
    refine go (fun tg kg => XS.ifNo X0.here hx rfl (hb hby at_328) rfl ((if0 _ _).trans (feq (by decide)).1) kg) ?_
    show G (s₁.setTop (mkF m 331 #[.val (.int x0), .val (.int x1), .val (.int x2), .val (.int x3), .val (.int x4), .val (.int (1 : Int32)), .val (.int nn), .val (.int lo), .val (.int hi), .val (.int mid), .val (.int (0 : Int32)), .val (.int (0 : Int32)), .val (.int (0 : Int32)), .val (.int (0 : Int32)), .val (.int sel), .val (.int key), .unset, .unset, .unset, .unset, .unset] []))
    refine go (fun tg kg => XS.iload X0.here hx rfl (hb hby at_331) rfl kg) ?_
    show G (s₁.setTop (mkF m 333 #[.val (.int x0), .val (.int x1), .val (.int x2), .val (.int x3), .val (.int x4), .val (.int (1 : Int32)), .val (.int nn), .val (.int lo), .val (.int hi), .val (.int mid), .val (.int (0 : Int32)), .val (.int (0 : Int32)), .val (.int (0 : Int32)), .val (.int (0 : Int32)), .val (.int sel), .val (.int key), .unset, .unset, .unset, .unset, .unset] [(.int key)]))
    refine go (fun tg kg => XS.iload X0.here hx rfl (hb hby at_333) rfl kg) ?_
    show G (s₁.setTop (mkF m 335 #[.val (.int x0), .val (.int x1), .val (.int x2), .val (.int x3), .val (.int x4), .val (.int (1 : Int32)), .val (.int nn), .val (.int lo), .val (.int hi), .val (.int mid), .val (.int (0 : Int32)), .val (.int (0 : Int32)), .val (.int (0 : Int32)), .val (.int (0 : Int32)), .val (.int sel), .val (.int key), .unset, .unset, .unset, .unset, .unset] [(.int lo), (.int key)]))
    refine go (fun tg kg => XS.isub X0.here hx rfl (hb hby at_335) rfl kg) ?_
    show G (s₁.setTop (mkF m 336 #[.val (.int x0), .val (.int x1), .val (.int x2), .val (.int x3), .val (.int x4), .val (.int (1 : Int32)), .val (.int nn), .val (.int lo), .val (.int hi), .val (.int mid), .val (.int (0 : Int32)), .val (.int (0 : Int32)), .val (.int (0 : Int32)), .val (.int (0 : Int32)), .val (.int sel), .val (.int key), .unset, .unset, .unset, .unset, .unset] [(.int (key - lo))]))
    refine go (fun tg kg => XS.iconst X0.here hx rfl (hb hby at_336) kg) ?_
    show G (s₁.setTop (mkF m 337 #[.val (.int x0), .val (.int x1), .val (.int x2), .val (.int x3), .val (.int x4), .val (.int (1 : Int32)), .val (.int nn), .val (.int lo), .val (.int hi), .val (.int mid), .val (.int (0 : Int32)), .val (.int (0 : Int32)), .val (.int (0 : Int32)), .val (.int (0 : Int32)), .val (.int sel), .val (.int key), .unset, .unset, .unset, .unset, .unset] [(.int (0 : Int32)), (.int (key - lo))]))
    obtain ⟨_, _, ⟨T65, L65, k65, n65⟩, -, X65, ⟨Lc65, hQ65, l65, y65, z65⟩, st65⟩ := Jvm.LawKit.callS X0 hx (y := (⟨"java/lang/Math", "max", "(II)I"⟩ : MethodName)) hown (mvT hZ (hw _ (List.mem_of_getElem? (i := 8) rfl))) (mvT hZ (hw _ (List.mem_of_getElem? (i := 9) rfl))) (mvT hZ (hw _ (List.mem_of_getElem? (i := 10) rfl))) (mvT hZ (hw _ (List.mem_of_getElem? (i := 11) rfl))) (by decide) (backOf (W := 0) (rm2 l Z a0 hw [] (key - lo) (0 : Int32) h0 n0 Z0 ) hZ (hw _ (List.mem_of_getElem? (i := 11) rfl)) (hw _ (List.mem_of_getElem? (i := 10) rfl)) (by decide) (by decide)) (g := (mkF m 337 #[.val (.int x0), .val (.int x1), .val (.int x2), .val (.int x3), .val (.int x4), .val (.int (1 : Int32)), .val (.int nn), .val (.int lo), .val (.int hi), .val (.int mid), .val (.int (0 : Int32)), .val (.int (0 : Int32)), .val (.int (0 : Int32)), .val (.int (0 : Int32)), .val (.int sel), .val (.int key), .unset, .unset, .unset, .unset, .unset] [(.int (0 : Int32)), (.int (key - lo))])) rfl (by rw [hml]; rfl) (argsL := [(.int (key - lo)), (.int (0 : Int32))]) (rest := []) (lenOf pd__II_I rfl) rfl (by show 2 * 0 + _ ≤ _; exact Nat.le_of_eq rfl) (hb hby at_337) (fun _ _ => ⟨rfl, e0, (by decide : 0 + 0 ≤ _), (by decide : 0 + 0 ≤ _)⟩)
    dsimp only [Pt.U, Pt.locs, Pt.cells, Pt.slots] at X65 l65 y65 z65 st65 hQ65
    subst l65 y65 z65
    obtain ⟨rfl, Nq65, e65⟩ := hQ65
    have N65 := Fr.app N0 Nq65
    refine go st65 ?_
    show G (T65.setTop (mkF m 340 #[.val (.int x0), .val (.int x1), .val (.int x2), .val (.int x3), .val (.int x4), .val (.int (1 : Int32)), .val (.int nn), .val (.int lo), .val (.int hi), .val (.int mid), .val (.int (0 : Int32)), .val (.int (0 : Int32)), .val (.int (0 : Int32)), .val (.int (0 : Int32)), .val (.int sel), .val (.int key), .unset, .unset, .unset, .unset, .unset] [(.int (own_max (key - lo) (0 : Int32)))]))
    refine go (fun tg kg => XS.iload X65.here hx rfl (hb hby at_340) rfl kg) ?_
    show G (T65.setTop (mkF m 342 #[.val (.int x0), .val (.int x1), .val (.int x2), .val (.int x3), .val (.int x4), .val (.int (1 : Int32)), .val (.int nn), .val (.int lo), .val (.int hi), .val (.int mid), .val (.int (0 : Int32)), .val (.int (0 : Int32)), .val (.int (0 : Int32)), .val (.int (0 : Int32)), .val (.int sel), .val (.int key), .unset, .unset, .unset, .unset, .unset] [(.int nn), (.int (own_max (key - lo) (0 : Int32)))]))
    obtain ⟨_, _, ⟨T66, L66, k66, n66⟩, -, X66, ⟨Lc66, hQ66, l66, y66, z66⟩, st66⟩ := Jvm.LawKit.callS X65 hx (y := (⟨"java/lang/Math", "min", "(II)I"⟩ : MethodName)) hown (mvT hZ (hw _ (List.mem_of_getElem? (i := 12) rfl))) (mvT hZ (hw _ (List.mem_of_getElem? (i := 13) rfl))) (mvT hZ (hw _ (List.mem_of_getElem? (i := 10) rfl))) (mvT hZ (hw _ (List.mem_of_getElem? (i := 14) rfl))) (by decide) (backOf (W := 0) (rm3 l Z a0 hw [] (own_max (key - lo) (0 : Int32)) nn h0 n0 Z0 ) hZ (hw _ (List.mem_of_getElem? (i := 14) rfl)) (hw _ (List.mem_of_getElem? (i := 10) rfl)) (by decide) (by decide)) (g := (mkF m 342 #[.val (.int x0), .val (.int x1), .val (.int x2), .val (.int x3), .val (.int x4), .val (.int (1 : Int32)), .val (.int nn), .val (.int lo), .val (.int hi), .val (.int mid), .val (.int (0 : Int32)), .val (.int (0 : Int32)), .val (.int (0 : Int32)), .val (.int (0 : Int32)), .val (.int sel), .val (.int key), .unset, .unset, .unset, .unset, .unset] [(.int nn), (.int (own_max (key - lo) (0 : Int32)))])) rfl (by rw [hml]; rfl) (argsL := [(.int (own_max (key - lo) (0 : Int32))), (.int nn)]) (rest := []) (lenOf pd__II_I rfl) rfl (by show 2 * 0 + _ ≤ _; exact Nat.le_of_eq rfl) (hb hby at_342) (fun _ _ => ⟨rfl, e65, (by decide : 0 + 0 ≤ _), (by decide : 0 + 0 ≤ _)⟩)
    dsimp only [Pt.U, Pt.locs, Pt.cells, Pt.slots] at X66 l66 y66 z66 st66 hQ66
    subst l66 y66 z66
    obtain ⟨rfl, Nq66, e66⟩ := hQ66
    have N66 := Fr.app N65 Nq66
    refine go st66 ?_
    show G (T66.setTop (mkF m 345 #[.val (.int x0), .val (.int x1), .val (.int x2), .val (.int x3), .val (.int x4), .val (.int (1 : Int32)), .val (.int nn), .val (.int lo), .val (.int hi), .val (.int mid), .val (.int (0 : Int32)), .val (.int (0 : Int32)), .val (.int (0 : Int32)), .val (.int (0 : Int32)), .val (.int sel), .val (.int key), .unset, .unset, .unset, .unset, .unset] [(.int (own_min (own_max (key - lo) (0 : Int32)) nn))]))
    refine go (fun tg kg => XS.istore X66.here hx rfl (hb hby at_345) rfl (l' := #[.val (.int x0), .val (.int x1), .val (.int x2), .val (.int x3), .val (.int x4), .val (.int (1 : Int32)), .val (.int nn), .val (.int lo), .val (.int hi), .val (.int mid), .val (.int (0 : Int32)), .val (.int (0 : Int32)), .val (.int (0 : Int32)), .val (.int (0 : Int32)), .val (.int sel), .val (.int key), .val (.int (own_min (own_max (key - lo) (0 : Int32)) nn)), .unset, .unset, .unset, .unset]) rfl kg) ?_
    show G (T66.setTop (mkF m 347 #[.val (.int x0), .val (.int x1), .val (.int x2), .val (.int x3), .val (.int x4), .val (.int (1 : Int32)), .val (.int nn), .val (.int lo), .val (.int hi), .val (.int mid), .val (.int (0 : Int32)), .val (.int (0 : Int32)), .val (.int (0 : Int32)), .val (.int (0 : Int32)), .val (.int sel), .val (.int key), .val (.int (own_min (own_max (key - lo) (0 : Int32)) nn)), .unset, .unset, .unset, .unset] []))
    refine go (b := T66.setTop (mkF m 366 #[.val (.int x0), .val (.int x1), .val (.int x2), .val (.int x3), .val (.int x4), .val (.int (1 : Int32)), .val (.int nn), .val (.int lo), .val (.int hi), .val (.int mid), .val (.int (0 : Int32)), .val (.int (0 : Int32)), .val (.int (0 : Int32)), .val (.int (0 : Int32)), .val (.int sel), .val (.int key), .val (.int (own_min (own_max (key - lo) (0 : Int32)) nn)), .unset, .unset, .unset, .unset] [(.int (own_fd key lo hi))])) (fun tg kg => ?_) ?_
    · show Steps p.tables e below (T66.setTop (mkF m 347 #[.val (.int x0), .val (.int x1), .val (.int x2), .val (.int x3), .val (.int x4), .val (.int (1 : Int32)), .val (.int nn), .val (.int lo), .val (.int hi), .val (.int mid), .val (.int (0 : Int32)), .val (.int (0 : Int32)), .val (.int (0 : Int32)), .val (.int (0 : Int32)), .val (.int sel), .val (.int key), .val (.int (own_min (own_max (key - lo) (0 : Int32)) nn)), .unset, .unset, .unset, .unset] [])) _
      refine XS.iload X66.here hx rfl (hb hby at_347) rfl ?_
      show Steps p.tables e below (T66.setTop (mkF m 349 #[.val (.int x0), .val (.int x1), .val (.int x2), .val (.int x3), .val (.int x4), .val (.int (1 : Int32)), .val (.int nn), .val (.int lo), .val (.int hi), .val (.int mid), .val (.int (0 : Int32)), .val (.int (0 : Int32)), .val (.int (0 : Int32)), .val (.int (0 : Int32)), .val (.int sel), .val (.int key), .val (.int (own_min (own_max (key - lo) (0 : Int32)) nn)), .unset, .unset, .unset, .unset] [(.int key)])) _
      refine XS.iload X66.here hx rfl (hb hby at_349) rfl ?_
      show Steps p.tables e below (T66.setTop (mkF m 351 #[.val (.int x0), .val (.int x1), .val (.int x2), .val (.int x3), .val (.int x4), .val (.int (1 : Int32)), .val (.int nn), .val (.int lo), .val (.int hi), .val (.int mid), .val (.int (0 : Int32)), .val (.int (0 : Int32)), .val (.int (0 : Int32)), .val (.int (0 : Int32)), .val (.int sel), .val (.int key), .val (.int (own_min (own_max (key - lo) (0 : Int32)) nn)), .unset, .unset, .unset, .unset] [(.int lo), (.int key)])) _
      by_cases hc67 : key < lo
      · refine XS.icmpYes X66.here hx rfl (pc0 := 351) (pc' := 365) rfl (hb hby at_351) rfl (tlt hc67).1 (by decide) (by decide) ?_
        show Steps p.tables e below (T66.setTop (mkF m 365 #[.val (.int x0), .val (.int x1), .val (.int x2), .val (.int x3), .val (.int x4), .val (.int (1 : Int32)), .val (.int nn), .val (.int lo), .val (.int hi), .val (.int mid), .val (.int (0 : Int32)), .val (.int (0 : Int32)), .val (.int (0 : Int32)), .val (.int (0 : Int32)), .val (.int sel), .val (.int key), .val (.int (own_min (own_max (key - lo) (0 : Int32)) nn)), .unset, .unset, .unset, .unset] [])) _
        refine XS.iconst X66.here hx rfl (hb hby at_365) ?_
        show Steps p.tables e below (T66.setTop (mkF m 366 #[.val (.int x0), .val (.int x1), .val (.int x2), .val (.int x3), .val (.int x4), .val (.int (1 : Int32)), .val (.int nn), .val (.int lo), .val (.int hi), .val (.int mid), .val (.int (0 : Int32)), .val (.int (0 : Int32)), .val (.int (0 : Int32)), .val (.int (0 : Int32)), .val (.int sel), .val (.int key), .val (.int (own_min (own_max (key - lo) (0 : Int32)) nn)), .unset, .unset, .unset, .unset] [(.int (0 : Int32))])) _
        have q0 : (own_fd key lo hi) = (0 : Int32) := by simp only [own_fd, if_neg hc1, if_pos hc67]
        rw [q0] at kg
        exact kg
      · refine XS.icmpNo X66.here hx rfl (hb hby at_351) rfl (flt hc67).1 ?_
        show Steps p.tables e below (T66.setTop (mkF m 354 #[.val (.int x0), .val (.int x1), .val (.int x2), .val (.int x3), .val (.int x4), .val (.int (1 : Int32)), .val (.int nn), .val (.int lo), .val (.int hi), .val (.int mid), .val (.int (0 : Int32)), .val (.int (0 : Int32)), .val (.int (0 : Int32)), .val (.int (0 : Int32)), .val (.int sel), .val (.int key), .val (.int (own_min (own_max (key - lo) (0 : Int32)) nn)), .unset, .unset, .unset, .unset] [])) _
        refine XS.iload X66.here hx rfl (hb hby at_354) rfl ?_
        show Steps p.tables e below (T66.setTop (mkF m 356 #[.val (.int x0), .val (.int x1), .val (.int x2), .val (.int x3), .val (.int x4), .val (.int (1 : Int32)), .val (.int nn), .val (.int lo), .val (.int hi), .val (.int mid), .val (.int (0 : Int32)), .val (.int (0 : Int32)), .val (.int (0 : Int32)), .val (.int (0 : Int32)), .val (.int sel), .val (.int key), .val (.int (own_min (own_max (key - lo) (0 : Int32)) nn)), .unset, .unset, .unset, .unset] [(.int key)])) _
        refine XS.iload X66.here hx rfl (hb hby at_356) rfl ?_
        show Steps p.tables e below (T66.setTop (mkF m 358 #[.val (.int x0), .val (.int x1), .val (.int x2), .val (.int x3), .val (.int x4), .val (.int (1 : Int32)), .val (.int nn), .val (.int lo), .val (.int hi), .val (.int mid), .val (.int (0 : Int32)), .val (.int (0 : Int32)), .val (.int (0 : Int32)), .val (.int (0 : Int32)), .val (.int sel), .val (.int key), .val (.int (own_min (own_max (key - lo) (0 : Int32)) nn)), .unset, .unset, .unset, .unset] [(.int hi), (.int key)])) _
        by_cases hc68 : hi < key
        · refine XS.icmpYes X66.here hx rfl (pc0 := 358) (pc' := 365) rfl (hb hby at_358) rfl (tlt hc68).2.2.1 (by decide) (by decide) ?_
          show Steps p.tables e below (T66.setTop (mkF m 365 #[.val (.int x0), .val (.int x1), .val (.int x2), .val (.int x3), .val (.int x4), .val (.int (1 : Int32)), .val (.int nn), .val (.int lo), .val (.int hi), .val (.int mid), .val (.int (0 : Int32)), .val (.int (0 : Int32)), .val (.int (0 : Int32)), .val (.int (0 : Int32)), .val (.int sel), .val (.int key), .val (.int (own_min (own_max (key - lo) (0 : Int32)) nn)), .unset, .unset, .unset, .unset] [])) _
          refine XS.iconst X66.here hx rfl (hb hby at_365) ?_
          show Steps p.tables e below (T66.setTop (mkF m 366 #[.val (.int x0), .val (.int x1), .val (.int x2), .val (.int x3), .val (.int x4), .val (.int (1 : Int32)), .val (.int nn), .val (.int lo), .val (.int hi), .val (.int mid), .val (.int (0 : Int32)), .val (.int (0 : Int32)), .val (.int (0 : Int32)), .val (.int (0 : Int32)), .val (.int sel), .val (.int key), .val (.int (own_min (own_max (key - lo) (0 : Int32)) nn)), .unset, .unset, .unset, .unset] [(.int (0 : Int32))])) _
          have q0 : (own_fd key lo hi) = (0 : Int32) := by simp only [own_fd, if_neg hc1, if_neg hc67, if_pos hc68]
          rw [q0] at kg
          exact kg
        · refine XS.icmpNo X66.here hx rfl (hb hby at_358) rfl (flt hc68).2.2.1 ?_
          show Steps p.tables e below (T66.setTop (mkF m 361 #[.val (.int x0), .val (.int x1), .val (.int x2), .val (.int x3), .val (.int x4), .val (.int (1 : Int32)), .val (.int nn), .val (.int lo), .val (.int hi), .val (.int mid), .val (.int (0 : Int32)), .val (.int (0 : Int32)), .val (.int (0 : Int32)), .val (.int (0 : Int32)), .val (.int sel), .val (.int key), .val (.int (own_min (own_max (key - lo) (0 : Int32)) nn)), .unset, .unset, .unset, .unset] [])) _
          refine XS.iconst X66.here hx rfl (hb hby at_361) ?_
          show Steps p.tables e below (T66.setTop (mkF m 362 #[.val (.int x0), .val (.int x1), .val (.int x2), .val (.int x3), .val (.int x4), .val (.int (1 : Int32)), .val (.int nn), .val (.int lo), .val (.int hi), .val (.int mid), .val (.int (0 : Int32)), .val (.int (0 : Int32)), .val (.int (0 : Int32)), .val (.int (0 : Int32)), .val (.int sel), .val (.int key), .val (.int (own_min (own_max (key - lo) (0 : Int32)) nn)), .unset, .unset, .unset, .unset] [(.int (1 : Int32))])) _
          refine XS.goto X66.here hx rfl (pc0 := 362) (pc' := 366) rfl (hb hby at_362) (by decide) (by decide) ?_
          show Steps p.tables e below (T66.setTop (mkF m 366 #[.val (.int x0), .val (.int x1), .val (.int x2), .val (.int x3), .val (.int x4), .val (.int (1 : Int32)), .val (.int nn), .val (.int lo), .val (.int hi), .val (.int mid), .val (.int (0 : Int32)), .val (.int (0 : Int32)), .val (.int (0 : Int32)), .val (.int (0 : Int32)), .val (.int sel), .val (.int key), .val (.int (own_min (own_max (key - lo) (0 : Int32)) nn)), .unset, .unset, .unset, .unset] [(.int (1 : Int32))])) _
          have q0 : (own_fd key lo hi) = (1 : Int32) := by simp only [own_fd, if_neg hc1, if_neg hc67, if_neg hc68]
          rw [q0] at kg
          exact kg
    show G (T66.setTop (mkF m 366 #[.val (.int x0), .val (.int x1), .val (.int x2), .val (.int x3), .val (.int x4), .val (.int (1 : Int32)), .val (.int nn), .val (.int lo), .val (.int hi), .val (.int mid), .val (.int (0 : Int32)), .val (.int (0 : Int32)), .val (.int (0 : Int32)), .val (.int (0 : Int32)), .val (.int sel), .val (.int key), .val (.int (own_min (own_max (key - lo) (0 : Int32)) nn)), .unset, .unset, .unset, .unset] [(.int (own_fd key lo hi))]))
    refine go (fun tg kg => XS.istore X66.here hx rfl (hb hby at_366) rfl (l' := #[.val (.int x0), .val (.int x1), .val (.int x2), .val (.int x3), .val (.int x4), .val (.int (1 : Int32)), .val (.int nn), .val (.int lo), .val (.int hi), .val (.int mid), .val (.int (0 : Int32)), .val (.int (0 : Int32)), .val (.int (0 : Int32)), .val (.int (0 : Int32)), .val (.int sel), .val (.int key), .val (.int (own_min (own_max (key - lo) (0 : Int32)) nn)), .val (.int (own_fd key lo hi)), .unset, .unset, .unset]) rfl kg) ?_
    show G (T66.setTop (mkF m 368 #[.val (.int x0), .val (.int x1), .val (.int x2), .val (.int x3), .val (.int x4), .val (.int (1 : Int32)), .val (.int nn), .val (.int lo), .val (.int hi), .val (.int mid), .val (.int (0 : Int32)), .val (.int (0 : Int32)), .val (.int (0 : Int32)), .val (.int (0 : Int32)), .val (.int sel), .val (.int key), .val (.int (own_min (own_max (key - lo) (0 : Int32)) nn)), .val (.int (own_fd key lo hi)), .unset, .unset, .unset] []))
    refine go (fun tg kg => XS.iconst X66.here hx rfl (hb hby at_368) kg) ?_
    show G (T66.setTop (mkF m 369 #[.val (.int x0), .val (.int x1), .val (.int x2), .val (.int x3), .val (.int x4), .val (.int (1 : Int32)), .val (.int nn), .val (.int lo), .val (.int hi), .val (.int mid), .val (.int (0 : Int32)), .val (.int (0 : Int32)), .val (.int (0 : Int32)), .val (.int (0 : Int32)), .val (.int sel), .val (.int key), .val (.int (own_min (own_max (key - lo) (0 : Int32)) nn)), .val (.int (own_fd key lo hi)), .unset, .unset, .unset] [(.int (1 : Int32))]))
    refine go (fun tg kg => XS.istore X66.here hx rfl (hb hby at_369) rfl (l' := #[.val (.int x0), .val (.int x1), .val (.int x2), .val (.int x3), .val (.int x4), .val (.int (1 : Int32)), .val (.int nn), .val (.int lo), .val (.int hi), .val (.int mid), .val (.int (0 : Int32)), .val (.int (0 : Int32)), .val (.int (0 : Int32)), .val (.int (0 : Int32)), .val (.int sel), .val (.int key), .val (.int (own_min (own_max (key - lo) (0 : Int32)) nn)), .val (.int (own_fd key lo hi)), .val (.int (1 : Int32)), .unset, .unset]) rfl kg) ?_
    show G (T66.setTop (mkF m 371 #[.val (.int x0), .val (.int x1), .val (.int x2), .val (.int x3), .val (.int x4), .val (.int (1 : Int32)), .val (.int nn), .val (.int lo), .val (.int hi), .val (.int mid), .val (.int (0 : Int32)), .val (.int (0 : Int32)), .val (.int (0 : Int32)), .val (.int (0 : Int32)), .val (.int sel), .val (.int key), .val (.int (own_min (own_max (key - lo) (0 : Int32)) nn)), .val (.int (own_fd key lo hi)), .val (.int (1 : Int32)), .unset, .unset] []))
    refine go (fun tg kg => XS.goto X66.here hx rfl (pc0 := 371) (pc' := 560) rfl (hb hby at_371) (by decide) (by decide) kg) ?_
    show G (T66.setTop (mkF m 560 #[.val (.int x0), .val (.int x1), .val (.int x2), .val (.int x3), .val (.int x4), .val (.int (1 : Int32)), .val (.int nn), .val (.int lo), .val (.int hi), .val (.int mid), .val (.int (0 : Int32)), .val (.int (0 : Int32)), .val (.int (0 : Int32)), .val (.int (0 : Int32)), .val (.int sel), .val (.int key), .val (.int (own_min (own_max (key - lo) (0 : Int32)) nn)), .val (.int (own_fd key lo hi)), .val (.int (1 : Int32)), .unset, .unset] []))
    refine go (b := T66.setTop (mkF m 575 #[.val (.int x0), .val (.int x1), .val (.int x2), .val (.int x3), .val (.int x4), .val (.int (1 : Int32)), .val (.int nn), .val (.int lo), .val (.int hi), .val (.int mid), .val (.int (0 : Int32)), .val (.int (0 : Int32)), .val (.int (0 : Int32)), .val (.int (0 : Int32)), .val (.int sel), .val (.int key), .val (.int (own_min (own_max (key - lo) (0 : Int32)) nn)), .val (.int (own_fd key lo hi)), .val (.int (1 : Int32)), .unset, .unset] [(.int (own_ex (own_fd key lo hi) (own_min (own_max (key - lo) (0 : Int32)) nn)))])) (fun tg kg => ?_) ?_
    · show Steps p.tables e below (T66.setTop (mkF m 560 #[.val (.int x0), .val (.int x1), .val (.int x2), .val (.int x3), .val (.int x4), .val (.int (1 : Int32)), .val (.int nn), .val (.int lo), .val (.int hi), .val (.int mid), .val (.int (0 : Int32)), .val (.int (0 : Int32)), .val (.int (0 : Int32)), .val (.int (0 : Int32)), .val (.int sel), .val (.int key), .val (.int (own_min (own_max (key - lo) (0 : Int32)) nn)), .val (.int (own_fd key lo hi)), .val (.int (1 : Int32)), .unset, .unset] [])) _
      refine XS.iload X66.here hx rfl (hb hby at_560) rfl ?_
      show Steps p.tables e below (T66.setTop (mkF m 562 #[.val (.int x0), .val (.int x1), .val (.int x2), .val (.int x3), .val (.int x4), .val (.int (1 : Int32)), .val (.int nn), .val (.int lo), .val (.int hi), .val (.int mid), .val (.int (0 : Int32)), .val (.int (0 : Int32)), .val (.int (0 : Int32)), .val (.int (0 : Int32)), .val (.int sel), .val (.int key), .val (.int (own_min (own_max (key - lo) (0 : Int32)) nn)), .val (.int (own_fd key lo hi)), .val (.int (1 : Int32)), .unset, .unset] [(.int (own_fd key lo hi))])) _
      by_cases hc69 : (own_fd key lo hi) = (0 : Int32)
      · refine XS.ifYes X66.here hx rfl (pc0 := 562) (pc' := 570) rfl (hb hby at_562) rfl ((if0 _ _).trans (teq hc69).1) (by decide) (by decide) ?_
        show Steps p.tables e below (T66.setTop (mkF m 570 #[.val (.int x0), .val (.int x1), .val (.int x2), .val (.int x3), .val (.int x4), .val (.int (1 : Int32)), .val (.int nn), .val (.int lo), .val (.int hi), .val (.int mid), .val (.int (0 : Int32)), .val (.int (0 : Int32)), .val (.int (0 : Int32)), .val (.int (0 : Int32)), .val (.int sel), .val (.int key), .val (.int (own_min (own_max (key - lo) (0 : Int32)) nn)), .val (.int (own_fd key lo hi)), .val (.int (1 : Int32)), .unset, .unset] [])) _
        refine XS.iload X66.here hx rfl (hb hby at_570) rfl ?_
        show Steps p.tables e below (T66.setTop (mkF m 572 #[.val (.int x0), .val (.int x1), .val (.int x2), .val (.int x3), .val (.int x4), .val (.int (1 : Int32)), .val (.int nn), .val (.int lo), .val (.int hi), .val (.int mid), .val (.int (0 : Int32)), .val (.int (0 : Int32)), .val (.int (0 : Int32)), .val (.int (0 : Int32)), .val (.int sel), .val (.int key), .val (.int (own_min (own_max (key - lo) (0 : Int32)) nn)), .val (.int (own_fd key lo hi)), .val (.int (1 : Int32)), .unset, .unset] [(.int (own_min (own_max (key - lo) (0 : Int32)) nn))])) _
        refine XS.ineg X66.here hx rfl (hb hby at_572) rfl ?_
        show Steps p.tables e below (T66.setTop (mkF m 573 #[.val (.int x0), .val (.int x1), .val (.int x2), .val (.int x3), .val (.int x4), .val (.int (1 : Int32)), .val (.int nn), .val (.int lo), .val (.int hi), .val (.int mid), .val (.int (0 : Int32)), .val (.int (0 : Int32)), .val (.int (0 : Int32)), .val (.int (0 : Int32)), .val (.int sel), .val (.int key), .val (.int (own_min (own_max (key - lo) (0 : Int32)) nn)), .val (.int (own_fd key lo hi)), .val (.int (1 : Int32)), .unset, .unset] [(.int (-(own_min (own_max (key - lo) (0 : Int32)) nn)))])) _
        refine XS.iconst X66.here hx rfl (hb hby at_573) ?_
        show Steps p.tables e below (T66.setTop (mkF m 574 #[.val (.int x0), .val (.int x1), .val (.int x2), .val (.int x3), .val (.int x4), .val (.int (1 : Int32)), .val (.int nn), .val (.int lo), .val (.int hi), .val (.int mid), .val (.int (0 : Int32)), .val (.int (0 : Int32)), .val (.int (0 : Int32)), .val (.int (0 : Int32)), .val (.int sel), .val (.int key), .val (.int (own_min (own_max (key - lo) (0 : Int32)) nn)), .val (.int (own_fd key lo hi)), .val (.int (1 : Int32)), .unset, .unset] [(.int (1 : Int32)), (.int (-(own_min (own_max (key - lo) (0 : Int32)) nn)))])) _
        refine XS.isub X66.here hx rfl (hb hby at_574) rfl ?_
        show Steps p.tables e below (T66.setTop (mkF m 575 #[.val (.int x0), .val (.int x1), .val (.int x2), .val (.int x3), .val (.int x4), .val (.int (1 : Int32)), .val (.int nn), .val (.int lo), .val (.int hi), .val (.int mid), .val (.int (0 : Int32)), .val (.int (0 : Int32)), .val (.int (0 : Int32)), .val (.int (0 : Int32)), .val (.int sel), .val (.int key), .val (.int (own_min (own_max (key - lo) (0 : Int32)) nn)), .val (.int (own_fd key lo hi)), .val (.int (1 : Int32)), .unset, .unset] [(.int ((-(own_min (own_max (key - lo) (0 : Int32)) nn)) - (1 : Int32)))])) _
        have q0 : (own_ex (own_fd key lo hi) (own_min (own_max (key - lo) (0 : Int32)) nn)) = ((-(own_min (own_max (key - lo) (0 : Int32)) nn)) - (1 : Int32)) := by simp only [own_ex, if_neg hc1, if_pos hc69]
        rw [q0] at kg
        exact kg
      · refine XS.ifNo X66.here hx rfl (hb hby at_562) rfl ((if0 _ _).trans (feq hc69).1) ?_
        show Steps p.tables e below (T66.setTop (mkF m 565 #[.val (.int x0), .val (.int x1), .val (.int x2), .val (.int x3), .val (.int x4), .val (.int (1 : Int32)), .val (.int nn), .val (.int lo), .val (.int hi), .val (.int mid), .val (.int (0 : Int32)), .val (.int (0 : Int32)), .val (.int (0 : Int32)), .val (.int (0 : Int32)), .val (.int sel), .val (.int key), .val (.int (own_min (own_max (key - lo) (0 : Int32)) nn)), .val (.int (own_fd key lo hi)), .val (.int (1 : Int32)), .unset, .unset] [])) _
        refine XS.iload X66.here hx rfl (hb hby at_565) rfl ?_
        show Steps p.tables e below (T66.setTop (mkF m 567 #[.val (.int x0), .val (.int x1), .val (.int x2), .val (.int x3), .val (.int x4), .val (.int (1 : Int32)), .val (.int nn), .val (.int lo), .val (.int hi), .val (.int mid), .val (.int (0 : Int32)), .val (.int (0 : Int32)), .val (.int (0 : Int32)), .val (.int (0 : Int32)), .val (.int sel), .val (.int key), .val (.int (own_min (own_max (key - lo) (0 : Int32)) nn)), .val (.int (own_fd key lo hi)), .val (.int (1 : Int32)), .unset, .unset] [(.int (own_min (own_max (key - lo) (0 : Int32)) nn))])) _
        refine XS.goto X66.here hx rfl (pc0 := 567) (pc' := 575) rfl (hb hby at_567) (by decide) (by decide) ?_
        show Steps p.tables e below (T66.setTop (mkF m 575 #[.val (.int x0), .val (.int x1), .val (.int x2), .val (.int x3), .val (.int x4), .val (.int (1 : Int32)), .val (.int nn), .val (.int lo), .val (.int hi), .val (.int mid), .val (.int (0 : Int32)), .val (.int (0 : Int32)), .val (.int (0 : Int32)), .val (.int (0 : Int32)), .val (.int sel), .val (.int key), .val (.int (own_min (own_max (key - lo) (0 : Int32)) nn)), .val (.int (own_fd key lo hi)), .val (.int (1 : Int32)), .unset, .unset] [(.int (own_min (own_max (key - lo) (0 : Int32)) nn))])) _
        have q0 : (own_ex (own_fd key lo hi) (own_min (own_max (key - lo) (0 : Int32)) nn)) = (own_min (own_max (key - lo) (0 : Int32)) nn) := by simp only [own_ex, if_neg hc1, if_neg hc69]
        rw [q0] at kg
        exact kg
    show G (T66.setTop (mkF m 575 #[.val (.int x0), .val (.int x1), .val (.int x2), .val (.int x3), .val (.int x4), .val (.int (1 : Int32)), .val (.int nn), .val (.int lo), .val (.int hi), .val (.int mid), .val (.int (0 : Int32)), .val (.int (0 : Int32)), .val (.int (0 : Int32)), .val (.int (0 : Int32)), .val (.int sel), .val (.int key), .val (.int (own_min (own_max (key - lo) (0 : Int32)) nn)), .val (.int (own_fd key lo hi)), .val (.int (1 : Int32)), .unset, .unset] [(.int (own_ex (own_fd key lo hi) (own_min (own_max (key - lo) (0 : Int32)) nn)))]))
    refine go (fun tg kg => XS.istore X66.here hx rfl (hb hby at_575) rfl (l' := #[.val (.int x0), .val (.int x1), .val (.int x2), .val (.int x3), .val (.int x4), .val (.int (1 : Int32)), .val (.int nn), .val (.int lo), .val (.int hi), .val (.int mid), .val (.int (0 : Int32)), .val (.int (0 : Int32)), .val (.int (0 : Int32)), .val (.int (0 : Int32)), .val (.int sel), .val (.int key), .val (.int (own_min (own_max (key - lo) (0 : Int32)) nn)), .val (.int (own_fd key lo hi)), .val (.int (1 : Int32)), .val (.int (own_ex (own_fd key lo hi) (own_min (own_max (key - lo) (0 : Int32)) nn))), .unset]) rfl kg) ?_
    show G (T66.setTop (mkF m 577 #[.val (.int x0), .val (.int x1), .val (.int x2), .val (.int x3), .val (.int x4), .val (.int (1 : Int32)), .val (.int nn), .val (.int lo), .val (.int hi), .val (.int mid), .val (.int (0 : Int32)), .val (.int (0 : Int32)), .val (.int (0 : Int32)), .val (.int (0 : Int32)), .val (.int sel), .val (.int key), .val (.int (own_min (own_max (key - lo) (0 : Int32)) nn)), .val (.int (own_fd key lo hi)), .val (.int (1 : Int32)), .val (.int (own_ex (own_fd key lo hi) (own_min (own_max (key - lo) (0 : Int32)) nn))), .unset] []))
    refine go (fun tg kg => XS.iload X66.here hx rfl (hb hby at_577) rfl kg) ?_
    show G (T66.setTop (mkF m 579 #[.val (.int x0), .val (.int x1), .val (.int x2), .val (.int x3), .val (.int x4), .val (.int (1 : Int32)), .val (.int nn), .val (.int lo), .val (.int hi), .val (.int mid), .val (.int (0 : Int32)), .val (.int (0 : Int32)), .val (.int (0 : Int32)), .val (.int (0 : Int32)), .val (.int sel), .val (.int key), .val (.int (own_min (own_max (key - lo) (0 : Int32)) nn)), .val (.int (own_fd key lo hi)), .val (.int (1 : Int32)), .val (.int (own_ex (own_fd key lo hi) (own_min (own_max (key - lo) (0 : Int32)) nn))), .unset] [(.int nn)]))
    refine go (fun tg kg => XS.iload X66.here hx rfl (hb hby at_579) rfl kg) ?_
    show G (T66.setTop (mkF m 581 #[.val (.int x0), .val (.int x1), .val (.int x2), .val (.int x3), .val (.int x4), .val (.int (1 : Int32)), .val (.int nn), .val (.int lo), .val (.int hi), .val (.int mid), .val (.int (0 : Int32)), .val (.int (0 : Int32)), .val (.int (0 : Int32)), .val (.int (0 : Int32)), .val (.int sel), .val (.int key), .val (.int (own_min (own_max (key - lo) (0 : Int32)) nn)), .val (.int (own_fd key lo hi)), .val (.int (1 : Int32)), .val (.int (own_ex (own_fd key lo hi) (own_min (own_max (key - lo) (0 : Int32)) nn))), .unset] [(.int lo), (.int nn)]))
    refine go (fun tg kg => XS.i2c X66.here hx rfl (hb hby at_581) rfl kg) ?_
    show G (T66.setTop (mkF m 582 #[.val (.int x0), .val (.int x1), .val (.int x2), .val (.int x3), .val (.int x4), .val (.int (1 : Int32)), .val (.int nn), .val (.int lo), .val (.int hi), .val (.int mid), .val (.int (0 : Int32)), .val (.int (0 : Int32)), .val (.int (0 : Int32)), .val (.int (0 : Int32)), .val (.int sel), .val (.int key), .val (.int (own_min (own_max (key - lo) (0 : Int32)) nn)), .val (.int (own_fd key lo hi)), .val (.int (1 : Int32)), .val (.int (own_ex (own_fd key lo hi) (own_min (own_max (key - lo) (0 : Int32)) nn))), .unset] [(.int (lo.toUInt32.toUInt16.toUInt32.toInt32)), (.int nn)]))
    refine go (fun tg kg => XS.iload X66.here hx rfl (hb hby at_582) rfl kg) ?_
    show G (T66.setTop (mkF m 584 #[.val (.int x0), .val (.int x1), .val (.int x2), .val (.int x3), .val (.int x4), .val (.int (1 : Int32)), .val (.int nn), .val (.int lo), .val (.int hi), .val (.int mid), .val (.int (0 : Int32)), .val (.int (0 : Int32)), .val (.int (0 : Int32)), .val (.int (0 : Int32)), .val (.int sel), .val (.int key), .val (.int (own_min (own_max (key - lo) (0 : Int32)) nn)), .val (.int (own_fd key lo hi)), .val (.int (1 : Int32)), .val (.int (own_ex (own_fd key lo hi) (own_min (own_max (key - lo) (0 : Int32)) nn))), .unset] [(.int hi), (.int (lo.toUInt32.toUInt16.toUInt32.toInt32)), (.int nn)]))
    refine go (fun tg kg => XS.i2c X66.here hx rfl (hb hby at_584) rfl kg) ?_
    show G (T66.setTop (mkF m 585 #[.val (.int x0), .val (.int x1), .val (.int x2), .val (.int x3), .val (.int x4), .val (.int (1 : Int32)), .val (.int nn), .val (.int lo), .val (.int hi), .val (.int mid), .val (.int (0 : Int32)), .val (.int (0 : Int32)), .val (.int (0 : Int32)), .val (.int (0 : Int32)), .val (.int sel), .val (.int key), .val (.int (own_min (own_max (key - lo) (0 : Int32)) nn)), .val (.int (own_fd key lo hi)), .val (.int (1 : Int32)), .val (.int (own_ex (own_fd key lo hi) (own_min (own_max (key - lo) (0 : Int32)) nn))), .unset] [(.int (hi.toUInt32.toUInt16.toUInt32.toInt32)), (.int (lo.toUInt32.toUInt16.toUInt32.toInt32)), (.int nn)]))
    refine go (fun tg kg => XS.iload X66.here hx rfl (hb hby at_585) rfl kg) ?_
    show G (T66.setTop (mkF m 587 #[.val (.int x0), .val (.int x1), .val (.int x2), .val (.int x3), .val (.int x4), .val (.int (1 : Int32)), .val (.int nn), .val (.int lo), .val (.int hi), .val (.int mid), .val (.int (0 : Int32)), .val (.int (0 : Int32)), .val (.int (0 : Int32)), .val (.int (0 : Int32)), .val (.int sel), .val (.int key), .val (.int (own_min (own_max (key - lo) (0 : Int32)) nn)), .val (.int (own_fd key lo hi)), .val (.int (1 : Int32)), .val (.int (own_ex (own_fd key lo hi) (own_min (own_max (key - lo) (0 : Int32)) nn))), .unset] [(.int key), (.int (hi.toUInt32.toUInt16.toUInt32.toInt32)), (.int (lo.toUInt32.toUInt16.toUInt32.toInt32)), (.int nn)]))
    refine go (fun tg kg => XS.i2c X66.here hx rfl (hb hby at_587) rfl kg) ?_
    show G (T66.setTop (mkF m 588 #[.val (.int x0), .val (.int x1), .val (.int x2), .val (.int x3), .val (.int x4), .val (.int (1 : Int32)), .val (.int nn), .val (.int lo), .val (.int hi), .val (.int mid), .val (.int (0 : Int32)), .val (.int (0 : Int32)), .val (.int (0 : Int32)), .val (.int (0 : Int32)), .val (.int sel), .val (.int key), .val (.int (own_min (own_max (key - lo) (0 : Int32)) nn)), .val (.int (own_fd key lo hi)), .val (.int (1 : Int32)), .val (.int (own_ex (own_fd key lo hi) (own_min (own_max (key - lo) (0 : Int32)) nn))), .unset] [(.int (key.toUInt32.toUInt16.toUInt32.toInt32)), (.int (hi.toUInt32.toUInt16.toUInt32.toInt32)), (.int (lo.toUInt32.toUInt16.toUInt32.toInt32)), (.int nn)]))
    obtain ⟨_, _, ⟨T70, L70, k70, n70⟩, -, X70, ⟨Lc70, hQ70, l70, y70, z70⟩, st70⟩ := Jvm.LawKit.callS X66 hx (y := (⟨"com/example/tightbits/tightbits/ReadableUnsignedIntSet", "indexByBounds", "(ICCC)I"⟩ : MethodName)) hown (mvT hZ (hw _ (List.mem_of_getElem? (i := 3) rfl))) (mvT hZ (hw _ (List.mem_of_getElem? (i := 4) rfl))) (mvT hZ (hw _ (List.mem_of_getElem? (i := 5) rfl))) (mvT hZ (hw _ (List.mem_of_getElem? (i := 6) rfl))) (by decide) (backOf (W := 0) (rm1 l Z a0 hw [] nn (lo.toUInt32.toUInt16.toUInt32.toInt32) (hi.toUInt32.toUInt16.toUInt32.toInt32) (key.toUInt32.toUInt16.toUInt32.toInt32) h0 n0 Z0 ) hZ (hw _ (List.mem_of_getElem? (i := 6) rfl)) (hw _ (List.mem_of_getElem? (i := 5) rfl)) (by decide) (by decide)) (g := (mkF m 588 #[.val (.int x0), .val (.int x1), .val (.int x2), .val (.int x3), .val (.int x4), .val (.int (1 : Int32)), .val (.int nn), .val (.int lo), .val (.int hi), .val (.int mid), .val (.int (0 : Int32)), .val (.int (0 : Int32)), .val (.int (0 : Int32)), .val (.int (0 : Int32)), .val (.int sel), .val (.int key), .val (.int (own_min (own_max (key - lo) (0 : Int32)) nn)), .val (.int (own_fd key lo hi)), .val (.int (1 : Int32)), .val (.int (own_ex (own_fd key lo hi) (own_min (own_max (key - lo) (0 : Int32)) nn))), .unset] [(.int (key.toUInt32.toUInt16.toUInt32.toInt32)), (.int (hi.toUInt32.toUInt16.toUInt32.toInt32)), (.int (lo.toUInt32.toUInt16.toUInt32.toInt32)), (.int nn)])) rfl (by rw [hml]; rfl) (argsL := [(.int nn), (.int (lo.toUInt32.toUInt16.toUInt32.toInt32)), (.int (hi.toUInt32.toUInt16.toUInt32.toInt32)), (.int (key.toUInt32.toUInt16.toUInt32.toInt32))]) (rest := []) (lenOf pd__ICCC_I rfl) rfl (by show 2 * 0 + _ ≤ _; exact Nat.le_of_eq rfl) (hb hby at_588) (fun _ _ => ⟨rfl, e66, (by decide : 0 + 0 ≤ _), (by decide : 0 + 0 ≤ _)⟩)
    dsimp only [Pt.U, Pt.locs, Pt.cells, Pt.slots] at X70 l70 y70 z70 st70 hQ70
    subst l70 y70 z70
    obtain ⟨rfl, Nq70, e70⟩ := hQ70
    have N70 := Fr.app N66 Nq70
    refine go st70 ?_
    show G (T70.setTop (mkF m 591 #[.val (.int x0), .val (.int x1), .val (.int x2), .val (.int x3), .val (.int x4), .val (.int (1 : Int32)), .val (.int nn), .val (.int lo), .val (.int hi), .val (.int mid), .val (.int (0 : Int32)), .val (.int (0 : Int32)), .val (.int (0 : Int32)), .val (.int (0 : Int32)), .val (.int sel), .val (.int key), .val (.int (own_min (own_max (key - lo) (0 : Int32)) nn)), .val (.int (own_fd key lo hi)), .val (.int (1 : Int32)), .val (.int (own_ex (own_fd key lo hi) (own_min (own_max (key - lo) (0 : Int32)) nn))), .unset] [(.int (own_idx nn (lo.toUInt32.toUInt16.toUInt32.toInt32) (hi.toUInt32.toUInt16.toUInt32.toInt32) (key.toUInt32.toUInt16.toUInt32.toInt32)))]))
    refine go (fun tg kg => XS.istore X70.here hx rfl (hb hby at_591) rfl (l' := #[.val (.int x0), .val (.int x1), .val (.int x2), .val (.int x3), .val (.int x4), .val (.int (1 : Int32)), .val (.int nn), .val (.int lo), .val (.int hi), .val (.int mid), .val (.int (0 : Int32)), .val (.int (0 : Int32)), .val (.int (0 : Int32)), .val (.int (0 : Int32)), .val (.int sel), .val (.int key), .val (.int (own_min (own_max (key - lo) (0 : Int32)) nn)), .val (.int (own_fd key lo hi)), .val (.int (1 : Int32)), .val (.int (own_ex (own_fd key lo hi) (own_min (own_max (key - lo) (0 : Int32)) nn))), .val (.int (own_idx nn (lo.toUInt32.toUInt16.toUInt32.toInt32) (hi.toUInt32.toUInt16.toUInt32.toInt32) (key.toUInt32.toUInt16.toUInt32.toInt32)))]) rfl kg) ?_
    show G (T70.setTop (mkF m 593 #[.val (.int x0), .val (.int x1), .val (.int x2), .val (.int x3), .val (.int x4), .val (.int (1 : Int32)), .val (.int nn), .val (.int lo), .val (.int hi), .val (.int mid), .val (.int (0 : Int32)), .val (.int (0 : Int32)), .val (.int (0 : Int32)), .val (.int (0 : Int32)), .val (.int sel), .val (.int key), .val (.int (own_min (own_max (key - lo) (0 : Int32)) nn)), .val (.int (own_fd key lo hi)), .val (.int (1 : Int32)), .val (.int (own_ex (own_fd key lo hi) (own_min (own_max (key - lo) (0 : Int32)) nn))), .val (.int (own_idx nn (lo.toUInt32.toUInt16.toUInt32.toInt32) (hi.toUInt32.toUInt16.toUInt32.toInt32) (key.toUInt32.toUInt16.toUInt32.toInt32)))] []))
    refine go (fun tg kg => XS.iload X70.here hx rfl (hb hby at_593) rfl kg) ?_
    show G (T70.setTop (mkF m 595 #[.val (.int x0), .val (.int x1), .val (.int x2), .val (.int x3), .val (.int x4), .val (.int (1 : Int32)), .val (.int nn), .val (.int lo), .val (.int hi), .val (.int mid), .val (.int (0 : Int32)), .val (.int (0 : Int32)), .val (.int (0 : Int32)), .val (.int (0 : Int32)), .val (.int sel), .val (.int key), .val (.int (own_min (own_max (key - lo) (0 : Int32)) nn)), .val (.int (own_fd key lo hi)), .val (.int (1 : Int32)), .val (.int (own_ex (own_fd key lo hi) (own_min (own_max (key - lo) (0 : Int32)) nn))), .val (.int (own_idx nn (lo.toUInt32.toUInt16.toUInt32.toInt32) (hi.toUInt32.toUInt16.toUInt32.toInt32) (key.toUInt32.toUInt16.toUInt32.toInt32)))] [(.int (1 : Int32))]))
    refine go (fun tg kg => XS.ifNo X70.here hx rfl (hb hby at_595) rfl ((if0 _ _).trans (feq (by decide)).1) kg) ?_
    show G (T70.setTop (mkF m 598 #[.val (.int x0), .val (.int x1), .val (.int x2), .val (.int x3), .val (.int x4), .val (.int (1 : Int32)), .val (.int nn), .val (.int lo), .val (.int hi), .val (.int mid), .val (.int (0 : Int32)), .val (.int (0 : Int32)), .val (.int (0 : Int32)), .val (.int (0 : Int32)), .val (.int sel), .val (.int key), .val (.int (own_min (own_max (key - lo) (0 : Int32)) nn)), .val (.int (own_fd key lo hi)), .val (.int (1 : Int32)), .val (.int (own_ex (own_fd key lo hi) (own_min (own_max (key - lo) (0 : Int32)) nn))), .val (.int (own_idx nn (lo.toUInt32.toUInt16.toUInt32.toInt32) (hi.toUInt32.toUInt16.toUInt32.toInt32) (key.toUInt32.toUInt16.toUInt32.toInt32)))] []))
    refine go (fun tg kg => XS.iload X70.here hx rfl (hb hby at_598) rfl kg) ?_
    show G (T70.setTop (mkF m 600 #[.val (.int x0), .val (.int x1), .val (.int x2), .val (.int x3), .val (.int x4), .val (.int (1 : Int32)), .val (.int nn), .val (.int lo), .val (.int hi), .val (.int mid), .val (.int (0 : Int32)), .val (.int (0 : Int32)), .val (.int (0 : Int32)), .val (.int (0 : Int32)), .val (.int sel), .val (.int key), .val (.int (own_min (own_max (key - lo) (0 : Int32)) nn)), .val (.int (own_fd key lo hi)), .val (.int (1 : Int32)), .val (.int (own_ex (own_fd key lo hi) (own_min (own_max (key - lo) (0 : Int32)) nn))), .val (.int (own_idx nn (lo.toUInt32.toUInt16.toUInt32.toInt32) (hi.toUInt32.toUInt16.toUInt32.toInt32) (key.toUInt32.toUInt16.toUInt32.toInt32)))] [(.int (own_idx nn (lo.toUInt32.toUInt16.toUInt32.toInt32) (hi.toUInt32.toUInt16.toUInt32.toInt32) (key.toUInt32.toUInt16.toUInt32.toInt32)))]))
    refine go (fun tg kg => XS.iload X70.here hx rfl (hb hby at_600) rfl kg) ?_
    show G (T70.setTop (mkF m 602 #[.val (.int x0), .val (.int x1), .val (.int x2), .val (.int x3), .val (.int x4), .val (.int (1 : Int32)), .val (.int nn), .val (.int lo), .val (.int hi), .val (.int mid), .val (.int (0 : Int32)), .val (.int (0 : Int32)), .val (.int (0 : Int32)), .val (.int (0 : Int32)), .val (.int sel), .val (.int key), .val (.int (own_min (own_max (key - lo) (0 : Int32)) nn)), .val (.int (own_fd key lo hi)), .val (.int (1 : Int32)), .val (.int (own_ex (own_fd key lo hi) (own_min (own_max (key - lo) (0 : Int32)) nn))), .val (.int (own_idx nn (lo.toUInt32.toUInt16.toUInt32.toInt32) (hi.toUInt32.toUInt16.toUInt32.toInt32) (key.toUInt32.toUInt16.toUInt32.toInt32)))] [(.int (own_ex (own_fd key lo hi) (own_min (own_max (key - lo) (0 : Int32)) nn))), (.int (own_idx nn (lo.toUInt32.toUInt16.toUInt32.toInt32) (hi.toUInt32.toUInt16.toUInt32.toInt32) (key.toUInt32.toUInt16.toUInt32.toInt32)))]))
    refine go (fun tg kg => XS.icmpNo X70.here hx rfl (hb hby at_602) rfl (teq (own_dense bn bl bh bk)).2 kg) ?_
    show G (T70.setTop (mkF m 605 #[.val (.int x0), .val (.int x1), .val (.int x2), .val (.int x3), .val (.int x4), .val (.int (1 : Int32)), .val (.int nn), .val (.int lo), .val (.int hi), .val (.int mid), .val (.int (0 : Int32)), .val (.int (0 : Int32)), .val (.int (0 : Int32)), .val (.int (0 : Int32)), .val (.int sel), .val (.int key), .val (.int (own_min (own_max (key - lo) (0 : Int32)) nn)), .val (.int (own_fd key lo hi)), .val (.int (1 : Int32)), .val (.int (own_ex (own_fd key lo hi) (own_min (own_max (key - lo) (0 : Int32)) nn))), .val (.int (own_idx nn (lo.toUInt32.toUInt16.toUInt32.toInt32) (hi.toUInt32.toUInt16.toUInt32.toInt32) (key.toUInt32.toUInt16.toUInt32.toInt32)))] []))
    refine go (fun tg kg => XS.iconst X70.here hx rfl (hb hby at_605) kg) ?_
    show G (T70.setTop (mkF m 606 #[.val (.int x0), .val (.int x1), .val (.int x2), .val (.int x3), .val (.int x4), .val (.int (1 : Int32)), .val (.int nn), .val (.int lo), .val (.int hi), .val (.int mid), .val (.int (0 : Int32)), .val (.int (0 : Int32)), .val (.int (0 : Int32)), .val (.int (0 : Int32)), .val (.int sel), .val (.int key), .val (.int (own_min (own_max (key - lo) (0 : Int32)) nn)), .val (.int (own_fd key lo hi)), .val (.int (1 : Int32)), .val (.int (own_ex (own_fd key lo hi) (own_min (own_max (key - lo) (0 : Int32)) nn))), .val (.int (own_idx nn (lo.toUInt32.toUInt16.toUInt32.toInt32) (hi.toUInt32.toUInt16.toUInt32.toInt32) (key.toUInt32.toUInt16.toUInt32.toInt32)))] [(.int (1 : Int32))]))
    refine go (fun tg kg => XS.goto X70.here hx rfl (pc0 := 606) (pc' := 625) rfl (hb hby at_606) (by decide) (by decide) kg) ?_
    show G (T70.setTop (mkF m 625 #[.val (.int x0), .val (.int x1), .val (.int x2), .val (.int x3), .val (.int x4), .val (.int (1 : Int32)), .val (.int nn), .val (.int lo), .val (.int hi), .val (.int mid), .val (.int (0 : Int32)), .val (.int (0 : Int32)), .val (.int (0 : Int32)), .val (.int (0 : Int32)), .val (.int sel), .val (.int key), .val (.int (own_min (own_max (key - lo) (0 : Int32)) nn)), .val (.int (own_fd key lo hi)), .val (.int (1 : Int32)), .val (.int (own_ex (own_fd key lo hi) (own_min (own_max (key - lo) (0 : Int32)) nn))), .val (.int (own_idx nn (lo.toUInt32.toUInt16.toUInt32.toInt32) (hi.toUInt32.toUInt16.toUInt32.toInt32) (key.toUInt32.toUInt16.toUInt32.toInt32)))] [(.int (1 : Int32))]))
    refine fin (some (.int (1 : Int32))) X70 (fun h => absurd h (by decide)) (fun fs hr => retN X70 hx (t := .boolean) hret (by simp) (hb hby at_625) hr) (by decide) (by decide) ?_
    rw [e70]
    exact ⟨rfl, N70⟩
set_option maxRecDepth 65536 in
set_option maxHeartbeats 40000000 in
theorem comes_1 {Post : Tables → Env → Array Value → State → Outcome → State → Prop} (hpost : ∀ tb e args s v u, (limb_1_1.after args s (.returned v) u = true ∧ limb_1_2.after args s (.returned v) u = true ∧ True) → FrameEnd s (.returned v) u (Jvm.fieldLocs frame_1_writes args s ++ Jvm.arrayLocs frame_1_arrays args s ++ Jvm.staticLocs frame_1_statics s) 0 0 → Post tb e args s (.returned v) u) :
    ArmFor flags0 classFile x code maxLocals ret World_1 tables_1 room_1 Calls_1 rest_1 Pre_1 Post := by
  intro l hfl _ _ p e ha hc hk s m args below hf hA hF happ hP
  obtain ⟨hcalls, hrest, hpre⟩ := hP
  obtain ⟨-, -, -, hnamed, -, -, -, hat⟩ := (Spec.applies_iff hf).mp happ
  obtain ⟨hg, hn⟩ := and_e (Cond.before_iff.mp (show (Jvm.Cond.and given_1 narrow_1).before args s = true from hpre))
  obtain ⟨gc, gr0⟩ := and_e hg
  obtain ⟨ga0, gr1⟩ := and_e gr0
  obtain ⟨ga1, gr2⟩ := and_e gr1
  obtain ⟨ga2, gr3⟩ := and_e gr2
  obtain ⟨ga3, gr4⟩ := and_e gr3
  have ga4 := gr4
  obtain ⟨w0, w1, w2, w3, w4, rfl⟩ : ∃ w0 w1 w2 w3 w4 : Value, args = #[w0, w1, w2, w3, w4] := by
    have hs : args.size = 5 := by simpa [Cond.value, given_1] using gc
    obtain ⟨L⟩ := args
    match L, hs with
    | [w0, w1, w2, w3, w4], _ => exact ⟨w0, w1, w2, w3, w4, rfl⟩
  have hw := fun d (hd : d ∈ tables_1) => atoms_spec (ws := Jvm.Cond.code x code maxLocals ret :: tables_1) hat d (List.mem_cons_of_mem _ hd)
  have hfit : Fit s := fun {y c} hc i hi => by
    obtain ⟨ha, rfl⟩ := Array.getElem?_eq_some_iff.mp hc
    have q := List.all_eq_true.mp ((Array.all_eq_true_iff_forall_mem.mp hF) _ (Array.getElem_mem ha)) i (List.mem_range.mpr hi)
    simpa [Array.getElem?_eq_getElem hi] using q
  obtain ⟨i0, ei0⟩ := is_v ga0
  obtain rfl : w0 = (.int i0) := Option.some.inj ei0
  obtain ⟨i1, ei1⟩ := is_v ga1
  obtain rfl : w1 = (.int i1) := Option.some.inj ei1
  obtain ⟨i2, ei2⟩ := is_v ga2
  obtain rfl : w2 = (.int i2) := Option.some.inj ei2
  obtain ⟨i3, ei3⟩ := is_v ga3
  obtain rfl : w3 = (.int i3) := Option.some.inj ei3
  obtain ⟨i4, ei4⟩ := is_v ga4
  obtain rfl : w4 = (.int i4) := Option.some.inj ei4
  obtain ⟨n, o, h1, h2, h3, _, L, rfl, ⟨rfl, N⟩, hq⟩ := rm0 l s _ hw tables_1 i0 i1 i2 i3 i4  s.heap s.heap.size (Nat.le_refl _)  p e ha hc hk s m _ below hf ((Spec.applies_iff_loose hf).mp happ).1 ⟨rfl, State.Warmed39.refl s, rfl⟩ trivial
  refine ⟨n, _, h1, h2, h3, hpost _ _ _ _ _ _ ⟨Cond.after_iff.mpr rfl, Cond.after_iff.mpr (eq_i res_at (Term.int_eval (1)) rfl), trivial⟩ ⟨hq.1, hq.2.1, (hq.2.2.sift fun y hy => Or.inr (N y hy)).mono (by decide) (by decide)⟩⟩
theorem main_1_1 : Claimed_1_1 := comes_1 fun _ _ _ _ _ _ h hF => ⟨h.1, hF⟩
theorem main_1_2 : Claimed_1_2 := comes_1 fun _ _ _ _ _ _ h hF => ⟨h.2.1, hF⟩
end Jvm.Pilot.@@N@@
namespace Jvm.Pilot.@@N@@
open Jvm Jvm.ClassFile Sem Op Lib Jvm.Free Jvm.Stand Jvm.Pilot.@@N@@.Jvm.D
/-! MADE BY PROGRAM (witnessworld.py) out of the Statement's table words and the real class files: 11 classes; the members and pool entries that the words name. The judged class is class 1, her method 1. -/
namespace start1
open Jvm.ClassFile
def u (s : String) : CpInfo := .utf8 (stringToUtf16 s)
/-- a pool by its gaps: so many unusable entries, then the entry; so many at the end -/
def gap : Nat → List CpInfo → List CpInfo
  | 0, r => r
  | n + 1, r => .unusable :: gap n r
def poolList (es : List (Nat × CpInfo)) (last : Nat) : List CpInfo := es.foldr (fun e r => gap e.1 (e.2 :: r)) (gap last [])
def pool (es : List (Nat × CpInfo)) (last : Nat) : Array CpInfo := ⟨poolList es last⟩
def fileOf (pool : Array CpInfo) (this : Nat) (attrs : Array Attribute := #[]) (ms : Array MethodInfo := #[]) (fl : Nat := 33) (sup : Nat := 0) (ifs : Array Nat := #[]) (fds : Array FieldInfo := #[]) : ClassFile where
  minorVersion := 0
  majorVersion := 65
  constantPool := pool
  accessFlags := fl
  thisClass := this
  superClass := sup
  interfaces := ifs
  fields := fds
  methods := ms
  attributes := attrs
def plain (name : String) (sup : Option ClassId) : Class where
  name := name
  kind := .ordinary
  loader := none
  accessFlags := 33
  super := sup
  interfaces := #[]
  cf := none
  fields := #[]
  methods := #[]
  instanceTypes := #[]
  staticTypes := #[]
  resolved := #[]
  callSites := []
  init := .initialized
  statics := none
  mirror := none

def pool0 : Array CpInfo := pool [(5, u "<init>"), (0, u "()V"), (1, .class_ 10), (1, u "java/lang/Object")] 113

def k0m0 : Method := { name := "<init>", desc := "()V", sig := { parameters := [], returnType := none }, accessFlags := 1, code := none }
/-- java/lang/Object -/
def k0 : Class := { plain "java/lang/Object" none with
  accessFlags := 33
  interfaces := #[]
  cf := some (fileOf pool0 8 #[] #[{ accessFlags := 1, nameIndex := 5, descriptorIndex := 6, attributes := #[] }] 33 0 #[] #[])
  fields := #[]
  methods := #[k0m0]
  instanceTypes := #[]
  staticTypes := #[]
  resolved := Array.replicate 124 none
  statics := none }

def pool1 : Array CpInfo := pool [(2, .class_ 4), (1, u "java/lang/Object"), (0, u "<init>"), (0, u "()V"), (0, .integer 2147483647), (0, .integer 65536), (0, .integer 65537), (0, .integer 65535), (0, .methodref 12 13), (0, .class_ 14), (0, .nameAndType 15 16), (0, u "java/lang/Math"), (0, u "max"), (0, u "(II)I"), (0, .methodref 12 18), (0, .nameAndType 19 16), (0, u "min"), (0, .methodref 21 22), (0, .class_ 23), (0, .nameAndType 24 25), (0, u "com/example/tightbits/tightbits/ReadableUnsignedIntSet"), (0, u "indexByBounds"), (0, u "(ICCC)I"), (0, .integer 2147483648), (0, .class_ 28), (0, u "com/example/tightbits/tightbits/ReadableUnsignedIntSetIndexByBoundsPinLaw"), (2, u "law"), (0, u "(IIIII)Z")] 3

def k1m0 : Method := { name := "<init>", desc := "()V", sig := { parameters := [], returnType := none }, accessFlags := 1, code := none }
def k1c1 : Code := { maxStack := 4, maxLocals := 21, code := code, exceptionTable := #[], attributes := #[] }
def k1m1 : Method := { name := "law", desc := "(IIIII)Z", sig := { parameters := [.int, .int, .int, .int, .int], returnType := some .boolean }, accessFlags := 9, code := some k1c1 }
/-- com/example/tightbits/tightbits/ReadableUnsignedIntSetIndexByBoundsPinLaw -/
def k1 : Class := { plain "com/example/tightbits/tightbits/ReadableUnsignedIntSetIndexByBoundsPinLaw" (some 0) with
  accessFlags := 49
  interfaces := #[]
  cf := some (fileOf pool1 27 #[] #[{ accessFlags := 1, nameIndex := 5, descriptorIndex := 6, attributes := #[] }, { accessFlags := 9, nameIndex := 31, descriptorIndex := 32, attributes := #[] }] 49 2 #[] #[])
  fields := #[]
  methods := #[k1m0, k1m1]
  instanceTypes := #[]
  staticTypes := #[]
  resolved := Array.replicate 36 none
  statics := none }

def pool2 : Array CpInfo := pool [(8, .class_ 10), (1, u "java/lang/Iterable"), (24, .class_ 36), (0, u "java/lang/Object")] 25

/-- java/lang/Iterable -/
def k2 : Class := { plain "java/lang/Iterable" (some 0) with
  accessFlags := 1537
  interfaces := #[]
  cf := some (fileOf pool2 8 #[] #[] 1537 35 #[] #[])
  fields := #[]
  methods := #[]
  instanceTypes := #[]
  staticTypes := #[]
  resolved := Array.replicate 62 none
  statics := none }

def pool3 : Array CpInfo := pool [(4, .class_ 6), (1, u "java/lang/Object"), (0, u "<init>"), (0, u "()V"), (1, .class_ 12), (1, u "com/example/tightbits/tightbits/ReadableUnsignedIntSet"), (0, u "footprint"), (0, u "Lcom/example/tightbits/tightbits/Footprint;"), (9, u "I"), (198, .class_ 224), (0, u "com/example/tightbits/tightbits/ReadableUnsignedIntSet$Walk"), (79, u "indexByBounds"), (0, u "(ICCC)I"), (0, .integer 2147483648), (2, u "readCostInKeys"), (7, .class_ 318), (0, u "java/lang/Iterable"), (0, u "MAX_SHOWN_VALUES"), (2, u "SEARCH_KEYS")] 60

def k3m0 : Method := { name := "<init>", desc := "()V", sig := { parameters := [], returnType := none }, accessFlags := 0, code := none }
def k3c1 : Code := { maxStack := 2, maxLocals := 4, code := prog_28_method_42_code, exceptionTable := #[], attributes := #[] }
def k3m1 : Method := { name := "indexByBounds", desc := "(ICCC)I", sig := { parameters := [.int, .char, .char, .char], returnType := some .int }, accessFlags := 8, code := some k3c1 }
/-- com/example/tightbits/tightbits/ReadableUnsignedIntSet -/
def k3 : Class := { plain "com/example/tightbits/tightbits/ReadableUnsignedIntSet" (some 0) with
  accessFlags := 1057
  interfaces := #[2]
  cf := some (fileOf pool3 10 #[.nestMembers #[223]] #[{ accessFlags := 0, nameIndex := 7, descriptorIndex := 8, attributes := #[] }, { accessFlags := 8, nameIndex := 304, descriptorIndex := 305, attributes := #[] }] 1057 4 #[317] #[{ accessFlags := 24, nameIndex := 319, descriptorIndex := 24, attributes := #[] }, { accessFlags := 24, nameIndex := 322, descriptorIndex := 24, attributes := #[] }, { accessFlags := 2, nameIndex := 13, descriptorIndex := 14, attributes := #[] }, { accessFlags := 2, nameIndex := 309, descriptorIndex := 24, attributes := #[] }])
  fields := #[{ name := "MAX_SHOWN_VALUES", type := .int, accessFlags := 24, slot := 0, constantValue := 0 }, { name := "SEARCH_KEYS", type := .int, accessFlags := 24, slot := 1, constantValue := 0 }, { name := "footprint", type := (.object "com/example/tightbits/tightbits/Footprint"), accessFlags := 2, slot := 0, constantValue := 0 }, { name := "readCostInKeys", type := .int, accessFlags := 2, slot := 1, constantValue := 0 }]
  methods := #[k3m0, k3m1]
  instanceTypes := #[(.object "com/example/tightbits/tightbits/Footprint"), .int]
  staticTypes := #[.int, .int]
  resolved := Array.replicate 383 none
  statics := none }

def pool4 : Array CpInfo := pool [(1, .class_ 2), (0, u "java/lang/Math"), (1, .class_ 6), (1, u "java/lang/Object"), (0, u "<init>"), (0, u "()V"), (89, .class_ 100), (1, u "java/lang/Math$RandomNumberGeneratorHolder"), (71, u "negativeZeroFloatBits"), (0, u "J"), (2, u "negativeZeroDoubleBits"), (21, u "max"), (2, u "min"), (43, u "$assertionsDisabled"), (0, u "Z"), (88, u "(II)I"), (2, u "twoToTheDoubleScaleDown"), (0, u "D"), (4, u "twoToTheDoubleScaleUp"), (9, u "E"), (3, u "PI"), (2, u "TAU"), (2, u "DEGREES_TO_RADIANS"), (0, u "RADIANS_TO_DEGREES")] 94

def k4m0 : Method := { name := "<init>", desc := "()V", sig := { parameters := [], returnType := none }, accessFlags := 2, code := none }
def k4c1 : Code := { maxStack := 2, maxLocals := 2, code := jdk_29_method_65_code, exceptionTable := #[], attributes := #[] }
def k4m1 : Method := { name := "max", desc := "(II)I", sig := { parameters := [.int, .int], returnType := some .int }, accessFlags := 9, code := some k4c1 }
def k4c2 : Code := { maxStack := 2, maxLocals := 2, code := jdk_29_method_69_code, exceptionTable := #[], attributes := #[] }
def k4m2 : Method := { name := "min", desc := "(II)I", sig := { parameters := [.int, .int], returnType := some .int }, accessFlags := 9, code := some k4c2 }
/-- java/lang/Math -/
def k4 : Class := { plain "java/lang/Math" (some 0) with
  accessFlags := 49
  interfaces := #[]
  cf := some (fileOf pool4 1 #[.nestMembers #[98]] #[{ accessFlags := 2, nameIndex := 7, descriptorIndex := 8, attributes := #[] }, { accessFlags := 9, nameIndex := 198, descriptorIndex := 335, attributes := #[] }, { accessFlags := 9, nameIndex := 201, descriptorIndex := 335, attributes := #[] }] 49 4 #[] #[{ accessFlags := 25, nameIndex := 354, descriptorIndex := 339, attributes := #[] }, { accessFlags := 25, nameIndex := 358, descriptorIndex := 339, attributes := #[] }, { accessFlags := 25, nameIndex := 361, descriptorIndex := 339, attributes := #[] }, { accessFlags := 26, nameIndex := 364, descriptorIndex := 339, attributes := #[] }, { accessFlags := 26, nameIndex := 365, descriptorIndex := 339, attributes := #[] }, { accessFlags := 26, nameIndex := 172, descriptorIndex := 173, attributes := #[] }, { accessFlags := 26, nameIndex := 176, descriptorIndex := 173, attributes := #[] }, { accessFlags := 8, nameIndex := 344, descriptorIndex := 339, attributes := #[] }, { accessFlags := 8, nameIndex := 338, descriptorIndex := 339, attributes := #[] }, { accessFlags := 4120, nameIndex := 245, descriptorIndex := 246, attributes := #[] }])
  fields := #[{ name := "E", type := .double, accessFlags := 25, slot := 0, constantValue := 0 }, { name := "PI", type := .double, accessFlags := 25, slot := 1, constantValue := 0 }, { name := "TAU", type := .double, accessFlags := 25, slot := 2, constantValue := 0 }, { name := "DEGREES_TO_RADIANS", type := .double, accessFlags := 26, slot := 3, constantValue := 0 }, { name := "RADIANS_TO_DEGREES", type := .double, accessFlags := 26, slot := 4, constantValue := 0 }, { name := "negativeZeroFloatBits", type := .long, accessFlags := 26, slot := 5, constantValue := 0 }, { name := "negativeZeroDoubleBits", type := .long, accessFlags := 26, slot := 6, constantValue := 0 }, { name := "twoToTheDoubleScaleUp", type := .double, accessFlags := 8, slot := 7, constantValue := 0 }, { name := "twoToTheDoubleScaleDown", type := .double, accessFlags := 8, slot := 8, constantValue := 0 }, { name := "$assertionsDisabled", type := .boolean, accessFlags := 4120, slot := 9, constantValue := 0 }]
  methods := #[k4m0, k4m1, k4m2]
  instanceTypes := #[]
  staticTypes := #[.double, .double, .double, .double, .double, .long, .long, .double, .double, .boolean]
  resolved := Array.replicate 460 none
  statics := none }

def pool5 : Array CpInfo := pool [(1, u "java/lang/Cloneable"), (0, .class_ 1), (0, u "java/lang/Object"), (0, .class_ 3)] 3

/-- java/lang/Cloneable -/
def k5 : Class := { plain "java/lang/Cloneable" (some 0) with
  accessFlags := 1537
  interfaces := #[]
  cf := some (fileOf pool5 2 #[] #[] 1537 4 #[] #[])
  fields := #[]
  methods := #[]
  instanceTypes := #[]
  staticTypes := #[]
  resolved := Array.replicate 8 none
  statics := none }

def pool6 : Array CpInfo := pool [(1, u "java/io/Serializable"), (0, .class_ 1), (0, u "java/lang/Object"), (0, .class_ 3)] 3

/-- java/io/Serializable -/
def k6 : Class := { plain "java/io/Serializable" (some 0) with
  accessFlags := 1537
  interfaces := #[]
  cf := some (fileOf pool6 2 #[] #[] 1537 4 #[] #[])
  fields := #[]
  methods := #[]
  instanceTypes := #[]
  staticTypes := #[]
  resolved := Array.replicate 8 none
  statics := none }

/-- the primitive byte -/
def k7 : Class := { plain "byte" none with kind := .primitive 'B', accessFlags := 0x411 }
/-- [B -/
def k8 : Class := { plain "[B" (some 0) with kind := .array 7 .byte, interfaces := #[5, 6], accessFlags := 1041 }

/-- the primitive int -/
def k9 : Class := { plain "int" none with kind := .primitive 'I', accessFlags := 0x411 }
/-- [I -/
def k10 : Class := { plain "[I" (some 0) with kind := .array 9 .int, interfaces := #[5, 6], accessFlags := 1041 }

def heap : Heap := #[]
def classes : Array Class := #[k0, k1, k2, k3, k4, k5, k6, k7, k8, k9, k10]
def interned : List (Array UInt16 × Addr) := []
def slotsUsed : Nat := 0
def theMethod : MethodId := ⟨1, 1⟩
def args0 : Array Value := #[.int 3, .int 6, .int 7, .int 9, .int 1]
def aboutOver (below : List Frame) : State where
  vm := { classes := classes, interned := interned.toArray }
  heap := heap
  slotsUsed := slotsUsed
  threads := #[{ frames := .invoking theMethod args0 :: below }]
def below0 : List Frame := [.native { method := ⟨0, 0⟩, args := #[] }]
def about1 : State := aboutOver below0
def p0 : Program := .bare "" "" ""
def e0 : Env := launch0.env 0 0 0
theorem w_frames : about1.frames = Frame.invoking theMethod args0 :: below0 := rfl
set_option maxRecDepth 65536 in
theorem w_args : argsFit about1.vm theMethod args0 = true := by decide +kernel
set_option maxRecDepth 65536 in
theorem w_heap : heapFits about1 = true := by decide +kernel
set_option maxRecDepth 65536 in
theorem w_runnable : about1.curStatus? = some .runnable := by decide +kernel
set_option maxRecDepth 65536 in
theorem w_alone : about1.alone = true := by decide +kernel
set_option maxRecDepth 65536 in
theorem w_named : about1.methodNamed? x = some theMethod := by decide +kernel
set_option maxRecDepth 65536 in
theorem w_hears : about1.hears theMethod below0 = true := by decide +kernel
set_option maxRecDepth 65536 in
theorem w_ripe : about1.ripe theMethod args0 below0 = true := by decide +kernel
theorem w_running : about1.status = .running := rfl
set_option maxRecDepth 65536 in
theorem w_room : about1.hasRoom e0.platform room_1 = true :=
  launch0.hasRoom_least _ room_1 (by decide +kernel) (by decide +kernel) (by decide +kernel) (by decide +kernel) (by decide +kernel) (by decide +kernel)
theorem allAtoms_all (ts : List Jvm.Cond) (a : Array Jvm.Value) (st : Jvm.State) : (allAtoms ts).before a st = ts.all (fun c => c.before a st) := by
  induction ts with
  | nil => rfl
  | cons c t ih =>
    show (Jvm.Cond.and c (allAtoms t)).before a st = _
    rw [Jvm.Cond.before_and, ih, List.all_cons]
def words1 : List Jvm.Cond := Jvm.Cond.code x code maxLocals ret :: tables_1
/-- a 'code' word, met by the world's own term for the bytes: nothing is compared byte by byte -/
theorem code_word {y : MethodName} {bytes : ByteArray} {mx : Nat} {rt : Option FieldType} {a : Array Value} {s : State} {m : MethodId} {meth : Method} {c : Code} (h1 : s.methodNamed? y = some m) (h2 : s.vm.method? m = some meth) (h3 : meth.code = some c) (h4 : c.code = bytes)
    (h5 : (c.maxLocals == mx && c.exceptionTable.isEmpty && decide (c.maxStack ≤ mostOperands) && decide (meth.sig.returnType = rt) && !meth.locks && decide (parseMethodDescriptor y.desc = some meth.sig)) = true) : (Jvm.Cond.code y bytes mx rt).before a s = true := by
  simp only [Bool.and_eq_true, beq_iff_eq, Bool.not_eq_true', decide_eq_true_eq] at h5
  obtain ⟨⟨⟨⟨⟨g1, g2⟩, g3⟩, g4⟩, g5⟩, g6⟩ := h5
  simp [Cond.before, Cond.holds, Cond.value, h1, h2, h3, h4, g1, g2, g3, g4, g5, g6]
def isCode : Jvm.Cond → Bool
  | .code _ _ _ _ => true
  | _ => false
theorem all_split {L : List Jvm.Cond} {P : Jvm.Cond → Bool} (h1 : L.all (fun c => isCode c || P c) = true) (h2 : ∀ c ∈ L.filter isCode, P c = true) : L.all P = true := by
  refine List.all_eq_true.mpr fun c hc => ?_
  have h := List.all_eq_true.mp h1 c hc
  rcases Bool.eq_false_or_eq_true (isCode c) with hi | hi
  · exact h2 c (List.mem_filter.mpr ⟨hc, hi⟩)
  · simpa [hi] using h
set_option maxRecDepth 65536 in
theorem w_c0 : (Jvm.Cond.code x code maxLocals ret).before args0 about1 = true := code_word (m := ⟨1, 1⟩) (meth := k1m1) (c := k1c1) (by decide +kernel) rfl rfl rfl (by decide +kernel)
set_option maxRecDepth 65536 in
theorem w_c1 : (Jvm.Cond.code ({ cls := "com/example/tightbits/tightbits/ReadableUnsignedIntSet", name := "indexByBounds", desc := "(ICCC)I" } : Jvm.MethodName) prog_28_method_42_code (4 : Nat) (Option.some Jvm.ClassFile.FieldType.int)).before args0 about1 = true := code_word (m := ⟨3, 1⟩) (meth := k3m1) (c := k3c1) (by decide +kernel) rfl rfl rfl (by decide +kernel)
set_option maxRecDepth 65536 in
theorem w_c2 : (Jvm.Cond.code ({ cls := "java/lang/Math", name := "max", desc := "(II)I" } : Jvm.MethodName) jdk_29_method_65_code (2 : Nat) (Option.some Jvm.ClassFile.FieldType.int)).before args0 about1 = true := code_word (m := ⟨4, 1⟩) (meth := k4m1) (c := k4c1) (by decide +kernel) rfl rfl rfl (by decide +kernel)
set_option maxRecDepth 65536 in
theorem w_c3 : (Jvm.Cond.code ({ cls := "java/lang/Math", name := "min", desc := "(II)I" } : Jvm.MethodName) jdk_29_method_69_code (2 : Nat) (Option.some Jvm.ClassFile.FieldType.int)).before args0 about1 = true := code_word (m := ⟨4, 2⟩) (meth := k4m2) (c := k4c2) (by decide +kernel) rfl rfl rfl (by decide +kernel)
def codes1 : List Jvm.Cond := [Jvm.Cond.code x code maxLocals ret, Jvm.Cond.code ({ cls := "com/example/tightbits/tightbits/ReadableUnsignedIntSet", name := "indexByBounds", desc := "(ICCC)I" } : Jvm.MethodName) prog_28_method_42_code (4 : Nat) (Option.some Jvm.ClassFile.FieldType.int), Jvm.Cond.code ({ cls := "java/lang/Math", name := "max", desc := "(II)I" } : Jvm.MethodName) jdk_29_method_65_code (2 : Nat) (Option.some Jvm.ClassFile.FieldType.int), Jvm.Cond.code ({ cls := "java/lang/Math", name := "min", desc := "(II)I" } : Jvm.MethodName) jdk_29_method_69_code (2 : Nat) (Option.some Jvm.ClassFile.FieldType.int)]
set_option maxRecDepth 65536 in
theorem codes_eq : words1.filter isCode = codes1 := rfl
theorem w_codes : ∀ c ∈ words1.filter isCode, c.before args0 about1 = true := by
  rw [codes_eq]
  intro c hc
  simp only [codes1, List.mem_cons, List.not_mem_nil, or_false] at hc
  rcases hc with rfl | rfl | rfl | rfl
  · exact w_c0
  · exact w_c1
  · exact w_c2
  · exact w_c3
set_option maxRecDepth 65536 in
theorem w_t1 : words1.all (fun c => isCode c || c.before args0 about1) = true := by decide +kernel
theorem w_tables : (allAtoms (Jvm.Cond.code x code maxLocals ret :: tables_1)).before args0 about1 = true := by
  rw [allAtoms_all]
  show words1.all (fun c => c.before args0 about1) = true
  refine all_split ?_ w_codes
  rw [w_t1]
set_option maxRecDepth 65536 in
theorem w_case : (Jvm.Cond.and given_1 narrow_1).before args0 about1 = true := by decide +kernel
theorem w_applies : (headSpec (Jvm.Cond.code x code maxLocals ret :: tables_1) room_1).applies x e0.platform about1 = true :=
  (Spec.applies_iff w_frames).mpr ⟨w_running, w_runnable, w_alone, w_named, w_hears, w_ripe, w_room, w_tables⟩
theorem atStart : AtStart classFile x code maxLocals ret World_1 tables_1 room_1 Calls_1 rest_1 Pre_1 launch0 p0 e0 about1 theMethod args0 below0 :=
  ⟨lists_1, trivial, launch0.admits_env _ _ _, launch0.least_env, fairChoices_fair.cas, fairChoices_fair.clock, w_frames, w_args, w_heap, w_applies, trivial, trivial, w_case⟩
end start1
theorem witness_1 : WitnessClaimed_1 := ⟨start1.p0, start1.e0, start1.about1, start1.theMethod, start1.args0, start1.below0, start1.atStart⟩
end Jvm.Pilot.@@N@@
