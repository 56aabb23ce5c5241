import JvmDerived
import JvmDerived.Pilot.@@N@@Statement
import JvmDerived.Pilot.@@N@@Code
set_option linter.unusedVariables false
set_option linter.unusedSimpArgs false
namespace Jvm.Pilot.@@N@@
open Jvm Jvm.ClassFile Sem Op Lib Jvm.Free Jvm.Stand Jvm.LawKit Jvm.RoadKit Bundle Jvm.Pilot.@@N@@.Jvm.D
/-- a body's contract by a walk whose goal is a predicate G: 'go' takes a step, 'fin' a return -/
theorem own_enter {l : Launch} {y : MethodName} {cd : ByteArray} {ml : Nat} {rt : Option FieldType} {ws : List Jvm.Cond} {R : Room} {Z : State} {h0 : Heap} {as : Array Value} {Q : Option Value → Heap → List Loc → Prop} (hpl : plainFor y = true)
    (body : ∀ (p : Program) (e : Env) (s : State) (m : MethodId) (below : List Frame) (meth : Method) (c : Code) (s₁ : State) (G : State → Prop),
      Stand p l e R s m as below meth c s₁ [] 0 0 → p.tables.exec = Jvm.exec → c.code = cd → c.maxLocals = ml → Z.Warmed39 s.vm → s.vm.findClass y.cls = some m.cls → meth.name = y.name → meth.sig.returnType = rt → s₁.heap = h0 →
      (∀ {a b : State}, (∀ t, Steps p.tables e below b t → Steps p.tables e below a t) → G b → G a) →
      (∀ {T : State} {locs : List Loc} {cells slots : Nat} {g : JFrame} (v : Option Value), Stand p l e R s m as below meth c T locs cells slots → (rt = none → v = none) →
        (∀ fs, (∀ (f : JFrame) (acts : List Action), f.method = m → f.locked = none → f.entered = [] → (doReturn e (T.setTop f) acts v).1 = T.setFrames fs) → Steps p.tables e below (T.setTop g) (T.setFrames fs)) →
        cells ≤ R.cells → slots ≤ R.slots → Q v T.heap locs → G (T.setTop g)) →
      G (s₁.setTop (entryFrame m as ml))) :
    MetFree l y (head1 (Jvm.Cond.code y cd ml rt :: ws) R) (fun a U => a = as ∧ Z.Warmed39 U.vm ∧ U.heap = h0) (fun _ _ _ _ _ => True) (fun _ U o U' => ∃ v L, o = .returned v ∧ Q v U'.heap L ∧ FrameEnd U o U' L R.cells R.slots) := by
  refine MetFree.of_bodySF hpl hisR ?_
  intro p e s m args below meth c s₁ Bd hml0 hP hK
  obtain ⟨rfl, hZ, hh⟩ := hP
  have hlk : meth.locks = false := Bd.notSynchronized
  have key := body p e s m below meth c s₁ (fun a => ∃ t, Steps p.tables e below a t ∧ ∃ o, t.status = .running ∧ Ended t below o ∧ ∃ v L, o = .returned v ∧ Q v t.heap L ∧ FrameEnd s o t L R.cells R.slots)
    (Stand.of_body Bd) Bd.exec Bd.bytes hml0 hZ (findClass_of_methodNamed Bd.named) (name_of_methodNamed Bd.named Bd.method).1 Bd.returns (by rw [← hh, Bd.state]; rfl)
    (fun h g => by obtain ⟨t, h1, h2⟩ := g; exact ⟨t, h t h1, h2⟩)
    (fun {T locs cells slots g} v X hv hs hc hsl hQ => by
      obtain ⟨fs, hr, hrun, hended, hW, hsame⟩ := X.leave (v := v) (fun h => hv (Bd.returns.symm.trans h)) hlk
      exact ⟨_, hs fs hr, _, hrun, hended, v, locs, rfl, hQ, ⟨_, rfl⟩, hW, hsame.mono hc hsl⟩)
  obtain ⟨t, h1, o, h2, h3, h4⟩ := key
  exact ⟨t, o, h1, h2, h3, h4⟩
theorem own_lrem {p : Program} {l : Launch} {e : Env} {R : Room} {s : State} {m : MethodId} {args : Array Value} {below : List Frame} {meth : Method} {c : Code} {T : State} {locs : List Loc} {cells slots : Nat} {g : JFrame} {target : State} (X : Stand p l e R s m args below meth c T locs cells slots) (hx : p.tables.exec = Jvm.exec) (hg : g.method = m) {x y : Int64} {rest : List Value} (hd : decode c.code g.pc = .ok (.lrem, 1)) (hs : g.stack = .long y :: .long x :: rest) (hy : y ≠ 0)
    (hr : Steps p.tables e below (T.setTop { g with pc := g.pc + 1, stack := .long (x % y) :: rest }) target) : Steps p.tables e below (T.setTop g) target := XS.lrem X.here hx hg hd hs hy (by rw [lrem_mod]; exact hr)
theorem own_irr (x : Int32) : ¬ x < x := Int32.lt_irrefl
theorem own_irrL (x : Int64) : ¬ x < x := Int64.lt_irrefl
theorem own_eq_int {a : Term} {k : Int32} {args : Array Value} {first s : State} {o : Option Outcome} {idx : List Nat} (h : (Jvm.Cond.eq a (.int k)).value args first o s idx = some true) : a.eval args first o idx s = some (.int k) := by
  obtain ⟨x, y, ha, hb, k1, k2⟩ := cmp_v (Or.inl h)
  cases (show some (Value.int k) = some y from hb)
  obtain ⟨z, rfl⟩ := k2
  have q : (Jvm.Cond.eq a (.int k)).value args first o s idx = some (decide (z = k)) := by simp [Cond.value, ha, Term.eval]
  rw [gotT q h] at ha
  exact ha
theorem own_eq_ref {a b : Term} {u : Addr} {args : Array Value} {first s : State} {o : Option Outcome} {idx : List Nat} (h : (Jvm.Cond.eq a b).value args first o s idx = some true) (hb : b.eval args first o idx s = some (.ref u)) : a.eval args first o idx s = some (.ref u) := by
  obtain ⟨x, y, ha, hb', k1, k2⟩ := cmp_v (Or.inl h)
  cases hb.symm.trans hb'
  have hr : x.isRef = true := by cases x <;> simp_all [Kin, Value.isRef]
  have q := gotT (eq_R ha hb hr rfl) h
  rw [q] at ha
  exact ha
theorem own_exa_ns {Z : State} {h : Heap} {a : Addr} {C : String} (F : Exa Z h a C) : ∀ cell : Cell, h[a]? = some cell → cell.vm.isStatics = false := fun cell hc => by
  obtain ⟨c, k, h1, -, -, h4, -⟩ := F
  cases hc.symm.trans h1
  exact h4
theorem own_sta_keep {Z : State} {h h' : Heap} {C n d : String} {v : Value} {ws : List Addr} (F : Sta Z h C n d v) (K : Keep h h' ws) (q : ∀ a ∈ ws, ∀ cell : Cell, h[a]? = some cell → cell.vm.isStatics = false) : Sta Z h' C n d v := by
  obtain ⟨cf, i, k, f, st, cell, h1, h2, h3, h4, h5, h6, h7⟩ := F
  exact ⟨cf, i, k, f, st, cell, h1, h2, h3, h4, K.2.1 _ _ h5 (fun z => by rw [q _ z _ h5] at h6; cases h6), h6, h7⟩
theorem own_len {s : State} {args : Array Value} {t : Term} {a : Addr} {cl : Cell} {ty : FieldType} {z : Int32} (ht : t.eval args s none [] s = some (.ref a)) (A : Arr s s.heap a cl ty) (h : (Term.length t).eval args s none [] s = some (.int z)) : cl.slots.size < 2 ^ 31 ∧ cl.slots.size.toInt32 = z := by
  have ha := Arr.fin (State.Warmed39.refl s).alike A
  by_cases hn : cl.slots.size < 2 ^ 31
  · have q := (len_f ht ha hn).symm.trans h
    exact ⟨hn, Value.int.inj (Option.some.inj q)⟩
  · simp [Term.eval, ht, ha] at h
    omega
theorem own_elem {s : State} {args : Array Value} {t : Term} {a : Addr} {cl : Cell} {ty : FieldType} {j : Int32} {v : Value} (ht : t.eval args s none [] s = some (.ref a)) (A : Arr s s.heap a cl ty) (h : (Term.elem t (.int j)).eval args s none [] s = some v) (hn : ¬ j < 0) : cl.slots[j.toNatClampNeg]? = some v :=
  (elem_f ht rfl (Arr.fin (State.Warmed39.refl s).alike A) hn).symm.trans h
theorem own_selp {Z s : State} {a0 args : Array Value} {y : MethodName} {n : Nat} (hZ : Z.Warmed39 s.vm) (wi : (Jvm.Cond.instantiable y.cls n).before a0 Z = true) (wp : (Jvm.Cond.privateMethod y).before a0 Z = true) (wm : (Jvm.Cond.instanceMethod y).before a0 Z = true) (hy : y.cls ≠ "java/lang/invoke/MethodHandle" ∧ y.cls ≠ "java/lang/invoke/VarHandle") : (Jvm.Cond.selects y.cls y y).before args s = true := by
  have wi' : (Jvm.Cond.instantiable y.cls n).before args s = true := mvT hZ wi
  obtain ⟨c, k, h1, h2, -, h4, -⟩ := Cond.instantiable_spec wi'
  exact selects_self_of_private h1 h2 (Bool.or_eq_false_iff.mp h4).1 (Cond.privateMethod_at (mvP hZ wp (args := args))) (mvT hZ wm) hy
def own_minL (a b : Int64) : Int64 := if b < a then b else a
def own_maxL (a b : Int64) : Int64 := if a < b then b else a
def own_max (a b : Int32) : Int32 := if a < b then b else a
def own_sx (x lim sh : Int32) : Int32 := if x < lim then x else ((x.toUInt32 >>> (sh &&& 31).toUInt32).toInt32)
def own_sn (x lim n d : Int32) : Int32 := if x < lim then n else (n + d)
def own_x1 (x : Int32) : Int32 := own_sx x (65536 : Int32) (16 : Int32)
def own_n1 (x : Int32) : Int32 := own_sn x (65536 : Int32) (31 : Int32) (-16 : Int32)
def own_x2 (x : Int32) : Int32 := own_sx (own_x1 x) (256 : Int32) (8 : Int32)
def own_n2 (x : Int32) : Int32 := own_sn (own_x1 x) (256 : Int32) (own_n1 x) (-8 : Int32)
def own_x3 (x : Int32) : Int32 := own_sx (own_x2 x) (16 : Int32) (4 : Int32)
def own_n3 (x : Int32) : Int32 := own_sn (own_x2 x) (16 : Int32) (own_n2 x) (-4 : Int32)
def own_x4 (x : Int32) : Int32 := own_sx (own_x3 x) (4 : Int32) (2 : Int32)
def own_n4 (x : Int32) : Int32 := own_sn (own_x3 x) (4 : Int32) (own_n3 x) (-2 : Int32)
def own_nlz (x : Int32) : Int32 := if (0 : Int32) < x then (own_n4 x - (((own_x4 x).toUInt32 >>> ((1 : Int32) &&& 31).toUInt32).toInt32)) else if x = (0 : Int32) then (32 : Int32) else (0 : Int32)
def own_hi32 (x : Int64) : Int32 := (((x.toUInt64 >>> ((32 : Int32) &&& 0x3f).toInt64.toUInt64).toInt64).toInt32)
def own_nlz64 (x : Int64) : Int32 := if (own_hi32 x) = (0 : Int32) then ((32 : Int32) + (own_nlz (x.toInt32))) else (own_nlz (own_hi32 x))
def own_shf (x : Int64) : Int32 := own_max (0 : Int32) (((64 : Int32) - (own_nlz64 x)) - (8 : Int32))
def own_ix (x : Int64) : Int32 := (((own_shf x) <<< ((7 : Int32) &&& 31)) + (((x.toUInt64 >>> ((own_shf x) &&& 0x3f).toInt64.toUInt64).toInt64).toInt32))
theorem own_stp (x n lim sh d : Int32) (K : Nat) (L : Int) (hk : sh.toBitVec.toNat % 32 = K) (hK : 0 < K) (hl : lim.toInt = L) (hx : 0 < x.toInt) : (x.toInt < L ∧ own_sx x lim sh = x ∧ own_sn x lim n d = n) ∨ (L ≤ x.toInt ∧ (own_sx x lim sh).toInt = x.toInt / (2 ^ K : Nat) ∧ own_sn x lim n d = n + d) := by
  by_cases h : x < lim
  · exact Or.inl ⟨by rw [Int32.lt_iff_toInt_lt] at h; omega, if_pos h, if_pos h⟩
  · refine Or.inr ⟨by rw [Int32.lt_iff_toInt_lt] at h; omega, ?_, if_neg h⟩
    have h1 := c_iushr x sh K hk hK
    have h2 := rng32 x
    have h3 : x.toInt % 4294967296 = x.toInt := by omega
    rw [h3] at h1
    exact (congrArg Int32.toInt (if_neg h)).trans h1
theorem own_half (x : Int32) (h : 0 ≤ x.toInt) : (((x.toUInt32 >>> ((1 : Int32) &&& 31).toUInt32).toInt32)).toInt = x.toInt / 2 := by
  have h1 := c_iushr x 1 1 (by decide) (by decide)
  have h2 := rng32 x
  omega
set_option maxHeartbeats 4000000 in
theorem own_nlz_spec {x : Int32} (h : 0 < x.toInt) : ∃ t : Nat, t ≤ 30 ∧ (own_nlz x).toInt = 31 - (t : Int) ∧ x.toInt < 2 ^ (t + 1) := by
  have r := rng32 x
  have hp : (0 : Int32) < x := by rw [Int32.lt_iff_toInt_lt]; exact h
  have e : own_nlz x = (own_n4 x - (((own_x4 x).toUInt32 >>> ((1 : Int32) &&& 31).toUInt32).toInt32)) := if_pos hp
  rw [e]
  have s1 := own_stp x 31 65536 16 (-16) 16 65536 (by decide) (by decide) (by decide) h
  have p1 : 0 < (own_x1 x).toInt := by show 0 < (own_sx x 65536 16).toInt; rcases s1 with ⟨a, b, c⟩ | ⟨a, b, c⟩ <;> rw [b] <;> omega
  have s2 := own_stp (own_x1 x) (own_n1 x) 256 8 (-8) 8 256 (by decide) (by decide) (by decide) p1
  have p2 : 0 < (own_x2 x).toInt := by show 0 < (own_sx (own_x1 x) 256 8).toInt; rcases s2 with ⟨a, b, c⟩ | ⟨a, b, c⟩ <;> rw [b] <;> omega
  have s3 := own_stp (own_x2 x) (own_n2 x) 16 4 (-4) 4 16 (by decide) (by decide) (by decide) p2
  have p3 : 0 < (own_x3 x).toInt := by show 0 < (own_sx (own_x2 x) 16 4).toInt; rcases s3 with ⟨a, b, c⟩ | ⟨a, b, c⟩ <;> rw [b] <;> omega
  have s4 := own_stp (own_x3 x) (own_n3 x) 4 2 (-2) 2 4 (by decide) (by decide) (by decide) p3
  have p4 : 0 < (own_x4 x).toInt := by show 0 < (own_sx (own_x3 x) 4 2).toInt; rcases s4 with ⟨a, b, c⟩ | ⟨a, b, c⟩ <;> rw [b] <;> omega
  have hh := own_half (own_x4 x) (by omega)
  have hs := c_isub (own_n4 x) (((own_x4 x).toUInt32 >>> ((1 : Int32) &&& 31).toUInt32).toInt32)
  have hr := rng32 (own_n4 x - (((own_x4 x).toUInt32 >>> ((1 : Int32) &&& 31).toUInt32).toInt32))
  change (_ ∧ own_x1 x = x ∧ own_n1 x = 31) ∨ (_ ∧ (own_x1 x).toInt = _ ∧ own_n1 x = 31 + -16) at s1
  change (_ ∧ own_x2 x = own_x1 x ∧ own_n2 x = own_n1 x) ∨ (_ ∧ (own_x2 x).toInt = _ ∧ own_n2 x = own_n1 x + -8) at s2
  change (_ ∧ own_x3 x = own_x2 x ∧ own_n3 x = own_n2 x) ∨ (_ ∧ (own_x3 x).toInt = _ ∧ own_n3 x = own_n2 x + -4) at s3
  change (_ ∧ own_x4 x = own_x3 x ∧ own_n4 x = own_n3 x) ∨ (_ ∧ (own_x4 x).toInt = _ ∧ own_n4 x = own_n3 x + -2) at s4
  generalize ((((own_x4 x).toUInt32 >>> ((1 : Int32) &&& 31).toUInt32).toInt32)) = hf at *
  rcases s1 with ⟨a1, b1, c1⟩ | ⟨a1, b1, c1⟩ <;> rcases s2 with ⟨a2, b2, c2⟩ | ⟨a2, b2, c2⟩ <;> rcases s3 with ⟨a3, b3, c3⟩ | ⟨a3, b3, c3⟩ <;> rcases s4 with ⟨a4, b4, c4⟩ | ⟨a4, b4, c4⟩
  · have cn : (own_n4 x).toInt = 31 := by rw [c4, c3, c2, c1]; decide
    have d1 : (own_x1 x).toInt = x.toInt := by rw [b1]
    have d2 : (own_x2 x).toInt = (own_x1 x).toInt := by rw [b2]
    have d3 : (own_x3 x).toInt = (own_x2 x).toInt := by rw [b3]
    have d4 : (own_x4 x).toInt = (own_x3 x).toInt := by rw [b4]
    clear b1 b2 b3 b4 c1 c2 c3 c4
    have e4 : (own_x4 x).toInt = x.toInt / 1 := by omega
    have u : (own_x4 x).toInt = 1 ∨ (own_x4 x).toInt = 2 ∨ (own_x4 x).toInt = 3 := by omega
    rcases u with u | u | u
    · exact ⟨0, by omega, by omega, by omega⟩
    · exact ⟨1, by omega, by omega, by omega⟩
    · exact ⟨1, by omega, by omega, by omega⟩
  · have cn : (own_n4 x).toInt = 29 := by rw [c4, c3, c2, c1]; decide
    have d1 : (own_x1 x).toInt = x.toInt := by rw [b1]
    have d2 : (own_x2 x).toInt = (own_x1 x).toInt := by rw [b2]
    have d3 : (own_x3 x).toInt = (own_x2 x).toInt := by rw [b3]
    have d4 := b4
    clear b1 b2 b3 b4 c1 c2 c3 c4
    have e4 : (own_x4 x).toInt = x.toInt / 4 := by omega
    have u : (own_x4 x).toInt = 1 ∨ (own_x4 x).toInt = 2 ∨ (own_x4 x).toInt = 3 := by omega
    rcases u with u | u | u
    · exact ⟨2, by omega, by omega, by omega⟩
    · exact ⟨3, by omega, by omega, by omega⟩
    · exact ⟨3, by omega, by omega, by omega⟩
  · have cn : (own_n4 x).toInt = 27 := by rw [c4, c3, c2, c1]; decide
    have d1 : (own_x1 x).toInt = x.toInt := by rw [b1]
    have d2 : (own_x2 x).toInt = (own_x1 x).toInt := by rw [b2]
    have d3 := b3
    have d4 : (own_x4 x).toInt = (own_x3 x).toInt := by rw [b4]
    clear b1 b2 b3 b4 c1 c2 c3 c4
    have e4 : (own_x4 x).toInt = x.toInt / 16 := by omega
    have u : (own_x4 x).toInt = 1 ∨ (own_x4 x).toInt = 2 ∨ (own_x4 x).toInt = 3 := by omega
    rcases u with u | u | u
    · exact ⟨4, by omega, by omega, by omega⟩
    · exact ⟨5, by omega, by omega, by omega⟩
    · exact ⟨5, by omega, by omega, by omega⟩
  · have cn : (own_n4 x).toInt = 25 := by rw [c4, c3, c2, c1]; decide
    have d1 : (own_x1 x).toInt = x.toInt := by rw [b1]
    have d2 : (own_x2 x).toInt = (own_x1 x).toInt := by rw [b2]
    have d3 := b3
    have d4 := b4
    clear b1 b2 b3 b4 c1 c2 c3 c4
    have e4 : (own_x4 x).toInt = x.toInt / 64 := by omega
    have u : (own_x4 x).toInt = 1 ∨ (own_x4 x).toInt = 2 ∨ (own_x4 x).toInt = 3 := by omega
    rcases u with u | u | u
    · exact ⟨6, by omega, by omega, by omega⟩
    · exact ⟨7, by omega, by omega, by omega⟩
    · exact ⟨7, by omega, by omega, by omega⟩
  · have cn : (own_n4 x).toInt = 23 := by rw [c4, c3, c2, c1]; decide
    have d1 : (own_x1 x).toInt = x.toInt := by rw [b1]
    have d2 := b2
    have d3 : (own_x3 x).toInt = (own_x2 x).toInt := by rw [b3]
    have d4 : (own_x4 x).toInt = (own_x3 x).toInt := by rw [b4]
    clear b1 b2 b3 b4 c1 c2 c3 c4
    have e4 : (own_x4 x).toInt = x.toInt / 256 := by omega
    have u : (own_x4 x).toInt = 1 ∨ (own_x4 x).toInt = 2 ∨ (own_x4 x).toInt = 3 := by omega
    rcases u with u | u | u
    · exact ⟨8, by omega, by omega, by omega⟩
    · exact ⟨9, by omega, by omega, by omega⟩
    · exact ⟨9, by omega, by omega, by omega⟩
  · have cn : (own_n4 x).toInt = 21 := by rw [c4, c3, c2, c1]; decide
    have d1 : (own_x1 x).toInt = x.toInt := by rw [b1]
    have d2 := b2
    have d3 : (own_x3 x).toInt = (own_x2 x).toInt := by rw [b3]
    have d4 := b4
    clear b1 b2 b3 b4 c1 c2 c3 c4
    have e4 : (own_x4 x).toInt = x.toInt / 1024 := by omega
    have u : (own_x4 x).toInt = 1 ∨ (own_x4 x).toInt = 2 ∨ (own_x4 x).toInt = 3 := by omega
    rcases u with u | u | u
    · exact ⟨10, by omega, by omega, by omega⟩
    · exact ⟨11, by omega, by omega, by omega⟩
    · exact ⟨11, by omega, by omega, by omega⟩
  · have cn : (own_n4 x).toInt = 19 := by rw [c4, c3, c2, c1]; decide
    have d1 : (own_x1 x).toInt = x.toInt := by rw [b1]
    have d2 := b2
    have d3 := b3
    have d4 : (own_x4 x).toInt = (own_x3 x).toInt := by rw [b4]
    clear b1 b2 b3 b4 c1 c2 c3 c4
    have e4 : (own_x4 x).toInt = x.toInt / 4096 := by omega
    have u : (own_x4 x).toInt = 1 ∨ (own_x4 x).toInt = 2 ∨ (own_x4 x).toInt = 3 := by omega
    rcases u with u | u | u
    · exact ⟨12, by omega, by omega, by omega⟩
    · exact ⟨13, by omega, by omega, by omega⟩
    · exact ⟨13, by omega, by omega, by omega⟩
  · have cn : (own_n4 x).toInt = 17 := by rw [c4, c3, c2, c1]; decide
    have d1 : (own_x1 x).toInt = x.toInt := by rw [b1]
    have d2 := b2
    have d3 := b3
    have d4 := b4
    clear b1 b2 b3 b4 c1 c2 c3 c4
    have e4 : (own_x4 x).toInt = x.toInt / 16384 := by omega
    have u : (own_x4 x).toInt = 1 ∨ (own_x4 x).toInt = 2 ∨ (own_x4 x).toInt = 3 := by omega
    rcases u with u | u | u
    · exact ⟨14, by omega, by omega, by omega⟩
    · exact ⟨15, by omega, by omega, by omega⟩
    · exact ⟨15, by omega, by omega, by omega⟩
  · have cn : (own_n4 x).toInt = 15 := by rw [c4, c3, c2, c1]; decide
    have d1 := b1
    have d2 : (own_x2 x).toInt = (own_x1 x).toInt := by rw [b2]
    have d3 : (own_x3 x).toInt = (own_x2 x).toInt := by rw [b3]
    have d4 : (own_x4 x).toInt = (own_x3 x).toInt := by rw [b4]
    clear b1 b2 b3 b4 c1 c2 c3 c4
    have e4 : (own_x4 x).toInt = x.toInt / 65536 := by omega
    have u : (own_x4 x).toInt = 1 ∨ (own_x4 x).toInt = 2 ∨ (own_x4 x).toInt = 3 := by omega
    rcases u with u | u | u
    · exact ⟨16, by omega, by omega, by omega⟩
    · exact ⟨17, by omega, by omega, by omega⟩
    · exact ⟨17, by omega, by omega, by omega⟩
  · have cn : (own_n4 x).toInt = 13 := by rw [c4, c3, c2, c1]; decide
    have d1 := b1
    have d2 : (own_x2 x).toInt = (own_x1 x).toInt := by rw [b2]
    have d3 : (own_x3 x).toInt = (own_x2 x).toInt := by rw [b3]
    have d4 := b4
    clear b1 b2 b3 b4 c1 c2 c3 c4
    have e4 : (own_x4 x).toInt = x.toInt / 262144 := by omega
    have u : (own_x4 x).toInt = 1 ∨ (own_x4 x).toInt = 2 ∨ (own_x4 x).toInt = 3 := by omega
    rcases u with u | u | u
    · exact ⟨18, by omega, by omega, by omega⟩
    · exact ⟨19, by omega, by omega, by omega⟩
    · exact ⟨19, by omega, by omega, by omega⟩
  · have cn : (own_n4 x).toInt = 11 := by rw [c4, c3, c2, c1]; decide
    have d1 := b1
    have d2 : (own_x2 x).toInt = (own_x1 x).toInt := by rw [b2]
    have d3 := b3
    have d4 : (own_x4 x).toInt = (own_x3 x).toInt := by rw [b4]
    clear b1 b2 b3 b4 c1 c2 c3 c4
    have e4 : (own_x4 x).toInt = x.toInt / 1048576 := by omega
    have u : (own_x4 x).toInt = 1 ∨ (own_x4 x).toInt = 2 ∨ (own_x4 x).toInt = 3 := by omega
    rcases u with u | u | u
    · exact ⟨20, by omega, by omega, by omega⟩
    · exact ⟨21, by omega, by omega, by omega⟩
    · exact ⟨21, by omega, by omega, by omega⟩
  · have cn : (own_n4 x).toInt = 9 := by rw [c4, c3, c2, c1]; decide
    have d1 := b1
    have d2 : (own_x2 x).toInt = (own_x1 x).toInt := by rw [b2]
    have d3 := b3
    have d4 := b4
    clear b1 b2 b3 b4 c1 c2 c3 c4
    have e4 : (own_x4 x).toInt = x.toInt / 4194304 := by omega
    have u : (own_x4 x).toInt = 1 ∨ (own_x4 x).toInt = 2 ∨ (own_x4 x).toInt = 3 := by omega
    rcases u with u | u | u
    · exact ⟨22, by omega, by omega, by omega⟩
    · exact ⟨23, by omega, by omega, by omega⟩
    · exact ⟨23, by omega, by omega, by omega⟩
  · have cn : (own_n4 x).toInt = 7 := by rw [c4, c3, c2, c1]; decide
    have d1 := b1
    have d2 := b2
    have d3 : (own_x3 x).toInt = (own_x2 x).toInt := by rw [b3]
    have d4 : (own_x4 x).toInt = (own_x3 x).toInt := by rw [b4]
    clear b1 b2 b3 b4 c1 c2 c3 c4
    have e4 : (own_x4 x).toInt = x.toInt / 16777216 := by omega
    have u : (own_x4 x).toInt = 1 ∨ (own_x4 x).toInt = 2 ∨ (own_x4 x).toInt = 3 := by omega
    rcases u with u | u | u
    · exact ⟨24, by omega, by omega, by omega⟩
    · exact ⟨25, by omega, by omega, by omega⟩
    · exact ⟨25, by omega, by omega, by omega⟩
  · have cn : (own_n4 x).toInt = 5 := by rw [c4, c3, c2, c1]; decide
    have d1 := b1
    have d2 := b2
    have d3 : (own_x3 x).toInt = (own_x2 x).toInt := by rw [b3]
    have d4 := b4
    clear b1 b2 b3 b4 c1 c2 c3 c4
    have e4 : (own_x4 x).toInt = x.toInt / 67108864 := by omega
    have u : (own_x4 x).toInt = 1 ∨ (own_x4 x).toInt = 2 ∨ (own_x4 x).toInt = 3 := by omega
    rcases u with u | u | u
    · exact ⟨26, by omega, by omega, by omega⟩
    · exact ⟨27, by omega, by omega, by omega⟩
    · exact ⟨27, by omega, by omega, by omega⟩
  · have cn : (own_n4 x).toInt = 3 := by rw [c4, c3, c2, c1]; decide
    have d1 := b1
    have d2 := b2
    have d3 := b3
    have d4 : (own_x4 x).toInt = (own_x3 x).toInt := by rw [b4]
    clear b1 b2 b3 b4 c1 c2 c3 c4
    have e4 : (own_x4 x).toInt = x.toInt / 268435456 := by omega
    have u : (own_x4 x).toInt = 1 ∨ (own_x4 x).toInt = 2 ∨ (own_x4 x).toInt = 3 := by omega
    rcases u with u | u | u
    · exact ⟨28, by omega, by omega, by omega⟩
    · exact ⟨29, by omega, by omega, by omega⟩
    · exact ⟨29, by omega, by omega, by omega⟩
  · have cn : (own_n4 x).toInt = 1 := by rw [c4, c3, c2, c1]; decide
    have d1 := b1
    have d2 := b2
    have d3 := b3
    have d4 := b4
    clear b1 b2 b3 b4 c1 c2 c3 c4
    have e4 : (own_x4 x).toInt = x.toInt / 1073741824 := by omega
    have u : (own_x4 x).toInt = 1 ∨ (own_x4 x).toInt = 2 ∨ (own_x4 x).toInt = 3 := by omega
    rcases u with u | u | u
    · exact ⟨30, by omega, by omega, by omega⟩
    · exfalso; omega
    · exfalso; omega
theorem own_hi32I {x : Int64} (h : 0 ≤ x.toInt) : (own_hi32 x).toInt = x.toInt / 4294967296 := by
  have h1 := c_lushr x 32 32 (by decide) (by decide)
  have h2 := c_l2i ((x.toUInt64 >>> ((32 : Int32) &&& 0x3f).toInt64.toUInt64).toInt64)
  have h3 := rng64 x
  have h4 := rng32 (own_hi32 x)
  unfold own_hi32 at *
  omega
theorem own_nlz64_spec {x : Int64} (h : 0 ≤ x.toInt) : ∃ t : Nat, t ≤ 63 ∧ (own_nlz64 x).toInt = 64 - (t : Int) ∧ x.toInt < 2 ^ t := by
  have r := rng64 x
  have hh := own_hi32I h
  have k0 : (0 : Int32).toInt = 0 := by decide
  have k32 : (32 : Int32).toInt = 32 := by decide
  unfold own_nlz64
  split
  · rename_i z
    have z' : (own_hi32 x).toInt = 0 := by rw [z]; exact k0
    have hl := c_l2i x
    have rl := rng32 x.toInt32
    have a := c_iadd 32 (own_nlz x.toInt32)
    have ra := rng32 ((32 : Int32) + own_nlz x.toInt32)
    by_cases q : 0 < x.toInt32.toInt
    · obtain ⟨t, t1, t2, t3⟩ := own_nlz_spec q
      refine ⟨t + 1, by omega, by omega, ?_⟩
      have : x.toInt32.toInt = x.toInt := by omega
      rw [← this]; exact t3
    · by_cases q0 : x.toInt32 = (0 : Int32)
      · have e : own_nlz x.toInt32 = (32 : Int32) := by rw [q0]; decide
        rw [e] at a ra ⊢
        have q1 : x.toInt32.toInt = 0 := by rw [q0]; exact k0
        exact ⟨0, by omega, by omega, by omega⟩
      · have e : own_nlz x.toInt32 = (0 : Int32) := by
          unfold own_nlz
          rw [if_neg (by rw [Int32.lt_iff_toInt_lt]; omega), if_neg q0]
        rw [e] at a ra ⊢
        exact ⟨32, by omega, by omega, by omega⟩
  · rename_i z
    have z' : (own_hi32 x).toInt ≠ 0 := fun w => z (Int32.toInt_inj.mp (w.trans k0.symm))
    obtain ⟨t, t1, t2, t3⟩ := own_nlz_spec (x := own_hi32 x) (by omega)
    refine ⟨t + 33, by omega, by omega, ?_⟩
    have e : (2 : Int) ^ (t + 33) = 2 ^ (t + 1) * 4294967296 := by rw [show t + 33 = (t + 1) + 32 by omega, Int.pow_add]; rfl
    rw [e]
    generalize (2 : Int) ^ (t + 1) = w at *
    omega
theorem own_shf_spec {x : Int64} (h : 0 ≤ x.toInt) : 0 ≤ (own_shf x).toInt ∧ (own_shf x).toInt ≤ 55 ∧ x.toInt < 256 * 2 ^ (own_shf x).toInt.toNat := by
  obtain ⟨t, t1, t2, t3⟩ := own_nlz64_spec h
  have a1 := c_isub 64 (own_nlz64 x)
  have a2 := c_isub ((64 : Int32) - own_nlz64 x) 8
  have r1 := rng32 ((64 : Int32) - own_nlz64 x)
  have r2 := rng32 (((64 : Int32) - own_nlz64 x) - 8)
  have k64 : (64 : Int32).toInt = 64 := by decide
  have k8 : (8 : Int32).toInt = 8 := by decide
  have k0 : (0 : Int32).toInt = 0 := by decide
  have e : (((64 : Int32) - own_nlz64 x) - (8 : Int32)).toInt = (t : Int) - 8 := by omega
  unfold own_shf own_max
  split
  · rename_i z
    rw [Int32.lt_iff_toInt_lt] at z
    refine ⟨by omega, by omega, ?_⟩
    rw [e]
    have e2 : ((t : Int) - 8).toNat = t - 8 := by omega
    rw [e2]
    have e3 : (2 : Int) ^ t = 256 * 2 ^ (t - 8) := by rw [show t = 8 + (t - 8) by omega, Int.pow_add]; simp
    rw [← e3]; exact t3
  · rename_i z
    rw [Int32.lt_iff_toInt_lt] at z
    refine ⟨by omega, by omega, ?_⟩
    rw [k0]
    have : (2 : Int) ^ t ≤ 2 ^ 8 := by
      have hle : t ≤ 8 := by omega
      exact_mod_cast Nat.pow_le_pow_right (by decide) hle
    have e4 : (256 : Int) * 2 ^ (0 : Int).toNat = 256 := by decide
    rw [e4]
    have e5 : (2 : Int) ^ 8 = 256 := by decide
    omega
theorem own_shr (x : Int64) (q : Int32) (h : 0 ≤ x.toInt) (q0 : 0 ≤ q.toInt) (q1 : q.toInt ≤ 55) : (((x.toUInt64 >>> (q &&& 0x3f).toInt64.toUInt64).toInt64)).toInt = x.toInt / (2 ^ q.toInt.toNat : Nat) := by
  have r := rng64 x
  have e : x.toInt % 18446744073709551616 = x.toInt := by omega
  by_cases z : q = 0
  · subst z
    have e1 : (((0 : Int32) &&& 0x3f).toInt64.toUInt64) = 0 := by decide
    have e2 : (0 : Int32).toInt.toNat = 0 := by decide
    rw [e1, e2]
    simp
  · have qn : q.toInt ≠ 0 := fun w => z (Int32.toInt_inj.mp w)
    have hb : q.toBitVec.toNat = q.toInt.toNat := by
      have := q.toBitVec.toInt_eq_toNat_bmod
      have h2 : q.toInt = q.toBitVec.toInt := rfl
      have h3 := q.toBitVec.isLt
      rw [h2] at q0 q1 ⊢
      rw [BitVec.toInt_eq_toNat_cond] at q0 q1 ⊢
      split at q0 <;> split at q1 <;> split <;> omega
    have h1 := c_lushr x q q.toInt.toNat (by omega) (by omega)
    rw [e] at h1
    exact h1
theorem own_ix_ok {x : Int64} (h : 0 ≤ x.toInt) : 0 ≤ (own_ix x).toInt ∧ (own_ix x).toInt < 7296 := by
  obtain ⟨s0, s1, s2⟩ := own_shf_spec h
  have hs := own_shr x (own_shf x) h s0 s1
  have hl := c_l2i ((x.toUInt64 >>> ((own_shf x) &&& 0x3f).toInt64.toUInt64).toInt64)
  have rl := rng32 (((x.toUInt64 >>> ((own_shf x) &&& 0x3f).toInt64.toUInt64).toInt64).toInt32)
  have hd : x.toInt / (2 ^ (own_shf x).toInt.toNat : Nat) < 256 := by
    apply Int.ediv_lt_of_lt_mul (by exact_mod_cast Nat.two_pow_pos _)
    push_cast
    exact s2
  have hd0 : 0 ≤ x.toInt / (2 ^ (own_shf x).toInt.toNat : Nat) := Int.ediv_nonneg h (by exact_mod_cast Nat.zero_le _)
  have hh := c_ishl (own_shf x) 7 7 (by decide)
  have rh := rng32 ((own_shf x) <<< ((7 : Int32) &&& 31))
  have ha := c_iadd ((own_shf x) <<< ((7 : Int32) &&& 31)) (((x.toUInt64 >>> ((own_shf x) &&& 0x3f).toInt64.toUInt64).toInt64).toInt32)
  have ra := rng32 (own_ix x)
  unfold own_ix at *
  generalize x.toInt / (2 ^ (own_shf x).toInt.toNat : Nat) = w at *
  generalize ((own_shf x) <<< ((7 : Int32) &&& 31)) = a at *
  generalize ((x.toUInt64 >>> ((own_shf x) &&& 0x3f).toInt64.toUInt64).toInt64) = b at *
  omega
/-- an index that lies in an array of 7296 places -/
def own_ok (j : Int32) : Prop := ¬ j < 0 ∧ j.toNatClampNeg < 7296
theorem own_ok_of {j : Int32} (h : 0 ≤ j.toInt ∧ j.toInt < 7296) : own_ok j := by
  have k0 : (0 : Int32).toInt = 0 := by decide
  refine ⟨by rw [Int32.lt_iff_toInt_lt]; omega, ?_⟩
  show j.toInt.toNat < 7296
  omega
theorem own_nat {i : Nat} (h : i < 7297) : (Int32.ofNat i).toInt = i := Int32.toInt_ofNat_small (by omega)
theorem own_natN {i : Nat} (h : i < 7297) : (Int32.ofNat i).toNatClampNeg = i := by
  show (Int32.ofNat i).toInt.toNat = i
  rw [own_nat h]; rfl
theorem own_ok_nat {i : Nat} (h : i < 7296) : own_ok (Int32.ofNat i) := own_ok_of (by rw [own_nat (by omega)]; omega)
theorem own_lt_nat {i : Nat} (h : i < 7297) : (Int32.ofNat i) < (7296 : Int32) ↔ i < 7296 := by
  rw [Int32.lt_iff_toInt_lt, own_nat h, show (7296 : Int32).toInt = 7296 by decide]; omega
theorem own_inc {i : Nat} (h : i < 7296) : (Int32.ofNat i + (1 : Int32)) = Int32.ofNat (i + 1) := by
  have a := c_iadd (Int32.ofNat i) 1
  have r := rng32 (Int32.ofNat i + 1)
  have k1 : (1 : Int32).toInt = 1 := by decide
  rw [own_nat (by omega)] at a
  apply Int32.toInt_inj.mp
  rw [own_nat (by omega)]
  push_cast
  omega
/-- the array at a has 7296 longs: f -/
def own_Al (Z : State) (h : Heap) (a : Addr) (f : Nat → Int64) : Prop := ∃ c : Cell, Arr Z h a c .long ∧ c.slots.size = 7296 ∧ ∀ j, j < 7296 → c.slots[j]? = some (.long (f j))
def own_up (f : Nat → Int64) (k : Nat) (v : Int64) : Nat → Int64 := fun i => if i = k then v else f i
section own_arrays
variable {Z : State} {h h' : Heap} {a b : Addr} {f : Nat → Int64} {ws : List Addr} {sl : Nat} {v : Value}
theorem own_Al.lt (F : own_Al Z h a f) : a < h.size := by obtain ⟨c, A, -⟩ := F; exact A.lt
theorem own_Al.ext (F : own_Al Z h a f) (E : Ext h h') : own_Al Z h' a f := by obtain ⟨c, A, r⟩ := F; exact ⟨c, A.ext E, r⟩
theorem own_Al.other (F : own_Al Z h b f) (W : Wr h h' a sl v) (q : b ≠ a) : own_Al Z h' b f := by obtain ⟨c, A, r⟩ := F; exact ⟨c, A.other W q, r⟩
theorem own_Al.keep (F : own_Al Z h a f) (K : Keep h h' ws) (q : a ∉ ws) : own_Al Z h' a f := by obtain ⟨c, A, r⟩ := F; exact ⟨c, ⟨K.2.1 a c A.1 q, A.2⟩, r⟩
theorem own_Al.like {g : Nat → Int64} (F : own_Al Z h a f) (e : ∀ i, i < 7296 → f i = g i) : own_Al Z h a g := by obtain ⟨c, A, S, H⟩ := F; exact ⟨c, A, S, fun j hj => by rw [← e j hj]; exact H j hj⟩
theorem own_Al.ne {C : String} {a0 : Array Value} {k : Nat} (F : Exa Z h b C) (wi : (Jvm.Cond.instantiable C k).before a0 Z = true) (G : own_Al Z h a f) : b ≠ a := by obtain ⟨c, A, -⟩ := G; exact ne_arr F wi A
theorem own_in {c : Cell} {j : Int32} (S : c.slots.size = 7296) (q : own_ok j) : ¬ (j < 0 ∨ c.slots.size ≤ j.toNatClampNeg) := by
  intro w; rcases w with w | w
  · exact q.1 w
  · have := q.2; omega
theorem own_set {c : Cell} {k : Nat} {x : Int64} (A : Arr Z h a c .long) (S : c.slots.size = 7296) (H : ∀ j, j < 7296 → c.slots[j]? = some (.long (f j))) (hk : k < 7296) (W : Wr h h' a k (.long x)) : own_Al Z h' a (own_up f k x) := by
  refine ⟨_, A.same W, by rw [sz_set]; exact S, fun j hj => ?_⟩
  simp only [Cell.setSlot, Array.getElem?_setIfInBounds, own_up]
  by_cases q : k = j
  · subst q; simp [S, hk]
  · rw [if_neg q, if_neg (fun w : j = k => q w.symm)]
    exact H j hj
theorem own_new {k : ClassId} (F : Arv Z h a k .long (7296 : Int32) [] (.long (0 : Int64))) : own_Al Z h a (fun _ => 0) := by
  obtain ⟨c, A, -, S, -, H, -⟩ := F
  have e : (7296 : Int32).toNatClampNeg = 7296 := by decide
  rw [e] at S
  exact ⟨c, A, S, fun j hj => H j (by rw [S]; exact hj)⟩
end own_arrays
def own_pre (f : Nat → Int64) : Nat → Int64
  | 0 => 0
  | k + 1 => (own_pre f k + f k)
def own_rank (t : Int64) (p : Int32) : Int64 := (((t / (100 : Int64)) * (p.toInt64)) + ((((t % (100 : Int64)) * (p.toInt64)) + (99 : Int64)) / (100 : Int64)))
def own_hsh (i : Int32) : Int32 := own_max (0 : Int32) ((i >>> ((7 : Int32) &&& 31)) - (1 : Int32))
def own_hlo (i : Int32) : Int64 := ((i.toInt64) - (((own_hsh i).toInt64) <<< ((7 : Int32) &&& 0x3f).toInt64))
def own_high (i : Int32) : Int64 := (((own_hlo i + (1 : Int64)) <<< ((own_hsh i) &&& 0x3f).toInt64) - (1 : Int64))
def own_z : Nat → Int64 := fun _ => 0
def own_rec (f : Nat → Int64) (x : Int64) : Nat → Int64 := own_up f (own_ix x).toNatClampNeg (f (own_ix x).toNatClampNeg + (1 : Int64))
theorem own_mask (x : Int64) {z : Int64} (hz : z = (x &&& (9223372036854775807 : Int64))) : 0 ≤ z.toInt := by
  have h := c_maskL x 9223372036854775807 63 (by decide) (by decide)
  rw [← hz] at h
  rw [h]
  exact Int.emod_nonneg _ (by decide)
theorem own_nn {z : Int64} (h : 0 ≤ z.toInt) : ¬ z < (0 : Int64) := by
  have k0 : (0 : Int64).toInt = 0 := by decide
  rw [Int64.lt_iff_toInt_lt]; omega
theorem own_pc (x : Int32) {q : Int32} (hq : q = (((x &&& (2147483647 : Int32)) % (100 : Int32)) + (1 : Int32))) : 1 ≤ q.toInt ∧ q.toInt ≤ 100 := by
  have h1 := c_and x 2147483647 (by decide)
  have h2 := (c_irem (x &&& (2147483647 : Int32)) 100 100 (by decide)).1 h1.1
  have h3 := c_iadd ((x &&& (2147483647 : Int32)) % (100 : Int32)) 1
  have h4 := rng32 q
  have h5 : (1 : Int32).toInt = 1 := by decide
  rw [← hq] at h3
  omega
theorem own_p1 {q : Int32} (h : 1 ≤ q.toInt ∧ q.toInt ≤ 100) : (¬ q < (1 : Int32)) ∧ ¬ (100 : Int32) < q := by
  have h5 : (1 : Int32).toInt = 1 := by decide
  have h6 : (100 : Int32).toInt = 100 := by decide
  rw [Int32.lt_iff_toInt_lt, Int32.lt_iff_toInt_lt]; omega
/-- the rank: one of one; one or two of two -/
theorem own_rank1 {q : Int32} (h : 1 ≤ q.toInt ∧ q.toInt ≤ 100) : own_rank 1 q = 1 := by
  have e1 : ((1 : Int64) / (100 : Int64)) = 0 := by decide
  have e2 : ((1 : Int64) % (100 : Int64)) = 1 := by decide
  have c := c_i2l q
  have a := c_ladd ((1 : Int64) * q.toInt64) 99
  have m := c_lmul 1 q.toInt64
  rw [show (1 : Int64).toInt = 1 by decide, Int.one_mul] at m
  have r1 := rng64 ((1 : Int64) * q.toInt64)
  have r2 := rng64 (((1 : Int64) * q.toInt64) + 99)
  have k1 : (1 : Int64).toInt = 1 := by decide
  have k99 : (99 : Int64).toInt = 99 := by decide
  have d := (c_ldiv (((1 : Int64) * q.toInt64) + 99) 100 100 (by decide) (by decide)).1 (by omega)
  have m0 := c_lmul 0 q.toInt64
  rw [show (0 : Int64).toInt = 0 by decide, Int.zero_mul] at m0
  have r0 := rng64 ((0 : Int64) * q.toInt64)
  have k0 : (0 : Int64).toInt = 0 := by decide
  have b := c_ladd ((0 : Int64) * q.toInt64) ((((1 : Int64) * q.toInt64) + 99) / 100)
  have rb := rng64 (((0 : Int64) * q.toInt64) + ((((1 : Int64) * q.toInt64) + 99) / 100))
  unfold own_rank
  rw [e1, e2]
  apply Int64.toInt_inj.mp
  rw [k1]
  omega
theorem own_rank2 {q : Int32} (h : 1 ≤ q.toInt ∧ q.toInt ≤ 100) : (own_rank 2 q).toInt ≤ 2 := by
  have e1 : ((2 : Int64) / (100 : Int64)) = 0 := by decide
  have e2 : ((2 : Int64) % (100 : Int64)) = 2 := by decide
  have c := c_i2l q
  have a := c_ladd ((2 : Int64) * q.toInt64) 99
  have m := c_lmul 2 q.toInt64
  rw [show (2 : Int64).toInt = 2 by decide] at m
  have r1 := rng64 ((2 : Int64) * q.toInt64)
  have r2 := rng64 (((2 : Int64) * q.toInt64) + 99)
  have k2 : (2 : Int64).toInt = 2 := by decide
  have k99 : (99 : Int64).toInt = 99 := by decide
  have d := (c_ldiv (((2 : Int64) * q.toInt64) + 99) 100 100 (by decide) (by decide)).1 (by omega)
  have m0 := c_lmul 0 q.toInt64
  rw [show (0 : Int64).toInt = 0 by decide, Int.zero_mul] at m0
  have r0 := rng64 ((0 : Int64) * q.toInt64)
  have k0 : (0 : Int64).toInt = 0 := by decide
  have b := c_ladd ((0 : Int64) * q.toInt64) ((((2 : Int64) * q.toInt64) + 99) / 100)
  have rb := rng64 (((0 : Int64) * q.toInt64) + ((((2 : Int64) * q.toInt64) + 99) / 100))
  unfold own_rank
  rw [e1, e2]
  omega
def own_add (f g : Nat → Int64) : Nat → Int64 := fun j => (f j + g j)
theorem own_addz (f : Nat → Int64) : own_add f own_z = f := funext fun j => Int64.add_zero _
theorem own_zadd (f : Nat → Int64) : own_add own_z f = f := funext fun j => Int64.zero_add _
theorem own_addr (f : Nat → Int64) (y : Int64) : own_add f (own_rec own_z y) = own_rec f y := funext fun j => by
  show f j + (if j = _ then _ else _) = if j = _ then _ else _
  split
  · rename_i q; subst q; show _ + ((0 : Int64) + 1) = _; rw [Int64.zero_add]
  · exact Int64.add_zero _
theorem own_pre_z : ∀ k, own_pre own_z k = 0
  | 0 => rfl
  | k + 1 => by show own_pre own_z k + 0 = 0; rw [own_pre_z k]; rfl
theorem own_pre_rec (f : Nat → Int64) (x : Int64) : ∀ k, own_pre (own_rec f x) k = own_pre f k + (if (own_ix x).toNatClampNeg < k then (1 : Int64) else 0)
  | 0 => by simp [own_pre]
  | k + 1 => by
    show own_pre (own_rec f x) k + (if k = (own_ix x).toNatClampNeg then f (own_ix x).toNatClampNeg + 1 else f k) = own_pre f k + f k + _
    rw [own_pre_rec f x k]
    by_cases q : k = (own_ix x).toNatClampNeg
    · subst q
      simp only [Nat.lt_irrefl, if_false, if_true, Nat.lt_succ_self, Int64.add_zero, Int64.add_assoc]
    · by_cases r : (own_ix x).toNatClampNeg < k
      · have r' : (own_ix x).toNatClampNeg < k + 1 := by omega
        simp only [q, r, r', if_true, if_false]
        rw [Int64.add_assoc, Int64.add_assoc, Int64.add_comm 1 (f k)]
      · have r' : ¬ (own_ix x).toNatClampNeg < k + 1 := by omega
        simp only [q, r, r', if_false, Int64.add_zero]
theorem own_stop1 {x : Int64} {q : Int32} (hx : 0 ≤ x.toInt) (h : 1 ≤ q.toInt ∧ q.toInt ≤ 100) : ¬ own_pre (own_rec own_z x) (7295 + 1) < own_rank 1 q := by
  have o := (own_ok_of (own_ix_ok hx)).2
  rw [own_pre_rec, own_pre_z, if_pos o, own_rank1 h]
  decide
theorem own_stop2 {x y : Int64} {q : Int32} (hx : 0 ≤ x.toInt) (hy : 0 ≤ y.toInt) (h : 1 ≤ q.toInt ∧ q.toInt ≤ 100) : ¬ own_pre (own_rec (own_rec own_z x) y) (7295 + 1) < own_rank 2 q := by
  have o := (own_ok_of (own_ix_ok hx)).2
  have o' := (own_ok_of (own_ix_ok hy)).2
  rw [own_pre_rec, own_pre_rec, own_pre_z, if_pos o, if_pos o', Int64.lt_iff_toInt_lt]
  have e : ((0 : Int64) + 1 + 1).toInt = 2 := by decide
  have := own_rank2 h
  omega
theorem own_max0 {x : Int64} (h : 0 ≤ x.toInt) : own_maxL (0 : Int64) x = x := by
  have k0 : (0 : Int64).toInt = 0 := by decide
  unfold own_maxL
  split
  · rfl
  · rename_i z; rw [Int64.lt_iff_toInt_lt] at z; exact Int64.toInt_inj.mp (by omega)
theorem own_maxz {x : Int64} (h : 0 ≤ x.toInt) : own_maxL x (0 : Int64) = x := by
  have k0 : (0 : Int64).toInt = 0 := by decide
  unfold own_maxL
  split
  · rename_i z; rw [Int64.lt_iff_toInt_lt] at z; exact Int64.toInt_inj.mp (by omega)
  · rfl
theorem own_uniq {f : Nat → Int64} {r : Int64} {i j : Nat} (hi : ∀ k, k < i → own_pre f (k + 1) < r) (ni : ¬ own_pre f (i + 1) < r) (hj : ∀ k, k < j → own_pre f (k + 1) < r) (nj : ¬ own_pre f (j + 1) < r) : i = j := by
  rcases Nat.lt_trichotomy i j with q | q | q
  · exact absurd (hj i q) ni
  · exact q
  · exact absurd (hi j q) nj
/-- the array when i of its places are summed -/
def own_part (fa fb : Nat → Int64) (i : Nat) : Nat → Int64 := fun j => if j < i then (fa j + fb j) else fa j
theorem own_part0 (fa fb : Nat → Int64) : own_part fa fb 0 = fa := funext fun j => rfl
theorem own_part1 (fa fb : Nat → Int64) (i : Nat) : own_part fa fb i i = fa i := if_neg (Nat.lt_irrefl i)
theorem own_partS (fa fb : Nat → Int64) (i : Nat) : own_up (own_part fa fb i) i (fa i + fb i) = own_part fa fb (i + 1) := funext fun j => by
  show (if j = i then _ else if j < i then _ else _) = if j < i + 1 then _ else _
  by_cases q : j = i
  · subst q; simp
  · by_cases r : j < i
    · have r' : j < i + 1 := by omega
      simp only [q, r, r', if_true, if_false]
    · have r' : ¬ j < i + 1 := by omega
      simp only [q, r, r', if_false]
theorem own_partN {Z : State} {h : Heap} {a : Addr} {fa fb : Nat → Int64} (F : own_Al Z h a (own_part fa fb 7296)) : own_Al Z h a (own_add fa fb) := F.like fun i hi => if_pos hi

theorem ef_4 (m : MethodId) (x0 : Int64) (x1 : Int64) : entryFrame m #[(.long x0), (.long x1)] 4 = mkF m 0 #[.val (.long x0), .second, .val (.long x1), .second] [] := by first | (simp [entryFrame, mkF, argsToLocals, Value.category]; done) | rfl
theorem d4_0 : decode jdk_29_method_66_code 0 = .ok (.lload_n 0, 1) := by decide +kernel
theorem d4_1 : decode jdk_29_method_66_code 1 = .ok (.lload_n 2, 1) := by decide +kernel
theorem d4_2 : decode jdk_29_method_66_code 2 = .ok (.lcmp, 1) := by decide +kernel
theorem d4_3 : decode jdk_29_method_66_code 3 = .ok (.ifCond .lt 7, 3) := by decide +kernel
theorem d4_10 : decode jdk_29_method_66_code 10 = .ok (.lload_n 2, 1) := by decide +kernel
theorem d4_11 : decode jdk_29_method_66_code 11 = .ok (.lreturn, 1) := by decide +kernel
theorem d4_6 : decode jdk_29_method_66_code 6 = .ok (.lload_n 0, 1) := by decide +kernel
theorem d4_7 : decode jdk_29_method_66_code 7 = .ok (.goto 4, 3) := by decide +kernel
def Q_rm_maxL (Z : State) (xa : Int64) (xb : Int64) (h0 : Heap) (n0 : Nat) (v : Option Value) (h : Heap) (L : List Loc) : Prop := v = some (.long (own_maxL xa xb)) ∧ Fr n0 L ∧ h = h0
set_option maxRecDepth 65536 in
set_option maxHeartbeats 40000000 in
theorem rm_maxL (l : Launch) (Z : State) (a0 : Array Value) (hw : ∀ d ∈ tables_1, d.before a0 Z = true) (ws : List Jvm.Cond) (xa : Int64) (xb : Int64) (h0 : Heap) (n0 : Nat) (Z0 : n0 ≤ h0.size) :
    MetFree l (⟨"java/lang/Math", "max", "(JJ)J"⟩ : MethodName) (head1 (Jvm.Cond.code (⟨"java/lang/Math", "max", "(JJ)J"⟩ : MethodName) jdk_29_method_66_code 4 (some .long) :: ws) ({ frames := 0, cells := 0, slots := 0, locals := 0 } : Room)) (fun a U => a = #[(.long xa), (.long xb)] ∧ Z.Warmed39 U.vm ∧ U.heap = h0) (fun _ _ _ _ _ => True) (fun _ U o U' => ∃ v L, o = .returned v ∧ Q_rm_maxL Z xa xb h0 n0 v U'.heap L ∧ FrameEnd U o U' L ({ frames := 0, cells := 0, slots := 0, locals := 0 } : Room).cells ({ frames := 0, cells := 0, slots := 0, locals := 0 } : Room).slots) := by
  refine own_enter (Q := Q_rm_maxL Z xa xb h0 n0) (Jvm.Free.JP.mathPlain rfl (by decide +kernel)) ?_
  intro p e s m below meth c s₁ G X0 hx hby hml hZ hown hnm hret e0 go fin
  replace hown : s.vm.findClass "java/lang/Math" = some m.cls := hown
  replace hnm : meth.name = "max" := hnm
  replace hml : c.maxLocals = 4 := hml
  rw [ef_4 m xa xb]
  have N0 := Fr.nil n0
  show G (s₁.setTop (mkF m 0 #[.val (.long xa), .second, .val (.long xb), .second] []))
  refine go (fun tg kg => XS.lloadN X0.here hx rfl (hb hby d4_0) rfl kg) ?_
  show G (s₁.setTop (mkF m 1 #[.val (.long xa), .second, .val (.long xb), .second] [(.long xa)]))
  refine go (fun tg kg => XS.lloadN X0.here hx rfl (hb hby d4_1) rfl kg) ?_
  show G (s₁.setTop (mkF m 2 #[.val (.long xa), .second, .val (.long xb), .second] [(.long xb), (.long xa)]))
  refine go (fun tg kg => XS.lcmp X0.here hx rfl (hb hby d4_2) rfl kg) ?_
  show G (s₁.setTop (mkF m 3 #[.val (.long xa), .second, .val (.long xb), .second] [(.int (lcmpW xa xb))]))
  by_cases hc1 : xa < xb
  · refine go (fun tg kg => XS.ifYes X0.here hx rfl (pc0 := 3) (pc' := 10) rfl (hb hby d4_3) rfl ((if0 _ _).trans (tlt ((lw_lt xa xb).mpr hc1)).1) (by decide) (by decide) kg) ?_
    show G (s₁.setTop (mkF m 10 #[.val (.long xa), .second, .val (.long xb), .second] []))
    refine go (fun tg kg => XS.lloadN X0.here hx rfl (hb hby d4_10) rfl kg) ?_
    show G (s₁.setTop (mkF m 11 #[.val (.long xa), .second, .val (.long xb), .second] [(.long xb)]))
    refine fin (some (.long xb)) X0 (fun h => absurd h (by decide)) (fun fs hr => retOut X0 hx hret rfl (Or.inr (Or.inl ⟨rfl, rfl, _, rfl⟩)) (hb hby d4_11) hr) (by decide) (by decide) ?_
    rw [e0]
    exact ⟨by simp only [own_maxL, if_pos hc1], N0, rfl⟩
  · refine go (fun tg kg => XS.ifNo X0.here hx rfl (hb hby d4_3) rfl ((if0 _ _).trans (flt (mt (lw_lt xa xb).mp hc1)).1) kg) ?_
    show G (s₁.setTop (mkF m 6 #[.val (.long xa), .second, .val (.long xb), .second] []))
    refine go (fun tg kg => XS.lloadN X0.here hx rfl (hb hby d4_6) rfl kg) ?_
    show G (s₁.setTop (mkF m 7 #[.val (.long xa), .second, .val (.long xb), .second] [(.long xa)]))
    refine go (fun tg kg => XS.goto X0.here hx rfl (pc0 := 7) (pc' := 11) rfl (hb hby d4_7) (by decide) (by decide) kg) ?_
    show G (s₁.setTop (mkF m 11 #[.val (.long xa), .second, .val (.long xb), .second] [(.long xa)]))
    refine fin (some (.long xa)) X0 (fun h => absurd h (by decide)) (fun fs hr => retOut X0 hx hret rfl (Or.inr (Or.inl ⟨rfl, rfl, _, rfl⟩)) (hb hby d4_11) hr) (by decide) (by decide) ?_
    rw [e0]
    exact ⟨by simp only [own_maxL, if_neg hc1], N0, rfl⟩
theorem ef_13 (m : MethodId) (x0 : Int64) (x1 : Int64) : entryFrame m #[(.long x0), (.long x1)] 4 = mkF m 0 #[.val (.long x0), .second, .val (.long x1), .second] [] := by first | (simp [entryFrame, mkF, argsToLocals, Value.category]; done) | rfl
theorem d13_0 : decode jdk_29_method_70_code 0 = .ok (.lload_n 0, 1) := by decide +kernel
theorem d13_1 : decode jdk_29_method_70_code 1 = .ok (.lload_n 2, 1) := by decide +kernel
theorem d13_2 : decode jdk_29_method_70_code 2 = .ok (.lcmp, 1) := by decide +kernel
theorem d13_3 : decode jdk_29_method_70_code 3 = .ok (.ifCond .gt 7, 3) := by decide +kernel
theorem d13_10 : decode jdk_29_method_70_code 10 = .ok (.lload_n 2, 1) := by decide +kernel
theorem d13_11 : decode jdk_29_method_70_code 11 = .ok (.lreturn, 1) := by decide +kernel
theorem d13_6 : decode jdk_29_method_70_code 6 = .ok (.lload_n 0, 1) := by decide +kernel
theorem d13_7 : decode jdk_29_method_70_code 7 = .ok (.goto 4, 3) := by decide +kernel
def Q_rm_minL (Z : State) (xa : Int64) (xb : Int64) (h0 : Heap) (n0 : Nat) (v : Option Value) (h : Heap) (L : List Loc) : Prop := v = some (.long (own_minL xa xb)) ∧ Fr n0 L ∧ h = h0
set_option maxRecDepth 65536 in
set_option maxHeartbeats 40000000 in
theorem rm_minL (l : Launch) (Z : State) (a0 : Array Value) (hw : ∀ d ∈ tables_1, d.before a0 Z = true) (ws : List Jvm.Cond) (xa : Int64) (xb : Int64) (h0 : Heap) (n0 : Nat) (Z0 : n0 ≤ h0.size) :
    MetFree l (⟨"java/lang/Math", "min", "(JJ)J"⟩ : MethodName) (head1 (Jvm.Cond.code (⟨"java/lang/Math", "min", "(JJ)J"⟩ : MethodName) jdk_29_method_70_code 4 (some .long) :: ws) ({ frames := 0, cells := 0, slots := 0, locals := 0 } : Room)) (fun a U => a = #[(.long xa), (.long xb)] ∧ Z.Warmed39 U.vm ∧ U.heap = h0) (fun _ _ _ _ _ => True) (fun _ U o U' => ∃ v L, o = .returned v ∧ Q_rm_minL Z xa xb h0 n0 v U'.heap L ∧ FrameEnd U o U' L ({ frames := 0, cells := 0, slots := 0, locals := 0 } : Room).cells ({ frames := 0, cells := 0, slots := 0, locals := 0 } : Room).slots) := by
  refine own_enter (Q := Q_rm_minL Z xa xb h0 n0) (Jvm.Free.JP.mathPlain rfl (by decide +kernel)) ?_
  intro p e s m below meth c s₁ G X0 hx hby hml hZ hown hnm hret e0 go fin
  replace hown : s.vm.findClass "java/lang/Math" = some m.cls := hown
  replace hnm : meth.name = "min" := hnm
  replace hml : c.maxLocals = 4 := hml
  rw [ef_13 m xa xb]
  have N0 := Fr.nil n0
  show G (s₁.setTop (mkF m 0 #[.val (.long xa), .second, .val (.long xb), .second] []))
  refine go (fun tg kg => XS.lloadN X0.here hx rfl (hb hby d13_0) rfl kg) ?_
  show G (s₁.setTop (mkF m 1 #[.val (.long xa), .second, .val (.long xb), .second] [(.long xa)]))
  refine go (fun tg kg => XS.lloadN X0.here hx rfl (hb hby d13_1) rfl kg) ?_
  show G (s₁.setTop (mkF m 2 #[.val (.long xa), .second, .val (.long xb), .second] [(.long xb), (.long xa)]))
  refine go (fun tg kg => XS.lcmp X0.here hx rfl (hb hby d13_2) rfl kg) ?_
  show G (s₁.setTop (mkF m 3 #[.val (.long xa), .second, .val (.long xb), .second] [(.int (lcmpW xa xb))]))
  by_cases hc1 : xb < xa
  · refine go (fun tg kg => XS.ifYes X0.here hx rfl (pc0 := 3) (pc' := 10) rfl (hb hby d13_3) rfl ((if0 _ _).trans (tlt ((lw_gt xa xb).mpr hc1)).2.2.1) (by decide) (by decide) kg) ?_
    show G (s₁.setTop (mkF m 10 #[.val (.long xa), .second, .val (.long xb), .second] []))
    refine go (fun tg kg => XS.lloadN X0.here hx rfl (hb hby d13_10) rfl kg) ?_
    show G (s₁.setTop (mkF m 11 #[.val (.long xa), .second, .val (.long xb), .second] [(.long xb)]))
    refine fin (some (.long xb)) X0 (fun h => absurd h (by decide)) (fun fs hr => retOut X0 hx hret rfl (Or.inr (Or.inl ⟨rfl, rfl, _, rfl⟩)) (hb hby d13_11) hr) (by decide) (by decide) ?_
    rw [e0]
    exact ⟨by simp only [own_minL, if_pos hc1], N0, rfl⟩
  · refine go (fun tg kg => XS.ifNo X0.here hx rfl (hb hby d13_3) rfl ((if0 _ _).trans (flt (mt (lw_gt xa xb).mp hc1)).2.2.1) kg) ?_
    show G (s₁.setTop (mkF m 6 #[.val (.long xa), .second, .val (.long xb), .second] []))
    refine go (fun tg kg => XS.lloadN X0.here hx rfl (hb hby d13_6) rfl kg) ?_
    show G (s₁.setTop (mkF m 7 #[.val (.long xa), .second, .val (.long xb), .second] [(.long xa)]))
    refine go (fun tg kg => XS.goto X0.here hx rfl (pc0 := 7) (pc' := 11) rfl (hb hby d13_7) (by decide) (by decide) kg) ?_
    show G (s₁.setTop (mkF m 11 #[.val (.long xa), .second, .val (.long xb), .second] [(.long xa)]))
    refine fin (some (.long xa)) X0 (fun h => absurd h (by decide)) (fun fs hr => retOut X0 hx hret rfl (Or.inr (Or.inl ⟨rfl, rfl, _, rfl⟩)) (hb hby d13_11) hr) (by decide) (by decide) ?_
    rw [e0]
    exact ⟨by simp only [own_minL, if_neg hc1], N0, rfl⟩
theorem ef_10 (m : MethodId) (x0 : Int32) (x1 : Int32) : entryFrame m #[(.int x0), (.int x1)] 2 = mkF m 0 #[.val (.int x0), .val (.int x1)] [] := by first | (simp [entryFrame, mkF, argsToLocals, Value.category]; done) | rfl
theorem d10_0 : decode jdk_29_method_65_code 0 = .ok (.iload_n 0, 1) := by decide +kernel
theorem d10_1 : decode jdk_29_method_65_code 1 = .ok (.iload_n 1, 1) := by decide +kernel
theorem d10_2 : decode jdk_29_method_65_code 2 = .ok (.if_icmp .lt 7, 3) := by decide +kernel
theorem d10_9 : decode jdk_29_method_65_code 9 = .ok (.iload_n 1, 1) := by decide +kernel
theorem d10_10 : decode jdk_29_method_65_code 10 = .ok (.ireturn, 1) := by decide +kernel
theorem d10_5 : decode jdk_29_method_65_code 5 = .ok (.iload_n 0, 1) := by decide +kernel
theorem d10_6 : decode jdk_29_method_65_code 6 = .ok (.goto 4, 3) := by decide +kernel
def Q_rm_max (Z : State) (xa : Int32) (xb : Int32) (h0 : Heap) (n0 : Nat) (v : Option Value) (h : Heap) (L : List Loc) : Prop := v = some (.int (own_max xa xb)) ∧ Fr n0 L ∧ h = h0
set_option maxRecDepth 65536 in
set_option maxHeartbeats 40000000 in
theorem rm_max (l : Launch) (Z : State) (a0 : Array Value) (hw : ∀ d ∈ tables_1, d.before a0 Z = true) (ws : List Jvm.Cond) (xa : Int32) (xb : Int32) (h0 : Heap) (n0 : Nat) (Z0 : n0 ≤ h0.size) :
    MetFree l (⟨"java/lang/Math", "max", "(II)I"⟩ : MethodName) (head1 (Jvm.Cond.code (⟨"java/lang/Math", "max", "(II)I"⟩ : MethodName) jdk_29_method_65_code 2 (some .int) :: ws) ({ frames := 0, cells := 0, slots := 0, locals := 0 } : Room)) (fun a U => a = #[(.int xa), (.int xb)] ∧ Z.Warmed39 U.vm ∧ U.heap = h0) (fun _ _ _ _ _ => True) (fun _ U o U' => ∃ v L, o = .returned v ∧ Q_rm_max Z xa xb h0 n0 v U'.heap L ∧ FrameEnd U o U' L ({ frames := 0, cells := 0, slots := 0, locals := 0 } : Room).cells ({ frames := 0, cells := 0, slots := 0, locals := 0 } : Room).slots) := by
  refine own_enter (Q := Q_rm_max Z xa xb h0 n0) (Jvm.Free.JP.mathPlain rfl (by decide +kernel)) ?_
  intro p e s m below meth c s₁ G X0 hx hby hml hZ hown hnm hret e0 go fin
  replace hown : s.vm.findClass "java/lang/Math" = some m.cls := hown
  replace hnm : meth.name = "max" := hnm
  replace hml : c.maxLocals = 2 := hml
  rw [ef_10 m xa xb]
  have N0 := Fr.nil n0
  show G (s₁.setTop (mkF m 0 #[.val (.int xa), .val (.int xb)] []))
  refine go (fun tg kg => XS.iloadN X0.here hx rfl (hb hby d10_0) rfl kg) ?_
  show G (s₁.setTop (mkF m 1 #[.val (.int xa), .val (.int xb)] [(.int xa)]))
  refine go (fun tg kg => XS.iloadN X0.here hx rfl (hb hby d10_1) rfl kg) ?_
  show G (s₁.setTop (mkF m 2 #[.val (.int xa), .val (.int xb)] [(.int xb), (.int xa)]))
  by_cases hc1 : xa < xb
  · refine go (fun tg kg => XS.icmpYes X0.here hx rfl (pc0 := 2) (pc' := 9) rfl (hb hby d10_2) rfl (tlt hc1).1 (by decide) (by decide) kg) ?_
    show G (s₁.setTop (mkF m 9 #[.val (.int xa), .val (.int xb)] []))
    refine go (fun tg kg => XS.iloadN X0.here hx rfl (hb hby d10_9) rfl kg) ?_
    show G (s₁.setTop (mkF m 10 #[.val (.int xa), .val (.int xb)] [(.int xb)]))
    refine fin (some (.int xb)) X0 (fun h => absurd h (by decide)) (fun fs hr => retOut X0 hx hret rfl (Or.inl ⟨rfl, Or.inl rfl, _, rfl⟩) (hb hby d10_10) hr) (by decide) (by decide) ?_
    rw [e0]
    exact ⟨by simp only [own_max, if_pos hc1], N0, rfl⟩
  · refine go (fun tg kg => XS.icmpNo X0.here hx rfl (hb hby d10_2) rfl (flt hc1).1 kg) ?_
    show G (s₁.setTop (mkF m 5 #[.val (.int xa), .val (.int xb)] []))
    refine go (fun tg kg => XS.iloadN X0.here hx rfl (hb hby d10_5) rfl kg) ?_
    show G (s₁.setTop (mkF m 6 #[.val (.int xa), .val (.int xb)] [(.int xa)]))
    refine go (fun tg kg => XS.goto X0.here hx rfl (pc0 := 6) (pc' := 10) rfl (hb hby d10_6) (by decide) (by decide) kg) ?_
    show G (s₁.setTop (mkF m 10 #[.val (.int xa), .val (.int xb)] [(.int xa)]))
    refine fin (some (.int xa)) X0 (fun h => absurd h (by decide)) (fun fs hr => retOut X0 hx hret rfl (Or.inl ⟨rfl, Or.inl rfl, _, rfl⟩) (hb hby d10_10) hr) (by decide) (by decide) ?_
    rw [e0]
    exact ⟨by simp only [own_max, if_neg hc1], N0, rfl⟩
theorem pn_java_lang_Integer : plainName "java/lang/Integer" = true := by first | (simp [plainName, overriddenIn]; done) | decide +kernel
theorem ef_9 (m : MethodId) (x0 : Int32) : entryFrame m #[(.int x0)] 2 = mkF m 0 #[.val (.int x0), .unset] [] := by first | (simp [entryFrame, mkF, argsToLocals, Value.category]; done) | rfl
theorem d9_0 : decode jdk_33_method_47_code 0 = .ok (.iload_n 0, 1) := by decide +kernel
theorem d9_1 : decode jdk_33_method_47_code 1 = .ok (.ifCond .gt 14, 3) := by decide +kernel
theorem d9_15 : decode jdk_33_method_47_code 15 = .ok (.bipush 31, 2) := by decide +kernel
theorem d9_17 : decode jdk_33_method_47_code 17 = .ok (.istore_n 1, 1) := by decide +kernel
theorem d9_18 : decode jdk_33_method_47_code 18 = .ok (.iload_n 0, 1) := by decide +kernel
theorem d9_19 : decode jdk_33_method_47_code 19 = .ok (.ldc_w 264, 3) := by decide +kernel
theorem d9_22 : decode jdk_33_method_47_code 22 = .ok (.if_icmp .lt 11, 3) := by decide +kernel
theorem d9_25 : decode jdk_33_method_47_code 25 = .ok (.iinc 1 (-16), 3) := by decide +kernel
theorem d9_28 : decode jdk_33_method_47_code 28 = .ok (.iload_n 0, 1) := by decide +kernel
theorem d9_29 : decode jdk_33_method_47_code 29 = .ok (.bipush 16, 2) := by decide +kernel
theorem d9_31 : decode jdk_33_method_47_code 31 = .ok (.iushr, 1) := by decide +kernel
theorem d9_32 : decode jdk_33_method_47_code 32 = .ok (.istore_n 0, 1) := by decide +kernel
theorem d9_33 : decode jdk_33_method_47_code 33 = .ok (.iload_n 0, 1) := by decide +kernel
theorem d9_34 : decode jdk_33_method_47_code 34 = .ok (.sipush 256, 3) := by decide +kernel
theorem d9_37 : decode jdk_33_method_47_code 37 = .ok (.if_icmp .lt 11, 3) := by decide +kernel
theorem d9_40 : decode jdk_33_method_47_code 40 = .ok (.iinc 1 (-8), 3) := by decide +kernel
theorem d9_43 : decode jdk_33_method_47_code 43 = .ok (.iload_n 0, 1) := by decide +kernel
theorem d9_44 : decode jdk_33_method_47_code 44 = .ok (.bipush 8, 2) := by decide +kernel
theorem d9_46 : decode jdk_33_method_47_code 46 = .ok (.iushr, 1) := by decide +kernel
theorem d9_47 : decode jdk_33_method_47_code 47 = .ok (.istore_n 0, 1) := by decide +kernel
theorem d9_48 : decode jdk_33_method_47_code 48 = .ok (.iload_n 0, 1) := by decide +kernel
theorem d9_49 : decode jdk_33_method_47_code 49 = .ok (.bipush 16, 2) := by decide +kernel
theorem d9_51 : decode jdk_33_method_47_code 51 = .ok (.if_icmp .lt 10, 3) := by decide +kernel
theorem d9_54 : decode jdk_33_method_47_code 54 = .ok (.iinc 1 (-4), 3) := by decide +kernel
theorem d9_57 : decode jdk_33_method_47_code 57 = .ok (.iload_n 0, 1) := by decide +kernel
theorem d9_58 : decode jdk_33_method_47_code 58 = .ok (.iconst 4, 1) := by decide +kernel
theorem d9_59 : decode jdk_33_method_47_code 59 = .ok (.iushr, 1) := by decide +kernel
theorem d9_60 : decode jdk_33_method_47_code 60 = .ok (.istore_n 0, 1) := by decide +kernel
theorem d9_61 : decode jdk_33_method_47_code 61 = .ok (.iload_n 0, 1) := by decide +kernel
theorem d9_62 : decode jdk_33_method_47_code 62 = .ok (.iconst 4, 1) := by decide +kernel
theorem d9_63 : decode jdk_33_method_47_code 63 = .ok (.if_icmp .lt 10, 3) := by decide +kernel
theorem d9_66 : decode jdk_33_method_47_code 66 = .ok (.iinc 1 (-2), 3) := by decide +kernel
theorem d9_69 : decode jdk_33_method_47_code 69 = .ok (.iload_n 0, 1) := by decide +kernel
theorem d9_70 : decode jdk_33_method_47_code 70 = .ok (.iconst 2, 1) := by decide +kernel
theorem d9_71 : decode jdk_33_method_47_code 71 = .ok (.iushr, 1) := by decide +kernel
theorem d9_72 : decode jdk_33_method_47_code 72 = .ok (.istore_n 0, 1) := by decide +kernel
theorem d9_73 : decode jdk_33_method_47_code 73 = .ok (.iload_n 1, 1) := by decide +kernel
theorem d9_74 : decode jdk_33_method_47_code 74 = .ok (.iload_n 0, 1) := by decide +kernel
theorem d9_75 : decode jdk_33_method_47_code 75 = .ok (.iconst 1, 1) := by decide +kernel
theorem d9_76 : decode jdk_33_method_47_code 76 = .ok (.iushr, 1) := by decide +kernel
theorem d9_77 : decode jdk_33_method_47_code 77 = .ok (.isub, 1) := by decide +kernel
theorem d9_78 : decode jdk_33_method_47_code 78 = .ok (.ireturn, 1) := by decide +kernel
theorem d9_4 : decode jdk_33_method_47_code 4 = .ok (.iload_n 0, 1) := by decide +kernel
theorem d9_5 : decode jdk_33_method_47_code 5 = .ok (.ifCond .ne 8, 3) := by decide +kernel
theorem d9_8 : decode jdk_33_method_47_code 8 = .ok (.bipush 32, 2) := by decide +kernel
theorem d9_10 : decode jdk_33_method_47_code 10 = .ok (.goto 4, 3) := by decide +kernel
theorem d9_14 : decode jdk_33_method_47_code 14 = .ok (.ireturn, 1) := by decide +kernel
theorem d9_13 : decode jdk_33_method_47_code 13 = .ok (.iconst 0, 1) := by decide +kernel
def Q_rm_nlz (Z : State) (x : Int32) (h0 : Heap) (n0 : Nat) (v : Option Value) (h : Heap) (L : List Loc) : Prop := v = some (.int (own_nlz x)) ∧ Fr n0 L ∧ h = h0
set_option maxRecDepth 65536 in
set_option maxHeartbeats 40000000 in
theorem rm_nlz (l : Launch) (Z : State) (a0 : Array Value) (hw : ∀ d ∈ tables_1, d.before a0 Z = true) (ws : List Jvm.Cond) (x : Int32) (h0 : Heap) (n0 : Nat) (Z0 : n0 ≤ h0.size) :
    MetFree l (⟨"java/lang/Integer", "numberOfLeadingZeros", "(I)I"⟩ : MethodName) (head1 (Jvm.Cond.code (⟨"java/lang/Integer", "numberOfLeadingZeros", "(I)I"⟩ : MethodName) jdk_33_method_47_code 2 (some .int) :: ws) ({ frames := 0, cells := 0, slots := 0, locals := 0 } : Room)) (fun a U => a = #[(.int x)] ∧ Z.Warmed39 U.vm ∧ U.heap = h0) (fun _ _ _ _ _ => True) (fun _ U o U' => ∃ v L, o = .returned v ∧ Q_rm_nlz Z x h0 n0 v U'.heap L ∧ FrameEnd U o U' L ({ frames := 0, cells := 0, slots := 0, locals := 0 } : Room).cells ({ frames := 0, cells := 0, slots := 0, locals := 0 } : Room).slots) := by
  refine own_enter (Q := Q_rm_nlz Z x h0 n0) (plainFor_of_name pn_java_lang_Integer) ?_
  intro p e s m below meth c s₁ G X0 hx hby hml hZ hown hnm hret e0 go fin
  replace hown : s.vm.findClass "java/lang/Integer" = some m.cls := hown
  replace hnm : meth.name = "numberOfLeadingZeros" := hnm
  replace hml : c.maxLocals = 2 := hml
  rw [ef_9 m x]
  have N0 := Fr.nil n0
  show G (s₁.setTop (mkF m 0 #[.val (.int x), .unset] []))
  refine go (fun tg kg => XS.iloadN X0.here hx rfl (hb hby d9_0) rfl kg) ?_
  show G (s₁.setTop (mkF m 1 #[.val (.int x), .unset] [(.int x)]))
  by_cases hc1 : (0 : Int32) < x
  · refine go (fun tg kg => XS.ifYes X0.here hx rfl (pc0 := 1) (pc' := 15) rfl (hb hby d9_1) rfl ((if0 _ _).trans (tlt hc1).2.2.1) (by decide) (by decide) kg) ?_
    show G (s₁.setTop (mkF m 15 #[.val (.int x), .unset] []))
    refine go (fun tg kg => XS.bipush X0.here hx rfl (hb hby d9_15) kg) ?_
    show G (s₁.setTop (mkF m 17 #[.val (.int x), .unset] [(.int (31 : Int32))]))
    refine go (fun tg kg => XS.istoreN X0.here hx rfl (hb hby d9_17) rfl (l' := #[.val (.int x), .val (.int (31 : Int32))]) rfl kg) ?_
    show G (s₁.setTop (mkF m 18 #[.val (.int x), .val (.int (31 : Int32))] []))
    refine go (b := s₁.setTop (mkF m 33 #[.val (.int (own_sx x (65536 : Int32) (16 : Int32))), .val (.int (own_sn x (65536 : Int32) (31 : Int32) (-16 : Int32)))] [])) (fun tg kg => ?_) ?_
    · show Steps p.tables e below (s₁.setTop (mkF m 18 #[.val (.int x), .val (.int (31 : Int32))] [])) _
      refine XS.iloadN X0.here hx rfl (hb hby d9_18) rfl ?_
      show Steps p.tables e below (s₁.setTop (mkF m 19 #[.val (.int x), .val (.int (31 : Int32))] [(.int x)])) _
      refine X0.ldcwInt hx hown (mvT hZ (hw _ (List.mem_of_getElem? (i := 48) rfl))) (g := (mkF m 19 #[.val (.int x), .val (.int (31 : Int32))] [(.int x)])) rfl (hb hby d9_19) _ ?_
      show Steps p.tables e below (s₁.setTop (mkF m 22 #[.val (.int x), .val (.int (31 : Int32))] [(.int (65536 : Int32)), (.int x)])) _
      by_cases hc2 : x < (65536 : Int32)
      · refine XS.icmpYes X0.here hx rfl (pc0 := 22) (pc' := 33) rfl (hb hby d9_22) rfl (tlt hc2).1 (by decide) (by decide) ?_
        show Steps p.tables e below (s₁.setTop (mkF m 33 #[.val (.int x), .val (.int (31 : Int32))] [])) _
        have q0 : (own_sx x (65536 : Int32) (16 : Int32)) = x := by first | (simp only [own_sx, own_sn, hc1, hc2, reduceIte]; done) | (simp only [own_sx, own_sn, hc1, hc2, reduceIte]; decide)
        have q1 : (own_sn x (65536 : Int32) (31 : Int32) (-16 : Int32)) = (31 : Int32) := by first | (simp only [own_sx, own_sn, hc1, hc2, reduceIte]; done) | (simp only [own_sx, own_sn, hc1, hc2, reduceIte]; decide)
        rw [q0, q1] at kg
        exact kg
      · refine XS.icmpNo X0.here hx rfl (hb hby d9_22) rfl (flt hc2).1 ?_
        show Steps p.tables e below (s₁.setTop (mkF m 25 #[.val (.int x), .val (.int (31 : Int32))] [])) _
        refine XS.iinc X0.here hx rfl (hb hby d9_25) rfl (l' := #[.val (.int x), .val (.int (15 : Int32))]) rfl ?_
        show Steps p.tables e below (s₁.setTop (mkF m 28 #[.val (.int x), .val (.int (15 : Int32))] [])) _
        refine XS.iloadN X0.here hx rfl (hb hby d9_28) rfl ?_
        show Steps p.tables e below (s₁.setTop (mkF m 29 #[.val (.int x), .val (.int (15 : Int32))] [(.int x)])) _
        refine XS.bipush X0.here hx rfl (hb hby d9_29) ?_
        show Steps p.tables e below (s₁.setTop (mkF m 31 #[.val (.int x), .val (.int (15 : Int32))] [(.int (16 : Int32)), (.int x)])) _
        refine XS.iushr X0.here hx rfl (hb hby d9_31) rfl ?_
        show Steps p.tables e below (s₁.setTop (mkF m 32 #[.val (.int x), .val (.int (15 : Int32))] [(.int ((x.toUInt32 >>> ((16 : Int32) &&& 31).toUInt32).toInt32))])) _
        refine XS.istoreN X0.here hx rfl (hb hby d9_32) rfl (l' := #[.val (.int ((x.toUInt32 >>> ((16 : Int32) &&& 31).toUInt32).toInt32)), .val (.int (15 : Int32))]) rfl ?_
        show Steps p.tables e below (s₁.setTop (mkF m 33 #[.val (.int ((x.toUInt32 >>> ((16 : Int32) &&& 31).toUInt32).toInt32)), .val (.int (15 : Int32))] [])) _
        have q0 : (own_sx x (65536 : Int32) (16 : Int32)) = ((x.toUInt32 >>> ((16 : Int32) &&& 31).toUInt32).toInt32) := by first | (simp only [own_sx, own_sn, hc1, hc2, reduceIte]; done) | (simp only [own_sx, own_sn, hc1, hc2, reduceIte]; decide)
        have q1 : (own_sn x (65536 : Int32) (31 : Int32) (-16 : Int32)) = (15 : Int32) := by first | (simp only [own_sx, own_sn, hc1, hc2, reduceIte]; done) | (simp only [own_sx, own_sn, hc1, hc2, reduceIte]; decide)
        rw [q0, q1] at kg
        exact kg
    show G (s₁.setTop (mkF m 33 #[.val (.int (own_sx x (65536 : Int32) (16 : Int32))), .val (.int (own_sn x (65536 : Int32) (31 : Int32) (-16 : Int32)))] []))
    show G (s₁.setTop (mkF m 33 #[.val (.int (own_x1 x)), .val (.int (own_n1 x))] []))
    refine go (b := s₁.setTop (mkF m 48 #[.val (.int (own_sx (own_x1 x) (256 : Int32) (8 : Int32))), .val (.int (own_sn (own_x1 x) (256 : Int32) (own_n1 x) (-8 : Int32)))] [])) (fun tg kg => ?_) ?_
    · show Steps p.tables e below (s₁.setTop (mkF m 33 #[.val (.int (own_x1 x)), .val (.int (own_n1 x))] [])) _
      refine XS.iloadN X0.here hx rfl (hb hby d9_33) rfl ?_
      show Steps p.tables e below (s₁.setTop (mkF m 34 #[.val (.int (own_x1 x)), .val (.int (own_n1 x))] [(.int (own_x1 x))])) _
      refine XS.sipush X0.here hx rfl (hb hby d9_34) ?_
      show Steps p.tables e below (s₁.setTop (mkF m 37 #[.val (.int (own_x1 x)), .val (.int (own_n1 x))] [(.int (256 : Int32)), (.int (own_x1 x))])) _
      by_cases hc3 : (own_x1 x) < (256 : Int32)
      · refine XS.icmpYes X0.here hx rfl (pc0 := 37) (pc' := 48) rfl (hb hby d9_37) rfl (tlt hc3).1 (by decide) (by decide) ?_
        show Steps p.tables e below (s₁.setTop (mkF m 48 #[.val (.int (own_x1 x)), .val (.int (own_n1 x))] [])) _
        have q0 : (own_sx (own_x1 x) (256 : Int32) (8 : Int32)) = (own_x1 x) := by first | (simp only [own_sx, own_sn, hc1, hc3, reduceIte]; done) | (simp only [own_sx, own_sn, hc1, hc3, reduceIte]; decide)
        have q1 : (own_sn (own_x1 x) (256 : Int32) (own_n1 x) (-8 : Int32)) = (own_n1 x) := by first | (simp only [own_sx, own_sn, hc1, hc3, reduceIte]; done) | (simp only [own_sx, own_sn, hc1, hc3, reduceIte]; decide)
        rw [q0, q1] at kg
        exact kg
      · refine XS.icmpNo X0.here hx rfl (hb hby d9_37) rfl (flt hc3).1 ?_
        show Steps p.tables e below (s₁.setTop (mkF m 40 #[.val (.int (own_x1 x)), .val (.int (own_n1 x))] [])) _
        refine XS.iinc X0.here hx rfl (hb hby d9_40) rfl (l' := #[.val (.int (own_x1 x)), .val (.int ((own_n1 x) + (-8 : Int32)))]) rfl ?_
        show Steps p.tables e below (s₁.setTop (mkF m 43 #[.val (.int (own_x1 x)), .val (.int ((own_n1 x) + (-8 : Int32)))] [])) _
        refine XS.iloadN X0.here hx rfl (hb hby d9_43) rfl ?_
        show Steps p.tables e below (s₁.setTop (mkF m 44 #[.val (.int (own_x1 x)), .val (.int ((own_n1 x) + (-8 : Int32)))] [(.int (own_x1 x))])) _
        refine XS.bipush X0.here hx rfl (hb hby d9_44) ?_
        show Steps p.tables e below (s₁.setTop (mkF m 46 #[.val (.int (own_x1 x)), .val (.int ((own_n1 x) + (-8 : Int32)))] [(.int (8 : Int32)), (.int (own_x1 x))])) _
        refine XS.iushr X0.here hx rfl (hb hby d9_46) rfl ?_
        show Steps p.tables e below (s₁.setTop (mkF m 47 #[.val (.int (own_x1 x)), .val (.int ((own_n1 x) + (-8 : Int32)))] [(.int (((own_x1 x).toUInt32 >>> ((8 : Int32) &&& 31).toUInt32).toInt32))])) _
        refine XS.istoreN X0.here hx rfl (hb hby d9_47) rfl (l' := #[.val (.int (((own_x1 x).toUInt32 >>> ((8 : Int32) &&& 31).toUInt32).toInt32)), .val (.int ((own_n1 x) + (-8 : Int32)))]) rfl ?_
        show Steps p.tables e below (s₁.setTop (mkF m 48 #[.val (.int (((own_x1 x).toUInt32 >>> ((8 : Int32) &&& 31).toUInt32).toInt32)), .val (.int ((own_n1 x) + (-8 : Int32)))] [])) _
        have q0 : (own_sx (own_x1 x) (256 : Int32) (8 : Int32)) = (((own_x1 x).toUInt32 >>> ((8 : Int32) &&& 31).toUInt32).toInt32) := by first | (simp only [own_sx, own_sn, hc1, hc3, reduceIte]; done) | (simp only [own_sx, own_sn, hc1, hc3, reduceIte]; decide)
        have q1 : (own_sn (own_x1 x) (256 : Int32) (own_n1 x) (-8 : Int32)) = ((own_n1 x) + (-8 : Int32)) := by first | (simp only [own_sx, own_sn, hc1, hc3, reduceIte]; done) | (simp only [own_sx, own_sn, hc1, hc3, reduceIte]; decide)
        rw [q0, q1] at kg
        exact kg
    show G (s₁.setTop (mkF m 48 #[.val (.int (own_sx (own_x1 x) (256 : Int32) (8 : Int32))), .val (.int (own_sn (own_x1 x) (256 : Int32) (own_n1 x) (-8 : Int32)))] []))
    show G (s₁.setTop (mkF m 48 #[.val (.int (own_x2 x)), .val (.int (own_n2 x))] []))
    refine go (b := s₁.setTop (mkF m 61 #[.val (.int (own_sx (own_x2 x) (16 : Int32) (4 : Int32))), .val (.int (own_sn (own_x2 x) (16 : Int32) (own_n2 x) (-4 : Int32)))] [])) (fun tg kg => ?_) ?_
    · show Steps p.tables e below (s₁.setTop (mkF m 48 #[.val (.int (own_x2 x)), .val (.int (own_n2 x))] [])) _
      refine XS.iloadN X0.here hx rfl (hb hby d9_48) rfl ?_
      show Steps p.tables e below (s₁.setTop (mkF m 49 #[.val (.int (own_x2 x)), .val (.int (own_n2 x))] [(.int (own_x2 x))])) _
      refine XS.bipush X0.here hx rfl (hb hby d9_49) ?_
      show Steps p.tables e below (s₁.setTop (mkF m 51 #[.val (.int (own_x2 x)), .val (.int (own_n2 x))] [(.int (16 : Int32)), (.int (own_x2 x))])) _
      by_cases hc4 : (own_x2 x) < (16 : Int32)
      · refine XS.icmpYes X0.here hx rfl (pc0 := 51) (pc' := 61) rfl (hb hby d9_51) rfl (tlt hc4).1 (by decide) (by decide) ?_
        show Steps p.tables e below (s₁.setTop (mkF m 61 #[.val (.int (own_x2 x)), .val (.int (own_n2 x))] [])) _
        have q0 : (own_sx (own_x2 x) (16 : Int32) (4 : Int32)) = (own_x2 x) := by first | (simp only [own_sx, own_sn, hc1, hc4, reduceIte]; done) | (simp only [own_sx, own_sn, hc1, hc4, reduceIte]; decide)
        have q1 : (own_sn (own_x2 x) (16 : Int32) (own_n2 x) (-4 : Int32)) = (own_n2 x) := by first | (simp only [own_sx, own_sn, hc1, hc4, reduceIte]; done) | (simp only [own_sx, own_sn, hc1, hc4, reduceIte]; decide)
        rw [q0, q1] at kg
        exact kg
      · refine XS.icmpNo X0.here hx rfl (hb hby d9_51) rfl (flt hc4).1 ?_
        show Steps p.tables e below (s₁.setTop (mkF m 54 #[.val (.int (own_x2 x)), .val (.int (own_n2 x))] [])) _
        refine XS.iinc X0.here hx rfl (hb hby d9_54) rfl (l' := #[.val (.int (own_x2 x)), .val (.int ((own_n2 x) + (-4 : Int32)))]) rfl ?_
        show Steps p.tables e below (s₁.setTop (mkF m 57 #[.val (.int (own_x2 x)), .val (.int ((own_n2 x) + (-4 : Int32)))] [])) _
        refine XS.iloadN X0.here hx rfl (hb hby d9_57) rfl ?_
        show Steps p.tables e below (s₁.setTop (mkF m 58 #[.val (.int (own_x2 x)), .val (.int ((own_n2 x) + (-4 : Int32)))] [(.int (own_x2 x))])) _
        refine XS.iconst X0.here hx rfl (hb hby d9_58) ?_
        show Steps p.tables e below (s₁.setTop (mkF m 59 #[.val (.int (own_x2 x)), .val (.int ((own_n2 x) + (-4 : Int32)))] [(.int (4 : Int32)), (.int (own_x2 x))])) _
        refine XS.iushr X0.here hx rfl (hb hby d9_59) rfl ?_
        show Steps p.tables e below (s₁.setTop (mkF m 60 #[.val (.int (own_x2 x)), .val (.int ((own_n2 x) + (-4 : Int32)))] [(.int (((own_x2 x).toUInt32 >>> ((4 : Int32) &&& 31).toUInt32).toInt32))])) _
        refine XS.istoreN X0.here hx rfl (hb hby d9_60) rfl (l' := #[.val (.int (((own_x2 x).toUInt32 >>> ((4 : Int32) &&& 31).toUInt32).toInt32)), .val (.int ((own_n2 x) + (-4 : Int32)))]) rfl ?_
        show Steps p.tables e below (s₁.setTop (mkF m 61 #[.val (.int (((own_x2 x).toUInt32 >>> ((4 : Int32) &&& 31).toUInt32).toInt32)), .val (.int ((own_n2 x) + (-4 : Int32)))] [])) _
        have q0 : (own_sx (own_x2 x) (16 : Int32) (4 : Int32)) = (((own_x2 x).toUInt32 >>> ((4 : Int32) &&& 31).toUInt32).toInt32) := by first | (simp only [own_sx, own_sn, hc1, hc4, reduceIte]; done) | (simp only [own_sx, own_sn, hc1, hc4, reduceIte]; decide)
        have q1 : (own_sn (own_x2 x) (16 : Int32) (own_n2 x) (-4 : Int32)) = ((own_n2 x) + (-4 : Int32)) := by first | (simp only [own_sx, own_sn, hc1, hc4, reduceIte]; done) | (simp only [own_sx, own_sn, hc1, hc4, reduceIte]; decide)
        rw [q0, q1] at kg
        exact kg
    show G (s₁.setTop (mkF m 61 #[.val (.int (own_sx (own_x2 x) (16 : Int32) (4 : Int32))), .val (.int (own_sn (own_x2 x) (16 : Int32) (own_n2 x) (-4 : Int32)))] []))
    show G (s₁.setTop (mkF m 61 #[.val (.int (own_x3 x)), .val (.int (own_n3 x))] []))
    refine go (b := s₁.setTop (mkF m 73 #[.val (.int (own_sx (own_x3 x) (4 : Int32) (2 : Int32))), .val (.int (own_sn (own_x3 x) (4 : Int32) (own_n3 x) (-2 : Int32)))] [])) (fun tg kg => ?_) ?_
    · show Steps p.tables e below (s₁.setTop (mkF m 61 #[.val (.int (own_x3 x)), .val (.int (own_n3 x))] [])) _
      refine XS.iloadN X0.here hx rfl (hb hby d9_61) rfl ?_
      show Steps p.tables e below (s₁.setTop (mkF m 62 #[.val (.int (own_x3 x)), .val (.int (own_n3 x))] [(.int (own_x3 x))])) _
      refine XS.iconst X0.here hx rfl (hb hby d9_62) ?_
      show Steps p.tables e below (s₁.setTop (mkF m 63 #[.val (.int (own_x3 x)), .val (.int (own_n3 x))] [(.int (4 : Int32)), (.int (own_x3 x))])) _
      by_cases hc5 : (own_x3 x) < (4 : Int32)
      · refine XS.icmpYes X0.here hx rfl (pc0 := 63) (pc' := 73) rfl (hb hby d9_63) rfl (tlt hc5).1 (by decide) (by decide) ?_
        show Steps p.tables e below (s₁.setTop (mkF m 73 #[.val (.int (own_x3 x)), .val (.int (own_n3 x))] [])) _
        have q0 : (own_sx (own_x3 x) (4 : Int32) (2 : Int32)) = (own_x3 x) := by first | (simp only [own_sx, own_sn, hc1, hc5, reduceIte]; done) | (simp only [own_sx, own_sn, hc1, hc5, reduceIte]; decide)
        have q1 : (own_sn (own_x3 x) (4 : Int32) (own_n3 x) (-2 : Int32)) = (own_n3 x) := by first | (simp only [own_sx, own_sn, hc1, hc5, reduceIte]; done) | (simp only [own_sx, own_sn, hc1, hc5, reduceIte]; decide)
        rw [q0, q1] at kg
        exact kg
      · refine XS.icmpNo X0.here hx rfl (hb hby d9_63) rfl (flt hc5).1 ?_
        show Steps p.tables e below (s₁.setTop (mkF m 66 #[.val (.int (own_x3 x)), .val (.int (own_n3 x))] [])) _
        refine XS.iinc X0.here hx rfl (hb hby d9_66) rfl (l' := #[.val (.int (own_x3 x)), .val (.int ((own_n3 x) + (-2 : Int32)))]) rfl ?_
        show Steps p.tables e below (s₁.setTop (mkF m 69 #[.val (.int (own_x3 x)), .val (.int ((own_n3 x) + (-2 : Int32)))] [])) _
        refine XS.iloadN X0.here hx rfl (hb hby d9_69) rfl ?_
        show Steps p.tables e below (s₁.setTop (mkF m 70 #[.val (.int (own_x3 x)), .val (.int ((own_n3 x) + (-2 : Int32)))] [(.int (own_x3 x))])) _
        refine XS.iconst X0.here hx rfl (hb hby d9_70) ?_
        show Steps p.tables e below (s₁.setTop (mkF m 71 #[.val (.int (own_x3 x)), .val (.int ((own_n3 x) + (-2 : Int32)))] [(.int (2 : Int32)), (.int (own_x3 x))])) _
        refine XS.iushr X0.here hx rfl (hb hby d9_71) rfl ?_
        show Steps p.tables e below (s₁.setTop (mkF m 72 #[.val (.int (own_x3 x)), .val (.int ((own_n3 x) + (-2 : Int32)))] [(.int (((own_x3 x).toUInt32 >>> ((2 : Int32) &&& 31).toUInt32).toInt32))])) _
        refine XS.istoreN X0.here hx rfl (hb hby d9_72) rfl (l' := #[.val (.int (((own_x3 x).toUInt32 >>> ((2 : Int32) &&& 31).toUInt32).toInt32)), .val (.int ((own_n3 x) + (-2 : Int32)))]) rfl ?_
        show Steps p.tables e below (s₁.setTop (mkF m 73 #[.val (.int (((own_x3 x).toUInt32 >>> ((2 : Int32) &&& 31).toUInt32).toInt32)), .val (.int ((own_n3 x) + (-2 : Int32)))] [])) _
        have q0 : (own_sx (own_x3 x) (4 : Int32) (2 : Int32)) = (((own_x3 x).toUInt32 >>> ((2 : Int32) &&& 31).toUInt32).toInt32) := by first | (simp only [own_sx, own_sn, hc1, hc5, reduceIte]; done) | (simp only [own_sx, own_sn, hc1, hc5, reduceIte]; decide)
        have q1 : (own_sn (own_x3 x) (4 : Int32) (own_n3 x) (-2 : Int32)) = ((own_n3 x) + (-2 : Int32)) := by first | (simp only [own_sx, own_sn, hc1, hc5, reduceIte]; done) | (simp only [own_sx, own_sn, hc1, hc5, reduceIte]; decide)
        rw [q0, q1] at kg
        exact kg
    show G (s₁.setTop (mkF m 73 #[.val (.int (own_sx (own_x3 x) (4 : Int32) (2 : Int32))), .val (.int (own_sn (own_x3 x) (4 : Int32) (own_n3 x) (-2 : Int32)))] []))
    show G (s₁.setTop (mkF m 73 #[.val (.int (own_x4 x)), .val (.int (own_n4 x))] []))
    refine go (fun tg kg => XS.iloadN X0.here hx rfl (hb hby d9_73) rfl kg) ?_
    show G (s₁.setTop (mkF m 74 #[.val (.int (own_x4 x)), .val (.int (own_n4 x))] [(.int (own_n4 x))]))
    refine go (fun tg kg => XS.iloadN X0.here hx rfl (hb hby d9_74) rfl kg) ?_
    show G (s₁.setTop (mkF m 75 #[.val (.int (own_x4 x)), .val (.int (own_n4 x))] [(.int (own_x4 x)), (.int (own_n4 x))]))
    refine go (fun tg kg => XS.iconst X0.here hx rfl (hb hby d9_75) kg) ?_
    show G (s₁.setTop (mkF m 76 #[.val (.int (own_x4 x)), .val (.int (own_n4 x))] [(.int (1 : Int32)), (.int (own_x4 x)), (.int (own_n4 x))]))
    refine go (fun tg kg => XS.iushr X0.here hx rfl (hb hby d9_76) rfl kg) ?_
    show G (s₁.setTop (mkF m 77 #[.val (.int (own_x4 x)), .val (.int (own_n4 x))] [(.int (((own_x4 x).toUInt32 >>> ((1 : Int32) &&& 31).toUInt32).toInt32)), (.int (own_n4 x))]))
    refine go (fun tg kg => XS.isub X0.here hx rfl (hb hby d9_77) rfl kg) ?_
    show G (s₁.setTop (mkF m 78 #[.val (.int (own_x4 x)), .val (.int (own_n4 x))] [(.int ((own_n4 x) - (((own_x4 x).toUInt32 >>> ((1 : Int32) &&& 31).toUInt32).toInt32)))]))
    refine fin (some (.int ((own_n4 x) - (((own_x4 x).toUInt32 >>> ((1 : Int32) &&& 31).toUInt32).toInt32)))) X0 (fun h => absurd h (by decide)) (fun fs hr => retOut X0 hx hret rfl (Or.inl ⟨rfl, Or.inl rfl, _, rfl⟩) (hb hby d9_78) hr) (by decide) (by decide) ?_
    rw [e0]
    exact ⟨by simp only [own_nlz, if_pos hc1], N0, rfl⟩
  · refine go (fun tg kg => XS.ifNo X0.here hx rfl (hb hby d9_1) rfl ((if0 _ _).trans (flt hc1).2.2.1) kg) ?_
    show G (s₁.setTop (mkF m 4 #[.val (.int x), .unset] []))
    refine go (fun tg kg => XS.iloadN X0.here hx rfl (hb hby d9_4) rfl kg) ?_
    show G (s₁.setTop (mkF m 5 #[.val (.int x), .unset] [(.int x)]))
    by_cases hc6 : x = (0 : Int32)
    · refine go (fun tg kg => XS.ifNo X0.here hx rfl (hb hby d9_5) rfl ((if0 _ _).trans (teq hc6).2) kg) ?_
      show G (s₁.setTop (mkF m 8 #[.val (.int x), .unset] []))
      refine go (fun tg kg => XS.bipush X0.here hx rfl (hb hby d9_8) kg) ?_
      show G (s₁.setTop (mkF m 10 #[.val (.int x), .unset] [(.int (32 : Int32))]))
      refine go (fun tg kg => XS.goto X0.here hx rfl (pc0 := 10) (pc' := 14) rfl (hb hby d9_10) (by decide) (by decide) kg) ?_
      show G (s₁.setTop (mkF m 14 #[.val (.int x), .unset] [(.int (32 : Int32))]))
      refine fin (some (.int (32 : Int32))) X0 (fun h => absurd h (by decide)) (fun fs hr => retOut X0 hx hret rfl (Or.inl ⟨rfl, Or.inl rfl, _, rfl⟩) (hb hby d9_14) hr) (by decide) (by decide) ?_
      rw [e0]
      exact ⟨by simp only [own_nlz, if_neg hc1, if_pos hc6], N0, rfl⟩
    · refine go (fun tg kg => XS.ifYes X0.here hx rfl (pc0 := 5) (pc' := 13) rfl (hb hby d9_5) rfl ((if0 _ _).trans (feq hc6).2) (by decide) (by decide) kg) ?_
      show G (s₁.setTop (mkF m 13 #[.val (.int x), .unset] []))
      refine go (fun tg kg => XS.iconst X0.here hx rfl (hb hby d9_13) kg) ?_
      show G (s₁.setTop (mkF m 14 #[.val (.int x), .unset] [(.int (0 : Int32))]))
      refine fin (some (.int (0 : Int32))) X0 (fun h => absurd h (by decide)) (fun fs hr => retOut X0 hx hret rfl (Or.inl ⟨rfl, Or.inl rfl, _, rfl⟩) (hb hby d9_14) hr) (by decide) (by decide) ?_
      rw [e0]
      exact ⟨by simp only [own_nlz, if_neg hc1, if_neg hc6], N0, rfl⟩
theorem pn_java_lang_Long : plainName "java/lang/Long" = true := by first | (simp [plainName, overriddenIn]; done) | decide +kernel
theorem ef_8 (m : MethodId) (x0 : Int64) : entryFrame m #[(.long x0)] 3 = mkF m 0 #[.val (.long x0), .second, .unset] [] := by first | (simp [entryFrame, mkF, argsToLocals, Value.category]; done) | rfl
theorem d8_0 : decode jdk_35_method_48_code 0 = .ok (.lload_n 0, 1) := by decide +kernel
theorem d8_1 : decode jdk_35_method_48_code 1 = .ok (.bipush 32, 2) := by decide +kernel
theorem d8_3 : decode jdk_35_method_48_code 3 = .ok (.lushr, 1) := by decide +kernel
theorem d8_4 : decode jdk_35_method_48_code 4 = .ok (.l2i, 1) := by decide +kernel
theorem d8_5 : decode jdk_35_method_48_code 5 = .ok (.istore_n 2, 1) := by decide +kernel
theorem d8_6 : decode jdk_35_method_48_code 6 = .ok (.iload_n 2, 1) := by decide +kernel
theorem d8_7 : decode jdk_35_method_48_code 7 = .ok (.ifCond .ne 14, 3) := by decide +kernel
theorem d8_10 : decode jdk_35_method_48_code 10 = .ok (.bipush 32, 2) := by decide +kernel
theorem d8_12 : decode jdk_35_method_48_code 12 = .ok (.lload_n 0, 1) := by decide +kernel
theorem d8_13 : decode jdk_35_method_48_code 13 = .ok (.l2i, 1) := by decide +kernel
theorem d8_14 : decode jdk_35_method_48_code 14 = .ok (.invokestatic 308, 3) := by decide +kernel
theorem pd__I_I : parseMethodDescriptor "(I)I" = some ⟨[.int], some .int⟩ := by decide +kernel
theorem d8_17 : decode jdk_35_method_48_code 17 = .ok (.iadd, 1) := by decide +kernel
theorem d8_18 : decode jdk_35_method_48_code 18 = .ok (.goto 7, 3) := by decide +kernel
theorem d8_25 : decode jdk_35_method_48_code 25 = .ok (.ireturn, 1) := by decide +kernel
theorem d8_21 : decode jdk_35_method_48_code 21 = .ok (.iload_n 2, 1) := by decide +kernel
theorem d8_22 : decode jdk_35_method_48_code 22 = .ok (.invokestatic 308, 3) := by decide +kernel
def Q_rm_nlz64 (Z : State) (x : Int64) (h0 : Heap) (n0 : Nat) (v : Option Value) (h : Heap) (L : List Loc) : Prop := v = some (.int (own_nlz64 x)) ∧ Fr n0 L ∧ h = h0
set_option maxRecDepth 65536 in
set_option maxHeartbeats 40000000 in
theorem rm_nlz64 (l : Launch) (Z : State) (a0 : Array Value) (hw : ∀ d ∈ tables_1, d.before a0 Z = true) (ws : List Jvm.Cond) (x : Int64) (h0 : Heap) (n0 : Nat) (Z0 : n0 ≤ h0.size) :
    MetFree l (⟨"java/lang/Long", "numberOfLeadingZeros", "(J)I"⟩ : MethodName) (head1 (Jvm.Cond.code (⟨"java/lang/Long", "numberOfLeadingZeros", "(J)I"⟩ : MethodName) jdk_35_method_48_code 3 (some .int) :: ws) ({ frames := 1, cells := 0, slots := 0, locals := 14 } : Room)) (fun a U => a = #[(.long x)] ∧ Z.Warmed39 U.vm ∧ U.heap = h0) (fun _ _ _ _ _ => True) (fun _ U o U' => ∃ v L, o = .returned v ∧ Q_rm_nlz64 Z x h0 n0 v U'.heap L ∧ FrameEnd U o U' L ({ frames := 1, cells := 0, slots := 0, locals := 14 } : Room).cells ({ frames := 1, cells := 0, slots := 0, locals := 14 } : Room).slots) := by
  refine own_enter (Q := Q_rm_nlz64 Z x h0 n0) (plainFor_of_name pn_java_lang_Long) ?_
  intro p e s m below meth c s₁ G X0 hx hby hml hZ hown hnm hret e0 go fin
  replace hown : s.vm.findClass "java/lang/Long" = some m.cls := hown
  replace hnm : meth.name = "numberOfLeadingZeros" := hnm
  replace hml : c.maxLocals = 3 := hml
  rw [ef_8 m x]
  have N0 := Fr.nil n0
  show G (s₁.setTop (mkF m 0 #[.val (.long x), .second, .unset] []))
  refine go (fun tg kg => XS.lloadN X0.here hx rfl (hb hby d8_0) rfl kg) ?_
  show G (s₁.setTop (mkF m 1 #[.val (.long x), .second, .unset] [(.long x)]))
  refine go (fun tg kg => XS.bipush X0.here hx rfl (hb hby d8_1) kg) ?_
  show G (s₁.setTop (mkF m 3 #[.val (.long x), .second, .unset] [(.int (32 : Int32)), (.long x)]))
  refine go (fun tg kg => XS.lushr X0.here hx rfl (hb hby d8_3) rfl kg) ?_
  show G (s₁.setTop (mkF m 4 #[.val (.long x), .second, .unset] [(.long ((x.toUInt64 >>> ((32 : Int32) &&& 0x3f).toInt64.toUInt64).toInt64))]))
  refine go (fun tg kg => XS.l2i X0.here hx rfl (hb hby d8_4) rfl kg) ?_
  show G (s₁.setTop (mkF m 5 #[.val (.long x), .second, .unset] [(.int (((x.toUInt64 >>> ((32 : Int32) &&& 0x3f).toInt64.toUInt64).toInt64).toInt32))]))
  refine go (fun tg kg => XS.istoreN X0.here hx rfl (hb hby d8_5) rfl (l' := #[.val (.long x), .second, .val (.int (((x.toUInt64 >>> ((32 : Int32) &&& 0x3f).toInt64.toUInt64).toInt64).toInt32))]) rfl kg) ?_
  show G (s₁.setTop (mkF m 6 #[.val (.long x), .second, .val (.int (((x.toUInt64 >>> ((32 : Int32) &&& 0x3f).toInt64.toUInt64).toInt64).toInt32))] []))
  show G (s₁.setTop (mkF m 6 #[.val (.long x), .second, .val (.int (own_hi32 x))] []))
  refine go (fun tg kg => XS.iloadN X0.here hx rfl (hb hby d8_6) rfl kg) ?_
  show G (s₁.setTop (mkF m 7 #[.val (.long x), .second, .val (.int (own_hi32 x))] [(.int (own_hi32 x))]))
  by_cases hc1 : (own_hi32 x) = (0 : Int32)
  · refine go (fun tg kg => XS.ifNo X0.here hx rfl (hb hby d8_7) rfl ((if0 _ _).trans (teq hc1).2) kg) ?_
    show G (s₁.setTop (mkF m 10 #[.val (.long x), .second, .val (.int (own_hi32 x))] []))
    refine go (fun tg kg => XS.bipush X0.here hx rfl (hb hby d8_10) kg) ?_
    show G (s₁.setTop (mkF m 12 #[.val (.long x), .second, .val (.int (own_hi32 x))] [(.int (32 : Int32))]))
    refine go (fun tg kg => XS.lloadN X0.here hx rfl (hb hby d8_12) rfl kg) ?_
    show G (s₁.setTop (mkF m 13 #[.val (.long x), .second, .val (.int (own_hi32 x))] [(.long x), (.int (32 : Int32))]))
    refine go (fun tg kg => XS.l2i X0.here hx rfl (hb hby d8_13) rfl kg) ?_
    show G (s₁.setTop (mkF m 14 #[.val (.long x), .second, .val (.int (own_hi32 x))] [(.int (x.toInt32)), (.int (32 : Int32))]))
    obtain ⟨_, _, ⟨T2, L2, k2, n2⟩, -, X2, ⟨Lc2, hQ2, l2, y2, z2⟩, st2⟩ := Jvm.LawKit.callS X0 hx (y := (⟨"java/lang/Integer", "numberOfLeadingZeros", "(I)I"⟩ : MethodName)) hown (mvT hZ (hw _ (List.mem_of_getElem? (i := 44) rfl))) (mvT hZ (hw _ (List.mem_of_getElem? (i := 45) rfl))) (mvT hZ (hw _ (List.mem_of_getElem? (i := 46) rfl))) (mvT hZ (hw _ (List.mem_of_getElem? (i := 47) rfl))) (by decide) (backOf (W := 1) (rm_nlz l Z a0 hw [] (x.toInt32) h0 n0 Z0 ) hZ (hw _ (List.mem_of_getElem? (i := 47) rfl)) (hw _ (List.mem_of_getElem? (i := 46) rfl)) (by decide) (by decide)) (g := (mkF m 14 #[.val (.long x), .second, .val (.int (own_hi32 x))] [(.int (x.toInt32)), (.int (32 : Int32))])) rfl (by rw [hml]; rfl) (argsL := [(.int (x.toInt32))]) (rest := [(.int (32 : Int32))]) (lenOf pd__I_I rfl) rfl (by show 2 * 0 + _ ≤ _; exact Nat.le_of_eq rfl) (hb hby d8_14) (fun _ _ => ⟨rfl, e0, (by decide : 0 + 0 ≤ _), (by decide : 0 + 0 ≤ _)⟩)
    dsimp only [Pt.U, Pt.locs, Pt.cells, Pt.slots] at X2 l2 y2 z2 st2 hQ2
    subst l2 y2 z2
    obtain ⟨rfl, Nq2, e2⟩ := hQ2
    have N2 := Fr.app N0 Nq2
    refine go st2 ?_
    show G (T2.setTop (mkF m 17 #[.val (.long x), .second, .val (.int (own_hi32 x))] [(.int (own_nlz (x.toInt32))), (.int (32 : Int32))]))
    refine go (fun tg kg => XS.iadd X2.here hx rfl (hb hby d8_17) rfl kg) ?_
    show G (T2.setTop (mkF m 18 #[.val (.long x), .second, .val (.int (own_hi32 x))] [(.int ((32 : Int32) + (own_nlz (x.toInt32))))]))
    refine go (fun tg kg => XS.goto X2.here hx rfl (pc0 := 18) (pc' := 25) rfl (hb hby d8_18) (by decide) (by decide) kg) ?_
    show G (T2.setTop (mkF m 25 #[.val (.long x), .second, .val (.int (own_hi32 x))] [(.int ((32 : Int32) + (own_nlz (x.toInt32))))]))
    refine fin (some (.int ((32 : Int32) + (own_nlz (x.toInt32))))) X2 (fun h => absurd h (by decide)) (fun fs hr => retOut X2 hx hret rfl (Or.inl ⟨rfl, Or.inl rfl, _, rfl⟩) (hb hby d8_25) hr) (by decide) (by decide) ?_
    rw [e2]
    exact ⟨by simp only [own_nlz64, if_pos hc1], N2, rfl⟩
  · refine go (fun tg kg => XS.ifYes X0.here hx rfl (pc0 := 7) (pc' := 21) rfl (hb hby d8_7) rfl ((if0 _ _).trans (feq hc1).2) (by decide) (by decide) kg) ?_
    show G (s₁.setTop (mkF m 21 #[.val (.long x), .second, .val (.int (own_hi32 x))] []))
    refine go (fun tg kg => XS.iloadN X0.here hx rfl (hb hby d8_21) rfl kg) ?_
    show G (s₁.setTop (mkF m 22 #[.val (.long x), .second, .val (.int (own_hi32 x))] [(.int (own_hi32 x))]))
    obtain ⟨_, _, ⟨T3, L3, k3, n3⟩, -, X3, ⟨Lc3, hQ3, l3, y3, z3⟩, st3⟩ := Jvm.LawKit.callS X0 hx (y := (⟨"java/lang/Integer", "numberOfLeadingZeros", "(I)I"⟩ : MethodName)) hown (mvT hZ (hw _ (List.mem_of_getElem? (i := 44) rfl))) (mvT hZ (hw _ (List.mem_of_getElem? (i := 45) rfl))) (mvT hZ (hw _ (List.mem_of_getElem? (i := 46) rfl))) (mvT hZ (hw _ (List.mem_of_getElem? (i := 47) rfl))) (by decide) (backOf (W := 0) (rm_nlz l Z a0 hw [] (own_hi32 x) h0 n0 Z0 ) hZ (hw _ (List.mem_of_getElem? (i := 47) rfl)) (hw _ (List.mem_of_getElem? (i := 46) rfl)) (by decide) (by decide)) (g := (mkF m 22 #[.val (.long x), .second, .val (.int (own_hi32 x))] [(.int (own_hi32 x))])) rfl (by rw [hml]; rfl) (argsL := [(.int (own_hi32 x))]) (rest := []) (lenOf pd__I_I rfl) rfl (by show 2 * 0 + _ ≤ _; exact Nat.le_of_eq rfl) (hb hby d8_22) (fun _ _ => ⟨rfl, e0, (by decide : 0 + 0 ≤ _), (by decide : 0 + 0 ≤ _)⟩)
    dsimp only [Pt.U, Pt.locs, Pt.cells, Pt.slots] at X3 l3 y3 z3 st3 hQ3
    subst l3 y3 z3
    obtain ⟨rfl, Nq3, e3⟩ := hQ3
    have N3 := Fr.app N0 Nq3
    refine go st3 ?_
    show G (T3.setTop (mkF m 25 #[.val (.long x), .second, .val (.int (own_hi32 x))] [(.int (own_nlz (own_hi32 x)))]))
    refine fin (some (.int (own_nlz (own_hi32 x)))) X3 (fun h => absurd h (by decide)) (fun fs hr => retOut X3 hx hret rfl (Or.inl ⟨rfl, Or.inl rfl, _, rfl⟩) (hb hby d8_25) hr) (by decide) (by decide) ?_
    rw [e3]
    exact ⟨by simp only [own_nlz64, if_neg hc1], N3, rfl⟩
theorem pn_com_example_wary_commit_warycommit_LatencyHistogram : plainName "com/example/wary_commit/warycommit/LatencyHistogram" = true := by first | (simp [plainName, overriddenIn]; done) | decide +kernel
theorem ef_7 (m : MethodId) (x0 : Int64) : entryFrame m #[(.long x0)] 3 = mkF m 0 #[.val (.long x0), .second, .unset] [] := by first | (simp [entryFrame, mkF, argsToLocals, Value.category]; done) | rfl
theorem d7_0 : decode prog_19_method_6_code 0 = .ok (.iconst 0, 1) := by decide +kernel
theorem d7_1 : decode prog_19_method_6_code 1 = .ok (.bipush 64, 2) := by decide +kernel
theorem d7_3 : decode prog_19_method_6_code 3 = .ok (.lload_n 0, 1) := by decide +kernel
theorem d7_4 : decode prog_19_method_6_code 4 = .ok (.invokestatic 60, 3) := by decide +kernel
theorem pd__J_I : parseMethodDescriptor "(J)I" = some ⟨[.long], some .int⟩ := by decide +kernel
theorem d7_7 : decode prog_19_method_6_code 7 = .ok (.isub, 1) := by decide +kernel
theorem d7_8 : decode prog_19_method_6_code 8 = .ok (.bipush 8, 2) := by decide +kernel
theorem d7_10 : decode prog_19_method_6_code 10 = .ok (.isub, 1) := by decide +kernel
theorem d7_11 : decode prog_19_method_6_code 11 = .ok (.invokestatic 63, 3) := by decide +kernel
theorem pd__II_I : parseMethodDescriptor "(II)I" = some ⟨[.int, .int], some .int⟩ := by decide +kernel
theorem d7_14 : decode prog_19_method_6_code 14 = .ok (.istore_n 2, 1) := by decide +kernel
theorem d7_15 : decode prog_19_method_6_code 15 = .ok (.iload_n 2, 1) := by decide +kernel
theorem d7_16 : decode prog_19_method_6_code 16 = .ok (.bipush 7, 2) := by decide +kernel
theorem d7_18 : decode prog_19_method_6_code 18 = .ok (.ishl, 1) := by decide +kernel
theorem d7_19 : decode prog_19_method_6_code 19 = .ok (.lload_n 0, 1) := by decide +kernel
theorem d7_20 : decode prog_19_method_6_code 20 = .ok (.iload_n 2, 1) := by decide +kernel
theorem d7_21 : decode prog_19_method_6_code 21 = .ok (.lushr, 1) := by decide +kernel
theorem d7_22 : decode prog_19_method_6_code 22 = .ok (.l2i, 1) := by decide +kernel
theorem d7_23 : decode prog_19_method_6_code 23 = .ok (.iadd, 1) := by decide +kernel
theorem d7_24 : decode prog_19_method_6_code 24 = .ok (.ireturn, 1) := by decide +kernel
def Q_rm_ix (Z : State) (x : Int64) (h0 : Heap) (n0 : Nat) (v : Option Value) (h : Heap) (L : List Loc) : Prop := v = some (.int (own_ix x)) ∧ Fr n0 L ∧ h = h0
set_option maxRecDepth 65536 in
set_option maxHeartbeats 40000000 in
theorem rm_ix (l : Launch) (Z : State) (a0 : Array Value) (hw : ∀ d ∈ tables_1, d.before a0 Z = true) (ws : List Jvm.Cond) (x : Int64) (h0 : Heap) (n0 : Nat) (Z0 : n0 ≤ h0.size) :
    MetFree l (⟨"com/example/wary_commit/warycommit/LatencyHistogram", "indexOf", "(J)I"⟩ : MethodName) (head1 (Jvm.Cond.code (⟨"com/example/wary_commit/warycommit/LatencyHistogram", "indexOf", "(J)I"⟩ : MethodName) prog_19_method_6_code 3 (some .int) :: ws) ({ frames := 2, cells := 0, slots := 0, locals := 30 } : Room)) (fun a U => a = #[(.long x)] ∧ Z.Warmed39 U.vm ∧ U.heap = h0) (fun _ _ _ _ _ => True) (fun _ U o U' => ∃ v L, o = .returned v ∧ Q_rm_ix Z x h0 n0 v U'.heap L ∧ FrameEnd U o U' L ({ frames := 2, cells := 0, slots := 0, locals := 30 } : Room).cells ({ frames := 2, cells := 0, slots := 0, locals := 30 } : Room).slots) := by
  refine own_enter (Q := Q_rm_ix Z x h0 n0) (plainFor_of_name pn_com_example_wary_commit_warycommit_LatencyHistogram) ?_
  intro p e s m below meth c s₁ G X0 hx hby hml hZ hown hnm hret e0 go fin
  replace hown : s.vm.findClass "com/example/wary_commit/warycommit/LatencyHistogram" = some m.cls := hown
  replace hnm : meth.name = "indexOf" := hnm
  replace hml : c.maxLocals = 3 := hml
  rw [ef_7 m x]
  have N0 := Fr.nil n0
  show G (s₁.setTop (mkF m 0 #[.val (.long x), .second, .unset] []))
  refine go (fun tg kg => XS.iconst X0.here hx rfl (hb hby d7_0) kg) ?_
  show G (s₁.setTop (mkF m 1 #[.val (.long x), .second, .unset] [(.int (0 : Int32))]))
  refine go (fun tg kg => XS.bipush X0.here hx rfl (hb hby d7_1) kg) ?_
  show G (s₁.setTop (mkF m 3 #[.val (.long x), .second, .unset] [(.int (64 : Int32)), (.int (0 : Int32))]))
  refine go (fun tg kg => XS.lloadN X0.here hx rfl (hb hby d7_3) rfl kg) ?_
  show G (s₁.setTop (mkF m 4 #[.val (.long x), .second, .unset] [(.long x), (.int (64 : Int32)), (.int (0 : Int32))]))
  obtain ⟨_, _, ⟨T1, L1, k1, n1⟩, -, X1, ⟨Lc1, hQ1, l1, y1, z1⟩, st1⟩ := Jvm.LawKit.callS X0 hx (y := (⟨"java/lang/Long", "numberOfLeadingZeros", "(J)I"⟩ : MethodName)) hown (mvT hZ (hw _ (List.mem_of_getElem? (i := 40) rfl))) (mvT hZ (hw _ (List.mem_of_getElem? (i := 41) rfl))) (mvT hZ (hw _ (List.mem_of_getElem? (i := 42) rfl))) (mvT hZ (hw _ (List.mem_of_getElem? (i := 43) rfl))) (by decide) (backOf (W := 2) (rm_nlz64 l Z a0 hw [] x h0 n0 Z0 ) hZ (hw _ (List.mem_of_getElem? (i := 43) rfl)) (hw _ (List.mem_of_getElem? (i := 42) rfl)) (by decide) (by decide)) (g := (mkF m 4 #[.val (.long x), .second, .unset] [(.long x), (.int (64 : Int32)), (.int (0 : Int32))])) rfl (by rw [hml]; rfl) (argsL := [(.long x)]) (rest := [(.int (64 : Int32)), (.int (0 : Int32))]) (lenOf pd__J_I rfl) rfl (by show 2 * 0 + _ ≤ _; exact Nat.le_of_eq rfl) (hb hby d7_4) (fun _ _ => ⟨rfl, e0, (by decide : 0 + 0 ≤ _), (by decide : 0 + 0 ≤ _)⟩)
  dsimp only [Pt.U, Pt.locs, Pt.cells, Pt.slots] at X1 l1 y1 z1 st1 hQ1
  subst l1 y1 z1
  obtain ⟨rfl, Nq1, e1⟩ := hQ1
  have N1 := Fr.app N0 Nq1
  refine go st1 ?_
  show G (T1.setTop (mkF m 7 #[.val (.long x), .second, .unset] [(.int (own_nlz64 x)), (.int (64 : Int32)), (.int (0 : Int32))]))
  refine go (fun tg kg => XS.isub X1.here hx rfl (hb hby d7_7) rfl kg) ?_
  show G (T1.setTop (mkF m 8 #[.val (.long x), .second, .unset] [(.int ((64 : Int32) - (own_nlz64 x))), (.int (0 : Int32))]))
  refine go (fun tg kg => XS.bipush X1.here hx rfl (hb hby d7_8) kg) ?_
  show G (T1.setTop (mkF m 10 #[.val (.long x), .second, .unset] [(.int (8 : Int32)), (.int ((64 : Int32) - (own_nlz64 x))), (.int (0 : Int32))]))
  refine go (fun tg kg => XS.isub X1.here hx rfl (hb hby d7_10) rfl kg) ?_
  show G (T1.setTop (mkF m 11 #[.val (.long x), .second, .unset] [(.int (((64 : Int32) - (own_nlz64 x)) - (8 : Int32))), (.int (0 : Int32))]))
  obtain ⟨_, _, ⟨T2, L2, k2, n2⟩, -, X2, ⟨Lc2, hQ2, l2, y2, z2⟩, st2⟩ := Jvm.LawKit.callS X1 hx (y := (⟨"java/lang/Math", "max", "(II)I"⟩ : MethodName)) hown (mvT hZ (hw _ (List.mem_of_getElem? (i := 49) rfl))) (mvT hZ (hw _ (List.mem_of_getElem? (i := 50) rfl))) (mvT hZ (hw _ (List.mem_of_getElem? (i := 25) rfl))) (mvT hZ (hw _ (List.mem_of_getElem? (i := 51) rfl))) (by decide) (backOf (W := 0) (rm_max l Z a0 hw [] (0 : Int32) (((64 : Int32) - (own_nlz64 x)) - (8 : Int32)) h0 n0 Z0 ) hZ (hw _ (List.mem_of_getElem? (i := 51) rfl)) (hw _ (List.mem_of_getElem? (i := 25) rfl)) (by decide) (by decide)) (g := (mkF m 11 #[.val (.long x), .second, .unset] [(.int (((64 : Int32) - (own_nlz64 x)) - (8 : Int32))), (.int (0 : Int32))])) rfl (by rw [hml]; rfl) (argsL := [(.int (0 : Int32)), (.int (((64 : Int32) - (own_nlz64 x)) - (8 : Int32)))]) (rest := []) (lenOf pd__II_I rfl) rfl (by show 2 * 0 + _ ≤ _; exact Nat.le_of_eq rfl) (hb hby d7_11) (fun _ _ => ⟨rfl, e1, (by decide : 0 + 0 ≤ _), (by decide : 0 + 0 ≤ _)⟩)
  dsimp only [Pt.U, Pt.locs, Pt.cells, Pt.slots] at X2 l2 y2 z2 st2 hQ2
  subst l2 y2 z2
  obtain ⟨rfl, Nq2, e2⟩ := hQ2
  have N2 := Fr.app N1 Nq2
  refine go st2 ?_
  show G (T2.setTop (mkF m 14 #[.val (.long x), .second, .unset] [(.int (own_max (0 : Int32) (((64 : Int32) - (own_nlz64 x)) - (8 : Int32))))]))
  refine go (fun tg kg => XS.istoreN X2.here hx rfl (hb hby d7_14) rfl (l' := #[.val (.long x), .second, .val (.int (own_max (0 : Int32) (((64 : Int32) - (own_nlz64 x)) - (8 : Int32))))]) rfl kg) ?_
  show G (T2.setTop (mkF m 15 #[.val (.long x), .second, .val (.int (own_max (0 : Int32) (((64 : Int32) - (own_nlz64 x)) - (8 : Int32))))] []))
  show G (T2.setTop (mkF m 15 #[.val (.long x), .second, .val (.int (own_shf x))] []))
  refine go (fun tg kg => XS.iloadN X2.here hx rfl (hb hby d7_15) rfl kg) ?_
  show G (T2.setTop (mkF m 16 #[.val (.long x), .second, .val (.int (own_shf x))] [(.int (own_shf x))]))
  refine go (fun tg kg => XS.bipush X2.here hx rfl (hb hby d7_16) kg) ?_
  show G (T2.setTop (mkF m 18 #[.val (.long x), .second, .val (.int (own_shf x))] [(.int (7 : Int32)), (.int (own_shf x))]))
  refine go (fun tg kg => XS.ishl X2.here hx rfl (hb hby d7_18) rfl kg) ?_
  show G (T2.setTop (mkF m 19 #[.val (.long x), .second, .val (.int (own_shf x))] [(.int ((own_shf x) <<< ((7 : Int32) &&& 31)))]))
  refine go (fun tg kg => XS.lloadN X2.here hx rfl (hb hby d7_19) rfl kg) ?_
  show G (T2.setTop (mkF m 20 #[.val (.long x), .second, .val (.int (own_shf x))] [(.long x), (.int ((own_shf x) <<< ((7 : Int32) &&& 31)))]))
  refine go (fun tg kg => XS.iloadN X2.here hx rfl (hb hby d7_20) rfl kg) ?_
  show G (T2.setTop (mkF m 21 #[.val (.long x), .second, .val (.int (own_shf x))] [(.int (own_shf x)), (.long x), (.int ((own_shf x) <<< ((7 : Int32) &&& 31)))]))
  refine go (fun tg kg => XS.lushr X2.here hx rfl (hb hby d7_21) rfl kg) ?_
  show G (T2.setTop (mkF m 22 #[.val (.long x), .second, .val (.int (own_shf x))] [(.long ((x.toUInt64 >>> ((own_shf x) &&& 0x3f).toInt64.toUInt64).toInt64)), (.int ((own_shf x) <<< ((7 : Int32) &&& 31)))]))
  refine go (fun tg kg => XS.l2i X2.here hx rfl (hb hby d7_22) rfl kg) ?_
  show G (T2.setTop (mkF m 23 #[.val (.long x), .second, .val (.int (own_shf x))] [(.int (((x.toUInt64 >>> ((own_shf x) &&& 0x3f).toInt64.toUInt64).toInt64).toInt32)), (.int ((own_shf x) <<< ((7 : Int32) &&& 31)))]))
  refine go (fun tg kg => XS.iadd X2.here hx rfl (hb hby d7_23) rfl kg) ?_
  show G (T2.setTop (mkF m 24 #[.val (.long x), .second, .val (.int (own_shf x))] [(.int (((own_shf x) <<< ((7 : Int32) &&& 31)) + (((x.toUInt64 >>> ((own_shf x) &&& 0x3f).toInt64.toUInt64).toInt64).toInt32)))]))
  refine fin (some (.int (((own_shf x) <<< ((7 : Int32) &&& 31)) + (((x.toUInt64 >>> ((own_shf x) &&& 0x3f).toInt64.toUInt64).toInt64).toInt32)))) X2 (fun h => absurd h (by decide)) (fun fs hr => retOut X2 hx hret rfl (Or.inl ⟨rfl, Or.inl rfl, _, rfl⟩) (hb hby d7_24) hr) (by decide) (by decide) ?_
  rw [e2]
  exact ⟨rfl, N2, rfl⟩
theorem ef_12 (m : MethodId) (x0 : Int32) : entryFrame m #[(.int x0)] 4 = mkF m 0 #[.val (.int x0), .unset, .unset, .unset] [] := by first | (simp [entryFrame, mkF, argsToLocals, Value.category]; done) | rfl
theorem d12_0 : decode prog_19_method_7_code 0 = .ok (.iconst 0, 1) := by decide +kernel
theorem d12_1 : decode prog_19_method_7_code 1 = .ok (.iload_n 0, 1) := by decide +kernel
theorem d12_2 : decode prog_19_method_7_code 2 = .ok (.bipush 7, 2) := by decide +kernel
theorem d12_4 : decode prog_19_method_7_code 4 = .ok (.ishr, 1) := by decide +kernel
theorem d12_5 : decode prog_19_method_7_code 5 = .ok (.iconst 1, 1) := by decide +kernel
theorem d12_6 : decode prog_19_method_7_code 6 = .ok (.isub, 1) := by decide +kernel
theorem d12_7 : decode prog_19_method_7_code 7 = .ok (.invokestatic 63, 3) := by decide +kernel
theorem d12_10 : decode prog_19_method_7_code 10 = .ok (.istore_n 1, 1) := by decide +kernel
theorem d12_11 : decode prog_19_method_7_code 11 = .ok (.iload_n 0, 1) := by decide +kernel
theorem d12_12 : decode prog_19_method_7_code 12 = .ok (.i2l, 1) := by decide +kernel
theorem d12_13 : decode prog_19_method_7_code 13 = .ok (.iload_n 1, 1) := by decide +kernel
theorem d12_14 : decode prog_19_method_7_code 14 = .ok (.i2l, 1) := by decide +kernel
theorem d12_15 : decode prog_19_method_7_code 15 = .ok (.bipush 7, 2) := by decide +kernel
theorem d12_17 : decode prog_19_method_7_code 17 = .ok (.lshl, 1) := by decide +kernel
theorem d12_18 : decode prog_19_method_7_code 18 = .ok (.lsub, 1) := by decide +kernel
theorem d12_19 : decode prog_19_method_7_code 19 = .ok (.lstore_n 2, 1) := by decide +kernel
theorem d12_20 : decode prog_19_method_7_code 20 = .ok (.lload_n 2, 1) := by decide +kernel
theorem d12_21 : decode prog_19_method_7_code 21 = .ok (.lconst 1, 1) := by decide +kernel
theorem d12_22 : decode prog_19_method_7_code 22 = .ok (.ladd, 1) := by decide +kernel
theorem d12_23 : decode prog_19_method_7_code 23 = .ok (.iload_n 1, 1) := by decide +kernel
theorem d12_24 : decode prog_19_method_7_code 24 = .ok (.lshl, 1) := by decide +kernel
theorem d12_25 : decode prog_19_method_7_code 25 = .ok (.lconst 1, 1) := by decide +kernel
theorem d12_26 : decode prog_19_method_7_code 26 = .ok (.lsub, 1) := by decide +kernel
theorem d12_27 : decode prog_19_method_7_code 27 = .ok (.lreturn, 1) := by decide +kernel
def Q_rm_high (Z : State) (x : Int32) (h0 : Heap) (n0 : Nat) (v : Option Value) (h : Heap) (L : List Loc) : Prop := v = some (.long (own_high x)) ∧ Fr n0 L ∧ h = h0
set_option maxRecDepth 65536 in
set_option maxHeartbeats 40000000 in
theorem rm_high (l : Launch) (Z : State) (a0 : Array Value) (hw : ∀ d ∈ tables_1, d.before a0 Z = true) (ws : List Jvm.Cond) (x : Int32) (h0 : Heap) (n0 : Nat) (Z0 : n0 ≤ h0.size) :
    MetFree l (⟨"com/example/wary_commit/warycommit/LatencyHistogram", "highestOf", "(I)J"⟩ : MethodName) (head1 (Jvm.Cond.code (⟨"com/example/wary_commit/warycommit/LatencyHistogram", "highestOf", "(I)J"⟩ : MethodName) prog_19_method_7_code 4 (some .long) :: ws) ({ frames := 1, cells := 0, slots := 0, locals := 13 } : Room)) (fun a U => a = #[(.int x)] ∧ Z.Warmed39 U.vm ∧ U.heap = h0) (fun _ _ _ _ _ => True) (fun _ U o U' => ∃ v L, o = .returned v ∧ Q_rm_high Z x h0 n0 v U'.heap L ∧ FrameEnd U o U' L ({ frames := 1, cells := 0, slots := 0, locals := 13 } : Room).cells ({ frames := 1, cells := 0, slots := 0, locals := 13 } : Room).slots) := by
  refine own_enter (Q := Q_rm_high Z x h0 n0) (plainFor_of_name pn_com_example_wary_commit_warycommit_LatencyHistogram) ?_
  intro p e s m below meth c s₁ G X0 hx hby hml hZ hown hnm hret e0 go fin
  replace hown : s.vm.findClass "com/example/wary_commit/warycommit/LatencyHistogram" = some m.cls := hown
  replace hnm : meth.name = "highestOf" := hnm
  replace hml : c.maxLocals = 4 := hml
  rw [ef_12 m x]
  have N0 := Fr.nil n0
  show G (s₁.setTop (mkF m 0 #[.val (.int x), .unset, .unset, .unset] []))
  refine go (fun tg kg => XS.iconst X0.here hx rfl (hb hby d12_0) kg) ?_
  show G (s₁.setTop (mkF m 1 #[.val (.int x), .unset, .unset, .unset] [(.int (0 : Int32))]))
  refine go (fun tg kg => XS.iloadN X0.here hx rfl (hb hby d12_1) rfl kg) ?_
  show G (s₁.setTop (mkF m 2 #[.val (.int x), .unset, .unset, .unset] [(.int x), (.int (0 : Int32))]))
  refine go (fun tg kg => XS.bipush X0.here hx rfl (hb hby d12_2) kg) ?_
  show G (s₁.setTop (mkF m 4 #[.val (.int x), .unset, .unset, .unset] [(.int (7 : Int32)), (.int x), (.int (0 : Int32))]))
  refine go (fun tg kg => XS.ishr X0.here hx rfl (hb hby d12_4) rfl kg) ?_
  show G (s₁.setTop (mkF m 5 #[.val (.int x), .unset, .unset, .unset] [(.int (x >>> ((7 : Int32) &&& 31))), (.int (0 : Int32))]))
  refine go (fun tg kg => XS.iconst X0.here hx rfl (hb hby d12_5) kg) ?_
  show G (s₁.setTop (mkF m 6 #[.val (.int x), .unset, .unset, .unset] [(.int (1 : Int32)), (.int (x >>> ((7 : Int32) &&& 31))), (.int (0 : Int32))]))
  refine go (fun tg kg => XS.isub X0.here hx rfl (hb hby d12_6) rfl kg) ?_
  show G (s₁.setTop (mkF m 7 #[.val (.int x), .unset, .unset, .unset] [(.int ((x >>> ((7 : Int32) &&& 31)) - (1 : Int32))), (.int (0 : Int32))]))
  obtain ⟨_, _, ⟨T1, L1, k1, n1⟩, -, X1, ⟨Lc1, hQ1, l1, y1, z1⟩, st1⟩ := Jvm.LawKit.callS X0 hx (y := (⟨"java/lang/Math", "max", "(II)I"⟩ : MethodName)) hown (mvT hZ (hw _ (List.mem_of_getElem? (i := 49) rfl))) (mvT hZ (hw _ (List.mem_of_getElem? (i := 50) rfl))) (mvT hZ (hw _ (List.mem_of_getElem? (i := 25) rfl))) (mvT hZ (hw _ (List.mem_of_getElem? (i := 51) rfl))) (by decide) (backOf (W := 0) (rm_max l Z a0 hw [] (0 : Int32) ((x >>> ((7 : Int32) &&& 31)) - (1 : Int32)) h0 n0 Z0 ) hZ (hw _ (List.mem_of_getElem? (i := 51) rfl)) (hw _ (List.mem_of_getElem? (i := 25) rfl)) (by decide) (by decide)) (g := (mkF m 7 #[.val (.int x), .unset, .unset, .unset] [(.int ((x >>> ((7 : Int32) &&& 31)) - (1 : Int32))), (.int (0 : Int32))])) rfl (by rw [hml]; rfl) (argsL := [(.int (0 : Int32)), (.int ((x >>> ((7 : Int32) &&& 31)) - (1 : Int32)))]) (rest := []) (lenOf pd__II_I rfl) rfl (by show 2 * 0 + _ ≤ _; exact Nat.le_of_eq rfl) (hb hby d12_7) (fun _ _ => ⟨rfl, e0, (by decide : 0 + 0 ≤ _), (by decide : 0 + 0 ≤ _)⟩)
  dsimp only [Pt.U, Pt.locs, Pt.cells, Pt.slots] at X1 l1 y1 z1 st1 hQ1
  subst l1 y1 z1
  obtain ⟨rfl, Nq1, e1⟩ := hQ1
  have N1 := Fr.app N0 Nq1
  refine go st1 ?_
  show G (T1.setTop (mkF m 10 #[.val (.int x), .unset, .unset, .unset] [(.int (own_max (0 : Int32) ((x >>> ((7 : Int32) &&& 31)) - (1 : Int32))))]))
  refine go (fun tg kg => XS.istoreN X1.here hx rfl (hb hby d12_10) rfl (l' := #[.val (.int x), .val (.int (own_max (0 : Int32) ((x >>> ((7 : Int32) &&& 31)) - (1 : Int32)))), .unset, .unset]) rfl kg) ?_
  show G (T1.setTop (mkF m 11 #[.val (.int x), .val (.int (own_max (0 : Int32) ((x >>> ((7 : Int32) &&& 31)) - (1 : Int32)))), .unset, .unset] []))
  show G (T1.setTop (mkF m 11 #[.val (.int x), .val (.int (own_hsh x)), .unset, .unset] []))
  refine go (fun tg kg => XS.iloadN X1.here hx rfl (hb hby d12_11) rfl kg) ?_
  show G (T1.setTop (mkF m 12 #[.val (.int x), .val (.int (own_hsh x)), .unset, .unset] [(.int x)]))
  refine go (fun tg kg => XS.i2l X1.here hx rfl (hb hby d12_12) rfl kg) ?_
  show G (T1.setTop (mkF m 13 #[.val (.int x), .val (.int (own_hsh x)), .unset, .unset] [(.long (x.toInt64))]))
  refine go (fun tg kg => XS.iloadN X1.here hx rfl (hb hby d12_13) rfl kg) ?_
  show G (T1.setTop (mkF m 14 #[.val (.int x), .val (.int (own_hsh x)), .unset, .unset] [(.int (own_hsh x)), (.long (x.toInt64))]))
  refine go (fun tg kg => XS.i2l X1.here hx rfl (hb hby d12_14) rfl kg) ?_
  show G (T1.setTop (mkF m 15 #[.val (.int x), .val (.int (own_hsh x)), .unset, .unset] [(.long ((own_hsh x).toInt64)), (.long (x.toInt64))]))
  refine go (fun tg kg => XS.bipush X1.here hx rfl (hb hby d12_15) kg) ?_
  show G (T1.setTop (mkF m 17 #[.val (.int x), .val (.int (own_hsh x)), .unset, .unset] [(.int (7 : Int32)), (.long ((own_hsh x).toInt64)), (.long (x.toInt64))]))
  refine go (fun tg kg => XS.lshl X1.here hx rfl (hb hby d12_17) rfl kg) ?_
  show G (T1.setTop (mkF m 18 #[.val (.int x), .val (.int (own_hsh x)), .unset, .unset] [(.long (((own_hsh x).toInt64) <<< ((7 : Int32) &&& 0x3f).toInt64)), (.long (x.toInt64))]))
  refine go (fun tg kg => XS.lsub X1.here hx rfl (hb hby d12_18) rfl kg) ?_
  show G (T1.setTop (mkF m 19 #[.val (.int x), .val (.int (own_hsh x)), .unset, .unset] [(.long ((x.toInt64) - (((own_hsh x).toInt64) <<< ((7 : Int32) &&& 0x3f).toInt64)))]))
  refine go (fun tg kg => XS.lstoreN X1.here hx rfl (hb hby d12_19) rfl (l' := #[.val (.int x), .val (.int (own_hsh x)), .val (.long ((x.toInt64) - (((own_hsh x).toInt64) <<< ((7 : Int32) &&& 0x3f).toInt64))), .second]) rfl kg) ?_
  show G (T1.setTop (mkF m 20 #[.val (.int x), .val (.int (own_hsh x)), .val (.long ((x.toInt64) - (((own_hsh x).toInt64) <<< ((7 : Int32) &&& 0x3f).toInt64))), .second] []))
  show G (T1.setTop (mkF m 20 #[.val (.int x), .val (.int (own_hsh x)), .val (.long (own_hlo x)), .second] []))
  refine go (fun tg kg => XS.lloadN X1.here hx rfl (hb hby d12_20) rfl kg) ?_
  show G (T1.setTop (mkF m 21 #[.val (.int x), .val (.int (own_hsh x)), .val (.long (own_hlo x)), .second] [(.long (own_hlo x))]))
  refine go (fun tg kg => XS.lconst X1.here hx rfl (hb hby d12_21) kg) ?_
  show G (T1.setTop (mkF m 22 #[.val (.int x), .val (.int (own_hsh x)), .val (.long (own_hlo x)), .second] [(.long (1 : Int64)), (.long (own_hlo x))]))
  refine go (fun tg kg => XS.ladd X1.here hx rfl (hb hby d12_22) rfl kg) ?_
  show G (T1.setTop (mkF m 23 #[.val (.int x), .val (.int (own_hsh x)), .val (.long (own_hlo x)), .second] [(.long ((own_hlo x) + (1 : Int64)))]))
  refine go (fun tg kg => XS.iloadN X1.here hx rfl (hb hby d12_23) rfl kg) ?_
  show G (T1.setTop (mkF m 24 #[.val (.int x), .val (.int (own_hsh x)), .val (.long (own_hlo x)), .second] [(.int (own_hsh x)), (.long ((own_hlo x) + (1 : Int64)))]))
  refine go (fun tg kg => XS.lshl X1.here hx rfl (hb hby d12_24) rfl kg) ?_
  show G (T1.setTop (mkF m 25 #[.val (.int x), .val (.int (own_hsh x)), .val (.long (own_hlo x)), .second] [(.long (((own_hlo x) + (1 : Int64)) <<< ((own_hsh x) &&& 0x3f).toInt64))]))
  refine go (fun tg kg => XS.lconst X1.here hx rfl (hb hby d12_25) kg) ?_
  show G (T1.setTop (mkF m 26 #[.val (.int x), .val (.int (own_hsh x)), .val (.long (own_hlo x)), .second] [(.long (1 : Int64)), (.long (((own_hlo x) + (1 : Int64)) <<< ((own_hsh x) &&& 0x3f).toInt64))]))
  refine go (fun tg kg => XS.lsub X1.here hx rfl (hb hby d12_26) rfl kg) ?_
  show G (T1.setTop (mkF m 27 #[.val (.int x), .val (.int (own_hsh x)), .val (.long (own_hlo x)), .second] [(.long ((((own_hlo x) + (1 : Int64)) <<< ((own_hsh x) &&& 0x3f).toInt64) - (1 : Int64)))]))
  refine fin (some (.long ((((own_hlo x) + (1 : Int64)) <<< ((own_hsh x) &&& 0x3f).toInt64) - (1 : Int64)))) X1 (fun h => absurd h (by decide)) (fun fs hr => retOut X1 hx hret rfl (Or.inr (Or.inl ⟨rfl, rfl, _, rfl⟩)) (hb hby d12_27) hr) (by decide) (by decide) ?_
  rw [e1]
  exact ⟨rfl, N1, rfl⟩
theorem ef_1 (m : MethodId) (x0 : Addr) : entryFrame m #[(.ref x0)] 1 = mkF m 0 #[.val (.ref x0)] [] := by first | (simp [entryFrame, mkF, argsToLocals, Value.category]; done) | rfl
theorem d1_0 : decode prog_19_method_1_code 0 = .ok (.aload_n 0, 1) := by decide +kernel
theorem d1_1 : decode prog_19_method_1_code 1 = .ok (.invokespecial 5, 3) := by decide +kernel
theorem d1_4 : decode prog_19_method_1_code 4 = .ok (.aload_n 0, 1) := by decide +kernel
theorem d1_5 : decode prog_19_method_1_code 5 = .ok (.sipush 7296, 3) := by decide +kernel
theorem d1_8 : decode prog_19_method_1_code 8 = .ok (.newarray .long, 2) := by decide +kernel
theorem d1_10 : decode prog_19_method_1_code 10 = .ok (.putfield 11, 3) := by decide +kernel
theorem d1_13 : decode prog_19_method_1_code 13 = .ok (.return_, 1) := by decide +kernel
def Q_rm1 (Z : State) (ob : Addr) (h0 : Heap) (n0 : Nat) (v : Option Value) (h : Heap) (L : List Loc) : Prop := v = none ∧ ∃ ca, Fr n0 L ∧ Keep h0 h [ob] ∧ h0.size ≤ ca ∧ n0 ≤ ca ∧ Exa Z h ob "com/example/wary_commit/warycommit/LatencyHistogram" ∧ Fld Z h ob "com/example/wary_commit/warycommit/LatencyHistogram" "counts" "[J" (.ref ca) ∧ Fld Z h ob "com/example/wary_commit/warycommit/LatencyHistogram" "total" "J" (.long (0 : Int64)) ∧ Fld Z h ob "com/example/wary_commit/warycommit/LatencyHistogram" "longest" "J" (.long (0 : Int64)) ∧ own_Al Z h ca own_z
set_option maxRecDepth 65536 in
set_option maxHeartbeats 40000000 in
theorem rm1 (l : Launch) (Z : State) (a0 : Array Value) (hw : ∀ d ∈ tables_1, d.before a0 Z = true) (ws : List Jvm.Cond) (ob : Addr) (h0 : Heap) (n0 : Nat) (Z0 : n0 ≤ h0.size) (Ex : Exa Z h0 ob "com/example/wary_commit/warycommit/LatencyHistogram") (g0 : n0 ≤ ob) (Fc : Fld Z h0 ob "com/example/wary_commit/warycommit/LatencyHistogram" "counts" "[J" .null) (Ft : Fld Z h0 ob "com/example/wary_commit/warycommit/LatencyHistogram" "total" "J" (.long (0 : Int64))) (Fl : Fld Z h0 ob "com/example/wary_commit/warycommit/LatencyHistogram" "longest" "J" (.long (0 : Int64))) :
    MetFree l (⟨"com/example/wary_commit/warycommit/LatencyHistogram", "<init>", "()V"⟩ : MethodName) (head1 (Jvm.Cond.code (⟨"com/example/wary_commit/warycommit/LatencyHistogram", "<init>", "()V"⟩ : MethodName) prog_19_method_1_code 1 none :: ws) ({ frames := 1, cells := 1, slots := 7296, locals := 12 } : Room)) (fun a U => a = #[(.ref ob)] ∧ Z.Warmed39 U.vm ∧ U.heap = h0) (fun _ _ _ _ _ => True) (fun _ U o U' => ∃ v L, o = .returned v ∧ Q_rm1 Z ob h0 n0 v U'.heap L ∧ FrameEnd U o U' L ({ frames := 1, cells := 1, slots := 7296, locals := 12 } : Room).cells ({ frames := 1, cells := 1, slots := 7296, locals := 12 } : Room).slots) := by
  refine own_enter (Q := Q_rm1 Z ob h0 n0) (plainFor_of_name pn_com_example_wary_commit_warycommit_LatencyHistogram) ?_
  intro p e s m below meth c s₁ G X0 hx hby hml hZ hown hnm hret e0 go fin
  replace hown : s.vm.findClass "com/example/wary_commit/warycommit/LatencyHistogram" = some m.cls := hown
  replace hnm : meth.name = "<init>" := hnm
  replace hml : c.maxLocals = 1 := hml
  rw [ef_1 m ob]
  have N0 := Fr.nil n0
  show G (s₁.setTop (mkF m 0 #[.val (.ref ob)] []))
  refine go (fun tg kg => XS.aloadN X0.here hx rfl (hb hby d1_0) rfl rfl kg) ?_
  show G (s₁.setTop (mkF m 1 #[.val (.ref ob)] [(.ref ob)]))
  obtain ⟨T1, X1, e1, st1⟩ := initO X0 hx hZ hown (hw _ (List.mem_of_getElem? (i := 8) rfl)) (hw _ (List.mem_of_getElem? (i := 9) rfl)) (hw _ (List.mem_of_getElem? (i := 10) rfl)) e0 (g := (mkF m 1 #[.val (.ref ob)] [(.ref ob)])) rfl (by rw [hml]; rfl) rfl (hb hby d1_1) (by decide) (W := 0) (by show 2 * 0 + _ ≤ _; exact Nat.le_of_eq rfl) (by decide)
  refine go st1 ?_
  show G (T1.setTop (mkF m 4 #[.val (.ref ob)] []))
  refine go (fun tg kg => XS.aloadN X1.here hx rfl (hb hby d1_4) rfl rfl kg) ?_
  show G (T1.setTop (mkF m 5 #[.val (.ref ob)] [(.ref ob)]))
  refine go (fun tg kg => XS.sipush X1.here hx rfl (hb hby d1_5) kg) ?_
  show G (T1.setTop (mkF m 8 #[.val (.ref ob)] [(.int (7296 : Int32)), (.ref ob)]))
  obtain ⟨T2, h2, k2, X2, e2, E2, A2, st2⟩ := newP X1 hx hZ (hw _ (List.mem_of_getElem? (i := 11) rfl)) e1 (g := (mkF m 8 #[.val (.ref ob)] [(.int (7296 : Int32)), (.ref ob)])) rfl (hb hby d1_8) rfl (by decide) (cap := 7296) (by decide) (by decide) (by decide) (by decide)
  obtain ⟨b2, g2⟩ : ∃ z, z = h0.size := ⟨_, rfl⟩
  rw [← g2] at A2 st2
  refine go st2 ?_
  have V2 : Arv Z h2 b2 k2 .long (7296 : Int32) [] (.long (0 : Int64)) := Arv.new A2 (by decide)
  have ge_b2 : n0 ≤ b2 := Nat.le_trans Z0 (Nat.le_of_eq g2.symm)
  have sz_b2 : h0.size ≤ b2 := Nat.le_trans (Keep.refl h0 [ob]).1 (Nat.le_of_eq g2.symm)
  have K2 : Keep h0 h2 [ob] := (Keep.refl h0 [ob]).ext E2
  have Z2 := Nat.le_trans Z0 E2.1
  show G (T2.setTop (mkF m 10 #[.val (.ref ob)] [(.ref b2), (.ref ob)]))
  have Fa3 := (Ex.ext E2)
  have Fa4 := (Fc.ext E2)
  obtain ⟨T5, h5, X5, e5, W5, st5⟩ := putF X2 hx hZ hown (host := "") (Or.inl (hw _ (List.mem_of_getElem? (i := 12) rfl))) Via.refl e2 Fa4 Fa3 (Or.inr ⟨(hw _ (List.mem_of_getElem? (i := 13) rfl)), rfl, hnm⟩) (hw _ (List.mem_of_getElem? (i := 3) rfl)) (ty := (.array .long)) (by decide) rfl rfl (g := (mkF m 10 #[.val (.ref ob)] [(.ref b2), (.ref ob)])) rfl rfl (hb hby d1_10)
  refine go st5 ?_
  have Fw5 : Fld Z h5 ob "com/example/wary_commit/warycommit/LatencyHistogram" "counts" "[J" (.ref b2) := Fa4.same W5
  have N5 := Fr.snoc X5 N0 g0
  have K5 : Keep h0 h5 [ob] := K2.wr W5 (Or.inl (List.mem_of_getElem? (i := 0) rfl))
  have Z5 := Nat.le_trans Z2 (Keep.of_wr W5).1
  show G (T5.setTop (mkF m 13 #[.val (.ref ob)] []))
  refine fin (none) X5 (fun h => rfl) (fun fs hr => X5.returnOut hx hret (hb hby d1_13) hr) (by decide) (by decide) ?_
  rw [e5]
  have Fa6 := (Fa3.wr W5)
  have Fa7 := ((Ft.ext E2).other W5 (Or.inr (slot_ne (Or.inl (hw _ (List.mem_of_getElem? (i := 20) rfl))) (Or.inr (hw _ (List.mem_of_getElem? (i := 13) rfl))) (by decide) (t := .long) (t' := (.array .long)) (by decide) (by decide))))
  have Fa8 := ((Fl.ext E2).other W5 (Or.inr (slot_ne (Or.inl (hw _ (List.mem_of_getElem? (i := 22) rfl))) (Or.inr (hw _ (List.mem_of_getElem? (i := 13) rfl))) (by decide) (t := .long) (t' := (.array .long)) (by decide) (by decide))))
  have Fa9 := (V2.other W5 (Ne.symm (Nat.ne_of_lt (Nat.lt_of_lt_of_le Fl.lt (Nat.le_of_eq g2.symm)))))
  exact ⟨rfl, b2, N5, K5, sz_b2, ge_b2, Fa6, Fw5, Fa7, Fa8, own_new Fa9⟩
theorem ef_5 (m : MethodId) (x0 : Addr) : entryFrame m #[(.ref x0)] 1 = mkF m 0 #[.val (.ref x0)] [] := by first | (simp [entryFrame, mkF, argsToLocals, Value.category]; done) | rfl
theorem d5_0 : decode prog_19_method_4_code 0 = .ok (.aload_n 0, 1) := by decide +kernel
theorem d5_1 : decode prog_19_method_4_code 1 = .ok (.getfield 32, 3) := by decide +kernel
theorem d5_4 : decode prog_19_method_4_code 4 = .ok (.lreturn, 1) := by decide +kernel
def Q_rm5 (Z : State) (ob : Addr) (yl : Int64) (h0 : Heap) (n0 : Nat) (v : Option Value) (h : Heap) (L : List Loc) : Prop := v = some (.long yl) ∧ Fr n0 L ∧ h = h0
set_option maxRecDepth 65536 in
set_option maxHeartbeats 40000000 in
theorem rm5 (l : Launch) (Z : State) (a0 : Array Value) (hw : ∀ d ∈ tables_1, d.before a0 Z = true) (ws : List Jvm.Cond) (ob : Addr) (yl : Int64) (h0 : Heap) (n0 : Nat) (Z0 : n0 ≤ h0.size) (Fl : Fld Z h0 ob "com/example/wary_commit/warycommit/LatencyHistogram" "longest" "J" (.long yl)) :
    MetFree l (⟨"com/example/wary_commit/warycommit/LatencyHistogram", "longest", "()J"⟩ : MethodName) (head1 (Jvm.Cond.code (⟨"com/example/wary_commit/warycommit/LatencyHistogram", "longest", "()J"⟩ : MethodName) prog_19_method_4_code 1 (some .long) :: ws) ({ frames := 0, cells := 0, slots := 0, locals := 0 } : Room)) (fun a U => a = #[(.ref ob)] ∧ Z.Warmed39 U.vm ∧ U.heap = h0) (fun _ _ _ _ _ => True) (fun _ U o U' => ∃ v L, o = .returned v ∧ Q_rm5 Z ob yl h0 n0 v U'.heap L ∧ FrameEnd U o U' L ({ frames := 0, cells := 0, slots := 0, locals := 0 } : Room).cells ({ frames := 0, cells := 0, slots := 0, locals := 0 } : Room).slots) := by
  refine own_enter (Q := Q_rm5 Z ob yl h0 n0) (plainFor_of_name pn_com_example_wary_commit_warycommit_LatencyHistogram) ?_
  intro p e s m below meth c s₁ G X0 hx hby hml hZ hown hnm hret e0 go fin
  replace hown : s.vm.findClass "com/example/wary_commit/warycommit/LatencyHistogram" = some m.cls := hown
  replace hnm : meth.name = "longest" := hnm
  replace hml : c.maxLocals = 1 := hml
  rw [ef_5 m ob]
  have N0 := Fr.nil n0
  show G (s₁.setTop (mkF m 0 #[.val (.ref ob)] []))
  refine go (fun tg kg => XS.aloadN X0.here hx rfl (hb hby d5_0) rfl rfl kg) ?_
  show G (s₁.setTop (mkF m 1 #[.val (.ref ob)] [(.ref ob)]))
  obtain ⟨T1, X1, e1, st1⟩ := getF X0 hx hZ hown (host := "") (Or.inl (hw _ (List.mem_of_getElem? (i := 21) rfl))) Via.refl e0 Fl (g := (mkF m 1 #[.val (.ref ob)] [(.ref ob)])) rfl rfl (hb hby d5_1)
  refine go st1 ?_
  show G (T1.setTop (mkF m 4 #[.val (.ref ob)] [(.long yl)]))
  refine fin (some (.long yl)) X1 (fun h => absurd h (by decide)) (fun fs hr => retOut X1 hx hret rfl (Or.inr (Or.inl ⟨rfl, rfl, _, rfl⟩)) (hb hby d5_4) hr) (by decide) (by decide) ?_
  rw [e1]
  exact ⟨rfl, N0, rfl⟩
theorem ef_6 (m : MethodId) (x0 : Addr) (x1 : Int64) : entryFrame m #[(.ref x0), (.long x1)] 3 = mkF m 0 #[.val (.ref x0), .val (.long x1), .second] [] := by first | (simp [entryFrame, mkF, argsToLocals, Value.category]; done) | rfl
theorem d6_0 : decode prog_19_method_2_code 0 = .ok (.lload_n 1, 1) := by decide +kernel
theorem d6_1 : decode prog_19_method_2_code 1 = .ok (.lconst 0, 1) := by decide +kernel
theorem d6_2 : decode prog_19_method_2_code 2 = .ok (.lcmp, 1) := by decide +kernel
theorem d6_3 : decode prog_19_method_2_code 3 = .ok (.ifCond .ge 17, 3) := by decide +kernel
theorem d6_20 : decode prog_19_method_2_code 20 = .ok (.aload_n 0, 1) := by decide +kernel
theorem d6_21 : decode prog_19_method_2_code 21 = .ok (.getfield 11, 3) := by decide +kernel
theorem d6_24 : decode prog_19_method_2_code 24 = .ok (.lload_n 1, 1) := by decide +kernel
theorem d6_25 : decode prog_19_method_2_code 25 = .ok (.invokestatic 24, 3) := by decide +kernel
theorem d6_28 : decode prog_19_method_2_code 28 = .ok (.dup2, 1) := by decide +kernel
theorem d6_29 : decode prog_19_method_2_code 29 = .ok (.laload, 1) := by decide +kernel
theorem d6_30 : decode prog_19_method_2_code 30 = .ok (.lconst 1, 1) := by decide +kernel
theorem d6_31 : decode prog_19_method_2_code 31 = .ok (.ladd, 1) := by decide +kernel
theorem d6_32 : decode prog_19_method_2_code 32 = .ok (.lastore, 1) := by decide +kernel
theorem d6_33 : decode prog_19_method_2_code 33 = .ok (.aload_n 0, 1) := by decide +kernel
theorem d6_34 : decode prog_19_method_2_code 34 = .ok (.dup, 1) := by decide +kernel
theorem d6_35 : decode prog_19_method_2_code 35 = .ok (.getfield 28, 3) := by decide +kernel
theorem d6_38 : decode prog_19_method_2_code 38 = .ok (.lconst 1, 1) := by decide +kernel
theorem d6_39 : decode prog_19_method_2_code 39 = .ok (.ladd, 1) := by decide +kernel
theorem d6_40 : decode prog_19_method_2_code 40 = .ok (.putfield 28, 3) := by decide +kernel
theorem d6_43 : decode prog_19_method_2_code 43 = .ok (.aload_n 0, 1) := by decide +kernel
theorem d6_44 : decode prog_19_method_2_code 44 = .ok (.aload_n 0, 1) := by decide +kernel
theorem d6_45 : decode prog_19_method_2_code 45 = .ok (.getfield 32, 3) := by decide +kernel
theorem d6_48 : decode prog_19_method_2_code 48 = .ok (.lload_n 1, 1) := by decide +kernel
theorem d6_49 : decode prog_19_method_2_code 49 = .ok (.invokestatic 35, 3) := by decide +kernel
theorem pd__JJ_J : parseMethodDescriptor "(JJ)J" = some ⟨[.long, .long], some .long⟩ := by decide +kernel
theorem d6_52 : decode prog_19_method_2_code 52 = .ok (.putfield 32, 3) := by decide +kernel
theorem d6_55 : decode prog_19_method_2_code 55 = .ok (.return_, 1) := by decide +kernel
def Q_rm6 (Z : State) (ob : Addr) (xv : Int64) (ca : Addr) (fa : Nat → Int64) (yt : Int64) (yl : Int64) (h0 : Heap) (n0 : Nat) (v : Option Value) (h : Heap) (L : List Loc) : Prop := v = none ∧ Fr n0 L ∧ Keep h0 h [ob, ca] ∧ Exa Z h ob "com/example/wary_commit/warycommit/LatencyHistogram" ∧ Fld Z h ob "com/example/wary_commit/warycommit/LatencyHistogram" "counts" "[J" (.ref ca) ∧ Fld Z h ob "com/example/wary_commit/warycommit/LatencyHistogram" "total" "J" (.long (yt + (1 : Int64))) ∧ Fld Z h ob "com/example/wary_commit/warycommit/LatencyHistogram" "longest" "J" (.long (own_maxL yl xv)) ∧ own_Al Z h ca (own_rec fa xv)
set_option maxRecDepth 65536 in
set_option maxHeartbeats 40000000 in
theorem rm6 (l : Launch) (Z : State) (a0 : Array Value) (hw : ∀ d ∈ tables_1, d.before a0 Z = true) (ws : List Jvm.Cond) (ob : Addr) (xv : Int64) (ca : Addr) (fa : Nat → Int64) (yt : Int64) (yl : Int64) (h0 : Heap) (n0 : Nat) (Z0 : n0 ≤ h0.size) (Ex : Exa Z h0 ob "com/example/wary_commit/warycommit/LatencyHistogram") (g0 : n0 ≤ ob) (g1 : n0 ≤ ca) (Fc : Fld Z h0 ob "com/example/wary_commit/warycommit/LatencyHistogram" "counts" "[J" (.ref ca)) (Ft : Fld Z h0 ob "com/example/wary_commit/warycommit/LatencyHistogram" "total" "J" (.long yt)) (Fl : Fld Z h0 ob "com/example/wary_commit/warycommit/LatencyHistogram" "longest" "J" (.long yl)) (Va : own_Al Z h0 ca fa) (hne : ob ≠ ca) (hx0 : 0 ≤ xv.toInt) :
    MetFree l (⟨"com/example/wary_commit/warycommit/LatencyHistogram", "record", "(J)V"⟩ : MethodName) (head1 (Jvm.Cond.code (⟨"com/example/wary_commit/warycommit/LatencyHistogram", "record", "(J)V"⟩ : MethodName) prog_19_method_2_code 3 none :: ws) ({ frames := 3, cells := 0, slots := 0, locals := 45 } : Room)) (fun a U => a = #[(.ref ob), (.long xv)] ∧ Z.Warmed39 U.vm ∧ U.heap = h0) (fun _ _ _ _ _ => True) (fun _ U o U' => ∃ v L, o = .returned v ∧ Q_rm6 Z ob xv ca fa yt yl h0 n0 v U'.heap L ∧ FrameEnd U o U' L ({ frames := 3, cells := 0, slots := 0, locals := 45 } : Room).cells ({ frames := 3, cells := 0, slots := 0, locals := 45 } : Room).slots) := by
  refine own_enter (Q := Q_rm6 Z ob xv ca fa yt yl h0 n0) (plainFor_of_name pn_com_example_wary_commit_warycommit_LatencyHistogram) ?_
  intro p e s m below meth c s₁ G X0 hx hby hml hZ hown hnm hret e0 go fin
  replace hown : s.vm.findClass "com/example/wary_commit/warycommit/LatencyHistogram" = some m.cls := hown
  replace hnm : meth.name = "record" := hnm
  replace hml : c.maxLocals = 3 := hml
  rw [ef_6 m ob xv]
  have N0 := Fr.nil n0
  show G (s₁.setTop (mkF m 0 #[.val (.ref ob), .val (.long xv), .second] []))
  refine go (fun tg kg => XS.lloadN X0.here hx rfl (hb hby d6_0) rfl kg) ?_
  show G (s₁.setTop (mkF m 1 #[.val (.ref ob), .val (.long xv), .second] [(.long xv)]))
  refine go (fun tg kg => XS.lconst X0.here hx rfl (hb hby d6_1) kg) ?_
  show G (s₁.setTop (mkF m 2 #[.val (.ref ob), .val (.long xv), .second] [(.long (0 : Int64)), (.long xv)]))
  refine go (fun tg kg => XS.lcmp X0.here hx rfl (hb hby d6_2) rfl kg) ?_
  show G (s₁.setTop (mkF m 3 #[.val (.ref ob), .val (.long xv), .second] [(.int (lcmpW xv (0 : Int64)))]))
  refine go (fun tg kg => XS.ifYes X0.here hx rfl (pc0 := 3) (pc' := 20) rfl (hb hby d6_3) rfl ((if0 _ _).trans (flt (mt (lw_lt xv (0 : Int64)).mp (own_nn hx0))).2.1) (by decide) (by decide) kg) ?_
  show G (s₁.setTop (mkF m 20 #[.val (.ref ob), .val (.long xv), .second] []))
  refine go (fun tg kg => XS.aloadN X0.here hx rfl (hb hby d6_20) rfl rfl kg) ?_
  show G (s₁.setTop (mkF m 21 #[.val (.ref ob), .val (.long xv), .second] [(.ref ob)]))
  obtain ⟨T1, X1, e1, st1⟩ := getF X0 hx hZ hown (host := "") (Or.inl (hw _ (List.mem_of_getElem? (i := 12) rfl))) Via.refl e0 Fc (g := (mkF m 21 #[.val (.ref ob), .val (.long xv), .second] [(.ref ob)])) rfl rfl (hb hby d6_21)
  refine go st1 ?_
  show G (T1.setTop (mkF m 24 #[.val (.ref ob), .val (.long xv), .second] [(.ref ca)]))
  refine go (fun tg kg => XS.lloadN X1.here hx rfl (hb hby d6_24) rfl kg) ?_
  show G (T1.setTop (mkF m 25 #[.val (.ref ob), .val (.long xv), .second] [(.long xv), (.ref ca)]))
  obtain ⟨_, _, ⟨T2, L2, k2, n2⟩, -, X2, ⟨Lc2, hQ2, l2, y2, z2⟩, st2⟩ := Jvm.LawKit.callS X1 hx (y := (⟨"com/example/wary_commit/warycommit/LatencyHistogram", "indexOf", "(J)I"⟩ : MethodName)) hown (mvT hZ (hw _ (List.mem_of_getElem? (i := 37) rfl))) (mvT hZ (hw _ (List.mem_of_getElem? (i := 38) rfl))) (mvT hZ (hw _ (List.mem_of_getElem? (i := 4) rfl))) (mvT hZ (hw _ (List.mem_of_getElem? (i := 39) rfl))) (by decide) (backOf (W := 1) (rm_ix l Z a0 hw [] xv h0 n0 Z0 ) hZ (hw _ (List.mem_of_getElem? (i := 39) rfl)) (hw _ (List.mem_of_getElem? (i := 4) rfl)) (by decide) (by decide)) (g := (mkF m 25 #[.val (.ref ob), .val (.long xv), .second] [(.long xv), (.ref ca)])) rfl (by rw [hml]; rfl) (argsL := [(.long xv)]) (rest := [(.ref ca)]) (lenOf pd__J_I rfl) rfl (by show 2 * 0 + _ ≤ _; exact Nat.le_of_eq rfl) (hb hby d6_25) (fun _ _ => ⟨rfl, e1, (by decide : 0 + 0 ≤ _), (by decide : 0 + 0 ≤ _)⟩)
  dsimp only [Pt.U, Pt.locs, Pt.cells, Pt.slots] at X2 l2 y2 z2 st2 hQ2
  subst l2 y2 z2
  obtain ⟨rfl, Nq2, e2⟩ := hQ2
  have N2 := Fr.app N0 Nq2
  refine go st2 ?_
  show G (T2.setTop (mkF m 28 #[.val (.ref ob), .val (.long xv), .second] [(.int (own_ix xv)), (.ref ca)]))
  refine go (fun tg kg => Jvm.Free.XT.dup2 X2.here hx rfl (hb hby d6_28) rfl rfl rfl kg) ?_
  show G (T2.setTop (mkF m 29 #[.val (.ref ob), .val (.long xv), .second] [(.int (own_ix xv)), (.ref ca), (.int (own_ix xv)), (.ref ca)]))
  obtain ⟨cl3, Ar3, S3, H3⟩ := id Va
  have ok3 : own_ok (own_ix xv) := own_ok_of (own_ix_ok hx0)
  have hin3 := own_in S3 ok3
  have kk3 : ((own_ix xv)).toNatClampNeg < 7296 := ok3.2
  have hat3 : cl3.slots[((own_ix xv)).toNatClampNeg]? = some (.long (fa (own_ix xv).toNatClampNeg)) := by exact H3 _ kk3
  refine go (fun tg kg => X2.laload hx (j := (own_ix xv)) (v := (.long (fa (own_ix xv).toNatClampNeg))) (by rw [e2]; exact Ar3.1) (State.isArrayOf_alike hZ.alike Ar3.2.1) Ar3.2.2 hin3 hat3 (g := (mkF m 29 #[.val (.ref ob), .val (.long xv), .second] [(.int (own_ix xv)), (.ref ca), (.int (own_ix xv)), (.ref ca)])) rfl rfl (hb hby d6_29) _ kg) ?_
  show G (T2.setTop (mkF m 30 #[.val (.ref ob), .val (.long xv), .second] [(.long (fa (own_ix xv).toNatClampNeg)), (.int (own_ix xv)), (.ref ca)]))
  refine go (fun tg kg => XS.lconst X2.here hx rfl (hb hby d6_30) kg) ?_
  show G (T2.setTop (mkF m 31 #[.val (.ref ob), .val (.long xv), .second] [(.long (1 : Int64)), (.long (fa (own_ix xv).toNatClampNeg)), (.int (own_ix xv)), (.ref ca)]))
  refine go (fun tg kg => XS.ladd X2.here hx rfl (hb hby d6_31) rfl kg) ?_
  show G (T2.setTop (mkF m 32 #[.val (.ref ob), .val (.long xv), .second] [(.long ((fa (own_ix xv).toNatClampNeg) + (1 : Int64))), (.int (own_ix xv)), (.ref ca)]))
  obtain ⟨cl4, Ar4, S4, H4⟩ := id Va
  have ok4 : own_ok (own_ix xv) := own_ok_of (own_ix_ok hx0)
  have hin4 := own_in S4 ok4
  have kk4 : ((own_ix xv)).toNatClampNeg < 7296 := ok4.2
  obtain ⟨T4, h4, X4, e4, W4, st4⟩ := stJ X2 hx hZ e2 Ar4 (j := (own_ix xv)) hin4 (g := (mkF m 32 #[.val (.ref ob), .val (.long xv), .second] [(.long ((fa (own_ix xv).toNatClampNeg) + (1 : Int64))), (.int (own_ix xv)), (.ref ca)])) rfl rfl (hb hby d6_32)
  refine go st4 ?_
  have N4 := Fr.snoc X4 N2 g1
  have Wn4 := W4
  have V4 : own_Al Z h4 ca (own_up fa (own_ix xv).toNatClampNeg ((fa (own_ix xv).toNatClampNeg) + (1 : Int64))) := own_set Ar4 S4 H4 kk4 Wn4
  have K4 : Keep h0 h4 [ob, ca] := (Keep.refl h0 [ob, ca]).wr W4 (Or.inl (List.mem_of_getElem? (i := 1) rfl))
  have Z4 := Nat.le_trans Z0 (Keep.of_wr W4).1
  show G (T4.setTop (mkF m 33 #[.val (.ref ob), .val (.long xv), .second] []))
  refine go (fun tg kg => XS.aloadN X4.here hx rfl (hb hby d6_33) rfl rfl kg) ?_
  show G (T4.setTop (mkF m 34 #[.val (.ref ob), .val (.long xv), .second] [(.ref ob)]))
  refine go (fun tg kg => XS.dup X4.here hx rfl (hb hby d6_34) rfl rfl kg) ?_
  show G (T4.setTop (mkF m 35 #[.val (.ref ob), .val (.long xv), .second] [(.ref ob), (.ref ob)]))
  have Fa5 := (Ft.other W4 (Or.inl hne))
  obtain ⟨T6, X6, e6, st6⟩ := getF X4 hx hZ hown (host := "") (Or.inl (hw _ (List.mem_of_getElem? (i := 19) rfl))) Via.refl e4 Fa5 (g := (mkF m 35 #[.val (.ref ob), .val (.long xv), .second] [(.ref ob), (.ref ob)])) rfl rfl (hb hby d6_35)
  refine go st6 ?_
  show G (T6.setTop (mkF m 38 #[.val (.ref ob), .val (.long xv), .second] [(.long yt), (.ref ob)]))
  refine go (fun tg kg => XS.lconst X6.here hx rfl (hb hby d6_38) kg) ?_
  show G (T6.setTop (mkF m 39 #[.val (.ref ob), .val (.long xv), .second] [(.long (1 : Int64)), (.long yt), (.ref ob)]))
  refine go (fun tg kg => XS.ladd X6.here hx rfl (hb hby d6_39) rfl kg) ?_
  show G (T6.setTop (mkF m 40 #[.val (.ref ob), .val (.long xv), .second] [(.long (yt + (1 : Int64))), (.ref ob)]))
  have Fa7 := (Ex.wr W4)
  obtain ⟨T8, h8, X8, e8, W8, st8⟩ := putF X6 hx hZ hown (host := "") (Or.inl (hw _ (List.mem_of_getElem? (i := 19) rfl))) Via.refl e6 Fa5 Fa7 (Or.inl (hw _ (List.mem_of_getElem? (i := 20) rfl))) (hw _ (List.mem_of_getElem? (i := 3) rfl)) (ty := .long) (by decide) rfl rfl (g := (mkF m 40 #[.val (.ref ob), .val (.long xv), .second] [(.long (yt + (1 : Int64))), (.ref ob)])) rfl rfl (hb hby d6_40)
  refine go st8 ?_
  have Fw8 : Fld Z h8 ob "com/example/wary_commit/warycommit/LatencyHistogram" "total" "J" (.long (yt + (1 : Int64))) := Fa5.same W8
  have N8 := Fr.snoc X8 N4 g0
  have K8 : Keep h0 h8 [ob, ca] := K4.wr W8 (Or.inl (List.mem_of_getElem? (i := 0) rfl))
  have Z8 := Nat.le_trans Z4 (Keep.of_wr W8).1
  show G (T8.setTop (mkF m 43 #[.val (.ref ob), .val (.long xv), .second] []))
  refine go (fun tg kg => XS.aloadN X8.here hx rfl (hb hby d6_43) rfl rfl kg) ?_
  show G (T8.setTop (mkF m 44 #[.val (.ref ob), .val (.long xv), .second] [(.ref ob)]))
  refine go (fun tg kg => XS.aloadN X8.here hx rfl (hb hby d6_44) rfl rfl kg) ?_
  show G (T8.setTop (mkF m 45 #[.val (.ref ob), .val (.long xv), .second] [(.ref ob), (.ref ob)]))
  have Fa9 := ((Fl.other W4 (Or.inl hne)).other W8 (Or.inr (slot_ne (Or.inl (hw _ (List.mem_of_getElem? (i := 22) rfl))) (Or.inl (hw _ (List.mem_of_getElem? (i := 20) rfl))) (by decide) (t := .long) (t' := .long) (by decide) (by decide))))
  obtain ⟨T10, X10, e10, st10⟩ := getF X8 hx hZ hown (host := "") (Or.inl (hw _ (List.mem_of_getElem? (i := 21) rfl))) Via.refl e8 Fa9 (g := (mkF m 45 #[.val (.ref ob), .val (.long xv), .second] [(.ref ob), (.ref ob)])) rfl rfl (hb hby d6_45)
  refine go st10 ?_
  show G (T10.setTop (mkF m 48 #[.val (.ref ob), .val (.long xv), .second] [(.long yl), (.ref ob)]))
  refine go (fun tg kg => XS.lloadN X10.here hx rfl (hb hby d6_48) rfl kg) ?_
  show G (T10.setTop (mkF m 49 #[.val (.ref ob), .val (.long xv), .second] [(.long xv), (.long yl), (.ref ob)]))
  obtain ⟨_, _, ⟨T11, L11, k11, n11⟩, -, X11, ⟨Lc11, hQ11, l11, y11, z11⟩, st11⟩ := Jvm.LawKit.callS X10 hx (y := (⟨"java/lang/Math", "max", "(JJ)J"⟩ : MethodName)) hown (mvT hZ (hw _ (List.mem_of_getElem? (i := 23) rfl))) (mvT hZ (hw _ (List.mem_of_getElem? (i := 24) rfl))) (mvT hZ (hw _ (List.mem_of_getElem? (i := 25) rfl))) (mvT hZ (hw _ (List.mem_of_getElem? (i := 26) rfl))) (by decide) (backOf (W := 1) (rm_maxL l Z a0 hw [] yl xv h8 n0 Z8 ) hZ (hw _ (List.mem_of_getElem? (i := 26) rfl)) (hw _ (List.mem_of_getElem? (i := 25) rfl)) (by decide) (by decide)) (g := (mkF m 49 #[.val (.ref ob), .val (.long xv), .second] [(.long xv), (.long yl), (.ref ob)])) rfl (by rw [hml]; rfl) (argsL := [(.long yl), (.long xv)]) (rest := [(.ref ob)]) (lenOf pd__JJ_J rfl) rfl (by show 2 * 0 + _ ≤ _; exact Nat.le_of_eq rfl) (hb hby d6_49) (fun _ _ => ⟨rfl, e10, (by decide : 0 + 0 ≤ _), (by decide : 0 + 0 ≤ _)⟩)
  dsimp only [Pt.U, Pt.locs, Pt.cells, Pt.slots] at X11 l11 y11 z11 st11 hQ11
  subst l11 y11 z11
  obtain ⟨rfl, Nq11, e11⟩ := hQ11
  have N11 := Fr.app N8 Nq11
  refine go st11 ?_
  show G (T11.setTop (mkF m 52 #[.val (.ref ob), .val (.long xv), .second] [(.long (own_maxL yl xv)), (.ref ob)]))
  have Fa12 := (Fa7.wr W8)
  obtain ⟨T13, h13, X13, e13, W13, st13⟩ := putF X11 hx hZ hown (host := "") (Or.inl (hw _ (List.mem_of_getElem? (i := 21) rfl))) Via.refl e11 Fa9 Fa12 (Or.inl (hw _ (List.mem_of_getElem? (i := 22) rfl))) (hw _ (List.mem_of_getElem? (i := 3) rfl)) (ty := .long) (by decide) rfl rfl (g := (mkF m 52 #[.val (.ref ob), .val (.long xv), .second] [(.long (own_maxL yl xv)), (.ref ob)])) rfl rfl (hb hby d6_52)
  refine go st13 ?_
  have Fw13 : Fld Z h13 ob "com/example/wary_commit/warycommit/LatencyHistogram" "longest" "J" (.long (own_maxL yl xv)) := Fa9.same W13
  have N13 := Fr.snoc X13 N11 g0
  have K13 : Keep h0 h13 [ob, ca] := K8.wr W13 (Or.inl (List.mem_of_getElem? (i := 0) rfl))
  have Z13 := Nat.le_trans Z8 (Keep.of_wr W13).1
  show G (T13.setTop (mkF m 55 #[.val (.ref ob), .val (.long xv), .second] []))
  refine fin (none) X13 (fun h => rfl) (fun fs hr => X13.returnOut hx hret (hb hby d6_55) hr) (by decide) (by decide) ?_
  rw [e13]
  have Fa14 := (Fa12.wr W13)
  have Fa15 := (((Fc.other W4 (Or.inl hne)).other W8 (Or.inr (slot_ne (Or.inr (hw _ (List.mem_of_getElem? (i := 13) rfl))) (Or.inl (hw _ (List.mem_of_getElem? (i := 20) rfl))) (by decide) (t := (.array .long)) (t' := .long) (by decide) (by decide)))).other W13 (Or.inr (slot_ne (Or.inr (hw _ (List.mem_of_getElem? (i := 13) rfl))) (Or.inl (hw _ (List.mem_of_getElem? (i := 22) rfl))) (by decide) (t := (.array .long)) (t' := .long) (by decide) (by decide))))
  have Fa16 := (Fw8.other W13 (Or.inr (slot_ne (Or.inl (hw _ (List.mem_of_getElem? (i := 20) rfl))) (Or.inl (hw _ (List.mem_of_getElem? (i := 22) rfl))) (by decide) (t := .long) (t' := .long) (by decide) (by decide))))
  have Fa17 := ((V4.other W8 (Ne.symm hne)).other W13 (Ne.symm hne))
  exact ⟨rfl, N13, K13, Fa14, Fa15, Fa16, Fw13, Fa17⟩
theorem ef_3 (m : MethodId) (x0 : Addr) (x1 : Addr) : entryFrame m #[(.ref x0), (.ref x1)] 3 = mkF m 0 #[.val (.ref x0), .val (.ref x1), .unset] [] := by first | (simp [entryFrame, mkF, argsToLocals, Value.category]; done) | rfl
theorem d3_0 : decode prog_19_method_3_code 0 = .ok (.iconst 0, 1) := by decide +kernel
theorem d3_1 : decode prog_19_method_3_code 1 = .ok (.istore_n 2, 1) := by decide +kernel
theorem d3_2 : decode prog_19_method_3_code 2 = .ok (.iload_n 2, 1) := by decide +kernel
theorem d3_3 : decode prog_19_method_3_code 3 = .ok (.sipush 7296, 3) := by decide +kernel
theorem d3_6 : decode prog_19_method_3_code 6 = .ok (.if_icmp .ge 24, 3) := by decide +kernel
theorem d3_30 : decode prog_19_method_3_code 30 = .ok (.aload_n 0, 1) := by decide +kernel
theorem d3_31 : decode prog_19_method_3_code 31 = .ok (.dup, 1) := by decide +kernel
theorem d3_32 : decode prog_19_method_3_code 32 = .ok (.getfield 28, 3) := by decide +kernel
theorem d3_35 : decode prog_19_method_3_code 35 = .ok (.aload_n 1, 1) := by decide +kernel
theorem d3_36 : decode prog_19_method_3_code 36 = .ok (.getfield 28, 3) := by decide +kernel
theorem d3_39 : decode prog_19_method_3_code 39 = .ok (.ladd, 1) := by decide +kernel
theorem d3_40 : decode prog_19_method_3_code 40 = .ok (.putfield 28, 3) := by decide +kernel
theorem d3_43 : decode prog_19_method_3_code 43 = .ok (.aload_n 0, 1) := by decide +kernel
theorem d3_44 : decode prog_19_method_3_code 44 = .ok (.aload_n 0, 1) := by decide +kernel
theorem d3_45 : decode prog_19_method_3_code 45 = .ok (.getfield 32, 3) := by decide +kernel
theorem d3_48 : decode prog_19_method_3_code 48 = .ok (.aload_n 1, 1) := by decide +kernel
theorem d3_49 : decode prog_19_method_3_code 49 = .ok (.getfield 32, 3) := by decide +kernel
theorem d3_52 : decode prog_19_method_3_code 52 = .ok (.invokestatic 35, 3) := by decide +kernel
theorem d3_55 : decode prog_19_method_3_code 55 = .ok (.putfield 32, 3) := by decide +kernel
theorem d3_58 : decode prog_19_method_3_code 58 = .ok (.return_, 1) := by decide +kernel
theorem d3_9 : decode prog_19_method_3_code 9 = .ok (.aload_n 0, 1) := by decide +kernel
theorem d3_10 : decode prog_19_method_3_code 10 = .ok (.getfield 11, 3) := by decide +kernel
theorem d3_13 : decode prog_19_method_3_code 13 = .ok (.iload_n 2, 1) := by decide +kernel
theorem d3_14 : decode prog_19_method_3_code 14 = .ok (.dup2, 1) := by decide +kernel
theorem d3_15 : decode prog_19_method_3_code 15 = .ok (.laload, 1) := by decide +kernel
theorem d3_16 : decode prog_19_method_3_code 16 = .ok (.aload_n 1, 1) := by decide +kernel
theorem d3_17 : decode prog_19_method_3_code 17 = .ok (.getfield 11, 3) := by decide +kernel
theorem d3_20 : decode prog_19_method_3_code 20 = .ok (.iload_n 2, 1) := by decide +kernel
theorem d3_21 : decode prog_19_method_3_code 21 = .ok (.laload, 1) := by decide +kernel
theorem d3_22 : decode prog_19_method_3_code 22 = .ok (.ladd, 1) := by decide +kernel
theorem d3_23 : decode prog_19_method_3_code 23 = .ok (.lastore, 1) := by decide +kernel
theorem d3_24 : decode prog_19_method_3_code 24 = .ok (.iinc 2 1, 3) := by decide +kernel
theorem d3_27 : decode prog_19_method_3_code 27 = .ok (.goto (-25), 3) := by decide +kernel
def Q_rm3 (Z : State) (ob : Addr) (oc : Addr) (ca : Addr) (fa : Nat → Int64) (yt : Int64) (yl : Int64) (cb : Addr) (fb : Nat → Int64) (zt : Int64) (zl : Int64) (h0 : Heap) (n0 : Nat) (v : Option Value) (h : Heap) (L : List Loc) : Prop := v = none ∧ Fr n0 L ∧ Keep h0 h [ob, ca] ∧ Exa Z h ob "com/example/wary_commit/warycommit/LatencyHistogram" ∧ Fld Z h ob "com/example/wary_commit/warycommit/LatencyHistogram" "counts" "[J" (.ref ca) ∧ Fld Z h ob "com/example/wary_commit/warycommit/LatencyHistogram" "total" "J" (.long (yt + zt)) ∧ Fld Z h ob "com/example/wary_commit/warycommit/LatencyHistogram" "longest" "J" (.long (own_maxL yl zl)) ∧ own_Al Z h ca (own_add fa fb)
set_option maxRecDepth 65536 in
set_option maxHeartbeats 40000000 in
theorem rm3 (l : Launch) (Z : State) (a0 : Array Value) (hw : ∀ d ∈ tables_1, d.before a0 Z = true) (ws : List Jvm.Cond) (ob : Addr) (oc : Addr) (ca : Addr) (fa : Nat → Int64) (yt : Int64) (yl : Int64) (cb : Addr) (fb : Nat → Int64) (zt : Int64) (zl : Int64) (h0 : Heap) (n0 : Nat) (Z0 : n0 ≤ h0.size) (Ex : Exa Z h0 ob "com/example/wary_commit/warycommit/LatencyHistogram") (g0 : n0 ≤ ob) (g1 : n0 ≤ ca) (Fc : Fld Z h0 ob "com/example/wary_commit/warycommit/LatencyHistogram" "counts" "[J" (.ref ca)) (Ft : Fld Z h0 ob "com/example/wary_commit/warycommit/LatencyHistogram" "total" "J" (.long yt)) (Fl : Fld Z h0 ob "com/example/wary_commit/warycommit/LatencyHistogram" "longest" "J" (.long yl)) (Va : own_Al Z h0 ca fa) (hne : ob ≠ ca) (Hc : Fld Z h0 oc "com/example/wary_commit/warycommit/LatencyHistogram" "counts" "[J" (.ref cb)) (Ht : Fld Z h0 oc "com/example/wary_commit/warycommit/LatencyHistogram" "total" "J" (.long zt)) (Hl : Fld Z h0 oc "com/example/wary_commit/warycommit/LatencyHistogram" "longest" "J" (.long zl)) (Vb : own_Al Z h0 cb fb) (hne1 : oc ≠ ca) (hne2 : cb ≠ ca) (hne3 : oc ≠ ob) :
    MetFree l (⟨"com/example/wary_commit/warycommit/LatencyHistogram", "add", "(Lcom/example/wary_commit/warycommit/LatencyHistogram;)V"⟩ : MethodName) (head1 (Jvm.Cond.code (⟨"com/example/wary_commit/warycommit/LatencyHistogram", "add", "(Lcom/example/wary_commit/warycommit/LatencyHistogram;)V"⟩ : MethodName) prog_19_method_3_code 3 none :: ws) ({ frames := 1, cells := 0, slots := 0, locals := 16 } : Room)) (fun a U => a = #[(.ref ob), (.ref oc)] ∧ Z.Warmed39 U.vm ∧ U.heap = h0) (fun _ _ _ _ _ => True) (fun _ U o U' => ∃ v L, o = .returned v ∧ Q_rm3 Z ob oc ca fa yt yl cb fb zt zl h0 n0 v U'.heap L ∧ FrameEnd U o U' L ({ frames := 1, cells := 0, slots := 0, locals := 16 } : Room).cells ({ frames := 1, cells := 0, slots := 0, locals := 16 } : Room).slots) := by
  refine own_enter (Q := Q_rm3 Z ob oc ca fa yt yl cb fb zt zl h0 n0) (plainFor_of_name pn_com_example_wary_commit_warycommit_LatencyHistogram) ?_
  intro p e s m below meth c s₁ G X0 hx hby hml hZ hown hnm hret e0 go fin
  replace hown : s.vm.findClass "com/example/wary_commit/warycommit/LatencyHistogram" = some m.cls := hown
  replace hnm : meth.name = "add" := hnm
  replace hml : c.maxLocals = 3 := hml
  rw [ef_3 m ob oc]
  have N0 := Fr.nil n0
  show G (s₁.setTop (mkF m 0 #[.val (.ref ob), .val (.ref oc), .unset] []))
  refine go (fun tg kg => XS.iconst X0.here hx rfl (hb hby d3_0) kg) ?_
  show G (s₁.setTop (mkF m 1 #[.val (.ref ob), .val (.ref oc), .unset] [(.int (0 : Int32))]))
  refine go (fun tg kg => XS.istoreN X0.here hx rfl (hb hby d3_1) rfl (l' := #[.val (.ref ob), .val (.ref oc), .val (.int (0 : Int32))]) rfl kg) ?_
  show G (s₁.setTop (mkF m 2 #[.val (.ref ob), .val (.ref oc), .val (.int (0 : Int32))] []))
  have loop : ∀ (k i : Nat) (Tl : State) (hl : Heap) (ll : List Loc), Stand p l e ({ frames := 1, cells := 0, slots := 0, locals := 16 } : Room) s m #[(.ref ob), (.ref oc)] below meth c Tl ll 0 0 → Tl.heap = hl → Fr n0 ll → n0 ≤ hl.size → Keep h0 hl [ob, ca] → Exa Z hl ob "com/example/wary_commit/warycommit/LatencyHistogram" → Fld Z hl ob "com/example/wary_commit/warycommit/LatencyHistogram" "counts" "[J" (.ref ca) → Fld Z hl ob "com/example/wary_commit/warycommit/LatencyHistogram" "total" "J" (.long yt) → Fld Z hl ob "com/example/wary_commit/warycommit/LatencyHistogram" "longest" "J" (.long yl) → Fld Z hl oc "com/example/wary_commit/warycommit/LatencyHistogram" "counts" "[J" (.ref cb) → Fld Z hl oc "com/example/wary_commit/warycommit/LatencyHistogram" "total" "J" (.long zt) → Fld Z hl oc "com/example/wary_commit/warycommit/LatencyHistogram" "longest" "J" (.long zl) → own_Al Z hl ca (own_part fa fb i) → own_Al Z hl cb fb → i + k = 7296 → G (Tl.setTop (mkF m 2 #[.val (.ref ob), .val (.ref oc), .val (.int (Int32.ofNat i))] [])) := by
    intro k
    induction k with
    | zero =>
      intro i Tl hl ll Xl el Nl Zl Kl q0 q1 q2 q3 q4 q5 q6 q7 q8 hk
      have hlt : ¬ (Int32.ofNat i) < (7296 : Int32) := by rw [own_lt_nat (by omega)]; omega
      have hi : i = 7296 := by omega
      refine go (fun tg kg => XS.iloadN Xl.here hx rfl (hb hby d3_2) rfl kg) ?_
      show G (Tl.setTop (mkF m 3 #[.val (.ref ob), .val (.ref oc), .val (.int (Int32.ofNat i))] [(.int (Int32.ofNat i))]))
      refine go (fun tg kg => XS.sipush Xl.here hx rfl (hb hby d3_3) kg) ?_
      show G (Tl.setTop (mkF m 6 #[.val (.ref ob), .val (.ref oc), .val (.int (Int32.ofNat i))] [(.int (7296 : Int32)), (.int (Int32.ofNat i))]))
      refine go (fun tg kg => XS.icmpYes Xl.here hx rfl (pc0 := 6) (pc' := 30) rfl (hb hby d3_6) rfl (flt hlt).2.1 (by decide) (by decide) kg) ?_
      show G (Tl.setTop (mkF m 30 #[.val (.ref ob), .val (.ref oc), .val (.int (Int32.ofNat i))] []))
      refine go (fun tg kg => XS.aloadN Xl.here hx rfl (hb hby d3_30) rfl rfl kg) ?_
      show G (Tl.setTop (mkF m 31 #[.val (.ref ob), .val (.ref oc), .val (.int (Int32.ofNat i))] [(.ref ob)]))
      refine go (fun tg kg => XS.dup Xl.here hx rfl (hb hby d3_31) rfl rfl kg) ?_
      show G (Tl.setTop (mkF m 32 #[.val (.ref ob), .val (.ref oc), .val (.int (Int32.ofNat i))] [(.ref ob), (.ref ob)]))
      obtain ⟨T1, X1, e1, st1⟩ := getF Xl hx hZ hown (host := "") (Or.inl (hw _ (List.mem_of_getElem? (i := 19) rfl))) Via.refl el q2 (g := (mkF m 32 #[.val (.ref ob), .val (.ref oc), .val (.int (Int32.ofNat i))] [(.ref ob), (.ref ob)])) rfl rfl (hb hby d3_32)
      refine go st1 ?_
      show G (T1.setTop (mkF m 35 #[.val (.ref ob), .val (.ref oc), .val (.int (Int32.ofNat i))] [(.long yt), (.ref ob)]))
      refine go (fun tg kg => XS.aloadN X1.here hx rfl (hb hby d3_35) rfl rfl kg) ?_
      show G (T1.setTop (mkF m 36 #[.val (.ref ob), .val (.ref oc), .val (.int (Int32.ofNat i))] [(.ref oc), (.long yt), (.ref ob)]))
      obtain ⟨T2, X2, e2, st2⟩ := getF X1 hx hZ hown (host := "") (Or.inl (hw _ (List.mem_of_getElem? (i := 19) rfl))) Via.refl e1 q5 (g := (mkF m 36 #[.val (.ref ob), .val (.ref oc), .val (.int (Int32.ofNat i))] [(.ref oc), (.long yt), (.ref ob)])) rfl rfl (hb hby d3_36)
      refine go st2 ?_
      show G (T2.setTop (mkF m 39 #[.val (.ref ob), .val (.ref oc), .val (.int (Int32.ofNat i))] [(.long zt), (.long yt), (.ref ob)]))
      refine go (fun tg kg => XS.ladd X2.here hx rfl (hb hby d3_39) rfl kg) ?_
      show G (T2.setTop (mkF m 40 #[.val (.ref ob), .val (.ref oc), .val (.int (Int32.ofNat i))] [(.long (yt + zt)), (.ref ob)]))
      obtain ⟨T3, h3, X3, e3, W3, st3⟩ := putF X2 hx hZ hown (host := "") (Or.inl (hw _ (List.mem_of_getElem? (i := 19) rfl))) Via.refl e2 q2 q0 (Or.inl (hw _ (List.mem_of_getElem? (i := 20) rfl))) (hw _ (List.mem_of_getElem? (i := 3) rfl)) (ty := .long) (by decide) rfl rfl (g := (mkF m 40 #[.val (.ref ob), .val (.ref oc), .val (.int (Int32.ofNat i))] [(.long (yt + zt)), (.ref ob)])) rfl rfl (hb hby d3_40)
      refine go st3 ?_
      have Fw3 : Fld Z h3 ob "com/example/wary_commit/warycommit/LatencyHistogram" "total" "J" (.long (yt + zt)) := q2.same W3
      have N3 := Fr.snoc X3 Nl g0
      have K3 : Keep h0 h3 [ob, ca] := Kl.wr W3 (Or.inl (List.mem_of_getElem? (i := 0) rfl))
      have Z3 := Nat.le_trans Zl (Keep.of_wr W3).1
      show G (T3.setTop (mkF m 43 #[.val (.ref ob), .val (.ref oc), .val (.int (Int32.ofNat i))] []))
      refine go (fun tg kg => XS.aloadN X3.here hx rfl (hb hby d3_43) rfl rfl kg) ?_
      show G (T3.setTop (mkF m 44 #[.val (.ref ob), .val (.ref oc), .val (.int (Int32.ofNat i))] [(.ref ob)]))
      refine go (fun tg kg => XS.aloadN X3.here hx rfl (hb hby d3_44) rfl rfl kg) ?_
      show G (T3.setTop (mkF m 45 #[.val (.ref ob), .val (.ref oc), .val (.int (Int32.ofNat i))] [(.ref ob), (.ref ob)]))
      have Fa4 := (q3.other W3 (Or.inr (slot_ne (Or.inl (hw _ (List.mem_of_getElem? (i := 22) rfl))) (Or.inl (hw _ (List.mem_of_getElem? (i := 20) rfl))) (by decide) (t := .long) (t' := .long) (by decide) (by decide))))
      obtain ⟨T5, X5, e5, st5⟩ := getF X3 hx hZ hown (host := "") (Or.inl (hw _ (List.mem_of_getElem? (i := 21) rfl))) Via.refl e3 Fa4 (g := (mkF m 45 #[.val (.ref ob), .val (.ref oc), .val (.int (Int32.ofNat i))] [(.ref ob), (.ref ob)])) rfl rfl (hb hby d3_45)
      refine go st5 ?_
      show G (T5.setTop (mkF m 48 #[.val (.ref ob), .val (.ref oc), .val (.int (Int32.ofNat i))] [(.long yl), (.ref ob)]))
      refine go (fun tg kg => XS.aloadN X5.here hx rfl (hb hby d3_48) rfl rfl kg) ?_
      show G (T5.setTop (mkF m 49 #[.val (.ref ob), .val (.ref oc), .val (.int (Int32.ofNat i))] [(.ref oc), (.long yl), (.ref ob)]))
      have Fa6 := (q6.other W3 (Or.inl hne3))
      obtain ⟨T7, X7, e7, st7⟩ := getF X5 hx hZ hown (host := "") (Or.inl (hw _ (List.mem_of_getElem? (i := 21) rfl))) Via.refl e5 Fa6 (g := (mkF m 49 #[.val (.ref ob), .val (.ref oc), .val (.int (Int32.ofNat i))] [(.ref oc), (.long yl), (.ref ob)])) rfl rfl (hb hby d3_49)
      refine go st7 ?_
      show G (T7.setTop (mkF m 52 #[.val (.ref ob), .val (.ref oc), .val (.int (Int32.ofNat i))] [(.long zl), (.long yl), (.ref ob)]))
      obtain ⟨_, _, ⟨T8, L8, k8, n8⟩, -, X8, ⟨Lc8, hQ8, l8, y8, z8⟩, st8⟩ := Jvm.LawKit.callS X7 hx (y := (⟨"java/lang/Math", "max", "(JJ)J"⟩ : MethodName)) hown (mvT hZ (hw _ (List.mem_of_getElem? (i := 23) rfl))) (mvT hZ (hw _ (List.mem_of_getElem? (i := 24) rfl))) (mvT hZ (hw _ (List.mem_of_getElem? (i := 25) rfl))) (mvT hZ (hw _ (List.mem_of_getElem? (i := 26) rfl))) (by decide) (backOf (W := 1) (rm_maxL l Z a0 hw [] yl zl h3 n0 Z3 ) hZ (hw _ (List.mem_of_getElem? (i := 26) rfl)) (hw _ (List.mem_of_getElem? (i := 25) rfl)) (by decide) (by decide)) (g := (mkF m 52 #[.val (.ref ob), .val (.ref oc), .val (.int (Int32.ofNat i))] [(.long zl), (.long yl), (.ref ob)])) rfl (by rw [hml]; rfl) (argsL := [(.long yl), (.long zl)]) (rest := [(.ref ob)]) (lenOf pd__JJ_J rfl) rfl (by show 2 * 0 + _ ≤ _; exact Nat.le_of_eq rfl) (hb hby d3_52) (fun _ _ => ⟨rfl, e7, (by decide : 0 + 0 ≤ _), (by decide : 0 + 0 ≤ _)⟩)
      dsimp only [Pt.U, Pt.locs, Pt.cells, Pt.slots] at X8 l8 y8 z8 st8 hQ8
      subst l8 y8 z8
      obtain ⟨rfl, Nq8, e8⟩ := hQ8
      have N8 := Fr.app N3 Nq8
      refine go st8 ?_
      show G (T8.setTop (mkF m 55 #[.val (.ref ob), .val (.ref oc), .val (.int (Int32.ofNat i))] [(.long (own_maxL yl zl)), (.ref ob)]))
      have Fa9 := (q0.wr W3)
      obtain ⟨T10, h10, X10, e10, W10, st10⟩ := putF X8 hx hZ hown (host := "") (Or.inl (hw _ (List.mem_of_getElem? (i := 21) rfl))) Via.refl e8 Fa4 Fa9 (Or.inl (hw _ (List.mem_of_getElem? (i := 22) rfl))) (hw _ (List.mem_of_getElem? (i := 3) rfl)) (ty := .long) (by decide) rfl rfl (g := (mkF m 55 #[.val (.ref ob), .val (.ref oc), .val (.int (Int32.ofNat i))] [(.long (own_maxL yl zl)), (.ref ob)])) rfl rfl (hb hby d3_55)
      refine go st10 ?_
      have Fw10 : Fld Z h10 ob "com/example/wary_commit/warycommit/LatencyHistogram" "longest" "J" (.long (own_maxL yl zl)) := Fa4.same W10
      have N10 := Fr.snoc X10 N8 g0
      have K10 : Keep h0 h10 [ob, ca] := K3.wr W10 (Or.inl (List.mem_of_getElem? (i := 0) rfl))
      have Z10 := Nat.le_trans Z3 (Keep.of_wr W10).1
      show G (T10.setTop (mkF m 58 #[.val (.ref ob), .val (.ref oc), .val (.int (Int32.ofNat i))] []))
      refine fin (none) X10 (fun h => rfl) (fun fs hr => X10.returnOut hx hret (hb hby d3_58) hr) (by decide) (by decide) ?_
      rw [e10]
      have Fa11 := ((q7.other W3 (Ne.symm hne)).other W10 (Ne.symm hne))
      have Fa12 := (Fa9.wr W10)
      have Fa13 := ((q1.other W3 (Or.inr (slot_ne (Or.inr (hw _ (List.mem_of_getElem? (i := 13) rfl))) (Or.inl (hw _ (List.mem_of_getElem? (i := 20) rfl))) (by decide) (t := (.array .long)) (t' := .long) (by decide) (by decide)))).other W10 (Or.inr (slot_ne (Or.inr (hw _ (List.mem_of_getElem? (i := 13) rfl))) (Or.inl (hw _ (List.mem_of_getElem? (i := 22) rfl))) (by decide) (t := (.array .long)) (t' := .long) (by decide) (by decide))))
      have Fa14 := (Fw3.other W10 (Or.inr (slot_ne (Or.inl (hw _ (List.mem_of_getElem? (i := 20) rfl))) (Or.inl (hw _ (List.mem_of_getElem? (i := 22) rfl))) (by decide) (t := .long) (t' := .long) (by decide) (by decide))))
      subst hi
      exact ⟨rfl, N10, K10, Fa12, Fa13, Fa14, Fw10, own_partN Fa11⟩
    | succ k ih =>
      intro i Tl hl ll Xl el Nl Zl Kl q0 q1 q2 q3 q4 q5 q6 q7 q8 hk
      have hlt : (Int32.ofNat i) < (7296 : Int32) := by rw [own_lt_nat (by omega)]; omega
      have hi : i < 7296 := by omega
      refine go (fun tg kg => XS.iloadN Xl.here hx rfl (hb hby d3_2) rfl kg) ?_
      show G (Tl.setTop (mkF m 3 #[.val (.ref ob), .val (.ref oc), .val (.int (Int32.ofNat i))] [(.int (Int32.ofNat i))]))
      refine go (fun tg kg => XS.sipush Xl.here hx rfl (hb hby d3_3) kg) ?_
      show G (Tl.setTop (mkF m 6 #[.val (.ref ob), .val (.ref oc), .val (.int (Int32.ofNat i))] [(.int (7296 : Int32)), (.int (Int32.ofNat i))]))
      refine go (fun tg kg => XS.icmpNo Xl.here hx rfl (hb hby d3_6) rfl (tlt hlt).2.1 kg) ?_
      show G (Tl.setTop (mkF m 9 #[.val (.ref ob), .val (.ref oc), .val (.int (Int32.ofNat i))] []))
      refine go (fun tg kg => XS.aloadN Xl.here hx rfl (hb hby d3_9) rfl rfl kg) ?_
      show G (Tl.setTop (mkF m 10 #[.val (.ref ob), .val (.ref oc), .val (.int (Int32.ofNat i))] [(.ref ob)]))
      obtain ⟨T15, X15, e15, st15⟩ := getF Xl hx hZ hown (host := "") (Or.inl (hw _ (List.mem_of_getElem? (i := 12) rfl))) Via.refl el q1 (g := (mkF m 10 #[.val (.ref ob), .val (.ref oc), .val (.int (Int32.ofNat i))] [(.ref ob)])) rfl rfl (hb hby d3_10)
      refine go st15 ?_
      show G (T15.setTop (mkF m 13 #[.val (.ref ob), .val (.ref oc), .val (.int (Int32.ofNat i))] [(.ref ca)]))
      refine go (fun tg kg => XS.iloadN X15.here hx rfl (hb hby d3_13) rfl kg) ?_
      show G (T15.setTop (mkF m 14 #[.val (.ref ob), .val (.ref oc), .val (.int (Int32.ofNat i))] [(.int (Int32.ofNat i)), (.ref ca)]))
      refine go (fun tg kg => Jvm.Free.XT.dup2 X15.here hx rfl (hb hby d3_14) rfl rfl rfl kg) ?_
      show G (T15.setTop (mkF m 15 #[.val (.ref ob), .val (.ref oc), .val (.int (Int32.ofNat i))] [(.int (Int32.ofNat i)), (.ref ca), (.int (Int32.ofNat i)), (.ref ca)]))
      obtain ⟨cl16, Ar16, S16, H16⟩ := id q7
      have ok16 : own_ok (Int32.ofNat i) := own_ok_nat hi
      have hin16 := own_in S16 ok16
      have kk16 : ((Int32.ofNat i)).toNatClampNeg < 7296 := ok16.2
      rw [own_natN (by omega)] at kk16
      have hat16 : cl16.slots[((Int32.ofNat i)).toNatClampNeg]? = some (.long ((own_part fa fb i) i)) := by rw [own_natN (by omega)]; exact H16 _ kk16
      refine go (fun tg kg => X15.laload hx (j := (Int32.ofNat i)) (v := (.long ((own_part fa fb i) i))) (by rw [e15]; exact Ar16.1) (State.isArrayOf_alike hZ.alike Ar16.2.1) Ar16.2.2 hin16 hat16 (g := (mkF m 15 #[.val (.ref ob), .val (.ref oc), .val (.int (Int32.ofNat i))] [(.int (Int32.ofNat i)), (.ref ca), (.int (Int32.ofNat i)), (.ref ca)])) rfl rfl (hb hby d3_15) _ kg) ?_
      show G (T15.setTop (mkF m 16 #[.val (.ref ob), .val (.ref oc), .val (.int (Int32.ofNat i))] [(.long ((own_part fa fb i) i)), (.int (Int32.ofNat i)), (.ref ca)]))
      rw [own_part1 fa fb i]
      show G (T15.setTop (mkF m 16 #[.val (.ref ob), .val (.ref oc), .val (.int (Int32.ofNat i))] [(.long (fa i)), (.int (Int32.ofNat i)), (.ref ca)]))
      refine go (fun tg kg => XS.aloadN X15.here hx rfl (hb hby d3_16) rfl rfl kg) ?_
      show G (T15.setTop (mkF m 17 #[.val (.ref ob), .val (.ref oc), .val (.int (Int32.ofNat i))] [(.ref oc), (.long (fa i)), (.int (Int32.ofNat i)), (.ref ca)]))
      obtain ⟨T17, X17, e17, st17⟩ := getF X15 hx hZ hown (host := "") (Or.inl (hw _ (List.mem_of_getElem? (i := 12) rfl))) Via.refl e15 q4 (g := (mkF m 17 #[.val (.ref ob), .val (.ref oc), .val (.int (Int32.ofNat i))] [(.ref oc), (.long (fa i)), (.int (Int32.ofNat i)), (.ref ca)])) rfl rfl (hb hby d3_17)
      refine go st17 ?_
      show G (T17.setTop (mkF m 20 #[.val (.ref ob), .val (.ref oc), .val (.int (Int32.ofNat i))] [(.ref cb), (.long (fa i)), (.int (Int32.ofNat i)), (.ref ca)]))
      refine go (fun tg kg => XS.iloadN X17.here hx rfl (hb hby d3_20) rfl kg) ?_
      show G (T17.setTop (mkF m 21 #[.val (.ref ob), .val (.ref oc), .val (.int (Int32.ofNat i))] [(.int (Int32.ofNat i)), (.ref cb), (.long (fa i)), (.int (Int32.ofNat i)), (.ref ca)]))
      obtain ⟨cl18, Ar18, S18, H18⟩ := id q8
      have ok18 : own_ok (Int32.ofNat i) := own_ok_nat hi
      have hin18 := own_in S18 ok18
      have kk18 : ((Int32.ofNat i)).toNatClampNeg < 7296 := ok18.2
      rw [own_natN (by omega)] at kk18
      have hat18 : cl18.slots[((Int32.ofNat i)).toNatClampNeg]? = some (.long (fb i)) := by rw [own_natN (by omega)]; exact H18 _ kk18
      refine go (fun tg kg => X17.laload hx (j := (Int32.ofNat i)) (v := (.long (fb i))) (by rw [e17]; exact Ar18.1) (State.isArrayOf_alike hZ.alike Ar18.2.1) Ar18.2.2 hin18 hat18 (g := (mkF m 21 #[.val (.ref ob), .val (.ref oc), .val (.int (Int32.ofNat i))] [(.int (Int32.ofNat i)), (.ref cb), (.long (fa i)), (.int (Int32.ofNat i)), (.ref ca)])) rfl rfl (hb hby d3_21) _ kg) ?_
      show G (T17.setTop (mkF m 22 #[.val (.ref ob), .val (.ref oc), .val (.int (Int32.ofNat i))] [(.long (fb i)), (.long (fa i)), (.int (Int32.ofNat i)), (.ref ca)]))
      refine go (fun tg kg => XS.ladd X17.here hx rfl (hb hby d3_22) rfl kg) ?_
      show G (T17.setTop (mkF m 23 #[.val (.ref ob), .val (.ref oc), .val (.int (Int32.ofNat i))] [(.long ((fa i) + (fb i))), (.int (Int32.ofNat i)), (.ref ca)]))
      obtain ⟨cl19, Ar19, S19, H19⟩ := id q7
      have ok19 : own_ok (Int32.ofNat i) := own_ok_nat hi
      have hin19 := own_in S19 ok19
      have kk19 : ((Int32.ofNat i)).toNatClampNeg < 7296 := ok19.2
      rw [own_natN (by omega)] at kk19
      obtain ⟨T19, h19, X19, e19, W19, st19⟩ := stJ X17 hx hZ e17 Ar19 (j := (Int32.ofNat i)) hin19 (g := (mkF m 23 #[.val (.ref ob), .val (.ref oc), .val (.int (Int32.ofNat i))] [(.long ((fa i) + (fb i))), (.int (Int32.ofNat i)), (.ref ca)])) rfl rfl (hb hby d3_23)
      refine go st19 ?_
      have N19 := Fr.snoc X19 Nl g1
      have Wn19 := W19
      rw [own_natN (by omega)] at Wn19
      have V19 : own_Al Z h19 ca (own_up (own_part fa fb i) i ((fa i) + (fb i))) := own_set Ar19 S19 H19 kk19 Wn19
      have K19 : Keep h0 h19 [ob, ca] := Kl.wr W19 (Or.inl (List.mem_of_getElem? (i := 1) rfl))
      have Z19 := Nat.le_trans Zl (Keep.of_wr W19).1
      show G (T19.setTop (mkF m 24 #[.val (.ref ob), .val (.ref oc), .val (.int (Int32.ofNat i))] []))
      refine go (fun tg kg => XS.iinc X19.here hx rfl (hb hby d3_24) rfl (l' := #[.val (.ref ob), .val (.ref oc), .val (.int ((Int32.ofNat i) + (1 : Int32)))]) rfl kg) ?_
      show G (T19.setTop (mkF m 27 #[.val (.ref ob), .val (.ref oc), .val (.int ((Int32.ofNat i) + (1 : Int32)))] []))
      refine go (fun tg kg => XS.goto X19.here hx rfl (pc0 := 27) (pc' := 2) rfl (hb hby d3_27) (by decide) (by decide) kg) ?_
      show G (T19.setTop (mkF m 2 #[.val (.ref ob), .val (.ref oc), .val (.int ((Int32.ofNat i) + (1 : Int32)))] []))
      rw [own_inc hi]
      have Fa20 := (q0.wr W19)
      have Fa21 := (q1.other W19 (Or.inl hne))
      have Fa22 := (q2.other W19 (Or.inl hne))
      have Fa23 := (q3.other W19 (Or.inl hne))
      have Fa24 := (q4.other W19 (Or.inl hne1))
      have Fa25 := (q5.other W19 (Or.inl hne1))
      have Fa26 := (q6.other W19 (Or.inl hne1))
      have Fa27 := (q8.other W19 hne2)
      exact ih (i + 1) _ _ _ X19 e19 N19 Z19 K19 Fa20 Fa21 Fa22 Fa23 Fa24 Fa25 Fa26 (own_partS fa fb i ▸ V19) Fa27 (by omega)
  exact loop 7296 0 _ _ _ X0 e0 N0 Z0 (Keep.refl h0 [ob, ca]) Ex Fc Ft Fl Hc Ht Hl (own_part0 fa fb ▸ Va) Vb rfl
theorem ef_11 (m : MethodId) (x0 : Addr) (x1 : Int32) : entryFrame m #[(.ref x0), (.int x1)] 7 = mkF m 0 #[.val (.ref x0), .val (.int x1), .unset, .unset, .unset, .unset, .unset] [] := by first | (simp [entryFrame, mkF, argsToLocals, Value.category]; done) | rfl
theorem d11_0 : decode prog_19_method_5_code 0 = .ok (.iload_n 1, 1) := by decide +kernel
theorem d11_1 : decode prog_19_method_5_code 1 = .ok (.iconst 1, 1) := by decide +kernel
theorem d11_2 : decode prog_19_method_5_code 2 = .ok (.if_icmp .lt 9, 3) := by decide +kernel
theorem d11_5 : decode prog_19_method_5_code 5 = .ok (.iload_n 1, 1) := by decide +kernel
theorem d11_6 : decode prog_19_method_5_code 6 = .ok (.bipush 100, 2) := by decide +kernel
theorem d11_8 : decode prog_19_method_5_code 8 = .ok (.if_icmp .le 17, 3) := by decide +kernel
theorem d11_25 : decode prog_19_method_5_code 25 = .ok (.aload_n 0, 1) := by decide +kernel
theorem d11_26 : decode prog_19_method_5_code 26 = .ok (.getfield 28, 3) := by decide +kernel
theorem d11_29 : decode prog_19_method_5_code 29 = .ok (.lconst 0, 1) := by decide +kernel
theorem d11_30 : decode prog_19_method_5_code 30 = .ok (.lcmp, 1) := by decide +kernel
theorem d11_31 : decode prog_19_method_5_code 31 = .ok (.ifCond .ne 13, 3) := by decide +kernel
theorem d11_44 : decode prog_19_method_5_code 44 = .ok (.aload_n 0, 1) := by decide +kernel
theorem d11_45 : decode prog_19_method_5_code 45 = .ok (.getfield 28, 3) := by decide +kernel
theorem d11_48 : decode prog_19_method_5_code 48 = .ok (.ldc2_w 49, 3) := by decide +kernel
theorem d11_51 : decode prog_19_method_5_code 51 = .ok (.ldiv, 1) := by decide +kernel
theorem d11_52 : decode prog_19_method_5_code 52 = .ok (.iload_n 1, 1) := by decide +kernel
theorem d11_53 : decode prog_19_method_5_code 53 = .ok (.i2l, 1) := by decide +kernel
theorem d11_54 : decode prog_19_method_5_code 54 = .ok (.lmul, 1) := by decide +kernel
theorem d11_55 : decode prog_19_method_5_code 55 = .ok (.aload_n 0, 1) := by decide +kernel
theorem d11_56 : decode prog_19_method_5_code 56 = .ok (.getfield 28, 3) := by decide +kernel
theorem d11_59 : decode prog_19_method_5_code 59 = .ok (.ldc2_w 49, 3) := by decide +kernel
theorem d11_62 : decode prog_19_method_5_code 62 = .ok (.lrem, 1) := by decide +kernel
theorem d11_63 : decode prog_19_method_5_code 63 = .ok (.iload_n 1, 1) := by decide +kernel
theorem d11_64 : decode prog_19_method_5_code 64 = .ok (.i2l, 1) := by decide +kernel
theorem d11_65 : decode prog_19_method_5_code 65 = .ok (.lmul, 1) := by decide +kernel
theorem d11_66 : decode prog_19_method_5_code 66 = .ok (.ldc2_w 51, 3) := by decide +kernel
theorem d11_69 : decode prog_19_method_5_code 69 = .ok (.ladd, 1) := by decide +kernel
theorem d11_70 : decode prog_19_method_5_code 70 = .ok (.ldc2_w 49, 3) := by decide +kernel
theorem d11_73 : decode prog_19_method_5_code 73 = .ok (.ldiv, 1) := by decide +kernel
theorem d11_74 : decode prog_19_method_5_code 74 = .ok (.ladd, 1) := by decide +kernel
theorem d11_75 : decode prog_19_method_5_code 75 = .ok (.lstore_n 2, 1) := by decide +kernel
theorem d11_76 : decode prog_19_method_5_code 76 = .ok (.lconst 0, 1) := by decide +kernel
theorem d11_77 : decode prog_19_method_5_code 77 = .ok (.lstore 4, 2) := by decide +kernel
theorem d11_79 : decode prog_19_method_5_code 79 = .ok (.iconst 0, 1) := by decide +kernel
theorem d11_80 : decode prog_19_method_5_code 80 = .ok (.istore 6, 2) := by decide +kernel
theorem d11_82 : decode prog_19_method_5_code 82 = .ok (.lload 4, 2) := by decide +kernel
theorem d11_84 : decode prog_19_method_5_code 84 = .ok (.aload_n 0, 1) := by decide +kernel
theorem d11_85 : decode prog_19_method_5_code 85 = .ok (.getfield 11, 3) := by decide +kernel
theorem d11_88 : decode prog_19_method_5_code 88 = .ok (.iload 6, 2) := by decide +kernel
theorem d11_90 : decode prog_19_method_5_code 90 = .ok (.laload, 1) := by decide +kernel
theorem d11_91 : decode prog_19_method_5_code 91 = .ok (.ladd, 1) := by decide +kernel
theorem d11_92 : decode prog_19_method_5_code 92 = .ok (.lload_n 2, 1) := by decide +kernel
theorem d11_93 : decode prog_19_method_5_code 93 = .ok (.lcmp, 1) := by decide +kernel
theorem d11_94 : decode prog_19_method_5_code 94 = .ok (.ifCond .ge 21, 3) := by decide +kernel
theorem d11_97 : decode prog_19_method_5_code 97 = .ok (.lload 4, 2) := by decide +kernel
theorem d11_99 : decode prog_19_method_5_code 99 = .ok (.aload_n 0, 1) := by decide +kernel
theorem d11_100 : decode prog_19_method_5_code 100 = .ok (.getfield 11, 3) := by decide +kernel
theorem d11_103 : decode prog_19_method_5_code 103 = .ok (.iload 6, 2) := by decide +kernel
theorem d11_105 : decode prog_19_method_5_code 105 = .ok (.laload, 1) := by decide +kernel
theorem d11_106 : decode prog_19_method_5_code 106 = .ok (.ladd, 1) := by decide +kernel
theorem d11_107 : decode prog_19_method_5_code 107 = .ok (.lstore 4, 2) := by decide +kernel
theorem d11_109 : decode prog_19_method_5_code 109 = .ok (.iinc 6 1, 3) := by decide +kernel
theorem d11_112 : decode prog_19_method_5_code 112 = .ok (.goto (-30), 3) := by decide +kernel
theorem d11_115 : decode prog_19_method_5_code 115 = .ok (.iload 6, 2) := by decide +kernel
theorem d11_117 : decode prog_19_method_5_code 117 = .ok (.invokestatic 53, 3) := by decide +kernel
theorem pd__I_J : parseMethodDescriptor "(I)J" = some ⟨[.int], some .long⟩ := by decide +kernel
theorem d11_120 : decode prog_19_method_5_code 120 = .ok (.aload_n 0, 1) := by decide +kernel
theorem d11_121 : decode prog_19_method_5_code 121 = .ok (.getfield 32, 3) := by decide +kernel
theorem d11_124 : decode prog_19_method_5_code 124 = .ok (.invokestatic 57, 3) := by decide +kernel
theorem d11_127 : decode prog_19_method_5_code 127 = .ok (.lreturn, 1) := by decide +kernel
def Q_rm11 (Z : State) (ob : Addr) (xp : Int32) (ca : Addr) (fa : Nat → Int64) (yt : Int64) (yl : Int64) (NN : Nat) (h0 : Heap) (n0 : Nat) (v : Option Value) (h : Heap) (L : List Loc) : Prop := ∃ i : Nat, i < 7296 ∧ (∀ j, j < i → own_pre fa (j + 1) < own_rank yt xp) ∧ ¬ own_pre fa (i + 1) < own_rank yt xp ∧ v = some (.long (own_minL (own_high (Int32.ofNat i)) yl)) ∧ Fr n0 L ∧ h = h0
set_option maxRecDepth 65536 in
set_option maxHeartbeats 40000000 in
theorem rm11 (l : Launch) (Z : State) (a0 : Array Value) (hw : ∀ d ∈ tables_1, d.before a0 Z = true) (ws : List Jvm.Cond) (ob : Addr) (xp : Int32) (ca : Addr) (fa : Nat → Int64) (yt : Int64) (yl : Int64) (NN : Nat) (h0 : Heap) (n0 : Nat) (Z0 : n0 ≤ h0.size) (Fc : Fld Z h0 ob "com/example/wary_commit/warycommit/LatencyHistogram" "counts" "[J" (.ref ca)) (Ft : Fld Z h0 ob "com/example/wary_commit/warycommit/LatencyHistogram" "total" "J" (.long yt)) (Fl : Fld Z h0 ob "com/example/wary_commit/warycommit/LatencyHistogram" "longest" "J" (.long yl)) (Va : own_Al Z h0 ca fa) (hp : 1 ≤ xp.toInt ∧ xp.toInt ≤ 100) (ht0 : ¬ yt = (0 : Int64)) (hN1 : NN < 7296) (hN2 : ¬ own_pre fa (NN + 1) < own_rank yt xp) :
    MetFree l (⟨"com/example/wary_commit/warycommit/LatencyHistogram", "percentile", "(I)J"⟩ : MethodName) (head1 (Jvm.Cond.code (⟨"com/example/wary_commit/warycommit/LatencyHistogram", "percentile", "(I)J"⟩ : MethodName) prog_19_method_5_code 7 (some .long) :: ws) ({ frames := 2, cells := 0, slots := 0, locals := 28 } : Room)) (fun a U => a = #[(.ref ob), (.int xp)] ∧ Z.Warmed39 U.vm ∧ U.heap = h0) (fun _ _ _ _ _ => True) (fun _ U o U' => ∃ v L, o = .returned v ∧ Q_rm11 Z ob xp ca fa yt yl NN h0 n0 v U'.heap L ∧ FrameEnd U o U' L ({ frames := 2, cells := 0, slots := 0, locals := 28 } : Room).cells ({ frames := 2, cells := 0, slots := 0, locals := 28 } : Room).slots) := by
  refine own_enter (Q := Q_rm11 Z ob xp ca fa yt yl NN h0 n0) (plainFor_of_name pn_com_example_wary_commit_warycommit_LatencyHistogram) ?_
  intro p e s m below meth c s₁ G X0 hx hby hml hZ hown hnm hret e0 go fin
  replace hown : s.vm.findClass "com/example/wary_commit/warycommit/LatencyHistogram" = some m.cls := hown
  replace hnm : meth.name = "percentile" := hnm
  replace hml : c.maxLocals = 7 := hml
  rw [ef_11 m ob xp]
  have N0 := Fr.nil n0
  show G (s₁.setTop (mkF m 0 #[.val (.ref ob), .val (.int xp), .unset, .unset, .unset, .unset, .unset] []))
  refine go (fun tg kg => XS.iloadN X0.here hx rfl (hb hby d11_0) rfl kg) ?_
  show G (s₁.setTop (mkF m 1 #[.val (.ref ob), .val (.int xp), .unset, .unset, .unset, .unset, .unset] [(.int xp)]))
  refine go (fun tg kg => XS.iconst X0.here hx rfl (hb hby d11_1) kg) ?_
  show G (s₁.setTop (mkF m 2 #[.val (.ref ob), .val (.int xp), .unset, .unset, .unset, .unset, .unset] [(.int (1 : Int32)), (.int xp)]))
  refine go (fun tg kg => XS.icmpNo X0.here hx rfl (hb hby d11_2) rfl (flt (own_p1 hp).1).1 kg) ?_
  show G (s₁.setTop (mkF m 5 #[.val (.ref ob), .val (.int xp), .unset, .unset, .unset, .unset, .unset] []))
  refine go (fun tg kg => XS.iloadN X0.here hx rfl (hb hby d11_5) rfl kg) ?_
  show G (s₁.setTop (mkF m 6 #[.val (.ref ob), .val (.int xp), .unset, .unset, .unset, .unset, .unset] [(.int xp)]))
  refine go (fun tg kg => XS.bipush X0.here hx rfl (hb hby d11_6) kg) ?_
  show G (s₁.setTop (mkF m 8 #[.val (.ref ob), .val (.int xp), .unset, .unset, .unset, .unset, .unset] [(.int (100 : Int32)), (.int xp)]))
  refine go (fun tg kg => XS.icmpYes X0.here hx rfl (pc0 := 8) (pc' := 25) rfl (hb hby d11_8) rfl (flt (own_p1 hp).2).2.2.2 (by decide) (by decide) kg) ?_
  show G (s₁.setTop (mkF m 25 #[.val (.ref ob), .val (.int xp), .unset, .unset, .unset, .unset, .unset] []))
  refine go (fun tg kg => XS.aloadN X0.here hx rfl (hb hby d11_25) rfl rfl kg) ?_
  show G (s₁.setTop (mkF m 26 #[.val (.ref ob), .val (.int xp), .unset, .unset, .unset, .unset, .unset] [(.ref ob)]))
  obtain ⟨T1, X1, e1, st1⟩ := getF X0 hx hZ hown (host := "") (Or.inl (hw _ (List.mem_of_getElem? (i := 19) rfl))) Via.refl e0 Ft (g := (mkF m 26 #[.val (.ref ob), .val (.int xp), .unset, .unset, .unset, .unset, .unset] [(.ref ob)])) rfl rfl (hb hby d11_26)
  refine go st1 ?_
  show G (T1.setTop (mkF m 29 #[.val (.ref ob), .val (.int xp), .unset, .unset, .unset, .unset, .unset] [(.long yt)]))
  refine go (fun tg kg => XS.lconst X1.here hx rfl (hb hby d11_29) kg) ?_
  show G (T1.setTop (mkF m 30 #[.val (.ref ob), .val (.int xp), .unset, .unset, .unset, .unset, .unset] [(.long (0 : Int64)), (.long yt)]))
  refine go (fun tg kg => XS.lcmp X1.here hx rfl (hb hby d11_30) rfl kg) ?_
  show G (T1.setTop (mkF m 31 #[.val (.ref ob), .val (.int xp), .unset, .unset, .unset, .unset, .unset] [(.int (lcmpW yt (0 : Int64)))]))
  refine go (fun tg kg => XS.ifYes X1.here hx rfl (pc0 := 31) (pc' := 44) rfl (hb hby d11_31) rfl ((if0 _ _).trans (feq (mt (lw_eq yt (0 : Int64)).mp ht0)).2) (by decide) (by decide) kg) ?_
  show G (T1.setTop (mkF m 44 #[.val (.ref ob), .val (.int xp), .unset, .unset, .unset, .unset, .unset] []))
  refine go (fun tg kg => XS.aloadN X1.here hx rfl (hb hby d11_44) rfl rfl kg) ?_
  show G (T1.setTop (mkF m 45 #[.val (.ref ob), .val (.int xp), .unset, .unset, .unset, .unset, .unset] [(.ref ob)]))
  obtain ⟨T2, X2, e2, st2⟩ := getF X1 hx hZ hown (host := "") (Or.inl (hw _ (List.mem_of_getElem? (i := 19) rfl))) Via.refl e1 Ft (g := (mkF m 45 #[.val (.ref ob), .val (.int xp), .unset, .unset, .unset, .unset, .unset] [(.ref ob)])) rfl rfl (hb hby d11_45)
  refine go st2 ?_
  show G (T2.setTop (mkF m 48 #[.val (.ref ob), .val (.int xp), .unset, .unset, .unset, .unset, .unset] [(.long yt)]))
  refine go (fun tg kg => X2.ldc2Long hx hown (mvT hZ (hw _ (List.mem_of_getElem? (i := 57) rfl))) (g := (mkF m 48 #[.val (.ref ob), .val (.int xp), .unset, .unset, .unset, .unset, .unset] [(.long yt)])) rfl (hb hby d11_48) _ kg) ?_
  show G (T2.setTop (mkF m 51 #[.val (.ref ob), .val (.int xp), .unset, .unset, .unset, .unset, .unset] [(.long (100 : Int64)), (.long yt)]))
  refine go (fun tg kg => XS.ldiv X2.here hx rfl (hb hby d11_51) rfl (by decide) kg) ?_
  show G (T2.setTop (mkF m 52 #[.val (.ref ob), .val (.int xp), .unset, .unset, .unset, .unset, .unset] [(.long (yt / (100 : Int64)))]))
  refine go (fun tg kg => XS.iloadN X2.here hx rfl (hb hby d11_52) rfl kg) ?_
  show G (T2.setTop (mkF m 53 #[.val (.ref ob), .val (.int xp), .unset, .unset, .unset, .unset, .unset] [(.int xp), (.long (yt / (100 : Int64)))]))
  refine go (fun tg kg => XS.i2l X2.here hx rfl (hb hby d11_53) rfl kg) ?_
  show G (T2.setTop (mkF m 54 #[.val (.ref ob), .val (.int xp), .unset, .unset, .unset, .unset, .unset] [(.long (xp.toInt64)), (.long (yt / (100 : Int64)))]))
  refine go (fun tg kg => XS.lmul X2.here hx rfl (hb hby d11_54) rfl kg) ?_
  show G (T2.setTop (mkF m 55 #[.val (.ref ob), .val (.int xp), .unset, .unset, .unset, .unset, .unset] [(.long ((yt / (100 : Int64)) * (xp.toInt64)))]))
  refine go (fun tg kg => XS.aloadN X2.here hx rfl (hb hby d11_55) rfl rfl kg) ?_
  show G (T2.setTop (mkF m 56 #[.val (.ref ob), .val (.int xp), .unset, .unset, .unset, .unset, .unset] [(.ref ob), (.long ((yt / (100 : Int64)) * (xp.toInt64)))]))
  obtain ⟨T3, X3, e3, st3⟩ := getF X2 hx hZ hown (host := "") (Or.inl (hw _ (List.mem_of_getElem? (i := 19) rfl))) Via.refl e2 Ft (g := (mkF m 56 #[.val (.ref ob), .val (.int xp), .unset, .unset, .unset, .unset, .unset] [(.ref ob), (.long ((yt / (100 : Int64)) * (xp.toInt64)))])) rfl rfl (hb hby d11_56)
  refine go st3 ?_
  show G (T3.setTop (mkF m 59 #[.val (.ref ob), .val (.int xp), .unset, .unset, .unset, .unset, .unset] [(.long yt), (.long ((yt / (100 : Int64)) * (xp.toInt64)))]))
  refine go (fun tg kg => X3.ldc2Long hx hown (mvT hZ (hw _ (List.mem_of_getElem? (i := 57) rfl))) (g := (mkF m 59 #[.val (.ref ob), .val (.int xp), .unset, .unset, .unset, .unset, .unset] [(.long yt), (.long ((yt / (100 : Int64)) * (xp.toInt64)))])) rfl (hb hby d11_59) _ kg) ?_
  show G (T3.setTop (mkF m 62 #[.val (.ref ob), .val (.int xp), .unset, .unset, .unset, .unset, .unset] [(.long (100 : Int64)), (.long yt), (.long ((yt / (100 : Int64)) * (xp.toInt64)))]))
  refine go (fun tg kg => own_lrem X3 hx rfl (hb hby d11_62) rfl (by decide) kg) ?_
  show G (T3.setTop (mkF m 63 #[.val (.ref ob), .val (.int xp), .unset, .unset, .unset, .unset, .unset] [(.long (yt % (100 : Int64))), (.long ((yt / (100 : Int64)) * (xp.toInt64)))]))
  refine go (fun tg kg => XS.iloadN X3.here hx rfl (hb hby d11_63) rfl kg) ?_
  show G (T3.setTop (mkF m 64 #[.val (.ref ob), .val (.int xp), .unset, .unset, .unset, .unset, .unset] [(.int xp), (.long (yt % (100 : Int64))), (.long ((yt / (100 : Int64)) * (xp.toInt64)))]))
  refine go (fun tg kg => XS.i2l X3.here hx rfl (hb hby d11_64) rfl kg) ?_
  show G (T3.setTop (mkF m 65 #[.val (.ref ob), .val (.int xp), .unset, .unset, .unset, .unset, .unset] [(.long (xp.toInt64)), (.long (yt % (100 : Int64))), (.long ((yt / (100 : Int64)) * (xp.toInt64)))]))
  refine go (fun tg kg => XS.lmul X3.here hx rfl (hb hby d11_65) rfl kg) ?_
  show G (T3.setTop (mkF m 66 #[.val (.ref ob), .val (.int xp), .unset, .unset, .unset, .unset, .unset] [(.long ((yt % (100 : Int64)) * (xp.toInt64))), (.long ((yt / (100 : Int64)) * (xp.toInt64)))]))
  refine go (fun tg kg => X3.ldc2Long hx hown (mvT hZ (hw _ (List.mem_of_getElem? (i := 58) rfl))) (g := (mkF m 66 #[.val (.ref ob), .val (.int xp), .unset, .unset, .unset, .unset, .unset] [(.long ((yt % (100 : Int64)) * (xp.toInt64))), (.long ((yt / (100 : Int64)) * (xp.toInt64)))])) rfl (hb hby d11_66) _ kg) ?_
  show G (T3.setTop (mkF m 69 #[.val (.ref ob), .val (.int xp), .unset, .unset, .unset, .unset, .unset] [(.long (99 : Int64)), (.long ((yt % (100 : Int64)) * (xp.toInt64))), (.long ((yt / (100 : Int64)) * (xp.toInt64)))]))
  refine go (fun tg kg => XS.ladd X3.here hx rfl (hb hby d11_69) rfl kg) ?_
  show G (T3.setTop (mkF m 70 #[.val (.ref ob), .val (.int xp), .unset, .unset, .unset, .unset, .unset] [(.long (((yt % (100 : Int64)) * (xp.toInt64)) + (99 : Int64))), (.long ((yt / (100 : Int64)) * (xp.toInt64)))]))
  refine go (fun tg kg => X3.ldc2Long hx hown (mvT hZ (hw _ (List.mem_of_getElem? (i := 57) rfl))) (g := (mkF m 70 #[.val (.ref ob), .val (.int xp), .unset, .unset, .unset, .unset, .unset] [(.long (((yt % (100 : Int64)) * (xp.toInt64)) + (99 : Int64))), (.long ((yt / (100 : Int64)) * (xp.toInt64)))])) rfl (hb hby d11_70) _ kg) ?_
  show G (T3.setTop (mkF m 73 #[.val (.ref ob), .val (.int xp), .unset, .unset, .unset, .unset, .unset] [(.long (100 : Int64)), (.long (((yt % (100 : Int64)) * (xp.toInt64)) + (99 : Int64))), (.long ((yt / (100 : Int64)) * (xp.toInt64)))]))
  refine go (fun tg kg => XS.ldiv X3.here hx rfl (hb hby d11_73) rfl (by decide) kg) ?_
  show G (T3.setTop (mkF m 74 #[.val (.ref ob), .val (.int xp), .unset, .unset, .unset, .unset, .unset] [(.long ((((yt % (100 : Int64)) * (xp.toInt64)) + (99 : Int64)) / (100 : Int64))), (.long ((yt / (100 : Int64)) * (xp.toInt64)))]))
  refine go (fun tg kg => XS.ladd X3.here hx rfl (hb hby d11_74) rfl kg) ?_
  show G (T3.setTop (mkF m 75 #[.val (.ref ob), .val (.int xp), .unset, .unset, .unset, .unset, .unset] [(.long (((yt / (100 : Int64)) * (xp.toInt64)) + ((((yt % (100 : Int64)) * (xp.toInt64)) + (99 : Int64)) / (100 : Int64))))]))
  refine go (fun tg kg => XS.lstoreN X3.here hx rfl (hb hby d11_75) rfl (l' := #[.val (.ref ob), .val (.int xp), .val (.long (((yt / (100 : Int64)) * (xp.toInt64)) + ((((yt % (100 : Int64)) * (xp.toInt64)) + (99 : Int64)) / (100 : Int64)))), .second, .unset, .unset, .unset]) rfl kg) ?_
  show G (T3.setTop (mkF m 76 #[.val (.ref ob), .val (.int xp), .val (.long (((yt / (100 : Int64)) * (xp.toInt64)) + ((((yt % (100 : Int64)) * (xp.toInt64)) + (99 : Int64)) / (100 : Int64)))), .second, .unset, .unset, .unset] []))
  show G (T3.setTop (mkF m 76 #[.val (.ref ob), .val (.int xp), .val (.long (own_rank yt xp)), .second, .unset, .unset, .unset] []))
  refine go (fun tg kg => XS.lconst X3.here hx rfl (hb hby d11_76) kg) ?_
  show G (T3.setTop (mkF m 77 #[.val (.ref ob), .val (.int xp), .val (.long (own_rank yt xp)), .second, .unset, .unset, .unset] [(.long (0 : Int64))]))
  refine go (fun tg kg => XS.lstore X3.here hx rfl (hb hby d11_77) rfl (l' := #[.val (.ref ob), .val (.int xp), .val (.long (own_rank yt xp)), .second, .val (.long (0 : Int64)), .second, .unset]) rfl kg) ?_
  show G (T3.setTop (mkF m 79 #[.val (.ref ob), .val (.int xp), .val (.long (own_rank yt xp)), .second, .val (.long (0 : Int64)), .second, .unset] []))
  refine go (fun tg kg => XS.iconst X3.here hx rfl (hb hby d11_79) kg) ?_
  show G (T3.setTop (mkF m 80 #[.val (.ref ob), .val (.int xp), .val (.long (own_rank yt xp)), .second, .val (.long (0 : Int64)), .second, .unset] [(.int (0 : Int32))]))
  refine go (fun tg kg => XS.istore X3.here hx rfl (hb hby d11_80) rfl (l' := #[.val (.ref ob), .val (.int xp), .val (.long (own_rank yt xp)), .second, .val (.long (0 : Int64)), .second, .val (.int (0 : Int32))]) rfl kg) ?_
  show G (T3.setTop (mkF m 82 #[.val (.ref ob), .val (.int xp), .val (.long (own_rank yt xp)), .second, .val (.long (0 : Int64)), .second, .val (.int (0 : Int32))] []))
  have loop : ∀ (k i : Nat) (Tl : State), Stand p l e ({ frames := 2, cells := 0, slots := 0, locals := 28 } : Room) s m #[(.ref ob), (.int xp)] below meth c Tl [] 0 0 → Tl.heap = h0 → i + k = NN + 1 → (∀ j, j < i → own_pre fa (j + 1) < own_rank yt xp) → G (Tl.setTop (mkF m 82 #[.val (.ref ob), .val (.int xp), .val (.long (own_rank yt xp)), .second, .val (.long (own_pre fa (i))), .second, .val (.int (Int32.ofNat (i)))] [])) := by
    intro k
    induction k with
    | zero => intro i Tl Xl el hk hrej; exact absurd (hrej NN (by omega)) hN2
    | succ k ih =>
      intro i Tl Xl el hk hrej
      have hi : i < 7296 := by omega
      refine go (fun tg kg => XS.lload Xl.here hx rfl (hb hby d11_82) rfl kg) ?_
      show G (Tl.setTop (mkF m 84 #[.val (.ref ob), .val (.int xp), .val (.long (own_rank yt xp)), .second, .val (.long (own_pre fa i)), .second, .val (.int (Int32.ofNat i))] [(.long (own_pre fa i))]))
      refine go (fun tg kg => XS.aloadN Xl.here hx rfl (hb hby d11_84) rfl rfl kg) ?_
      show G (Tl.setTop (mkF m 85 #[.val (.ref ob), .val (.int xp), .val (.long (own_rank yt xp)), .second, .val (.long (own_pre fa i)), .second, .val (.int (Int32.ofNat i))] [(.ref ob), (.long (own_pre fa i))]))
      obtain ⟨T4, X4, e4, st4⟩ := getF Xl hx hZ hown (host := "") (Or.inl (hw _ (List.mem_of_getElem? (i := 12) rfl))) Via.refl el Fc (g := (mkF m 85 #[.val (.ref ob), .val (.int xp), .val (.long (own_rank yt xp)), .second, .val (.long (own_pre fa i)), .second, .val (.int (Int32.ofNat i))] [(.ref ob), (.long (own_pre fa i))])) rfl rfl (hb hby d11_85)
      refine go st4 ?_
      show G (T4.setTop (mkF m 88 #[.val (.ref ob), .val (.int xp), .val (.long (own_rank yt xp)), .second, .val (.long (own_pre fa i)), .second, .val (.int (Int32.ofNat i))] [(.ref ca), (.long (own_pre fa i))]))
      refine go (fun tg kg => XS.iload X4.here hx rfl (hb hby d11_88) rfl kg) ?_
      show G (T4.setTop (mkF m 90 #[.val (.ref ob), .val (.int xp), .val (.long (own_rank yt xp)), .second, .val (.long (own_pre fa i)), .second, .val (.int (Int32.ofNat i))] [(.int (Int32.ofNat i)), (.ref ca), (.long (own_pre fa i))]))
      obtain ⟨cl5, Ar5, S5, H5⟩ := id Va
      have ok5 : own_ok (Int32.ofNat i) := own_ok_nat hi
      have hin5 := own_in S5 ok5
      have kk5 : ((Int32.ofNat i)).toNatClampNeg < 7296 := ok5.2
      rw [own_natN (by omega)] at kk5
      have hat5 : cl5.slots[((Int32.ofNat i)).toNatClampNeg]? = some (.long (fa i)) := by rw [own_natN (by omega)]; exact H5 _ kk5
      refine go (fun tg kg => X4.laload hx (j := (Int32.ofNat i)) (v := (.long (fa i))) (by rw [e4]; exact Ar5.1) (State.isArrayOf_alike hZ.alike Ar5.2.1) Ar5.2.2 hin5 hat5 (g := (mkF m 90 #[.val (.ref ob), .val (.int xp), .val (.long (own_rank yt xp)), .second, .val (.long (own_pre fa i)), .second, .val (.int (Int32.ofNat i))] [(.int (Int32.ofNat i)), (.ref ca), (.long (own_pre fa i))])) rfl rfl (hb hby d11_90) _ kg) ?_
      show G (T4.setTop (mkF m 91 #[.val (.ref ob), .val (.int xp), .val (.long (own_rank yt xp)), .second, .val (.long (own_pre fa i)), .second, .val (.int (Int32.ofNat i))] [(.long (fa i)), (.long (own_pre fa i))]))
      refine go (fun tg kg => XS.ladd X4.here hx rfl (hb hby d11_91) rfl kg) ?_
      show G (T4.setTop (mkF m 92 #[.val (.ref ob), .val (.int xp), .val (.long (own_rank yt xp)), .second, .val (.long (own_pre fa i)), .second, .val (.int (Int32.ofNat i))] [(.long ((own_pre fa i) + (fa i)))]))
      show G (T4.setTop (mkF m 92 #[.val (.ref ob), .val (.int xp), .val (.long (own_rank yt xp)), .second, .val (.long (own_pre fa i)), .second, .val (.int (Int32.ofNat i))] [(.long (own_pre fa (i + 1)))]))
      refine go (fun tg kg => XS.lloadN X4.here hx rfl (hb hby d11_92) rfl kg) ?_
      show G (T4.setTop (mkF m 93 #[.val (.ref ob), .val (.int xp), .val (.long (own_rank yt xp)), .second, .val (.long (own_pre fa i)), .second, .val (.int (Int32.ofNat i))] [(.long (own_rank yt xp)), (.long (own_pre fa (i + 1)))]))
      refine go (fun tg kg => XS.lcmp X4.here hx rfl (hb hby d11_93) rfl kg) ?_
      show G (T4.setTop (mkF m 94 #[.val (.ref ob), .val (.int xp), .val (.long (own_rank yt xp)), .second, .val (.long (own_pre fa i)), .second, .val (.int (Int32.ofNat i))] [(.int (lcmpW (own_pre fa (i + 1)) (own_rank yt xp)))]))
      by_cases hc6 : (own_pre fa (i + 1)) < (own_rank yt xp)
      · refine go (fun tg kg => XS.ifNo X4.here hx rfl (hb hby d11_94) rfl ((if0 _ _).trans (tlt ((lw_lt (own_pre fa (i + 1)) (own_rank yt xp)).mpr hc6)).2.1) kg) ?_
        show G (T4.setTop (mkF m 97 #[.val (.ref ob), .val (.int xp), .val (.long (own_rank yt xp)), .second, .val (.long (own_pre fa i)), .second, .val (.int (Int32.ofNat i))] []))
        refine go (fun tg kg => XS.lload X4.here hx rfl (hb hby d11_97) rfl kg) ?_
        show G (T4.setTop (mkF m 99 #[.val (.ref ob), .val (.int xp), .val (.long (own_rank yt xp)), .second, .val (.long (own_pre fa i)), .second, .val (.int (Int32.ofNat i))] [(.long (own_pre fa i))]))
        refine go (fun tg kg => XS.aloadN X4.here hx rfl (hb hby d11_99) rfl rfl kg) ?_
        show G (T4.setTop (mkF m 100 #[.val (.ref ob), .val (.int xp), .val (.long (own_rank yt xp)), .second, .val (.long (own_pre fa i)), .second, .val (.int (Int32.ofNat i))] [(.ref ob), (.long (own_pre fa i))]))
        obtain ⟨T7, X7, e7, st7⟩ := getF X4 hx hZ hown (host := "") (Or.inl (hw _ (List.mem_of_getElem? (i := 12) rfl))) Via.refl e4 Fc (g := (mkF m 100 #[.val (.ref ob), .val (.int xp), .val (.long (own_rank yt xp)), .second, .val (.long (own_pre fa i)), .second, .val (.int (Int32.ofNat i))] [(.ref ob), (.long (own_pre fa i))])) rfl rfl (hb hby d11_100)
        refine go st7 ?_
        show G (T7.setTop (mkF m 103 #[.val (.ref ob), .val (.int xp), .val (.long (own_rank yt xp)), .second, .val (.long (own_pre fa i)), .second, .val (.int (Int32.ofNat i))] [(.ref ca), (.long (own_pre fa i))]))
        refine go (fun tg kg => XS.iload X7.here hx rfl (hb hby d11_103) rfl kg) ?_
        show G (T7.setTop (mkF m 105 #[.val (.ref ob), .val (.int xp), .val (.long (own_rank yt xp)), .second, .val (.long (own_pre fa i)), .second, .val (.int (Int32.ofNat i))] [(.int (Int32.ofNat i)), (.ref ca), (.long (own_pre fa i))]))
        obtain ⟨cl8, Ar8, S8, H8⟩ := id Va
        have ok8 : own_ok (Int32.ofNat i) := own_ok_nat hi
        have hin8 := own_in S8 ok8
        have kk8 : ((Int32.ofNat i)).toNatClampNeg < 7296 := ok8.2
        rw [own_natN (by omega)] at kk8
        have hat8 : cl8.slots[((Int32.ofNat i)).toNatClampNeg]? = some (.long (fa i)) := by rw [own_natN (by omega)]; exact H8 _ kk8
        refine go (fun tg kg => X7.laload hx (j := (Int32.ofNat i)) (v := (.long (fa i))) (by rw [e7]; exact Ar8.1) (State.isArrayOf_alike hZ.alike Ar8.2.1) Ar8.2.2 hin8 hat8 (g := (mkF m 105 #[.val (.ref ob), .val (.int xp), .val (.long (own_rank yt xp)), .second, .val (.long (own_pre fa i)), .second, .val (.int (Int32.ofNat i))] [(.int (Int32.ofNat i)), (.ref ca), (.long (own_pre fa i))])) rfl rfl (hb hby d11_105) _ kg) ?_
        show G (T7.setTop (mkF m 106 #[.val (.ref ob), .val (.int xp), .val (.long (own_rank yt xp)), .second, .val (.long (own_pre fa i)), .second, .val (.int (Int32.ofNat i))] [(.long (fa i)), (.long (own_pre fa i))]))
        refine go (fun tg kg => XS.ladd X7.here hx rfl (hb hby d11_106) rfl kg) ?_
        show G (T7.setTop (mkF m 107 #[.val (.ref ob), .val (.int xp), .val (.long (own_rank yt xp)), .second, .val (.long (own_pre fa i)), .second, .val (.int (Int32.ofNat i))] [(.long ((own_pre fa i) + (fa i)))]))
        refine go (fun tg kg => XS.lstore X7.here hx rfl (hb hby d11_107) rfl (l' := #[.val (.ref ob), .val (.int xp), .val (.long (own_rank yt xp)), .second, .val (.long ((own_pre fa i) + (fa i))), .second, .val (.int (Int32.ofNat i))]) rfl kg) ?_
        show G (T7.setTop (mkF m 109 #[.val (.ref ob), .val (.int xp), .val (.long (own_rank yt xp)), .second, .val (.long ((own_pre fa i) + (fa i))), .second, .val (.int (Int32.ofNat i))] []))
        show G (T7.setTop (mkF m 109 #[.val (.ref ob), .val (.int xp), .val (.long (own_rank yt xp)), .second, .val (.long (own_pre fa (i + 1))), .second, .val (.int (Int32.ofNat i))] []))
        refine go (fun tg kg => XS.iinc X7.here hx rfl (hb hby d11_109) rfl (l' := #[.val (.ref ob), .val (.int xp), .val (.long (own_rank yt xp)), .second, .val (.long (own_pre fa (i + 1))), .second, .val (.int ((Int32.ofNat i) + (1 : Int32)))]) rfl kg) ?_
        show G (T7.setTop (mkF m 112 #[.val (.ref ob), .val (.int xp), .val (.long (own_rank yt xp)), .second, .val (.long (own_pre fa (i + 1))), .second, .val (.int ((Int32.ofNat i) + (1 : Int32)))] []))
        refine go (fun tg kg => XS.goto X7.here hx rfl (pc0 := 112) (pc' := 82) rfl (hb hby d11_112) (by decide) (by decide) kg) ?_
        show G (T7.setTop (mkF m 82 #[.val (.ref ob), .val (.int xp), .val (.long (own_rank yt xp)), .second, .val (.long (own_pre fa (i + 1))), .second, .val (.int ((Int32.ofNat i) + (1 : Int32)))] []))
        rw [own_inc hi]
        exact ih (i + 1) _ X7 e7 (by omega) (fun j hj => (Nat.lt_succ_iff_lt_or_eq.mp hj).elim (hrej j) (fun q => q ▸ hc6))
      · refine go (fun tg kg => XS.ifYes X4.here hx rfl (pc0 := 94) (pc' := 115) rfl (hb hby d11_94) rfl ((if0 _ _).trans (flt (mt (lw_lt (own_pre fa (i + 1)) (own_rank yt xp)).mp hc6)).2.1) (by decide) (by decide) kg) ?_
        show G (T4.setTop (mkF m 115 #[.val (.ref ob), .val (.int xp), .val (.long (own_rank yt xp)), .second, .val (.long (own_pre fa i)), .second, .val (.int (Int32.ofNat i))] []))
        refine go (fun tg kg => XS.iload X4.here hx rfl (hb hby d11_115) rfl kg) ?_
        show G (T4.setTop (mkF m 117 #[.val (.ref ob), .val (.int xp), .val (.long (own_rank yt xp)), .second, .val (.long (own_pre fa i)), .second, .val (.int (Int32.ofNat i))] [(.int (Int32.ofNat i))]))
        obtain ⟨_, _, ⟨T9, L9, k9, n9⟩, -, X9, ⟨Lc9, hQ9, l9, y9, z9⟩, st9⟩ := Jvm.LawKit.callS X4 hx (y := (⟨"com/example/wary_commit/warycommit/LatencyHistogram", "highestOf", "(I)J"⟩ : MethodName)) hown (mvT hZ (hw _ (List.mem_of_getElem? (i := 59) rfl))) (mvT hZ (hw _ (List.mem_of_getElem? (i := 60) rfl))) (mvT hZ (hw _ (List.mem_of_getElem? (i := 4) rfl))) (mvT hZ (hw _ (List.mem_of_getElem? (i := 61) rfl))) (by decide) (backOf (W := 0) (rm_high l Z a0 hw [] (Int32.ofNat i) h0 n0 Z0 ) hZ (hw _ (List.mem_of_getElem? (i := 61) rfl)) (hw _ (List.mem_of_getElem? (i := 4) rfl)) (by decide) (by decide)) (g := (mkF m 117 #[.val (.ref ob), .val (.int xp), .val (.long (own_rank yt xp)), .second, .val (.long (own_pre fa i)), .second, .val (.int (Int32.ofNat i))] [(.int (Int32.ofNat i))])) rfl (by rw [hml]; rfl) (argsL := [(.int (Int32.ofNat i))]) (rest := []) (lenOf pd__I_J rfl) rfl (by show 2 * 0 + _ ≤ _; exact Nat.le_of_eq rfl) (hb hby d11_117) (fun _ _ => ⟨rfl, e4, (by decide : 0 + 0 ≤ _), (by decide : 0 + 0 ≤ _)⟩)
        dsimp only [Pt.U, Pt.locs, Pt.cells, Pt.slots] at X9 l9 y9 z9 st9 hQ9
        subst l9 y9 z9
        obtain ⟨rfl, Nq9, e9⟩ := hQ9
        have N9 := Fr.app N0 Nq9
        refine go st9 ?_
        show G (T9.setTop (mkF m 120 #[.val (.ref ob), .val (.int xp), .val (.long (own_rank yt xp)), .second, .val (.long (own_pre fa i)), .second, .val (.int (Int32.ofNat i))] [(.long (own_high (Int32.ofNat i)))]))
        refine go (fun tg kg => XS.aloadN X9.here hx rfl (hb hby d11_120) rfl rfl kg) ?_
        show G (T9.setTop (mkF m 121 #[.val (.ref ob), .val (.int xp), .val (.long (own_rank yt xp)), .second, .val (.long (own_pre fa i)), .second, .val (.int (Int32.ofNat i))] [(.ref ob), (.long (own_high (Int32.ofNat i)))]))
        obtain ⟨T10, X10, e10, st10⟩ := getF X9 hx hZ hown (host := "") (Or.inl (hw _ (List.mem_of_getElem? (i := 21) rfl))) Via.refl e9 Fl (g := (mkF m 121 #[.val (.ref ob), .val (.int xp), .val (.long (own_rank yt xp)), .second, .val (.long (own_pre fa i)), .second, .val (.int (Int32.ofNat i))] [(.ref ob), (.long (own_high (Int32.ofNat i)))])) rfl rfl (hb hby d11_121)
        refine go st10 ?_
        show G (T10.setTop (mkF m 124 #[.val (.ref ob), .val (.int xp), .val (.long (own_rank yt xp)), .second, .val (.long (own_pre fa i)), .second, .val (.int (Int32.ofNat i))] [(.long yl), (.long (own_high (Int32.ofNat i)))]))
        obtain ⟨_, _, ⟨T11, L11, k11, n11⟩, -, X11, ⟨Lc11, hQ11, l11, y11, z11⟩, st11⟩ := Jvm.LawKit.callS X10 hx (y := (⟨"java/lang/Math", "min", "(JJ)J"⟩ : MethodName)) hown (mvT hZ (hw _ (List.mem_of_getElem? (i := 62) rfl))) (mvT hZ (hw _ (List.mem_of_getElem? (i := 63) rfl))) (mvT hZ (hw _ (List.mem_of_getElem? (i := 25) rfl))) (mvT hZ (hw _ (List.mem_of_getElem? (i := 64) rfl))) (by decide) (backOf (W := 0) (rm_minL l Z a0 hw [] (own_high (Int32.ofNat i)) yl h0 n0 Z0 ) hZ (hw _ (List.mem_of_getElem? (i := 64) rfl)) (hw _ (List.mem_of_getElem? (i := 25) rfl)) (by decide) (by decide)) (g := (mkF m 124 #[.val (.ref ob), .val (.int xp), .val (.long (own_rank yt xp)), .second, .val (.long (own_pre fa i)), .second, .val (.int (Int32.ofNat i))] [(.long yl), (.long (own_high (Int32.ofNat i)))])) rfl (by rw [hml]; rfl) (argsL := [(.long (own_high (Int32.ofNat i))), (.long yl)]) (rest := []) (lenOf pd__JJ_J rfl) rfl (by show 2 * 0 + _ ≤ _; exact Nat.le_of_eq rfl) (hb hby d11_124) (fun _ _ => ⟨rfl, e10, (by decide : 0 + 0 ≤ _), (by decide : 0 + 0 ≤ _)⟩)
        dsimp only [Pt.U, Pt.locs, Pt.cells, Pt.slots] at X11 l11 y11 z11 st11 hQ11
        subst l11 y11 z11
        obtain ⟨rfl, Nq11, e11⟩ := hQ11
        have N11 := Fr.app N9 Nq11
        refine go st11 ?_
        show G (T11.setTop (mkF m 127 #[.val (.ref ob), .val (.int xp), .val (.long (own_rank yt xp)), .second, .val (.long (own_pre fa i)), .second, .val (.int (Int32.ofNat i))] [(.long (own_minL (own_high (Int32.ofNat i)) yl))]))
        refine fin (some (.long (own_minL (own_high (Int32.ofNat i)) yl))) X11 (fun h => absurd h (by decide)) (fun fs hr => retOut X11 hx hret rfl (Or.inr (Or.inl ⟨rfl, rfl, _, rfl⟩)) (hb hby d11_127) hr) (by decide) (by decide) ?_
        rw [e11]
        exact ⟨i, hi, hrej, hc6, rfl, N11, rfl⟩
  exact loop (NN + 1) 0 _ X3 e3 (by omega) (fun j hj => absurd hj (Nat.not_lt_zero j))
theorem pn_com_example_wary_commit_warycommit_LatencyHistogramAddPinLaw : plainName "com/example/wary_commit/warycommit/LatencyHistogramAddPinLaw" = true := by first | (simp [plainName, overriddenIn]; done) | decide +kernel
theorem ef_0 (m : MethodId) (x0 : Int64) (x1 : Int64) (x2 : Int32) (x3 : Int32) : entryFrame m #[(.long x0), (.long x1), (.int x2), (.int x3)] maxLocals = mkF m 0 #[.val (.long x0), .second, .val (.long x1), .second, .val (.int x2), .val (.int x3), .unset, .unset, .unset, .unset, .unset, .unset, .unset, .unset, .unset, .unset, .unset, .unset] [] := by first | (simp [entryFrame, mkF, argsToLocals, Value.category, maxLocals]; done) | rfl
theorem pd___V : parseMethodDescriptor "()V" = some ⟨[], none⟩ := by decide +kernel
theorem pd__Lcom_example_wary_commit_warycommit_LatencyHistogram__V : parseMethodDescriptor "(Lcom/example/wary_commit/warycommit/LatencyHistogram;)V" = some ⟨[(.object "com/example/wary_commit/warycommit/LatencyHistogram")], none⟩ := by decide +kernel
theorem pd___J : parseMethodDescriptor "()J" = some ⟨[], some .long⟩ := by decide +kernel
theorem pd__J_V : parseMethodDescriptor "(J)V" = some ⟨[.long], none⟩ := by decide +kernel
def Q_rm0 (Z : State) (x0 : Int64) (x1 : Int64) (x2 : Int32) (x3 : Int32) (h0 : Heap) (n0 : Nat) (v : Option Value) (h : Heap) (L : List Loc) : Prop := v = some (.int 1) ∧ Fr n0 L
set_option maxRecDepth 65536 in
set_option maxHeartbeats 40000000 in
theorem rm0 (l : Launch) (Z : State) (a0 : Array Value) (hw : ∀ d ∈ tables_1, d.before a0 Z = true) (ws : List Jvm.Cond) (x0 : Int64) (x1 : Int64) (x2 : Int32) (x3 : Int32) (h0 : Heap) (n0 : Nat) (Z0 : n0 ≤ h0.size) :
    MetFree l x (head1 (Jvm.Cond.code x code maxLocals ret :: ws) room_1) (fun a U => a = #[(.long x0), (.long x1), (.int x2), (.int x3)] ∧ Z.Warmed39 U.vm ∧ U.heap = h0) (fun _ _ _ _ _ => True) (fun _ U o U' => ∃ v L, o = .returned v ∧ Q_rm0 Z x0 x1 x2 x3 h0 n0 v U'.heap L ∧ FrameEnd U o U' L room_1.cells room_1.slots) := by
  refine own_enter (Q := Q_rm0 Z x0 x1 x2 x3 h0 n0) (plainFor_of_name pn_com_example_wary_commit_warycommit_LatencyHistogramAddPinLaw) ?_
  intro p e s m below meth c s₁ G X0 hx hby hml hZ hown hnm hret e0 go fin
  replace hown : s.vm.findClass "com/example/wary_commit/warycommit/LatencyHistogramAddPinLaw" = some m.cls := hown
  replace hnm : meth.name = "law" := hnm
  replace hml : c.maxLocals = 18 := hml
  rw [ef_0 m x0 x1 x2 x3]
  have N0 := Fr.nil n0
  show G (s₁.setTop (mkF m 0 #[.val (.long x0), .second, .val (.long x1), .second, .val (.int x2), .val (.int x3), .unset, .unset, .unset, .unset, .unset, .unset, .unset, .unset, .unset, .unset, .unset, .unset] []))
  refine go (fun tg kg => XS.lloadN X0.here hx rfl (hb hby at_0) rfl kg) ?_
  show G (s₁.setTop (mkF m 1 #[.val (.long x0), .second, .val (.long x1), .second, .val (.int x2), .val (.int x3), .unset, .unset, .unset, .unset, .unset, .unset, .unset, .unset, .unset, .unset, .unset, .unset] [(.long x0)]))
  refine go (fun tg kg => X0.ldc2Long hx hown (mvT hZ (hw _ (List.mem_of_getElem? (i := 0) rfl))) (g := (mkF m 1 #[.val (.long x0), .second, .val (.long x1), .second, .val (.int x2), .val (.int x3), .unset, .unset, .unset, .unset, .unset, .unset, .unset, .unset, .unset, .unset, .unset, .unset] [(.long x0)])) rfl (hb hby at_1) _ kg) ?_
  show G (s₁.setTop (mkF m 4 #[.val (.long x0), .second, .val (.long x1), .second, .val (.int x2), .val (.int x3), .unset, .unset, .unset, .unset, .unset, .unset, .unset, .unset, .unset, .unset, .unset, .unset] [(.long (9223372036854775807 : Int64)), (.long x0)]))
  refine go (fun tg kg => XS.land X0.here hx rfl (hb hby at_4) rfl kg) ?_
  show G (s₁.setTop (mkF m 5 #[.val (.long x0), .second, .val (.long x1), .second, .val (.int x2), .val (.int x3), .unset, .unset, .unset, .unset, .unset, .unset, .unset, .unset, .unset, .unset, .unset, .unset] [(.long (x0 &&& (9223372036854775807 : Int64)))]))
  refine go (fun tg kg => XS.lstore X0.here hx rfl (hb hby at_5) rfl (l' := #[.val (.long x0), .second, .val (.long x1), .second, .val (.int x2), .val (.int x3), .val (.long (x0 &&& (9223372036854775807 : Int64))), .second, .unset, .unset, .unset, .unset, .unset, .unset, .unset, .unset, .unset, .unset]) rfl kg) ?_
  show G (s₁.setTop (mkF m 7 #[.val (.long x0), .second, .val (.long x1), .second, .val (.int x2), .val (.int x3), .val (.long (x0 &&& (9223372036854775807 : Int64))), .second, .unset, .unset, .unset, .unset, .unset, .unset, .unset, .unset, .unset, .unset] []))
  obtain ⟨xx, hexx⟩ : ∃ z : Int64, z = (x0 &&& (9223372036854775807 : Int64)) := ⟨_, rfl⟩
  have hxx := own_mask x0 hexx
  rw [← hexx]
  show G (s₁.setTop (mkF m 7 #[.val (.long x0), .second, .val (.long x1), .second, .val (.int x2), .val (.int x3), .val (.long xx), .second, .unset, .unset, .unset, .unset, .unset, .unset, .unset, .unset, .unset, .unset] []))
  refine go (fun tg kg => XS.lloadN X0.here hx rfl (hb hby at_7) rfl kg) ?_
  show G (s₁.setTop (mkF m 8 #[.val (.long x0), .second, .val (.long x1), .second, .val (.int x2), .val (.int x3), .val (.long xx), .second, .unset, .unset, .unset, .unset, .unset, .unset, .unset, .unset, .unset, .unset] [(.long x1)]))
  refine go (fun tg kg => X0.ldc2Long hx hown (mvT hZ (hw _ (List.mem_of_getElem? (i := 0) rfl))) (g := (mkF m 8 #[.val (.long x0), .second, .val (.long x1), .second, .val (.int x2), .val (.int x3), .val (.long xx), .second, .unset, .unset, .unset, .unset, .unset, .unset, .unset, .unset, .unset, .unset] [(.long x1)])) rfl (hb hby at_8) _ kg) ?_
  show G (s₁.setTop (mkF m 11 #[.val (.long x0), .second, .val (.long x1), .second, .val (.int x2), .val (.int x3), .val (.long xx), .second, .unset, .unset, .unset, .unset, .unset, .unset, .unset, .unset, .unset, .unset] [(.long (9223372036854775807 : Int64)), (.long x1)]))
  refine go (fun tg kg => XS.land X0.here hx rfl (hb hby at_11) rfl kg) ?_
  show G (s₁.setTop (mkF m 12 #[.val (.long x0), .second, .val (.long x1), .second, .val (.int x2), .val (.int x3), .val (.long xx), .second, .unset, .unset, .unset, .unset, .unset, .unset, .unset, .unset, .unset, .unset] [(.long (x1 &&& (9223372036854775807 : Int64)))]))
  refine go (fun tg kg => XS.lstore X0.here hx rfl (hb hby at_12) rfl (l' := #[.val (.long x0), .second, .val (.long x1), .second, .val (.int x2), .val (.int x3), .val (.long xx), .second, .val (.long (x1 &&& (9223372036854775807 : Int64))), .second, .unset, .unset, .unset, .unset, .unset, .unset, .unset, .unset]) rfl kg) ?_
  show G (s₁.setTop (mkF m 14 #[.val (.long x0), .second, .val (.long x1), .second, .val (.int x2), .val (.int x3), .val (.long xx), .second, .val (.long (x1 &&& (9223372036854775807 : Int64))), .second, .unset, .unset, .unset, .unset, .unset, .unset, .unset, .unset] []))
  obtain ⟨yy, heyy⟩ : ∃ z : Int64, z = (x1 &&& (9223372036854775807 : Int64)) := ⟨_, rfl⟩
  have hyy := own_mask x1 heyy
  rw [← heyy]
  show G (s₁.setTop (mkF m 14 #[.val (.long x0), .second, .val (.long x1), .second, .val (.int x2), .val (.int x3), .val (.long xx), .second, .val (.long yy), .second, .unset, .unset, .unset, .unset, .unset, .unset, .unset, .unset] []))
  refine go (fun tg kg => XS.iload X0.here hx rfl (hb hby at_14) rfl kg) ?_
  show G (s₁.setTop (mkF m 16 #[.val (.long x0), .second, .val (.long x1), .second, .val (.int x2), .val (.int x3), .val (.long xx), .second, .val (.long yy), .second, .unset, .unset, .unset, .unset, .unset, .unset, .unset, .unset] [(.int x2)]))
  refine go (fun tg kg => XS.iconst X0.here hx rfl (hb hby at_16) kg) ?_
  show G (s₁.setTop (mkF m 17 #[.val (.long x0), .second, .val (.long x1), .second, .val (.int x2), .val (.int x3), .val (.long xx), .second, .val (.long yy), .second, .unset, .unset, .unset, .unset, .unset, .unset, .unset, .unset] [(.int (1 : Int32)), (.int x2)]))
  refine go (fun tg kg => XS.iand X0.here hx rfl (hb hby at_17) rfl kg) ?_
  show G (s₁.setTop (mkF m 18 #[.val (.long x0), .second, .val (.long x1), .second, .val (.int x2), .val (.int x3), .val (.long xx), .second, .val (.long yy), .second, .unset, .unset, .unset, .unset, .unset, .unset, .unset, .unset] [(.int (x2 &&& (1 : Int32)))]))
  by_cases hc1 : (x2 &&& (1 : Int32)) = (0 : Int32)
  · refine go (fun tg kg => XS.ifYes X0.here hx rfl (pc0 := 18) (pc' := 25) rfl (hb hby at_18) rfl ((if0 _ _).trans (teq hc1).1) (by decide) (by decide) kg) ?_
    show G (s₁.setTop (mkF m 25 #[.val (.long x0), .second, .val (.long x1), .second, .val (.int x2), .val (.int x3), .val (.long xx), .second, .val (.long yy), .second, .unset, .unset, .unset, .unset, .unset, .unset, .unset, .unset] []))
    refine go (fun tg kg => XS.iconst X0.here hx rfl (hb hby at_25) kg) ?_
    show G (s₁.setTop (mkF m 26 #[.val (.long x0), .second, .val (.long x1), .second, .val (.int x2), .val (.int x3), .val (.long xx), .second, .val (.long yy), .second, .unset, .unset, .unset, .unset, .unset, .unset, .unset, .unset] [(.int (0 : Int32))]))
    refine go (fun tg kg => XS.istore X0.here hx rfl (hb hby at_26) rfl (l' := #[.val (.long x0), .second, .val (.long x1), .second, .val (.int x2), .val (.int x3), .val (.long xx), .second, .val (.long yy), .second, .val (.int (0 : Int32)), .unset, .unset, .unset, .unset, .unset, .unset, .unset]) rfl kg) ?_
    show G (s₁.setTop (mkF m 28 #[.val (.long x0), .second, .val (.long x1), .second, .val (.int x2), .val (.int x3), .val (.long xx), .second, .val (.long yy), .second, .val (.int (0 : Int32)), .unset, .unset, .unset, .unset, .unset, .unset, .unset] []))
    refine go (fun tg kg => XS.iload X0.here hx rfl (hb hby at_28) rfl kg) ?_
    show G (s₁.setTop (mkF m 30 #[.val (.long x0), .second, .val (.long x1), .second, .val (.int x2), .val (.int x3), .val (.long xx), .second, .val (.long yy), .second, .val (.int (0 : Int32)), .unset, .unset, .unset, .unset, .unset, .unset, .unset] [(.int x2)]))
    refine go (fun tg kg => XS.iconst X0.here hx rfl (hb hby at_30) kg) ?_
    show G (s₁.setTop (mkF m 31 #[.val (.long x0), .second, .val (.long x1), .second, .val (.int x2), .val (.int x3), .val (.long xx), .second, .val (.long yy), .second, .val (.int (0 : Int32)), .unset, .unset, .unset, .unset, .unset, .unset, .unset] [(.int (2 : Int32)), (.int x2)]))
    refine go (fun tg kg => XS.iand X0.here hx rfl (hb hby at_31) rfl kg) ?_
    show G (s₁.setTop (mkF m 32 #[.val (.long x0), .second, .val (.long x1), .second, .val (.int x2), .val (.int x3), .val (.long xx), .second, .val (.long yy), .second, .val (.int (0 : Int32)), .unset, .unset, .unset, .unset, .unset, .unset, .unset] [(.int (x2 &&& (2 : Int32)))]))
    by_cases hc2 : (x2 &&& (2 : Int32)) = (0 : Int32)
    · refine go (fun tg kg => XS.ifYes X0.here hx rfl (pc0 := 32) (pc' := 39) rfl (hb hby at_32) rfl ((if0 _ _).trans (teq hc2).1) (by decide) (by decide) kg) ?_
      show G (s₁.setTop (mkF m 39 #[.val (.long x0), .second, .val (.long x1), .second, .val (.int x2), .val (.int x3), .val (.long xx), .second, .val (.long yy), .second, .val (.int (0 : Int32)), .unset, .unset, .unset, .unset, .unset, .unset, .unset] []))
      refine go (fun tg kg => XS.iconst X0.here hx rfl (hb hby at_39) kg) ?_
      show G (s₁.setTop (mkF m 40 #[.val (.long x0), .second, .val (.long x1), .second, .val (.int x2), .val (.int x3), .val (.long xx), .second, .val (.long yy), .second, .val (.int (0 : Int32)), .unset, .unset, .unset, .unset, .unset, .unset, .unset] [(.int (0 : Int32))]))
      refine go (fun tg kg => XS.istore X0.here hx rfl (hb hby at_40) rfl (l' := #[.val (.long x0), .second, .val (.long x1), .second, .val (.int x2), .val (.int x3), .val (.long xx), .second, .val (.long yy), .second, .val (.int (0 : Int32)), .val (.int (0 : Int32)), .unset, .unset, .unset, .unset, .unset, .unset]) rfl kg) ?_
      show G (s₁.setTop (mkF m 42 #[.val (.long x0), .second, .val (.long x1), .second, .val (.int x2), .val (.int x3), .val (.long xx), .second, .val (.long yy), .second, .val (.int (0 : Int32)), .val (.int (0 : Int32)), .unset, .unset, .unset, .unset, .unset, .unset] []))
      refine go (fun tg kg => XS.iload X0.here hx rfl (hb hby at_42) rfl kg) ?_
      show G (s₁.setTop (mkF m 44 #[.val (.long x0), .second, .val (.long x1), .second, .val (.int x2), .val (.int x3), .val (.long xx), .second, .val (.long yy), .second, .val (.int (0 : Int32)), .val (.int (0 : Int32)), .unset, .unset, .unset, .unset, .unset, .unset] [(.int x3)]))
      refine go (fun tg kg => X0.ldcInt hx hown (mvT hZ (hw _ (List.mem_of_getElem? (i := 1) rfl))) (g := (mkF m 44 #[.val (.long x0), .second, .val (.long x1), .second, .val (.int x2), .val (.int x3), .val (.long xx), .second, .val (.long yy), .second, .val (.int (0 : Int32)), .val (.int (0 : Int32)), .unset, .unset, .unset, .unset, .unset, .unset] [(.int x3)])) rfl (hb hby at_44) _ kg) ?_
      show G (s₁.setTop (mkF m 46 #[.val (.long x0), .second, .val (.long x1), .second, .val (.int x2), .val (.int x3), .val (.long xx), .second, .val (.long yy), .second, .val (.int (0 : Int32)), .val (.int (0 : Int32)), .unset, .unset, .unset, .unset, .unset, .unset] [(.int (2147483647 : Int32)), (.int x3)]))
      refine go (fun tg kg => XS.iand X0.here hx rfl (hb hby at_46) rfl kg) ?_
      show G (s₁.setTop (mkF m 47 #[.val (.long x0), .second, .val (.long x1), .second, .val (.int x2), .val (.int x3), .val (.long xx), .second, .val (.long yy), .second, .val (.int (0 : Int32)), .val (.int (0 : Int32)), .unset, .unset, .unset, .unset, .unset, .unset] [(.int (x3 &&& (2147483647 : Int32)))]))
      refine go (fun tg kg => XS.bipush X0.here hx rfl (hb hby at_47) kg) ?_
      show G (s₁.setTop (mkF m 49 #[.val (.long x0), .second, .val (.long x1), .second, .val (.int x2), .val (.int x3), .val (.long xx), .second, .val (.long yy), .second, .val (.int (0 : Int32)), .val (.int (0 : Int32)), .unset, .unset, .unset, .unset, .unset, .unset] [(.int (100 : Int32)), (.int (x3 &&& (2147483647 : Int32)))]))
      refine go (fun tg kg => iremM X0 hx rfl (hb hby at_49) rfl (by decide) kg) ?_
      show G (s₁.setTop (mkF m 50 #[.val (.long x0), .second, .val (.long x1), .second, .val (.int x2), .val (.int x3), .val (.long xx), .second, .val (.long yy), .second, .val (.int (0 : Int32)), .val (.int (0 : Int32)), .unset, .unset, .unset, .unset, .unset, .unset] [(.int ((x3 &&& (2147483647 : Int32)) % (100 : Int32)))]))
      refine go (fun tg kg => XS.iconst X0.here hx rfl (hb hby at_50) kg) ?_
      show G (s₁.setTop (mkF m 51 #[.val (.long x0), .second, .val (.long x1), .second, .val (.int x2), .val (.int x3), .val (.long xx), .second, .val (.long yy), .second, .val (.int (0 : Int32)), .val (.int (0 : Int32)), .unset, .unset, .unset, .unset, .unset, .unset] [(.int (1 : Int32)), (.int ((x3 &&& (2147483647 : Int32)) % (100 : Int32)))]))
      refine go (fun tg kg => XS.iadd X0.here hx rfl (hb hby at_51) rfl kg) ?_
      show G (s₁.setTop (mkF m 52 #[.val (.long x0), .second, .val (.long x1), .second, .val (.int x2), .val (.int x3), .val (.long xx), .second, .val (.long yy), .second, .val (.int (0 : Int32)), .val (.int (0 : Int32)), .unset, .unset, .unset, .unset, .unset, .unset] [(.int (((x3 &&& (2147483647 : Int32)) % (100 : Int32)) + (1 : Int32)))]))
      refine go (fun tg kg => XS.istore X0.here hx rfl (hb hby at_52) rfl (l' := #[.val (.long x0), .second, .val (.long x1), .second, .val (.int x2), .val (.int x3), .val (.long xx), .second, .val (.long yy), .second, .val (.int (0 : Int32)), .val (.int (0 : Int32)), .val (.int (((x3 &&& (2147483647 : Int32)) % (100 : Int32)) + (1 : Int32))), .unset, .unset, .unset, .unset, .unset]) rfl kg) ?_
      show G (s₁.setTop (mkF m 54 #[.val (.long x0), .second, .val (.long x1), .second, .val (.int x2), .val (.int x3), .val (.long xx), .second, .val (.long yy), .second, .val (.int (0 : Int32)), .val (.int (0 : Int32)), .val (.int (((x3 &&& (2147483647 : Int32)) % (100 : Int32)) + (1 : Int32))), .unset, .unset, .unset, .unset, .unset] []))
      obtain ⟨pp, hepp⟩ : ∃ z : Int32, z = (((x3 &&& (2147483647 : Int32)) % (100 : Int32)) + (1 : Int32)) := ⟨_, rfl⟩
      have hpc := own_pc x3 hepp
      rw [← hepp]
      show G (s₁.setTop (mkF m 54 #[.val (.long x0), .second, .val (.long x1), .second, .val (.int x2), .val (.int x3), .val (.long xx), .second, .val (.long yy), .second, .val (.int (0 : Int32)), .val (.int (0 : Int32)), .val (.int pp), .unset, .unset, .unset, .unset, .unset] []))
      obtain ⟨T3, h3, X3, e3, E3, A3, D3, -, st3⟩ := newO X0 hx hZ hown (hw _ (List.mem_of_getElem? (i := 2) rfl)) (hw _ (List.mem_of_getElem? (i := 3) rfl)) (hw _ (List.mem_of_getElem? (i := 4) rfl)) e0 (g := (mkF m 54 #[.val (.long x0), .second, .val (.long x1), .second, .val (.int x2), .val (.int x3), .val (.long xx), .second, .val (.long yy), .second, .val (.int (0 : Int32)), .val (.int (0 : Int32)), .val (.int pp), .unset, .unset, .unset, .unset, .unset] [])) rfl (hb hby at_54) (by decide) (by decide)
      obtain ⟨b3, g3⟩ : ∃ z, z = h0.size := ⟨_, rfl⟩
      rw [← g3] at A3 D3 st3
      refine go st3 ?_
      have ge_b3 : n0 ≤ b3 := Nat.le_trans Z0 (Nat.le_of_eq g3.symm)
      have Z3 := Nat.le_trans Z0 E3.1
      have F3_counts : Fld Z h3 b3 "com/example/wary_commit/warycommit/LatencyHistogram" "counts" "[J" .null := D3 (Or.inr (hw _ (List.mem_of_getElem? (i := 13) rfl))) (ty := (.array .long)) (by decide)
      have F3_total : Fld Z h3 b3 "com/example/wary_commit/warycommit/LatencyHistogram" "total" "J" (.long (0 : Int64)) := D3 (Or.inl (hw _ (List.mem_of_getElem? (i := 20) rfl))) (ty := .long) (by decide)
      have F3_longest : Fld Z h3 b3 "com/example/wary_commit/warycommit/LatencyHistogram" "longest" "J" (.long (0 : Int64)) := D3 (Or.inl (hw _ (List.mem_of_getElem? (i := 22) rfl))) (ty := .long) (by decide)
      show G (T3.setTop (mkF m 57 #[.val (.long x0), .second, .val (.long x1), .second, .val (.int x2), .val (.int x3), .val (.long xx), .second, .val (.long yy), .second, .val (.int (0 : Int32)), .val (.int (0 : Int32)), .val (.int pp), .unset, .unset, .unset, .unset, .unset] [(.ref b3)]))
      refine go (fun tg kg => XS.dup X3.here hx rfl (hb hby at_57) rfl rfl kg) ?_
      show G (T3.setTop (mkF m 58 #[.val (.long x0), .second, .val (.long x1), .second, .val (.int x2), .val (.int x3), .val (.long xx), .second, .val (.long yy), .second, .val (.int (0 : Int32)), .val (.int (0 : Int32)), .val (.int pp), .unset, .unset, .unset, .unset, .unset] [(.ref b3), (.ref b3)]))
      obtain ⟨_, _, ⟨T4, L4, k4, n4⟩, -, X4, ⟨Lc4, hQ4, l4, y4, z4⟩, st4⟩ := X3.specialBack hx (y := (⟨"com/example/wary_commit/warycommit/LatencyHistogram", "<init>", "()V"⟩ : MethodName)) rfl hown (mvT hZ (hw _ (List.mem_of_getElem? (i := 5) rfl))) (mvT hZ (hw _ (List.mem_of_getElem? (i := 6) rfl))) (mvT hZ (hw _ (List.mem_of_getElem? (i := 7) rfl))) (by decide) (backOf (W := 1) (rm1 l Z a0 hw [] b3 h3 n0 Z3 A3 ge_b3 F3_counts F3_total F3_longest) hZ (hw _ (List.mem_of_getElem? (i := 7) rfl)) (hw _ (List.mem_of_getElem? (i := 4) rfl)) (by decide) (by decide)) (g := (mkF m 58 #[.val (.long x0), .second, .val (.long x1), .second, .val (.int x2), .val (.int x3), .val (.long xx), .second, .val (.long yy), .second, .val (.int (0 : Int32)), .val (.int (0 : Int32)), .val (.int pp), .unset, .unset, .unset, .unset, .unset] [(.ref b3), (.ref b3)])) rfl (by rw [hml]; rfl) (Steps.refl _) (a := b3) (argsL := []) (rest := [(.ref b3)]) (lenOf pd___V rfl) rfl (by show 2 * 0 + _ ≤ _; exact Nat.le_of_eq rfl) (hb hby at_58) (fun _ _ => ⟨rfl, e3, (by decide : 1 + 1 ≤ _), (by decide : 3 + 7296 ≤ _)⟩)
      dsimp only [Pt.U, Pt.locs, Pt.cells, Pt.slots] at X4 l4 y4 z4 st4 hQ4
      subst l4 y4 z4
      obtain ⟨rfl, ca4, Nq4, K4, sz4, ge_ca4, Ge4, Gc4, Gt4, Gl4, Ga4⟩ := hQ4
      have Z4 := Nat.le_trans Z3 K4.1
      have N4 := Fr.app N0 Nq4
      refine go (fun tg kg => st4.trans kg) ?_
      show G (T4.setTop (mkF m 61 #[.val (.long x0), .second, .val (.long x1), .second, .val (.int x2), .val (.int x3), .val (.long xx), .second, .val (.long yy), .second, .val (.int (0 : Int32)), .val (.int (0 : Int32)), .val (.int pp), .unset, .unset, .unset, .unset, .unset] [(.ref b3)]))
      refine go (fun tg kg => XS.astore X4.here hx rfl (hb hby at_61) rfl rfl (l' := #[.val (.long x0), .second, .val (.long x1), .second, .val (.int x2), .val (.int x3), .val (.long xx), .second, .val (.long yy), .second, .val (.int (0 : Int32)), .val (.int (0 : Int32)), .val (.int pp), .val (.ref b3), .unset, .unset, .unset, .unset]) rfl kg) ?_
      show G (T4.setTop (mkF m 63 #[.val (.long x0), .second, .val (.long x1), .second, .val (.int x2), .val (.int x3), .val (.long xx), .second, .val (.long yy), .second, .val (.int (0 : Int32)), .val (.int (0 : Int32)), .val (.int pp), .val (.ref b3), .unset, .unset, .unset, .unset] []))
      obtain ⟨T5, h5, X5, e5, E5, A5, D5, -, st5⟩ := newO X4 hx hZ hown (hw _ (List.mem_of_getElem? (i := 2) rfl)) (hw _ (List.mem_of_getElem? (i := 3) rfl)) (hw _ (List.mem_of_getElem? (i := 4) rfl)) rfl (g := (mkF m 63 #[.val (.long x0), .second, .val (.long x1), .second, .val (.int x2), .val (.int x3), .val (.long xx), .second, .val (.long yy), .second, .val (.int (0 : Int32)), .val (.int (0 : Int32)), .val (.int pp), .val (.ref b3), .unset, .unset, .unset, .unset] [])) rfl (hb hby at_63) (by decide) (by decide)
      obtain ⟨b5, g5⟩ : ∃ z, z = T4.heap.size := ⟨_, rfl⟩
      rw [← g5] at A5 D5 st5
      refine go st5 ?_
      have ge_b5 : n0 ≤ b5 := Nat.le_trans Z4 (Nat.le_of_eq g5.symm)
      have Z5 := Nat.le_trans Z4 E5.1
      have F5_counts : Fld Z h5 b5 "com/example/wary_commit/warycommit/LatencyHistogram" "counts" "[J" .null := D5 (Or.inr (hw _ (List.mem_of_getElem? (i := 13) rfl))) (ty := (.array .long)) (by decide)
      have F5_total : Fld Z h5 b5 "com/example/wary_commit/warycommit/LatencyHistogram" "total" "J" (.long (0 : Int64)) := D5 (Or.inl (hw _ (List.mem_of_getElem? (i := 20) rfl))) (ty := .long) (by decide)
      have F5_longest : Fld Z h5 b5 "com/example/wary_commit/warycommit/LatencyHistogram" "longest" "J" (.long (0 : Int64)) := D5 (Or.inl (hw _ (List.mem_of_getElem? (i := 22) rfl))) (ty := .long) (by decide)
      show G (T5.setTop (mkF m 66 #[.val (.long x0), .second, .val (.long x1), .second, .val (.int x2), .val (.int x3), .val (.long xx), .second, .val (.long yy), .second, .val (.int (0 : Int32)), .val (.int (0 : Int32)), .val (.int pp), .val (.ref b3), .unset, .unset, .unset, .unset] [(.ref b5)]))
      refine go (fun tg kg => XS.dup X5.here hx rfl (hb hby at_66) rfl rfl kg) ?_
      show G (T5.setTop (mkF m 67 #[.val (.long x0), .second, .val (.long x1), .second, .val (.int x2), .val (.int x3), .val (.long xx), .second, .val (.long yy), .second, .val (.int (0 : Int32)), .val (.int (0 : Int32)), .val (.int pp), .val (.ref b3), .unset, .unset, .unset, .unset] [(.ref b5), (.ref b5)]))
      obtain ⟨_, _, ⟨T6, L6, k6, n6⟩, -, X6, ⟨Lc6, hQ6, l6, y6, z6⟩, st6⟩ := X5.specialBack hx (y := (⟨"com/example/wary_commit/warycommit/LatencyHistogram", "<init>", "()V"⟩ : MethodName)) rfl hown (mvT hZ (hw _ (List.mem_of_getElem? (i := 5) rfl))) (mvT hZ (hw _ (List.mem_of_getElem? (i := 6) rfl))) (mvT hZ (hw _ (List.mem_of_getElem? (i := 7) rfl))) (by decide) (backOf (W := 1) (rm1 l Z a0 hw [] b5 h5 n0 Z5 A5 ge_b5 F5_counts F5_total F5_longest) hZ (hw _ (List.mem_of_getElem? (i := 7) rfl)) (hw _ (List.mem_of_getElem? (i := 4) rfl)) (by decide) (by decide)) (g := (mkF m 67 #[.val (.long x0), .second, .val (.long x1), .second, .val (.int x2), .val (.int x3), .val (.long xx), .second, .val (.long yy), .second, .val (.int (0 : Int32)), .val (.int (0 : Int32)), .val (.int pp), .val (.ref b3), .unset, .unset, .unset, .unset] [(.ref b5), (.ref b5)])) rfl (by rw [hml]; rfl) (Steps.refl _) (a := b5) (argsL := []) (rest := [(.ref b5)]) (lenOf pd___V rfl) rfl (by show 2 * 0 + _ ≤ _; exact Nat.le_of_eq rfl) (hb hby at_67) (fun _ _ => ⟨rfl, e5, (by decide : 3 + 1 ≤ _), (by decide : 7302 + 7296 ≤ _)⟩)
      dsimp only [Pt.U, Pt.locs, Pt.cells, Pt.slots] at X6 l6 y6 z6 st6 hQ6
      subst l6 y6 z6
      obtain ⟨rfl, ca6, Nq6, K6, sz6, ge_ca6, Ge6, Gc6, Gt6, Gl6, Ga6⟩ := hQ6
      have Z6 := Nat.le_trans Z5 K6.1
      have N6 := Fr.app N4 Nq6
      refine go (fun tg kg => st6.trans kg) ?_
      show G (T6.setTop (mkF m 70 #[.val (.long x0), .second, .val (.long x1), .second, .val (.int x2), .val (.int x3), .val (.long xx), .second, .val (.long yy), .second, .val (.int (0 : Int32)), .val (.int (0 : Int32)), .val (.int pp), .val (.ref b3), .unset, .unset, .unset, .unset] [(.ref b5)]))
      refine go (fun tg kg => XS.astore X6.here hx rfl (hb hby at_70) rfl rfl (l' := #[.val (.long x0), .second, .val (.long x1), .second, .val (.int x2), .val (.int x3), .val (.long xx), .second, .val (.long yy), .second, .val (.int (0 : Int32)), .val (.int (0 : Int32)), .val (.int pp), .val (.ref b3), .val (.ref b5), .unset, .unset, .unset]) rfl kg) ?_
      show G (T6.setTop (mkF m 72 #[.val (.long x0), .second, .val (.long x1), .second, .val (.int x2), .val (.int x3), .val (.long xx), .second, .val (.long yy), .second, .val (.int (0 : Int32)), .val (.int (0 : Int32)), .val (.int pp), .val (.ref b3), .val (.ref b5), .unset, .unset, .unset] []))
      obtain ⟨T7, h7, X7, e7, E7, A7, D7, -, st7⟩ := newO X6 hx hZ hown (hw _ (List.mem_of_getElem? (i := 2) rfl)) (hw _ (List.mem_of_getElem? (i := 3) rfl)) (hw _ (List.mem_of_getElem? (i := 4) rfl)) rfl (g := (mkF m 72 #[.val (.long x0), .second, .val (.long x1), .second, .val (.int x2), .val (.int x3), .val (.long xx), .second, .val (.long yy), .second, .val (.int (0 : Int32)), .val (.int (0 : Int32)), .val (.int pp), .val (.ref b3), .val (.ref b5), .unset, .unset, .unset] [])) rfl (hb hby at_72) (by decide) (by decide)
      obtain ⟨b7, g7⟩ : ∃ z, z = T6.heap.size := ⟨_, rfl⟩
      rw [← g7] at A7 D7 st7
      refine go st7 ?_
      have ge_b7 : n0 ≤ b7 := Nat.le_trans Z6 (Nat.le_of_eq g7.symm)
      have Z7 := Nat.le_trans Z6 E7.1
      have F7_counts : Fld Z h7 b7 "com/example/wary_commit/warycommit/LatencyHistogram" "counts" "[J" .null := D7 (Or.inr (hw _ (List.mem_of_getElem? (i := 13) rfl))) (ty := (.array .long)) (by decide)
      have F7_total : Fld Z h7 b7 "com/example/wary_commit/warycommit/LatencyHistogram" "total" "J" (.long (0 : Int64)) := D7 (Or.inl (hw _ (List.mem_of_getElem? (i := 20) rfl))) (ty := .long) (by decide)
      have F7_longest : Fld Z h7 b7 "com/example/wary_commit/warycommit/LatencyHistogram" "longest" "J" (.long (0 : Int64)) := D7 (Or.inl (hw _ (List.mem_of_getElem? (i := 22) rfl))) (ty := .long) (by decide)
      show G (T7.setTop (mkF m 75 #[.val (.long x0), .second, .val (.long x1), .second, .val (.int x2), .val (.int x3), .val (.long xx), .second, .val (.long yy), .second, .val (.int (0 : Int32)), .val (.int (0 : Int32)), .val (.int pp), .val (.ref b3), .val (.ref b5), .unset, .unset, .unset] [(.ref b7)]))
      refine go (fun tg kg => XS.dup X7.here hx rfl (hb hby at_75) rfl rfl kg) ?_
      show G (T7.setTop (mkF m 76 #[.val (.long x0), .second, .val (.long x1), .second, .val (.int x2), .val (.int x3), .val (.long xx), .second, .val (.long yy), .second, .val (.int (0 : Int32)), .val (.int (0 : Int32)), .val (.int pp), .val (.ref b3), .val (.ref b5), .unset, .unset, .unset] [(.ref b7), (.ref b7)]))
      obtain ⟨_, _, ⟨T8, L8, k8, n8⟩, -, X8, ⟨Lc8, hQ8, l8, y8, z8⟩, st8⟩ := X7.specialBack hx (y := (⟨"com/example/wary_commit/warycommit/LatencyHistogram", "<init>", "()V"⟩ : MethodName)) rfl hown (mvT hZ (hw _ (List.mem_of_getElem? (i := 5) rfl))) (mvT hZ (hw _ (List.mem_of_getElem? (i := 6) rfl))) (mvT hZ (hw _ (List.mem_of_getElem? (i := 7) rfl))) (by decide) (backOf (W := 1) (rm1 l Z a0 hw [] b7 h7 n0 Z7 A7 ge_b7 F7_counts F7_total F7_longest) hZ (hw _ (List.mem_of_getElem? (i := 7) rfl)) (hw _ (List.mem_of_getElem? (i := 4) rfl)) (by decide) (by decide)) (g := (mkF m 76 #[.val (.long x0), .second, .val (.long x1), .second, .val (.int x2), .val (.int x3), .val (.long xx), .second, .val (.long yy), .second, .val (.int (0 : Int32)), .val (.int (0 : Int32)), .val (.int pp), .val (.ref b3), .val (.ref b5), .unset, .unset, .unset] [(.ref b7), (.ref b7)])) rfl (by rw [hml]; rfl) (Steps.refl _) (a := b7) (argsL := []) (rest := [(.ref b7)]) (lenOf pd___V rfl) rfl (by show 2 * 0 + _ ≤ _; exact Nat.le_of_eq rfl) (hb hby at_76) (fun _ _ => ⟨rfl, e7, (by decide : 5 + 1 ≤ _), (by decide : 14601 + 7296 ≤ _)⟩)
      dsimp only [Pt.U, Pt.locs, Pt.cells, Pt.slots] at X8 l8 y8 z8 st8 hQ8
      subst l8 y8 z8
      obtain ⟨rfl, ca8, Nq8, K8, sz8, ge_ca8, Ge8, Gc8, Gt8, Gl8, Ga8⟩ := hQ8
      have Z8 := Nat.le_trans Z7 K8.1
      have N8 := Fr.app N6 Nq8
      refine go (fun tg kg => st8.trans kg) ?_
      show G (T8.setTop (mkF m 79 #[.val (.long x0), .second, .val (.long x1), .second, .val (.int x2), .val (.int x3), .val (.long xx), .second, .val (.long yy), .second, .val (.int (0 : Int32)), .val (.int (0 : Int32)), .val (.int pp), .val (.ref b3), .val (.ref b5), .unset, .unset, .unset] [(.ref b7)]))
      refine go (fun tg kg => XS.astore X8.here hx rfl (hb hby at_79) rfl rfl (l' := #[.val (.long x0), .second, .val (.long x1), .second, .val (.int x2), .val (.int x3), .val (.long xx), .second, .val (.long yy), .second, .val (.int (0 : Int32)), .val (.int (0 : Int32)), .val (.int pp), .val (.ref b3), .val (.ref b5), .val (.ref b7), .unset, .unset]) rfl kg) ?_
      show G (T8.setTop (mkF m 81 #[.val (.long x0), .second, .val (.long x1), .second, .val (.int x2), .val (.int x3), .val (.long xx), .second, .val (.long yy), .second, .val (.int (0 : Int32)), .val (.int (0 : Int32)), .val (.int pp), .val (.ref b3), .val (.ref b5), .val (.ref b7), .unset, .unset] []))
      refine go (fun tg kg => XS.iload X8.here hx rfl (hb hby at_81) rfl kg) ?_
      show G (T8.setTop (mkF m 83 #[.val (.long x0), .second, .val (.long x1), .second, .val (.int x2), .val (.int x3), .val (.long xx), .second, .val (.long yy), .second, .val (.int (0 : Int32)), .val (.int (0 : Int32)), .val (.int pp), .val (.ref b3), .val (.ref b5), .val (.ref b7), .unset, .unset] [(.int (0 : Int32))]))
      refine go (fun tg kg => XS.ifYes X8.here hx rfl (pc0 := 83) (pc' := 100) rfl (hb hby at_83) rfl ((if0 _ _).trans (teq (by decide)).1) (by decide) (by decide) kg) ?_
      show G (T8.setTop (mkF m 100 #[.val (.long x0), .second, .val (.long x1), .second, .val (.int x2), .val (.int x3), .val (.long xx), .second, .val (.long yy), .second, .val (.int (0 : Int32)), .val (.int (0 : Int32)), .val (.int pp), .val (.ref b3), .val (.ref b5), .val (.ref b7), .unset, .unset] []))
      refine go (fun tg kg => XS.iload X8.here hx rfl (hb hby at_100) rfl kg) ?_
      show G (T8.setTop (mkF m 102 #[.val (.long x0), .second, .val (.long x1), .second, .val (.int x2), .val (.int x3), .val (.long xx), .second, .val (.long yy), .second, .val (.int (0 : Int32)), .val (.int (0 : Int32)), .val (.int pp), .val (.ref b3), .val (.ref b5), .val (.ref b7), .unset, .unset] [(.int (0 : Int32))]))
      refine go (fun tg kg => XS.ifYes X8.here hx rfl (pc0 := 102) (pc' := 119) rfl (hb hby at_102) rfl ((if0 _ _).trans (teq (by decide)).1) (by decide) (by decide) kg) ?_
      show G (T8.setTop (mkF m 119 #[.val (.long x0), .second, .val (.long x1), .second, .val (.int x2), .val (.int x3), .val (.long xx), .second, .val (.long yy), .second, .val (.int (0 : Int32)), .val (.int (0 : Int32)), .val (.int pp), .val (.ref b3), .val (.ref b5), .val (.ref b7), .unset, .unset] []))
      refine go (fun tg kg => XS.aload X8.here hx rfl (hb hby at_119) rfl rfl kg) ?_
      show G (T8.setTop (mkF m 121 #[.val (.long x0), .second, .val (.long x1), .second, .val (.int x2), .val (.int x3), .val (.long xx), .second, .val (.long yy), .second, .val (.int (0 : Int32)), .val (.int (0 : Int32)), .val (.int pp), .val (.ref b3), .val (.ref b5), .val (.ref b7), .unset, .unset] [(.ref b3)]))
      refine go (fun tg kg => XS.aload X8.here hx rfl (hb hby at_121) rfl rfl kg) ?_
      show G (T8.setTop (mkF m 123 #[.val (.long x0), .second, .val (.long x1), .second, .val (.int x2), .val (.int x3), .val (.long xx), .second, .val (.long yy), .second, .val (.int (0 : Int32)), .val (.int (0 : Int32)), .val (.int pp), .val (.ref b3), .val (.ref b5), .val (.ref b7), .unset, .unset] [(.ref b5), (.ref b3)]))
      have Fa10 := ((((Ge4.ext E5).keep K6).ext E7).keep K8)
      have Fa11 := ((((Gc4.ext E5).keep K6 (ninS (Nat.ne_of_lt (Nat.lt_of_lt_of_le Gc4.lt (Nat.le_of_eq g5.symm))) nin0)).ext E7).keep K8 (ninS (Nat.ne_of_lt (Nat.lt_of_lt_of_le ((Gc4.ext E5).keep K6 (ninS (Nat.ne_of_lt (Nat.lt_of_lt_of_le Gc4.lt (Nat.le_of_eq g5.symm))) nin0)).lt (Nat.le_of_eq g7.symm))) nin0))
      have Fa12 := ((((Gt4.ext E5).keep K6 (ninS (Nat.ne_of_lt (Nat.lt_of_lt_of_le Gt4.lt (Nat.le_of_eq g5.symm))) nin0)).ext E7).keep K8 (ninS (Nat.ne_of_lt (Nat.lt_of_lt_of_le ((Gt4.ext E5).keep K6 (ninS (Nat.ne_of_lt (Nat.lt_of_lt_of_le Gt4.lt (Nat.le_of_eq g5.symm))) nin0)).lt (Nat.le_of_eq g7.symm))) nin0))
      have Fa13 := ((((Gl4.ext E5).keep K6 (ninS (Nat.ne_of_lt (Nat.lt_of_lt_of_le Gl4.lt (Nat.le_of_eq g5.symm))) nin0)).ext E7).keep K8 (ninS (Nat.ne_of_lt (Nat.lt_of_lt_of_le ((Gl4.ext E5).keep K6 (ninS (Nat.ne_of_lt (Nat.lt_of_lt_of_le Gl4.lt (Nat.le_of_eq g5.symm))) nin0)).lt (Nat.le_of_eq g7.symm))) nin0))
      have Fa14 := ((((Ga4.ext E5).keep K6 (ninS (Nat.ne_of_lt (Nat.lt_of_lt_of_le Ga4.lt (Nat.le_of_eq g5.symm))) nin0)).ext E7).keep K8 (ninS (Nat.ne_of_lt (Nat.lt_of_lt_of_le ((Ga4.ext E5).keep K6 (ninS (Nat.ne_of_lt (Nat.lt_of_lt_of_le Ga4.lt (Nat.le_of_eq g5.symm))) nin0)).lt (Nat.le_of_eq g7.symm))) nin0))
      have Fa15 := ((Gc6.ext E7).keep K8 (ninS (Nat.ne_of_lt (Nat.lt_of_lt_of_le Ge6.lt (Nat.le_of_eq g7.symm))) nin0))
      have Fa16 := ((Gt6.ext E7).keep K8 (ninS (Nat.ne_of_lt (Nat.lt_of_lt_of_le Ge6.lt (Nat.le_of_eq g7.symm))) nin0))
      have Fa17 := ((Gl6.ext E7).keep K8 (ninS (Nat.ne_of_lt (Nat.lt_of_lt_of_le Ge6.lt (Nat.le_of_eq g7.symm))) nin0))
      have Fa18 := ((Ga6.ext E7).keep K8 (ninS (Nat.ne_of_lt (Nat.lt_of_lt_of_le Ga6.lt (Nat.le_of_eq g7.symm))) nin0))
      obtain ⟨cq9, kq9, q9a, q9b, q9c⟩ := isOf hZ rfl Fa10
      obtain ⟨_, _, ⟨T9, L9, k9, n9⟩, -, X9, ⟨Lc9, hQ9, l9, y9, z9⟩, st9⟩ := X8.virtualBack hx (y := (⟨"com/example/wary_commit/warycommit/LatencyHistogram", "add", "(Lcom/example/wary_commit/warycommit/LatencyHistogram;)V"⟩ : MethodName)) (z := (⟨"com/example/wary_commit/warycommit/LatencyHistogram", "add", "(Lcom/example/wary_commit/warycommit/LatencyHistogram;)V"⟩ : MethodName)) hown (mvT hZ (hw _ (List.mem_of_getElem? (i := 14) rfl))) (mvT hZ (hw _ (List.mem_of_getElem? (i := 15) rfl))) (notFace_of_selects (args := #[]) (mvT hZ (hw _ (List.mem_of_getElem? (i := 17) rfl)))) (mvT hZ (hw _ (List.mem_of_getElem? (i := 17) rfl))) (mvT hZ (hw _ (List.mem_of_getElem? (i := 16) rfl))) (by decide) (backOf (W := 0) (rm3 l Z a0 hw [] b3 b5 ca4 own_z (0 : Int64) (0 : Int64) ca6 own_z (0 : Int64) (0 : Int64) T8.heap n0 Z8 Fa10 ge_b3 ge_ca4 Fa11 Fa12 Fa13 Fa14 (Nat.ne_of_lt (Nat.lt_of_lt_of_le F3_longest.lt sz4)) Fa15 Fa16 Fa17 Fa18 (Ne.symm (Nat.ne_of_lt (Nat.lt_of_lt_of_le Ga4.lt (Nat.le_of_eq g5.symm)))) (Ne.symm (Nat.ne_of_lt (Nat.lt_of_lt_of_le (Ga4.ext E5).lt sz6))) (Ne.symm (Nat.ne_of_lt (Nat.lt_of_lt_of_le Gl4.lt (Nat.le_of_eq g5.symm))))) hZ (hw _ (List.mem_of_getElem? (i := 18) rfl)) (hw _ (List.mem_of_getElem? (i := 4) rfl)) (by decide) (by decide)) q9a q9c (g := (mkF m 123 #[.val (.long x0), .second, .val (.long x1), .second, .val (.int x2), .val (.int x3), .val (.long xx), .second, .val (.long yy), .second, .val (.int (0 : Int32)), .val (.int (0 : Int32)), .val (.int pp), .val (.ref b3), .val (.ref b5), .val (.ref b7), .unset, .unset] [(.ref b5), (.ref b3)])) rfl (by rw [hml]; rfl) (Steps.refl _) (argsL := [(.ref b5)]) (rest := []) (lenOf pd__Lcom_example_wary_commit_warycommit_LatencyHistogram__V rfl) rfl (by show 2 * 0 + _ ≤ _; exact Nat.le_of_eq rfl) (hb hby at_123) (fun _ _ => ⟨rfl, rfl, (by decide : 6 + 0 ≤ _), (by decide : 21897 + 0 ≤ _)⟩)
      dsimp only [Pt.U, Pt.locs, Pt.cells, Pt.slots] at X9 l9 y9 z9 st9 hQ9
      subst l9 y9 z9
      obtain ⟨rfl, Nq9, K9, Ge9, Gc9, Gt9, Gl9, Ga9⟩ := hQ9
      have Z9 := Nat.le_trans Z8 K9.1
      replace Gt9 : Fld Z T9.heap b3 "com/example/wary_commit/warycommit/LatencyHistogram" "total" "J" (.long (0 : Int64)) := Gt9
      rw [own_addz] at Ga9
      rw [show own_maxL (0 : Int64) (0 : Int64) = 0 by decide] at Gl9
      have N9 := Fr.app N8 Nq9
      refine go (fun tg kg => st9.trans kg) ?_
      show G (T9.setTop (mkF m 126 #[.val (.long x0), .second, .val (.long x1), .second, .val (.int x2), .val (.int x3), .val (.long xx), .second, .val (.long yy), .second, .val (.int (0 : Int32)), .val (.int (0 : Int32)), .val (.int pp), .val (.ref b3), .val (.ref b5), .val (.ref b7), .unset, .unset] []))
      refine go (fun tg kg => XS.lconst X9.here hx rfl (hb hby at_126) kg) ?_
      show G (T9.setTop (mkF m 127 #[.val (.long x0), .second, .val (.long x1), .second, .val (.int x2), .val (.int x3), .val (.long xx), .second, .val (.long yy), .second, .val (.int (0 : Int32)), .val (.int (0 : Int32)), .val (.int pp), .val (.ref b3), .val (.ref b5), .val (.ref b7), .unset, .unset] [(.long (0 : Int64))]))
      refine go (fun tg kg => XS.lstore X9.here hx rfl (hb hby at_127) rfl (l' := #[.val (.long x0), .second, .val (.long x1), .second, .val (.int x2), .val (.int x3), .val (.long xx), .second, .val (.long yy), .second, .val (.int (0 : Int32)), .val (.int (0 : Int32)), .val (.int pp), .val (.ref b3), .val (.ref b5), .val (.ref b7), .val (.long (0 : Int64)), .second]) rfl kg) ?_
      show G (T9.setTop (mkF m 129 #[.val (.long x0), .second, .val (.long x1), .second, .val (.int x2), .val (.int x3), .val (.long xx), .second, .val (.long yy), .second, .val (.int (0 : Int32)), .val (.int (0 : Int32)), .val (.int pp), .val (.ref b3), .val (.ref b5), .val (.ref b7), .val (.long (0 : Int64)), .second] []))
      refine go (fun tg kg => XS.iload X9.here hx rfl (hb hby at_129) rfl kg) ?_
      show G (T9.setTop (mkF m 131 #[.val (.long x0), .second, .val (.long x1), .second, .val (.int x2), .val (.int x3), .val (.long xx), .second, .val (.long yy), .second, .val (.int (0 : Int32)), .val (.int (0 : Int32)), .val (.int pp), .val (.ref b3), .val (.ref b5), .val (.ref b7), .val (.long (0 : Int64)), .second] [(.int (0 : Int32))]))
      refine go (fun tg kg => XS.ifYes X9.here hx rfl (pc0 := 131) (pc' := 138) rfl (hb hby at_131) rfl ((if0 _ _).trans (teq (by decide)).1) (by decide) (by decide) kg) ?_
      show G (T9.setTop (mkF m 138 #[.val (.long x0), .second, .val (.long x1), .second, .val (.int x2), .val (.int x3), .val (.long xx), .second, .val (.long yy), .second, .val (.int (0 : Int32)), .val (.int (0 : Int32)), .val (.int pp), .val (.ref b3), .val (.ref b5), .val (.ref b7), .val (.long (0 : Int64)), .second] []))
      refine go (fun tg kg => XS.iload X9.here hx rfl (hb hby at_138) rfl kg) ?_
      show G (T9.setTop (mkF m 140 #[.val (.long x0), .second, .val (.long x1), .second, .val (.int x2), .val (.int x3), .val (.long xx), .second, .val (.long yy), .second, .val (.int (0 : Int32)), .val (.int (0 : Int32)), .val (.int pp), .val (.ref b3), .val (.ref b5), .val (.ref b7), .val (.long (0 : Int64)), .second] [(.int (0 : Int32))]))
      refine go (fun tg kg => XS.ifYes X9.here hx rfl (pc0 := 140) (pc' := 152) rfl (hb hby at_140) rfl ((if0 _ _).trans (teq (by decide)).1) (by decide) (by decide) kg) ?_
      show G (T9.setTop (mkF m 152 #[.val (.long x0), .second, .val (.long x1), .second, .val (.int x2), .val (.int x3), .val (.long xx), .second, .val (.long yy), .second, .val (.int (0 : Int32)), .val (.int (0 : Int32)), .val (.int pp), .val (.ref b3), .val (.ref b5), .val (.ref b7), .val (.long (0 : Int64)), .second] []))
      refine go (fun tg kg => XS.aload X9.here hx rfl (hb hby at_152) rfl rfl kg) ?_
      show G (T9.setTop (mkF m 154 #[.val (.long x0), .second, .val (.long x1), .second, .val (.int x2), .val (.int x3), .val (.long xx), .second, .val (.long yy), .second, .val (.int (0 : Int32)), .val (.int (0 : Int32)), .val (.int pp), .val (.ref b3), .val (.ref b5), .val (.ref b7), .val (.long (0 : Int64)), .second] [(.ref b3)]))
      obtain ⟨cq19, kq19, q19a, q19b, q19c⟩ := isOf hZ rfl Ge9
      obtain ⟨_, _, ⟨T19, L19, k19, n19⟩, -, X19, ⟨Lc19, hQ19, l19, y19, z19⟩, st19⟩ := X9.virtualBack hx (y := (⟨"com/example/wary_commit/warycommit/LatencyHistogram", "longest", "()J"⟩ : MethodName)) (z := (⟨"com/example/wary_commit/warycommit/LatencyHistogram", "longest", "()J"⟩ : MethodName)) hown (mvT hZ (hw _ (List.mem_of_getElem? (i := 27) rfl))) (mvT hZ (hw _ (List.mem_of_getElem? (i := 28) rfl))) (notFace_of_selects (args := #[]) (mvT hZ (hw _ (List.mem_of_getElem? (i := 30) rfl)))) (mvT hZ (hw _ (List.mem_of_getElem? (i := 30) rfl))) (mvT hZ (hw _ (List.mem_of_getElem? (i := 29) rfl))) (by decide) (backOf (W := 0) (rm5 l Z a0 hw [] b3 (0 : Int64) T9.heap n0 Z9 Gl9) hZ (hw _ (List.mem_of_getElem? (i := 31) rfl)) (hw _ (List.mem_of_getElem? (i := 4) rfl)) (by decide) (by decide)) q19a q19c (g := (mkF m 154 #[.val (.long x0), .second, .val (.long x1), .second, .val (.int x2), .val (.int x3), .val (.long xx), .second, .val (.long yy), .second, .val (.int (0 : Int32)), .val (.int (0 : Int32)), .val (.int pp), .val (.ref b3), .val (.ref b5), .val (.ref b7), .val (.long (0 : Int64)), .second] [(.ref b3)])) rfl (by rw [hml]; rfl) (Steps.refl _) (argsL := []) (rest := []) (lenOf pd___J rfl) rfl (by show 2 * 0 + _ ≤ _; exact Nat.le_of_eq rfl) (hb hby at_154) (fun _ _ => ⟨rfl, rfl, (by decide : 6 + 0 ≤ _), (by decide : 21897 + 0 ≤ _)⟩)
      dsimp only [Pt.U, Pt.locs, Pt.cells, Pt.slots] at X19 l19 y19 z19 st19 hQ19
      subst l19 y19 z19
      obtain ⟨rfl, Nq19, e19⟩ := hQ19
      have N19 := Fr.app N9 Nq19
      refine go (fun tg kg => st19.trans kg) ?_
      show G (T19.setTop (mkF m 157 #[.val (.long x0), .second, .val (.long x1), .second, .val (.int x2), .val (.int x3), .val (.long xx), .second, .val (.long yy), .second, .val (.int (0 : Int32)), .val (.int (0 : Int32)), .val (.int pp), .val (.ref b3), .val (.ref b5), .val (.ref b7), .val (.long (0 : Int64)), .second] [(.long (0 : Int64))]))
      refine go (fun tg kg => XS.lload X19.here hx rfl (hb hby at_157) rfl kg) ?_
      show G (T19.setTop (mkF m 159 #[.val (.long x0), .second, .val (.long x1), .second, .val (.int x2), .val (.int x3), .val (.long xx), .second, .val (.long yy), .second, .val (.int (0 : Int32)), .val (.int (0 : Int32)), .val (.int pp), .val (.ref b3), .val (.ref b5), .val (.ref b7), .val (.long (0 : Int64)), .second] [(.long (0 : Int64)), (.long (0 : Int64))]))
      refine go (fun tg kg => XS.lcmp X19.here hx rfl (hb hby at_159) rfl kg) ?_
      show G (T19.setTop (mkF m 160 #[.val (.long x0), .second, .val (.long x1), .second, .val (.int x2), .val (.int x3), .val (.long xx), .second, .val (.long yy), .second, .val (.int (0 : Int32)), .val (.int (0 : Int32)), .val (.int pp), .val (.ref b3), .val (.ref b5), .val (.ref b7), .val (.long (0 : Int64)), .second] [(.int (lcmpW (0 : Int64) (0 : Int64)))]))
      refine go (fun tg kg => XS.ifYes X19.here hx rfl (pc0 := 160) (pc' := 165) rfl (hb hby at_160) rfl ((if0 _ _).trans (teq ((lw_eq (0 : Int64) (0 : Int64)).mpr (by decide))).1) (by decide) (by decide) kg) ?_
      show G (T19.setTop (mkF m 165 #[.val (.long x0), .second, .val (.long x1), .second, .val (.int x2), .val (.int x3), .val (.long xx), .second, .val (.long yy), .second, .val (.int (0 : Int32)), .val (.int (0 : Int32)), .val (.int pp), .val (.ref b3), .val (.ref b5), .val (.ref b7), .val (.long (0 : Int64)), .second] []))
      refine go (fun tg kg => XS.iload X19.here hx rfl (hb hby at_165) rfl kg) ?_
      show G (T19.setTop (mkF m 167 #[.val (.long x0), .second, .val (.long x1), .second, .val (.int x2), .val (.int x3), .val (.long xx), .second, .val (.long yy), .second, .val (.int (0 : Int32)), .val (.int (0 : Int32)), .val (.int pp), .val (.ref b3), .val (.ref b5), .val (.ref b7), .val (.long (0 : Int64)), .second] [(.int (0 : Int32))]))
      refine go (fun tg kg => XS.ifNo X19.here hx rfl (hb hby at_167) rfl ((if0 _ _).trans (teq (by decide)).2) kg) ?_
      show G (T19.setTop (mkF m 170 #[.val (.long x0), .second, .val (.long x1), .second, .val (.int x2), .val (.int x3), .val (.long xx), .second, .val (.long yy), .second, .val (.int (0 : Int32)), .val (.int (0 : Int32)), .val (.int pp), .val (.ref b3), .val (.ref b5), .val (.ref b7), .val (.long (0 : Int64)), .second] []))
      refine go (fun tg kg => XS.iload X19.here hx rfl (hb hby at_170) rfl kg) ?_
      show G (T19.setTop (mkF m 172 #[.val (.long x0), .second, .val (.long x1), .second, .val (.int x2), .val (.int x3), .val (.long xx), .second, .val (.long yy), .second, .val (.int (0 : Int32)), .val (.int (0 : Int32)), .val (.int pp), .val (.ref b3), .val (.ref b5), .val (.ref b7), .val (.long (0 : Int64)), .second] [(.int (0 : Int32))]))
      refine go (fun tg kg => XS.ifNo X19.here hx rfl (hb hby at_172) rfl ((if0 _ _).trans (teq (by decide)).2) kg) ?_
      show G (T19.setTop (mkF m 175 #[.val (.long x0), .second, .val (.long x1), .second, .val (.int x2), .val (.int x3), .val (.long xx), .second, .val (.long yy), .second, .val (.int (0 : Int32)), .val (.int (0 : Int32)), .val (.int pp), .val (.ref b3), .val (.ref b5), .val (.ref b7), .val (.long (0 : Int64)), .second] []))
      refine go (fun tg kg => XS.iconst X19.here hx rfl (hb hby at_175) kg) ?_
      show G (T19.setTop (mkF m 176 #[.val (.long x0), .second, .val (.long x1), .second, .val (.int x2), .val (.int x3), .val (.long xx), .second, .val (.long yy), .second, .val (.int (0 : Int32)), .val (.int (0 : Int32)), .val (.int pp), .val (.ref b3), .val (.ref b5), .val (.ref b7), .val (.long (0 : Int64)), .second] [(.int (1 : Int32))]))
      refine fin (some (.int (1 : Int32))) X19 (fun h => absurd h (by decide)) (fun fs hr => retN X19 hx (t := .boolean) hret (by simp) (hb hby at_176) hr) (by decide) (by decide) ?_
      rw [e19]
      exact ⟨rfl, N19⟩
    · refine go (fun tg kg => XS.ifNo X0.here hx rfl (hb hby at_32) rfl ((if0 _ _).trans (feq hc2).1) kg) ?_
      show G (s₁.setTop (mkF m 35 #[.val (.long x0), .second, .val (.long x1), .second, .val (.int x2), .val (.int x3), .val (.long xx), .second, .val (.long yy), .second, .val (.int (0 : Int32)), .unset, .unset, .unset, .unset, .unset, .unset, .unset] []))
      refine go (fun tg kg => XS.iconst X0.here hx rfl (hb hby at_35) kg) ?_
      show G (s₁.setTop (mkF m 36 #[.val (.long x0), .second, .val (.long x1), .second, .val (.int x2), .val (.int x3), .val (.long xx), .second, .val (.long yy), .second, .val (.int (0 : Int32)), .unset, .unset, .unset, .unset, .unset, .unset, .unset] [(.int (1 : Int32))]))
      refine go (fun tg kg => XS.goto X0.here hx rfl (pc0 := 36) (pc' := 40) rfl (hb hby at_36) (by decide) (by decide) kg) ?_
      show G (s₁.setTop (mkF m 40 #[.val (.long x0), .second, .val (.long x1), .second, .val (.int x2), .val (.int x3), .val (.long xx), .second, .val (.long yy), .second, .val (.int (0 : Int32)), .unset, .unset, .unset, .unset, .unset, .unset, .unset] [(.int (1 : Int32))]))
      refine go (fun tg kg => XS.istore X0.here hx rfl (hb hby at_40) rfl (l' := #[.val (.long x0), .second, .val (.long x1), .second, .val (.int x2), .val (.int x3), .val (.long xx), .second, .val (.long yy), .second, .val (.int (0 : Int32)), .val (.int (1 : Int32)), .unset, .unset, .unset, .unset, .unset, .unset]) rfl kg) ?_
      show G (s₁.setTop (mkF m 42 #[.val (.long x0), .second, .val (.long x1), .second, .val (.int x2), .val (.int x3), .val (.long xx), .second, .val (.long yy), .second, .val (.int (0 : Int32)), .val (.int (1 : Int32)), .unset, .unset, .unset, .unset, .unset, .unset] []))
      refine go (fun tg kg => XS.iload X0.here hx rfl (hb hby at_42) rfl kg) ?_
      show G (s₁.setTop (mkF m 44 #[.val (.long x0), .second, .val (.long x1), .second, .val (.int x2), .val (.int x3), .val (.long xx), .second, .val (.long yy), .second, .val (.int (0 : Int32)), .val (.int (1 : Int32)), .unset, .unset, .unset, .unset, .unset, .unset] [(.int x3)]))
      refine go (fun tg kg => X0.ldcInt hx hown (mvT hZ (hw _ (List.mem_of_getElem? (i := 1) rfl))) (g := (mkF m 44 #[.val (.long x0), .second, .val (.long x1), .second, .val (.int x2), .val (.int x3), .val (.long xx), .second, .val (.long yy), .second, .val (.int (0 : Int32)), .val (.int (1 : Int32)), .unset, .unset, .unset, .unset, .unset, .unset] [(.int x3)])) rfl (hb hby at_44) _ kg) ?_
      show G (s₁.setTop (mkF m 46 #[.val (.long x0), .second, .val (.long x1), .second, .val (.int x2), .val (.int x3), .val (.long xx), .second, .val (.long yy), .second, .val (.int (0 : Int32)), .val (.int (1 : Int32)), .unset, .unset, .unset, .unset, .unset, .unset] [(.int (2147483647 : Int32)), (.int x3)]))
      refine go (fun tg kg => XS.iand X0.here hx rfl (hb hby at_46) rfl kg) ?_
      show G (s₁.setTop (mkF m 47 #[.val (.long x0), .second, .val (.long x1), .second, .val (.int x2), .val (.int x3), .val (.long xx), .second, .val (.long yy), .second, .val (.int (0 : Int32)), .val (.int (1 : Int32)), .unset, .unset, .unset, .unset, .unset, .unset] [(.int (x3 &&& (2147483647 : Int32)))]))
      refine go (fun tg kg => XS.bipush X0.here hx rfl (hb hby at_47) kg) ?_
      show G (s₁.setTop (mkF m 49 #[.val (.long x0), .second, .val (.long x1), .second, .val (.int x2), .val (.int x3), .val (.long xx), .second, .val (.long yy), .second, .val (.int (0 : Int32)), .val (.int (1 : Int32)), .unset, .unset, .unset, .unset, .unset, .unset] [(.int (100 : Int32)), (.int (x3 &&& (2147483647 : Int32)))]))
      refine go (fun tg kg => iremM X0 hx rfl (hb hby at_49) rfl (by decide) kg) ?_
      show G (s₁.setTop (mkF m 50 #[.val (.long x0), .second, .val (.long x1), .second, .val (.int x2), .val (.int x3), .val (.long xx), .second, .val (.long yy), .second, .val (.int (0 : Int32)), .val (.int (1 : Int32)), .unset, .unset, .unset, .unset, .unset, .unset] [(.int ((x3 &&& (2147483647 : Int32)) % (100 : Int32)))]))
      refine go (fun tg kg => XS.iconst X0.here hx rfl (hb hby at_50) kg) ?_
      show G (s₁.setTop (mkF m 51 #[.val (.long x0), .second, .val (.long x1), .second, .val (.int x2), .val (.int x3), .val (.long xx), .second, .val (.long yy), .second, .val (.int (0 : Int32)), .val (.int (1 : Int32)), .unset, .unset, .unset, .unset, .unset, .unset] [(.int (1 : Int32)), (.int ((x3 &&& (2147483647 : Int32)) % (100 : Int32)))]))
      refine go (fun tg kg => XS.iadd X0.here hx rfl (hb hby at_51) rfl kg) ?_
      show G (s₁.setTop (mkF m 52 #[.val (.long x0), .second, .val (.long x1), .second, .val (.int x2), .val (.int x3), .val (.long xx), .second, .val (.long yy), .second, .val (.int (0 : Int32)), .val (.int (1 : Int32)), .unset, .unset, .unset, .unset, .unset, .unset] [(.int (((x3 &&& (2147483647 : Int32)) % (100 : Int32)) + (1 : Int32)))]))
      refine go (fun tg kg => XS.istore X0.here hx rfl (hb hby at_52) rfl (l' := #[.val (.long x0), .second, .val (.long x1), .second, .val (.int x2), .val (.int x3), .val (.long xx), .second, .val (.long yy), .second, .val (.int (0 : Int32)), .val (.int (1 : Int32)), .val (.int (((x3 &&& (2147483647 : Int32)) % (100 : Int32)) + (1 : Int32))), .unset, .unset, .unset, .unset, .unset]) rfl kg) ?_
      show G (s₁.setTop (mkF m 54 #[.val (.long x0), .second, .val (.long x1), .second, .val (.int x2), .val (.int x3), .val (.long xx), .second, .val (.long yy), .second, .val (.int (0 : Int32)), .val (.int (1 : Int32)), .val (.int (((x3 &&& (2147483647 : Int32)) % (100 : Int32)) + (1 : Int32))), .unset, .unset, .unset, .unset, .unset] []))
      obtain ⟨pp, hepp⟩ : ∃ z : Int32, z = (((x3 &&& (2147483647 : Int32)) % (100 : Int32)) + (1 : Int32)) := ⟨_, rfl⟩
      have hpc := own_pc x3 hepp
      rw [← hepp]
      show G (s₁.setTop (mkF m 54 #[.val (.long x0), .second, .val (.long x1), .second, .val (.int x2), .val (.int x3), .val (.long xx), .second, .val (.long yy), .second, .val (.int (0 : Int32)), .val (.int (1 : Int32)), .val (.int pp), .unset, .unset, .unset, .unset, .unset] []))
      obtain ⟨T20, h20, X20, e20, E20, A20, D20, -, st20⟩ := newO X0 hx hZ hown (hw _ (List.mem_of_getElem? (i := 2) rfl)) (hw _ (List.mem_of_getElem? (i := 3) rfl)) (hw _ (List.mem_of_getElem? (i := 4) rfl)) e0 (g := (mkF m 54 #[.val (.long x0), .second, .val (.long x1), .second, .val (.int x2), .val (.int x3), .val (.long xx), .second, .val (.long yy), .second, .val (.int (0 : Int32)), .val (.int (1 : Int32)), .val (.int pp), .unset, .unset, .unset, .unset, .unset] [])) rfl (hb hby at_54) (by decide) (by decide)
      obtain ⟨b20, g20⟩ : ∃ z, z = h0.size := ⟨_, rfl⟩
      rw [← g20] at A20 D20 st20
      refine go st20 ?_
      have ge_b20 : n0 ≤ b20 := Nat.le_trans Z0 (Nat.le_of_eq g20.symm)
      have Z20 := Nat.le_trans Z0 E20.1
      have F20_counts : Fld Z h20 b20 "com/example/wary_commit/warycommit/LatencyHistogram" "counts" "[J" .null := D20 (Or.inr (hw _ (List.mem_of_getElem? (i := 13) rfl))) (ty := (.array .long)) (by decide)
      have F20_total : Fld Z h20 b20 "com/example/wary_commit/warycommit/LatencyHistogram" "total" "J" (.long (0 : Int64)) := D20 (Or.inl (hw _ (List.mem_of_getElem? (i := 20) rfl))) (ty := .long) (by decide)
      have F20_longest : Fld Z h20 b20 "com/example/wary_commit/warycommit/LatencyHistogram" "longest" "J" (.long (0 : Int64)) := D20 (Or.inl (hw _ (List.mem_of_getElem? (i := 22) rfl))) (ty := .long) (by decide)
      show G (T20.setTop (mkF m 57 #[.val (.long x0), .second, .val (.long x1), .second, .val (.int x2), .val (.int x3), .val (.long xx), .second, .val (.long yy), .second, .val (.int (0 : Int32)), .val (.int (1 : Int32)), .val (.int pp), .unset, .unset, .unset, .unset, .unset] [(.ref b20)]))
      refine go (fun tg kg => XS.dup X20.here hx rfl (hb hby at_57) rfl rfl kg) ?_
      show G (T20.setTop (mkF m 58 #[.val (.long x0), .second, .val (.long x1), .second, .val (.int x2), .val (.int x3), .val (.long xx), .second, .val (.long yy), .second, .val (.int (0 : Int32)), .val (.int (1 : Int32)), .val (.int pp), .unset, .unset, .unset, .unset, .unset] [(.ref b20), (.ref b20)]))
      obtain ⟨_, _, ⟨T21, L21, k21, n21⟩, -, X21, ⟨Lc21, hQ21, l21, y21, z21⟩, st21⟩ := X20.specialBack hx (y := (⟨"com/example/wary_commit/warycommit/LatencyHistogram", "<init>", "()V"⟩ : MethodName)) rfl hown (mvT hZ (hw _ (List.mem_of_getElem? (i := 5) rfl))) (mvT hZ (hw _ (List.mem_of_getElem? (i := 6) rfl))) (mvT hZ (hw _ (List.mem_of_getElem? (i := 7) rfl))) (by decide) (backOf (W := 1) (rm1 l Z a0 hw [] b20 h20 n0 Z20 A20 ge_b20 F20_counts F20_total F20_longest) hZ (hw _ (List.mem_of_getElem? (i := 7) rfl)) (hw _ (List.mem_of_getElem? (i := 4) rfl)) (by decide) (by decide)) (g := (mkF m 58 #[.val (.long x0), .second, .val (.long x1), .second, .val (.int x2), .val (.int x3), .val (.long xx), .second, .val (.long yy), .second, .val (.int (0 : Int32)), .val (.int (1 : Int32)), .val (.int pp), .unset, .unset, .unset, .unset, .unset] [(.ref b20), (.ref b20)])) rfl (by rw [hml]; rfl) (Steps.refl _) (a := b20) (argsL := []) (rest := [(.ref b20)]) (lenOf pd___V rfl) rfl (by show 2 * 0 + _ ≤ _; exact Nat.le_of_eq rfl) (hb hby at_58) (fun _ _ => ⟨rfl, e20, (by decide : 1 + 1 ≤ _), (by decide : 3 + 7296 ≤ _)⟩)
      dsimp only [Pt.U, Pt.locs, Pt.cells, Pt.slots] at X21 l21 y21 z21 st21 hQ21
      subst l21 y21 z21
      obtain ⟨rfl, ca21, Nq21, K21, sz21, ge_ca21, Ge21, Gc21, Gt21, Gl21, Ga21⟩ := hQ21
      have Z21 := Nat.le_trans Z20 K21.1
      have N21 := Fr.app N0 Nq21
      refine go (fun tg kg => st21.trans kg) ?_
      show G (T21.setTop (mkF m 61 #[.val (.long x0), .second, .val (.long x1), .second, .val (.int x2), .val (.int x3), .val (.long xx), .second, .val (.long yy), .second, .val (.int (0 : Int32)), .val (.int (1 : Int32)), .val (.int pp), .unset, .unset, .unset, .unset, .unset] [(.ref b20)]))
      refine go (fun tg kg => XS.astore X21.here hx rfl (hb hby at_61) rfl rfl (l' := #[.val (.long x0), .second, .val (.long x1), .second, .val (.int x2), .val (.int x3), .val (.long xx), .second, .val (.long yy), .second, .val (.int (0 : Int32)), .val (.int (1 : Int32)), .val (.int pp), .val (.ref b20), .unset, .unset, .unset, .unset]) rfl kg) ?_
      show G (T21.setTop (mkF m 63 #[.val (.long x0), .second, .val (.long x1), .second, .val (.int x2), .val (.int x3), .val (.long xx), .second, .val (.long yy), .second, .val (.int (0 : Int32)), .val (.int (1 : Int32)), .val (.int pp), .val (.ref b20), .unset, .unset, .unset, .unset] []))
      obtain ⟨T22, h22, X22, e22, E22, A22, D22, -, st22⟩ := newO X21 hx hZ hown (hw _ (List.mem_of_getElem? (i := 2) rfl)) (hw _ (List.mem_of_getElem? (i := 3) rfl)) (hw _ (List.mem_of_getElem? (i := 4) rfl)) rfl (g := (mkF m 63 #[.val (.long x0), .second, .val (.long x1), .second, .val (.int x2), .val (.int x3), .val (.long xx), .second, .val (.long yy), .second, .val (.int (0 : Int32)), .val (.int (1 : Int32)), .val (.int pp), .val (.ref b20), .unset, .unset, .unset, .unset] [])) rfl (hb hby at_63) (by decide) (by decide)
      obtain ⟨b22, g22⟩ : ∃ z, z = T21.heap.size := ⟨_, rfl⟩
      rw [← g22] at A22 D22 st22
      refine go st22 ?_
      have ge_b22 : n0 ≤ b22 := Nat.le_trans Z21 (Nat.le_of_eq g22.symm)
      have Z22 := Nat.le_trans Z21 E22.1
      have F22_counts : Fld Z h22 b22 "com/example/wary_commit/warycommit/LatencyHistogram" "counts" "[J" .null := D22 (Or.inr (hw _ (List.mem_of_getElem? (i := 13) rfl))) (ty := (.array .long)) (by decide)
      have F22_total : Fld Z h22 b22 "com/example/wary_commit/warycommit/LatencyHistogram" "total" "J" (.long (0 : Int64)) := D22 (Or.inl (hw _ (List.mem_of_getElem? (i := 20) rfl))) (ty := .long) (by decide)
      have F22_longest : Fld Z h22 b22 "com/example/wary_commit/warycommit/LatencyHistogram" "longest" "J" (.long (0 : Int64)) := D22 (Or.inl (hw _ (List.mem_of_getElem? (i := 22) rfl))) (ty := .long) (by decide)
      show G (T22.setTop (mkF m 66 #[.val (.long x0), .second, .val (.long x1), .second, .val (.int x2), .val (.int x3), .val (.long xx), .second, .val (.long yy), .second, .val (.int (0 : Int32)), .val (.int (1 : Int32)), .val (.int pp), .val (.ref b20), .unset, .unset, .unset, .unset] [(.ref b22)]))
      refine go (fun tg kg => XS.dup X22.here hx rfl (hb hby at_66) rfl rfl kg) ?_
      show G (T22.setTop (mkF m 67 #[.val (.long x0), .second, .val (.long x1), .second, .val (.int x2), .val (.int x3), .val (.long xx), .second, .val (.long yy), .second, .val (.int (0 : Int32)), .val (.int (1 : Int32)), .val (.int pp), .val (.ref b20), .unset, .unset, .unset, .unset] [(.ref b22), (.ref b22)]))
      obtain ⟨_, _, ⟨T23, L23, k23, n23⟩, -, X23, ⟨Lc23, hQ23, l23, y23, z23⟩, st23⟩ := X22.specialBack hx (y := (⟨"com/example/wary_commit/warycommit/LatencyHistogram", "<init>", "()V"⟩ : MethodName)) rfl hown (mvT hZ (hw _ (List.mem_of_getElem? (i := 5) rfl))) (mvT hZ (hw _ (List.mem_of_getElem? (i := 6) rfl))) (mvT hZ (hw _ (List.mem_of_getElem? (i := 7) rfl))) (by decide) (backOf (W := 1) (rm1 l Z a0 hw [] b22 h22 n0 Z22 A22 ge_b22 F22_counts F22_total F22_longest) hZ (hw _ (List.mem_of_getElem? (i := 7) rfl)) (hw _ (List.mem_of_getElem? (i := 4) rfl)) (by decide) (by decide)) (g := (mkF m 67 #[.val (.long x0), .second, .val (.long x1), .second, .val (.int x2), .val (.int x3), .val (.long xx), .second, .val (.long yy), .second, .val (.int (0 : Int32)), .val (.int (1 : Int32)), .val (.int pp), .val (.ref b20), .unset, .unset, .unset, .unset] [(.ref b22), (.ref b22)])) rfl (by rw [hml]; rfl) (Steps.refl _) (a := b22) (argsL := []) (rest := [(.ref b22)]) (lenOf pd___V rfl) rfl (by show 2 * 0 + _ ≤ _; exact Nat.le_of_eq rfl) (hb hby at_67) (fun _ _ => ⟨rfl, e22, (by decide : 3 + 1 ≤ _), (by decide : 7302 + 7296 ≤ _)⟩)
      dsimp only [Pt.U, Pt.locs, Pt.cells, Pt.slots] at X23 l23 y23 z23 st23 hQ23
      subst l23 y23 z23
      obtain ⟨rfl, ca23, Nq23, K23, sz23, ge_ca23, Ge23, Gc23, Gt23, Gl23, Ga23⟩ := hQ23
      have Z23 := Nat.le_trans Z22 K23.1
      have N23 := Fr.app N21 Nq23
      refine go (fun tg kg => st23.trans kg) ?_
      show G (T23.setTop (mkF m 70 #[.val (.long x0), .second, .val (.long x1), .second, .val (.int x2), .val (.int x3), .val (.long xx), .second, .val (.long yy), .second, .val (.int (0 : Int32)), .val (.int (1 : Int32)), .val (.int pp), .val (.ref b20), .unset, .unset, .unset, .unset] [(.ref b22)]))
      refine go (fun tg kg => XS.astore X23.here hx rfl (hb hby at_70) rfl rfl (l' := #[.val (.long x0), .second, .val (.long x1), .second, .val (.int x2), .val (.int x3), .val (.long xx), .second, .val (.long yy), .second, .val (.int (0 : Int32)), .val (.int (1 : Int32)), .val (.int pp), .val (.ref b20), .val (.ref b22), .unset, .unset, .unset]) rfl kg) ?_
      show G (T23.setTop (mkF m 72 #[.val (.long x0), .second, .val (.long x1), .second, .val (.int x2), .val (.int x3), .val (.long xx), .second, .val (.long yy), .second, .val (.int (0 : Int32)), .val (.int (1 : Int32)), .val (.int pp), .val (.ref b20), .val (.ref b22), .unset, .unset, .unset] []))
      obtain ⟨T24, h24, X24, e24, E24, A24, D24, -, st24⟩ := newO X23 hx hZ hown (hw _ (List.mem_of_getElem? (i := 2) rfl)) (hw _ (List.mem_of_getElem? (i := 3) rfl)) (hw _ (List.mem_of_getElem? (i := 4) rfl)) rfl (g := (mkF m 72 #[.val (.long x0), .second, .val (.long x1), .second, .val (.int x2), .val (.int x3), .val (.long xx), .second, .val (.long yy), .second, .val (.int (0 : Int32)), .val (.int (1 : Int32)), .val (.int pp), .val (.ref b20), .val (.ref b22), .unset, .unset, .unset] [])) rfl (hb hby at_72) (by decide) (by decide)
      obtain ⟨b24, g24⟩ : ∃ z, z = T23.heap.size := ⟨_, rfl⟩
      rw [← g24] at A24 D24 st24
      refine go st24 ?_
      have ge_b24 : n0 ≤ b24 := Nat.le_trans Z23 (Nat.le_of_eq g24.symm)
      have Z24 := Nat.le_trans Z23 E24.1
      have F24_counts : Fld Z h24 b24 "com/example/wary_commit/warycommit/LatencyHistogram" "counts" "[J" .null := D24 (Or.inr (hw _ (List.mem_of_getElem? (i := 13) rfl))) (ty := (.array .long)) (by decide)
      have F24_total : Fld Z h24 b24 "com/example/wary_commit/warycommit/LatencyHistogram" "total" "J" (.long (0 : Int64)) := D24 (Or.inl (hw _ (List.mem_of_getElem? (i := 20) rfl))) (ty := .long) (by decide)
      have F24_longest : Fld Z h24 b24 "com/example/wary_commit/warycommit/LatencyHistogram" "longest" "J" (.long (0 : Int64)) := D24 (Or.inl (hw _ (List.mem_of_getElem? (i := 22) rfl))) (ty := .long) (by decide)
      show G (T24.setTop (mkF m 75 #[.val (.long x0), .second, .val (.long x1), .second, .val (.int x2), .val (.int x3), .val (.long xx), .second, .val (.long yy), .second, .val (.int (0 : Int32)), .val (.int (1 : Int32)), .val (.int pp), .val (.ref b20), .val (.ref b22), .unset, .unset, .unset] [(.ref b24)]))
      refine go (fun tg kg => XS.dup X24.here hx rfl (hb hby at_75) rfl rfl kg) ?_
      show G (T24.setTop (mkF m 76 #[.val (.long x0), .second, .val (.long x1), .second, .val (.int x2), .val (.int x3), .val (.long xx), .second, .val (.long yy), .second, .val (.int (0 : Int32)), .val (.int (1 : Int32)), .val (.int pp), .val (.ref b20), .val (.ref b22), .unset, .unset, .unset] [(.ref b24), (.ref b24)]))
      obtain ⟨_, _, ⟨T25, L25, k25, n25⟩, -, X25, ⟨Lc25, hQ25, l25, y25, z25⟩, st25⟩ := X24.specialBack hx (y := (⟨"com/example/wary_commit/warycommit/LatencyHistogram", "<init>", "()V"⟩ : MethodName)) rfl hown (mvT hZ (hw _ (List.mem_of_getElem? (i := 5) rfl))) (mvT hZ (hw _ (List.mem_of_getElem? (i := 6) rfl))) (mvT hZ (hw _ (List.mem_of_getElem? (i := 7) rfl))) (by decide) (backOf (W := 1) (rm1 l Z a0 hw [] b24 h24 n0 Z24 A24 ge_b24 F24_counts F24_total F24_longest) hZ (hw _ (List.mem_of_getElem? (i := 7) rfl)) (hw _ (List.mem_of_getElem? (i := 4) rfl)) (by decide) (by decide)) (g := (mkF m 76 #[.val (.long x0), .second, .val (.long x1), .second, .val (.int x2), .val (.int x3), .val (.long xx), .second, .val (.long yy), .second, .val (.int (0 : Int32)), .val (.int (1 : Int32)), .val (.int pp), .val (.ref b20), .val (.ref b22), .unset, .unset, .unset] [(.ref b24), (.ref b24)])) rfl (by rw [hml]; rfl) (Steps.refl _) (a := b24) (argsL := []) (rest := [(.ref b24)]) (lenOf pd___V rfl) rfl (by show 2 * 0 + _ ≤ _; exact Nat.le_of_eq rfl) (hb hby at_76) (fun _ _ => ⟨rfl, e24, (by decide : 5 + 1 ≤ _), (by decide : 14601 + 7296 ≤ _)⟩)
      dsimp only [Pt.U, Pt.locs, Pt.cells, Pt.slots] at X25 l25 y25 z25 st25 hQ25
      subst l25 y25 z25
      obtain ⟨rfl, ca25, Nq25, K25, sz25, ge_ca25, Ge25, Gc25, Gt25, Gl25, Ga25⟩ := hQ25
      have Z25 := Nat.le_trans Z24 K25.1
      have N25 := Fr.app N23 Nq25
      refine go (fun tg kg => st25.trans kg) ?_
      show G (T25.setTop (mkF m 79 #[.val (.long x0), .second, .val (.long x1), .second, .val (.int x2), .val (.int x3), .val (.long xx), .second, .val (.long yy), .second, .val (.int (0 : Int32)), .val (.int (1 : Int32)), .val (.int pp), .val (.ref b20), .val (.ref b22), .unset, .unset, .unset] [(.ref b24)]))
      refine go (fun tg kg => XS.astore X25.here hx rfl (hb hby at_79) rfl rfl (l' := #[.val (.long x0), .second, .val (.long x1), .second, .val (.int x2), .val (.int x3), .val (.long xx), .second, .val (.long yy), .second, .val (.int (0 : Int32)), .val (.int (1 : Int32)), .val (.int pp), .val (.ref b20), .val (.ref b22), .val (.ref b24), .unset, .unset]) rfl kg) ?_
      show G (T25.setTop (mkF m 81 #[.val (.long x0), .second, .val (.long x1), .second, .val (.int x2), .val (.int x3), .val (.long xx), .second, .val (.long yy), .second, .val (.int (0 : Int32)), .val (.int (1 : Int32)), .val (.int pp), .val (.ref b20), .val (.ref b22), .val (.ref b24), .unset, .unset] []))
      refine go (fun tg kg => XS.iload X25.here hx rfl (hb hby at_81) rfl kg) ?_
      show G (T25.setTop (mkF m 83 #[.val (.long x0), .second, .val (.long x1), .second, .val (.int x2), .val (.int x3), .val (.long xx), .second, .val (.long yy), .second, .val (.int (0 : Int32)), .val (.int (1 : Int32)), .val (.int pp), .val (.ref b20), .val (.ref b22), .val (.ref b24), .unset, .unset] [(.int (0 : Int32))]))
      refine go (fun tg kg => XS.ifYes X25.here hx rfl (pc0 := 83) (pc' := 100) rfl (hb hby at_83) rfl ((if0 _ _).trans (teq (by decide)).1) (by decide) (by decide) kg) ?_
      show G (T25.setTop (mkF m 100 #[.val (.long x0), .second, .val (.long x1), .second, .val (.int x2), .val (.int x3), .val (.long xx), .second, .val (.long yy), .second, .val (.int (0 : Int32)), .val (.int (1 : Int32)), .val (.int pp), .val (.ref b20), .val (.ref b22), .val (.ref b24), .unset, .unset] []))
      refine go (fun tg kg => XS.iload X25.here hx rfl (hb hby at_100) rfl kg) ?_
      show G (T25.setTop (mkF m 102 #[.val (.long x0), .second, .val (.long x1), .second, .val (.int x2), .val (.int x3), .val (.long xx), .second, .val (.long yy), .second, .val (.int (0 : Int32)), .val (.int (1 : Int32)), .val (.int pp), .val (.ref b20), .val (.ref b22), .val (.ref b24), .unset, .unset] [(.int (1 : Int32))]))
      refine go (fun tg kg => XS.ifNo X25.here hx rfl (hb hby at_102) rfl ((if0 _ _).trans (feq (by decide)).1) kg) ?_
      show G (T25.setTop (mkF m 105 #[.val (.long x0), .second, .val (.long x1), .second, .val (.int x2), .val (.int x3), .val (.long xx), .second, .val (.long yy), .second, .val (.int (0 : Int32)), .val (.int (1 : Int32)), .val (.int pp), .val (.ref b20), .val (.ref b22), .val (.ref b24), .unset, .unset] []))
      refine go (fun tg kg => XS.aload X25.here hx rfl (hb hby at_105) rfl rfl kg) ?_
      show G (T25.setTop (mkF m 107 #[.val (.long x0), .second, .val (.long x1), .second, .val (.int x2), .val (.int x3), .val (.long xx), .second, .val (.long yy), .second, .val (.int (0 : Int32)), .val (.int (1 : Int32)), .val (.int pp), .val (.ref b20), .val (.ref b22), .val (.ref b24), .unset, .unset] [(.ref b22)]))
      refine go (fun tg kg => XS.lload X25.here hx rfl (hb hby at_107) rfl kg) ?_
      show G (T25.setTop (mkF m 109 #[.val (.long x0), .second, .val (.long x1), .second, .val (.int x2), .val (.int x3), .val (.long xx), .second, .val (.long yy), .second, .val (.int (0 : Int32)), .val (.int (1 : Int32)), .val (.int pp), .val (.ref b20), .val (.ref b22), .val (.ref b24), .unset, .unset] [(.long yy), (.ref b22)]))
      have Fa27 := ((Ge23.ext E24).keep K25)
      have Fa28 := ((Gc23.ext E24).keep K25 (ninS (Nat.ne_of_lt (Nat.lt_of_lt_of_le Gc23.lt (Nat.le_of_eq g24.symm))) nin0))
      have Fa29 := ((Gt23.ext E24).keep K25 (ninS (Nat.ne_of_lt (Nat.lt_of_lt_of_le Gt23.lt (Nat.le_of_eq g24.symm))) nin0))
      have Fa30 := ((Gl23.ext E24).keep K25 (ninS (Nat.ne_of_lt (Nat.lt_of_lt_of_le Gl23.lt (Nat.le_of_eq g24.symm))) nin0))
      have Fa31 := ((Ga23.ext E24).keep K25 (ninS (Nat.ne_of_lt (Nat.lt_of_lt_of_le Ga23.lt (Nat.le_of_eq g24.symm))) nin0))
      obtain ⟨cq26, kq26, q26a, q26b, q26c⟩ := isOf hZ rfl Fa27
      obtain ⟨_, _, ⟨T26, L26, k26, n26⟩, -, X26, ⟨Lc26, hQ26, l26, y26, z26⟩, st26⟩ := X25.virtualBack hx (y := (⟨"com/example/wary_commit/warycommit/LatencyHistogram", "record", "(J)V"⟩ : MethodName)) (z := (⟨"com/example/wary_commit/warycommit/LatencyHistogram", "record", "(J)V"⟩ : MethodName)) hown (mvT hZ (hw _ (List.mem_of_getElem? (i := 32) rfl))) (mvT hZ (hw _ (List.mem_of_getElem? (i := 33) rfl))) (notFace_of_selects (args := #[]) (mvT hZ (hw _ (List.mem_of_getElem? (i := 35) rfl)))) (mvT hZ (hw _ (List.mem_of_getElem? (i := 35) rfl))) (mvT hZ (hw _ (List.mem_of_getElem? (i := 34) rfl))) (by decide) (backOf (W := 0) (rm6 l Z a0 hw [] b22 yy ca23 own_z (0 : Int64) (0 : Int64) T25.heap n0 Z25 Fa27 ge_b22 ge_ca23 Fa28 Fa29 Fa30 Fa31 (Nat.ne_of_lt (Nat.lt_of_lt_of_le F22_longest.lt sz23)) hyy) hZ (hw _ (List.mem_of_getElem? (i := 36) rfl)) (hw _ (List.mem_of_getElem? (i := 4) rfl)) (by decide) (by decide)) q26a q26c (g := (mkF m 109 #[.val (.long x0), .second, .val (.long x1), .second, .val (.int x2), .val (.int x3), .val (.long xx), .second, .val (.long yy), .second, .val (.int (0 : Int32)), .val (.int (1 : Int32)), .val (.int pp), .val (.ref b20), .val (.ref b22), .val (.ref b24), .unset, .unset] [(.long yy), (.ref b22)])) rfl (by rw [hml]; rfl) (Steps.refl _) (argsL := [(.long yy)]) (rest := []) (lenOf pd__J_V rfl) rfl (by show 2 * 0 + _ ≤ _; exact Nat.le_of_eq rfl) (hb hby at_109) (fun _ _ => ⟨rfl, rfl, (by decide : 6 + 0 ≤ _), (by decide : 21897 + 0 ≤ _)⟩)
      dsimp only [Pt.U, Pt.locs, Pt.cells, Pt.slots] at X26 l26 y26 z26 st26 hQ26
      subst l26 y26 z26
      obtain ⟨rfl, Nq26, K26, Ge26, Gc26, Gt26, Gl26, Ga26⟩ := hQ26
      have Z26 := Nat.le_trans Z25 K26.1
      replace Gt26 : Fld Z T26.heap b22 "com/example/wary_commit/warycommit/LatencyHistogram" "total" "J" (.long (1 : Int64)) := Gt26
      rw [own_max0 hyy] at Gl26
      have N26 := Fr.app N25 Nq26
      refine go (fun tg kg => st26.trans kg) ?_
      show G (T26.setTop (mkF m 112 #[.val (.long x0), .second, .val (.long x1), .second, .val (.int x2), .val (.int x3), .val (.long xx), .second, .val (.long yy), .second, .val (.int (0 : Int32)), .val (.int (1 : Int32)), .val (.int pp), .val (.ref b20), .val (.ref b22), .val (.ref b24), .unset, .unset] []))
      refine go (fun tg kg => XS.aload X26.here hx rfl (hb hby at_112) rfl rfl kg) ?_
      show G (T26.setTop (mkF m 114 #[.val (.long x0), .second, .val (.long x1), .second, .val (.int x2), .val (.int x3), .val (.long xx), .second, .val (.long yy), .second, .val (.int (0 : Int32)), .val (.int (1 : Int32)), .val (.int pp), .val (.ref b20), .val (.ref b22), .val (.ref b24), .unset, .unset] [(.ref b24)]))
      refine go (fun tg kg => XS.lload X26.here hx rfl (hb hby at_114) rfl kg) ?_
      show G (T26.setTop (mkF m 116 #[.val (.long x0), .second, .val (.long x1), .second, .val (.int x2), .val (.int x3), .val (.long xx), .second, .val (.long yy), .second, .val (.int (0 : Int32)), .val (.int (1 : Int32)), .val (.int pp), .val (.ref b20), .val (.ref b22), .val (.ref b24), .unset, .unset] [(.long yy), (.ref b24)]))
      have Fa33 := (Ge25.keep K26)
      have Fa34 := (Gc25.keep K26 (ninS (Ne.symm (Nat.ne_of_lt (Nat.lt_of_lt_of_le Gl23.lt (Nat.le_of_eq g24.symm)))) (ninS (Ne.symm (Nat.ne_of_lt (Nat.lt_of_lt_of_le Ga23.lt (Nat.le_of_eq g24.symm)))) nin0)))
      have Fa35 := (Gt25.keep K26 (ninS (Ne.symm (Nat.ne_of_lt (Nat.lt_of_lt_of_le Gl23.lt (Nat.le_of_eq g24.symm)))) (ninS (Ne.symm (Nat.ne_of_lt (Nat.lt_of_lt_of_le Ga23.lt (Nat.le_of_eq g24.symm)))) nin0)))
      have Fa36 := (Gl25.keep K26 (ninS (Ne.symm (Nat.ne_of_lt (Nat.lt_of_lt_of_le Gl23.lt (Nat.le_of_eq g24.symm)))) (ninS (Ne.symm (Nat.ne_of_lt (Nat.lt_of_lt_of_le Ga23.lt (Nat.le_of_eq g24.symm)))) nin0)))
      have Fa37 := (Ga25.keep K26 (ninS (Ne.symm (Nat.ne_of_lt (Nat.lt_of_lt_of_le (Gl23.ext E24).lt sz25))) (ninS (Ne.symm (Nat.ne_of_lt (Nat.lt_of_lt_of_le (Ga23.ext E24).lt sz25))) nin0)))
      obtain ⟨cq32, kq32, q32a, q32b, q32c⟩ := isOf hZ rfl Fa33
      obtain ⟨_, _, ⟨T32, L32, k32, n32⟩, -, X32, ⟨Lc32, hQ32, l32, y32, z32⟩, st32⟩ := X26.virtualBack hx (y := (⟨"com/example/wary_commit/warycommit/LatencyHistogram", "record", "(J)V"⟩ : MethodName)) (z := (⟨"com/example/wary_commit/warycommit/LatencyHistogram", "record", "(J)V"⟩ : MethodName)) hown (mvT hZ (hw _ (List.mem_of_getElem? (i := 32) rfl))) (mvT hZ (hw _ (List.mem_of_getElem? (i := 33) rfl))) (notFace_of_selects (args := #[]) (mvT hZ (hw _ (List.mem_of_getElem? (i := 35) rfl)))) (mvT hZ (hw _ (List.mem_of_getElem? (i := 35) rfl))) (mvT hZ (hw _ (List.mem_of_getElem? (i := 34) rfl))) (by decide) (backOf (W := 0) (rm6 l Z a0 hw [] b24 yy ca25 own_z (0 : Int64) (0 : Int64) T26.heap n0 Z26 Fa33 ge_b24 ge_ca25 Fa34 Fa35 Fa36 Fa37 (Nat.ne_of_lt (Nat.lt_of_lt_of_le F24_longest.lt sz25)) hyy) hZ (hw _ (List.mem_of_getElem? (i := 36) rfl)) (hw _ (List.mem_of_getElem? (i := 4) rfl)) (by decide) (by decide)) q32a q32c (g := (mkF m 116 #[.val (.long x0), .second, .val (.long x1), .second, .val (.int x2), .val (.int x3), .val (.long xx), .second, .val (.long yy), .second, .val (.int (0 : Int32)), .val (.int (1 : Int32)), .val (.int pp), .val (.ref b20), .val (.ref b22), .val (.ref b24), .unset, .unset] [(.long yy), (.ref b24)])) rfl (by rw [hml]; rfl) (Steps.refl _) (argsL := [(.long yy)]) (rest := []) (lenOf pd__J_V rfl) rfl (by show 2 * 0 + _ ≤ _; exact Nat.le_of_eq rfl) (hb hby at_116) (fun _ _ => ⟨rfl, rfl, (by decide : 6 + 0 ≤ _), (by decide : 21897 + 0 ≤ _)⟩)
      dsimp only [Pt.U, Pt.locs, Pt.cells, Pt.slots] at X32 l32 y32 z32 st32 hQ32
      subst l32 y32 z32
      obtain ⟨rfl, Nq32, K32, Ge32, Gc32, Gt32, Gl32, Ga32⟩ := hQ32
      have Z32 := Nat.le_trans Z26 K32.1
      replace Gt32 : Fld Z T32.heap b24 "com/example/wary_commit/warycommit/LatencyHistogram" "total" "J" (.long (1 : Int64)) := Gt32
      rw [own_max0 hyy] at Gl32
      have N32 := Fr.app N26 Nq32
      refine go (fun tg kg => st32.trans kg) ?_
      show G (T32.setTop (mkF m 119 #[.val (.long x0), .second, .val (.long x1), .second, .val (.int x2), .val (.int x3), .val (.long xx), .second, .val (.long yy), .second, .val (.int (0 : Int32)), .val (.int (1 : Int32)), .val (.int pp), .val (.ref b20), .val (.ref b22), .val (.ref b24), .unset, .unset] []))
      refine go (fun tg kg => XS.aload X32.here hx rfl (hb hby at_119) rfl rfl kg) ?_
      show G (T32.setTop (mkF m 121 #[.val (.long x0), .second, .val (.long x1), .second, .val (.int x2), .val (.int x3), .val (.long xx), .second, .val (.long yy), .second, .val (.int (0 : Int32)), .val (.int (1 : Int32)), .val (.int pp), .val (.ref b20), .val (.ref b22), .val (.ref b24), .unset, .unset] [(.ref b20)]))
      refine go (fun tg kg => XS.aload X32.here hx rfl (hb hby at_121) rfl rfl kg) ?_
      show G (T32.setTop (mkF m 123 #[.val (.long x0), .second, .val (.long x1), .second, .val (.int x2), .val (.int x3), .val (.long xx), .second, .val (.long yy), .second, .val (.int (0 : Int32)), .val (.int (1 : Int32)), .val (.int pp), .val (.ref b20), .val (.ref b22), .val (.ref b24), .unset, .unset] [(.ref b22), (.ref b20)]))
      have Fa39 := ((((((Ge21.ext E22).keep K23).ext E24).keep K25).keep K26).keep K32)
      have Fa40 := ((((((Gc21.ext E22).keep K23 (ninS (Nat.ne_of_lt (Nat.lt_of_lt_of_le Gc21.lt (Nat.le_of_eq g22.symm))) nin0)).ext E24).keep K25 (ninS (Nat.ne_of_lt (Nat.lt_of_lt_of_le ((Gc21.ext E22).keep K23 (ninS (Nat.ne_of_lt (Nat.lt_of_lt_of_le Gc21.lt (Nat.le_of_eq g22.symm))) nin0)).lt (Nat.le_of_eq g24.symm))) nin0)).keep K26 (ninS (Nat.ne_of_lt (Nat.lt_of_lt_of_le Gc21.lt (Nat.le_of_eq g22.symm))) (ninS (Nat.ne_of_lt (Nat.lt_of_lt_of_le (Gc21.ext E22).lt sz23)) nin0))).keep K32 (ninS (Nat.ne_of_lt (Nat.lt_of_lt_of_le ((Gc21.ext E22).keep K23 (ninS (Nat.ne_of_lt (Nat.lt_of_lt_of_le Gc21.lt (Nat.le_of_eq g22.symm))) nin0)).lt (Nat.le_of_eq g24.symm))) (ninS (Nat.ne_of_lt (Nat.lt_of_lt_of_le (((Gc21.ext E22).keep K23 (ninS (Nat.ne_of_lt (Nat.lt_of_lt_of_le Gc21.lt (Nat.le_of_eq g22.symm))) nin0)).ext E24).lt sz25)) nin0)))
      have Fa41 := ((((((Gt21.ext E22).keep K23 (ninS (Nat.ne_of_lt (Nat.lt_of_lt_of_le Gt21.lt (Nat.le_of_eq g22.symm))) nin0)).ext E24).keep K25 (ninS (Nat.ne_of_lt (Nat.lt_of_lt_of_le ((Gt21.ext E22).keep K23 (ninS (Nat.ne_of_lt (Nat.lt_of_lt_of_le Gt21.lt (Nat.le_of_eq g22.symm))) nin0)).lt (Nat.le_of_eq g24.symm))) nin0)).keep K26 (ninS (Nat.ne_of_lt (Nat.lt_of_lt_of_le Gt21.lt (Nat.le_of_eq g22.symm))) (ninS (Nat.ne_of_lt (Nat.lt_of_lt_of_le (Gt21.ext E22).lt sz23)) nin0))).keep K32 (ninS (Nat.ne_of_lt (Nat.lt_of_lt_of_le ((Gt21.ext E22).keep K23 (ninS (Nat.ne_of_lt (Nat.lt_of_lt_of_le Gt21.lt (Nat.le_of_eq g22.symm))) nin0)).lt (Nat.le_of_eq g24.symm))) (ninS (Nat.ne_of_lt (Nat.lt_of_lt_of_le (((Gt21.ext E22).keep K23 (ninS (Nat.ne_of_lt (Nat.lt_of_lt_of_le Gt21.lt (Nat.le_of_eq g22.symm))) nin0)).ext E24).lt sz25)) nin0)))
      have Fa42 := ((((((Gl21.ext E22).keep K23 (ninS (Nat.ne_of_lt (Nat.lt_of_lt_of_le Gl21.lt (Nat.le_of_eq g22.symm))) nin0)).ext E24).keep K25 (ninS (Nat.ne_of_lt (Nat.lt_of_lt_of_le ((Gl21.ext E22).keep K23 (ninS (Nat.ne_of_lt (Nat.lt_of_lt_of_le Gl21.lt (Nat.le_of_eq g22.symm))) nin0)).lt (Nat.le_of_eq g24.symm))) nin0)).keep K26 (ninS (Nat.ne_of_lt (Nat.lt_of_lt_of_le Gl21.lt (Nat.le_of_eq g22.symm))) (ninS (Nat.ne_of_lt (Nat.lt_of_lt_of_le (Gl21.ext E22).lt sz23)) nin0))).keep K32 (ninS (Nat.ne_of_lt (Nat.lt_of_lt_of_le ((Gl21.ext E22).keep K23 (ninS (Nat.ne_of_lt (Nat.lt_of_lt_of_le Gl21.lt (Nat.le_of_eq g22.symm))) nin0)).lt (Nat.le_of_eq g24.symm))) (ninS (Nat.ne_of_lt (Nat.lt_of_lt_of_le (((Gl21.ext E22).keep K23 (ninS (Nat.ne_of_lt (Nat.lt_of_lt_of_le Gl21.lt (Nat.le_of_eq g22.symm))) nin0)).ext E24).lt sz25)) nin0)))
      have Fa43 := ((((((Ga21.ext E22).keep K23 (ninS (Nat.ne_of_lt (Nat.lt_of_lt_of_le Ga21.lt (Nat.le_of_eq g22.symm))) nin0)).ext E24).keep K25 (ninS (Nat.ne_of_lt (Nat.lt_of_lt_of_le ((Ga21.ext E22).keep K23 (ninS (Nat.ne_of_lt (Nat.lt_of_lt_of_le Ga21.lt (Nat.le_of_eq g22.symm))) nin0)).lt (Nat.le_of_eq g24.symm))) nin0)).keep K26 (ninS (Nat.ne_of_lt (Nat.lt_of_lt_of_le Ga21.lt (Nat.le_of_eq g22.symm))) (ninS (Nat.ne_of_lt (Nat.lt_of_lt_of_le (Ga21.ext E22).lt sz23)) nin0))).keep K32 (ninS (Nat.ne_of_lt (Nat.lt_of_lt_of_le ((Ga21.ext E22).keep K23 (ninS (Nat.ne_of_lt (Nat.lt_of_lt_of_le Ga21.lt (Nat.le_of_eq g22.symm))) nin0)).lt (Nat.le_of_eq g24.symm))) (ninS (Nat.ne_of_lt (Nat.lt_of_lt_of_le (((Ga21.ext E22).keep K23 (ninS (Nat.ne_of_lt (Nat.lt_of_lt_of_le Ga21.lt (Nat.le_of_eq g22.symm))) nin0)).ext E24).lt sz25)) nin0)))
      have Fa44 := (Gc26.keep K32 (ninS (Nat.ne_of_lt (Nat.lt_of_lt_of_le Gl23.lt (Nat.le_of_eq g24.symm))) (ninS (Nat.ne_of_lt (Nat.lt_of_lt_of_le (Gl23.ext E24).lt sz25)) nin0)))
      have Fa45 := (Gt26.keep K32 (ninS (Nat.ne_of_lt (Nat.lt_of_lt_of_le Gl23.lt (Nat.le_of_eq g24.symm))) (ninS (Nat.ne_of_lt (Nat.lt_of_lt_of_le (Gl23.ext E24).lt sz25)) nin0)))
      have Fa46 := (Gl26.keep K32 (ninS (Nat.ne_of_lt (Nat.lt_of_lt_of_le Gl23.lt (Nat.le_of_eq g24.symm))) (ninS (Nat.ne_of_lt (Nat.lt_of_lt_of_le (Gl23.ext E24).lt sz25)) nin0)))
      have Fa47 := (Ga26.keep K32 (ninS (Nat.ne_of_lt (Nat.lt_of_lt_of_le Ga23.lt (Nat.le_of_eq g24.symm))) (ninS (Nat.ne_of_lt (Nat.lt_of_lt_of_le (Ga23.ext E24).lt sz25)) nin0)))
      obtain ⟨cq38, kq38, q38a, q38b, q38c⟩ := isOf hZ rfl Fa39
      obtain ⟨_, _, ⟨T38, L38, k38, n38⟩, -, X38, ⟨Lc38, hQ38, l38, y38, z38⟩, st38⟩ := X32.virtualBack hx (y := (⟨"com/example/wary_commit/warycommit/LatencyHistogram", "add", "(Lcom/example/wary_commit/warycommit/LatencyHistogram;)V"⟩ : MethodName)) (z := (⟨"com/example/wary_commit/warycommit/LatencyHistogram", "add", "(Lcom/example/wary_commit/warycommit/LatencyHistogram;)V"⟩ : MethodName)) hown (mvT hZ (hw _ (List.mem_of_getElem? (i := 14) rfl))) (mvT hZ (hw _ (List.mem_of_getElem? (i := 15) rfl))) (notFace_of_selects (args := #[]) (mvT hZ (hw _ (List.mem_of_getElem? (i := 17) rfl)))) (mvT hZ (hw _ (List.mem_of_getElem? (i := 17) rfl))) (mvT hZ (hw _ (List.mem_of_getElem? (i := 16) rfl))) (by decide) (backOf (W := 0) (rm3 l Z a0 hw [] b20 b22 ca21 own_z (0 : Int64) (0 : Int64) ca23 (own_rec own_z yy) (1 : Int64) yy T32.heap n0 Z32 Fa39 ge_b20 ge_ca21 Fa40 Fa41 Fa42 Fa43 (Nat.ne_of_lt (Nat.lt_of_lt_of_le F20_longest.lt sz21)) Fa44 Fa45 Fa46 Fa47 (Ne.symm (Nat.ne_of_lt (Nat.lt_of_lt_of_le Ga21.lt (Nat.le_of_eq g22.symm)))) (Ne.symm (Nat.ne_of_lt (Nat.lt_of_lt_of_le (Ga21.ext E22).lt sz23))) (Ne.symm (Nat.ne_of_lt (Nat.lt_of_lt_of_le Gl21.lt (Nat.le_of_eq g22.symm))))) hZ (hw _ (List.mem_of_getElem? (i := 18) rfl)) (hw _ (List.mem_of_getElem? (i := 4) rfl)) (by decide) (by decide)) q38a q38c (g := (mkF m 123 #[.val (.long x0), .second, .val (.long x1), .second, .val (.int x2), .val (.int x3), .val (.long xx), .second, .val (.long yy), .second, .val (.int (0 : Int32)), .val (.int (1 : Int32)), .val (.int pp), .val (.ref b20), .val (.ref b22), .val (.ref b24), .unset, .unset] [(.ref b22), (.ref b20)])) rfl (by rw [hml]; rfl) (Steps.refl _) (argsL := [(.ref b22)]) (rest := []) (lenOf pd__Lcom_example_wary_commit_warycommit_LatencyHistogram__V rfl) rfl (by show 2 * 0 + _ ≤ _; exact Nat.le_of_eq rfl) (hb hby at_123) (fun _ _ => ⟨rfl, rfl, (by decide : 6 + 0 ≤ _), (by decide : 21897 + 0 ≤ _)⟩)
      dsimp only [Pt.U, Pt.locs, Pt.cells, Pt.slots] at X38 l38 y38 z38 st38 hQ38
      subst l38 y38 z38
      obtain ⟨rfl, Nq38, K38, Ge38, Gc38, Gt38, Gl38, Ga38⟩ := hQ38
      have Z38 := Nat.le_trans Z32 K38.1
      replace Gt38 : Fld Z T38.heap b20 "com/example/wary_commit/warycommit/LatencyHistogram" "total" "J" (.long (1 : Int64)) := Gt38
      rw [own_zadd] at Ga38
      rw [own_max0 hyy] at Gl38
      have N38 := Fr.app N32 Nq38
      refine go (fun tg kg => st38.trans kg) ?_
      show G (T38.setTop (mkF m 126 #[.val (.long x0), .second, .val (.long x1), .second, .val (.int x2), .val (.int x3), .val (.long xx), .second, .val (.long yy), .second, .val (.int (0 : Int32)), .val (.int (1 : Int32)), .val (.int pp), .val (.ref b20), .val (.ref b22), .val (.ref b24), .unset, .unset] []))
      refine go (fun tg kg => XS.lconst X38.here hx rfl (hb hby at_126) kg) ?_
      show G (T38.setTop (mkF m 127 #[.val (.long x0), .second, .val (.long x1), .second, .val (.int x2), .val (.int x3), .val (.long xx), .second, .val (.long yy), .second, .val (.int (0 : Int32)), .val (.int (1 : Int32)), .val (.int pp), .val (.ref b20), .val (.ref b22), .val (.ref b24), .unset, .unset] [(.long (0 : Int64))]))
      refine go (fun tg kg => XS.lstore X38.here hx rfl (hb hby at_127) rfl (l' := #[.val (.long x0), .second, .val (.long x1), .second, .val (.int x2), .val (.int x3), .val (.long xx), .second, .val (.long yy), .second, .val (.int (0 : Int32)), .val (.int (1 : Int32)), .val (.int pp), .val (.ref b20), .val (.ref b22), .val (.ref b24), .val (.long (0 : Int64)), .second]) rfl kg) ?_
      show G (T38.setTop (mkF m 129 #[.val (.long x0), .second, .val (.long x1), .second, .val (.int x2), .val (.int x3), .val (.long xx), .second, .val (.long yy), .second, .val (.int (0 : Int32)), .val (.int (1 : Int32)), .val (.int pp), .val (.ref b20), .val (.ref b22), .val (.ref b24), .val (.long (0 : Int64)), .second] []))
      refine go (fun tg kg => XS.iload X38.here hx rfl (hb hby at_129) rfl kg) ?_
      show G (T38.setTop (mkF m 131 #[.val (.long x0), .second, .val (.long x1), .second, .val (.int x2), .val (.int x3), .val (.long xx), .second, .val (.long yy), .second, .val (.int (0 : Int32)), .val (.int (1 : Int32)), .val (.int pp), .val (.ref b20), .val (.ref b22), .val (.ref b24), .val (.long (0 : Int64)), .second] [(.int (0 : Int32))]))
      refine go (fun tg kg => XS.ifYes X38.here hx rfl (pc0 := 131) (pc' := 138) rfl (hb hby at_131) rfl ((if0 _ _).trans (teq (by decide)).1) (by decide) (by decide) kg) ?_
      show G (T38.setTop (mkF m 138 #[.val (.long x0), .second, .val (.long x1), .second, .val (.int x2), .val (.int x3), .val (.long xx), .second, .val (.long yy), .second, .val (.int (0 : Int32)), .val (.int (1 : Int32)), .val (.int pp), .val (.ref b20), .val (.ref b22), .val (.ref b24), .val (.long (0 : Int64)), .second] []))
      refine go (fun tg kg => XS.iload X38.here hx rfl (hb hby at_138) rfl kg) ?_
      show G (T38.setTop (mkF m 140 #[.val (.long x0), .second, .val (.long x1), .second, .val (.int x2), .val (.int x3), .val (.long xx), .second, .val (.long yy), .second, .val (.int (0 : Int32)), .val (.int (1 : Int32)), .val (.int pp), .val (.ref b20), .val (.ref b22), .val (.ref b24), .val (.long (0 : Int64)), .second] [(.int (1 : Int32))]))
      refine go (fun tg kg => XS.ifNo X38.here hx rfl (hb hby at_140) rfl ((if0 _ _).trans (feq (by decide)).1) kg) ?_
      show G (T38.setTop (mkF m 143 #[.val (.long x0), .second, .val (.long x1), .second, .val (.int x2), .val (.int x3), .val (.long xx), .second, .val (.long yy), .second, .val (.int (0 : Int32)), .val (.int (1 : Int32)), .val (.int pp), .val (.ref b20), .val (.ref b22), .val (.ref b24), .val (.long (0 : Int64)), .second] []))
      refine go (fun tg kg => XS.lload X38.here hx rfl (hb hby at_143) rfl kg) ?_
      show G (T38.setTop (mkF m 145 #[.val (.long x0), .second, .val (.long x1), .second, .val (.int x2), .val (.int x3), .val (.long xx), .second, .val (.long yy), .second, .val (.int (0 : Int32)), .val (.int (1 : Int32)), .val (.int pp), .val (.ref b20), .val (.ref b22), .val (.ref b24), .val (.long (0 : Int64)), .second] [(.long (0 : Int64))]))
      refine go (fun tg kg => XS.lload X38.here hx rfl (hb hby at_145) rfl kg) ?_
      show G (T38.setTop (mkF m 147 #[.val (.long x0), .second, .val (.long x1), .second, .val (.int x2), .val (.int x3), .val (.long xx), .second, .val (.long yy), .second, .val (.int (0 : Int32)), .val (.int (1 : Int32)), .val (.int pp), .val (.ref b20), .val (.ref b22), .val (.ref b24), .val (.long (0 : Int64)), .second] [(.long yy), (.long (0 : Int64))]))
      obtain ⟨_, _, ⟨T48, L48, k48, n48⟩, -, X48, ⟨Lc48, hQ48, l48, y48, z48⟩, st48⟩ := Jvm.LawKit.callS X38 hx (y := (⟨"java/lang/Math", "max", "(JJ)J"⟩ : MethodName)) hown (mvT hZ (hw _ (List.mem_of_getElem? (i := 65) rfl))) (mvT hZ (hw _ (List.mem_of_getElem? (i := 24) rfl))) (mvT hZ (hw _ (List.mem_of_getElem? (i := 25) rfl))) (mvT hZ (hw _ (List.mem_of_getElem? (i := 26) rfl))) (by decide) (backOf (W := 0) (rm_maxL l Z a0 hw [] (0 : Int64) yy T38.heap n0 Z38 ) hZ (hw _ (List.mem_of_getElem? (i := 26) rfl)) (hw _ (List.mem_of_getElem? (i := 25) rfl)) (by decide) (by decide)) (g := (mkF m 147 #[.val (.long x0), .second, .val (.long x1), .second, .val (.int x2), .val (.int x3), .val (.long xx), .second, .val (.long yy), .second, .val (.int (0 : Int32)), .val (.int (1 : Int32)), .val (.int pp), .val (.ref b20), .val (.ref b22), .val (.ref b24), .val (.long (0 : Int64)), .second] [(.long yy), (.long (0 : Int64))])) rfl (by rw [hml]; rfl) (argsL := [(.long (0 : Int64)), (.long yy)]) (rest := []) (lenOf pd__JJ_J rfl) rfl (by show 2 * 0 + _ ≤ _; exact Nat.le_of_eq rfl) (hb hby at_147) (fun _ _ => ⟨rfl, rfl, (by decide : 6 + 0 ≤ _), (by decide : 21897 + 0 ≤ _)⟩)
      dsimp only [Pt.U, Pt.locs, Pt.cells, Pt.slots] at X48 l48 y48 z48 st48 hQ48
      subst l48 y48 z48
      obtain ⟨rfl, Nq48, e48⟩ := hQ48
      have N48 := Fr.app N38 Nq48
      refine go st48 ?_
      show G (T48.setTop (mkF m 150 #[.val (.long x0), .second, .val (.long x1), .second, .val (.int x2), .val (.int x3), .val (.long xx), .second, .val (.long yy), .second, .val (.int (0 : Int32)), .val (.int (1 : Int32)), .val (.int pp), .val (.ref b20), .val (.ref b22), .val (.ref b24), .val (.long (0 : Int64)), .second] [(.long (own_maxL (0 : Int64) yy))]))
      refine go (fun tg kg => XS.lstore X48.here hx rfl (hb hby at_150) rfl (l' := #[.val (.long x0), .second, .val (.long x1), .second, .val (.int x2), .val (.int x3), .val (.long xx), .second, .val (.long yy), .second, .val (.int (0 : Int32)), .val (.int (1 : Int32)), .val (.int pp), .val (.ref b20), .val (.ref b22), .val (.ref b24), .val (.long (own_maxL (0 : Int64) yy)), .second]) rfl kg) ?_
      show G (T48.setTop (mkF m 152 #[.val (.long x0), .second, .val (.long x1), .second, .val (.int x2), .val (.int x3), .val (.long xx), .second, .val (.long yy), .second, .val (.int (0 : Int32)), .val (.int (1 : Int32)), .val (.int pp), .val (.ref b20), .val (.ref b22), .val (.ref b24), .val (.long (own_maxL (0 : Int64) yy)), .second] []))
      refine go (fun tg kg => XS.aload X48.here hx rfl (hb hby at_152) rfl rfl kg) ?_
      show G (T48.setTop (mkF m 154 #[.val (.long x0), .second, .val (.long x1), .second, .val (.int x2), .val (.int x3), .val (.long xx), .second, .val (.long yy), .second, .val (.int (0 : Int32)), .val (.int (1 : Int32)), .val (.int pp), .val (.ref b20), .val (.ref b22), .val (.ref b24), .val (.long (own_maxL (0 : Int64) yy)), .second] [(.ref b20)]))
      obtain ⟨cq49, kq49, q49a, q49b, q49c⟩ := isOf hZ e48 Ge38
      obtain ⟨_, _, ⟨T49, L49, k49, n49⟩, -, X49, ⟨Lc49, hQ49, l49, y49, z49⟩, st49⟩ := X48.virtualBack hx (y := (⟨"com/example/wary_commit/warycommit/LatencyHistogram", "longest", "()J"⟩ : MethodName)) (z := (⟨"com/example/wary_commit/warycommit/LatencyHistogram", "longest", "()J"⟩ : MethodName)) hown (mvT hZ (hw _ (List.mem_of_getElem? (i := 27) rfl))) (mvT hZ (hw _ (List.mem_of_getElem? (i := 28) rfl))) (notFace_of_selects (args := #[]) (mvT hZ (hw _ (List.mem_of_getElem? (i := 30) rfl)))) (mvT hZ (hw _ (List.mem_of_getElem? (i := 30) rfl))) (mvT hZ (hw _ (List.mem_of_getElem? (i := 29) rfl))) (by decide) (backOf (W := 0) (rm5 l Z a0 hw [] b20 yy T38.heap n0 Z38 Gl38) hZ (hw _ (List.mem_of_getElem? (i := 31) rfl)) (hw _ (List.mem_of_getElem? (i := 4) rfl)) (by decide) (by decide)) q49a q49c (g := (mkF m 154 #[.val (.long x0), .second, .val (.long x1), .second, .val (.int x2), .val (.int x3), .val (.long xx), .second, .val (.long yy), .second, .val (.int (0 : Int32)), .val (.int (1 : Int32)), .val (.int pp), .val (.ref b20), .val (.ref b22), .val (.ref b24), .val (.long (own_maxL (0 : Int64) yy)), .second] [(.ref b20)])) rfl (by rw [hml]; rfl) (Steps.refl _) (argsL := []) (rest := []) (lenOf pd___J rfl) rfl (by show 2 * 0 + _ ≤ _; exact Nat.le_of_eq rfl) (hb hby at_154) (fun _ _ => ⟨rfl, e48, (by decide : 6 + 0 ≤ _), (by decide : 21897 + 0 ≤ _)⟩)
      dsimp only [Pt.U, Pt.locs, Pt.cells, Pt.slots] at X49 l49 y49 z49 st49 hQ49
      subst l49 y49 z49
      obtain ⟨rfl, Nq49, e49⟩ := hQ49
      have N49 := Fr.app N48 Nq49
      refine go (fun tg kg => st49.trans kg) ?_
      show G (T49.setTop (mkF m 157 #[.val (.long x0), .second, .val (.long x1), .second, .val (.int x2), .val (.int x3), .val (.long xx), .second, .val (.long yy), .second, .val (.int (0 : Int32)), .val (.int (1 : Int32)), .val (.int pp), .val (.ref b20), .val (.ref b22), .val (.ref b24), .val (.long (own_maxL (0 : Int64) yy)), .second] [(.long yy)]))
      refine go (fun tg kg => XS.lload X49.here hx rfl (hb hby at_157) rfl kg) ?_
      show G (T49.setTop (mkF m 159 #[.val (.long x0), .second, .val (.long x1), .second, .val (.int x2), .val (.int x3), .val (.long xx), .second, .val (.long yy), .second, .val (.int (0 : Int32)), .val (.int (1 : Int32)), .val (.int pp), .val (.ref b20), .val (.ref b22), .val (.ref b24), .val (.long (own_maxL (0 : Int64) yy)), .second] [(.long (own_maxL (0 : Int64) yy)), (.long yy)]))
      refine go (fun tg kg => XS.lcmp X49.here hx rfl (hb hby at_159) rfl kg) ?_
      show G (T49.setTop (mkF m 160 #[.val (.long x0), .second, .val (.long x1), .second, .val (.int x2), .val (.int x3), .val (.long xx), .second, .val (.long yy), .second, .val (.int (0 : Int32)), .val (.int (1 : Int32)), .val (.int pp), .val (.ref b20), .val (.ref b22), .val (.ref b24), .val (.long (own_maxL (0 : Int64) yy)), .second] [(.int (lcmpW yy (own_maxL (0 : Int64) yy)))]))
      refine go (fun tg kg => XS.ifYes X49.here hx rfl (pc0 := 160) (pc' := 165) rfl (hb hby at_160) rfl ((if0 _ _).trans (teq ((lw_eq yy (own_maxL (0 : Int64) yy)).mpr (own_max0 hyy).symm)).1) (by decide) (by decide) kg) ?_
      show G (T49.setTop (mkF m 165 #[.val (.long x0), .second, .val (.long x1), .second, .val (.int x2), .val (.int x3), .val (.long xx), .second, .val (.long yy), .second, .val (.int (0 : Int32)), .val (.int (1 : Int32)), .val (.int pp), .val (.ref b20), .val (.ref b22), .val (.ref b24), .val (.long (own_maxL (0 : Int64) yy)), .second] []))
      refine go (fun tg kg => XS.iload X49.here hx rfl (hb hby at_165) rfl kg) ?_
      show G (T49.setTop (mkF m 167 #[.val (.long x0), .second, .val (.long x1), .second, .val (.int x2), .val (.int x3), .val (.long xx), .second, .val (.long yy), .second, .val (.int (0 : Int32)), .val (.int (1 : Int32)), .val (.int pp), .val (.ref b20), .val (.ref b22), .val (.ref b24), .val (.long (own_maxL (0 : Int64) yy)), .second] [(.int (0 : Int32))]))
      refine go (fun tg kg => XS.ifNo X49.here hx rfl (hb hby at_167) rfl ((if0 _ _).trans (teq (by decide)).2) kg) ?_
      show G (T49.setTop (mkF m 170 #[.val (.long x0), .second, .val (.long x1), .second, .val (.int x2), .val (.int x3), .val (.long xx), .second, .val (.long yy), .second, .val (.int (0 : Int32)), .val (.int (1 : Int32)), .val (.int pp), .val (.ref b20), .val (.ref b22), .val (.ref b24), .val (.long (own_maxL (0 : Int64) yy)), .second] []))
      refine go (fun tg kg => XS.iload X49.here hx rfl (hb hby at_170) rfl kg) ?_
      show G (T49.setTop (mkF m 172 #[.val (.long x0), .second, .val (.long x1), .second, .val (.int x2), .val (.int x3), .val (.long xx), .second, .val (.long yy), .second, .val (.int (0 : Int32)), .val (.int (1 : Int32)), .val (.int pp), .val (.ref b20), .val (.ref b22), .val (.ref b24), .val (.long (own_maxL (0 : Int64) yy)), .second] [(.int (1 : Int32))]))
      refine go (fun tg kg => XS.ifYes X49.here hx rfl (pc0 := 172) (pc' := 177) rfl (hb hby at_172) rfl ((if0 _ _).trans (feq (by decide)).2) (by decide) (by decide) kg) ?_
      show G (T49.setTop (mkF m 177 #[.val (.long x0), .second, .val (.long x1), .second, .val (.int x2), .val (.int x3), .val (.long xx), .second, .val (.long yy), .second, .val (.int (0 : Int32)), .val (.int (1 : Int32)), .val (.int pp), .val (.ref b20), .val (.ref b22), .val (.ref b24), .val (.long (own_maxL (0 : Int64) yy)), .second] []))
      refine go (fun tg kg => XS.aload X49.here hx rfl (hb hby at_177) rfl rfl kg) ?_
      show G (T49.setTop (mkF m 179 #[.val (.long x0), .second, .val (.long x1), .second, .val (.int x2), .val (.int x3), .val (.long xx), .second, .val (.long yy), .second, .val (.int (0 : Int32)), .val (.int (1 : Int32)), .val (.int pp), .val (.ref b20), .val (.ref b22), .val (.ref b24), .val (.long (own_maxL (0 : Int64) yy)), .second] [(.ref b20)]))
      refine go (fun tg kg => XS.iload X49.here hx rfl (hb hby at_179) rfl kg) ?_
      show G (T49.setTop (mkF m 181 #[.val (.long x0), .second, .val (.long x1), .second, .val (.int x2), .val (.int x3), .val (.long xx), .second, .val (.long yy), .second, .val (.int (0 : Int32)), .val (.int (1 : Int32)), .val (.int pp), .val (.ref b20), .val (.ref b22), .val (.ref b24), .val (.long (own_maxL (0 : Int64) yy)), .second] [(.int pp), (.ref b20)]))
      obtain ⟨cq50, kq50, q50a, q50b, q50c⟩ := isOf hZ e49 Ge38
      obtain ⟨_, _, ⟨T50, L50, k50, n50⟩, -, X50, ⟨Lc50, hQ50, l50, y50, z50⟩, st50⟩ := X49.virtualBack hx (y := (⟨"com/example/wary_commit/warycommit/LatencyHistogram", "percentile", "(I)J"⟩ : MethodName)) (z := (⟨"com/example/wary_commit/warycommit/LatencyHistogram", "percentile", "(I)J"⟩ : MethodName)) hown (mvT hZ (hw _ (List.mem_of_getElem? (i := 52) rfl))) (mvT hZ (hw _ (List.mem_of_getElem? (i := 53) rfl))) (notFace_of_selects (args := #[]) (mvT hZ (hw _ (List.mem_of_getElem? (i := 55) rfl)))) (mvT hZ (hw _ (List.mem_of_getElem? (i := 55) rfl))) (mvT hZ (hw _ (List.mem_of_getElem? (i := 54) rfl))) (by decide) (backOf (W := 0) (rm11 l Z a0 hw [] b20 pp ca21 (own_rec own_z yy) (1 : Int64) yy 7295 T38.heap n0 Z38 Gc38 Gt38 Gl38 Ga38 hpc (by decide) (by decide) (own_stop1 hyy hpc)) hZ (hw _ (List.mem_of_getElem? (i := 56) rfl)) (hw _ (List.mem_of_getElem? (i := 4) rfl)) (by decide) (by decide)) q50a q50c (g := (mkF m 181 #[.val (.long x0), .second, .val (.long x1), .second, .val (.int x2), .val (.int x3), .val (.long xx), .second, .val (.long yy), .second, .val (.int (0 : Int32)), .val (.int (1 : Int32)), .val (.int pp), .val (.ref b20), .val (.ref b22), .val (.ref b24), .val (.long (own_maxL (0 : Int64) yy)), .second] [(.int pp), (.ref b20)])) rfl (by rw [hml]; rfl) (Steps.refl _) (argsL := [(.int pp)]) (rest := []) (lenOf pd__I_J rfl) rfl (by show 2 * 0 + _ ≤ _; exact Nat.le_of_eq rfl) (hb hby at_181) (fun _ _ => ⟨rfl, e49, (by decide : 6 + 0 ≤ _), (by decide : 21897 + 0 ≤ _)⟩)
      dsimp only [Pt.U, Pt.locs, Pt.cells, Pt.slots] at X50 l50 y50 z50 st50 hQ50
      subst l50 y50 z50
      obtain ⟨ip50, hi50, hj50, hn50, rfl, Nq50, e50⟩ := hQ50
      have N50 := Fr.app N49 Nq50
      refine go (fun tg kg => st50.trans kg) ?_
      show G (T50.setTop (mkF m 184 #[.val (.long x0), .second, .val (.long x1), .second, .val (.int x2), .val (.int x3), .val (.long xx), .second, .val (.long yy), .second, .val (.int (0 : Int32)), .val (.int (1 : Int32)), .val (.int pp), .val (.ref b20), .val (.ref b22), .val (.ref b24), .val (.long (own_maxL (0 : Int64) yy)), .second] [(.long (own_minL (own_high (Int32.ofNat ip50)) yy))]))
      refine go (fun tg kg => XS.aload X50.here hx rfl (hb hby at_184) rfl rfl kg) ?_
      show G (T50.setTop (mkF m 186 #[.val (.long x0), .second, .val (.long x1), .second, .val (.int x2), .val (.int x3), .val (.long xx), .second, .val (.long yy), .second, .val (.int (0 : Int32)), .val (.int (1 : Int32)), .val (.int pp), .val (.ref b20), .val (.ref b22), .val (.ref b24), .val (.long (own_maxL (0 : Int64) yy)), .second] [(.ref b24), (.long (own_minL (own_high (Int32.ofNat ip50)) yy))]))
      refine go (fun tg kg => XS.iload X50.here hx rfl (hb hby at_186) rfl kg) ?_
      show G (T50.setTop (mkF m 188 #[.val (.long x0), .second, .val (.long x1), .second, .val (.int x2), .val (.int x3), .val (.long xx), .second, .val (.long yy), .second, .val (.int (0 : Int32)), .val (.int (1 : Int32)), .val (.int pp), .val (.ref b20), .val (.ref b22), .val (.ref b24), .val (.long (own_maxL (0 : Int64) yy)), .second] [(.int pp), (.ref b24), (.long (own_minL (own_high (Int32.ofNat ip50)) yy))]))
      have Fa52 := (Gc32.keep K38 (ninS (Ne.symm (Nat.ne_of_lt (Nat.lt_of_lt_of_le ((Gl21.ext E22).keep K23 (ninS (Nat.ne_of_lt (Nat.lt_of_lt_of_le Gl21.lt (Nat.le_of_eq g22.symm))) nin0)).lt (Nat.le_of_eq g24.symm)))) (ninS (Ne.symm (Nat.ne_of_lt (Nat.lt_of_lt_of_le ((Ga21.ext E22).keep K23 (ninS (Nat.ne_of_lt (Nat.lt_of_lt_of_le Ga21.lt (Nat.le_of_eq g22.symm))) nin0)).lt (Nat.le_of_eq g24.symm)))) nin0)))
      have Fa53 := (Gt32.keep K38 (ninS (Ne.symm (Nat.ne_of_lt (Nat.lt_of_lt_of_le ((Gl21.ext E22).keep K23 (ninS (Nat.ne_of_lt (Nat.lt_of_lt_of_le Gl21.lt (Nat.le_of_eq g22.symm))) nin0)).lt (Nat.le_of_eq g24.symm)))) (ninS (Ne.symm (Nat.ne_of_lt (Nat.lt_of_lt_of_le ((Ga21.ext E22).keep K23 (ninS (Nat.ne_of_lt (Nat.lt_of_lt_of_le Ga21.lt (Nat.le_of_eq g22.symm))) nin0)).lt (Nat.le_of_eq g24.symm)))) nin0)))
      have Fa54 := (Gl32.keep K38 (ninS (Ne.symm (Nat.ne_of_lt (Nat.lt_of_lt_of_le ((Gl21.ext E22).keep K23 (ninS (Nat.ne_of_lt (Nat.lt_of_lt_of_le Gl21.lt (Nat.le_of_eq g22.symm))) nin0)).lt (Nat.le_of_eq g24.symm)))) (ninS (Ne.symm (Nat.ne_of_lt (Nat.lt_of_lt_of_le ((Ga21.ext E22).keep K23 (ninS (Nat.ne_of_lt (Nat.lt_of_lt_of_le Ga21.lt (Nat.le_of_eq g22.symm))) nin0)).lt (Nat.le_of_eq g24.symm)))) nin0)))
      have Fa55 := (Ga32.keep K38 (ninS (Ne.symm (Nat.ne_of_lt (Nat.lt_of_lt_of_le (((Gl21.ext E22).keep K23 (ninS (Nat.ne_of_lt (Nat.lt_of_lt_of_le Gl21.lt (Nat.le_of_eq g22.symm))) nin0)).ext E24).lt sz25))) (ninS (Ne.symm (Nat.ne_of_lt (Nat.lt_of_lt_of_le (((Ga21.ext E22).keep K23 (ninS (Nat.ne_of_lt (Nat.lt_of_lt_of_le Ga21.lt (Nat.le_of_eq g22.symm))) nin0)).ext E24).lt sz25))) nin0)))
      have Fa56 := (Ge32.keep K38)
      obtain ⟨cq51, kq51, q51a, q51b, q51c⟩ := isOf hZ e50 Fa56
      obtain ⟨_, _, ⟨T51, L51, k51, n51⟩, -, X51, ⟨Lc51, hQ51, l51, y51, z51⟩, st51⟩ := X50.virtualBack hx (y := (⟨"com/example/wary_commit/warycommit/LatencyHistogram", "percentile", "(I)J"⟩ : MethodName)) (z := (⟨"com/example/wary_commit/warycommit/LatencyHistogram", "percentile", "(I)J"⟩ : MethodName)) hown (mvT hZ (hw _ (List.mem_of_getElem? (i := 52) rfl))) (mvT hZ (hw _ (List.mem_of_getElem? (i := 53) rfl))) (notFace_of_selects (args := #[]) (mvT hZ (hw _ (List.mem_of_getElem? (i := 55) rfl)))) (mvT hZ (hw _ (List.mem_of_getElem? (i := 55) rfl))) (mvT hZ (hw _ (List.mem_of_getElem? (i := 54) rfl))) (by decide) (backOf (W := 2) (rm11 l Z a0 hw [] b24 pp ca25 (own_rec own_z yy) (1 : Int64) yy 7295 T38.heap n0 Z38 Fa52 Fa53 Fa54 Fa55 hpc (by decide) (by decide) (own_stop1 hyy hpc)) hZ (hw _ (List.mem_of_getElem? (i := 56) rfl)) (hw _ (List.mem_of_getElem? (i := 4) rfl)) (by decide) (by decide)) q51a q51c (g := (mkF m 188 #[.val (.long x0), .second, .val (.long x1), .second, .val (.int x2), .val (.int x3), .val (.long xx), .second, .val (.long yy), .second, .val (.int (0 : Int32)), .val (.int (1 : Int32)), .val (.int pp), .val (.ref b20), .val (.ref b22), .val (.ref b24), .val (.long (own_maxL (0 : Int64) yy)), .second] [(.int pp), (.ref b24), (.long (own_minL (own_high (Int32.ofNat ip50)) yy))])) rfl (by rw [hml]; rfl) (Steps.refl _) (argsL := [(.int pp)]) (rest := [(.long (own_minL (own_high (Int32.ofNat ip50)) yy))]) (lenOf pd__I_J rfl) rfl (by show 2 * 0 + _ ≤ _; exact Nat.le_of_eq rfl) (hb hby at_188) (fun _ _ => ⟨rfl, e50, (by decide : 6 + 0 ≤ _), (by decide : 21897 + 0 ≤ _)⟩)
      dsimp only [Pt.U, Pt.locs, Pt.cells, Pt.slots] at X51 l51 y51 z51 st51 hQ51
      subst l51 y51 z51
      obtain ⟨ip51, hi51, hj51, hn51, rfl, Nq51, e51⟩ := hQ51
      have N51 := Fr.app N50 Nq51
      refine go (fun tg kg => st51.trans kg) ?_
      show G (T51.setTop (mkF m 191 #[.val (.long x0), .second, .val (.long x1), .second, .val (.int x2), .val (.int x3), .val (.long xx), .second, .val (.long yy), .second, .val (.int (0 : Int32)), .val (.int (1 : Int32)), .val (.int pp), .val (.ref b20), .val (.ref b22), .val (.ref b24), .val (.long (own_maxL (0 : Int64) yy)), .second] [(.long (own_minL (own_high (Int32.ofNat ip51)) yy)), (.long (own_minL (own_high (Int32.ofNat ip50)) yy))]))
      refine go (fun tg kg => XS.lcmp X51.here hx rfl (hb hby at_191) rfl kg) ?_
      show G (T51.setTop (mkF m 192 #[.val (.long x0), .second, .val (.long x1), .second, .val (.int x2), .val (.int x3), .val (.long xx), .second, .val (.long yy), .second, .val (.int (0 : Int32)), .val (.int (1 : Int32)), .val (.int pp), .val (.ref b20), .val (.ref b22), .val (.ref b24), .val (.long (own_maxL (0 : Int64) yy)), .second] [(.int (lcmpW (own_minL (own_high (Int32.ofNat ip50)) yy) (own_minL (own_high (Int32.ofNat ip51)) yy)))]))
      refine go (fun tg kg => XS.ifNo X51.here hx rfl (hb hby at_192) rfl ((if0 _ _).trans (teq ((lw_eq (own_minL (own_high (Int32.ofNat ip50)) yy) (own_minL (own_high (Int32.ofNat ip51)) yy)).mpr (by rw [own_uniq hj50 hn50 hj51 hn51]))).2) kg) ?_
      show G (T51.setTop (mkF m 195 #[.val (.long x0), .second, .val (.long x1), .second, .val (.int x2), .val (.int x3), .val (.long xx), .second, .val (.long yy), .second, .val (.int (0 : Int32)), .val (.int (1 : Int32)), .val (.int pp), .val (.ref b20), .val (.ref b22), .val (.ref b24), .val (.long (own_maxL (0 : Int64) yy)), .second] []))
      refine go (fun tg kg => XS.iconst X51.here hx rfl (hb hby at_195) kg) ?_
      show G (T51.setTop (mkF m 196 #[.val (.long x0), .second, .val (.long x1), .second, .val (.int x2), .val (.int x3), .val (.long xx), .second, .val (.long yy), .second, .val (.int (0 : Int32)), .val (.int (1 : Int32)), .val (.int pp), .val (.ref b20), .val (.ref b22), .val (.ref b24), .val (.long (own_maxL (0 : Int64) yy)), .second] [(.int (1 : Int32))]))
      refine go (fun tg kg => XS.goto X51.here hx rfl (pc0 := 196) (pc' := 200) rfl (hb hby at_196) (by decide) (by decide) kg) ?_
      show G (T51.setTop (mkF m 200 #[.val (.long x0), .second, .val (.long x1), .second, .val (.int x2), .val (.int x3), .val (.long xx), .second, .val (.long yy), .second, .val (.int (0 : Int32)), .val (.int (1 : Int32)), .val (.int pp), .val (.ref b20), .val (.ref b22), .val (.ref b24), .val (.long (own_maxL (0 : Int64) yy)), .second] [(.int (1 : Int32))]))
      refine fin (some (.int (1 : Int32))) X51 (fun h => absurd h (by decide)) (fun fs hr => retN X51 hx (t := .boolean) hret (by simp) (hb hby at_200) hr) (by decide) (by decide) ?_
      rw [e51]
      exact ⟨rfl, N51⟩
  · refine go (fun tg kg => XS.ifNo X0.here hx rfl (hb hby at_18) rfl ((if0 _ _).trans (feq hc1).1) kg) ?_
    show G (s₁.setTop (mkF m 21 #[.val (.long x0), .second, .val (.long x1), .second, .val (.int x2), .val (.int x3), .val (.long xx), .second, .val (.long yy), .second, .unset, .unset, .unset, .unset, .unset, .unset, .unset, .unset] []))
    refine go (fun tg kg => XS.iconst X0.here hx rfl (hb hby at_21) kg) ?_
    show G (s₁.setTop (mkF m 22 #[.val (.long x0), .second, .val (.long x1), .second, .val (.int x2), .val (.int x3), .val (.long xx), .second, .val (.long yy), .second, .unset, .unset, .unset, .unset, .unset, .unset, .unset, .unset] [(.int (1 : Int32))]))
    refine go (fun tg kg => XS.goto X0.here hx rfl (pc0 := 22) (pc' := 26) rfl (hb hby at_22) (by decide) (by decide) kg) ?_
    show G (s₁.setTop (mkF m 26 #[.val (.long x0), .second, .val (.long x1), .second, .val (.int x2), .val (.int x3), .val (.long xx), .second, .val (.long yy), .second, .unset, .unset, .unset, .unset, .unset, .unset, .unset, .unset] [(.int (1 : Int32))]))
    refine go (fun tg kg => XS.istore X0.here hx rfl (hb hby at_26) rfl (l' := #[.val (.long x0), .second, .val (.long x1), .second, .val (.int x2), .val (.int x3), .val (.long xx), .second, .val (.long yy), .second, .val (.int (1 : Int32)), .unset, .unset, .unset, .unset, .unset, .unset, .unset]) rfl kg) ?_
    show G (s₁.setTop (mkF m 28 #[.val (.long x0), .second, .val (.long x1), .second, .val (.int x2), .val (.int x3), .val (.long xx), .second, .val (.long yy), .second, .val (.int (1 : Int32)), .unset, .unset, .unset, .unset, .unset, .unset, .unset] []))
    refine go (fun tg kg => XS.iload X0.here hx rfl (hb hby at_28) rfl kg) ?_
    show G (s₁.setTop (mkF m 30 #[.val (.long x0), .second, .val (.long x1), .second, .val (.int x2), .val (.int x3), .val (.long xx), .second, .val (.long yy), .second, .val (.int (1 : Int32)), .unset, .unset, .unset, .unset, .unset, .unset, .unset] [(.int x2)]))
    refine go (fun tg kg => XS.iconst X0.here hx rfl (hb hby at_30) kg) ?_
    show G (s₁.setTop (mkF m 31 #[.val (.long x0), .second, .val (.long x1), .second, .val (.int x2), .val (.int x3), .val (.long xx), .second, .val (.long yy), .second, .val (.int (1 : Int32)), .unset, .unset, .unset, .unset, .unset, .unset, .unset] [(.int (2 : Int32)), (.int x2)]))
    refine go (fun tg kg => XS.iand X0.here hx rfl (hb hby at_31) rfl kg) ?_
    show G (s₁.setTop (mkF m 32 #[.val (.long x0), .second, .val (.long x1), .second, .val (.int x2), .val (.int x3), .val (.long xx), .second, .val (.long yy), .second, .val (.int (1 : Int32)), .unset, .unset, .unset, .unset, .unset, .unset, .unset] [(.int (x2 &&& (2 : Int32)))]))
    by_cases hc57 : (x2 &&& (2 : Int32)) = (0 : Int32)
    · refine go (fun tg kg => XS.ifYes X0.here hx rfl (pc0 := 32) (pc' := 39) rfl (hb hby at_32) rfl ((if0 _ _).trans (teq hc57).1) (by decide) (by decide) kg) ?_
      show G (s₁.setTop (mkF m 39 #[.val (.long x0), .second, .val (.long x1), .second, .val (.int x2), .val (.int x3), .val (.long xx), .second, .val (.long yy), .second, .val (.int (1 : Int32)), .unset, .unset, .unset, .unset, .unset, .unset, .unset] []))
      refine go (fun tg kg => XS.iconst X0.here hx rfl (hb hby at_39) kg) ?_
      show G (s₁.setTop (mkF m 40 #[.val (.long x0), .second, .val (.long x1), .second, .val (.int x2), .val (.int x3), .val (.long xx), .second, .val (.long yy), .second, .val (.int (1 : Int32)), .unset, .unset, .unset, .unset, .unset, .unset, .unset] [(.int (0 : Int32))]))
      refine go (fun tg kg => XS.istore X0.here hx rfl (hb hby at_40) rfl (l' := #[.val (.long x0), .second, .val (.long x1), .second, .val (.int x2), .val (.int x3), .val (.long xx), .second, .val (.long yy), .second, .val (.int (1 : Int32)), .val (.int (0 : Int32)), .unset, .unset, .unset, .unset, .unset, .unset]) rfl kg) ?_
      show G (s₁.setTop (mkF m 42 #[.val (.long x0), .second, .val (.long x1), .second, .val (.int x2), .val (.int x3), .val (.long xx), .second, .val (.long yy), .second, .val (.int (1 : Int32)), .val (.int (0 : Int32)), .unset, .unset, .unset, .unset, .unset, .unset] []))
      refine go (fun tg kg => XS.iload X0.here hx rfl (hb hby at_42) rfl kg) ?_
      show G (s₁.setTop (mkF m 44 #[.val (.long x0), .second, .val (.long x1), .second, .val (.int x2), .val (.int x3), .val (.long xx), .second, .val (.long yy), .second, .val (.int (1 : Int32)), .val (.int (0 : Int32)), .unset, .unset, .unset, .unset, .unset, .unset] [(.int x3)]))
      refine go (fun tg kg => X0.ldcInt hx hown (mvT hZ (hw _ (List.mem_of_getElem? (i := 1) rfl))) (g := (mkF m 44 #[.val (.long x0), .second, .val (.long x1), .second, .val (.int x2), .val (.int x3), .val (.long xx), .second, .val (.long yy), .second, .val (.int (1 : Int32)), .val (.int (0 : Int32)), .unset, .unset, .unset, .unset, .unset, .unset] [(.int x3)])) rfl (hb hby at_44) _ kg) ?_
      show G (s₁.setTop (mkF m 46 #[.val (.long x0), .second, .val (.long x1), .second, .val (.int x2), .val (.int x3), .val (.long xx), .second, .val (.long yy), .second, .val (.int (1 : Int32)), .val (.int (0 : Int32)), .unset, .unset, .unset, .unset, .unset, .unset] [(.int (2147483647 : Int32)), (.int x3)]))
      refine go (fun tg kg => XS.iand X0.here hx rfl (hb hby at_46) rfl kg) ?_
      show G (s₁.setTop (mkF m 47 #[.val (.long x0), .second, .val (.long x1), .second, .val (.int x2), .val (.int x3), .val (.long xx), .second, .val (.long yy), .second, .val (.int (1 : Int32)), .val (.int (0 : Int32)), .unset, .unset, .unset, .unset, .unset, .unset] [(.int (x3 &&& (2147483647 : Int32)))]))
      refine go (fun tg kg => XS.bipush X0.here hx rfl (hb hby at_47) kg) ?_
      show G (s₁.setTop (mkF m 49 #[.val (.long x0), .second, .val (.long x1), .second, .val (.int x2), .val (.int x3), .val (.long xx), .second, .val (.long yy), .second, .val (.int (1 : Int32)), .val (.int (0 : Int32)), .unset, .unset, .unset, .unset, .unset, .unset] [(.int (100 : Int32)), (.int (x3 &&& (2147483647 : Int32)))]))
      refine go (fun tg kg => iremM X0 hx rfl (hb hby at_49) rfl (by decide) kg) ?_
      show G (s₁.setTop (mkF m 50 #[.val (.long x0), .second, .val (.long x1), .second, .val (.int x2), .val (.int x3), .val (.long xx), .second, .val (.long yy), .second, .val (.int (1 : Int32)), .val (.int (0 : Int32)), .unset, .unset, .unset, .unset, .unset, .unset] [(.int ((x3 &&& (2147483647 : Int32)) % (100 : Int32)))]))
      refine go (fun tg kg => XS.iconst X0.here hx rfl (hb hby at_50) kg) ?_
      show G (s₁.setTop (mkF m 51 #[.val (.long x0), .second, .val (.long x1), .second, .val (.int x2), .val (.int x3), .val (.long xx), .second, .val (.long yy), .second, .val (.int (1 : Int32)), .val (.int (0 : Int32)), .unset, .unset, .unset, .unset, .unset, .unset] [(.int (1 : Int32)), (.int ((x3 &&& (2147483647 : Int32)) % (100 : Int32)))]))
      refine go (fun tg kg => XS.iadd X0.here hx rfl (hb hby at_51) rfl kg) ?_
      show G (s₁.setTop (mkF m 52 #[.val (.long x0), .second, .val (.long x1), .second, .val (.int x2), .val (.int x3), .val (.long xx), .second, .val (.long yy), .second, .val (.int (1 : Int32)), .val (.int (0 : Int32)), .unset, .unset, .unset, .unset, .unset, .unset] [(.int (((x3 &&& (2147483647 : Int32)) % (100 : Int32)) + (1 : Int32)))]))
      refine go (fun tg kg => XS.istore X0.here hx rfl (hb hby at_52) rfl (l' := #[.val (.long x0), .second, .val (.long x1), .second, .val (.int x2), .val (.int x3), .val (.long xx), .second, .val (.long yy), .second, .val (.int (1 : Int32)), .val (.int (0 : Int32)), .val (.int (((x3 &&& (2147483647 : Int32)) % (100 : Int32)) + (1 : Int32))), .unset, .unset, .unset, .unset, .unset]) rfl kg) ?_
      show G (s₁.setTop (mkF m 54 #[.val (.long x0), .second, .val (.long x1), .second, .val (.int x2), .val (.int x3), .val (.long xx), .second, .val (.long yy), .second, .val (.int (1 : Int32)), .val (.int (0 : Int32)), .val (.int (((x3 &&& (2147483647 : Int32)) % (100 : Int32)) + (1 : Int32))), .unset, .unset, .unset, .unset, .unset] []))
      obtain ⟨pp, hepp⟩ : ∃ z : Int32, z = (((x3 &&& (2147483647 : Int32)) % (100 : Int32)) + (1 : Int32)) := ⟨_, rfl⟩
      have hpc := own_pc x3 hepp
      rw [← hepp]
      show G (s₁.setTop (mkF m 54 #[.val (.long x0), .second, .val (.long x1), .second, .val (.int x2), .val (.int x3), .val (.long xx), .second, .val (.long yy), .second, .val (.int (1 : Int32)), .val (.int (0 : Int32)), .val (.int pp), .unset, .unset, .unset, .unset, .unset] []))
      obtain ⟨T58, h58, X58, e58, E58, A58, D58, -, st58⟩ := newO X0 hx hZ hown (hw _ (List.mem_of_getElem? (i := 2) rfl)) (hw _ (List.mem_of_getElem? (i := 3) rfl)) (hw _ (List.mem_of_getElem? (i := 4) rfl)) e0 (g := (mkF m 54 #[.val (.long x0), .second, .val (.long x1), .second, .val (.int x2), .val (.int x3), .val (.long xx), .second, .val (.long yy), .second, .val (.int (1 : Int32)), .val (.int (0 : Int32)), .val (.int pp), .unset, .unset, .unset, .unset, .unset] [])) rfl (hb hby at_54) (by decide) (by decide)
      obtain ⟨b58, g58⟩ : ∃ z, z = h0.size := ⟨_, rfl⟩
      rw [← g58] at A58 D58 st58
      refine go st58 ?_
      have ge_b58 : n0 ≤ b58 := Nat.le_trans Z0 (Nat.le_of_eq g58.symm)
      have Z58 := Nat.le_trans Z0 E58.1
      have F58_counts : Fld Z h58 b58 "com/example/wary_commit/warycommit/LatencyHistogram" "counts" "[J" .null := D58 (Or.inr (hw _ (List.mem_of_getElem? (i := 13) rfl))) (ty := (.array .long)) (by decide)
      have F58_total : Fld Z h58 b58 "com/example/wary_commit/warycommit/LatencyHistogram" "total" "J" (.long (0 : Int64)) := D58 (Or.inl (hw _ (List.mem_of_getElem? (i := 20) rfl))) (ty := .long) (by decide)
      have F58_longest : Fld Z h58 b58 "com/example/wary_commit/warycommit/LatencyHistogram" "longest" "J" (.long (0 : Int64)) := D58 (Or.inl (hw _ (List.mem_of_getElem? (i := 22) rfl))) (ty := .long) (by decide)
      show G (T58.setTop (mkF m 57 #[.val (.long x0), .second, .val (.long x1), .second, .val (.int x2), .val (.int x3), .val (.long xx), .second, .val (.long yy), .second, .val (.int (1 : Int32)), .val (.int (0 : Int32)), .val (.int pp), .unset, .unset, .unset, .unset, .unset] [(.ref b58)]))
      refine go (fun tg kg => XS.dup X58.here hx rfl (hb hby at_57) rfl rfl kg) ?_
      show G (T58.setTop (mkF m 58 #[.val (.long x0), .second, .val (.long x1), .second, .val (.int x2), .val (.int x3), .val (.long xx), .second, .val (.long yy), .second, .val (.int (1 : Int32)), .val (.int (0 : Int32)), .val (.int pp), .unset, .unset, .unset, .unset, .unset] [(.ref b58), (.ref b58)]))
      obtain ⟨_, _, ⟨T59, L59, k59, n59⟩, -, X59, ⟨Lc59, hQ59, l59, y59, z59⟩, st59⟩ := X58.specialBack hx (y := (⟨"com/example/wary_commit/warycommit/LatencyHistogram", "<init>", "()V"⟩ : MethodName)) rfl hown (mvT hZ (hw _ (List.mem_of_getElem? (i := 5) rfl))) (mvT hZ (hw _ (List.mem_of_getElem? (i := 6) rfl))) (mvT hZ (hw _ (List.mem_of_getElem? (i := 7) rfl))) (by decide) (backOf (W := 1) (rm1 l Z a0 hw [] b58 h58 n0 Z58 A58 ge_b58 F58_counts F58_total F58_longest) hZ (hw _ (List.mem_of_getElem? (i := 7) rfl)) (hw _ (List.mem_of_getElem? (i := 4) rfl)) (by decide) (by decide)) (g := (mkF m 58 #[.val (.long x0), .second, .val (.long x1), .second, .val (.int x2), .val (.int x3), .val (.long xx), .second, .val (.long yy), .second, .val (.int (1 : Int32)), .val (.int (0 : Int32)), .val (.int pp), .unset, .unset, .unset, .unset, .unset] [(.ref b58), (.ref b58)])) rfl (by rw [hml]; rfl) (Steps.refl _) (a := b58) (argsL := []) (rest := [(.ref b58)]) (lenOf pd___V rfl) rfl (by show 2 * 0 + _ ≤ _; exact Nat.le_of_eq rfl) (hb hby at_58) (fun _ _ => ⟨rfl, e58, (by decide : 1 + 1 ≤ _), (by decide : 3 + 7296 ≤ _)⟩)
      dsimp only [Pt.U, Pt.locs, Pt.cells, Pt.slots] at X59 l59 y59 z59 st59 hQ59
      subst l59 y59 z59
      obtain ⟨rfl, ca59, Nq59, K59, sz59, ge_ca59, Ge59, Gc59, Gt59, Gl59, Ga59⟩ := hQ59
      have Z59 := Nat.le_trans Z58 K59.1
      have N59 := Fr.app N0 Nq59
      refine go (fun tg kg => st59.trans kg) ?_
      show G (T59.setTop (mkF m 61 #[.val (.long x0), .second, .val (.long x1), .second, .val (.int x2), .val (.int x3), .val (.long xx), .second, .val (.long yy), .second, .val (.int (1 : Int32)), .val (.int (0 : Int32)), .val (.int pp), .unset, .unset, .unset, .unset, .unset] [(.ref b58)]))
      refine go (fun tg kg => XS.astore X59.here hx rfl (hb hby at_61) rfl rfl (l' := #[.val (.long x0), .second, .val (.long x1), .second, .val (.int x2), .val (.int x3), .val (.long xx), .second, .val (.long yy), .second, .val (.int (1 : Int32)), .val (.int (0 : Int32)), .val (.int pp), .val (.ref b58), .unset, .unset, .unset, .unset]) rfl kg) ?_
      show G (T59.setTop (mkF m 63 #[.val (.long x0), .second, .val (.long x1), .second, .val (.int x2), .val (.int x3), .val (.long xx), .second, .val (.long yy), .second, .val (.int (1 : Int32)), .val (.int (0 : Int32)), .val (.int pp), .val (.ref b58), .unset, .unset, .unset, .unset] []))
      obtain ⟨T60, h60, X60, e60, E60, A60, D60, -, st60⟩ := newO X59 hx hZ hown (hw _ (List.mem_of_getElem? (i := 2) rfl)) (hw _ (List.mem_of_getElem? (i := 3) rfl)) (hw _ (List.mem_of_getElem? (i := 4) rfl)) rfl (g := (mkF m 63 #[.val (.long x0), .second, .val (.long x1), .second, .val (.int x2), .val (.int x3), .val (.long xx), .second, .val (.long yy), .second, .val (.int (1 : Int32)), .val (.int (0 : Int32)), .val (.int pp), .val (.ref b58), .unset, .unset, .unset, .unset] [])) rfl (hb hby at_63) (by decide) (by decide)
      obtain ⟨b60, g60⟩ : ∃ z, z = T59.heap.size := ⟨_, rfl⟩
      rw [← g60] at A60 D60 st60
      refine go st60 ?_
      have ge_b60 : n0 ≤ b60 := Nat.le_trans Z59 (Nat.le_of_eq g60.symm)
      have Z60 := Nat.le_trans Z59 E60.1
      have F60_counts : Fld Z h60 b60 "com/example/wary_commit/warycommit/LatencyHistogram" "counts" "[J" .null := D60 (Or.inr (hw _ (List.mem_of_getElem? (i := 13) rfl))) (ty := (.array .long)) (by decide)
      have F60_total : Fld Z h60 b60 "com/example/wary_commit/warycommit/LatencyHistogram" "total" "J" (.long (0 : Int64)) := D60 (Or.inl (hw _ (List.mem_of_getElem? (i := 20) rfl))) (ty := .long) (by decide)
      have F60_longest : Fld Z h60 b60 "com/example/wary_commit/warycommit/LatencyHistogram" "longest" "J" (.long (0 : Int64)) := D60 (Or.inl (hw _ (List.mem_of_getElem? (i := 22) rfl))) (ty := .long) (by decide)
      show G (T60.setTop (mkF m 66 #[.val (.long x0), .second, .val (.long x1), .second, .val (.int x2), .val (.int x3), .val (.long xx), .second, .val (.long yy), .second, .val (.int (1 : Int32)), .val (.int (0 : Int32)), .val (.int pp), .val (.ref b58), .unset, .unset, .unset, .unset] [(.ref b60)]))
      refine go (fun tg kg => XS.dup X60.here hx rfl (hb hby at_66) rfl rfl kg) ?_
      show G (T60.setTop (mkF m 67 #[.val (.long x0), .second, .val (.long x1), .second, .val (.int x2), .val (.int x3), .val (.long xx), .second, .val (.long yy), .second, .val (.int (1 : Int32)), .val (.int (0 : Int32)), .val (.int pp), .val (.ref b58), .unset, .unset, .unset, .unset] [(.ref b60), (.ref b60)]))
      obtain ⟨_, _, ⟨T61, L61, k61, n61⟩, -, X61, ⟨Lc61, hQ61, l61, y61, z61⟩, st61⟩ := X60.specialBack hx (y := (⟨"com/example/wary_commit/warycommit/LatencyHistogram", "<init>", "()V"⟩ : MethodName)) rfl hown (mvT hZ (hw _ (List.mem_of_getElem? (i := 5) rfl))) (mvT hZ (hw _ (List.mem_of_getElem? (i := 6) rfl))) (mvT hZ (hw _ (List.mem_of_getElem? (i := 7) rfl))) (by decide) (backOf (W := 1) (rm1 l Z a0 hw [] b60 h60 n0 Z60 A60 ge_b60 F60_counts F60_total F60_longest) hZ (hw _ (List.mem_of_getElem? (i := 7) rfl)) (hw _ (List.mem_of_getElem? (i := 4) rfl)) (by decide) (by decide)) (g := (mkF m 67 #[.val (.long x0), .second, .val (.long x1), .second, .val (.int x2), .val (.int x3), .val (.long xx), .second, .val (.long yy), .second, .val (.int (1 : Int32)), .val (.int (0 : Int32)), .val (.int pp), .val (.ref b58), .unset, .unset, .unset, .unset] [(.ref b60), (.ref b60)])) rfl (by rw [hml]; rfl) (Steps.refl _) (a := b60) (argsL := []) (rest := [(.ref b60)]) (lenOf pd___V rfl) rfl (by show 2 * 0 + _ ≤ _; exact Nat.le_of_eq rfl) (hb hby at_67) (fun _ _ => ⟨rfl, e60, (by decide : 3 + 1 ≤ _), (by decide : 7302 + 7296 ≤ _)⟩)
      dsimp only [Pt.U, Pt.locs, Pt.cells, Pt.slots] at X61 l61 y61 z61 st61 hQ61
      subst l61 y61 z61
      obtain ⟨rfl, ca61, Nq61, K61, sz61, ge_ca61, Ge61, Gc61, Gt61, Gl61, Ga61⟩ := hQ61
      have Z61 := Nat.le_trans Z60 K61.1
      have N61 := Fr.app N59 Nq61
      refine go (fun tg kg => st61.trans kg) ?_
      show G (T61.setTop (mkF m 70 #[.val (.long x0), .second, .val (.long x1), .second, .val (.int x2), .val (.int x3), .val (.long xx), .second, .val (.long yy), .second, .val (.int (1 : Int32)), .val (.int (0 : Int32)), .val (.int pp), .val (.ref b58), .unset, .unset, .unset, .unset] [(.ref b60)]))
      refine go (fun tg kg => XS.astore X61.here hx rfl (hb hby at_70) rfl rfl (l' := #[.val (.long x0), .second, .val (.long x1), .second, .val (.int x2), .val (.int x3), .val (.long xx), .second, .val (.long yy), .second, .val (.int (1 : Int32)), .val (.int (0 : Int32)), .val (.int pp), .val (.ref b58), .val (.ref b60), .unset, .unset, .unset]) rfl kg) ?_
      show G (T61.setTop (mkF m 72 #[.val (.long x0), .second, .val (.long x1), .second, .val (.int x2), .val (.int x3), .val (.long xx), .second, .val (.long yy), .second, .val (.int (1 : Int32)), .val (.int (0 : Int32)), .val (.int pp), .val (.ref b58), .val (.ref b60), .unset, .unset, .unset] []))
      obtain ⟨T62, h62, X62, e62, E62, A62, D62, -, st62⟩ := newO X61 hx hZ hown (hw _ (List.mem_of_getElem? (i := 2) rfl)) (hw _ (List.mem_of_getElem? (i := 3) rfl)) (hw _ (List.mem_of_getElem? (i := 4) rfl)) rfl (g := (mkF m 72 #[.val (.long x0), .second, .val (.long x1), .second, .val (.int x2), .val (.int x3), .val (.long xx), .second, .val (.long yy), .second, .val (.int (1 : Int32)), .val (.int (0 : Int32)), .val (.int pp), .val (.ref b58), .val (.ref b60), .unset, .unset, .unset] [])) rfl (hb hby at_72) (by decide) (by decide)
      obtain ⟨b62, g62⟩ : ∃ z, z = T61.heap.size := ⟨_, rfl⟩
      rw [← g62] at A62 D62 st62
      refine go st62 ?_
      have ge_b62 : n0 ≤ b62 := Nat.le_trans Z61 (Nat.le_of_eq g62.symm)
      have Z62 := Nat.le_trans Z61 E62.1
      have F62_counts : Fld Z h62 b62 "com/example/wary_commit/warycommit/LatencyHistogram" "counts" "[J" .null := D62 (Or.inr (hw _ (List.mem_of_getElem? (i := 13) rfl))) (ty := (.array .long)) (by decide)
      have F62_total : Fld Z h62 b62 "com/example/wary_commit/warycommit/LatencyHistogram" "total" "J" (.long (0 : Int64)) := D62 (Or.inl (hw _ (List.mem_of_getElem? (i := 20) rfl))) (ty := .long) (by decide)
      have F62_longest : Fld Z h62 b62 "com/example/wary_commit/warycommit/LatencyHistogram" "longest" "J" (.long (0 : Int64)) := D62 (Or.inl (hw _ (List.mem_of_getElem? (i := 22) rfl))) (ty := .long) (by decide)
      show G (T62.setTop (mkF m 75 #[.val (.long x0), .second, .val (.long x1), .second, .val (.int x2), .val (.int x3), .val (.long xx), .second, .val (.long yy), .second, .val (.int (1 : Int32)), .val (.int (0 : Int32)), .val (.int pp), .val (.ref b58), .val (.ref b60), .unset, .unset, .unset] [(.ref b62)]))
      refine go (fun tg kg => XS.dup X62.here hx rfl (hb hby at_75) rfl rfl kg) ?_
      show G (T62.setTop (mkF m 76 #[.val (.long x0), .second, .val (.long x1), .second, .val (.int x2), .val (.int x3), .val (.long xx), .second, .val (.long yy), .second, .val (.int (1 : Int32)), .val (.int (0 : Int32)), .val (.int pp), .val (.ref b58), .val (.ref b60), .unset, .unset, .unset] [(.ref b62), (.ref b62)]))
      obtain ⟨_, _, ⟨T63, L63, k63, n63⟩, -, X63, ⟨Lc63, hQ63, l63, y63, z63⟩, st63⟩ := X62.specialBack hx (y := (⟨"com/example/wary_commit/warycommit/LatencyHistogram", "<init>", "()V"⟩ : MethodName)) rfl hown (mvT hZ (hw _ (List.mem_of_getElem? (i := 5) rfl))) (mvT hZ (hw _ (List.mem_of_getElem? (i := 6) rfl))) (mvT hZ (hw _ (List.mem_of_getElem? (i := 7) rfl))) (by decide) (backOf (W := 1) (rm1 l Z a0 hw [] b62 h62 n0 Z62 A62 ge_b62 F62_counts F62_total F62_longest) hZ (hw _ (List.mem_of_getElem? (i := 7) rfl)) (hw _ (List.mem_of_getElem? (i := 4) rfl)) (by decide) (by decide)) (g := (mkF m 76 #[.val (.long x0), .second, .val (.long x1), .second, .val (.int x2), .val (.int x3), .val (.long xx), .second, .val (.long yy), .second, .val (.int (1 : Int32)), .val (.int (0 : Int32)), .val (.int pp), .val (.ref b58), .val (.ref b60), .unset, .unset, .unset] [(.ref b62), (.ref b62)])) rfl (by rw [hml]; rfl) (Steps.refl _) (a := b62) (argsL := []) (rest := [(.ref b62)]) (lenOf pd___V rfl) rfl (by show 2 * 0 + _ ≤ _; exact Nat.le_of_eq rfl) (hb hby at_76) (fun _ _ => ⟨rfl, e62, (by decide : 5 + 1 ≤ _), (by decide : 14601 + 7296 ≤ _)⟩)
      dsimp only [Pt.U, Pt.locs, Pt.cells, Pt.slots] at X63 l63 y63 z63 st63 hQ63
      subst l63 y63 z63
      obtain ⟨rfl, ca63, Nq63, K63, sz63, ge_ca63, Ge63, Gc63, Gt63, Gl63, Ga63⟩ := hQ63
      have Z63 := Nat.le_trans Z62 K63.1
      have N63 := Fr.app N61 Nq63
      refine go (fun tg kg => st63.trans kg) ?_
      show G (T63.setTop (mkF m 79 #[.val (.long x0), .second, .val (.long x1), .second, .val (.int x2), .val (.int x3), .val (.long xx), .second, .val (.long yy), .second, .val (.int (1 : Int32)), .val (.int (0 : Int32)), .val (.int pp), .val (.ref b58), .val (.ref b60), .unset, .unset, .unset] [(.ref b62)]))
      refine go (fun tg kg => XS.astore X63.here hx rfl (hb hby at_79) rfl rfl (l' := #[.val (.long x0), .second, .val (.long x1), .second, .val (.int x2), .val (.int x3), .val (.long xx), .second, .val (.long yy), .second, .val (.int (1 : Int32)), .val (.int (0 : Int32)), .val (.int pp), .val (.ref b58), .val (.ref b60), .val (.ref b62), .unset, .unset]) rfl kg) ?_
      show G (T63.setTop (mkF m 81 #[.val (.long x0), .second, .val (.long x1), .second, .val (.int x2), .val (.int x3), .val (.long xx), .second, .val (.long yy), .second, .val (.int (1 : Int32)), .val (.int (0 : Int32)), .val (.int pp), .val (.ref b58), .val (.ref b60), .val (.ref b62), .unset, .unset] []))
      refine go (fun tg kg => XS.iload X63.here hx rfl (hb hby at_81) rfl kg) ?_
      show G (T63.setTop (mkF m 83 #[.val (.long x0), .second, .val (.long x1), .second, .val (.int x2), .val (.int x3), .val (.long xx), .second, .val (.long yy), .second, .val (.int (1 : Int32)), .val (.int (0 : Int32)), .val (.int pp), .val (.ref b58), .val (.ref b60), .val (.ref b62), .unset, .unset] [(.int (1 : Int32))]))
      refine go (fun tg kg => XS.ifNo X63.here hx rfl (hb hby at_83) rfl ((if0 _ _).trans (feq (by decide)).1) kg) ?_
      show G (T63.setTop (mkF m 86 #[.val (.long x0), .second, .val (.long x1), .second, .val (.int x2), .val (.int x3), .val (.long xx), .second, .val (.long yy), .second, .val (.int (1 : Int32)), .val (.int (0 : Int32)), .val (.int pp), .val (.ref b58), .val (.ref b60), .val (.ref b62), .unset, .unset] []))
      refine go (fun tg kg => XS.aload X63.here hx rfl (hb hby at_86) rfl rfl kg) ?_
      show G (T63.setTop (mkF m 88 #[.val (.long x0), .second, .val (.long x1), .second, .val (.int x2), .val (.int x3), .val (.long xx), .second, .val (.long yy), .second, .val (.int (1 : Int32)), .val (.int (0 : Int32)), .val (.int pp), .val (.ref b58), .val (.ref b60), .val (.ref b62), .unset, .unset] [(.ref b58)]))
      refine go (fun tg kg => XS.lload X63.here hx rfl (hb hby at_88) rfl kg) ?_
      show G (T63.setTop (mkF m 90 #[.val (.long x0), .second, .val (.long x1), .second, .val (.int x2), .val (.int x3), .val (.long xx), .second, .val (.long yy), .second, .val (.int (1 : Int32)), .val (.int (0 : Int32)), .val (.int pp), .val (.ref b58), .val (.ref b60), .val (.ref b62), .unset, .unset] [(.long xx), (.ref b58)]))
      have Fa65 := ((((Ge59.ext E60).keep K61).ext E62).keep K63)
      have Fa66 := ((((Gc59.ext E60).keep K61 (ninS (Nat.ne_of_lt (Nat.lt_of_lt_of_le Gc59.lt (Nat.le_of_eq g60.symm))) nin0)).ext E62).keep K63 (ninS (Nat.ne_of_lt (Nat.lt_of_lt_of_le ((Gc59.ext E60).keep K61 (ninS (Nat.ne_of_lt (Nat.lt_of_lt_of_le Gc59.lt (Nat.le_of_eq g60.symm))) nin0)).lt (Nat.le_of_eq g62.symm))) nin0))
      have Fa67 := ((((Gt59.ext E60).keep K61 (ninS (Nat.ne_of_lt (Nat.lt_of_lt_of_le Gt59.lt (Nat.le_of_eq g60.symm))) nin0)).ext E62).keep K63 (ninS (Nat.ne_of_lt (Nat.lt_of_lt_of_le ((Gt59.ext E60).keep K61 (ninS (Nat.ne_of_lt (Nat.lt_of_lt_of_le Gt59.lt (Nat.le_of_eq g60.symm))) nin0)).lt (Nat.le_of_eq g62.symm))) nin0))
      have Fa68 := ((((Gl59.ext E60).keep K61 (ninS (Nat.ne_of_lt (Nat.lt_of_lt_of_le Gl59.lt (Nat.le_of_eq g60.symm))) nin0)).ext E62).keep K63 (ninS (Nat.ne_of_lt (Nat.lt_of_lt_of_le ((Gl59.ext E60).keep K61 (ninS (Nat.ne_of_lt (Nat.lt_of_lt_of_le Gl59.lt (Nat.le_of_eq g60.symm))) nin0)).lt (Nat.le_of_eq g62.symm))) nin0))
      have Fa69 := ((((Ga59.ext E60).keep K61 (ninS (Nat.ne_of_lt (Nat.lt_of_lt_of_le Ga59.lt (Nat.le_of_eq g60.symm))) nin0)).ext E62).keep K63 (ninS (Nat.ne_of_lt (Nat.lt_of_lt_of_le ((Ga59.ext E60).keep K61 (ninS (Nat.ne_of_lt (Nat.lt_of_lt_of_le Ga59.lt (Nat.le_of_eq g60.symm))) nin0)).lt (Nat.le_of_eq g62.symm))) nin0))
      obtain ⟨cq64, kq64, q64a, q64b, q64c⟩ := isOf hZ rfl Fa65
      obtain ⟨_, _, ⟨T64, L64, k64, n64⟩, -, X64, ⟨Lc64, hQ64, l64, y64, z64⟩, st64⟩ := X63.virtualBack hx (y := (⟨"com/example/wary_commit/warycommit/LatencyHistogram", "record", "(J)V"⟩ : MethodName)) (z := (⟨"com/example/wary_commit/warycommit/LatencyHistogram", "record", "(J)V"⟩ : MethodName)) hown (mvT hZ (hw _ (List.mem_of_getElem? (i := 32) rfl))) (mvT hZ (hw _ (List.mem_of_getElem? (i := 33) rfl))) (notFace_of_selects (args := #[]) (mvT hZ (hw _ (List.mem_of_getElem? (i := 35) rfl)))) (mvT hZ (hw _ (List.mem_of_getElem? (i := 35) rfl))) (mvT hZ (hw _ (List.mem_of_getElem? (i := 34) rfl))) (by decide) (backOf (W := 0) (rm6 l Z a0 hw [] b58 xx ca59 own_z (0 : Int64) (0 : Int64) T63.heap n0 Z63 Fa65 ge_b58 ge_ca59 Fa66 Fa67 Fa68 Fa69 (Nat.ne_of_lt (Nat.lt_of_lt_of_le F58_longest.lt sz59)) hxx) hZ (hw _ (List.mem_of_getElem? (i := 36) rfl)) (hw _ (List.mem_of_getElem? (i := 4) rfl)) (by decide) (by decide)) q64a q64c (g := (mkF m 90 #[.val (.long x0), .second, .val (.long x1), .second, .val (.int x2), .val (.int x3), .val (.long xx), .second, .val (.long yy), .second, .val (.int (1 : Int32)), .val (.int (0 : Int32)), .val (.int pp), .val (.ref b58), .val (.ref b60), .val (.ref b62), .unset, .unset] [(.long xx), (.ref b58)])) rfl (by rw [hml]; rfl) (Steps.refl _) (argsL := [(.long xx)]) (rest := []) (lenOf pd__J_V rfl) rfl (by show 2 * 0 + _ ≤ _; exact Nat.le_of_eq rfl) (hb hby at_90) (fun _ _ => ⟨rfl, rfl, (by decide : 6 + 0 ≤ _), (by decide : 21897 + 0 ≤ _)⟩)
      dsimp only [Pt.U, Pt.locs, Pt.cells, Pt.slots] at X64 l64 y64 z64 st64 hQ64
      subst l64 y64 z64
      obtain ⟨rfl, Nq64, K64, Ge64, Gc64, Gt64, Gl64, Ga64⟩ := hQ64
      have Z64 := Nat.le_trans Z63 K64.1
      replace Gt64 : Fld Z T64.heap b58 "com/example/wary_commit/warycommit/LatencyHistogram" "total" "J" (.long (1 : Int64)) := Gt64
      rw [own_max0 hxx] at Gl64
      have N64 := Fr.app N63 Nq64
      refine go (fun tg kg => st64.trans kg) ?_
      show G (T64.setTop (mkF m 93 #[.val (.long x0), .second, .val (.long x1), .second, .val (.int x2), .val (.int x3), .val (.long xx), .second, .val (.long yy), .second, .val (.int (1 : Int32)), .val (.int (0 : Int32)), .val (.int pp), .val (.ref b58), .val (.ref b60), .val (.ref b62), .unset, .unset] []))
      refine go (fun tg kg => XS.aload X64.here hx rfl (hb hby at_93) rfl rfl kg) ?_
      show G (T64.setTop (mkF m 95 #[.val (.long x0), .second, .val (.long x1), .second, .val (.int x2), .val (.int x3), .val (.long xx), .second, .val (.long yy), .second, .val (.int (1 : Int32)), .val (.int (0 : Int32)), .val (.int pp), .val (.ref b58), .val (.ref b60), .val (.ref b62), .unset, .unset] [(.ref b62)]))
      refine go (fun tg kg => XS.lload X64.here hx rfl (hb hby at_95) rfl kg) ?_
      show G (T64.setTop (mkF m 97 #[.val (.long x0), .second, .val (.long x1), .second, .val (.int x2), .val (.int x3), .val (.long xx), .second, .val (.long yy), .second, .val (.int (1 : Int32)), .val (.int (0 : Int32)), .val (.int pp), .val (.ref b58), .val (.ref b60), .val (.ref b62), .unset, .unset] [(.long xx), (.ref b62)]))
      have Fa71 := (Ge63.keep K64)
      have Fa72 := (Gc63.keep K64 (ninS (Ne.symm (Nat.ne_of_lt (Nat.lt_of_lt_of_le ((Gl59.ext E60).keep K61 (ninS (Nat.ne_of_lt (Nat.lt_of_lt_of_le Gl59.lt (Nat.le_of_eq g60.symm))) nin0)).lt (Nat.le_of_eq g62.symm)))) (ninS (Ne.symm (Nat.ne_of_lt (Nat.lt_of_lt_of_le ((Ga59.ext E60).keep K61 (ninS (Nat.ne_of_lt (Nat.lt_of_lt_of_le Ga59.lt (Nat.le_of_eq g60.symm))) nin0)).lt (Nat.le_of_eq g62.symm)))) nin0)))
      have Fa73 := (Gt63.keep K64 (ninS (Ne.symm (Nat.ne_of_lt (Nat.lt_of_lt_of_le ((Gl59.ext E60).keep K61 (ninS (Nat.ne_of_lt (Nat.lt_of_lt_of_le Gl59.lt (Nat.le_of_eq g60.symm))) nin0)).lt (Nat.le_of_eq g62.symm)))) (ninS (Ne.symm (Nat.ne_of_lt (Nat.lt_of_lt_of_le ((Ga59.ext E60).keep K61 (ninS (Nat.ne_of_lt (Nat.lt_of_lt_of_le Ga59.lt (Nat.le_of_eq g60.symm))) nin0)).lt (Nat.le_of_eq g62.symm)))) nin0)))
      have Fa74 := (Gl63.keep K64 (ninS (Ne.symm (Nat.ne_of_lt (Nat.lt_of_lt_of_le ((Gl59.ext E60).keep K61 (ninS (Nat.ne_of_lt (Nat.lt_of_lt_of_le Gl59.lt (Nat.le_of_eq g60.symm))) nin0)).lt (Nat.le_of_eq g62.symm)))) (ninS (Ne.symm (Nat.ne_of_lt (Nat.lt_of_lt_of_le ((Ga59.ext E60).keep K61 (ninS (Nat.ne_of_lt (Nat.lt_of_lt_of_le Ga59.lt (Nat.le_of_eq g60.symm))) nin0)).lt (Nat.le_of_eq g62.symm)))) nin0)))
      have Fa75 := (Ga63.keep K64 (ninS (Ne.symm (Nat.ne_of_lt (Nat.lt_of_lt_of_le (((Gl59.ext E60).keep K61 (ninS (Nat.ne_of_lt (Nat.lt_of_lt_of_le Gl59.lt (Nat.le_of_eq g60.symm))) nin0)).ext E62).lt sz63))) (ninS (Ne.symm (Nat.ne_of_lt (Nat.lt_of_lt_of_le (((Ga59.ext E60).keep K61 (ninS (Nat.ne_of_lt (Nat.lt_of_lt_of_le Ga59.lt (Nat.le_of_eq g60.symm))) nin0)).ext E62).lt sz63))) nin0)))
      obtain ⟨cq70, kq70, q70a, q70b, q70c⟩ := isOf hZ rfl Fa71
      obtain ⟨_, _, ⟨T70, L70, k70, n70⟩, -, X70, ⟨Lc70, hQ70, l70, y70, z70⟩, st70⟩ := X64.virtualBack hx (y := (⟨"com/example/wary_commit/warycommit/LatencyHistogram", "record", "(J)V"⟩ : MethodName)) (z := (⟨"com/example/wary_commit/warycommit/LatencyHistogram", "record", "(J)V"⟩ : MethodName)) hown (mvT hZ (hw _ (List.mem_of_getElem? (i := 32) rfl))) (mvT hZ (hw _ (List.mem_of_getElem? (i := 33) rfl))) (notFace_of_selects (args := #[]) (mvT hZ (hw _ (List.mem_of_getElem? (i := 35) rfl)))) (mvT hZ (hw _ (List.mem_of_getElem? (i := 35) rfl))) (mvT hZ (hw _ (List.mem_of_getElem? (i := 34) rfl))) (by decide) (backOf (W := 0) (rm6 l Z a0 hw [] b62 xx ca63 own_z (0 : Int64) (0 : Int64) T64.heap n0 Z64 Fa71 ge_b62 ge_ca63 Fa72 Fa73 Fa74 Fa75 (Nat.ne_of_lt (Nat.lt_of_lt_of_le F62_longest.lt sz63)) hxx) hZ (hw _ (List.mem_of_getElem? (i := 36) rfl)) (hw _ (List.mem_of_getElem? (i := 4) rfl)) (by decide) (by decide)) q70a q70c (g := (mkF m 97 #[.val (.long x0), .second, .val (.long x1), .second, .val (.int x2), .val (.int x3), .val (.long xx), .second, .val (.long yy), .second, .val (.int (1 : Int32)), .val (.int (0 : Int32)), .val (.int pp), .val (.ref b58), .val (.ref b60), .val (.ref b62), .unset, .unset] [(.long xx), (.ref b62)])) rfl (by rw [hml]; rfl) (Steps.refl _) (argsL := [(.long xx)]) (rest := []) (lenOf pd__J_V rfl) rfl (by show 2 * 0 + _ ≤ _; exact Nat.le_of_eq rfl) (hb hby at_97) (fun _ _ => ⟨rfl, rfl, (by decide : 6 + 0 ≤ _), (by decide : 21897 + 0 ≤ _)⟩)
      dsimp only [Pt.U, Pt.locs, Pt.cells, Pt.slots] at X70 l70 y70 z70 st70 hQ70
      subst l70 y70 z70
      obtain ⟨rfl, Nq70, K70, Ge70, Gc70, Gt70, Gl70, Ga70⟩ := hQ70
      have Z70 := Nat.le_trans Z64 K70.1
      replace Gt70 : Fld Z T70.heap b62 "com/example/wary_commit/warycommit/LatencyHistogram" "total" "J" (.long (1 : Int64)) := Gt70
      rw [own_max0 hxx] at Gl70
      have N70 := Fr.app N64 Nq70
      refine go (fun tg kg => st70.trans kg) ?_
      show G (T70.setTop (mkF m 100 #[.val (.long x0), .second, .val (.long x1), .second, .val (.int x2), .val (.int x3), .val (.long xx), .second, .val (.long yy), .second, .val (.int (1 : Int32)), .val (.int (0 : Int32)), .val (.int pp), .val (.ref b58), .val (.ref b60), .val (.ref b62), .unset, .unset] []))
      refine go (fun tg kg => XS.iload X70.here hx rfl (hb hby at_100) rfl kg) ?_
      show G (T70.setTop (mkF m 102 #[.val (.long x0), .second, .val (.long x1), .second, .val (.int x2), .val (.int x3), .val (.long xx), .second, .val (.long yy), .second, .val (.int (1 : Int32)), .val (.int (0 : Int32)), .val (.int pp), .val (.ref b58), .val (.ref b60), .val (.ref b62), .unset, .unset] [(.int (0 : Int32))]))
      refine go (fun tg kg => XS.ifYes X70.here hx rfl (pc0 := 102) (pc' := 119) rfl (hb hby at_102) rfl ((if0 _ _).trans (teq (by decide)).1) (by decide) (by decide) kg) ?_
      show G (T70.setTop (mkF m 119 #[.val (.long x0), .second, .val (.long x1), .second, .val (.int x2), .val (.int x3), .val (.long xx), .second, .val (.long yy), .second, .val (.int (1 : Int32)), .val (.int (0 : Int32)), .val (.int pp), .val (.ref b58), .val (.ref b60), .val (.ref b62), .unset, .unset] []))
      refine go (fun tg kg => XS.aload X70.here hx rfl (hb hby at_119) rfl rfl kg) ?_
      show G (T70.setTop (mkF m 121 #[.val (.long x0), .second, .val (.long x1), .second, .val (.int x2), .val (.int x3), .val (.long xx), .second, .val (.long yy), .second, .val (.int (1 : Int32)), .val (.int (0 : Int32)), .val (.int pp), .val (.ref b58), .val (.ref b60), .val (.ref b62), .unset, .unset] [(.ref b58)]))
      refine go (fun tg kg => XS.aload X70.here hx rfl (hb hby at_121) rfl rfl kg) ?_
      show G (T70.setTop (mkF m 123 #[.val (.long x0), .second, .val (.long x1), .second, .val (.int x2), .val (.int x3), .val (.long xx), .second, .val (.long yy), .second, .val (.int (1 : Int32)), .val (.int (0 : Int32)), .val (.int pp), .val (.ref b58), .val (.ref b60), .val (.ref b62), .unset, .unset] [(.ref b60), (.ref b58)]))
      have Fa77 := (Ge64.keep K70)
      have Fa78 := (Gc64.keep K70 (ninS (Nat.ne_of_lt (Nat.lt_of_lt_of_le ((Gl59.ext E60).keep K61 (ninS (Nat.ne_of_lt (Nat.lt_of_lt_of_le Gl59.lt (Nat.le_of_eq g60.symm))) nin0)).lt (Nat.le_of_eq g62.symm))) (ninS (Nat.ne_of_lt (Nat.lt_of_lt_of_le (((Gl59.ext E60).keep K61 (ninS (Nat.ne_of_lt (Nat.lt_of_lt_of_le Gl59.lt (Nat.le_of_eq g60.symm))) nin0)).ext E62).lt sz63)) nin0)))
      have Fa79 := (Gt64.keep K70 (ninS (Nat.ne_of_lt (Nat.lt_of_lt_of_le ((Gl59.ext E60).keep K61 (ninS (Nat.ne_of_lt (Nat.lt_of_lt_of_le Gl59.lt (Nat.le_of_eq g60.symm))) nin0)).lt (Nat.le_of_eq g62.symm))) (ninS (Nat.ne_of_lt (Nat.lt_of_lt_of_le (((Gl59.ext E60).keep K61 (ninS (Nat.ne_of_lt (Nat.lt_of_lt_of_le Gl59.lt (Nat.le_of_eq g60.symm))) nin0)).ext E62).lt sz63)) nin0)))
      have Fa80 := (Gl64.keep K70 (ninS (Nat.ne_of_lt (Nat.lt_of_lt_of_le ((Gl59.ext E60).keep K61 (ninS (Nat.ne_of_lt (Nat.lt_of_lt_of_le Gl59.lt (Nat.le_of_eq g60.symm))) nin0)).lt (Nat.le_of_eq g62.symm))) (ninS (Nat.ne_of_lt (Nat.lt_of_lt_of_le (((Gl59.ext E60).keep K61 (ninS (Nat.ne_of_lt (Nat.lt_of_lt_of_le Gl59.lt (Nat.le_of_eq g60.symm))) nin0)).ext E62).lt sz63)) nin0)))
      have Fa81 := (Ga64.keep K70 (ninS (Nat.ne_of_lt (Nat.lt_of_lt_of_le ((Ga59.ext E60).keep K61 (ninS (Nat.ne_of_lt (Nat.lt_of_lt_of_le Ga59.lt (Nat.le_of_eq g60.symm))) nin0)).lt (Nat.le_of_eq g62.symm))) (ninS (Nat.ne_of_lt (Nat.lt_of_lt_of_le (((Ga59.ext E60).keep K61 (ninS (Nat.ne_of_lt (Nat.lt_of_lt_of_le Ga59.lt (Nat.le_of_eq g60.symm))) nin0)).ext E62).lt sz63)) nin0)))
      have Fa82 := ((((Gc61.ext E62).keep K63 (ninS (Nat.ne_of_lt (Nat.lt_of_lt_of_le Ge61.lt (Nat.le_of_eq g62.symm))) nin0)).keep K64 (ninS (Ne.symm (Nat.ne_of_lt (Nat.lt_of_lt_of_le Gl59.lt (Nat.le_of_eq g60.symm)))) (ninS (Ne.symm (Nat.ne_of_lt (Nat.lt_of_lt_of_le Ga59.lt (Nat.le_of_eq g60.symm)))) nin0))).keep K70 (ninS (Nat.ne_of_lt (Nat.lt_of_lt_of_le Ge61.lt (Nat.le_of_eq g62.symm))) (ninS (Nat.ne_of_lt (Nat.lt_of_lt_of_le (Ge61.ext E62).lt sz63)) nin0)))
      have Fa83 := ((((Gt61.ext E62).keep K63 (ninS (Nat.ne_of_lt (Nat.lt_of_lt_of_le Ge61.lt (Nat.le_of_eq g62.symm))) nin0)).keep K64 (ninS (Ne.symm (Nat.ne_of_lt (Nat.lt_of_lt_of_le Gl59.lt (Nat.le_of_eq g60.symm)))) (ninS (Ne.symm (Nat.ne_of_lt (Nat.lt_of_lt_of_le Ga59.lt (Nat.le_of_eq g60.symm)))) nin0))).keep K70 (ninS (Nat.ne_of_lt (Nat.lt_of_lt_of_le Ge61.lt (Nat.le_of_eq g62.symm))) (ninS (Nat.ne_of_lt (Nat.lt_of_lt_of_le (Ge61.ext E62).lt sz63)) nin0)))
      have Fa84 := ((((Gl61.ext E62).keep K63 (ninS (Nat.ne_of_lt (Nat.lt_of_lt_of_le Ge61.lt (Nat.le_of_eq g62.symm))) nin0)).keep K64 (ninS (Ne.symm (Nat.ne_of_lt (Nat.lt_of_lt_of_le Gl59.lt (Nat.le_of_eq g60.symm)))) (ninS (Ne.symm (Nat.ne_of_lt (Nat.lt_of_lt_of_le Ga59.lt (Nat.le_of_eq g60.symm)))) nin0))).keep K70 (ninS (Nat.ne_of_lt (Nat.lt_of_lt_of_le Ge61.lt (Nat.le_of_eq g62.symm))) (ninS (Nat.ne_of_lt (Nat.lt_of_lt_of_le (Ge61.ext E62).lt sz63)) nin0)))
      have Fa85 := ((((Ga61.ext E62).keep K63 (ninS (Nat.ne_of_lt (Nat.lt_of_lt_of_le Ga61.lt (Nat.le_of_eq g62.symm))) nin0)).keep K64 (ninS (Ne.symm (Nat.ne_of_lt (Nat.lt_of_lt_of_le (Gl59.ext E60).lt sz61))) (ninS (Ne.symm (Nat.ne_of_lt (Nat.lt_of_lt_of_le (Ga59.ext E60).lt sz61))) nin0))).keep K70 (ninS (Nat.ne_of_lt (Nat.lt_of_lt_of_le Ga61.lt (Nat.le_of_eq g62.symm))) (ninS (Nat.ne_of_lt (Nat.lt_of_lt_of_le (Ga61.ext E62).lt sz63)) nin0)))
      obtain ⟨cq76, kq76, q76a, q76b, q76c⟩ := isOf hZ rfl Fa77
      obtain ⟨_, _, ⟨T76, L76, k76, n76⟩, -, X76, ⟨Lc76, hQ76, l76, y76, z76⟩, st76⟩ := X70.virtualBack hx (y := (⟨"com/example/wary_commit/warycommit/LatencyHistogram", "add", "(Lcom/example/wary_commit/warycommit/LatencyHistogram;)V"⟩ : MethodName)) (z := (⟨"com/example/wary_commit/warycommit/LatencyHistogram", "add", "(Lcom/example/wary_commit/warycommit/LatencyHistogram;)V"⟩ : MethodName)) hown (mvT hZ (hw _ (List.mem_of_getElem? (i := 14) rfl))) (mvT hZ (hw _ (List.mem_of_getElem? (i := 15) rfl))) (notFace_of_selects (args := #[]) (mvT hZ (hw _ (List.mem_of_getElem? (i := 17) rfl)))) (mvT hZ (hw _ (List.mem_of_getElem? (i := 17) rfl))) (mvT hZ (hw _ (List.mem_of_getElem? (i := 16) rfl))) (by decide) (backOf (W := 0) (rm3 l Z a0 hw [] b58 b60 ca59 (own_rec own_z xx) (1 : Int64) xx ca61 own_z (0 : Int64) (0 : Int64) T70.heap n0 Z70 Fa77 ge_b58 ge_ca59 Fa78 Fa79 Fa80 Fa81 (Nat.ne_of_lt (Nat.lt_of_lt_of_le F58_longest.lt sz59)) Fa82 Fa83 Fa84 Fa85 (Ne.symm (Nat.ne_of_lt (Nat.lt_of_lt_of_le Ga59.lt (Nat.le_of_eq g60.symm)))) (Ne.symm (Nat.ne_of_lt (Nat.lt_of_lt_of_le (Ga59.ext E60).lt sz61))) (Ne.symm (Nat.ne_of_lt (Nat.lt_of_lt_of_le Gl59.lt (Nat.le_of_eq g60.symm))))) hZ (hw _ (List.mem_of_getElem? (i := 18) rfl)) (hw _ (List.mem_of_getElem? (i := 4) rfl)) (by decide) (by decide)) q76a q76c (g := (mkF m 123 #[.val (.long x0), .second, .val (.long x1), .second, .val (.int x2), .val (.int x3), .val (.long xx), .second, .val (.long yy), .second, .val (.int (1 : Int32)), .val (.int (0 : Int32)), .val (.int pp), .val (.ref b58), .val (.ref b60), .val (.ref b62), .unset, .unset] [(.ref b60), (.ref b58)])) rfl (by rw [hml]; rfl) (Steps.refl _) (argsL := [(.ref b60)]) (rest := []) (lenOf pd__Lcom_example_wary_commit_warycommit_LatencyHistogram__V rfl) rfl (by show 2 * 0 + _ ≤ _; exact Nat.le_of_eq rfl) (hb hby at_123) (fun _ _ => ⟨rfl, rfl, (by decide : 6 + 0 ≤ _), (by decide : 21897 + 0 ≤ _)⟩)
      dsimp only [Pt.U, Pt.locs, Pt.cells, Pt.slots] at X76 l76 y76 z76 st76 hQ76
      subst l76 y76 z76
      obtain ⟨rfl, Nq76, K76, Ge76, Gc76, Gt76, Gl76, Ga76⟩ := hQ76
      have Z76 := Nat.le_trans Z70 K76.1
      replace Gt76 : Fld Z T76.heap b58 "com/example/wary_commit/warycommit/LatencyHistogram" "total" "J" (.long (1 : Int64)) := Gt76
      rw [own_addz] at Ga76
      rw [own_maxz hxx] at Gl76
      have N76 := Fr.app N70 Nq76
      refine go (fun tg kg => st76.trans kg) ?_
      show G (T76.setTop (mkF m 126 #[.val (.long x0), .second, .val (.long x1), .second, .val (.int x2), .val (.int x3), .val (.long xx), .second, .val (.long yy), .second, .val (.int (1 : Int32)), .val (.int (0 : Int32)), .val (.int pp), .val (.ref b58), .val (.ref b60), .val (.ref b62), .unset, .unset] []))
      refine go (fun tg kg => XS.lconst X76.here hx rfl (hb hby at_126) kg) ?_
      show G (T76.setTop (mkF m 127 #[.val (.long x0), .second, .val (.long x1), .second, .val (.int x2), .val (.int x3), .val (.long xx), .second, .val (.long yy), .second, .val (.int (1 : Int32)), .val (.int (0 : Int32)), .val (.int pp), .val (.ref b58), .val (.ref b60), .val (.ref b62), .unset, .unset] [(.long (0 : Int64))]))
      refine go (fun tg kg => XS.lstore X76.here hx rfl (hb hby at_127) rfl (l' := #[.val (.long x0), .second, .val (.long x1), .second, .val (.int x2), .val (.int x3), .val (.long xx), .second, .val (.long yy), .second, .val (.int (1 : Int32)), .val (.int (0 : Int32)), .val (.int pp), .val (.ref b58), .val (.ref b60), .val (.ref b62), .val (.long (0 : Int64)), .second]) rfl kg) ?_
      show G (T76.setTop (mkF m 129 #[.val (.long x0), .second, .val (.long x1), .second, .val (.int x2), .val (.int x3), .val (.long xx), .second, .val (.long yy), .second, .val (.int (1 : Int32)), .val (.int (0 : Int32)), .val (.int pp), .val (.ref b58), .val (.ref b60), .val (.ref b62), .val (.long (0 : Int64)), .second] []))
      refine go (fun tg kg => XS.iload X76.here hx rfl (hb hby at_129) rfl kg) ?_
      show G (T76.setTop (mkF m 131 #[.val (.long x0), .second, .val (.long x1), .second, .val (.int x2), .val (.int x3), .val (.long xx), .second, .val (.long yy), .second, .val (.int (1 : Int32)), .val (.int (0 : Int32)), .val (.int pp), .val (.ref b58), .val (.ref b60), .val (.ref b62), .val (.long (0 : Int64)), .second] [(.int (1 : Int32))]))
      refine go (fun tg kg => XS.ifNo X76.here hx rfl (hb hby at_131) rfl ((if0 _ _).trans (feq (by decide)).1) kg) ?_
      show G (T76.setTop (mkF m 134 #[.val (.long x0), .second, .val (.long x1), .second, .val (.int x2), .val (.int x3), .val (.long xx), .second, .val (.long yy), .second, .val (.int (1 : Int32)), .val (.int (0 : Int32)), .val (.int pp), .val (.ref b58), .val (.ref b60), .val (.ref b62), .val (.long (0 : Int64)), .second] []))
      refine go (fun tg kg => XS.lload X76.here hx rfl (hb hby at_134) rfl kg) ?_
      show G (T76.setTop (mkF m 136 #[.val (.long x0), .second, .val (.long x1), .second, .val (.int x2), .val (.int x3), .val (.long xx), .second, .val (.long yy), .second, .val (.int (1 : Int32)), .val (.int (0 : Int32)), .val (.int pp), .val (.ref b58), .val (.ref b60), .val (.ref b62), .val (.long (0 : Int64)), .second] [(.long xx)]))
      refine go (fun tg kg => XS.lstore X76.here hx rfl (hb hby at_136) rfl (l' := #[.val (.long x0), .second, .val (.long x1), .second, .val (.int x2), .val (.int x3), .val (.long xx), .second, .val (.long yy), .second, .val (.int (1 : Int32)), .val (.int (0 : Int32)), .val (.int pp), .val (.ref b58), .val (.ref b60), .val (.ref b62), .val (.long xx), .second]) rfl kg) ?_
      show G (T76.setTop (mkF m 138 #[.val (.long x0), .second, .val (.long x1), .second, .val (.int x2), .val (.int x3), .val (.long xx), .second, .val (.long yy), .second, .val (.int (1 : Int32)), .val (.int (0 : Int32)), .val (.int pp), .val (.ref b58), .val (.ref b60), .val (.ref b62), .val (.long xx), .second] []))
      refine go (fun tg kg => XS.iload X76.here hx rfl (hb hby at_138) rfl kg) ?_
      show G (T76.setTop (mkF m 140 #[.val (.long x0), .second, .val (.long x1), .second, .val (.int x2), .val (.int x3), .val (.long xx), .second, .val (.long yy), .second, .val (.int (1 : Int32)), .val (.int (0 : Int32)), .val (.int pp), .val (.ref b58), .val (.ref b60), .val (.ref b62), .val (.long xx), .second] [(.int (0 : Int32))]))
      refine go (fun tg kg => XS.ifYes X76.here hx rfl (pc0 := 140) (pc' := 152) rfl (hb hby at_140) rfl ((if0 _ _).trans (teq (by decide)).1) (by decide) (by decide) kg) ?_
      show G (T76.setTop (mkF m 152 #[.val (.long x0), .second, .val (.long x1), .second, .val (.int x2), .val (.int x3), .val (.long xx), .second, .val (.long yy), .second, .val (.int (1 : Int32)), .val (.int (0 : Int32)), .val (.int pp), .val (.ref b58), .val (.ref b60), .val (.ref b62), .val (.long xx), .second] []))
      refine go (fun tg kg => XS.aload X76.here hx rfl (hb hby at_152) rfl rfl kg) ?_
      show G (T76.setTop (mkF m 154 #[.val (.long x0), .second, .val (.long x1), .second, .val (.int x2), .val (.int x3), .val (.long xx), .second, .val (.long yy), .second, .val (.int (1 : Int32)), .val (.int (0 : Int32)), .val (.int pp), .val (.ref b58), .val (.ref b60), .val (.ref b62), .val (.long xx), .second] [(.ref b58)]))
      obtain ⟨cq86, kq86, q86a, q86b, q86c⟩ := isOf hZ rfl Ge76
      obtain ⟨_, _, ⟨T86, L86, k86, n86⟩, -, X86, ⟨Lc86, hQ86, l86, y86, z86⟩, st86⟩ := X76.virtualBack hx (y := (⟨"com/example/wary_commit/warycommit/LatencyHistogram", "longest", "()J"⟩ : MethodName)) (z := (⟨"com/example/wary_commit/warycommit/LatencyHistogram", "longest", "()J"⟩ : MethodName)) hown (mvT hZ (hw _ (List.mem_of_getElem? (i := 27) rfl))) (mvT hZ (hw _ (List.mem_of_getElem? (i := 28) rfl))) (notFace_of_selects (args := #[]) (mvT hZ (hw _ (List.mem_of_getElem? (i := 30) rfl)))) (mvT hZ (hw _ (List.mem_of_getElem? (i := 30) rfl))) (mvT hZ (hw _ (List.mem_of_getElem? (i := 29) rfl))) (by decide) (backOf (W := 0) (rm5 l Z a0 hw [] b58 xx T76.heap n0 Z76 Gl76) hZ (hw _ (List.mem_of_getElem? (i := 31) rfl)) (hw _ (List.mem_of_getElem? (i := 4) rfl)) (by decide) (by decide)) q86a q86c (g := (mkF m 154 #[.val (.long x0), .second, .val (.long x1), .second, .val (.int x2), .val (.int x3), .val (.long xx), .second, .val (.long yy), .second, .val (.int (1 : Int32)), .val (.int (0 : Int32)), .val (.int pp), .val (.ref b58), .val (.ref b60), .val (.ref b62), .val (.long xx), .second] [(.ref b58)])) rfl (by rw [hml]; rfl) (Steps.refl _) (argsL := []) (rest := []) (lenOf pd___J rfl) rfl (by show 2 * 0 + _ ≤ _; exact Nat.le_of_eq rfl) (hb hby at_154) (fun _ _ => ⟨rfl, rfl, (by decide : 6 + 0 ≤ _), (by decide : 21897 + 0 ≤ _)⟩)
      dsimp only [Pt.U, Pt.locs, Pt.cells, Pt.slots] at X86 l86 y86 z86 st86 hQ86
      subst l86 y86 z86
      obtain ⟨rfl, Nq86, e86⟩ := hQ86
      have N86 := Fr.app N76 Nq86
      refine go (fun tg kg => st86.trans kg) ?_
      show G (T86.setTop (mkF m 157 #[.val (.long x0), .second, .val (.long x1), .second, .val (.int x2), .val (.int x3), .val (.long xx), .second, .val (.long yy), .second, .val (.int (1 : Int32)), .val (.int (0 : Int32)), .val (.int pp), .val (.ref b58), .val (.ref b60), .val (.ref b62), .val (.long xx), .second] [(.long xx)]))
      refine go (fun tg kg => XS.lload X86.here hx rfl (hb hby at_157) rfl kg) ?_
      show G (T86.setTop (mkF m 159 #[.val (.long x0), .second, .val (.long x1), .second, .val (.int x2), .val (.int x3), .val (.long xx), .second, .val (.long yy), .second, .val (.int (1 : Int32)), .val (.int (0 : Int32)), .val (.int pp), .val (.ref b58), .val (.ref b60), .val (.ref b62), .val (.long xx), .second] [(.long xx), (.long xx)]))
      refine go (fun tg kg => XS.lcmp X86.here hx rfl (hb hby at_159) rfl kg) ?_
      show G (T86.setTop (mkF m 160 #[.val (.long x0), .second, .val (.long x1), .second, .val (.int x2), .val (.int x3), .val (.long xx), .second, .val (.long yy), .second, .val (.int (1 : Int32)), .val (.int (0 : Int32)), .val (.int pp), .val (.ref b58), .val (.ref b60), .val (.ref b62), .val (.long xx), .second] [(.int (lcmpW xx xx))]))
      refine go (fun tg kg => XS.ifYes X86.here hx rfl (pc0 := 160) (pc' := 165) rfl (hb hby at_160) rfl ((if0 _ _).trans (teq ((lw_eq xx xx).mpr (rfl : xx = xx))).1) (by decide) (by decide) kg) ?_
      show G (T86.setTop (mkF m 165 #[.val (.long x0), .second, .val (.long x1), .second, .val (.int x2), .val (.int x3), .val (.long xx), .second, .val (.long yy), .second, .val (.int (1 : Int32)), .val (.int (0 : Int32)), .val (.int pp), .val (.ref b58), .val (.ref b60), .val (.ref b62), .val (.long xx), .second] []))
      refine go (fun tg kg => XS.iload X86.here hx rfl (hb hby at_165) rfl kg) ?_
      show G (T86.setTop (mkF m 167 #[.val (.long x0), .second, .val (.long x1), .second, .val (.int x2), .val (.int x3), .val (.long xx), .second, .val (.long yy), .second, .val (.int (1 : Int32)), .val (.int (0 : Int32)), .val (.int pp), .val (.ref b58), .val (.ref b60), .val (.ref b62), .val (.long xx), .second] [(.int (1 : Int32))]))
      refine go (fun tg kg => XS.ifYes X86.here hx rfl (pc0 := 167) (pc' := 177) rfl (hb hby at_167) rfl ((if0 _ _).trans (feq (by decide)).2) (by decide) (by decide) kg) ?_
      show G (T86.setTop (mkF m 177 #[.val (.long x0), .second, .val (.long x1), .second, .val (.int x2), .val (.int x3), .val (.long xx), .second, .val (.long yy), .second, .val (.int (1 : Int32)), .val (.int (0 : Int32)), .val (.int pp), .val (.ref b58), .val (.ref b60), .val (.ref b62), .val (.long xx), .second] []))
      refine go (fun tg kg => XS.aload X86.here hx rfl (hb hby at_177) rfl rfl kg) ?_
      show G (T86.setTop (mkF m 179 #[.val (.long x0), .second, .val (.long x1), .second, .val (.int x2), .val (.int x3), .val (.long xx), .second, .val (.long yy), .second, .val (.int (1 : Int32)), .val (.int (0 : Int32)), .val (.int pp), .val (.ref b58), .val (.ref b60), .val (.ref b62), .val (.long xx), .second] [(.ref b58)]))
      refine go (fun tg kg => XS.iload X86.here hx rfl (hb hby at_179) rfl kg) ?_
      show G (T86.setTop (mkF m 181 #[.val (.long x0), .second, .val (.long x1), .second, .val (.int x2), .val (.int x3), .val (.long xx), .second, .val (.long yy), .second, .val (.int (1 : Int32)), .val (.int (0 : Int32)), .val (.int pp), .val (.ref b58), .val (.ref b60), .val (.ref b62), .val (.long xx), .second] [(.int pp), (.ref b58)]))
      obtain ⟨cq87, kq87, q87a, q87b, q87c⟩ := isOf hZ e86 Ge76
      obtain ⟨_, _, ⟨T87, L87, k87, n87⟩, -, X87, ⟨Lc87, hQ87, l87, y87, z87⟩, st87⟩ := X86.virtualBack hx (y := (⟨"com/example/wary_commit/warycommit/LatencyHistogram", "percentile", "(I)J"⟩ : MethodName)) (z := (⟨"com/example/wary_commit/warycommit/LatencyHistogram", "percentile", "(I)J"⟩ : MethodName)) hown (mvT hZ (hw _ (List.mem_of_getElem? (i := 52) rfl))) (mvT hZ (hw _ (List.mem_of_getElem? (i := 53) rfl))) (notFace_of_selects (args := #[]) (mvT hZ (hw _ (List.mem_of_getElem? (i := 55) rfl)))) (mvT hZ (hw _ (List.mem_of_getElem? (i := 55) rfl))) (mvT hZ (hw _ (List.mem_of_getElem? (i := 54) rfl))) (by decide) (backOf (W := 0) (rm11 l Z a0 hw [] b58 pp ca59 (own_rec own_z xx) (1 : Int64) xx 7295 T76.heap n0 Z76 Gc76 Gt76 Gl76 Ga76 hpc (by decide) (by decide) (own_stop1 hxx hpc)) hZ (hw _ (List.mem_of_getElem? (i := 56) rfl)) (hw _ (List.mem_of_getElem? (i := 4) rfl)) (by decide) (by decide)) q87a q87c (g := (mkF m 181 #[.val (.long x0), .second, .val (.long x1), .second, .val (.int x2), .val (.int x3), .val (.long xx), .second, .val (.long yy), .second, .val (.int (1 : Int32)), .val (.int (0 : Int32)), .val (.int pp), .val (.ref b58), .val (.ref b60), .val (.ref b62), .val (.long xx), .second] [(.int pp), (.ref b58)])) rfl (by rw [hml]; rfl) (Steps.refl _) (argsL := [(.int pp)]) (rest := []) (lenOf pd__I_J rfl) rfl (by show 2 * 0 + _ ≤ _; exact Nat.le_of_eq rfl) (hb hby at_181) (fun _ _ => ⟨rfl, e86, (by decide : 6 + 0 ≤ _), (by decide : 21897 + 0 ≤ _)⟩)
      dsimp only [Pt.U, Pt.locs, Pt.cells, Pt.slots] at X87 l87 y87 z87 st87 hQ87
      subst l87 y87 z87
      obtain ⟨ip87, hi87, hj87, hn87, rfl, Nq87, e87⟩ := hQ87
      have N87 := Fr.app N86 Nq87
      refine go (fun tg kg => st87.trans kg) ?_
      show G (T87.setTop (mkF m 184 #[.val (.long x0), .second, .val (.long x1), .second, .val (.int x2), .val (.int x3), .val (.long xx), .second, .val (.long yy), .second, .val (.int (1 : Int32)), .val (.int (0 : Int32)), .val (.int pp), .val (.ref b58), .val (.ref b60), .val (.ref b62), .val (.long xx), .second] [(.long (own_minL (own_high (Int32.ofNat ip87)) xx))]))
      refine go (fun tg kg => XS.aload X87.here hx rfl (hb hby at_184) rfl rfl kg) ?_
      show G (T87.setTop (mkF m 186 #[.val (.long x0), .second, .val (.long x1), .second, .val (.int x2), .val (.int x3), .val (.long xx), .second, .val (.long yy), .second, .val (.int (1 : Int32)), .val (.int (0 : Int32)), .val (.int pp), .val (.ref b58), .val (.ref b60), .val (.ref b62), .val (.long xx), .second] [(.ref b62), (.long (own_minL (own_high (Int32.ofNat ip87)) xx))]))
      refine go (fun tg kg => XS.iload X87.here hx rfl (hb hby at_186) rfl kg) ?_
      show G (T87.setTop (mkF m 188 #[.val (.long x0), .second, .val (.long x1), .second, .val (.int x2), .val (.int x3), .val (.long xx), .second, .val (.long yy), .second, .val (.int (1 : Int32)), .val (.int (0 : Int32)), .val (.int pp), .val (.ref b58), .val (.ref b60), .val (.ref b62), .val (.long xx), .second] [(.int pp), (.ref b62), (.long (own_minL (own_high (Int32.ofNat ip87)) xx))]))
      have Fa89 := (Gc70.keep K76 (ninS (Ne.symm (Nat.ne_of_lt (Nat.lt_of_lt_of_le ((Gl59.ext E60).keep K61 (ninS (Nat.ne_of_lt (Nat.lt_of_lt_of_le Gl59.lt (Nat.le_of_eq g60.symm))) nin0)).lt (Nat.le_of_eq g62.symm)))) (ninS (Ne.symm (Nat.ne_of_lt (Nat.lt_of_lt_of_le ((Ga59.ext E60).keep K61 (ninS (Nat.ne_of_lt (Nat.lt_of_lt_of_le Ga59.lt (Nat.le_of_eq g60.symm))) nin0)).lt (Nat.le_of_eq g62.symm)))) nin0)))
      have Fa90 := (Gt70.keep K76 (ninS (Ne.symm (Nat.ne_of_lt (Nat.lt_of_lt_of_le ((Gl59.ext E60).keep K61 (ninS (Nat.ne_of_lt (Nat.lt_of_lt_of_le Gl59.lt (Nat.le_of_eq g60.symm))) nin0)).lt (Nat.le_of_eq g62.symm)))) (ninS (Ne.symm (Nat.ne_of_lt (Nat.lt_of_lt_of_le ((Ga59.ext E60).keep K61 (ninS (Nat.ne_of_lt (Nat.lt_of_lt_of_le Ga59.lt (Nat.le_of_eq g60.symm))) nin0)).lt (Nat.le_of_eq g62.symm)))) nin0)))
      have Fa91 := (Gl70.keep K76 (ninS (Ne.symm (Nat.ne_of_lt (Nat.lt_of_lt_of_le ((Gl59.ext E60).keep K61 (ninS (Nat.ne_of_lt (Nat.lt_of_lt_of_le Gl59.lt (Nat.le_of_eq g60.symm))) nin0)).lt (Nat.le_of_eq g62.symm)))) (ninS (Ne.symm (Nat.ne_of_lt (Nat.lt_of_lt_of_le ((Ga59.ext E60).keep K61 (ninS (Nat.ne_of_lt (Nat.lt_of_lt_of_le Ga59.lt (Nat.le_of_eq g60.symm))) nin0)).lt (Nat.le_of_eq g62.symm)))) nin0)))
      have Fa92 := (Ga70.keep K76 (ninS (Ne.symm (Nat.ne_of_lt (Nat.lt_of_lt_of_le (((Gl59.ext E60).keep K61 (ninS (Nat.ne_of_lt (Nat.lt_of_lt_of_le Gl59.lt (Nat.le_of_eq g60.symm))) nin0)).ext E62).lt sz63))) (ninS (Ne.symm (Nat.ne_of_lt (Nat.lt_of_lt_of_le (((Ga59.ext E60).keep K61 (ninS (Nat.ne_of_lt (Nat.lt_of_lt_of_le Ga59.lt (Nat.le_of_eq g60.symm))) nin0)).ext E62).lt sz63))) nin0)))
      have Fa93 := (Ge70.keep K76)
      obtain ⟨cq88, kq88, q88a, q88b, q88c⟩ := isOf hZ e87 Fa93
      obtain ⟨_, _, ⟨T88, L88, k88, n88⟩, -, X88, ⟨Lc88, hQ88, l88, y88, z88⟩, st88⟩ := X87.virtualBack hx (y := (⟨"com/example/wary_commit/warycommit/LatencyHistogram", "percentile", "(I)J"⟩ : MethodName)) (z := (⟨"com/example/wary_commit/warycommit/LatencyHistogram", "percentile", "(I)J"⟩ : MethodName)) hown (mvT hZ (hw _ (List.mem_of_getElem? (i := 52) rfl))) (mvT hZ (hw _ (List.mem_of_getElem? (i := 53) rfl))) (notFace_of_selects (args := #[]) (mvT hZ (hw _ (List.mem_of_getElem? (i := 55) rfl)))) (mvT hZ (hw _ (List.mem_of_getElem? (i := 55) rfl))) (mvT hZ (hw _ (List.mem_of_getElem? (i := 54) rfl))) (by decide) (backOf (W := 2) (rm11 l Z a0 hw [] b62 pp ca63 (own_rec own_z xx) (1 : Int64) xx 7295 T76.heap n0 Z76 Fa89 Fa90 Fa91 Fa92 hpc (by decide) (by decide) (own_stop1 hxx hpc)) hZ (hw _ (List.mem_of_getElem? (i := 56) rfl)) (hw _ (List.mem_of_getElem? (i := 4) rfl)) (by decide) (by decide)) q88a q88c (g := (mkF m 188 #[.val (.long x0), .second, .val (.long x1), .second, .val (.int x2), .val (.int x3), .val (.long xx), .second, .val (.long yy), .second, .val (.int (1 : Int32)), .val (.int (0 : Int32)), .val (.int pp), .val (.ref b58), .val (.ref b60), .val (.ref b62), .val (.long xx), .second] [(.int pp), (.ref b62), (.long (own_minL (own_high (Int32.ofNat ip87)) xx))])) rfl (by rw [hml]; rfl) (Steps.refl _) (argsL := [(.int pp)]) (rest := [(.long (own_minL (own_high (Int32.ofNat ip87)) xx))]) (lenOf pd__I_J rfl) rfl (by show 2 * 0 + _ ≤ _; exact Nat.le_of_eq rfl) (hb hby at_188) (fun _ _ => ⟨rfl, e87, (by decide : 6 + 0 ≤ _), (by decide : 21897 + 0 ≤ _)⟩)
      dsimp only [Pt.U, Pt.locs, Pt.cells, Pt.slots] at X88 l88 y88 z88 st88 hQ88
      subst l88 y88 z88
      obtain ⟨ip88, hi88, hj88, hn88, rfl, Nq88, e88⟩ := hQ88
      have N88 := Fr.app N87 Nq88
      refine go (fun tg kg => st88.trans kg) ?_
      show G (T88.setTop (mkF m 191 #[.val (.long x0), .second, .val (.long x1), .second, .val (.int x2), .val (.int x3), .val (.long xx), .second, .val (.long yy), .second, .val (.int (1 : Int32)), .val (.int (0 : Int32)), .val (.int pp), .val (.ref b58), .val (.ref b60), .val (.ref b62), .val (.long xx), .second] [(.long (own_minL (own_high (Int32.ofNat ip88)) xx)), (.long (own_minL (own_high (Int32.ofNat ip87)) xx))]))
      refine go (fun tg kg => XS.lcmp X88.here hx rfl (hb hby at_191) rfl kg) ?_
      show G (T88.setTop (mkF m 192 #[.val (.long x0), .second, .val (.long x1), .second, .val (.int x2), .val (.int x3), .val (.long xx), .second, .val (.long yy), .second, .val (.int (1 : Int32)), .val (.int (0 : Int32)), .val (.int pp), .val (.ref b58), .val (.ref b60), .val (.ref b62), .val (.long xx), .second] [(.int (lcmpW (own_minL (own_high (Int32.ofNat ip87)) xx) (own_minL (own_high (Int32.ofNat ip88)) xx)))]))
      refine go (fun tg kg => XS.ifNo X88.here hx rfl (hb hby at_192) rfl ((if0 _ _).trans (teq ((lw_eq (own_minL (own_high (Int32.ofNat ip87)) xx) (own_minL (own_high (Int32.ofNat ip88)) xx)).mpr (by rw [own_uniq hj87 hn87 hj88 hn88]))).2) kg) ?_
      show G (T88.setTop (mkF m 195 #[.val (.long x0), .second, .val (.long x1), .second, .val (.int x2), .val (.int x3), .val (.long xx), .second, .val (.long yy), .second, .val (.int (1 : Int32)), .val (.int (0 : Int32)), .val (.int pp), .val (.ref b58), .val (.ref b60), .val (.ref b62), .val (.long xx), .second] []))
      refine go (fun tg kg => XS.iconst X88.here hx rfl (hb hby at_195) kg) ?_
      show G (T88.setTop (mkF m 196 #[.val (.long x0), .second, .val (.long x1), .second, .val (.int x2), .val (.int x3), .val (.long xx), .second, .val (.long yy), .second, .val (.int (1 : Int32)), .val (.int (0 : Int32)), .val (.int pp), .val (.ref b58), .val (.ref b60), .val (.ref b62), .val (.long xx), .second] [(.int (1 : Int32))]))
      refine go (fun tg kg => XS.goto X88.here hx rfl (pc0 := 196) (pc' := 200) rfl (hb hby at_196) (by decide) (by decide) kg) ?_
      show G (T88.setTop (mkF m 200 #[.val (.long x0), .second, .val (.long x1), .second, .val (.int x2), .val (.int x3), .val (.long xx), .second, .val (.long yy), .second, .val (.int (1 : Int32)), .val (.int (0 : Int32)), .val (.int pp), .val (.ref b58), .val (.ref b60), .val (.ref b62), .val (.long xx), .second] [(.int (1 : Int32))]))
      refine fin (some (.int (1 : Int32))) X88 (fun h => absurd h (by decide)) (fun fs hr => retN X88 hx (t := .boolean) hret (by simp) (hb hby at_200) hr) (by decide) (by decide) ?_
      rw [e88]
      exact ⟨rfl, N88⟩
    · refine go (fun tg kg => XS.ifNo X0.here hx rfl (hb hby at_32) rfl ((if0 _ _).trans (feq hc57).1) kg) ?_
      show G (s₁.setTop (mkF m 35 #[.val (.long x0), .second, .val (.long x1), .second, .val (.int x2), .val (.int x3), .val (.long xx), .second, .val (.long yy), .second, .val (.int (1 : Int32)), .unset, .unset, .unset, .unset, .unset, .unset, .unset] []))
      refine go (fun tg kg => XS.iconst X0.here hx rfl (hb hby at_35) kg) ?_
      show G (s₁.setTop (mkF m 36 #[.val (.long x0), .second, .val (.long x1), .second, .val (.int x2), .val (.int x3), .val (.long xx), .second, .val (.long yy), .second, .val (.int (1 : Int32)), .unset, .unset, .unset, .unset, .unset, .unset, .unset] [(.int (1 : Int32))]))
      refine go (fun tg kg => XS.goto X0.here hx rfl (pc0 := 36) (pc' := 40) rfl (hb hby at_36) (by decide) (by decide) kg) ?_
      show G (s₁.setTop (mkF m 40 #[.val (.long x0), .second, .val (.long x1), .second, .val (.int x2), .val (.int x3), .val (.long xx), .second, .val (.long yy), .second, .val (.int (1 : Int32)), .unset, .unset, .unset, .unset, .unset, .unset, .unset] [(.int (1 : Int32))]))
      refine go (fun tg kg => XS.istore X0.here hx rfl (hb hby at_40) rfl (l' := #[.val (.long x0), .second, .val (.long x1), .second, .val (.int x2), .val (.int x3), .val (.long xx), .second, .val (.long yy), .second, .val (.int (1 : Int32)), .val (.int (1 : Int32)), .unset, .unset, .unset, .unset, .unset, .unset]) rfl kg) ?_
      show G (s₁.setTop (mkF m 42 #[.val (.long x0), .second, .val (.long x1), .second, .val (.int x2), .val (.int x3), .val (.long xx), .second, .val (.long yy), .second, .val (.int (1 : Int32)), .val (.int (1 : Int32)), .unset, .unset, .unset, .unset, .unset, .unset] []))
      refine go (fun tg kg => XS.iload X0.here hx rfl (hb hby at_42) rfl kg) ?_
      show G (s₁.setTop (mkF m 44 #[.val (.long x0), .second, .val (.long x1), .second, .val (.int x2), .val (.int x3), .val (.long xx), .second, .val (.long yy), .second, .val (.int (1 : Int32)), .val (.int (1 : Int32)), .unset, .unset, .unset, .unset, .unset, .unset] [(.int x3)]))
      refine go (fun tg kg => X0.ldcInt hx hown (mvT hZ (hw _ (List.mem_of_getElem? (i := 1) rfl))) (g := (mkF m 44 #[.val (.long x0), .second, .val (.long x1), .second, .val (.int x2), .val (.int x3), .val (.long xx), .second, .val (.long yy), .second, .val (.int (1 : Int32)), .val (.int (1 : Int32)), .unset, .unset, .unset, .unset, .unset, .unset] [(.int x3)])) rfl (hb hby at_44) _ kg) ?_
      show G (s₁.setTop (mkF m 46 #[.val (.long x0), .second, .val (.long x1), .second, .val (.int x2), .val (.int x3), .val (.long xx), .second, .val (.long yy), .second, .val (.int (1 : Int32)), .val (.int (1 : Int32)), .unset, .unset, .unset, .unset, .unset, .unset] [(.int (2147483647 : Int32)), (.int x3)]))
      refine go (fun tg kg => XS.iand X0.here hx rfl (hb hby at_46) rfl kg) ?_
      show G (s₁.setTop (mkF m 47 #[.val (.long x0), .second, .val (.long x1), .second, .val (.int x2), .val (.int x3), .val (.long xx), .second, .val (.long yy), .second, .val (.int (1 : Int32)), .val (.int (1 : Int32)), .unset, .unset, .unset, .unset, .unset, .unset] [(.int (x3 &&& (2147483647 : Int32)))]))
      refine go (fun tg kg => XS.bipush X0.here hx rfl (hb hby at_47) kg) ?_
      show G (s₁.setTop (mkF m 49 #[.val (.long x0), .second, .val (.long x1), .second, .val (.int x2), .val (.int x3), .val (.long xx), .second, .val (.long yy), .second, .val (.int (1 : Int32)), .val (.int (1 : Int32)), .unset, .unset, .unset, .unset, .unset, .unset] [(.int (100 : Int32)), (.int (x3 &&& (2147483647 : Int32)))]))
      refine go (fun tg kg => iremM X0 hx rfl (hb hby at_49) rfl (by decide) kg) ?_
      show G (s₁.setTop (mkF m 50 #[.val (.long x0), .second, .val (.long x1), .second, .val (.int x2), .val (.int x3), .val (.long xx), .second, .val (.long yy), .second, .val (.int (1 : Int32)), .val (.int (1 : Int32)), .unset, .unset, .unset, .unset, .unset, .unset] [(.int ((x3 &&& (2147483647 : Int32)) % (100 : Int32)))]))
      refine go (fun tg kg => XS.iconst X0.here hx rfl (hb hby at_50) kg) ?_
      show G (s₁.setTop (mkF m 51 #[.val (.long x0), .second, .val (.long x1), .second, .val (.int x2), .val (.int x3), .val (.long xx), .second, .val (.long yy), .second, .val (.int (1 : Int32)), .val (.int (1 : Int32)), .unset, .unset, .unset, .unset, .unset, .unset] [(.int (1 : Int32)), (.int ((x3 &&& (2147483647 : Int32)) % (100 : Int32)))]))
      refine go (fun tg kg => XS.iadd X0.here hx rfl (hb hby at_51) rfl kg) ?_
      show G (s₁.setTop (mkF m 52 #[.val (.long x0), .second, .val (.long x1), .second, .val (.int x2), .val (.int x3), .val (.long xx), .second, .val (.long yy), .second, .val (.int (1 : Int32)), .val (.int (1 : Int32)), .unset, .unset, .unset, .unset, .unset, .unset] [(.int (((x3 &&& (2147483647 : Int32)) % (100 : Int32)) + (1 : Int32)))]))
      refine go (fun tg kg => XS.istore X0.here hx rfl (hb hby at_52) rfl (l' := #[.val (.long x0), .second, .val (.long x1), .second, .val (.int x2), .val (.int x3), .val (.long xx), .second, .val (.long yy), .second, .val (.int (1 : Int32)), .val (.int (1 : Int32)), .val (.int (((x3 &&& (2147483647 : Int32)) % (100 : Int32)) + (1 : Int32))), .unset, .unset, .unset, .unset, .unset]) rfl kg) ?_
      show G (s₁.setTop (mkF m 54 #[.val (.long x0), .second, .val (.long x1), .second, .val (.int x2), .val (.int x3), .val (.long xx), .second, .val (.long yy), .second, .val (.int (1 : Int32)), .val (.int (1 : Int32)), .val (.int (((x3 &&& (2147483647 : Int32)) % (100 : Int32)) + (1 : Int32))), .unset, .unset, .unset, .unset, .unset] []))
      obtain ⟨pp, hepp⟩ : ∃ z : Int32, z = (((x3 &&& (2147483647 : Int32)) % (100 : Int32)) + (1 : Int32)) := ⟨_, rfl⟩
      have hpc := own_pc x3 hepp
      rw [← hepp]
      show G (s₁.setTop (mkF m 54 #[.val (.long x0), .second, .val (.long x1), .second, .val (.int x2), .val (.int x3), .val (.long xx), .second, .val (.long yy), .second, .val (.int (1 : Int32)), .val (.int (1 : Int32)), .val (.int pp), .unset, .unset, .unset, .unset, .unset] []))
      obtain ⟨T94, h94, X94, e94, E94, A94, D94, -, st94⟩ := newO X0 hx hZ hown (hw _ (List.mem_of_getElem? (i := 2) rfl)) (hw _ (List.mem_of_getElem? (i := 3) rfl)) (hw _ (List.mem_of_getElem? (i := 4) rfl)) e0 (g := (mkF m 54 #[.val (.long x0), .second, .val (.long x1), .second, .val (.int x2), .val (.int x3), .val (.long xx), .second, .val (.long yy), .second, .val (.int (1 : Int32)), .val (.int (1 : Int32)), .val (.int pp), .unset, .unset, .unset, .unset, .unset] [])) rfl (hb hby at_54) (by decide) (by decide)
      obtain ⟨b94, g94⟩ : ∃ z, z = h0.size := ⟨_, rfl⟩
      rw [← g94] at A94 D94 st94
      refine go st94 ?_
      have ge_b94 : n0 ≤ b94 := Nat.le_trans Z0 (Nat.le_of_eq g94.symm)
      have Z94 := Nat.le_trans Z0 E94.1
      have F94_counts : Fld Z h94 b94 "com/example/wary_commit/warycommit/LatencyHistogram" "counts" "[J" .null := D94 (Or.inr (hw _ (List.mem_of_getElem? (i := 13) rfl))) (ty := (.array .long)) (by decide)
      have F94_total : Fld Z h94 b94 "com/example/wary_commit/warycommit/LatencyHistogram" "total" "J" (.long (0 : Int64)) := D94 (Or.inl (hw _ (List.mem_of_getElem? (i := 20) rfl))) (ty := .long) (by decide)
      have F94_longest : Fld Z h94 b94 "com/example/wary_commit/warycommit/LatencyHistogram" "longest" "J" (.long (0 : Int64)) := D94 (Or.inl (hw _ (List.mem_of_getElem? (i := 22) rfl))) (ty := .long) (by decide)
      show G (T94.setTop (mkF m 57 #[.val (.long x0), .second, .val (.long x1), .second, .val (.int x2), .val (.int x3), .val (.long xx), .second, .val (.long yy), .second, .val (.int (1 : Int32)), .val (.int (1 : Int32)), .val (.int pp), .unset, .unset, .unset, .unset, .unset] [(.ref b94)]))
      refine go (fun tg kg => XS.dup X94.here hx rfl (hb hby at_57) rfl rfl kg) ?_
      show G (T94.setTop (mkF m 58 #[.val (.long x0), .second, .val (.long x1), .second, .val (.int x2), .val (.int x3), .val (.long xx), .second, .val (.long yy), .second, .val (.int (1 : Int32)), .val (.int (1 : Int32)), .val (.int pp), .unset, .unset, .unset, .unset, .unset] [(.ref b94), (.ref b94)]))
      obtain ⟨_, _, ⟨T95, L95, k95, n95⟩, -, X95, ⟨Lc95, hQ95, l95, y95, z95⟩, st95⟩ := X94.specialBack hx (y := (⟨"com/example/wary_commit/warycommit/LatencyHistogram", "<init>", "()V"⟩ : MethodName)) rfl hown (mvT hZ (hw _ (List.mem_of_getElem? (i := 5) rfl))) (mvT hZ (hw _ (List.mem_of_getElem? (i := 6) rfl))) (mvT hZ (hw _ (List.mem_of_getElem? (i := 7) rfl))) (by decide) (backOf (W := 1) (rm1 l Z a0 hw [] b94 h94 n0 Z94 A94 ge_b94 F94_counts F94_total F94_longest) hZ (hw _ (List.mem_of_getElem? (i := 7) rfl)) (hw _ (List.mem_of_getElem? (i := 4) rfl)) (by decide) (by decide)) (g := (mkF m 58 #[.val (.long x0), .second, .val (.long x1), .second, .val (.int x2), .val (.int x3), .val (.long xx), .second, .val (.long yy), .second, .val (.int (1 : Int32)), .val (.int (1 : Int32)), .val (.int pp), .unset, .unset, .unset, .unset, .unset] [(.ref b94), (.ref b94)])) rfl (by rw [hml]; rfl) (Steps.refl _) (a := b94) (argsL := []) (rest := [(.ref b94)]) (lenOf pd___V rfl) rfl (by show 2 * 0 + _ ≤ _; exact Nat.le_of_eq rfl) (hb hby at_58) (fun _ _ => ⟨rfl, e94, (by decide : 1 + 1 ≤ _), (by decide : 3 + 7296 ≤ _)⟩)
      dsimp only [Pt.U, Pt.locs, Pt.cells, Pt.slots] at X95 l95 y95 z95 st95 hQ95
      subst l95 y95 z95
      obtain ⟨rfl, ca95, Nq95, K95, sz95, ge_ca95, Ge95, Gc95, Gt95, Gl95, Ga95⟩ := hQ95
      have Z95 := Nat.le_trans Z94 K95.1
      have N95 := Fr.app N0 Nq95
      refine go (fun tg kg => st95.trans kg) ?_
      show G (T95.setTop (mkF m 61 #[.val (.long x0), .second, .val (.long x1), .second, .val (.int x2), .val (.int x3), .val (.long xx), .second, .val (.long yy), .second, .val (.int (1 : Int32)), .val (.int (1 : Int32)), .val (.int pp), .unset, .unset, .unset, .unset, .unset] [(.ref b94)]))
      refine go (fun tg kg => XS.astore X95.here hx rfl (hb hby at_61) rfl rfl (l' := #[.val (.long x0), .second, .val (.long x1), .second, .val (.int x2), .val (.int x3), .val (.long xx), .second, .val (.long yy), .second, .val (.int (1 : Int32)), .val (.int (1 : Int32)), .val (.int pp), .val (.ref b94), .unset, .unset, .unset, .unset]) rfl kg) ?_
      show G (T95.setTop (mkF m 63 #[.val (.long x0), .second, .val (.long x1), .second, .val (.int x2), .val (.int x3), .val (.long xx), .second, .val (.long yy), .second, .val (.int (1 : Int32)), .val (.int (1 : Int32)), .val (.int pp), .val (.ref b94), .unset, .unset, .unset, .unset] []))
      obtain ⟨T96, h96, X96, e96, E96, A96, D96, -, st96⟩ := newO X95 hx hZ hown (hw _ (List.mem_of_getElem? (i := 2) rfl)) (hw _ (List.mem_of_getElem? (i := 3) rfl)) (hw _ (List.mem_of_getElem? (i := 4) rfl)) rfl (g := (mkF m 63 #[.val (.long x0), .second, .val (.long x1), .second, .val (.int x2), .val (.int x3), .val (.long xx), .second, .val (.long yy), .second, .val (.int (1 : Int32)), .val (.int (1 : Int32)), .val (.int pp), .val (.ref b94), .unset, .unset, .unset, .unset] [])) rfl (hb hby at_63) (by decide) (by decide)
      obtain ⟨b96, g96⟩ : ∃ z, z = T95.heap.size := ⟨_, rfl⟩
      rw [← g96] at A96 D96 st96
      refine go st96 ?_
      have ge_b96 : n0 ≤ b96 := Nat.le_trans Z95 (Nat.le_of_eq g96.symm)
      have Z96 := Nat.le_trans Z95 E96.1
      have F96_counts : Fld Z h96 b96 "com/example/wary_commit/warycommit/LatencyHistogram" "counts" "[J" .null := D96 (Or.inr (hw _ (List.mem_of_getElem? (i := 13) rfl))) (ty := (.array .long)) (by decide)
      have F96_total : Fld Z h96 b96 "com/example/wary_commit/warycommit/LatencyHistogram" "total" "J" (.long (0 : Int64)) := D96 (Or.inl (hw _ (List.mem_of_getElem? (i := 20) rfl))) (ty := .long) (by decide)
      have F96_longest : Fld Z h96 b96 "com/example/wary_commit/warycommit/LatencyHistogram" "longest" "J" (.long (0 : Int64)) := D96 (Or.inl (hw _ (List.mem_of_getElem? (i := 22) rfl))) (ty := .long) (by decide)
      show G (T96.setTop (mkF m 66 #[.val (.long x0), .second, .val (.long x1), .second, .val (.int x2), .val (.int x3), .val (.long xx), .second, .val (.long yy), .second, .val (.int (1 : Int32)), .val (.int (1 : Int32)), .val (.int pp), .val (.ref b94), .unset, .unset, .unset, .unset] [(.ref b96)]))
      refine go (fun tg kg => XS.dup X96.here hx rfl (hb hby at_66) rfl rfl kg) ?_
      show G (T96.setTop (mkF m 67 #[.val (.long x0), .second, .val (.long x1), .second, .val (.int x2), .val (.int x3), .val (.long xx), .second, .val (.long yy), .second, .val (.int (1 : Int32)), .val (.int (1 : Int32)), .val (.int pp), .val (.ref b94), .unset, .unset, .unset, .unset] [(.ref b96), (.ref b96)]))
      obtain ⟨_, _, ⟨T97, L97, k97, n97⟩, -, X97, ⟨Lc97, hQ97, l97, y97, z97⟩, st97⟩ := X96.specialBack hx (y := (⟨"com/example/wary_commit/warycommit/LatencyHistogram", "<init>", "()V"⟩ : MethodName)) rfl hown (mvT hZ (hw _ (List.mem_of_getElem? (i := 5) rfl))) (mvT hZ (hw _ (List.mem_of_getElem? (i := 6) rfl))) (mvT hZ (hw _ (List.mem_of_getElem? (i := 7) rfl))) (by decide) (backOf (W := 1) (rm1 l Z a0 hw [] b96 h96 n0 Z96 A96 ge_b96 F96_counts F96_total F96_longest) hZ (hw _ (List.mem_of_getElem? (i := 7) rfl)) (hw _ (List.mem_of_getElem? (i := 4) rfl)) (by decide) (by decide)) (g := (mkF m 67 #[.val (.long x0), .second, .val (.long x1), .second, .val (.int x2), .val (.int x3), .val (.long xx), .second, .val (.long yy), .second, .val (.int (1 : Int32)), .val (.int (1 : Int32)), .val (.int pp), .val (.ref b94), .unset, .unset, .unset, .unset] [(.ref b96), (.ref b96)])) rfl (by rw [hml]; rfl) (Steps.refl _) (a := b96) (argsL := []) (rest := [(.ref b96)]) (lenOf pd___V rfl) rfl (by show 2 * 0 + _ ≤ _; exact Nat.le_of_eq rfl) (hb hby at_67) (fun _ _ => ⟨rfl, e96, (by decide : 3 + 1 ≤ _), (by decide : 7302 + 7296 ≤ _)⟩)
      dsimp only [Pt.U, Pt.locs, Pt.cells, Pt.slots] at X97 l97 y97 z97 st97 hQ97
      subst l97 y97 z97
      obtain ⟨rfl, ca97, Nq97, K97, sz97, ge_ca97, Ge97, Gc97, Gt97, Gl97, Ga97⟩ := hQ97
      have Z97 := Nat.le_trans Z96 K97.1
      have N97 := Fr.app N95 Nq97
      refine go (fun tg kg => st97.trans kg) ?_
      show G (T97.setTop (mkF m 70 #[.val (.long x0), .second, .val (.long x1), .second, .val (.int x2), .val (.int x3), .val (.long xx), .second, .val (.long yy), .second, .val (.int (1 : Int32)), .val (.int (1 : Int32)), .val (.int pp), .val (.ref b94), .unset, .unset, .unset, .unset] [(.ref b96)]))
      refine go (fun tg kg => XS.astore X97.here hx rfl (hb hby at_70) rfl rfl (l' := #[.val (.long x0), .second, .val (.long x1), .second, .val (.int x2), .val (.int x3), .val (.long xx), .second, .val (.long yy), .second, .val (.int (1 : Int32)), .val (.int (1 : Int32)), .val (.int pp), .val (.ref b94), .val (.ref b96), .unset, .unset, .unset]) rfl kg) ?_
      show G (T97.setTop (mkF m 72 #[.val (.long x0), .second, .val (.long x1), .second, .val (.int x2), .val (.int x3), .val (.long xx), .second, .val (.long yy), .second, .val (.int (1 : Int32)), .val (.int (1 : Int32)), .val (.int pp), .val (.ref b94), .val (.ref b96), .unset, .unset, .unset] []))
      obtain ⟨T98, h98, X98, e98, E98, A98, D98, -, st98⟩ := newO X97 hx hZ hown (hw _ (List.mem_of_getElem? (i := 2) rfl)) (hw _ (List.mem_of_getElem? (i := 3) rfl)) (hw _ (List.mem_of_getElem? (i := 4) rfl)) rfl (g := (mkF m 72 #[.val (.long x0), .second, .val (.long x1), .second, .val (.int x2), .val (.int x3), .val (.long xx), .second, .val (.long yy), .second, .val (.int (1 : Int32)), .val (.int (1 : Int32)), .val (.int pp), .val (.ref b94), .val (.ref b96), .unset, .unset, .unset] [])) rfl (hb hby at_72) (by decide) (by decide)
      obtain ⟨b98, g98⟩ : ∃ z, z = T97.heap.size := ⟨_, rfl⟩
      rw [← g98] at A98 D98 st98
      refine go st98 ?_
      have ge_b98 : n0 ≤ b98 := Nat.le_trans Z97 (Nat.le_of_eq g98.symm)
      have Z98 := Nat.le_trans Z97 E98.1
      have F98_counts : Fld Z h98 b98 "com/example/wary_commit/warycommit/LatencyHistogram" "counts" "[J" .null := D98 (Or.inr (hw _ (List.mem_of_getElem? (i := 13) rfl))) (ty := (.array .long)) (by decide)
      have F98_total : Fld Z h98 b98 "com/example/wary_commit/warycommit/LatencyHistogram" "total" "J" (.long (0 : Int64)) := D98 (Or.inl (hw _ (List.mem_of_getElem? (i := 20) rfl))) (ty := .long) (by decide)
      have F98_longest : Fld Z h98 b98 "com/example/wary_commit/warycommit/LatencyHistogram" "longest" "J" (.long (0 : Int64)) := D98 (Or.inl (hw _ (List.mem_of_getElem? (i := 22) rfl))) (ty := .long) (by decide)
      show G (T98.setTop (mkF m 75 #[.val (.long x0), .second, .val (.long x1), .second, .val (.int x2), .val (.int x3), .val (.long xx), .second, .val (.long yy), .second, .val (.int (1 : Int32)), .val (.int (1 : Int32)), .val (.int pp), .val (.ref b94), .val (.ref b96), .unset, .unset, .unset] [(.ref b98)]))
      refine go (fun tg kg => XS.dup X98.here hx rfl (hb hby at_75) rfl rfl kg) ?_
      show G (T98.setTop (mkF m 76 #[.val (.long x0), .second, .val (.long x1), .second, .val (.int x2), .val (.int x3), .val (.long xx), .second, .val (.long yy), .second, .val (.int (1 : Int32)), .val (.int (1 : Int32)), .val (.int pp), .val (.ref b94), .val (.ref b96), .unset, .unset, .unset] [(.ref b98), (.ref b98)]))
      obtain ⟨_, _, ⟨T99, L99, k99, n99⟩, -, X99, ⟨Lc99, hQ99, l99, y99, z99⟩, st99⟩ := X98.specialBack hx (y := (⟨"com/example/wary_commit/warycommit/LatencyHistogram", "<init>", "()V"⟩ : MethodName)) rfl hown (mvT hZ (hw _ (List.mem_of_getElem? (i := 5) rfl))) (mvT hZ (hw _ (List.mem_of_getElem? (i := 6) rfl))) (mvT hZ (hw _ (List.mem_of_getElem? (i := 7) rfl))) (by decide) (backOf (W := 1) (rm1 l Z a0 hw [] b98 h98 n0 Z98 A98 ge_b98 F98_counts F98_total F98_longest) hZ (hw _ (List.mem_of_getElem? (i := 7) rfl)) (hw _ (List.mem_of_getElem? (i := 4) rfl)) (by decide) (by decide)) (g := (mkF m 76 #[.val (.long x0), .second, .val (.long x1), .second, .val (.int x2), .val (.int x3), .val (.long xx), .second, .val (.long yy), .second, .val (.int (1 : Int32)), .val (.int (1 : Int32)), .val (.int pp), .val (.ref b94), .val (.ref b96), .unset, .unset, .unset] [(.ref b98), (.ref b98)])) rfl (by rw [hml]; rfl) (Steps.refl _) (a := b98) (argsL := []) (rest := [(.ref b98)]) (lenOf pd___V rfl) rfl (by show 2 * 0 + _ ≤ _; exact Nat.le_of_eq rfl) (hb hby at_76) (fun _ _ => ⟨rfl, e98, (by decide : 5 + 1 ≤ _), (by decide : 14601 + 7296 ≤ _)⟩)
      dsimp only [Pt.U, Pt.locs, Pt.cells, Pt.slots] at X99 l99 y99 z99 st99 hQ99
      subst l99 y99 z99
      obtain ⟨rfl, ca99, Nq99, K99, sz99, ge_ca99, Ge99, Gc99, Gt99, Gl99, Ga99⟩ := hQ99
      have Z99 := Nat.le_trans Z98 K99.1
      have N99 := Fr.app N97 Nq99
      refine go (fun tg kg => st99.trans kg) ?_
      show G (T99.setTop (mkF m 79 #[.val (.long x0), .second, .val (.long x1), .second, .val (.int x2), .val (.int x3), .val (.long xx), .second, .val (.long yy), .second, .val (.int (1 : Int32)), .val (.int (1 : Int32)), .val (.int pp), .val (.ref b94), .val (.ref b96), .unset, .unset, .unset] [(.ref b98)]))
      refine go (fun tg kg => XS.astore X99.here hx rfl (hb hby at_79) rfl rfl (l' := #[.val (.long x0), .second, .val (.long x1), .second, .val (.int x2), .val (.int x3), .val (.long xx), .second, .val (.long yy), .second, .val (.int (1 : Int32)), .val (.int (1 : Int32)), .val (.int pp), .val (.ref b94), .val (.ref b96), .val (.ref b98), .unset, .unset]) rfl kg) ?_
      show G (T99.setTop (mkF m 81 #[.val (.long x0), .second, .val (.long x1), .second, .val (.int x2), .val (.int x3), .val (.long xx), .second, .val (.long yy), .second, .val (.int (1 : Int32)), .val (.int (1 : Int32)), .val (.int pp), .val (.ref b94), .val (.ref b96), .val (.ref b98), .unset, .unset] []))
      refine go (fun tg kg => XS.iload X99.here hx rfl (hb hby at_81) rfl kg) ?_
      show G (T99.setTop (mkF m 83 #[.val (.long x0), .second, .val (.long x1), .second, .val (.int x2), .val (.int x3), .val (.long xx), .second, .val (.long yy), .second, .val (.int (1 : Int32)), .val (.int (1 : Int32)), .val (.int pp), .val (.ref b94), .val (.ref b96), .val (.ref b98), .unset, .unset] [(.int (1 : Int32))]))
      refine go (fun tg kg => XS.ifNo X99.here hx rfl (hb hby at_83) rfl ((if0 _ _).trans (feq (by decide)).1) kg) ?_
      show G (T99.setTop (mkF m 86 #[.val (.long x0), .second, .val (.long x1), .second, .val (.int x2), .val (.int x3), .val (.long xx), .second, .val (.long yy), .second, .val (.int (1 : Int32)), .val (.int (1 : Int32)), .val (.int pp), .val (.ref b94), .val (.ref b96), .val (.ref b98), .unset, .unset] []))
      refine go (fun tg kg => XS.aload X99.here hx rfl (hb hby at_86) rfl rfl kg) ?_
      show G (T99.setTop (mkF m 88 #[.val (.long x0), .second, .val (.long x1), .second, .val (.int x2), .val (.int x3), .val (.long xx), .second, .val (.long yy), .second, .val (.int (1 : Int32)), .val (.int (1 : Int32)), .val (.int pp), .val (.ref b94), .val (.ref b96), .val (.ref b98), .unset, .unset] [(.ref b94)]))
      refine go (fun tg kg => XS.lload X99.here hx rfl (hb hby at_88) rfl kg) ?_
      show G (T99.setTop (mkF m 90 #[.val (.long x0), .second, .val (.long x1), .second, .val (.int x2), .val (.int x3), .val (.long xx), .second, .val (.long yy), .second, .val (.int (1 : Int32)), .val (.int (1 : Int32)), .val (.int pp), .val (.ref b94), .val (.ref b96), .val (.ref b98), .unset, .unset] [(.long xx), (.ref b94)]))
      have Fa101 := ((((Ge95.ext E96).keep K97).ext E98).keep K99)
      have Fa102 := ((((Gc95.ext E96).keep K97 (ninS (Nat.ne_of_lt (Nat.lt_of_lt_of_le Gc95.lt (Nat.le_of_eq g96.symm))) nin0)).ext E98).keep K99 (ninS (Nat.ne_of_lt (Nat.lt_of_lt_of_le ((Gc95.ext E96).keep K97 (ninS (Nat.ne_of_lt (Nat.lt_of_lt_of_le Gc95.lt (Nat.le_of_eq g96.symm))) nin0)).lt (Nat.le_of_eq g98.symm))) nin0))
      have Fa103 := ((((Gt95.ext E96).keep K97 (ninS (Nat.ne_of_lt (Nat.lt_of_lt_of_le Gt95.lt (Nat.le_of_eq g96.symm))) nin0)).ext E98).keep K99 (ninS (Nat.ne_of_lt (Nat.lt_of_lt_of_le ((Gt95.ext E96).keep K97 (ninS (Nat.ne_of_lt (Nat.lt_of_lt_of_le Gt95.lt (Nat.le_of_eq g96.symm))) nin0)).lt (Nat.le_of_eq g98.symm))) nin0))
      have Fa104 := ((((Gl95.ext E96).keep K97 (ninS (Nat.ne_of_lt (Nat.lt_of_lt_of_le Gl95.lt (Nat.le_of_eq g96.symm))) nin0)).ext E98).keep K99 (ninS (Nat.ne_of_lt (Nat.lt_of_lt_of_le ((Gl95.ext E96).keep K97 (ninS (Nat.ne_of_lt (Nat.lt_of_lt_of_le Gl95.lt (Nat.le_of_eq g96.symm))) nin0)).lt (Nat.le_of_eq g98.symm))) nin0))
      have Fa105 := ((((Ga95.ext E96).keep K97 (ninS (Nat.ne_of_lt (Nat.lt_of_lt_of_le Ga95.lt (Nat.le_of_eq g96.symm))) nin0)).ext E98).keep K99 (ninS (Nat.ne_of_lt (Nat.lt_of_lt_of_le ((Ga95.ext E96).keep K97 (ninS (Nat.ne_of_lt (Nat.lt_of_lt_of_le Ga95.lt (Nat.le_of_eq g96.symm))) nin0)).lt (Nat.le_of_eq g98.symm))) nin0))
      obtain ⟨cq100, kq100, q100a, q100b, q100c⟩ := isOf hZ rfl Fa101
      obtain ⟨_, _, ⟨T100, L100, k100, n100⟩, -, X100, ⟨Lc100, hQ100, l100, y100, z100⟩, st100⟩ := X99.virtualBack hx (y := (⟨"com/example/wary_commit/warycommit/LatencyHistogram", "record", "(J)V"⟩ : MethodName)) (z := (⟨"com/example/wary_commit/warycommit/LatencyHistogram", "record", "(J)V"⟩ : MethodName)) hown (mvT hZ (hw _ (List.mem_of_getElem? (i := 32) rfl))) (mvT hZ (hw _ (List.mem_of_getElem? (i := 33) rfl))) (notFace_of_selects (args := #[]) (mvT hZ (hw _ (List.mem_of_getElem? (i := 35) rfl)))) (mvT hZ (hw _ (List.mem_of_getElem? (i := 35) rfl))) (mvT hZ (hw _ (List.mem_of_getElem? (i := 34) rfl))) (by decide) (backOf (W := 0) (rm6 l Z a0 hw [] b94 xx ca95 own_z (0 : Int64) (0 : Int64) T99.heap n0 Z99 Fa101 ge_b94 ge_ca95 Fa102 Fa103 Fa104 Fa105 (Nat.ne_of_lt (Nat.lt_of_lt_of_le F94_longest.lt sz95)) hxx) hZ (hw _ (List.mem_of_getElem? (i := 36) rfl)) (hw _ (List.mem_of_getElem? (i := 4) rfl)) (by decide) (by decide)) q100a q100c (g := (mkF m 90 #[.val (.long x0), .second, .val (.long x1), .second, .val (.int x2), .val (.int x3), .val (.long xx), .second, .val (.long yy), .second, .val (.int (1 : Int32)), .val (.int (1 : Int32)), .val (.int pp), .val (.ref b94), .val (.ref b96), .val (.ref b98), .unset, .unset] [(.long xx), (.ref b94)])) rfl (by rw [hml]; rfl) (Steps.refl _) (argsL := [(.long xx)]) (rest := []) (lenOf pd__J_V rfl) rfl (by show 2 * 0 + _ ≤ _; exact Nat.le_of_eq rfl) (hb hby at_90) (fun _ _ => ⟨rfl, rfl, (by decide : 6 + 0 ≤ _), (by decide : 21897 + 0 ≤ _)⟩)
      dsimp only [Pt.U, Pt.locs, Pt.cells, Pt.slots] at X100 l100 y100 z100 st100 hQ100
      subst l100 y100 z100
      obtain ⟨rfl, Nq100, K100, Ge100, Gc100, Gt100, Gl100, Ga100⟩ := hQ100
      have Z100 := Nat.le_trans Z99 K100.1
      replace Gt100 : Fld Z T100.heap b94 "com/example/wary_commit/warycommit/LatencyHistogram" "total" "J" (.long (1 : Int64)) := Gt100
      rw [own_max0 hxx] at Gl100
      have N100 := Fr.app N99 Nq100
      refine go (fun tg kg => st100.trans kg) ?_
      show G (T100.setTop (mkF m 93 #[.val (.long x0), .second, .val (.long x1), .second, .val (.int x2), .val (.int x3), .val (.long xx), .second, .val (.long yy), .second, .val (.int (1 : Int32)), .val (.int (1 : Int32)), .val (.int pp), .val (.ref b94), .val (.ref b96), .val (.ref b98), .unset, .unset] []))
      refine go (fun tg kg => XS.aload X100.here hx rfl (hb hby at_93) rfl rfl kg) ?_
      show G (T100.setTop (mkF m 95 #[.val (.long x0), .second, .val (.long x1), .second, .val (.int x2), .val (.int x3), .val (.long xx), .second, .val (.long yy), .second, .val (.int (1 : Int32)), .val (.int (1 : Int32)), .val (.int pp), .val (.ref b94), .val (.ref b96), .val (.ref b98), .unset, .unset] [(.ref b98)]))
      refine go (fun tg kg => XS.lload X100.here hx rfl (hb hby at_95) rfl kg) ?_
      show G (T100.setTop (mkF m 97 #[.val (.long x0), .second, .val (.long x1), .second, .val (.int x2), .val (.int x3), .val (.long xx), .second, .val (.long yy), .second, .val (.int (1 : Int32)), .val (.int (1 : Int32)), .val (.int pp), .val (.ref b94), .val (.ref b96), .val (.ref b98), .unset, .unset] [(.long xx), (.ref b98)]))
      have Fa107 := (Ge99.keep K100)
      have Fa108 := (Gc99.keep K100 (ninS (Ne.symm (Nat.ne_of_lt (Nat.lt_of_lt_of_le ((Gl95.ext E96).keep K97 (ninS (Nat.ne_of_lt (Nat.lt_of_lt_of_le Gl95.lt (Nat.le_of_eq g96.symm))) nin0)).lt (Nat.le_of_eq g98.symm)))) (ninS (Ne.symm (Nat.ne_of_lt (Nat.lt_of_lt_of_le ((Ga95.ext E96).keep K97 (ninS (Nat.ne_of_lt (Nat.lt_of_lt_of_le Ga95.lt (Nat.le_of_eq g96.symm))) nin0)).lt (Nat.le_of_eq g98.symm)))) nin0)))
      have Fa109 := (Gt99.keep K100 (ninS (Ne.symm (Nat.ne_of_lt (Nat.lt_of_lt_of_le ((Gl95.ext E96).keep K97 (ninS (Nat.ne_of_lt (Nat.lt_of_lt_of_le Gl95.lt (Nat.le_of_eq g96.symm))) nin0)).lt (Nat.le_of_eq g98.symm)))) (ninS (Ne.symm (Nat.ne_of_lt (Nat.lt_of_lt_of_le ((Ga95.ext E96).keep K97 (ninS (Nat.ne_of_lt (Nat.lt_of_lt_of_le Ga95.lt (Nat.le_of_eq g96.symm))) nin0)).lt (Nat.le_of_eq g98.symm)))) nin0)))
      have Fa110 := (Gl99.keep K100 (ninS (Ne.symm (Nat.ne_of_lt (Nat.lt_of_lt_of_le ((Gl95.ext E96).keep K97 (ninS (Nat.ne_of_lt (Nat.lt_of_lt_of_le Gl95.lt (Nat.le_of_eq g96.symm))) nin0)).lt (Nat.le_of_eq g98.symm)))) (ninS (Ne.symm (Nat.ne_of_lt (Nat.lt_of_lt_of_le ((Ga95.ext E96).keep K97 (ninS (Nat.ne_of_lt (Nat.lt_of_lt_of_le Ga95.lt (Nat.le_of_eq g96.symm))) nin0)).lt (Nat.le_of_eq g98.symm)))) nin0)))
      have Fa111 := (Ga99.keep K100 (ninS (Ne.symm (Nat.ne_of_lt (Nat.lt_of_lt_of_le (((Gl95.ext E96).keep K97 (ninS (Nat.ne_of_lt (Nat.lt_of_lt_of_le Gl95.lt (Nat.le_of_eq g96.symm))) nin0)).ext E98).lt sz99))) (ninS (Ne.symm (Nat.ne_of_lt (Nat.lt_of_lt_of_le (((Ga95.ext E96).keep K97 (ninS (Nat.ne_of_lt (Nat.lt_of_lt_of_le Ga95.lt (Nat.le_of_eq g96.symm))) nin0)).ext E98).lt sz99))) nin0)))
      obtain ⟨cq106, kq106, q106a, q106b, q106c⟩ := isOf hZ rfl Fa107
      obtain ⟨_, _, ⟨T106, L106, k106, n106⟩, -, X106, ⟨Lc106, hQ106, l106, y106, z106⟩, st106⟩ := X100.virtualBack hx (y := (⟨"com/example/wary_commit/warycommit/LatencyHistogram", "record", "(J)V"⟩ : MethodName)) (z := (⟨"com/example/wary_commit/warycommit/LatencyHistogram", "record", "(J)V"⟩ : MethodName)) hown (mvT hZ (hw _ (List.mem_of_getElem? (i := 32) rfl))) (mvT hZ (hw _ (List.mem_of_getElem? (i := 33) rfl))) (notFace_of_selects (args := #[]) (mvT hZ (hw _ (List.mem_of_getElem? (i := 35) rfl)))) (mvT hZ (hw _ (List.mem_of_getElem? (i := 35) rfl))) (mvT hZ (hw _ (List.mem_of_getElem? (i := 34) rfl))) (by decide) (backOf (W := 0) (rm6 l Z a0 hw [] b98 xx ca99 own_z (0 : Int64) (0 : Int64) T100.heap n0 Z100 Fa107 ge_b98 ge_ca99 Fa108 Fa109 Fa110 Fa111 (Nat.ne_of_lt (Nat.lt_of_lt_of_le F98_longest.lt sz99)) hxx) hZ (hw _ (List.mem_of_getElem? (i := 36) rfl)) (hw _ (List.mem_of_getElem? (i := 4) rfl)) (by decide) (by decide)) q106a q106c (g := (mkF m 97 #[.val (.long x0), .second, .val (.long x1), .second, .val (.int x2), .val (.int x3), .val (.long xx), .second, .val (.long yy), .second, .val (.int (1 : Int32)), .val (.int (1 : Int32)), .val (.int pp), .val (.ref b94), .val (.ref b96), .val (.ref b98), .unset, .unset] [(.long xx), (.ref b98)])) rfl (by rw [hml]; rfl) (Steps.refl _) (argsL := [(.long xx)]) (rest := []) (lenOf pd__J_V rfl) rfl (by show 2 * 0 + _ ≤ _; exact Nat.le_of_eq rfl) (hb hby at_97) (fun _ _ => ⟨rfl, rfl, (by decide : 6 + 0 ≤ _), (by decide : 21897 + 0 ≤ _)⟩)
      dsimp only [Pt.U, Pt.locs, Pt.cells, Pt.slots] at X106 l106 y106 z106 st106 hQ106
      subst l106 y106 z106
      obtain ⟨rfl, Nq106, K106, Ge106, Gc106, Gt106, Gl106, Ga106⟩ := hQ106
      have Z106 := Nat.le_trans Z100 K106.1
      replace Gt106 : Fld Z T106.heap b98 "com/example/wary_commit/warycommit/LatencyHistogram" "total" "J" (.long (1 : Int64)) := Gt106
      rw [own_max0 hxx] at Gl106
      have N106 := Fr.app N100 Nq106
      refine go (fun tg kg => st106.trans kg) ?_
      show G (T106.setTop (mkF m 100 #[.val (.long x0), .second, .val (.long x1), .second, .val (.int x2), .val (.int x3), .val (.long xx), .second, .val (.long yy), .second, .val (.int (1 : Int32)), .val (.int (1 : Int32)), .val (.int pp), .val (.ref b94), .val (.ref b96), .val (.ref b98), .unset, .unset] []))
      refine go (fun tg kg => XS.iload X106.here hx rfl (hb hby at_100) rfl kg) ?_
      show G (T106.setTop (mkF m 102 #[.val (.long x0), .second, .val (.long x1), .second, .val (.int x2), .val (.int x3), .val (.long xx), .second, .val (.long yy), .second, .val (.int (1 : Int32)), .val (.int (1 : Int32)), .val (.int pp), .val (.ref b94), .val (.ref b96), .val (.ref b98), .unset, .unset] [(.int (1 : Int32))]))
      refine go (fun tg kg => XS.ifNo X106.here hx rfl (hb hby at_102) rfl ((if0 _ _).trans (feq (by decide)).1) kg) ?_
      show G (T106.setTop (mkF m 105 #[.val (.long x0), .second, .val (.long x1), .second, .val (.int x2), .val (.int x3), .val (.long xx), .second, .val (.long yy), .second, .val (.int (1 : Int32)), .val (.int (1 : Int32)), .val (.int pp), .val (.ref b94), .val (.ref b96), .val (.ref b98), .unset, .unset] []))
      refine go (fun tg kg => XS.aload X106.here hx rfl (hb hby at_105) rfl rfl kg) ?_
      show G (T106.setTop (mkF m 107 #[.val (.long x0), .second, .val (.long x1), .second, .val (.int x2), .val (.int x3), .val (.long xx), .second, .val (.long yy), .second, .val (.int (1 : Int32)), .val (.int (1 : Int32)), .val (.int pp), .val (.ref b94), .val (.ref b96), .val (.ref b98), .unset, .unset] [(.ref b96)]))
      refine go (fun tg kg => XS.lload X106.here hx rfl (hb hby at_107) rfl kg) ?_
      show G (T106.setTop (mkF m 109 #[.val (.long x0), .second, .val (.long x1), .second, .val (.int x2), .val (.int x3), .val (.long xx), .second, .val (.long yy), .second, .val (.int (1 : Int32)), .val (.int (1 : Int32)), .val (.int pp), .val (.ref b94), .val (.ref b96), .val (.ref b98), .unset, .unset] [(.long yy), (.ref b96)]))
      have Fa113 := ((((Ge97.ext E98).keep K99).keep K100).keep K106)
      have Fa114 := ((((Gc97.ext E98).keep K99 (ninS (Nat.ne_of_lt (Nat.lt_of_lt_of_le Gc97.lt (Nat.le_of_eq g98.symm))) nin0)).keep K100 (ninS (Ne.symm (Nat.ne_of_lt (Nat.lt_of_lt_of_le Gl95.lt (Nat.le_of_eq g96.symm)))) (ninS (Ne.symm (Nat.ne_of_lt (Nat.lt_of_lt_of_le Ga95.lt (Nat.le_of_eq g96.symm)))) nin0))).keep K106 (ninS (Nat.ne_of_lt (Nat.lt_of_lt_of_le Gc97.lt (Nat.le_of_eq g98.symm))) (ninS (Nat.ne_of_lt (Nat.lt_of_lt_of_le (Gc97.ext E98).lt sz99)) nin0)))
      have Fa115 := ((((Gt97.ext E98).keep K99 (ninS (Nat.ne_of_lt (Nat.lt_of_lt_of_le Gt97.lt (Nat.le_of_eq g98.symm))) nin0)).keep K100 (ninS (Ne.symm (Nat.ne_of_lt (Nat.lt_of_lt_of_le Gl95.lt (Nat.le_of_eq g96.symm)))) (ninS (Ne.symm (Nat.ne_of_lt (Nat.lt_of_lt_of_le Ga95.lt (Nat.le_of_eq g96.symm)))) nin0))).keep K106 (ninS (Nat.ne_of_lt (Nat.lt_of_lt_of_le Gt97.lt (Nat.le_of_eq g98.symm))) (ninS (Nat.ne_of_lt (Nat.lt_of_lt_of_le (Gt97.ext E98).lt sz99)) nin0)))
      have Fa116 := ((((Gl97.ext E98).keep K99 (ninS (Nat.ne_of_lt (Nat.lt_of_lt_of_le Gl97.lt (Nat.le_of_eq g98.symm))) nin0)).keep K100 (ninS (Ne.symm (Nat.ne_of_lt (Nat.lt_of_lt_of_le Gl95.lt (Nat.le_of_eq g96.symm)))) (ninS (Ne.symm (Nat.ne_of_lt (Nat.lt_of_lt_of_le Ga95.lt (Nat.le_of_eq g96.symm)))) nin0))).keep K106 (ninS (Nat.ne_of_lt (Nat.lt_of_lt_of_le Gl97.lt (Nat.le_of_eq g98.symm))) (ninS (Nat.ne_of_lt (Nat.lt_of_lt_of_le (Gl97.ext E98).lt sz99)) nin0)))
      have Fa117 := ((((Ga97.ext E98).keep K99 (ninS (Nat.ne_of_lt (Nat.lt_of_lt_of_le Ga97.lt (Nat.le_of_eq g98.symm))) nin0)).keep K100 (ninS (Ne.symm (Nat.ne_of_lt (Nat.lt_of_lt_of_le (Gl95.ext E96).lt sz97))) (ninS (Ne.symm (Nat.ne_of_lt (Nat.lt_of_lt_of_le (Ga95.ext E96).lt sz97))) nin0))).keep K106 (ninS (Nat.ne_of_lt (Nat.lt_of_lt_of_le Ga97.lt (Nat.le_of_eq g98.symm))) (ninS (Nat.ne_of_lt (Nat.lt_of_lt_of_le (Ga97.ext E98).lt sz99)) nin0)))
      obtain ⟨cq112, kq112, q112a, q112b, q112c⟩ := isOf hZ rfl Fa113
      obtain ⟨_, _, ⟨T112, L112, k112, n112⟩, -, X112, ⟨Lc112, hQ112, l112, y112, z112⟩, st112⟩ := X106.virtualBack hx (y := (⟨"com/example/wary_commit/warycommit/LatencyHistogram", "record", "(J)V"⟩ : MethodName)) (z := (⟨"com/example/wary_commit/warycommit/LatencyHistogram", "record", "(J)V"⟩ : MethodName)) hown (mvT hZ (hw _ (List.mem_of_getElem? (i := 32) rfl))) (mvT hZ (hw _ (List.mem_of_getElem? (i := 33) rfl))) (notFace_of_selects (args := #[]) (mvT hZ (hw _ (List.mem_of_getElem? (i := 35) rfl)))) (mvT hZ (hw _ (List.mem_of_getElem? (i := 35) rfl))) (mvT hZ (hw _ (List.mem_of_getElem? (i := 34) rfl))) (by decide) (backOf (W := 0) (rm6 l Z a0 hw [] b96 yy ca97 own_z (0 : Int64) (0 : Int64) T106.heap n0 Z106 Fa113 ge_b96 ge_ca97 Fa114 Fa115 Fa116 Fa117 (Nat.ne_of_lt (Nat.lt_of_lt_of_le F96_longest.lt sz97)) hyy) hZ (hw _ (List.mem_of_getElem? (i := 36) rfl)) (hw _ (List.mem_of_getElem? (i := 4) rfl)) (by decide) (by decide)) q112a q112c (g := (mkF m 109 #[.val (.long x0), .second, .val (.long x1), .second, .val (.int x2), .val (.int x3), .val (.long xx), .second, .val (.long yy), .second, .val (.int (1 : Int32)), .val (.int (1 : Int32)), .val (.int pp), .val (.ref b94), .val (.ref b96), .val (.ref b98), .unset, .unset] [(.long yy), (.ref b96)])) rfl (by rw [hml]; rfl) (Steps.refl _) (argsL := [(.long yy)]) (rest := []) (lenOf pd__J_V rfl) rfl (by show 2 * 0 + _ ≤ _; exact Nat.le_of_eq rfl) (hb hby at_109) (fun _ _ => ⟨rfl, rfl, (by decide : 6 + 0 ≤ _), (by decide : 21897 + 0 ≤ _)⟩)
      dsimp only [Pt.U, Pt.locs, Pt.cells, Pt.slots] at X112 l112 y112 z112 st112 hQ112
      subst l112 y112 z112
      obtain ⟨rfl, Nq112, K112, Ge112, Gc112, Gt112, Gl112, Ga112⟩ := hQ112
      have Z112 := Nat.le_trans Z106 K112.1
      replace Gt112 : Fld Z T112.heap b96 "com/example/wary_commit/warycommit/LatencyHistogram" "total" "J" (.long (1 : Int64)) := Gt112
      rw [own_max0 hyy] at Gl112
      have N112 := Fr.app N106 Nq112
      refine go (fun tg kg => st112.trans kg) ?_
      show G (T112.setTop (mkF m 112 #[.val (.long x0), .second, .val (.long x1), .second, .val (.int x2), .val (.int x3), .val (.long xx), .second, .val (.long yy), .second, .val (.int (1 : Int32)), .val (.int (1 : Int32)), .val (.int pp), .val (.ref b94), .val (.ref b96), .val (.ref b98), .unset, .unset] []))
      refine go (fun tg kg => XS.aload X112.here hx rfl (hb hby at_112) rfl rfl kg) ?_
      show G (T112.setTop (mkF m 114 #[.val (.long x0), .second, .val (.long x1), .second, .val (.int x2), .val (.int x3), .val (.long xx), .second, .val (.long yy), .second, .val (.int (1 : Int32)), .val (.int (1 : Int32)), .val (.int pp), .val (.ref b94), .val (.ref b96), .val (.ref b98), .unset, .unset] [(.ref b98)]))
      refine go (fun tg kg => XS.lload X112.here hx rfl (hb hby at_114) rfl kg) ?_
      show G (T112.setTop (mkF m 116 #[.val (.long x0), .second, .val (.long x1), .second, .val (.int x2), .val (.int x3), .val (.long xx), .second, .val (.long yy), .second, .val (.int (1 : Int32)), .val (.int (1 : Int32)), .val (.int pp), .val (.ref b94), .val (.ref b96), .val (.ref b98), .unset, .unset] [(.long yy), (.ref b98)]))
      have Fa119 := (Ge106.keep K112)
      have Fa120 := (Gc106.keep K112 (ninS (Ne.symm (Nat.ne_of_lt (Nat.lt_of_lt_of_le Gl97.lt (Nat.le_of_eq g98.symm)))) (ninS (Ne.symm (Nat.ne_of_lt (Nat.lt_of_lt_of_le Ga97.lt (Nat.le_of_eq g98.symm)))) nin0)))
      have Fa121 := (Gt106.keep K112 (ninS (Ne.symm (Nat.ne_of_lt (Nat.lt_of_lt_of_le Gl97.lt (Nat.le_of_eq g98.symm)))) (ninS (Ne.symm (Nat.ne_of_lt (Nat.lt_of_lt_of_le Ga97.lt (Nat.le_of_eq g98.symm)))) nin0)))
      have Fa122 := (Gl106.keep K112 (ninS (Ne.symm (Nat.ne_of_lt (Nat.lt_of_lt_of_le Gl97.lt (Nat.le_of_eq g98.symm)))) (ninS (Ne.symm (Nat.ne_of_lt (Nat.lt_of_lt_of_le Ga97.lt (Nat.le_of_eq g98.symm)))) nin0)))
      have Fa123 := (Ga106.keep K112 (ninS (Ne.symm (Nat.ne_of_lt (Nat.lt_of_lt_of_le (Gl97.ext E98).lt sz99))) (ninS (Ne.symm (Nat.ne_of_lt (Nat.lt_of_lt_of_le (Ga97.ext E98).lt sz99))) nin0)))
      obtain ⟨cq118, kq118, q118a, q118b, q118c⟩ := isOf hZ rfl Fa119
      obtain ⟨_, _, ⟨T118, L118, k118, n118⟩, -, X118, ⟨Lc118, hQ118, l118, y118, z118⟩, st118⟩ := X112.virtualBack hx (y := (⟨"com/example/wary_commit/warycommit/LatencyHistogram", "record", "(J)V"⟩ : MethodName)) (z := (⟨"com/example/wary_commit/warycommit/LatencyHistogram", "record", "(J)V"⟩ : MethodName)) hown (mvT hZ (hw _ (List.mem_of_getElem? (i := 32) rfl))) (mvT hZ (hw _ (List.mem_of_getElem? (i := 33) rfl))) (notFace_of_selects (args := #[]) (mvT hZ (hw _ (List.mem_of_getElem? (i := 35) rfl)))) (mvT hZ (hw _ (List.mem_of_getElem? (i := 35) rfl))) (mvT hZ (hw _ (List.mem_of_getElem? (i := 34) rfl))) (by decide) (backOf (W := 0) (rm6 l Z a0 hw [] b98 yy ca99 (own_rec own_z xx) (1 : Int64) xx T112.heap n0 Z112 Fa119 ge_b98 ge_ca99 Fa120 Fa121 Fa122 Fa123 (Nat.ne_of_lt (Nat.lt_of_lt_of_le F98_longest.lt sz99)) hyy) hZ (hw _ (List.mem_of_getElem? (i := 36) rfl)) (hw _ (List.mem_of_getElem? (i := 4) rfl)) (by decide) (by decide)) q118a q118c (g := (mkF m 116 #[.val (.long x0), .second, .val (.long x1), .second, .val (.int x2), .val (.int x3), .val (.long xx), .second, .val (.long yy), .second, .val (.int (1 : Int32)), .val (.int (1 : Int32)), .val (.int pp), .val (.ref b94), .val (.ref b96), .val (.ref b98), .unset, .unset] [(.long yy), (.ref b98)])) rfl (by rw [hml]; rfl) (Steps.refl _) (argsL := [(.long yy)]) (rest := []) (lenOf pd__J_V rfl) rfl (by show 2 * 0 + _ ≤ _; exact Nat.le_of_eq rfl) (hb hby at_116) (fun _ _ => ⟨rfl, rfl, (by decide : 6 + 0 ≤ _), (by decide : 21897 + 0 ≤ _)⟩)
      dsimp only [Pt.U, Pt.locs, Pt.cells, Pt.slots] at X118 l118 y118 z118 st118 hQ118
      subst l118 y118 z118
      obtain ⟨rfl, Nq118, K118, Ge118, Gc118, Gt118, Gl118, Ga118⟩ := hQ118
      have Z118 := Nat.le_trans Z112 K118.1
      replace Gt118 : Fld Z T118.heap b98 "com/example/wary_commit/warycommit/LatencyHistogram" "total" "J" (.long (2 : Int64)) := Gt118
      have N118 := Fr.app N112 Nq118
      refine go (fun tg kg => st118.trans kg) ?_
      show G (T118.setTop (mkF m 119 #[.val (.long x0), .second, .val (.long x1), .second, .val (.int x2), .val (.int x3), .val (.long xx), .second, .val (.long yy), .second, .val (.int (1 : Int32)), .val (.int (1 : Int32)), .val (.int pp), .val (.ref b94), .val (.ref b96), .val (.ref b98), .unset, .unset] []))
      refine go (fun tg kg => XS.aload X118.here hx rfl (hb hby at_119) rfl rfl kg) ?_
      show G (T118.setTop (mkF m 121 #[.val (.long x0), .second, .val (.long x1), .second, .val (.int x2), .val (.int x3), .val (.long xx), .second, .val (.long yy), .second, .val (.int (1 : Int32)), .val (.int (1 : Int32)), .val (.int pp), .val (.ref b94), .val (.ref b96), .val (.ref b98), .unset, .unset] [(.ref b94)]))
      refine go (fun tg kg => XS.aload X118.here hx rfl (hb hby at_121) rfl rfl kg) ?_
      show G (T118.setTop (mkF m 123 #[.val (.long x0), .second, .val (.long x1), .second, .val (.int x2), .val (.int x3), .val (.long xx), .second, .val (.long yy), .second, .val (.int (1 : Int32)), .val (.int (1 : Int32)), .val (.int pp), .val (.ref b94), .val (.ref b96), .val (.ref b98), .unset, .unset] [(.ref b96), (.ref b94)]))
      have Fa125 := (((Ge100.keep K106).keep K112).keep K118)
      have Fa126 := (((Gc100.keep K106 (ninS (Nat.ne_of_lt (Nat.lt_of_lt_of_le ((Gl95.ext E96).keep K97 (ninS (Nat.ne_of_lt (Nat.lt_of_lt_of_le Gl95.lt (Nat.le_of_eq g96.symm))) nin0)).lt (Nat.le_of_eq g98.symm))) (ninS (Nat.ne_of_lt (Nat.lt_of_lt_of_le (((Gl95.ext E96).keep K97 (ninS (Nat.ne_of_lt (Nat.lt_of_lt_of_le Gl95.lt (Nat.le_of_eq g96.symm))) nin0)).ext E98).lt sz99)) nin0))).keep K112 (ninS (Nat.ne_of_lt (Nat.lt_of_lt_of_le Gl95.lt (Nat.le_of_eq g96.symm))) (ninS (Nat.ne_of_lt (Nat.lt_of_lt_of_le (Gl95.ext E96).lt sz97)) nin0))).keep K118 (ninS (Nat.ne_of_lt (Nat.lt_of_lt_of_le ((Gl95.ext E96).keep K97 (ninS (Nat.ne_of_lt (Nat.lt_of_lt_of_le Gl95.lt (Nat.le_of_eq g96.symm))) nin0)).lt (Nat.le_of_eq g98.symm))) (ninS (Nat.ne_of_lt (Nat.lt_of_lt_of_le (((Gl95.ext E96).keep K97 (ninS (Nat.ne_of_lt (Nat.lt_of_lt_of_le Gl95.lt (Nat.le_of_eq g96.symm))) nin0)).ext E98).lt sz99)) nin0)))
      have Fa127 := (((Gt100.keep K106 (ninS (Nat.ne_of_lt (Nat.lt_of_lt_of_le ((Gl95.ext E96).keep K97 (ninS (Nat.ne_of_lt (Nat.lt_of_lt_of_le Gl95.lt (Nat.le_of_eq g96.symm))) nin0)).lt (Nat.le_of_eq g98.symm))) (ninS (Nat.ne_of_lt (Nat.lt_of_lt_of_le (((Gl95.ext E96).keep K97 (ninS (Nat.ne_of_lt (Nat.lt_of_lt_of_le Gl95.lt (Nat.le_of_eq g96.symm))) nin0)).ext E98).lt sz99)) nin0))).keep K112 (ninS (Nat.ne_of_lt (Nat.lt_of_lt_of_le Gl95.lt (Nat.le_of_eq g96.symm))) (ninS (Nat.ne_of_lt (Nat.lt_of_lt_of_le (Gl95.ext E96).lt sz97)) nin0))).keep K118 (ninS (Nat.ne_of_lt (Nat.lt_of_lt_of_le ((Gl95.ext E96).keep K97 (ninS (Nat.ne_of_lt (Nat.lt_of_lt_of_le Gl95.lt (Nat.le_of_eq g96.symm))) nin0)).lt (Nat.le_of_eq g98.symm))) (ninS (Nat.ne_of_lt (Nat.lt_of_lt_of_le (((Gl95.ext E96).keep K97 (ninS (Nat.ne_of_lt (Nat.lt_of_lt_of_le Gl95.lt (Nat.le_of_eq g96.symm))) nin0)).ext E98).lt sz99)) nin0)))
      have Fa128 := (((Gl100.keep K106 (ninS (Nat.ne_of_lt (Nat.lt_of_lt_of_le ((Gl95.ext E96).keep K97 (ninS (Nat.ne_of_lt (Nat.lt_of_lt_of_le Gl95.lt (Nat.le_of_eq g96.symm))) nin0)).lt (Nat.le_of_eq g98.symm))) (ninS (Nat.ne_of_lt (Nat.lt_of_lt_of_le (((Gl95.ext E96).keep K97 (ninS (Nat.ne_of_lt (Nat.lt_of_lt_of_le Gl95.lt (Nat.le_of_eq g96.symm))) nin0)).ext E98).lt sz99)) nin0))).keep K112 (ninS (Nat.ne_of_lt (Nat.lt_of_lt_of_le Gl95.lt (Nat.le_of_eq g96.symm))) (ninS (Nat.ne_of_lt (Nat.lt_of_lt_of_le (Gl95.ext E96).lt sz97)) nin0))).keep K118 (ninS (Nat.ne_of_lt (Nat.lt_of_lt_of_le ((Gl95.ext E96).keep K97 (ninS (Nat.ne_of_lt (Nat.lt_of_lt_of_le Gl95.lt (Nat.le_of_eq g96.symm))) nin0)).lt (Nat.le_of_eq g98.symm))) (ninS (Nat.ne_of_lt (Nat.lt_of_lt_of_le (((Gl95.ext E96).keep K97 (ninS (Nat.ne_of_lt (Nat.lt_of_lt_of_le Gl95.lt (Nat.le_of_eq g96.symm))) nin0)).ext E98).lt sz99)) nin0)))
      have Fa129 := (((Ga100.keep K106 (ninS (Nat.ne_of_lt (Nat.lt_of_lt_of_le ((Ga95.ext E96).keep K97 (ninS (Nat.ne_of_lt (Nat.lt_of_lt_of_le Ga95.lt (Nat.le_of_eq g96.symm))) nin0)).lt (Nat.le_of_eq g98.symm))) (ninS (Nat.ne_of_lt (Nat.lt_of_lt_of_le (((Ga95.ext E96).keep K97 (ninS (Nat.ne_of_lt (Nat.lt_of_lt_of_le Ga95.lt (Nat.le_of_eq g96.symm))) nin0)).ext E98).lt sz99)) nin0))).keep K112 (ninS (Nat.ne_of_lt (Nat.lt_of_lt_of_le Ga95.lt (Nat.le_of_eq g96.symm))) (ninS (Nat.ne_of_lt (Nat.lt_of_lt_of_le (Ga95.ext E96).lt sz97)) nin0))).keep K118 (ninS (Nat.ne_of_lt (Nat.lt_of_lt_of_le ((Ga95.ext E96).keep K97 (ninS (Nat.ne_of_lt (Nat.lt_of_lt_of_le Ga95.lt (Nat.le_of_eq g96.symm))) nin0)).lt (Nat.le_of_eq g98.symm))) (ninS (Nat.ne_of_lt (Nat.lt_of_lt_of_le (((Ga95.ext E96).keep K97 (ninS (Nat.ne_of_lt (Nat.lt_of_lt_of_le Ga95.lt (Nat.le_of_eq g96.symm))) nin0)).ext E98).lt sz99)) nin0)))
      have Fa130 := (Gc112.keep K118 (ninS (Nat.ne_of_lt (Nat.lt_of_lt_of_le Gl97.lt (Nat.le_of_eq g98.symm))) (ninS (Nat.ne_of_lt (Nat.lt_of_lt_of_le (Gl97.ext E98).lt sz99)) nin0)))
      have Fa131 := (Gt112.keep K118 (ninS (Nat.ne_of_lt (Nat.lt_of_lt_of_le Gl97.lt (Nat.le_of_eq g98.symm))) (ninS (Nat.ne_of_lt (Nat.lt_of_lt_of_le (Gl97.ext E98).lt sz99)) nin0)))
      have Fa132 := (Gl112.keep K118 (ninS (Nat.ne_of_lt (Nat.lt_of_lt_of_le Gl97.lt (Nat.le_of_eq g98.symm))) (ninS (Nat.ne_of_lt (Nat.lt_of_lt_of_le (Gl97.ext E98).lt sz99)) nin0)))
      have Fa133 := (Ga112.keep K118 (ninS (Nat.ne_of_lt (Nat.lt_of_lt_of_le Ga97.lt (Nat.le_of_eq g98.symm))) (ninS (Nat.ne_of_lt (Nat.lt_of_lt_of_le (Ga97.ext E98).lt sz99)) nin0)))
      obtain ⟨cq124, kq124, q124a, q124b, q124c⟩ := isOf hZ rfl Fa125
      obtain ⟨_, _, ⟨T124, L124, k124, n124⟩, -, X124, ⟨Lc124, hQ124, l124, y124, z124⟩, st124⟩ := X118.virtualBack hx (y := (⟨"com/example/wary_commit/warycommit/LatencyHistogram", "add", "(Lcom/example/wary_commit/warycommit/LatencyHistogram;)V"⟩ : MethodName)) (z := (⟨"com/example/wary_commit/warycommit/LatencyHistogram", "add", "(Lcom/example/wary_commit/warycommit/LatencyHistogram;)V"⟩ : MethodName)) hown (mvT hZ (hw _ (List.mem_of_getElem? (i := 14) rfl))) (mvT hZ (hw _ (List.mem_of_getElem? (i := 15) rfl))) (notFace_of_selects (args := #[]) (mvT hZ (hw _ (List.mem_of_getElem? (i := 17) rfl)))) (mvT hZ (hw _ (List.mem_of_getElem? (i := 17) rfl))) (mvT hZ (hw _ (List.mem_of_getElem? (i := 16) rfl))) (by decide) (backOf (W := 0) (rm3 l Z a0 hw [] b94 b96 ca95 (own_rec own_z xx) (1 : Int64) xx ca97 (own_rec own_z yy) (1 : Int64) yy T118.heap n0 Z118 Fa125 ge_b94 ge_ca95 Fa126 Fa127 Fa128 Fa129 (Nat.ne_of_lt (Nat.lt_of_lt_of_le F94_longest.lt sz95)) Fa130 Fa131 Fa132 Fa133 (Ne.symm (Nat.ne_of_lt (Nat.lt_of_lt_of_le Ga95.lt (Nat.le_of_eq g96.symm)))) (Ne.symm (Nat.ne_of_lt (Nat.lt_of_lt_of_le (Ga95.ext E96).lt sz97))) (Ne.symm (Nat.ne_of_lt (Nat.lt_of_lt_of_le Gl95.lt (Nat.le_of_eq g96.symm))))) hZ (hw _ (List.mem_of_getElem? (i := 18) rfl)) (hw _ (List.mem_of_getElem? (i := 4) rfl)) (by decide) (by decide)) q124a q124c (g := (mkF m 123 #[.val (.long x0), .second, .val (.long x1), .second, .val (.int x2), .val (.int x3), .val (.long xx), .second, .val (.long yy), .second, .val (.int (1 : Int32)), .val (.int (1 : Int32)), .val (.int pp), .val (.ref b94), .val (.ref b96), .val (.ref b98), .unset, .unset] [(.ref b96), (.ref b94)])) rfl (by rw [hml]; rfl) (Steps.refl _) (argsL := [(.ref b96)]) (rest := []) (lenOf pd__Lcom_example_wary_commit_warycommit_LatencyHistogram__V rfl) rfl (by show 2 * 0 + _ ≤ _; exact Nat.le_of_eq rfl) (hb hby at_123) (fun _ _ => ⟨rfl, rfl, (by decide : 6 + 0 ≤ _), (by decide : 21897 + 0 ≤ _)⟩)
      dsimp only [Pt.U, Pt.locs, Pt.cells, Pt.slots] at X124 l124 y124 z124 st124 hQ124
      subst l124 y124 z124
      obtain ⟨rfl, Nq124, K124, Ge124, Gc124, Gt124, Gl124, Ga124⟩ := hQ124
      have Z124 := Nat.le_trans Z118 K124.1
      replace Gt124 : Fld Z T124.heap b94 "com/example/wary_commit/warycommit/LatencyHistogram" "total" "J" (.long (2 : Int64)) := Gt124
      rw [own_addr] at Ga124
      have N124 := Fr.app N118 Nq124
      refine go (fun tg kg => st124.trans kg) ?_
      show G (T124.setTop (mkF m 126 #[.val (.long x0), .second, .val (.long x1), .second, .val (.int x2), .val (.int x3), .val (.long xx), .second, .val (.long yy), .second, .val (.int (1 : Int32)), .val (.int (1 : Int32)), .val (.int pp), .val (.ref b94), .val (.ref b96), .val (.ref b98), .unset, .unset] []))
      refine go (fun tg kg => XS.lconst X124.here hx rfl (hb hby at_126) kg) ?_
      show G (T124.setTop (mkF m 127 #[.val (.long x0), .second, .val (.long x1), .second, .val (.int x2), .val (.int x3), .val (.long xx), .second, .val (.long yy), .second, .val (.int (1 : Int32)), .val (.int (1 : Int32)), .val (.int pp), .val (.ref b94), .val (.ref b96), .val (.ref b98), .unset, .unset] [(.long (0 : Int64))]))
      refine go (fun tg kg => XS.lstore X124.here hx rfl (hb hby at_127) rfl (l' := #[.val (.long x0), .second, .val (.long x1), .second, .val (.int x2), .val (.int x3), .val (.long xx), .second, .val (.long yy), .second, .val (.int (1 : Int32)), .val (.int (1 : Int32)), .val (.int pp), .val (.ref b94), .val (.ref b96), .val (.ref b98), .val (.long (0 : Int64)), .second]) rfl kg) ?_
      show G (T124.setTop (mkF m 129 #[.val (.long x0), .second, .val (.long x1), .second, .val (.int x2), .val (.int x3), .val (.long xx), .second, .val (.long yy), .second, .val (.int (1 : Int32)), .val (.int (1 : Int32)), .val (.int pp), .val (.ref b94), .val (.ref b96), .val (.ref b98), .val (.long (0 : Int64)), .second] []))
      refine go (fun tg kg => XS.iload X124.here hx rfl (hb hby at_129) rfl kg) ?_
      show G (T124.setTop (mkF m 131 #[.val (.long x0), .second, .val (.long x1), .second, .val (.int x2), .val (.int x3), .val (.long xx), .second, .val (.long yy), .second, .val (.int (1 : Int32)), .val (.int (1 : Int32)), .val (.int pp), .val (.ref b94), .val (.ref b96), .val (.ref b98), .val (.long (0 : Int64)), .second] [(.int (1 : Int32))]))
      refine go (fun tg kg => XS.ifNo X124.here hx rfl (hb hby at_131) rfl ((if0 _ _).trans (feq (by decide)).1) kg) ?_
      show G (T124.setTop (mkF m 134 #[.val (.long x0), .second, .val (.long x1), .second, .val (.int x2), .val (.int x3), .val (.long xx), .second, .val (.long yy), .second, .val (.int (1 : Int32)), .val (.int (1 : Int32)), .val (.int pp), .val (.ref b94), .val (.ref b96), .val (.ref b98), .val (.long (0 : Int64)), .second] []))
      refine go (fun tg kg => XS.lload X124.here hx rfl (hb hby at_134) rfl kg) ?_
      show G (T124.setTop (mkF m 136 #[.val (.long x0), .second, .val (.long x1), .second, .val (.int x2), .val (.int x3), .val (.long xx), .second, .val (.long yy), .second, .val (.int (1 : Int32)), .val (.int (1 : Int32)), .val (.int pp), .val (.ref b94), .val (.ref b96), .val (.ref b98), .val (.long (0 : Int64)), .second] [(.long xx)]))
      refine go (fun tg kg => XS.lstore X124.here hx rfl (hb hby at_136) rfl (l' := #[.val (.long x0), .second, .val (.long x1), .second, .val (.int x2), .val (.int x3), .val (.long xx), .second, .val (.long yy), .second, .val (.int (1 : Int32)), .val (.int (1 : Int32)), .val (.int pp), .val (.ref b94), .val (.ref b96), .val (.ref b98), .val (.long xx), .second]) rfl kg) ?_
      show G (T124.setTop (mkF m 138 #[.val (.long x0), .second, .val (.long x1), .second, .val (.int x2), .val (.int x3), .val (.long xx), .second, .val (.long yy), .second, .val (.int (1 : Int32)), .val (.int (1 : Int32)), .val (.int pp), .val (.ref b94), .val (.ref b96), .val (.ref b98), .val (.long xx), .second] []))
      refine go (fun tg kg => XS.iload X124.here hx rfl (hb hby at_138) rfl kg) ?_
      show G (T124.setTop (mkF m 140 #[.val (.long x0), .second, .val (.long x1), .second, .val (.int x2), .val (.int x3), .val (.long xx), .second, .val (.long yy), .second, .val (.int (1 : Int32)), .val (.int (1 : Int32)), .val (.int pp), .val (.ref b94), .val (.ref b96), .val (.ref b98), .val (.long xx), .second] [(.int (1 : Int32))]))
      refine go (fun tg kg => XS.ifNo X124.here hx rfl (hb hby at_140) rfl ((if0 _ _).trans (feq (by decide)).1) kg) ?_
      show G (T124.setTop (mkF m 143 #[.val (.long x0), .second, .val (.long x1), .second, .val (.int x2), .val (.int x3), .val (.long xx), .second, .val (.long yy), .second, .val (.int (1 : Int32)), .val (.int (1 : Int32)), .val (.int pp), .val (.ref b94), .val (.ref b96), .val (.ref b98), .val (.long xx), .second] []))
      refine go (fun tg kg => XS.lload X124.here hx rfl (hb hby at_143) rfl kg) ?_
      show G (T124.setTop (mkF m 145 #[.val (.long x0), .second, .val (.long x1), .second, .val (.int x2), .val (.int x3), .val (.long xx), .second, .val (.long yy), .second, .val (.int (1 : Int32)), .val (.int (1 : Int32)), .val (.int pp), .val (.ref b94), .val (.ref b96), .val (.ref b98), .val (.long xx), .second] [(.long xx)]))
      refine go (fun tg kg => XS.lload X124.here hx rfl (hb hby at_145) rfl kg) ?_
      show G (T124.setTop (mkF m 147 #[.val (.long x0), .second, .val (.long x1), .second, .val (.int x2), .val (.int x3), .val (.long xx), .second, .val (.long yy), .second, .val (.int (1 : Int32)), .val (.int (1 : Int32)), .val (.int pp), .val (.ref b94), .val (.ref b96), .val (.ref b98), .val (.long xx), .second] [(.long yy), (.long xx)]))
      obtain ⟨_, _, ⟨T134, L134, k134, n134⟩, -, X134, ⟨Lc134, hQ134, l134, y134, z134⟩, st134⟩ := Jvm.LawKit.callS X124 hx (y := (⟨"java/lang/Math", "max", "(JJ)J"⟩ : MethodName)) hown (mvT hZ (hw _ (List.mem_of_getElem? (i := 65) rfl))) (mvT hZ (hw _ (List.mem_of_getElem? (i := 24) rfl))) (mvT hZ (hw _ (List.mem_of_getElem? (i := 25) rfl))) (mvT hZ (hw _ (List.mem_of_getElem? (i := 26) rfl))) (by decide) (backOf (W := 0) (rm_maxL l Z a0 hw [] xx yy T124.heap n0 Z124 ) hZ (hw _ (List.mem_of_getElem? (i := 26) rfl)) (hw _ (List.mem_of_getElem? (i := 25) rfl)) (by decide) (by decide)) (g := (mkF m 147 #[.val (.long x0), .second, .val (.long x1), .second, .val (.int x2), .val (.int x3), .val (.long xx), .second, .val (.long yy), .second, .val (.int (1 : Int32)), .val (.int (1 : Int32)), .val (.int pp), .val (.ref b94), .val (.ref b96), .val (.ref b98), .val (.long xx), .second] [(.long yy), (.long xx)])) rfl (by rw [hml]; rfl) (argsL := [(.long xx), (.long yy)]) (rest := []) (lenOf pd__JJ_J rfl) rfl (by show 2 * 0 + _ ≤ _; exact Nat.le_of_eq rfl) (hb hby at_147) (fun _ _ => ⟨rfl, rfl, (by decide : 6 + 0 ≤ _), (by decide : 21897 + 0 ≤ _)⟩)
      dsimp only [Pt.U, Pt.locs, Pt.cells, Pt.slots] at X134 l134 y134 z134 st134 hQ134
      subst l134 y134 z134
      obtain ⟨rfl, Nq134, e134⟩ := hQ134
      have N134 := Fr.app N124 Nq134
      refine go st134 ?_
      show G (T134.setTop (mkF m 150 #[.val (.long x0), .second, .val (.long x1), .second, .val (.int x2), .val (.int x3), .val (.long xx), .second, .val (.long yy), .second, .val (.int (1 : Int32)), .val (.int (1 : Int32)), .val (.int pp), .val (.ref b94), .val (.ref b96), .val (.ref b98), .val (.long xx), .second] [(.long (own_maxL xx yy))]))
      refine go (fun tg kg => XS.lstore X134.here hx rfl (hb hby at_150) rfl (l' := #[.val (.long x0), .second, .val (.long x1), .second, .val (.int x2), .val (.int x3), .val (.long xx), .second, .val (.long yy), .second, .val (.int (1 : Int32)), .val (.int (1 : Int32)), .val (.int pp), .val (.ref b94), .val (.ref b96), .val (.ref b98), .val (.long (own_maxL xx yy)), .second]) rfl kg) ?_
      show G (T134.setTop (mkF m 152 #[.val (.long x0), .second, .val (.long x1), .second, .val (.int x2), .val (.int x3), .val (.long xx), .second, .val (.long yy), .second, .val (.int (1 : Int32)), .val (.int (1 : Int32)), .val (.int pp), .val (.ref b94), .val (.ref b96), .val (.ref b98), .val (.long (own_maxL xx yy)), .second] []))
      refine go (fun tg kg => XS.aload X134.here hx rfl (hb hby at_152) rfl rfl kg) ?_
      show G (T134.setTop (mkF m 154 #[.val (.long x0), .second, .val (.long x1), .second, .val (.int x2), .val (.int x3), .val (.long xx), .second, .val (.long yy), .second, .val (.int (1 : Int32)), .val (.int (1 : Int32)), .val (.int pp), .val (.ref b94), .val (.ref b96), .val (.ref b98), .val (.long (own_maxL xx yy)), .second] [(.ref b94)]))
      obtain ⟨cq135, kq135, q135a, q135b, q135c⟩ := isOf hZ e134 Ge124
      obtain ⟨_, _, ⟨T135, L135, k135, n135⟩, -, X135, ⟨Lc135, hQ135, l135, y135, z135⟩, st135⟩ := X134.virtualBack hx (y := (⟨"com/example/wary_commit/warycommit/LatencyHistogram", "longest", "()J"⟩ : MethodName)) (z := (⟨"com/example/wary_commit/warycommit/LatencyHistogram", "longest", "()J"⟩ : MethodName)) hown (mvT hZ (hw _ (List.mem_of_getElem? (i := 27) rfl))) (mvT hZ (hw _ (List.mem_of_getElem? (i := 28) rfl))) (notFace_of_selects (args := #[]) (mvT hZ (hw _ (List.mem_of_getElem? (i := 30) rfl)))) (mvT hZ (hw _ (List.mem_of_getElem? (i := 30) rfl))) (mvT hZ (hw _ (List.mem_of_getElem? (i := 29) rfl))) (by decide) (backOf (W := 0) (rm5 l Z a0 hw [] b94 (own_maxL xx yy) T124.heap n0 Z124 Gl124) hZ (hw _ (List.mem_of_getElem? (i := 31) rfl)) (hw _ (List.mem_of_getElem? (i := 4) rfl)) (by decide) (by decide)) q135a q135c (g := (mkF m 154 #[.val (.long x0), .second, .val (.long x1), .second, .val (.int x2), .val (.int x3), .val (.long xx), .second, .val (.long yy), .second, .val (.int (1 : Int32)), .val (.int (1 : Int32)), .val (.int pp), .val (.ref b94), .val (.ref b96), .val (.ref b98), .val (.long (own_maxL xx yy)), .second] [(.ref b94)])) rfl (by rw [hml]; rfl) (Steps.refl _) (argsL := []) (rest := []) (lenOf pd___J rfl) rfl (by show 2 * 0 + _ ≤ _; exact Nat.le_of_eq rfl) (hb hby at_154) (fun _ _ => ⟨rfl, e134, (by decide : 6 + 0 ≤ _), (by decide : 21897 + 0 ≤ _)⟩)
      dsimp only [Pt.U, Pt.locs, Pt.cells, Pt.slots] at X135 l135 y135 z135 st135 hQ135
      subst l135 y135 z135
      obtain ⟨rfl, Nq135, e135⟩ := hQ135
      have N135 := Fr.app N134 Nq135
      refine go (fun tg kg => st135.trans kg) ?_
      show G (T135.setTop (mkF m 157 #[.val (.long x0), .second, .val (.long x1), .second, .val (.int x2), .val (.int x3), .val (.long xx), .second, .val (.long yy), .second, .val (.int (1 : Int32)), .val (.int (1 : Int32)), .val (.int pp), .val (.ref b94), .val (.ref b96), .val (.ref b98), .val (.long (own_maxL xx yy)), .second] [(.long (own_maxL xx yy))]))
      refine go (fun tg kg => XS.lload X135.here hx rfl (hb hby at_157) rfl kg) ?_
      show G (T135.setTop (mkF m 159 #[.val (.long x0), .second, .val (.long x1), .second, .val (.int x2), .val (.int x3), .val (.long xx), .second, .val (.long yy), .second, .val (.int (1 : Int32)), .val (.int (1 : Int32)), .val (.int pp), .val (.ref b94), .val (.ref b96), .val (.ref b98), .val (.long (own_maxL xx yy)), .second] [(.long (own_maxL xx yy)), (.long (own_maxL xx yy))]))
      refine go (fun tg kg => XS.lcmp X135.here hx rfl (hb hby at_159) rfl kg) ?_
      show G (T135.setTop (mkF m 160 #[.val (.long x0), .second, .val (.long x1), .second, .val (.int x2), .val (.int x3), .val (.long xx), .second, .val (.long yy), .second, .val (.int (1 : Int32)), .val (.int (1 : Int32)), .val (.int pp), .val (.ref b94), .val (.ref b96), .val (.ref b98), .val (.long (own_maxL xx yy)), .second] [(.int (lcmpW (own_maxL xx yy) (own_maxL xx yy)))]))
      refine go (fun tg kg => XS.ifYes X135.here hx rfl (pc0 := 160) (pc' := 165) rfl (hb hby at_160) rfl ((if0 _ _).trans (teq ((lw_eq (own_maxL xx yy) (own_maxL xx yy)).mpr (rfl : (own_maxL xx yy) = (own_maxL xx yy)))).1) (by decide) (by decide) kg) ?_
      show G (T135.setTop (mkF m 165 #[.val (.long x0), .second, .val (.long x1), .second, .val (.int x2), .val (.int x3), .val (.long xx), .second, .val (.long yy), .second, .val (.int (1 : Int32)), .val (.int (1 : Int32)), .val (.int pp), .val (.ref b94), .val (.ref b96), .val (.ref b98), .val (.long (own_maxL xx yy)), .second] []))
      refine go (fun tg kg => XS.iload X135.here hx rfl (hb hby at_165) rfl kg) ?_
      show G (T135.setTop (mkF m 167 #[.val (.long x0), .second, .val (.long x1), .second, .val (.int x2), .val (.int x3), .val (.long xx), .second, .val (.long yy), .second, .val (.int (1 : Int32)), .val (.int (1 : Int32)), .val (.int pp), .val (.ref b94), .val (.ref b96), .val (.ref b98), .val (.long (own_maxL xx yy)), .second] [(.int (1 : Int32))]))
      refine go (fun tg kg => XS.ifYes X135.here hx rfl (pc0 := 167) (pc' := 177) rfl (hb hby at_167) rfl ((if0 _ _).trans (feq (by decide)).2) (by decide) (by decide) kg) ?_
      show G (T135.setTop (mkF m 177 #[.val (.long x0), .second, .val (.long x1), .second, .val (.int x2), .val (.int x3), .val (.long xx), .second, .val (.long yy), .second, .val (.int (1 : Int32)), .val (.int (1 : Int32)), .val (.int pp), .val (.ref b94), .val (.ref b96), .val (.ref b98), .val (.long (own_maxL xx yy)), .second] []))
      refine go (fun tg kg => XS.aload X135.here hx rfl (hb hby at_177) rfl rfl kg) ?_
      show G (T135.setTop (mkF m 179 #[.val (.long x0), .second, .val (.long x1), .second, .val (.int x2), .val (.int x3), .val (.long xx), .second, .val (.long yy), .second, .val (.int (1 : Int32)), .val (.int (1 : Int32)), .val (.int pp), .val (.ref b94), .val (.ref b96), .val (.ref b98), .val (.long (own_maxL xx yy)), .second] [(.ref b94)]))
      refine go (fun tg kg => XS.iload X135.here hx rfl (hb hby at_179) rfl kg) ?_
      show G (T135.setTop (mkF m 181 #[.val (.long x0), .second, .val (.long x1), .second, .val (.int x2), .val (.int x3), .val (.long xx), .second, .val (.long yy), .second, .val (.int (1 : Int32)), .val (.int (1 : Int32)), .val (.int pp), .val (.ref b94), .val (.ref b96), .val (.ref b98), .val (.long (own_maxL xx yy)), .second] [(.int pp), (.ref b94)]))
      obtain ⟨cq136, kq136, q136a, q136b, q136c⟩ := isOf hZ e135 Ge124
      obtain ⟨_, _, ⟨T136, L136, k136, n136⟩, -, X136, ⟨Lc136, hQ136, l136, y136, z136⟩, st136⟩ := X135.virtualBack hx (y := (⟨"com/example/wary_commit/warycommit/LatencyHistogram", "percentile", "(I)J"⟩ : MethodName)) (z := (⟨"com/example/wary_commit/warycommit/LatencyHistogram", "percentile", "(I)J"⟩ : MethodName)) hown (mvT hZ (hw _ (List.mem_of_getElem? (i := 52) rfl))) (mvT hZ (hw _ (List.mem_of_getElem? (i := 53) rfl))) (notFace_of_selects (args := #[]) (mvT hZ (hw _ (List.mem_of_getElem? (i := 55) rfl)))) (mvT hZ (hw _ (List.mem_of_getElem? (i := 55) rfl))) (mvT hZ (hw _ (List.mem_of_getElem? (i := 54) rfl))) (by decide) (backOf (W := 0) (rm11 l Z a0 hw [] b94 pp ca95 (own_rec (own_rec own_z xx) yy) (2 : Int64) (own_maxL xx yy) 7295 T124.heap n0 Z124 Gc124 Gt124 Gl124 Ga124 hpc (by decide) (by decide) (own_stop2 hxx hyy hpc)) hZ (hw _ (List.mem_of_getElem? (i := 56) rfl)) (hw _ (List.mem_of_getElem? (i := 4) rfl)) (by decide) (by decide)) q136a q136c (g := (mkF m 181 #[.val (.long x0), .second, .val (.long x1), .second, .val (.int x2), .val (.int x3), .val (.long xx), .second, .val (.long yy), .second, .val (.int (1 : Int32)), .val (.int (1 : Int32)), .val (.int pp), .val (.ref b94), .val (.ref b96), .val (.ref b98), .val (.long (own_maxL xx yy)), .second] [(.int pp), (.ref b94)])) rfl (by rw [hml]; rfl) (Steps.refl _) (argsL := [(.int pp)]) (rest := []) (lenOf pd__I_J rfl) rfl (by show 2 * 0 + _ ≤ _; exact Nat.le_of_eq rfl) (hb hby at_181) (fun _ _ => ⟨rfl, e135, (by decide : 6 + 0 ≤ _), (by decide : 21897 + 0 ≤ _)⟩)
      dsimp only [Pt.U, Pt.locs, Pt.cells, Pt.slots] at X136 l136 y136 z136 st136 hQ136
      subst l136 y136 z136
      obtain ⟨ip136, hi136, hj136, hn136, rfl, Nq136, e136⟩ := hQ136
      have N136 := Fr.app N135 Nq136
      refine go (fun tg kg => st136.trans kg) ?_
      show G (T136.setTop (mkF m 184 #[.val (.long x0), .second, .val (.long x1), .second, .val (.int x2), .val (.int x3), .val (.long xx), .second, .val (.long yy), .second, .val (.int (1 : Int32)), .val (.int (1 : Int32)), .val (.int pp), .val (.ref b94), .val (.ref b96), .val (.ref b98), .val (.long (own_maxL xx yy)), .second] [(.long (own_minL (own_high (Int32.ofNat ip136)) (own_maxL xx yy)))]))
      refine go (fun tg kg => XS.aload X136.here hx rfl (hb hby at_184) rfl rfl kg) ?_
      show G (T136.setTop (mkF m 186 #[.val (.long x0), .second, .val (.long x1), .second, .val (.int x2), .val (.int x3), .val (.long xx), .second, .val (.long yy), .second, .val (.int (1 : Int32)), .val (.int (1 : Int32)), .val (.int pp), .val (.ref b94), .val (.ref b96), .val (.ref b98), .val (.long (own_maxL xx yy)), .second] [(.ref b98), (.long (own_minL (own_high (Int32.ofNat ip136)) (own_maxL xx yy)))]))
      refine go (fun tg kg => XS.iload X136.here hx rfl (hb hby at_186) rfl kg) ?_
      show G (T136.setTop (mkF m 188 #[.val (.long x0), .second, .val (.long x1), .second, .val (.int x2), .val (.int x3), .val (.long xx), .second, .val (.long yy), .second, .val (.int (1 : Int32)), .val (.int (1 : Int32)), .val (.int pp), .val (.ref b94), .val (.ref b96), .val (.ref b98), .val (.long (own_maxL xx yy)), .second] [(.int pp), (.ref b98), (.long (own_minL (own_high (Int32.ofNat ip136)) (own_maxL xx yy)))]))
      have Fa138 := (Gc118.keep K124 (ninS (Ne.symm (Nat.ne_of_lt (Nat.lt_of_lt_of_le ((Gl95.ext E96).keep K97 (ninS (Nat.ne_of_lt (Nat.lt_of_lt_of_le Gl95.lt (Nat.le_of_eq g96.symm))) nin0)).lt (Nat.le_of_eq g98.symm)))) (ninS (Ne.symm (Nat.ne_of_lt (Nat.lt_of_lt_of_le ((Ga95.ext E96).keep K97 (ninS (Nat.ne_of_lt (Nat.lt_of_lt_of_le Ga95.lt (Nat.le_of_eq g96.symm))) nin0)).lt (Nat.le_of_eq g98.symm)))) nin0)))
      have Fa139 := (Gt118.keep K124 (ninS (Ne.symm (Nat.ne_of_lt (Nat.lt_of_lt_of_le ((Gl95.ext E96).keep K97 (ninS (Nat.ne_of_lt (Nat.lt_of_lt_of_le Gl95.lt (Nat.le_of_eq g96.symm))) nin0)).lt (Nat.le_of_eq g98.symm)))) (ninS (Ne.symm (Nat.ne_of_lt (Nat.lt_of_lt_of_le ((Ga95.ext E96).keep K97 (ninS (Nat.ne_of_lt (Nat.lt_of_lt_of_le Ga95.lt (Nat.le_of_eq g96.symm))) nin0)).lt (Nat.le_of_eq g98.symm)))) nin0)))
      have Fa140 := (Gl118.keep K124 (ninS (Ne.symm (Nat.ne_of_lt (Nat.lt_of_lt_of_le ((Gl95.ext E96).keep K97 (ninS (Nat.ne_of_lt (Nat.lt_of_lt_of_le Gl95.lt (Nat.le_of_eq g96.symm))) nin0)).lt (Nat.le_of_eq g98.symm)))) (ninS (Ne.symm (Nat.ne_of_lt (Nat.lt_of_lt_of_le ((Ga95.ext E96).keep K97 (ninS (Nat.ne_of_lt (Nat.lt_of_lt_of_le Ga95.lt (Nat.le_of_eq g96.symm))) nin0)).lt (Nat.le_of_eq g98.symm)))) nin0)))
      have Fa141 := (Ga118.keep K124 (ninS (Ne.symm (Nat.ne_of_lt (Nat.lt_of_lt_of_le (((Gl95.ext E96).keep K97 (ninS (Nat.ne_of_lt (Nat.lt_of_lt_of_le Gl95.lt (Nat.le_of_eq g96.symm))) nin0)).ext E98).lt sz99))) (ninS (Ne.symm (Nat.ne_of_lt (Nat.lt_of_lt_of_le (((Ga95.ext E96).keep K97 (ninS (Nat.ne_of_lt (Nat.lt_of_lt_of_le Ga95.lt (Nat.le_of_eq g96.symm))) nin0)).ext E98).lt sz99))) nin0)))
      have Fa142 := (Ge118.keep K124)
      obtain ⟨cq137, kq137, q137a, q137b, q137c⟩ := isOf hZ e136 Fa142
      obtain ⟨_, _, ⟨T137, L137, k137, n137⟩, -, X137, ⟨Lc137, hQ137, l137, y137, z137⟩, st137⟩ := X136.virtualBack hx (y := (⟨"com/example/wary_commit/warycommit/LatencyHistogram", "percentile", "(I)J"⟩ : MethodName)) (z := (⟨"com/example/wary_commit/warycommit/LatencyHistogram", "percentile", "(I)J"⟩ : MethodName)) hown (mvT hZ (hw _ (List.mem_of_getElem? (i := 52) rfl))) (mvT hZ (hw _ (List.mem_of_getElem? (i := 53) rfl))) (notFace_of_selects (args := #[]) (mvT hZ (hw _ (List.mem_of_getElem? (i := 55) rfl)))) (mvT hZ (hw _ (List.mem_of_getElem? (i := 55) rfl))) (mvT hZ (hw _ (List.mem_of_getElem? (i := 54) rfl))) (by decide) (backOf (W := 2) (rm11 l Z a0 hw [] b98 pp ca99 (own_rec (own_rec own_z xx) yy) (2 : Int64) (own_maxL xx yy) 7295 T124.heap n0 Z124 Fa138 Fa139 Fa140 Fa141 hpc (by decide) (by decide) (own_stop2 hxx hyy hpc)) hZ (hw _ (List.mem_of_getElem? (i := 56) rfl)) (hw _ (List.mem_of_getElem? (i := 4) rfl)) (by decide) (by decide)) q137a q137c (g := (mkF m 188 #[.val (.long x0), .second, .val (.long x1), .second, .val (.int x2), .val (.int x3), .val (.long xx), .second, .val (.long yy), .second, .val (.int (1 : Int32)), .val (.int (1 : Int32)), .val (.int pp), .val (.ref b94), .val (.ref b96), .val (.ref b98), .val (.long (own_maxL xx yy)), .second] [(.int pp), (.ref b98), (.long (own_minL (own_high (Int32.ofNat ip136)) (own_maxL xx yy)))])) rfl (by rw [hml]; rfl) (Steps.refl _) (argsL := [(.int pp)]) (rest := [(.long (own_minL (own_high (Int32.ofNat ip136)) (own_maxL xx yy)))]) (lenOf pd__I_J rfl) rfl (by show 2 * 0 + _ ≤ _; exact Nat.le_of_eq rfl) (hb hby at_188) (fun _ _ => ⟨rfl, e136, (by decide : 6 + 0 ≤ _), (by decide : 21897 + 0 ≤ _)⟩)
      dsimp only [Pt.U, Pt.locs, Pt.cells, Pt.slots] at X137 l137 y137 z137 st137 hQ137
      subst l137 y137 z137
      obtain ⟨ip137, hi137, hj137, hn137, rfl, Nq137, e137⟩ := hQ137
      have N137 := Fr.app N136 Nq137
      refine go (fun tg kg => st137.trans kg) ?_
      show G (T137.setTop (mkF m 191 #[.val (.long x0), .second, .val (.long x1), .second, .val (.int x2), .val (.int x3), .val (.long xx), .second, .val (.long yy), .second, .val (.int (1 : Int32)), .val (.int (1 : Int32)), .val (.int pp), .val (.ref b94), .val (.ref b96), .val (.ref b98), .val (.long (own_maxL xx yy)), .second] [(.long (own_minL (own_high (Int32.ofNat ip137)) (own_maxL xx yy))), (.long (own_minL (own_high (Int32.ofNat ip136)) (own_maxL xx yy)))]))
      refine go (fun tg kg => XS.lcmp X137.here hx rfl (hb hby at_191) rfl kg) ?_
      show G (T137.setTop (mkF m 192 #[.val (.long x0), .second, .val (.long x1), .second, .val (.int x2), .val (.int x3), .val (.long xx), .second, .val (.long yy), .second, .val (.int (1 : Int32)), .val (.int (1 : Int32)), .val (.int pp), .val (.ref b94), .val (.ref b96), .val (.ref b98), .val (.long (own_maxL xx yy)), .second] [(.int (lcmpW (own_minL (own_high (Int32.ofNat ip136)) (own_maxL xx yy)) (own_minL (own_high (Int32.ofNat ip137)) (own_maxL xx yy))))]))
      refine go (fun tg kg => XS.ifNo X137.here hx rfl (hb hby at_192) rfl ((if0 _ _).trans (teq ((lw_eq (own_minL (own_high (Int32.ofNat ip136)) (own_maxL xx yy)) (own_minL (own_high (Int32.ofNat ip137)) (own_maxL xx yy))).mpr (by rw [own_uniq hj136 hn136 hj137 hn137]))).2) kg) ?_
      show G (T137.setTop (mkF m 195 #[.val (.long x0), .second, .val (.long x1), .second, .val (.int x2), .val (.int x3), .val (.long xx), .second, .val (.long yy), .second, .val (.int (1 : Int32)), .val (.int (1 : Int32)), .val (.int pp), .val (.ref b94), .val (.ref b96), .val (.ref b98), .val (.long (own_maxL xx yy)), .second] []))
      refine go (fun tg kg => XS.iconst X137.here hx rfl (hb hby at_195) kg) ?_
      show G (T137.setTop (mkF m 196 #[.val (.long x0), .second, .val (.long x1), .second, .val (.int x2), .val (.int x3), .val (.long xx), .second, .val (.long yy), .second, .val (.int (1 : Int32)), .val (.int (1 : Int32)), .val (.int pp), .val (.ref b94), .val (.ref b96), .val (.ref b98), .val (.long (own_maxL xx yy)), .second] [(.int (1 : Int32))]))
      refine go (fun tg kg => XS.goto X137.here hx rfl (pc0 := 196) (pc' := 200) rfl (hb hby at_196) (by decide) (by decide) kg) ?_
      show G (T137.setTop (mkF m 200 #[.val (.long x0), .second, .val (.long x1), .second, .val (.int x2), .val (.int x3), .val (.long xx), .second, .val (.long yy), .second, .val (.int (1 : Int32)), .val (.int (1 : Int32)), .val (.int pp), .val (.ref b94), .val (.ref b96), .val (.ref b98), .val (.long (own_maxL xx yy)), .second] [(.int (1 : Int32))]))
      refine fin (some (.int (1 : Int32))) X137 (fun h => absurd h (by decide)) (fun fs hr => retN X137 hx (t := .boolean) hret (by simp) (hb hby at_200) hr) (by decide) (by decide) ?_
      rw [e137]
      exact ⟨rfl, N137⟩
set_option maxRecDepth 65536 in
set_option maxHeartbeats 40000000 in
theorem comes_1 {Post : Tables → Env → Array Value → State → Outcome → State → Prop} (hpost : ∀ tb e args s v u, (limb_1_1.after args s (.returned v) u = true ∧ limb_1_2.after args s (.returned v) u = true ∧ True) → FrameEnd s (.returned v) u (Jvm.fieldLocs frame_1_writes args s ++ Jvm.arrayLocs frame_1_arrays args s ++ Jvm.staticLocs frame_1_statics s) 24 43904 → Post tb e args s (.returned v) u) :
    ArmFor flags0 classFile x code maxLocals ret World_1 tables_1 room_1 Calls_1 rest_1 Pre_1 Post := by
  intro l hfl _ _ p e ha hc hk s m args below hf hA hF happ hP
  obtain ⟨hcalls, hrest, hpre⟩ := hP
  obtain ⟨-, -, -, hnamed, -, -, -, hat⟩ := (Spec.applies_iff hf).mp happ
  obtain ⟨hg, hn⟩ := and_e (Cond.before_iff.mp (show (Jvm.Cond.and given_1 narrow_1).before args s = true from hpre))
  obtain ⟨gc, gr0⟩ := and_e hg
  obtain ⟨ga0, gr1⟩ := and_e gr0
  obtain ⟨ga1, gr2⟩ := and_e gr1
  obtain ⟨ga2, gr3⟩ := and_e gr2
  have ga3 := gr3
  obtain ⟨w0, w1, w2, w3, rfl⟩ : ∃ w0 w1 w2 w3 : Value, args = #[w0, w1, w2, w3] := by
    have hs : args.size = 4 := by simpa [Cond.value, given_1] using gc
    obtain ⟨L⟩ := args
    match L, hs with
    | [w0, w1, w2, w3], _ => exact ⟨w0, w1, w2, w3, rfl⟩
  have hw := fun d (hd : d ∈ tables_1) => atoms_spec (ws := Jvm.Cond.code x code maxLocals ret :: tables_1) hat d (List.mem_cons_of_mem _ hd)
  have hfit : Fit s := fun {y c} hc i hi => by
    obtain ⟨ha, rfl⟩ := Array.getElem?_eq_some_iff.mp hc
    have q := List.all_eq_true.mp ((Array.all_eq_true_iff_forall_mem.mp hF) _ (Array.getElem_mem ha)) i (List.mem_range.mpr hi)
    simpa [Array.getElem?_eq_getElem hi] using q
  obtain ⟨i0, ei0⟩ := isL_v ga0
  obtain rfl : w0 = (.long i0) := Option.some.inj ei0
  obtain ⟨i1, ei1⟩ := isL_v ga1
  obtain rfl : w1 = (.long i1) := Option.some.inj ei1
  obtain ⟨i2, ei2⟩ := is_v ga2
  obtain rfl : w2 = (.int i2) := Option.some.inj ei2
  obtain ⟨i3, ei3⟩ := is_v ga3
  obtain rfl : w3 = (.int i3) := Option.some.inj ei3
  obtain ⟨n, o, h1, h2, h3, _, L, rfl, ⟨rfl, N⟩, hq⟩ := rm0 l s _ hw tables_1 i0 i1 i2 i3  s.heap s.heap.size (Nat.le_refl _)  p e ha hc hk s m _ below hf ((Spec.applies_iff_loose hf).mp happ).1 ⟨rfl, State.Warmed39.refl s, rfl⟩ trivial
  refine ⟨n, _, h1, h2, h3, hpost _ _ _ _ _ _ ⟨Cond.after_iff.mpr rfl, Cond.after_iff.mpr (eq_i res_at (Term.int_eval (1)) rfl), trivial⟩ ⟨hq.1, hq.2.1, (hq.2.2.sift fun y hy => Or.inr (N y hy)).mono (by decide) (by decide)⟩⟩
theorem main_1_1 : Claimed_1_1 := comes_1 fun _ _ _ _ _ _ h hF => ⟨h.1, hF⟩
theorem main_1_2 : Claimed_1_2 := comes_1 fun _ _ _ _ _ _ h hF => ⟨h.2.1, hF⟩
end Jvm.Pilot.@@N@@
namespace Jvm.Pilot.@@N@@
open Jvm Jvm.ClassFile Sem Op Lib Jvm.Free Jvm.Stand Jvm.Pilot.@@N@@.Jvm.D
/-! MADE BY PROGRAM (witnessworld.py) out of the Statement's table words and the real class files: 18 classes; the members and pool entries that the words name. The judged class is class 1, her method 1. -/
namespace start1
open Jvm.ClassFile
def u (s : String) : CpInfo := .utf8 (stringToUtf16 s)
/-- a pool by its gaps: so many unusable entries, then the entry; so many at the end -/
def gap : Nat → List CpInfo → List CpInfo
  | 0, r => r
  | n + 1, r => .unusable :: gap n r
def poolList (es : List (Nat × CpInfo)) (last : Nat) : List CpInfo := es.foldr (fun e r => gap e.1 (e.2 :: r)) (gap last [])
def pool (es : List (Nat × CpInfo)) (last : Nat) : Array CpInfo := ⟨poolList es last⟩
def fileOf (pool : Array CpInfo) (this : Nat) (attrs : Array Attribute := #[]) (ms : Array MethodInfo := #[]) (fl : Nat := 33) (sup : Nat := 0) (ifs : Array Nat := #[]) (fds : Array FieldInfo := #[]) : ClassFile where
  minorVersion := 0
  majorVersion := 65
  constantPool := pool
  accessFlags := fl
  thisClass := this
  superClass := sup
  interfaces := ifs
  fields := fds
  methods := ms
  attributes := attrs
def plain (name : String) (sup : Option ClassId) : Class where
  name := name
  kind := .ordinary
  loader := none
  accessFlags := 33
  super := sup
  interfaces := #[]
  cf := none
  fields := #[]
  methods := #[]
  instanceTypes := #[]
  staticTypes := #[]
  resolved := #[]
  callSites := []
  init := .initialized
  statics := none
  mirror := none

def pool0 : Array CpInfo := pool [(5, u "<init>"), (0, u "()V"), (1, .class_ 10), (1, u "java/lang/Object")] 113

def k0c0 : Code := { maxStack := 0, maxLocals := 1, code := object_method_1_code, exceptionTable := #[], attributes := #[] }
def k0m0 : Method := { name := "<init>", desc := "()V", sig := { parameters := [], returnType := none }, accessFlags := 1, code := some k0c0 }
/-- java/lang/Object -/
def k0 : Class := { plain "java/lang/Object" none with
  accessFlags := 33
  interfaces := #[]
  cf := some (fileOf pool0 8 #[] #[{ accessFlags := 1, nameIndex := 5, descriptorIndex := 6, attributes := #[] }] 33 0 #[] #[])
  fields := #[]
  methods := #[k0m0]
  instanceTypes := #[]
  staticTypes := #[]
  resolved := Array.replicate 124 none
  statics := none }

def pool1 : Array CpInfo := pool [(2, .class_ 4), (0, .nameAndType 5 6), (0, u "java/lang/Object"), (0, u "<init>"), (0, u "()V"), (2, .long 9223372036854775807), (1, .integer 2147483647), (0, .class_ 13), (0, u "com/example/wary_commit/warycommit/LatencyHistogram"), (0, .methodref 12 3), (0, .methodref 12 16), (0, .nameAndType 17 18), (0, u "record"), (0, u "(J)V"), (0, .methodref 12 20), (0, .nameAndType 21 22), (0, u "add"), (0, u "(Lcom/example/wary_commit/warycommit/LatencyHistogram;)V"), (0, .methodref 24 25), (0, .class_ 26), (0, .nameAndType 27 28), (0, u "java/lang/Math"), (0, u "max"), (0, u "(JJ)J"), (0, .methodref 12 30), (0, .nameAndType 31 32), (0, u "longest"), (0, u "()J"), (0, .methodref 12 34), (0, .nameAndType 35 36), (0, u "percentile"), (0, u "(I)J"), (0, .class_ 38), (0, u "com/example/wary_commit/warycommit/LatencyHistogramAddPinLaw"), (2, u "law"), (0, u "(JJII)Z")] 3

def k1m0 : Method := { name := "<init>", desc := "()V", sig := { parameters := [], returnType := none }, accessFlags := 1, code := none }
def k1c1 : Code := { maxStack := 4, maxLocals := 18, code := code, exceptionTable := #[], attributes := #[] }
def k1m1 : Method := { name := "law", desc := "(JJII)Z", sig := { parameters := [.long, .long, .int, .int], returnType := some .boolean }, accessFlags := 9, code := some k1c1 }
/-- com/example/wary_commit/warycommit/LatencyHistogramAddPinLaw -/
def k1 : Class := { plain "com/example/wary_commit/warycommit/LatencyHistogramAddPinLaw" (some 0) with
  accessFlags := 49
  interfaces := #[]
  cf := some (fileOf pool1 37 #[] #[{ accessFlags := 1, nameIndex := 5, descriptorIndex := 6, attributes := #[] }, { accessFlags := 9, nameIndex := 41, descriptorIndex := 42, attributes := #[] }] 49 2 #[] #[])
  fields := #[]
  methods := #[k1m0, k1m1]
  instanceTypes := #[]
  staticTypes := #[]
  resolved := Array.replicate 46 none
  statics := none }

def pool2 : Array CpInfo := pool [(1, .class_ 2), (0, u "java/lang/Long"), (0, .class_ 4), (0, u "com/example/wary_commit/warycommit/LatencyHistogram"), (0, .methodref 6 7), (0, .class_ 8), (0, .nameAndType 9 10), (0, u "java/lang/Object"), (0, u "<init>"), (0, u "()V"), (0, .fieldref 3 12), (0, .nameAndType 13 14), (0, u "counts"), (0, u "[J"), (9, .methodref 3 25), (0, .nameAndType 26 27), (0, u "indexOf"), (0, u "(J)I"), (0, .fieldref 3 29), (0, .nameAndType 30 31), (0, u "total"), (0, u "J"), (0, .fieldref 3 33), (0, .nameAndType 34 31), (0, u "longest"), (0, .methodref 36 37), (0, .class_ 38), (0, .nameAndType 39 40), (0, u "java/lang/Math"), (0, u "max"), (0, u "(JJ)J"), (8, .long 100), (1, .long 99), (1, .methodref 3 54), (0, .nameAndType 55 56), (0, u "highestOf"), (0, u "(I)J"), (0, .methodref 36 58), (0, .nameAndType 59 40), (0, u "min"), (0, .methodref 1 61), (0, .nameAndType 62 27), (0, u "numberOfLeadingZeros"), (0, .methodref 36 64), (0, .nameAndType 39 65), (0, u "(II)I"), (0, u "SUB_BITS"), (0, u "I"), (2, u "COUNTS"), (3, u "record"), (0, u "(J)V"), (1, u "add"), (0, u "(Lcom/example/wary_commit/warycommit/LatencyHistogram;)V"), (0, u "()J"), (0, u "percentile")] 19

def k2c0 : Code := { maxStack := 2, maxLocals := 1, code := prog_19_method_1_code, exceptionTable := #[], attributes := #[] }
def k2m0 : Method := { name := "<init>", desc := "()V", sig := { parameters := [], returnType := none }, accessFlags := 0, code := some k2c0 }
def k2c1 : Code := { maxStack := 6, maxLocals := 3, code := prog_19_method_2_code, exceptionTable := #[], attributes := #[] }
def k2m1 : Method := { name := "record", desc := "(J)V", sig := { parameters := [.long], returnType := none }, accessFlags := 0, code := some k2c1 }
def k2c2 : Code := { maxStack := 6, maxLocals := 3, code := prog_19_method_3_code, exceptionTable := #[], attributes := #[] }
def k2m2 : Method := { name := "add", desc := "(Lcom/example/wary_commit/warycommit/LatencyHistogram;)V", sig := { parameters := [(.object "com/example/wary_commit/warycommit/LatencyHistogram")], returnType := none }, accessFlags := 0, code := some k2c2 }
def k2c3 : Code := { maxStack := 2, maxLocals := 1, code := prog_19_method_4_code, exceptionTable := #[], attributes := #[] }
def k2m3 : Method := { name := "longest", desc := "()J", sig := { parameters := [], returnType := some .long }, accessFlags := 0, code := some k2c3 }
def k2c4 : Code := { maxStack := 6, maxLocals := 7, code := prog_19_method_5_code, exceptionTable := #[], attributes := #[] }
def k2m4 : Method := { name := "percentile", desc := "(I)J", sig := { parameters := [.int], returnType := some .long }, accessFlags := 0, code := some k2c4 }
def k2c5 : Code := { maxStack := 4, maxLocals := 3, code := prog_19_method_6_code, exceptionTable := #[], attributes := #[] }
def k2m5 : Method := { name := "indexOf", desc := "(J)I", sig := { parameters := [.long], returnType := some .int }, accessFlags := 10, code := some k2c5 }
def k2c6 : Code := { maxStack := 5, maxLocals := 4, code := prog_19_method_7_code, exceptionTable := #[], attributes := #[] }
def k2m6 : Method := { name := "highestOf", desc := "(I)J", sig := { parameters := [.int], returnType := some .long }, accessFlags := 10, code := some k2c6 }
/-- com/example/wary_commit/warycommit/LatencyHistogram -/
def k2 : Class := { plain "com/example/wary_commit/warycommit/LatencyHistogram" (some 0) with
  accessFlags := 32
  interfaces := #[]
  cf := some (fileOf pool2 3 #[] #[{ accessFlags := 0, nameIndex := 9, descriptorIndex := 10, attributes := #[] }, { accessFlags := 0, nameIndex := 74, descriptorIndex := 75, attributes := #[] }, { accessFlags := 0, nameIndex := 77, descriptorIndex := 78, attributes := #[] }, { accessFlags := 0, nameIndex := 34, descriptorIndex := 79, attributes := #[] }, { accessFlags := 0, nameIndex := 80, descriptorIndex := 56, attributes := #[] }, { accessFlags := 10, nameIndex := 26, descriptorIndex := 27, attributes := #[] }, { accessFlags := 10, nameIndex := 55, descriptorIndex := 56, attributes := #[] }] 32 6 #[] #[{ accessFlags := 26, nameIndex := 66, descriptorIndex := 67, attributes := #[] }, { accessFlags := 26, nameIndex := 70, descriptorIndex := 67, attributes := #[] }, { accessFlags := 18, nameIndex := 13, descriptorIndex := 14, attributes := #[] }, { accessFlags := 2, nameIndex := 30, descriptorIndex := 31, attributes := #[] }, { accessFlags := 2, nameIndex := 34, descriptorIndex := 31, attributes := #[] }])
  fields := #[{ name := "SUB_BITS", type := .int, accessFlags := 26, slot := 0, constantValue := 0 }, { name := "COUNTS", type := .int, accessFlags := 26, slot := 1, constantValue := 0 }, { name := "counts", type := (.array .long), accessFlags := 18, slot := 0, constantValue := 0 }, { name := "total", type := .long, accessFlags := 2, slot := 1, constantValue := 0 }, { name := "longest", type := .long, accessFlags := 2, slot := 2, constantValue := 0 }]
  methods := #[k2m0, k2m1, k2m2, k2m3, k2m4, k2m5, k2m6]
  instanceTypes := #[(.array .long), .long, .long]
  staticTypes := #[.int, .int]
  resolved := Array.replicate 100 none
  statics := none }

def pool3 : Array CpInfo := pool [(1, .class_ 2), (0, u "java/lang/Math"), (1, .class_ 6), (1, u "java/lang/Object"), (0, u "<init>"), (0, u "()V"), (89, .class_ 100), (1, u "java/lang/Math$RandomNumberGeneratorHolder"), (20, u "(JJ)J"), (50, u "negativeZeroFloatBits"), (0, u "J"), (2, u "negativeZeroDoubleBits"), (21, u "max"), (2, u "min"), (43, u "$assertionsDisabled"), (0, u "Z"), (88, u "(II)I"), (2, u "twoToTheDoubleScaleDown"), (0, u "D"), (4, u "twoToTheDoubleScaleUp"), (9, u "E"), (3, u "PI"), (2, u "TAU"), (2, u "DEGREES_TO_RADIANS"), (0, u "RADIANS_TO_DEGREES")] 94

def k3m0 : Method := { name := "<init>", desc := "()V", sig := { parameters := [], returnType := none }, accessFlags := 2, code := none }
def k3c1 : Code := { maxStack := 2, maxLocals := 2, code := jdk_29_method_65_code, exceptionTable := #[], attributes := #[] }
def k3m1 : Method := { name := "max", desc := "(II)I", sig := { parameters := [.int, .int], returnType := some .int }, accessFlags := 9, code := some k3c1 }
def k3c2 : Code := { maxStack := 4, maxLocals := 4, code := jdk_29_method_66_code, exceptionTable := #[], attributes := #[] }
def k3m2 : Method := { name := "max", desc := "(JJ)J", sig := { parameters := [.long, .long], returnType := some .long }, accessFlags := 9, code := some k3c2 }
def k3c3 : Code := { maxStack := 4, maxLocals := 4, code := jdk_29_method_70_code, exceptionTable := #[], attributes := #[] }
def k3m3 : Method := { name := "min", desc := "(JJ)J", sig := { parameters := [.long, .long], returnType := some .long }, accessFlags := 9, code := some k3c3 }
/-- java/lang/Math -/
def k3 : Class := { plain "java/lang/Math" (some 0) with
  accessFlags := 49
  interfaces := #[]
  cf := some (fileOf pool3 1 #[.nestMembers #[98]] #[{ accessFlags := 2, nameIndex := 7, descriptorIndex := 8, attributes := #[] }, { accessFlags := 9, nameIndex := 198, descriptorIndex := 335, attributes := #[] }, { accessFlags := 9, nameIndex := 198, descriptorIndex := 121, attributes := #[] }, { accessFlags := 9, nameIndex := 201, descriptorIndex := 121, attributes := #[] }] 49 4 #[] #[{ accessFlags := 25, nameIndex := 354, descriptorIndex := 339, attributes := #[] }, { accessFlags := 25, nameIndex := 358, descriptorIndex := 339, attributes := #[] }, { accessFlags := 25, nameIndex := 361, descriptorIndex := 339, attributes := #[] }, { accessFlags := 26, nameIndex := 364, descriptorIndex := 339, attributes := #[] }, { accessFlags := 26, nameIndex := 365, descriptorIndex := 339, attributes := #[] }, { accessFlags := 26, nameIndex := 172, descriptorIndex := 173, attributes := #[] }, { accessFlags := 26, nameIndex := 176, descriptorIndex := 173, attributes := #[] }, { accessFlags := 8, nameIndex := 344, descriptorIndex := 339, attributes := #[] }, { accessFlags := 8, nameIndex := 338, descriptorIndex := 339, attributes := #[] }, { accessFlags := 4120, nameIndex := 245, descriptorIndex := 246, attributes := #[] }])
  fields := #[{ name := "E", type := .double, accessFlags := 25, slot := 0, constantValue := 0 }, { name := "PI", type := .double, accessFlags := 25, slot := 1, constantValue := 0 }, { name := "TAU", type := .double, accessFlags := 25, slot := 2, constantValue := 0 }, { name := "DEGREES_TO_RADIANS", type := .double, accessFlags := 26, slot := 3, constantValue := 0 }, { name := "RADIANS_TO_DEGREES", type := .double, accessFlags := 26, slot := 4, constantValue := 0 }, { name := "negativeZeroFloatBits", type := .long, accessFlags := 26, slot := 5, constantValue := 0 }, { name := "negativeZeroDoubleBits", type := .long, accessFlags := 26, slot := 6, constantValue := 0 }, { name := "twoToTheDoubleScaleUp", type := .double, accessFlags := 8, slot := 7, constantValue := 0 }, { name := "twoToTheDoubleScaleDown", type := .double, accessFlags := 8, slot := 8, constantValue := 0 }, { name := "$assertionsDisabled", type := .boolean, accessFlags := 4120, slot := 9, constantValue := 0 }]
  methods := #[k3m0, k3m1, k3m2, k3m3]
  instanceTypes := #[]
  staticTypes := #[.double, .double, .double, .double, .double, .long, .long, .double, .double, .boolean]
  resolved := Array.replicate 460 none
  statics := none }

def pool4 : Array CpInfo := pool [(1, .class_ 2), (0, u "java/io/Serializable"), (0, .class_ 4), (0, u "java/lang/Object")] 2

/-- java/io/Serializable -/
def k4 : Class := { plain "java/io/Serializable" (some 0) with
  accessFlags := 1537
  interfaces := #[]
  cf := some (fileOf pool4 1 #[] #[] 1537 3 #[] #[])
  fields := #[]
  methods := #[]
  instanceTypes := #[]
  staticTypes := #[]
  resolved := Array.replicate 7 none
  statics := none }

def pool5 : Array CpInfo := pool [(2, .class_ 4), (1, u "java/lang/Object"), (0, u "<init>"), (0, u "()V"), (1, .class_ 10), (1, u "java/lang/Number"), (2, .class_ 14), (0, u "java/io/Serializable"), (0, u "serialVersionUID"), (0, u "J")] 20

def k5m0 : Method := { name := "<init>", desc := "()V", sig := { parameters := [], returnType := none }, accessFlags := 1, code := none }
/-- java/lang/Number -/
def k5 : Class := { plain "java/lang/Number" (some 0) with
  accessFlags := 1057
  interfaces := #[4]
  cf := some (fileOf pool5 8 #[] #[{ accessFlags := 1, nameIndex := 5, descriptorIndex := 6, attributes := #[] }] 1057 2 #[13] #[{ accessFlags := 26, nameIndex := 15, descriptorIndex := 16, attributes := #[] }])
  fields := #[{ name := "serialVersionUID", type := .long, accessFlags := 26, slot := 0, constantValue := 0 }]
  methods := #[k5m0]
  instanceTypes := #[]
  staticTypes := #[.long]
  resolved := Array.replicate 37 none
  statics := none }

def pool6 : Array CpInfo := pool [(1, .class_ 2), (0, u "java/lang/Comparable"), (0, .class_ 4), (0, u "java/lang/Object")] 7

/-- java/lang/Comparable -/
def k6 : Class := { plain "java/lang/Comparable" (some 0) with
  accessFlags := 1537
  interfaces := #[]
  cf := some (fileOf pool6 1 #[] #[] 1537 3 #[] #[])
  fields := #[]
  methods := #[]
  instanceTypes := #[]
  staticTypes := #[]
  resolved := Array.replicate 12 none
  statics := none }

def pool7 : Array CpInfo := pool [(1, .class_ 2), (0, u "java/lang/constant/Constable"), (0, .class_ 4), (0, u "java/lang/Object")] 6

/-- java/lang/constant/Constable -/
def k7 : Class := { plain "java/lang/constant/Constable" (some 0) with
  accessFlags := 1537
  interfaces := #[]
  cf := some (fileOf pool7 1 #[] #[] 1537 3 #[] #[])
  fields := #[]
  methods := #[]
  instanceTypes := #[]
  staticTypes := #[]
  resolved := Array.replicate 11 none
  statics := none }

def pool8 : Array CpInfo := pool [(1, .class_ 2), (0, u "java/lang/constant/ConstantDesc"), (0, .class_ 4), (0, u "java/lang/Object")] 32

/-- java/lang/constant/ConstantDesc -/
def k8 : Class := { plain "java/lang/constant/ConstantDesc" (some 0) with
  accessFlags := 1537
  interfaces := #[]
  cf := some (fileOf pool8 1 #[] #[] 1537 3 #[] #[])
  fields := #[]
  methods := #[]
  instanceTypes := #[]
  staticTypes := #[]
  resolved := Array.replicate 37 none
  statics := none }

def pool9 : Array CpInfo := pool [(1, .class_ 2), (0, u "java/lang/Long"), (15, .class_ 20), (1, u "java/lang/Integer"), (79, u "numberOfLeadingZeros"), (0, u "(J)I"), (133, .class_ 237), (1, u "java/lang/Long$LongCache"), (33, .class_ 272), (0, u "java/lang/Number"), (2, u "value"), (0, u "J"), (31, .methodref 18 309), (0, .nameAndType 100 310), (0, u "(I)I"), (50, u "TYPE"), (0, u "Ljava/lang/Class;"), (0, .class_ 364), (0, u "java/lang/Comparable"), (0, .class_ 366), (0, u "java/lang/constant/Constable"), (0, .class_ 368), (0, u "java/lang/constant/ConstantDesc"), (0, u "MIN_VALUE"), (1, u "MAX_VALUE"), (4, u "SIZE"), (0, u "I"), (1, u "BYTES"), (1, u "serialVersionUID")] 142

def k9c0 : Code := { maxStack := 3, maxLocals := 3, code := jdk_35_method_48_code, exceptionTable := #[], attributes := #[] }
def k9m0 : Method := { name := "numberOfLeadingZeros", desc := "(J)I", sig := { parameters := [.long], returnType := some .int }, accessFlags := 9, code := some k9c0 }
/-- java/lang/Long -/
def k9 : Class := { plain "java/lang/Long" (some 5) with
  accessFlags := 49
  interfaces := #[6, 7, 8]
  cf := some (fileOf pool9 1 #[.nestMembers #[235]] #[{ accessFlags := 9, nameIndex := 100, descriptorIndex := 101, attributes := #[] }] 49 271 #[363, 365, 367] #[{ accessFlags := 25, nameIndex := 369, descriptorIndex := 276, attributes := #[] }, { accessFlags := 25, nameIndex := 371, descriptorIndex := 276, attributes := #[] }, { accessFlags := 25, nameIndex := 361, descriptorIndex := 362, attributes := #[] }, { accessFlags := 18, nameIndex := 275, descriptorIndex := 276, attributes := #[] }, { accessFlags := 25, nameIndex := 376, descriptorIndex := 377, attributes := #[] }, { accessFlags := 25, nameIndex := 379, descriptorIndex := 377, attributes := #[] }, { accessFlags := 26, nameIndex := 381, descriptorIndex := 276, attributes := #[] }])
  fields := #[{ name := "MIN_VALUE", type := .long, accessFlags := 25, slot := 0, constantValue := 0 }, { name := "MAX_VALUE", type := .long, accessFlags := 25, slot := 1, constantValue := 0 }, { name := "TYPE", type := (.object "java/lang/Class"), accessFlags := 25, slot := 2, constantValue := 0 }, { name := "value", type := .long, accessFlags := 18, slot := 0, constantValue := 0 }, { name := "SIZE", type := .int, accessFlags := 25, slot := 3, constantValue := 0 }, { name := "BYTES", type := .int, accessFlags := 25, slot := 4, constantValue := 0 }, { name := "serialVersionUID", type := .long, accessFlags := 26, slot := 5, constantValue := 0 }]
  methods := #[k9m0]
  instanceTypes := #[.long]
  staticTypes := #[.long, .long, (.object "java/lang/Class"), .int, .int, .long]
  resolved := Array.replicate 524 none
  statics := none }

def pool10 : Array CpInfo := pool [(1, .class_ 2), (0, u "java/lang/Integer"), (16, u "digits"), (0, u "[C"), (32, u "numberOfLeadingZeros"), (0, u "(I)I"), (30, u "DigitOnes"), (0, u "[B"), (2, u "DigitTens"), (99, .class_ 190), (0, u "java/lang/Integer$IntegerCache"), (3, u "I"), (8, .class_ 204), (0, u "java/lang/Number"), (2, u "value"), (56, .integer 65536), (37, u "TYPE"), (0, u "Ljava/lang/Class;"), (0, .class_ 305), (0, u "java/lang/Comparable"), (0, .class_ 307), (0, u "java/lang/constant/Constable"), (0, .class_ 309), (0, u "java/lang/constant/ConstantDesc"), (0, u "MIN_VALUE"), (1, u "MAX_VALUE"), (3, u "SIZE"), (1, u "BYTES"), (1, u "serialVersionUID"), (0, u "J")] 131

def k10c0 : Code := { maxStack := 3, maxLocals := 2, code := jdk_33_method_47_code, exceptionTable := #[], attributes := #[] }
def k10m0 : Method := { name := "numberOfLeadingZeros", desc := "(I)I", sig := { parameters := [.int], returnType := some .int }, accessFlags := 9, code := some k10c0 }
/-- java/lang/Integer -/
def k10 : Class := { plain "java/lang/Integer" (some 5) with
  accessFlags := 49
  interfaces := #[6, 7, 8]
  cf := some (fileOf pool10 1 #[.nestMembers #[189]] #[{ accessFlags := 9, nameIndex := 53, descriptorIndex := 54, attributes := #[] }] 49 203 #[304, 306, 308] #[{ accessFlags := 25, nameIndex := 310, descriptorIndex := 194, attributes := #[] }, { accessFlags := 25, nameIndex := 312, descriptorIndex := 194, attributes := #[] }, { accessFlags := 25, nameIndex := 302, descriptorIndex := 303, attributes := #[] }, { accessFlags := 24, nameIndex := 19, descriptorIndex := 20, attributes := #[] }, { accessFlags := 24, nameIndex := 89, descriptorIndex := 86, attributes := #[] }, { accessFlags := 24, nameIndex := 85, descriptorIndex := 86, attributes := #[] }, { accessFlags := 18, nameIndex := 207, descriptorIndex := 194, attributes := #[] }, { accessFlags := 25, nameIndex := 316, descriptorIndex := 194, attributes := #[] }, { accessFlags := 25, nameIndex := 318, descriptorIndex := 194, attributes := #[] }, { accessFlags := 26, nameIndex := 320, descriptorIndex := 321, attributes := #[] }])
  fields := #[{ name := "MIN_VALUE", type := .int, accessFlags := 25, slot := 0, constantValue := 0 }, { name := "MAX_VALUE", type := .int, accessFlags := 25, slot := 1, constantValue := 0 }, { name := "TYPE", type := (.object "java/lang/Class"), accessFlags := 25, slot := 2, constantValue := 0 }, { name := "digits", type := (.array .char), accessFlags := 24, slot := 3, constantValue := 0 }, { name := "DigitTens", type := (.array .byte), accessFlags := 24, slot := 4, constantValue := 0 }, { name := "DigitOnes", type := (.array .byte), accessFlags := 24, slot := 5, constantValue := 0 }, { name := "value", type := .int, accessFlags := 18, slot := 0, constantValue := 0 }, { name := "SIZE", type := .int, accessFlags := 25, slot := 6, constantValue := 0 }, { name := "BYTES", type := .int, accessFlags := 25, slot := 7, constantValue := 0 }, { name := "serialVersionUID", type := .long, accessFlags := 26, slot := 8, constantValue := 0 }]
  methods := #[k10m0]
  instanceTypes := #[.int]
  staticTypes := #[.int, .int, (.object "java/lang/Class"), (.array .char), (.array .byte), (.array .byte), .int, .int, .long]
  resolved := Array.replicate 453 none
  statics := none }

def pool11 : Array CpInfo := pool [(1, u "java/lang/Cloneable"), (0, .class_ 1), (0, u "java/lang/Object"), (0, .class_ 3)] 3

/-- java/lang/Cloneable -/
def k11 : Class := { plain "java/lang/Cloneable" (some 0) with
  accessFlags := 1537
  interfaces := #[]
  cf := some (fileOf pool11 2 #[] #[] 1537 4 #[] #[])
  fields := #[]
  methods := #[]
  instanceTypes := #[]
  staticTypes := #[]
  resolved := Array.replicate 8 none
  statics := none }

/-- the primitive byte -/
def k12 : Class := { plain "byte" none with kind := .primitive 'B', accessFlags := 0x411 }
/-- [B -/
def k13 : Class := { plain "[B" (some 0) with kind := .array 12 .byte, interfaces := #[11, 4], accessFlags := 1041 }

/-- the primitive int -/
def k14 : Class := { plain "int" none with kind := .primitive 'I', accessFlags := 0x411 }
/-- [I -/
def k15 : Class := { plain "[I" (some 0) with kind := .array 14 .int, interfaces := #[11, 4], accessFlags := 1041 }

/-- the primitive long -/
def k16 : Class := { plain "long" none with kind := .primitive 'J', accessFlags := 0x411 }
/-- [J -/
def k17 : Class := { plain "[J" (some 0) with kind := .array 16 .long, interfaces := #[11, 4], accessFlags := 1041 }

def heap : Heap := #[]
def classes : Array Class := #[k0, k1, k2, k3, k4, k5, k6, k7, k8, k9, k10, k11, k12, k13, k14, k15, k16, k17]
def interned : List (Array UInt16 × Addr) := []
def slotsUsed : Nat := 0
def theMethod : MethodId := ⟨1, 1⟩
def args0 : Array Value := #[.long 3, .long 6, .int 3, .int 50]
def aboutOver (below : List Frame) : State where
  vm := { classes := classes, interned := interned.toArray }
  heap := heap
  slotsUsed := slotsUsed
  threads := #[{ frames := .invoking theMethod args0 :: below }]
def below0 : List Frame := [.native { method := ⟨0, 0⟩, args := #[] }]
def about1 : State := aboutOver below0
def p0 : Program := .bare "" "" ""
def e0 : Env := launch0.env 0 0 0
theorem w_frames : about1.frames = Frame.invoking theMethod args0 :: below0 := rfl
set_option maxRecDepth 65536 in
theorem w_args : argsFit about1.vm theMethod args0 = true := by decide +kernel
set_option maxRecDepth 65536 in
theorem w_heap : heapFits about1 = true := by decide +kernel
set_option maxRecDepth 65536 in
theorem w_runnable : about1.curStatus? = some .runnable := by decide +kernel
set_option maxRecDepth 65536 in
theorem w_alone : about1.alone = true := by decide +kernel
set_option maxRecDepth 65536 in
theorem w_named : about1.methodNamed? x = some theMethod := by decide +kernel
set_option maxRecDepth 65536 in
theorem w_hears : about1.hears theMethod below0 = true := by decide +kernel
set_option maxRecDepth 65536 in
theorem w_ripe : about1.ripe theMethod args0 below0 = true := by decide +kernel
theorem w_running : about1.status = .running := rfl
set_option maxRecDepth 65536 in
theorem w_room : about1.hasRoom e0.platform room_1 = true :=
  launch0.hasRoom_least _ room_1 (by decide +kernel) (by decide +kernel) (by decide +kernel) (by decide +kernel) (by decide +kernel) (by decide +kernel)
theorem allAtoms_all (ts : List Jvm.Cond) (a : Array Jvm.Value) (st : Jvm.State) : (allAtoms ts).before a st = ts.all (fun c => c.before a st) := by
  induction ts with
  | nil => rfl
  | cons c t ih =>
    show (Jvm.Cond.and c (allAtoms t)).before a st = _
    rw [Jvm.Cond.before_and, ih, List.all_cons]
def words1 : List Jvm.Cond := Jvm.Cond.code x code maxLocals ret :: tables_1
/-- a 'code' word, met by the world's own term for the bytes: nothing is compared byte by byte -/
theorem code_word {y : MethodName} {bytes : ByteArray} {mx : Nat} {rt : Option FieldType} {a : Array Value} {s : State} {m : MethodId} {meth : Method} {c : Code} (h1 : s.methodNamed? y = some m) (h2 : s.vm.method? m = some meth) (h3 : meth.code = some c) (h4 : c.code = bytes)
    (h5 : (c.maxLocals == mx && c.exceptionTable.isEmpty && decide (c.maxStack ≤ mostOperands) && decide (meth.sig.returnType = rt) && !meth.locks && decide (parseMethodDescriptor y.desc = some meth.sig)) = true) : (Jvm.Cond.code y bytes mx rt).before a s = true := by
  simp only [Bool.and_eq_true, beq_iff_eq, Bool.not_eq_true', decide_eq_true_eq] at h5
  obtain ⟨⟨⟨⟨⟨g1, g2⟩, g3⟩, g4⟩, g5⟩, g6⟩ := h5
  simp [Cond.before, Cond.holds, Cond.value, h1, h2, h3, h4, g1, g2, g3, g4, g5, g6]
def isCode : Jvm.Cond → Bool
  | .code _ _ _ _ => true
  | _ => false
theorem all_split {L : List Jvm.Cond} {P : Jvm.Cond → Bool} (h1 : L.all (fun c => isCode c || P c) = true) (h2 : ∀ c ∈ L.filter isCode, P c = true) : L.all P = true := by
  refine List.all_eq_true.mpr fun c hc => ?_
  have h := List.all_eq_true.mp h1 c hc
  rcases Bool.eq_false_or_eq_true (isCode c) with hi | hi
  · exact h2 c (List.mem_filter.mpr ⟨hc, hi⟩)
  · simpa [hi] using h
set_option maxRecDepth 65536 in
theorem w_c0 : (Jvm.Cond.code x code maxLocals ret).before args0 about1 = true := code_word (m := ⟨1, 1⟩) (meth := k1m1) (c := k1c1) (by decide +kernel) rfl rfl rfl (by decide +kernel)
set_option maxRecDepth 65536 in
theorem w_c1 : (Jvm.Cond.code ({ cls := "com/example/wary_commit/warycommit/LatencyHistogram", name := "<init>", desc := "()V" } : Jvm.MethodName) prog_19_method_1_code (1 : Nat) (Option.none : Option Jvm.ClassFile.FieldType)).before args0 about1 = true := code_word (m := ⟨2, 0⟩) (meth := k2m0) (c := k2c0) (by decide +kernel) rfl rfl rfl (by decide +kernel)
set_option maxRecDepth 65536 in
theorem w_c2 : (Jvm.Cond.code ({ cls := "java/lang/Object", name := "<init>", desc := "()V" } : Jvm.MethodName) object_method_1_code (1 : Nat) (Option.none : Option Jvm.ClassFile.FieldType)).before args0 about1 = true := code_word (m := ⟨0, 0⟩) (meth := k0m0) (c := k0c0) (by decide +kernel) rfl rfl rfl (by decide +kernel)
set_option maxRecDepth 65536 in
theorem w_c3 : (Jvm.Cond.code ({ cls := "com/example/wary_commit/warycommit/LatencyHistogram", name := "add", desc := "(Lcom/example/wary_commit/warycommit/LatencyHistogram;)V" } : Jvm.MethodName) prog_19_method_3_code (3 : Nat) (Option.none : Option Jvm.ClassFile.FieldType)).before args0 about1 = true := code_word (m := ⟨2, 2⟩) (meth := k2m2) (c := k2c2) (by decide +kernel) rfl rfl rfl (by decide +kernel)
set_option maxRecDepth 65536 in
theorem w_c4 : (Jvm.Cond.code ({ cls := "java/lang/Math", name := "max", desc := "(JJ)J" } : Jvm.MethodName) jdk_29_method_66_code (4 : Nat) (Option.some Jvm.ClassFile.FieldType.long)).before args0 about1 = true := code_word (m := ⟨3, 2⟩) (meth := k3m2) (c := k3c2) (by decide +kernel) rfl rfl rfl (by decide +kernel)
set_option maxRecDepth 65536 in
theorem w_c5 : (Jvm.Cond.code ({ cls := "com/example/wary_commit/warycommit/LatencyHistogram", name := "longest", desc := "()J" } : Jvm.MethodName) prog_19_method_4_code (1 : Nat) (Option.some Jvm.ClassFile.FieldType.long)).before args0 about1 = true := code_word (m := ⟨2, 3⟩) (meth := k2m3) (c := k2c3) (by decide +kernel) rfl rfl rfl (by decide +kernel)
set_option maxRecDepth 65536 in
theorem w_c6 : (Jvm.Cond.code ({ cls := "com/example/wary_commit/warycommit/LatencyHistogram", name := "record", desc := "(J)V" } : Jvm.MethodName) prog_19_method_2_code (3 : Nat) (Option.none : Option Jvm.ClassFile.FieldType)).before args0 about1 = true := code_word (m := ⟨2, 1⟩) (meth := k2m1) (c := k2c1) (by decide +kernel) rfl rfl rfl (by decide +kernel)
set_option maxRecDepth 65536 in
theorem w_c7 : (Jvm.Cond.code ({ cls := "com/example/wary_commit/warycommit/LatencyHistogram", name := "indexOf", desc := "(J)I" } : Jvm.MethodName) prog_19_method_6_code (3 : Nat) (Option.some Jvm.ClassFile.FieldType.int)).before args0 about1 = true := code_word (m := ⟨2, 5⟩) (meth := k2m5) (c := k2c5) (by decide +kernel) rfl rfl rfl (by decide +kernel)
set_option maxRecDepth 65536 in
theorem w_c8 : (Jvm.Cond.code ({ cls := "java/lang/Long", name := "numberOfLeadingZeros", desc := "(J)I" } : Jvm.MethodName) jdk_35_method_48_code (3 : Nat) (Option.some Jvm.ClassFile.FieldType.int)).before args0 about1 = true := code_word (m := ⟨9, 0⟩) (meth := k9m0) (c := k9c0) (by decide +kernel) rfl rfl rfl (by decide +kernel)
set_option maxRecDepth 65536 in
theorem w_c9 : (Jvm.Cond.code ({ cls := "java/lang/Integer", name := "numberOfLeadingZeros", desc := "(I)I" } : Jvm.MethodName) jdk_33_method_47_code (2 : Nat) (Option.some Jvm.ClassFile.FieldType.int)).before args0 about1 = true := code_word (m := ⟨10, 0⟩) (meth := k10m0) (c := k10c0) (by decide +kernel) rfl rfl rfl (by decide +kernel)
set_option maxRecDepth 65536 in
theorem w_c10 : (Jvm.Cond.code ({ cls := "java/lang/Math", name := "max", desc := "(II)I" } : Jvm.MethodName) jdk_29_method_65_code (2 : Nat) (Option.some Jvm.ClassFile.FieldType.int)).before args0 about1 = true := code_word (m := ⟨3, 1⟩) (meth := k3m1) (c := k3c1) (by decide +kernel) rfl rfl rfl (by decide +kernel)
set_option maxRecDepth 65536 in
theorem w_c11 : (Jvm.Cond.code ({ cls := "com/example/wary_commit/warycommit/LatencyHistogram", name := "percentile", desc := "(I)J" } : Jvm.MethodName) prog_19_method_5_code (7 : Nat) (Option.some Jvm.ClassFile.FieldType.long)).before args0 about1 = true := code_word (m := ⟨2, 4⟩) (meth := k2m4) (c := k2c4) (by decide +kernel) rfl rfl rfl (by decide +kernel)
set_option maxRecDepth 65536 in
theorem w_c12 : (Jvm.Cond.code ({ cls := "com/example/wary_commit/warycommit/LatencyHistogram", name := "highestOf", desc := "(I)J" } : Jvm.MethodName) prog_19_method_7_code (4 : Nat) (Option.some Jvm.ClassFile.FieldType.long)).before args0 about1 = true := code_word (m := ⟨2, 6⟩) (meth := k2m6) (c := k2c6) (by decide +kernel) rfl rfl rfl (by decide +kernel)
set_option maxRecDepth 65536 in
theorem w_c13 : (Jvm.Cond.code ({ cls := "java/lang/Math", name := "min", desc := "(JJ)J" } : Jvm.MethodName) jdk_29_method_70_code (4 : Nat) (Option.some Jvm.ClassFile.FieldType.long)).before args0 about1 = true := code_word (m := ⟨3, 3⟩) (meth := k3m3) (c := k3c3) (by decide +kernel) rfl rfl rfl (by decide +kernel)
def codes1 : List Jvm.Cond := [Jvm.Cond.code x code maxLocals ret, Jvm.Cond.code ({ cls := "com/example/wary_commit/warycommit/LatencyHistogram", name := "<init>", desc := "()V" } : Jvm.MethodName) prog_19_method_1_code (1 : Nat) (Option.none : Option Jvm.ClassFile.FieldType), Jvm.Cond.code ({ cls := "java/lang/Object", name := "<init>", desc := "()V" } : Jvm.MethodName) object_method_1_code (1 : Nat) (Option.none : Option Jvm.ClassFile.FieldType), Jvm.Cond.code ({ cls := "com/example/wary_commit/warycommit/LatencyHistogram", name := "add", desc := "(Lcom/example/wary_commit/warycommit/LatencyHistogram;)V" } : Jvm.MethodName) prog_19_method_3_code (3 : Nat) (Option.none : Option Jvm.ClassFile.FieldType), Jvm.Cond.code ({ cls := "java/lang/Math", name := "max", desc := "(JJ)J" } : Jvm.MethodName) jdk_29_method_66_code (4 : Nat) (Option.some Jvm.ClassFile.FieldType.long), Jvm.Cond.code ({ cls := "com/example/wary_commit/warycommit/LatencyHistogram", name := "longest", desc := "()J" } : Jvm.MethodName) prog_19_method_4_code (1 : Nat) (Option.some Jvm.ClassFile.FieldType.long), Jvm.Cond.code ({ cls := "com/example/wary_commit/warycommit/LatencyHistogram", name := "record", desc := "(J)V" } : Jvm.MethodName) prog_19_method_2_code (3 : Nat) (Option.none : Option Jvm.ClassFile.FieldType), Jvm.Cond.code ({ cls := "com/example/wary_commit/warycommit/LatencyHistogram", name := "indexOf", desc := "(J)I" } : Jvm.MethodName) prog_19_method_6_code (3 : Nat) (Option.some Jvm.ClassFile.FieldType.int), Jvm.Cond.code ({ cls := "java/lang/Long", name := "numberOfLeadingZeros", desc := "(J)I" } : Jvm.MethodName) jdk_35_method_48_code (3 : Nat) (Option.some Jvm.ClassFile.FieldType.int), Jvm.Cond.code ({ cls := "java/lang/Integer", name := "numberOfLeadingZeros", desc := "(I)I" } : Jvm.MethodName) jdk_33_method_47_code (2 : Nat) (Option.some Jvm.ClassFile.FieldType.int), Jvm.Cond.code ({ cls := "java/lang/Math", name := "max", desc := "(II)I" } : Jvm.MethodName) jdk_29_method_65_code (2 : Nat) (Option.some Jvm.ClassFile.FieldType.int), Jvm.Cond.code ({ cls := "com/example/wary_commit/warycommit/LatencyHistogram", name := "percentile", desc := "(I)J" } : Jvm.MethodName) prog_19_method_5_code (7 : Nat) (Option.some Jvm.ClassFile.FieldType.long), Jvm.Cond.code ({ cls := "com/example/wary_commit/warycommit/LatencyHistogram", name := "highestOf", desc := "(I)J" } : Jvm.MethodName) prog_19_method_7_code (4 : Nat) (Option.some Jvm.ClassFile.FieldType.long), Jvm.Cond.code ({ cls := "java/lang/Math", name := "min", desc := "(JJ)J" } : Jvm.MethodName) jdk_29_method_70_code (4 : Nat) (Option.some Jvm.ClassFile.FieldType.long)]
set_option maxRecDepth 65536 in
theorem codes_eq : words1.filter isCode = codes1 := rfl
theorem w_codes : ∀ c ∈ words1.filter isCode, c.before args0 about1 = true := by
  rw [codes_eq]
  intro c hc
  simp only [codes1, List.mem_cons, List.not_mem_nil, or_false] at hc
  rcases hc with rfl | rfl | rfl | rfl | rfl | rfl | rfl | rfl | rfl | rfl | rfl | rfl | rfl | rfl
  · exact w_c0
  · exact w_c1
  · exact w_c2
  · exact w_c3
  · exact w_c4
  · exact w_c5
  · exact w_c6
  · exact w_c7
  · exact w_c8
  · exact w_c9
  · exact w_c10
  · exact w_c11
  · exact w_c12
  · exact w_c13
set_option maxRecDepth 65536 in
theorem w_t1 : (words1.take 24).all (fun c => isCode c || c.before args0 about1) = true := by decide +kernel
set_option maxRecDepth 65536 in
theorem w_t2 : ((words1.drop 24).take 24).all (fun c => isCode c || c.before args0 about1) = true := by decide +kernel
set_option maxRecDepth 65536 in
theorem w_t3 : ((words1.drop 24).drop 24).all (fun c => isCode c || c.before args0 about1) = true := by decide +kernel
theorem w_tables : (allAtoms (Jvm.Cond.code x code maxLocals ret :: tables_1)).before args0 about1 = true := by
  rw [allAtoms_all]
  show words1.all (fun c => c.before args0 about1) = true
  refine all_split ?_ w_codes
  rw [← List.take_append_drop 24 words1, List.all_append, w_t1, ← List.take_append_drop 24 (words1.drop 24), List.all_append, w_t2, w_t3]
  rfl
set_option maxRecDepth 65536 in
theorem w_case : (Jvm.Cond.and given_1 narrow_1).before args0 about1 = true := by decide +kernel
theorem w_applies : (headSpec (Jvm.Cond.code x code maxLocals ret :: tables_1) room_1).applies x e0.platform about1 = true :=
  (Spec.applies_iff w_frames).mpr ⟨w_running, w_runnable, w_alone, w_named, w_hears, w_ripe, w_room, w_tables⟩
theorem atStart : AtStart classFile x code maxLocals ret World_1 tables_1 room_1 Calls_1 rest_1 Pre_1 launch0 p0 e0 about1 theMethod args0 below0 :=
  ⟨lists_1, trivial, launch0.admits_env _ _ _, launch0.least_env, fairChoices_fair.cas, fairChoices_fair.clock, w_frames, w_args, w_heap, w_applies, trivial, trivial, w_case⟩
end start1
theorem witness_1 : WitnessClaimed_1 := ⟨start1.p0, start1.e0, start1.about1, start1.theMethod, start1.args0, start1.below0, start1.atStart⟩
end Jvm.Pilot.@@N@@
