import JvmDerived
import JvmDerived.Pilot.@@N@@Statement
import JvmDerived.Pilot.@@N@@Code
set_option linter.unusedVariables false
set_option linter.unusedSimpArgs false
namespace Jvm.Pilot.@@N@@
open Jvm Jvm.ClassFile Sem Op Lib Jvm.Free Jvm.Stand Jvm.LawKit Jvm.RoadKit Bundle Jvm.Pilot.@@N@@.Jvm.D
/-- a body's contract by a walk whose goal is a predicate G: 'go' takes a step, 'fin' a return -/
theorem own_enter {l : Launch} {y : MethodName} {cd : ByteArray} {ml : Nat} {rt : Option FieldType} {ws : List Jvm.Cond} {R : Room} {Z : State} {h0 : Heap} {as : Array Value} {Q : Option Value → Heap → List Loc → Prop} (hpl : plainFor y = true)
    (body : ∀ (p : Program) (e : Env) (s : State) (m : MethodId) (below : List Frame) (meth : Method) (c : Code) (s₁ : State) (G : State → Prop),
      Stand p l e R s m as below meth c s₁ [] 0 0 → p.tables.exec = Jvm.exec → c.code = cd → c.maxLocals = ml → Z.Warmed39 s.vm → s.vm.findClass y.cls = some m.cls → meth.name = y.name → meth.sig.returnType = rt → s₁.heap = h0 →
      (∀ {a b : State}, (∀ t, Steps p.tables e below b t → Steps p.tables e below a t) → G b → G a) →
      (∀ {T : State} {locs : List Loc} {cells slots : Nat} {g : JFrame} (v : Option Value), Stand p l e R s m as below meth c T locs cells slots → (rt = none → v = none) →
        (∀ fs, (∀ (f : JFrame) (acts : List Action), f.method = m → f.locked = none → f.entered = [] → (doReturn e (T.setTop f) acts v).1 = T.setFrames fs) → Steps p.tables e below (T.setTop g) (T.setFrames fs)) →
        cells ≤ R.cells → slots ≤ R.slots → Q v T.heap locs → G (T.setTop g)) →
      G (s₁.setTop (entryFrame m as ml))) :
    MetFree l y (head1 (Jvm.Cond.code y cd ml rt :: ws) R) (fun a U => a = as ∧ Z.Warmed39 U.vm ∧ U.heap = h0) (fun _ _ _ _ _ => True) (fun _ U o U' => ∃ v L, o = .returned v ∧ Q v U'.heap L ∧ FrameEnd U o U' L R.cells R.slots) := by
  refine MetFree.of_bodySF hpl hisR ?_
  intro p e s m args below meth c s₁ Bd hml0 hP hK
  obtain ⟨rfl, hZ, hh⟩ := hP
  have hlk : meth.locks = false := Bd.notSynchronized
  have key := body p e s m below meth c s₁ (fun a => ∃ t, Steps p.tables e below a t ∧ ∃ o, t.status = .running ∧ Ended t below o ∧ ∃ v L, o = .returned v ∧ Q v t.heap L ∧ FrameEnd s o t L R.cells R.slots)
    (Stand.of_body Bd) Bd.exec Bd.bytes hml0 hZ (findClass_of_methodNamed Bd.named) (name_of_methodNamed Bd.named Bd.method).1 Bd.returns (by rw [← hh, Bd.state]; rfl)
    (fun h g => by obtain ⟨t, h1, h2⟩ := g; exact ⟨t, h t h1, h2⟩)
    (fun {T locs cells slots g} v X hv hs hc hsl hQ => by
      obtain ⟨fs, hr, hrun, hended, hW, hsame⟩ := X.leave (v := v) (fun h => hv (Bd.returns.symm.trans h)) hlk
      exact ⟨_, hs fs hr, _, hrun, hended, v, locs, rfl, hQ, ⟨_, rfl⟩, hW, hsame.mono hc hsl⟩)
  obtain ⟨t, h1, o, h2, h3, h4⟩ := key
  exact ⟨t, o, h1, h2, h3, h4⟩
theorem own_lrem {p : Program} {l : Launch} {e : Env} {R : Room} {s : State} {m : MethodId} {args : Array Value} {below : List Frame} {meth : Method} {c : Code} {T : State} {locs : List Loc} {cells slots : Nat} {g : JFrame} {target : State} (X : Stand p l e R s m args below meth c T locs cells slots) (hx : p.tables.exec = Jvm.exec) (hg : g.method = m) {x y : Int64} {rest : List Value} (hd : decode c.code g.pc = .ok (.lrem, 1)) (hs : g.stack = .long y :: .long x :: rest) (hy : y ≠ 0)
    (hr : Steps p.tables e below (T.setTop { g with pc := g.pc + 1, stack := .long (x % y) :: rest }) target) : Steps p.tables e below (T.setTop g) target := XS.lrem X.here hx hg hd hs hy (by rw [lrem_mod]; exact hr)
theorem own_irr (x : Int32) : ¬ x < x := Int32.lt_irrefl
theorem own_irrL (x : Int64) : ¬ x < x := Int64.lt_irrefl
theorem own_eq_int {a : Term} {k : Int32} {args : Array Value} {first s : State} {o : Option Outcome} {idx : List Nat} (h : (Jvm.Cond.eq a (.int k)).value args first o s idx = some true) : a.eval args first o idx s = some (.int k) := by
  obtain ⟨x, y, ha, hb, k1, k2⟩ := cmp_v (Or.inl h)
  cases (show some (Value.int k) = some y from hb)
  obtain ⟨z, rfl⟩ := k2
  have q : (Jvm.Cond.eq a (.int k)).value args first o s idx = some (decide (z = k)) := by simp [Cond.value, ha, Term.eval]
  rw [gotT q h] at ha
  exact ha
theorem own_eq_ref {a b : Term} {u : Addr} {args : Array Value} {first s : State} {o : Option Outcome} {idx : List Nat} (h : (Jvm.Cond.eq a b).value args first o s idx = some true) (hb : b.eval args first o idx s = some (.ref u)) : a.eval args first o idx s = some (.ref u) := by
  obtain ⟨x, y, ha, hb', k1, k2⟩ := cmp_v (Or.inl h)
  cases hb.symm.trans hb'
  have hr : x.isRef = true := by cases x <;> simp_all [Kin, Value.isRef]
  have q := gotT (eq_R ha hb hr rfl) h
  rw [q] at ha
  exact ha
theorem own_exa_ns {Z : State} {h : Heap} {a : Addr} {C : String} (F : Exa Z h a C) : ∀ cell : Cell, h[a]? = some cell → cell.vm.isStatics = false := fun cell hc => by
  obtain ⟨c, k, h1, -, -, h4, -⟩ := F
  cases hc.symm.trans h1
  exact h4
theorem own_sta_keep {Z : State} {h h' : Heap} {C n d : String} {v : Value} {ws : List Addr} (F : Sta Z h C n d v) (K : Keep h h' ws) (q : ∀ a ∈ ws, ∀ cell : Cell, h[a]? = some cell → cell.vm.isStatics = false) : Sta Z h' C n d v := by
  obtain ⟨cf, i, k, f, st, cell, h1, h2, h3, h4, h5, h6, h7⟩ := F
  exact ⟨cf, i, k, f, st, cell, h1, h2, h3, h4, K.2.1 _ _ h5 (fun z => by rw [q _ z _ h5] at h6; cases h6), h6, h7⟩
theorem own_len {s : State} {args : Array Value} {t : Term} {a : Addr} {cl : Cell} {ty : FieldType} {z : Int32} (ht : t.eval args s none [] s = some (.ref a)) (A : Arr s s.heap a cl ty) (h : (Term.length t).eval args s none [] s = some (.int z)) : cl.slots.size < 2 ^ 31 ∧ cl.slots.size.toInt32 = z := by
  have ha := Arr.fin (State.Warmed39.refl s).alike A
  by_cases hn : cl.slots.size < 2 ^ 31
  · have q := (len_f ht ha hn).symm.trans h
    exact ⟨hn, Value.int.inj (Option.some.inj q)⟩
  · simp [Term.eval, ht, ha] at h
    omega
theorem own_elem {s : State} {args : Array Value} {t : Term} {a : Addr} {cl : Cell} {ty : FieldType} {j : Int32} {v : Value} (ht : t.eval args s none [] s = some (.ref a)) (A : Arr s s.heap a cl ty) (h : (Term.elem t (.int j)).eval args s none [] s = some v) (hn : ¬ j < 0) : cl.slots[j.toNatClampNeg]? = some v :=
  (elem_f ht rfl (Arr.fin (State.Warmed39.refl s).alike A) hn).symm.trans h
theorem own_selp {Z s : State} {a0 args : Array Value} {y : MethodName} {n : Nat} (hZ : Z.Warmed39 s.vm) (wi : (Jvm.Cond.instantiable y.cls n).before a0 Z = true) (wp : (Jvm.Cond.privateMethod y).before a0 Z = true) (wm : (Jvm.Cond.instanceMethod y).before a0 Z = true) (hy : y.cls ≠ "java/lang/invoke/MethodHandle" ∧ y.cls ≠ "java/lang/invoke/VarHandle") : (Jvm.Cond.selects y.cls y y).before args s = true := by
  have wi' : (Jvm.Cond.instantiable y.cls n).before args s = true := mvT hZ wi
  obtain ⟨c, k, h1, h2, -, h4, -⟩ := Cond.instantiable_spec wi'
  exact selects_self_of_private h1 h2 (Bool.or_eq_false_iff.mp h4).1 (Cond.privateMethod_at (mvP hZ wp (args := args))) (mvT hZ wm) hy
/-- the array at a has n ints: f -/
def own_I (Z : State) (h : Heap) (a : Addr) (n : Nat) (f : Nat → Int32) : Prop := ∃ c : Cell, Arr Z h a c .int ∧ c.slots.size = n ∧ ∀ j, j < n → c.slots[j]? = some (.int (f j))
/-- the array at a has n places -/
def own_W (Z : State) (h : Heap) (a : Addr) (ty : FieldType) (n : Nat) : Prop := ∃ c : Cell, Arr Z h a c ty ∧ c.slots.size = n
def own_up (f : Nat → Int32) (k : Nat) (v : Int32) : Nat → Int32 := fun i => if i = k then v else f i
def own_ok (n : Nat) (j : Int32) : Prop := ¬ j < 0 ∧ j.toNatClampNeg < n
section own_arrays
variable {Z : State} {h h' : Heap} {a b : Addr} {n : Nat} {f : Nat → Int32} {ws : List Addr} {sl : Nat} {v : Value} {ty : FieldType}
theorem own_I.lt (F : own_I Z h a n f) : a < h.size := by obtain ⟨c, A, -⟩ := F; exact A.lt
theorem own_I.ext (F : own_I Z h a n f) (E : Ext h h') : own_I Z h' a n f := by obtain ⟨c, A, r⟩ := F; exact ⟨c, A.ext E, r⟩
theorem own_I.other (F : own_I Z h b n f) (W : Wr h h' a sl v) (q : b ≠ a) : own_I Z h' b n f := by obtain ⟨c, A, r⟩ := F; exact ⟨c, A.other W q, r⟩
theorem own_I.keep (F : own_I Z h a n f) (K : Keep h h' ws) (q : a ∉ ws) : own_I Z h' a n f := by obtain ⟨c, A, r⟩ := F; exact ⟨c, ⟨K.2.1 a c A.1 q, A.2⟩, r⟩
theorem own_I.like {g : Nat → Int32} (F : own_I Z h a n f) (e : ∀ i, i < n → f i = g i) : own_I Z h a n g := by obtain ⟨c, A, S, H⟩ := F; exact ⟨c, A, S, fun j hj => by rw [← e j hj]; exact H j hj⟩
theorem own_W.lt (F : own_W Z h a ty n) : a < h.size := by obtain ⟨c, A, -⟩ := F; exact A.lt
theorem own_W.ext (F : own_W Z h a ty n) (E : Ext h h') : own_W Z h' a ty n := by obtain ⟨c, A, r⟩ := F; exact ⟨c, A.ext E, r⟩
theorem own_W.other (F : own_W Z h b ty n) (W : Wr h h' a sl v) (q : b ≠ a) : own_W Z h' b ty n := by obtain ⟨c, A, r⟩ := F; exact ⟨c, A.other W q, r⟩
theorem own_W.keep (F : own_W Z h a ty n) (K : Keep h h' ws) (q : a ∉ ws) : own_W Z h' a ty n := by obtain ⟨c, A, r⟩ := F; exact ⟨c, ⟨K.2.1 a c A.1 q, A.2⟩, r⟩
theorem own_in {c : Cell} {j : Int32} (S : c.slots.size = n) (q : own_ok n j) : ¬ (j < 0 ∨ c.slots.size ≤ j.toNatClampNeg) := by
  intro w; rcases w with w | w
  · exact q.1 w
  · have := q.2; omega
theorem own_set {c : Cell} {k : Nat} {x : Int32} (A : Arr Z h a c .int) (S : c.slots.size = n) (H : ∀ j, j < n → c.slots[j]? = some (.int (f j))) (hk : k < n) (W : Wr h h' a k (.int x)) : own_I Z h' a n (own_up f k x) := by
  refine ⟨_, A.same W, by rw [sz_set]; exact S, fun j hj => ?_⟩
  simp only [Cell.setSlot, Array.getElem?_setIfInBounds, own_up]
  by_cases q : k = j
  · subst q; simp [S, hk]
  · rw [if_neg q, if_neg (fun w : j = k => q w.symm)]
    exact H j hj
theorem own_setW {c : Cell} {k : Nat} {x : Value} (A : Arr Z h a c ty) (S : c.slots.size = n) (W : Wr h h' a k x) : own_W Z h' a ty n := ⟨_, A.same W, by rw [sz_set]; exact S⟩
theorem own_newI {k : ClassId} {z : Int32} {n : Nat} (F : Arv Z h a k .int z [] (.int (0 : Int32))) (e : z.toNatClampNeg = n) : own_I Z h a n (fun _ => 0) := by
  obtain ⟨c, A, -, S, -, H, -⟩ := F
  rw [e] at S
  exact ⟨c, A, S, fun j hj => H j (by rw [S]; exact hj)⟩
theorem own_newW {k : ClassId} {z : Int32} {n : Nat} {vs : List Value} {d : Value} (F : Arv Z h a k ty z vs d) (e : z.toNatClampNeg = n) : own_W Z h a ty n := by
  obtain ⟨c, A, -, S, -⟩ := F
  rw [e] at S
  exact ⟨c, A, S⟩
theorem own_I.wide (F : own_I Z h a n f) : own_W Z h a .int n := by obtain ⟨c, A, S, -⟩ := F; exact ⟨c, A, S⟩
end own_arrays
theorem own_nat {i : Nat} (h : i < 2147483648) : (Int32.ofNat i).toInt = i := Int32.toInt_ofNat_small h
theorem own_natN {i : Nat} (h : i < 2147483648) : (Int32.ofNat i).toNatClampNeg = i := by
  show (Int32.ofNat i).toInt.toNat = i
  rw [own_nat h]; rfl
theorem own_ok_nat {n i : Nat} (h : i < n) (q : i < 2147483648) : own_ok n (Int32.ofNat i) := by
  have k0 : (0 : Int32).toInt = 0 := by decide
  refine ⟨by rw [Int32.lt_iff_toInt_lt, own_nat q]; omega, ?_⟩
  rw [own_natN q]; exact h
theorem own_lt_nat {i j : Nat} (h : i < 2147483648) (q : j < 2147483648) : (Int32.ofNat i) < (Int32.ofNat j) ↔ i < j := by
  rw [Int32.lt_iff_toInt_lt, own_nat h, own_nat q]; omega
theorem own_eq_nat {i j : Nat} (h : i < 2147483648) (q : j < 2147483648) : (Int32.ofNat i) = (Int32.ofNat j) ↔ i = j := by
  rw [← Int32.toInt_inj, own_nat h, own_nat q]; omega
theorem own_add1 (i : Nat) : (Int32.ofNat i + (1 : Int32)) = Int32.ofNat (i + 1) := (Int32.ofNat_add i 1).symm
theorem own_addn (i j : Nat) : (Int32.ofNat i + Int32.ofNat j) = Int32.ofNat (i + j) := (Int32.ofNat_add i j).symm
theorem own_sub1 {i : Nat} (h : 1 ≤ i) (q : i < 2147483648) : (Int32.ofNat i - (1 : Int32)) = Int32.ofNat (i - 1) := by
  have a := c_isub (Int32.ofNat i) 1
  have r := rng32 (Int32.ofNat i - 1)
  have k1 : (1 : Int32).toInt = 1 := by decide
  rw [own_nat q] at a
  apply Int32.toInt_inj.mp
  rw [own_nat (by omega)]
  omega
/-- how many below n -/
def own_cnt (p : Nat → Prop) [DecidablePred p] : Nat → Nat
  | 0 => 0
  | n + 1 => own_cnt p n + (if p n then 1 else 0)
section own_count
variable {p q r : Nat → Prop} [DecidablePred p] [DecidablePred q] [DecidablePred r]
theorem own_cnt_le (h : ∀ t, p t → q t) : ∀ n, own_cnt p n ≤ own_cnt q n
  | 0 => Nat.le_refl _
  | n + 1 => by
    have := own_cnt_le h n
    show own_cnt p n + _ ≤ own_cnt q n + _
    by_cases a : p n
    · rw [if_pos a, if_pos (h n a)]; omega
    · rw [if_neg a]; split <;> omega
theorem own_cnt_or (h : ∀ t, r t ↔ p t ∨ q t) (d : ∀ t, p t → ¬ q t) : ∀ n, own_cnt r n = own_cnt p n + own_cnt q n
  | 0 => rfl
  | n + 1 => by
    have e := own_cnt_or h d n
    show own_cnt r n + _ = own_cnt p n + _ + (own_cnt q n + _)
    by_cases a : p n
    · rw [if_pos ((h n).mpr (Or.inl a)), if_pos a, if_neg (d n a)]; omega
    · by_cases b : q n
      · rw [if_pos ((h n).mpr (Or.inr b)), if_neg a, if_pos b]; omega
      · rw [if_neg (fun w => ((h n).mp w).elim a b), if_neg a, if_neg b]; omega
theorem own_cnt_n : ∀ n, own_cnt p n ≤ n
  | 0 => Nat.le_refl _
  | n + 1 => by have := own_cnt_n n; show own_cnt p n + _ ≤ _; split <;> omega
theorem own_cnt_mono {i : Nat} : ∀ {n}, i ≤ n → own_cnt p i ≤ own_cnt p n
  | 0, h => by have : i = 0 := by omega
               subst this; exact Nat.le_refl _
  | n + 1, h => by
    rcases Nat.lt_or_eq_of_le h with z | z
    · have := own_cnt_mono (show i ≤ n by omega); show _ ≤ own_cnt p n + _; omega
    · subst z; exact Nat.le_refl _
theorem own_cnt_lt {i n : Nat} (h : i < n) (a : p i) : own_cnt p i + 1 ≤ own_cnt p n := by
  have := own_cnt_mono (p := p) (show i + 1 ≤ n by omega)
  have e : own_cnt p (i + 1) = own_cnt p i + 1 := by show own_cnt p i + _ = _; rw [if_pos a]
  omega
theorem own_cnt_eq (h : ∀ t, p t ↔ q t) (n : Nat) : own_cnt p n = own_cnt q n := Nat.le_antisymm (own_cnt_le (fun t => (h t).mp) n) (own_cnt_le (fun t => (h t).mpr) n)
theorem own_cnt_0 (h : ∀ t, ¬ p t) : ∀ n, own_cnt p n = 0
  | 0 => rfl
  | n + 1 => by show own_cnt p n + _ = 0; rw [own_cnt_0 h n, if_neg (h n)]
end own_count
def own_c1 (A : Nat → Nat) (i k : Nat) : Nat := own_cnt (fun t => A t + 1 = k) i
def own_c2 (A : Nat → Nat) (n k : Nat) : Nat := own_cnt (fun t => A t < k) n
def own_ce (A : Nat → Nat) (i k : Nat) : Nat := own_cnt (fun t => A t = k) i
def own_pos (A : Nat → Nat) (n s : Nat) : Nat := own_c2 A n (A s) + own_ce A s (A s)
theorem own_c2S (A : Nat → Nat) (n k : Nat) (h : 1 ≤ k) : own_c1 A n k + own_c2 A n (k - 1) = own_c2 A n k := by
  unfold own_c1 own_c2
  rw [Nat.add_comm]
  exact (own_cnt_or (fun t => by omega) (fun t => by omega) n).symm
theorem own_pos_lt (A : Nat → Nat) {n s : Nat} (h : s < n) : own_pos A n s < n := by
  have a := own_cnt_lt (p := fun t => A t = A s) h rfl
  have b := own_cnt_or (r := fun t => A t ≤ A s) (p := fun t => A t < A s) (q := fun t => A t = A s) (fun t => by omega) (fun t => by omega) n
  have c := own_cnt_n (p := fun t => A t ≤ A s) n
  unfold own_pos own_c2 own_ce
  omega
theorem own_pos_ne (A : Nat → Nat) {n s t : Nat} (h : s < t) (ht : t < n) : own_pos A n s ≠ own_pos A n t := by
  unfold own_pos own_c2 own_ce
  rcases Nat.lt_trichotomy (A s) (A t) with z | z | z
  · have a := own_cnt_lt (p := fun u => A u = A s) (show s < n by omega) rfl
    have b := own_cnt_or (r := fun u => A u ≤ A s) (p := fun u => A u < A s) (q := fun u => A u = A s) (fun u => by omega) (fun u => by omega) n
    have c := own_cnt_le (p := fun u => A u ≤ A s) (q := fun u => A u < A t) (fun u => by omega) n
    omega
  · rw [z]
    have a := own_cnt_lt (p := fun u => A u = A t) h z
    omega
  · have a := own_cnt_lt (p := fun u => A u = A t) ht rfl
    have b := own_cnt_or (r := fun u => A u ≤ A t) (p := fun u => A u < A t) (q := fun u => A u = A t) (fun u => by omega) (fun u => by omega) n
    have c := own_cnt_le (p := fun u => A u ≤ A t) (q := fun u => A u < A s) (fun u => by omega) n
    omega
/-- the order when i spells are placed -/
def own_ord (A : Nat → Nat) (n : Nat) : Nat → Nat → Int32
  | 0 => fun _ => 0
  | i + 1 => own_up (own_ord A n i) (own_pos A n i) (Int32.ofNat i)
theorem own_ord_pos (A : Nat → Nat) (n : Nat) : ∀ i, i ≤ n → ∀ s, s < i → own_ord A n i (own_pos A n s) = Int32.ofNat s
  | 0, _, s, h => absurd h (Nat.not_lt_zero s)
  | i + 1, hi, s, h => by
    show (if own_pos A n s = own_pos A n i then _ else _) = _
    by_cases z : s = i
    · subst z; rw [if_pos rfl]
    · rw [if_neg (own_pos_ne A (show s < i by omega) (show i < n by omega))]
      exact own_ord_pos A n i (by omega) s (by omega)
def own_f1 (A : Nat → Nat) (i : Nat) : Nat → Int32 := fun k => Int32.ofNat (own_c1 A i k)
def own_f2 (A : Nat → Nat) (n k : Nat) : Nat → Int32 := fun j => Int32.ofNat (if j < k then own_c2 A n j else own_c1 A n j)
def own_f3 (A : Nat → Nat) (n i : Nat) : Nat → Int32 := fun j => Int32.ofNat (own_c2 A n j + own_ce A i j)
theorem own_f1_0 (A : Nat → Nat) : own_f1 A 0 = fun _ => 0 := rfl
theorem own_f1S (A : Nat → Nat) (i : Nat) : own_up (own_f1 A i) (A i + 1) (own_f1 A i (A i + 1) + (1 : Int32)) = own_f1 A (i + 1) := funext fun k => by
  show (if k = A i + 1 then Int32.ofNat (own_c1 A i (A i + 1)) + 1 else Int32.ofNat (own_c1 A i k)) = Int32.ofNat (own_c1 A i k + (if A i + 1 = k then 1 else 0))
  by_cases z : k = A i + 1
  · subst z; rw [if_pos rfl, if_pos rfl, own_add1]
  · rw [if_neg z, if_neg (fun w => z w.symm)]; rfl
theorem own_f2_1 (A : Nat → Nat) (n : Nat) : own_f2 A n 1 = own_f1 A n := funext fun j => by
  show Int32.ofNat (if j < 1 then _ else _) = Int32.ofNat _
  split
  · rename_i z
    have : j = 0 := by omega
    subst this
    have e1 : own_c2 A n 0 = 0 := own_cnt_0 (fun t => by omega) n
    have e2 : own_c1 A n 0 = 0 := own_cnt_0 (fun t => by omega) n
    rw [e1, e2]
  · rfl
theorem own_f2S (A : Nat → Nat) (n k : Nat) (h : 1 ≤ k) : own_up (own_f2 A n k) k (own_f2 A n k k + own_f2 A n k (k - 1)) = own_f2 A n (k + 1) := funext fun j => by
  show (if j = k then Int32.ofNat (if k < k then _ else _) + Int32.ofNat (if k - 1 < k then _ else _) else Int32.ofNat (if j < k then _ else _)) = Int32.ofNat (if j < k + 1 then _ else _)
  by_cases z : j = k
  · subst z
    rw [if_pos rfl, if_neg (Nat.lt_irrefl j), if_pos (show j - 1 < j by omega), if_pos (Nat.lt_succ_self j), own_addn, own_c2S A n j h]
  · rw [if_neg z]
    by_cases y : j < k
    · rw [if_pos y, if_pos (show j < k + 1 by omega)]
    · rw [if_neg y, if_neg (show ¬ j < k + 1 by omega)]
theorem own_f3_0 (A : Nat → Nat) (n m : Nat) : ∀ j, j < m → own_f2 A n m j = own_f3 A n 0 j := fun j hj => by
  show Int32.ofNat (if j < m then _ else _) = Int32.ofNat (own_c2 A n j + 0)
  rw [if_pos hj]; rfl
theorem own_f3S (A : Nat → Nat) (n i : Nat) : own_up (own_f3 A n i) (A i) (own_f3 A n i (A i) + (1 : Int32)) = own_f3 A n (i + 1) := funext fun j => by
  show (if j = A i then Int32.ofNat (own_c2 A n (A i) + own_ce A i (A i)) + 1 else Int32.ofNat (own_c2 A n j + own_ce A i j)) = Int32.ofNat (own_c2 A n j + (own_ce A i j + (if A i = j then 1 else 0)))
  by_cases z : j = A i
  · subst z; rw [if_pos rfl, if_pos rfl, own_add1]; rfl
  · rw [if_neg z, if_neg (fun w => z w.symm)]; rfl
def own_trm (f : Nat → Int32) (n i j : Int32) : Int32 := if j < n then (if (f j.toNatClampNeg) < (f i.toNatClampNeg) then (1 : Int32) else if (f j.toNatClampNeg) = (f i.toNatClampNeg) then (if j < i then (1 : Int32) else (0 : Int32)) else (0 : Int32)) else (0 : Int32)
def own_rnk (f : Nat → Int32) (n i : Int32) : Int32 := (((own_trm f n i (0 : Int32) + own_trm f n i (1 : Int32)) + own_trm f n i (2 : Int32)) + own_trm f n i (3 : Int32))
def own_4 (a b c d : Nat) : Nat → Nat
  | 0 => a
  | 1 => b
  | 2 => c
  | _ => d
def own_F4 (a b c d : Int32) : Nat → Int32
  | 0 => a
  | 1 => b
  | 2 => c
  | _ => d
theorem own_of_arv {Z : State} {h : Heap} {a : Addr} {k : ClassId} {v0 v1 v2 v3 : Int32} (F : Arv Z h a k .int (4 : Int32) [(.int v0), (.int v1), (.int v2), (.int v3)] (.int (0 : Int32))) : own_I Z h a 4 (own_F4 v0 v1 v2 v3) := by
  obtain ⟨c, A, -, S, -, H, -⟩ := F
  have e : (4 : Int32).toNatClampNeg = 4 := by decide
  rw [e] at S
  refine ⟨c, A, S, fun j hj => ?_⟩
  have := H j (by rw [S]; exact hj)
  rw [this]
  match j, hj with
  | 0, _ => rfl
  | 1, _ => rfl
  | 2, _ => rfl
  | 3, _ => rfl
theorem own_cnt_ac (shape : Int32) {m : Int32} (hm : m = ((1 : Int32) + ((shape.toUInt32 >>> ((3 : Int32) &&& 31).toUInt32).toInt32 &&& (7 : Int32)))) : ∃ k : Nat, m = Int32.ofNat k ∧ 1 ≤ k ∧ k ≤ 8 := by
  have h1 := c_and ((shape.toUInt32 >>> ((3 : Int32) &&& 31).toUInt32).toInt32) 7 (by decide)
  have h2 := c_iadd 1 ((shape.toUInt32 >>> ((3 : Int32) &&& 31).toUInt32).toInt32 &&& (7 : Int32))
  have h3 := rng32 m
  have k7 : (7 : Int32).toInt = 7 := by decide
  have k1 : (1 : Int32).toInt = 1 := by decide
  rw [← hm] at h2
  refine ⟨m.toInt.toNat, Int32.toInt_inj.mp ?_, by omega, by omega⟩
  rw [own_nat (by omega)]
  omega
theorem own_ag (x : Int32) {m : Nat} {w : Int32} (h : 1 ≤ m ∧ m ≤ 8) (hw : w = ((1 : Int32) + ((x &&& (2147483647 : Int32)) % (Int32.ofNat m)))) : ∃ k : Nat, w = Int32.ofNat k ∧ 1 ≤ k ∧ k ≤ m := by
  have h1 := c_and x 2147483647 (by decide)
  have hm := own_nat (i := m) (by omega)
  have h2 := (c_iremV (x &&& (2147483647 : Int32)) (Int32.ofNat m)).1 h1.1 (by omega)
  have h3 := c_iadd 1 ((x &&& (2147483647 : Int32)) % (Int32.ofNat m))
  have h4 := rng32 w
  have k1 : (1 : Int32).toInt = 1 := by decide
  rw [← hw] at h3
  refine ⟨w.toInt.toNat, Int32.toInt_inj.mp ?_, by omega, by omega⟩
  rw [own_nat (by omega)]
  omega
theorem own_n5 (x : Int32) {n : Int32} (hn : n = ((x &&& (7 : Int32)) % (5 : Int32))) : n = 0 ∨ n = 1 ∨ n = 2 ∨ n = 3 ∨ n = 4 := by
  have h1 := c_and x 7 (by decide)
  have h2 := (c_irem (x &&& (7 : Int32)) 5 5 (by decide)).1 h1.1
  rw [← hn] at h2
  have z0 : (0 : Int32).toInt = 0 := by decide
  have z1 : (1 : Int32).toInt = 1 := by decide
  have z2 : (2 : Int32).toInt = 2 := by decide
  have z3 : (3 : Int32).toInt = 3 := by decide
  have z4 : (4 : Int32).toInt = 4 := by decide
  simp only [← Int32.toInt_inj]
  omega
theorem own_nz {m : Nat} (h : 1 ≤ m ∧ m ≤ 8) : (Int32.ofNat m) ≠ 0 := fun q => by
  have := own_nat (i := m) (by omega)
  rw [q] at this
  have z0 : (0 : Int32).toInt = 0 := by decide
  omega

theorem own_rk10 {A0 A1 A2 A3 mm : Nat} (hm : 1 ≤ mm ∧ mm ≤ 8) (b0 : 1 ≤ A0 ∧ A0 ≤ mm) (b1 : 1 ≤ A1 ∧ A1 ≤ mm) (b2 : 1 ≤ A2 ∧ A2 ≤ mm) (b3 : 1 ≤ A3 ∧ A3 ≤ mm) : own_rnk (own_F4 (Int32.ofNat A0) (Int32.ofNat A1) (Int32.ofNat A2) (Int32.ofNat A3)) (1 : Int32) (0 : Int32) = Int32.ofNat (own_pos (own_4 A0 A1 A2 A3) 1 0) := by
  have t0 : own_trm (own_F4 (Int32.ofNat A0) (Int32.ofNat A1) (Int32.ofNat A2) (Int32.ofNat A3)) (1 : Int32) (0 : Int32) (0 : Int32) = Int32.ofNat 0 := (if_pos (by decide)).trans ((if_neg (own_irr _)).trans ((if_pos rfl).trans (if_neg (own_irr _))))
  have t1 : own_trm (own_F4 (Int32.ofNat A0) (Int32.ofNat A1) (Int32.ofNat A2) (Int32.ofNat A3)) (1 : Int32) (0 : Int32) (1 : Int32) = Int32.ofNat 0 := if_neg (by decide)
  have t2 : own_trm (own_F4 (Int32.ofNat A0) (Int32.ofNat A1) (Int32.ofNat A2) (Int32.ofNat A3)) (1 : Int32) (0 : Int32) (2 : Int32) = Int32.ofNat 0 := if_neg (by decide)
  have t3 : own_trm (own_F4 (Int32.ofNat A0) (Int32.ofNat A1) (Int32.ofNat A2) (Int32.ofNat A3)) (1 : Int32) (0 : Int32) (3 : Int32) = Int32.ofNat 0 := if_neg (by decide)
  show (((own_trm _ _ _ _ + own_trm _ _ _ _) + own_trm _ _ _ _) + own_trm _ _ _ _) = _
  rw [t0, t1, t2, t3, own_addn, own_addn, own_addn]
  congr 1
  show _ = (0 + (if A0 < A0 then 1 else 0)) + (0)
  have z0 : (if A0 < A0 then 1 else 0) = 0 := if_neg (Nat.lt_irrefl _)
  omega
theorem own_rk20 {A0 A1 A2 A3 mm : Nat} (hm : 1 ≤ mm ∧ mm ≤ 8) (b0 : 1 ≤ A0 ∧ A0 ≤ mm) (b1 : 1 ≤ A1 ∧ A1 ≤ mm) (b2 : 1 ≤ A2 ∧ A2 ≤ mm) (b3 : 1 ≤ A3 ∧ A3 ≤ mm) : own_rnk (own_F4 (Int32.ofNat A0) (Int32.ofNat A1) (Int32.ofNat A2) (Int32.ofNat A3)) (2 : Int32) (0 : Int32) = Int32.ofNat (own_pos (own_4 A0 A1 A2 A3) 2 0) := by
  have c1 : Int32.ofNat A1 < Int32.ofNat A0 ↔ A1 < A0 := own_lt_nat (by omega) (by omega)
  have d1 : Int32.ofNat A1 = Int32.ofNat A0 ↔ A1 = A0 := own_eq_nat (by omega) (by omega)
  have t0 : own_trm (own_F4 (Int32.ofNat A0) (Int32.ofNat A1) (Int32.ofNat A2) (Int32.ofNat A3)) (2 : Int32) (0 : Int32) (0 : Int32) = Int32.ofNat 0 := (if_pos (by decide)).trans ((if_neg (own_irr _)).trans ((if_pos rfl).trans (if_neg (own_irr _))))
  have t1 : own_trm (own_F4 (Int32.ofNat A0) (Int32.ofNat A1) (Int32.ofNat A2) (Int32.ofNat A3)) (2 : Int32) (0 : Int32) (1 : Int32) = Int32.ofNat (if A1 < A0 then 1 else 0) := by
    refine (if_pos (by decide)).trans ?_
    show (if Int32.ofNat A1 < Int32.ofNat A0 then (1 : Int32) else if Int32.ofNat A1 = Int32.ofNat A0 then (if (1 : Int32) < (0 : Int32) then (1 : Int32) else (0 : Int32)) else (0 : Int32)) = _
    by_cases x : A1 < A0
    · rw [if_pos (c1.mpr x), if_pos (by omega)]; rfl
    · rw [if_neg (mt c1.mp x)]
      by_cases y : A1 = A0
      · rw [if_pos (d1.mpr y), if_neg (by decide), if_neg (by omega)]; rfl
      · rw [if_neg (mt d1.mp y), if_neg (by omega)]; rfl
  have t2 : own_trm (own_F4 (Int32.ofNat A0) (Int32.ofNat A1) (Int32.ofNat A2) (Int32.ofNat A3)) (2 : Int32) (0 : Int32) (2 : Int32) = Int32.ofNat 0 := if_neg (by decide)
  have t3 : own_trm (own_F4 (Int32.ofNat A0) (Int32.ofNat A1) (Int32.ofNat A2) (Int32.ofNat A3)) (2 : Int32) (0 : Int32) (3 : Int32) = Int32.ofNat 0 := if_neg (by decide)
  show (((own_trm _ _ _ _ + own_trm _ _ _ _) + own_trm _ _ _ _) + own_trm _ _ _ _) = _
  rw [t0, t1, t2, t3, own_addn, own_addn, own_addn]
  congr 1
  show _ = (0 + (if A0 < A0 then 1 else 0) + (if A1 < A0 then 1 else 0)) + (0)
  have z0 : (if A0 < A0 then 1 else 0) = 0 := if_neg (Nat.lt_irrefl _)
  omega
theorem own_rk21 {A0 A1 A2 A3 mm : Nat} (hm : 1 ≤ mm ∧ mm ≤ 8) (b0 : 1 ≤ A0 ∧ A0 ≤ mm) (b1 : 1 ≤ A1 ∧ A1 ≤ mm) (b2 : 1 ≤ A2 ∧ A2 ≤ mm) (b3 : 1 ≤ A3 ∧ A3 ≤ mm) : own_rnk (own_F4 (Int32.ofNat A0) (Int32.ofNat A1) (Int32.ofNat A2) (Int32.ofNat A3)) (2 : Int32) (1 : Int32) = Int32.ofNat (own_pos (own_4 A0 A1 A2 A3) 2 1) := by
  have c0 : Int32.ofNat A0 < Int32.ofNat A1 ↔ A0 < A1 := own_lt_nat (by omega) (by omega)
  have d0 : Int32.ofNat A0 = Int32.ofNat A1 ↔ A0 = A1 := own_eq_nat (by omega) (by omega)
  have t0 : own_trm (own_F4 (Int32.ofNat A0) (Int32.ofNat A1) (Int32.ofNat A2) (Int32.ofNat A3)) (2 : Int32) (1 : Int32) (0 : Int32) = Int32.ofNat (if A0 < A1 ∨ A0 = A1 then 1 else 0) := by
    refine (if_pos (by decide)).trans ?_
    show (if Int32.ofNat A0 < Int32.ofNat A1 then (1 : Int32) else if Int32.ofNat A0 = Int32.ofNat A1 then (if (0 : Int32) < (1 : Int32) then (1 : Int32) else (0 : Int32)) else (0 : Int32)) = _
    by_cases x : A0 < A1
    · rw [if_pos (c0.mpr x), if_pos (by omega)]; rfl
    · rw [if_neg (mt c0.mp x)]
      by_cases y : A0 = A1
      · rw [if_pos (d0.mpr y), if_pos (by decide), if_pos (by omega)]; rfl
      · rw [if_neg (mt d0.mp y), if_neg (by omega)]; rfl
  have t1 : own_trm (own_F4 (Int32.ofNat A0) (Int32.ofNat A1) (Int32.ofNat A2) (Int32.ofNat A3)) (2 : Int32) (1 : Int32) (1 : Int32) = Int32.ofNat 0 := (if_pos (by decide)).trans ((if_neg (own_irr _)).trans ((if_pos rfl).trans (if_neg (own_irr _))))
  have t2 : own_trm (own_F4 (Int32.ofNat A0) (Int32.ofNat A1) (Int32.ofNat A2) (Int32.ofNat A3)) (2 : Int32) (1 : Int32) (2 : Int32) = Int32.ofNat 0 := if_neg (by decide)
  have t3 : own_trm (own_F4 (Int32.ofNat A0) (Int32.ofNat A1) (Int32.ofNat A2) (Int32.ofNat A3)) (2 : Int32) (1 : Int32) (3 : Int32) = Int32.ofNat 0 := if_neg (by decide)
  show (((own_trm _ _ _ _ + own_trm _ _ _ _) + own_trm _ _ _ _) + own_trm _ _ _ _) = _
  rw [t0, t1, t2, t3, own_addn, own_addn, own_addn]
  congr 1
  show _ = (0 + (if A0 < A1 then 1 else 0) + (if A1 < A1 then 1 else 0)) + (0 + (if A0 = A1 then 1 else 0))
  have s0 : (if A0 < A1 ∨ A0 = A1 then 1 else 0) = (if A0 < A1 then 1 else 0) + (if A0 = A1 then 1 else 0) := by split <;> split <;> split <;> omega
  rw [s0]
  have z1 : (if A1 < A1 then 1 else 0) = 0 := if_neg (Nat.lt_irrefl _)
  omega
theorem own_rk30 {A0 A1 A2 A3 mm : Nat} (hm : 1 ≤ mm ∧ mm ≤ 8) (b0 : 1 ≤ A0 ∧ A0 ≤ mm) (b1 : 1 ≤ A1 ∧ A1 ≤ mm) (b2 : 1 ≤ A2 ∧ A2 ≤ mm) (b3 : 1 ≤ A3 ∧ A3 ≤ mm) : own_rnk (own_F4 (Int32.ofNat A0) (Int32.ofNat A1) (Int32.ofNat A2) (Int32.ofNat A3)) (3 : Int32) (0 : Int32) = Int32.ofNat (own_pos (own_4 A0 A1 A2 A3) 3 0) := by
  have c1 : Int32.ofNat A1 < Int32.ofNat A0 ↔ A1 < A0 := own_lt_nat (by omega) (by omega)
  have d1 : Int32.ofNat A1 = Int32.ofNat A0 ↔ A1 = A0 := own_eq_nat (by omega) (by omega)
  have c2 : Int32.ofNat A2 < Int32.ofNat A0 ↔ A2 < A0 := own_lt_nat (by omega) (by omega)
  have d2 : Int32.ofNat A2 = Int32.ofNat A0 ↔ A2 = A0 := own_eq_nat (by omega) (by omega)
  have t0 : own_trm (own_F4 (Int32.ofNat A0) (Int32.ofNat A1) (Int32.ofNat A2) (Int32.ofNat A3)) (3 : Int32) (0 : Int32) (0 : Int32) = Int32.ofNat 0 := (if_pos (by decide)).trans ((if_neg (own_irr _)).trans ((if_pos rfl).trans (if_neg (own_irr _))))
  have t1 : own_trm (own_F4 (Int32.ofNat A0) (Int32.ofNat A1) (Int32.ofNat A2) (Int32.ofNat A3)) (3 : Int32) (0 : Int32) (1 : Int32) = Int32.ofNat (if A1 < A0 then 1 else 0) := by
    refine (if_pos (by decide)).trans ?_
    show (if Int32.ofNat A1 < Int32.ofNat A0 then (1 : Int32) else if Int32.ofNat A1 = Int32.ofNat A0 then (if (1 : Int32) < (0 : Int32) then (1 : Int32) else (0 : Int32)) else (0 : Int32)) = _
    by_cases x : A1 < A0
    · rw [if_pos (c1.mpr x), if_pos (by omega)]; rfl
    · rw [if_neg (mt c1.mp x)]
      by_cases y : A1 = A0
      · rw [if_pos (d1.mpr y), if_neg (by decide), if_neg (by omega)]; rfl
      · rw [if_neg (mt d1.mp y), if_neg (by omega)]; rfl
  have t2 : own_trm (own_F4 (Int32.ofNat A0) (Int32.ofNat A1) (Int32.ofNat A2) (Int32.ofNat A3)) (3 : Int32) (0 : Int32) (2 : Int32) = Int32.ofNat (if A2 < A0 then 1 else 0) := by
    refine (if_pos (by decide)).trans ?_
    show (if Int32.ofNat A2 < Int32.ofNat A0 then (1 : Int32) else if Int32.ofNat A2 = Int32.ofNat A0 then (if (2 : Int32) < (0 : Int32) then (1 : Int32) else (0 : Int32)) else (0 : Int32)) = _
    by_cases x : A2 < A0
    · rw [if_pos (c2.mpr x), if_pos (by omega)]; rfl
    · rw [if_neg (mt c2.mp x)]
      by_cases y : A2 = A0
      · rw [if_pos (d2.mpr y), if_neg (by decide), if_neg (by omega)]; rfl
      · rw [if_neg (mt d2.mp y), if_neg (by omega)]; rfl
  have t3 : own_trm (own_F4 (Int32.ofNat A0) (Int32.ofNat A1) (Int32.ofNat A2) (Int32.ofNat A3)) (3 : Int32) (0 : Int32) (3 : Int32) = Int32.ofNat 0 := if_neg (by decide)
  show (((own_trm _ _ _ _ + own_trm _ _ _ _) + own_trm _ _ _ _) + own_trm _ _ _ _) = _
  rw [t0, t1, t2, t3, own_addn, own_addn, own_addn]
  congr 1
  show _ = (0 + (if A0 < A0 then 1 else 0) + (if A1 < A0 then 1 else 0) + (if A2 < A0 then 1 else 0)) + (0)
  have z0 : (if A0 < A0 then 1 else 0) = 0 := if_neg (Nat.lt_irrefl _)
  omega
theorem own_rk31 {A0 A1 A2 A3 mm : Nat} (hm : 1 ≤ mm ∧ mm ≤ 8) (b0 : 1 ≤ A0 ∧ A0 ≤ mm) (b1 : 1 ≤ A1 ∧ A1 ≤ mm) (b2 : 1 ≤ A2 ∧ A2 ≤ mm) (b3 : 1 ≤ A3 ∧ A3 ≤ mm) : own_rnk (own_F4 (Int32.ofNat A0) (Int32.ofNat A1) (Int32.ofNat A2) (Int32.ofNat A3)) (3 : Int32) (1 : Int32) = Int32.ofNat (own_pos (own_4 A0 A1 A2 A3) 3 1) := by
  have c0 : Int32.ofNat A0 < Int32.ofNat A1 ↔ A0 < A1 := own_lt_nat (by omega) (by omega)
  have d0 : Int32.ofNat A0 = Int32.ofNat A1 ↔ A0 = A1 := own_eq_nat (by omega) (by omega)
  have c2 : Int32.ofNat A2 < Int32.ofNat A1 ↔ A2 < A1 := own_lt_nat (by omega) (by omega)
  have d2 : Int32.ofNat A2 = Int32.ofNat A1 ↔ A2 = A1 := own_eq_nat (by omega) (by omega)
  have t0 : own_trm (own_F4 (Int32.ofNat A0) (Int32.ofNat A1) (Int32.ofNat A2) (Int32.ofNat A3)) (3 : Int32) (1 : Int32) (0 : Int32) = Int32.ofNat (if A0 < A1 ∨ A0 = A1 then 1 else 0) := by
    refine (if_pos (by decide)).trans ?_
    show (if Int32.ofNat A0 < Int32.ofNat A1 then (1 : Int32) else if Int32.ofNat A0 = Int32.ofNat A1 then (if (0 : Int32) < (1 : Int32) then (1 : Int32) else (0 : Int32)) else (0 : Int32)) = _
    by_cases x : A0 < A1
    · rw [if_pos (c0.mpr x), if_pos (by omega)]; rfl
    · rw [if_neg (mt c0.mp x)]
      by_cases y : A0 = A1
      · rw [if_pos (d0.mpr y), if_pos (by decide), if_pos (by omega)]; rfl
      · rw [if_neg (mt d0.mp y), if_neg (by omega)]; rfl
  have t1 : own_trm (own_F4 (Int32.ofNat A0) (Int32.ofNat A1) (Int32.ofNat A2) (Int32.ofNat A3)) (3 : Int32) (1 : Int32) (1 : Int32) = Int32.ofNat 0 := (if_pos (by decide)).trans ((if_neg (own_irr _)).trans ((if_pos rfl).trans (if_neg (own_irr _))))
  have t2 : own_trm (own_F4 (Int32.ofNat A0) (Int32.ofNat A1) (Int32.ofNat A2) (Int32.ofNat A3)) (3 : Int32) (1 : Int32) (2 : Int32) = Int32.ofNat (if A2 < A1 then 1 else 0) := by
    refine (if_pos (by decide)).trans ?_
    show (if Int32.ofNat A2 < Int32.ofNat A1 then (1 : Int32) else if Int32.ofNat A2 = Int32.ofNat A1 then (if (2 : Int32) < (1 : Int32) then (1 : Int32) else (0 : Int32)) else (0 : Int32)) = _
    by_cases x : A2 < A1
    · rw [if_pos (c2.mpr x), if_pos (by omega)]; rfl
    · rw [if_neg (mt c2.mp x)]
      by_cases y : A2 = A1
      · rw [if_pos (d2.mpr y), if_neg (by decide), if_neg (by omega)]; rfl
      · rw [if_neg (mt d2.mp y), if_neg (by omega)]; rfl
  have t3 : own_trm (own_F4 (Int32.ofNat A0) (Int32.ofNat A1) (Int32.ofNat A2) (Int32.ofNat A3)) (3 : Int32) (1 : Int32) (3 : Int32) = Int32.ofNat 0 := if_neg (by decide)
  show (((own_trm _ _ _ _ + own_trm _ _ _ _) + own_trm _ _ _ _) + own_trm _ _ _ _) = _
  rw [t0, t1, t2, t3, own_addn, own_addn, own_addn]
  congr 1
  show _ = (0 + (if A0 < A1 then 1 else 0) + (if A1 < A1 then 1 else 0) + (if A2 < A1 then 1 else 0)) + (0 + (if A0 = A1 then 1 else 0))
  have s0 : (if A0 < A1 ∨ A0 = A1 then 1 else 0) = (if A0 < A1 then 1 else 0) + (if A0 = A1 then 1 else 0) := by split <;> split <;> split <;> omega
  rw [s0]
  have z1 : (if A1 < A1 then 1 else 0) = 0 := if_neg (Nat.lt_irrefl _)
  omega
theorem own_rk32 {A0 A1 A2 A3 mm : Nat} (hm : 1 ≤ mm ∧ mm ≤ 8) (b0 : 1 ≤ A0 ∧ A0 ≤ mm) (b1 : 1 ≤ A1 ∧ A1 ≤ mm) (b2 : 1 ≤ A2 ∧ A2 ≤ mm) (b3 : 1 ≤ A3 ∧ A3 ≤ mm) : own_rnk (own_F4 (Int32.ofNat A0) (Int32.ofNat A1) (Int32.ofNat A2) (Int32.ofNat A3)) (3 : Int32) (2 : Int32) = Int32.ofNat (own_pos (own_4 A0 A1 A2 A3) 3 2) := by
  have c0 : Int32.ofNat A0 < Int32.ofNat A2 ↔ A0 < A2 := own_lt_nat (by omega) (by omega)
  have d0 : Int32.ofNat A0 = Int32.ofNat A2 ↔ A0 = A2 := own_eq_nat (by omega) (by omega)
  have c1 : Int32.ofNat A1 < Int32.ofNat A2 ↔ A1 < A2 := own_lt_nat (by omega) (by omega)
  have d1 : Int32.ofNat A1 = Int32.ofNat A2 ↔ A1 = A2 := own_eq_nat (by omega) (by omega)
  have t0 : own_trm (own_F4 (Int32.ofNat A0) (Int32.ofNat A1) (Int32.ofNat A2) (Int32.ofNat A3)) (3 : Int32) (2 : Int32) (0 : Int32) = Int32.ofNat (if A0 < A2 ∨ A0 = A2 then 1 else 0) := by
    refine (if_pos (by decide)).trans ?_
    show (if Int32.ofNat A0 < Int32.ofNat A2 then (1 : Int32) else if Int32.ofNat A0 = Int32.ofNat A2 then (if (0 : Int32) < (2 : Int32) then (1 : Int32) else (0 : Int32)) else (0 : Int32)) = _
    by_cases x : A0 < A2
    · rw [if_pos (c0.mpr x), if_pos (by omega)]; rfl
    · rw [if_neg (mt c0.mp x)]
      by_cases y : A0 = A2
      · rw [if_pos (d0.mpr y), if_pos (by decide), if_pos (by omega)]; rfl
      · rw [if_neg (mt d0.mp y), if_neg (by omega)]; rfl
  have t1 : own_trm (own_F4 (Int32.ofNat A0) (Int32.ofNat A1) (Int32.ofNat A2) (Int32.ofNat A3)) (3 : Int32) (2 : Int32) (1 : Int32) = Int32.ofNat (if A1 < A2 ∨ A1 = A2 then 1 else 0) := by
    refine (if_pos (by decide)).trans ?_
    show (if Int32.ofNat A1 < Int32.ofNat A2 then (1 : Int32) else if Int32.ofNat A1 = Int32.ofNat A2 then (if (1 : Int32) < (2 : Int32) then (1 : Int32) else (0 : Int32)) else (0 : Int32)) = _
    by_cases x : A1 < A2
    · rw [if_pos (c1.mpr x), if_pos (by omega)]; rfl
    · rw [if_neg (mt c1.mp x)]
      by_cases y : A1 = A2
      · rw [if_pos (d1.mpr y), if_pos (by decide), if_pos (by omega)]; rfl
      · rw [if_neg (mt d1.mp y), if_neg (by omega)]; rfl
  have t2 : own_trm (own_F4 (Int32.ofNat A0) (Int32.ofNat A1) (Int32.ofNat A2) (Int32.ofNat A3)) (3 : Int32) (2 : Int32) (2 : Int32) = Int32.ofNat 0 := (if_pos (by decide)).trans ((if_neg (own_irr _)).trans ((if_pos rfl).trans (if_neg (own_irr _))))
  have t3 : own_trm (own_F4 (Int32.ofNat A0) (Int32.ofNat A1) (Int32.ofNat A2) (Int32.ofNat A3)) (3 : Int32) (2 : Int32) (3 : Int32) = Int32.ofNat 0 := if_neg (by decide)
  show (((own_trm _ _ _ _ + own_trm _ _ _ _) + own_trm _ _ _ _) + own_trm _ _ _ _) = _
  rw [t0, t1, t2, t3, own_addn, own_addn, own_addn]
  congr 1
  show _ = (0 + (if A0 < A2 then 1 else 0) + (if A1 < A2 then 1 else 0) + (if A2 < A2 then 1 else 0)) + (0 + (if A0 = A2 then 1 else 0) + (if A1 = A2 then 1 else 0))
  have s0 : (if A0 < A2 ∨ A0 = A2 then 1 else 0) = (if A0 < A2 then 1 else 0) + (if A0 = A2 then 1 else 0) := by split <;> split <;> split <;> omega
  have s1 : (if A1 < A2 ∨ A1 = A2 then 1 else 0) = (if A1 < A2 then 1 else 0) + (if A1 = A2 then 1 else 0) := by split <;> split <;> split <;> omega
  rw [s0, s1]
  have z2 : (if A2 < A2 then 1 else 0) = 0 := if_neg (Nat.lt_irrefl _)
  omega
theorem own_rk40 {A0 A1 A2 A3 mm : Nat} (hm : 1 ≤ mm ∧ mm ≤ 8) (b0 : 1 ≤ A0 ∧ A0 ≤ mm) (b1 : 1 ≤ A1 ∧ A1 ≤ mm) (b2 : 1 ≤ A2 ∧ A2 ≤ mm) (b3 : 1 ≤ A3 ∧ A3 ≤ mm) : own_rnk (own_F4 (Int32.ofNat A0) (Int32.ofNat A1) (Int32.ofNat A2) (Int32.ofNat A3)) (4 : Int32) (0 : Int32) = Int32.ofNat (own_pos (own_4 A0 A1 A2 A3) 4 0) := by
  have c1 : Int32.ofNat A1 < Int32.ofNat A0 ↔ A1 < A0 := own_lt_nat (by omega) (by omega)
  have d1 : Int32.ofNat A1 = Int32.ofNat A0 ↔ A1 = A0 := own_eq_nat (by omega) (by omega)
  have c2 : Int32.ofNat A2 < Int32.ofNat A0 ↔ A2 < A0 := own_lt_nat (by omega) (by omega)
  have d2 : Int32.ofNat A2 = Int32.ofNat A0 ↔ A2 = A0 := own_eq_nat (by omega) (by omega)
  have c3 : Int32.ofNat A3 < Int32.ofNat A0 ↔ A3 < A0 := own_lt_nat (by omega) (by omega)
  have d3 : Int32.ofNat A3 = Int32.ofNat A0 ↔ A3 = A0 := own_eq_nat (by omega) (by omega)
  have t0 : own_trm (own_F4 (Int32.ofNat A0) (Int32.ofNat A1) (Int32.ofNat A2) (Int32.ofNat A3)) (4 : Int32) (0 : Int32) (0 : Int32) = Int32.ofNat 0 := (if_pos (by decide)).trans ((if_neg (own_irr _)).trans ((if_pos rfl).trans (if_neg (own_irr _))))
  have t1 : own_trm (own_F4 (Int32.ofNat A0) (Int32.ofNat A1) (Int32.ofNat A2) (Int32.ofNat A3)) (4 : Int32) (0 : Int32) (1 : Int32) = Int32.ofNat (if A1 < A0 then 1 else 0) := by
    refine (if_pos (by decide)).trans ?_
    show (if Int32.ofNat A1 < Int32.ofNat A0 then (1 : Int32) else if Int32.ofNat A1 = Int32.ofNat A0 then (if (1 : Int32) < (0 : Int32) then (1 : Int32) else (0 : Int32)) else (0 : Int32)) = _
    by_cases x : A1 < A0
    · rw [if_pos (c1.mpr x), if_pos (by omega)]; rfl
    · rw [if_neg (mt c1.mp x)]
      by_cases y : A1 = A0
      · rw [if_pos (d1.mpr y), if_neg (by decide), if_neg (by omega)]; rfl
      · rw [if_neg (mt d1.mp y), if_neg (by omega)]; rfl
  have t2 : own_trm (own_F4 (Int32.ofNat A0) (Int32.ofNat A1) (Int32.ofNat A2) (Int32.ofNat A3)) (4 : Int32) (0 : Int32) (2 : Int32) = Int32.ofNat (if A2 < A0 then 1 else 0) := by
    refine (if_pos (by decide)).trans ?_
    show (if Int32.ofNat A2 < Int32.ofNat A0 then (1 : Int32) else if Int32.ofNat A2 = Int32.ofNat A0 then (if (2 : Int32) < (0 : Int32) then (1 : Int32) else (0 : Int32)) else (0 : Int32)) = _
    by_cases x : A2 < A0
    · rw [if_pos (c2.mpr x), if_pos (by omega)]; rfl
    · rw [if_neg (mt c2.mp x)]
      by_cases y : A2 = A0
      · rw [if_pos (d2.mpr y), if_neg (by decide), if_neg (by omega)]; rfl
      · rw [if_neg (mt d2.mp y), if_neg (by omega)]; rfl
  have t3 : own_trm (own_F4 (Int32.ofNat A0) (Int32.ofNat A1) (Int32.ofNat A2) (Int32.ofNat A3)) (4 : Int32) (0 : Int32) (3 : Int32) = Int32.ofNat (if A3 < A0 then 1 else 0) := by
    refine (if_pos (by decide)).trans ?_
    show (if Int32.ofNat A3 < Int32.ofNat A0 then (1 : Int32) else if Int32.ofNat A3 = Int32.ofNat A0 then (if (3 : Int32) < (0 : Int32) then (1 : Int32) else (0 : Int32)) else (0 : Int32)) = _
    by_cases x : A3 < A0
    · rw [if_pos (c3.mpr x), if_pos (by omega)]; rfl
    · rw [if_neg (mt c3.mp x)]
      by_cases y : A3 = A0
      · rw [if_pos (d3.mpr y), if_neg (by decide), if_neg (by omega)]; rfl
      · rw [if_neg (mt d3.mp y), if_neg (by omega)]; rfl
  show (((own_trm _ _ _ _ + own_trm _ _ _ _) + own_trm _ _ _ _) + own_trm _ _ _ _) = _
  rw [t0, t1, t2, t3, own_addn, own_addn, own_addn]
  congr 1
  show _ = (0 + (if A0 < A0 then 1 else 0) + (if A1 < A0 then 1 else 0) + (if A2 < A0 then 1 else 0) + (if A3 < A0 then 1 else 0)) + (0)
  have z0 : (if A0 < A0 then 1 else 0) = 0 := if_neg (Nat.lt_irrefl _)
  omega
theorem own_rk41 {A0 A1 A2 A3 mm : Nat} (hm : 1 ≤ mm ∧ mm ≤ 8) (b0 : 1 ≤ A0 ∧ A0 ≤ mm) (b1 : 1 ≤ A1 ∧ A1 ≤ mm) (b2 : 1 ≤ A2 ∧ A2 ≤ mm) (b3 : 1 ≤ A3 ∧ A3 ≤ mm) : own_rnk (own_F4 (Int32.ofNat A0) (Int32.ofNat A1) (Int32.ofNat A2) (Int32.ofNat A3)) (4 : Int32) (1 : Int32) = Int32.ofNat (own_pos (own_4 A0 A1 A2 A3) 4 1) := by
  have c0 : Int32.ofNat A0 < Int32.ofNat A1 ↔ A0 < A1 := own_lt_nat (by omega) (by omega)
  have d0 : Int32.ofNat A0 = Int32.ofNat A1 ↔ A0 = A1 := own_eq_nat (by omega) (by omega)
  have c2 : Int32.ofNat A2 < Int32.ofNat A1 ↔ A2 < A1 := own_lt_nat (by omega) (by omega)
  have d2 : Int32.ofNat A2 = Int32.ofNat A1 ↔ A2 = A1 := own_eq_nat (by omega) (by omega)
  have c3 : Int32.ofNat A3 < Int32.ofNat A1 ↔ A3 < A1 := own_lt_nat (by omega) (by omega)
  have d3 : Int32.ofNat A3 = Int32.ofNat A1 ↔ A3 = A1 := own_eq_nat (by omega) (by omega)
  have t0 : own_trm (own_F4 (Int32.ofNat A0) (Int32.ofNat A1) (Int32.ofNat A2) (Int32.ofNat A3)) (4 : Int32) (1 : Int32) (0 : Int32) = Int32.ofNat (if A0 < A1 ∨ A0 = A1 then 1 else 0) := by
    refine (if_pos (by decide)).trans ?_
    show (if Int32.ofNat A0 < Int32.ofNat A1 then (1 : Int32) else if Int32.ofNat A0 = Int32.ofNat A1 then (if (0 : Int32) < (1 : Int32) then (1 : Int32) else (0 : Int32)) else (0 : Int32)) = _
    by_cases x : A0 < A1
    · rw [if_pos (c0.mpr x), if_pos (by omega)]; rfl
    · rw [if_neg (mt c0.mp x)]
      by_cases y : A0 = A1
      · rw [if_pos (d0.mpr y), if_pos (by decide), if_pos (by omega)]; rfl
      · rw [if_neg (mt d0.mp y), if_neg (by omega)]; rfl
  have t1 : own_trm (own_F4 (Int32.ofNat A0) (Int32.ofNat A1) (Int32.ofNat A2) (Int32.ofNat A3)) (4 : Int32) (1 : Int32) (1 : Int32) = Int32.ofNat 0 := (if_pos (by decide)).trans ((if_neg (own_irr _)).trans ((if_pos rfl).trans (if_neg (own_irr _))))
  have t2 : own_trm (own_F4 (Int32.ofNat A0) (Int32.ofNat A1) (Int32.ofNat A2) (Int32.ofNat A3)) (4 : Int32) (1 : Int32) (2 : Int32) = Int32.ofNat (if A2 < A1 then 1 else 0) := by
    refine (if_pos (by decide)).trans ?_
    show (if Int32.ofNat A2 < Int32.ofNat A1 then (1 : Int32) else if Int32.ofNat A2 = Int32.ofNat A1 then (if (2 : Int32) < (1 : Int32) then (1 : Int32) else (0 : Int32)) else (0 : Int32)) = _
    by_cases x : A2 < A1
    · rw [if_pos (c2.mpr x), if_pos (by omega)]; rfl
    · rw [if_neg (mt c2.mp x)]
      by_cases y : A2 = A1
      · rw [if_pos (d2.mpr y), if_neg (by decide), if_neg (by omega)]; rfl
      · rw [if_neg (mt d2.mp y), if_neg (by omega)]; rfl
  have t3 : own_trm (own_F4 (Int32.ofNat A0) (Int32.ofNat A1) (Int32.ofNat A2) (Int32.ofNat A3)) (4 : Int32) (1 : Int32) (3 : Int32) = Int32.ofNat (if A3 < A1 then 1 else 0) := by
    refine (if_pos (by decide)).trans ?_
    show (if Int32.ofNat A3 < Int32.ofNat A1 then (1 : Int32) else if Int32.ofNat A3 = Int32.ofNat A1 then (if (3 : Int32) < (1 : Int32) then (1 : Int32) else (0 : Int32)) else (0 : Int32)) = _
    by_cases x : A3 < A1
    · rw [if_pos (c3.mpr x), if_pos (by omega)]; rfl
    · rw [if_neg (mt c3.mp x)]
      by_cases y : A3 = A1
      · rw [if_pos (d3.mpr y), if_neg (by decide), if_neg (by omega)]; rfl
      · rw [if_neg (mt d3.mp y), if_neg (by omega)]; rfl
  show (((own_trm _ _ _ _ + own_trm _ _ _ _) + own_trm _ _ _ _) + own_trm _ _ _ _) = _
  rw [t0, t1, t2, t3, own_addn, own_addn, own_addn]
  congr 1
  show _ = (0 + (if A0 < A1 then 1 else 0) + (if A1 < A1 then 1 else 0) + (if A2 < A1 then 1 else 0) + (if A3 < A1 then 1 else 0)) + (0 + (if A0 = A1 then 1 else 0))
  have s0 : (if A0 < A1 ∨ A0 = A1 then 1 else 0) = (if A0 < A1 then 1 else 0) + (if A0 = A1 then 1 else 0) := by split <;> split <;> split <;> omega
  rw [s0]
  have z1 : (if A1 < A1 then 1 else 0) = 0 := if_neg (Nat.lt_irrefl _)
  omega
theorem own_rk42 {A0 A1 A2 A3 mm : Nat} (hm : 1 ≤ mm ∧ mm ≤ 8) (b0 : 1 ≤ A0 ∧ A0 ≤ mm) (b1 : 1 ≤ A1 ∧ A1 ≤ mm) (b2 : 1 ≤ A2 ∧ A2 ≤ mm) (b3 : 1 ≤ A3 ∧ A3 ≤ mm) : own_rnk (own_F4 (Int32.ofNat A0) (Int32.ofNat A1) (Int32.ofNat A2) (Int32.ofNat A3)) (4 : Int32) (2 : Int32) = Int32.ofNat (own_pos (own_4 A0 A1 A2 A3) 4 2) := by
  have c0 : Int32.ofNat A0 < Int32.ofNat A2 ↔ A0 < A2 := own_lt_nat (by omega) (by omega)
  have d0 : Int32.ofNat A0 = Int32.ofNat A2 ↔ A0 = A2 := own_eq_nat (by omega) (by omega)
  have c1 : Int32.ofNat A1 < Int32.ofNat A2 ↔ A1 < A2 := own_lt_nat (by omega) (by omega)
  have d1 : Int32.ofNat A1 = Int32.ofNat A2 ↔ A1 = A2 := own_eq_nat (by omega) (by omega)
  have c3 : Int32.ofNat A3 < Int32.ofNat A2 ↔ A3 < A2 := own_lt_nat (by omega) (by omega)
  have d3 : Int32.ofNat A3 = Int32.ofNat A2 ↔ A3 = A2 := own_eq_nat (by omega) (by omega)
  have t0 : own_trm (own_F4 (Int32.ofNat A0) (Int32.ofNat A1) (Int32.ofNat A2) (Int32.ofNat A3)) (4 : Int32) (2 : Int32) (0 : Int32) = Int32.ofNat (if A0 < A2 ∨ A0 = A2 then 1 else 0) := by
    refine (if_pos (by decide)).trans ?_
    show (if Int32.ofNat A0 < Int32.ofNat A2 then (1 : Int32) else if Int32.ofNat A0 = Int32.ofNat A2 then (if (0 : Int32) < (2 : Int32) then (1 : Int32) else (0 : Int32)) else (0 : Int32)) = _
    by_cases x : A0 < A2
    · rw [if_pos (c0.mpr x), if_pos (by omega)]; rfl
    · rw [if_neg (mt c0.mp x)]
      by_cases y : A0 = A2
      · rw [if_pos (d0.mpr y), if_pos (by decide), if_pos (by omega)]; rfl
      · rw [if_neg (mt d0.mp y), if_neg (by omega)]; rfl
  have t1 : own_trm (own_F4 (Int32.ofNat A0) (Int32.ofNat A1) (Int32.ofNat A2) (Int32.ofNat A3)) (4 : Int32) (2 : Int32) (1 : Int32) = Int32.ofNat (if A1 < A2 ∨ A1 = A2 then 1 else 0) := by
    refine (if_pos (by decide)).trans ?_
    show (if Int32.ofNat A1 < Int32.ofNat A2 then (1 : Int32) else if Int32.ofNat A1 = Int32.ofNat A2 then (if (1 : Int32) < (2 : Int32) then (1 : Int32) else (0 : Int32)) else (0 : Int32)) = _
    by_cases x : A1 < A2
    · rw [if_pos (c1.mpr x), if_pos (by omega)]; rfl
    · rw [if_neg (mt c1.mp x)]
      by_cases y : A1 = A2
      · rw [if_pos (d1.mpr y), if_pos (by decide), if_pos (by omega)]; rfl
      · rw [if_neg (mt d1.mp y), if_neg (by omega)]; rfl
  have t2 : own_trm (own_F4 (Int32.ofNat A0) (Int32.ofNat A1) (Int32.ofNat A2) (Int32.ofNat A3)) (4 : Int32) (2 : Int32) (2 : Int32) = Int32.ofNat 0 := (if_pos (by decide)).trans ((if_neg (own_irr _)).trans ((if_pos rfl).trans (if_neg (own_irr _))))
  have t3 : own_trm (own_F4 (Int32.ofNat A0) (Int32.ofNat A1) (Int32.ofNat A2) (Int32.ofNat A3)) (4 : Int32) (2 : Int32) (3 : Int32) = Int32.ofNat (if A3 < A2 then 1 else 0) := by
    refine (if_pos (by decide)).trans ?_
    show (if Int32.ofNat A3 < Int32.ofNat A2 then (1 : Int32) else if Int32.ofNat A3 = Int32.ofNat A2 then (if (3 : Int32) < (2 : Int32) then (1 : Int32) else (0 : Int32)) else (0 : Int32)) = _
    by_cases x : A3 < A2
    · rw [if_pos (c3.mpr x), if_pos (by omega)]; rfl
    · rw [if_neg (mt c3.mp x)]
      by_cases y : A3 = A2
      · rw [if_pos (d3.mpr y), if_neg (by decide), if_neg (by omega)]; rfl
      · rw [if_neg (mt d3.mp y), if_neg (by omega)]; rfl
  show (((own_trm _ _ _ _ + own_trm _ _ _ _) + own_trm _ _ _ _) + own_trm _ _ _ _) = _
  rw [t0, t1, t2, t3, own_addn, own_addn, own_addn]
  congr 1
  show _ = (0 + (if A0 < A2 then 1 else 0) + (if A1 < A2 then 1 else 0) + (if A2 < A2 then 1 else 0) + (if A3 < A2 then 1 else 0)) + (0 + (if A0 = A2 then 1 else 0) + (if A1 = A2 then 1 else 0))
  have s0 : (if A0 < A2 ∨ A0 = A2 then 1 else 0) = (if A0 < A2 then 1 else 0) + (if A0 = A2 then 1 else 0) := by split <;> split <;> split <;> omega
  have s1 : (if A1 < A2 ∨ A1 = A2 then 1 else 0) = (if A1 < A2 then 1 else 0) + (if A1 = A2 then 1 else 0) := by split <;> split <;> split <;> omega
  rw [s0, s1]
  have z2 : (if A2 < A2 then 1 else 0) = 0 := if_neg (Nat.lt_irrefl _)
  omega
theorem own_rk43 {A0 A1 A2 A3 mm : Nat} (hm : 1 ≤ mm ∧ mm ≤ 8) (b0 : 1 ≤ A0 ∧ A0 ≤ mm) (b1 : 1 ≤ A1 ∧ A1 ≤ mm) (b2 : 1 ≤ A2 ∧ A2 ≤ mm) (b3 : 1 ≤ A3 ∧ A3 ≤ mm) : own_rnk (own_F4 (Int32.ofNat A0) (Int32.ofNat A1) (Int32.ofNat A2) (Int32.ofNat A3)) (4 : Int32) (3 : Int32) = Int32.ofNat (own_pos (own_4 A0 A1 A2 A3) 4 3) := by
  have c0 : Int32.ofNat A0 < Int32.ofNat A3 ↔ A0 < A3 := own_lt_nat (by omega) (by omega)
  have d0 : Int32.ofNat A0 = Int32.ofNat A3 ↔ A0 = A3 := own_eq_nat (by omega) (by omega)
  have c1 : Int32.ofNat A1 < Int32.ofNat A3 ↔ A1 < A3 := own_lt_nat (by omega) (by omega)
  have d1 : Int32.ofNat A1 = Int32.ofNat A3 ↔ A1 = A3 := own_eq_nat (by omega) (by omega)
  have c2 : Int32.ofNat A2 < Int32.ofNat A3 ↔ A2 < A3 := own_lt_nat (by omega) (by omega)
  have d2 : Int32.ofNat A2 = Int32.ofNat A3 ↔ A2 = A3 := own_eq_nat (by omega) (by omega)
  have t0 : own_trm (own_F4 (Int32.ofNat A0) (Int32.ofNat A1) (Int32.ofNat A2) (Int32.ofNat A3)) (4 : Int32) (3 : Int32) (0 : Int32) = Int32.ofNat (if A0 < A3 ∨ A0 = A3 then 1 else 0) := by
    refine (if_pos (by decide)).trans ?_
    show (if Int32.ofNat A0 < Int32.ofNat A3 then (1 : Int32) else if Int32.ofNat A0 = Int32.ofNat A3 then (if (0 : Int32) < (3 : Int32) then (1 : Int32) else (0 : Int32)) else (0 : Int32)) = _
    by_cases x : A0 < A3
    · rw [if_pos (c0.mpr x), if_pos (by omega)]; rfl
    · rw [if_neg (mt c0.mp x)]
      by_cases y : A0 = A3
      · rw [if_pos (d0.mpr y), if_pos (by decide), if_pos (by omega)]; rfl
      · rw [if_neg (mt d0.mp y), if_neg (by omega)]; rfl
  have t1 : own_trm (own_F4 (Int32.ofNat A0) (Int32.ofNat A1) (Int32.ofNat A2) (Int32.ofNat A3)) (4 : Int32) (3 : Int32) (1 : Int32) = Int32.ofNat (if A1 < A3 ∨ A1 = A3 then 1 else 0) := by
    refine (if_pos (by decide)).trans ?_
    show (if Int32.ofNat A1 < Int32.ofNat A3 then (1 : Int32) else if Int32.ofNat A1 = Int32.ofNat A3 then (if (1 : Int32) < (3 : Int32) then (1 : Int32) else (0 : Int32)) else (0 : Int32)) = _
    by_cases x : A1 < A3
    · rw [if_pos (c1.mpr x), if_pos (by omega)]; rfl
    · rw [if_neg (mt c1.mp x)]
      by_cases y : A1 = A3
      · rw [if_pos (d1.mpr y), if_pos (by decide), if_pos (by omega)]; rfl
      · rw [if_neg (mt d1.mp y), if_neg (by omega)]; rfl
  have t2 : own_trm (own_F4 (Int32.ofNat A0) (Int32.ofNat A1) (Int32.ofNat A2) (Int32.ofNat A3)) (4 : Int32) (3 : Int32) (2 : Int32) = Int32.ofNat (if A2 < A3 ∨ A2 = A3 then 1 else 0) := by
    refine (if_pos (by decide)).trans ?_
    show (if Int32.ofNat A2 < Int32.ofNat A3 then (1 : Int32) else if Int32.ofNat A2 = Int32.ofNat A3 then (if (2 : Int32) < (3 : Int32) then (1 : Int32) else (0 : Int32)) else (0 : Int32)) = _
    by_cases x : A2 < A3
    · rw [if_pos (c2.mpr x), if_pos (by omega)]; rfl
    · rw [if_neg (mt c2.mp x)]
      by_cases y : A2 = A3
      · rw [if_pos (d2.mpr y), if_pos (by decide), if_pos (by omega)]; rfl
      · rw [if_neg (mt d2.mp y), if_neg (by omega)]; rfl
  have t3 : own_trm (own_F4 (Int32.ofNat A0) (Int32.ofNat A1) (Int32.ofNat A2) (Int32.ofNat A3)) (4 : Int32) (3 : Int32) (3 : Int32) = Int32.ofNat 0 := (if_pos (by decide)).trans ((if_neg (own_irr _)).trans ((if_pos rfl).trans (if_neg (own_irr _))))
  show (((own_trm _ _ _ _ + own_trm _ _ _ _) + own_trm _ _ _ _) + own_trm _ _ _ _) = _
  rw [t0, t1, t2, t3, own_addn, own_addn, own_addn]
  congr 1
  show _ = (0 + (if A0 < A3 then 1 else 0) + (if A1 < A3 then 1 else 0) + (if A2 < A3 then 1 else 0) + (if A3 < A3 then 1 else 0)) + (0 + (if A0 = A3 then 1 else 0) + (if A1 = A3 then 1 else 0) + (if A2 = A3 then 1 else 0))
  have s0 : (if A0 < A3 ∨ A0 = A3 then 1 else 0) = (if A0 < A3 then 1 else 0) + (if A0 = A3 then 1 else 0) := by split <;> split <;> split <;> omega
  have s1 : (if A1 < A3 ∨ A1 = A3 then 1 else 0) = (if A1 < A3 then 1 else 0) + (if A1 = A3 then 1 else 0) := by split <;> split <;> split <;> omega
  have s2 : (if A2 < A3 ∨ A2 = A3 then 1 else 0) = (if A2 < A3 then 1 else 0) + (if A2 = A3 then 1 else 0) := by split <;> split <;> split <;> omega
  rw [s0, s1, s2]
  have z3 : (if A3 < A3 then 1 else 0) = 0 := if_neg (Nat.lt_irrefl _)
  omega
theorem pn_com_example_housemartin_housemartin_record_SpellColumns : plainName "com/example/housemartin/housemartin/record/SpellColumns" = true := by first | (simp [plainName, overriddenIn]; done) | decide +kernel
theorem ef_1 (m : MethodId) (x0 : Addr) : entryFrame m #[(.ref x0)] 1 = mkF m 0 #[.val (.ref x0)] [] := by first | (simp [entryFrame, mkF, argsToLocals, Value.category]; done) | rfl
theorem d1_0 : decode prog_33_method_1_code 0 = .ok (.aload_n 0, 1) := by decide +kernel
theorem d1_1 : decode prog_33_method_1_code 1 = .ok (.invokespecial 3, 3) := by decide +kernel
theorem d1_4 : decode prog_33_method_1_code 4 = .ok (.aload_n 0, 1) := by decide +kernel
theorem d1_5 : decode prog_33_method_1_code 5 = .ok (.sipush 1024, 3) := by decide +kernel
theorem d1_8 : decode prog_33_method_1_code 8 = .ok (.newarray .int, 2) := by decide +kernel
theorem d1_10 : decode prog_33_method_1_code 10 = .ok (.putfield 9, 3) := by decide +kernel
theorem d1_13 : decode prog_33_method_1_code 13 = .ok (.aload_n 0, 1) := by decide +kernel
theorem d1_14 : decode prog_33_method_1_code 14 = .ok (.sipush 1024, 3) := by decide +kernel
theorem d1_17 : decode prog_33_method_1_code 17 = .ok (.newarray .int, 2) := by decide +kernel
theorem d1_19 : decode prog_33_method_1_code 19 = .ok (.putfield 15, 3) := by decide +kernel
theorem d1_22 : decode prog_33_method_1_code 22 = .ok (.aload_n 0, 1) := by decide +kernel
theorem d1_23 : decode prog_33_method_1_code 23 = .ok (.sipush 1024, 3) := by decide +kernel
theorem d1_26 : decode prog_33_method_1_code 26 = .ok (.newarray .int, 2) := by decide +kernel
theorem d1_28 : decode prog_33_method_1_code 28 = .ok (.putfield 18, 3) := by decide +kernel
theorem d1_31 : decode prog_33_method_1_code 31 = .ok (.aload_n 0, 1) := by decide +kernel
theorem d1_32 : decode prog_33_method_1_code 32 = .ok (.sipush 1024, 3) := by decide +kernel
theorem d1_35 : decode prog_33_method_1_code 35 = .ok (.newarray .int, 2) := by decide +kernel
theorem d1_37 : decode prog_33_method_1_code 37 = .ok (.putfield 21, 3) := by decide +kernel
theorem d1_40 : decode prog_33_method_1_code 40 = .ok (.aload_n 0, 1) := by decide +kernel
theorem d1_41 : decode prog_33_method_1_code 41 = .ok (.sipush 1024, 3) := by decide +kernel
theorem d1_44 : decode prog_33_method_1_code 44 = .ok (.newarray .byte, 2) := by decide +kernel
theorem d1_46 : decode prog_33_method_1_code 46 = .ok (.putfield 24, 3) := by decide +kernel
theorem d1_49 : decode prog_33_method_1_code 49 = .ok (.aload_n 0, 1) := by decide +kernel
theorem d1_50 : decode prog_33_method_1_code 50 = .ok (.sipush 1024, 3) := by decide +kernel
theorem d1_53 : decode prog_33_method_1_code 53 = .ok (.newarray .long, 2) := by decide +kernel
theorem d1_55 : decode prog_33_method_1_code 55 = .ok (.putfield 28, 3) := by decide +kernel
theorem d1_58 : decode prog_33_method_1_code 58 = .ok (.return_, 1) := by decide +kernel
def Q_rm1 (Z : State) (ob : Addr) (h0 : Heap) (n0 : Nat) (v : Option Value) (h : Heap) (L : List Loc) : Prop := v = none ∧ ∃ ag fi sa en re li, Fr n0 L ∧ Keep h0 h [ob] ∧ h0.size ≤ ag ∧ n0 ≤ ag ∧ (@LT.lt Nat instLTNat ag fi ∧ @LT.lt Nat instLTNat fi sa ∧ @LT.lt Nat instLTNat sa en ∧ @LT.lt Nat instLTNat en re ∧ @LT.lt Nat instLTNat re li) ∧ Exa Z h ob "com/example/housemartin/housemartin/record/SpellColumns" ∧ Fld Z h ob "com/example/housemartin/housemartin/record/SpellColumns" "agents" "[I" (.ref ag) ∧ Fld Z h ob "com/example/housemartin/housemartin/record/SpellColumns" "firms" "[I" (.ref fi) ∧ Fld Z h ob "com/example/housemartin/housemartin/record/SpellColumns" "starts" "[I" (.ref sa) ∧ Fld Z h ob "com/example/housemartin/housemartin/record/SpellColumns" "ends" "[I" (.ref en) ∧ Fld Z h ob "com/example/housemartin/housemartin/record/SpellColumns" "reasons" "[B" (.ref re) ∧ Fld Z h ob "com/example/housemartin/housemartin/record/SpellColumns" "lines" "[J" (.ref li) ∧ Fld Z h ob "com/example/housemartin/housemartin/record/SpellColumns" "size" "I" (.int (Int32.ofNat 0)) ∧ own_I Z h ag 1024 (fun _ => 0) ∧ own_W Z h fi .int 1024 ∧ own_W Z h sa .int 1024 ∧ own_W Z h en .int 1024 ∧ own_W Z h re .byte 1024 ∧ own_W Z h li .long 1024
set_option maxRecDepth 65536 in
set_option maxHeartbeats 40000000 in
theorem rm1 (l : Launch) (Z : State) (a0 : Array Value) (hw : ∀ d ∈ tables_1, d.before a0 Z = true) (ws : List Jvm.Cond) (ob : Addr) (h0 : Heap) (n0 : Nat) (Z0 : n0 ≤ h0.size) (Ex : Exa Z h0 ob "com/example/housemartin/housemartin/record/SpellColumns") (g0 : n0 ≤ ob) (F_agents : Fld Z h0 ob "com/example/housemartin/housemartin/record/SpellColumns" "agents" "[I" .null) (F_firms : Fld Z h0 ob "com/example/housemartin/housemartin/record/SpellColumns" "firms" "[I" .null) (F_starts : Fld Z h0 ob "com/example/housemartin/housemartin/record/SpellColumns" "starts" "[I" .null) (F_ends : Fld Z h0 ob "com/example/housemartin/housemartin/record/SpellColumns" "ends" "[I" .null) (F_reasons : Fld Z h0 ob "com/example/housemartin/housemartin/record/SpellColumns" "reasons" "[B" .null) (F_lines : Fld Z h0 ob "com/example/housemartin/housemartin/record/SpellColumns" "lines" "[J" .null) (F_size : Fld Z h0 ob "com/example/housemartin/housemartin/record/SpellColumns" "size" "I" (.int (0 : Int32))) :
    MetFree l (⟨"com/example/housemartin/housemartin/record/SpellColumns", "<init>", "()V"⟩ : MethodName) (head1 (Jvm.Cond.code (⟨"com/example/housemartin/housemartin/record/SpellColumns", "<init>", "()V"⟩ : MethodName) prog_33_method_1_code 1 none :: ws) ({ frames := 1, cells := 6, slots := 6144, locals := 12 } : Room)) (fun a U => a = #[(.ref ob)] ∧ Z.Warmed39 U.vm ∧ U.heap = h0) (fun _ _ _ _ _ => True) (fun _ U o U' => ∃ v L, o = .returned v ∧ Q_rm1 Z ob h0 n0 v U'.heap L ∧ FrameEnd U o U' L ({ frames := 1, cells := 6, slots := 6144, locals := 12 } : Room).cells ({ frames := 1, cells := 6, slots := 6144, locals := 12 } : Room).slots) := by
  refine own_enter (Q := Q_rm1 Z ob h0 n0) (plainFor_of_name pn_com_example_housemartin_housemartin_record_SpellColumns) ?_
  intro p e s m below meth c s₁ G X0 hx hby hml hZ hown hnm hret e0 go fin
  replace hown : s.vm.findClass "com/example/housemartin/housemartin/record/SpellColumns" = some m.cls := hown
  replace hnm : meth.name = "<init>" := hnm
  replace hml : c.maxLocals = 1 := hml
  rw [ef_1 m ob]
  have N0 := Fr.nil n0
  show G (s₁.setTop (mkF m 0 #[.val (.ref ob)] []))
  refine go (fun tg kg => XS.aloadN X0.here hx rfl (hb hby d1_0) rfl rfl kg) ?_
  show G (s₁.setTop (mkF m 1 #[.val (.ref ob)] [(.ref ob)]))
  obtain ⟨T1, X1, e1, st1⟩ := initO X0 hx hZ hown (hw _ (List.mem_of_getElem? (i := 8) rfl)) (hw _ (List.mem_of_getElem? (i := 9) rfl)) (hw _ (List.mem_of_getElem? (i := 10) rfl)) e0 (g := (mkF m 1 #[.val (.ref ob)] [(.ref ob)])) rfl (by rw [hml]; rfl) rfl (hb hby d1_1) (by decide) (W := 0) (by show 2 * 0 + _ ≤ _; exact Nat.le_of_eq rfl) (by decide)
  refine go st1 ?_
  show G (T1.setTop (mkF m 4 #[.val (.ref ob)] []))
  refine go (fun tg kg => XS.aloadN X1.here hx rfl (hb hby d1_4) rfl rfl kg) ?_
  show G (T1.setTop (mkF m 5 #[.val (.ref ob)] [(.ref ob)]))
  refine go (fun tg kg => XS.sipush X1.here hx rfl (hb hby d1_5) kg) ?_
  show G (T1.setTop (mkF m 8 #[.val (.ref ob)] [(.int (1024 : Int32)), (.ref ob)]))
  obtain ⟨T2, h2, k2, X2, e2, E2, A2, st2⟩ := newP X1 hx hZ (hw _ (List.mem_of_getElem? (i := 0) rfl)) e1 (g := (mkF m 8 #[.val (.ref ob)] [(.int (1024 : Int32)), (.ref ob)])) rfl (hb hby d1_8) rfl (by decide) (cap := 1024) (by decide) (by decide) (by decide) (by decide)
  obtain ⟨b2, g2⟩ : ∃ z, z = h0.size := ⟨_, rfl⟩
  rw [← g2] at A2 st2
  refine go st2 ?_
  have V2 : Arv Z h2 b2 k2 .int (1024 : Int32) [] (.int (0 : Int32)) := Arv.new A2 (by decide)
  have ge_b2 : n0 ≤ b2 := Nat.le_trans Z0 (Nat.le_of_eq g2.symm)
  have sz_b2 : h0.size ≤ b2 := Nat.le_trans (Keep.refl h0 [ob]).1 (Nat.le_of_eq g2.symm)
  have K2 : Keep h0 h2 [ob] := (Keep.refl h0 [ob]).ext E2
  have Z2 := Nat.le_trans Z0 E2.1
  show G (T2.setTop (mkF m 10 #[.val (.ref ob)] [(.ref b2), (.ref ob)]))
  have Fa3 := (Ex.ext E2)
  have Fa4 := (F_agents.ext E2)
  obtain ⟨T5, h5, X5, e5, W5, st5⟩ := putF X2 hx hZ hown (host := "") (Or.inl (hw _ (List.mem_of_getElem? (i := 11) rfl))) Via.refl e2 Fa4 Fa3 (Or.inl (hw _ (List.mem_of_getElem? (i := 12) rfl))) (hw _ (List.mem_of_getElem? (i := 3) rfl)) (ty := (.array .int)) (by decide) rfl rfl (g := (mkF m 10 #[.val (.ref ob)] [(.ref b2), (.ref ob)])) rfl rfl (hb hby d1_10)
  refine go st5 ?_
  have Fw5 : Fld Z h5 ob "com/example/housemartin/housemartin/record/SpellColumns" "agents" "[I" (.ref b2) := Fa4.same W5
  have N5 := Fr.snoc X5 N0 g0
  have K5 : Keep h0 h5 [ob] := K2.wr W5 (Or.inl (List.mem_of_getElem? (i := 0) rfl))
  have Z5 := Nat.le_trans Z2 (Keep.of_wr W5).1
  show G (T5.setTop (mkF m 13 #[.val (.ref ob)] []))
  refine go (fun tg kg => XS.aloadN X5.here hx rfl (hb hby d1_13) rfl rfl kg) ?_
  show G (T5.setTop (mkF m 14 #[.val (.ref ob)] [(.ref ob)]))
  refine go (fun tg kg => XS.sipush X5.here hx rfl (hb hby d1_14) kg) ?_
  show G (T5.setTop (mkF m 17 #[.val (.ref ob)] [(.int (1024 : Int32)), (.ref ob)]))
  obtain ⟨T6, h6, k6, X6, e6, E6, A6, st6⟩ := newP X5 hx hZ (hw _ (List.mem_of_getElem? (i := 0) rfl)) e5 (g := (mkF m 17 #[.val (.ref ob)] [(.int (1024 : Int32)), (.ref ob)])) rfl (hb hby d1_17) rfl (by decide) (cap := 1024) (by decide) (by decide) (by decide) (by decide)
  obtain ⟨b6, g6⟩ : ∃ z, z = h5.size := ⟨_, rfl⟩
  rw [← g6] at A6 st6
  refine go st6 ?_
  have V6 : Arv Z h6 b6 k6 .int (1024 : Int32) [] (.int (0 : Int32)) := Arv.new A6 (by decide)
  have ge_b6 : n0 ≤ b6 := Nat.le_trans Z5 (Nat.le_of_eq g6.symm)
  have sz_b6 : h0.size ≤ b6 := Nat.le_trans K5.1 (Nat.le_of_eq g6.symm)
  have K6 : Keep h0 h6 [ob] := K5.ext E6
  have Z6 := Nat.le_trans Z5 E6.1
  show G (T6.setTop (mkF m 19 #[.val (.ref ob)] [(.ref b6), (.ref ob)]))
  have Fa7 := ((Fa3.wr W5).ext E6)
  have Fa8 := (((F_firms.ext E2).other W5 (Or.inr (slot_ne (Or.inl (hw _ (List.mem_of_getElem? (i := 14) rfl))) (Or.inl (hw _ (List.mem_of_getElem? (i := 12) rfl))) (by decide) (t := (.array .int)) (t' := (.array .int)) (by decide) (by decide)))).ext E6)
  obtain ⟨T9, h9, X9, e9, W9, st9⟩ := putF X6 hx hZ hown (host := "") (Or.inl (hw _ (List.mem_of_getElem? (i := 13) rfl))) Via.refl e6 Fa8 Fa7 (Or.inl (hw _ (List.mem_of_getElem? (i := 14) rfl))) (hw _ (List.mem_of_getElem? (i := 3) rfl)) (ty := (.array .int)) (by decide) rfl rfl (g := (mkF m 19 #[.val (.ref ob)] [(.ref b6), (.ref ob)])) rfl rfl (hb hby d1_19)
  refine go st9 ?_
  have Fw9 : Fld Z h9 ob "com/example/housemartin/housemartin/record/SpellColumns" "firms" "[I" (.ref b6) := Fa8.same W9
  have N9 := Fr.snoc X9 N5 g0
  have K9 : Keep h0 h9 [ob] := K6.wr W9 (Or.inl (List.mem_of_getElem? (i := 0) rfl))
  have Z9 := Nat.le_trans Z6 (Keep.of_wr W9).1
  show G (T9.setTop (mkF m 22 #[.val (.ref ob)] []))
  refine go (fun tg kg => XS.aloadN X9.here hx rfl (hb hby d1_22) rfl rfl kg) ?_
  show G (T9.setTop (mkF m 23 #[.val (.ref ob)] [(.ref ob)]))
  refine go (fun tg kg => XS.sipush X9.here hx rfl (hb hby d1_23) kg) ?_
  show G (T9.setTop (mkF m 26 #[.val (.ref ob)] [(.int (1024 : Int32)), (.ref ob)]))
  obtain ⟨T10, h10, k10, X10, e10, E10, A10, st10⟩ := newP X9 hx hZ (hw _ (List.mem_of_getElem? (i := 0) rfl)) e9 (g := (mkF m 26 #[.val (.ref ob)] [(.int (1024 : Int32)), (.ref ob)])) rfl (hb hby d1_26) rfl (by decide) (cap := 1024) (by decide) (by decide) (by decide) (by decide)
  obtain ⟨b10, g10⟩ : ∃ z, z = h9.size := ⟨_, rfl⟩
  rw [← g10] at A10 st10
  refine go st10 ?_
  have V10 : Arv Z h10 b10 k10 .int (1024 : Int32) [] (.int (0 : Int32)) := Arv.new A10 (by decide)
  have ge_b10 : n0 ≤ b10 := Nat.le_trans Z9 (Nat.le_of_eq g10.symm)
  have sz_b10 : h0.size ≤ b10 := Nat.le_trans K9.1 (Nat.le_of_eq g10.symm)
  have K10 : Keep h0 h10 [ob] := K9.ext E10
  have Z10 := Nat.le_trans Z9 E10.1
  show G (T10.setTop (mkF m 28 #[.val (.ref ob)] [(.ref b10), (.ref ob)]))
  have Fa11 := ((Fa7.wr W9).ext E10)
  have Fa12 := (((((F_starts.ext E2).other W5 (Or.inr (slot_ne (Or.inl (hw _ (List.mem_of_getElem? (i := 16) rfl))) (Or.inl (hw _ (List.mem_of_getElem? (i := 12) rfl))) (by decide) (t := (.array .int)) (t' := (.array .int)) (by decide) (by decide)))).ext E6).other W9 (Or.inr (slot_ne (Or.inl (hw _ (List.mem_of_getElem? (i := 16) rfl))) (Or.inl (hw _ (List.mem_of_getElem? (i := 14) rfl))) (by decide) (t := (.array .int)) (t' := (.array .int)) (by decide) (by decide)))).ext E10)
  obtain ⟨T13, h13, X13, e13, W13, st13⟩ := putF X10 hx hZ hown (host := "") (Or.inl (hw _ (List.mem_of_getElem? (i := 15) rfl))) Via.refl e10 Fa12 Fa11 (Or.inl (hw _ (List.mem_of_getElem? (i := 16) rfl))) (hw _ (List.mem_of_getElem? (i := 3) rfl)) (ty := (.array .int)) (by decide) rfl rfl (g := (mkF m 28 #[.val (.ref ob)] [(.ref b10), (.ref ob)])) rfl rfl (hb hby d1_28)
  refine go st13 ?_
  have Fw13 : Fld Z h13 ob "com/example/housemartin/housemartin/record/SpellColumns" "starts" "[I" (.ref b10) := Fa12.same W13
  have N13 := Fr.snoc X13 N9 g0
  have K13 : Keep h0 h13 [ob] := K10.wr W13 (Or.inl (List.mem_of_getElem? (i := 0) rfl))
  have Z13 := Nat.le_trans Z10 (Keep.of_wr W13).1
  show G (T13.setTop (mkF m 31 #[.val (.ref ob)] []))
  refine go (fun tg kg => XS.aloadN X13.here hx rfl (hb hby d1_31) rfl rfl kg) ?_
  show G (T13.setTop (mkF m 32 #[.val (.ref ob)] [(.ref ob)]))
  refine go (fun tg kg => XS.sipush X13.here hx rfl (hb hby d1_32) kg) ?_
  show G (T13.setTop (mkF m 35 #[.val (.ref ob)] [(.int (1024 : Int32)), (.ref ob)]))
  obtain ⟨T14, h14, k14, X14, e14, E14, A14, st14⟩ := newP X13 hx hZ (hw _ (List.mem_of_getElem? (i := 0) rfl)) e13 (g := (mkF m 35 #[.val (.ref ob)] [(.int (1024 : Int32)), (.ref ob)])) rfl (hb hby d1_35) rfl (by decide) (cap := 1024) (by decide) (by decide) (by decide) (by decide)
  obtain ⟨b14, g14⟩ : ∃ z, z = h13.size := ⟨_, rfl⟩
  rw [← g14] at A14 st14
  refine go st14 ?_
  have V14 : Arv Z h14 b14 k14 .int (1024 : Int32) [] (.int (0 : Int32)) := Arv.new A14 (by decide)
  have ge_b14 : n0 ≤ b14 := Nat.le_trans Z13 (Nat.le_of_eq g14.symm)
  have sz_b14 : h0.size ≤ b14 := Nat.le_trans K13.1 (Nat.le_of_eq g14.symm)
  have K14 : Keep h0 h14 [ob] := K13.ext E14
  have Z14 := Nat.le_trans Z13 E14.1
  show G (T14.setTop (mkF m 37 #[.val (.ref ob)] [(.ref b14), (.ref ob)]))
  have Fa15 := ((Fa11.wr W13).ext E14)
  have Fa16 := (((((((F_ends.ext E2).other W5 (Or.inr (slot_ne (Or.inl (hw _ (List.mem_of_getElem? (i := 18) rfl))) (Or.inl (hw _ (List.mem_of_getElem? (i := 12) rfl))) (by decide) (t := (.array .int)) (t' := (.array .int)) (by decide) (by decide)))).ext E6).other W9 (Or.inr (slot_ne (Or.inl (hw _ (List.mem_of_getElem? (i := 18) rfl))) (Or.inl (hw _ (List.mem_of_getElem? (i := 14) rfl))) (by decide) (t := (.array .int)) (t' := (.array .int)) (by decide) (by decide)))).ext E10).other W13 (Or.inr (slot_ne (Or.inl (hw _ (List.mem_of_getElem? (i := 18) rfl))) (Or.inl (hw _ (List.mem_of_getElem? (i := 16) rfl))) (by decide) (t := (.array .int)) (t' := (.array .int)) (by decide) (by decide)))).ext E14)
  obtain ⟨T17, h17, X17, e17, W17, st17⟩ := putF X14 hx hZ hown (host := "") (Or.inl (hw _ (List.mem_of_getElem? (i := 17) rfl))) Via.refl e14 Fa16 Fa15 (Or.inl (hw _ (List.mem_of_getElem? (i := 18) rfl))) (hw _ (List.mem_of_getElem? (i := 3) rfl)) (ty := (.array .int)) (by decide) rfl rfl (g := (mkF m 37 #[.val (.ref ob)] [(.ref b14), (.ref ob)])) rfl rfl (hb hby d1_37)
  refine go st17 ?_
  have Fw17 : Fld Z h17 ob "com/example/housemartin/housemartin/record/SpellColumns" "ends" "[I" (.ref b14) := Fa16.same W17
  have N17 := Fr.snoc X17 N13 g0
  have K17 : Keep h0 h17 [ob] := K14.wr W17 (Or.inl (List.mem_of_getElem? (i := 0) rfl))
  have Z17 := Nat.le_trans Z14 (Keep.of_wr W17).1
  show G (T17.setTop (mkF m 40 #[.val (.ref ob)] []))
  refine go (fun tg kg => XS.aloadN X17.here hx rfl (hb hby d1_40) rfl rfl kg) ?_
  show G (T17.setTop (mkF m 41 #[.val (.ref ob)] [(.ref ob)]))
  refine go (fun tg kg => XS.sipush X17.here hx rfl (hb hby d1_41) kg) ?_
  show G (T17.setTop (mkF m 44 #[.val (.ref ob)] [(.int (1024 : Int32)), (.ref ob)]))
  obtain ⟨T18, h18, k18, X18, e18, E18, A18, st18⟩ := newP X17 hx hZ (hw _ (List.mem_of_getElem? (i := 19) rfl)) e17 (g := (mkF m 44 #[.val (.ref ob)] [(.int (1024 : Int32)), (.ref ob)])) rfl (hb hby d1_44) rfl (by decide) (cap := 1024) (by decide) (by decide) (by decide) (by decide)
  obtain ⟨b18, g18⟩ : ∃ z, z = h17.size := ⟨_, rfl⟩
  rw [← g18] at A18 st18
  refine go st18 ?_
  have V18 : Arv Z h18 b18 k18 .byte (1024 : Int32) [] (.int (0 : Int32)) := Arv.new A18 (by decide)
  have ge_b18 : n0 ≤ b18 := Nat.le_trans Z17 (Nat.le_of_eq g18.symm)
  have sz_b18 : h0.size ≤ b18 := Nat.le_trans K17.1 (Nat.le_of_eq g18.symm)
  have K18 : Keep h0 h18 [ob] := K17.ext E18
  have Z18 := Nat.le_trans Z17 E18.1
  show G (T18.setTop (mkF m 46 #[.val (.ref ob)] [(.ref b18), (.ref ob)]))
  have Fa19 := ((Fa15.wr W17).ext E18)
  have Fa20 := (((((((((F_reasons.ext E2).other W5 (Or.inr (slot_ne (Or.inl (hw _ (List.mem_of_getElem? (i := 21) rfl))) (Or.inl (hw _ (List.mem_of_getElem? (i := 12) rfl))) (by decide) (t := (.array .byte)) (t' := (.array .int)) (by decide) (by decide)))).ext E6).other W9 (Or.inr (slot_ne (Or.inl (hw _ (List.mem_of_getElem? (i := 21) rfl))) (Or.inl (hw _ (List.mem_of_getElem? (i := 14) rfl))) (by decide) (t := (.array .byte)) (t' := (.array .int)) (by decide) (by decide)))).ext E10).other W13 (Or.inr (slot_ne (Or.inl (hw _ (List.mem_of_getElem? (i := 21) rfl))) (Or.inl (hw _ (List.mem_of_getElem? (i := 16) rfl))) (by decide) (t := (.array .byte)) (t' := (.array .int)) (by decide) (by decide)))).ext E14).other W17 (Or.inr (slot_ne (Or.inl (hw _ (List.mem_of_getElem? (i := 21) rfl))) (Or.inl (hw _ (List.mem_of_getElem? (i := 18) rfl))) (by decide) (t := (.array .byte)) (t' := (.array .int)) (by decide) (by decide)))).ext E18)
  obtain ⟨T21, h21, X21, e21, W21, st21⟩ := putF X18 hx hZ hown (host := "") (Or.inl (hw _ (List.mem_of_getElem? (i := 20) rfl))) Via.refl e18 Fa20 Fa19 (Or.inl (hw _ (List.mem_of_getElem? (i := 21) rfl))) (hw _ (List.mem_of_getElem? (i := 3) rfl)) (ty := (.array .byte)) (by decide) rfl rfl (g := (mkF m 46 #[.val (.ref ob)] [(.ref b18), (.ref ob)])) rfl rfl (hb hby d1_46)
  refine go st21 ?_
  have Fw21 : Fld Z h21 ob "com/example/housemartin/housemartin/record/SpellColumns" "reasons" "[B" (.ref b18) := Fa20.same W21
  have N21 := Fr.snoc X21 N17 g0
  have K21 : Keep h0 h21 [ob] := K18.wr W21 (Or.inl (List.mem_of_getElem? (i := 0) rfl))
  have Z21 := Nat.le_trans Z18 (Keep.of_wr W21).1
  show G (T21.setTop (mkF m 49 #[.val (.ref ob)] []))
  refine go (fun tg kg => XS.aloadN X21.here hx rfl (hb hby d1_49) rfl rfl kg) ?_
  show G (T21.setTop (mkF m 50 #[.val (.ref ob)] [(.ref ob)]))
  refine go (fun tg kg => XS.sipush X21.here hx rfl (hb hby d1_50) kg) ?_
  show G (T21.setTop (mkF m 53 #[.val (.ref ob)] [(.int (1024 : Int32)), (.ref ob)]))
  obtain ⟨T22, h22, k22, X22, e22, E22, A22, st22⟩ := newP X21 hx hZ (hw _ (List.mem_of_getElem? (i := 22) rfl)) e21 (g := (mkF m 53 #[.val (.ref ob)] [(.int (1024 : Int32)), (.ref ob)])) rfl (hb hby d1_53) rfl (by decide) (cap := 1024) (by decide) (by decide) (by decide) (by decide)
  obtain ⟨b22, g22⟩ : ∃ z, z = h21.size := ⟨_, rfl⟩
  rw [← g22] at A22 st22
  refine go st22 ?_
  have V22 : Arv Z h22 b22 k22 .long (1024 : Int32) [] (.long (0 : Int64)) := Arv.new A22 (by decide)
  have ge_b22 : n0 ≤ b22 := Nat.le_trans Z21 (Nat.le_of_eq g22.symm)
  have sz_b22 : h0.size ≤ b22 := Nat.le_trans K21.1 (Nat.le_of_eq g22.symm)
  have K22 : Keep h0 h22 [ob] := K21.ext E22
  have Z22 := Nat.le_trans Z21 E22.1
  show G (T22.setTop (mkF m 55 #[.val (.ref ob)] [(.ref b22), (.ref ob)]))
  have Fa23 := ((Fa19.wr W21).ext E22)
  have Fa24 := (((((((((((F_lines.ext E2).other W5 (Or.inr (slot_ne (Or.inl (hw _ (List.mem_of_getElem? (i := 24) rfl))) (Or.inl (hw _ (List.mem_of_getElem? (i := 12) rfl))) (by decide) (t := (.array .long)) (t' := (.array .int)) (by decide) (by decide)))).ext E6).other W9 (Or.inr (slot_ne (Or.inl (hw _ (List.mem_of_getElem? (i := 24) rfl))) (Or.inl (hw _ (List.mem_of_getElem? (i := 14) rfl))) (by decide) (t := (.array .long)) (t' := (.array .int)) (by decide) (by decide)))).ext E10).other W13 (Or.inr (slot_ne (Or.inl (hw _ (List.mem_of_getElem? (i := 24) rfl))) (Or.inl (hw _ (List.mem_of_getElem? (i := 16) rfl))) (by decide) (t := (.array .long)) (t' := (.array .int)) (by decide) (by decide)))).ext E14).other W17 (Or.inr (slot_ne (Or.inl (hw _ (List.mem_of_getElem? (i := 24) rfl))) (Or.inl (hw _ (List.mem_of_getElem? (i := 18) rfl))) (by decide) (t := (.array .long)) (t' := (.array .int)) (by decide) (by decide)))).ext E18).other W21 (Or.inr (slot_ne (Or.inl (hw _ (List.mem_of_getElem? (i := 24) rfl))) (Or.inl (hw _ (List.mem_of_getElem? (i := 21) rfl))) (by decide) (t := (.array .long)) (t' := (.array .byte)) (by decide) (by decide)))).ext E22)
  obtain ⟨T25, h25, X25, e25, W25, st25⟩ := putF X22 hx hZ hown (host := "") (Or.inl (hw _ (List.mem_of_getElem? (i := 23) rfl))) Via.refl e22 Fa24 Fa23 (Or.inl (hw _ (List.mem_of_getElem? (i := 24) rfl))) (hw _ (List.mem_of_getElem? (i := 3) rfl)) (ty := (.array .long)) (by decide) rfl rfl (g := (mkF m 55 #[.val (.ref ob)] [(.ref b22), (.ref ob)])) rfl rfl (hb hby d1_55)
  refine go st25 ?_
  have Fw25 : Fld Z h25 ob "com/example/housemartin/housemartin/record/SpellColumns" "lines" "[J" (.ref b22) := Fa24.same W25
  have N25 := Fr.snoc X25 N21 g0
  have K25 : Keep h0 h25 [ob] := K22.wr W25 (Or.inl (List.mem_of_getElem? (i := 0) rfl))
  have Z25 := Nat.le_trans Z22 (Keep.of_wr W25).1
  show G (T25.setTop (mkF m 58 #[.val (.ref ob)] []))
  refine fin (none) X25 (fun h => rfl) (fun fs hr => X25.returnOut hx hret (hb hby d1_58) hr) (by decide) (by decide) ?_
  rw [e25]
  have Fa26 := (Fa23.wr W25)
  have Fa27 := ((((((((((Fw5.ext E6).other W9 (Or.inr (slot_ne (Or.inl (hw _ (List.mem_of_getElem? (i := 12) rfl))) (Or.inl (hw _ (List.mem_of_getElem? (i := 14) rfl))) (by decide) (t := (.array .int)) (t' := (.array .int)) (by decide) (by decide)))).ext E10).other W13 (Or.inr (slot_ne (Or.inl (hw _ (List.mem_of_getElem? (i := 12) rfl))) (Or.inl (hw _ (List.mem_of_getElem? (i := 16) rfl))) (by decide) (t := (.array .int)) (t' := (.array .int)) (by decide) (by decide)))).ext E14).other W17 (Or.inr (slot_ne (Or.inl (hw _ (List.mem_of_getElem? (i := 12) rfl))) (Or.inl (hw _ (List.mem_of_getElem? (i := 18) rfl))) (by decide) (t := (.array .int)) (t' := (.array .int)) (by decide) (by decide)))).ext E18).other W21 (Or.inr (slot_ne (Or.inl (hw _ (List.mem_of_getElem? (i := 12) rfl))) (Or.inl (hw _ (List.mem_of_getElem? (i := 21) rfl))) (by decide) (t := (.array .int)) (t' := (.array .byte)) (by decide) (by decide)))).ext E22).other W25 (Or.inr (slot_ne (Or.inl (hw _ (List.mem_of_getElem? (i := 12) rfl))) (Or.inl (hw _ (List.mem_of_getElem? (i := 24) rfl))) (by decide) (t := (.array .int)) (t' := (.array .long)) (by decide) (by decide))))
  have Fa28 := ((((((((Fw9.ext E10).other W13 (Or.inr (slot_ne (Or.inl (hw _ (List.mem_of_getElem? (i := 14) rfl))) (Or.inl (hw _ (List.mem_of_getElem? (i := 16) rfl))) (by decide) (t := (.array .int)) (t' := (.array .int)) (by decide) (by decide)))).ext E14).other W17 (Or.inr (slot_ne (Or.inl (hw _ (List.mem_of_getElem? (i := 14) rfl))) (Or.inl (hw _ (List.mem_of_getElem? (i := 18) rfl))) (by decide) (t := (.array .int)) (t' := (.array .int)) (by decide) (by decide)))).ext E18).other W21 (Or.inr (slot_ne (Or.inl (hw _ (List.mem_of_getElem? (i := 14) rfl))) (Or.inl (hw _ (List.mem_of_getElem? (i := 21) rfl))) (by decide) (t := (.array .int)) (t' := (.array .byte)) (by decide) (by decide)))).ext E22).other W25 (Or.inr (slot_ne (Or.inl (hw _ (List.mem_of_getElem? (i := 14) rfl))) (Or.inl (hw _ (List.mem_of_getElem? (i := 24) rfl))) (by decide) (t := (.array .int)) (t' := (.array .long)) (by decide) (by decide))))
  have Fa29 := ((((((Fw13.ext E14).other W17 (Or.inr (slot_ne (Or.inl (hw _ (List.mem_of_getElem? (i := 16) rfl))) (Or.inl (hw _ (List.mem_of_getElem? (i := 18) rfl))) (by decide) (t := (.array .int)) (t' := (.array .int)) (by decide) (by decide)))).ext E18).other W21 (Or.inr (slot_ne (Or.inl (hw _ (List.mem_of_getElem? (i := 16) rfl))) (Or.inl (hw _ (List.mem_of_getElem? (i := 21) rfl))) (by decide) (t := (.array .int)) (t' := (.array .byte)) (by decide) (by decide)))).ext E22).other W25 (Or.inr (slot_ne (Or.inl (hw _ (List.mem_of_getElem? (i := 16) rfl))) (Or.inl (hw _ (List.mem_of_getElem? (i := 24) rfl))) (by decide) (t := (.array .int)) (t' := (.array .long)) (by decide) (by decide))))
  have Fa30 := ((((Fw17.ext E18).other W21 (Or.inr (slot_ne (Or.inl (hw _ (List.mem_of_getElem? (i := 18) rfl))) (Or.inl (hw _ (List.mem_of_getElem? (i := 21) rfl))) (by decide) (t := (.array .int)) (t' := (.array .byte)) (by decide) (by decide)))).ext E22).other W25 (Or.inr (slot_ne (Or.inl (hw _ (List.mem_of_getElem? (i := 18) rfl))) (Or.inl (hw _ (List.mem_of_getElem? (i := 24) rfl))) (by decide) (t := (.array .int)) (t' := (.array .long)) (by decide) (by decide))))
  have Fa31 := ((Fw21.ext E22).other W25 (Or.inr (slot_ne (Or.inl (hw _ (List.mem_of_getElem? (i := 21) rfl))) (Or.inl (hw _ (List.mem_of_getElem? (i := 24) rfl))) (by decide) (t := (.array .byte)) (t' := (.array .long)) (by decide) (by decide))))
  have Fa32 := ((((((((((((F_size.ext E2).other W5 (Or.inr (slot_ne (Or.inl (hw _ (List.mem_of_getElem? (i := 31) rfl))) (Or.inl (hw _ (List.mem_of_getElem? (i := 12) rfl))) (by decide) (t := .int) (t' := (.array .int)) (by decide) (by decide)))).ext E6).other W9 (Or.inr (slot_ne (Or.inl (hw _ (List.mem_of_getElem? (i := 31) rfl))) (Or.inl (hw _ (List.mem_of_getElem? (i := 14) rfl))) (by decide) (t := .int) (t' := (.array .int)) (by decide) (by decide)))).ext E10).other W13 (Or.inr (slot_ne (Or.inl (hw _ (List.mem_of_getElem? (i := 31) rfl))) (Or.inl (hw _ (List.mem_of_getElem? (i := 16) rfl))) (by decide) (t := .int) (t' := (.array .int)) (by decide) (by decide)))).ext E14).other W17 (Or.inr (slot_ne (Or.inl (hw _ (List.mem_of_getElem? (i := 31) rfl))) (Or.inl (hw _ (List.mem_of_getElem? (i := 18) rfl))) (by decide) (t := .int) (t' := (.array .int)) (by decide) (by decide)))).ext E18).other W21 (Or.inr (slot_ne (Or.inl (hw _ (List.mem_of_getElem? (i := 31) rfl))) (Or.inl (hw _ (List.mem_of_getElem? (i := 21) rfl))) (by decide) (t := .int) (t' := (.array .byte)) (by decide) (by decide)))).ext E22).other W25 (Or.inr (slot_ne (Or.inl (hw _ (List.mem_of_getElem? (i := 31) rfl))) (Or.inl (hw _ (List.mem_of_getElem? (i := 24) rfl))) (by decide) (t := .int) (t' := (.array .long)) (by decide) (by decide))))
  have Fa33 := (((((((((((V2.other W5 (Ne.symm (Nat.ne_of_lt (Nat.lt_of_lt_of_le F_size.lt (Nat.le_of_eq g2.symm))))).ext E6).other W9 (Ne.symm (Nat.ne_of_lt (Nat.lt_of_lt_of_le F_size.lt (Nat.le_of_eq g2.symm))))).ext E10).other W13 (Ne.symm (Nat.ne_of_lt (Nat.lt_of_lt_of_le F_size.lt (Nat.le_of_eq g2.symm))))).ext E14).other W17 (Ne.symm (Nat.ne_of_lt (Nat.lt_of_lt_of_le F_size.lt (Nat.le_of_eq g2.symm))))).ext E18).other W21 (Ne.symm (Nat.ne_of_lt (Nat.lt_of_lt_of_le F_size.lt (Nat.le_of_eq g2.symm))))).ext E22).other W25 (Ne.symm (Nat.ne_of_lt (Nat.lt_of_lt_of_le F_size.lt (Nat.le_of_eq g2.symm)))))
  have Fa34 := (((((((((V6.other W9 (Ne.symm (Nat.ne_of_lt (Nat.lt_of_lt_of_le ((F_size.ext E2).other W5 (Or.inr (slot_ne (Or.inl (hw _ (List.mem_of_getElem? (i := 31) rfl))) (Or.inl (hw _ (List.mem_of_getElem? (i := 12) rfl))) (by decide) (t := .int) (t' := (.array .int)) (by decide) (by decide)))).lt (Nat.le_of_eq g6.symm))))).ext E10).other W13 (Ne.symm (Nat.ne_of_lt (Nat.lt_of_lt_of_le ((F_size.ext E2).other W5 (Or.inr (slot_ne (Or.inl (hw _ (List.mem_of_getElem? (i := 31) rfl))) (Or.inl (hw _ (List.mem_of_getElem? (i := 12) rfl))) (by decide) (t := .int) (t' := (.array .int)) (by decide) (by decide)))).lt (Nat.le_of_eq g6.symm))))).ext E14).other W17 (Ne.symm (Nat.ne_of_lt (Nat.lt_of_lt_of_le ((F_size.ext E2).other W5 (Or.inr (slot_ne (Or.inl (hw _ (List.mem_of_getElem? (i := 31) rfl))) (Or.inl (hw _ (List.mem_of_getElem? (i := 12) rfl))) (by decide) (t := .int) (t' := (.array .int)) (by decide) (by decide)))).lt (Nat.le_of_eq g6.symm))))).ext E18).other W21 (Ne.symm (Nat.ne_of_lt (Nat.lt_of_lt_of_le ((F_size.ext E2).other W5 (Or.inr (slot_ne (Or.inl (hw _ (List.mem_of_getElem? (i := 31) rfl))) (Or.inl (hw _ (List.mem_of_getElem? (i := 12) rfl))) (by decide) (t := .int) (t' := (.array .int)) (by decide) (by decide)))).lt (Nat.le_of_eq g6.symm))))).ext E22).other W25 (Ne.symm (Nat.ne_of_lt (Nat.lt_of_lt_of_le ((F_size.ext E2).other W5 (Or.inr (slot_ne (Or.inl (hw _ (List.mem_of_getElem? (i := 31) rfl))) (Or.inl (hw _ (List.mem_of_getElem? (i := 12) rfl))) (by decide) (t := .int) (t' := (.array .int)) (by decide) (by decide)))).lt (Nat.le_of_eq g6.symm)))))
  have Fa35 := (((((((V10.other W13 (Ne.symm (Nat.ne_of_lt (Nat.lt_of_lt_of_le ((((F_size.ext E2).other W5 (Or.inr (slot_ne (Or.inl (hw _ (List.mem_of_getElem? (i := 31) rfl))) (Or.inl (hw _ (List.mem_of_getElem? (i := 12) rfl))) (by decide) (t := .int) (t' := (.array .int)) (by decide) (by decide)))).ext E6).other W9 (Or.inr (slot_ne (Or.inl (hw _ (List.mem_of_getElem? (i := 31) rfl))) (Or.inl (hw _ (List.mem_of_getElem? (i := 14) rfl))) (by decide) (t := .int) (t' := (.array .int)) (by decide) (by decide)))).lt (Nat.le_of_eq g10.symm))))).ext E14).other W17 (Ne.symm (Nat.ne_of_lt (Nat.lt_of_lt_of_le ((((F_size.ext E2).other W5 (Or.inr (slot_ne (Or.inl (hw _ (List.mem_of_getElem? (i := 31) rfl))) (Or.inl (hw _ (List.mem_of_getElem? (i := 12) rfl))) (by decide) (t := .int) (t' := (.array .int)) (by decide) (by decide)))).ext E6).other W9 (Or.inr (slot_ne (Or.inl (hw _ (List.mem_of_getElem? (i := 31) rfl))) (Or.inl (hw _ (List.mem_of_getElem? (i := 14) rfl))) (by decide) (t := .int) (t' := (.array .int)) (by decide) (by decide)))).lt (Nat.le_of_eq g10.symm))))).ext E18).other W21 (Ne.symm (Nat.ne_of_lt (Nat.lt_of_lt_of_le ((((F_size.ext E2).other W5 (Or.inr (slot_ne (Or.inl (hw _ (List.mem_of_getElem? (i := 31) rfl))) (Or.inl (hw _ (List.mem_of_getElem? (i := 12) rfl))) (by decide) (t := .int) (t' := (.array .int)) (by decide) (by decide)))).ext E6).other W9 (Or.inr (slot_ne (Or.inl (hw _ (List.mem_of_getElem? (i := 31) rfl))) (Or.inl (hw _ (List.mem_of_getElem? (i := 14) rfl))) (by decide) (t := .int) (t' := (.array .int)) (by decide) (by decide)))).lt (Nat.le_of_eq g10.symm))))).ext E22).other W25 (Ne.symm (Nat.ne_of_lt (Nat.lt_of_lt_of_le ((((F_size.ext E2).other W5 (Or.inr (slot_ne (Or.inl (hw _ (List.mem_of_getElem? (i := 31) rfl))) (Or.inl (hw _ (List.mem_of_getElem? (i := 12) rfl))) (by decide) (t := .int) (t' := (.array .int)) (by decide) (by decide)))).ext E6).other W9 (Or.inr (slot_ne (Or.inl (hw _ (List.mem_of_getElem? (i := 31) rfl))) (Or.inl (hw _ (List.mem_of_getElem? (i := 14) rfl))) (by decide) (t := .int) (t' := (.array .int)) (by decide) (by decide)))).lt (Nat.le_of_eq g10.symm)))))
  have Fa36 := (((((V14.other W17 (Ne.symm (Nat.ne_of_lt (Nat.lt_of_lt_of_le ((((((F_size.ext E2).other W5 (Or.inr (slot_ne (Or.inl (hw _ (List.mem_of_getElem? (i := 31) rfl))) (Or.inl (hw _ (List.mem_of_getElem? (i := 12) rfl))) (by decide) (t := .int) (t' := (.array .int)) (by decide) (by decide)))).ext E6).other W9 (Or.inr (slot_ne (Or.inl (hw _ (List.mem_of_getElem? (i := 31) rfl))) (Or.inl (hw _ (List.mem_of_getElem? (i := 14) rfl))) (by decide) (t := .int) (t' := (.array .int)) (by decide) (by decide)))).ext E10).other W13 (Or.inr (slot_ne (Or.inl (hw _ (List.mem_of_getElem? (i := 31) rfl))) (Or.inl (hw _ (List.mem_of_getElem? (i := 16) rfl))) (by decide) (t := .int) (t' := (.array .int)) (by decide) (by decide)))).lt (Nat.le_of_eq g14.symm))))).ext E18).other W21 (Ne.symm (Nat.ne_of_lt (Nat.lt_of_lt_of_le ((((((F_size.ext E2).other W5 (Or.inr (slot_ne (Or.inl (hw _ (List.mem_of_getElem? (i := 31) rfl))) (Or.inl (hw _ (List.mem_of_getElem? (i := 12) rfl))) (by decide) (t := .int) (t' := (.array .int)) (by decide) (by decide)))).ext E6).other W9 (Or.inr (slot_ne (Or.inl (hw _ (List.mem_of_getElem? (i := 31) rfl))) (Or.inl (hw _ (List.mem_of_getElem? (i := 14) rfl))) (by decide) (t := .int) (t' := (.array .int)) (by decide) (by decide)))).ext E10).other W13 (Or.inr (slot_ne (Or.inl (hw _ (List.mem_of_getElem? (i := 31) rfl))) (Or.inl (hw _ (List.mem_of_getElem? (i := 16) rfl))) (by decide) (t := .int) (t' := (.array .int)) (by decide) (by decide)))).lt (Nat.le_of_eq g14.symm))))).ext E22).other W25 (Ne.symm (Nat.ne_of_lt (Nat.lt_of_lt_of_le ((((((F_size.ext E2).other W5 (Or.inr (slot_ne (Or.inl (hw _ (List.mem_of_getElem? (i := 31) rfl))) (Or.inl (hw _ (List.mem_of_getElem? (i := 12) rfl))) (by decide) (t := .int) (t' := (.array .int)) (by decide) (by decide)))).ext E6).other W9 (Or.inr (slot_ne (Or.inl (hw _ (List.mem_of_getElem? (i := 31) rfl))) (Or.inl (hw _ (List.mem_of_getElem? (i := 14) rfl))) (by decide) (t := .int) (t' := (.array .int)) (by decide) (by decide)))).ext E10).other W13 (Or.inr (slot_ne (Or.inl (hw _ (List.mem_of_getElem? (i := 31) rfl))) (Or.inl (hw _ (List.mem_of_getElem? (i := 16) rfl))) (by decide) (t := .int) (t' := (.array .int)) (by decide) (by decide)))).lt (Nat.le_of_eq g14.symm)))))
  have Fa37 := (((V18.other W21 (Ne.symm (Nat.ne_of_lt (Nat.lt_of_lt_of_le ((((((((F_size.ext E2).other W5 (Or.inr (slot_ne (Or.inl (hw _ (List.mem_of_getElem? (i := 31) rfl))) (Or.inl (hw _ (List.mem_of_getElem? (i := 12) rfl))) (by decide) (t := .int) (t' := (.array .int)) (by decide) (by decide)))).ext E6).other W9 (Or.inr (slot_ne (Or.inl (hw _ (List.mem_of_getElem? (i := 31) rfl))) (Or.inl (hw _ (List.mem_of_getElem? (i := 14) rfl))) (by decide) (t := .int) (t' := (.array .int)) (by decide) (by decide)))).ext E10).other W13 (Or.inr (slot_ne (Or.inl (hw _ (List.mem_of_getElem? (i := 31) rfl))) (Or.inl (hw _ (List.mem_of_getElem? (i := 16) rfl))) (by decide) (t := .int) (t' := (.array .int)) (by decide) (by decide)))).ext E14).other W17 (Or.inr (slot_ne (Or.inl (hw _ (List.mem_of_getElem? (i := 31) rfl))) (Or.inl (hw _ (List.mem_of_getElem? (i := 18) rfl))) (by decide) (t := .int) (t' := (.array .int)) (by decide) (by decide)))).lt (Nat.le_of_eq g18.symm))))).ext E22).other W25 (Ne.symm (Nat.ne_of_lt (Nat.lt_of_lt_of_le ((((((((F_size.ext E2).other W5 (Or.inr (slot_ne (Or.inl (hw _ (List.mem_of_getElem? (i := 31) rfl))) (Or.inl (hw _ (List.mem_of_getElem? (i := 12) rfl))) (by decide) (t := .int) (t' := (.array .int)) (by decide) (by decide)))).ext E6).other W9 (Or.inr (slot_ne (Or.inl (hw _ (List.mem_of_getElem? (i := 31) rfl))) (Or.inl (hw _ (List.mem_of_getElem? (i := 14) rfl))) (by decide) (t := .int) (t' := (.array .int)) (by decide) (by decide)))).ext E10).other W13 (Or.inr (slot_ne (Or.inl (hw _ (List.mem_of_getElem? (i := 31) rfl))) (Or.inl (hw _ (List.mem_of_getElem? (i := 16) rfl))) (by decide) (t := .int) (t' := (.array .int)) (by decide) (by decide)))).ext E14).other W17 (Or.inr (slot_ne (Or.inl (hw _ (List.mem_of_getElem? (i := 31) rfl))) (Or.inl (hw _ (List.mem_of_getElem? (i := 18) rfl))) (by decide) (t := .int) (t' := (.array .int)) (by decide) (by decide)))).lt (Nat.le_of_eq g18.symm)))))
  have Fa38 := (V22.other W25 (Ne.symm (Nat.ne_of_lt (Nat.lt_of_lt_of_le ((((((((((F_size.ext E2).other W5 (Or.inr (slot_ne (Or.inl (hw _ (List.mem_of_getElem? (i := 31) rfl))) (Or.inl (hw _ (List.mem_of_getElem? (i := 12) rfl))) (by decide) (t := .int) (t' := (.array .int)) (by decide) (by decide)))).ext E6).other W9 (Or.inr (slot_ne (Or.inl (hw _ (List.mem_of_getElem? (i := 31) rfl))) (Or.inl (hw _ (List.mem_of_getElem? (i := 14) rfl))) (by decide) (t := .int) (t' := (.array .int)) (by decide) (by decide)))).ext E10).other W13 (Or.inr (slot_ne (Or.inl (hw _ (List.mem_of_getElem? (i := 31) rfl))) (Or.inl (hw _ (List.mem_of_getElem? (i := 16) rfl))) (by decide) (t := .int) (t' := (.array .int)) (by decide) (by decide)))).ext E14).other W17 (Or.inr (slot_ne (Or.inl (hw _ (List.mem_of_getElem? (i := 31) rfl))) (Or.inl (hw _ (List.mem_of_getElem? (i := 18) rfl))) (by decide) (t := .int) (t' := (.array .int)) (by decide) (by decide)))).ext E18).other W21 (Or.inr (slot_ne (Or.inl (hw _ (List.mem_of_getElem? (i := 31) rfl))) (Or.inl (hw _ (List.mem_of_getElem? (i := 21) rfl))) (by decide) (t := .int) (t' := (.array .byte)) (by decide) (by decide)))).lt (Nat.le_of_eq g22.symm)))))
  exact ⟨rfl, b2, b6, b10, b14, b18, b22, N25, K25, sz_b2, ge_b2, ⟨(Nat.lt_of_lt_of_le (V2.other W5 (Ne.symm (Nat.ne_of_lt (Nat.lt_of_lt_of_le F_size.lt (Nat.le_of_eq g2.symm))))).lt (Nat.le_of_eq g6.symm)), (Nat.lt_of_lt_of_le (V6.other W9 (Ne.symm (Nat.ne_of_lt (Nat.lt_of_lt_of_le Fw5.lt (Nat.le_of_eq g6.symm))))).lt (Nat.le_of_eq g10.symm)), (Nat.lt_of_lt_of_le (V10.other W13 (Ne.symm (Nat.ne_of_lt (Nat.lt_of_lt_of_le ((Fw5.ext E6).other W9 (Or.inr (slot_ne (Or.inl (hw _ (List.mem_of_getElem? (i := 12) rfl))) (Or.inl (hw _ (List.mem_of_getElem? (i := 14) rfl))) (by decide) (t := (.array .int)) (t' := (.array .int)) (by decide) (by decide)))).lt (Nat.le_of_eq g10.symm))))).lt (Nat.le_of_eq g14.symm)), (Nat.lt_of_lt_of_le (V14.other W17 (Ne.symm (Nat.ne_of_lt (Nat.lt_of_lt_of_le ((((Fw5.ext E6).other W9 (Or.inr (slot_ne (Or.inl (hw _ (List.mem_of_getElem? (i := 12) rfl))) (Or.inl (hw _ (List.mem_of_getElem? (i := 14) rfl))) (by decide) (t := (.array .int)) (t' := (.array .int)) (by decide) (by decide)))).ext E10).other W13 (Or.inr (slot_ne (Or.inl (hw _ (List.mem_of_getElem? (i := 12) rfl))) (Or.inl (hw _ (List.mem_of_getElem? (i := 16) rfl))) (by decide) (t := (.array .int)) (t' := (.array .int)) (by decide) (by decide)))).lt (Nat.le_of_eq g14.symm))))).lt (Nat.le_of_eq g18.symm)), (Nat.lt_of_lt_of_le (V18.other W21 (Ne.symm (Nat.ne_of_lt (Nat.lt_of_lt_of_le ((((((Fw5.ext E6).other W9 (Or.inr (slot_ne (Or.inl (hw _ (List.mem_of_getElem? (i := 12) rfl))) (Or.inl (hw _ (List.mem_of_getElem? (i := 14) rfl))) (by decide) (t := (.array .int)) (t' := (.array .int)) (by decide) (by decide)))).ext E10).other W13 (Or.inr (slot_ne (Or.inl (hw _ (List.mem_of_getElem? (i := 12) rfl))) (Or.inl (hw _ (List.mem_of_getElem? (i := 16) rfl))) (by decide) (t := (.array .int)) (t' := (.array .int)) (by decide) (by decide)))).ext E14).other W17 (Or.inr (slot_ne (Or.inl (hw _ (List.mem_of_getElem? (i := 12) rfl))) (Or.inl (hw _ (List.mem_of_getElem? (i := 18) rfl))) (by decide) (t := (.array .int)) (t' := (.array .int)) (by decide) (by decide)))).lt (Nat.le_of_eq g18.symm))))).lt (Nat.le_of_eq g22.symm))⟩, Fa26, Fa27, Fa28, Fa29, Fa30, Fa31, Fw25, Fa32, own_newI Fa33 (by decide), own_newW Fa34 (by decide), own_newW Fa35 (by decide), own_newW Fa36 (by decide), own_newW Fa37 (by decide), own_newW Fa38 (by decide)⟩
theorem ef_4n (m : MethodId) (x0 : Addr) (x1 : Int32) (x2 : Int32) (x3 : Int32) (x4 : Int32) (x6 : Int64) : entryFrame m #[(.ref x0), (.int x1), (.int x2), (.int x3), (.int x4), .null, (.long x6)] 9 = mkF m 0 #[.val (.ref x0), .val (.int x1), .val (.int x2), .val (.int x3), .val (.int x4), .val .null, .val (.long x6), .second, .unset] [] := by first | (simp [entryFrame, mkF, argsToLocals, Value.category]; done) | rfl
theorem d4_0 : decode prog_33_method_3_code 0 = .ok (.aload_n 0, 1) := by decide +kernel
theorem d4_1 : decode prog_33_method_3_code 1 = .ok (.getfield 32, 3) := by decide +kernel
theorem d4_4 : decode prog_33_method_3_code 4 = .ok (.ldc 36, 2) := by decide +kernel
theorem d4_6 : decode prog_33_method_3_code 6 = .ok (.if_icmp .ne 13, 3) := by decide +kernel
theorem d4_19 : decode prog_33_method_3_code 19 = .ok (.aload_n 0, 1) := by decide +kernel
theorem d4_20 : decode prog_33_method_3_code 20 = .ok (.getfield 32, 3) := by decide +kernel
theorem d4_23 : decode prog_33_method_3_code 23 = .ok (.aload_n 0, 1) := by decide +kernel
theorem d4_24 : decode prog_33_method_3_code 24 = .ok (.getfield 9, 3) := by decide +kernel
theorem d4_27 : decode prog_33_method_3_code 27 = .ok (.arraylength, 1) := by decide +kernel
theorem d4_28 : decode prog_33_method_3_code 28 = .ok (.if_icmp .ne 99, 3) := by decide +kernel
theorem d4_127 : decode prog_33_method_3_code 127 = .ok (.aload_n 0, 1) := by decide +kernel
theorem d4_128 : decode prog_33_method_3_code 128 = .ok (.getfield 9, 3) := by decide +kernel
theorem d4_131 : decode prog_33_method_3_code 131 = .ok (.aload_n 0, 1) := by decide +kernel
theorem d4_132 : decode prog_33_method_3_code 132 = .ok (.getfield 32, 3) := by decide +kernel
theorem d4_135 : decode prog_33_method_3_code 135 = .ok (.iload_n 1, 1) := by decide +kernel
theorem d4_136 : decode prog_33_method_3_code 136 = .ok (.iastore, 1) := by decide +kernel
theorem d4_137 : decode prog_33_method_3_code 137 = .ok (.aload_n 0, 1) := by decide +kernel
theorem d4_138 : decode prog_33_method_3_code 138 = .ok (.getfield 15, 3) := by decide +kernel
theorem d4_141 : decode prog_33_method_3_code 141 = .ok (.aload_n 0, 1) := by decide +kernel
theorem d4_142 : decode prog_33_method_3_code 142 = .ok (.getfield 32, 3) := by decide +kernel
theorem d4_145 : decode prog_33_method_3_code 145 = .ok (.iload_n 2, 1) := by decide +kernel
theorem d4_146 : decode prog_33_method_3_code 146 = .ok (.iastore, 1) := by decide +kernel
theorem d4_147 : decode prog_33_method_3_code 147 = .ok (.aload_n 0, 1) := by decide +kernel
theorem d4_148 : decode prog_33_method_3_code 148 = .ok (.getfield 18, 3) := by decide +kernel
theorem d4_151 : decode prog_33_method_3_code 151 = .ok (.aload_n 0, 1) := by decide +kernel
theorem d4_152 : decode prog_33_method_3_code 152 = .ok (.getfield 32, 3) := by decide +kernel
theorem d4_155 : decode prog_33_method_3_code 155 = .ok (.iload_n 3, 1) := by decide +kernel
theorem d4_156 : decode prog_33_method_3_code 156 = .ok (.iastore, 1) := by decide +kernel
theorem d4_157 : decode prog_33_method_3_code 157 = .ok (.aload_n 0, 1) := by decide +kernel
theorem d4_158 : decode prog_33_method_3_code 158 = .ok (.getfield 21, 3) := by decide +kernel
theorem d4_161 : decode prog_33_method_3_code 161 = .ok (.aload_n 0, 1) := by decide +kernel
theorem d4_162 : decode prog_33_method_3_code 162 = .ok (.getfield 32, 3) := by decide +kernel
theorem d4_165 : decode prog_33_method_3_code 165 = .ok (.iload 4, 2) := by decide +kernel
theorem d4_167 : decode prog_33_method_3_code 167 = .ok (.iastore, 1) := by decide +kernel
theorem d4_168 : decode prog_33_method_3_code 168 = .ok (.aload_n 0, 1) := by decide +kernel
theorem d4_169 : decode prog_33_method_3_code 169 = .ok (.getfield 24, 3) := by decide +kernel
theorem d4_172 : decode prog_33_method_3_code 172 = .ok (.aload_n 0, 1) := by decide +kernel
theorem d4_173 : decode prog_33_method_3_code 173 = .ok (.getfield 32, 3) := by decide +kernel
theorem d4_176 : decode prog_33_method_3_code 176 = .ok (.aload 5, 2) := by decide +kernel
theorem d4_178 : decode prog_33_method_3_code 178 = .ok (.ifnonnull 7, 3) := by decide +kernel
theorem d4_181 : decode prog_33_method_3_code 181 = .ok (.iconst (-1), 1) := by decide +kernel
theorem d4_182 : decode prog_33_method_3_code 182 = .ok (.goto 9, 3) := by decide +kernel
theorem d4_191 : decode prog_33_method_3_code 191 = .ok (.bastore, 1) := by decide +kernel
theorem d4_192 : decode prog_33_method_3_code 192 = .ok (.aload_n 0, 1) := by decide +kernel
theorem d4_193 : decode prog_33_method_3_code 193 = .ok (.getfield 28, 3) := by decide +kernel
theorem d4_196 : decode prog_33_method_3_code 196 = .ok (.aload_n 0, 1) := by decide +kernel
theorem d4_197 : decode prog_33_method_3_code 197 = .ok (.getfield 32, 3) := by decide +kernel
theorem d4_200 : decode prog_33_method_3_code 200 = .ok (.lload 6, 2) := by decide +kernel
theorem d4_202 : decode prog_33_method_3_code 202 = .ok (.lastore, 1) := by decide +kernel
theorem d4_203 : decode prog_33_method_3_code 203 = .ok (.aload_n 0, 1) := by decide +kernel
theorem d4_204 : decode prog_33_method_3_code 204 = .ok (.dup, 1) := by decide +kernel
theorem d4_205 : decode prog_33_method_3_code 205 = .ok (.getfield 32, 3) := by decide +kernel
theorem d4_208 : decode prog_33_method_3_code 208 = .ok (.iconst 1, 1) := by decide +kernel
theorem d4_209 : decode prog_33_method_3_code 209 = .ok (.iadd, 1) := by decide +kernel
theorem d4_210 : decode prog_33_method_3_code 210 = .ok (.putfield 32, 3) := by decide +kernel
theorem d4_213 : decode prog_33_method_3_code 213 = .ok (.return_, 1) := by decide +kernel
def Q_rm4 (Z : State) (ob : Addr) (xa : Int32) (xf : Int32) (xs : Int32) (xe : Int32) (xl : Int64) (ag : Addr) (fi : Addr) (sa : Addr) (en : Addr) (re : Addr) (li : Addr) (fA : Nat → Int32) (k : Nat) (h0 : Heap) (n0 : Nat) (v : Option Value) (h : Heap) (L : List Loc) : Prop := v = none ∧ Fr n0 L ∧ Keep h0 h [ob, ag, fi, sa, en, re, li] ∧ Exa Z h ob "com/example/housemartin/housemartin/record/SpellColumns" ∧ Fld Z h ob "com/example/housemartin/housemartin/record/SpellColumns" "agents" "[I" (.ref ag) ∧ Fld Z h ob "com/example/housemartin/housemartin/record/SpellColumns" "firms" "[I" (.ref fi) ∧ Fld Z h ob "com/example/housemartin/housemartin/record/SpellColumns" "starts" "[I" (.ref sa) ∧ Fld Z h ob "com/example/housemartin/housemartin/record/SpellColumns" "ends" "[I" (.ref en) ∧ Fld Z h ob "com/example/housemartin/housemartin/record/SpellColumns" "reasons" "[B" (.ref re) ∧ Fld Z h ob "com/example/housemartin/housemartin/record/SpellColumns" "lines" "[J" (.ref li) ∧ Fld Z h ob "com/example/housemartin/housemartin/record/SpellColumns" "size" "I" (.int (Int32.ofNat (k + 1))) ∧ own_I Z h ag 1024 (own_up fA k xa) ∧ own_W Z h fi .int 1024 ∧ own_W Z h sa .int 1024 ∧ own_W Z h en .int 1024 ∧ own_W Z h re .byte 1024 ∧ own_W Z h li .long 1024
set_option maxRecDepth 65536 in
set_option maxHeartbeats 40000000 in
theorem rm4 (l : Launch) (Z : State) (a0 : Array Value) (hw : ∀ d ∈ tables_1, d.before a0 Z = true) (ws : List Jvm.Cond) (ob : Addr) (xa : Int32) (xf : Int32) (xs : Int32) (xe : Int32) (xl : Int64) (ag : Addr) (fi : Addr) (sa : Addr) (en : Addr) (re : Addr) (li : Addr) (fA : Nat → Int32) (k : Nat) (h0 : Heap) (n0 : Nat) (Z0 : n0 ≤ h0.size) (Ex : Exa Z h0 ob "com/example/housemartin/housemartin/record/SpellColumns") (g0 : n0 ≤ ob) (hob : @LT.lt Nat instLTNat ob ag) (hch : @LT.lt Nat instLTNat ag fi ∧ @LT.lt Nat instLTNat fi sa ∧ @LT.lt Nat instLTNat sa en ∧ @LT.lt Nat instLTNat en re ∧ @LT.lt Nat instLTNat re li) (hk : k < 1024) (F_agents : Fld Z h0 ob "com/example/housemartin/housemartin/record/SpellColumns" "agents" "[I" (.ref ag)) (F_firms : Fld Z h0 ob "com/example/housemartin/housemartin/record/SpellColumns" "firms" "[I" (.ref fi)) (F_starts : Fld Z h0 ob "com/example/housemartin/housemartin/record/SpellColumns" "starts" "[I" (.ref sa)) (F_ends : Fld Z h0 ob "com/example/housemartin/housemartin/record/SpellColumns" "ends" "[I" (.ref en)) (F_reasons : Fld Z h0 ob "com/example/housemartin/housemartin/record/SpellColumns" "reasons" "[B" (.ref re)) (F_lines : Fld Z h0 ob "com/example/housemartin/housemartin/record/SpellColumns" "lines" "[J" (.ref li)) (F_size : Fld Z h0 ob "com/example/housemartin/housemartin/record/SpellColumns" "size" "I" (.int (Int32.ofNat k))) (V_agents : own_I Z h0 ag 1024 fA) (V_firms : own_W Z h0 fi .int 1024) (V_starts : own_W Z h0 sa .int 1024) (V_ends : own_W Z h0 en .int 1024) (V_reasons : own_W Z h0 re .byte 1024) (V_lines : own_W Z h0 li .long 1024) :
    MetFree l (⟨"com/example/housemartin/housemartin/record/SpellColumns", "add", "(IIIILcom/example/housemartin/housemartin/record/Spell$EndReason;J)V"⟩ : MethodName) (head1 (Jvm.Cond.code (⟨"com/example/housemartin/housemartin/record/SpellColumns", "add", "(IIIILcom/example/housemartin/housemartin/record/Spell$EndReason;J)V"⟩ : MethodName) prog_33_method_3_code 9 none :: ws) ({ frames := 0, cells := 0, slots := 0, locals := 0 } : Room)) (fun a U => a = #[(.ref ob), (.int xa), (.int xf), (.int xs), (.int xe), .null, (.long xl)] ∧ Z.Warmed39 U.vm ∧ U.heap = h0) (fun _ _ _ _ _ => True) (fun _ U o U' => ∃ v L, o = .returned v ∧ Q_rm4 Z ob xa xf xs xe xl ag fi sa en re li fA k h0 n0 v U'.heap L ∧ FrameEnd U o U' L ({ frames := 0, cells := 0, slots := 0, locals := 0 } : Room).cells ({ frames := 0, cells := 0, slots := 0, locals := 0 } : Room).slots) := by
  refine own_enter (Q := Q_rm4 Z ob xa xf xs xe xl ag fi sa en re li fA k h0 n0) (plainFor_of_name pn_com_example_housemartin_housemartin_record_SpellColumns) ?_
  intro p e s m below meth c s₁ G X0 hx hby hml hZ hown hnm hret e0 go fin
  replace hown : s.vm.findClass "com/example/housemartin/housemartin/record/SpellColumns" = some m.cls := hown
  replace hnm : meth.name = "add" := hnm
  replace hml : c.maxLocals = 9 := hml
  rw [ef_4n m ob xa xf xs xe xl]
  have N0 := Fr.nil n0
  have hk1 : ¬ (Int32.ofNat k) = (2147483639 : Int32) := fun q => by
    have q' : k = 2147483639 := (own_eq_nat (i := k) (j := 2147483639) (by omega) (by omega)).mp q
    omega
  have hk2 : ¬ (Int32.ofNat k) = (1024 : Int32) := fun q => by
    have q' : k = 1024 := (own_eq_nat (i := k) (j := 1024) (by omega) (by omega)).mp q
    omega
  show G (s₁.setTop (mkF m 0 #[.val (.ref ob), .val (.int xa), .val (.int xf), .val (.int xs), .val (.int xe), .val .null, .val (.long xl), .second, .unset] []))
  refine go (fun tg kg => XS.aloadN X0.here hx rfl (hb hby d4_0) rfl rfl kg) ?_
  show G (s₁.setTop (mkF m 1 #[.val (.ref ob), .val (.int xa), .val (.int xf), .val (.int xs), .val (.int xe), .val .null, .val (.long xl), .second, .unset] [(.ref ob)]))
  obtain ⟨T1, X1, e1, st1⟩ := getF X0 hx hZ hown (host := "") (Or.inl (hw _ (List.mem_of_getElem? (i := 30) rfl))) Via.refl e0 F_size (g := (mkF m 1 #[.val (.ref ob), .val (.int xa), .val (.int xf), .val (.int xs), .val (.int xe), .val .null, .val (.long xl), .second, .unset] [(.ref ob)])) rfl rfl (hb hby d4_1)
  refine go st1 ?_
  show G (T1.setTop (mkF m 4 #[.val (.ref ob), .val (.int xa), .val (.int xf), .val (.int xs), .val (.int xe), .val .null, .val (.long xl), .second, .unset] [(.int (Int32.ofNat k))]))
  refine go (fun tg kg => X1.ldcInt hx hown (mvT hZ (hw _ (List.mem_of_getElem? (i := 37) rfl))) (g := (mkF m 4 #[.val (.ref ob), .val (.int xa), .val (.int xf), .val (.int xs), .val (.int xe), .val .null, .val (.long xl), .second, .unset] [(.int (Int32.ofNat k))])) rfl (hb hby d4_4) _ kg) ?_
  show G (T1.setTop (mkF m 6 #[.val (.ref ob), .val (.int xa), .val (.int xf), .val (.int xs), .val (.int xe), .val .null, .val (.long xl), .second, .unset] [(.int (2147483639 : Int32)), (.int (Int32.ofNat k))]))
  refine go (fun tg kg => XS.icmpYes X1.here hx rfl (pc0 := 6) (pc' := 19) rfl (hb hby d4_6) rfl (feq hk1).2 (by decide) (by decide) kg) ?_
  show G (T1.setTop (mkF m 19 #[.val (.ref ob), .val (.int xa), .val (.int xf), .val (.int xs), .val (.int xe), .val .null, .val (.long xl), .second, .unset] []))
  refine go (fun tg kg => XS.aloadN X1.here hx rfl (hb hby d4_19) rfl rfl kg) ?_
  show G (T1.setTop (mkF m 20 #[.val (.ref ob), .val (.int xa), .val (.int xf), .val (.int xs), .val (.int xe), .val .null, .val (.long xl), .second, .unset] [(.ref ob)]))
  obtain ⟨T2, X2, e2, st2⟩ := getF X1 hx hZ hown (host := "") (Or.inl (hw _ (List.mem_of_getElem? (i := 30) rfl))) Via.refl e1 F_size (g := (mkF m 20 #[.val (.ref ob), .val (.int xa), .val (.int xf), .val (.int xs), .val (.int xe), .val .null, .val (.long xl), .second, .unset] [(.ref ob)])) rfl rfl (hb hby d4_20)
  refine go st2 ?_
  show G (T2.setTop (mkF m 23 #[.val (.ref ob), .val (.int xa), .val (.int xf), .val (.int xs), .val (.int xe), .val .null, .val (.long xl), .second, .unset] [(.int (Int32.ofNat k))]))
  refine go (fun tg kg => XS.aloadN X2.here hx rfl (hb hby d4_23) rfl rfl kg) ?_
  show G (T2.setTop (mkF m 24 #[.val (.ref ob), .val (.int xa), .val (.int xf), .val (.int xs), .val (.int xe), .val .null, .val (.long xl), .second, .unset] [(.ref ob), (.int (Int32.ofNat k))]))
  obtain ⟨T3, X3, e3, st3⟩ := getF X2 hx hZ hown (host := "") (Or.inl (hw _ (List.mem_of_getElem? (i := 11) rfl))) Via.refl e2 F_agents (g := (mkF m 24 #[.val (.ref ob), .val (.int xa), .val (.int xf), .val (.int xs), .val (.int xe), .val .null, .val (.long xl), .second, .unset] [(.ref ob), (.int (Int32.ofNat k))])) rfl rfl (hb hby d4_24)
  refine go st3 ?_
  show G (T3.setTop (mkF m 27 #[.val (.ref ob), .val (.int xa), .val (.int xf), .val (.int xs), .val (.int xe), .val .null, .val (.long xl), .second, .unset] [(.ref ag), (.int (Int32.ofNat k))]))
  obtain ⟨cl4, Ar4, S4, -⟩ := id V_agents
  refine go (fun tg kg => X3.arraylength hx (by rw [e3]; exact Ar4.1) (State.isArrayOf_alike hZ.alike Ar4.2.1) (g := (mkF m 27 #[.val (.ref ob), .val (.int xa), .val (.int xf), .val (.int xs), .val (.int xe), .val .null, .val (.long xl), .second, .unset] [(.ref ag), (.int (Int32.ofNat k))])) rfl rfl (hb hby d4_27) _ kg) ?_
  rw [S4]
  show G (T3.setTop (mkF m 28 #[.val (.ref ob), .val (.int xa), .val (.int xf), .val (.int xs), .val (.int xe), .val .null, .val (.long xl), .second, .unset] [(.int (1024 : Int32)), (.int (Int32.ofNat k))]))
  refine go (fun tg kg => XS.icmpYes X3.here hx rfl (pc0 := 28) (pc' := 127) rfl (hb hby d4_28) rfl (feq hk2).2 (by decide) (by decide) kg) ?_
  show G (T3.setTop (mkF m 127 #[.val (.ref ob), .val (.int xa), .val (.int xf), .val (.int xs), .val (.int xe), .val .null, .val (.long xl), .second, .unset] []))
  refine go (fun tg kg => XS.aloadN X3.here hx rfl (hb hby d4_127) rfl rfl kg) ?_
  show G (T3.setTop (mkF m 128 #[.val (.ref ob), .val (.int xa), .val (.int xf), .val (.int xs), .val (.int xe), .val .null, .val (.long xl), .second, .unset] [(.ref ob)]))
  obtain ⟨T5, X5, e5, st5⟩ := getF X3 hx hZ hown (host := "") (Or.inl (hw _ (List.mem_of_getElem? (i := 11) rfl))) Via.refl e3 F_agents (g := (mkF m 128 #[.val (.ref ob), .val (.int xa), .val (.int xf), .val (.int xs), .val (.int xe), .val .null, .val (.long xl), .second, .unset] [(.ref ob)])) rfl rfl (hb hby d4_128)
  refine go st5 ?_
  show G (T5.setTop (mkF m 131 #[.val (.ref ob), .val (.int xa), .val (.int xf), .val (.int xs), .val (.int xe), .val .null, .val (.long xl), .second, .unset] [(.ref ag)]))
  refine go (fun tg kg => XS.aloadN X5.here hx rfl (hb hby d4_131) rfl rfl kg) ?_
  show G (T5.setTop (mkF m 132 #[.val (.ref ob), .val (.int xa), .val (.int xf), .val (.int xs), .val (.int xe), .val .null, .val (.long xl), .second, .unset] [(.ref ob), (.ref ag)]))
  obtain ⟨T6, X6, e6, st6⟩ := getF X5 hx hZ hown (host := "") (Or.inl (hw _ (List.mem_of_getElem? (i := 30) rfl))) Via.refl e5 F_size (g := (mkF m 132 #[.val (.ref ob), .val (.int xa), .val (.int xf), .val (.int xs), .val (.int xe), .val .null, .val (.long xl), .second, .unset] [(.ref ob), (.ref ag)])) rfl rfl (hb hby d4_132)
  refine go st6 ?_
  show G (T6.setTop (mkF m 135 #[.val (.ref ob), .val (.int xa), .val (.int xf), .val (.int xs), .val (.int xe), .val .null, .val (.long xl), .second, .unset] [(.int (Int32.ofNat k)), (.ref ag)]))
  refine go (fun tg kg => XS.iloadN X6.here hx rfl (hb hby d4_135) rfl kg) ?_
  show G (T6.setTop (mkF m 136 #[.val (.ref ob), .val (.int xa), .val (.int xf), .val (.int xs), .val (.int xe), .val .null, .val (.long xl), .second, .unset] [(.int xa), (.int (Int32.ofNat k)), (.ref ag)]))
  obtain ⟨cl7, Ar7, S7, H7⟩ := id V_agents
  have ok7 : own_ok 1024 (Int32.ofNat k) := own_ok_nat hk (by omega)
  have hin7 := own_in S7 ok7
  have kk7 := ok7.2
  rw [own_natN (by omega)] at kk7
  obtain ⟨T7, h7, X7, e7, W7, st7⟩ := stI X6 hx hZ e6 Ar7 (j := (Int32.ofNat k)) hin7 (g := (mkF m 136 #[.val (.ref ob), .val (.int xa), .val (.int xf), .val (.int xs), .val (.int xe), .val .null, .val (.long xl), .second, .unset] [(.int xa), (.int (Int32.ofNat k)), (.ref ag)])) rfl rfl (hb hby d4_136)
  refine go st7 ?_
  have N7 := Fr.snoc X7 N0 (by omega)
  have Wn7 := W7
  rw [own_natN (by omega)] at Wn7
  have V7 : own_I Z h7 ag 1024 (own_up fA k xa) := own_set Ar7 S7 H7 kk7 Wn7
  have K7 : Keep h0 h7 [ob, ag, fi, sa, en, re, li] := (Keep.refl h0 [ob, ag, fi, sa, en, re, li]).wr W7 (Or.inl (List.mem_of_getElem? (i := 1) rfl))
  have Z7 := Nat.le_trans Z0 (Keep.of_wr W7).1
  show G (T7.setTop (mkF m 137 #[.val (.ref ob), .val (.int xa), .val (.int xf), .val (.int xs), .val (.int xe), .val .null, .val (.long xl), .second, .unset] []))
  refine go (fun tg kg => XS.aloadN X7.here hx rfl (hb hby d4_137) rfl rfl kg) ?_
  show G (T7.setTop (mkF m 138 #[.val (.ref ob), .val (.int xa), .val (.int xf), .val (.int xs), .val (.int xe), .val .null, .val (.long xl), .second, .unset] [(.ref ob)]))
  have Fa8 := (F_firms.other W7 (Or.inl (Nat.ne_of_lt (by omega))))
  obtain ⟨T9, X9, e9, st9⟩ := getF X7 hx hZ hown (host := "") (Or.inl (hw _ (List.mem_of_getElem? (i := 13) rfl))) Via.refl e7 Fa8 (g := (mkF m 138 #[.val (.ref ob), .val (.int xa), .val (.int xf), .val (.int xs), .val (.int xe), .val .null, .val (.long xl), .second, .unset] [(.ref ob)])) rfl rfl (hb hby d4_138)
  refine go st9 ?_
  show G (T9.setTop (mkF m 141 #[.val (.ref ob), .val (.int xa), .val (.int xf), .val (.int xs), .val (.int xe), .val .null, .val (.long xl), .second, .unset] [(.ref fi)]))
  refine go (fun tg kg => XS.aloadN X9.here hx rfl (hb hby d4_141) rfl rfl kg) ?_
  show G (T9.setTop (mkF m 142 #[.val (.ref ob), .val (.int xa), .val (.int xf), .val (.int xs), .val (.int xe), .val .null, .val (.long xl), .second, .unset] [(.ref ob), (.ref fi)]))
  have Fa10 := (F_size.other W7 (Or.inl (Nat.ne_of_lt (by omega))))
  obtain ⟨T11, X11, e11, st11⟩ := getF X9 hx hZ hown (host := "") (Or.inl (hw _ (List.mem_of_getElem? (i := 30) rfl))) Via.refl e9 Fa10 (g := (mkF m 142 #[.val (.ref ob), .val (.int xa), .val (.int xf), .val (.int xs), .val (.int xe), .val .null, .val (.long xl), .second, .unset] [(.ref ob), (.ref fi)])) rfl rfl (hb hby d4_142)
  refine go st11 ?_
  show G (T11.setTop (mkF m 145 #[.val (.ref ob), .val (.int xa), .val (.int xf), .val (.int xs), .val (.int xe), .val .null, .val (.long xl), .second, .unset] [(.int (Int32.ofNat k)), (.ref fi)]))
  refine go (fun tg kg => XS.iloadN X11.here hx rfl (hb hby d4_145) rfl kg) ?_
  show G (T11.setTop (mkF m 146 #[.val (.ref ob), .val (.int xa), .val (.int xf), .val (.int xs), .val (.int xe), .val .null, .val (.long xl), .second, .unset] [(.int xf), (.int (Int32.ofNat k)), (.ref fi)]))
  have Fa12 := (V_firms.other W7 (Ne.symm (Nat.ne_of_lt (by omega))))
  obtain ⟨cl13, Ar13, S13⟩ := id Fa12
  have ok13 : own_ok 1024 (Int32.ofNat k) := own_ok_nat hk (by omega)
  have hin13 := own_in S13 ok13
  have kk13 := ok13.2
  rw [own_natN (by omega)] at kk13
  obtain ⟨T13, h13, X13, e13, W13, st13⟩ := stI X11 hx hZ e11 Ar13 (j := (Int32.ofNat k)) hin13 (g := (mkF m 146 #[.val (.ref ob), .val (.int xa), .val (.int xf), .val (.int xs), .val (.int xe), .val .null, .val (.long xl), .second, .unset] [(.int xf), (.int (Int32.ofNat k)), (.ref fi)])) rfl rfl (hb hby d4_146)
  refine go st13 ?_
  have N13 := Fr.snoc X13 N7 (by omega)
  have V13 : own_W Z h13 fi .int 1024 := own_setW Ar13 S13 W13
  have K13 : Keep h0 h13 [ob, ag, fi, sa, en, re, li] := K7.wr W13 (Or.inl (List.mem_of_getElem? (i := 2) rfl))
  have Z13 := Nat.le_trans Z7 (Keep.of_wr W13).1
  show G (T13.setTop (mkF m 147 #[.val (.ref ob), .val (.int xa), .val (.int xf), .val (.int xs), .val (.int xe), .val .null, .val (.long xl), .second, .unset] []))
  refine go (fun tg kg => XS.aloadN X13.here hx rfl (hb hby d4_147) rfl rfl kg) ?_
  show G (T13.setTop (mkF m 148 #[.val (.ref ob), .val (.int xa), .val (.int xf), .val (.int xs), .val (.int xe), .val .null, .val (.long xl), .second, .unset] [(.ref ob)]))
  have Fa14 := ((F_starts.other W7 (Or.inl (Nat.ne_of_lt (by omega)))).other W13 (Or.inl (Nat.ne_of_lt (by omega))))
  obtain ⟨T15, X15, e15, st15⟩ := getF X13 hx hZ hown (host := "") (Or.inl (hw _ (List.mem_of_getElem? (i := 15) rfl))) Via.refl e13 Fa14 (g := (mkF m 148 #[.val (.ref ob), .val (.int xa), .val (.int xf), .val (.int xs), .val (.int xe), .val .null, .val (.long xl), .second, .unset] [(.ref ob)])) rfl rfl (hb hby d4_148)
  refine go st15 ?_
  show G (T15.setTop (mkF m 151 #[.val (.ref ob), .val (.int xa), .val (.int xf), .val (.int xs), .val (.int xe), .val .null, .val (.long xl), .second, .unset] [(.ref sa)]))
  refine go (fun tg kg => XS.aloadN X15.here hx rfl (hb hby d4_151) rfl rfl kg) ?_
  show G (T15.setTop (mkF m 152 #[.val (.ref ob), .val (.int xa), .val (.int xf), .val (.int xs), .val (.int xe), .val .null, .val (.long xl), .second, .unset] [(.ref ob), (.ref sa)]))
  have Fa16 := (Fa10.other W13 (Or.inl (Nat.ne_of_lt (by omega))))
  obtain ⟨T17, X17, e17, st17⟩ := getF X15 hx hZ hown (host := "") (Or.inl (hw _ (List.mem_of_getElem? (i := 30) rfl))) Via.refl e15 Fa16 (g := (mkF m 152 #[.val (.ref ob), .val (.int xa), .val (.int xf), .val (.int xs), .val (.int xe), .val .null, .val (.long xl), .second, .unset] [(.ref ob), (.ref sa)])) rfl rfl (hb hby d4_152)
  refine go st17 ?_
  show G (T17.setTop (mkF m 155 #[.val (.ref ob), .val (.int xa), .val (.int xf), .val (.int xs), .val (.int xe), .val .null, .val (.long xl), .second, .unset] [(.int (Int32.ofNat k)), (.ref sa)]))
  refine go (fun tg kg => XS.iloadN X17.here hx rfl (hb hby d4_155) rfl kg) ?_
  show G (T17.setTop (mkF m 156 #[.val (.ref ob), .val (.int xa), .val (.int xf), .val (.int xs), .val (.int xe), .val .null, .val (.long xl), .second, .unset] [(.int xs), (.int (Int32.ofNat k)), (.ref sa)]))
  have Fa18 := ((V_starts.other W7 (Ne.symm (Nat.ne_of_lt (by omega)))).other W13 (Ne.symm (Nat.ne_of_lt (by omega))))
  obtain ⟨cl19, Ar19, S19⟩ := id Fa18
  have ok19 : own_ok 1024 (Int32.ofNat k) := own_ok_nat hk (by omega)
  have hin19 := own_in S19 ok19
  have kk19 := ok19.2
  rw [own_natN (by omega)] at kk19
  obtain ⟨T19, h19, X19, e19, W19, st19⟩ := stI X17 hx hZ e17 Ar19 (j := (Int32.ofNat k)) hin19 (g := (mkF m 156 #[.val (.ref ob), .val (.int xa), .val (.int xf), .val (.int xs), .val (.int xe), .val .null, .val (.long xl), .second, .unset] [(.int xs), (.int (Int32.ofNat k)), (.ref sa)])) rfl rfl (hb hby d4_156)
  refine go st19 ?_
  have N19 := Fr.snoc X19 N13 (by omega)
  have V19 : own_W Z h19 sa .int 1024 := own_setW Ar19 S19 W19
  have K19 : Keep h0 h19 [ob, ag, fi, sa, en, re, li] := K13.wr W19 (Or.inl (List.mem_of_getElem? (i := 3) rfl))
  have Z19 := Nat.le_trans Z13 (Keep.of_wr W19).1
  show G (T19.setTop (mkF m 157 #[.val (.ref ob), .val (.int xa), .val (.int xf), .val (.int xs), .val (.int xe), .val .null, .val (.long xl), .second, .unset] []))
  refine go (fun tg kg => XS.aloadN X19.here hx rfl (hb hby d4_157) rfl rfl kg) ?_
  show G (T19.setTop (mkF m 158 #[.val (.ref ob), .val (.int xa), .val (.int xf), .val (.int xs), .val (.int xe), .val .null, .val (.long xl), .second, .unset] [(.ref ob)]))
  have Fa20 := (((F_ends.other W7 (Or.inl (Nat.ne_of_lt (by omega)))).other W13 (Or.inl (Nat.ne_of_lt (by omega)))).other W19 (Or.inl (Nat.ne_of_lt (by omega))))
  obtain ⟨T21, X21, e21, st21⟩ := getF X19 hx hZ hown (host := "") (Or.inl (hw _ (List.mem_of_getElem? (i := 17) rfl))) Via.refl e19 Fa20 (g := (mkF m 158 #[.val (.ref ob), .val (.int xa), .val (.int xf), .val (.int xs), .val (.int xe), .val .null, .val (.long xl), .second, .unset] [(.ref ob)])) rfl rfl (hb hby d4_158)
  refine go st21 ?_
  show G (T21.setTop (mkF m 161 #[.val (.ref ob), .val (.int xa), .val (.int xf), .val (.int xs), .val (.int xe), .val .null, .val (.long xl), .second, .unset] [(.ref en)]))
  refine go (fun tg kg => XS.aloadN X21.here hx rfl (hb hby d4_161) rfl rfl kg) ?_
  show G (T21.setTop (mkF m 162 #[.val (.ref ob), .val (.int xa), .val (.int xf), .val (.int xs), .val (.int xe), .val .null, .val (.long xl), .second, .unset] [(.ref ob), (.ref en)]))
  have Fa22 := (Fa16.other W19 (Or.inl (Nat.ne_of_lt (by omega))))
  obtain ⟨T23, X23, e23, st23⟩ := getF X21 hx hZ hown (host := "") (Or.inl (hw _ (List.mem_of_getElem? (i := 30) rfl))) Via.refl e21 Fa22 (g := (mkF m 162 #[.val (.ref ob), .val (.int xa), .val (.int xf), .val (.int xs), .val (.int xe), .val .null, .val (.long xl), .second, .unset] [(.ref ob), (.ref en)])) rfl rfl (hb hby d4_162)
  refine go st23 ?_
  show G (T23.setTop (mkF m 165 #[.val (.ref ob), .val (.int xa), .val (.int xf), .val (.int xs), .val (.int xe), .val .null, .val (.long xl), .second, .unset] [(.int (Int32.ofNat k)), (.ref en)]))
  refine go (fun tg kg => XS.iload X23.here hx rfl (hb hby d4_165) rfl kg) ?_
  show G (T23.setTop (mkF m 167 #[.val (.ref ob), .val (.int xa), .val (.int xf), .val (.int xs), .val (.int xe), .val .null, .val (.long xl), .second, .unset] [(.int xe), (.int (Int32.ofNat k)), (.ref en)]))
  have Fa24 := (((V_ends.other W7 (Ne.symm (Nat.ne_of_lt (by omega)))).other W13 (Ne.symm (Nat.ne_of_lt (by omega)))).other W19 (Ne.symm (Nat.ne_of_lt (by omega))))
  obtain ⟨cl25, Ar25, S25⟩ := id Fa24
  have ok25 : own_ok 1024 (Int32.ofNat k) := own_ok_nat hk (by omega)
  have hin25 := own_in S25 ok25
  have kk25 := ok25.2
  rw [own_natN (by omega)] at kk25
  obtain ⟨T25, h25, X25, e25, W25, st25⟩ := stI X23 hx hZ e23 Ar25 (j := (Int32.ofNat k)) hin25 (g := (mkF m 167 #[.val (.ref ob), .val (.int xa), .val (.int xf), .val (.int xs), .val (.int xe), .val .null, .val (.long xl), .second, .unset] [(.int xe), (.int (Int32.ofNat k)), (.ref en)])) rfl rfl (hb hby d4_167)
  refine go st25 ?_
  have N25 := Fr.snoc X25 N19 (by omega)
  have V25 : own_W Z h25 en .int 1024 := own_setW Ar25 S25 W25
  have K25 : Keep h0 h25 [ob, ag, fi, sa, en, re, li] := K19.wr W25 (Or.inl (List.mem_of_getElem? (i := 4) rfl))
  have Z25 := Nat.le_trans Z19 (Keep.of_wr W25).1
  show G (T25.setTop (mkF m 168 #[.val (.ref ob), .val (.int xa), .val (.int xf), .val (.int xs), .val (.int xe), .val .null, .val (.long xl), .second, .unset] []))
  refine go (fun tg kg => XS.aloadN X25.here hx rfl (hb hby d4_168) rfl rfl kg) ?_
  show G (T25.setTop (mkF m 169 #[.val (.ref ob), .val (.int xa), .val (.int xf), .val (.int xs), .val (.int xe), .val .null, .val (.long xl), .second, .unset] [(.ref ob)]))
  have Fa26 := ((((F_reasons.other W7 (Or.inl (Nat.ne_of_lt (by omega)))).other W13 (Or.inl (Nat.ne_of_lt (by omega)))).other W19 (Or.inl (Nat.ne_of_lt (by omega)))).other W25 (Or.inl (Nat.ne_of_lt (by omega))))
  obtain ⟨T27, X27, e27, st27⟩ := getF X25 hx hZ hown (host := "") (Or.inl (hw _ (List.mem_of_getElem? (i := 20) rfl))) Via.refl e25 Fa26 (g := (mkF m 169 #[.val (.ref ob), .val (.int xa), .val (.int xf), .val (.int xs), .val (.int xe), .val .null, .val (.long xl), .second, .unset] [(.ref ob)])) rfl rfl (hb hby d4_169)
  refine go st27 ?_
  show G (T27.setTop (mkF m 172 #[.val (.ref ob), .val (.int xa), .val (.int xf), .val (.int xs), .val (.int xe), .val .null, .val (.long xl), .second, .unset] [(.ref re)]))
  refine go (fun tg kg => XS.aloadN X27.here hx rfl (hb hby d4_172) rfl rfl kg) ?_
  show G (T27.setTop (mkF m 173 #[.val (.ref ob), .val (.int xa), .val (.int xf), .val (.int xs), .val (.int xe), .val .null, .val (.long xl), .second, .unset] [(.ref ob), (.ref re)]))
  have Fa28 := (Fa22.other W25 (Or.inl (Nat.ne_of_lt (by omega))))
  obtain ⟨T29, X29, e29, st29⟩ := getF X27 hx hZ hown (host := "") (Or.inl (hw _ (List.mem_of_getElem? (i := 30) rfl))) Via.refl e27 Fa28 (g := (mkF m 173 #[.val (.ref ob), .val (.int xa), .val (.int xf), .val (.int xs), .val (.int xe), .val .null, .val (.long xl), .second, .unset] [(.ref ob), (.ref re)])) rfl rfl (hb hby d4_173)
  refine go st29 ?_
  show G (T29.setTop (mkF m 176 #[.val (.ref ob), .val (.int xa), .val (.int xf), .val (.int xs), .val (.int xe), .val .null, .val (.long xl), .second, .unset] [(.int (Int32.ofNat k)), (.ref re)]))
  refine go (fun tg kg => XS.aload X29.here hx rfl (hb hby d4_176) rfl rfl kg) ?_
  show G (T29.setTop (mkF m 178 #[.val (.ref ob), .val (.int xa), .val (.int xf), .val (.int xs), .val (.int xe), .val .null, .val (.long xl), .second, .unset] [.null, (.int (Int32.ofNat k)), (.ref re)]))
  refine go (fun tg kg => XS.ifnonnullNo X29.here hx rfl (hb hby d4_178) rfl kg) ?_
  show G (T29.setTop (mkF m 181 #[.val (.ref ob), .val (.int xa), .val (.int xf), .val (.int xs), .val (.int xe), .val .null, .val (.long xl), .second, .unset] [(.int (Int32.ofNat k)), (.ref re)]))
  refine go (fun tg kg => XS.iconst X29.here hx rfl (hb hby d4_181) kg) ?_
  show G (T29.setTop (mkF m 182 #[.val (.ref ob), .val (.int xa), .val (.int xf), .val (.int xs), .val (.int xe), .val .null, .val (.long xl), .second, .unset] [(.int (-1 : Int32)), (.int (Int32.ofNat k)), (.ref re)]))
  refine go (fun tg kg => XS.goto X29.here hx rfl (pc0 := 182) (pc' := 191) rfl (hb hby d4_182) (by decide) (by decide) kg) ?_
  show G (T29.setTop (mkF m 191 #[.val (.ref ob), .val (.int xa), .val (.int xf), .val (.int xs), .val (.int xe), .val .null, .val (.long xl), .second, .unset] [(.int (-1 : Int32)), (.int (Int32.ofNat k)), (.ref re)]))
  have Fa30 := ((((V_reasons.other W7 (Ne.symm (Nat.ne_of_lt (by omega)))).other W13 (Ne.symm (Nat.ne_of_lt (by omega)))).other W19 (Ne.symm (Nat.ne_of_lt (by omega)))).other W25 (Ne.symm (Nat.ne_of_lt (by omega))))
  obtain ⟨cl31, Ar31, S31⟩ := id Fa30
  have ok31 : own_ok 1024 (Int32.ofNat k) := own_ok_nat hk (by omega)
  have hin31 := own_in S31 ok31
  have kk31 := ok31.2
  rw [own_natN (by omega)] at kk31
  obtain ⟨T31, h31, X31, e31, W31, st31⟩ := stB X29 hx hZ e29 Ar31 (j := (Int32.ofNat k)) hin31 (g := (mkF m 191 #[.val (.ref ob), .val (.int xa), .val (.int xf), .val (.int xs), .val (.int xe), .val .null, .val (.long xl), .second, .unset] [(.int (-1 : Int32)), (.int (Int32.ofNat k)), (.ref re)])) rfl rfl (hb hby d4_191)
  refine go st31 ?_
  have N31 := Fr.snoc X31 N25 (by omega)
  have V31 : own_W Z h31 re .byte 1024 := own_setW Ar31 S31 W31
  have K31 : Keep h0 h31 [ob, ag, fi, sa, en, re, li] := K25.wr W31 (Or.inl (List.mem_of_getElem? (i := 5) rfl))
  have Z31 := Nat.le_trans Z25 (Keep.of_wr W31).1
  show G (T31.setTop (mkF m 192 #[.val (.ref ob), .val (.int xa), .val (.int xf), .val (.int xs), .val (.int xe), .val .null, .val (.long xl), .second, .unset] []))
  refine go (fun tg kg => XS.aloadN X31.here hx rfl (hb hby d4_192) rfl rfl kg) ?_
  show G (T31.setTop (mkF m 193 #[.val (.ref ob), .val (.int xa), .val (.int xf), .val (.int xs), .val (.int xe), .val .null, .val (.long xl), .second, .unset] [(.ref ob)]))
  have Fa32 := (((((F_lines.other W7 (Or.inl (Nat.ne_of_lt (by omega)))).other W13 (Or.inl (Nat.ne_of_lt (by omega)))).other W19 (Or.inl (Nat.ne_of_lt (by omega)))).other W25 (Or.inl (Nat.ne_of_lt (by omega)))).other W31 (Or.inl (Nat.ne_of_lt (by omega))))
  obtain ⟨T33, X33, e33, st33⟩ := getF X31 hx hZ hown (host := "") (Or.inl (hw _ (List.mem_of_getElem? (i := 23) rfl))) Via.refl e31 Fa32 (g := (mkF m 193 #[.val (.ref ob), .val (.int xa), .val (.int xf), .val (.int xs), .val (.int xe), .val .null, .val (.long xl), .second, .unset] [(.ref ob)])) rfl rfl (hb hby d4_193)
  refine go st33 ?_
  show G (T33.setTop (mkF m 196 #[.val (.ref ob), .val (.int xa), .val (.int xf), .val (.int xs), .val (.int xe), .val .null, .val (.long xl), .second, .unset] [(.ref li)]))
  refine go (fun tg kg => XS.aloadN X33.here hx rfl (hb hby d4_196) rfl rfl kg) ?_
  show G (T33.setTop (mkF m 197 #[.val (.ref ob), .val (.int xa), .val (.int xf), .val (.int xs), .val (.int xe), .val .null, .val (.long xl), .second, .unset] [(.ref ob), (.ref li)]))
  have Fa34 := (Fa28.other W31 (Or.inl (Nat.ne_of_lt (by omega))))
  obtain ⟨T35, X35, e35, st35⟩ := getF X33 hx hZ hown (host := "") (Or.inl (hw _ (List.mem_of_getElem? (i := 30) rfl))) Via.refl e33 Fa34 (g := (mkF m 197 #[.val (.ref ob), .val (.int xa), .val (.int xf), .val (.int xs), .val (.int xe), .val .null, .val (.long xl), .second, .unset] [(.ref ob), (.ref li)])) rfl rfl (hb hby d4_197)
  refine go st35 ?_
  show G (T35.setTop (mkF m 200 #[.val (.ref ob), .val (.int xa), .val (.int xf), .val (.int xs), .val (.int xe), .val .null, .val (.long xl), .second, .unset] [(.int (Int32.ofNat k)), (.ref li)]))
  refine go (fun tg kg => XS.lload X35.here hx rfl (hb hby d4_200) rfl kg) ?_
  show G (T35.setTop (mkF m 202 #[.val (.ref ob), .val (.int xa), .val (.int xf), .val (.int xs), .val (.int xe), .val .null, .val (.long xl), .second, .unset] [(.long xl), (.int (Int32.ofNat k)), (.ref li)]))
  have Fa36 := (((((V_lines.other W7 (Ne.symm (Nat.ne_of_lt (by omega)))).other W13 (Ne.symm (Nat.ne_of_lt (by omega)))).other W19 (Ne.symm (Nat.ne_of_lt (by omega)))).other W25 (Ne.symm (Nat.ne_of_lt (by omega)))).other W31 (Ne.symm (Nat.ne_of_lt (by omega))))
  obtain ⟨cl37, Ar37, S37⟩ := id Fa36
  have ok37 : own_ok 1024 (Int32.ofNat k) := own_ok_nat hk (by omega)
  have hin37 := own_in S37 ok37
  have kk37 := ok37.2
  rw [own_natN (by omega)] at kk37
  obtain ⟨T37, h37, X37, e37, W37, st37⟩ := stJ X35 hx hZ e35 Ar37 (j := (Int32.ofNat k)) hin37 (g := (mkF m 202 #[.val (.ref ob), .val (.int xa), .val (.int xf), .val (.int xs), .val (.int xe), .val .null, .val (.long xl), .second, .unset] [(.long xl), (.int (Int32.ofNat k)), (.ref li)])) rfl rfl (hb hby d4_202)
  refine go st37 ?_
  have N37 := Fr.snoc X37 N31 (by omega)
  have V37 : own_W Z h37 li .long 1024 := own_setW Ar37 S37 W37
  have K37 : Keep h0 h37 [ob, ag, fi, sa, en, re, li] := K31.wr W37 (Or.inl (List.mem_of_getElem? (i := 6) rfl))
  have Z37 := Nat.le_trans Z31 (Keep.of_wr W37).1
  show G (T37.setTop (mkF m 203 #[.val (.ref ob), .val (.int xa), .val (.int xf), .val (.int xs), .val (.int xe), .val .null, .val (.long xl), .second, .unset] []))
  refine go (fun tg kg => XS.aloadN X37.here hx rfl (hb hby d4_203) rfl rfl kg) ?_
  show G (T37.setTop (mkF m 204 #[.val (.ref ob), .val (.int xa), .val (.int xf), .val (.int xs), .val (.int xe), .val .null, .val (.long xl), .second, .unset] [(.ref ob)]))
  refine go (fun tg kg => XS.dup X37.here hx rfl (hb hby d4_204) rfl rfl kg) ?_
  show G (T37.setTop (mkF m 205 #[.val (.ref ob), .val (.int xa), .val (.int xf), .val (.int xs), .val (.int xe), .val .null, .val (.long xl), .second, .unset] [(.ref ob), (.ref ob)]))
  have Fa38 := (Fa34.other W37 (Or.inl (Nat.ne_of_lt (by omega))))
  obtain ⟨T39, X39, e39, st39⟩ := getF X37 hx hZ hown (host := "") (Or.inl (hw _ (List.mem_of_getElem? (i := 30) rfl))) Via.refl e37 Fa38 (g := (mkF m 205 #[.val (.ref ob), .val (.int xa), .val (.int xf), .val (.int xs), .val (.int xe), .val .null, .val (.long xl), .second, .unset] [(.ref ob), (.ref ob)])) rfl rfl (hb hby d4_205)
  refine go st39 ?_
  show G (T39.setTop (mkF m 208 #[.val (.ref ob), .val (.int xa), .val (.int xf), .val (.int xs), .val (.int xe), .val .null, .val (.long xl), .second, .unset] [(.int (Int32.ofNat k)), (.ref ob)]))
  refine go (fun tg kg => XS.iconst X39.here hx rfl (hb hby d4_208) kg) ?_
  show G (T39.setTop (mkF m 209 #[.val (.ref ob), .val (.int xa), .val (.int xf), .val (.int xs), .val (.int xe), .val .null, .val (.long xl), .second, .unset] [(.int (1 : Int32)), (.int (Int32.ofNat k)), (.ref ob)]))
  refine go (fun tg kg => XS.iadd X39.here hx rfl (hb hby d4_209) rfl kg) ?_
  show G (T39.setTop (mkF m 210 #[.val (.ref ob), .val (.int xa), .val (.int xf), .val (.int xs), .val (.int xe), .val .null, .val (.long xl), .second, .unset] [(.int ((Int32.ofNat k) + (1 : Int32))), (.ref ob)]))
  have Fa40 := ((((((Ex.wr W7).wr W13).wr W19).wr W25).wr W31).wr W37)
  obtain ⟨T41, h41, X41, e41, W41, st41⟩ := putF X39 hx hZ hown (host := "") (Or.inl (hw _ (List.mem_of_getElem? (i := 30) rfl))) Via.refl e39 Fa38 Fa40 (Or.inl (hw _ (List.mem_of_getElem? (i := 31) rfl))) (hw _ (List.mem_of_getElem? (i := 3) rfl)) (ty := .int) (by decide) rfl rfl (g := (mkF m 210 #[.val (.ref ob), .val (.int xa), .val (.int xf), .val (.int xs), .val (.int xe), .val .null, .val (.long xl), .second, .unset] [(.int ((Int32.ofNat k) + (1 : Int32))), (.ref ob)])) rfl rfl (hb hby d4_210)
  refine go st41 ?_
  have Fw41 : Fld Z h41 ob "com/example/housemartin/housemartin/record/SpellColumns" "size" "I" (.int ((Int32.ofNat k) + (1 : Int32))) := Fa38.same W41
  have N41 := Fr.snoc X41 N37 g0
  have K41 : Keep h0 h41 [ob, ag, fi, sa, en, re, li] := K37.wr W41 (Or.inl (List.mem_of_getElem? (i := 0) rfl))
  have Z41 := Nat.le_trans Z37 (Keep.of_wr W41).1
  show G (T41.setTop (mkF m 213 #[.val (.ref ob), .val (.int xa), .val (.int xf), .val (.int xs), .val (.int xe), .val .null, .val (.long xl), .second, .unset] []))
  refine fin (none) X41 (fun h => rfl) (fun fs hr => X41.returnOut hx hret (hb hby d4_213) hr) (by decide) (by decide) ?_
  rw [e41]
  have Fa42 := (Fa40.wr W41)
  have Fa43 := (((((((F_agents.other W7 (Or.inl (Nat.ne_of_lt (by omega)))).other W13 (Or.inl (Nat.ne_of_lt (by omega)))).other W19 (Or.inl (Nat.ne_of_lt (by omega)))).other W25 (Or.inl (Nat.ne_of_lt (by omega)))).other W31 (Or.inl (Nat.ne_of_lt (by omega)))).other W37 (Or.inl (Nat.ne_of_lt (by omega)))).other W41 (Or.inr (slot_ne (Or.inl (hw _ (List.mem_of_getElem? (i := 12) rfl))) (Or.inl (hw _ (List.mem_of_getElem? (i := 31) rfl))) (by decide) (t := (.array .int)) (t' := .int) (by decide) (by decide))))
  have Fa44 := ((((((Fa8.other W13 (Or.inl (Nat.ne_of_lt (by omega)))).other W19 (Or.inl (Nat.ne_of_lt (by omega)))).other W25 (Or.inl (Nat.ne_of_lt (by omega)))).other W31 (Or.inl (Nat.ne_of_lt (by omega)))).other W37 (Or.inl (Nat.ne_of_lt (by omega)))).other W41 (Or.inr (slot_ne (Or.inl (hw _ (List.mem_of_getElem? (i := 14) rfl))) (Or.inl (hw _ (List.mem_of_getElem? (i := 31) rfl))) (by decide) (t := (.array .int)) (t' := .int) (by decide) (by decide))))
  have Fa45 := (((((Fa14.other W19 (Or.inl (Nat.ne_of_lt (by omega)))).other W25 (Or.inl (Nat.ne_of_lt (by omega)))).other W31 (Or.inl (Nat.ne_of_lt (by omega)))).other W37 (Or.inl (Nat.ne_of_lt (by omega)))).other W41 (Or.inr (slot_ne (Or.inl (hw _ (List.mem_of_getElem? (i := 16) rfl))) (Or.inl (hw _ (List.mem_of_getElem? (i := 31) rfl))) (by decide) (t := (.array .int)) (t' := .int) (by decide) (by decide))))
  have Fa46 := ((((Fa20.other W25 (Or.inl (Nat.ne_of_lt (by omega)))).other W31 (Or.inl (Nat.ne_of_lt (by omega)))).other W37 (Or.inl (Nat.ne_of_lt (by omega)))).other W41 (Or.inr (slot_ne (Or.inl (hw _ (List.mem_of_getElem? (i := 18) rfl))) (Or.inl (hw _ (List.mem_of_getElem? (i := 31) rfl))) (by decide) (t := (.array .int)) (t' := .int) (by decide) (by decide))))
  have Fa47 := (((Fa26.other W31 (Or.inl (Nat.ne_of_lt (by omega)))).other W37 (Or.inl (Nat.ne_of_lt (by omega)))).other W41 (Or.inr (slot_ne (Or.inl (hw _ (List.mem_of_getElem? (i := 21) rfl))) (Or.inl (hw _ (List.mem_of_getElem? (i := 31) rfl))) (by decide) (t := (.array .byte)) (t' := .int) (by decide) (by decide))))
  have Fa48 := ((Fa32.other W37 (Or.inl (Nat.ne_of_lt (by omega)))).other W41 (Or.inr (slot_ne (Or.inl (hw _ (List.mem_of_getElem? (i := 24) rfl))) (Or.inl (hw _ (List.mem_of_getElem? (i := 31) rfl))) (by decide) (t := (.array .long)) (t' := .int) (by decide) (by decide))))
  have Fa49 := ((((((V7.other W13 (Nat.ne_of_lt (by omega))).other W19 (Nat.ne_of_lt (by omega))).other W25 (Nat.ne_of_lt (by omega))).other W31 (Nat.ne_of_lt (by omega))).other W37 (Nat.ne_of_lt (by omega))).other W41 (Ne.symm (Nat.ne_of_lt (by omega))))
  have Fa50 := (((((V13.other W19 (Nat.ne_of_lt (by omega))).other W25 (Nat.ne_of_lt (by omega))).other W31 (Nat.ne_of_lt (by omega))).other W37 (Nat.ne_of_lt (by omega))).other W41 (Ne.symm (Nat.ne_of_lt (by omega))))
  have Fa51 := ((((V19.other W25 (Nat.ne_of_lt (by omega))).other W31 (Nat.ne_of_lt (by omega))).other W37 (Nat.ne_of_lt (by omega))).other W41 (Ne.symm (Nat.ne_of_lt (by omega))))
  have Fa52 := (((V25.other W31 (Nat.ne_of_lt (by omega))).other W37 (Nat.ne_of_lt (by omega))).other W41 (Ne.symm (Nat.ne_of_lt (by omega))))
  have Fa53 := ((V31.other W37 (Nat.ne_of_lt (by omega))).other W41 (Ne.symm (Nat.ne_of_lt (by omega))))
  have Fa54 := (V37.other W41 (Ne.symm (Nat.ne_of_lt (by omega))))
  exact ⟨rfl, N41, K41, Fa42, Fa43, Fa44, Fa45, Fa46, Fa47, Fa48, own_add1 k ▸ Fw41, Fa49, Fa50, Fa51, Fa52, Fa53, Fa54⟩
theorem ef_3 (m : MethodId) (x0 : Addr) (x1 : Int32) : entryFrame m #[(.ref x0), (.int x1)] 5 = mkF m 0 #[.val (.ref x0), .val (.int x1), .unset, .unset, .unset] [] := by first | (simp [entryFrame, mkF, argsToLocals, Value.category]; done) | rfl
theorem d3_0 : decode prog_33_method_14_code 0 = .ok (.iload_n 1, 1) := by decide +kernel
theorem d3_1 : decode prog_33_method_14_code 1 = .ok (.iconst 2, 1) := by decide +kernel
theorem d3_2 : decode prog_33_method_14_code 2 = .ok (.iadd, 1) := by decide +kernel
theorem d3_3 : decode prog_33_method_14_code 3 = .ok (.newarray .int, 2) := by decide +kernel
theorem d3_5 : decode prog_33_method_14_code 5 = .ok (.astore_n 2, 1) := by decide +kernel
theorem d3_6 : decode prog_33_method_14_code 6 = .ok (.iconst 0, 1) := by decide +kernel
theorem d3_7 : decode prog_33_method_14_code 7 = .ok (.istore_n 3, 1) := by decide +kernel
theorem d3_8 : decode prog_33_method_14_code 8 = .ok (.iload_n 3, 1) := by decide +kernel
theorem d3_9 : decode prog_33_method_14_code 9 = .ok (.aload_n 0, 1) := by decide +kernel
theorem d3_10 : decode prog_33_method_14_code 10 = .ok (.getfield 32, 3) := by decide +kernel
theorem d3_13 : decode prog_33_method_14_code 13 = .ok (.if_icmp .ge 23, 3) := by decide +kernel
theorem d3_36 : decode prog_33_method_14_code 36 = .ok (.iconst 1, 1) := by decide +kernel
theorem d3_37 : decode prog_33_method_14_code 37 = .ok (.istore_n 3, 1) := by decide +kernel
theorem d3_38 : decode prog_33_method_14_code 38 = .ok (.iload_n 3, 1) := by decide +kernel
theorem d3_39 : decode prog_33_method_14_code 39 = .ok (.aload_n 2, 1) := by decide +kernel
theorem d3_40 : decode prog_33_method_14_code 40 = .ok (.arraylength, 1) := by decide +kernel
theorem d3_41 : decode prog_33_method_14_code 41 = .ok (.if_icmp .ge 20, 3) := by decide +kernel
theorem d3_61 : decode prog_33_method_14_code 61 = .ok (.aload_n 0, 1) := by decide +kernel
theorem d3_62 : decode prog_33_method_14_code 62 = .ok (.getfield 32, 3) := by decide +kernel
theorem d3_65 : decode prog_33_method_14_code 65 = .ok (.newarray .int, 2) := by decide +kernel
theorem d3_67 : decode prog_33_method_14_code 67 = .ok (.astore_n 3, 1) := by decide +kernel
theorem d3_68 : decode prog_33_method_14_code 68 = .ok (.iconst 0, 1) := by decide +kernel
theorem d3_69 : decode prog_33_method_14_code 69 = .ok (.istore 4, 2) := by decide +kernel
theorem d3_71 : decode prog_33_method_14_code 71 = .ok (.iload 4, 2) := by decide +kernel
theorem d3_73 : decode prog_33_method_14_code 73 = .ok (.aload_n 0, 1) := by decide +kernel
theorem d3_74 : decode prog_33_method_14_code 74 = .ok (.getfield 32, 3) := by decide +kernel
theorem d3_77 : decode prog_33_method_14_code 77 = .ok (.if_icmp .ge 27, 3) := by decide +kernel
theorem d3_104 : decode prog_33_method_14_code 104 = .ok (.aload_n 3, 1) := by decide +kernel
theorem d3_105 : decode prog_33_method_14_code 105 = .ok (.areturn, 1) := by decide +kernel
theorem d3_80 : decode prog_33_method_14_code 80 = .ok (.aload_n 3, 1) := by decide +kernel
theorem d3_81 : decode prog_33_method_14_code 81 = .ok (.aload_n 2, 1) := by decide +kernel
theorem d3_82 : decode prog_33_method_14_code 82 = .ok (.aload_n 0, 1) := by decide +kernel
theorem d3_83 : decode prog_33_method_14_code 83 = .ok (.getfield 9, 3) := by decide +kernel
theorem d3_86 : decode prog_33_method_14_code 86 = .ok (.iload 4, 2) := by decide +kernel
theorem d3_88 : decode prog_33_method_14_code 88 = .ok (.iaload, 1) := by decide +kernel
theorem d3_89 : decode prog_33_method_14_code 89 = .ok (.dup2, 1) := by decide +kernel
theorem d3_90 : decode prog_33_method_14_code 90 = .ok (.iaload, 1) := by decide +kernel
theorem d3_91 : decode prog_33_method_14_code 91 = .ok (.dup_x2, 1) := by decide +kernel
theorem d3_92 : decode prog_33_method_14_code 92 = .ok (.iconst 1, 1) := by decide +kernel
theorem d3_93 : decode prog_33_method_14_code 93 = .ok (.iadd, 1) := by decide +kernel
theorem d3_94 : decode prog_33_method_14_code 94 = .ok (.iastore, 1) := by decide +kernel
theorem d3_95 : decode prog_33_method_14_code 95 = .ok (.iload 4, 2) := by decide +kernel
theorem d3_97 : decode prog_33_method_14_code 97 = .ok (.iastore, 1) := by decide +kernel
theorem d3_98 : decode prog_33_method_14_code 98 = .ok (.iinc 4 1, 3) := by decide +kernel
theorem d3_101 : decode prog_33_method_14_code 101 = .ok (.goto (-30), 3) := by decide +kernel
theorem d3_44 : decode prog_33_method_14_code 44 = .ok (.aload_n 2, 1) := by decide +kernel
theorem d3_45 : decode prog_33_method_14_code 45 = .ok (.iload_n 3, 1) := by decide +kernel
theorem d3_46 : decode prog_33_method_14_code 46 = .ok (.dup2, 1) := by decide +kernel
theorem d3_47 : decode prog_33_method_14_code 47 = .ok (.iaload, 1) := by decide +kernel
theorem d3_48 : decode prog_33_method_14_code 48 = .ok (.aload_n 2, 1) := by decide +kernel
theorem d3_49 : decode prog_33_method_14_code 49 = .ok (.iload_n 3, 1) := by decide +kernel
theorem d3_50 : decode prog_33_method_14_code 50 = .ok (.iconst 1, 1) := by decide +kernel
theorem d3_51 : decode prog_33_method_14_code 51 = .ok (.isub, 1) := by decide +kernel
theorem d3_52 : decode prog_33_method_14_code 52 = .ok (.iaload, 1) := by decide +kernel
theorem d3_53 : decode prog_33_method_14_code 53 = .ok (.iadd, 1) := by decide +kernel
theorem d3_54 : decode prog_33_method_14_code 54 = .ok (.iastore, 1) := by decide +kernel
theorem d3_55 : decode prog_33_method_14_code 55 = .ok (.iinc 3 1, 3) := by decide +kernel
theorem d3_58 : decode prog_33_method_14_code 58 = .ok (.goto (-20), 3) := by decide +kernel
theorem d3_16 : decode prog_33_method_14_code 16 = .ok (.aload_n 2, 1) := by decide +kernel
theorem d3_17 : decode prog_33_method_14_code 17 = .ok (.aload_n 0, 1) := by decide +kernel
theorem d3_18 : decode prog_33_method_14_code 18 = .ok (.getfield 9, 3) := by decide +kernel
theorem d3_21 : decode prog_33_method_14_code 21 = .ok (.iload_n 3, 1) := by decide +kernel
theorem d3_22 : decode prog_33_method_14_code 22 = .ok (.iaload, 1) := by decide +kernel
theorem d3_23 : decode prog_33_method_14_code 23 = .ok (.iconst 1, 1) := by decide +kernel
theorem d3_24 : decode prog_33_method_14_code 24 = .ok (.iadd, 1) := by decide +kernel
theorem d3_25 : decode prog_33_method_14_code 25 = .ok (.dup2, 1) := by decide +kernel
theorem d3_26 : decode prog_33_method_14_code 26 = .ok (.iaload, 1) := by decide +kernel
theorem d3_27 : decode prog_33_method_14_code 27 = .ok (.iconst 1, 1) := by decide +kernel
theorem d3_28 : decode prog_33_method_14_code 28 = .ok (.iadd, 1) := by decide +kernel
theorem d3_29 : decode prog_33_method_14_code 29 = .ok (.iastore, 1) := by decide +kernel
theorem d3_30 : decode prog_33_method_14_code 30 = .ok (.iinc 3 1, 3) := by decide +kernel
theorem d3_33 : decode prog_33_method_14_code 33 = .ok (.goto (-25), 3) := by decide +kernel
def Q_rm3 (Z : State) (ob : Addr) (mm : Nat) (nn : Nat) (A : Nat → Nat) (ag : Addr) (fA : Nat → Int32) (h0 : Heap) (n0 : Nat) (v : Option Value) (h : Heap) (L : List Loc) : Prop := ∃ b, v = some (.ref b) ∧ Fr n0 L ∧ Keep h0 h [] ∧ h0.size ≤ b ∧ own_I Z h b nn (own_ord A nn nn)
set_option maxRecDepth 65536 in
set_option maxHeartbeats 40000000 in
theorem rm3 (l : Launch) (Z : State) (a0 : Array Value) (hw : ∀ d ∈ tables_1, d.before a0 Z = true) (ws : List Jvm.Cond) (ob : Addr) (mm : Nat) (nn : Nat) (A : Nat → Nat) (ag : Addr) (fA : Nat → Int32) (h0 : Heap) (n0 : Nat) (Z0 : n0 ≤ h0.size) (Fa : Fld Z h0 ob "com/example/housemartin/housemartin/record/SpellColumns" "agents" "[I" (.ref ag)) (Fs : Fld Z h0 ob "com/example/housemartin/housemartin/record/SpellColumns" "size" "I" (.int (Int32.ofNat nn))) (Va : own_I Z h0 ag 1024 fA) (hA : ∀ j, j < nn → fA j = Int32.ofNat (A j) ∧ 1 ≤ A j ∧ A j ≤ mm) (hm : 1 ≤ mm ∧ mm ≤ 8) (hn : nn ≤ 4) :
    MetFree l (⟨"com/example/housemartin/housemartin/record/SpellColumns", "byAgent", "(I)[I"⟩ : MethodName) (head1 (Jvm.Cond.code (⟨"com/example/housemartin/housemartin/record/SpellColumns", "byAgent", "(I)[I"⟩ : MethodName) prog_33_method_14_code 5 (some (.array .int)) :: ws) ({ frames := 0, cells := 2, slots := 14, locals := 0 } : Room)) (fun a U => a = #[(.ref ob), (.int (Int32.ofNat mm))] ∧ Z.Warmed39 U.vm ∧ U.heap = h0) (fun _ _ _ _ _ => True) (fun _ U o U' => ∃ v L, o = .returned v ∧ Q_rm3 Z ob mm nn A ag fA h0 n0 v U'.heap L ∧ FrameEnd U o U' L ({ frames := 0, cells := 2, slots := 14, locals := 0 } : Room).cells ({ frames := 0, cells := 2, slots := 14, locals := 0 } : Room).slots) := by
  refine own_enter (Q := Q_rm3 Z ob mm nn A ag fA h0 n0) (plainFor_of_name pn_com_example_housemartin_housemartin_record_SpellColumns) ?_
  intro p e s m below meth c s₁ G X0 hx hby hml hZ hown hnm hret e0 go fin
  replace hown : s.vm.findClass "com/example/housemartin/housemartin/record/SpellColumns" = some m.cls := hown
  replace hnm : meth.name = "byAgent" := hnm
  replace hml : c.maxLocals = 5 := hml
  rw [ef_3 m ob _]
  have N0 := Fr.nil n0
  show G (s₁.setTop (mkF m 0 #[.val (.ref ob), .val (.int (Int32.ofNat mm)), .unset, .unset, .unset] []))
  refine go (fun tg kg => XS.iloadN X0.here hx rfl (hb hby d3_0) rfl kg) ?_
  show G (s₁.setTop (mkF m 1 #[.val (.ref ob), .val (.int (Int32.ofNat mm)), .unset, .unset, .unset] [(.int (Int32.ofNat mm))]))
  refine go (fun tg kg => XS.iconst X0.here hx rfl (hb hby d3_1) kg) ?_
  show G (s₁.setTop (mkF m 2 #[.val (.ref ob), .val (.int (Int32.ofNat mm)), .unset, .unset, .unset] [(.int (2 : Int32)), (.int (Int32.ofNat mm))]))
  refine go (fun tg kg => XS.iadd X0.here hx rfl (hb hby d3_2) rfl kg) ?_
  show G (s₁.setTop (mkF m 3 #[.val (.ref ob), .val (.int (Int32.ofNat mm)), .unset, .unset, .unset] [(.int ((Int32.ofNat mm) + (2 : Int32)))]))
  rw [show (Int32.ofNat mm + (2 : Int32)) = Int32.ofNat (mm + 2) from own_addn mm 2]
  show G (s₁.setTop (mkF m 3 #[.val (.ref ob), .val (.int (Int32.ofNat mm)), .unset, .unset, .unset] [(.int (Int32.ofNat (mm + 2)))]))
  obtain ⟨T1, h1, k1, X1, e1, E1, A1, st1⟩ := newP X0 hx hZ (hw _ (List.mem_of_getElem? (i := 0) rfl)) e0 (g := (mkF m 3 #[.val (.ref ob), .val (.int (Int32.ofNat mm)), .unset, .unset, .unset] [(.int (Int32.ofNat (mm + 2)))])) rfl (hb hby d3_3) rfl (own_ok_nat (n := (mm + 2) + 1) (i := (mm + 2)) (by omega) (by omega)).1 (cap := 10) (by rw [own_natN (by omega)]; omega) (by decide) (by decide) (by decide)
  obtain ⟨b1, g1⟩ : ∃ z, z = h0.size := ⟨_, rfl⟩
  rw [← g1] at A1 st1
  refine go st1 ?_
  have V1 : Arv Z h1 b1 k1 .int (Int32.ofNat (mm + 2)) [] (.int (0 : Int32)) := Arv.new A1 (own_ok_nat (n := (mm + 2) + 1) (i := (mm + 2)) (by omega) (by omega)).1
  have ge_b1 : n0 ≤ b1 := Nat.le_trans Z0 (Nat.le_of_eq g1.symm)
  have sz_b1 : h0.size ≤ b1 := Nat.le_trans (Keep.refl h0 []).1 (Nat.le_of_eq g1.symm)
  have K1 : Keep h0 h1 [] := (Keep.refl h0 []).ext E1
  have Z1 := Nat.le_trans Z0 E1.1
  show G (T1.setTop (mkF m 5 #[.val (.ref ob), .val (.int (Int32.ofNat mm)), .unset, .unset, .unset] [(.ref b1)]))
  have Vf1 : own_I Z h1 b1 (mm + 2) (own_f1 A 0) := own_newI V1 (own_natN (by omega))
  have ne_of : ob ≠ b1 := (Nat.ne_of_lt (Nat.lt_of_lt_of_le Fa.lt (Nat.le_of_eq g1.symm)))
  have ne_af : ag ≠ b1 := (Nat.ne_of_lt (Nat.lt_of_lt_of_le Va.lt (Nat.le_of_eq g1.symm)))
  refine go (fun tg kg => XS.astoreN X1.here hx rfl (hb hby d3_5) rfl rfl (l' := #[.val (.ref ob), .val (.int (Int32.ofNat mm)), .val (.ref b1), .unset, .unset]) rfl kg) ?_
  show G (T1.setTop (mkF m 6 #[.val (.ref ob), .val (.int (Int32.ofNat mm)), .val (.ref b1), .unset, .unset] []))
  refine go (fun tg kg => XS.iconst X1.here hx rfl (hb hby d3_6) kg) ?_
  show G (T1.setTop (mkF m 7 #[.val (.ref ob), .val (.int (Int32.ofNat mm)), .val (.ref b1), .unset, .unset] [(.int (0 : Int32))]))
  refine go (fun tg kg => XS.istoreN X1.here hx rfl (hb hby d3_7) rfl (l' := #[.val (.ref ob), .val (.int (Int32.ofNat mm)), .val (.ref b1), .val (.int (0 : Int32)), .unset]) rfl kg) ?_
  show G (T1.setTop (mkF m 8 #[.val (.ref ob), .val (.int (Int32.ofNat mm)), .val (.ref b1), .val (.int (0 : Int32)), .unset] []))
  have Fa2 := (Fa.ext E1)
  have Fa3 := (Fs.ext E1)
  have Fa4 := (Va.ext E1)
  have loop1 : ∀ (r i : Nat) (Tl : State) (hl : Heap) (ll : List Loc), Stand p l e ({ frames := 0, cells := 2, slots := 14, locals := 0 } : Room) s m #[(.ref ob), (.int (Int32.ofNat mm))] below meth c Tl ll 1 10 → Tl.heap = hl → Fr n0 ll → n0 ≤ hl.size → Keep h0 hl [] → Fld Z hl ob "com/example/housemartin/housemartin/record/SpellColumns" "agents" "[I" (.ref ag) → Fld Z hl ob "com/example/housemartin/housemartin/record/SpellColumns" "size" "I" (.int (Int32.ofNat nn)) → own_I Z hl ag 1024 fA → own_I Z hl b1 (mm + 2) (own_f1 A i) → i + r = nn → G (Tl.setTop (mkF m 8 #[.val (.ref ob), .val (.int (Int32.ofNat mm)), .val (.ref b1), .val (.int (Int32.ofNat i)), .unset] [])) := by
    intro r
    induction r with
    | zero =>
      intro i Tl hl ll Xl el Nl Zl Kl q0 q1 q2 q3 hr
      have hi : i = nn := by omega
      have hlt : ¬ (Int32.ofNat i) < (Int32.ofNat nn) := by rw [own_lt_nat (by omega) (by omega)]; omega
      refine go (fun tg kg => XS.iloadN Xl.here hx rfl (hb hby d3_8) rfl kg) ?_
      show G (Tl.setTop (mkF m 9 #[.val (.ref ob), .val (.int (Int32.ofNat mm)), .val (.ref b1), .val (.int (Int32.ofNat i)), .unset] [(.int (Int32.ofNat i))]))
      refine go (fun tg kg => XS.aloadN Xl.here hx rfl (hb hby d3_9) rfl rfl kg) ?_
      show G (Tl.setTop (mkF m 10 #[.val (.ref ob), .val (.int (Int32.ofNat mm)), .val (.ref b1), .val (.int (Int32.ofNat i)), .unset] [(.ref ob), (.int (Int32.ofNat i))]))
      obtain ⟨T5, X5, e5, st5⟩ := getF Xl hx hZ hown (host := "") (Or.inl (hw _ (List.mem_of_getElem? (i := 30) rfl))) Via.refl el q1 (g := (mkF m 10 #[.val (.ref ob), .val (.int (Int32.ofNat mm)), .val (.ref b1), .val (.int (Int32.ofNat i)), .unset] [(.ref ob), (.int (Int32.ofNat i))])) rfl rfl (hb hby d3_10)
      refine go st5 ?_
      show G (T5.setTop (mkF m 13 #[.val (.ref ob), .val (.int (Int32.ofNat mm)), .val (.ref b1), .val (.int (Int32.ofNat i)), .unset] [(.int (Int32.ofNat nn)), (.int (Int32.ofNat i))]))
      refine go (fun tg kg => XS.icmpYes X5.here hx rfl (pc0 := 13) (pc' := 36) rfl (hb hby d3_13) rfl (flt hlt).2.1 (by decide) (by decide) kg) ?_
      show G (T5.setTop (mkF m 36 #[.val (.ref ob), .val (.int (Int32.ofNat mm)), .val (.ref b1), .val (.int (Int32.ofNat i)), .unset] []))
      refine go (fun tg kg => XS.iconst X5.here hx rfl (hb hby d3_36) kg) ?_
      show G (T5.setTop (mkF m 37 #[.val (.ref ob), .val (.int (Int32.ofNat mm)), .val (.ref b1), .val (.int (Int32.ofNat i)), .unset] [(.int (1 : Int32))]))
      refine go (fun tg kg => XS.istoreN X5.here hx rfl (hb hby d3_37) rfl (l' := #[.val (.ref ob), .val (.int (Int32.ofNat mm)), .val (.ref b1), .val (.int (1 : Int32)), .unset]) rfl kg) ?_
      show G (T5.setTop (mkF m 38 #[.val (.ref ob), .val (.int (Int32.ofNat mm)), .val (.ref b1), .val (.int (1 : Int32)), .unset] []))
      have hj := hi.symm
      subst hj
      have loop2 : ∀ (r i : Nat) (Tl : State) (hl : Heap) (ll : List Loc), Stand p l e ({ frames := 0, cells := 2, slots := 14, locals := 0 } : Room) s m #[(.ref ob), (.int (Int32.ofNat mm))] below meth c Tl ll 1 10 → Tl.heap = hl → Fr n0 ll → n0 ≤ hl.size → Keep h0 hl [] → Fld Z hl ob "com/example/housemartin/housemartin/record/SpellColumns" "agents" "[I" (.ref ag) → Fld Z hl ob "com/example/housemartin/housemartin/record/SpellColumns" "size" "I" (.int (Int32.ofNat nn)) → own_I Z hl ag 1024 fA → own_I Z hl b1 (mm + 2) (own_f2 A nn i) → 1 ≤ i ∧ i + r = mm + 2 → G (Tl.setTop (mkF m 38 #[.val (.ref ob), .val (.int (Int32.ofNat mm)), .val (.ref b1), .val (.int (Int32.ofNat i)), .unset] [])) := by
        intro r
        induction r with
        | zero =>
          intro i Tl hl ll Xl el Nl Zl Kl q0 q1 q2 q3 hr
          have hi2 : i = mm + 2 := by omega
          have hlt : ¬ (Int32.ofNat i) < (Int32.ofNat (mm + 2)) := by rw [own_lt_nat (by omega) (by omega)]; omega
          refine go (fun tg kg => XS.iloadN Xl.here hx rfl (hb hby d3_38) rfl kg) ?_
          show G (Tl.setTop (mkF m 39 #[.val (.ref ob), .val (.int (Int32.ofNat mm)), .val (.ref b1), .val (.int (Int32.ofNat i)), .unset] [(.int (Int32.ofNat i))]))
          refine go (fun tg kg => XS.aloadN Xl.here hx rfl (hb hby d3_39) rfl rfl kg) ?_
          show G (Tl.setTop (mkF m 40 #[.val (.ref ob), .val (.int (Int32.ofNat mm)), .val (.ref b1), .val (.int (Int32.ofNat i)), .unset] [(.ref b1), (.int (Int32.ofNat i))]))
          obtain ⟨cl6, Ar6, S6, -⟩ := id q3
          refine go (fun tg kg => Xl.arraylength hx (by rw [el]; exact Ar6.1) (State.isArrayOf_alike hZ.alike Ar6.2.1) (g := (mkF m 40 #[.val (.ref ob), .val (.int (Int32.ofNat mm)), .val (.ref b1), .val (.int (Int32.ofNat i)), .unset] [(.ref b1), (.int (Int32.ofNat i))])) rfl rfl (hb hby d3_40) _ kg) ?_
          rw [S6]
          show G (Tl.setTop (mkF m 41 #[.val (.ref ob), .val (.int (Int32.ofNat mm)), .val (.ref b1), .val (.int (Int32.ofNat i)), .unset] [(.int (Int32.ofNat (mm + 2))), (.int (Int32.ofNat i))]))
          refine go (fun tg kg => XS.icmpYes Xl.here hx rfl (pc0 := 41) (pc' := 61) rfl (hb hby d3_41) rfl (flt hlt).2.1 (by decide) (by decide) kg) ?_
          show G (Tl.setTop (mkF m 61 #[.val (.ref ob), .val (.int (Int32.ofNat mm)), .val (.ref b1), .val (.int (Int32.ofNat i)), .unset] []))
          refine go (fun tg kg => XS.aloadN Xl.here hx rfl (hb hby d3_61) rfl rfl kg) ?_
          show G (Tl.setTop (mkF m 62 #[.val (.ref ob), .val (.int (Int32.ofNat mm)), .val (.ref b1), .val (.int (Int32.ofNat i)), .unset] [(.ref ob)]))
          obtain ⟨T7, X7, e7, st7⟩ := getF Xl hx hZ hown (host := "") (Or.inl (hw _ (List.mem_of_getElem? (i := 30) rfl))) Via.refl el q1 (g := (mkF m 62 #[.val (.ref ob), .val (.int (Int32.ofNat mm)), .val (.ref b1), .val (.int (Int32.ofNat i)), .unset] [(.ref ob)])) rfl rfl (hb hby d3_62)
          refine go st7 ?_
          show G (T7.setTop (mkF m 65 #[.val (.ref ob), .val (.int (Int32.ofNat mm)), .val (.ref b1), .val (.int (Int32.ofNat i)), .unset] [(.int (Int32.ofNat nn))]))
          obtain ⟨T8, h8, k8, X8, e8, E8, A8, st8⟩ := newP X7 hx hZ (hw _ (List.mem_of_getElem? (i := 0) rfl)) e7 (g := (mkF m 65 #[.val (.ref ob), .val (.int (Int32.ofNat mm)), .val (.ref b1), .val (.int (Int32.ofNat i)), .unset] [(.int (Int32.ofNat nn))])) rfl (hb hby d3_65) rfl (own_ok_nat (n := nn + 1) (i := nn) (by omega) (by omega)).1 (cap := 4) (by rw [own_natN (by omega)]; omega) (by decide) (by decide) (by decide)
          obtain ⟨b8, g8⟩ : ∃ z, z = hl.size := ⟨_, rfl⟩
          rw [← g8] at A8 st8
          refine go st8 ?_
          have V8 : Arv Z h8 b8 k8 .int (Int32.ofNat nn) [] (.int (0 : Int32)) := Arv.new A8 (own_ok_nat (n := nn + 1) (i := nn) (by omega) (by omega)).1
          have ge_b8 : n0 ≤ b8 := Nat.le_trans Zl (Nat.le_of_eq g8.symm)
          have sz_b8 : h0.size ≤ b8 := Nat.le_trans Kl.1 (Nat.le_of_eq g8.symm)
          have K8 : Keep h0 h8 [] := Kl.ext E8
          have Z8 := Nat.le_trans Zl E8.1
          show G (T8.setTop (mkF m 67 #[.val (.ref ob), .val (.int (Int32.ofNat mm)), .val (.ref b1), .val (.int (Int32.ofNat i)), .unset] [(.ref b8)]))
          have Vo8 : own_I Z h8 b8 nn (own_ord A nn 0) := own_newI V8 (own_natN (by omega))
          have ne_oo : ob ≠ b8 := (Nat.ne_of_lt (Nat.lt_of_lt_of_le q0.lt (Nat.le_of_eq g8.symm)))
          have ne_ao : ag ≠ b8 := (Nat.ne_of_lt (Nat.lt_of_lt_of_le q2.lt (Nat.le_of_eq g8.symm)))
          have ne_fo : b1 ≠ b8 := (Nat.ne_of_lt (Nat.lt_of_lt_of_le q3.lt (Nat.le_of_eq g8.symm)))
          refine go (fun tg kg => XS.astoreN X8.here hx rfl (hb hby d3_67) rfl rfl (l' := #[.val (.ref ob), .val (.int (Int32.ofNat mm)), .val (.ref b1), .val (.ref b8), .unset]) rfl kg) ?_
          show G (T8.setTop (mkF m 68 #[.val (.ref ob), .val (.int (Int32.ofNat mm)), .val (.ref b1), .val (.ref b8), .unset] []))
          refine go (fun tg kg => XS.iconst X8.here hx rfl (hb hby d3_68) kg) ?_
          show G (T8.setTop (mkF m 69 #[.val (.ref ob), .val (.int (Int32.ofNat mm)), .val (.ref b1), .val (.ref b8), .unset] [(.int (0 : Int32))]))
          refine go (fun tg kg => XS.istore X8.here hx rfl (hb hby d3_69) rfl (l' := #[.val (.ref ob), .val (.int (Int32.ofNat mm)), .val (.ref b1), .val (.ref b8), .val (.int (0 : Int32))]) rfl kg) ?_
          show G (T8.setTop (mkF m 71 #[.val (.ref ob), .val (.int (Int32.ofNat mm)), .val (.ref b1), .val (.ref b8), .val (.int (0 : Int32))] []))
          have Fa9 := (q3.ext E8)
          have Vt : own_I Z h8 b1 (mm + 2) (own_f3 A nn 0) := (hi2 ▸ Fa9 : own_I Z h8 b1 (mm + 2) (own_f2 A nn (mm + 2))).like (own_f3_0 A nn (mm + 2))
          have Fa10 := (q0.ext E8)
          have Fa11 := (q1.ext E8)
          have Fa12 := (q2.ext E8)
          have loop3 : ∀ (r i : Nat) (Tl : State) (hl : Heap) (ll : List Loc), Stand p l e ({ frames := 0, cells := 2, slots := 14, locals := 0 } : Room) s m #[(.ref ob), (.int (Int32.ofNat mm))] below meth c Tl ll 2 14 → Tl.heap = hl → Fr n0 ll → n0 ≤ hl.size → Keep h0 hl [] → Fld Z hl ob "com/example/housemartin/housemartin/record/SpellColumns" "agents" "[I" (.ref ag) → Fld Z hl ob "com/example/housemartin/housemartin/record/SpellColumns" "size" "I" (.int (Int32.ofNat nn)) → own_I Z hl ag 1024 fA → own_I Z hl b1 (mm + 2) (own_f3 A nn i) → own_I Z hl b8 nn (own_ord A nn i) → i + r = nn → G (Tl.setTop (mkF m 71 #[.val (.ref ob), .val (.int (Int32.ofNat mm)), .val (.ref b1), .val (.ref b8), .val (.int (Int32.ofNat i))] [])) := by
            intro r
            induction r with
            | zero =>
              intro i Tl hl ll Xl el Nl Zl Kl q0 q1 q2 q3 q4 hr
              have hi : i = nn := by omega
              have hlt : ¬ (Int32.ofNat i) < (Int32.ofNat nn) := by rw [own_lt_nat (by omega) (by omega)]; omega
              refine go (fun tg kg => XS.iload Xl.here hx rfl (hb hby d3_71) rfl kg) ?_
              show G (Tl.setTop (mkF m 73 #[.val (.ref ob), .val (.int (Int32.ofNat mm)), .val (.ref b1), .val (.ref b8), .val (.int (Int32.ofNat i))] [(.int (Int32.ofNat i))]))
              refine go (fun tg kg => XS.aloadN Xl.here hx rfl (hb hby d3_73) rfl rfl kg) ?_
              show G (Tl.setTop (mkF m 74 #[.val (.ref ob), .val (.int (Int32.ofNat mm)), .val (.ref b1), .val (.ref b8), .val (.int (Int32.ofNat i))] [(.ref ob), (.int (Int32.ofNat i))]))
              obtain ⟨T13, X13, e13, st13⟩ := getF Xl hx hZ hown (host := "") (Or.inl (hw _ (List.mem_of_getElem? (i := 30) rfl))) Via.refl el q1 (g := (mkF m 74 #[.val (.ref ob), .val (.int (Int32.ofNat mm)), .val (.ref b1), .val (.ref b8), .val (.int (Int32.ofNat i))] [(.ref ob), (.int (Int32.ofNat i))])) rfl rfl (hb hby d3_74)
              refine go st13 ?_
              show G (T13.setTop (mkF m 77 #[.val (.ref ob), .val (.int (Int32.ofNat mm)), .val (.ref b1), .val (.ref b8), .val (.int (Int32.ofNat i))] [(.int (Int32.ofNat nn)), (.int (Int32.ofNat i))]))
              refine go (fun tg kg => XS.icmpYes X13.here hx rfl (pc0 := 77) (pc' := 104) rfl (hb hby d3_77) rfl (flt hlt).2.1 (by decide) (by decide) kg) ?_
              show G (T13.setTop (mkF m 104 #[.val (.ref ob), .val (.int (Int32.ofNat mm)), .val (.ref b1), .val (.ref b8), .val (.int (Int32.ofNat i))] []))
              refine go (fun tg kg => XS.aloadN X13.here hx rfl (hb hby d3_104) rfl rfl kg) ?_
              show G (T13.setTop (mkF m 105 #[.val (.ref ob), .val (.int (Int32.ofNat mm)), .val (.ref b1), .val (.ref b8), .val (.int (Int32.ofNat i))] [(.ref b8)]))
              refine fin (some (.ref b8)) X13 (fun h => absurd h (by decide)) (fun fs hr => retOut X13 hx hret rfl (Or.inr (Or.inr (Or.inr (Or.inr ⟨rfl, rfl, rfl⟩)))) (hb hby d3_105) hr) (by decide) (by decide) ?_
              rw [e13]
              have hj := hi.symm
              subst hj
              exact ⟨b8, rfl, Nl, Kl, sz_b8, q4⟩
            | succ r ih =>
              intro i Tl hl ll Xl el Nl Zl Kl q0 q1 q2 q3 q4 hr
              have hi : i < nn := by omega
              have hlt : (Int32.ofNat i) < (Int32.ofNat nn) := by rw [own_lt_nat (by omega) (by omega)]; omega
              have hAi := (hA i hi).2
              have hpo := own_pos_lt A hi
              refine go (fun tg kg => XS.iload Xl.here hx rfl (hb hby d3_71) rfl kg) ?_
              show G (Tl.setTop (mkF m 73 #[.val (.ref ob), .val (.int (Int32.ofNat mm)), .val (.ref b1), .val (.ref b8), .val (.int (Int32.ofNat i))] [(.int (Int32.ofNat i))]))
              refine go (fun tg kg => XS.aloadN Xl.here hx rfl (hb hby d3_73) rfl rfl kg) ?_
              show G (Tl.setTop (mkF m 74 #[.val (.ref ob), .val (.int (Int32.ofNat mm)), .val (.ref b1), .val (.ref b8), .val (.int (Int32.ofNat i))] [(.ref ob), (.int (Int32.ofNat i))]))
              obtain ⟨T14, X14, e14, st14⟩ := getF Xl hx hZ hown (host := "") (Or.inl (hw _ (List.mem_of_getElem? (i := 30) rfl))) Via.refl el q1 (g := (mkF m 74 #[.val (.ref ob), .val (.int (Int32.ofNat mm)), .val (.ref b1), .val (.ref b8), .val (.int (Int32.ofNat i))] [(.ref ob), (.int (Int32.ofNat i))])) rfl rfl (hb hby d3_74)
              refine go st14 ?_
              show G (T14.setTop (mkF m 77 #[.val (.ref ob), .val (.int (Int32.ofNat mm)), .val (.ref b1), .val (.ref b8), .val (.int (Int32.ofNat i))] [(.int (Int32.ofNat nn)), (.int (Int32.ofNat i))]))
              refine go (fun tg kg => XS.icmpNo X14.here hx rfl (hb hby d3_77) rfl (tlt hlt).2.1 kg) ?_
              show G (T14.setTop (mkF m 80 #[.val (.ref ob), .val (.int (Int32.ofNat mm)), .val (.ref b1), .val (.ref b8), .val (.int (Int32.ofNat i))] []))
              refine go (fun tg kg => XS.aloadN X14.here hx rfl (hb hby d3_80) rfl rfl kg) ?_
              show G (T14.setTop (mkF m 81 #[.val (.ref ob), .val (.int (Int32.ofNat mm)), .val (.ref b1), .val (.ref b8), .val (.int (Int32.ofNat i))] [(.ref b8)]))
              refine go (fun tg kg => XS.aloadN X14.here hx rfl (hb hby d3_81) rfl rfl kg) ?_
              show G (T14.setTop (mkF m 82 #[.val (.ref ob), .val (.int (Int32.ofNat mm)), .val (.ref b1), .val (.ref b8), .val (.int (Int32.ofNat i))] [(.ref b1), (.ref b8)]))
              refine go (fun tg kg => XS.aloadN X14.here hx rfl (hb hby d3_82) rfl rfl kg) ?_
              show G (T14.setTop (mkF m 83 #[.val (.ref ob), .val (.int (Int32.ofNat mm)), .val (.ref b1), .val (.ref b8), .val (.int (Int32.ofNat i))] [(.ref ob), (.ref b1), (.ref b8)]))
              obtain ⟨T15, X15, e15, st15⟩ := getF X14 hx hZ hown (host := "") (Or.inl (hw _ (List.mem_of_getElem? (i := 11) rfl))) Via.refl e14 q0 (g := (mkF m 83 #[.val (.ref ob), .val (.int (Int32.ofNat mm)), .val (.ref b1), .val (.ref b8), .val (.int (Int32.ofNat i))] [(.ref ob), (.ref b1), (.ref b8)])) rfl rfl (hb hby d3_83)
              refine go st15 ?_
              show G (T15.setTop (mkF m 86 #[.val (.ref ob), .val (.int (Int32.ofNat mm)), .val (.ref b1), .val (.ref b8), .val (.int (Int32.ofNat i))] [(.ref ag), (.ref b1), (.ref b8)]))
              refine go (fun tg kg => XS.iload X15.here hx rfl (hb hby d3_86) rfl kg) ?_
              show G (T15.setTop (mkF m 88 #[.val (.ref ob), .val (.int (Int32.ofNat mm)), .val (.ref b1), .val (.ref b8), .val (.int (Int32.ofNat i))] [(.int (Int32.ofNat i)), (.ref ag), (.ref b1), (.ref b8)]))
              obtain ⟨cl16, Ar16, S16, H16⟩ := id q2
              have ok16 : own_ok 1024 (Int32.ofNat i) := own_ok_nat (by omega) (by omega)
              have hin16 := own_in S16 ok16
              have kk16 := ok16.2
              rw [own_natN (by omega)] at kk16
              have hat16 : cl16.slots[((Int32.ofNat i)).toNatClampNeg]? = some (.int (fA i)) := by rw [own_natN (by omega)]; exact H16 _ kk16
              refine go (fun tg kg => X15.iaload hx (j := (Int32.ofNat i)) (v := (.int (fA i))) (by rw [e15]; exact Ar16.1) (State.isArrayOf_alike hZ.alike Ar16.2.1) Ar16.2.2 hin16 hat16 (g := (mkF m 88 #[.val (.ref ob), .val (.int (Int32.ofNat mm)), .val (.ref b1), .val (.ref b8), .val (.int (Int32.ofNat i))] [(.int (Int32.ofNat i)), (.ref ag), (.ref b1), (.ref b8)])) rfl rfl (hb hby d3_88) _ kg) ?_
              show G (T15.setTop (mkF m 89 #[.val (.ref ob), .val (.int (Int32.ofNat mm)), .val (.ref b1), .val (.ref b8), .val (.int (Int32.ofNat i))] [(.int (fA i)), (.ref b1), (.ref b8)]))
              rw [(hA i hi).1]
              show G (T15.setTop (mkF m 89 #[.val (.ref ob), .val (.int (Int32.ofNat mm)), .val (.ref b1), .val (.ref b8), .val (.int (Int32.ofNat i))] [(.int (Int32.ofNat (A i))), (.ref b1), (.ref b8)]))
              refine go (fun tg kg => Jvm.Free.XT.dup2 X15.here hx rfl (hb hby d3_89) rfl rfl rfl kg) ?_
              show G (T15.setTop (mkF m 90 #[.val (.ref ob), .val (.int (Int32.ofNat mm)), .val (.ref b1), .val (.ref b8), .val (.int (Int32.ofNat i))] [(.int (Int32.ofNat (A i))), (.ref b1), (.int (Int32.ofNat (A i))), (.ref b1), (.ref b8)]))
              obtain ⟨cl17, Ar17, S17, H17⟩ := id q3
              have ok17 : own_ok (mm + 2) (Int32.ofNat (A i)) := own_ok_nat (by omega) (by omega)
              have hin17 := own_in S17 ok17
              have kk17 := ok17.2
              rw [own_natN (by omega)] at kk17
              have hat17 : cl17.slots[((Int32.ofNat (A i))).toNatClampNeg]? = some (.int ((own_f3 A nn i) (A i))) := by rw [own_natN (by omega)]; exact H17 _ kk17
              refine go (fun tg kg => X15.iaload hx (j := (Int32.ofNat (A i))) (v := (.int ((own_f3 A nn i) (A i)))) (by rw [e15]; exact Ar17.1) (State.isArrayOf_alike hZ.alike Ar17.2.1) Ar17.2.2 hin17 hat17 (g := (mkF m 90 #[.val (.ref ob), .val (.int (Int32.ofNat mm)), .val (.ref b1), .val (.ref b8), .val (.int (Int32.ofNat i))] [(.int (Int32.ofNat (A i))), (.ref b1), (.int (Int32.ofNat (A i))), (.ref b1), (.ref b8)])) rfl rfl (hb hby d3_90) _ kg) ?_
              show G (T15.setTop (mkF m 91 #[.val (.ref ob), .val (.int (Int32.ofNat mm)), .val (.ref b1), .val (.ref b8), .val (.int (Int32.ofNat i))] [(.int ((own_f3 A nn i) (A i))), (.int (Int32.ofNat (A i))), (.ref b1), (.ref b8)]))
              refine go (b := T15.setTop (mkF m 92 #[.val (.ref ob), .val (.int (Int32.ofNat mm)), .val (.ref b1), .val (.ref b8), .val (.int (Int32.ofNat i))] [(.int ((own_f3 A nn i) (A i))), (.int (Int32.ofNat (A i))), (.ref b1), (.int ((own_f3 A nn i) (A i))), (.ref b8)])) (fun tg kg => ?_) ?_
              · jvm_step X15.here [X15.here.top, hx, (hb hby d3_91), Value.category]; exact kg
              show G (T15.setTop (mkF m 92 #[.val (.ref ob), .val (.int (Int32.ofNat mm)), .val (.ref b1), .val (.ref b8), .val (.int (Int32.ofNat i))] [(.int ((own_f3 A nn i) (A i))), (.int (Int32.ofNat (A i))), (.ref b1), (.int ((own_f3 A nn i) (A i))), (.ref b8)]))
              refine go (fun tg kg => XS.iconst X15.here hx rfl (hb hby d3_92) kg) ?_
              show G (T15.setTop (mkF m 93 #[.val (.ref ob), .val (.int (Int32.ofNat mm)), .val (.ref b1), .val (.ref b8), .val (.int (Int32.ofNat i))] [(.int (1 : Int32)), (.int ((own_f3 A nn i) (A i))), (.int (Int32.ofNat (A i))), (.ref b1), (.int ((own_f3 A nn i) (A i))), (.ref b8)]))
              refine go (fun tg kg => XS.iadd X15.here hx rfl (hb hby d3_93) rfl kg) ?_
              show G (T15.setTop (mkF m 94 #[.val (.ref ob), .val (.int (Int32.ofNat mm)), .val (.ref b1), .val (.ref b8), .val (.int (Int32.ofNat i))] [(.int (((own_f3 A nn i) (A i)) + (1 : Int32))), (.int (Int32.ofNat (A i))), (.ref b1), (.int ((own_f3 A nn i) (A i))), (.ref b8)]))
              obtain ⟨cl18, Ar18, S18, H18⟩ := id q3
              have ok18 : own_ok (mm + 2) (Int32.ofNat (A i)) := own_ok_nat (by omega) (by omega)
              have hin18 := own_in S18 ok18
              have kk18 := ok18.2
              rw [own_natN (by omega)] at kk18
              obtain ⟨T18, h18, X18, e18, W18, st18⟩ := stI X15 hx hZ e15 Ar18 (j := (Int32.ofNat (A i))) hin18 (g := (mkF m 94 #[.val (.ref ob), .val (.int (Int32.ofNat mm)), .val (.ref b1), .val (.ref b8), .val (.int (Int32.ofNat i))] [(.int (((own_f3 A nn i) (A i)) + (1 : Int32))), (.int (Int32.ofNat (A i))), (.ref b1), (.int ((own_f3 A nn i) (A i))), (.ref b8)])) rfl rfl (hb hby d3_94)
              refine go st18 ?_
              have N18 := Fr.snoc X18 Nl ge_b1
              have Wn18 := W18
              rw [own_natN (by omega)] at Wn18
              have V18 : own_I Z h18 b1 (mm + 2) (own_up (own_f3 A nn i) (A i) (((own_f3 A nn i) (A i)) + (1 : Int32))) := own_set Ar18 S18 H18 kk18 Wn18
              have K18 : Keep h0 h18 [] := Kl.wr W18 (Or.inr sz_b1)
              have Z18 := Nat.le_trans Zl (Keep.of_wr W18).1
              show G (T18.setTop (mkF m 95 #[.val (.ref ob), .val (.int (Int32.ofNat mm)), .val (.ref b1), .val (.ref b8), .val (.int (Int32.ofNat i))] [(.int ((own_f3 A nn i) (A i))), (.ref b8)]))
              show G (T18.setTop (mkF m 95 #[.val (.ref ob), .val (.int (Int32.ofNat mm)), .val (.ref b1), .val (.ref b8), .val (.int (Int32.ofNat i))] [(.int (Int32.ofNat (own_pos A nn i))), (.ref b8)]))
              refine go (fun tg kg => XS.iload X18.here hx rfl (hb hby d3_95) rfl kg) ?_
              show G (T18.setTop (mkF m 97 #[.val (.ref ob), .val (.int (Int32.ofNat mm)), .val (.ref b1), .val (.ref b8), .val (.int (Int32.ofNat i))] [(.int (Int32.ofNat i)), (.int (Int32.ofNat (own_pos A nn i))), (.ref b8)]))
              have Fa19 := (q4.other W18 (Ne.symm ne_fo))
              obtain ⟨cl20, Ar20, S20, H20⟩ := id Fa19
              have ok20 : own_ok nn (Int32.ofNat (own_pos A nn i)) := own_ok_nat (by omega) (by omega)
              have hin20 := own_in S20 ok20
              have kk20 := ok20.2
              rw [own_natN (by omega)] at kk20
              obtain ⟨T20, h20, X20, e20, W20, st20⟩ := stI X18 hx hZ e18 Ar20 (j := (Int32.ofNat (own_pos A nn i))) hin20 (g := (mkF m 97 #[.val (.ref ob), .val (.int (Int32.ofNat mm)), .val (.ref b1), .val (.ref b8), .val (.int (Int32.ofNat i))] [(.int (Int32.ofNat i)), (.int (Int32.ofNat (own_pos A nn i))), (.ref b8)])) rfl rfl (hb hby d3_97)
              refine go st20 ?_
              have N20 := Fr.snoc X20 N18 ge_b8
              have Wn20 := W20
              rw [own_natN (by omega)] at Wn20
              have V20 : own_I Z h20 b8 nn (own_up (own_ord A nn i) (own_pos A nn i) (Int32.ofNat i)) := own_set Ar20 S20 H20 kk20 Wn20
              have K20 : Keep h0 h20 [] := K18.wr W20 (Or.inr sz_b8)
              have Z20 := Nat.le_trans Z18 (Keep.of_wr W20).1
              show G (T20.setTop (mkF m 98 #[.val (.ref ob), .val (.int (Int32.ofNat mm)), .val (.ref b1), .val (.ref b8), .val (.int (Int32.ofNat i))] []))
              refine go (fun tg kg => XS.iinc X20.here hx rfl (hb hby d3_98) rfl (l' := #[.val (.ref ob), .val (.int (Int32.ofNat mm)), .val (.ref b1), .val (.ref b8), .val (.int ((Int32.ofNat i) + (1 : Int32)))]) rfl kg) ?_
              show G (T20.setTop (mkF m 101 #[.val (.ref ob), .val (.int (Int32.ofNat mm)), .val (.ref b1), .val (.ref b8), .val (.int ((Int32.ofNat i) + (1 : Int32)))] []))
              refine go (fun tg kg => XS.goto X20.here hx rfl (pc0 := 101) (pc' := 71) rfl (hb hby d3_101) (by decide) (by decide) kg) ?_
              show G (T20.setTop (mkF m 71 #[.val (.ref ob), .val (.int (Int32.ofNat mm)), .val (.ref b1), .val (.ref b8), .val (.int ((Int32.ofNat i) + (1 : Int32)))] []))
              rw [own_add1]
              have Fa21 := ((q0.other W18 (Or.inl ne_of)).other W20 (Or.inl ne_oo))
              have Fa22 := ((q1.other W18 (Or.inl ne_of)).other W20 (Or.inl ne_oo))
              have Fa23 := ((q2.other W18 ne_af).other W20 ne_ao)
              have Fa24 := (V18.other W20 ne_fo)
              exact ih (i + 1) _ _ _ X20 e20 N20 Z20 K20 Fa21 Fa22 Fa23 (own_f3S A nn i ▸ Fa24) V20 (by omega)
          exact loop3 nn 0 _ _ _ X8 e8 Nl Z8 K8 Fa10 Fa11 Fa12 Vt Vo8 (by omega)
        | succ r ih =>
          intro i Tl hl ll Xl el Nl Zl Kl q0 q1 q2 q3 hr
          have hi2 : i < mm + 2 := by omega
          have hlt : (Int32.ofNat i) < (Int32.ofNat (mm + 2)) := by rw [own_lt_nat (by omega) (by omega)]; omega
          refine go (fun tg kg => XS.iloadN Xl.here hx rfl (hb hby d3_38) rfl kg) ?_
          show G (Tl.setTop (mkF m 39 #[.val (.ref ob), .val (.int (Int32.ofNat mm)), .val (.ref b1), .val (.int (Int32.ofNat i)), .unset] [(.int (Int32.ofNat i))]))
          refine go (fun tg kg => XS.aloadN Xl.here hx rfl (hb hby d3_39) rfl rfl kg) ?_
          show G (Tl.setTop (mkF m 40 #[.val (.ref ob), .val (.int (Int32.ofNat mm)), .val (.ref b1), .val (.int (Int32.ofNat i)), .unset] [(.ref b1), (.int (Int32.ofNat i))]))
          obtain ⟨cl25, Ar25, S25, -⟩ := id q3
          refine go (fun tg kg => Xl.arraylength hx (by rw [el]; exact Ar25.1) (State.isArrayOf_alike hZ.alike Ar25.2.1) (g := (mkF m 40 #[.val (.ref ob), .val (.int (Int32.ofNat mm)), .val (.ref b1), .val (.int (Int32.ofNat i)), .unset] [(.ref b1), (.int (Int32.ofNat i))])) rfl rfl (hb hby d3_40) _ kg) ?_
          rw [S25]
          show G (Tl.setTop (mkF m 41 #[.val (.ref ob), .val (.int (Int32.ofNat mm)), .val (.ref b1), .val (.int (Int32.ofNat i)), .unset] [(.int (Int32.ofNat (mm + 2))), (.int (Int32.ofNat i))]))
          refine go (fun tg kg => XS.icmpNo Xl.here hx rfl (hb hby d3_41) rfl (tlt hlt).2.1 kg) ?_
          show G (Tl.setTop (mkF m 44 #[.val (.ref ob), .val (.int (Int32.ofNat mm)), .val (.ref b1), .val (.int (Int32.ofNat i)), .unset] []))
          refine go (fun tg kg => XS.aloadN Xl.here hx rfl (hb hby d3_44) rfl rfl kg) ?_
          show G (Tl.setTop (mkF m 45 #[.val (.ref ob), .val (.int (Int32.ofNat mm)), .val (.ref b1), .val (.int (Int32.ofNat i)), .unset] [(.ref b1)]))
          refine go (fun tg kg => XS.iloadN Xl.here hx rfl (hb hby d3_45) rfl kg) ?_
          show G (Tl.setTop (mkF m 46 #[.val (.ref ob), .val (.int (Int32.ofNat mm)), .val (.ref b1), .val (.int (Int32.ofNat i)), .unset] [(.int (Int32.ofNat i)), (.ref b1)]))
          refine go (fun tg kg => Jvm.Free.XT.dup2 Xl.here hx rfl (hb hby d3_46) rfl rfl rfl kg) ?_
          show G (Tl.setTop (mkF m 47 #[.val (.ref ob), .val (.int (Int32.ofNat mm)), .val (.ref b1), .val (.int (Int32.ofNat i)), .unset] [(.int (Int32.ofNat i)), (.ref b1), (.int (Int32.ofNat i)), (.ref b1)]))
          obtain ⟨cl26, Ar26, S26, H26⟩ := id q3
          have ok26 : own_ok (mm + 2) (Int32.ofNat i) := own_ok_nat (by omega) (by omega)
          have hin26 := own_in S26 ok26
          have kk26 := ok26.2
          rw [own_natN (by omega)] at kk26
          have hat26 : cl26.slots[((Int32.ofNat i)).toNatClampNeg]? = some (.int ((own_f2 A nn i) i)) := by rw [own_natN (by omega)]; exact H26 _ kk26
          refine go (fun tg kg => Xl.iaload hx (j := (Int32.ofNat i)) (v := (.int ((own_f2 A nn i) i))) (by rw [el]; exact Ar26.1) (State.isArrayOf_alike hZ.alike Ar26.2.1) Ar26.2.2 hin26 hat26 (g := (mkF m 47 #[.val (.ref ob), .val (.int (Int32.ofNat mm)), .val (.ref b1), .val (.int (Int32.ofNat i)), .unset] [(.int (Int32.ofNat i)), (.ref b1), (.int (Int32.ofNat i)), (.ref b1)])) rfl rfl (hb hby d3_47) _ kg) ?_
          show G (Tl.setTop (mkF m 48 #[.val (.ref ob), .val (.int (Int32.ofNat mm)), .val (.ref b1), .val (.int (Int32.ofNat i)), .unset] [(.int ((own_f2 A nn i) i)), (.int (Int32.ofNat i)), (.ref b1)]))
          refine go (fun tg kg => XS.aloadN Xl.here hx rfl (hb hby d3_48) rfl rfl kg) ?_
          show G (Tl.setTop (mkF m 49 #[.val (.ref ob), .val (.int (Int32.ofNat mm)), .val (.ref b1), .val (.int (Int32.ofNat i)), .unset] [(.ref b1), (.int ((own_f2 A nn i) i)), (.int (Int32.ofNat i)), (.ref b1)]))
          refine go (fun tg kg => XS.iloadN Xl.here hx rfl (hb hby d3_49) rfl kg) ?_
          show G (Tl.setTop (mkF m 50 #[.val (.ref ob), .val (.int (Int32.ofNat mm)), .val (.ref b1), .val (.int (Int32.ofNat i)), .unset] [(.int (Int32.ofNat i)), (.ref b1), (.int ((own_f2 A nn i) i)), (.int (Int32.ofNat i)), (.ref b1)]))
          refine go (fun tg kg => XS.iconst Xl.here hx rfl (hb hby d3_50) kg) ?_
          show G (Tl.setTop (mkF m 51 #[.val (.ref ob), .val (.int (Int32.ofNat mm)), .val (.ref b1), .val (.int (Int32.ofNat i)), .unset] [(.int (1 : Int32)), (.int (Int32.ofNat i)), (.ref b1), (.int ((own_f2 A nn i) i)), (.int (Int32.ofNat i)), (.ref b1)]))
          refine go (fun tg kg => XS.isub Xl.here hx rfl (hb hby d3_51) rfl kg) ?_
          show G (Tl.setTop (mkF m 52 #[.val (.ref ob), .val (.int (Int32.ofNat mm)), .val (.ref b1), .val (.int (Int32.ofNat i)), .unset] [(.int ((Int32.ofNat i) - (1 : Int32))), (.ref b1), (.int ((own_f2 A nn i) i)), (.int (Int32.ofNat i)), (.ref b1)]))
          rw [own_sub1 (by omega) (by omega)]
          show G (Tl.setTop (mkF m 52 #[.val (.ref ob), .val (.int (Int32.ofNat mm)), .val (.ref b1), .val (.int (Int32.ofNat i)), .unset] [(.int (Int32.ofNat (i - 1))), (.ref b1), (.int ((own_f2 A nn i) i)), (.int (Int32.ofNat i)), (.ref b1)]))
          obtain ⟨cl27, Ar27, S27, H27⟩ := id q3
          have ok27 : own_ok (mm + 2) (Int32.ofNat (i - 1)) := own_ok_nat (by omega) (by omega)
          have hin27 := own_in S27 ok27
          have kk27 := ok27.2
          rw [own_natN (by omega)] at kk27
          have hat27 : cl27.slots[((Int32.ofNat (i - 1))).toNatClampNeg]? = some (.int ((own_f2 A nn i) (i - 1))) := by rw [own_natN (by omega)]; exact H27 _ kk27
          refine go (fun tg kg => Xl.iaload hx (j := (Int32.ofNat (i - 1))) (v := (.int ((own_f2 A nn i) (i - 1)))) (by rw [el]; exact Ar27.1) (State.isArrayOf_alike hZ.alike Ar27.2.1) Ar27.2.2 hin27 hat27 (g := (mkF m 52 #[.val (.ref ob), .val (.int (Int32.ofNat mm)), .val (.ref b1), .val (.int (Int32.ofNat i)), .unset] [(.int (Int32.ofNat (i - 1))), (.ref b1), (.int ((own_f2 A nn i) i)), (.int (Int32.ofNat i)), (.ref b1)])) rfl rfl (hb hby d3_52) _ kg) ?_
          show G (Tl.setTop (mkF m 53 #[.val (.ref ob), .val (.int (Int32.ofNat mm)), .val (.ref b1), .val (.int (Int32.ofNat i)), .unset] [(.int ((own_f2 A nn i) (i - 1))), (.int ((own_f2 A nn i) i)), (.int (Int32.ofNat i)), (.ref b1)]))
          refine go (fun tg kg => XS.iadd Xl.here hx rfl (hb hby d3_53) rfl kg) ?_
          show G (Tl.setTop (mkF m 54 #[.val (.ref ob), .val (.int (Int32.ofNat mm)), .val (.ref b1), .val (.int (Int32.ofNat i)), .unset] [(.int (((own_f2 A nn i) i) + ((own_f2 A nn i) (i - 1)))), (.int (Int32.ofNat i)), (.ref b1)]))
          obtain ⟨cl28, Ar28, S28, H28⟩ := id q3
          have ok28 : own_ok (mm + 2) (Int32.ofNat i) := own_ok_nat (by omega) (by omega)
          have hin28 := own_in S28 ok28
          have kk28 := ok28.2
          rw [own_natN (by omega)] at kk28
          obtain ⟨T28, h28, X28, e28, W28, st28⟩ := stI Xl hx hZ el Ar28 (j := (Int32.ofNat i)) hin28 (g := (mkF m 54 #[.val (.ref ob), .val (.int (Int32.ofNat mm)), .val (.ref b1), .val (.int (Int32.ofNat i)), .unset] [(.int (((own_f2 A nn i) i) + ((own_f2 A nn i) (i - 1)))), (.int (Int32.ofNat i)), (.ref b1)])) rfl rfl (hb hby d3_54)
          refine go st28 ?_
          have N28 := Fr.snoc X28 Nl ge_b1
          have Wn28 := W28
          rw [own_natN (by omega)] at Wn28
          have V28 : own_I Z h28 b1 (mm + 2) (own_up (own_f2 A nn i) i (((own_f2 A nn i) i) + ((own_f2 A nn i) (i - 1)))) := own_set Ar28 S28 H28 kk28 Wn28
          have K28 : Keep h0 h28 [] := Kl.wr W28 (Or.inr sz_b1)
          have Z28 := Nat.le_trans Zl (Keep.of_wr W28).1
          show G (T28.setTop (mkF m 55 #[.val (.ref ob), .val (.int (Int32.ofNat mm)), .val (.ref b1), .val (.int (Int32.ofNat i)), .unset] []))
          refine go (fun tg kg => XS.iinc X28.here hx rfl (hb hby d3_55) rfl (l' := #[.val (.ref ob), .val (.int (Int32.ofNat mm)), .val (.ref b1), .val (.int ((Int32.ofNat i) + (1 : Int32))), .unset]) rfl kg) ?_
          show G (T28.setTop (mkF m 58 #[.val (.ref ob), .val (.int (Int32.ofNat mm)), .val (.ref b1), .val (.int ((Int32.ofNat i) + (1 : Int32))), .unset] []))
          refine go (fun tg kg => XS.goto X28.here hx rfl (pc0 := 58) (pc' := 38) rfl (hb hby d3_58) (by decide) (by decide) kg) ?_
          show G (T28.setTop (mkF m 38 #[.val (.ref ob), .val (.int (Int32.ofNat mm)), .val (.ref b1), .val (.int ((Int32.ofNat i) + (1 : Int32))), .unset] []))
          rw [own_add1]
          have Fa29 := (q0.other W28 (Or.inl ne_of))
          have Fa30 := (q1.other W28 (Or.inl ne_of))
          have Fa31 := (q2.other W28 ne_af)
          exact ih (i + 1) _ _ _ X28 e28 N28 Z28 K28 Fa29 Fa30 Fa31 (own_f2S A nn i (by omega) ▸ V28) (by omega)
      exact loop2 (mm + 1) 1 _ _ _ X5 e5 Nl Zl Kl q0 q1 q2 ((own_f2_1 A _).symm ▸ q3) (by omega)
    | succ r ih =>
      intro i Tl hl ll Xl el Nl Zl Kl q0 q1 q2 q3 hr
      have hi : i < nn := by omega
      have hlt : (Int32.ofNat i) < (Int32.ofNat nn) := by rw [own_lt_nat (by omega) (by omega)]; omega
      have hAi := (hA i hi).2
      refine go (fun tg kg => XS.iloadN Xl.here hx rfl (hb hby d3_8) rfl kg) ?_
      show G (Tl.setTop (mkF m 9 #[.val (.ref ob), .val (.int (Int32.ofNat mm)), .val (.ref b1), .val (.int (Int32.ofNat i)), .unset] [(.int (Int32.ofNat i))]))
      refine go (fun tg kg => XS.aloadN Xl.here hx rfl (hb hby d3_9) rfl rfl kg) ?_
      show G (Tl.setTop (mkF m 10 #[.val (.ref ob), .val (.int (Int32.ofNat mm)), .val (.ref b1), .val (.int (Int32.ofNat i)), .unset] [(.ref ob), (.int (Int32.ofNat i))]))
      obtain ⟨T32, X32, e32, st32⟩ := getF Xl hx hZ hown (host := "") (Or.inl (hw _ (List.mem_of_getElem? (i := 30) rfl))) Via.refl el q1 (g := (mkF m 10 #[.val (.ref ob), .val (.int (Int32.ofNat mm)), .val (.ref b1), .val (.int (Int32.ofNat i)), .unset] [(.ref ob), (.int (Int32.ofNat i))])) rfl rfl (hb hby d3_10)
      refine go st32 ?_
      show G (T32.setTop (mkF m 13 #[.val (.ref ob), .val (.int (Int32.ofNat mm)), .val (.ref b1), .val (.int (Int32.ofNat i)), .unset] [(.int (Int32.ofNat nn)), (.int (Int32.ofNat i))]))
      refine go (fun tg kg => XS.icmpNo X32.here hx rfl (hb hby d3_13) rfl (tlt hlt).2.1 kg) ?_
      show G (T32.setTop (mkF m 16 #[.val (.ref ob), .val (.int (Int32.ofNat mm)), .val (.ref b1), .val (.int (Int32.ofNat i)), .unset] []))
      refine go (fun tg kg => XS.aloadN X32.here hx rfl (hb hby d3_16) rfl rfl kg) ?_
      show G (T32.setTop (mkF m 17 #[.val (.ref ob), .val (.int (Int32.ofNat mm)), .val (.ref b1), .val (.int (Int32.ofNat i)), .unset] [(.ref b1)]))
      refine go (fun tg kg => XS.aloadN X32.here hx rfl (hb hby d3_17) rfl rfl kg) ?_
      show G (T32.setTop (mkF m 18 #[.val (.ref ob), .val (.int (Int32.ofNat mm)), .val (.ref b1), .val (.int (Int32.ofNat i)), .unset] [(.ref ob), (.ref b1)]))
      obtain ⟨T33, X33, e33, st33⟩ := getF X32 hx hZ hown (host := "") (Or.inl (hw _ (List.mem_of_getElem? (i := 11) rfl))) Via.refl e32 q0 (g := (mkF m 18 #[.val (.ref ob), .val (.int (Int32.ofNat mm)), .val (.ref b1), .val (.int (Int32.ofNat i)), .unset] [(.ref ob), (.ref b1)])) rfl rfl (hb hby d3_18)
      refine go st33 ?_
      show G (T33.setTop (mkF m 21 #[.val (.ref ob), .val (.int (Int32.ofNat mm)), .val (.ref b1), .val (.int (Int32.ofNat i)), .unset] [(.ref ag), (.ref b1)]))
      refine go (fun tg kg => XS.iloadN X33.here hx rfl (hb hby d3_21) rfl kg) ?_
      show G (T33.setTop (mkF m 22 #[.val (.ref ob), .val (.int (Int32.ofNat mm)), .val (.ref b1), .val (.int (Int32.ofNat i)), .unset] [(.int (Int32.ofNat i)), (.ref ag), (.ref b1)]))
      obtain ⟨cl34, Ar34, S34, H34⟩ := id q2
      have ok34 : own_ok 1024 (Int32.ofNat i) := own_ok_nat (by omega) (by omega)
      have hin34 := own_in S34 ok34
      have kk34 := ok34.2
      rw [own_natN (by omega)] at kk34
      have hat34 : cl34.slots[((Int32.ofNat i)).toNatClampNeg]? = some (.int (fA i)) := by rw [own_natN (by omega)]; exact H34 _ kk34
      refine go (fun tg kg => X33.iaload hx (j := (Int32.ofNat i)) (v := (.int (fA i))) (by rw [e33]; exact Ar34.1) (State.isArrayOf_alike hZ.alike Ar34.2.1) Ar34.2.2 hin34 hat34 (g := (mkF m 22 #[.val (.ref ob), .val (.int (Int32.ofNat mm)), .val (.ref b1), .val (.int (Int32.ofNat i)), .unset] [(.int (Int32.ofNat i)), (.ref ag), (.ref b1)])) rfl rfl (hb hby d3_22) _ kg) ?_
      show G (T33.setTop (mkF m 23 #[.val (.ref ob), .val (.int (Int32.ofNat mm)), .val (.ref b1), .val (.int (Int32.ofNat i)), .unset] [(.int (fA i)), (.ref b1)]))
      rw [(hA i hi).1]
      show G (T33.setTop (mkF m 23 #[.val (.ref ob), .val (.int (Int32.ofNat mm)), .val (.ref b1), .val (.int (Int32.ofNat i)), .unset] [(.int (Int32.ofNat (A i))), (.ref b1)]))
      refine go (fun tg kg => XS.iconst X33.here hx rfl (hb hby d3_23) kg) ?_
      show G (T33.setTop (mkF m 24 #[.val (.ref ob), .val (.int (Int32.ofNat mm)), .val (.ref b1), .val (.int (Int32.ofNat i)), .unset] [(.int (1 : Int32)), (.int (Int32.ofNat (A i))), (.ref b1)]))
      refine go (fun tg kg => XS.iadd X33.here hx rfl (hb hby d3_24) rfl kg) ?_
      show G (T33.setTop (mkF m 25 #[.val (.ref ob), .val (.int (Int32.ofNat mm)), .val (.ref b1), .val (.int (Int32.ofNat i)), .unset] [(.int ((Int32.ofNat (A i)) + (1 : Int32))), (.ref b1)]))
      rw [own_add1]
      show G (T33.setTop (mkF m 25 #[.val (.ref ob), .val (.int (Int32.ofNat mm)), .val (.ref b1), .val (.int (Int32.ofNat i)), .unset] [(.int (Int32.ofNat (A i + 1))), (.ref b1)]))
      refine go (fun tg kg => Jvm.Free.XT.dup2 X33.here hx rfl (hb hby d3_25) rfl rfl rfl kg) ?_
      show G (T33.setTop (mkF m 26 #[.val (.ref ob), .val (.int (Int32.ofNat mm)), .val (.ref b1), .val (.int (Int32.ofNat i)), .unset] [(.int (Int32.ofNat (A i + 1))), (.ref b1), (.int (Int32.ofNat (A i + 1))), (.ref b1)]))
      obtain ⟨cl35, Ar35, S35, H35⟩ := id q3
      have ok35 : own_ok (mm + 2) (Int32.ofNat (A i + 1)) := own_ok_nat (by omega) (by omega)
      have hin35 := own_in S35 ok35
      have kk35 := ok35.2
      rw [own_natN (by omega)] at kk35
      have hat35 : cl35.slots[((Int32.ofNat (A i + 1))).toNatClampNeg]? = some (.int ((own_f1 A i) (A i + 1))) := by rw [own_natN (by omega)]; exact H35 _ kk35
      refine go (fun tg kg => X33.iaload hx (j := (Int32.ofNat (A i + 1))) (v := (.int ((own_f1 A i) (A i + 1)))) (by rw [e33]; exact Ar35.1) (State.isArrayOf_alike hZ.alike Ar35.2.1) Ar35.2.2 hin35 hat35 (g := (mkF m 26 #[.val (.ref ob), .val (.int (Int32.ofNat mm)), .val (.ref b1), .val (.int (Int32.ofNat i)), .unset] [(.int (Int32.ofNat (A i + 1))), (.ref b1), (.int (Int32.ofNat (A i + 1))), (.ref b1)])) rfl rfl (hb hby d3_26) _ kg) ?_
      show G (T33.setTop (mkF m 27 #[.val (.ref ob), .val (.int (Int32.ofNat mm)), .val (.ref b1), .val (.int (Int32.ofNat i)), .unset] [(.int ((own_f1 A i) (A i + 1))), (.int (Int32.ofNat (A i + 1))), (.ref b1)]))
      refine go (fun tg kg => XS.iconst X33.here hx rfl (hb hby d3_27) kg) ?_
      show G (T33.setTop (mkF m 28 #[.val (.ref ob), .val (.int (Int32.ofNat mm)), .val (.ref b1), .val (.int (Int32.ofNat i)), .unset] [(.int (1 : Int32)), (.int ((own_f1 A i) (A i + 1))), (.int (Int32.ofNat (A i + 1))), (.ref b1)]))
      refine go (fun tg kg => XS.iadd X33.here hx rfl (hb hby d3_28) rfl kg) ?_
      show G (T33.setTop (mkF m 29 #[.val (.ref ob), .val (.int (Int32.ofNat mm)), .val (.ref b1), .val (.int (Int32.ofNat i)), .unset] [(.int (((own_f1 A i) (A i + 1)) + (1 : Int32))), (.int (Int32.ofNat (A i + 1))), (.ref b1)]))
      obtain ⟨cl36, Ar36, S36, H36⟩ := id q3
      have ok36 : own_ok (mm + 2) (Int32.ofNat (A i + 1)) := own_ok_nat (by omega) (by omega)
      have hin36 := own_in S36 ok36
      have kk36 := ok36.2
      rw [own_natN (by omega)] at kk36
      obtain ⟨T36, h36, X36, e36, W36, st36⟩ := stI X33 hx hZ e33 Ar36 (j := (Int32.ofNat (A i + 1))) hin36 (g := (mkF m 29 #[.val (.ref ob), .val (.int (Int32.ofNat mm)), .val (.ref b1), .val (.int (Int32.ofNat i)), .unset] [(.int (((own_f1 A i) (A i + 1)) + (1 : Int32))), (.int (Int32.ofNat (A i + 1))), (.ref b1)])) rfl rfl (hb hby d3_29)
      refine go st36 ?_
      have N36 := Fr.snoc X36 Nl ge_b1
      have Wn36 := W36
      rw [own_natN (by omega)] at Wn36
      have V36 : own_I Z h36 b1 (mm + 2) (own_up (own_f1 A i) (A i + 1) (((own_f1 A i) (A i + 1)) + (1 : Int32))) := own_set Ar36 S36 H36 kk36 Wn36
      have K36 : Keep h0 h36 [] := Kl.wr W36 (Or.inr sz_b1)
      have Z36 := Nat.le_trans Zl (Keep.of_wr W36).1
      show G (T36.setTop (mkF m 30 #[.val (.ref ob), .val (.int (Int32.ofNat mm)), .val (.ref b1), .val (.int (Int32.ofNat i)), .unset] []))
      refine go (fun tg kg => XS.iinc X36.here hx rfl (hb hby d3_30) rfl (l' := #[.val (.ref ob), .val (.int (Int32.ofNat mm)), .val (.ref b1), .val (.int ((Int32.ofNat i) + (1 : Int32))), .unset]) rfl kg) ?_
      show G (T36.setTop (mkF m 33 #[.val (.ref ob), .val (.int (Int32.ofNat mm)), .val (.ref b1), .val (.int ((Int32.ofNat i) + (1 : Int32))), .unset] []))
      refine go (fun tg kg => XS.goto X36.here hx rfl (pc0 := 33) (pc' := 8) rfl (hb hby d3_33) (by decide) (by decide) kg) ?_
      show G (T36.setTop (mkF m 8 #[.val (.ref ob), .val (.int (Int32.ofNat mm)), .val (.ref b1), .val (.int ((Int32.ofNat i) + (1 : Int32))), .unset] []))
      rw [own_add1]
      have Fa37 := (q0.other W36 (Or.inl ne_of))
      have Fa38 := (q1.other W36 (Or.inl ne_of))
      have Fa39 := (q2.other W36 ne_af)
      exact ih (i + 1) _ _ _ X36 e36 N36 Z36 K36 Fa37 Fa38 Fa39 (own_f1S A i ▸ V36) (by omega)
  exact loop1 nn 0 _ _ _ X1 e1 N0 Z1 K1 Fa2 Fa3 Fa4 Vf1 (by omega)
theorem pn_com_example_housemartin_housemartin_record_SpellColumnsByAgentPinLaw : plainName "com/example/housemartin/housemartin/record/SpellColumnsByAgentPinLaw" = true := by first | (simp [plainName, overriddenIn]; done) | decide +kernel
theorem ef_6 (m : MethodId) (x0 : Addr) (x1 : Int32) (x2 : Int32) (x3 : Int32) : entryFrame m #[(.ref x0), (.int x1), (.int x2), (.int x3)] 4 = mkF m 0 #[.val (.ref x0), .val (.int x1), .val (.int x2), .val (.int x3)] [] := by first | (simp [entryFrame, mkF, argsToLocals, Value.category]; done) | rfl
theorem d6_0 : decode method_2_code 0 = .ok (.iload_n 3, 1) := by decide +kernel
theorem d6_1 : decode method_2_code 1 = .ok (.iload_n 1, 1) := by decide +kernel
theorem d6_2 : decode method_2_code 2 = .ok (.if_icmp .lt 5, 3) := by decide +kernel
theorem d6_7 : decode method_2_code 7 = .ok (.aload_n 0, 1) := by decide +kernel
theorem d6_8 : decode method_2_code 8 = .ok (.iload_n 3, 1) := by decide +kernel
theorem d6_9 : decode method_2_code 9 = .ok (.iaload, 1) := by decide +kernel
theorem d6_10 : decode method_2_code 10 = .ok (.aload_n 0, 1) := by decide +kernel
theorem d6_11 : decode method_2_code 11 = .ok (.iload_n 2, 1) := by decide +kernel
theorem d6_12 : decode method_2_code 12 = .ok (.iaload, 1) := by decide +kernel
theorem d6_13 : decode method_2_code 13 = .ok (.if_icmp .ge 5, 3) := by decide +kernel
theorem d6_16 : decode method_2_code 16 = .ok (.iconst 1, 1) := by decide +kernel
theorem d6_17 : decode method_2_code 17 = .ok (.ireturn, 1) := by decide +kernel
theorem d6_18 : decode method_2_code 18 = .ok (.aload_n 0, 1) := by decide +kernel
theorem d6_19 : decode method_2_code 19 = .ok (.iload_n 3, 1) := by decide +kernel
theorem d6_20 : decode method_2_code 20 = .ok (.iaload, 1) := by decide +kernel
theorem d6_21 : decode method_2_code 21 = .ok (.aload_n 0, 1) := by decide +kernel
theorem d6_22 : decode method_2_code 22 = .ok (.iload_n 2, 1) := by decide +kernel
theorem d6_23 : decode method_2_code 23 = .ok (.iaload, 1) := by decide +kernel
theorem d6_24 : decode method_2_code 24 = .ok (.if_icmp .ne 10, 3) := by decide +kernel
theorem d6_27 : decode method_2_code 27 = .ok (.iload_n 3, 1) := by decide +kernel
theorem d6_28 : decode method_2_code 28 = .ok (.iload_n 2, 1) := by decide +kernel
theorem d6_29 : decode method_2_code 29 = .ok (.if_icmp .ge 5, 3) := by decide +kernel
theorem d6_32 : decode method_2_code 32 = .ok (.iconst 1, 1) := by decide +kernel
theorem d6_33 : decode method_2_code 33 = .ok (.ireturn, 1) := by decide +kernel
theorem d6_34 : decode method_2_code 34 = .ok (.iconst 0, 1) := by decide +kernel
theorem d6_35 : decode method_2_code 35 = .ok (.ireturn, 1) := by decide +kernel
theorem d6_5 : decode method_2_code 5 = .ok (.iconst 0, 1) := by decide +kernel
theorem d6_6 : decode method_2_code 6 = .ok (.ireturn, 1) := by decide +kernel
def Q_rm6 (Z : State) (oa : Addr) (xn : Int32) (xi : Int32) (xj : Int32) (fa : Nat → Int32) (h0 : Heap) (n0 : Nat) (v : Option Value) (h : Heap) (L : List Loc) : Prop := v = some (.int (own_trm fa xn xi xj)) ∧ Fr n0 L ∧ h = h0
set_option maxRecDepth 65536 in
set_option maxHeartbeats 40000000 in
theorem rm6 (l : Launch) (Z : State) (a0 : Array Value) (hw : ∀ d ∈ tables_1, d.before a0 Z = true) (ws : List Jvm.Cond) (oa : Addr) (xn : Int32) (xi : Int32) (xj : Int32) (fa : Nat → Int32) (h0 : Heap) (n0 : Nat) (Z0 : n0 ≤ h0.size) (Va : own_I Z h0 oa 4 fa) (hxi : own_ok 4 xi) (hxj : own_ok 4 xj) :
    MetFree l (⟨"com/example/housemartin/housemartin/record/SpellColumnsByAgentPinLaw", "term", "([IIII)I"⟩ : MethodName) (head1 (Jvm.Cond.code (⟨"com/example/housemartin/housemartin/record/SpellColumnsByAgentPinLaw", "term", "([IIII)I"⟩ : MethodName) method_2_code 4 (some .int) :: ws) ({ frames := 0, cells := 0, slots := 0, locals := 0 } : Room)) (fun a U => a = #[(.ref oa), (.int xn), (.int xi), (.int xj)] ∧ Z.Warmed39 U.vm ∧ U.heap = h0) (fun _ _ _ _ _ => True) (fun _ U o U' => ∃ v L, o = .returned v ∧ Q_rm6 Z oa xn xi xj fa h0 n0 v U'.heap L ∧ FrameEnd U o U' L ({ frames := 0, cells := 0, slots := 0, locals := 0 } : Room).cells ({ frames := 0, cells := 0, slots := 0, locals := 0 } : Room).slots) := by
  refine own_enter (Q := Q_rm6 Z oa xn xi xj fa h0 n0) (plainFor_of_name pn_com_example_housemartin_housemartin_record_SpellColumnsByAgentPinLaw) ?_
  intro p e s m below meth c s₁ G X0 hx hby hml hZ hown hnm hret e0 go fin
  replace hown : s.vm.findClass "com/example/housemartin/housemartin/record/SpellColumnsByAgentPinLaw" = some m.cls := hown
  replace hnm : meth.name = "term" := hnm
  replace hml : c.maxLocals = 4 := hml
  rw [ef_6 m oa xn xi xj]
  have N0 := Fr.nil n0
  show G (s₁.setTop (mkF m 0 #[.val (.ref oa), .val (.int xn), .val (.int xi), .val (.int xj)] []))
  refine go (fun tg kg => XS.iloadN X0.here hx rfl (hb hby d6_0) rfl kg) ?_
  show G (s₁.setTop (mkF m 1 #[.val (.ref oa), .val (.int xn), .val (.int xi), .val (.int xj)] [(.int xj)]))
  refine go (fun tg kg => XS.iloadN X0.here hx rfl (hb hby d6_1) rfl kg) ?_
  show G (s₁.setTop (mkF m 2 #[.val (.ref oa), .val (.int xn), .val (.int xi), .val (.int xj)] [(.int xn), (.int xj)]))
  by_cases hc1 : xj < xn
  · refine go (fun tg kg => XS.icmpYes X0.here hx rfl (pc0 := 2) (pc' := 7) rfl (hb hby d6_2) rfl (tlt hc1).1 (by decide) (by decide) kg) ?_
    show G (s₁.setTop (mkF m 7 #[.val (.ref oa), .val (.int xn), .val (.int xi), .val (.int xj)] []))
    refine go (fun tg kg => XS.aloadN X0.here hx rfl (hb hby d6_7) rfl rfl kg) ?_
    show G (s₁.setTop (mkF m 8 #[.val (.ref oa), .val (.int xn), .val (.int xi), .val (.int xj)] [(.ref oa)]))
    refine go (fun tg kg => XS.iloadN X0.here hx rfl (hb hby d6_8) rfl kg) ?_
    show G (s₁.setTop (mkF m 9 #[.val (.ref oa), .val (.int xn), .val (.int xi), .val (.int xj)] [(.int xj), (.ref oa)]))
    obtain ⟨cl2, Ar2, S2, H2⟩ := id Va
    have ok2 : own_ok 4 xj := hxj
    have hin2 := own_in S2 ok2
    have kk2 := ok2.2
    have hat2 : cl2.slots[(xj).toNatClampNeg]? = some (.int (fa xj.toNatClampNeg)) := by exact H2 _ kk2
    refine go (fun tg kg => X0.iaload hx (j := xj) (v := (.int (fa xj.toNatClampNeg))) (by rw [e0]; exact Ar2.1) (State.isArrayOf_alike hZ.alike Ar2.2.1) Ar2.2.2 hin2 hat2 (g := (mkF m 9 #[.val (.ref oa), .val (.int xn), .val (.int xi), .val (.int xj)] [(.int xj), (.ref oa)])) rfl rfl (hb hby d6_9) _ kg) ?_
    show G (s₁.setTop (mkF m 10 #[.val (.ref oa), .val (.int xn), .val (.int xi), .val (.int xj)] [(.int (fa xj.toNatClampNeg))]))
    refine go (fun tg kg => XS.aloadN X0.here hx rfl (hb hby d6_10) rfl rfl kg) ?_
    show G (s₁.setTop (mkF m 11 #[.val (.ref oa), .val (.int xn), .val (.int xi), .val (.int xj)] [(.ref oa), (.int (fa xj.toNatClampNeg))]))
    refine go (fun tg kg => XS.iloadN X0.here hx rfl (hb hby d6_11) rfl kg) ?_
    show G (s₁.setTop (mkF m 12 #[.val (.ref oa), .val (.int xn), .val (.int xi), .val (.int xj)] [(.int xi), (.ref oa), (.int (fa xj.toNatClampNeg))]))
    obtain ⟨cl3, Ar3, S3, H3⟩ := id Va
    have ok3 : own_ok 4 xi := hxi
    have hin3 := own_in S3 ok3
    have kk3 := ok3.2
    have hat3 : cl3.slots[(xi).toNatClampNeg]? = some (.int (fa xi.toNatClampNeg)) := by exact H3 _ kk3
    refine go (fun tg kg => X0.iaload hx (j := xi) (v := (.int (fa xi.toNatClampNeg))) (by rw [e0]; exact Ar3.1) (State.isArrayOf_alike hZ.alike Ar3.2.1) Ar3.2.2 hin3 hat3 (g := (mkF m 12 #[.val (.ref oa), .val (.int xn), .val (.int xi), .val (.int xj)] [(.int xi), (.ref oa), (.int (fa xj.toNatClampNeg))])) rfl rfl (hb hby d6_12) _ kg) ?_
    show G (s₁.setTop (mkF m 13 #[.val (.ref oa), .val (.int xn), .val (.int xi), .val (.int xj)] [(.int (fa xi.toNatClampNeg)), (.int (fa xj.toNatClampNeg))]))
    by_cases hc4 : (fa xj.toNatClampNeg) < (fa xi.toNatClampNeg)
    · refine go (fun tg kg => XS.icmpNo X0.here hx rfl (hb hby d6_13) rfl (tlt hc4).2.1 kg) ?_
      show G (s₁.setTop (mkF m 16 #[.val (.ref oa), .val (.int xn), .val (.int xi), .val (.int xj)] []))
      refine go (fun tg kg => XS.iconst X0.here hx rfl (hb hby d6_16) kg) ?_
      show G (s₁.setTop (mkF m 17 #[.val (.ref oa), .val (.int xn), .val (.int xi), .val (.int xj)] [(.int (1 : Int32))]))
      refine fin (some (.int (1 : Int32))) X0 (fun h => absurd h (by decide)) (fun fs hr => retOut X0 hx hret rfl (Or.inl ⟨rfl, Or.inl rfl, _, rfl⟩) (hb hby d6_17) hr) (by decide) (by decide) ?_
      rw [e0]
      exact ⟨by simp only [own_trm, if_pos hc1, if_pos hc4], N0, rfl⟩
    · refine go (fun tg kg => XS.icmpYes X0.here hx rfl (pc0 := 13) (pc' := 18) rfl (hb hby d6_13) rfl (flt hc4).2.1 (by decide) (by decide) kg) ?_
      show G (s₁.setTop (mkF m 18 #[.val (.ref oa), .val (.int xn), .val (.int xi), .val (.int xj)] []))
      refine go (fun tg kg => XS.aloadN X0.here hx rfl (hb hby d6_18) rfl rfl kg) ?_
      show G (s₁.setTop (mkF m 19 #[.val (.ref oa), .val (.int xn), .val (.int xi), .val (.int xj)] [(.ref oa)]))
      refine go (fun tg kg => XS.iloadN X0.here hx rfl (hb hby d6_19) rfl kg) ?_
      show G (s₁.setTop (mkF m 20 #[.val (.ref oa), .val (.int xn), .val (.int xi), .val (.int xj)] [(.int xj), (.ref oa)]))
      obtain ⟨cl5, Ar5, S5, H5⟩ := id Va
      have ok5 : own_ok 4 xj := hxj
      have hin5 := own_in S5 ok5
      have kk5 := ok5.2
      have hat5 : cl5.slots[(xj).toNatClampNeg]? = some (.int (fa xj.toNatClampNeg)) := by exact H5 _ kk5
      refine go (fun tg kg => X0.iaload hx (j := xj) (v := (.int (fa xj.toNatClampNeg))) (by rw [e0]; exact Ar5.1) (State.isArrayOf_alike hZ.alike Ar5.2.1) Ar5.2.2 hin5 hat5 (g := (mkF m 20 #[.val (.ref oa), .val (.int xn), .val (.int xi), .val (.int xj)] [(.int xj), (.ref oa)])) rfl rfl (hb hby d6_20) _ kg) ?_
      show G (s₁.setTop (mkF m 21 #[.val (.ref oa), .val (.int xn), .val (.int xi), .val (.int xj)] [(.int (fa xj.toNatClampNeg))]))
      refine go (fun tg kg => XS.aloadN X0.here hx rfl (hb hby d6_21) rfl rfl kg) ?_
      show G (s₁.setTop (mkF m 22 #[.val (.ref oa), .val (.int xn), .val (.int xi), .val (.int xj)] [(.ref oa), (.int (fa xj.toNatClampNeg))]))
      refine go (fun tg kg => XS.iloadN X0.here hx rfl (hb hby d6_22) rfl kg) ?_
      show G (s₁.setTop (mkF m 23 #[.val (.ref oa), .val (.int xn), .val (.int xi), .val (.int xj)] [(.int xi), (.ref oa), (.int (fa xj.toNatClampNeg))]))
      obtain ⟨cl6, Ar6, S6, H6⟩ := id Va
      have ok6 : own_ok 4 xi := hxi
      have hin6 := own_in S6 ok6
      have kk6 := ok6.2
      have hat6 : cl6.slots[(xi).toNatClampNeg]? = some (.int (fa xi.toNatClampNeg)) := by exact H6 _ kk6
      refine go (fun tg kg => X0.iaload hx (j := xi) (v := (.int (fa xi.toNatClampNeg))) (by rw [e0]; exact Ar6.1) (State.isArrayOf_alike hZ.alike Ar6.2.1) Ar6.2.2 hin6 hat6 (g := (mkF m 23 #[.val (.ref oa), .val (.int xn), .val (.int xi), .val (.int xj)] [(.int xi), (.ref oa), (.int (fa xj.toNatClampNeg))])) rfl rfl (hb hby d6_23) _ kg) ?_
      show G (s₁.setTop (mkF m 24 #[.val (.ref oa), .val (.int xn), .val (.int xi), .val (.int xj)] [(.int (fa xi.toNatClampNeg)), (.int (fa xj.toNatClampNeg))]))
      by_cases hc7 : (fa xj.toNatClampNeg) = (fa xi.toNatClampNeg)
      · refine go (fun tg kg => XS.icmpNo X0.here hx rfl (hb hby d6_24) rfl (teq hc7).2 kg) ?_
        show G (s₁.setTop (mkF m 27 #[.val (.ref oa), .val (.int xn), .val (.int xi), .val (.int xj)] []))
        refine go (fun tg kg => XS.iloadN X0.here hx rfl (hb hby d6_27) rfl kg) ?_
        show G (s₁.setTop (mkF m 28 #[.val (.ref oa), .val (.int xn), .val (.int xi), .val (.int xj)] [(.int xj)]))
        refine go (fun tg kg => XS.iloadN X0.here hx rfl (hb hby d6_28) rfl kg) ?_
        show G (s₁.setTop (mkF m 29 #[.val (.ref oa), .val (.int xn), .val (.int xi), .val (.int xj)] [(.int xi), (.int xj)]))
        by_cases hc8 : xj < xi
        · refine go (fun tg kg => XS.icmpNo X0.here hx rfl (hb hby d6_29) rfl (tlt hc8).2.1 kg) ?_
          show G (s₁.setTop (mkF m 32 #[.val (.ref oa), .val (.int xn), .val (.int xi), .val (.int xj)] []))
          refine go (fun tg kg => XS.iconst X0.here hx rfl (hb hby d6_32) kg) ?_
          show G (s₁.setTop (mkF m 33 #[.val (.ref oa), .val (.int xn), .val (.int xi), .val (.int xj)] [(.int (1 : Int32))]))
          refine fin (some (.int (1 : Int32))) X0 (fun h => absurd h (by decide)) (fun fs hr => retOut X0 hx hret rfl (Or.inl ⟨rfl, Or.inl rfl, _, rfl⟩) (hb hby d6_33) hr) (by decide) (by decide) ?_
          rw [e0]
          exact ⟨by simp only [own_trm, if_pos hc1, if_neg hc4, if_pos hc7, if_pos hc8], N0, rfl⟩
        · refine go (fun tg kg => XS.icmpYes X0.here hx rfl (pc0 := 29) (pc' := 34) rfl (hb hby d6_29) rfl (flt hc8).2.1 (by decide) (by decide) kg) ?_
          show G (s₁.setTop (mkF m 34 #[.val (.ref oa), .val (.int xn), .val (.int xi), .val (.int xj)] []))
          refine go (fun tg kg => XS.iconst X0.here hx rfl (hb hby d6_34) kg) ?_
          show G (s₁.setTop (mkF m 35 #[.val (.ref oa), .val (.int xn), .val (.int xi), .val (.int xj)] [(.int (0 : Int32))]))
          refine fin (some (.int (0 : Int32))) X0 (fun h => absurd h (by decide)) (fun fs hr => retOut X0 hx hret rfl (Or.inl ⟨rfl, Or.inl rfl, _, rfl⟩) (hb hby d6_35) hr) (by decide) (by decide) ?_
          rw [e0]
          exact ⟨by simp only [own_trm, if_pos hc1, if_neg hc4, if_pos hc7, if_neg hc8], N0, rfl⟩
      · refine go (fun tg kg => XS.icmpYes X0.here hx rfl (pc0 := 24) (pc' := 34) rfl (hb hby d6_24) rfl (feq hc7).2 (by decide) (by decide) kg) ?_
        show G (s₁.setTop (mkF m 34 #[.val (.ref oa), .val (.int xn), .val (.int xi), .val (.int xj)] []))
        refine go (fun tg kg => XS.iconst X0.here hx rfl (hb hby d6_34) kg) ?_
        show G (s₁.setTop (mkF m 35 #[.val (.ref oa), .val (.int xn), .val (.int xi), .val (.int xj)] [(.int (0 : Int32))]))
        refine fin (some (.int (0 : Int32))) X0 (fun h => absurd h (by decide)) (fun fs hr => retOut X0 hx hret rfl (Or.inl ⟨rfl, Or.inl rfl, _, rfl⟩) (hb hby d6_35) hr) (by decide) (by decide) ?_
        rw [e0]
        exact ⟨by simp only [own_trm, if_pos hc1, if_neg hc4, if_neg hc7], N0, rfl⟩
  · refine go (fun tg kg => XS.icmpNo X0.here hx rfl (hb hby d6_2) rfl (flt hc1).1 kg) ?_
    show G (s₁.setTop (mkF m 5 #[.val (.ref oa), .val (.int xn), .val (.int xi), .val (.int xj)] []))
    refine go (fun tg kg => XS.iconst X0.here hx rfl (hb hby d6_5) kg) ?_
    show G (s₁.setTop (mkF m 6 #[.val (.ref oa), .val (.int xn), .val (.int xi), .val (.int xj)] [(.int (0 : Int32))]))
    refine fin (some (.int (0 : Int32))) X0 (fun h => absurd h (by decide)) (fun fs hr => retOut X0 hx hret rfl (Or.inl ⟨rfl, Or.inl rfl, _, rfl⟩) (hb hby d6_6) hr) (by decide) (by decide) ?_
    rw [e0]
    exact ⟨by simp only [own_trm, if_neg hc1], N0, rfl⟩
theorem ef_5 (m : MethodId) (x0 : Addr) (x1 : Int32) (x2 : Int32) : entryFrame m #[(.ref x0), (.int x1), (.int x2)] 3 = mkF m 0 #[.val (.ref x0), .val (.int x1), .val (.int x2)] [] := by first | (simp [entryFrame, mkF, argsToLocals, Value.category]; done) | rfl
theorem d5_0 : decode method_3_code 0 = .ok (.aload_n 0, 1) := by decide +kernel
theorem d5_1 : decode method_3_code 1 = .ok (.iload_n 1, 1) := by decide +kernel
theorem d5_2 : decode method_3_code 2 = .ok (.iload_n 2, 1) := by decide +kernel
theorem d5_3 : decode method_3_code 3 = .ok (.iconst 0, 1) := by decide +kernel
theorem d5_4 : decode method_3_code 4 = .ok (.invokestatic 7, 3) := by decide +kernel
theorem pd___IIII_I : parseMethodDescriptor "([IIII)I" = some ⟨[(.array .int), .int, .int, .int], some .int⟩ := by decide +kernel
theorem d5_7 : decode method_3_code 7 = .ok (.aload_n 0, 1) := by decide +kernel
theorem d5_8 : decode method_3_code 8 = .ok (.iload_n 1, 1) := by decide +kernel
theorem d5_9 : decode method_3_code 9 = .ok (.iload_n 2, 1) := by decide +kernel
theorem d5_10 : decode method_3_code 10 = .ok (.iconst 1, 1) := by decide +kernel
theorem d5_11 : decode method_3_code 11 = .ok (.invokestatic 7, 3) := by decide +kernel
theorem d5_14 : decode method_3_code 14 = .ok (.iadd, 1) := by decide +kernel
theorem d5_15 : decode method_3_code 15 = .ok (.aload_n 0, 1) := by decide +kernel
theorem d5_16 : decode method_3_code 16 = .ok (.iload_n 1, 1) := by decide +kernel
theorem d5_17 : decode method_3_code 17 = .ok (.iload_n 2, 1) := by decide +kernel
theorem d5_18 : decode method_3_code 18 = .ok (.iconst 2, 1) := by decide +kernel
theorem d5_19 : decode method_3_code 19 = .ok (.invokestatic 7, 3) := by decide +kernel
theorem d5_22 : decode method_3_code 22 = .ok (.iadd, 1) := by decide +kernel
theorem d5_23 : decode method_3_code 23 = .ok (.aload_n 0, 1) := by decide +kernel
theorem d5_24 : decode method_3_code 24 = .ok (.iload_n 1, 1) := by decide +kernel
theorem d5_25 : decode method_3_code 25 = .ok (.iload_n 2, 1) := by decide +kernel
theorem d5_26 : decode method_3_code 26 = .ok (.iconst 3, 1) := by decide +kernel
theorem d5_27 : decode method_3_code 27 = .ok (.invokestatic 7, 3) := by decide +kernel
theorem d5_30 : decode method_3_code 30 = .ok (.iadd, 1) := by decide +kernel
theorem d5_31 : decode method_3_code 31 = .ok (.ireturn, 1) := by decide +kernel
def Q_rm5 (Z : State) (oa : Addr) (xn : Int32) (xi : Int32) (fa : Nat → Int32) (h0 : Heap) (n0 : Nat) (v : Option Value) (h : Heap) (L : List Loc) : Prop := v = some (.int (own_rnk fa xn xi)) ∧ Fr n0 L ∧ h = h0
set_option maxRecDepth 65536 in
set_option maxHeartbeats 40000000 in
theorem rm5 (l : Launch) (Z : State) (a0 : Array Value) (hw : ∀ d ∈ tables_1, d.before a0 Z = true) (ws : List Jvm.Cond) (oa : Addr) (xn : Int32) (xi : Int32) (fa : Nat → Int32) (h0 : Heap) (n0 : Nat) (Z0 : n0 ≤ h0.size) (Va : own_I Z h0 oa 4 fa) (hxi : own_ok 4 xi) :
    MetFree l (⟨"com/example/housemartin/housemartin/record/SpellColumnsByAgentPinLaw", "rank", "([III)I"⟩ : MethodName) (head1 (Jvm.Cond.code (⟨"com/example/housemartin/housemartin/record/SpellColumnsByAgentPinLaw", "rank", "([III)I"⟩ : MethodName) method_3_code 3 (some .int) :: ws) ({ frames := 1, cells := 0, slots := 0, locals := 16 } : Room)) (fun a U => a = #[(.ref oa), (.int xn), (.int xi)] ∧ Z.Warmed39 U.vm ∧ U.heap = h0) (fun _ _ _ _ _ => True) (fun _ U o U' => ∃ v L, o = .returned v ∧ Q_rm5 Z oa xn xi fa h0 n0 v U'.heap L ∧ FrameEnd U o U' L ({ frames := 1, cells := 0, slots := 0, locals := 16 } : Room).cells ({ frames := 1, cells := 0, slots := 0, locals := 16 } : Room).slots) := by
  refine own_enter (Q := Q_rm5 Z oa xn xi fa h0 n0) (plainFor_of_name pn_com_example_housemartin_housemartin_record_SpellColumnsByAgentPinLaw) ?_
  intro p e s m below meth c s₁ G X0 hx hby hml hZ hown hnm hret e0 go fin
  replace hown : s.vm.findClass "com/example/housemartin/housemartin/record/SpellColumnsByAgentPinLaw" = some m.cls := hown
  replace hnm : meth.name = "rank" := hnm
  replace hml : c.maxLocals = 3 := hml
  rw [ef_5 m oa xn xi]
  have N0 := Fr.nil n0
  show G (s₁.setTop (mkF m 0 #[.val (.ref oa), .val (.int xn), .val (.int xi)] []))
  refine go (fun tg kg => XS.aloadN X0.here hx rfl (hb hby d5_0) rfl rfl kg) ?_
  show G (s₁.setTop (mkF m 1 #[.val (.ref oa), .val (.int xn), .val (.int xi)] [(.ref oa)]))
  refine go (fun tg kg => XS.iloadN X0.here hx rfl (hb hby d5_1) rfl kg) ?_
  show G (s₁.setTop (mkF m 2 #[.val (.ref oa), .val (.int xn), .val (.int xi)] [(.int xn), (.ref oa)]))
  refine go (fun tg kg => XS.iloadN X0.here hx rfl (hb hby d5_2) rfl kg) ?_
  show G (s₁.setTop (mkF m 3 #[.val (.ref oa), .val (.int xn), .val (.int xi)] [(.int xi), (.int xn), (.ref oa)]))
  refine go (fun tg kg => XS.iconst X0.here hx rfl (hb hby d5_3) kg) ?_
  show G (s₁.setTop (mkF m 4 #[.val (.ref oa), .val (.int xn), .val (.int xi)] [(.int (0 : Int32)), (.int xi), (.int xn), (.ref oa)]))
  obtain ⟨_, _, ⟨T1, L1, k1, n1⟩, -, X1, ⟨Lc1, hQ1, l1, y1, z1⟩, st1⟩ := Jvm.LawKit.callS X0 hx (y := (⟨"com/example/housemartin/housemartin/record/SpellColumnsByAgentPinLaw", "term", "([IIII)I"⟩ : MethodName)) hown (mvT hZ (hw _ (List.mem_of_getElem? (i := 43) rfl))) (mvT hZ (hw _ (List.mem_of_getElem? (i := 44) rfl))) (mvT hZ (hw _ (List.mem_of_getElem? (i := 41) rfl))) (mvT hZ (hw _ (List.mem_of_getElem? (i := 45) rfl))) (by decide) (backOf (W := 0) (rm6 l Z a0 hw [] oa xn xi (0 : Int32) fa h0 n0 Z0 Va hxi ⟨by decide, by decide⟩) hZ (hw _ (List.mem_of_getElem? (i := 45) rfl)) (hw _ (List.mem_of_getElem? (i := 41) rfl)) (by decide) (by decide)) (g := (mkF m 4 #[.val (.ref oa), .val (.int xn), .val (.int xi)] [(.int (0 : Int32)), (.int xi), (.int xn), (.ref oa)])) rfl (by rw [hml]; rfl) (argsL := [(.ref oa), (.int xn), (.int xi), (.int (0 : Int32))]) (rest := []) (lenOf pd___IIII_I rfl) rfl (by show 2 * 0 + _ ≤ _; exact Nat.le_of_eq rfl) (hb hby d5_4) (fun _ _ => ⟨rfl, e0, (by decide : 0 + 0 ≤ _), (by decide : 0 + 0 ≤ _)⟩)
  dsimp only [Pt.U, Pt.locs, Pt.cells, Pt.slots] at X1 l1 y1 z1 st1 hQ1
  subst l1 y1 z1
  obtain ⟨rfl, Nq1, e1⟩ := hQ1
  have N1 := Fr.app N0 Nq1
  refine go st1 ?_
  show G (T1.setTop (mkF m 7 #[.val (.ref oa), .val (.int xn), .val (.int xi)] [(.int (own_trm fa xn xi (0 : Int32)))]))
  refine go (fun tg kg => XS.aloadN X1.here hx rfl (hb hby d5_7) rfl rfl kg) ?_
  show G (T1.setTop (mkF m 8 #[.val (.ref oa), .val (.int xn), .val (.int xi)] [(.ref oa), (.int (own_trm fa xn xi (0 : Int32)))]))
  refine go (fun tg kg => XS.iloadN X1.here hx rfl (hb hby d5_8) rfl kg) ?_
  show G (T1.setTop (mkF m 9 #[.val (.ref oa), .val (.int xn), .val (.int xi)] [(.int xn), (.ref oa), (.int (own_trm fa xn xi (0 : Int32)))]))
  refine go (fun tg kg => XS.iloadN X1.here hx rfl (hb hby d5_9) rfl kg) ?_
  show G (T1.setTop (mkF m 10 #[.val (.ref oa), .val (.int xn), .val (.int xi)] [(.int xi), (.int xn), (.ref oa), (.int (own_trm fa xn xi (0 : Int32)))]))
  refine go (fun tg kg => XS.iconst X1.here hx rfl (hb hby d5_10) kg) ?_
  show G (T1.setTop (mkF m 11 #[.val (.ref oa), .val (.int xn), .val (.int xi)] [(.int (1 : Int32)), (.int xi), (.int xn), (.ref oa), (.int (own_trm fa xn xi (0 : Int32)))]))
  obtain ⟨_, _, ⟨T2, L2, k2, n2⟩, -, X2, ⟨Lc2, hQ2, l2, y2, z2⟩, st2⟩ := Jvm.LawKit.callS X1 hx (y := (⟨"com/example/housemartin/housemartin/record/SpellColumnsByAgentPinLaw", "term", "([IIII)I"⟩ : MethodName)) hown (mvT hZ (hw _ (List.mem_of_getElem? (i := 43) rfl))) (mvT hZ (hw _ (List.mem_of_getElem? (i := 44) rfl))) (mvT hZ (hw _ (List.mem_of_getElem? (i := 41) rfl))) (mvT hZ (hw _ (List.mem_of_getElem? (i := 45) rfl))) (by decide) (backOf (W := 1) (rm6 l Z a0 hw [] oa xn xi (1 : Int32) fa h0 n0 Z0 Va hxi ⟨by decide, by decide⟩) hZ (hw _ (List.mem_of_getElem? (i := 45) rfl)) (hw _ (List.mem_of_getElem? (i := 41) rfl)) (by decide) (by decide)) (g := (mkF m 11 #[.val (.ref oa), .val (.int xn), .val (.int xi)] [(.int (1 : Int32)), (.int xi), (.int xn), (.ref oa), (.int (own_trm fa xn xi (0 : Int32)))])) rfl (by rw [hml]; rfl) (argsL := [(.ref oa), (.int xn), (.int xi), (.int (1 : Int32))]) (rest := [(.int (own_trm fa xn xi (0 : Int32)))]) (lenOf pd___IIII_I rfl) rfl (by show 2 * 0 + _ ≤ _; exact Nat.le_of_eq rfl) (hb hby d5_11) (fun _ _ => ⟨rfl, e1, (by decide : 0 + 0 ≤ _), (by decide : 0 + 0 ≤ _)⟩)
  dsimp only [Pt.U, Pt.locs, Pt.cells, Pt.slots] at X2 l2 y2 z2 st2 hQ2
  subst l2 y2 z2
  obtain ⟨rfl, Nq2, e2⟩ := hQ2
  have N2 := Fr.app N1 Nq2
  refine go st2 ?_
  show G (T2.setTop (mkF m 14 #[.val (.ref oa), .val (.int xn), .val (.int xi)] [(.int (own_trm fa xn xi (1 : Int32))), (.int (own_trm fa xn xi (0 : Int32)))]))
  refine go (fun tg kg => XS.iadd X2.here hx rfl (hb hby d5_14) rfl kg) ?_
  show G (T2.setTop (mkF m 15 #[.val (.ref oa), .val (.int xn), .val (.int xi)] [(.int ((own_trm fa xn xi (0 : Int32)) + (own_trm fa xn xi (1 : Int32))))]))
  refine go (fun tg kg => XS.aloadN X2.here hx rfl (hb hby d5_15) rfl rfl kg) ?_
  show G (T2.setTop (mkF m 16 #[.val (.ref oa), .val (.int xn), .val (.int xi)] [(.ref oa), (.int ((own_trm fa xn xi (0 : Int32)) + (own_trm fa xn xi (1 : Int32))))]))
  refine go (fun tg kg => XS.iloadN X2.here hx rfl (hb hby d5_16) rfl kg) ?_
  show G (T2.setTop (mkF m 17 #[.val (.ref oa), .val (.int xn), .val (.int xi)] [(.int xn), (.ref oa), (.int ((own_trm fa xn xi (0 : Int32)) + (own_trm fa xn xi (1 : Int32))))]))
  refine go (fun tg kg => XS.iloadN X2.here hx rfl (hb hby d5_17) rfl kg) ?_
  show G (T2.setTop (mkF m 18 #[.val (.ref oa), .val (.int xn), .val (.int xi)] [(.int xi), (.int xn), (.ref oa), (.int ((own_trm fa xn xi (0 : Int32)) + (own_trm fa xn xi (1 : Int32))))]))
  refine go (fun tg kg => XS.iconst X2.here hx rfl (hb hby d5_18) kg) ?_
  show G (T2.setTop (mkF m 19 #[.val (.ref oa), .val (.int xn), .val (.int xi)] [(.int (2 : Int32)), (.int xi), (.int xn), (.ref oa), (.int ((own_trm fa xn xi (0 : Int32)) + (own_trm fa xn xi (1 : Int32))))]))
  obtain ⟨_, _, ⟨T3, L3, k3, n3⟩, -, X3, ⟨Lc3, hQ3, l3, y3, z3⟩, st3⟩ := Jvm.LawKit.callS X2 hx (y := (⟨"com/example/housemartin/housemartin/record/SpellColumnsByAgentPinLaw", "term", "([IIII)I"⟩ : MethodName)) hown (mvT hZ (hw _ (List.mem_of_getElem? (i := 43) rfl))) (mvT hZ (hw _ (List.mem_of_getElem? (i := 44) rfl))) (mvT hZ (hw _ (List.mem_of_getElem? (i := 41) rfl))) (mvT hZ (hw _ (List.mem_of_getElem? (i := 45) rfl))) (by decide) (backOf (W := 1) (rm6 l Z a0 hw [] oa xn xi (2 : Int32) fa h0 n0 Z0 Va hxi ⟨by decide, by decide⟩) hZ (hw _ (List.mem_of_getElem? (i := 45) rfl)) (hw _ (List.mem_of_getElem? (i := 41) rfl)) (by decide) (by decide)) (g := (mkF m 19 #[.val (.ref oa), .val (.int xn), .val (.int xi)] [(.int (2 : Int32)), (.int xi), (.int xn), (.ref oa), (.int ((own_trm fa xn xi (0 : Int32)) + (own_trm fa xn xi (1 : Int32))))])) rfl (by rw [hml]; rfl) (argsL := [(.ref oa), (.int xn), (.int xi), (.int (2 : Int32))]) (rest := [(.int ((own_trm fa xn xi (0 : Int32)) + (own_trm fa xn xi (1 : Int32))))]) (lenOf pd___IIII_I rfl) rfl (by show 2 * 0 + _ ≤ _; exact Nat.le_of_eq rfl) (hb hby d5_19) (fun _ _ => ⟨rfl, e2, (by decide : 0 + 0 ≤ _), (by decide : 0 + 0 ≤ _)⟩)
  dsimp only [Pt.U, Pt.locs, Pt.cells, Pt.slots] at X3 l3 y3 z3 st3 hQ3
  subst l3 y3 z3
  obtain ⟨rfl, Nq3, e3⟩ := hQ3
  have N3 := Fr.app N2 Nq3
  refine go st3 ?_
  show G (T3.setTop (mkF m 22 #[.val (.ref oa), .val (.int xn), .val (.int xi)] [(.int (own_trm fa xn xi (2 : Int32))), (.int ((own_trm fa xn xi (0 : Int32)) + (own_trm fa xn xi (1 : Int32))))]))
  refine go (fun tg kg => XS.iadd X3.here hx rfl (hb hby d5_22) rfl kg) ?_
  show G (T3.setTop (mkF m 23 #[.val (.ref oa), .val (.int xn), .val (.int xi)] [(.int (((own_trm fa xn xi (0 : Int32)) + (own_trm fa xn xi (1 : Int32))) + (own_trm fa xn xi (2 : Int32))))]))
  refine go (fun tg kg => XS.aloadN X3.here hx rfl (hb hby d5_23) rfl rfl kg) ?_
  show G (T3.setTop (mkF m 24 #[.val (.ref oa), .val (.int xn), .val (.int xi)] [(.ref oa), (.int (((own_trm fa xn xi (0 : Int32)) + (own_trm fa xn xi (1 : Int32))) + (own_trm fa xn xi (2 : Int32))))]))
  refine go (fun tg kg => XS.iloadN X3.here hx rfl (hb hby d5_24) rfl kg) ?_
  show G (T3.setTop (mkF m 25 #[.val (.ref oa), .val (.int xn), .val (.int xi)] [(.int xn), (.ref oa), (.int (((own_trm fa xn xi (0 : Int32)) + (own_trm fa xn xi (1 : Int32))) + (own_trm fa xn xi (2 : Int32))))]))
  refine go (fun tg kg => XS.iloadN X3.here hx rfl (hb hby d5_25) rfl kg) ?_
  show G (T3.setTop (mkF m 26 #[.val (.ref oa), .val (.int xn), .val (.int xi)] [(.int xi), (.int xn), (.ref oa), (.int (((own_trm fa xn xi (0 : Int32)) + (own_trm fa xn xi (1 : Int32))) + (own_trm fa xn xi (2 : Int32))))]))
  refine go (fun tg kg => XS.iconst X3.here hx rfl (hb hby d5_26) kg) ?_
  show G (T3.setTop (mkF m 27 #[.val (.ref oa), .val (.int xn), .val (.int xi)] [(.int (3 : Int32)), (.int xi), (.int xn), (.ref oa), (.int (((own_trm fa xn xi (0 : Int32)) + (own_trm fa xn xi (1 : Int32))) + (own_trm fa xn xi (2 : Int32))))]))
  obtain ⟨_, _, ⟨T4, L4, k4, n4⟩, -, X4, ⟨Lc4, hQ4, l4, y4, z4⟩, st4⟩ := Jvm.LawKit.callS X3 hx (y := (⟨"com/example/housemartin/housemartin/record/SpellColumnsByAgentPinLaw", "term", "([IIII)I"⟩ : MethodName)) hown (mvT hZ (hw _ (List.mem_of_getElem? (i := 43) rfl))) (mvT hZ (hw _ (List.mem_of_getElem? (i := 44) rfl))) (mvT hZ (hw _ (List.mem_of_getElem? (i := 41) rfl))) (mvT hZ (hw _ (List.mem_of_getElem? (i := 45) rfl))) (by decide) (backOf (W := 1) (rm6 l Z a0 hw [] oa xn xi (3 : Int32) fa h0 n0 Z0 Va hxi ⟨by decide, by decide⟩) hZ (hw _ (List.mem_of_getElem? (i := 45) rfl)) (hw _ (List.mem_of_getElem? (i := 41) rfl)) (by decide) (by decide)) (g := (mkF m 27 #[.val (.ref oa), .val (.int xn), .val (.int xi)] [(.int (3 : Int32)), (.int xi), (.int xn), (.ref oa), (.int (((own_trm fa xn xi (0 : Int32)) + (own_trm fa xn xi (1 : Int32))) + (own_trm fa xn xi (2 : Int32))))])) rfl (by rw [hml]; rfl) (argsL := [(.ref oa), (.int xn), (.int xi), (.int (3 : Int32))]) (rest := [(.int (((own_trm fa xn xi (0 : Int32)) + (own_trm fa xn xi (1 : Int32))) + (own_trm fa xn xi (2 : Int32))))]) (lenOf pd___IIII_I rfl) rfl (by show 2 * 0 + _ ≤ _; exact Nat.le_of_eq rfl) (hb hby d5_27) (fun _ _ => ⟨rfl, e3, (by decide : 0 + 0 ≤ _), (by decide : 0 + 0 ≤ _)⟩)
  dsimp only [Pt.U, Pt.locs, Pt.cells, Pt.slots] at X4 l4 y4 z4 st4 hQ4
  subst l4 y4 z4
  obtain ⟨rfl, Nq4, e4⟩ := hQ4
  have N4 := Fr.app N3 Nq4
  refine go st4 ?_
  show G (T4.setTop (mkF m 30 #[.val (.ref oa), .val (.int xn), .val (.int xi)] [(.int (own_trm fa xn xi (3 : Int32))), (.int (((own_trm fa xn xi (0 : Int32)) + (own_trm fa xn xi (1 : Int32))) + (own_trm fa xn xi (2 : Int32))))]))
  refine go (fun tg kg => XS.iadd X4.here hx rfl (hb hby d5_30) rfl kg) ?_
  show G (T4.setTop (mkF m 31 #[.val (.ref oa), .val (.int xn), .val (.int xi)] [(.int ((((own_trm fa xn xi (0 : Int32)) + (own_trm fa xn xi (1 : Int32))) + (own_trm fa xn xi (2 : Int32))) + (own_trm fa xn xi (3 : Int32))))]))
  refine fin (some (.int ((((own_trm fa xn xi (0 : Int32)) + (own_trm fa xn xi (1 : Int32))) + (own_trm fa xn xi (2 : Int32))) + (own_trm fa xn xi (3 : Int32))))) X4 (fun h => absurd h (by decide)) (fun fs hr => retOut X4 hx hret rfl (Or.inl ⟨rfl, Or.inl rfl, _, rfl⟩) (hb hby d5_31) hr) (by decide) (by decide) ?_
  rw [e4]
  exact ⟨rfl, N4, rfl⟩
theorem ef_0 (m : MethodId) (x0 : Int32) (x1 : Int32) (x2 : Int32) (x3 : Int32) (x4 : Int32) : entryFrame m #[(.int x0), (.int x1), (.int x2), (.int x3), (.int x4)] maxLocals = mkF m 0 #[.val (.int x0), .val (.int x1), .val (.int x2), .val (.int x3), .val (.int x4), .unset, .unset, .unset, .unset, .unset, .unset] [] := by first | (simp [entryFrame, mkF, argsToLocals, Value.category, maxLocals]; done) | rfl
theorem pd___V : parseMethodDescriptor "()V" = some ⟨[], none⟩ := by decide +kernel
theorem pd__I__I : parseMethodDescriptor "(I)[I" = some ⟨[.int], some (.array .int)⟩ := by decide +kernel
theorem pd__IIIILcom_example_housemartin_housemartin_record_Spell_EndReason_J_V : parseMethodDescriptor "(IIIILcom/example/housemartin/housemartin/record/Spell$EndReason;J)V" = some ⟨[.int, .int, .int, .int, (.object "com/example/housemartin/housemartin/record/Spell$EndReason"), .long], none⟩ := by decide +kernel
theorem pd___III_I : parseMethodDescriptor "([III)I" = some ⟨[(.array .int), .int, .int], some .int⟩ := by decide +kernel
def Q_rm0 (Z : State) (x0 : Int32) (x1 : Int32) (x2 : Int32) (x3 : Int32) (x4 : Int32) (h0 : Heap) (n0 : Nat) (v : Option Value) (h : Heap) (L : List Loc) : Prop := v = some (.int 1) ∧ Fr n0 L
set_option maxRecDepth 65536 in
set_option maxHeartbeats 40000000 in
theorem rm0 (l : Launch) (Z : State) (a0 : Array Value) (hw : ∀ d ∈ tables_1, d.before a0 Z = true) (ws : List Jvm.Cond) (x0 : Int32) (x1 : Int32) (x2 : Int32) (x3 : Int32) (x4 : Int32) (h0 : Heap) (n0 : Nat) (Z0 : n0 ≤ h0.size) :
    MetFree l x (head1 (Jvm.Cond.code x code maxLocals ret :: ws) room_1) (fun a U => a = #[(.int x0), (.int x1), (.int x2), (.int x3), (.int x4)] ∧ Z.Warmed39 U.vm ∧ U.heap = h0) (fun _ _ _ _ _ => True) (fun _ U o U' => ∃ v L, o = .returned v ∧ Q_rm0 Z x0 x1 x2 x3 x4 h0 n0 v U'.heap L ∧ FrameEnd U o U' L room_1.cells room_1.slots) := by
  refine own_enter (Q := Q_rm0 Z x0 x1 x2 x3 x4 h0 n0) (plainFor_of_name pn_com_example_housemartin_housemartin_record_SpellColumnsByAgentPinLaw) ?_
  intro p e s m below meth c s₁ G X0 hx hby hml hZ hown hnm hret e0 go fin
  replace hown : s.vm.findClass "com/example/housemartin/housemartin/record/SpellColumnsByAgentPinLaw" = some m.cls := hown
  replace hnm : meth.name = "law" := hnm
  replace hml : c.maxLocals = 11 := hml
  rw [ef_0 m x0 x1 x2 x3 x4]
  have N0 := Fr.nil n0
  show G (s₁.setTop (mkF m 0 #[.val (.int x0), .val (.int x1), .val (.int x2), .val (.int x3), .val (.int x4), .unset, .unset, .unset, .unset, .unset, .unset] []))
  refine go (fun tg kg => XS.iloadN X0.here hx rfl (hb hby at_0) rfl kg) ?_
  show G (s₁.setTop (mkF m 1 #[.val (.int x0), .val (.int x1), .val (.int x2), .val (.int x3), .val (.int x4), .unset, .unset, .unset, .unset, .unset, .unset] [(.int x0)]))
  refine go (fun tg kg => XS.bipush X0.here hx rfl (hb hby at_1) kg) ?_
  show G (s₁.setTop (mkF m 3 #[.val (.int x0), .val (.int x1), .val (.int x2), .val (.int x3), .val (.int x4), .unset, .unset, .unset, .unset, .unset, .unset] [(.int (7 : Int32)), (.int x0)]))
  refine go (fun tg kg => XS.iand X0.here hx rfl (hb hby at_3) rfl kg) ?_
  show G (s₁.setTop (mkF m 4 #[.val (.int x0), .val (.int x1), .val (.int x2), .val (.int x3), .val (.int x4), .unset, .unset, .unset, .unset, .unset, .unset] [(.int (x0 &&& (7 : Int32)))]))
  refine go (fun tg kg => XS.iconst X0.here hx rfl (hb hby at_4) kg) ?_
  show G (s₁.setTop (mkF m 5 #[.val (.int x0), .val (.int x1), .val (.int x2), .val (.int x3), .val (.int x4), .unset, .unset, .unset, .unset, .unset, .unset] [(.int (5 : Int32)), (.int (x0 &&& (7 : Int32)))]))
  refine go (fun tg kg => iremM X0 hx rfl (hb hby at_5) rfl (by decide) kg) ?_
  show G (s₁.setTop (mkF m 6 #[.val (.int x0), .val (.int x1), .val (.int x2), .val (.int x3), .val (.int x4), .unset, .unset, .unset, .unset, .unset, .unset] [(.int ((x0 &&& (7 : Int32)) % (5 : Int32)))]))
  refine go (fun tg kg => XS.istore X0.here hx rfl (hb hby at_6) rfl (l' := #[.val (.int x0), .val (.int x1), .val (.int x2), .val (.int x3), .val (.int x4), .val (.int ((x0 &&& (7 : Int32)) % (5 : Int32))), .unset, .unset, .unset, .unset, .unset]) rfl kg) ?_
  show G (s₁.setTop (mkF m 8 #[.val (.int x0), .val (.int x1), .val (.int x2), .val (.int x3), .val (.int x4), .val (.int ((x0 &&& (7 : Int32)) % (5 : Int32))), .unset, .unset, .unset, .unset, .unset] []))
  refine go (fun tg kg => XS.iconst X0.here hx rfl (hb hby at_8) kg) ?_
  show G (s₁.setTop (mkF m 9 #[.val (.int x0), .val (.int x1), .val (.int x2), .val (.int x3), .val (.int x4), .val (.int ((x0 &&& (7 : Int32)) % (5 : Int32))), .unset, .unset, .unset, .unset, .unset] [(.int (1 : Int32))]))
  refine go (fun tg kg => XS.iloadN X0.here hx rfl (hb hby at_9) rfl kg) ?_
  show G (s₁.setTop (mkF m 10 #[.val (.int x0), .val (.int x1), .val (.int x2), .val (.int x3), .val (.int x4), .val (.int ((x0 &&& (7 : Int32)) % (5 : Int32))), .unset, .unset, .unset, .unset, .unset] [(.int x0), (.int (1 : Int32))]))
  refine go (fun tg kg => XS.iconst X0.here hx rfl (hb hby at_10) kg) ?_
  show G (s₁.setTop (mkF m 11 #[.val (.int x0), .val (.int x1), .val (.int x2), .val (.int x3), .val (.int x4), .val (.int ((x0 &&& (7 : Int32)) % (5 : Int32))), .unset, .unset, .unset, .unset, .unset] [(.int (3 : Int32)), (.int x0), (.int (1 : Int32))]))
  refine go (fun tg kg => XS.iushr X0.here hx rfl (hb hby at_11) rfl kg) ?_
  show G (s₁.setTop (mkF m 12 #[.val (.int x0), .val (.int x1), .val (.int x2), .val (.int x3), .val (.int x4), .val (.int ((x0 &&& (7 : Int32)) % (5 : Int32))), .unset, .unset, .unset, .unset, .unset] [(.int ((x0.toUInt32 >>> ((3 : Int32) &&& 31).toUInt32).toInt32)), (.int (1 : Int32))]))
  refine go (fun tg kg => XS.bipush X0.here hx rfl (hb hby at_12) kg) ?_
  show G (s₁.setTop (mkF m 14 #[.val (.int x0), .val (.int x1), .val (.int x2), .val (.int x3), .val (.int x4), .val (.int ((x0 &&& (7 : Int32)) % (5 : Int32))), .unset, .unset, .unset, .unset, .unset] [(.int (7 : Int32)), (.int ((x0.toUInt32 >>> ((3 : Int32) &&& 31).toUInt32).toInt32)), (.int (1 : Int32))]))
  refine go (fun tg kg => XS.iand X0.here hx rfl (hb hby at_14) rfl kg) ?_
  show G (s₁.setTop (mkF m 15 #[.val (.int x0), .val (.int x1), .val (.int x2), .val (.int x3), .val (.int x4), .val (.int ((x0 &&& (7 : Int32)) % (5 : Int32))), .unset, .unset, .unset, .unset, .unset] [(.int (((x0.toUInt32 >>> ((3 : Int32) &&& 31).toUInt32).toInt32) &&& (7 : Int32))), (.int (1 : Int32))]))
  refine go (fun tg kg => XS.iadd X0.here hx rfl (hb hby at_15) rfl kg) ?_
  show G (s₁.setTop (mkF m 16 #[.val (.int x0), .val (.int x1), .val (.int x2), .val (.int x3), .val (.int x4), .val (.int ((x0 &&& (7 : Int32)) % (5 : Int32))), .unset, .unset, .unset, .unset, .unset] [(.int ((1 : Int32) + (((x0.toUInt32 >>> ((3 : Int32) &&& 31).toUInt32).toInt32) &&& (7 : Int32))))]))
  refine go (fun tg kg => XS.istore X0.here hx rfl (hb hby at_16) rfl (l' := #[.val (.int x0), .val (.int x1), .val (.int x2), .val (.int x3), .val (.int x4), .val (.int ((x0 &&& (7 : Int32)) % (5 : Int32))), .val (.int ((1 : Int32) + (((x0.toUInt32 >>> ((3 : Int32) &&& 31).toUInt32).toInt32) &&& (7 : Int32)))), .unset, .unset, .unset, .unset]) rfl kg) ?_
  show G (s₁.setTop (mkF m 18 #[.val (.int x0), .val (.int x1), .val (.int x2), .val (.int x3), .val (.int x4), .val (.int ((x0 &&& (7 : Int32)) % (5 : Int32))), .val (.int ((1 : Int32) + (((x0.toUInt32 >>> ((3 : Int32) &&& 31).toUInt32).toInt32) &&& (7 : Int32)))), .unset, .unset, .unset, .unset] []))
  obtain ⟨mv, hmv⟩ : ∃ z : Int32, z = ((1 : Int32) + (((x0.toUInt32 >>> ((3 : Int32) &&& 31).toUInt32).toInt32) &&& (7 : Int32))) := ⟨_, rfl⟩
  obtain ⟨mm, hmm, hm⟩ := own_cnt_ac x0 hmv
  rw [← hmv, hmm]
  show G (s₁.setTop (mkF m 18 #[.val (.int x0), .val (.int x1), .val (.int x2), .val (.int x3), .val (.int x4), .val (.int ((x0 &&& (7 : Int32)) % (5 : Int32))), .val (.int (Int32.ofNat mm)), .unset, .unset, .unset, .unset] []))
  refine go (fun tg kg => XS.iconst X0.here hx rfl (hb hby at_18) kg) ?_
  show G (s₁.setTop (mkF m 19 #[.val (.int x0), .val (.int x1), .val (.int x2), .val (.int x3), .val (.int x4), .val (.int ((x0 &&& (7 : Int32)) % (5 : Int32))), .val (.int (Int32.ofNat mm)), .unset, .unset, .unset, .unset] [(.int (4 : Int32))]))
  obtain ⟨T1, h1, k1, X1, e1, E1, A1, st1⟩ := newP X0 hx hZ (hw _ (List.mem_of_getElem? (i := 0) rfl)) e0 (g := (mkF m 19 #[.val (.int x0), .val (.int x1), .val (.int x2), .val (.int x3), .val (.int x4), .val (.int ((x0 &&& (7 : Int32)) % (5 : Int32))), .val (.int (Int32.ofNat mm)), .unset, .unset, .unset, .unset] [(.int (4 : Int32))])) rfl (hb hby at_19) rfl (by decide) (cap := 4) (by decide) (by decide) (by decide) (by decide)
  obtain ⟨b1, g1⟩ : ∃ z, z = h0.size := ⟨_, rfl⟩
  rw [← g1] at A1 st1
  refine go st1 ?_
  have V1 : Arv Z h1 b1 k1 .int (4 : Int32) [(.int (0 : Int32)), (.int (0 : Int32)), (.int (0 : Int32)), (.int (0 : Int32))] (.int (0 : Int32)) := (Arv.new A1 (by decide)).pad (pad_rep [] (.int (0 : Int32)) 4)
  have ge_b1 : n0 ≤ b1 := Nat.le_trans Z0 (Nat.le_of_eq g1.symm)
  have Z1 := Nat.le_trans Z0 E1.1
  show G (T1.setTop (mkF m 21 #[.val (.int x0), .val (.int x1), .val (.int x2), .val (.int x3), .val (.int x4), .val (.int ((x0 &&& (7 : Int32)) % (5 : Int32))), .val (.int (Int32.ofNat mm)), .unset, .unset, .unset, .unset] [(.ref b1)]))
  refine go (fun tg kg => XS.astore X1.here hx rfl (hb hby at_21) rfl rfl (l' := #[.val (.int x0), .val (.int x1), .val (.int x2), .val (.int x3), .val (.int x4), .val (.int ((x0 &&& (7 : Int32)) % (5 : Int32))), .val (.int (Int32.ofNat mm)), .val (.ref b1), .unset, .unset, .unset]) rfl kg) ?_
  show G (T1.setTop (mkF m 23 #[.val (.int x0), .val (.int x1), .val (.int x2), .val (.int x3), .val (.int x4), .val (.int ((x0 &&& (7 : Int32)) % (5 : Int32))), .val (.int (Int32.ofNat mm)), .val (.ref b1), .unset, .unset, .unset] []))
  refine go (fun tg kg => XS.aload X1.here hx rfl (hb hby at_23) rfl rfl kg) ?_
  show G (T1.setTop (mkF m 25 #[.val (.int x0), .val (.int x1), .val (.int x2), .val (.int x3), .val (.int x4), .val (.int ((x0 &&& (7 : Int32)) % (5 : Int32))), .val (.int (Int32.ofNat mm)), .val (.ref b1), .unset, .unset, .unset] [(.ref b1)]))
  refine go (fun tg kg => XS.iconst X1.here hx rfl (hb hby at_25) kg) ?_
  show G (T1.setTop (mkF m 26 #[.val (.int x0), .val (.int x1), .val (.int x2), .val (.int x3), .val (.int x4), .val (.int ((x0 &&& (7 : Int32)) % (5 : Int32))), .val (.int (Int32.ofNat mm)), .val (.ref b1), .unset, .unset, .unset] [(.int (0 : Int32)), (.ref b1)]))
  refine go (fun tg kg => XS.iconst X1.here hx rfl (hb hby at_26) kg) ?_
  show G (T1.setTop (mkF m 27 #[.val (.int x0), .val (.int x1), .val (.int x2), .val (.int x3), .val (.int x4), .val (.int ((x0 &&& (7 : Int32)) % (5 : Int32))), .val (.int (Int32.ofNat mm)), .val (.ref b1), .unset, .unset, .unset] [(.int (1 : Int32)), (.int (0 : Int32)), (.ref b1)]))
  refine go (fun tg kg => XS.iloadN X1.here hx rfl (hb hby at_27) rfl kg) ?_
  show G (T1.setTop (mkF m 28 #[.val (.int x0), .val (.int x1), .val (.int x2), .val (.int x3), .val (.int x4), .val (.int ((x0 &&& (7 : Int32)) % (5 : Int32))), .val (.int (Int32.ofNat mm)), .val (.ref b1), .unset, .unset, .unset] [(.int x1), (.int (1 : Int32)), (.int (0 : Int32)), (.ref b1)]))
  refine go (fun tg kg => X1.ldcInt hx hown (mvT hZ (hw _ (List.mem_of_getElem? (i := 1) rfl))) (g := (mkF m 28 #[.val (.int x0), .val (.int x1), .val (.int x2), .val (.int x3), .val (.int x4), .val (.int ((x0 &&& (7 : Int32)) % (5 : Int32))), .val (.int (Int32.ofNat mm)), .val (.ref b1), .unset, .unset, .unset] [(.int x1), (.int (1 : Int32)), (.int (0 : Int32)), (.ref b1)])) rfl (hb hby at_28) _ kg) ?_
  show G (T1.setTop (mkF m 30 #[.val (.int x0), .val (.int x1), .val (.int x2), .val (.int x3), .val (.int x4), .val (.int ((x0 &&& (7 : Int32)) % (5 : Int32))), .val (.int (Int32.ofNat mm)), .val (.ref b1), .unset, .unset, .unset] [(.int (2147483647 : Int32)), (.int x1), (.int (1 : Int32)), (.int (0 : Int32)), (.ref b1)]))
  refine go (fun tg kg => XS.iand X1.here hx rfl (hb hby at_30) rfl kg) ?_
  show G (T1.setTop (mkF m 31 #[.val (.int x0), .val (.int x1), .val (.int x2), .val (.int x3), .val (.int x4), .val (.int ((x0 &&& (7 : Int32)) % (5 : Int32))), .val (.int (Int32.ofNat mm)), .val (.ref b1), .unset, .unset, .unset] [(.int (x1 &&& (2147483647 : Int32))), (.int (1 : Int32)), (.int (0 : Int32)), (.ref b1)]))
  refine go (fun tg kg => XS.iload X1.here hx rfl (hb hby at_31) rfl kg) ?_
  show G (T1.setTop (mkF m 33 #[.val (.int x0), .val (.int x1), .val (.int x2), .val (.int x3), .val (.int x4), .val (.int ((x0 &&& (7 : Int32)) % (5 : Int32))), .val (.int (Int32.ofNat mm)), .val (.ref b1), .unset, .unset, .unset] [(.int (Int32.ofNat mm)), (.int (x1 &&& (2147483647 : Int32))), (.int (1 : Int32)), (.int (0 : Int32)), (.ref b1)]))
  refine go (fun tg kg => iremM X1 hx rfl (hb hby at_33) rfl (own_nz hm) kg) ?_
  show G (T1.setTop (mkF m 34 #[.val (.int x0), .val (.int x1), .val (.int x2), .val (.int x3), .val (.int x4), .val (.int ((x0 &&& (7 : Int32)) % (5 : Int32))), .val (.int (Int32.ofNat mm)), .val (.ref b1), .unset, .unset, .unset] [(.int ((x1 &&& (2147483647 : Int32)) % (Int32.ofNat mm))), (.int (1 : Int32)), (.int (0 : Int32)), (.ref b1)]))
  refine go (fun tg kg => XS.iadd X1.here hx rfl (hb hby at_34) rfl kg) ?_
  show G (T1.setTop (mkF m 35 #[.val (.int x0), .val (.int x1), .val (.int x2), .val (.int x3), .val (.int x4), .val (.int ((x0 &&& (7 : Int32)) % (5 : Int32))), .val (.int (Int32.ofNat mm)), .val (.ref b1), .unset, .unset, .unset] [(.int ((1 : Int32) + ((x1 &&& (2147483647 : Int32)) % (Int32.ofNat mm)))), (.int (0 : Int32)), (.ref b1)]))
  obtain ⟨A0, hA0, bA0⟩ := own_ag x1 hm rfl
  rw [hA0]
  show G (T1.setTop (mkF m 35 #[.val (.int x0), .val (.int x1), .val (.int x2), .val (.int x3), .val (.int x4), .val (.int ((x0 &&& (7 : Int32)) % (5 : Int32))), .val (.int (Int32.ofNat mm)), .val (.ref b1), .unset, .unset, .unset] [(.int (Int32.ofNat A0)), (.int (0 : Int32)), (.ref b1)]))
  obtain ⟨cl2, Ar2, q2, S2, M2, H2, U2⟩ := id V1
  have hin2 : ¬ ((0 : Int32) < 0 ∨ cl2.slots.size ≤ ((0 : Int32)).toNatClampNeg) := inb_of S2 ⟨by decide, by decide⟩
  obtain ⟨T2, h2, X2, e2, W2, st2⟩ := stI X1 hx hZ e1 Ar2 (j := (0 : Int32)) hin2 (g := (mkF m 35 #[.val (.int x0), .val (.int x1), .val (.int x2), .val (.int x3), .val (.int x4), .val (.int ((x0 &&& (7 : Int32)) % (5 : Int32))), .val (.int (Int32.ofNat mm)), .val (.ref b1), .unset, .unset, .unset] [(.int (Int32.ofNat A0)), (.int (0 : Int32)), (.ref b1)])) rfl rfl (hb hby at_35)
  refine go st2 ?_
  have V2 : Arv Z h2 b1 k1 .int (4 : Int32) [(.int (Int32.ofNat A0)), (.int (0 : Int32)), (.int (0 : Int32)), (.int (0 : Int32))] (.int (0 : Int32)) := Arv.set Ar2 q2 S2 M2 H2 U2 rfl W2 0 rfl (Nat.le_of_ble_eq_true rfl)
  have N2 := Fr.snoc X2 N0 ge_b1
  have Z2 := Nat.le_trans Z1 (Keep.of_wr W2).1
  show G (T2.setTop (mkF m 36 #[.val (.int x0), .val (.int x1), .val (.int x2), .val (.int x3), .val (.int x4), .val (.int ((x0 &&& (7 : Int32)) % (5 : Int32))), .val (.int (Int32.ofNat mm)), .val (.ref b1), .unset, .unset, .unset] []))
  refine go (fun tg kg => XS.aload X2.here hx rfl (hb hby at_36) rfl rfl kg) ?_
  show G (T2.setTop (mkF m 38 #[.val (.int x0), .val (.int x1), .val (.int x2), .val (.int x3), .val (.int x4), .val (.int ((x0 &&& (7 : Int32)) % (5 : Int32))), .val (.int (Int32.ofNat mm)), .val (.ref b1), .unset, .unset, .unset] [(.ref b1)]))
  refine go (fun tg kg => XS.iconst X2.here hx rfl (hb hby at_38) kg) ?_
  show G (T2.setTop (mkF m 39 #[.val (.int x0), .val (.int x1), .val (.int x2), .val (.int x3), .val (.int x4), .val (.int ((x0 &&& (7 : Int32)) % (5 : Int32))), .val (.int (Int32.ofNat mm)), .val (.ref b1), .unset, .unset, .unset] [(.int (1 : Int32)), (.ref b1)]))
  refine go (fun tg kg => XS.iconst X2.here hx rfl (hb hby at_39) kg) ?_
  show G (T2.setTop (mkF m 40 #[.val (.int x0), .val (.int x1), .val (.int x2), .val (.int x3), .val (.int x4), .val (.int ((x0 &&& (7 : Int32)) % (5 : Int32))), .val (.int (Int32.ofNat mm)), .val (.ref b1), .unset, .unset, .unset] [(.int (1 : Int32)), (.int (1 : Int32)), (.ref b1)]))
  refine go (fun tg kg => XS.iloadN X2.here hx rfl (hb hby at_40) rfl kg) ?_
  show G (T2.setTop (mkF m 41 #[.val (.int x0), .val (.int x1), .val (.int x2), .val (.int x3), .val (.int x4), .val (.int ((x0 &&& (7 : Int32)) % (5 : Int32))), .val (.int (Int32.ofNat mm)), .val (.ref b1), .unset, .unset, .unset] [(.int x2), (.int (1 : Int32)), (.int (1 : Int32)), (.ref b1)]))
  refine go (fun tg kg => X2.ldcInt hx hown (mvT hZ (hw _ (List.mem_of_getElem? (i := 1) rfl))) (g := (mkF m 41 #[.val (.int x0), .val (.int x1), .val (.int x2), .val (.int x3), .val (.int x4), .val (.int ((x0 &&& (7 : Int32)) % (5 : Int32))), .val (.int (Int32.ofNat mm)), .val (.ref b1), .unset, .unset, .unset] [(.int x2), (.int (1 : Int32)), (.int (1 : Int32)), (.ref b1)])) rfl (hb hby at_41) _ kg) ?_
  show G (T2.setTop (mkF m 43 #[.val (.int x0), .val (.int x1), .val (.int x2), .val (.int x3), .val (.int x4), .val (.int ((x0 &&& (7 : Int32)) % (5 : Int32))), .val (.int (Int32.ofNat mm)), .val (.ref b1), .unset, .unset, .unset] [(.int (2147483647 : Int32)), (.int x2), (.int (1 : Int32)), (.int (1 : Int32)), (.ref b1)]))
  refine go (fun tg kg => XS.iand X2.here hx rfl (hb hby at_43) rfl kg) ?_
  show G (T2.setTop (mkF m 44 #[.val (.int x0), .val (.int x1), .val (.int x2), .val (.int x3), .val (.int x4), .val (.int ((x0 &&& (7 : Int32)) % (5 : Int32))), .val (.int (Int32.ofNat mm)), .val (.ref b1), .unset, .unset, .unset] [(.int (x2 &&& (2147483647 : Int32))), (.int (1 : Int32)), (.int (1 : Int32)), (.ref b1)]))
  refine go (fun tg kg => XS.iload X2.here hx rfl (hb hby at_44) rfl kg) ?_
  show G (T2.setTop (mkF m 46 #[.val (.int x0), .val (.int x1), .val (.int x2), .val (.int x3), .val (.int x4), .val (.int ((x0 &&& (7 : Int32)) % (5 : Int32))), .val (.int (Int32.ofNat mm)), .val (.ref b1), .unset, .unset, .unset] [(.int (Int32.ofNat mm)), (.int (x2 &&& (2147483647 : Int32))), (.int (1 : Int32)), (.int (1 : Int32)), (.ref b1)]))
  refine go (fun tg kg => iremM X2 hx rfl (hb hby at_46) rfl (own_nz hm) kg) ?_
  show G (T2.setTop (mkF m 47 #[.val (.int x0), .val (.int x1), .val (.int x2), .val (.int x3), .val (.int x4), .val (.int ((x0 &&& (7 : Int32)) % (5 : Int32))), .val (.int (Int32.ofNat mm)), .val (.ref b1), .unset, .unset, .unset] [(.int ((x2 &&& (2147483647 : Int32)) % (Int32.ofNat mm))), (.int (1 : Int32)), (.int (1 : Int32)), (.ref b1)]))
  refine go (fun tg kg => XS.iadd X2.here hx rfl (hb hby at_47) rfl kg) ?_
  show G (T2.setTop (mkF m 48 #[.val (.int x0), .val (.int x1), .val (.int x2), .val (.int x3), .val (.int x4), .val (.int ((x0 &&& (7 : Int32)) % (5 : Int32))), .val (.int (Int32.ofNat mm)), .val (.ref b1), .unset, .unset, .unset] [(.int ((1 : Int32) + ((x2 &&& (2147483647 : Int32)) % (Int32.ofNat mm)))), (.int (1 : Int32)), (.ref b1)]))
  obtain ⟨A1, hA1, bA1⟩ := own_ag x2 hm rfl
  rw [hA1]
  show G (T2.setTop (mkF m 48 #[.val (.int x0), .val (.int x1), .val (.int x2), .val (.int x3), .val (.int x4), .val (.int ((x0 &&& (7 : Int32)) % (5 : Int32))), .val (.int (Int32.ofNat mm)), .val (.ref b1), .unset, .unset, .unset] [(.int (Int32.ofNat A1)), (.int (1 : Int32)), (.ref b1)]))
  obtain ⟨cl3, Ar3, q3, S3, M3, H3, U3⟩ := id V2
  have hin3 : ¬ ((1 : Int32) < 0 ∨ cl3.slots.size ≤ ((1 : Int32)).toNatClampNeg) := inb_of S3 ⟨by decide, by decide⟩
  obtain ⟨T3, h3, X3, e3, W3, st3⟩ := stI X2 hx hZ e2 Ar3 (j := (1 : Int32)) hin3 (g := (mkF m 48 #[.val (.int x0), .val (.int x1), .val (.int x2), .val (.int x3), .val (.int x4), .val (.int ((x0 &&& (7 : Int32)) % (5 : Int32))), .val (.int (Int32.ofNat mm)), .val (.ref b1), .unset, .unset, .unset] [(.int (Int32.ofNat A1)), (.int (1 : Int32)), (.ref b1)])) rfl rfl (hb hby at_48)
  refine go st3 ?_
  have V3 : Arv Z h3 b1 k1 .int (4 : Int32) [(.int (Int32.ofNat A0)), (.int (Int32.ofNat A1)), (.int (0 : Int32)), (.int (0 : Int32))] (.int (0 : Int32)) := Arv.set Ar3 q3 S3 M3 H3 U3 rfl W3 1 rfl (Nat.le_of_ble_eq_true rfl)
  have N3 := Fr.snoc X3 N2 ge_b1
  have Z3 := Nat.le_trans Z2 (Keep.of_wr W3).1
  show G (T3.setTop (mkF m 49 #[.val (.int x0), .val (.int x1), .val (.int x2), .val (.int x3), .val (.int x4), .val (.int ((x0 &&& (7 : Int32)) % (5 : Int32))), .val (.int (Int32.ofNat mm)), .val (.ref b1), .unset, .unset, .unset] []))
  refine go (fun tg kg => XS.aload X3.here hx rfl (hb hby at_49) rfl rfl kg) ?_
  show G (T3.setTop (mkF m 51 #[.val (.int x0), .val (.int x1), .val (.int x2), .val (.int x3), .val (.int x4), .val (.int ((x0 &&& (7 : Int32)) % (5 : Int32))), .val (.int (Int32.ofNat mm)), .val (.ref b1), .unset, .unset, .unset] [(.ref b1)]))
  refine go (fun tg kg => XS.iconst X3.here hx rfl (hb hby at_51) kg) ?_
  show G (T3.setTop (mkF m 52 #[.val (.int x0), .val (.int x1), .val (.int x2), .val (.int x3), .val (.int x4), .val (.int ((x0 &&& (7 : Int32)) % (5 : Int32))), .val (.int (Int32.ofNat mm)), .val (.ref b1), .unset, .unset, .unset] [(.int (2 : Int32)), (.ref b1)]))
  refine go (fun tg kg => XS.iconst X3.here hx rfl (hb hby at_52) kg) ?_
  show G (T3.setTop (mkF m 53 #[.val (.int x0), .val (.int x1), .val (.int x2), .val (.int x3), .val (.int x4), .val (.int ((x0 &&& (7 : Int32)) % (5 : Int32))), .val (.int (Int32.ofNat mm)), .val (.ref b1), .unset, .unset, .unset] [(.int (1 : Int32)), (.int (2 : Int32)), (.ref b1)]))
  refine go (fun tg kg => XS.iloadN X3.here hx rfl (hb hby at_53) rfl kg) ?_
  show G (T3.setTop (mkF m 54 #[.val (.int x0), .val (.int x1), .val (.int x2), .val (.int x3), .val (.int x4), .val (.int ((x0 &&& (7 : Int32)) % (5 : Int32))), .val (.int (Int32.ofNat mm)), .val (.ref b1), .unset, .unset, .unset] [(.int x3), (.int (1 : Int32)), (.int (2 : Int32)), (.ref b1)]))
  refine go (fun tg kg => X3.ldcInt hx hown (mvT hZ (hw _ (List.mem_of_getElem? (i := 1) rfl))) (g := (mkF m 54 #[.val (.int x0), .val (.int x1), .val (.int x2), .val (.int x3), .val (.int x4), .val (.int ((x0 &&& (7 : Int32)) % (5 : Int32))), .val (.int (Int32.ofNat mm)), .val (.ref b1), .unset, .unset, .unset] [(.int x3), (.int (1 : Int32)), (.int (2 : Int32)), (.ref b1)])) rfl (hb hby at_54) _ kg) ?_
  show G (T3.setTop (mkF m 56 #[.val (.int x0), .val (.int x1), .val (.int x2), .val (.int x3), .val (.int x4), .val (.int ((x0 &&& (7 : Int32)) % (5 : Int32))), .val (.int (Int32.ofNat mm)), .val (.ref b1), .unset, .unset, .unset] [(.int (2147483647 : Int32)), (.int x3), (.int (1 : Int32)), (.int (2 : Int32)), (.ref b1)]))
  refine go (fun tg kg => XS.iand X3.here hx rfl (hb hby at_56) rfl kg) ?_
  show G (T3.setTop (mkF m 57 #[.val (.int x0), .val (.int x1), .val (.int x2), .val (.int x3), .val (.int x4), .val (.int ((x0 &&& (7 : Int32)) % (5 : Int32))), .val (.int (Int32.ofNat mm)), .val (.ref b1), .unset, .unset, .unset] [(.int (x3 &&& (2147483647 : Int32))), (.int (1 : Int32)), (.int (2 : Int32)), (.ref b1)]))
  refine go (fun tg kg => XS.iload X3.here hx rfl (hb hby at_57) rfl kg) ?_
  show G (T3.setTop (mkF m 59 #[.val (.int x0), .val (.int x1), .val (.int x2), .val (.int x3), .val (.int x4), .val (.int ((x0 &&& (7 : Int32)) % (5 : Int32))), .val (.int (Int32.ofNat mm)), .val (.ref b1), .unset, .unset, .unset] [(.int (Int32.ofNat mm)), (.int (x3 &&& (2147483647 : Int32))), (.int (1 : Int32)), (.int (2 : Int32)), (.ref b1)]))
  refine go (fun tg kg => iremM X3 hx rfl (hb hby at_59) rfl (own_nz hm) kg) ?_
  show G (T3.setTop (mkF m 60 #[.val (.int x0), .val (.int x1), .val (.int x2), .val (.int x3), .val (.int x4), .val (.int ((x0 &&& (7 : Int32)) % (5 : Int32))), .val (.int (Int32.ofNat mm)), .val (.ref b1), .unset, .unset, .unset] [(.int ((x3 &&& (2147483647 : Int32)) % (Int32.ofNat mm))), (.int (1 : Int32)), (.int (2 : Int32)), (.ref b1)]))
  refine go (fun tg kg => XS.iadd X3.here hx rfl (hb hby at_60) rfl kg) ?_
  show G (T3.setTop (mkF m 61 #[.val (.int x0), .val (.int x1), .val (.int x2), .val (.int x3), .val (.int x4), .val (.int ((x0 &&& (7 : Int32)) % (5 : Int32))), .val (.int (Int32.ofNat mm)), .val (.ref b1), .unset, .unset, .unset] [(.int ((1 : Int32) + ((x3 &&& (2147483647 : Int32)) % (Int32.ofNat mm)))), (.int (2 : Int32)), (.ref b1)]))
  obtain ⟨A2, hA2, bA2⟩ := own_ag x3 hm rfl
  rw [hA2]
  show G (T3.setTop (mkF m 61 #[.val (.int x0), .val (.int x1), .val (.int x2), .val (.int x3), .val (.int x4), .val (.int ((x0 &&& (7 : Int32)) % (5 : Int32))), .val (.int (Int32.ofNat mm)), .val (.ref b1), .unset, .unset, .unset] [(.int (Int32.ofNat A2)), (.int (2 : Int32)), (.ref b1)]))
  obtain ⟨cl4, Ar4, q4, S4, M4, H4, U4⟩ := id V3
  have hin4 : ¬ ((2 : Int32) < 0 ∨ cl4.slots.size ≤ ((2 : Int32)).toNatClampNeg) := inb_of S4 ⟨by decide, by decide⟩
  obtain ⟨T4, h4, X4, e4, W4, st4⟩ := stI X3 hx hZ e3 Ar4 (j := (2 : Int32)) hin4 (g := (mkF m 61 #[.val (.int x0), .val (.int x1), .val (.int x2), .val (.int x3), .val (.int x4), .val (.int ((x0 &&& (7 : Int32)) % (5 : Int32))), .val (.int (Int32.ofNat mm)), .val (.ref b1), .unset, .unset, .unset] [(.int (Int32.ofNat A2)), (.int (2 : Int32)), (.ref b1)])) rfl rfl (hb hby at_61)
  refine go st4 ?_
  have V4 : Arv Z h4 b1 k1 .int (4 : Int32) [(.int (Int32.ofNat A0)), (.int (Int32.ofNat A1)), (.int (Int32.ofNat A2)), (.int (0 : Int32))] (.int (0 : Int32)) := Arv.set Ar4 q4 S4 M4 H4 U4 rfl W4 2 rfl (Nat.le_of_ble_eq_true rfl)
  have N4 := Fr.snoc X4 N3 ge_b1
  have Z4 := Nat.le_trans Z3 (Keep.of_wr W4).1
  show G (T4.setTop (mkF m 62 #[.val (.int x0), .val (.int x1), .val (.int x2), .val (.int x3), .val (.int x4), .val (.int ((x0 &&& (7 : Int32)) % (5 : Int32))), .val (.int (Int32.ofNat mm)), .val (.ref b1), .unset, .unset, .unset] []))
  refine go (fun tg kg => XS.aload X4.here hx rfl (hb hby at_62) rfl rfl kg) ?_
  show G (T4.setTop (mkF m 64 #[.val (.int x0), .val (.int x1), .val (.int x2), .val (.int x3), .val (.int x4), .val (.int ((x0 &&& (7 : Int32)) % (5 : Int32))), .val (.int (Int32.ofNat mm)), .val (.ref b1), .unset, .unset, .unset] [(.ref b1)]))
  refine go (fun tg kg => XS.iconst X4.here hx rfl (hb hby at_64) kg) ?_
  show G (T4.setTop (mkF m 65 #[.val (.int x0), .val (.int x1), .val (.int x2), .val (.int x3), .val (.int x4), .val (.int ((x0 &&& (7 : Int32)) % (5 : Int32))), .val (.int (Int32.ofNat mm)), .val (.ref b1), .unset, .unset, .unset] [(.int (3 : Int32)), (.ref b1)]))
  refine go (fun tg kg => XS.iconst X4.here hx rfl (hb hby at_65) kg) ?_
  show G (T4.setTop (mkF m 66 #[.val (.int x0), .val (.int x1), .val (.int x2), .val (.int x3), .val (.int x4), .val (.int ((x0 &&& (7 : Int32)) % (5 : Int32))), .val (.int (Int32.ofNat mm)), .val (.ref b1), .unset, .unset, .unset] [(.int (1 : Int32)), (.int (3 : Int32)), (.ref b1)]))
  refine go (fun tg kg => XS.iload X4.here hx rfl (hb hby at_66) rfl kg) ?_
  show G (T4.setTop (mkF m 68 #[.val (.int x0), .val (.int x1), .val (.int x2), .val (.int x3), .val (.int x4), .val (.int ((x0 &&& (7 : Int32)) % (5 : Int32))), .val (.int (Int32.ofNat mm)), .val (.ref b1), .unset, .unset, .unset] [(.int x4), (.int (1 : Int32)), (.int (3 : Int32)), (.ref b1)]))
  refine go (fun tg kg => X4.ldcInt hx hown (mvT hZ (hw _ (List.mem_of_getElem? (i := 1) rfl))) (g := (mkF m 68 #[.val (.int x0), .val (.int x1), .val (.int x2), .val (.int x3), .val (.int x4), .val (.int ((x0 &&& (7 : Int32)) % (5 : Int32))), .val (.int (Int32.ofNat mm)), .val (.ref b1), .unset, .unset, .unset] [(.int x4), (.int (1 : Int32)), (.int (3 : Int32)), (.ref b1)])) rfl (hb hby at_68) _ kg) ?_
  show G (T4.setTop (mkF m 70 #[.val (.int x0), .val (.int x1), .val (.int x2), .val (.int x3), .val (.int x4), .val (.int ((x0 &&& (7 : Int32)) % (5 : Int32))), .val (.int (Int32.ofNat mm)), .val (.ref b1), .unset, .unset, .unset] [(.int (2147483647 : Int32)), (.int x4), (.int (1 : Int32)), (.int (3 : Int32)), (.ref b1)]))
  refine go (fun tg kg => XS.iand X4.here hx rfl (hb hby at_70) rfl kg) ?_
  show G (T4.setTop (mkF m 71 #[.val (.int x0), .val (.int x1), .val (.int x2), .val (.int x3), .val (.int x4), .val (.int ((x0 &&& (7 : Int32)) % (5 : Int32))), .val (.int (Int32.ofNat mm)), .val (.ref b1), .unset, .unset, .unset] [(.int (x4 &&& (2147483647 : Int32))), (.int (1 : Int32)), (.int (3 : Int32)), (.ref b1)]))
  refine go (fun tg kg => XS.iload X4.here hx rfl (hb hby at_71) rfl kg) ?_
  show G (T4.setTop (mkF m 73 #[.val (.int x0), .val (.int x1), .val (.int x2), .val (.int x3), .val (.int x4), .val (.int ((x0 &&& (7 : Int32)) % (5 : Int32))), .val (.int (Int32.ofNat mm)), .val (.ref b1), .unset, .unset, .unset] [(.int (Int32.ofNat mm)), (.int (x4 &&& (2147483647 : Int32))), (.int (1 : Int32)), (.int (3 : Int32)), (.ref b1)]))
  refine go (fun tg kg => iremM X4 hx rfl (hb hby at_73) rfl (own_nz hm) kg) ?_
  show G (T4.setTop (mkF m 74 #[.val (.int x0), .val (.int x1), .val (.int x2), .val (.int x3), .val (.int x4), .val (.int ((x0 &&& (7 : Int32)) % (5 : Int32))), .val (.int (Int32.ofNat mm)), .val (.ref b1), .unset, .unset, .unset] [(.int ((x4 &&& (2147483647 : Int32)) % (Int32.ofNat mm))), (.int (1 : Int32)), (.int (3 : Int32)), (.ref b1)]))
  refine go (fun tg kg => XS.iadd X4.here hx rfl (hb hby at_74) rfl kg) ?_
  show G (T4.setTop (mkF m 75 #[.val (.int x0), .val (.int x1), .val (.int x2), .val (.int x3), .val (.int x4), .val (.int ((x0 &&& (7 : Int32)) % (5 : Int32))), .val (.int (Int32.ofNat mm)), .val (.ref b1), .unset, .unset, .unset] [(.int ((1 : Int32) + ((x4 &&& (2147483647 : Int32)) % (Int32.ofNat mm)))), (.int (3 : Int32)), (.ref b1)]))
  obtain ⟨A3, hA3, bA3⟩ := own_ag x4 hm rfl
  rw [hA3]
  show G (T4.setTop (mkF m 75 #[.val (.int x0), .val (.int x1), .val (.int x2), .val (.int x3), .val (.int x4), .val (.int ((x0 &&& (7 : Int32)) % (5 : Int32))), .val (.int (Int32.ofNat mm)), .val (.ref b1), .unset, .unset, .unset] [(.int (Int32.ofNat A3)), (.int (3 : Int32)), (.ref b1)]))
  obtain ⟨cl5, Ar5, q5, S5, M5, H5, U5⟩ := id V4
  have hin5 : ¬ ((3 : Int32) < 0 ∨ cl5.slots.size ≤ ((3 : Int32)).toNatClampNeg) := inb_of S5 ⟨by decide, by decide⟩
  obtain ⟨T5, h5, X5, e5, W5, st5⟩ := stI X4 hx hZ e4 Ar5 (j := (3 : Int32)) hin5 (g := (mkF m 75 #[.val (.int x0), .val (.int x1), .val (.int x2), .val (.int x3), .val (.int x4), .val (.int ((x0 &&& (7 : Int32)) % (5 : Int32))), .val (.int (Int32.ofNat mm)), .val (.ref b1), .unset, .unset, .unset] [(.int (Int32.ofNat A3)), (.int (3 : Int32)), (.ref b1)])) rfl rfl (hb hby at_75)
  refine go st5 ?_
  have V5 : Arv Z h5 b1 k1 .int (4 : Int32) [(.int (Int32.ofNat A0)), (.int (Int32.ofNat A1)), (.int (Int32.ofNat A2)), (.int (Int32.ofNat A3))] (.int (0 : Int32)) := Arv.set Ar5 q5 S5 M5 H5 U5 rfl W5 3 rfl (Nat.le_of_ble_eq_true rfl)
  have N5 := Fr.snoc X5 N4 ge_b1
  have Z5 := Nat.le_trans Z4 (Keep.of_wr W5).1
  show G (T5.setTop (mkF m 76 #[.val (.int x0), .val (.int x1), .val (.int x2), .val (.int x3), .val (.int x4), .val (.int ((x0 &&& (7 : Int32)) % (5 : Int32))), .val (.int (Int32.ofNat mm)), .val (.ref b1), .unset, .unset, .unset] []))
  obtain ⟨T6, h6, X6, e6, E6, A6, D6, -, st6⟩ := newO X5 hx hZ hown (hw _ (List.mem_of_getElem? (i := 2) rfl)) (hw _ (List.mem_of_getElem? (i := 3) rfl)) (hw _ (List.mem_of_getElem? (i := 4) rfl)) e5 (g := (mkF m 76 #[.val (.int x0), .val (.int x1), .val (.int x2), .val (.int x3), .val (.int x4), .val (.int ((x0 &&& (7 : Int32)) % (5 : Int32))), .val (.int (Int32.ofNat mm)), .val (.ref b1), .unset, .unset, .unset] [])) rfl (hb hby at_76) (by decide) (by decide)
  obtain ⟨b6, g6⟩ : ∃ z, z = h5.size := ⟨_, rfl⟩
  rw [← g6] at A6 D6 st6
  refine go st6 ?_
  have ge_b6 : n0 ≤ b6 := Nat.le_trans Z5 (Nat.le_of_eq g6.symm)
  have Z6 := Nat.le_trans Z5 E6.1
  have F6_agents : Fld Z h6 b6 "com/example/housemartin/housemartin/record/SpellColumns" "agents" "[I" .null := D6 (Or.inl (hw _ (List.mem_of_getElem? (i := 12) rfl))) (ty := (.array .int)) (by decide)
  have F6_firms : Fld Z h6 b6 "com/example/housemartin/housemartin/record/SpellColumns" "firms" "[I" .null := D6 (Or.inl (hw _ (List.mem_of_getElem? (i := 14) rfl))) (ty := (.array .int)) (by decide)
  have F6_starts : Fld Z h6 b6 "com/example/housemartin/housemartin/record/SpellColumns" "starts" "[I" .null := D6 (Or.inl (hw _ (List.mem_of_getElem? (i := 16) rfl))) (ty := (.array .int)) (by decide)
  have F6_ends : Fld Z h6 b6 "com/example/housemartin/housemartin/record/SpellColumns" "ends" "[I" .null := D6 (Or.inl (hw _ (List.mem_of_getElem? (i := 18) rfl))) (ty := (.array .int)) (by decide)
  have F6_reasons : Fld Z h6 b6 "com/example/housemartin/housemartin/record/SpellColumns" "reasons" "[B" .null := D6 (Or.inl (hw _ (List.mem_of_getElem? (i := 21) rfl))) (ty := (.array .byte)) (by decide)
  have F6_lines : Fld Z h6 b6 "com/example/housemartin/housemartin/record/SpellColumns" "lines" "[J" .null := D6 (Or.inl (hw _ (List.mem_of_getElem? (i := 24) rfl))) (ty := (.array .long)) (by decide)
  have F6_size : Fld Z h6 b6 "com/example/housemartin/housemartin/record/SpellColumns" "size" "I" (.int (0 : Int32)) := D6 (Or.inl (hw _ (List.mem_of_getElem? (i := 31) rfl))) (ty := .int) (by decide)
  show G (T6.setTop (mkF m 79 #[.val (.int x0), .val (.int x1), .val (.int x2), .val (.int x3), .val (.int x4), .val (.int ((x0 &&& (7 : Int32)) % (5 : Int32))), .val (.int (Int32.ofNat mm)), .val (.ref b1), .unset, .unset, .unset] [(.ref b6)]))
  refine go (fun tg kg => XS.dup X6.here hx rfl (hb hby at_79) rfl rfl kg) ?_
  show G (T6.setTop (mkF m 80 #[.val (.int x0), .val (.int x1), .val (.int x2), .val (.int x3), .val (.int x4), .val (.int ((x0 &&& (7 : Int32)) % (5 : Int32))), .val (.int (Int32.ofNat mm)), .val (.ref b1), .unset, .unset, .unset] [(.ref b6), (.ref b6)]))
  obtain ⟨_, _, ⟨T7, L7, k7, n7⟩, -, X7, ⟨Lc7, hQ7, l7, y7, z7⟩, st7⟩ := X6.specialBack hx (y := (⟨"com/example/housemartin/housemartin/record/SpellColumns", "<init>", "()V"⟩ : MethodName)) rfl hown (mvT hZ (hw _ (List.mem_of_getElem? (i := 5) rfl))) (mvT hZ (hw _ (List.mem_of_getElem? (i := 6) rfl))) (mvT hZ (hw _ (List.mem_of_getElem? (i := 7) rfl))) (by decide) (backOf (W := 1) (rm1 l Z a0 hw [] b6 h6 n0 Z6 A6 ge_b6 F6_agents F6_firms F6_starts F6_ends F6_reasons F6_lines F6_size) hZ (hw _ (List.mem_of_getElem? (i := 7) rfl)) (hw _ (List.mem_of_getElem? (i := 4) rfl)) (by decide) (by decide)) (g := (mkF m 80 #[.val (.int x0), .val (.int x1), .val (.int x2), .val (.int x3), .val (.int x4), .val (.int ((x0 &&& (7 : Int32)) % (5 : Int32))), .val (.int (Int32.ofNat mm)), .val (.ref b1), .unset, .unset, .unset] [(.ref b6), (.ref b6)])) rfl (by rw [hml]; rfl) (Steps.refl _) (a := b6) (argsL := []) (rest := [(.ref b6)]) (lenOf pd___V rfl) rfl (by show 2 * 0 + _ ≤ _; exact Nat.le_of_eq rfl) (hb hby at_80) (fun _ _ => ⟨rfl, e6, (by decide : 2 + 6 ≤ _), (by decide : 11 + 6144 ≤ _)⟩)
  dsimp only [Pt.U, Pt.locs, Pt.cells, Pt.slots] at X7 l7 y7 z7 st7 hQ7
  subst l7 y7 z7
  obtain ⟨rfl, ag7, fi7, sa7, en7, re7, li7, Nq7, K7, sz7, ge7, hch7, Ge7, G7_agents, G7_firms, G7_starts, G7_ends, G7_reasons, G7_lines, G7_size, Gv7_agents, Gv7_firms, Gv7_starts, Gv7_ends, Gv7_reasons, Gv7_lines⟩ := hQ7
  have ge_ag7 : n0 ≤ ag7 := by omega
  have ge_fi7 : n0 ≤ fi7 := by omega
  have ge_sa7 : n0 ≤ sa7 := by omega
  have ge_en7 : n0 ≤ en7 := by omega
  have ge_re7 : n0 ≤ re7 := by omega
  have ge_li7 : n0 ≤ li7 := by omega
  have Z7 := Nat.le_trans Z6 K7.1
  have hob7 : @LT.lt Nat instLTNat b6 ag7 := Nat.lt_of_lt_of_le A6.lt sz7
  have N7 := Fr.app N5 Nq7
  refine go (fun tg kg => st7.trans kg) ?_
  show G (T7.setTop (mkF m 83 #[.val (.int x0), .val (.int x1), .val (.int x2), .val (.int x3), .val (.int x4), .val (.int ((x0 &&& (7 : Int32)) % (5 : Int32))), .val (.int (Int32.ofNat mm)), .val (.ref b1), .unset, .unset, .unset] [(.ref b6)]))
  refine go (fun tg kg => XS.astore X7.here hx rfl (hb hby at_83) rfl rfl (l' := #[.val (.int x0), .val (.int x1), .val (.int x2), .val (.int x3), .val (.int x4), .val (.int ((x0 &&& (7 : Int32)) % (5 : Int32))), .val (.int (Int32.ofNat mm)), .val (.ref b1), .val (.ref b6), .unset, .unset]) rfl kg) ?_
  show G (T7.setTop (mkF m 85 #[.val (.int x0), .val (.int x1), .val (.int x2), .val (.int x3), .val (.int x4), .val (.int ((x0 &&& (7 : Int32)) % (5 : Int32))), .val (.int (Int32.ofNat mm)), .val (.ref b1), .val (.ref b6), .unset, .unset] []))
  obtain ⟨nv, hnv⟩ : ∃ z : Int32, z = ((x0 &&& (7 : Int32)) % (5 : Int32)) := ⟨_, rfl⟩
  have h5 := own_n5 x0 hnv
  rw [← hnv]
  clear hnv
  rcases h5 with rfl | rfl | rfl | rfl | rfl
  · skip
    show G (T7.setTop (mkF m 85 #[.val (.int x0), .val (.int x1), .val (.int x2), .val (.int x3), .val (.int x4), .val (.int (0 : Int32)), .val (.int (Int32.ofNat mm)), .val (.ref b1), .val (.ref b6), .unset, .unset] []))
    refine go (fun tg kg => XS.iload X7.here hx rfl (hb hby at_85) rfl kg) ?_
    show G (T7.setTop (mkF m 87 #[.val (.int x0), .val (.int x1), .val (.int x2), .val (.int x3), .val (.int x4), .val (.int (0 : Int32)), .val (.int (Int32.ofNat mm)), .val (.ref b1), .val (.ref b6), .unset, .unset] [(.int (0 : Int32))]))
    refine go (fun tg kg => XS.ifYes X7.here hx rfl (pc0 := 87) (pc' := 105) rfl (hb hby at_87) rfl ((if0 _ _).trans (flt (by decide)).2.2.2) (by decide) (by decide) kg) ?_
    show G (T7.setTop (mkF m 105 #[.val (.int x0), .val (.int x1), .val (.int x2), .val (.int x3), .val (.int x4), .val (.int (0 : Int32)), .val (.int (Int32.ofNat mm)), .val (.ref b1), .val (.ref b6), .unset, .unset] []))
    refine go (fun tg kg => XS.iload X7.here hx rfl (hb hby at_105) rfl kg) ?_
    show G (T7.setTop (mkF m 107 #[.val (.int x0), .val (.int x1), .val (.int x2), .val (.int x3), .val (.int x4), .val (.int (0 : Int32)), .val (.int (Int32.ofNat mm)), .val (.ref b1), .val (.ref b6), .unset, .unset] [(.int (0 : Int32))]))
    refine go (fun tg kg => XS.iconst X7.here hx rfl (hb hby at_107) kg) ?_
    show G (T7.setTop (mkF m 108 #[.val (.int x0), .val (.int x1), .val (.int x2), .val (.int x3), .val (.int x4), .val (.int (0 : Int32)), .val (.int (Int32.ofNat mm)), .val (.ref b1), .val (.ref b6), .unset, .unset] [(.int (1 : Int32)), (.int (0 : Int32))]))
    refine go (fun tg kg => XS.icmpYes X7.here hx rfl (pc0 := 108) (pc' := 126) rfl (hb hby at_108) rfl (flt (by decide)).2.2.2 (by decide) (by decide) kg) ?_
    show G (T7.setTop (mkF m 126 #[.val (.int x0), .val (.int x1), .val (.int x2), .val (.int x3), .val (.int x4), .val (.int (0 : Int32)), .val (.int (Int32.ofNat mm)), .val (.ref b1), .val (.ref b6), .unset, .unset] []))
    refine go (fun tg kg => XS.iload X7.here hx rfl (hb hby at_126) rfl kg) ?_
    show G (T7.setTop (mkF m 128 #[.val (.int x0), .val (.int x1), .val (.int x2), .val (.int x3), .val (.int x4), .val (.int (0 : Int32)), .val (.int (Int32.ofNat mm)), .val (.ref b1), .val (.ref b6), .unset, .unset] [(.int (0 : Int32))]))
    refine go (fun tg kg => XS.iconst X7.here hx rfl (hb hby at_128) kg) ?_
    show G (T7.setTop (mkF m 129 #[.val (.int x0), .val (.int x1), .val (.int x2), .val (.int x3), .val (.int x4), .val (.int (0 : Int32)), .val (.int (Int32.ofNat mm)), .val (.ref b1), .val (.ref b6), .unset, .unset] [(.int (2 : Int32)), (.int (0 : Int32))]))
    refine go (fun tg kg => XS.icmpYes X7.here hx rfl (pc0 := 129) (pc' := 149) rfl (hb hby at_129) rfl (flt (by decide)).2.2.2 (by decide) (by decide) kg) ?_
    show G (T7.setTop (mkF m 149 #[.val (.int x0), .val (.int x1), .val (.int x2), .val (.int x3), .val (.int x4), .val (.int (0 : Int32)), .val (.int (Int32.ofNat mm)), .val (.ref b1), .val (.ref b6), .unset, .unset] []))
    refine go (fun tg kg => XS.iload X7.here hx rfl (hb hby at_149) rfl kg) ?_
    show G (T7.setTop (mkF m 151 #[.val (.int x0), .val (.int x1), .val (.int x2), .val (.int x3), .val (.int x4), .val (.int (0 : Int32)), .val (.int (Int32.ofNat mm)), .val (.ref b1), .val (.ref b6), .unset, .unset] [(.int (0 : Int32))]))
    refine go (fun tg kg => XS.iconst X7.here hx rfl (hb hby at_151) kg) ?_
    show G (T7.setTop (mkF m 152 #[.val (.int x0), .val (.int x1), .val (.int x2), .val (.int x3), .val (.int x4), .val (.int (0 : Int32)), .val (.int (Int32.ofNat mm)), .val (.ref b1), .val (.ref b6), .unset, .unset] [(.int (3 : Int32)), (.int (0 : Int32))]))
    refine go (fun tg kg => XS.icmpYes X7.here hx rfl (pc0 := 152) (pc' := 173) rfl (hb hby at_152) rfl (flt (by decide)).2.2.2 (by decide) (by decide) kg) ?_
    show G (T7.setTop (mkF m 173 #[.val (.int x0), .val (.int x1), .val (.int x2), .val (.int x3), .val (.int x4), .val (.int (0 : Int32)), .val (.int (Int32.ofNat mm)), .val (.ref b1), .val (.ref b6), .unset, .unset] []))
    refine go (fun tg kg => XS.aload X7.here hx rfl (hb hby at_173) rfl rfl kg) ?_
    show G (T7.setTop (mkF m 175 #[.val (.int x0), .val (.int x1), .val (.int x2), .val (.int x3), .val (.int x4), .val (.int (0 : Int32)), .val (.int (Int32.ofNat mm)), .val (.ref b1), .val (.ref b6), .unset, .unset] [(.ref b6)]))
    refine go (fun tg kg => XS.iload X7.here hx rfl (hb hby at_175) rfl kg) ?_
    show G (T7.setTop (mkF m 177 #[.val (.int x0), .val (.int x1), .val (.int x2), .val (.int x3), .val (.int x4), .val (.int (0 : Int32)), .val (.int (Int32.ofNat mm)), .val (.ref b1), .val (.ref b6), .unset, .unset] [(.int (Int32.ofNat mm)), (.ref b6)]))
    obtain ⟨cq8, kq8, q8a, q8b, q8c⟩ := isOf hZ rfl Ge7
    obtain ⟨_, _, ⟨T8, L8, k8, n8⟩, -, X8, ⟨Lc8, hQ8, l8, y8, z8⟩, st8⟩ := X7.virtualBack hx (y := (⟨"com/example/housemartin/housemartin/record/SpellColumns", "byAgent", "(I)[I"⟩ : MethodName)) (z := (⟨"com/example/housemartin/housemartin/record/SpellColumns", "byAgent", "(I)[I"⟩ : MethodName)) hown (mvT hZ (hw _ (List.mem_of_getElem? (i := 25) rfl))) (mvT hZ (hw _ (List.mem_of_getElem? (i := 26) rfl))) (notFace_of_selects (args := #[]) (mvT hZ (hw _ (List.mem_of_getElem? (i := 28) rfl)))) (mvT hZ (hw _ (List.mem_of_getElem? (i := 28) rfl))) (mvT hZ (hw _ (List.mem_of_getElem? (i := 27) rfl))) (by decide) (backOf (W := 0) (rm3 l Z a0 hw [] b6 mm 0 (own_4 A0 A1 A2 A3) ag7 (fun _ => 0) T7.heap n0 Z7 G7_agents G7_size Gv7_agents (fun j hj => absurd hj (Nat.not_lt_zero j)) hm (by decide)) hZ (hw _ (List.mem_of_getElem? (i := 29) rfl)) (hw _ (List.mem_of_getElem? (i := 4) rfl)) (by decide) (by decide)) q8a q8c (g := (mkF m 177 #[.val (.int x0), .val (.int x1), .val (.int x2), .val (.int x3), .val (.int x4), .val (.int (0 : Int32)), .val (.int (Int32.ofNat mm)), .val (.ref b1), .val (.ref b6), .unset, .unset] [(.int (Int32.ofNat mm)), (.ref b6)])) rfl (by rw [hml]; rfl) (Steps.refl _) (argsL := [(.int (Int32.ofNat mm))]) (rest := []) (lenOf pd__I__I rfl) rfl (by show 2 * 0 + _ ≤ _; exact Nat.le_of_eq rfl) (hb hby at_177) (fun _ _ => ⟨rfl, rfl, (by decide : 8 + 2 ≤ _), (by decide : 6155 + 14 ≤ _)⟩)
    dsimp only [Pt.U, Pt.locs, Pt.cells, Pt.slots] at X8 l8 y8 z8 st8 hQ8
    subst l8 y8 z8
    obtain ⟨b8, rfl, Nq8, K8, sz8, Gv8⟩ := hQ8
    have Z8 := Nat.le_trans Z7 K8.1
    have N8 := Fr.app N7 Nq8
    refine go (fun tg kg => st8.trans kg) ?_
    show G (T8.setTop (mkF m 180 #[.val (.int x0), .val (.int x1), .val (.int x2), .val (.int x3), .val (.int x4), .val (.int (0 : Int32)), .val (.int (Int32.ofNat mm)), .val (.ref b1), .val (.ref b6), .unset, .unset] [(.ref b8)]))
    refine go (fun tg kg => XS.astore X8.here hx rfl (hb hby at_180) rfl rfl (l' := #[.val (.int x0), .val (.int x1), .val (.int x2), .val (.int x3), .val (.int x4), .val (.int (0 : Int32)), .val (.int (Int32.ofNat mm)), .val (.ref b1), .val (.ref b6), .val (.ref b8), .unset]) rfl kg) ?_
    show G (T8.setTop (mkF m 182 #[.val (.int x0), .val (.int x1), .val (.int x2), .val (.int x3), .val (.int x4), .val (.int (0 : Int32)), .val (.int (Int32.ofNat mm)), .val (.ref b1), .val (.ref b6), .val (.ref b8), .unset] []))
    refine go (fun tg kg => XS.aload X8.here hx rfl (hb hby at_182) rfl rfl kg) ?_
    show G (T8.setTop (mkF m 184 #[.val (.int x0), .val (.int x1), .val (.int x2), .val (.int x3), .val (.int x4), .val (.int (0 : Int32)), .val (.int (Int32.ofNat mm)), .val (.ref b1), .val (.ref b6), .val (.ref b8), .unset] [(.ref b8)]))
    obtain ⟨cl9, Ar9, S9, -⟩ := id Gv8
    refine go (fun tg kg => X8.arraylength hx Ar9.1 (State.isArrayOf_alike hZ.alike Ar9.2.1) (g := (mkF m 184 #[.val (.int x0), .val (.int x1), .val (.int x2), .val (.int x3), .val (.int x4), .val (.int (0 : Int32)), .val (.int (Int32.ofNat mm)), .val (.ref b1), .val (.ref b6), .val (.ref b8), .unset] [(.ref b8)])) rfl rfl (hb hby at_184) _ kg) ?_
    rw [S9]
    show G (T8.setTop (mkF m 185 #[.val (.int x0), .val (.int x1), .val (.int x2), .val (.int x3), .val (.int x4), .val (.int (0 : Int32)), .val (.int (Int32.ofNat mm)), .val (.ref b1), .val (.ref b6), .val (.ref b8), .unset] [(.int (0 : Int32))]))
    refine go (fun tg kg => XS.iload X8.here hx rfl (hb hby at_185) rfl kg) ?_
    show G (T8.setTop (mkF m 187 #[.val (.int x0), .val (.int x1), .val (.int x2), .val (.int x3), .val (.int x4), .val (.int (0 : Int32)), .val (.int (Int32.ofNat mm)), .val (.ref b1), .val (.ref b6), .val (.ref b8), .unset] [(.int (0 : Int32)), (.int (0 : Int32))]))
    refine go (fun tg kg => XS.icmpYes X8.here hx rfl (pc0 := 187) (pc' := 192) rfl (hb hby at_187) rfl (teq (by decide)).1 (by decide) (by decide) kg) ?_
    show G (T8.setTop (mkF m 192 #[.val (.int x0), .val (.int x1), .val (.int x2), .val (.int x3), .val (.int x4), .val (.int (0 : Int32)), .val (.int (Int32.ofNat mm)), .val (.ref b1), .val (.ref b6), .val (.ref b8), .unset] []))
    refine go (fun tg kg => XS.iconst X8.here hx rfl (hb hby at_192) kg) ?_
    show G (T8.setTop (mkF m 193 #[.val (.int x0), .val (.int x1), .val (.int x2), .val (.int x3), .val (.int x4), .val (.int (0 : Int32)), .val (.int (Int32.ofNat mm)), .val (.ref b1), .val (.ref b6), .val (.ref b8), .unset] [(.int (1 : Int32))]))
    refine go (fun tg kg => XS.istore X8.here hx rfl (hb hby at_193) rfl (l' := #[.val (.int x0), .val (.int x1), .val (.int x2), .val (.int x3), .val (.int x4), .val (.int (0 : Int32)), .val (.int (Int32.ofNat mm)), .val (.ref b1), .val (.ref b6), .val (.ref b8), .val (.int (1 : Int32))]) rfl kg) ?_
    show G (T8.setTop (mkF m 195 #[.val (.int x0), .val (.int x1), .val (.int x2), .val (.int x3), .val (.int x4), .val (.int (0 : Int32)), .val (.int (Int32.ofNat mm)), .val (.ref b1), .val (.ref b6), .val (.ref b8), .val (.int (1 : Int32))] []))
    refine go (fun tg kg => XS.iload X8.here hx rfl (hb hby at_195) rfl kg) ?_
    show G (T8.setTop (mkF m 197 #[.val (.int x0), .val (.int x1), .val (.int x2), .val (.int x3), .val (.int x4), .val (.int (0 : Int32)), .val (.int (Int32.ofNat mm)), .val (.ref b1), .val (.ref b6), .val (.ref b8), .val (.int (1 : Int32))] [(.int (0 : Int32))]))
    refine go (fun tg kg => XS.ifYes X8.here hx rfl (pc0 := 197) (pc' := 226) rfl (hb hby at_197) rfl ((if0 _ _).trans (flt (by decide)).2.2.2) (by decide) (by decide) kg) ?_
    show G (T8.setTop (mkF m 226 #[.val (.int x0), .val (.int x1), .val (.int x2), .val (.int x3), .val (.int x4), .val (.int (0 : Int32)), .val (.int (Int32.ofNat mm)), .val (.ref b1), .val (.ref b6), .val (.ref b8), .val (.int (1 : Int32))] []))
    refine go (fun tg kg => XS.iload X8.here hx rfl (hb hby at_226) rfl kg) ?_
    show G (T8.setTop (mkF m 228 #[.val (.int x0), .val (.int x1), .val (.int x2), .val (.int x3), .val (.int x4), .val (.int (0 : Int32)), .val (.int (Int32.ofNat mm)), .val (.ref b1), .val (.ref b6), .val (.ref b8), .val (.int (1 : Int32))] [(.int (0 : Int32))]))
    refine go (fun tg kg => XS.iconst X8.here hx rfl (hb hby at_228) kg) ?_
    show G (T8.setTop (mkF m 229 #[.val (.int x0), .val (.int x1), .val (.int x2), .val (.int x3), .val (.int x4), .val (.int (0 : Int32)), .val (.int (Int32.ofNat mm)), .val (.ref b1), .val (.ref b6), .val (.ref b8), .val (.int (1 : Int32))] [(.int (1 : Int32)), (.int (0 : Int32))]))
    refine go (fun tg kg => XS.icmpYes X8.here hx rfl (pc0 := 229) (pc' := 259) rfl (hb hby at_229) rfl (flt (by decide)).2.2.2 (by decide) (by decide) kg) ?_
    show G (T8.setTop (mkF m 259 #[.val (.int x0), .val (.int x1), .val (.int x2), .val (.int x3), .val (.int x4), .val (.int (0 : Int32)), .val (.int (Int32.ofNat mm)), .val (.ref b1), .val (.ref b6), .val (.ref b8), .val (.int (1 : Int32))] []))
    refine go (fun tg kg => XS.iload X8.here hx rfl (hb hby at_259) rfl kg) ?_
    show G (T8.setTop (mkF m 261 #[.val (.int x0), .val (.int x1), .val (.int x2), .val (.int x3), .val (.int x4), .val (.int (0 : Int32)), .val (.int (Int32.ofNat mm)), .val (.ref b1), .val (.ref b6), .val (.ref b8), .val (.int (1 : Int32))] [(.int (0 : Int32))]))
    refine go (fun tg kg => XS.iconst X8.here hx rfl (hb hby at_261) kg) ?_
    show G (T8.setTop (mkF m 262 #[.val (.int x0), .val (.int x1), .val (.int x2), .val (.int x3), .val (.int x4), .val (.int (0 : Int32)), .val (.int (Int32.ofNat mm)), .val (.ref b1), .val (.ref b6), .val (.ref b8), .val (.int (1 : Int32))] [(.int (2 : Int32)), (.int (0 : Int32))]))
    refine go (fun tg kg => XS.icmpYes X8.here hx rfl (pc0 := 262) (pc' := 292) rfl (hb hby at_262) rfl (flt (by decide)).2.2.2 (by decide) (by decide) kg) ?_
    show G (T8.setTop (mkF m 292 #[.val (.int x0), .val (.int x1), .val (.int x2), .val (.int x3), .val (.int x4), .val (.int (0 : Int32)), .val (.int (Int32.ofNat mm)), .val (.ref b1), .val (.ref b6), .val (.ref b8), .val (.int (1 : Int32))] []))
    refine go (fun tg kg => XS.iload X8.here hx rfl (hb hby at_292) rfl kg) ?_
    show G (T8.setTop (mkF m 294 #[.val (.int x0), .val (.int x1), .val (.int x2), .val (.int x3), .val (.int x4), .val (.int (0 : Int32)), .val (.int (Int32.ofNat mm)), .val (.ref b1), .val (.ref b6), .val (.ref b8), .val (.int (1 : Int32))] [(.int (0 : Int32))]))
    refine go (fun tg kg => XS.iconst X8.here hx rfl (hb hby at_294) kg) ?_
    show G (T8.setTop (mkF m 295 #[.val (.int x0), .val (.int x1), .val (.int x2), .val (.int x3), .val (.int x4), .val (.int (0 : Int32)), .val (.int (Int32.ofNat mm)), .val (.ref b1), .val (.ref b6), .val (.ref b8), .val (.int (1 : Int32))] [(.int (3 : Int32)), (.int (0 : Int32))]))
    refine go (fun tg kg => XS.icmpYes X8.here hx rfl (pc0 := 295) (pc' := 325) rfl (hb hby at_295) rfl (flt (by decide)).2.2.2 (by decide) (by decide) kg) ?_
    show G (T8.setTop (mkF m 325 #[.val (.int x0), .val (.int x1), .val (.int x2), .val (.int x3), .val (.int x4), .val (.int (0 : Int32)), .val (.int (Int32.ofNat mm)), .val (.ref b1), .val (.ref b6), .val (.ref b8), .val (.int (1 : Int32))] []))
    refine go (fun tg kg => XS.iload X8.here hx rfl (hb hby at_325) rfl kg) ?_
    show G (T8.setTop (mkF m 327 #[.val (.int x0), .val (.int x1), .val (.int x2), .val (.int x3), .val (.int x4), .val (.int (0 : Int32)), .val (.int (Int32.ofNat mm)), .val (.ref b1), .val (.ref b6), .val (.ref b8), .val (.int (1 : Int32))] [(.int (1 : Int32))]))
    refine fin (some (.int (1 : Int32))) X8 (fun h => absurd h (by decide)) (fun fs hr => retN X8 hx (t := .boolean) hret (by simp) (hb hby at_327) hr) (by decide) (by decide) ?_
    exact ⟨rfl, N8⟩
  · skip
    show G (T7.setTop (mkF m 85 #[.val (.int x0), .val (.int x1), .val (.int x2), .val (.int x3), .val (.int x4), .val (.int (1 : Int32)), .val (.int (Int32.ofNat mm)), .val (.ref b1), .val (.ref b6), .unset, .unset] []))
    refine go (fun tg kg => XS.iload X7.here hx rfl (hb hby at_85) rfl kg) ?_
    show G (T7.setTop (mkF m 87 #[.val (.int x0), .val (.int x1), .val (.int x2), .val (.int x3), .val (.int x4), .val (.int (1 : Int32)), .val (.int (Int32.ofNat mm)), .val (.ref b1), .val (.ref b6), .unset, .unset] [(.int (1 : Int32))]))
    refine go (fun tg kg => XS.ifNo X7.here hx rfl (hb hby at_87) rfl ((if0 _ _).trans (tlt (by decide)).2.2.2) kg) ?_
    show G (T7.setTop (mkF m 90 #[.val (.int x0), .val (.int x1), .val (.int x2), .val (.int x3), .val (.int x4), .val (.int (1 : Int32)), .val (.int (Int32.ofNat mm)), .val (.ref b1), .val (.ref b6), .unset, .unset] []))
    refine go (fun tg kg => XS.aload X7.here hx rfl (hb hby at_90) rfl rfl kg) ?_
    show G (T7.setTop (mkF m 92 #[.val (.int x0), .val (.int x1), .val (.int x2), .val (.int x3), .val (.int x4), .val (.int (1 : Int32)), .val (.int (Int32.ofNat mm)), .val (.ref b1), .val (.ref b6), .unset, .unset] [(.ref b6)]))
    refine go (fun tg kg => XS.aload X7.here hx rfl (hb hby at_92) rfl rfl kg) ?_
    show G (T7.setTop (mkF m 94 #[.val (.int x0), .val (.int x1), .val (.int x2), .val (.int x3), .val (.int x4), .val (.int (1 : Int32)), .val (.int (Int32.ofNat mm)), .val (.ref b1), .val (.ref b6), .unset, .unset] [(.ref b1), (.ref b6)]))
    refine go (fun tg kg => XS.iconst X7.here hx rfl (hb hby at_94) kg) ?_
    show G (T7.setTop (mkF m 95 #[.val (.int x0), .val (.int x1), .val (.int x2), .val (.int x3), .val (.int x4), .val (.int (1 : Int32)), .val (.int (Int32.ofNat mm)), .val (.ref b1), .val (.ref b6), .unset, .unset] [(.int (0 : Int32)), (.ref b1), (.ref b6)]))
    have Fa10 := ((V5.ext E6).keep K7 (ninS (Nat.ne_of_lt (Nat.lt_of_lt_of_le V5.lt (Nat.le_of_eq g6.symm))) nin0))
    obtain ⟨cl11, Ar11, q11, S11, M11, H11, U11⟩ := id Fa10
    have hin11 : ¬ ((0 : Int32) < 0 ∨ cl11.slots.size ≤ ((0 : Int32)).toNatClampNeg) := inb_of S11 ⟨by decide, by decide⟩
    refine go (fun tg kg => X7.iaload hx (j := (0 : Int32)) (v := (.int (Int32.ofNat A0))) Ar11.1 (State.isArrayOf_alike hZ.alike Ar11.2.1) Ar11.2.2 hin11 (H11.at hin11 rfl) (g := (mkF m 95 #[.val (.int x0), .val (.int x1), .val (.int x2), .val (.int x3), .val (.int x4), .val (.int (1 : Int32)), .val (.int (Int32.ofNat mm)), .val (.ref b1), .val (.ref b6), .unset, .unset] [(.int (0 : Int32)), (.ref b1), (.ref b6)])) rfl rfl (hb hby at_95) _ kg) ?_
    show G (T7.setTop (mkF m 96 #[.val (.int x0), .val (.int x1), .val (.int x2), .val (.int x3), .val (.int x4), .val (.int (1 : Int32)), .val (.int (Int32.ofNat mm)), .val (.ref b1), .val (.ref b6), .unset, .unset] [(.int (Int32.ofNat A0)), (.ref b6)]))
    refine go (fun tg kg => XS.iloadN X7.here hx rfl (hb hby at_96) rfl kg) ?_
    show G (T7.setTop (mkF m 97 #[.val (.int x0), .val (.int x1), .val (.int x2), .val (.int x3), .val (.int x4), .val (.int (1 : Int32)), .val (.int (Int32.ofNat mm)), .val (.ref b1), .val (.ref b6), .unset, .unset] [(.int x1), (.int (Int32.ofNat A0)), (.ref b6)]))
    refine go (fun tg kg => XS.iconst X7.here hx rfl (hb hby at_97) kg) ?_
    show G (T7.setTop (mkF m 98 #[.val (.int x0), .val (.int x1), .val (.int x2), .val (.int x3), .val (.int x4), .val (.int (1 : Int32)), .val (.int (Int32.ofNat mm)), .val (.ref b1), .val (.ref b6), .unset, .unset] [(.int (0 : Int32)), (.int x1), (.int (Int32.ofNat A0)), (.ref b6)]))
    refine go (fun tg kg => X7.ldcInt hx hown (mvT hZ (hw _ (List.mem_of_getElem? (i := 1) rfl))) (g := (mkF m 98 #[.val (.int x0), .val (.int x1), .val (.int x2), .val (.int x3), .val (.int x4), .val (.int (1 : Int32)), .val (.int (Int32.ofNat mm)), .val (.ref b1), .val (.ref b6), .unset, .unset] [(.int (0 : Int32)), (.int x1), (.int (Int32.ofNat A0)), (.ref b6)])) rfl (hb hby at_98) _ kg) ?_
    show G (T7.setTop (mkF m 100 #[.val (.int x0), .val (.int x1), .val (.int x2), .val (.int x3), .val (.int x4), .val (.int (1 : Int32)), .val (.int (Int32.ofNat mm)), .val (.ref b1), .val (.ref b6), .unset, .unset] [(.int (2147483647 : Int32)), (.int (0 : Int32)), (.int x1), (.int (Int32.ofNat A0)), (.ref b6)]))
    refine go (fun tg kg => XS.aconstNull X7.here hx rfl (hb hby at_100) kg) ?_
    show G (T7.setTop (mkF m 101 #[.val (.int x0), .val (.int x1), .val (.int x2), .val (.int x3), .val (.int x4), .val (.int (1 : Int32)), .val (.int (Int32.ofNat mm)), .val (.ref b1), .val (.ref b6), .unset, .unset] [.null, (.int (2147483647 : Int32)), (.int (0 : Int32)), (.int x1), (.int (Int32.ofNat A0)), (.ref b6)]))
    refine go (fun tg kg => XS.lconst X7.here hx rfl (hb hby at_101) kg) ?_
    show G (T7.setTop (mkF m 102 #[.val (.int x0), .val (.int x1), .val (.int x2), .val (.int x3), .val (.int x4), .val (.int (1 : Int32)), .val (.int (Int32.ofNat mm)), .val (.ref b1), .val (.ref b6), .unset, .unset] [(.long (0 : Int64)), .null, (.int (2147483647 : Int32)), (.int (0 : Int32)), (.int x1), (.int (Int32.ofNat A0)), (.ref b6)]))
    obtain ⟨cq12, kq12, q12a, q12b, q12c⟩ := isOf hZ rfl Ge7
    obtain ⟨_, _, ⟨T12, L12, k12, n12⟩, -, X12, ⟨Lc12, hQ12, l12, y12, z12⟩, st12⟩ := X7.virtualBack hx (y := (⟨"com/example/housemartin/housemartin/record/SpellColumns", "add", "(IIIILcom/example/housemartin/housemartin/record/Spell$EndReason;J)V"⟩ : MethodName)) (z := (⟨"com/example/housemartin/housemartin/record/SpellColumns", "add", "(IIIILcom/example/housemartin/housemartin/record/Spell$EndReason;J)V"⟩ : MethodName)) hown (mvT hZ (hw _ (List.mem_of_getElem? (i := 32) rfl))) (mvT hZ (hw _ (List.mem_of_getElem? (i := 33) rfl))) (notFace_of_selects (args := #[]) (mvT hZ (hw _ (List.mem_of_getElem? (i := 35) rfl)))) (mvT hZ (hw _ (List.mem_of_getElem? (i := 35) rfl))) (mvT hZ (hw _ (List.mem_of_getElem? (i := 34) rfl))) (by decide) (backOf (W := 0) (rm4 l Z a0 hw [] b6 (Int32.ofNat A0) x1 (0 : Int32) (2147483647 : Int32) (0 : Int64) ag7 fi7 sa7 en7 re7 li7 (fun _ => 0) 0 T7.heap n0 Z7 Ge7 ge_b6 hob7 hch7 (by decide) G7_agents G7_firms G7_starts G7_ends G7_reasons G7_lines G7_size Gv7_agents Gv7_firms Gv7_starts Gv7_ends Gv7_reasons Gv7_lines) hZ (hw _ (List.mem_of_getElem? (i := 36) rfl)) (hw _ (List.mem_of_getElem? (i := 4) rfl)) (by decide) (by decide)) q12a q12c (g := (mkF m 102 #[.val (.int x0), .val (.int x1), .val (.int x2), .val (.int x3), .val (.int x4), .val (.int (1 : Int32)), .val (.int (Int32.ofNat mm)), .val (.ref b1), .val (.ref b6), .unset, .unset] [(.long (0 : Int64)), .null, (.int (2147483647 : Int32)), (.int (0 : Int32)), (.int x1), (.int (Int32.ofNat A0)), (.ref b6)])) rfl (by rw [hml]; rfl) (Steps.refl _) (argsL := [(.int (Int32.ofNat A0)), (.int x1), (.int (0 : Int32)), (.int (2147483647 : Int32)), .null, (.long (0 : Int64))]) (rest := []) (lenOf pd__IIIILcom_example_housemartin_housemartin_record_Spell_EndReason_J_V rfl) rfl (by show 2 * 0 + _ ≤ _; exact Nat.le_of_eq rfl) (hb hby at_102) (fun _ _ => ⟨rfl, rfl, (by decide : 8 + 0 ≤ _), (by decide : 6155 + 0 ≤ _)⟩)
    dsimp only [Pt.U, Pt.locs, Pt.cells, Pt.slots] at X12 l12 y12 z12 st12 hQ12
    subst l12 y12 z12
    obtain ⟨rfl, Nq12, K12, Ge12, G12_agents, G12_firms, G12_starts, G12_ends, G12_reasons, G12_lines, G12_size, Gv12_agents, Gv12_firms, Gv12_starts, Gv12_ends, Gv12_reasons, Gv12_lines⟩ := hQ12
    have Z12 := Nat.le_trans Z7 K12.1
    replace G12_size : Fld Z T12.heap b6 "com/example/housemartin/housemartin/record/SpellColumns" "size" "I" (.int (1 : Int32)) := G12_size
    have N12 := Fr.app N7 Nq12
    refine go (fun tg kg => st12.trans kg) ?_
    show G (T12.setTop (mkF m 105 #[.val (.int x0), .val (.int x1), .val (.int x2), .val (.int x3), .val (.int x4), .val (.int (1 : Int32)), .val (.int (Int32.ofNat mm)), .val (.ref b1), .val (.ref b6), .unset, .unset] []))
    refine go (fun tg kg => XS.iload X12.here hx rfl (hb hby at_105) rfl kg) ?_
    show G (T12.setTop (mkF m 107 #[.val (.int x0), .val (.int x1), .val (.int x2), .val (.int x3), .val (.int x4), .val (.int (1 : Int32)), .val (.int (Int32.ofNat mm)), .val (.ref b1), .val (.ref b6), .unset, .unset] [(.int (1 : Int32))]))
    refine go (fun tg kg => XS.iconst X12.here hx rfl (hb hby at_107) kg) ?_
    show G (T12.setTop (mkF m 108 #[.val (.int x0), .val (.int x1), .val (.int x2), .val (.int x3), .val (.int x4), .val (.int (1 : Int32)), .val (.int (Int32.ofNat mm)), .val (.ref b1), .val (.ref b6), .unset, .unset] [(.int (1 : Int32)), (.int (1 : Int32))]))
    refine go (fun tg kg => XS.icmpYes X12.here hx rfl (pc0 := 108) (pc' := 126) rfl (hb hby at_108) rfl (flt (by decide)).2.2.2 (by decide) (by decide) kg) ?_
    show G (T12.setTop (mkF m 126 #[.val (.int x0), .val (.int x1), .val (.int x2), .val (.int x3), .val (.int x4), .val (.int (1 : Int32)), .val (.int (Int32.ofNat mm)), .val (.ref b1), .val (.ref b6), .unset, .unset] []))
    refine go (fun tg kg => XS.iload X12.here hx rfl (hb hby at_126) rfl kg) ?_
    show G (T12.setTop (mkF m 128 #[.val (.int x0), .val (.int x1), .val (.int x2), .val (.int x3), .val (.int x4), .val (.int (1 : Int32)), .val (.int (Int32.ofNat mm)), .val (.ref b1), .val (.ref b6), .unset, .unset] [(.int (1 : Int32))]))
    refine go (fun tg kg => XS.iconst X12.here hx rfl (hb hby at_128) kg) ?_
    show G (T12.setTop (mkF m 129 #[.val (.int x0), .val (.int x1), .val (.int x2), .val (.int x3), .val (.int x4), .val (.int (1 : Int32)), .val (.int (Int32.ofNat mm)), .val (.ref b1), .val (.ref b6), .unset, .unset] [(.int (2 : Int32)), (.int (1 : Int32))]))
    refine go (fun tg kg => XS.icmpYes X12.here hx rfl (pc0 := 129) (pc' := 149) rfl (hb hby at_129) rfl (flt (by decide)).2.2.2 (by decide) (by decide) kg) ?_
    show G (T12.setTop (mkF m 149 #[.val (.int x0), .val (.int x1), .val (.int x2), .val (.int x3), .val (.int x4), .val (.int (1 : Int32)), .val (.int (Int32.ofNat mm)), .val (.ref b1), .val (.ref b6), .unset, .unset] []))
    refine go (fun tg kg => XS.iload X12.here hx rfl (hb hby at_149) rfl kg) ?_
    show G (T12.setTop (mkF m 151 #[.val (.int x0), .val (.int x1), .val (.int x2), .val (.int x3), .val (.int x4), .val (.int (1 : Int32)), .val (.int (Int32.ofNat mm)), .val (.ref b1), .val (.ref b6), .unset, .unset] [(.int (1 : Int32))]))
    refine go (fun tg kg => XS.iconst X12.here hx rfl (hb hby at_151) kg) ?_
    show G (T12.setTop (mkF m 152 #[.val (.int x0), .val (.int x1), .val (.int x2), .val (.int x3), .val (.int x4), .val (.int (1 : Int32)), .val (.int (Int32.ofNat mm)), .val (.ref b1), .val (.ref b6), .unset, .unset] [(.int (3 : Int32)), (.int (1 : Int32))]))
    refine go (fun tg kg => XS.icmpYes X12.here hx rfl (pc0 := 152) (pc' := 173) rfl (hb hby at_152) rfl (flt (by decide)).2.2.2 (by decide) (by decide) kg) ?_
    show G (T12.setTop (mkF m 173 #[.val (.int x0), .val (.int x1), .val (.int x2), .val (.int x3), .val (.int x4), .val (.int (1 : Int32)), .val (.int (Int32.ofNat mm)), .val (.ref b1), .val (.ref b6), .unset, .unset] []))
    refine go (fun tg kg => XS.aload X12.here hx rfl (hb hby at_173) rfl rfl kg) ?_
    show G (T12.setTop (mkF m 175 #[.val (.int x0), .val (.int x1), .val (.int x2), .val (.int x3), .val (.int x4), .val (.int (1 : Int32)), .val (.int (Int32.ofNat mm)), .val (.ref b1), .val (.ref b6), .unset, .unset] [(.ref b6)]))
    refine go (fun tg kg => XS.iload X12.here hx rfl (hb hby at_175) rfl kg) ?_
    show G (T12.setTop (mkF m 177 #[.val (.int x0), .val (.int x1), .val (.int x2), .val (.int x3), .val (.int x4), .val (.int (1 : Int32)), .val (.int (Int32.ofNat mm)), .val (.ref b1), .val (.ref b6), .unset, .unset] [(.int (Int32.ofNat mm)), (.ref b6)]))
    obtain ⟨cq13, kq13, q13a, q13b, q13c⟩ := isOf hZ rfl Ge12
    obtain ⟨_, _, ⟨T13, L13, k13, n13⟩, -, X13, ⟨Lc13, hQ13, l13, y13, z13⟩, st13⟩ := X12.virtualBack hx (y := (⟨"com/example/housemartin/housemartin/record/SpellColumns", "byAgent", "(I)[I"⟩ : MethodName)) (z := (⟨"com/example/housemartin/housemartin/record/SpellColumns", "byAgent", "(I)[I"⟩ : MethodName)) hown (mvT hZ (hw _ (List.mem_of_getElem? (i := 25) rfl))) (mvT hZ (hw _ (List.mem_of_getElem? (i := 26) rfl))) (notFace_of_selects (args := #[]) (mvT hZ (hw _ (List.mem_of_getElem? (i := 28) rfl)))) (mvT hZ (hw _ (List.mem_of_getElem? (i := 28) rfl))) (mvT hZ (hw _ (List.mem_of_getElem? (i := 27) rfl))) (by decide) (backOf (W := 0) (rm3 l Z a0 hw [] b6 mm 1 (own_4 A0 A1 A2 A3) ag7 (own_up (fun _ => 0) 0 (Int32.ofNat A0)) T12.heap n0 Z12 G12_agents G12_size Gv12_agents (fun j hj => match j, hj with | 0, _ => ⟨rfl, bA0⟩) hm (by decide)) hZ (hw _ (List.mem_of_getElem? (i := 29) rfl)) (hw _ (List.mem_of_getElem? (i := 4) rfl)) (by decide) (by decide)) q13a q13c (g := (mkF m 177 #[.val (.int x0), .val (.int x1), .val (.int x2), .val (.int x3), .val (.int x4), .val (.int (1 : Int32)), .val (.int (Int32.ofNat mm)), .val (.ref b1), .val (.ref b6), .unset, .unset] [(.int (Int32.ofNat mm)), (.ref b6)])) rfl (by rw [hml]; rfl) (Steps.refl _) (argsL := [(.int (Int32.ofNat mm))]) (rest := []) (lenOf pd__I__I rfl) rfl (by show 2 * 0 + _ ≤ _; exact Nat.le_of_eq rfl) (hb hby at_177) (fun _ _ => ⟨rfl, rfl, (by decide : 8 + 2 ≤ _), (by decide : 6155 + 14 ≤ _)⟩)
    dsimp only [Pt.U, Pt.locs, Pt.cells, Pt.slots] at X13 l13 y13 z13 st13 hQ13
    subst l13 y13 z13
    obtain ⟨b13, rfl, Nq13, K13, sz13, Gv13⟩ := hQ13
    have Z13 := Nat.le_trans Z12 K13.1
    have N13 := Fr.app N12 Nq13
    refine go (fun tg kg => st13.trans kg) ?_
    show G (T13.setTop (mkF m 180 #[.val (.int x0), .val (.int x1), .val (.int x2), .val (.int x3), .val (.int x4), .val (.int (1 : Int32)), .val (.int (Int32.ofNat mm)), .val (.ref b1), .val (.ref b6), .unset, .unset] [(.ref b13)]))
    refine go (fun tg kg => XS.astore X13.here hx rfl (hb hby at_180) rfl rfl (l' := #[.val (.int x0), .val (.int x1), .val (.int x2), .val (.int x3), .val (.int x4), .val (.int (1 : Int32)), .val (.int (Int32.ofNat mm)), .val (.ref b1), .val (.ref b6), .val (.ref b13), .unset]) rfl kg) ?_
    show G (T13.setTop (mkF m 182 #[.val (.int x0), .val (.int x1), .val (.int x2), .val (.int x3), .val (.int x4), .val (.int (1 : Int32)), .val (.int (Int32.ofNat mm)), .val (.ref b1), .val (.ref b6), .val (.ref b13), .unset] []))
    refine go (fun tg kg => XS.aload X13.here hx rfl (hb hby at_182) rfl rfl kg) ?_
    show G (T13.setTop (mkF m 184 #[.val (.int x0), .val (.int x1), .val (.int x2), .val (.int x3), .val (.int x4), .val (.int (1 : Int32)), .val (.int (Int32.ofNat mm)), .val (.ref b1), .val (.ref b6), .val (.ref b13), .unset] [(.ref b13)]))
    obtain ⟨cl14, Ar14, S14, -⟩ := id Gv13
    refine go (fun tg kg => X13.arraylength hx Ar14.1 (State.isArrayOf_alike hZ.alike Ar14.2.1) (g := (mkF m 184 #[.val (.int x0), .val (.int x1), .val (.int x2), .val (.int x3), .val (.int x4), .val (.int (1 : Int32)), .val (.int (Int32.ofNat mm)), .val (.ref b1), .val (.ref b6), .val (.ref b13), .unset] [(.ref b13)])) rfl rfl (hb hby at_184) _ kg) ?_
    rw [S14]
    show G (T13.setTop (mkF m 185 #[.val (.int x0), .val (.int x1), .val (.int x2), .val (.int x3), .val (.int x4), .val (.int (1 : Int32)), .val (.int (Int32.ofNat mm)), .val (.ref b1), .val (.ref b6), .val (.ref b13), .unset] [(.int (1 : Int32))]))
    refine go (fun tg kg => XS.iload X13.here hx rfl (hb hby at_185) rfl kg) ?_
    show G (T13.setTop (mkF m 187 #[.val (.int x0), .val (.int x1), .val (.int x2), .val (.int x3), .val (.int x4), .val (.int (1 : Int32)), .val (.int (Int32.ofNat mm)), .val (.ref b1), .val (.ref b6), .val (.ref b13), .unset] [(.int (1 : Int32)), (.int (1 : Int32))]))
    refine go (fun tg kg => XS.icmpYes X13.here hx rfl (pc0 := 187) (pc' := 192) rfl (hb hby at_187) rfl (teq (by decide)).1 (by decide) (by decide) kg) ?_
    show G (T13.setTop (mkF m 192 #[.val (.int x0), .val (.int x1), .val (.int x2), .val (.int x3), .val (.int x4), .val (.int (1 : Int32)), .val (.int (Int32.ofNat mm)), .val (.ref b1), .val (.ref b6), .val (.ref b13), .unset] []))
    refine go (fun tg kg => XS.iconst X13.here hx rfl (hb hby at_192) kg) ?_
    show G (T13.setTop (mkF m 193 #[.val (.int x0), .val (.int x1), .val (.int x2), .val (.int x3), .val (.int x4), .val (.int (1 : Int32)), .val (.int (Int32.ofNat mm)), .val (.ref b1), .val (.ref b6), .val (.ref b13), .unset] [(.int (1 : Int32))]))
    refine go (fun tg kg => XS.istore X13.here hx rfl (hb hby at_193) rfl (l' := #[.val (.int x0), .val (.int x1), .val (.int x2), .val (.int x3), .val (.int x4), .val (.int (1 : Int32)), .val (.int (Int32.ofNat mm)), .val (.ref b1), .val (.ref b6), .val (.ref b13), .val (.int (1 : Int32))]) rfl kg) ?_
    show G (T13.setTop (mkF m 195 #[.val (.int x0), .val (.int x1), .val (.int x2), .val (.int x3), .val (.int x4), .val (.int (1 : Int32)), .val (.int (Int32.ofNat mm)), .val (.ref b1), .val (.ref b6), .val (.ref b13), .val (.int (1 : Int32))] []))
    refine go (fun tg kg => XS.iload X13.here hx rfl (hb hby at_195) rfl kg) ?_
    show G (T13.setTop (mkF m 197 #[.val (.int x0), .val (.int x1), .val (.int x2), .val (.int x3), .val (.int x4), .val (.int (1 : Int32)), .val (.int (Int32.ofNat mm)), .val (.ref b1), .val (.ref b6), .val (.ref b13), .val (.int (1 : Int32))] [(.int (1 : Int32))]))
    refine go (fun tg kg => XS.ifNo X13.here hx rfl (hb hby at_197) rfl ((if0 _ _).trans (tlt (by decide)).2.2.2) kg) ?_
    show G (T13.setTop (mkF m 200 #[.val (.int x0), .val (.int x1), .val (.int x2), .val (.int x3), .val (.int x4), .val (.int (1 : Int32)), .val (.int (Int32.ofNat mm)), .val (.ref b1), .val (.ref b6), .val (.ref b13), .val (.int (1 : Int32))] []))
    refine go (fun tg kg => XS.iload X13.here hx rfl (hb hby at_200) rfl kg) ?_
    show G (T13.setTop (mkF m 202 #[.val (.int x0), .val (.int x1), .val (.int x2), .val (.int x3), .val (.int x4), .val (.int (1 : Int32)), .val (.int (Int32.ofNat mm)), .val (.ref b1), .val (.ref b6), .val (.ref b13), .val (.int (1 : Int32))] [(.int (1 : Int32))]))
    refine go (fun tg kg => XS.ifNo X13.here hx rfl (hb hby at_202) rfl ((if0 _ _).trans (feq (by decide)).1) kg) ?_
    show G (T13.setTop (mkF m 205 #[.val (.int x0), .val (.int x1), .val (.int x2), .val (.int x3), .val (.int x4), .val (.int (1 : Int32)), .val (.int (Int32.ofNat mm)), .val (.ref b1), .val (.ref b6), .val (.ref b13), .val (.int (1 : Int32))] []))
    refine go (fun tg kg => XS.aload X13.here hx rfl (hb hby at_205) rfl rfl kg) ?_
    show G (T13.setTop (mkF m 207 #[.val (.int x0), .val (.int x1), .val (.int x2), .val (.int x3), .val (.int x4), .val (.int (1 : Int32)), .val (.int (Int32.ofNat mm)), .val (.ref b1), .val (.ref b6), .val (.ref b13), .val (.int (1 : Int32))] [(.ref b13)]))
    refine go (fun tg kg => XS.aload X13.here hx rfl (hb hby at_207) rfl rfl kg) ?_
    show G (T13.setTop (mkF m 209 #[.val (.int x0), .val (.int x1), .val (.int x2), .val (.int x3), .val (.int x4), .val (.int (1 : Int32)), .val (.int (Int32.ofNat mm)), .val (.ref b1), .val (.ref b6), .val (.ref b13), .val (.int (1 : Int32))] [(.ref b1), (.ref b13)]))
    refine go (fun tg kg => XS.iload X13.here hx rfl (hb hby at_209) rfl kg) ?_
    show G (T13.setTop (mkF m 211 #[.val (.int x0), .val (.int x1), .val (.int x2), .val (.int x3), .val (.int x4), .val (.int (1 : Int32)), .val (.int (Int32.ofNat mm)), .val (.ref b1), .val (.ref b6), .val (.ref b13), .val (.int (1 : Int32))] [(.int (1 : Int32)), (.ref b1), (.ref b13)]))
    refine go (fun tg kg => XS.iconst X13.here hx rfl (hb hby at_211) kg) ?_
    show G (T13.setTop (mkF m 212 #[.val (.int x0), .val (.int x1), .val (.int x2), .val (.int x3), .val (.int x4), .val (.int (1 : Int32)), .val (.int (Int32.ofNat mm)), .val (.ref b1), .val (.ref b6), .val (.ref b13), .val (.int (1 : Int32))] [(.int (0 : Int32)), (.int (1 : Int32)), (.ref b1), (.ref b13)]))
    have Fa16 := ((Fa10.keep K12 (ninS (Nat.ne_of_lt (Nat.lt_of_lt_of_le V5.lt (Nat.le_of_eq g6.symm))) (ninS (Nat.ne_of_lt (Nat.lt_of_lt_of_le (V5.ext E6).lt (by omega))) (ninS (Nat.ne_of_lt (Nat.lt_of_lt_of_le (V5.ext E6).lt (by omega))) (ninS (Nat.ne_of_lt (Nat.lt_of_lt_of_le (V5.ext E6).lt (by omega))) (ninS (Nat.ne_of_lt (Nat.lt_of_lt_of_le (V5.ext E6).lt (by omega))) (ninS (Nat.ne_of_lt (Nat.lt_of_lt_of_le (V5.ext E6).lt (by omega))) (ninS (Nat.ne_of_lt (Nat.lt_of_lt_of_le (V5.ext E6).lt (by omega))) nin0)))))))).keep K13 nin0)
    obtain ⟨_, _, ⟨T15, L15, k15, n15⟩, -, X15, ⟨Lc15, hQ15, l15, y15, z15⟩, st15⟩ := Jvm.LawKit.callS X13 hx (y := (⟨"com/example/housemartin/housemartin/record/SpellColumnsByAgentPinLaw", "rank", "([III)I"⟩ : MethodName)) hown (mvT hZ (hw _ (List.mem_of_getElem? (i := 39) rfl))) (mvT hZ (hw _ (List.mem_of_getElem? (i := 40) rfl))) (mvT hZ (hw _ (List.mem_of_getElem? (i := 41) rfl))) (mvT hZ (hw _ (List.mem_of_getElem? (i := 42) rfl))) (by decide) (backOf (W := 1) (rm5 l Z a0 hw [] b1 (1 : Int32) (0 : Int32) (own_F4 (Int32.ofNat A0) (Int32.ofNat A1) (Int32.ofNat A2) (Int32.ofNat A3)) T13.heap n0 Z13 (own_of_arv Fa16) ⟨by decide, by decide⟩) hZ (hw _ (List.mem_of_getElem? (i := 42) rfl)) (hw _ (List.mem_of_getElem? (i := 41) rfl)) (by decide) (by decide)) (g := (mkF m 212 #[.val (.int x0), .val (.int x1), .val (.int x2), .val (.int x3), .val (.int x4), .val (.int (1 : Int32)), .val (.int (Int32.ofNat mm)), .val (.ref b1), .val (.ref b6), .val (.ref b13), .val (.int (1 : Int32))] [(.int (0 : Int32)), (.int (1 : Int32)), (.ref b1), (.ref b13)])) rfl (by rw [hml]; rfl) (argsL := [(.ref b1), (.int (1 : Int32)), (.int (0 : Int32))]) (rest := [(.ref b13)]) (lenOf pd___III_I rfl) rfl (by show 2 * 0 + _ ≤ _; exact Nat.le_of_eq rfl) (hb hby at_212) (fun _ _ => ⟨rfl, rfl, (by decide : 10 + 0 ≤ _), (by decide : 6169 + 0 ≤ _)⟩)
    dsimp only [Pt.U, Pt.locs, Pt.cells, Pt.slots] at X15 l15 y15 z15 st15 hQ15
    subst l15 y15 z15
    obtain ⟨rfl, Nq15, e15⟩ := hQ15
    have N15 := Fr.app N13 Nq15
    refine go st15 ?_
    show G (T15.setTop (mkF m 215 #[.val (.int x0), .val (.int x1), .val (.int x2), .val (.int x3), .val (.int x4), .val (.int (1 : Int32)), .val (.int (Int32.ofNat mm)), .val (.ref b1), .val (.ref b6), .val (.ref b13), .val (.int (1 : Int32))] [(.int (own_rnk (own_F4 (Int32.ofNat A0) (Int32.ofNat A1) (Int32.ofNat A2) (Int32.ofNat A3)) (1 : Int32) (0 : Int32))), (.ref b13)]))
    rw [own_rk10 hm bA0 bA1 bA2 bA3]
    show G (T15.setTop (mkF m 215 #[.val (.int x0), .val (.int x1), .val (.int x2), .val (.int x3), .val (.int x4), .val (.int (1 : Int32)), .val (.int (Int32.ofNat mm)), .val (.ref b1), .val (.ref b6), .val (.ref b13), .val (.int (1 : Int32))] [(.int (Int32.ofNat (own_pos (own_4 A0 A1 A2 A3) 1 0))), (.ref b13)]))
    obtain ⟨cl17, Ar17, S17, H17⟩ := id Gv13
    have ok17 : own_ok 1 (Int32.ofNat (own_pos (own_4 A0 A1 A2 A3) 1 0)) := own_ok_nat (own_pos_lt (own_4 A0 A1 A2 A3) (by decide)) (by have := own_pos_lt (own_4 A0 A1 A2 A3) (n := 1) (s := 0) (by decide); omega)
    have hin17 := own_in S17 ok17
    have kk17 := ok17.2
    rw [own_natN (by have := own_pos_lt (own_4 A0 A1 A2 A3) (n := 1) (s := 0) (by decide); omega)] at kk17
    have hat17 : cl17.slots[((Int32.ofNat (own_pos (own_4 A0 A1 A2 A3) 1 0))).toNatClampNeg]? = some (.int ((own_ord (own_4 A0 A1 A2 A3) 1 1) (own_pos (own_4 A0 A1 A2 A3) 1 0))) := by rw [own_natN (by have := own_pos_lt (own_4 A0 A1 A2 A3) (n := 1) (s := 0) (by decide); omega)]; exact H17 _ kk17
    refine go (fun tg kg => X15.iaload hx (j := (Int32.ofNat (own_pos (own_4 A0 A1 A2 A3) 1 0))) (v := (.int ((own_ord (own_4 A0 A1 A2 A3) 1 1) (own_pos (own_4 A0 A1 A2 A3) 1 0)))) (by rw [e15]; exact Ar17.1) (State.isArrayOf_alike hZ.alike Ar17.2.1) Ar17.2.2 hin17 hat17 (g := (mkF m 215 #[.val (.int x0), .val (.int x1), .val (.int x2), .val (.int x3), .val (.int x4), .val (.int (1 : Int32)), .val (.int (Int32.ofNat mm)), .val (.ref b1), .val (.ref b6), .val (.ref b13), .val (.int (1 : Int32))] [(.int (Int32.ofNat (own_pos (own_4 A0 A1 A2 A3) 1 0))), (.ref b13)])) rfl rfl (hb hby at_215) _ kg) ?_
    show G (T15.setTop (mkF m 216 #[.val (.int x0), .val (.int x1), .val (.int x2), .val (.int x3), .val (.int x4), .val (.int (1 : Int32)), .val (.int (Int32.ofNat mm)), .val (.ref b1), .val (.ref b6), .val (.ref b13), .val (.int (1 : Int32))] [(.int ((own_ord (own_4 A0 A1 A2 A3) 1 1) (own_pos (own_4 A0 A1 A2 A3) 1 0)))]))
    rw [own_ord_pos (own_4 A0 A1 A2 A3) 1 1 (Nat.le_refl _) 0 (by decide)]
    show G (T15.setTop (mkF m 216 #[.val (.int x0), .val (.int x1), .val (.int x2), .val (.int x3), .val (.int x4), .val (.int (1 : Int32)), .val (.int (Int32.ofNat mm)), .val (.ref b1), .val (.ref b6), .val (.ref b13), .val (.int (1 : Int32))] [(.int (0 : Int32))]))
    refine go (fun tg kg => XS.ifNo X15.here hx rfl (hb hby at_216) rfl ((if0 _ _).trans (teq (by decide)).2) kg) ?_
    show G (T15.setTop (mkF m 219 #[.val (.int x0), .val (.int x1), .val (.int x2), .val (.int x3), .val (.int x4), .val (.int (1 : Int32)), .val (.int (Int32.ofNat mm)), .val (.ref b1), .val (.ref b6), .val (.ref b13), .val (.int (1 : Int32))] []))
    refine go (fun tg kg => XS.iconst X15.here hx rfl (hb hby at_219) kg) ?_
    show G (T15.setTop (mkF m 220 #[.val (.int x0), .val (.int x1), .val (.int x2), .val (.int x3), .val (.int x4), .val (.int (1 : Int32)), .val (.int (Int32.ofNat mm)), .val (.ref b1), .val (.ref b6), .val (.ref b13), .val (.int (1 : Int32))] [(.int (1 : Int32))]))
    refine go (fun tg kg => XS.goto X15.here hx rfl (pc0 := 220) (pc' := 224) rfl (hb hby at_220) (by decide) (by decide) kg) ?_
    show G (T15.setTop (mkF m 224 #[.val (.int x0), .val (.int x1), .val (.int x2), .val (.int x3), .val (.int x4), .val (.int (1 : Int32)), .val (.int (Int32.ofNat mm)), .val (.ref b1), .val (.ref b6), .val (.ref b13), .val (.int (1 : Int32))] [(.int (1 : Int32))]))
    refine go (fun tg kg => XS.istore X15.here hx rfl (hb hby at_224) rfl (l' := #[.val (.int x0), .val (.int x1), .val (.int x2), .val (.int x3), .val (.int x4), .val (.int (1 : Int32)), .val (.int (Int32.ofNat mm)), .val (.ref b1), .val (.ref b6), .val (.ref b13), .val (.int (1 : Int32))]) rfl kg) ?_
    show G (T15.setTop (mkF m 226 #[.val (.int x0), .val (.int x1), .val (.int x2), .val (.int x3), .val (.int x4), .val (.int (1 : Int32)), .val (.int (Int32.ofNat mm)), .val (.ref b1), .val (.ref b6), .val (.ref b13), .val (.int (1 : Int32))] []))
    refine go (fun tg kg => XS.iload X15.here hx rfl (hb hby at_226) rfl kg) ?_
    show G (T15.setTop (mkF m 228 #[.val (.int x0), .val (.int x1), .val (.int x2), .val (.int x3), .val (.int x4), .val (.int (1 : Int32)), .val (.int (Int32.ofNat mm)), .val (.ref b1), .val (.ref b6), .val (.ref b13), .val (.int (1 : Int32))] [(.int (1 : Int32))]))
    refine go (fun tg kg => XS.iconst X15.here hx rfl (hb hby at_228) kg) ?_
    show G (T15.setTop (mkF m 229 #[.val (.int x0), .val (.int x1), .val (.int x2), .val (.int x3), .val (.int x4), .val (.int (1 : Int32)), .val (.int (Int32.ofNat mm)), .val (.ref b1), .val (.ref b6), .val (.ref b13), .val (.int (1 : Int32))] [(.int (1 : Int32)), (.int (1 : Int32))]))
    refine go (fun tg kg => XS.icmpYes X15.here hx rfl (pc0 := 229) (pc' := 259) rfl (hb hby at_229) rfl (flt (by decide)).2.2.2 (by decide) (by decide) kg) ?_
    show G (T15.setTop (mkF m 259 #[.val (.int x0), .val (.int x1), .val (.int x2), .val (.int x3), .val (.int x4), .val (.int (1 : Int32)), .val (.int (Int32.ofNat mm)), .val (.ref b1), .val (.ref b6), .val (.ref b13), .val (.int (1 : Int32))] []))
    refine go (fun tg kg => XS.iload X15.here hx rfl (hb hby at_259) rfl kg) ?_
    show G (T15.setTop (mkF m 261 #[.val (.int x0), .val (.int x1), .val (.int x2), .val (.int x3), .val (.int x4), .val (.int (1 : Int32)), .val (.int (Int32.ofNat mm)), .val (.ref b1), .val (.ref b6), .val (.ref b13), .val (.int (1 : Int32))] [(.int (1 : Int32))]))
    refine go (fun tg kg => XS.iconst X15.here hx rfl (hb hby at_261) kg) ?_
    show G (T15.setTop (mkF m 262 #[.val (.int x0), .val (.int x1), .val (.int x2), .val (.int x3), .val (.int x4), .val (.int (1 : Int32)), .val (.int (Int32.ofNat mm)), .val (.ref b1), .val (.ref b6), .val (.ref b13), .val (.int (1 : Int32))] [(.int (2 : Int32)), (.int (1 : Int32))]))
    refine go (fun tg kg => XS.icmpYes X15.here hx rfl (pc0 := 262) (pc' := 292) rfl (hb hby at_262) rfl (flt (by decide)).2.2.2 (by decide) (by decide) kg) ?_
    show G (T15.setTop (mkF m 292 #[.val (.int x0), .val (.int x1), .val (.int x2), .val (.int x3), .val (.int x4), .val (.int (1 : Int32)), .val (.int (Int32.ofNat mm)), .val (.ref b1), .val (.ref b6), .val (.ref b13), .val (.int (1 : Int32))] []))
    refine go (fun tg kg => XS.iload X15.here hx rfl (hb hby at_292) rfl kg) ?_
    show G (T15.setTop (mkF m 294 #[.val (.int x0), .val (.int x1), .val (.int x2), .val (.int x3), .val (.int x4), .val (.int (1 : Int32)), .val (.int (Int32.ofNat mm)), .val (.ref b1), .val (.ref b6), .val (.ref b13), .val (.int (1 : Int32))] [(.int (1 : Int32))]))
    refine go (fun tg kg => XS.iconst X15.here hx rfl (hb hby at_294) kg) ?_
    show G (T15.setTop (mkF m 295 #[.val (.int x0), .val (.int x1), .val (.int x2), .val (.int x3), .val (.int x4), .val (.int (1 : Int32)), .val (.int (Int32.ofNat mm)), .val (.ref b1), .val (.ref b6), .val (.ref b13), .val (.int (1 : Int32))] [(.int (3 : Int32)), (.int (1 : Int32))]))
    refine go (fun tg kg => XS.icmpYes X15.here hx rfl (pc0 := 295) (pc' := 325) rfl (hb hby at_295) rfl (flt (by decide)).2.2.2 (by decide) (by decide) kg) ?_
    show G (T15.setTop (mkF m 325 #[.val (.int x0), .val (.int x1), .val (.int x2), .val (.int x3), .val (.int x4), .val (.int (1 : Int32)), .val (.int (Int32.ofNat mm)), .val (.ref b1), .val (.ref b6), .val (.ref b13), .val (.int (1 : Int32))] []))
    refine go (fun tg kg => XS.iload X15.here hx rfl (hb hby at_325) rfl kg) ?_
    show G (T15.setTop (mkF m 327 #[.val (.int x0), .val (.int x1), .val (.int x2), .val (.int x3), .val (.int x4), .val (.int (1 : Int32)), .val (.int (Int32.ofNat mm)), .val (.ref b1), .val (.ref b6), .val (.ref b13), .val (.int (1 : Int32))] [(.int (1 : Int32))]))
    refine fin (some (.int (1 : Int32))) X15 (fun h => absurd h (by decide)) (fun fs hr => retN X15 hx (t := .boolean) hret (by simp) (hb hby at_327) hr) (by decide) (by decide) ?_
    rw [e15]
    exact ⟨rfl, N15⟩
  · skip
    show G (T7.setTop (mkF m 85 #[.val (.int x0), .val (.int x1), .val (.int x2), .val (.int x3), .val (.int x4), .val (.int (2 : Int32)), .val (.int (Int32.ofNat mm)), .val (.ref b1), .val (.ref b6), .unset, .unset] []))
    refine go (fun tg kg => XS.iload X7.here hx rfl (hb hby at_85) rfl kg) ?_
    show G (T7.setTop (mkF m 87 #[.val (.int x0), .val (.int x1), .val (.int x2), .val (.int x3), .val (.int x4), .val (.int (2 : Int32)), .val (.int (Int32.ofNat mm)), .val (.ref b1), .val (.ref b6), .unset, .unset] [(.int (2 : Int32))]))
    refine go (fun tg kg => XS.ifNo X7.here hx rfl (hb hby at_87) rfl ((if0 _ _).trans (tlt (by decide)).2.2.2) kg) ?_
    show G (T7.setTop (mkF m 90 #[.val (.int x0), .val (.int x1), .val (.int x2), .val (.int x3), .val (.int x4), .val (.int (2 : Int32)), .val (.int (Int32.ofNat mm)), .val (.ref b1), .val (.ref b6), .unset, .unset] []))
    refine go (fun tg kg => XS.aload X7.here hx rfl (hb hby at_90) rfl rfl kg) ?_
    show G (T7.setTop (mkF m 92 #[.val (.int x0), .val (.int x1), .val (.int x2), .val (.int x3), .val (.int x4), .val (.int (2 : Int32)), .val (.int (Int32.ofNat mm)), .val (.ref b1), .val (.ref b6), .unset, .unset] [(.ref b6)]))
    refine go (fun tg kg => XS.aload X7.here hx rfl (hb hby at_92) rfl rfl kg) ?_
    show G (T7.setTop (mkF m 94 #[.val (.int x0), .val (.int x1), .val (.int x2), .val (.int x3), .val (.int x4), .val (.int (2 : Int32)), .val (.int (Int32.ofNat mm)), .val (.ref b1), .val (.ref b6), .unset, .unset] [(.ref b1), (.ref b6)]))
    refine go (fun tg kg => XS.iconst X7.here hx rfl (hb hby at_94) kg) ?_
    show G (T7.setTop (mkF m 95 #[.val (.int x0), .val (.int x1), .val (.int x2), .val (.int x3), .val (.int x4), .val (.int (2 : Int32)), .val (.int (Int32.ofNat mm)), .val (.ref b1), .val (.ref b6), .unset, .unset] [(.int (0 : Int32)), (.ref b1), (.ref b6)]))
    have Fa18 := ((V5.ext E6).keep K7 (ninS (Nat.ne_of_lt (Nat.lt_of_lt_of_le V5.lt (Nat.le_of_eq g6.symm))) nin0))
    obtain ⟨cl19, Ar19, q19, S19, M19, H19, U19⟩ := id Fa18
    have hin19 : ¬ ((0 : Int32) < 0 ∨ cl19.slots.size ≤ ((0 : Int32)).toNatClampNeg) := inb_of S19 ⟨by decide, by decide⟩
    refine go (fun tg kg => X7.iaload hx (j := (0 : Int32)) (v := (.int (Int32.ofNat A0))) Ar19.1 (State.isArrayOf_alike hZ.alike Ar19.2.1) Ar19.2.2 hin19 (H19.at hin19 rfl) (g := (mkF m 95 #[.val (.int x0), .val (.int x1), .val (.int x2), .val (.int x3), .val (.int x4), .val (.int (2 : Int32)), .val (.int (Int32.ofNat mm)), .val (.ref b1), .val (.ref b6), .unset, .unset] [(.int (0 : Int32)), (.ref b1), (.ref b6)])) rfl rfl (hb hby at_95) _ kg) ?_
    show G (T7.setTop (mkF m 96 #[.val (.int x0), .val (.int x1), .val (.int x2), .val (.int x3), .val (.int x4), .val (.int (2 : Int32)), .val (.int (Int32.ofNat mm)), .val (.ref b1), .val (.ref b6), .unset, .unset] [(.int (Int32.ofNat A0)), (.ref b6)]))
    refine go (fun tg kg => XS.iloadN X7.here hx rfl (hb hby at_96) rfl kg) ?_
    show G (T7.setTop (mkF m 97 #[.val (.int x0), .val (.int x1), .val (.int x2), .val (.int x3), .val (.int x4), .val (.int (2 : Int32)), .val (.int (Int32.ofNat mm)), .val (.ref b1), .val (.ref b6), .unset, .unset] [(.int x1), (.int (Int32.ofNat A0)), (.ref b6)]))
    refine go (fun tg kg => XS.iconst X7.here hx rfl (hb hby at_97) kg) ?_
    show G (T7.setTop (mkF m 98 #[.val (.int x0), .val (.int x1), .val (.int x2), .val (.int x3), .val (.int x4), .val (.int (2 : Int32)), .val (.int (Int32.ofNat mm)), .val (.ref b1), .val (.ref b6), .unset, .unset] [(.int (0 : Int32)), (.int x1), (.int (Int32.ofNat A0)), (.ref b6)]))
    refine go (fun tg kg => X7.ldcInt hx hown (mvT hZ (hw _ (List.mem_of_getElem? (i := 1) rfl))) (g := (mkF m 98 #[.val (.int x0), .val (.int x1), .val (.int x2), .val (.int x3), .val (.int x4), .val (.int (2 : Int32)), .val (.int (Int32.ofNat mm)), .val (.ref b1), .val (.ref b6), .unset, .unset] [(.int (0 : Int32)), (.int x1), (.int (Int32.ofNat A0)), (.ref b6)])) rfl (hb hby at_98) _ kg) ?_
    show G (T7.setTop (mkF m 100 #[.val (.int x0), .val (.int x1), .val (.int x2), .val (.int x3), .val (.int x4), .val (.int (2 : Int32)), .val (.int (Int32.ofNat mm)), .val (.ref b1), .val (.ref b6), .unset, .unset] [(.int (2147483647 : Int32)), (.int (0 : Int32)), (.int x1), (.int (Int32.ofNat A0)), (.ref b6)]))
    refine go (fun tg kg => XS.aconstNull X7.here hx rfl (hb hby at_100) kg) ?_
    show G (T7.setTop (mkF m 101 #[.val (.int x0), .val (.int x1), .val (.int x2), .val (.int x3), .val (.int x4), .val (.int (2 : Int32)), .val (.int (Int32.ofNat mm)), .val (.ref b1), .val (.ref b6), .unset, .unset] [.null, (.int (2147483647 : Int32)), (.int (0 : Int32)), (.int x1), (.int (Int32.ofNat A0)), (.ref b6)]))
    refine go (fun tg kg => XS.lconst X7.here hx rfl (hb hby at_101) kg) ?_
    show G (T7.setTop (mkF m 102 #[.val (.int x0), .val (.int x1), .val (.int x2), .val (.int x3), .val (.int x4), .val (.int (2 : Int32)), .val (.int (Int32.ofNat mm)), .val (.ref b1), .val (.ref b6), .unset, .unset] [(.long (0 : Int64)), .null, (.int (2147483647 : Int32)), (.int (0 : Int32)), (.int x1), (.int (Int32.ofNat A0)), (.ref b6)]))
    obtain ⟨cq20, kq20, q20a, q20b, q20c⟩ := isOf hZ rfl Ge7
    obtain ⟨_, _, ⟨T20, L20, k20, n20⟩, -, X20, ⟨Lc20, hQ20, l20, y20, z20⟩, st20⟩ := X7.virtualBack hx (y := (⟨"com/example/housemartin/housemartin/record/SpellColumns", "add", "(IIIILcom/example/housemartin/housemartin/record/Spell$EndReason;J)V"⟩ : MethodName)) (z := (⟨"com/example/housemartin/housemartin/record/SpellColumns", "add", "(IIIILcom/example/housemartin/housemartin/record/Spell$EndReason;J)V"⟩ : MethodName)) hown (mvT hZ (hw _ (List.mem_of_getElem? (i := 32) rfl))) (mvT hZ (hw _ (List.mem_of_getElem? (i := 33) rfl))) (notFace_of_selects (args := #[]) (mvT hZ (hw _ (List.mem_of_getElem? (i := 35) rfl)))) (mvT hZ (hw _ (List.mem_of_getElem? (i := 35) rfl))) (mvT hZ (hw _ (List.mem_of_getElem? (i := 34) rfl))) (by decide) (backOf (W := 0) (rm4 l Z a0 hw [] b6 (Int32.ofNat A0) x1 (0 : Int32) (2147483647 : Int32) (0 : Int64) ag7 fi7 sa7 en7 re7 li7 (fun _ => 0) 0 T7.heap n0 Z7 Ge7 ge_b6 hob7 hch7 (by decide) G7_agents G7_firms G7_starts G7_ends G7_reasons G7_lines G7_size Gv7_agents Gv7_firms Gv7_starts Gv7_ends Gv7_reasons Gv7_lines) hZ (hw _ (List.mem_of_getElem? (i := 36) rfl)) (hw _ (List.mem_of_getElem? (i := 4) rfl)) (by decide) (by decide)) q20a q20c (g := (mkF m 102 #[.val (.int x0), .val (.int x1), .val (.int x2), .val (.int x3), .val (.int x4), .val (.int (2 : Int32)), .val (.int (Int32.ofNat mm)), .val (.ref b1), .val (.ref b6), .unset, .unset] [(.long (0 : Int64)), .null, (.int (2147483647 : Int32)), (.int (0 : Int32)), (.int x1), (.int (Int32.ofNat A0)), (.ref b6)])) rfl (by rw [hml]; rfl) (Steps.refl _) (argsL := [(.int (Int32.ofNat A0)), (.int x1), (.int (0 : Int32)), (.int (2147483647 : Int32)), .null, (.long (0 : Int64))]) (rest := []) (lenOf pd__IIIILcom_example_housemartin_housemartin_record_Spell_EndReason_J_V rfl) rfl (by show 2 * 0 + _ ≤ _; exact Nat.le_of_eq rfl) (hb hby at_102) (fun _ _ => ⟨rfl, rfl, (by decide : 8 + 0 ≤ _), (by decide : 6155 + 0 ≤ _)⟩)
    dsimp only [Pt.U, Pt.locs, Pt.cells, Pt.slots] at X20 l20 y20 z20 st20 hQ20
    subst l20 y20 z20
    obtain ⟨rfl, Nq20, K20, Ge20, G20_agents, G20_firms, G20_starts, G20_ends, G20_reasons, G20_lines, G20_size, Gv20_agents, Gv20_firms, Gv20_starts, Gv20_ends, Gv20_reasons, Gv20_lines⟩ := hQ20
    have Z20 := Nat.le_trans Z7 K20.1
    replace G20_size : Fld Z T20.heap b6 "com/example/housemartin/housemartin/record/SpellColumns" "size" "I" (.int (1 : Int32)) := G20_size
    have N20 := Fr.app N7 Nq20
    refine go (fun tg kg => st20.trans kg) ?_
    show G (T20.setTop (mkF m 105 #[.val (.int x0), .val (.int x1), .val (.int x2), .val (.int x3), .val (.int x4), .val (.int (2 : Int32)), .val (.int (Int32.ofNat mm)), .val (.ref b1), .val (.ref b6), .unset, .unset] []))
    refine go (fun tg kg => XS.iload X20.here hx rfl (hb hby at_105) rfl kg) ?_
    show G (T20.setTop (mkF m 107 #[.val (.int x0), .val (.int x1), .val (.int x2), .val (.int x3), .val (.int x4), .val (.int (2 : Int32)), .val (.int (Int32.ofNat mm)), .val (.ref b1), .val (.ref b6), .unset, .unset] [(.int (2 : Int32))]))
    refine go (fun tg kg => XS.iconst X20.here hx rfl (hb hby at_107) kg) ?_
    show G (T20.setTop (mkF m 108 #[.val (.int x0), .val (.int x1), .val (.int x2), .val (.int x3), .val (.int x4), .val (.int (2 : Int32)), .val (.int (Int32.ofNat mm)), .val (.ref b1), .val (.ref b6), .unset, .unset] [(.int (1 : Int32)), (.int (2 : Int32))]))
    refine go (fun tg kg => XS.icmpNo X20.here hx rfl (hb hby at_108) rfl (tlt (by decide)).2.2.2 kg) ?_
    show G (T20.setTop (mkF m 111 #[.val (.int x0), .val (.int x1), .val (.int x2), .val (.int x3), .val (.int x4), .val (.int (2 : Int32)), .val (.int (Int32.ofNat mm)), .val (.ref b1), .val (.ref b6), .unset, .unset] []))
    refine go (fun tg kg => XS.aload X20.here hx rfl (hb hby at_111) rfl rfl kg) ?_
    show G (T20.setTop (mkF m 113 #[.val (.int x0), .val (.int x1), .val (.int x2), .val (.int x3), .val (.int x4), .val (.int (2 : Int32)), .val (.int (Int32.ofNat mm)), .val (.ref b1), .val (.ref b6), .unset, .unset] [(.ref b6)]))
    refine go (fun tg kg => XS.aload X20.here hx rfl (hb hby at_113) rfl rfl kg) ?_
    show G (T20.setTop (mkF m 115 #[.val (.int x0), .val (.int x1), .val (.int x2), .val (.int x3), .val (.int x4), .val (.int (2 : Int32)), .val (.int (Int32.ofNat mm)), .val (.ref b1), .val (.ref b6), .unset, .unset] [(.ref b1), (.ref b6)]))
    refine go (fun tg kg => XS.iconst X20.here hx rfl (hb hby at_115) kg) ?_
    show G (T20.setTop (mkF m 116 #[.val (.int x0), .val (.int x1), .val (.int x2), .val (.int x3), .val (.int x4), .val (.int (2 : Int32)), .val (.int (Int32.ofNat mm)), .val (.ref b1), .val (.ref b6), .unset, .unset] [(.int (1 : Int32)), (.ref b1), (.ref b6)]))
    have Fa21 := (Fa18.keep K20 (ninS (Nat.ne_of_lt (Nat.lt_of_lt_of_le V5.lt (Nat.le_of_eq g6.symm))) (ninS (Nat.ne_of_lt (Nat.lt_of_lt_of_le (V5.ext E6).lt (by omega))) (ninS (Nat.ne_of_lt (Nat.lt_of_lt_of_le (V5.ext E6).lt (by omega))) (ninS (Nat.ne_of_lt (Nat.lt_of_lt_of_le (V5.ext E6).lt (by omega))) (ninS (Nat.ne_of_lt (Nat.lt_of_lt_of_le (V5.ext E6).lt (by omega))) (ninS (Nat.ne_of_lt (Nat.lt_of_lt_of_le (V5.ext E6).lt (by omega))) (ninS (Nat.ne_of_lt (Nat.lt_of_lt_of_le (V5.ext E6).lt (by omega))) nin0))))))))
    obtain ⟨cl22, Ar22, q22, S22, M22, H22, U22⟩ := id Fa21
    have hin22 : ¬ ((1 : Int32) < 0 ∨ cl22.slots.size ≤ ((1 : Int32)).toNatClampNeg) := inb_of S22 ⟨by decide, by decide⟩
    refine go (fun tg kg => X20.iaload hx (j := (1 : Int32)) (v := (.int (Int32.ofNat A1))) Ar22.1 (State.isArrayOf_alike hZ.alike Ar22.2.1) Ar22.2.2 hin22 (H22.at hin22 rfl) (g := (mkF m 116 #[.val (.int x0), .val (.int x1), .val (.int x2), .val (.int x3), .val (.int x4), .val (.int (2 : Int32)), .val (.int (Int32.ofNat mm)), .val (.ref b1), .val (.ref b6), .unset, .unset] [(.int (1 : Int32)), (.ref b1), (.ref b6)])) rfl rfl (hb hby at_116) _ kg) ?_
    show G (T20.setTop (mkF m 117 #[.val (.int x0), .val (.int x1), .val (.int x2), .val (.int x3), .val (.int x4), .val (.int (2 : Int32)), .val (.int (Int32.ofNat mm)), .val (.ref b1), .val (.ref b6), .unset, .unset] [(.int (Int32.ofNat A1)), (.ref b6)]))
    refine go (fun tg kg => XS.iloadN X20.here hx rfl (hb hby at_117) rfl kg) ?_
    show G (T20.setTop (mkF m 118 #[.val (.int x0), .val (.int x1), .val (.int x2), .val (.int x3), .val (.int x4), .val (.int (2 : Int32)), .val (.int (Int32.ofNat mm)), .val (.ref b1), .val (.ref b6), .unset, .unset] [(.int x2), (.int (Int32.ofNat A1)), (.ref b6)]))
    refine go (fun tg kg => XS.iconst X20.here hx rfl (hb hby at_118) kg) ?_
    show G (T20.setTop (mkF m 119 #[.val (.int x0), .val (.int x1), .val (.int x2), .val (.int x3), .val (.int x4), .val (.int (2 : Int32)), .val (.int (Int32.ofNat mm)), .val (.ref b1), .val (.ref b6), .unset, .unset] [(.int (0 : Int32)), (.int x2), (.int (Int32.ofNat A1)), (.ref b6)]))
    refine go (fun tg kg => X20.ldcInt hx hown (mvT hZ (hw _ (List.mem_of_getElem? (i := 1) rfl))) (g := (mkF m 119 #[.val (.int x0), .val (.int x1), .val (.int x2), .val (.int x3), .val (.int x4), .val (.int (2 : Int32)), .val (.int (Int32.ofNat mm)), .val (.ref b1), .val (.ref b6), .unset, .unset] [(.int (0 : Int32)), (.int x2), (.int (Int32.ofNat A1)), (.ref b6)])) rfl (hb hby at_119) _ kg) ?_
    show G (T20.setTop (mkF m 121 #[.val (.int x0), .val (.int x1), .val (.int x2), .val (.int x3), .val (.int x4), .val (.int (2 : Int32)), .val (.int (Int32.ofNat mm)), .val (.ref b1), .val (.ref b6), .unset, .unset] [(.int (2147483647 : Int32)), (.int (0 : Int32)), (.int x2), (.int (Int32.ofNat A1)), (.ref b6)]))
    refine go (fun tg kg => XS.aconstNull X20.here hx rfl (hb hby at_121) kg) ?_
    show G (T20.setTop (mkF m 122 #[.val (.int x0), .val (.int x1), .val (.int x2), .val (.int x3), .val (.int x4), .val (.int (2 : Int32)), .val (.int (Int32.ofNat mm)), .val (.ref b1), .val (.ref b6), .unset, .unset] [.null, (.int (2147483647 : Int32)), (.int (0 : Int32)), (.int x2), (.int (Int32.ofNat A1)), (.ref b6)]))
    refine go (fun tg kg => XS.lconst X20.here hx rfl (hb hby at_122) kg) ?_
    show G (T20.setTop (mkF m 123 #[.val (.int x0), .val (.int x1), .val (.int x2), .val (.int x3), .val (.int x4), .val (.int (2 : Int32)), .val (.int (Int32.ofNat mm)), .val (.ref b1), .val (.ref b6), .unset, .unset] [(.long (1 : Int64)), .null, (.int (2147483647 : Int32)), (.int (0 : Int32)), (.int x2), (.int (Int32.ofNat A1)), (.ref b6)]))
    obtain ⟨cq23, kq23, q23a, q23b, q23c⟩ := isOf hZ rfl Ge20
    obtain ⟨_, _, ⟨T23, L23, k23, n23⟩, -, X23, ⟨Lc23, hQ23, l23, y23, z23⟩, st23⟩ := X20.virtualBack hx (y := (⟨"com/example/housemartin/housemartin/record/SpellColumns", "add", "(IIIILcom/example/housemartin/housemartin/record/Spell$EndReason;J)V"⟩ : MethodName)) (z := (⟨"com/example/housemartin/housemartin/record/SpellColumns", "add", "(IIIILcom/example/housemartin/housemartin/record/Spell$EndReason;J)V"⟩ : MethodName)) hown (mvT hZ (hw _ (List.mem_of_getElem? (i := 32) rfl))) (mvT hZ (hw _ (List.mem_of_getElem? (i := 33) rfl))) (notFace_of_selects (args := #[]) (mvT hZ (hw _ (List.mem_of_getElem? (i := 35) rfl)))) (mvT hZ (hw _ (List.mem_of_getElem? (i := 35) rfl))) (mvT hZ (hw _ (List.mem_of_getElem? (i := 34) rfl))) (by decide) (backOf (W := 0) (rm4 l Z a0 hw [] b6 (Int32.ofNat A1) x2 (0 : Int32) (2147483647 : Int32) (1 : Int64) ag7 fi7 sa7 en7 re7 li7 (own_up (fun _ => 0) 0 (Int32.ofNat A0)) 1 T20.heap n0 Z20 Ge20 ge_b6 hob7 hch7 (by decide) G20_agents G20_firms G20_starts G20_ends G20_reasons G20_lines G20_size Gv20_agents Gv20_firms Gv20_starts Gv20_ends Gv20_reasons Gv20_lines) hZ (hw _ (List.mem_of_getElem? (i := 36) rfl)) (hw _ (List.mem_of_getElem? (i := 4) rfl)) (by decide) (by decide)) q23a q23c (g := (mkF m 123 #[.val (.int x0), .val (.int x1), .val (.int x2), .val (.int x3), .val (.int x4), .val (.int (2 : Int32)), .val (.int (Int32.ofNat mm)), .val (.ref b1), .val (.ref b6), .unset, .unset] [(.long (1 : Int64)), .null, (.int (2147483647 : Int32)), (.int (0 : Int32)), (.int x2), (.int (Int32.ofNat A1)), (.ref b6)])) rfl (by rw [hml]; rfl) (Steps.refl _) (argsL := [(.int (Int32.ofNat A1)), (.int x2), (.int (0 : Int32)), (.int (2147483647 : Int32)), .null, (.long (1 : Int64))]) (rest := []) (lenOf pd__IIIILcom_example_housemartin_housemartin_record_Spell_EndReason_J_V rfl) rfl (by show 2 * 0 + _ ≤ _; exact Nat.le_of_eq rfl) (hb hby at_123) (fun _ _ => ⟨rfl, rfl, (by decide : 8 + 0 ≤ _), (by decide : 6155 + 0 ≤ _)⟩)
    dsimp only [Pt.U, Pt.locs, Pt.cells, Pt.slots] at X23 l23 y23 z23 st23 hQ23
    subst l23 y23 z23
    obtain ⟨rfl, Nq23, K23, Ge23, G23_agents, G23_firms, G23_starts, G23_ends, G23_reasons, G23_lines, G23_size, Gv23_agents, Gv23_firms, Gv23_starts, Gv23_ends, Gv23_reasons, Gv23_lines⟩ := hQ23
    have Z23 := Nat.le_trans Z20 K23.1
    replace G23_size : Fld Z T23.heap b6 "com/example/housemartin/housemartin/record/SpellColumns" "size" "I" (.int (2 : Int32)) := G23_size
    have N23 := Fr.app N20 Nq23
    refine go (fun tg kg => st23.trans kg) ?_
    show G (T23.setTop (mkF m 126 #[.val (.int x0), .val (.int x1), .val (.int x2), .val (.int x3), .val (.int x4), .val (.int (2 : Int32)), .val (.int (Int32.ofNat mm)), .val (.ref b1), .val (.ref b6), .unset, .unset] []))
    refine go (fun tg kg => XS.iload X23.here hx rfl (hb hby at_126) rfl kg) ?_
    show G (T23.setTop (mkF m 128 #[.val (.int x0), .val (.int x1), .val (.int x2), .val (.int x3), .val (.int x4), .val (.int (2 : Int32)), .val (.int (Int32.ofNat mm)), .val (.ref b1), .val (.ref b6), .unset, .unset] [(.int (2 : Int32))]))
    refine go (fun tg kg => XS.iconst X23.here hx rfl (hb hby at_128) kg) ?_
    show G (T23.setTop (mkF m 129 #[.val (.int x0), .val (.int x1), .val (.int x2), .val (.int x3), .val (.int x4), .val (.int (2 : Int32)), .val (.int (Int32.ofNat mm)), .val (.ref b1), .val (.ref b6), .unset, .unset] [(.int (2 : Int32)), (.int (2 : Int32))]))
    refine go (fun tg kg => XS.icmpYes X23.here hx rfl (pc0 := 129) (pc' := 149) rfl (hb hby at_129) rfl (flt (by decide)).2.2.2 (by decide) (by decide) kg) ?_
    show G (T23.setTop (mkF m 149 #[.val (.int x0), .val (.int x1), .val (.int x2), .val (.int x3), .val (.int x4), .val (.int (2 : Int32)), .val (.int (Int32.ofNat mm)), .val (.ref b1), .val (.ref b6), .unset, .unset] []))
    refine go (fun tg kg => XS.iload X23.here hx rfl (hb hby at_149) rfl kg) ?_
    show G (T23.setTop (mkF m 151 #[.val (.int x0), .val (.int x1), .val (.int x2), .val (.int x3), .val (.int x4), .val (.int (2 : Int32)), .val (.int (Int32.ofNat mm)), .val (.ref b1), .val (.ref b6), .unset, .unset] [(.int (2 : Int32))]))
    refine go (fun tg kg => XS.iconst X23.here hx rfl (hb hby at_151) kg) ?_
    show G (T23.setTop (mkF m 152 #[.val (.int x0), .val (.int x1), .val (.int x2), .val (.int x3), .val (.int x4), .val (.int (2 : Int32)), .val (.int (Int32.ofNat mm)), .val (.ref b1), .val (.ref b6), .unset, .unset] [(.int (3 : Int32)), (.int (2 : Int32))]))
    refine go (fun tg kg => XS.icmpYes X23.here hx rfl (pc0 := 152) (pc' := 173) rfl (hb hby at_152) rfl (flt (by decide)).2.2.2 (by decide) (by decide) kg) ?_
    show G (T23.setTop (mkF m 173 #[.val (.int x0), .val (.int x1), .val (.int x2), .val (.int x3), .val (.int x4), .val (.int (2 : Int32)), .val (.int (Int32.ofNat mm)), .val (.ref b1), .val (.ref b6), .unset, .unset] []))
    refine go (fun tg kg => XS.aload X23.here hx rfl (hb hby at_173) rfl rfl kg) ?_
    show G (T23.setTop (mkF m 175 #[.val (.int x0), .val (.int x1), .val (.int x2), .val (.int x3), .val (.int x4), .val (.int (2 : Int32)), .val (.int (Int32.ofNat mm)), .val (.ref b1), .val (.ref b6), .unset, .unset] [(.ref b6)]))
    refine go (fun tg kg => XS.iload X23.here hx rfl (hb hby at_175) rfl kg) ?_
    show G (T23.setTop (mkF m 177 #[.val (.int x0), .val (.int x1), .val (.int x2), .val (.int x3), .val (.int x4), .val (.int (2 : Int32)), .val (.int (Int32.ofNat mm)), .val (.ref b1), .val (.ref b6), .unset, .unset] [(.int (Int32.ofNat mm)), (.ref b6)]))
    obtain ⟨cq24, kq24, q24a, q24b, q24c⟩ := isOf hZ rfl Ge23
    obtain ⟨_, _, ⟨T24, L24, k24, n24⟩, -, X24, ⟨Lc24, hQ24, l24, y24, z24⟩, st24⟩ := X23.virtualBack hx (y := (⟨"com/example/housemartin/housemartin/record/SpellColumns", "byAgent", "(I)[I"⟩ : MethodName)) (z := (⟨"com/example/housemartin/housemartin/record/SpellColumns", "byAgent", "(I)[I"⟩ : MethodName)) hown (mvT hZ (hw _ (List.mem_of_getElem? (i := 25) rfl))) (mvT hZ (hw _ (List.mem_of_getElem? (i := 26) rfl))) (notFace_of_selects (args := #[]) (mvT hZ (hw _ (List.mem_of_getElem? (i := 28) rfl)))) (mvT hZ (hw _ (List.mem_of_getElem? (i := 28) rfl))) (mvT hZ (hw _ (List.mem_of_getElem? (i := 27) rfl))) (by decide) (backOf (W := 0) (rm3 l Z a0 hw [] b6 mm 2 (own_4 A0 A1 A2 A3) ag7 (own_up (own_up (fun _ => 0) 0 (Int32.ofNat A0)) 1 (Int32.ofNat A1)) T23.heap n0 Z23 G23_agents G23_size Gv23_agents (fun j hj => match j, hj with | 0, _ => ⟨rfl, bA0⟩ | 1, _ => ⟨rfl, bA1⟩) hm (by decide)) hZ (hw _ (List.mem_of_getElem? (i := 29) rfl)) (hw _ (List.mem_of_getElem? (i := 4) rfl)) (by decide) (by decide)) q24a q24c (g := (mkF m 177 #[.val (.int x0), .val (.int x1), .val (.int x2), .val (.int x3), .val (.int x4), .val (.int (2 : Int32)), .val (.int (Int32.ofNat mm)), .val (.ref b1), .val (.ref b6), .unset, .unset] [(.int (Int32.ofNat mm)), (.ref b6)])) rfl (by rw [hml]; rfl) (Steps.refl _) (argsL := [(.int (Int32.ofNat mm))]) (rest := []) (lenOf pd__I__I rfl) rfl (by show 2 * 0 + _ ≤ _; exact Nat.le_of_eq rfl) (hb hby at_177) (fun _ _ => ⟨rfl, rfl, (by decide : 8 + 2 ≤ _), (by decide : 6155 + 14 ≤ _)⟩)
    dsimp only [Pt.U, Pt.locs, Pt.cells, Pt.slots] at X24 l24 y24 z24 st24 hQ24
    subst l24 y24 z24
    obtain ⟨b24, rfl, Nq24, K24, sz24, Gv24⟩ := hQ24
    have Z24 := Nat.le_trans Z23 K24.1
    have N24 := Fr.app N23 Nq24
    refine go (fun tg kg => st24.trans kg) ?_
    show G (T24.setTop (mkF m 180 #[.val (.int x0), .val (.int x1), .val (.int x2), .val (.int x3), .val (.int x4), .val (.int (2 : Int32)), .val (.int (Int32.ofNat mm)), .val (.ref b1), .val (.ref b6), .unset, .unset] [(.ref b24)]))
    refine go (fun tg kg => XS.astore X24.here hx rfl (hb hby at_180) rfl rfl (l' := #[.val (.int x0), .val (.int x1), .val (.int x2), .val (.int x3), .val (.int x4), .val (.int (2 : Int32)), .val (.int (Int32.ofNat mm)), .val (.ref b1), .val (.ref b6), .val (.ref b24), .unset]) rfl kg) ?_
    show G (T24.setTop (mkF m 182 #[.val (.int x0), .val (.int x1), .val (.int x2), .val (.int x3), .val (.int x4), .val (.int (2 : Int32)), .val (.int (Int32.ofNat mm)), .val (.ref b1), .val (.ref b6), .val (.ref b24), .unset] []))
    refine go (fun tg kg => XS.aload X24.here hx rfl (hb hby at_182) rfl rfl kg) ?_
    show G (T24.setTop (mkF m 184 #[.val (.int x0), .val (.int x1), .val (.int x2), .val (.int x3), .val (.int x4), .val (.int (2 : Int32)), .val (.int (Int32.ofNat mm)), .val (.ref b1), .val (.ref b6), .val (.ref b24), .unset] [(.ref b24)]))
    obtain ⟨cl25, Ar25, S25, -⟩ := id Gv24
    refine go (fun tg kg => X24.arraylength hx Ar25.1 (State.isArrayOf_alike hZ.alike Ar25.2.1) (g := (mkF m 184 #[.val (.int x0), .val (.int x1), .val (.int x2), .val (.int x3), .val (.int x4), .val (.int (2 : Int32)), .val (.int (Int32.ofNat mm)), .val (.ref b1), .val (.ref b6), .val (.ref b24), .unset] [(.ref b24)])) rfl rfl (hb hby at_184) _ kg) ?_
    rw [S25]
    show G (T24.setTop (mkF m 185 #[.val (.int x0), .val (.int x1), .val (.int x2), .val (.int x3), .val (.int x4), .val (.int (2 : Int32)), .val (.int (Int32.ofNat mm)), .val (.ref b1), .val (.ref b6), .val (.ref b24), .unset] [(.int (2 : Int32))]))
    refine go (fun tg kg => XS.iload X24.here hx rfl (hb hby at_185) rfl kg) ?_
    show G (T24.setTop (mkF m 187 #[.val (.int x0), .val (.int x1), .val (.int x2), .val (.int x3), .val (.int x4), .val (.int (2 : Int32)), .val (.int (Int32.ofNat mm)), .val (.ref b1), .val (.ref b6), .val (.ref b24), .unset] [(.int (2 : Int32)), (.int (2 : Int32))]))
    refine go (fun tg kg => XS.icmpYes X24.here hx rfl (pc0 := 187) (pc' := 192) rfl (hb hby at_187) rfl (teq (by decide)).1 (by decide) (by decide) kg) ?_
    show G (T24.setTop (mkF m 192 #[.val (.int x0), .val (.int x1), .val (.int x2), .val (.int x3), .val (.int x4), .val (.int (2 : Int32)), .val (.int (Int32.ofNat mm)), .val (.ref b1), .val (.ref b6), .val (.ref b24), .unset] []))
    refine go (fun tg kg => XS.iconst X24.here hx rfl (hb hby at_192) kg) ?_
    show G (T24.setTop (mkF m 193 #[.val (.int x0), .val (.int x1), .val (.int x2), .val (.int x3), .val (.int x4), .val (.int (2 : Int32)), .val (.int (Int32.ofNat mm)), .val (.ref b1), .val (.ref b6), .val (.ref b24), .unset] [(.int (1 : Int32))]))
    refine go (fun tg kg => XS.istore X24.here hx rfl (hb hby at_193) rfl (l' := #[.val (.int x0), .val (.int x1), .val (.int x2), .val (.int x3), .val (.int x4), .val (.int (2 : Int32)), .val (.int (Int32.ofNat mm)), .val (.ref b1), .val (.ref b6), .val (.ref b24), .val (.int (1 : Int32))]) rfl kg) ?_
    show G (T24.setTop (mkF m 195 #[.val (.int x0), .val (.int x1), .val (.int x2), .val (.int x3), .val (.int x4), .val (.int (2 : Int32)), .val (.int (Int32.ofNat mm)), .val (.ref b1), .val (.ref b6), .val (.ref b24), .val (.int (1 : Int32))] []))
    refine go (fun tg kg => XS.iload X24.here hx rfl (hb hby at_195) rfl kg) ?_
    show G (T24.setTop (mkF m 197 #[.val (.int x0), .val (.int x1), .val (.int x2), .val (.int x3), .val (.int x4), .val (.int (2 : Int32)), .val (.int (Int32.ofNat mm)), .val (.ref b1), .val (.ref b6), .val (.ref b24), .val (.int (1 : Int32))] [(.int (2 : Int32))]))
    refine go (fun tg kg => XS.ifNo X24.here hx rfl (hb hby at_197) rfl ((if0 _ _).trans (tlt (by decide)).2.2.2) kg) ?_
    show G (T24.setTop (mkF m 200 #[.val (.int x0), .val (.int x1), .val (.int x2), .val (.int x3), .val (.int x4), .val (.int (2 : Int32)), .val (.int (Int32.ofNat mm)), .val (.ref b1), .val (.ref b6), .val (.ref b24), .val (.int (1 : Int32))] []))
    refine go (fun tg kg => XS.iload X24.here hx rfl (hb hby at_200) rfl kg) ?_
    show G (T24.setTop (mkF m 202 #[.val (.int x0), .val (.int x1), .val (.int x2), .val (.int x3), .val (.int x4), .val (.int (2 : Int32)), .val (.int (Int32.ofNat mm)), .val (.ref b1), .val (.ref b6), .val (.ref b24), .val (.int (1 : Int32))] [(.int (1 : Int32))]))
    refine go (fun tg kg => XS.ifNo X24.here hx rfl (hb hby at_202) rfl ((if0 _ _).trans (feq (by decide)).1) kg) ?_
    show G (T24.setTop (mkF m 205 #[.val (.int x0), .val (.int x1), .val (.int x2), .val (.int x3), .val (.int x4), .val (.int (2 : Int32)), .val (.int (Int32.ofNat mm)), .val (.ref b1), .val (.ref b6), .val (.ref b24), .val (.int (1 : Int32))] []))
    refine go (fun tg kg => XS.aload X24.here hx rfl (hb hby at_205) rfl rfl kg) ?_
    show G (T24.setTop (mkF m 207 #[.val (.int x0), .val (.int x1), .val (.int x2), .val (.int x3), .val (.int x4), .val (.int (2 : Int32)), .val (.int (Int32.ofNat mm)), .val (.ref b1), .val (.ref b6), .val (.ref b24), .val (.int (1 : Int32))] [(.ref b24)]))
    refine go (fun tg kg => XS.aload X24.here hx rfl (hb hby at_207) rfl rfl kg) ?_
    show G (T24.setTop (mkF m 209 #[.val (.int x0), .val (.int x1), .val (.int x2), .val (.int x3), .val (.int x4), .val (.int (2 : Int32)), .val (.int (Int32.ofNat mm)), .val (.ref b1), .val (.ref b6), .val (.ref b24), .val (.int (1 : Int32))] [(.ref b1), (.ref b24)]))
    refine go (fun tg kg => XS.iload X24.here hx rfl (hb hby at_209) rfl kg) ?_
    show G (T24.setTop (mkF m 211 #[.val (.int x0), .val (.int x1), .val (.int x2), .val (.int x3), .val (.int x4), .val (.int (2 : Int32)), .val (.int (Int32.ofNat mm)), .val (.ref b1), .val (.ref b6), .val (.ref b24), .val (.int (1 : Int32))] [(.int (2 : Int32)), (.ref b1), (.ref b24)]))
    refine go (fun tg kg => XS.iconst X24.here hx rfl (hb hby at_211) kg) ?_
    show G (T24.setTop (mkF m 212 #[.val (.int x0), .val (.int x1), .val (.int x2), .val (.int x3), .val (.int x4), .val (.int (2 : Int32)), .val (.int (Int32.ofNat mm)), .val (.ref b1), .val (.ref b6), .val (.ref b24), .val (.int (1 : Int32))] [(.int (0 : Int32)), (.int (2 : Int32)), (.ref b1), (.ref b24)]))
    have Fa27 := ((Fa21.keep K23 (ninS (Nat.ne_of_lt (Nat.lt_of_lt_of_le V5.lt (Nat.le_of_eq g6.symm))) (ninS (Nat.ne_of_lt (Nat.lt_of_lt_of_le (V5.ext E6).lt (by omega))) (ninS (Nat.ne_of_lt (Nat.lt_of_lt_of_le (V5.ext E6).lt (by omega))) (ninS (Nat.ne_of_lt (Nat.lt_of_lt_of_le (V5.ext E6).lt (by omega))) (ninS (Nat.ne_of_lt (Nat.lt_of_lt_of_le (V5.ext E6).lt (by omega))) (ninS (Nat.ne_of_lt (Nat.lt_of_lt_of_le (V5.ext E6).lt (by omega))) (ninS (Nat.ne_of_lt (Nat.lt_of_lt_of_le (V5.ext E6).lt (by omega))) nin0)))))))).keep K24 nin0)
    obtain ⟨_, _, ⟨T26, L26, k26, n26⟩, -, X26, ⟨Lc26, hQ26, l26, y26, z26⟩, st26⟩ := Jvm.LawKit.callS X24 hx (y := (⟨"com/example/housemartin/housemartin/record/SpellColumnsByAgentPinLaw", "rank", "([III)I"⟩ : MethodName)) hown (mvT hZ (hw _ (List.mem_of_getElem? (i := 39) rfl))) (mvT hZ (hw _ (List.mem_of_getElem? (i := 40) rfl))) (mvT hZ (hw _ (List.mem_of_getElem? (i := 41) rfl))) (mvT hZ (hw _ (List.mem_of_getElem? (i := 42) rfl))) (by decide) (backOf (W := 1) (rm5 l Z a0 hw [] b1 (2 : Int32) (0 : Int32) (own_F4 (Int32.ofNat A0) (Int32.ofNat A1) (Int32.ofNat A2) (Int32.ofNat A3)) T24.heap n0 Z24 (own_of_arv Fa27) ⟨by decide, by decide⟩) hZ (hw _ (List.mem_of_getElem? (i := 42) rfl)) (hw _ (List.mem_of_getElem? (i := 41) rfl)) (by decide) (by decide)) (g := (mkF m 212 #[.val (.int x0), .val (.int x1), .val (.int x2), .val (.int x3), .val (.int x4), .val (.int (2 : Int32)), .val (.int (Int32.ofNat mm)), .val (.ref b1), .val (.ref b6), .val (.ref b24), .val (.int (1 : Int32))] [(.int (0 : Int32)), (.int (2 : Int32)), (.ref b1), (.ref b24)])) rfl (by rw [hml]; rfl) (argsL := [(.ref b1), (.int (2 : Int32)), (.int (0 : Int32))]) (rest := [(.ref b24)]) (lenOf pd___III_I rfl) rfl (by show 2 * 0 + _ ≤ _; exact Nat.le_of_eq rfl) (hb hby at_212) (fun _ _ => ⟨rfl, rfl, (by decide : 10 + 0 ≤ _), (by decide : 6169 + 0 ≤ _)⟩)
    dsimp only [Pt.U, Pt.locs, Pt.cells, Pt.slots] at X26 l26 y26 z26 st26 hQ26
    subst l26 y26 z26
    obtain ⟨rfl, Nq26, e26⟩ := hQ26
    have N26 := Fr.app N24 Nq26
    refine go st26 ?_
    show G (T26.setTop (mkF m 215 #[.val (.int x0), .val (.int x1), .val (.int x2), .val (.int x3), .val (.int x4), .val (.int (2 : Int32)), .val (.int (Int32.ofNat mm)), .val (.ref b1), .val (.ref b6), .val (.ref b24), .val (.int (1 : Int32))] [(.int (own_rnk (own_F4 (Int32.ofNat A0) (Int32.ofNat A1) (Int32.ofNat A2) (Int32.ofNat A3)) (2 : Int32) (0 : Int32))), (.ref b24)]))
    rw [own_rk20 hm bA0 bA1 bA2 bA3]
    show G (T26.setTop (mkF m 215 #[.val (.int x0), .val (.int x1), .val (.int x2), .val (.int x3), .val (.int x4), .val (.int (2 : Int32)), .val (.int (Int32.ofNat mm)), .val (.ref b1), .val (.ref b6), .val (.ref b24), .val (.int (1 : Int32))] [(.int (Int32.ofNat (own_pos (own_4 A0 A1 A2 A3) 2 0))), (.ref b24)]))
    obtain ⟨cl28, Ar28, S28, H28⟩ := id Gv24
    have ok28 : own_ok 2 (Int32.ofNat (own_pos (own_4 A0 A1 A2 A3) 2 0)) := own_ok_nat (own_pos_lt (own_4 A0 A1 A2 A3) (by decide)) (by have := own_pos_lt (own_4 A0 A1 A2 A3) (n := 2) (s := 0) (by decide); omega)
    have hin28 := own_in S28 ok28
    have kk28 := ok28.2
    rw [own_natN (by have := own_pos_lt (own_4 A0 A1 A2 A3) (n := 2) (s := 0) (by decide); omega)] at kk28
    have hat28 : cl28.slots[((Int32.ofNat (own_pos (own_4 A0 A1 A2 A3) 2 0))).toNatClampNeg]? = some (.int ((own_ord (own_4 A0 A1 A2 A3) 2 2) (own_pos (own_4 A0 A1 A2 A3) 2 0))) := by rw [own_natN (by have := own_pos_lt (own_4 A0 A1 A2 A3) (n := 2) (s := 0) (by decide); omega)]; exact H28 _ kk28
    refine go (fun tg kg => X26.iaload hx (j := (Int32.ofNat (own_pos (own_4 A0 A1 A2 A3) 2 0))) (v := (.int ((own_ord (own_4 A0 A1 A2 A3) 2 2) (own_pos (own_4 A0 A1 A2 A3) 2 0)))) (by rw [e26]; exact Ar28.1) (State.isArrayOf_alike hZ.alike Ar28.2.1) Ar28.2.2 hin28 hat28 (g := (mkF m 215 #[.val (.int x0), .val (.int x1), .val (.int x2), .val (.int x3), .val (.int x4), .val (.int (2 : Int32)), .val (.int (Int32.ofNat mm)), .val (.ref b1), .val (.ref b6), .val (.ref b24), .val (.int (1 : Int32))] [(.int (Int32.ofNat (own_pos (own_4 A0 A1 A2 A3) 2 0))), (.ref b24)])) rfl rfl (hb hby at_215) _ kg) ?_
    show G (T26.setTop (mkF m 216 #[.val (.int x0), .val (.int x1), .val (.int x2), .val (.int x3), .val (.int x4), .val (.int (2 : Int32)), .val (.int (Int32.ofNat mm)), .val (.ref b1), .val (.ref b6), .val (.ref b24), .val (.int (1 : Int32))] [(.int ((own_ord (own_4 A0 A1 A2 A3) 2 2) (own_pos (own_4 A0 A1 A2 A3) 2 0)))]))
    rw [own_ord_pos (own_4 A0 A1 A2 A3) 2 2 (Nat.le_refl _) 0 (by decide)]
    show G (T26.setTop (mkF m 216 #[.val (.int x0), .val (.int x1), .val (.int x2), .val (.int x3), .val (.int x4), .val (.int (2 : Int32)), .val (.int (Int32.ofNat mm)), .val (.ref b1), .val (.ref b6), .val (.ref b24), .val (.int (1 : Int32))] [(.int (0 : Int32))]))
    refine go (fun tg kg => XS.ifNo X26.here hx rfl (hb hby at_216) rfl ((if0 _ _).trans (teq (by decide)).2) kg) ?_
    show G (T26.setTop (mkF m 219 #[.val (.int x0), .val (.int x1), .val (.int x2), .val (.int x3), .val (.int x4), .val (.int (2 : Int32)), .val (.int (Int32.ofNat mm)), .val (.ref b1), .val (.ref b6), .val (.ref b24), .val (.int (1 : Int32))] []))
    refine go (fun tg kg => XS.iconst X26.here hx rfl (hb hby at_219) kg) ?_
    show G (T26.setTop (mkF m 220 #[.val (.int x0), .val (.int x1), .val (.int x2), .val (.int x3), .val (.int x4), .val (.int (2 : Int32)), .val (.int (Int32.ofNat mm)), .val (.ref b1), .val (.ref b6), .val (.ref b24), .val (.int (1 : Int32))] [(.int (1 : Int32))]))
    refine go (fun tg kg => XS.goto X26.here hx rfl (pc0 := 220) (pc' := 224) rfl (hb hby at_220) (by decide) (by decide) kg) ?_
    show G (T26.setTop (mkF m 224 #[.val (.int x0), .val (.int x1), .val (.int x2), .val (.int x3), .val (.int x4), .val (.int (2 : Int32)), .val (.int (Int32.ofNat mm)), .val (.ref b1), .val (.ref b6), .val (.ref b24), .val (.int (1 : Int32))] [(.int (1 : Int32))]))
    refine go (fun tg kg => XS.istore X26.here hx rfl (hb hby at_224) rfl (l' := #[.val (.int x0), .val (.int x1), .val (.int x2), .val (.int x3), .val (.int x4), .val (.int (2 : Int32)), .val (.int (Int32.ofNat mm)), .val (.ref b1), .val (.ref b6), .val (.ref b24), .val (.int (1 : Int32))]) rfl kg) ?_
    show G (T26.setTop (mkF m 226 #[.val (.int x0), .val (.int x1), .val (.int x2), .val (.int x3), .val (.int x4), .val (.int (2 : Int32)), .val (.int (Int32.ofNat mm)), .val (.ref b1), .val (.ref b6), .val (.ref b24), .val (.int (1 : Int32))] []))
    refine go (fun tg kg => XS.iload X26.here hx rfl (hb hby at_226) rfl kg) ?_
    show G (T26.setTop (mkF m 228 #[.val (.int x0), .val (.int x1), .val (.int x2), .val (.int x3), .val (.int x4), .val (.int (2 : Int32)), .val (.int (Int32.ofNat mm)), .val (.ref b1), .val (.ref b6), .val (.ref b24), .val (.int (1 : Int32))] [(.int (2 : Int32))]))
    refine go (fun tg kg => XS.iconst X26.here hx rfl (hb hby at_228) kg) ?_
    show G (T26.setTop (mkF m 229 #[.val (.int x0), .val (.int x1), .val (.int x2), .val (.int x3), .val (.int x4), .val (.int (2 : Int32)), .val (.int (Int32.ofNat mm)), .val (.ref b1), .val (.ref b6), .val (.ref b24), .val (.int (1 : Int32))] [(.int (1 : Int32)), (.int (2 : Int32))]))
    refine go (fun tg kg => XS.icmpNo X26.here hx rfl (hb hby at_229) rfl (tlt (by decide)).2.2.2 kg) ?_
    show G (T26.setTop (mkF m 232 #[.val (.int x0), .val (.int x1), .val (.int x2), .val (.int x3), .val (.int x4), .val (.int (2 : Int32)), .val (.int (Int32.ofNat mm)), .val (.ref b1), .val (.ref b6), .val (.ref b24), .val (.int (1 : Int32))] []))
    refine go (fun tg kg => XS.iload X26.here hx rfl (hb hby at_232) rfl kg) ?_
    show G (T26.setTop (mkF m 234 #[.val (.int x0), .val (.int x1), .val (.int x2), .val (.int x3), .val (.int x4), .val (.int (2 : Int32)), .val (.int (Int32.ofNat mm)), .val (.ref b1), .val (.ref b6), .val (.ref b24), .val (.int (1 : Int32))] [(.int (1 : Int32))]))
    refine go (fun tg kg => XS.ifNo X26.here hx rfl (hb hby at_234) rfl ((if0 _ _).trans (feq (by decide)).1) kg) ?_
    show G (T26.setTop (mkF m 237 #[.val (.int x0), .val (.int x1), .val (.int x2), .val (.int x3), .val (.int x4), .val (.int (2 : Int32)), .val (.int (Int32.ofNat mm)), .val (.ref b1), .val (.ref b6), .val (.ref b24), .val (.int (1 : Int32))] []))
    refine go (fun tg kg => XS.aload X26.here hx rfl (hb hby at_237) rfl rfl kg) ?_
    show G (T26.setTop (mkF m 239 #[.val (.int x0), .val (.int x1), .val (.int x2), .val (.int x3), .val (.int x4), .val (.int (2 : Int32)), .val (.int (Int32.ofNat mm)), .val (.ref b1), .val (.ref b6), .val (.ref b24), .val (.int (1 : Int32))] [(.ref b24)]))
    refine go (fun tg kg => XS.aload X26.here hx rfl (hb hby at_239) rfl rfl kg) ?_
    show G (T26.setTop (mkF m 241 #[.val (.int x0), .val (.int x1), .val (.int x2), .val (.int x3), .val (.int x4), .val (.int (2 : Int32)), .val (.int (Int32.ofNat mm)), .val (.ref b1), .val (.ref b6), .val (.ref b24), .val (.int (1 : Int32))] [(.ref b1), (.ref b24)]))
    refine go (fun tg kg => XS.iload X26.here hx rfl (hb hby at_241) rfl kg) ?_
    show G (T26.setTop (mkF m 243 #[.val (.int x0), .val (.int x1), .val (.int x2), .val (.int x3), .val (.int x4), .val (.int (2 : Int32)), .val (.int (Int32.ofNat mm)), .val (.ref b1), .val (.ref b6), .val (.ref b24), .val (.int (1 : Int32))] [(.int (2 : Int32)), (.ref b1), (.ref b24)]))
    refine go (fun tg kg => XS.iconst X26.here hx rfl (hb hby at_243) kg) ?_
    show G (T26.setTop (mkF m 244 #[.val (.int x0), .val (.int x1), .val (.int x2), .val (.int x3), .val (.int x4), .val (.int (2 : Int32)), .val (.int (Int32.ofNat mm)), .val (.ref b1), .val (.ref b6), .val (.ref b24), .val (.int (1 : Int32))] [(.int (1 : Int32)), (.int (2 : Int32)), (.ref b1), (.ref b24)]))
    obtain ⟨_, _, ⟨T29, L29, k29, n29⟩, -, X29, ⟨Lc29, hQ29, l29, y29, z29⟩, st29⟩ := Jvm.LawKit.callS X26 hx (y := (⟨"com/example/housemartin/housemartin/record/SpellColumnsByAgentPinLaw", "rank", "([III)I"⟩ : MethodName)) hown (mvT hZ (hw _ (List.mem_of_getElem? (i := 39) rfl))) (mvT hZ (hw _ (List.mem_of_getElem? (i := 40) rfl))) (mvT hZ (hw _ (List.mem_of_getElem? (i := 41) rfl))) (mvT hZ (hw _ (List.mem_of_getElem? (i := 42) rfl))) (by decide) (backOf (W := 1) (rm5 l Z a0 hw [] b1 (2 : Int32) (1 : Int32) (own_F4 (Int32.ofNat A0) (Int32.ofNat A1) (Int32.ofNat A2) (Int32.ofNat A3)) T24.heap n0 Z24 (own_of_arv Fa27) ⟨by decide, by decide⟩) hZ (hw _ (List.mem_of_getElem? (i := 42) rfl)) (hw _ (List.mem_of_getElem? (i := 41) rfl)) (by decide) (by decide)) (g := (mkF m 244 #[.val (.int x0), .val (.int x1), .val (.int x2), .val (.int x3), .val (.int x4), .val (.int (2 : Int32)), .val (.int (Int32.ofNat mm)), .val (.ref b1), .val (.ref b6), .val (.ref b24), .val (.int (1 : Int32))] [(.int (1 : Int32)), (.int (2 : Int32)), (.ref b1), (.ref b24)])) rfl (by rw [hml]; rfl) (argsL := [(.ref b1), (.int (2 : Int32)), (.int (1 : Int32))]) (rest := [(.ref b24)]) (lenOf pd___III_I rfl) rfl (by show 2 * 0 + _ ≤ _; exact Nat.le_of_eq rfl) (hb hby at_244) (fun _ _ => ⟨rfl, e26, (by decide : 10 + 0 ≤ _), (by decide : 6169 + 0 ≤ _)⟩)
    dsimp only [Pt.U, Pt.locs, Pt.cells, Pt.slots] at X29 l29 y29 z29 st29 hQ29
    subst l29 y29 z29
    obtain ⟨rfl, Nq29, e29⟩ := hQ29
    have N29 := Fr.app N26 Nq29
    refine go st29 ?_
    show G (T29.setTop (mkF m 247 #[.val (.int x0), .val (.int x1), .val (.int x2), .val (.int x3), .val (.int x4), .val (.int (2 : Int32)), .val (.int (Int32.ofNat mm)), .val (.ref b1), .val (.ref b6), .val (.ref b24), .val (.int (1 : Int32))] [(.int (own_rnk (own_F4 (Int32.ofNat A0) (Int32.ofNat A1) (Int32.ofNat A2) (Int32.ofNat A3)) (2 : Int32) (1 : Int32))), (.ref b24)]))
    rw [own_rk21 hm bA0 bA1 bA2 bA3]
    show G (T29.setTop (mkF m 247 #[.val (.int x0), .val (.int x1), .val (.int x2), .val (.int x3), .val (.int x4), .val (.int (2 : Int32)), .val (.int (Int32.ofNat mm)), .val (.ref b1), .val (.ref b6), .val (.ref b24), .val (.int (1 : Int32))] [(.int (Int32.ofNat (own_pos (own_4 A0 A1 A2 A3) 2 1))), (.ref b24)]))
    obtain ⟨cl30, Ar30, S30, H30⟩ := id Gv24
    have ok30 : own_ok 2 (Int32.ofNat (own_pos (own_4 A0 A1 A2 A3) 2 1)) := own_ok_nat (own_pos_lt (own_4 A0 A1 A2 A3) (by decide)) (by have := own_pos_lt (own_4 A0 A1 A2 A3) (n := 2) (s := 1) (by decide); omega)
    have hin30 := own_in S30 ok30
    have kk30 := ok30.2
    rw [own_natN (by have := own_pos_lt (own_4 A0 A1 A2 A3) (n := 2) (s := 1) (by decide); omega)] at kk30
    have hat30 : cl30.slots[((Int32.ofNat (own_pos (own_4 A0 A1 A2 A3) 2 1))).toNatClampNeg]? = some (.int ((own_ord (own_4 A0 A1 A2 A3) 2 2) (own_pos (own_4 A0 A1 A2 A3) 2 1))) := by rw [own_natN (by have := own_pos_lt (own_4 A0 A1 A2 A3) (n := 2) (s := 1) (by decide); omega)]; exact H30 _ kk30
    refine go (fun tg kg => X29.iaload hx (j := (Int32.ofNat (own_pos (own_4 A0 A1 A2 A3) 2 1))) (v := (.int ((own_ord (own_4 A0 A1 A2 A3) 2 2) (own_pos (own_4 A0 A1 A2 A3) 2 1)))) (by rw [e29]; exact Ar30.1) (State.isArrayOf_alike hZ.alike Ar30.2.1) Ar30.2.2 hin30 hat30 (g := (mkF m 247 #[.val (.int x0), .val (.int x1), .val (.int x2), .val (.int x3), .val (.int x4), .val (.int (2 : Int32)), .val (.int (Int32.ofNat mm)), .val (.ref b1), .val (.ref b6), .val (.ref b24), .val (.int (1 : Int32))] [(.int (Int32.ofNat (own_pos (own_4 A0 A1 A2 A3) 2 1))), (.ref b24)])) rfl rfl (hb hby at_247) _ kg) ?_
    show G (T29.setTop (mkF m 248 #[.val (.int x0), .val (.int x1), .val (.int x2), .val (.int x3), .val (.int x4), .val (.int (2 : Int32)), .val (.int (Int32.ofNat mm)), .val (.ref b1), .val (.ref b6), .val (.ref b24), .val (.int (1 : Int32))] [(.int ((own_ord (own_4 A0 A1 A2 A3) 2 2) (own_pos (own_4 A0 A1 A2 A3) 2 1)))]))
    rw [own_ord_pos (own_4 A0 A1 A2 A3) 2 2 (Nat.le_refl _) 1 (by decide)]
    show G (T29.setTop (mkF m 248 #[.val (.int x0), .val (.int x1), .val (.int x2), .val (.int x3), .val (.int x4), .val (.int (2 : Int32)), .val (.int (Int32.ofNat mm)), .val (.ref b1), .val (.ref b6), .val (.ref b24), .val (.int (1 : Int32))] [(.int (1 : Int32))]))
    refine go (fun tg kg => XS.iconst X29.here hx rfl (hb hby at_248) kg) ?_
    show G (T29.setTop (mkF m 249 #[.val (.int x0), .val (.int x1), .val (.int x2), .val (.int x3), .val (.int x4), .val (.int (2 : Int32)), .val (.int (Int32.ofNat mm)), .val (.ref b1), .val (.ref b6), .val (.ref b24), .val (.int (1 : Int32))] [(.int (1 : Int32)), (.int (1 : Int32))]))
    refine go (fun tg kg => XS.icmpNo X29.here hx rfl (hb hby at_249) rfl (teq (by decide)).2 kg) ?_
    show G (T29.setTop (mkF m 252 #[.val (.int x0), .val (.int x1), .val (.int x2), .val (.int x3), .val (.int x4), .val (.int (2 : Int32)), .val (.int (Int32.ofNat mm)), .val (.ref b1), .val (.ref b6), .val (.ref b24), .val (.int (1 : Int32))] []))
    refine go (fun tg kg => XS.iconst X29.here hx rfl (hb hby at_252) kg) ?_
    show G (T29.setTop (mkF m 253 #[.val (.int x0), .val (.int x1), .val (.int x2), .val (.int x3), .val (.int x4), .val (.int (2 : Int32)), .val (.int (Int32.ofNat mm)), .val (.ref b1), .val (.ref b6), .val (.ref b24), .val (.int (1 : Int32))] [(.int (1 : Int32))]))
    refine go (fun tg kg => XS.goto X29.here hx rfl (pc0 := 253) (pc' := 257) rfl (hb hby at_253) (by decide) (by decide) kg) ?_
    show G (T29.setTop (mkF m 257 #[.val (.int x0), .val (.int x1), .val (.int x2), .val (.int x3), .val (.int x4), .val (.int (2 : Int32)), .val (.int (Int32.ofNat mm)), .val (.ref b1), .val (.ref b6), .val (.ref b24), .val (.int (1 : Int32))] [(.int (1 : Int32))]))
    refine go (fun tg kg => XS.istore X29.here hx rfl (hb hby at_257) rfl (l' := #[.val (.int x0), .val (.int x1), .val (.int x2), .val (.int x3), .val (.int x4), .val (.int (2 : Int32)), .val (.int (Int32.ofNat mm)), .val (.ref b1), .val (.ref b6), .val (.ref b24), .val (.int (1 : Int32))]) rfl kg) ?_
    show G (T29.setTop (mkF m 259 #[.val (.int x0), .val (.int x1), .val (.int x2), .val (.int x3), .val (.int x4), .val (.int (2 : Int32)), .val (.int (Int32.ofNat mm)), .val (.ref b1), .val (.ref b6), .val (.ref b24), .val (.int (1 : Int32))] []))
    refine go (fun tg kg => XS.iload X29.here hx rfl (hb hby at_259) rfl kg) ?_
    show G (T29.setTop (mkF m 261 #[.val (.int x0), .val (.int x1), .val (.int x2), .val (.int x3), .val (.int x4), .val (.int (2 : Int32)), .val (.int (Int32.ofNat mm)), .val (.ref b1), .val (.ref b6), .val (.ref b24), .val (.int (1 : Int32))] [(.int (2 : Int32))]))
    refine go (fun tg kg => XS.iconst X29.here hx rfl (hb hby at_261) kg) ?_
    show G (T29.setTop (mkF m 262 #[.val (.int x0), .val (.int x1), .val (.int x2), .val (.int x3), .val (.int x4), .val (.int (2 : Int32)), .val (.int (Int32.ofNat mm)), .val (.ref b1), .val (.ref b6), .val (.ref b24), .val (.int (1 : Int32))] [(.int (2 : Int32)), (.int (2 : Int32))]))
    refine go (fun tg kg => XS.icmpYes X29.here hx rfl (pc0 := 262) (pc' := 292) rfl (hb hby at_262) rfl (flt (by decide)).2.2.2 (by decide) (by decide) kg) ?_
    show G (T29.setTop (mkF m 292 #[.val (.int x0), .val (.int x1), .val (.int x2), .val (.int x3), .val (.int x4), .val (.int (2 : Int32)), .val (.int (Int32.ofNat mm)), .val (.ref b1), .val (.ref b6), .val (.ref b24), .val (.int (1 : Int32))] []))
    refine go (fun tg kg => XS.iload X29.here hx rfl (hb hby at_292) rfl kg) ?_
    show G (T29.setTop (mkF m 294 #[.val (.int x0), .val (.int x1), .val (.int x2), .val (.int x3), .val (.int x4), .val (.int (2 : Int32)), .val (.int (Int32.ofNat mm)), .val (.ref b1), .val (.ref b6), .val (.ref b24), .val (.int (1 : Int32))] [(.int (2 : Int32))]))
    refine go (fun tg kg => XS.iconst X29.here hx rfl (hb hby at_294) kg) ?_
    show G (T29.setTop (mkF m 295 #[.val (.int x0), .val (.int x1), .val (.int x2), .val (.int x3), .val (.int x4), .val (.int (2 : Int32)), .val (.int (Int32.ofNat mm)), .val (.ref b1), .val (.ref b6), .val (.ref b24), .val (.int (1 : Int32))] [(.int (3 : Int32)), (.int (2 : Int32))]))
    refine go (fun tg kg => XS.icmpYes X29.here hx rfl (pc0 := 295) (pc' := 325) rfl (hb hby at_295) rfl (flt (by decide)).2.2.2 (by decide) (by decide) kg) ?_
    show G (T29.setTop (mkF m 325 #[.val (.int x0), .val (.int x1), .val (.int x2), .val (.int x3), .val (.int x4), .val (.int (2 : Int32)), .val (.int (Int32.ofNat mm)), .val (.ref b1), .val (.ref b6), .val (.ref b24), .val (.int (1 : Int32))] []))
    refine go (fun tg kg => XS.iload X29.here hx rfl (hb hby at_325) rfl kg) ?_
    show G (T29.setTop (mkF m 327 #[.val (.int x0), .val (.int x1), .val (.int x2), .val (.int x3), .val (.int x4), .val (.int (2 : Int32)), .val (.int (Int32.ofNat mm)), .val (.ref b1), .val (.ref b6), .val (.ref b24), .val (.int (1 : Int32))] [(.int (1 : Int32))]))
    refine fin (some (.int (1 : Int32))) X29 (fun h => absurd h (by decide)) (fun fs hr => retN X29 hx (t := .boolean) hret (by simp) (hb hby at_327) hr) (by decide) (by decide) ?_
    rw [e29]
    exact ⟨rfl, N29⟩
  · skip
    show G (T7.setTop (mkF m 85 #[.val (.int x0), .val (.int x1), .val (.int x2), .val (.int x3), .val (.int x4), .val (.int (3 : Int32)), .val (.int (Int32.ofNat mm)), .val (.ref b1), .val (.ref b6), .unset, .unset] []))
    refine go (fun tg kg => XS.iload X7.here hx rfl (hb hby at_85) rfl kg) ?_
    show G (T7.setTop (mkF m 87 #[.val (.int x0), .val (.int x1), .val (.int x2), .val (.int x3), .val (.int x4), .val (.int (3 : Int32)), .val (.int (Int32.ofNat mm)), .val (.ref b1), .val (.ref b6), .unset, .unset] [(.int (3 : Int32))]))
    refine go (fun tg kg => XS.ifNo X7.here hx rfl (hb hby at_87) rfl ((if0 _ _).trans (tlt (by decide)).2.2.2) kg) ?_
    show G (T7.setTop (mkF m 90 #[.val (.int x0), .val (.int x1), .val (.int x2), .val (.int x3), .val (.int x4), .val (.int (3 : Int32)), .val (.int (Int32.ofNat mm)), .val (.ref b1), .val (.ref b6), .unset, .unset] []))
    refine go (fun tg kg => XS.aload X7.here hx rfl (hb hby at_90) rfl rfl kg) ?_
    show G (T7.setTop (mkF m 92 #[.val (.int x0), .val (.int x1), .val (.int x2), .val (.int x3), .val (.int x4), .val (.int (3 : Int32)), .val (.int (Int32.ofNat mm)), .val (.ref b1), .val (.ref b6), .unset, .unset] [(.ref b6)]))
    refine go (fun tg kg => XS.aload X7.here hx rfl (hb hby at_92) rfl rfl kg) ?_
    show G (T7.setTop (mkF m 94 #[.val (.int x0), .val (.int x1), .val (.int x2), .val (.int x3), .val (.int x4), .val (.int (3 : Int32)), .val (.int (Int32.ofNat mm)), .val (.ref b1), .val (.ref b6), .unset, .unset] [(.ref b1), (.ref b6)]))
    refine go (fun tg kg => XS.iconst X7.here hx rfl (hb hby at_94) kg) ?_
    show G (T7.setTop (mkF m 95 #[.val (.int x0), .val (.int x1), .val (.int x2), .val (.int x3), .val (.int x4), .val (.int (3 : Int32)), .val (.int (Int32.ofNat mm)), .val (.ref b1), .val (.ref b6), .unset, .unset] [(.int (0 : Int32)), (.ref b1), (.ref b6)]))
    have Fa31 := ((V5.ext E6).keep K7 (ninS (Nat.ne_of_lt (Nat.lt_of_lt_of_le V5.lt (Nat.le_of_eq g6.symm))) nin0))
    obtain ⟨cl32, Ar32, q32, S32, M32, H32, U32⟩ := id Fa31
    have hin32 : ¬ ((0 : Int32) < 0 ∨ cl32.slots.size ≤ ((0 : Int32)).toNatClampNeg) := inb_of S32 ⟨by decide, by decide⟩
    refine go (fun tg kg => X7.iaload hx (j := (0 : Int32)) (v := (.int (Int32.ofNat A0))) Ar32.1 (State.isArrayOf_alike hZ.alike Ar32.2.1) Ar32.2.2 hin32 (H32.at hin32 rfl) (g := (mkF m 95 #[.val (.int x0), .val (.int x1), .val (.int x2), .val (.int x3), .val (.int x4), .val (.int (3 : Int32)), .val (.int (Int32.ofNat mm)), .val (.ref b1), .val (.ref b6), .unset, .unset] [(.int (0 : Int32)), (.ref b1), (.ref b6)])) rfl rfl (hb hby at_95) _ kg) ?_
    show G (T7.setTop (mkF m 96 #[.val (.int x0), .val (.int x1), .val (.int x2), .val (.int x3), .val (.int x4), .val (.int (3 : Int32)), .val (.int (Int32.ofNat mm)), .val (.ref b1), .val (.ref b6), .unset, .unset] [(.int (Int32.ofNat A0)), (.ref b6)]))
    refine go (fun tg kg => XS.iloadN X7.here hx rfl (hb hby at_96) rfl kg) ?_
    show G (T7.setTop (mkF m 97 #[.val (.int x0), .val (.int x1), .val (.int x2), .val (.int x3), .val (.int x4), .val (.int (3 : Int32)), .val (.int (Int32.ofNat mm)), .val (.ref b1), .val (.ref b6), .unset, .unset] [(.int x1), (.int (Int32.ofNat A0)), (.ref b6)]))
    refine go (fun tg kg => XS.iconst X7.here hx rfl (hb hby at_97) kg) ?_
    show G (T7.setTop (mkF m 98 #[.val (.int x0), .val (.int x1), .val (.int x2), .val (.int x3), .val (.int x4), .val (.int (3 : Int32)), .val (.int (Int32.ofNat mm)), .val (.ref b1), .val (.ref b6), .unset, .unset] [(.int (0 : Int32)), (.int x1), (.int (Int32.ofNat A0)), (.ref b6)]))
    refine go (fun tg kg => X7.ldcInt hx hown (mvT hZ (hw _ (List.mem_of_getElem? (i := 1) rfl))) (g := (mkF m 98 #[.val (.int x0), .val (.int x1), .val (.int x2), .val (.int x3), .val (.int x4), .val (.int (3 : Int32)), .val (.int (Int32.ofNat mm)), .val (.ref b1), .val (.ref b6), .unset, .unset] [(.int (0 : Int32)), (.int x1), (.int (Int32.ofNat A0)), (.ref b6)])) rfl (hb hby at_98) _ kg) ?_
    show G (T7.setTop (mkF m 100 #[.val (.int x0), .val (.int x1), .val (.int x2), .val (.int x3), .val (.int x4), .val (.int (3 : Int32)), .val (.int (Int32.ofNat mm)), .val (.ref b1), .val (.ref b6), .unset, .unset] [(.int (2147483647 : Int32)), (.int (0 : Int32)), (.int x1), (.int (Int32.ofNat A0)), (.ref b6)]))
    refine go (fun tg kg => XS.aconstNull X7.here hx rfl (hb hby at_100) kg) ?_
    show G (T7.setTop (mkF m 101 #[.val (.int x0), .val (.int x1), .val (.int x2), .val (.int x3), .val (.int x4), .val (.int (3 : Int32)), .val (.int (Int32.ofNat mm)), .val (.ref b1), .val (.ref b6), .unset, .unset] [.null, (.int (2147483647 : Int32)), (.int (0 : Int32)), (.int x1), (.int (Int32.ofNat A0)), (.ref b6)]))
    refine go (fun tg kg => XS.lconst X7.here hx rfl (hb hby at_101) kg) ?_
    show G (T7.setTop (mkF m 102 #[.val (.int x0), .val (.int x1), .val (.int x2), .val (.int x3), .val (.int x4), .val (.int (3 : Int32)), .val (.int (Int32.ofNat mm)), .val (.ref b1), .val (.ref b6), .unset, .unset] [(.long (0 : Int64)), .null, (.int (2147483647 : Int32)), (.int (0 : Int32)), (.int x1), (.int (Int32.ofNat A0)), (.ref b6)]))
    obtain ⟨cq33, kq33, q33a, q33b, q33c⟩ := isOf hZ rfl Ge7
    obtain ⟨_, _, ⟨T33, L33, k33, n33⟩, -, X33, ⟨Lc33, hQ33, l33, y33, z33⟩, st33⟩ := X7.virtualBack hx (y := (⟨"com/example/housemartin/housemartin/record/SpellColumns", "add", "(IIIILcom/example/housemartin/housemartin/record/Spell$EndReason;J)V"⟩ : MethodName)) (z := (⟨"com/example/housemartin/housemartin/record/SpellColumns", "add", "(IIIILcom/example/housemartin/housemartin/record/Spell$EndReason;J)V"⟩ : MethodName)) hown (mvT hZ (hw _ (List.mem_of_getElem? (i := 32) rfl))) (mvT hZ (hw _ (List.mem_of_getElem? (i := 33) rfl))) (notFace_of_selects (args := #[]) (mvT hZ (hw _ (List.mem_of_getElem? (i := 35) rfl)))) (mvT hZ (hw _ (List.mem_of_getElem? (i := 35) rfl))) (mvT hZ (hw _ (List.mem_of_getElem? (i := 34) rfl))) (by decide) (backOf (W := 0) (rm4 l Z a0 hw [] b6 (Int32.ofNat A0) x1 (0 : Int32) (2147483647 : Int32) (0 : Int64) ag7 fi7 sa7 en7 re7 li7 (fun _ => 0) 0 T7.heap n0 Z7 Ge7 ge_b6 hob7 hch7 (by decide) G7_agents G7_firms G7_starts G7_ends G7_reasons G7_lines G7_size Gv7_agents Gv7_firms Gv7_starts Gv7_ends Gv7_reasons Gv7_lines) hZ (hw _ (List.mem_of_getElem? (i := 36) rfl)) (hw _ (List.mem_of_getElem? (i := 4) rfl)) (by decide) (by decide)) q33a q33c (g := (mkF m 102 #[.val (.int x0), .val (.int x1), .val (.int x2), .val (.int x3), .val (.int x4), .val (.int (3 : Int32)), .val (.int (Int32.ofNat mm)), .val (.ref b1), .val (.ref b6), .unset, .unset] [(.long (0 : Int64)), .null, (.int (2147483647 : Int32)), (.int (0 : Int32)), (.int x1), (.int (Int32.ofNat A0)), (.ref b6)])) rfl (by rw [hml]; rfl) (Steps.refl _) (argsL := [(.int (Int32.ofNat A0)), (.int x1), (.int (0 : Int32)), (.int (2147483647 : Int32)), .null, (.long (0 : Int64))]) (rest := []) (lenOf pd__IIIILcom_example_housemartin_housemartin_record_Spell_EndReason_J_V rfl) rfl (by show 2 * 0 + _ ≤ _; exact Nat.le_of_eq rfl) (hb hby at_102) (fun _ _ => ⟨rfl, rfl, (by decide : 8 + 0 ≤ _), (by decide : 6155 + 0 ≤ _)⟩)
    dsimp only [Pt.U, Pt.locs, Pt.cells, Pt.slots] at X33 l33 y33 z33 st33 hQ33
    subst l33 y33 z33
    obtain ⟨rfl, Nq33, K33, Ge33, G33_agents, G33_firms, G33_starts, G33_ends, G33_reasons, G33_lines, G33_size, Gv33_agents, Gv33_firms, Gv33_starts, Gv33_ends, Gv33_reasons, Gv33_lines⟩ := hQ33
    have Z33 := Nat.le_trans Z7 K33.1
    replace G33_size : Fld Z T33.heap b6 "com/example/housemartin/housemartin/record/SpellColumns" "size" "I" (.int (1 : Int32)) := G33_size
    have N33 := Fr.app N7 Nq33
    refine go (fun tg kg => st33.trans kg) ?_
    show G (T33.setTop (mkF m 105 #[.val (.int x0), .val (.int x1), .val (.int x2), .val (.int x3), .val (.int x4), .val (.int (3 : Int32)), .val (.int (Int32.ofNat mm)), .val (.ref b1), .val (.ref b6), .unset, .unset] []))
    refine go (fun tg kg => XS.iload X33.here hx rfl (hb hby at_105) rfl kg) ?_
    show G (T33.setTop (mkF m 107 #[.val (.int x0), .val (.int x1), .val (.int x2), .val (.int x3), .val (.int x4), .val (.int (3 : Int32)), .val (.int (Int32.ofNat mm)), .val (.ref b1), .val (.ref b6), .unset, .unset] [(.int (3 : Int32))]))
    refine go (fun tg kg => XS.iconst X33.here hx rfl (hb hby at_107) kg) ?_
    show G (T33.setTop (mkF m 108 #[.val (.int x0), .val (.int x1), .val (.int x2), .val (.int x3), .val (.int x4), .val (.int (3 : Int32)), .val (.int (Int32.ofNat mm)), .val (.ref b1), .val (.ref b6), .unset, .unset] [(.int (1 : Int32)), (.int (3 : Int32))]))
    refine go (fun tg kg => XS.icmpNo X33.here hx rfl (hb hby at_108) rfl (tlt (by decide)).2.2.2 kg) ?_
    show G (T33.setTop (mkF m 111 #[.val (.int x0), .val (.int x1), .val (.int x2), .val (.int x3), .val (.int x4), .val (.int (3 : Int32)), .val (.int (Int32.ofNat mm)), .val (.ref b1), .val (.ref b6), .unset, .unset] []))
    refine go (fun tg kg => XS.aload X33.here hx rfl (hb hby at_111) rfl rfl kg) ?_
    show G (T33.setTop (mkF m 113 #[.val (.int x0), .val (.int x1), .val (.int x2), .val (.int x3), .val (.int x4), .val (.int (3 : Int32)), .val (.int (Int32.ofNat mm)), .val (.ref b1), .val (.ref b6), .unset, .unset] [(.ref b6)]))
    refine go (fun tg kg => XS.aload X33.here hx rfl (hb hby at_113) rfl rfl kg) ?_
    show G (T33.setTop (mkF m 115 #[.val (.int x0), .val (.int x1), .val (.int x2), .val (.int x3), .val (.int x4), .val (.int (3 : Int32)), .val (.int (Int32.ofNat mm)), .val (.ref b1), .val (.ref b6), .unset, .unset] [(.ref b1), (.ref b6)]))
    refine go (fun tg kg => XS.iconst X33.here hx rfl (hb hby at_115) kg) ?_
    show G (T33.setTop (mkF m 116 #[.val (.int x0), .val (.int x1), .val (.int x2), .val (.int x3), .val (.int x4), .val (.int (3 : Int32)), .val (.int (Int32.ofNat mm)), .val (.ref b1), .val (.ref b6), .unset, .unset] [(.int (1 : Int32)), (.ref b1), (.ref b6)]))
    have Fa34 := (Fa31.keep K33 (ninS (Nat.ne_of_lt (Nat.lt_of_lt_of_le V5.lt (Nat.le_of_eq g6.symm))) (ninS (Nat.ne_of_lt (Nat.lt_of_lt_of_le (V5.ext E6).lt (by omega))) (ninS (Nat.ne_of_lt (Nat.lt_of_lt_of_le (V5.ext E6).lt (by omega))) (ninS (Nat.ne_of_lt (Nat.lt_of_lt_of_le (V5.ext E6).lt (by omega))) (ninS (Nat.ne_of_lt (Nat.lt_of_lt_of_le (V5.ext E6).lt (by omega))) (ninS (Nat.ne_of_lt (Nat.lt_of_lt_of_le (V5.ext E6).lt (by omega))) (ninS (Nat.ne_of_lt (Nat.lt_of_lt_of_le (V5.ext E6).lt (by omega))) nin0))))))))
    obtain ⟨cl35, Ar35, q35, S35, M35, H35, U35⟩ := id Fa34
    have hin35 : ¬ ((1 : Int32) < 0 ∨ cl35.slots.size ≤ ((1 : Int32)).toNatClampNeg) := inb_of S35 ⟨by decide, by decide⟩
    refine go (fun tg kg => X33.iaload hx (j := (1 : Int32)) (v := (.int (Int32.ofNat A1))) Ar35.1 (State.isArrayOf_alike hZ.alike Ar35.2.1) Ar35.2.2 hin35 (H35.at hin35 rfl) (g := (mkF m 116 #[.val (.int x0), .val (.int x1), .val (.int x2), .val (.int x3), .val (.int x4), .val (.int (3 : Int32)), .val (.int (Int32.ofNat mm)), .val (.ref b1), .val (.ref b6), .unset, .unset] [(.int (1 : Int32)), (.ref b1), (.ref b6)])) rfl rfl (hb hby at_116) _ kg) ?_
    show G (T33.setTop (mkF m 117 #[.val (.int x0), .val (.int x1), .val (.int x2), .val (.int x3), .val (.int x4), .val (.int (3 : Int32)), .val (.int (Int32.ofNat mm)), .val (.ref b1), .val (.ref b6), .unset, .unset] [(.int (Int32.ofNat A1)), (.ref b6)]))
    refine go (fun tg kg => XS.iloadN X33.here hx rfl (hb hby at_117) rfl kg) ?_
    show G (T33.setTop (mkF m 118 #[.val (.int x0), .val (.int x1), .val (.int x2), .val (.int x3), .val (.int x4), .val (.int (3 : Int32)), .val (.int (Int32.ofNat mm)), .val (.ref b1), .val (.ref b6), .unset, .unset] [(.int x2), (.int (Int32.ofNat A1)), (.ref b6)]))
    refine go (fun tg kg => XS.iconst X33.here hx rfl (hb hby at_118) kg) ?_
    show G (T33.setTop (mkF m 119 #[.val (.int x0), .val (.int x1), .val (.int x2), .val (.int x3), .val (.int x4), .val (.int (3 : Int32)), .val (.int (Int32.ofNat mm)), .val (.ref b1), .val (.ref b6), .unset, .unset] [(.int (0 : Int32)), (.int x2), (.int (Int32.ofNat A1)), (.ref b6)]))
    refine go (fun tg kg => X33.ldcInt hx hown (mvT hZ (hw _ (List.mem_of_getElem? (i := 1) rfl))) (g := (mkF m 119 #[.val (.int x0), .val (.int x1), .val (.int x2), .val (.int x3), .val (.int x4), .val (.int (3 : Int32)), .val (.int (Int32.ofNat mm)), .val (.ref b1), .val (.ref b6), .unset, .unset] [(.int (0 : Int32)), (.int x2), (.int (Int32.ofNat A1)), (.ref b6)])) rfl (hb hby at_119) _ kg) ?_
    show G (T33.setTop (mkF m 121 #[.val (.int x0), .val (.int x1), .val (.int x2), .val (.int x3), .val (.int x4), .val (.int (3 : Int32)), .val (.int (Int32.ofNat mm)), .val (.ref b1), .val (.ref b6), .unset, .unset] [(.int (2147483647 : Int32)), (.int (0 : Int32)), (.int x2), (.int (Int32.ofNat A1)), (.ref b6)]))
    refine go (fun tg kg => XS.aconstNull X33.here hx rfl (hb hby at_121) kg) ?_
    show G (T33.setTop (mkF m 122 #[.val (.int x0), .val (.int x1), .val (.int x2), .val (.int x3), .val (.int x4), .val (.int (3 : Int32)), .val (.int (Int32.ofNat mm)), .val (.ref b1), .val (.ref b6), .unset, .unset] [.null, (.int (2147483647 : Int32)), (.int (0 : Int32)), (.int x2), (.int (Int32.ofNat A1)), (.ref b6)]))
    refine go (fun tg kg => XS.lconst X33.here hx rfl (hb hby at_122) kg) ?_
    show G (T33.setTop (mkF m 123 #[.val (.int x0), .val (.int x1), .val (.int x2), .val (.int x3), .val (.int x4), .val (.int (3 : Int32)), .val (.int (Int32.ofNat mm)), .val (.ref b1), .val (.ref b6), .unset, .unset] [(.long (1 : Int64)), .null, (.int (2147483647 : Int32)), (.int (0 : Int32)), (.int x2), (.int (Int32.ofNat A1)), (.ref b6)]))
    obtain ⟨cq36, kq36, q36a, q36b, q36c⟩ := isOf hZ rfl Ge33
    obtain ⟨_, _, ⟨T36, L36, k36, n36⟩, -, X36, ⟨Lc36, hQ36, l36, y36, z36⟩, st36⟩ := X33.virtualBack hx (y := (⟨"com/example/housemartin/housemartin/record/SpellColumns", "add", "(IIIILcom/example/housemartin/housemartin/record/Spell$EndReason;J)V"⟩ : MethodName)) (z := (⟨"com/example/housemartin/housemartin/record/SpellColumns", "add", "(IIIILcom/example/housemartin/housemartin/record/Spell$EndReason;J)V"⟩ : MethodName)) hown (mvT hZ (hw _ (List.mem_of_getElem? (i := 32) rfl))) (mvT hZ (hw _ (List.mem_of_getElem? (i := 33) rfl))) (notFace_of_selects (args := #[]) (mvT hZ (hw _ (List.mem_of_getElem? (i := 35) rfl)))) (mvT hZ (hw _ (List.mem_of_getElem? (i := 35) rfl))) (mvT hZ (hw _ (List.mem_of_getElem? (i := 34) rfl))) (by decide) (backOf (W := 0) (rm4 l Z a0 hw [] b6 (Int32.ofNat A1) x2 (0 : Int32) (2147483647 : Int32) (1 : Int64) ag7 fi7 sa7 en7 re7 li7 (own_up (fun _ => 0) 0 (Int32.ofNat A0)) 1 T33.heap n0 Z33 Ge33 ge_b6 hob7 hch7 (by decide) G33_agents G33_firms G33_starts G33_ends G33_reasons G33_lines G33_size Gv33_agents Gv33_firms Gv33_starts Gv33_ends Gv33_reasons Gv33_lines) hZ (hw _ (List.mem_of_getElem? (i := 36) rfl)) (hw _ (List.mem_of_getElem? (i := 4) rfl)) (by decide) (by decide)) q36a q36c (g := (mkF m 123 #[.val (.int x0), .val (.int x1), .val (.int x2), .val (.int x3), .val (.int x4), .val (.int (3 : Int32)), .val (.int (Int32.ofNat mm)), .val (.ref b1), .val (.ref b6), .unset, .unset] [(.long (1 : Int64)), .null, (.int (2147483647 : Int32)), (.int (0 : Int32)), (.int x2), (.int (Int32.ofNat A1)), (.ref b6)])) rfl (by rw [hml]; rfl) (Steps.refl _) (argsL := [(.int (Int32.ofNat A1)), (.int x2), (.int (0 : Int32)), (.int (2147483647 : Int32)), .null, (.long (1 : Int64))]) (rest := []) (lenOf pd__IIIILcom_example_housemartin_housemartin_record_Spell_EndReason_J_V rfl) rfl (by show 2 * 0 + _ ≤ _; exact Nat.le_of_eq rfl) (hb hby at_123) (fun _ _ => ⟨rfl, rfl, (by decide : 8 + 0 ≤ _), (by decide : 6155 + 0 ≤ _)⟩)
    dsimp only [Pt.U, Pt.locs, Pt.cells, Pt.slots] at X36 l36 y36 z36 st36 hQ36
    subst l36 y36 z36
    obtain ⟨rfl, Nq36, K36, Ge36, G36_agents, G36_firms, G36_starts, G36_ends, G36_reasons, G36_lines, G36_size, Gv36_agents, Gv36_firms, Gv36_starts, Gv36_ends, Gv36_reasons, Gv36_lines⟩ := hQ36
    have Z36 := Nat.le_trans Z33 K36.1
    replace G36_size : Fld Z T36.heap b6 "com/example/housemartin/housemartin/record/SpellColumns" "size" "I" (.int (2 : Int32)) := G36_size
    have N36 := Fr.app N33 Nq36
    refine go (fun tg kg => st36.trans kg) ?_
    show G (T36.setTop (mkF m 126 #[.val (.int x0), .val (.int x1), .val (.int x2), .val (.int x3), .val (.int x4), .val (.int (3 : Int32)), .val (.int (Int32.ofNat mm)), .val (.ref b1), .val (.ref b6), .unset, .unset] []))
    refine go (fun tg kg => XS.iload X36.here hx rfl (hb hby at_126) rfl kg) ?_
    show G (T36.setTop (mkF m 128 #[.val (.int x0), .val (.int x1), .val (.int x2), .val (.int x3), .val (.int x4), .val (.int (3 : Int32)), .val (.int (Int32.ofNat mm)), .val (.ref b1), .val (.ref b6), .unset, .unset] [(.int (3 : Int32))]))
    refine go (fun tg kg => XS.iconst X36.here hx rfl (hb hby at_128) kg) ?_
    show G (T36.setTop (mkF m 129 #[.val (.int x0), .val (.int x1), .val (.int x2), .val (.int x3), .val (.int x4), .val (.int (3 : Int32)), .val (.int (Int32.ofNat mm)), .val (.ref b1), .val (.ref b6), .unset, .unset] [(.int (2 : Int32)), (.int (3 : Int32))]))
    refine go (fun tg kg => XS.icmpNo X36.here hx rfl (hb hby at_129) rfl (tlt (by decide)).2.2.2 kg) ?_
    show G (T36.setTop (mkF m 132 #[.val (.int x0), .val (.int x1), .val (.int x2), .val (.int x3), .val (.int x4), .val (.int (3 : Int32)), .val (.int (Int32.ofNat mm)), .val (.ref b1), .val (.ref b6), .unset, .unset] []))
    refine go (fun tg kg => XS.aload X36.here hx rfl (hb hby at_132) rfl rfl kg) ?_
    show G (T36.setTop (mkF m 134 #[.val (.int x0), .val (.int x1), .val (.int x2), .val (.int x3), .val (.int x4), .val (.int (3 : Int32)), .val (.int (Int32.ofNat mm)), .val (.ref b1), .val (.ref b6), .unset, .unset] [(.ref b6)]))
    refine go (fun tg kg => XS.aload X36.here hx rfl (hb hby at_134) rfl rfl kg) ?_
    show G (T36.setTop (mkF m 136 #[.val (.int x0), .val (.int x1), .val (.int x2), .val (.int x3), .val (.int x4), .val (.int (3 : Int32)), .val (.int (Int32.ofNat mm)), .val (.ref b1), .val (.ref b6), .unset, .unset] [(.ref b1), (.ref b6)]))
    refine go (fun tg kg => XS.iconst X36.here hx rfl (hb hby at_136) kg) ?_
    show G (T36.setTop (mkF m 137 #[.val (.int x0), .val (.int x1), .val (.int x2), .val (.int x3), .val (.int x4), .val (.int (3 : Int32)), .val (.int (Int32.ofNat mm)), .val (.ref b1), .val (.ref b6), .unset, .unset] [(.int (2 : Int32)), (.ref b1), (.ref b6)]))
    have Fa37 := (Fa34.keep K36 (ninS (Nat.ne_of_lt (Nat.lt_of_lt_of_le V5.lt (Nat.le_of_eq g6.symm))) (ninS (Nat.ne_of_lt (Nat.lt_of_lt_of_le (V5.ext E6).lt (by omega))) (ninS (Nat.ne_of_lt (Nat.lt_of_lt_of_le (V5.ext E6).lt (by omega))) (ninS (Nat.ne_of_lt (Nat.lt_of_lt_of_le (V5.ext E6).lt (by omega))) (ninS (Nat.ne_of_lt (Nat.lt_of_lt_of_le (V5.ext E6).lt (by omega))) (ninS (Nat.ne_of_lt (Nat.lt_of_lt_of_le (V5.ext E6).lt (by omega))) (ninS (Nat.ne_of_lt (Nat.lt_of_lt_of_le (V5.ext E6).lt (by omega))) nin0))))))))
    obtain ⟨cl38, Ar38, q38, S38, M38, H38, U38⟩ := id Fa37
    have hin38 : ¬ ((2 : Int32) < 0 ∨ cl38.slots.size ≤ ((2 : Int32)).toNatClampNeg) := inb_of S38 ⟨by decide, by decide⟩
    refine go (fun tg kg => X36.iaload hx (j := (2 : Int32)) (v := (.int (Int32.ofNat A2))) Ar38.1 (State.isArrayOf_alike hZ.alike Ar38.2.1) Ar38.2.2 hin38 (H38.at hin38 rfl) (g := (mkF m 137 #[.val (.int x0), .val (.int x1), .val (.int x2), .val (.int x3), .val (.int x4), .val (.int (3 : Int32)), .val (.int (Int32.ofNat mm)), .val (.ref b1), .val (.ref b6), .unset, .unset] [(.int (2 : Int32)), (.ref b1), (.ref b6)])) rfl rfl (hb hby at_137) _ kg) ?_
    show G (T36.setTop (mkF m 138 #[.val (.int x0), .val (.int x1), .val (.int x2), .val (.int x3), .val (.int x4), .val (.int (3 : Int32)), .val (.int (Int32.ofNat mm)), .val (.ref b1), .val (.ref b6), .unset, .unset] [(.int (Int32.ofNat A2)), (.ref b6)]))
    refine go (fun tg kg => XS.iloadN X36.here hx rfl (hb hby at_138) rfl kg) ?_
    show G (T36.setTop (mkF m 139 #[.val (.int x0), .val (.int x1), .val (.int x2), .val (.int x3), .val (.int x4), .val (.int (3 : Int32)), .val (.int (Int32.ofNat mm)), .val (.ref b1), .val (.ref b6), .unset, .unset] [(.int x3), (.int (Int32.ofNat A2)), (.ref b6)]))
    refine go (fun tg kg => XS.iconst X36.here hx rfl (hb hby at_139) kg) ?_
    show G (T36.setTop (mkF m 140 #[.val (.int x0), .val (.int x1), .val (.int x2), .val (.int x3), .val (.int x4), .val (.int (3 : Int32)), .val (.int (Int32.ofNat mm)), .val (.ref b1), .val (.ref b6), .unset, .unset] [(.int (0 : Int32)), (.int x3), (.int (Int32.ofNat A2)), (.ref b6)]))
    refine go (fun tg kg => X36.ldcInt hx hown (mvT hZ (hw _ (List.mem_of_getElem? (i := 1) rfl))) (g := (mkF m 140 #[.val (.int x0), .val (.int x1), .val (.int x2), .val (.int x3), .val (.int x4), .val (.int (3 : Int32)), .val (.int (Int32.ofNat mm)), .val (.ref b1), .val (.ref b6), .unset, .unset] [(.int (0 : Int32)), (.int x3), (.int (Int32.ofNat A2)), (.ref b6)])) rfl (hb hby at_140) _ kg) ?_
    show G (T36.setTop (mkF m 142 #[.val (.int x0), .val (.int x1), .val (.int x2), .val (.int x3), .val (.int x4), .val (.int (3 : Int32)), .val (.int (Int32.ofNat mm)), .val (.ref b1), .val (.ref b6), .unset, .unset] [(.int (2147483647 : Int32)), (.int (0 : Int32)), (.int x3), (.int (Int32.ofNat A2)), (.ref b6)]))
    refine go (fun tg kg => XS.aconstNull X36.here hx rfl (hb hby at_142) kg) ?_
    show G (T36.setTop (mkF m 143 #[.val (.int x0), .val (.int x1), .val (.int x2), .val (.int x3), .val (.int x4), .val (.int (3 : Int32)), .val (.int (Int32.ofNat mm)), .val (.ref b1), .val (.ref b6), .unset, .unset] [.null, (.int (2147483647 : Int32)), (.int (0 : Int32)), (.int x3), (.int (Int32.ofNat A2)), (.ref b6)]))
    refine go (fun tg kg => X36.ldc2Long hx hown (mvT hZ (hw _ (List.mem_of_getElem? (i := 38) rfl))) (g := (mkF m 143 #[.val (.int x0), .val (.int x1), .val (.int x2), .val (.int x3), .val (.int x4), .val (.int (3 : Int32)), .val (.int (Int32.ofNat mm)), .val (.ref b1), .val (.ref b6), .unset, .unset] [.null, (.int (2147483647 : Int32)), (.int (0 : Int32)), (.int x3), (.int (Int32.ofNat A2)), (.ref b6)])) rfl (hb hby at_143) _ kg) ?_
    show G (T36.setTop (mkF m 146 #[.val (.int x0), .val (.int x1), .val (.int x2), .val (.int x3), .val (.int x4), .val (.int (3 : Int32)), .val (.int (Int32.ofNat mm)), .val (.ref b1), .val (.ref b6), .unset, .unset] [(.long (2 : Int64)), .null, (.int (2147483647 : Int32)), (.int (0 : Int32)), (.int x3), (.int (Int32.ofNat A2)), (.ref b6)]))
    obtain ⟨cq39, kq39, q39a, q39b, q39c⟩ := isOf hZ rfl Ge36
    obtain ⟨_, _, ⟨T39, L39, k39, n39⟩, -, X39, ⟨Lc39, hQ39, l39, y39, z39⟩, st39⟩ := X36.virtualBack hx (y := (⟨"com/example/housemartin/housemartin/record/SpellColumns", "add", "(IIIILcom/example/housemartin/housemartin/record/Spell$EndReason;J)V"⟩ : MethodName)) (z := (⟨"com/example/housemartin/housemartin/record/SpellColumns", "add", "(IIIILcom/example/housemartin/housemartin/record/Spell$EndReason;J)V"⟩ : MethodName)) hown (mvT hZ (hw _ (List.mem_of_getElem? (i := 32) rfl))) (mvT hZ (hw _ (List.mem_of_getElem? (i := 33) rfl))) (notFace_of_selects (args := #[]) (mvT hZ (hw _ (List.mem_of_getElem? (i := 35) rfl)))) (mvT hZ (hw _ (List.mem_of_getElem? (i := 35) rfl))) (mvT hZ (hw _ (List.mem_of_getElem? (i := 34) rfl))) (by decide) (backOf (W := 0) (rm4 l Z a0 hw [] b6 (Int32.ofNat A2) x3 (0 : Int32) (2147483647 : Int32) (2 : Int64) ag7 fi7 sa7 en7 re7 li7 (own_up (own_up (fun _ => 0) 0 (Int32.ofNat A0)) 1 (Int32.ofNat A1)) 2 T36.heap n0 Z36 Ge36 ge_b6 hob7 hch7 (by decide) G36_agents G36_firms G36_starts G36_ends G36_reasons G36_lines G36_size Gv36_agents Gv36_firms Gv36_starts Gv36_ends Gv36_reasons Gv36_lines) hZ (hw _ (List.mem_of_getElem? (i := 36) rfl)) (hw _ (List.mem_of_getElem? (i := 4) rfl)) (by decide) (by decide)) q39a q39c (g := (mkF m 146 #[.val (.int x0), .val (.int x1), .val (.int x2), .val (.int x3), .val (.int x4), .val (.int (3 : Int32)), .val (.int (Int32.ofNat mm)), .val (.ref b1), .val (.ref b6), .unset, .unset] [(.long (2 : Int64)), .null, (.int (2147483647 : Int32)), (.int (0 : Int32)), (.int x3), (.int (Int32.ofNat A2)), (.ref b6)])) rfl (by rw [hml]; rfl) (Steps.refl _) (argsL := [(.int (Int32.ofNat A2)), (.int x3), (.int (0 : Int32)), (.int (2147483647 : Int32)), .null, (.long (2 : Int64))]) (rest := []) (lenOf pd__IIIILcom_example_housemartin_housemartin_record_Spell_EndReason_J_V rfl) rfl (by show 2 * 0 + _ ≤ _; exact Nat.le_of_eq rfl) (hb hby at_146) (fun _ _ => ⟨rfl, rfl, (by decide : 8 + 0 ≤ _), (by decide : 6155 + 0 ≤ _)⟩)
    dsimp only [Pt.U, Pt.locs, Pt.cells, Pt.slots] at X39 l39 y39 z39 st39 hQ39
    subst l39 y39 z39
    obtain ⟨rfl, Nq39, K39, Ge39, G39_agents, G39_firms, G39_starts, G39_ends, G39_reasons, G39_lines, G39_size, Gv39_agents, Gv39_firms, Gv39_starts, Gv39_ends, Gv39_reasons, Gv39_lines⟩ := hQ39
    have Z39 := Nat.le_trans Z36 K39.1
    replace G39_size : Fld Z T39.heap b6 "com/example/housemartin/housemartin/record/SpellColumns" "size" "I" (.int (3 : Int32)) := G39_size
    have N39 := Fr.app N36 Nq39
    refine go (fun tg kg => st39.trans kg) ?_
    show G (T39.setTop (mkF m 149 #[.val (.int x0), .val (.int x1), .val (.int x2), .val (.int x3), .val (.int x4), .val (.int (3 : Int32)), .val (.int (Int32.ofNat mm)), .val (.ref b1), .val (.ref b6), .unset, .unset] []))
    refine go (fun tg kg => XS.iload X39.here hx rfl (hb hby at_149) rfl kg) ?_
    show G (T39.setTop (mkF m 151 #[.val (.int x0), .val (.int x1), .val (.int x2), .val (.int x3), .val (.int x4), .val (.int (3 : Int32)), .val (.int (Int32.ofNat mm)), .val (.ref b1), .val (.ref b6), .unset, .unset] [(.int (3 : Int32))]))
    refine go (fun tg kg => XS.iconst X39.here hx rfl (hb hby at_151) kg) ?_
    show G (T39.setTop (mkF m 152 #[.val (.int x0), .val (.int x1), .val (.int x2), .val (.int x3), .val (.int x4), .val (.int (3 : Int32)), .val (.int (Int32.ofNat mm)), .val (.ref b1), .val (.ref b6), .unset, .unset] [(.int (3 : Int32)), (.int (3 : Int32))]))
    refine go (fun tg kg => XS.icmpYes X39.here hx rfl (pc0 := 152) (pc' := 173) rfl (hb hby at_152) rfl (flt (by decide)).2.2.2 (by decide) (by decide) kg) ?_
    show G (T39.setTop (mkF m 173 #[.val (.int x0), .val (.int x1), .val (.int x2), .val (.int x3), .val (.int x4), .val (.int (3 : Int32)), .val (.int (Int32.ofNat mm)), .val (.ref b1), .val (.ref b6), .unset, .unset] []))
    refine go (fun tg kg => XS.aload X39.here hx rfl (hb hby at_173) rfl rfl kg) ?_
    show G (T39.setTop (mkF m 175 #[.val (.int x0), .val (.int x1), .val (.int x2), .val (.int x3), .val (.int x4), .val (.int (3 : Int32)), .val (.int (Int32.ofNat mm)), .val (.ref b1), .val (.ref b6), .unset, .unset] [(.ref b6)]))
    refine go (fun tg kg => XS.iload X39.here hx rfl (hb hby at_175) rfl kg) ?_
    show G (T39.setTop (mkF m 177 #[.val (.int x0), .val (.int x1), .val (.int x2), .val (.int x3), .val (.int x4), .val (.int (3 : Int32)), .val (.int (Int32.ofNat mm)), .val (.ref b1), .val (.ref b6), .unset, .unset] [(.int (Int32.ofNat mm)), (.ref b6)]))
    obtain ⟨cq40, kq40, q40a, q40b, q40c⟩ := isOf hZ rfl Ge39
    obtain ⟨_, _, ⟨T40, L40, k40, n40⟩, -, X40, ⟨Lc40, hQ40, l40, y40, z40⟩, st40⟩ := X39.virtualBack hx (y := (⟨"com/example/housemartin/housemartin/record/SpellColumns", "byAgent", "(I)[I"⟩ : MethodName)) (z := (⟨"com/example/housemartin/housemartin/record/SpellColumns", "byAgent", "(I)[I"⟩ : MethodName)) hown (mvT hZ (hw _ (List.mem_of_getElem? (i := 25) rfl))) (mvT hZ (hw _ (List.mem_of_getElem? (i := 26) rfl))) (notFace_of_selects (args := #[]) (mvT hZ (hw _ (List.mem_of_getElem? (i := 28) rfl)))) (mvT hZ (hw _ (List.mem_of_getElem? (i := 28) rfl))) (mvT hZ (hw _ (List.mem_of_getElem? (i := 27) rfl))) (by decide) (backOf (W := 0) (rm3 l Z a0 hw [] b6 mm 3 (own_4 A0 A1 A2 A3) ag7 (own_up (own_up (own_up (fun _ => 0) 0 (Int32.ofNat A0)) 1 (Int32.ofNat A1)) 2 (Int32.ofNat A2)) T39.heap n0 Z39 G39_agents G39_size Gv39_agents (fun j hj => match j, hj with | 0, _ => ⟨rfl, bA0⟩ | 1, _ => ⟨rfl, bA1⟩ | 2, _ => ⟨rfl, bA2⟩) hm (by decide)) hZ (hw _ (List.mem_of_getElem? (i := 29) rfl)) (hw _ (List.mem_of_getElem? (i := 4) rfl)) (by decide) (by decide)) q40a q40c (g := (mkF m 177 #[.val (.int x0), .val (.int x1), .val (.int x2), .val (.int x3), .val (.int x4), .val (.int (3 : Int32)), .val (.int (Int32.ofNat mm)), .val (.ref b1), .val (.ref b6), .unset, .unset] [(.int (Int32.ofNat mm)), (.ref b6)])) rfl (by rw [hml]; rfl) (Steps.refl _) (argsL := [(.int (Int32.ofNat mm))]) (rest := []) (lenOf pd__I__I rfl) rfl (by show 2 * 0 + _ ≤ _; exact Nat.le_of_eq rfl) (hb hby at_177) (fun _ _ => ⟨rfl, rfl, (by decide : 8 + 2 ≤ _), (by decide : 6155 + 14 ≤ _)⟩)
    dsimp only [Pt.U, Pt.locs, Pt.cells, Pt.slots] at X40 l40 y40 z40 st40 hQ40
    subst l40 y40 z40
    obtain ⟨b40, rfl, Nq40, K40, sz40, Gv40⟩ := hQ40
    have Z40 := Nat.le_trans Z39 K40.1
    have N40 := Fr.app N39 Nq40
    refine go (fun tg kg => st40.trans kg) ?_
    show G (T40.setTop (mkF m 180 #[.val (.int x0), .val (.int x1), .val (.int x2), .val (.int x3), .val (.int x4), .val (.int (3 : Int32)), .val (.int (Int32.ofNat mm)), .val (.ref b1), .val (.ref b6), .unset, .unset] [(.ref b40)]))
    refine go (fun tg kg => XS.astore X40.here hx rfl (hb hby at_180) rfl rfl (l' := #[.val (.int x0), .val (.int x1), .val (.int x2), .val (.int x3), .val (.int x4), .val (.int (3 : Int32)), .val (.int (Int32.ofNat mm)), .val (.ref b1), .val (.ref b6), .val (.ref b40), .unset]) rfl kg) ?_
    show G (T40.setTop (mkF m 182 #[.val (.int x0), .val (.int x1), .val (.int x2), .val (.int x3), .val (.int x4), .val (.int (3 : Int32)), .val (.int (Int32.ofNat mm)), .val (.ref b1), .val (.ref b6), .val (.ref b40), .unset] []))
    refine go (fun tg kg => XS.aload X40.here hx rfl (hb hby at_182) rfl rfl kg) ?_
    show G (T40.setTop (mkF m 184 #[.val (.int x0), .val (.int x1), .val (.int x2), .val (.int x3), .val (.int x4), .val (.int (3 : Int32)), .val (.int (Int32.ofNat mm)), .val (.ref b1), .val (.ref b6), .val (.ref b40), .unset] [(.ref b40)]))
    obtain ⟨cl41, Ar41, S41, -⟩ := id Gv40
    refine go (fun tg kg => X40.arraylength hx Ar41.1 (State.isArrayOf_alike hZ.alike Ar41.2.1) (g := (mkF m 184 #[.val (.int x0), .val (.int x1), .val (.int x2), .val (.int x3), .val (.int x4), .val (.int (3 : Int32)), .val (.int (Int32.ofNat mm)), .val (.ref b1), .val (.ref b6), .val (.ref b40), .unset] [(.ref b40)])) rfl rfl (hb hby at_184) _ kg) ?_
    rw [S41]
    show G (T40.setTop (mkF m 185 #[.val (.int x0), .val (.int x1), .val (.int x2), .val (.int x3), .val (.int x4), .val (.int (3 : Int32)), .val (.int (Int32.ofNat mm)), .val (.ref b1), .val (.ref b6), .val (.ref b40), .unset] [(.int (3 : Int32))]))
    refine go (fun tg kg => XS.iload X40.here hx rfl (hb hby at_185) rfl kg) ?_
    show G (T40.setTop (mkF m 187 #[.val (.int x0), .val (.int x1), .val (.int x2), .val (.int x3), .val (.int x4), .val (.int (3 : Int32)), .val (.int (Int32.ofNat mm)), .val (.ref b1), .val (.ref b6), .val (.ref b40), .unset] [(.int (3 : Int32)), (.int (3 : Int32))]))
    refine go (fun tg kg => XS.icmpYes X40.here hx rfl (pc0 := 187) (pc' := 192) rfl (hb hby at_187) rfl (teq (by decide)).1 (by decide) (by decide) kg) ?_
    show G (T40.setTop (mkF m 192 #[.val (.int x0), .val (.int x1), .val (.int x2), .val (.int x3), .val (.int x4), .val (.int (3 : Int32)), .val (.int (Int32.ofNat mm)), .val (.ref b1), .val (.ref b6), .val (.ref b40), .unset] []))
    refine go (fun tg kg => XS.iconst X40.here hx rfl (hb hby at_192) kg) ?_
    show G (T40.setTop (mkF m 193 #[.val (.int x0), .val (.int x1), .val (.int x2), .val (.int x3), .val (.int x4), .val (.int (3 : Int32)), .val (.int (Int32.ofNat mm)), .val (.ref b1), .val (.ref b6), .val (.ref b40), .unset] [(.int (1 : Int32))]))
    refine go (fun tg kg => XS.istore X40.here hx rfl (hb hby at_193) rfl (l' := #[.val (.int x0), .val (.int x1), .val (.int x2), .val (.int x3), .val (.int x4), .val (.int (3 : Int32)), .val (.int (Int32.ofNat mm)), .val (.ref b1), .val (.ref b6), .val (.ref b40), .val (.int (1 : Int32))]) rfl kg) ?_
    show G (T40.setTop (mkF m 195 #[.val (.int x0), .val (.int x1), .val (.int x2), .val (.int x3), .val (.int x4), .val (.int (3 : Int32)), .val (.int (Int32.ofNat mm)), .val (.ref b1), .val (.ref b6), .val (.ref b40), .val (.int (1 : Int32))] []))
    refine go (fun tg kg => XS.iload X40.here hx rfl (hb hby at_195) rfl kg) ?_
    show G (T40.setTop (mkF m 197 #[.val (.int x0), .val (.int x1), .val (.int x2), .val (.int x3), .val (.int x4), .val (.int (3 : Int32)), .val (.int (Int32.ofNat mm)), .val (.ref b1), .val (.ref b6), .val (.ref b40), .val (.int (1 : Int32))] [(.int (3 : Int32))]))
    refine go (fun tg kg => XS.ifNo X40.here hx rfl (hb hby at_197) rfl ((if0 _ _).trans (tlt (by decide)).2.2.2) kg) ?_
    show G (T40.setTop (mkF m 200 #[.val (.int x0), .val (.int x1), .val (.int x2), .val (.int x3), .val (.int x4), .val (.int (3 : Int32)), .val (.int (Int32.ofNat mm)), .val (.ref b1), .val (.ref b6), .val (.ref b40), .val (.int (1 : Int32))] []))
    refine go (fun tg kg => XS.iload X40.here hx rfl (hb hby at_200) rfl kg) ?_
    show G (T40.setTop (mkF m 202 #[.val (.int x0), .val (.int x1), .val (.int x2), .val (.int x3), .val (.int x4), .val (.int (3 : Int32)), .val (.int (Int32.ofNat mm)), .val (.ref b1), .val (.ref b6), .val (.ref b40), .val (.int (1 : Int32))] [(.int (1 : Int32))]))
    refine go (fun tg kg => XS.ifNo X40.here hx rfl (hb hby at_202) rfl ((if0 _ _).trans (feq (by decide)).1) kg) ?_
    show G (T40.setTop (mkF m 205 #[.val (.int x0), .val (.int x1), .val (.int x2), .val (.int x3), .val (.int x4), .val (.int (3 : Int32)), .val (.int (Int32.ofNat mm)), .val (.ref b1), .val (.ref b6), .val (.ref b40), .val (.int (1 : Int32))] []))
    refine go (fun tg kg => XS.aload X40.here hx rfl (hb hby at_205) rfl rfl kg) ?_
    show G (T40.setTop (mkF m 207 #[.val (.int x0), .val (.int x1), .val (.int x2), .val (.int x3), .val (.int x4), .val (.int (3 : Int32)), .val (.int (Int32.ofNat mm)), .val (.ref b1), .val (.ref b6), .val (.ref b40), .val (.int (1 : Int32))] [(.ref b40)]))
    refine go (fun tg kg => XS.aload X40.here hx rfl (hb hby at_207) rfl rfl kg) ?_
    show G (T40.setTop (mkF m 209 #[.val (.int x0), .val (.int x1), .val (.int x2), .val (.int x3), .val (.int x4), .val (.int (3 : Int32)), .val (.int (Int32.ofNat mm)), .val (.ref b1), .val (.ref b6), .val (.ref b40), .val (.int (1 : Int32))] [(.ref b1), (.ref b40)]))
    refine go (fun tg kg => XS.iload X40.here hx rfl (hb hby at_209) rfl kg) ?_
    show G (T40.setTop (mkF m 211 #[.val (.int x0), .val (.int x1), .val (.int x2), .val (.int x3), .val (.int x4), .val (.int (3 : Int32)), .val (.int (Int32.ofNat mm)), .val (.ref b1), .val (.ref b6), .val (.ref b40), .val (.int (1 : Int32))] [(.int (3 : Int32)), (.ref b1), (.ref b40)]))
    refine go (fun tg kg => XS.iconst X40.here hx rfl (hb hby at_211) kg) ?_
    show G (T40.setTop (mkF m 212 #[.val (.int x0), .val (.int x1), .val (.int x2), .val (.int x3), .val (.int x4), .val (.int (3 : Int32)), .val (.int (Int32.ofNat mm)), .val (.ref b1), .val (.ref b6), .val (.ref b40), .val (.int (1 : Int32))] [(.int (0 : Int32)), (.int (3 : Int32)), (.ref b1), (.ref b40)]))
    have Fa43 := ((Fa37.keep K39 (ninS (Nat.ne_of_lt (Nat.lt_of_lt_of_le V5.lt (Nat.le_of_eq g6.symm))) (ninS (Nat.ne_of_lt (Nat.lt_of_lt_of_le (V5.ext E6).lt (by omega))) (ninS (Nat.ne_of_lt (Nat.lt_of_lt_of_le (V5.ext E6).lt (by omega))) (ninS (Nat.ne_of_lt (Nat.lt_of_lt_of_le (V5.ext E6).lt (by omega))) (ninS (Nat.ne_of_lt (Nat.lt_of_lt_of_le (V5.ext E6).lt (by omega))) (ninS (Nat.ne_of_lt (Nat.lt_of_lt_of_le (V5.ext E6).lt (by omega))) (ninS (Nat.ne_of_lt (Nat.lt_of_lt_of_le (V5.ext E6).lt (by omega))) nin0)))))))).keep K40 nin0)
    obtain ⟨_, _, ⟨T42, L42, k42, n42⟩, -, X42, ⟨Lc42, hQ42, l42, y42, z42⟩, st42⟩ := Jvm.LawKit.callS X40 hx (y := (⟨"com/example/housemartin/housemartin/record/SpellColumnsByAgentPinLaw", "rank", "([III)I"⟩ : MethodName)) hown (mvT hZ (hw _ (List.mem_of_getElem? (i := 39) rfl))) (mvT hZ (hw _ (List.mem_of_getElem? (i := 40) rfl))) (mvT hZ (hw _ (List.mem_of_getElem? (i := 41) rfl))) (mvT hZ (hw _ (List.mem_of_getElem? (i := 42) rfl))) (by decide) (backOf (W := 1) (rm5 l Z a0 hw [] b1 (3 : Int32) (0 : Int32) (own_F4 (Int32.ofNat A0) (Int32.ofNat A1) (Int32.ofNat A2) (Int32.ofNat A3)) T40.heap n0 Z40 (own_of_arv Fa43) ⟨by decide, by decide⟩) hZ (hw _ (List.mem_of_getElem? (i := 42) rfl)) (hw _ (List.mem_of_getElem? (i := 41) rfl)) (by decide) (by decide)) (g := (mkF m 212 #[.val (.int x0), .val (.int x1), .val (.int x2), .val (.int x3), .val (.int x4), .val (.int (3 : Int32)), .val (.int (Int32.ofNat mm)), .val (.ref b1), .val (.ref b6), .val (.ref b40), .val (.int (1 : Int32))] [(.int (0 : Int32)), (.int (3 : Int32)), (.ref b1), (.ref b40)])) rfl (by rw [hml]; rfl) (argsL := [(.ref b1), (.int (3 : Int32)), (.int (0 : Int32))]) (rest := [(.ref b40)]) (lenOf pd___III_I rfl) rfl (by show 2 * 0 + _ ≤ _; exact Nat.le_of_eq rfl) (hb hby at_212) (fun _ _ => ⟨rfl, rfl, (by decide : 10 + 0 ≤ _), (by decide : 6169 + 0 ≤ _)⟩)
    dsimp only [Pt.U, Pt.locs, Pt.cells, Pt.slots] at X42 l42 y42 z42 st42 hQ42
    subst l42 y42 z42
    obtain ⟨rfl, Nq42, e42⟩ := hQ42
    have N42 := Fr.app N40 Nq42
    refine go st42 ?_
    show G (T42.setTop (mkF m 215 #[.val (.int x0), .val (.int x1), .val (.int x2), .val (.int x3), .val (.int x4), .val (.int (3 : Int32)), .val (.int (Int32.ofNat mm)), .val (.ref b1), .val (.ref b6), .val (.ref b40), .val (.int (1 : Int32))] [(.int (own_rnk (own_F4 (Int32.ofNat A0) (Int32.ofNat A1) (Int32.ofNat A2) (Int32.ofNat A3)) (3 : Int32) (0 : Int32))), (.ref b40)]))
    rw [own_rk30 hm bA0 bA1 bA2 bA3]
    show G (T42.setTop (mkF m 215 #[.val (.int x0), .val (.int x1), .val (.int x2), .val (.int x3), .val (.int x4), .val (.int (3 : Int32)), .val (.int (Int32.ofNat mm)), .val (.ref b1), .val (.ref b6), .val (.ref b40), .val (.int (1 : Int32))] [(.int (Int32.ofNat (own_pos (own_4 A0 A1 A2 A3) 3 0))), (.ref b40)]))
    obtain ⟨cl44, Ar44, S44, H44⟩ := id Gv40
    have ok44 : own_ok 3 (Int32.ofNat (own_pos (own_4 A0 A1 A2 A3) 3 0)) := own_ok_nat (own_pos_lt (own_4 A0 A1 A2 A3) (by decide)) (by have := own_pos_lt (own_4 A0 A1 A2 A3) (n := 3) (s := 0) (by decide); omega)
    have hin44 := own_in S44 ok44
    have kk44 := ok44.2
    rw [own_natN (by have := own_pos_lt (own_4 A0 A1 A2 A3) (n := 3) (s := 0) (by decide); omega)] at kk44
    have hat44 : cl44.slots[((Int32.ofNat (own_pos (own_4 A0 A1 A2 A3) 3 0))).toNatClampNeg]? = some (.int ((own_ord (own_4 A0 A1 A2 A3) 3 3) (own_pos (own_4 A0 A1 A2 A3) 3 0))) := by rw [own_natN (by have := own_pos_lt (own_4 A0 A1 A2 A3) (n := 3) (s := 0) (by decide); omega)]; exact H44 _ kk44
    refine go (fun tg kg => X42.iaload hx (j := (Int32.ofNat (own_pos (own_4 A0 A1 A2 A3) 3 0))) (v := (.int ((own_ord (own_4 A0 A1 A2 A3) 3 3) (own_pos (own_4 A0 A1 A2 A3) 3 0)))) (by rw [e42]; exact Ar44.1) (State.isArrayOf_alike hZ.alike Ar44.2.1) Ar44.2.2 hin44 hat44 (g := (mkF m 215 #[.val (.int x0), .val (.int x1), .val (.int x2), .val (.int x3), .val (.int x4), .val (.int (3 : Int32)), .val (.int (Int32.ofNat mm)), .val (.ref b1), .val (.ref b6), .val (.ref b40), .val (.int (1 : Int32))] [(.int (Int32.ofNat (own_pos (own_4 A0 A1 A2 A3) 3 0))), (.ref b40)])) rfl rfl (hb hby at_215) _ kg) ?_
    show G (T42.setTop (mkF m 216 #[.val (.int x0), .val (.int x1), .val (.int x2), .val (.int x3), .val (.int x4), .val (.int (3 : Int32)), .val (.int (Int32.ofNat mm)), .val (.ref b1), .val (.ref b6), .val (.ref b40), .val (.int (1 : Int32))] [(.int ((own_ord (own_4 A0 A1 A2 A3) 3 3) (own_pos (own_4 A0 A1 A2 A3) 3 0)))]))
    rw [own_ord_pos (own_4 A0 A1 A2 A3) 3 3 (Nat.le_refl _) 0 (by decide)]
    show G (T42.setTop (mkF m 216 #[.val (.int x0), .val (.int x1), .val (.int x2), .val (.int x3), .val (.int x4), .val (.int (3 : Int32)), .val (.int (Int32.ofNat mm)), .val (.ref b1), .val (.ref b6), .val (.ref b40), .val (.int (1 : Int32))] [(.int (0 : Int32))]))
    refine go (fun tg kg => XS.ifNo X42.here hx rfl (hb hby at_216) rfl ((if0 _ _).trans (teq (by decide)).2) kg) ?_
    show G (T42.setTop (mkF m 219 #[.val (.int x0), .val (.int x1), .val (.int x2), .val (.int x3), .val (.int x4), .val (.int (3 : Int32)), .val (.int (Int32.ofNat mm)), .val (.ref b1), .val (.ref b6), .val (.ref b40), .val (.int (1 : Int32))] []))
    refine go (fun tg kg => XS.iconst X42.here hx rfl (hb hby at_219) kg) ?_
    show G (T42.setTop (mkF m 220 #[.val (.int x0), .val (.int x1), .val (.int x2), .val (.int x3), .val (.int x4), .val (.int (3 : Int32)), .val (.int (Int32.ofNat mm)), .val (.ref b1), .val (.ref b6), .val (.ref b40), .val (.int (1 : Int32))] [(.int (1 : Int32))]))
    refine go (fun tg kg => XS.goto X42.here hx rfl (pc0 := 220) (pc' := 224) rfl (hb hby at_220) (by decide) (by decide) kg) ?_
    show G (T42.setTop (mkF m 224 #[.val (.int x0), .val (.int x1), .val (.int x2), .val (.int x3), .val (.int x4), .val (.int (3 : Int32)), .val (.int (Int32.ofNat mm)), .val (.ref b1), .val (.ref b6), .val (.ref b40), .val (.int (1 : Int32))] [(.int (1 : Int32))]))
    refine go (fun tg kg => XS.istore X42.here hx rfl (hb hby at_224) rfl (l' := #[.val (.int x0), .val (.int x1), .val (.int x2), .val (.int x3), .val (.int x4), .val (.int (3 : Int32)), .val (.int (Int32.ofNat mm)), .val (.ref b1), .val (.ref b6), .val (.ref b40), .val (.int (1 : Int32))]) rfl kg) ?_
    show G (T42.setTop (mkF m 226 #[.val (.int x0), .val (.int x1), .val (.int x2), .val (.int x3), .val (.int x4), .val (.int (3 : Int32)), .val (.int (Int32.ofNat mm)), .val (.ref b1), .val (.ref b6), .val (.ref b40), .val (.int (1 : Int32))] []))
    refine go (fun tg kg => XS.iload X42.here hx rfl (hb hby at_226) rfl kg) ?_
    show G (T42.setTop (mkF m 228 #[.val (.int x0), .val (.int x1), .val (.int x2), .val (.int x3), .val (.int x4), .val (.int (3 : Int32)), .val (.int (Int32.ofNat mm)), .val (.ref b1), .val (.ref b6), .val (.ref b40), .val (.int (1 : Int32))] [(.int (3 : Int32))]))
    refine go (fun tg kg => XS.iconst X42.here hx rfl (hb hby at_228) kg) ?_
    show G (T42.setTop (mkF m 229 #[.val (.int x0), .val (.int x1), .val (.int x2), .val (.int x3), .val (.int x4), .val (.int (3 : Int32)), .val (.int (Int32.ofNat mm)), .val (.ref b1), .val (.ref b6), .val (.ref b40), .val (.int (1 : Int32))] [(.int (1 : Int32)), (.int (3 : Int32))]))
    refine go (fun tg kg => XS.icmpNo X42.here hx rfl (hb hby at_229) rfl (tlt (by decide)).2.2.2 kg) ?_
    show G (T42.setTop (mkF m 232 #[.val (.int x0), .val (.int x1), .val (.int x2), .val (.int x3), .val (.int x4), .val (.int (3 : Int32)), .val (.int (Int32.ofNat mm)), .val (.ref b1), .val (.ref b6), .val (.ref b40), .val (.int (1 : Int32))] []))
    refine go (fun tg kg => XS.iload X42.here hx rfl (hb hby at_232) rfl kg) ?_
    show G (T42.setTop (mkF m 234 #[.val (.int x0), .val (.int x1), .val (.int x2), .val (.int x3), .val (.int x4), .val (.int (3 : Int32)), .val (.int (Int32.ofNat mm)), .val (.ref b1), .val (.ref b6), .val (.ref b40), .val (.int (1 : Int32))] [(.int (1 : Int32))]))
    refine go (fun tg kg => XS.ifNo X42.here hx rfl (hb hby at_234) rfl ((if0 _ _).trans (feq (by decide)).1) kg) ?_
    show G (T42.setTop (mkF m 237 #[.val (.int x0), .val (.int x1), .val (.int x2), .val (.int x3), .val (.int x4), .val (.int (3 : Int32)), .val (.int (Int32.ofNat mm)), .val (.ref b1), .val (.ref b6), .val (.ref b40), .val (.int (1 : Int32))] []))
    refine go (fun tg kg => XS.aload X42.here hx rfl (hb hby at_237) rfl rfl kg) ?_
    show G (T42.setTop (mkF m 239 #[.val (.int x0), .val (.int x1), .val (.int x2), .val (.int x3), .val (.int x4), .val (.int (3 : Int32)), .val (.int (Int32.ofNat mm)), .val (.ref b1), .val (.ref b6), .val (.ref b40), .val (.int (1 : Int32))] [(.ref b40)]))
    refine go (fun tg kg => XS.aload X42.here hx rfl (hb hby at_239) rfl rfl kg) ?_
    show G (T42.setTop (mkF m 241 #[.val (.int x0), .val (.int x1), .val (.int x2), .val (.int x3), .val (.int x4), .val (.int (3 : Int32)), .val (.int (Int32.ofNat mm)), .val (.ref b1), .val (.ref b6), .val (.ref b40), .val (.int (1 : Int32))] [(.ref b1), (.ref b40)]))
    refine go (fun tg kg => XS.iload X42.here hx rfl (hb hby at_241) rfl kg) ?_
    show G (T42.setTop (mkF m 243 #[.val (.int x0), .val (.int x1), .val (.int x2), .val (.int x3), .val (.int x4), .val (.int (3 : Int32)), .val (.int (Int32.ofNat mm)), .val (.ref b1), .val (.ref b6), .val (.ref b40), .val (.int (1 : Int32))] [(.int (3 : Int32)), (.ref b1), (.ref b40)]))
    refine go (fun tg kg => XS.iconst X42.here hx rfl (hb hby at_243) kg) ?_
    show G (T42.setTop (mkF m 244 #[.val (.int x0), .val (.int x1), .val (.int x2), .val (.int x3), .val (.int x4), .val (.int (3 : Int32)), .val (.int (Int32.ofNat mm)), .val (.ref b1), .val (.ref b6), .val (.ref b40), .val (.int (1 : Int32))] [(.int (1 : Int32)), (.int (3 : Int32)), (.ref b1), (.ref b40)]))
    obtain ⟨_, _, ⟨T45, L45, k45, n45⟩, -, X45, ⟨Lc45, hQ45, l45, y45, z45⟩, st45⟩ := Jvm.LawKit.callS X42 hx (y := (⟨"com/example/housemartin/housemartin/record/SpellColumnsByAgentPinLaw", "rank", "([III)I"⟩ : MethodName)) hown (mvT hZ (hw _ (List.mem_of_getElem? (i := 39) rfl))) (mvT hZ (hw _ (List.mem_of_getElem? (i := 40) rfl))) (mvT hZ (hw _ (List.mem_of_getElem? (i := 41) rfl))) (mvT hZ (hw _ (List.mem_of_getElem? (i := 42) rfl))) (by decide) (backOf (W := 1) (rm5 l Z a0 hw [] b1 (3 : Int32) (1 : Int32) (own_F4 (Int32.ofNat A0) (Int32.ofNat A1) (Int32.ofNat A2) (Int32.ofNat A3)) T40.heap n0 Z40 (own_of_arv Fa43) ⟨by decide, by decide⟩) hZ (hw _ (List.mem_of_getElem? (i := 42) rfl)) (hw _ (List.mem_of_getElem? (i := 41) rfl)) (by decide) (by decide)) (g := (mkF m 244 #[.val (.int x0), .val (.int x1), .val (.int x2), .val (.int x3), .val (.int x4), .val (.int (3 : Int32)), .val (.int (Int32.ofNat mm)), .val (.ref b1), .val (.ref b6), .val (.ref b40), .val (.int (1 : Int32))] [(.int (1 : Int32)), (.int (3 : Int32)), (.ref b1), (.ref b40)])) rfl (by rw [hml]; rfl) (argsL := [(.ref b1), (.int (3 : Int32)), (.int (1 : Int32))]) (rest := [(.ref b40)]) (lenOf pd___III_I rfl) rfl (by show 2 * 0 + _ ≤ _; exact Nat.le_of_eq rfl) (hb hby at_244) (fun _ _ => ⟨rfl, e42, (by decide : 10 + 0 ≤ _), (by decide : 6169 + 0 ≤ _)⟩)
    dsimp only [Pt.U, Pt.locs, Pt.cells, Pt.slots] at X45 l45 y45 z45 st45 hQ45
    subst l45 y45 z45
    obtain ⟨rfl, Nq45, e45⟩ := hQ45
    have N45 := Fr.app N42 Nq45
    refine go st45 ?_
    show G (T45.setTop (mkF m 247 #[.val (.int x0), .val (.int x1), .val (.int x2), .val (.int x3), .val (.int x4), .val (.int (3 : Int32)), .val (.int (Int32.ofNat mm)), .val (.ref b1), .val (.ref b6), .val (.ref b40), .val (.int (1 : Int32))] [(.int (own_rnk (own_F4 (Int32.ofNat A0) (Int32.ofNat A1) (Int32.ofNat A2) (Int32.ofNat A3)) (3 : Int32) (1 : Int32))), (.ref b40)]))
    rw [own_rk31 hm bA0 bA1 bA2 bA3]
    show G (T45.setTop (mkF m 247 #[.val (.int x0), .val (.int x1), .val (.int x2), .val (.int x3), .val (.int x4), .val (.int (3 : Int32)), .val (.int (Int32.ofNat mm)), .val (.ref b1), .val (.ref b6), .val (.ref b40), .val (.int (1 : Int32))] [(.int (Int32.ofNat (own_pos (own_4 A0 A1 A2 A3) 3 1))), (.ref b40)]))
    obtain ⟨cl46, Ar46, S46, H46⟩ := id Gv40
    have ok46 : own_ok 3 (Int32.ofNat (own_pos (own_4 A0 A1 A2 A3) 3 1)) := own_ok_nat (own_pos_lt (own_4 A0 A1 A2 A3) (by decide)) (by have := own_pos_lt (own_4 A0 A1 A2 A3) (n := 3) (s := 1) (by decide); omega)
    have hin46 := own_in S46 ok46
    have kk46 := ok46.2
    rw [own_natN (by have := own_pos_lt (own_4 A0 A1 A2 A3) (n := 3) (s := 1) (by decide); omega)] at kk46
    have hat46 : cl46.slots[((Int32.ofNat (own_pos (own_4 A0 A1 A2 A3) 3 1))).toNatClampNeg]? = some (.int ((own_ord (own_4 A0 A1 A2 A3) 3 3) (own_pos (own_4 A0 A1 A2 A3) 3 1))) := by rw [own_natN (by have := own_pos_lt (own_4 A0 A1 A2 A3) (n := 3) (s := 1) (by decide); omega)]; exact H46 _ kk46
    refine go (fun tg kg => X45.iaload hx (j := (Int32.ofNat (own_pos (own_4 A0 A1 A2 A3) 3 1))) (v := (.int ((own_ord (own_4 A0 A1 A2 A3) 3 3) (own_pos (own_4 A0 A1 A2 A3) 3 1)))) (by rw [e45]; exact Ar46.1) (State.isArrayOf_alike hZ.alike Ar46.2.1) Ar46.2.2 hin46 hat46 (g := (mkF m 247 #[.val (.int x0), .val (.int x1), .val (.int x2), .val (.int x3), .val (.int x4), .val (.int (3 : Int32)), .val (.int (Int32.ofNat mm)), .val (.ref b1), .val (.ref b6), .val (.ref b40), .val (.int (1 : Int32))] [(.int (Int32.ofNat (own_pos (own_4 A0 A1 A2 A3) 3 1))), (.ref b40)])) rfl rfl (hb hby at_247) _ kg) ?_
    show G (T45.setTop (mkF m 248 #[.val (.int x0), .val (.int x1), .val (.int x2), .val (.int x3), .val (.int x4), .val (.int (3 : Int32)), .val (.int (Int32.ofNat mm)), .val (.ref b1), .val (.ref b6), .val (.ref b40), .val (.int (1 : Int32))] [(.int ((own_ord (own_4 A0 A1 A2 A3) 3 3) (own_pos (own_4 A0 A1 A2 A3) 3 1)))]))
    rw [own_ord_pos (own_4 A0 A1 A2 A3) 3 3 (Nat.le_refl _) 1 (by decide)]
    show G (T45.setTop (mkF m 248 #[.val (.int x0), .val (.int x1), .val (.int x2), .val (.int x3), .val (.int x4), .val (.int (3 : Int32)), .val (.int (Int32.ofNat mm)), .val (.ref b1), .val (.ref b6), .val (.ref b40), .val (.int (1 : Int32))] [(.int (1 : Int32))]))
    refine go (fun tg kg => XS.iconst X45.here hx rfl (hb hby at_248) kg) ?_
    show G (T45.setTop (mkF m 249 #[.val (.int x0), .val (.int x1), .val (.int x2), .val (.int x3), .val (.int x4), .val (.int (3 : Int32)), .val (.int (Int32.ofNat mm)), .val (.ref b1), .val (.ref b6), .val (.ref b40), .val (.int (1 : Int32))] [(.int (1 : Int32)), (.int (1 : Int32))]))
    refine go (fun tg kg => XS.icmpNo X45.here hx rfl (hb hby at_249) rfl (teq (by decide)).2 kg) ?_
    show G (T45.setTop (mkF m 252 #[.val (.int x0), .val (.int x1), .val (.int x2), .val (.int x3), .val (.int x4), .val (.int (3 : Int32)), .val (.int (Int32.ofNat mm)), .val (.ref b1), .val (.ref b6), .val (.ref b40), .val (.int (1 : Int32))] []))
    refine go (fun tg kg => XS.iconst X45.here hx rfl (hb hby at_252) kg) ?_
    show G (T45.setTop (mkF m 253 #[.val (.int x0), .val (.int x1), .val (.int x2), .val (.int x3), .val (.int x4), .val (.int (3 : Int32)), .val (.int (Int32.ofNat mm)), .val (.ref b1), .val (.ref b6), .val (.ref b40), .val (.int (1 : Int32))] [(.int (1 : Int32))]))
    refine go (fun tg kg => XS.goto X45.here hx rfl (pc0 := 253) (pc' := 257) rfl (hb hby at_253) (by decide) (by decide) kg) ?_
    show G (T45.setTop (mkF m 257 #[.val (.int x0), .val (.int x1), .val (.int x2), .val (.int x3), .val (.int x4), .val (.int (3 : Int32)), .val (.int (Int32.ofNat mm)), .val (.ref b1), .val (.ref b6), .val (.ref b40), .val (.int (1 : Int32))] [(.int (1 : Int32))]))
    refine go (fun tg kg => XS.istore X45.here hx rfl (hb hby at_257) rfl (l' := #[.val (.int x0), .val (.int x1), .val (.int x2), .val (.int x3), .val (.int x4), .val (.int (3 : Int32)), .val (.int (Int32.ofNat mm)), .val (.ref b1), .val (.ref b6), .val (.ref b40), .val (.int (1 : Int32))]) rfl kg) ?_
    show G (T45.setTop (mkF m 259 #[.val (.int x0), .val (.int x1), .val (.int x2), .val (.int x3), .val (.int x4), .val (.int (3 : Int32)), .val (.int (Int32.ofNat mm)), .val (.ref b1), .val (.ref b6), .val (.ref b40), .val (.int (1 : Int32))] []))
    refine go (fun tg kg => XS.iload X45.here hx rfl (hb hby at_259) rfl kg) ?_
    show G (T45.setTop (mkF m 261 #[.val (.int x0), .val (.int x1), .val (.int x2), .val (.int x3), .val (.int x4), .val (.int (3 : Int32)), .val (.int (Int32.ofNat mm)), .val (.ref b1), .val (.ref b6), .val (.ref b40), .val (.int (1 : Int32))] [(.int (3 : Int32))]))
    refine go (fun tg kg => XS.iconst X45.here hx rfl (hb hby at_261) kg) ?_
    show G (T45.setTop (mkF m 262 #[.val (.int x0), .val (.int x1), .val (.int x2), .val (.int x3), .val (.int x4), .val (.int (3 : Int32)), .val (.int (Int32.ofNat mm)), .val (.ref b1), .val (.ref b6), .val (.ref b40), .val (.int (1 : Int32))] [(.int (2 : Int32)), (.int (3 : Int32))]))
    refine go (fun tg kg => XS.icmpNo X45.here hx rfl (hb hby at_262) rfl (tlt (by decide)).2.2.2 kg) ?_
    show G (T45.setTop (mkF m 265 #[.val (.int x0), .val (.int x1), .val (.int x2), .val (.int x3), .val (.int x4), .val (.int (3 : Int32)), .val (.int (Int32.ofNat mm)), .val (.ref b1), .val (.ref b6), .val (.ref b40), .val (.int (1 : Int32))] []))
    refine go (fun tg kg => XS.iload X45.here hx rfl (hb hby at_265) rfl kg) ?_
    show G (T45.setTop (mkF m 267 #[.val (.int x0), .val (.int x1), .val (.int x2), .val (.int x3), .val (.int x4), .val (.int (3 : Int32)), .val (.int (Int32.ofNat mm)), .val (.ref b1), .val (.ref b6), .val (.ref b40), .val (.int (1 : Int32))] [(.int (1 : Int32))]))
    refine go (fun tg kg => XS.ifNo X45.here hx rfl (hb hby at_267) rfl ((if0 _ _).trans (feq (by decide)).1) kg) ?_
    show G (T45.setTop (mkF m 270 #[.val (.int x0), .val (.int x1), .val (.int x2), .val (.int x3), .val (.int x4), .val (.int (3 : Int32)), .val (.int (Int32.ofNat mm)), .val (.ref b1), .val (.ref b6), .val (.ref b40), .val (.int (1 : Int32))] []))
    refine go (fun tg kg => XS.aload X45.here hx rfl (hb hby at_270) rfl rfl kg) ?_
    show G (T45.setTop (mkF m 272 #[.val (.int x0), .val (.int x1), .val (.int x2), .val (.int x3), .val (.int x4), .val (.int (3 : Int32)), .val (.int (Int32.ofNat mm)), .val (.ref b1), .val (.ref b6), .val (.ref b40), .val (.int (1 : Int32))] [(.ref b40)]))
    refine go (fun tg kg => XS.aload X45.here hx rfl (hb hby at_272) rfl rfl kg) ?_
    show G (T45.setTop (mkF m 274 #[.val (.int x0), .val (.int x1), .val (.int x2), .val (.int x3), .val (.int x4), .val (.int (3 : Int32)), .val (.int (Int32.ofNat mm)), .val (.ref b1), .val (.ref b6), .val (.ref b40), .val (.int (1 : Int32))] [(.ref b1), (.ref b40)]))
    refine go (fun tg kg => XS.iload X45.here hx rfl (hb hby at_274) rfl kg) ?_
    show G (T45.setTop (mkF m 276 #[.val (.int x0), .val (.int x1), .val (.int x2), .val (.int x3), .val (.int x4), .val (.int (3 : Int32)), .val (.int (Int32.ofNat mm)), .val (.ref b1), .val (.ref b6), .val (.ref b40), .val (.int (1 : Int32))] [(.int (3 : Int32)), (.ref b1), (.ref b40)]))
    refine go (fun tg kg => XS.iconst X45.here hx rfl (hb hby at_276) kg) ?_
    show G (T45.setTop (mkF m 277 #[.val (.int x0), .val (.int x1), .val (.int x2), .val (.int x3), .val (.int x4), .val (.int (3 : Int32)), .val (.int (Int32.ofNat mm)), .val (.ref b1), .val (.ref b6), .val (.ref b40), .val (.int (1 : Int32))] [(.int (2 : Int32)), (.int (3 : Int32)), (.ref b1), (.ref b40)]))
    obtain ⟨_, _, ⟨T47, L47, k47, n47⟩, -, X47, ⟨Lc47, hQ47, l47, y47, z47⟩, st47⟩ := Jvm.LawKit.callS X45 hx (y := (⟨"com/example/housemartin/housemartin/record/SpellColumnsByAgentPinLaw", "rank", "([III)I"⟩ : MethodName)) hown (mvT hZ (hw _ (List.mem_of_getElem? (i := 39) rfl))) (mvT hZ (hw _ (List.mem_of_getElem? (i := 40) rfl))) (mvT hZ (hw _ (List.mem_of_getElem? (i := 41) rfl))) (mvT hZ (hw _ (List.mem_of_getElem? (i := 42) rfl))) (by decide) (backOf (W := 1) (rm5 l Z a0 hw [] b1 (3 : Int32) (2 : Int32) (own_F4 (Int32.ofNat A0) (Int32.ofNat A1) (Int32.ofNat A2) (Int32.ofNat A3)) T40.heap n0 Z40 (own_of_arv Fa43) ⟨by decide, by decide⟩) hZ (hw _ (List.mem_of_getElem? (i := 42) rfl)) (hw _ (List.mem_of_getElem? (i := 41) rfl)) (by decide) (by decide)) (g := (mkF m 277 #[.val (.int x0), .val (.int x1), .val (.int x2), .val (.int x3), .val (.int x4), .val (.int (3 : Int32)), .val (.int (Int32.ofNat mm)), .val (.ref b1), .val (.ref b6), .val (.ref b40), .val (.int (1 : Int32))] [(.int (2 : Int32)), (.int (3 : Int32)), (.ref b1), (.ref b40)])) rfl (by rw [hml]; rfl) (argsL := [(.ref b1), (.int (3 : Int32)), (.int (2 : Int32))]) (rest := [(.ref b40)]) (lenOf pd___III_I rfl) rfl (by show 2 * 0 + _ ≤ _; exact Nat.le_of_eq rfl) (hb hby at_277) (fun _ _ => ⟨rfl, e45, (by decide : 10 + 0 ≤ _), (by decide : 6169 + 0 ≤ _)⟩)
    dsimp only [Pt.U, Pt.locs, Pt.cells, Pt.slots] at X47 l47 y47 z47 st47 hQ47
    subst l47 y47 z47
    obtain ⟨rfl, Nq47, e47⟩ := hQ47
    have N47 := Fr.app N45 Nq47
    refine go st47 ?_
    show G (T47.setTop (mkF m 280 #[.val (.int x0), .val (.int x1), .val (.int x2), .val (.int x3), .val (.int x4), .val (.int (3 : Int32)), .val (.int (Int32.ofNat mm)), .val (.ref b1), .val (.ref b6), .val (.ref b40), .val (.int (1 : Int32))] [(.int (own_rnk (own_F4 (Int32.ofNat A0) (Int32.ofNat A1) (Int32.ofNat A2) (Int32.ofNat A3)) (3 : Int32) (2 : Int32))), (.ref b40)]))
    rw [own_rk32 hm bA0 bA1 bA2 bA3]
    show G (T47.setTop (mkF m 280 #[.val (.int x0), .val (.int x1), .val (.int x2), .val (.int x3), .val (.int x4), .val (.int (3 : Int32)), .val (.int (Int32.ofNat mm)), .val (.ref b1), .val (.ref b6), .val (.ref b40), .val (.int (1 : Int32))] [(.int (Int32.ofNat (own_pos (own_4 A0 A1 A2 A3) 3 2))), (.ref b40)]))
    obtain ⟨cl48, Ar48, S48, H48⟩ := id Gv40
    have ok48 : own_ok 3 (Int32.ofNat (own_pos (own_4 A0 A1 A2 A3) 3 2)) := own_ok_nat (own_pos_lt (own_4 A0 A1 A2 A3) (by decide)) (by have := own_pos_lt (own_4 A0 A1 A2 A3) (n := 3) (s := 2) (by decide); omega)
    have hin48 := own_in S48 ok48
    have kk48 := ok48.2
    rw [own_natN (by have := own_pos_lt (own_4 A0 A1 A2 A3) (n := 3) (s := 2) (by decide); omega)] at kk48
    have hat48 : cl48.slots[((Int32.ofNat (own_pos (own_4 A0 A1 A2 A3) 3 2))).toNatClampNeg]? = some (.int ((own_ord (own_4 A0 A1 A2 A3) 3 3) (own_pos (own_4 A0 A1 A2 A3) 3 2))) := by rw [own_natN (by have := own_pos_lt (own_4 A0 A1 A2 A3) (n := 3) (s := 2) (by decide); omega)]; exact H48 _ kk48
    refine go (fun tg kg => X47.iaload hx (j := (Int32.ofNat (own_pos (own_4 A0 A1 A2 A3) 3 2))) (v := (.int ((own_ord (own_4 A0 A1 A2 A3) 3 3) (own_pos (own_4 A0 A1 A2 A3) 3 2)))) (by rw [e47]; exact Ar48.1) (State.isArrayOf_alike hZ.alike Ar48.2.1) Ar48.2.2 hin48 hat48 (g := (mkF m 280 #[.val (.int x0), .val (.int x1), .val (.int x2), .val (.int x3), .val (.int x4), .val (.int (3 : Int32)), .val (.int (Int32.ofNat mm)), .val (.ref b1), .val (.ref b6), .val (.ref b40), .val (.int (1 : Int32))] [(.int (Int32.ofNat (own_pos (own_4 A0 A1 A2 A3) 3 2))), (.ref b40)])) rfl rfl (hb hby at_280) _ kg) ?_
    show G (T47.setTop (mkF m 281 #[.val (.int x0), .val (.int x1), .val (.int x2), .val (.int x3), .val (.int x4), .val (.int (3 : Int32)), .val (.int (Int32.ofNat mm)), .val (.ref b1), .val (.ref b6), .val (.ref b40), .val (.int (1 : Int32))] [(.int ((own_ord (own_4 A0 A1 A2 A3) 3 3) (own_pos (own_4 A0 A1 A2 A3) 3 2)))]))
    rw [own_ord_pos (own_4 A0 A1 A2 A3) 3 3 (Nat.le_refl _) 2 (by decide)]
    show G (T47.setTop (mkF m 281 #[.val (.int x0), .val (.int x1), .val (.int x2), .val (.int x3), .val (.int x4), .val (.int (3 : Int32)), .val (.int (Int32.ofNat mm)), .val (.ref b1), .val (.ref b6), .val (.ref b40), .val (.int (1 : Int32))] [(.int (2 : Int32))]))
    refine go (fun tg kg => XS.iconst X47.here hx rfl (hb hby at_281) kg) ?_
    show G (T47.setTop (mkF m 282 #[.val (.int x0), .val (.int x1), .val (.int x2), .val (.int x3), .val (.int x4), .val (.int (3 : Int32)), .val (.int (Int32.ofNat mm)), .val (.ref b1), .val (.ref b6), .val (.ref b40), .val (.int (1 : Int32))] [(.int (2 : Int32)), (.int (2 : Int32))]))
    refine go (fun tg kg => XS.icmpNo X47.here hx rfl (hb hby at_282) rfl (teq (by decide)).2 kg) ?_
    show G (T47.setTop (mkF m 285 #[.val (.int x0), .val (.int x1), .val (.int x2), .val (.int x3), .val (.int x4), .val (.int (3 : Int32)), .val (.int (Int32.ofNat mm)), .val (.ref b1), .val (.ref b6), .val (.ref b40), .val (.int (1 : Int32))] []))
    refine go (fun tg kg => XS.iconst X47.here hx rfl (hb hby at_285) kg) ?_
    show G (T47.setTop (mkF m 286 #[.val (.int x0), .val (.int x1), .val (.int x2), .val (.int x3), .val (.int x4), .val (.int (3 : Int32)), .val (.int (Int32.ofNat mm)), .val (.ref b1), .val (.ref b6), .val (.ref b40), .val (.int (1 : Int32))] [(.int (1 : Int32))]))
    refine go (fun tg kg => XS.goto X47.here hx rfl (pc0 := 286) (pc' := 290) rfl (hb hby at_286) (by decide) (by decide) kg) ?_
    show G (T47.setTop (mkF m 290 #[.val (.int x0), .val (.int x1), .val (.int x2), .val (.int x3), .val (.int x4), .val (.int (3 : Int32)), .val (.int (Int32.ofNat mm)), .val (.ref b1), .val (.ref b6), .val (.ref b40), .val (.int (1 : Int32))] [(.int (1 : Int32))]))
    refine go (fun tg kg => XS.istore X47.here hx rfl (hb hby at_290) rfl (l' := #[.val (.int x0), .val (.int x1), .val (.int x2), .val (.int x3), .val (.int x4), .val (.int (3 : Int32)), .val (.int (Int32.ofNat mm)), .val (.ref b1), .val (.ref b6), .val (.ref b40), .val (.int (1 : Int32))]) rfl kg) ?_
    show G (T47.setTop (mkF m 292 #[.val (.int x0), .val (.int x1), .val (.int x2), .val (.int x3), .val (.int x4), .val (.int (3 : Int32)), .val (.int (Int32.ofNat mm)), .val (.ref b1), .val (.ref b6), .val (.ref b40), .val (.int (1 : Int32))] []))
    refine go (fun tg kg => XS.iload X47.here hx rfl (hb hby at_292) rfl kg) ?_
    show G (T47.setTop (mkF m 294 #[.val (.int x0), .val (.int x1), .val (.int x2), .val (.int x3), .val (.int x4), .val (.int (3 : Int32)), .val (.int (Int32.ofNat mm)), .val (.ref b1), .val (.ref b6), .val (.ref b40), .val (.int (1 : Int32))] [(.int (3 : Int32))]))
    refine go (fun tg kg => XS.iconst X47.here hx rfl (hb hby at_294) kg) ?_
    show G (T47.setTop (mkF m 295 #[.val (.int x0), .val (.int x1), .val (.int x2), .val (.int x3), .val (.int x4), .val (.int (3 : Int32)), .val (.int (Int32.ofNat mm)), .val (.ref b1), .val (.ref b6), .val (.ref b40), .val (.int (1 : Int32))] [(.int (3 : Int32)), (.int (3 : Int32))]))
    refine go (fun tg kg => XS.icmpYes X47.here hx rfl (pc0 := 295) (pc' := 325) rfl (hb hby at_295) rfl (flt (by decide)).2.2.2 (by decide) (by decide) kg) ?_
    show G (T47.setTop (mkF m 325 #[.val (.int x0), .val (.int x1), .val (.int x2), .val (.int x3), .val (.int x4), .val (.int (3 : Int32)), .val (.int (Int32.ofNat mm)), .val (.ref b1), .val (.ref b6), .val (.ref b40), .val (.int (1 : Int32))] []))
    refine go (fun tg kg => XS.iload X47.here hx rfl (hb hby at_325) rfl kg) ?_
    show G (T47.setTop (mkF m 327 #[.val (.int x0), .val (.int x1), .val (.int x2), .val (.int x3), .val (.int x4), .val (.int (3 : Int32)), .val (.int (Int32.ofNat mm)), .val (.ref b1), .val (.ref b6), .val (.ref b40), .val (.int (1 : Int32))] [(.int (1 : Int32))]))
    refine fin (some (.int (1 : Int32))) X47 (fun h => absurd h (by decide)) (fun fs hr => retN X47 hx (t := .boolean) hret (by simp) (hb hby at_327) hr) (by decide) (by decide) ?_
    rw [e47]
    exact ⟨rfl, N47⟩
  · skip
    show G (T7.setTop (mkF m 85 #[.val (.int x0), .val (.int x1), .val (.int x2), .val (.int x3), .val (.int x4), .val (.int (4 : Int32)), .val (.int (Int32.ofNat mm)), .val (.ref b1), .val (.ref b6), .unset, .unset] []))
    refine go (fun tg kg => XS.iload X7.here hx rfl (hb hby at_85) rfl kg) ?_
    show G (T7.setTop (mkF m 87 #[.val (.int x0), .val (.int x1), .val (.int x2), .val (.int x3), .val (.int x4), .val (.int (4 : Int32)), .val (.int (Int32.ofNat mm)), .val (.ref b1), .val (.ref b6), .unset, .unset] [(.int (4 : Int32))]))
    refine go (fun tg kg => XS.ifNo X7.here hx rfl (hb hby at_87) rfl ((if0 _ _).trans (tlt (by decide)).2.2.2) kg) ?_
    show G (T7.setTop (mkF m 90 #[.val (.int x0), .val (.int x1), .val (.int x2), .val (.int x3), .val (.int x4), .val (.int (4 : Int32)), .val (.int (Int32.ofNat mm)), .val (.ref b1), .val (.ref b6), .unset, .unset] []))
    refine go (fun tg kg => XS.aload X7.here hx rfl (hb hby at_90) rfl rfl kg) ?_
    show G (T7.setTop (mkF m 92 #[.val (.int x0), .val (.int x1), .val (.int x2), .val (.int x3), .val (.int x4), .val (.int (4 : Int32)), .val (.int (Int32.ofNat mm)), .val (.ref b1), .val (.ref b6), .unset, .unset] [(.ref b6)]))
    refine go (fun tg kg => XS.aload X7.here hx rfl (hb hby at_92) rfl rfl kg) ?_
    show G (T7.setTop (mkF m 94 #[.val (.int x0), .val (.int x1), .val (.int x2), .val (.int x3), .val (.int x4), .val (.int (4 : Int32)), .val (.int (Int32.ofNat mm)), .val (.ref b1), .val (.ref b6), .unset, .unset] [(.ref b1), (.ref b6)]))
    refine go (fun tg kg => XS.iconst X7.here hx rfl (hb hby at_94) kg) ?_
    show G (T7.setTop (mkF m 95 #[.val (.int x0), .val (.int x1), .val (.int x2), .val (.int x3), .val (.int x4), .val (.int (4 : Int32)), .val (.int (Int32.ofNat mm)), .val (.ref b1), .val (.ref b6), .unset, .unset] [(.int (0 : Int32)), (.ref b1), (.ref b6)]))
    have Fa49 := ((V5.ext E6).keep K7 (ninS (Nat.ne_of_lt (Nat.lt_of_lt_of_le V5.lt (Nat.le_of_eq g6.symm))) nin0))
    obtain ⟨cl50, Ar50, q50, S50, M50, H50, U50⟩ := id Fa49
    have hin50 : ¬ ((0 : Int32) < 0 ∨ cl50.slots.size ≤ ((0 : Int32)).toNatClampNeg) := inb_of S50 ⟨by decide, by decide⟩
    refine go (fun tg kg => X7.iaload hx (j := (0 : Int32)) (v := (.int (Int32.ofNat A0))) Ar50.1 (State.isArrayOf_alike hZ.alike Ar50.2.1) Ar50.2.2 hin50 (H50.at hin50 rfl) (g := (mkF m 95 #[.val (.int x0), .val (.int x1), .val (.int x2), .val (.int x3), .val (.int x4), .val (.int (4 : Int32)), .val (.int (Int32.ofNat mm)), .val (.ref b1), .val (.ref b6), .unset, .unset] [(.int (0 : Int32)), (.ref b1), (.ref b6)])) rfl rfl (hb hby at_95) _ kg) ?_
    show G (T7.setTop (mkF m 96 #[.val (.int x0), .val (.int x1), .val (.int x2), .val (.int x3), .val (.int x4), .val (.int (4 : Int32)), .val (.int (Int32.ofNat mm)), .val (.ref b1), .val (.ref b6), .unset, .unset] [(.int (Int32.ofNat A0)), (.ref b6)]))
    refine go (fun tg kg => XS.iloadN X7.here hx rfl (hb hby at_96) rfl kg) ?_
    show G (T7.setTop (mkF m 97 #[.val (.int x0), .val (.int x1), .val (.int x2), .val (.int x3), .val (.int x4), .val (.int (4 : Int32)), .val (.int (Int32.ofNat mm)), .val (.ref b1), .val (.ref b6), .unset, .unset] [(.int x1), (.int (Int32.ofNat A0)), (.ref b6)]))
    refine go (fun tg kg => XS.iconst X7.here hx rfl (hb hby at_97) kg) ?_
    show G (T7.setTop (mkF m 98 #[.val (.int x0), .val (.int x1), .val (.int x2), .val (.int x3), .val (.int x4), .val (.int (4 : Int32)), .val (.int (Int32.ofNat mm)), .val (.ref b1), .val (.ref b6), .unset, .unset] [(.int (0 : Int32)), (.int x1), (.int (Int32.ofNat A0)), (.ref b6)]))
    refine go (fun tg kg => X7.ldcInt hx hown (mvT hZ (hw _ (List.mem_of_getElem? (i := 1) rfl))) (g := (mkF m 98 #[.val (.int x0), .val (.int x1), .val (.int x2), .val (.int x3), .val (.int x4), .val (.int (4 : Int32)), .val (.int (Int32.ofNat mm)), .val (.ref b1), .val (.ref b6), .unset, .unset] [(.int (0 : Int32)), (.int x1), (.int (Int32.ofNat A0)), (.ref b6)])) rfl (hb hby at_98) _ kg) ?_
    show G (T7.setTop (mkF m 100 #[.val (.int x0), .val (.int x1), .val (.int x2), .val (.int x3), .val (.int x4), .val (.int (4 : Int32)), .val (.int (Int32.ofNat mm)), .val (.ref b1), .val (.ref b6), .unset, .unset] [(.int (2147483647 : Int32)), (.int (0 : Int32)), (.int x1), (.int (Int32.ofNat A0)), (.ref b6)]))
    refine go (fun tg kg => XS.aconstNull X7.here hx rfl (hb hby at_100) kg) ?_
    show G (T7.setTop (mkF m 101 #[.val (.int x0), .val (.int x1), .val (.int x2), .val (.int x3), .val (.int x4), .val (.int (4 : Int32)), .val (.int (Int32.ofNat mm)), .val (.ref b1), .val (.ref b6), .unset, .unset] [.null, (.int (2147483647 : Int32)), (.int (0 : Int32)), (.int x1), (.int (Int32.ofNat A0)), (.ref b6)]))
    refine go (fun tg kg => XS.lconst X7.here hx rfl (hb hby at_101) kg) ?_
    show G (T7.setTop (mkF m 102 #[.val (.int x0), .val (.int x1), .val (.int x2), .val (.int x3), .val (.int x4), .val (.int (4 : Int32)), .val (.int (Int32.ofNat mm)), .val (.ref b1), .val (.ref b6), .unset, .unset] [(.long (0 : Int64)), .null, (.int (2147483647 : Int32)), (.int (0 : Int32)), (.int x1), (.int (Int32.ofNat A0)), (.ref b6)]))
    obtain ⟨cq51, kq51, q51a, q51b, q51c⟩ := isOf hZ rfl Ge7
    obtain ⟨_, _, ⟨T51, L51, k51, n51⟩, -, X51, ⟨Lc51, hQ51, l51, y51, z51⟩, st51⟩ := X7.virtualBack hx (y := (⟨"com/example/housemartin/housemartin/record/SpellColumns", "add", "(IIIILcom/example/housemartin/housemartin/record/Spell$EndReason;J)V"⟩ : MethodName)) (z := (⟨"com/example/housemartin/housemartin/record/SpellColumns", "add", "(IIIILcom/example/housemartin/housemartin/record/Spell$EndReason;J)V"⟩ : MethodName)) hown (mvT hZ (hw _ (List.mem_of_getElem? (i := 32) rfl))) (mvT hZ (hw _ (List.mem_of_getElem? (i := 33) rfl))) (notFace_of_selects (args := #[]) (mvT hZ (hw _ (List.mem_of_getElem? (i := 35) rfl)))) (mvT hZ (hw _ (List.mem_of_getElem? (i := 35) rfl))) (mvT hZ (hw _ (List.mem_of_getElem? (i := 34) rfl))) (by decide) (backOf (W := 0) (rm4 l Z a0 hw [] b6 (Int32.ofNat A0) x1 (0 : Int32) (2147483647 : Int32) (0 : Int64) ag7 fi7 sa7 en7 re7 li7 (fun _ => 0) 0 T7.heap n0 Z7 Ge7 ge_b6 hob7 hch7 (by decide) G7_agents G7_firms G7_starts G7_ends G7_reasons G7_lines G7_size Gv7_agents Gv7_firms Gv7_starts Gv7_ends Gv7_reasons Gv7_lines) hZ (hw _ (List.mem_of_getElem? (i := 36) rfl)) (hw _ (List.mem_of_getElem? (i := 4) rfl)) (by decide) (by decide)) q51a q51c (g := (mkF m 102 #[.val (.int x0), .val (.int x1), .val (.int x2), .val (.int x3), .val (.int x4), .val (.int (4 : Int32)), .val (.int (Int32.ofNat mm)), .val (.ref b1), .val (.ref b6), .unset, .unset] [(.long (0 : Int64)), .null, (.int (2147483647 : Int32)), (.int (0 : Int32)), (.int x1), (.int (Int32.ofNat A0)), (.ref b6)])) rfl (by rw [hml]; rfl) (Steps.refl _) (argsL := [(.int (Int32.ofNat A0)), (.int x1), (.int (0 : Int32)), (.int (2147483647 : Int32)), .null, (.long (0 : Int64))]) (rest := []) (lenOf pd__IIIILcom_example_housemartin_housemartin_record_Spell_EndReason_J_V rfl) rfl (by show 2 * 0 + _ ≤ _; exact Nat.le_of_eq rfl) (hb hby at_102) (fun _ _ => ⟨rfl, rfl, (by decide : 8 + 0 ≤ _), (by decide : 6155 + 0 ≤ _)⟩)
    dsimp only [Pt.U, Pt.locs, Pt.cells, Pt.slots] at X51 l51 y51 z51 st51 hQ51
    subst l51 y51 z51
    obtain ⟨rfl, Nq51, K51, Ge51, G51_agents, G51_firms, G51_starts, G51_ends, G51_reasons, G51_lines, G51_size, Gv51_agents, Gv51_firms, Gv51_starts, Gv51_ends, Gv51_reasons, Gv51_lines⟩ := hQ51
    have Z51 := Nat.le_trans Z7 K51.1
    replace G51_size : Fld Z T51.heap b6 "com/example/housemartin/housemartin/record/SpellColumns" "size" "I" (.int (1 : Int32)) := G51_size
    have N51 := Fr.app N7 Nq51
    refine go (fun tg kg => st51.trans kg) ?_
    show G (T51.setTop (mkF m 105 #[.val (.int x0), .val (.int x1), .val (.int x2), .val (.int x3), .val (.int x4), .val (.int (4 : Int32)), .val (.int (Int32.ofNat mm)), .val (.ref b1), .val (.ref b6), .unset, .unset] []))
    refine go (fun tg kg => XS.iload X51.here hx rfl (hb hby at_105) rfl kg) ?_
    show G (T51.setTop (mkF m 107 #[.val (.int x0), .val (.int x1), .val (.int x2), .val (.int x3), .val (.int x4), .val (.int (4 : Int32)), .val (.int (Int32.ofNat mm)), .val (.ref b1), .val (.ref b6), .unset, .unset] [(.int (4 : Int32))]))
    refine go (fun tg kg => XS.iconst X51.here hx rfl (hb hby at_107) kg) ?_
    show G (T51.setTop (mkF m 108 #[.val (.int x0), .val (.int x1), .val (.int x2), .val (.int x3), .val (.int x4), .val (.int (4 : Int32)), .val (.int (Int32.ofNat mm)), .val (.ref b1), .val (.ref b6), .unset, .unset] [(.int (1 : Int32)), (.int (4 : Int32))]))
    refine go (fun tg kg => XS.icmpNo X51.here hx rfl (hb hby at_108) rfl (tlt (by decide)).2.2.2 kg) ?_
    show G (T51.setTop (mkF m 111 #[.val (.int x0), .val (.int x1), .val (.int x2), .val (.int x3), .val (.int x4), .val (.int (4 : Int32)), .val (.int (Int32.ofNat mm)), .val (.ref b1), .val (.ref b6), .unset, .unset] []))
    refine go (fun tg kg => XS.aload X51.here hx rfl (hb hby at_111) rfl rfl kg) ?_
    show G (T51.setTop (mkF m 113 #[.val (.int x0), .val (.int x1), .val (.int x2), .val (.int x3), .val (.int x4), .val (.int (4 : Int32)), .val (.int (Int32.ofNat mm)), .val (.ref b1), .val (.ref b6), .unset, .unset] [(.ref b6)]))
    refine go (fun tg kg => XS.aload X51.here hx rfl (hb hby at_113) rfl rfl kg) ?_
    show G (T51.setTop (mkF m 115 #[.val (.int x0), .val (.int x1), .val (.int x2), .val (.int x3), .val (.int x4), .val (.int (4 : Int32)), .val (.int (Int32.ofNat mm)), .val (.ref b1), .val (.ref b6), .unset, .unset] [(.ref b1), (.ref b6)]))
    refine go (fun tg kg => XS.iconst X51.here hx rfl (hb hby at_115) kg) ?_
    show G (T51.setTop (mkF m 116 #[.val (.int x0), .val (.int x1), .val (.int x2), .val (.int x3), .val (.int x4), .val (.int (4 : Int32)), .val (.int (Int32.ofNat mm)), .val (.ref b1), .val (.ref b6), .unset, .unset] [(.int (1 : Int32)), (.ref b1), (.ref b6)]))
    have Fa52 := (Fa49.keep K51 (ninS (Nat.ne_of_lt (Nat.lt_of_lt_of_le V5.lt (Nat.le_of_eq g6.symm))) (ninS (Nat.ne_of_lt (Nat.lt_of_lt_of_le (V5.ext E6).lt (by omega))) (ninS (Nat.ne_of_lt (Nat.lt_of_lt_of_le (V5.ext E6).lt (by omega))) (ninS (Nat.ne_of_lt (Nat.lt_of_lt_of_le (V5.ext E6).lt (by omega))) (ninS (Nat.ne_of_lt (Nat.lt_of_lt_of_le (V5.ext E6).lt (by omega))) (ninS (Nat.ne_of_lt (Nat.lt_of_lt_of_le (V5.ext E6).lt (by omega))) (ninS (Nat.ne_of_lt (Nat.lt_of_lt_of_le (V5.ext E6).lt (by omega))) nin0))))))))
    obtain ⟨cl53, Ar53, q53, S53, M53, H53, U53⟩ := id Fa52
    have hin53 : ¬ ((1 : Int32) < 0 ∨ cl53.slots.size ≤ ((1 : Int32)).toNatClampNeg) := inb_of S53 ⟨by decide, by decide⟩
    refine go (fun tg kg => X51.iaload hx (j := (1 : Int32)) (v := (.int (Int32.ofNat A1))) Ar53.1 (State.isArrayOf_alike hZ.alike Ar53.2.1) Ar53.2.2 hin53 (H53.at hin53 rfl) (g := (mkF m 116 #[.val (.int x0), .val (.int x1), .val (.int x2), .val (.int x3), .val (.int x4), .val (.int (4 : Int32)), .val (.int (Int32.ofNat mm)), .val (.ref b1), .val (.ref b6), .unset, .unset] [(.int (1 : Int32)), (.ref b1), (.ref b6)])) rfl rfl (hb hby at_116) _ kg) ?_
    show G (T51.setTop (mkF m 117 #[.val (.int x0), .val (.int x1), .val (.int x2), .val (.int x3), .val (.int x4), .val (.int (4 : Int32)), .val (.int (Int32.ofNat mm)), .val (.ref b1), .val (.ref b6), .unset, .unset] [(.int (Int32.ofNat A1)), (.ref b6)]))
    refine go (fun tg kg => XS.iloadN X51.here hx rfl (hb hby at_117) rfl kg) ?_
    show G (T51.setTop (mkF m 118 #[.val (.int x0), .val (.int x1), .val (.int x2), .val (.int x3), .val (.int x4), .val (.int (4 : Int32)), .val (.int (Int32.ofNat mm)), .val (.ref b1), .val (.ref b6), .unset, .unset] [(.int x2), (.int (Int32.ofNat A1)), (.ref b6)]))
    refine go (fun tg kg => XS.iconst X51.here hx rfl (hb hby at_118) kg) ?_
    show G (T51.setTop (mkF m 119 #[.val (.int x0), .val (.int x1), .val (.int x2), .val (.int x3), .val (.int x4), .val (.int (4 : Int32)), .val (.int (Int32.ofNat mm)), .val (.ref b1), .val (.ref b6), .unset, .unset] [(.int (0 : Int32)), (.int x2), (.int (Int32.ofNat A1)), (.ref b6)]))
    refine go (fun tg kg => X51.ldcInt hx hown (mvT hZ (hw _ (List.mem_of_getElem? (i := 1) rfl))) (g := (mkF m 119 #[.val (.int x0), .val (.int x1), .val (.int x2), .val (.int x3), .val (.int x4), .val (.int (4 : Int32)), .val (.int (Int32.ofNat mm)), .val (.ref b1), .val (.ref b6), .unset, .unset] [(.int (0 : Int32)), (.int x2), (.int (Int32.ofNat A1)), (.ref b6)])) rfl (hb hby at_119) _ kg) ?_
    show G (T51.setTop (mkF m 121 #[.val (.int x0), .val (.int x1), .val (.int x2), .val (.int x3), .val (.int x4), .val (.int (4 : Int32)), .val (.int (Int32.ofNat mm)), .val (.ref b1), .val (.ref b6), .unset, .unset] [(.int (2147483647 : Int32)), (.int (0 : Int32)), (.int x2), (.int (Int32.ofNat A1)), (.ref b6)]))
    refine go (fun tg kg => XS.aconstNull X51.here hx rfl (hb hby at_121) kg) ?_
    show G (T51.setTop (mkF m 122 #[.val (.int x0), .val (.int x1), .val (.int x2), .val (.int x3), .val (.int x4), .val (.int (4 : Int32)), .val (.int (Int32.ofNat mm)), .val (.ref b1), .val (.ref b6), .unset, .unset] [.null, (.int (2147483647 : Int32)), (.int (0 : Int32)), (.int x2), (.int (Int32.ofNat A1)), (.ref b6)]))
    refine go (fun tg kg => XS.lconst X51.here hx rfl (hb hby at_122) kg) ?_
    show G (T51.setTop (mkF m 123 #[.val (.int x0), .val (.int x1), .val (.int x2), .val (.int x3), .val (.int x4), .val (.int (4 : Int32)), .val (.int (Int32.ofNat mm)), .val (.ref b1), .val (.ref b6), .unset, .unset] [(.long (1 : Int64)), .null, (.int (2147483647 : Int32)), (.int (0 : Int32)), (.int x2), (.int (Int32.ofNat A1)), (.ref b6)]))
    obtain ⟨cq54, kq54, q54a, q54b, q54c⟩ := isOf hZ rfl Ge51
    obtain ⟨_, _, ⟨T54, L54, k54, n54⟩, -, X54, ⟨Lc54, hQ54, l54, y54, z54⟩, st54⟩ := X51.virtualBack hx (y := (⟨"com/example/housemartin/housemartin/record/SpellColumns", "add", "(IIIILcom/example/housemartin/housemartin/record/Spell$EndReason;J)V"⟩ : MethodName)) (z := (⟨"com/example/housemartin/housemartin/record/SpellColumns", "add", "(IIIILcom/example/housemartin/housemartin/record/Spell$EndReason;J)V"⟩ : MethodName)) hown (mvT hZ (hw _ (List.mem_of_getElem? (i := 32) rfl))) (mvT hZ (hw _ (List.mem_of_getElem? (i := 33) rfl))) (notFace_of_selects (args := #[]) (mvT hZ (hw _ (List.mem_of_getElem? (i := 35) rfl)))) (mvT hZ (hw _ (List.mem_of_getElem? (i := 35) rfl))) (mvT hZ (hw _ (List.mem_of_getElem? (i := 34) rfl))) (by decide) (backOf (W := 0) (rm4 l Z a0 hw [] b6 (Int32.ofNat A1) x2 (0 : Int32) (2147483647 : Int32) (1 : Int64) ag7 fi7 sa7 en7 re7 li7 (own_up (fun _ => 0) 0 (Int32.ofNat A0)) 1 T51.heap n0 Z51 Ge51 ge_b6 hob7 hch7 (by decide) G51_agents G51_firms G51_starts G51_ends G51_reasons G51_lines G51_size Gv51_agents Gv51_firms Gv51_starts Gv51_ends Gv51_reasons Gv51_lines) hZ (hw _ (List.mem_of_getElem? (i := 36) rfl)) (hw _ (List.mem_of_getElem? (i := 4) rfl)) (by decide) (by decide)) q54a q54c (g := (mkF m 123 #[.val (.int x0), .val (.int x1), .val (.int x2), .val (.int x3), .val (.int x4), .val (.int (4 : Int32)), .val (.int (Int32.ofNat mm)), .val (.ref b1), .val (.ref b6), .unset, .unset] [(.long (1 : Int64)), .null, (.int (2147483647 : Int32)), (.int (0 : Int32)), (.int x2), (.int (Int32.ofNat A1)), (.ref b6)])) rfl (by rw [hml]; rfl) (Steps.refl _) (argsL := [(.int (Int32.ofNat A1)), (.int x2), (.int (0 : Int32)), (.int (2147483647 : Int32)), .null, (.long (1 : Int64))]) (rest := []) (lenOf pd__IIIILcom_example_housemartin_housemartin_record_Spell_EndReason_J_V rfl) rfl (by show 2 * 0 + _ ≤ _; exact Nat.le_of_eq rfl) (hb hby at_123) (fun _ _ => ⟨rfl, rfl, (by decide : 8 + 0 ≤ _), (by decide : 6155 + 0 ≤ _)⟩)
    dsimp only [Pt.U, Pt.locs, Pt.cells, Pt.slots] at X54 l54 y54 z54 st54 hQ54
    subst l54 y54 z54
    obtain ⟨rfl, Nq54, K54, Ge54, G54_agents, G54_firms, G54_starts, G54_ends, G54_reasons, G54_lines, G54_size, Gv54_agents, Gv54_firms, Gv54_starts, Gv54_ends, Gv54_reasons, Gv54_lines⟩ := hQ54
    have Z54 := Nat.le_trans Z51 K54.1
    replace G54_size : Fld Z T54.heap b6 "com/example/housemartin/housemartin/record/SpellColumns" "size" "I" (.int (2 : Int32)) := G54_size
    have N54 := Fr.app N51 Nq54
    refine go (fun tg kg => st54.trans kg) ?_
    show G (T54.setTop (mkF m 126 #[.val (.int x0), .val (.int x1), .val (.int x2), .val (.int x3), .val (.int x4), .val (.int (4 : Int32)), .val (.int (Int32.ofNat mm)), .val (.ref b1), .val (.ref b6), .unset, .unset] []))
    refine go (fun tg kg => XS.iload X54.here hx rfl (hb hby at_126) rfl kg) ?_
    show G (T54.setTop (mkF m 128 #[.val (.int x0), .val (.int x1), .val (.int x2), .val (.int x3), .val (.int x4), .val (.int (4 : Int32)), .val (.int (Int32.ofNat mm)), .val (.ref b1), .val (.ref b6), .unset, .unset] [(.int (4 : Int32))]))
    refine go (fun tg kg => XS.iconst X54.here hx rfl (hb hby at_128) kg) ?_
    show G (T54.setTop (mkF m 129 #[.val (.int x0), .val (.int x1), .val (.int x2), .val (.int x3), .val (.int x4), .val (.int (4 : Int32)), .val (.int (Int32.ofNat mm)), .val (.ref b1), .val (.ref b6), .unset, .unset] [(.int (2 : Int32)), (.int (4 : Int32))]))
    refine go (fun tg kg => XS.icmpNo X54.here hx rfl (hb hby at_129) rfl (tlt (by decide)).2.2.2 kg) ?_
    show G (T54.setTop (mkF m 132 #[.val (.int x0), .val (.int x1), .val (.int x2), .val (.int x3), .val (.int x4), .val (.int (4 : Int32)), .val (.int (Int32.ofNat mm)), .val (.ref b1), .val (.ref b6), .unset, .unset] []))
    refine go (fun tg kg => XS.aload X54.here hx rfl (hb hby at_132) rfl rfl kg) ?_
    show G (T54.setTop (mkF m 134 #[.val (.int x0), .val (.int x1), .val (.int x2), .val (.int x3), .val (.int x4), .val (.int (4 : Int32)), .val (.int (Int32.ofNat mm)), .val (.ref b1), .val (.ref b6), .unset, .unset] [(.ref b6)]))
    refine go (fun tg kg => XS.aload X54.here hx rfl (hb hby at_134) rfl rfl kg) ?_
    show G (T54.setTop (mkF m 136 #[.val (.int x0), .val (.int x1), .val (.int x2), .val (.int x3), .val (.int x4), .val (.int (4 : Int32)), .val (.int (Int32.ofNat mm)), .val (.ref b1), .val (.ref b6), .unset, .unset] [(.ref b1), (.ref b6)]))
    refine go (fun tg kg => XS.iconst X54.here hx rfl (hb hby at_136) kg) ?_
    show G (T54.setTop (mkF m 137 #[.val (.int x0), .val (.int x1), .val (.int x2), .val (.int x3), .val (.int x4), .val (.int (4 : Int32)), .val (.int (Int32.ofNat mm)), .val (.ref b1), .val (.ref b6), .unset, .unset] [(.int (2 : Int32)), (.ref b1), (.ref b6)]))
    have Fa55 := (Fa52.keep K54 (ninS (Nat.ne_of_lt (Nat.lt_of_lt_of_le V5.lt (Nat.le_of_eq g6.symm))) (ninS (Nat.ne_of_lt (Nat.lt_of_lt_of_le (V5.ext E6).lt (by omega))) (ninS (Nat.ne_of_lt (Nat.lt_of_lt_of_le (V5.ext E6).lt (by omega))) (ninS (Nat.ne_of_lt (Nat.lt_of_lt_of_le (V5.ext E6).lt (by omega))) (ninS (Nat.ne_of_lt (Nat.lt_of_lt_of_le (V5.ext E6).lt (by omega))) (ninS (Nat.ne_of_lt (Nat.lt_of_lt_of_le (V5.ext E6).lt (by omega))) (ninS (Nat.ne_of_lt (Nat.lt_of_lt_of_le (V5.ext E6).lt (by omega))) nin0))))))))
    obtain ⟨cl56, Ar56, q56, S56, M56, H56, U56⟩ := id Fa55
    have hin56 : ¬ ((2 : Int32) < 0 ∨ cl56.slots.size ≤ ((2 : Int32)).toNatClampNeg) := inb_of S56 ⟨by decide, by decide⟩
    refine go (fun tg kg => X54.iaload hx (j := (2 : Int32)) (v := (.int (Int32.ofNat A2))) Ar56.1 (State.isArrayOf_alike hZ.alike Ar56.2.1) Ar56.2.2 hin56 (H56.at hin56 rfl) (g := (mkF m 137 #[.val (.int x0), .val (.int x1), .val (.int x2), .val (.int x3), .val (.int x4), .val (.int (4 : Int32)), .val (.int (Int32.ofNat mm)), .val (.ref b1), .val (.ref b6), .unset, .unset] [(.int (2 : Int32)), (.ref b1), (.ref b6)])) rfl rfl (hb hby at_137) _ kg) ?_
    show G (T54.setTop (mkF m 138 #[.val (.int x0), .val (.int x1), .val (.int x2), .val (.int x3), .val (.int x4), .val (.int (4 : Int32)), .val (.int (Int32.ofNat mm)), .val (.ref b1), .val (.ref b6), .unset, .unset] [(.int (Int32.ofNat A2)), (.ref b6)]))
    refine go (fun tg kg => XS.iloadN X54.here hx rfl (hb hby at_138) rfl kg) ?_
    show G (T54.setTop (mkF m 139 #[.val (.int x0), .val (.int x1), .val (.int x2), .val (.int x3), .val (.int x4), .val (.int (4 : Int32)), .val (.int (Int32.ofNat mm)), .val (.ref b1), .val (.ref b6), .unset, .unset] [(.int x3), (.int (Int32.ofNat A2)), (.ref b6)]))
    refine go (fun tg kg => XS.iconst X54.here hx rfl (hb hby at_139) kg) ?_
    show G (T54.setTop (mkF m 140 #[.val (.int x0), .val (.int x1), .val (.int x2), .val (.int x3), .val (.int x4), .val (.int (4 : Int32)), .val (.int (Int32.ofNat mm)), .val (.ref b1), .val (.ref b6), .unset, .unset] [(.int (0 : Int32)), (.int x3), (.int (Int32.ofNat A2)), (.ref b6)]))
    refine go (fun tg kg => X54.ldcInt hx hown (mvT hZ (hw _ (List.mem_of_getElem? (i := 1) rfl))) (g := (mkF m 140 #[.val (.int x0), .val (.int x1), .val (.int x2), .val (.int x3), .val (.int x4), .val (.int (4 : Int32)), .val (.int (Int32.ofNat mm)), .val (.ref b1), .val (.ref b6), .unset, .unset] [(.int (0 : Int32)), (.int x3), (.int (Int32.ofNat A2)), (.ref b6)])) rfl (hb hby at_140) _ kg) ?_
    show G (T54.setTop (mkF m 142 #[.val (.int x0), .val (.int x1), .val (.int x2), .val (.int x3), .val (.int x4), .val (.int (4 : Int32)), .val (.int (Int32.ofNat mm)), .val (.ref b1), .val (.ref b6), .unset, .unset] [(.int (2147483647 : Int32)), (.int (0 : Int32)), (.int x3), (.int (Int32.ofNat A2)), (.ref b6)]))
    refine go (fun tg kg => XS.aconstNull X54.here hx rfl (hb hby at_142) kg) ?_
    show G (T54.setTop (mkF m 143 #[.val (.int x0), .val (.int x1), .val (.int x2), .val (.int x3), .val (.int x4), .val (.int (4 : Int32)), .val (.int (Int32.ofNat mm)), .val (.ref b1), .val (.ref b6), .unset, .unset] [.null, (.int (2147483647 : Int32)), (.int (0 : Int32)), (.int x3), (.int (Int32.ofNat A2)), (.ref b6)]))
    refine go (fun tg kg => X54.ldc2Long hx hown (mvT hZ (hw _ (List.mem_of_getElem? (i := 38) rfl))) (g := (mkF m 143 #[.val (.int x0), .val (.int x1), .val (.int x2), .val (.int x3), .val (.int x4), .val (.int (4 : Int32)), .val (.int (Int32.ofNat mm)), .val (.ref b1), .val (.ref b6), .unset, .unset] [.null, (.int (2147483647 : Int32)), (.int (0 : Int32)), (.int x3), (.int (Int32.ofNat A2)), (.ref b6)])) rfl (hb hby at_143) _ kg) ?_
    show G (T54.setTop (mkF m 146 #[.val (.int x0), .val (.int x1), .val (.int x2), .val (.int x3), .val (.int x4), .val (.int (4 : Int32)), .val (.int (Int32.ofNat mm)), .val (.ref b1), .val (.ref b6), .unset, .unset] [(.long (2 : Int64)), .null, (.int (2147483647 : Int32)), (.int (0 : Int32)), (.int x3), (.int (Int32.ofNat A2)), (.ref b6)]))
    obtain ⟨cq57, kq57, q57a, q57b, q57c⟩ := isOf hZ rfl Ge54
    obtain ⟨_, _, ⟨T57, L57, k57, n57⟩, -, X57, ⟨Lc57, hQ57, l57, y57, z57⟩, st57⟩ := X54.virtualBack hx (y := (⟨"com/example/housemartin/housemartin/record/SpellColumns", "add", "(IIIILcom/example/housemartin/housemartin/record/Spell$EndReason;J)V"⟩ : MethodName)) (z := (⟨"com/example/housemartin/housemartin/record/SpellColumns", "add", "(IIIILcom/example/housemartin/housemartin/record/Spell$EndReason;J)V"⟩ : MethodName)) hown (mvT hZ (hw _ (List.mem_of_getElem? (i := 32) rfl))) (mvT hZ (hw _ (List.mem_of_getElem? (i := 33) rfl))) (notFace_of_selects (args := #[]) (mvT hZ (hw _ (List.mem_of_getElem? (i := 35) rfl)))) (mvT hZ (hw _ (List.mem_of_getElem? (i := 35) rfl))) (mvT hZ (hw _ (List.mem_of_getElem? (i := 34) rfl))) (by decide) (backOf (W := 0) (rm4 l Z a0 hw [] b6 (Int32.ofNat A2) x3 (0 : Int32) (2147483647 : Int32) (2 : Int64) ag7 fi7 sa7 en7 re7 li7 (own_up (own_up (fun _ => 0) 0 (Int32.ofNat A0)) 1 (Int32.ofNat A1)) 2 T54.heap n0 Z54 Ge54 ge_b6 hob7 hch7 (by decide) G54_agents G54_firms G54_starts G54_ends G54_reasons G54_lines G54_size Gv54_agents Gv54_firms Gv54_starts Gv54_ends Gv54_reasons Gv54_lines) hZ (hw _ (List.mem_of_getElem? (i := 36) rfl)) (hw _ (List.mem_of_getElem? (i := 4) rfl)) (by decide) (by decide)) q57a q57c (g := (mkF m 146 #[.val (.int x0), .val (.int x1), .val (.int x2), .val (.int x3), .val (.int x4), .val (.int (4 : Int32)), .val (.int (Int32.ofNat mm)), .val (.ref b1), .val (.ref b6), .unset, .unset] [(.long (2 : Int64)), .null, (.int (2147483647 : Int32)), (.int (0 : Int32)), (.int x3), (.int (Int32.ofNat A2)), (.ref b6)])) rfl (by rw [hml]; rfl) (Steps.refl _) (argsL := [(.int (Int32.ofNat A2)), (.int x3), (.int (0 : Int32)), (.int (2147483647 : Int32)), .null, (.long (2 : Int64))]) (rest := []) (lenOf pd__IIIILcom_example_housemartin_housemartin_record_Spell_EndReason_J_V rfl) rfl (by show 2 * 0 + _ ≤ _; exact Nat.le_of_eq rfl) (hb hby at_146) (fun _ _ => ⟨rfl, rfl, (by decide : 8 + 0 ≤ _), (by decide : 6155 + 0 ≤ _)⟩)
    dsimp only [Pt.U, Pt.locs, Pt.cells, Pt.slots] at X57 l57 y57 z57 st57 hQ57
    subst l57 y57 z57
    obtain ⟨rfl, Nq57, K57, Ge57, G57_agents, G57_firms, G57_starts, G57_ends, G57_reasons, G57_lines, G57_size, Gv57_agents, Gv57_firms, Gv57_starts, Gv57_ends, Gv57_reasons, Gv57_lines⟩ := hQ57
    have Z57 := Nat.le_trans Z54 K57.1
    replace G57_size : Fld Z T57.heap b6 "com/example/housemartin/housemartin/record/SpellColumns" "size" "I" (.int (3 : Int32)) := G57_size
    have N57 := Fr.app N54 Nq57
    refine go (fun tg kg => st57.trans kg) ?_
    show G (T57.setTop (mkF m 149 #[.val (.int x0), .val (.int x1), .val (.int x2), .val (.int x3), .val (.int x4), .val (.int (4 : Int32)), .val (.int (Int32.ofNat mm)), .val (.ref b1), .val (.ref b6), .unset, .unset] []))
    refine go (fun tg kg => XS.iload X57.here hx rfl (hb hby at_149) rfl kg) ?_
    show G (T57.setTop (mkF m 151 #[.val (.int x0), .val (.int x1), .val (.int x2), .val (.int x3), .val (.int x4), .val (.int (4 : Int32)), .val (.int (Int32.ofNat mm)), .val (.ref b1), .val (.ref b6), .unset, .unset] [(.int (4 : Int32))]))
    refine go (fun tg kg => XS.iconst X57.here hx rfl (hb hby at_151) kg) ?_
    show G (T57.setTop (mkF m 152 #[.val (.int x0), .val (.int x1), .val (.int x2), .val (.int x3), .val (.int x4), .val (.int (4 : Int32)), .val (.int (Int32.ofNat mm)), .val (.ref b1), .val (.ref b6), .unset, .unset] [(.int (3 : Int32)), (.int (4 : Int32))]))
    refine go (fun tg kg => XS.icmpNo X57.here hx rfl (hb hby at_152) rfl (tlt (by decide)).2.2.2 kg) ?_
    show G (T57.setTop (mkF m 155 #[.val (.int x0), .val (.int x1), .val (.int x2), .val (.int x3), .val (.int x4), .val (.int (4 : Int32)), .val (.int (Int32.ofNat mm)), .val (.ref b1), .val (.ref b6), .unset, .unset] []))
    refine go (fun tg kg => XS.aload X57.here hx rfl (hb hby at_155) rfl rfl kg) ?_
    show G (T57.setTop (mkF m 157 #[.val (.int x0), .val (.int x1), .val (.int x2), .val (.int x3), .val (.int x4), .val (.int (4 : Int32)), .val (.int (Int32.ofNat mm)), .val (.ref b1), .val (.ref b6), .unset, .unset] [(.ref b6)]))
    refine go (fun tg kg => XS.aload X57.here hx rfl (hb hby at_157) rfl rfl kg) ?_
    show G (T57.setTop (mkF m 159 #[.val (.int x0), .val (.int x1), .val (.int x2), .val (.int x3), .val (.int x4), .val (.int (4 : Int32)), .val (.int (Int32.ofNat mm)), .val (.ref b1), .val (.ref b6), .unset, .unset] [(.ref b1), (.ref b6)]))
    refine go (fun tg kg => XS.iconst X57.here hx rfl (hb hby at_159) kg) ?_
    show G (T57.setTop (mkF m 160 #[.val (.int x0), .val (.int x1), .val (.int x2), .val (.int x3), .val (.int x4), .val (.int (4 : Int32)), .val (.int (Int32.ofNat mm)), .val (.ref b1), .val (.ref b6), .unset, .unset] [(.int (3 : Int32)), (.ref b1), (.ref b6)]))
    have Fa58 := (Fa55.keep K57 (ninS (Nat.ne_of_lt (Nat.lt_of_lt_of_le V5.lt (Nat.le_of_eq g6.symm))) (ninS (Nat.ne_of_lt (Nat.lt_of_lt_of_le (V5.ext E6).lt (by omega))) (ninS (Nat.ne_of_lt (Nat.lt_of_lt_of_le (V5.ext E6).lt (by omega))) (ninS (Nat.ne_of_lt (Nat.lt_of_lt_of_le (V5.ext E6).lt (by omega))) (ninS (Nat.ne_of_lt (Nat.lt_of_lt_of_le (V5.ext E6).lt (by omega))) (ninS (Nat.ne_of_lt (Nat.lt_of_lt_of_le (V5.ext E6).lt (by omega))) (ninS (Nat.ne_of_lt (Nat.lt_of_lt_of_le (V5.ext E6).lt (by omega))) nin0))))))))
    obtain ⟨cl59, Ar59, q59, S59, M59, H59, U59⟩ := id Fa58
    have hin59 : ¬ ((3 : Int32) < 0 ∨ cl59.slots.size ≤ ((3 : Int32)).toNatClampNeg) := inb_of S59 ⟨by decide, by decide⟩
    refine go (fun tg kg => X57.iaload hx (j := (3 : Int32)) (v := (.int (Int32.ofNat A3))) Ar59.1 (State.isArrayOf_alike hZ.alike Ar59.2.1) Ar59.2.2 hin59 (H59.at hin59 rfl) (g := (mkF m 160 #[.val (.int x0), .val (.int x1), .val (.int x2), .val (.int x3), .val (.int x4), .val (.int (4 : Int32)), .val (.int (Int32.ofNat mm)), .val (.ref b1), .val (.ref b6), .unset, .unset] [(.int (3 : Int32)), (.ref b1), (.ref b6)])) rfl rfl (hb hby at_160) _ kg) ?_
    show G (T57.setTop (mkF m 161 #[.val (.int x0), .val (.int x1), .val (.int x2), .val (.int x3), .val (.int x4), .val (.int (4 : Int32)), .val (.int (Int32.ofNat mm)), .val (.ref b1), .val (.ref b6), .unset, .unset] [(.int (Int32.ofNat A3)), (.ref b6)]))
    refine go (fun tg kg => XS.iload X57.here hx rfl (hb hby at_161) rfl kg) ?_
    show G (T57.setTop (mkF m 163 #[.val (.int x0), .val (.int x1), .val (.int x2), .val (.int x3), .val (.int x4), .val (.int (4 : Int32)), .val (.int (Int32.ofNat mm)), .val (.ref b1), .val (.ref b6), .unset, .unset] [(.int x4), (.int (Int32.ofNat A3)), (.ref b6)]))
    refine go (fun tg kg => XS.iconst X57.here hx rfl (hb hby at_163) kg) ?_
    show G (T57.setTop (mkF m 164 #[.val (.int x0), .val (.int x1), .val (.int x2), .val (.int x3), .val (.int x4), .val (.int (4 : Int32)), .val (.int (Int32.ofNat mm)), .val (.ref b1), .val (.ref b6), .unset, .unset] [(.int (0 : Int32)), (.int x4), (.int (Int32.ofNat A3)), (.ref b6)]))
    refine go (fun tg kg => X57.ldcInt hx hown (mvT hZ (hw _ (List.mem_of_getElem? (i := 1) rfl))) (g := (mkF m 164 #[.val (.int x0), .val (.int x1), .val (.int x2), .val (.int x3), .val (.int x4), .val (.int (4 : Int32)), .val (.int (Int32.ofNat mm)), .val (.ref b1), .val (.ref b6), .unset, .unset] [(.int (0 : Int32)), (.int x4), (.int (Int32.ofNat A3)), (.ref b6)])) rfl (hb hby at_164) _ kg) ?_
    show G (T57.setTop (mkF m 166 #[.val (.int x0), .val (.int x1), .val (.int x2), .val (.int x3), .val (.int x4), .val (.int (4 : Int32)), .val (.int (Int32.ofNat mm)), .val (.ref b1), .val (.ref b6), .unset, .unset] [(.int (2147483647 : Int32)), (.int (0 : Int32)), (.int x4), (.int (Int32.ofNat A3)), (.ref b6)]))
    refine go (fun tg kg => XS.aconstNull X57.here hx rfl (hb hby at_166) kg) ?_
    show G (T57.setTop (mkF m 167 #[.val (.int x0), .val (.int x1), .val (.int x2), .val (.int x3), .val (.int x4), .val (.int (4 : Int32)), .val (.int (Int32.ofNat mm)), .val (.ref b1), .val (.ref b6), .unset, .unset] [.null, (.int (2147483647 : Int32)), (.int (0 : Int32)), (.int x4), (.int (Int32.ofNat A3)), (.ref b6)]))
    refine go (fun tg kg => X57.ldc2Long hx hown (mvT hZ (hw _ (List.mem_of_getElem? (i := 46) rfl))) (g := (mkF m 167 #[.val (.int x0), .val (.int x1), .val (.int x2), .val (.int x3), .val (.int x4), .val (.int (4 : Int32)), .val (.int (Int32.ofNat mm)), .val (.ref b1), .val (.ref b6), .unset, .unset] [.null, (.int (2147483647 : Int32)), (.int (0 : Int32)), (.int x4), (.int (Int32.ofNat A3)), (.ref b6)])) rfl (hb hby at_167) _ kg) ?_
    show G (T57.setTop (mkF m 170 #[.val (.int x0), .val (.int x1), .val (.int x2), .val (.int x3), .val (.int x4), .val (.int (4 : Int32)), .val (.int (Int32.ofNat mm)), .val (.ref b1), .val (.ref b6), .unset, .unset] [(.long (3 : Int64)), .null, (.int (2147483647 : Int32)), (.int (0 : Int32)), (.int x4), (.int (Int32.ofNat A3)), (.ref b6)]))
    obtain ⟨cq60, kq60, q60a, q60b, q60c⟩ := isOf hZ rfl Ge57
    obtain ⟨_, _, ⟨T60, L60, k60, n60⟩, -, X60, ⟨Lc60, hQ60, l60, y60, z60⟩, st60⟩ := X57.virtualBack hx (y := (⟨"com/example/housemartin/housemartin/record/SpellColumns", "add", "(IIIILcom/example/housemartin/housemartin/record/Spell$EndReason;J)V"⟩ : MethodName)) (z := (⟨"com/example/housemartin/housemartin/record/SpellColumns", "add", "(IIIILcom/example/housemartin/housemartin/record/Spell$EndReason;J)V"⟩ : MethodName)) hown (mvT hZ (hw _ (List.mem_of_getElem? (i := 32) rfl))) (mvT hZ (hw _ (List.mem_of_getElem? (i := 33) rfl))) (notFace_of_selects (args := #[]) (mvT hZ (hw _ (List.mem_of_getElem? (i := 35) rfl)))) (mvT hZ (hw _ (List.mem_of_getElem? (i := 35) rfl))) (mvT hZ (hw _ (List.mem_of_getElem? (i := 34) rfl))) (by decide) (backOf (W := 0) (rm4 l Z a0 hw [] b6 (Int32.ofNat A3) x4 (0 : Int32) (2147483647 : Int32) (3 : Int64) ag7 fi7 sa7 en7 re7 li7 (own_up (own_up (own_up (fun _ => 0) 0 (Int32.ofNat A0)) 1 (Int32.ofNat A1)) 2 (Int32.ofNat A2)) 3 T57.heap n0 Z57 Ge57 ge_b6 hob7 hch7 (by decide) G57_agents G57_firms G57_starts G57_ends G57_reasons G57_lines G57_size Gv57_agents Gv57_firms Gv57_starts Gv57_ends Gv57_reasons Gv57_lines) hZ (hw _ (List.mem_of_getElem? (i := 36) rfl)) (hw _ (List.mem_of_getElem? (i := 4) rfl)) (by decide) (by decide)) q60a q60c (g := (mkF m 170 #[.val (.int x0), .val (.int x1), .val (.int x2), .val (.int x3), .val (.int x4), .val (.int (4 : Int32)), .val (.int (Int32.ofNat mm)), .val (.ref b1), .val (.ref b6), .unset, .unset] [(.long (3 : Int64)), .null, (.int (2147483647 : Int32)), (.int (0 : Int32)), (.int x4), (.int (Int32.ofNat A3)), (.ref b6)])) rfl (by rw [hml]; rfl) (Steps.refl _) (argsL := [(.int (Int32.ofNat A3)), (.int x4), (.int (0 : Int32)), (.int (2147483647 : Int32)), .null, (.long (3 : Int64))]) (rest := []) (lenOf pd__IIIILcom_example_housemartin_housemartin_record_Spell_EndReason_J_V rfl) rfl (by show 2 * 0 + _ ≤ _; exact Nat.le_of_eq rfl) (hb hby at_170) (fun _ _ => ⟨rfl, rfl, (by decide : 8 + 0 ≤ _), (by decide : 6155 + 0 ≤ _)⟩)
    dsimp only [Pt.U, Pt.locs, Pt.cells, Pt.slots] at X60 l60 y60 z60 st60 hQ60
    subst l60 y60 z60
    obtain ⟨rfl, Nq60, K60, Ge60, G60_agents, G60_firms, G60_starts, G60_ends, G60_reasons, G60_lines, G60_size, Gv60_agents, Gv60_firms, Gv60_starts, Gv60_ends, Gv60_reasons, Gv60_lines⟩ := hQ60
    have Z60 := Nat.le_trans Z57 K60.1
    replace G60_size : Fld Z T60.heap b6 "com/example/housemartin/housemartin/record/SpellColumns" "size" "I" (.int (4 : Int32)) := G60_size
    have N60 := Fr.app N57 Nq60
    refine go (fun tg kg => st60.trans kg) ?_
    show G (T60.setTop (mkF m 173 #[.val (.int x0), .val (.int x1), .val (.int x2), .val (.int x3), .val (.int x4), .val (.int (4 : Int32)), .val (.int (Int32.ofNat mm)), .val (.ref b1), .val (.ref b6), .unset, .unset] []))
    refine go (fun tg kg => XS.aload X60.here hx rfl (hb hby at_173) rfl rfl kg) ?_
    show G (T60.setTop (mkF m 175 #[.val (.int x0), .val (.int x1), .val (.int x2), .val (.int x3), .val (.int x4), .val (.int (4 : Int32)), .val (.int (Int32.ofNat mm)), .val (.ref b1), .val (.ref b6), .unset, .unset] [(.ref b6)]))
    refine go (fun tg kg => XS.iload X60.here hx rfl (hb hby at_175) rfl kg) ?_
    show G (T60.setTop (mkF m 177 #[.val (.int x0), .val (.int x1), .val (.int x2), .val (.int x3), .val (.int x4), .val (.int (4 : Int32)), .val (.int (Int32.ofNat mm)), .val (.ref b1), .val (.ref b6), .unset, .unset] [(.int (Int32.ofNat mm)), (.ref b6)]))
    obtain ⟨cq61, kq61, q61a, q61b, q61c⟩ := isOf hZ rfl Ge60
    obtain ⟨_, _, ⟨T61, L61, k61, n61⟩, -, X61, ⟨Lc61, hQ61, l61, y61, z61⟩, st61⟩ := X60.virtualBack hx (y := (⟨"com/example/housemartin/housemartin/record/SpellColumns", "byAgent", "(I)[I"⟩ : MethodName)) (z := (⟨"com/example/housemartin/housemartin/record/SpellColumns", "byAgent", "(I)[I"⟩ : MethodName)) hown (mvT hZ (hw _ (List.mem_of_getElem? (i := 25) rfl))) (mvT hZ (hw _ (List.mem_of_getElem? (i := 26) rfl))) (notFace_of_selects (args := #[]) (mvT hZ (hw _ (List.mem_of_getElem? (i := 28) rfl)))) (mvT hZ (hw _ (List.mem_of_getElem? (i := 28) rfl))) (mvT hZ (hw _ (List.mem_of_getElem? (i := 27) rfl))) (by decide) (backOf (W := 0) (rm3 l Z a0 hw [] b6 mm 4 (own_4 A0 A1 A2 A3) ag7 (own_up (own_up (own_up (own_up (fun _ => 0) 0 (Int32.ofNat A0)) 1 (Int32.ofNat A1)) 2 (Int32.ofNat A2)) 3 (Int32.ofNat A3)) T60.heap n0 Z60 G60_agents G60_size Gv60_agents (fun j hj => match j, hj with | 0, _ => ⟨rfl, bA0⟩ | 1, _ => ⟨rfl, bA1⟩ | 2, _ => ⟨rfl, bA2⟩ | 3, _ => ⟨rfl, bA3⟩) hm (by decide)) hZ (hw _ (List.mem_of_getElem? (i := 29) rfl)) (hw _ (List.mem_of_getElem? (i := 4) rfl)) (by decide) (by decide)) q61a q61c (g := (mkF m 177 #[.val (.int x0), .val (.int x1), .val (.int x2), .val (.int x3), .val (.int x4), .val (.int (4 : Int32)), .val (.int (Int32.ofNat mm)), .val (.ref b1), .val (.ref b6), .unset, .unset] [(.int (Int32.ofNat mm)), (.ref b6)])) rfl (by rw [hml]; rfl) (Steps.refl _) (argsL := [(.int (Int32.ofNat mm))]) (rest := []) (lenOf pd__I__I rfl) rfl (by show 2 * 0 + _ ≤ _; exact Nat.le_of_eq rfl) (hb hby at_177) (fun _ _ => ⟨rfl, rfl, (by decide : 8 + 2 ≤ _), (by decide : 6155 + 14 ≤ _)⟩)
    dsimp only [Pt.U, Pt.locs, Pt.cells, Pt.slots] at X61 l61 y61 z61 st61 hQ61
    subst l61 y61 z61
    obtain ⟨b61, rfl, Nq61, K61, sz61, Gv61⟩ := hQ61
    have Z61 := Nat.le_trans Z60 K61.1
    have N61 := Fr.app N60 Nq61
    refine go (fun tg kg => st61.trans kg) ?_
    show G (T61.setTop (mkF m 180 #[.val (.int x0), .val (.int x1), .val (.int x2), .val (.int x3), .val (.int x4), .val (.int (4 : Int32)), .val (.int (Int32.ofNat mm)), .val (.ref b1), .val (.ref b6), .unset, .unset] [(.ref b61)]))
    refine go (fun tg kg => XS.astore X61.here hx rfl (hb hby at_180) rfl rfl (l' := #[.val (.int x0), .val (.int x1), .val (.int x2), .val (.int x3), .val (.int x4), .val (.int (4 : Int32)), .val (.int (Int32.ofNat mm)), .val (.ref b1), .val (.ref b6), .val (.ref b61), .unset]) rfl kg) ?_
    show G (T61.setTop (mkF m 182 #[.val (.int x0), .val (.int x1), .val (.int x2), .val (.int x3), .val (.int x4), .val (.int (4 : Int32)), .val (.int (Int32.ofNat mm)), .val (.ref b1), .val (.ref b6), .val (.ref b61), .unset] []))
    refine go (fun tg kg => XS.aload X61.here hx rfl (hb hby at_182) rfl rfl kg) ?_
    show G (T61.setTop (mkF m 184 #[.val (.int x0), .val (.int x1), .val (.int x2), .val (.int x3), .val (.int x4), .val (.int (4 : Int32)), .val (.int (Int32.ofNat mm)), .val (.ref b1), .val (.ref b6), .val (.ref b61), .unset] [(.ref b61)]))
    obtain ⟨cl62, Ar62, S62, -⟩ := id Gv61
    refine go (fun tg kg => X61.arraylength hx Ar62.1 (State.isArrayOf_alike hZ.alike Ar62.2.1) (g := (mkF m 184 #[.val (.int x0), .val (.int x1), .val (.int x2), .val (.int x3), .val (.int x4), .val (.int (4 : Int32)), .val (.int (Int32.ofNat mm)), .val (.ref b1), .val (.ref b6), .val (.ref b61), .unset] [(.ref b61)])) rfl rfl (hb hby at_184) _ kg) ?_
    rw [S62]
    show G (T61.setTop (mkF m 185 #[.val (.int x0), .val (.int x1), .val (.int x2), .val (.int x3), .val (.int x4), .val (.int (4 : Int32)), .val (.int (Int32.ofNat mm)), .val (.ref b1), .val (.ref b6), .val (.ref b61), .unset] [(.int (4 : Int32))]))
    refine go (fun tg kg => XS.iload X61.here hx rfl (hb hby at_185) rfl kg) ?_
    show G (T61.setTop (mkF m 187 #[.val (.int x0), .val (.int x1), .val (.int x2), .val (.int x3), .val (.int x4), .val (.int (4 : Int32)), .val (.int (Int32.ofNat mm)), .val (.ref b1), .val (.ref b6), .val (.ref b61), .unset] [(.int (4 : Int32)), (.int (4 : Int32))]))
    refine go (fun tg kg => XS.icmpYes X61.here hx rfl (pc0 := 187) (pc' := 192) rfl (hb hby at_187) rfl (teq (by decide)).1 (by decide) (by decide) kg) ?_
    show G (T61.setTop (mkF m 192 #[.val (.int x0), .val (.int x1), .val (.int x2), .val (.int x3), .val (.int x4), .val (.int (4 : Int32)), .val (.int (Int32.ofNat mm)), .val (.ref b1), .val (.ref b6), .val (.ref b61), .unset] []))
    refine go (fun tg kg => XS.iconst X61.here hx rfl (hb hby at_192) kg) ?_
    show G (T61.setTop (mkF m 193 #[.val (.int x0), .val (.int x1), .val (.int x2), .val (.int x3), .val (.int x4), .val (.int (4 : Int32)), .val (.int (Int32.ofNat mm)), .val (.ref b1), .val (.ref b6), .val (.ref b61), .unset] [(.int (1 : Int32))]))
    refine go (fun tg kg => XS.istore X61.here hx rfl (hb hby at_193) rfl (l' := #[.val (.int x0), .val (.int x1), .val (.int x2), .val (.int x3), .val (.int x4), .val (.int (4 : Int32)), .val (.int (Int32.ofNat mm)), .val (.ref b1), .val (.ref b6), .val (.ref b61), .val (.int (1 : Int32))]) rfl kg) ?_
    show G (T61.setTop (mkF m 195 #[.val (.int x0), .val (.int x1), .val (.int x2), .val (.int x3), .val (.int x4), .val (.int (4 : Int32)), .val (.int (Int32.ofNat mm)), .val (.ref b1), .val (.ref b6), .val (.ref b61), .val (.int (1 : Int32))] []))
    refine go (fun tg kg => XS.iload X61.here hx rfl (hb hby at_195) rfl kg) ?_
    show G (T61.setTop (mkF m 197 #[.val (.int x0), .val (.int x1), .val (.int x2), .val (.int x3), .val (.int x4), .val (.int (4 : Int32)), .val (.int (Int32.ofNat mm)), .val (.ref b1), .val (.ref b6), .val (.ref b61), .val (.int (1 : Int32))] [(.int (4 : Int32))]))
    refine go (fun tg kg => XS.ifNo X61.here hx rfl (hb hby at_197) rfl ((if0 _ _).trans (tlt (by decide)).2.2.2) kg) ?_
    show G (T61.setTop (mkF m 200 #[.val (.int x0), .val (.int x1), .val (.int x2), .val (.int x3), .val (.int x4), .val (.int (4 : Int32)), .val (.int (Int32.ofNat mm)), .val (.ref b1), .val (.ref b6), .val (.ref b61), .val (.int (1 : Int32))] []))
    refine go (fun tg kg => XS.iload X61.here hx rfl (hb hby at_200) rfl kg) ?_
    show G (T61.setTop (mkF m 202 #[.val (.int x0), .val (.int x1), .val (.int x2), .val (.int x3), .val (.int x4), .val (.int (4 : Int32)), .val (.int (Int32.ofNat mm)), .val (.ref b1), .val (.ref b6), .val (.ref b61), .val (.int (1 : Int32))] [(.int (1 : Int32))]))
    refine go (fun tg kg => XS.ifNo X61.here hx rfl (hb hby at_202) rfl ((if0 _ _).trans (feq (by decide)).1) kg) ?_
    show G (T61.setTop (mkF m 205 #[.val (.int x0), .val (.int x1), .val (.int x2), .val (.int x3), .val (.int x4), .val (.int (4 : Int32)), .val (.int (Int32.ofNat mm)), .val (.ref b1), .val (.ref b6), .val (.ref b61), .val (.int (1 : Int32))] []))
    refine go (fun tg kg => XS.aload X61.here hx rfl (hb hby at_205) rfl rfl kg) ?_
    show G (T61.setTop (mkF m 207 #[.val (.int x0), .val (.int x1), .val (.int x2), .val (.int x3), .val (.int x4), .val (.int (4 : Int32)), .val (.int (Int32.ofNat mm)), .val (.ref b1), .val (.ref b6), .val (.ref b61), .val (.int (1 : Int32))] [(.ref b61)]))
    refine go (fun tg kg => XS.aload X61.here hx rfl (hb hby at_207) rfl rfl kg) ?_
    show G (T61.setTop (mkF m 209 #[.val (.int x0), .val (.int x1), .val (.int x2), .val (.int x3), .val (.int x4), .val (.int (4 : Int32)), .val (.int (Int32.ofNat mm)), .val (.ref b1), .val (.ref b6), .val (.ref b61), .val (.int (1 : Int32))] [(.ref b1), (.ref b61)]))
    refine go (fun tg kg => XS.iload X61.here hx rfl (hb hby at_209) rfl kg) ?_
    show G (T61.setTop (mkF m 211 #[.val (.int x0), .val (.int x1), .val (.int x2), .val (.int x3), .val (.int x4), .val (.int (4 : Int32)), .val (.int (Int32.ofNat mm)), .val (.ref b1), .val (.ref b6), .val (.ref b61), .val (.int (1 : Int32))] [(.int (4 : Int32)), (.ref b1), (.ref b61)]))
    refine go (fun tg kg => XS.iconst X61.here hx rfl (hb hby at_211) kg) ?_
    show G (T61.setTop (mkF m 212 #[.val (.int x0), .val (.int x1), .val (.int x2), .val (.int x3), .val (.int x4), .val (.int (4 : Int32)), .val (.int (Int32.ofNat mm)), .val (.ref b1), .val (.ref b6), .val (.ref b61), .val (.int (1 : Int32))] [(.int (0 : Int32)), (.int (4 : Int32)), (.ref b1), (.ref b61)]))
    have Fa64 := ((Fa58.keep K60 (ninS (Nat.ne_of_lt (Nat.lt_of_lt_of_le V5.lt (Nat.le_of_eq g6.symm))) (ninS (Nat.ne_of_lt (Nat.lt_of_lt_of_le (V5.ext E6).lt (by omega))) (ninS (Nat.ne_of_lt (Nat.lt_of_lt_of_le (V5.ext E6).lt (by omega))) (ninS (Nat.ne_of_lt (Nat.lt_of_lt_of_le (V5.ext E6).lt (by omega))) (ninS (Nat.ne_of_lt (Nat.lt_of_lt_of_le (V5.ext E6).lt (by omega))) (ninS (Nat.ne_of_lt (Nat.lt_of_lt_of_le (V5.ext E6).lt (by omega))) (ninS (Nat.ne_of_lt (Nat.lt_of_lt_of_le (V5.ext E6).lt (by omega))) nin0)))))))).keep K61 nin0)
    obtain ⟨_, _, ⟨T63, L63, k63, n63⟩, -, X63, ⟨Lc63, hQ63, l63, y63, z63⟩, st63⟩ := Jvm.LawKit.callS X61 hx (y := (⟨"com/example/housemartin/housemartin/record/SpellColumnsByAgentPinLaw", "rank", "([III)I"⟩ : MethodName)) hown (mvT hZ (hw _ (List.mem_of_getElem? (i := 39) rfl))) (mvT hZ (hw _ (List.mem_of_getElem? (i := 40) rfl))) (mvT hZ (hw _ (List.mem_of_getElem? (i := 41) rfl))) (mvT hZ (hw _ (List.mem_of_getElem? (i := 42) rfl))) (by decide) (backOf (W := 1) (rm5 l Z a0 hw [] b1 (4 : Int32) (0 : Int32) (own_F4 (Int32.ofNat A0) (Int32.ofNat A1) (Int32.ofNat A2) (Int32.ofNat A3)) T61.heap n0 Z61 (own_of_arv Fa64) ⟨by decide, by decide⟩) hZ (hw _ (List.mem_of_getElem? (i := 42) rfl)) (hw _ (List.mem_of_getElem? (i := 41) rfl)) (by decide) (by decide)) (g := (mkF m 212 #[.val (.int x0), .val (.int x1), .val (.int x2), .val (.int x3), .val (.int x4), .val (.int (4 : Int32)), .val (.int (Int32.ofNat mm)), .val (.ref b1), .val (.ref b6), .val (.ref b61), .val (.int (1 : Int32))] [(.int (0 : Int32)), (.int (4 : Int32)), (.ref b1), (.ref b61)])) rfl (by rw [hml]; rfl) (argsL := [(.ref b1), (.int (4 : Int32)), (.int (0 : Int32))]) (rest := [(.ref b61)]) (lenOf pd___III_I rfl) rfl (by show 2 * 0 + _ ≤ _; exact Nat.le_of_eq rfl) (hb hby at_212) (fun _ _ => ⟨rfl, rfl, (by decide : 10 + 0 ≤ _), (by decide : 6169 + 0 ≤ _)⟩)
    dsimp only [Pt.U, Pt.locs, Pt.cells, Pt.slots] at X63 l63 y63 z63 st63 hQ63
    subst l63 y63 z63
    obtain ⟨rfl, Nq63, e63⟩ := hQ63
    have N63 := Fr.app N61 Nq63
    refine go st63 ?_
    show G (T63.setTop (mkF m 215 #[.val (.int x0), .val (.int x1), .val (.int x2), .val (.int x3), .val (.int x4), .val (.int (4 : Int32)), .val (.int (Int32.ofNat mm)), .val (.ref b1), .val (.ref b6), .val (.ref b61), .val (.int (1 : Int32))] [(.int (own_rnk (own_F4 (Int32.ofNat A0) (Int32.ofNat A1) (Int32.ofNat A2) (Int32.ofNat A3)) (4 : Int32) (0 : Int32))), (.ref b61)]))
    rw [own_rk40 hm bA0 bA1 bA2 bA3]
    show G (T63.setTop (mkF m 215 #[.val (.int x0), .val (.int x1), .val (.int x2), .val (.int x3), .val (.int x4), .val (.int (4 : Int32)), .val (.int (Int32.ofNat mm)), .val (.ref b1), .val (.ref b6), .val (.ref b61), .val (.int (1 : Int32))] [(.int (Int32.ofNat (own_pos (own_4 A0 A1 A2 A3) 4 0))), (.ref b61)]))
    obtain ⟨cl65, Ar65, S65, H65⟩ := id Gv61
    have ok65 : own_ok 4 (Int32.ofNat (own_pos (own_4 A0 A1 A2 A3) 4 0)) := own_ok_nat (own_pos_lt (own_4 A0 A1 A2 A3) (by decide)) (by have := own_pos_lt (own_4 A0 A1 A2 A3) (n := 4) (s := 0) (by decide); omega)
    have hin65 := own_in S65 ok65
    have kk65 := ok65.2
    rw [own_natN (by have := own_pos_lt (own_4 A0 A1 A2 A3) (n := 4) (s := 0) (by decide); omega)] at kk65
    have hat65 : cl65.slots[((Int32.ofNat (own_pos (own_4 A0 A1 A2 A3) 4 0))).toNatClampNeg]? = some (.int ((own_ord (own_4 A0 A1 A2 A3) 4 4) (own_pos (own_4 A0 A1 A2 A3) 4 0))) := by rw [own_natN (by have := own_pos_lt (own_4 A0 A1 A2 A3) (n := 4) (s := 0) (by decide); omega)]; exact H65 _ kk65
    refine go (fun tg kg => X63.iaload hx (j := (Int32.ofNat (own_pos (own_4 A0 A1 A2 A3) 4 0))) (v := (.int ((own_ord (own_4 A0 A1 A2 A3) 4 4) (own_pos (own_4 A0 A1 A2 A3) 4 0)))) (by rw [e63]; exact Ar65.1) (State.isArrayOf_alike hZ.alike Ar65.2.1) Ar65.2.2 hin65 hat65 (g := (mkF m 215 #[.val (.int x0), .val (.int x1), .val (.int x2), .val (.int x3), .val (.int x4), .val (.int (4 : Int32)), .val (.int (Int32.ofNat mm)), .val (.ref b1), .val (.ref b6), .val (.ref b61), .val (.int (1 : Int32))] [(.int (Int32.ofNat (own_pos (own_4 A0 A1 A2 A3) 4 0))), (.ref b61)])) rfl rfl (hb hby at_215) _ kg) ?_
    show G (T63.setTop (mkF m 216 #[.val (.int x0), .val (.int x1), .val (.int x2), .val (.int x3), .val (.int x4), .val (.int (4 : Int32)), .val (.int (Int32.ofNat mm)), .val (.ref b1), .val (.ref b6), .val (.ref b61), .val (.int (1 : Int32))] [(.int ((own_ord (own_4 A0 A1 A2 A3) 4 4) (own_pos (own_4 A0 A1 A2 A3) 4 0)))]))
    rw [own_ord_pos (own_4 A0 A1 A2 A3) 4 4 (Nat.le_refl _) 0 (by decide)]
    show G (T63.setTop (mkF m 216 #[.val (.int x0), .val (.int x1), .val (.int x2), .val (.int x3), .val (.int x4), .val (.int (4 : Int32)), .val (.int (Int32.ofNat mm)), .val (.ref b1), .val (.ref b6), .val (.ref b61), .val (.int (1 : Int32))] [(.int (0 : Int32))]))
    refine go (fun tg kg => XS.ifNo X63.here hx rfl (hb hby at_216) rfl ((if0 _ _).trans (teq (by decide)).2) kg) ?_
    show G (T63.setTop (mkF m 219 #[.val (.int x0), .val (.int x1), .val (.int x2), .val (.int x3), .val (.int x4), .val (.int (4 : Int32)), .val (.int (Int32.ofNat mm)), .val (.ref b1), .val (.ref b6), .val (.ref b61), .val (.int (1 : Int32))] []))
    refine go (fun tg kg => XS.iconst X63.here hx rfl (hb hby at_219) kg) ?_
    show G (T63.setTop (mkF m 220 #[.val (.int x0), .val (.int x1), .val (.int x2), .val (.int x3), .val (.int x4), .val (.int (4 : Int32)), .val (.int (Int32.ofNat mm)), .val (.ref b1), .val (.ref b6), .val (.ref b61), .val (.int (1 : Int32))] [(.int (1 : Int32))]))
    refine go (fun tg kg => XS.goto X63.here hx rfl (pc0 := 220) (pc' := 224) rfl (hb hby at_220) (by decide) (by decide) kg) ?_
    show G (T63.setTop (mkF m 224 #[.val (.int x0), .val (.int x1), .val (.int x2), .val (.int x3), .val (.int x4), .val (.int (4 : Int32)), .val (.int (Int32.ofNat mm)), .val (.ref b1), .val (.ref b6), .val (.ref b61), .val (.int (1 : Int32))] [(.int (1 : Int32))]))
    refine go (fun tg kg => XS.istore X63.here hx rfl (hb hby at_224) rfl (l' := #[.val (.int x0), .val (.int x1), .val (.int x2), .val (.int x3), .val (.int x4), .val (.int (4 : Int32)), .val (.int (Int32.ofNat mm)), .val (.ref b1), .val (.ref b6), .val (.ref b61), .val (.int (1 : Int32))]) rfl kg) ?_
    show G (T63.setTop (mkF m 226 #[.val (.int x0), .val (.int x1), .val (.int x2), .val (.int x3), .val (.int x4), .val (.int (4 : Int32)), .val (.int (Int32.ofNat mm)), .val (.ref b1), .val (.ref b6), .val (.ref b61), .val (.int (1 : Int32))] []))
    refine go (fun tg kg => XS.iload X63.here hx rfl (hb hby at_226) rfl kg) ?_
    show G (T63.setTop (mkF m 228 #[.val (.int x0), .val (.int x1), .val (.int x2), .val (.int x3), .val (.int x4), .val (.int (4 : Int32)), .val (.int (Int32.ofNat mm)), .val (.ref b1), .val (.ref b6), .val (.ref b61), .val (.int (1 : Int32))] [(.int (4 : Int32))]))
    refine go (fun tg kg => XS.iconst X63.here hx rfl (hb hby at_228) kg) ?_
    show G (T63.setTop (mkF m 229 #[.val (.int x0), .val (.int x1), .val (.int x2), .val (.int x3), .val (.int x4), .val (.int (4 : Int32)), .val (.int (Int32.ofNat mm)), .val (.ref b1), .val (.ref b6), .val (.ref b61), .val (.int (1 : Int32))] [(.int (1 : Int32)), (.int (4 : Int32))]))
    refine go (fun tg kg => XS.icmpNo X63.here hx rfl (hb hby at_229) rfl (tlt (by decide)).2.2.2 kg) ?_
    show G (T63.setTop (mkF m 232 #[.val (.int x0), .val (.int x1), .val (.int x2), .val (.int x3), .val (.int x4), .val (.int (4 : Int32)), .val (.int (Int32.ofNat mm)), .val (.ref b1), .val (.ref b6), .val (.ref b61), .val (.int (1 : Int32))] []))
    refine go (fun tg kg => XS.iload X63.here hx rfl (hb hby at_232) rfl kg) ?_
    show G (T63.setTop (mkF m 234 #[.val (.int x0), .val (.int x1), .val (.int x2), .val (.int x3), .val (.int x4), .val (.int (4 : Int32)), .val (.int (Int32.ofNat mm)), .val (.ref b1), .val (.ref b6), .val (.ref b61), .val (.int (1 : Int32))] [(.int (1 : Int32))]))
    refine go (fun tg kg => XS.ifNo X63.here hx rfl (hb hby at_234) rfl ((if0 _ _).trans (feq (by decide)).1) kg) ?_
    show G (T63.setTop (mkF m 237 #[.val (.int x0), .val (.int x1), .val (.int x2), .val (.int x3), .val (.int x4), .val (.int (4 : Int32)), .val (.int (Int32.ofNat mm)), .val (.ref b1), .val (.ref b6), .val (.ref b61), .val (.int (1 : Int32))] []))
    refine go (fun tg kg => XS.aload X63.here hx rfl (hb hby at_237) rfl rfl kg) ?_
    show G (T63.setTop (mkF m 239 #[.val (.int x0), .val (.int x1), .val (.int x2), .val (.int x3), .val (.int x4), .val (.int (4 : Int32)), .val (.int (Int32.ofNat mm)), .val (.ref b1), .val (.ref b6), .val (.ref b61), .val (.int (1 : Int32))] [(.ref b61)]))
    refine go (fun tg kg => XS.aload X63.here hx rfl (hb hby at_239) rfl rfl kg) ?_
    show G (T63.setTop (mkF m 241 #[.val (.int x0), .val (.int x1), .val (.int x2), .val (.int x3), .val (.int x4), .val (.int (4 : Int32)), .val (.int (Int32.ofNat mm)), .val (.ref b1), .val (.ref b6), .val (.ref b61), .val (.int (1 : Int32))] [(.ref b1), (.ref b61)]))
    refine go (fun tg kg => XS.iload X63.here hx rfl (hb hby at_241) rfl kg) ?_
    show G (T63.setTop (mkF m 243 #[.val (.int x0), .val (.int x1), .val (.int x2), .val (.int x3), .val (.int x4), .val (.int (4 : Int32)), .val (.int (Int32.ofNat mm)), .val (.ref b1), .val (.ref b6), .val (.ref b61), .val (.int (1 : Int32))] [(.int (4 : Int32)), (.ref b1), (.ref b61)]))
    refine go (fun tg kg => XS.iconst X63.here hx rfl (hb hby at_243) kg) ?_
    show G (T63.setTop (mkF m 244 #[.val (.int x0), .val (.int x1), .val (.int x2), .val (.int x3), .val (.int x4), .val (.int (4 : Int32)), .val (.int (Int32.ofNat mm)), .val (.ref b1), .val (.ref b6), .val (.ref b61), .val (.int (1 : Int32))] [(.int (1 : Int32)), (.int (4 : Int32)), (.ref b1), (.ref b61)]))
    obtain ⟨_, _, ⟨T66, L66, k66, n66⟩, -, X66, ⟨Lc66, hQ66, l66, y66, z66⟩, st66⟩ := Jvm.LawKit.callS X63 hx (y := (⟨"com/example/housemartin/housemartin/record/SpellColumnsByAgentPinLaw", "rank", "([III)I"⟩ : MethodName)) hown (mvT hZ (hw _ (List.mem_of_getElem? (i := 39) rfl))) (mvT hZ (hw _ (List.mem_of_getElem? (i := 40) rfl))) (mvT hZ (hw _ (List.mem_of_getElem? (i := 41) rfl))) (mvT hZ (hw _ (List.mem_of_getElem? (i := 42) rfl))) (by decide) (backOf (W := 1) (rm5 l Z a0 hw [] b1 (4 : Int32) (1 : Int32) (own_F4 (Int32.ofNat A0) (Int32.ofNat A1) (Int32.ofNat A2) (Int32.ofNat A3)) T61.heap n0 Z61 (own_of_arv Fa64) ⟨by decide, by decide⟩) hZ (hw _ (List.mem_of_getElem? (i := 42) rfl)) (hw _ (List.mem_of_getElem? (i := 41) rfl)) (by decide) (by decide)) (g := (mkF m 244 #[.val (.int x0), .val (.int x1), .val (.int x2), .val (.int x3), .val (.int x4), .val (.int (4 : Int32)), .val (.int (Int32.ofNat mm)), .val (.ref b1), .val (.ref b6), .val (.ref b61), .val (.int (1 : Int32))] [(.int (1 : Int32)), (.int (4 : Int32)), (.ref b1), (.ref b61)])) rfl (by rw [hml]; rfl) (argsL := [(.ref b1), (.int (4 : Int32)), (.int (1 : Int32))]) (rest := [(.ref b61)]) (lenOf pd___III_I rfl) rfl (by show 2 * 0 + _ ≤ _; exact Nat.le_of_eq rfl) (hb hby at_244) (fun _ _ => ⟨rfl, e63, (by decide : 10 + 0 ≤ _), (by decide : 6169 + 0 ≤ _)⟩)
    dsimp only [Pt.U, Pt.locs, Pt.cells, Pt.slots] at X66 l66 y66 z66 st66 hQ66
    subst l66 y66 z66
    obtain ⟨rfl, Nq66, e66⟩ := hQ66
    have N66 := Fr.app N63 Nq66
    refine go st66 ?_
    show G (T66.setTop (mkF m 247 #[.val (.int x0), .val (.int x1), .val (.int x2), .val (.int x3), .val (.int x4), .val (.int (4 : Int32)), .val (.int (Int32.ofNat mm)), .val (.ref b1), .val (.ref b6), .val (.ref b61), .val (.int (1 : Int32))] [(.int (own_rnk (own_F4 (Int32.ofNat A0) (Int32.ofNat A1) (Int32.ofNat A2) (Int32.ofNat A3)) (4 : Int32) (1 : Int32))), (.ref b61)]))
    rw [own_rk41 hm bA0 bA1 bA2 bA3]
    show G (T66.setTop (mkF m 247 #[.val (.int x0), .val (.int x1), .val (.int x2), .val (.int x3), .val (.int x4), .val (.int (4 : Int32)), .val (.int (Int32.ofNat mm)), .val (.ref b1), .val (.ref b6), .val (.ref b61), .val (.int (1 : Int32))] [(.int (Int32.ofNat (own_pos (own_4 A0 A1 A2 A3) 4 1))), (.ref b61)]))
    obtain ⟨cl67, Ar67, S67, H67⟩ := id Gv61
    have ok67 : own_ok 4 (Int32.ofNat (own_pos (own_4 A0 A1 A2 A3) 4 1)) := own_ok_nat (own_pos_lt (own_4 A0 A1 A2 A3) (by decide)) (by have := own_pos_lt (own_4 A0 A1 A2 A3) (n := 4) (s := 1) (by decide); omega)
    have hin67 := own_in S67 ok67
    have kk67 := ok67.2
    rw [own_natN (by have := own_pos_lt (own_4 A0 A1 A2 A3) (n := 4) (s := 1) (by decide); omega)] at kk67
    have hat67 : cl67.slots[((Int32.ofNat (own_pos (own_4 A0 A1 A2 A3) 4 1))).toNatClampNeg]? = some (.int ((own_ord (own_4 A0 A1 A2 A3) 4 4) (own_pos (own_4 A0 A1 A2 A3) 4 1))) := by rw [own_natN (by have := own_pos_lt (own_4 A0 A1 A2 A3) (n := 4) (s := 1) (by decide); omega)]; exact H67 _ kk67
    refine go (fun tg kg => X66.iaload hx (j := (Int32.ofNat (own_pos (own_4 A0 A1 A2 A3) 4 1))) (v := (.int ((own_ord (own_4 A0 A1 A2 A3) 4 4) (own_pos (own_4 A0 A1 A2 A3) 4 1)))) (by rw [e66]; exact Ar67.1) (State.isArrayOf_alike hZ.alike Ar67.2.1) Ar67.2.2 hin67 hat67 (g := (mkF m 247 #[.val (.int x0), .val (.int x1), .val (.int x2), .val (.int x3), .val (.int x4), .val (.int (4 : Int32)), .val (.int (Int32.ofNat mm)), .val (.ref b1), .val (.ref b6), .val (.ref b61), .val (.int (1 : Int32))] [(.int (Int32.ofNat (own_pos (own_4 A0 A1 A2 A3) 4 1))), (.ref b61)])) rfl rfl (hb hby at_247) _ kg) ?_
    show G (T66.setTop (mkF m 248 #[.val (.int x0), .val (.int x1), .val (.int x2), .val (.int x3), .val (.int x4), .val (.int (4 : Int32)), .val (.int (Int32.ofNat mm)), .val (.ref b1), .val (.ref b6), .val (.ref b61), .val (.int (1 : Int32))] [(.int ((own_ord (own_4 A0 A1 A2 A3) 4 4) (own_pos (own_4 A0 A1 A2 A3) 4 1)))]))
    rw [own_ord_pos (own_4 A0 A1 A2 A3) 4 4 (Nat.le_refl _) 1 (by decide)]
    show G (T66.setTop (mkF m 248 #[.val (.int x0), .val (.int x1), .val (.int x2), .val (.int x3), .val (.int x4), .val (.int (4 : Int32)), .val (.int (Int32.ofNat mm)), .val (.ref b1), .val (.ref b6), .val (.ref b61), .val (.int (1 : Int32))] [(.int (1 : Int32))]))
    refine go (fun tg kg => XS.iconst X66.here hx rfl (hb hby at_248) kg) ?_
    show G (T66.setTop (mkF m 249 #[.val (.int x0), .val (.int x1), .val (.int x2), .val (.int x3), .val (.int x4), .val (.int (4 : Int32)), .val (.int (Int32.ofNat mm)), .val (.ref b1), .val (.ref b6), .val (.ref b61), .val (.int (1 : Int32))] [(.int (1 : Int32)), (.int (1 : Int32))]))
    refine go (fun tg kg => XS.icmpNo X66.here hx rfl (hb hby at_249) rfl (teq (by decide)).2 kg) ?_
    show G (T66.setTop (mkF m 252 #[.val (.int x0), .val (.int x1), .val (.int x2), .val (.int x3), .val (.int x4), .val (.int (4 : Int32)), .val (.int (Int32.ofNat mm)), .val (.ref b1), .val (.ref b6), .val (.ref b61), .val (.int (1 : Int32))] []))
    refine go (fun tg kg => XS.iconst X66.here hx rfl (hb hby at_252) kg) ?_
    show G (T66.setTop (mkF m 253 #[.val (.int x0), .val (.int x1), .val (.int x2), .val (.int x3), .val (.int x4), .val (.int (4 : Int32)), .val (.int (Int32.ofNat mm)), .val (.ref b1), .val (.ref b6), .val (.ref b61), .val (.int (1 : Int32))] [(.int (1 : Int32))]))
    refine go (fun tg kg => XS.goto X66.here hx rfl (pc0 := 253) (pc' := 257) rfl (hb hby at_253) (by decide) (by decide) kg) ?_
    show G (T66.setTop (mkF m 257 #[.val (.int x0), .val (.int x1), .val (.int x2), .val (.int x3), .val (.int x4), .val (.int (4 : Int32)), .val (.int (Int32.ofNat mm)), .val (.ref b1), .val (.ref b6), .val (.ref b61), .val (.int (1 : Int32))] [(.int (1 : Int32))]))
    refine go (fun tg kg => XS.istore X66.here hx rfl (hb hby at_257) rfl (l' := #[.val (.int x0), .val (.int x1), .val (.int x2), .val (.int x3), .val (.int x4), .val (.int (4 : Int32)), .val (.int (Int32.ofNat mm)), .val (.ref b1), .val (.ref b6), .val (.ref b61), .val (.int (1 : Int32))]) rfl kg) ?_
    show G (T66.setTop (mkF m 259 #[.val (.int x0), .val (.int x1), .val (.int x2), .val (.int x3), .val (.int x4), .val (.int (4 : Int32)), .val (.int (Int32.ofNat mm)), .val (.ref b1), .val (.ref b6), .val (.ref b61), .val (.int (1 : Int32))] []))
    refine go (fun tg kg => XS.iload X66.here hx rfl (hb hby at_259) rfl kg) ?_
    show G (T66.setTop (mkF m 261 #[.val (.int x0), .val (.int x1), .val (.int x2), .val (.int x3), .val (.int x4), .val (.int (4 : Int32)), .val (.int (Int32.ofNat mm)), .val (.ref b1), .val (.ref b6), .val (.ref b61), .val (.int (1 : Int32))] [(.int (4 : Int32))]))
    refine go (fun tg kg => XS.iconst X66.here hx rfl (hb hby at_261) kg) ?_
    show G (T66.setTop (mkF m 262 #[.val (.int x0), .val (.int x1), .val (.int x2), .val (.int x3), .val (.int x4), .val (.int (4 : Int32)), .val (.int (Int32.ofNat mm)), .val (.ref b1), .val (.ref b6), .val (.ref b61), .val (.int (1 : Int32))] [(.int (2 : Int32)), (.int (4 : Int32))]))
    refine go (fun tg kg => XS.icmpNo X66.here hx rfl (hb hby at_262) rfl (tlt (by decide)).2.2.2 kg) ?_
    show G (T66.setTop (mkF m 265 #[.val (.int x0), .val (.int x1), .val (.int x2), .val (.int x3), .val (.int x4), .val (.int (4 : Int32)), .val (.int (Int32.ofNat mm)), .val (.ref b1), .val (.ref b6), .val (.ref b61), .val (.int (1 : Int32))] []))
    refine go (fun tg kg => XS.iload X66.here hx rfl (hb hby at_265) rfl kg) ?_
    show G (T66.setTop (mkF m 267 #[.val (.int x0), .val (.int x1), .val (.int x2), .val (.int x3), .val (.int x4), .val (.int (4 : Int32)), .val (.int (Int32.ofNat mm)), .val (.ref b1), .val (.ref b6), .val (.ref b61), .val (.int (1 : Int32))] [(.int (1 : Int32))]))
    refine go (fun tg kg => XS.ifNo X66.here hx rfl (hb hby at_267) rfl ((if0 _ _).trans (feq (by decide)).1) kg) ?_
    show G (T66.setTop (mkF m 270 #[.val (.int x0), .val (.int x1), .val (.int x2), .val (.int x3), .val (.int x4), .val (.int (4 : Int32)), .val (.int (Int32.ofNat mm)), .val (.ref b1), .val (.ref b6), .val (.ref b61), .val (.int (1 : Int32))] []))
    refine go (fun tg kg => XS.aload X66.here hx rfl (hb hby at_270) rfl rfl kg) ?_
    show G (T66.setTop (mkF m 272 #[.val (.int x0), .val (.int x1), .val (.int x2), .val (.int x3), .val (.int x4), .val (.int (4 : Int32)), .val (.int (Int32.ofNat mm)), .val (.ref b1), .val (.ref b6), .val (.ref b61), .val (.int (1 : Int32))] [(.ref b61)]))
    refine go (fun tg kg => XS.aload X66.here hx rfl (hb hby at_272) rfl rfl kg) ?_
    show G (T66.setTop (mkF m 274 #[.val (.int x0), .val (.int x1), .val (.int x2), .val (.int x3), .val (.int x4), .val (.int (4 : Int32)), .val (.int (Int32.ofNat mm)), .val (.ref b1), .val (.ref b6), .val (.ref b61), .val (.int (1 : Int32))] [(.ref b1), (.ref b61)]))
    refine go (fun tg kg => XS.iload X66.here hx rfl (hb hby at_274) rfl kg) ?_
    show G (T66.setTop (mkF m 276 #[.val (.int x0), .val (.int x1), .val (.int x2), .val (.int x3), .val (.int x4), .val (.int (4 : Int32)), .val (.int (Int32.ofNat mm)), .val (.ref b1), .val (.ref b6), .val (.ref b61), .val (.int (1 : Int32))] [(.int (4 : Int32)), (.ref b1), (.ref b61)]))
    refine go (fun tg kg => XS.iconst X66.here hx rfl (hb hby at_276) kg) ?_
    show G (T66.setTop (mkF m 277 #[.val (.int x0), .val (.int x1), .val (.int x2), .val (.int x3), .val (.int x4), .val (.int (4 : Int32)), .val (.int (Int32.ofNat mm)), .val (.ref b1), .val (.ref b6), .val (.ref b61), .val (.int (1 : Int32))] [(.int (2 : Int32)), (.int (4 : Int32)), (.ref b1), (.ref b61)]))
    obtain ⟨_, _, ⟨T68, L68, k68, n68⟩, -, X68, ⟨Lc68, hQ68, l68, y68, z68⟩, st68⟩ := Jvm.LawKit.callS X66 hx (y := (⟨"com/example/housemartin/housemartin/record/SpellColumnsByAgentPinLaw", "rank", "([III)I"⟩ : MethodName)) hown (mvT hZ (hw _ (List.mem_of_getElem? (i := 39) rfl))) (mvT hZ (hw _ (List.mem_of_getElem? (i := 40) rfl))) (mvT hZ (hw _ (List.mem_of_getElem? (i := 41) rfl))) (mvT hZ (hw _ (List.mem_of_getElem? (i := 42) rfl))) (by decide) (backOf (W := 1) (rm5 l Z a0 hw [] b1 (4 : Int32) (2 : Int32) (own_F4 (Int32.ofNat A0) (Int32.ofNat A1) (Int32.ofNat A2) (Int32.ofNat A3)) T61.heap n0 Z61 (own_of_arv Fa64) ⟨by decide, by decide⟩) hZ (hw _ (List.mem_of_getElem? (i := 42) rfl)) (hw _ (List.mem_of_getElem? (i := 41) rfl)) (by decide) (by decide)) (g := (mkF m 277 #[.val (.int x0), .val (.int x1), .val (.int x2), .val (.int x3), .val (.int x4), .val (.int (4 : Int32)), .val (.int (Int32.ofNat mm)), .val (.ref b1), .val (.ref b6), .val (.ref b61), .val (.int (1 : Int32))] [(.int (2 : Int32)), (.int (4 : Int32)), (.ref b1), (.ref b61)])) rfl (by rw [hml]; rfl) (argsL := [(.ref b1), (.int (4 : Int32)), (.int (2 : Int32))]) (rest := [(.ref b61)]) (lenOf pd___III_I rfl) rfl (by show 2 * 0 + _ ≤ _; exact Nat.le_of_eq rfl) (hb hby at_277) (fun _ _ => ⟨rfl, e66, (by decide : 10 + 0 ≤ _), (by decide : 6169 + 0 ≤ _)⟩)
    dsimp only [Pt.U, Pt.locs, Pt.cells, Pt.slots] at X68 l68 y68 z68 st68 hQ68
    subst l68 y68 z68
    obtain ⟨rfl, Nq68, e68⟩ := hQ68
    have N68 := Fr.app N66 Nq68
    refine go st68 ?_
    show G (T68.setTop (mkF m 280 #[.val (.int x0), .val (.int x1), .val (.int x2), .val (.int x3), .val (.int x4), .val (.int (4 : Int32)), .val (.int (Int32.ofNat mm)), .val (.ref b1), .val (.ref b6), .val (.ref b61), .val (.int (1 : Int32))] [(.int (own_rnk (own_F4 (Int32.ofNat A0) (Int32.ofNat A1) (Int32.ofNat A2) (Int32.ofNat A3)) (4 : Int32) (2 : Int32))), (.ref b61)]))
    rw [own_rk42 hm bA0 bA1 bA2 bA3]
    show G (T68.setTop (mkF m 280 #[.val (.int x0), .val (.int x1), .val (.int x2), .val (.int x3), .val (.int x4), .val (.int (4 : Int32)), .val (.int (Int32.ofNat mm)), .val (.ref b1), .val (.ref b6), .val (.ref b61), .val (.int (1 : Int32))] [(.int (Int32.ofNat (own_pos (own_4 A0 A1 A2 A3) 4 2))), (.ref b61)]))
    obtain ⟨cl69, Ar69, S69, H69⟩ := id Gv61
    have ok69 : own_ok 4 (Int32.ofNat (own_pos (own_4 A0 A1 A2 A3) 4 2)) := own_ok_nat (own_pos_lt (own_4 A0 A1 A2 A3) (by decide)) (by have := own_pos_lt (own_4 A0 A1 A2 A3) (n := 4) (s := 2) (by decide); omega)
    have hin69 := own_in S69 ok69
    have kk69 := ok69.2
    rw [own_natN (by have := own_pos_lt (own_4 A0 A1 A2 A3) (n := 4) (s := 2) (by decide); omega)] at kk69
    have hat69 : cl69.slots[((Int32.ofNat (own_pos (own_4 A0 A1 A2 A3) 4 2))).toNatClampNeg]? = some (.int ((own_ord (own_4 A0 A1 A2 A3) 4 4) (own_pos (own_4 A0 A1 A2 A3) 4 2))) := by rw [own_natN (by have := own_pos_lt (own_4 A0 A1 A2 A3) (n := 4) (s := 2) (by decide); omega)]; exact H69 _ kk69
    refine go (fun tg kg => X68.iaload hx (j := (Int32.ofNat (own_pos (own_4 A0 A1 A2 A3) 4 2))) (v := (.int ((own_ord (own_4 A0 A1 A2 A3) 4 4) (own_pos (own_4 A0 A1 A2 A3) 4 2)))) (by rw [e68]; exact Ar69.1) (State.isArrayOf_alike hZ.alike Ar69.2.1) Ar69.2.2 hin69 hat69 (g := (mkF m 280 #[.val (.int x0), .val (.int x1), .val (.int x2), .val (.int x3), .val (.int x4), .val (.int (4 : Int32)), .val (.int (Int32.ofNat mm)), .val (.ref b1), .val (.ref b6), .val (.ref b61), .val (.int (1 : Int32))] [(.int (Int32.ofNat (own_pos (own_4 A0 A1 A2 A3) 4 2))), (.ref b61)])) rfl rfl (hb hby at_280) _ kg) ?_
    show G (T68.setTop (mkF m 281 #[.val (.int x0), .val (.int x1), .val (.int x2), .val (.int x3), .val (.int x4), .val (.int (4 : Int32)), .val (.int (Int32.ofNat mm)), .val (.ref b1), .val (.ref b6), .val (.ref b61), .val (.int (1 : Int32))] [(.int ((own_ord (own_4 A0 A1 A2 A3) 4 4) (own_pos (own_4 A0 A1 A2 A3) 4 2)))]))
    rw [own_ord_pos (own_4 A0 A1 A2 A3) 4 4 (Nat.le_refl _) 2 (by decide)]
    show G (T68.setTop (mkF m 281 #[.val (.int x0), .val (.int x1), .val (.int x2), .val (.int x3), .val (.int x4), .val (.int (4 : Int32)), .val (.int (Int32.ofNat mm)), .val (.ref b1), .val (.ref b6), .val (.ref b61), .val (.int (1 : Int32))] [(.int (2 : Int32))]))
    refine go (fun tg kg => XS.iconst X68.here hx rfl (hb hby at_281) kg) ?_
    show G (T68.setTop (mkF m 282 #[.val (.int x0), .val (.int x1), .val (.int x2), .val (.int x3), .val (.int x4), .val (.int (4 : Int32)), .val (.int (Int32.ofNat mm)), .val (.ref b1), .val (.ref b6), .val (.ref b61), .val (.int (1 : Int32))] [(.int (2 : Int32)), (.int (2 : Int32))]))
    refine go (fun tg kg => XS.icmpNo X68.here hx rfl (hb hby at_282) rfl (teq (by decide)).2 kg) ?_
    show G (T68.setTop (mkF m 285 #[.val (.int x0), .val (.int x1), .val (.int x2), .val (.int x3), .val (.int x4), .val (.int (4 : Int32)), .val (.int (Int32.ofNat mm)), .val (.ref b1), .val (.ref b6), .val (.ref b61), .val (.int (1 : Int32))] []))
    refine go (fun tg kg => XS.iconst X68.here hx rfl (hb hby at_285) kg) ?_
    show G (T68.setTop (mkF m 286 #[.val (.int x0), .val (.int x1), .val (.int x2), .val (.int x3), .val (.int x4), .val (.int (4 : Int32)), .val (.int (Int32.ofNat mm)), .val (.ref b1), .val (.ref b6), .val (.ref b61), .val (.int (1 : Int32))] [(.int (1 : Int32))]))
    refine go (fun tg kg => XS.goto X68.here hx rfl (pc0 := 286) (pc' := 290) rfl (hb hby at_286) (by decide) (by decide) kg) ?_
    show G (T68.setTop (mkF m 290 #[.val (.int x0), .val (.int x1), .val (.int x2), .val (.int x3), .val (.int x4), .val (.int (4 : Int32)), .val (.int (Int32.ofNat mm)), .val (.ref b1), .val (.ref b6), .val (.ref b61), .val (.int (1 : Int32))] [(.int (1 : Int32))]))
    refine go (fun tg kg => XS.istore X68.here hx rfl (hb hby at_290) rfl (l' := #[.val (.int x0), .val (.int x1), .val (.int x2), .val (.int x3), .val (.int x4), .val (.int (4 : Int32)), .val (.int (Int32.ofNat mm)), .val (.ref b1), .val (.ref b6), .val (.ref b61), .val (.int (1 : Int32))]) rfl kg) ?_
    show G (T68.setTop (mkF m 292 #[.val (.int x0), .val (.int x1), .val (.int x2), .val (.int x3), .val (.int x4), .val (.int (4 : Int32)), .val (.int (Int32.ofNat mm)), .val (.ref b1), .val (.ref b6), .val (.ref b61), .val (.int (1 : Int32))] []))
    refine go (fun tg kg => XS.iload X68.here hx rfl (hb hby at_292) rfl kg) ?_
    show G (T68.setTop (mkF m 294 #[.val (.int x0), .val (.int x1), .val (.int x2), .val (.int x3), .val (.int x4), .val (.int (4 : Int32)), .val (.int (Int32.ofNat mm)), .val (.ref b1), .val (.ref b6), .val (.ref b61), .val (.int (1 : Int32))] [(.int (4 : Int32))]))
    refine go (fun tg kg => XS.iconst X68.here hx rfl (hb hby at_294) kg) ?_
    show G (T68.setTop (mkF m 295 #[.val (.int x0), .val (.int x1), .val (.int x2), .val (.int x3), .val (.int x4), .val (.int (4 : Int32)), .val (.int (Int32.ofNat mm)), .val (.ref b1), .val (.ref b6), .val (.ref b61), .val (.int (1 : Int32))] [(.int (3 : Int32)), (.int (4 : Int32))]))
    refine go (fun tg kg => XS.icmpNo X68.here hx rfl (hb hby at_295) rfl (tlt (by decide)).2.2.2 kg) ?_
    show G (T68.setTop (mkF m 298 #[.val (.int x0), .val (.int x1), .val (.int x2), .val (.int x3), .val (.int x4), .val (.int (4 : Int32)), .val (.int (Int32.ofNat mm)), .val (.ref b1), .val (.ref b6), .val (.ref b61), .val (.int (1 : Int32))] []))
    refine go (fun tg kg => XS.iload X68.here hx rfl (hb hby at_298) rfl kg) ?_
    show G (T68.setTop (mkF m 300 #[.val (.int x0), .val (.int x1), .val (.int x2), .val (.int x3), .val (.int x4), .val (.int (4 : Int32)), .val (.int (Int32.ofNat mm)), .val (.ref b1), .val (.ref b6), .val (.ref b61), .val (.int (1 : Int32))] [(.int (1 : Int32))]))
    refine go (fun tg kg => XS.ifNo X68.here hx rfl (hb hby at_300) rfl ((if0 _ _).trans (feq (by decide)).1) kg) ?_
    show G (T68.setTop (mkF m 303 #[.val (.int x0), .val (.int x1), .val (.int x2), .val (.int x3), .val (.int x4), .val (.int (4 : Int32)), .val (.int (Int32.ofNat mm)), .val (.ref b1), .val (.ref b6), .val (.ref b61), .val (.int (1 : Int32))] []))
    refine go (fun tg kg => XS.aload X68.here hx rfl (hb hby at_303) rfl rfl kg) ?_
    show G (T68.setTop (mkF m 305 #[.val (.int x0), .val (.int x1), .val (.int x2), .val (.int x3), .val (.int x4), .val (.int (4 : Int32)), .val (.int (Int32.ofNat mm)), .val (.ref b1), .val (.ref b6), .val (.ref b61), .val (.int (1 : Int32))] [(.ref b61)]))
    refine go (fun tg kg => XS.aload X68.here hx rfl (hb hby at_305) rfl rfl kg) ?_
    show G (T68.setTop (mkF m 307 #[.val (.int x0), .val (.int x1), .val (.int x2), .val (.int x3), .val (.int x4), .val (.int (4 : Int32)), .val (.int (Int32.ofNat mm)), .val (.ref b1), .val (.ref b6), .val (.ref b61), .val (.int (1 : Int32))] [(.ref b1), (.ref b61)]))
    refine go (fun tg kg => XS.iload X68.here hx rfl (hb hby at_307) rfl kg) ?_
    show G (T68.setTop (mkF m 309 #[.val (.int x0), .val (.int x1), .val (.int x2), .val (.int x3), .val (.int x4), .val (.int (4 : Int32)), .val (.int (Int32.ofNat mm)), .val (.ref b1), .val (.ref b6), .val (.ref b61), .val (.int (1 : Int32))] [(.int (4 : Int32)), (.ref b1), (.ref b61)]))
    refine go (fun tg kg => XS.iconst X68.here hx rfl (hb hby at_309) kg) ?_
    show G (T68.setTop (mkF m 310 #[.val (.int x0), .val (.int x1), .val (.int x2), .val (.int x3), .val (.int x4), .val (.int (4 : Int32)), .val (.int (Int32.ofNat mm)), .val (.ref b1), .val (.ref b6), .val (.ref b61), .val (.int (1 : Int32))] [(.int (3 : Int32)), (.int (4 : Int32)), (.ref b1), (.ref b61)]))
    obtain ⟨_, _, ⟨T70, L70, k70, n70⟩, -, X70, ⟨Lc70, hQ70, l70, y70, z70⟩, st70⟩ := Jvm.LawKit.callS X68 hx (y := (⟨"com/example/housemartin/housemartin/record/SpellColumnsByAgentPinLaw", "rank", "([III)I"⟩ : MethodName)) hown (mvT hZ (hw _ (List.mem_of_getElem? (i := 39) rfl))) (mvT hZ (hw _ (List.mem_of_getElem? (i := 40) rfl))) (mvT hZ (hw _ (List.mem_of_getElem? (i := 41) rfl))) (mvT hZ (hw _ (List.mem_of_getElem? (i := 42) rfl))) (by decide) (backOf (W := 1) (rm5 l Z a0 hw [] b1 (4 : Int32) (3 : Int32) (own_F4 (Int32.ofNat A0) (Int32.ofNat A1) (Int32.ofNat A2) (Int32.ofNat A3)) T61.heap n0 Z61 (own_of_arv Fa64) ⟨by decide, by decide⟩) hZ (hw _ (List.mem_of_getElem? (i := 42) rfl)) (hw _ (List.mem_of_getElem? (i := 41) rfl)) (by decide) (by decide)) (g := (mkF m 310 #[.val (.int x0), .val (.int x1), .val (.int x2), .val (.int x3), .val (.int x4), .val (.int (4 : Int32)), .val (.int (Int32.ofNat mm)), .val (.ref b1), .val (.ref b6), .val (.ref b61), .val (.int (1 : Int32))] [(.int (3 : Int32)), (.int (4 : Int32)), (.ref b1), (.ref b61)])) rfl (by rw [hml]; rfl) (argsL := [(.ref b1), (.int (4 : Int32)), (.int (3 : Int32))]) (rest := [(.ref b61)]) (lenOf pd___III_I rfl) rfl (by show 2 * 0 + _ ≤ _; exact Nat.le_of_eq rfl) (hb hby at_310) (fun _ _ => ⟨rfl, e68, (by decide : 10 + 0 ≤ _), (by decide : 6169 + 0 ≤ _)⟩)
    dsimp only [Pt.U, Pt.locs, Pt.cells, Pt.slots] at X70 l70 y70 z70 st70 hQ70
    subst l70 y70 z70
    obtain ⟨rfl, Nq70, e70⟩ := hQ70
    have N70 := Fr.app N68 Nq70
    refine go st70 ?_
    show G (T70.setTop (mkF m 313 #[.val (.int x0), .val (.int x1), .val (.int x2), .val (.int x3), .val (.int x4), .val (.int (4 : Int32)), .val (.int (Int32.ofNat mm)), .val (.ref b1), .val (.ref b6), .val (.ref b61), .val (.int (1 : Int32))] [(.int (own_rnk (own_F4 (Int32.ofNat A0) (Int32.ofNat A1) (Int32.ofNat A2) (Int32.ofNat A3)) (4 : Int32) (3 : Int32))), (.ref b61)]))
    rw [own_rk43 hm bA0 bA1 bA2 bA3]
    show G (T70.setTop (mkF m 313 #[.val (.int x0), .val (.int x1), .val (.int x2), .val (.int x3), .val (.int x4), .val (.int (4 : Int32)), .val (.int (Int32.ofNat mm)), .val (.ref b1), .val (.ref b6), .val (.ref b61), .val (.int (1 : Int32))] [(.int (Int32.ofNat (own_pos (own_4 A0 A1 A2 A3) 4 3))), (.ref b61)]))
    obtain ⟨cl71, Ar71, S71, H71⟩ := id Gv61
    have ok71 : own_ok 4 (Int32.ofNat (own_pos (own_4 A0 A1 A2 A3) 4 3)) := own_ok_nat (own_pos_lt (own_4 A0 A1 A2 A3) (by decide)) (by have := own_pos_lt (own_4 A0 A1 A2 A3) (n := 4) (s := 3) (by decide); omega)
    have hin71 := own_in S71 ok71
    have kk71 := ok71.2
    rw [own_natN (by have := own_pos_lt (own_4 A0 A1 A2 A3) (n := 4) (s := 3) (by decide); omega)] at kk71
    have hat71 : cl71.slots[((Int32.ofNat (own_pos (own_4 A0 A1 A2 A3) 4 3))).toNatClampNeg]? = some (.int ((own_ord (own_4 A0 A1 A2 A3) 4 4) (own_pos (own_4 A0 A1 A2 A3) 4 3))) := by rw [own_natN (by have := own_pos_lt (own_4 A0 A1 A2 A3) (n := 4) (s := 3) (by decide); omega)]; exact H71 _ kk71
    refine go (fun tg kg => X70.iaload hx (j := (Int32.ofNat (own_pos (own_4 A0 A1 A2 A3) 4 3))) (v := (.int ((own_ord (own_4 A0 A1 A2 A3) 4 4) (own_pos (own_4 A0 A1 A2 A3) 4 3)))) (by rw [e70]; exact Ar71.1) (State.isArrayOf_alike hZ.alike Ar71.2.1) Ar71.2.2 hin71 hat71 (g := (mkF m 313 #[.val (.int x0), .val (.int x1), .val (.int x2), .val (.int x3), .val (.int x4), .val (.int (4 : Int32)), .val (.int (Int32.ofNat mm)), .val (.ref b1), .val (.ref b6), .val (.ref b61), .val (.int (1 : Int32))] [(.int (Int32.ofNat (own_pos (own_4 A0 A1 A2 A3) 4 3))), (.ref b61)])) rfl rfl (hb hby at_313) _ kg) ?_
    show G (T70.setTop (mkF m 314 #[.val (.int x0), .val (.int x1), .val (.int x2), .val (.int x3), .val (.int x4), .val (.int (4 : Int32)), .val (.int (Int32.ofNat mm)), .val (.ref b1), .val (.ref b6), .val (.ref b61), .val (.int (1 : Int32))] [(.int ((own_ord (own_4 A0 A1 A2 A3) 4 4) (own_pos (own_4 A0 A1 A2 A3) 4 3)))]))
    rw [own_ord_pos (own_4 A0 A1 A2 A3) 4 4 (Nat.le_refl _) 3 (by decide)]
    show G (T70.setTop (mkF m 314 #[.val (.int x0), .val (.int x1), .val (.int x2), .val (.int x3), .val (.int x4), .val (.int (4 : Int32)), .val (.int (Int32.ofNat mm)), .val (.ref b1), .val (.ref b6), .val (.ref b61), .val (.int (1 : Int32))] [(.int (3 : Int32))]))
    refine go (fun tg kg => XS.iconst X70.here hx rfl (hb hby at_314) kg) ?_
    show G (T70.setTop (mkF m 315 #[.val (.int x0), .val (.int x1), .val (.int x2), .val (.int x3), .val (.int x4), .val (.int (4 : Int32)), .val (.int (Int32.ofNat mm)), .val (.ref b1), .val (.ref b6), .val (.ref b61), .val (.int (1 : Int32))] [(.int (3 : Int32)), (.int (3 : Int32))]))
    refine go (fun tg kg => XS.icmpNo X70.here hx rfl (hb hby at_315) rfl (teq (by decide)).2 kg) ?_
    show G (T70.setTop (mkF m 318 #[.val (.int x0), .val (.int x1), .val (.int x2), .val (.int x3), .val (.int x4), .val (.int (4 : Int32)), .val (.int (Int32.ofNat mm)), .val (.ref b1), .val (.ref b6), .val (.ref b61), .val (.int (1 : Int32))] []))
    refine go (fun tg kg => XS.iconst X70.here hx rfl (hb hby at_318) kg) ?_
    show G (T70.setTop (mkF m 319 #[.val (.int x0), .val (.int x1), .val (.int x2), .val (.int x3), .val (.int x4), .val (.int (4 : Int32)), .val (.int (Int32.ofNat mm)), .val (.ref b1), .val (.ref b6), .val (.ref b61), .val (.int (1 : Int32))] [(.int (1 : Int32))]))
    refine go (fun tg kg => XS.goto X70.here hx rfl (pc0 := 319) (pc' := 323) rfl (hb hby at_319) (by decide) (by decide) kg) ?_
    show G (T70.setTop (mkF m 323 #[.val (.int x0), .val (.int x1), .val (.int x2), .val (.int x3), .val (.int x4), .val (.int (4 : Int32)), .val (.int (Int32.ofNat mm)), .val (.ref b1), .val (.ref b6), .val (.ref b61), .val (.int (1 : Int32))] [(.int (1 : Int32))]))
    refine go (fun tg kg => XS.istore X70.here hx rfl (hb hby at_323) rfl (l' := #[.val (.int x0), .val (.int x1), .val (.int x2), .val (.int x3), .val (.int x4), .val (.int (4 : Int32)), .val (.int (Int32.ofNat mm)), .val (.ref b1), .val (.ref b6), .val (.ref b61), .val (.int (1 : Int32))]) rfl kg) ?_
    show G (T70.setTop (mkF m 325 #[.val (.int x0), .val (.int x1), .val (.int x2), .val (.int x3), .val (.int x4), .val (.int (4 : Int32)), .val (.int (Int32.ofNat mm)), .val (.ref b1), .val (.ref b6), .val (.ref b61), .val (.int (1 : Int32))] []))
    refine go (fun tg kg => XS.iload X70.here hx rfl (hb hby at_325) rfl kg) ?_
    show G (T70.setTop (mkF m 327 #[.val (.int x0), .val (.int x1), .val (.int x2), .val (.int x3), .val (.int x4), .val (.int (4 : Int32)), .val (.int (Int32.ofNat mm)), .val (.ref b1), .val (.ref b6), .val (.ref b61), .val (.int (1 : Int32))] [(.int (1 : Int32))]))
    refine fin (some (.int (1 : Int32))) X70 (fun h => absurd h (by decide)) (fun fs hr => retN X70 hx (t := .boolean) hret (by simp) (hb hby at_327) hr) (by decide) (by decide) ?_
    rw [e70]
    exact ⟨rfl, N70⟩
set_option maxRecDepth 65536 in
set_option maxHeartbeats 40000000 in
theorem comes_1 {Post : Tables → Env → Array Value → State → Outcome → State → Prop} (hpost : ∀ tb e args s v u, (limb_1_1.after args s (.returned v) u = true ∧ limb_1_2.after args s (.returned v) u = true ∧ True) → FrameEnd s (.returned v) u (Jvm.fieldLocs frame_1_writes args s ++ Jvm.arrayLocs frame_1_arrays args s ++ Jvm.staticLocs frame_1_statics s) 32 12416 → Post tb e args s (.returned v) u) :
    ArmFor flags0 classFile x code maxLocals ret World_1 tables_1 room_1 Calls_1 rest_1 Pre_1 Post := by
  intro l hfl _ _ p e ha hc hk s m args below hf hA hF happ hP
  obtain ⟨hcalls, hrest, hpre⟩ := hP
  obtain ⟨-, -, -, hnamed, -, -, -, hat⟩ := (Spec.applies_iff hf).mp happ
  obtain ⟨hg, hn⟩ := and_e (Cond.before_iff.mp (show (Jvm.Cond.and given_1 narrow_1).before args s = true from hpre))
  obtain ⟨gc, gr0⟩ := and_e hg
  obtain ⟨ga0, gr1⟩ := and_e gr0
  obtain ⟨ga1, gr2⟩ := and_e gr1
  obtain ⟨ga2, gr3⟩ := and_e gr2
  obtain ⟨ga3, gr4⟩ := and_e gr3
  have ga4 := gr4
  obtain ⟨w0, w1, w2, w3, w4, rfl⟩ : ∃ w0 w1 w2 w3 w4 : Value, args = #[w0, w1, w2, w3, w4] := by
    have hs : args.size = 5 := by simpa [Cond.value, given_1] using gc
    obtain ⟨L⟩ := args
    match L, hs with
    | [w0, w1, w2, w3, w4], _ => exact ⟨w0, w1, w2, w3, w4, rfl⟩
  have hw := fun d (hd : d ∈ tables_1) => atoms_spec (ws := Jvm.Cond.code x code maxLocals ret :: tables_1) hat d (List.mem_cons_of_mem _ hd)
  have hfit : Fit s := fun {y c} hc i hi => by
    obtain ⟨ha, rfl⟩ := Array.getElem?_eq_some_iff.mp hc
    have q := List.all_eq_true.mp ((Array.all_eq_true_iff_forall_mem.mp hF) _ (Array.getElem_mem ha)) i (List.mem_range.mpr hi)
    simpa [Array.getElem?_eq_getElem hi] using q
  obtain ⟨i0, ei0⟩ := is_v ga0
  obtain rfl : w0 = (.int i0) := Option.some.inj ei0
  obtain ⟨i1, ei1⟩ := is_v ga1
  obtain rfl : w1 = (.int i1) := Option.some.inj ei1
  obtain ⟨i2, ei2⟩ := is_v ga2
  obtain rfl : w2 = (.int i2) := Option.some.inj ei2
  obtain ⟨i3, ei3⟩ := is_v ga3
  obtain rfl : w3 = (.int i3) := Option.some.inj ei3
  obtain ⟨i4, ei4⟩ := is_v ga4
  obtain rfl : w4 = (.int i4) := Option.some.inj ei4
  obtain ⟨n, o, h1, h2, h3, _, L, rfl, ⟨rfl, N⟩, hq⟩ := rm0 l s _ hw tables_1 i0 i1 i2 i3 i4  s.heap s.heap.size (Nat.le_refl _)  p e ha hc hk s m _ below hf ((Spec.applies_iff_loose hf).mp happ).1 ⟨rfl, State.Warmed39.refl s, rfl⟩ trivial
  refine ⟨n, _, h1, h2, h3, hpost _ _ _ _ _ _ ⟨Cond.after_iff.mpr rfl, Cond.after_iff.mpr (eq_i res_at (Term.int_eval (1)) rfl), trivial⟩ ⟨hq.1, hq.2.1, (hq.2.2.sift fun y hy => Or.inr (N y hy)).mono (by decide) (by decide)⟩⟩
theorem main_1_1 : Claimed_1_1 := comes_1 fun _ _ _ _ _ _ h hF => ⟨h.1, hF⟩
theorem main_1_2 : Claimed_1_2 := comes_1 fun _ _ _ _ _ _ h hF => ⟨h.2.1, hF⟩
end Jvm.Pilot.@@N@@
namespace Jvm.Pilot.@@N@@
open Jvm Jvm.ClassFile Sem Op Lib Jvm.Free Jvm.Stand Jvm.Pilot.@@N@@.Jvm.D
/-! MADE BY PROGRAM (witnessworld.py) out of the Statement's table words and the real class files: 11 classes; the members and pool entries that the words name. The judged class is class 1, her method 3. -/
namespace start1
open Jvm.ClassFile
def u (s : String) : CpInfo := .utf8 (stringToUtf16 s)
/-- a pool by its gaps: so many unusable entries, then the entry; so many at the end -/
def gap : Nat → List CpInfo → List CpInfo
  | 0, r => r
  | n + 1, r => .unusable :: gap n r
def poolList (es : List (Nat × CpInfo)) (last : Nat) : List CpInfo := es.foldr (fun e r => gap e.1 (e.2 :: r)) (gap last [])
def pool (es : List (Nat × CpInfo)) (last : Nat) : Array CpInfo := ⟨poolList es last⟩
def fileOf (pool : Array CpInfo) (this : Nat) (attrs : Array Attribute := #[]) (ms : Array MethodInfo := #[]) (fl : Nat := 33) (sup : Nat := 0) (ifs : Array Nat := #[]) (fds : Array FieldInfo := #[]) : ClassFile where
  minorVersion := 0
  majorVersion := 65
  constantPool := pool
  accessFlags := fl
  thisClass := this
  superClass := sup
  interfaces := ifs
  fields := fds
  methods := ms
  attributes := attrs
def plain (name : String) (sup : Option ClassId) : Class where
  name := name
  kind := .ordinary
  loader := none
  accessFlags := 33
  super := sup
  interfaces := #[]
  cf := none
  fields := #[]
  methods := #[]
  instanceTypes := #[]
  staticTypes := #[]
  resolved := #[]
  callSites := []
  init := .initialized
  statics := none
  mirror := none

def pool0 : Array CpInfo := pool [(5, u "<init>"), (0, u "()V"), (1, .class_ 10), (1, u "java/lang/Object")] 113

def k0c0 : Code := { maxStack := 0, maxLocals := 1, code := object_method_1_code, exceptionTable := #[], attributes := #[] }
def k0m0 : Method := { name := "<init>", desc := "()V", sig := { parameters := [], returnType := none }, accessFlags := 1, code := some k0c0 }
/-- java/lang/Object -/
def k0 : Class := { plain "java/lang/Object" none with
  accessFlags := 33
  interfaces := #[]
  cf := some (fileOf pool0 8 #[] #[{ accessFlags := 1, nameIndex := 5, descriptorIndex := 6, attributes := #[] }] 33 0 #[] #[])
  fields := #[]
  methods := #[k0m0]
  instanceTypes := #[]
  staticTypes := #[]
  resolved := Array.replicate 124 none
  statics := none }

def pool1 : Array CpInfo := pool [(2, .class_ 4), (0, .nameAndType 5 6), (0, u "java/lang/Object"), (0, u "<init>"), (0, u "()V"), (0, .methodref 8 9), (0, .class_ 10), (0, .nameAndType 11 12), (0, u "com/example/housemartin/housemartin/record/SpellColumnsByAgentPinLaw"), (0, u "term"), (0, u "([IIII)I"), (0, .integer 2147483647), (0, .class_ 15), (0, u "com/example/housemartin/housemartin/record/SpellColumns"), (0, .methodref 14 3), (0, .methodref 14 18), (0, .nameAndType 19 20), (0, u "add"), (0, u "(IIIILcom/example/housemartin/housemartin/record/Spell$EndReason;J)V"), (0, .long 2), (1, .long 3), (1, .methodref 14 26), (0, .nameAndType 27 28), (0, u "byAgent"), (0, u "(I)[I"), (0, .methodref 8 30), (0, .nameAndType 31 32), (0, u "rank"), (0, u "([III)I"), (3, u "law"), (0, u "(IIIII)Z")] 10

def k1m0 : Method := { name := "<init>", desc := "()V", sig := { parameters := [], returnType := none }, accessFlags := 1, code := none }
def k1c1 : Code := { maxStack := 3, maxLocals := 4, code := method_2_code, exceptionTable := #[], attributes := #[] }
def k1m1 : Method := { name := "term", desc := "([IIII)I", sig := { parameters := [(.array .int), .int, .int, .int], returnType := some .int }, accessFlags := 10, code := some k1c1 }
def k1c2 : Code := { maxStack := 5, maxLocals := 3, code := method_3_code, exceptionTable := #[], attributes := #[] }
def k1m2 : Method := { name := "rank", desc := "([III)I", sig := { parameters := [(.array .int), .int, .int], returnType := some .int }, accessFlags := 10, code := some k1c2 }
def k1c3 : Code := { maxStack := 8, maxLocals := 11, code := code, exceptionTable := #[], attributes := #[] }
def k1m3 : Method := { name := "law", desc := "(IIIII)Z", sig := { parameters := [.int, .int, .int, .int, .int], returnType := some .boolean }, accessFlags := 9, code := some k1c3 }
/-- com/example/housemartin/housemartin/record/SpellColumnsByAgentPinLaw -/
def k1 : Class := { plain "com/example/housemartin/housemartin/record/SpellColumnsByAgentPinLaw" (some 0) with
  accessFlags := 49
  interfaces := #[]
  cf := some (fileOf pool1 8 #[] #[{ accessFlags := 1, nameIndex := 5, descriptorIndex := 6, attributes := #[] }, { accessFlags := 10, nameIndex := 11, descriptorIndex := 12, attributes := #[] }, { accessFlags := 10, nameIndex := 31, descriptorIndex := 32, attributes := #[] }, { accessFlags := 9, nameIndex := 36, descriptorIndex := 37, attributes := #[] }] 49 2 #[] #[])
  fields := #[]
  methods := #[k1m0, k1m1, k1m2, k1m3]
  instanceTypes := #[]
  staticTypes := #[]
  resolved := Array.replicate 48 none
  statics := none }

def pool2 : Array CpInfo := pool [(3, .methodref 4 5), (0, .class_ 6), (0, .nameAndType 7 8), (0, u "java/lang/Object"), (0, u "<init>"), (0, u "()V"), (0, .fieldref 10 11), (0, .class_ 12), (0, .nameAndType 13 14), (0, u "com/example/housemartin/housemartin/record/SpellColumns"), (0, u "agents"), (0, u "[I"), (0, .fieldref 10 16), (0, .nameAndType 17 14), (0, u "firms"), (0, .fieldref 10 19), (0, .nameAndType 20 14), (0, u "starts"), (0, .fieldref 10 22), (0, .nameAndType 23 14), (0, u "ends"), (0, .fieldref 10 25), (0, .nameAndType 26 27), (0, u "reasons"), (0, u "[B"), (0, .fieldref 10 29), (0, .nameAndType 30 31), (0, u "lines"), (0, u "[J"), (0, .fieldref 10 33), (0, .nameAndType 34 35), (0, u "size"), (0, u "I"), (0, .integer 2147483639), (7, .long 2147483639), (1, .long 2), (33, u "REASONS"), (0, u "[Lcom/example/housemartin/housemartin/record/Spell$EndReason;"), (16, .class_ 100), (1, u "com/example/housemartin/housemartin/record/SpellColumns$Order"), (26, u "OPEN"), (1, u "MAX_SPELLS"), (0, u "SHORT_RUN"), (1, u "NO_REASON"), (0, u "B"), (3, u "add"), (0, u "(IIIILcom/example/housemartin/housemartin/record/Spell$EndReason;J)V"), (19, u "byAgent"), (0, u "(I)[I")] 26

def k2c0 : Code := { maxStack := 2, maxLocals := 1, code := prog_33_method_1_code, exceptionTable := #[], attributes := #[] }
def k2m0 : Method := { name := "<init>", desc := "()V", sig := { parameters := [], returnType := none }, accessFlags := 0, code := some k2c0 }
def k2c1 : Code := { maxStack := 6, maxLocals := 9, code := prog_33_method_3_code, exceptionTable := #[], attributes := #[] }
def k2m1 : Method := { name := "add", desc := "(IIIILcom/example/housemartin/housemartin/record/Spell$EndReason;J)V", sig := { parameters := [.int, .int, .int, .int, (.object "com/example/housemartin/housemartin/record/Spell$EndReason"), .long], returnType := none }, accessFlags := 0, code := some k2c1 }
def k2c2 : Code := { maxStack := 6, maxLocals := 5, code := prog_33_method_14_code, exceptionTable := #[], attributes := #[] }
def k2m2 : Method := { name := "byAgent", desc := "(I)[I", sig := { parameters := [.int], returnType := some (.array .int) }, accessFlags := 0, code := some k2c2 }
/-- com/example/housemartin/housemartin/record/SpellColumns -/
def k2 : Class := { plain "com/example/housemartin/housemartin/record/SpellColumns" (some 0) with
  accessFlags := 48
  interfaces := #[]
  cf := some (fileOf pool2 10 #[.nestMembers #[98]] #[{ accessFlags := 0, nameIndex := 7, descriptorIndex := 8, attributes := #[] }, { accessFlags := 0, nameIndex := 137, descriptorIndex := 138, attributes := #[] }, { accessFlags := 0, nameIndex := 158, descriptorIndex := 159, attributes := #[] }] 48 4 #[] #[{ accessFlags := 24, nameIndex := 127, descriptorIndex := 35, attributes := #[] }, { accessFlags := 24, nameIndex := 129, descriptorIndex := 35, attributes := #[] }, { accessFlags := 26, nameIndex := 130, descriptorIndex := 35, attributes := #[] }, { accessFlags := 26, nameIndex := 132, descriptorIndex := 133, attributes := #[] }, { accessFlags := 26, nameIndex := 80, descriptorIndex := 81, attributes := #[] }, { accessFlags := 2, nameIndex := 13, descriptorIndex := 14, attributes := #[] }, { accessFlags := 2, nameIndex := 17, descriptorIndex := 14, attributes := #[] }, { accessFlags := 2, nameIndex := 20, descriptorIndex := 14, attributes := #[] }, { accessFlags := 2, nameIndex := 23, descriptorIndex := 14, attributes := #[] }, { accessFlags := 2, nameIndex := 26, descriptorIndex := 27, attributes := #[] }, { accessFlags := 2, nameIndex := 30, descriptorIndex := 31, attributes := #[] }, { accessFlags := 2, nameIndex := 34, descriptorIndex := 35, attributes := #[] }])
  fields := #[{ name := "OPEN", type := .int, accessFlags := 24, slot := 0, constantValue := 0 }, { name := "MAX_SPELLS", type := .int, accessFlags := 24, slot := 1, constantValue := 0 }, { name := "SHORT_RUN", type := .int, accessFlags := 26, slot := 2, constantValue := 0 }, { name := "NO_REASON", type := .byte, accessFlags := 26, slot := 3, constantValue := 0 }, { name := "REASONS", type := (.array (.object "com/example/housemartin/housemartin/record/Spell$EndReason")), accessFlags := 26, slot := 4, constantValue := 0 }, { name := "agents", type := (.array .int), accessFlags := 2, slot := 0, constantValue := 0 }, { name := "firms", type := (.array .int), accessFlags := 2, slot := 1, constantValue := 0 }, { name := "starts", type := (.array .int), accessFlags := 2, slot := 2, constantValue := 0 }, { name := "ends", type := (.array .int), accessFlags := 2, slot := 3, constantValue := 0 }, { name := "reasons", type := (.array .byte), accessFlags := 2, slot := 4, constantValue := 0 }, { name := "lines", type := (.array .long), accessFlags := 2, slot := 5, constantValue := 0 }, { name := "size", type := .int, accessFlags := 2, slot := 6, constantValue := 0 }]
  methods := #[k2m0, k2m1, k2m2]
  instanceTypes := #[(.array .int), (.array .int), (.array .int), (.array .int), (.array .byte), (.array .long), .int]
  staticTypes := #[.int, .int, .int, .byte, (.array (.object "com/example/housemartin/housemartin/record/Spell$EndReason"))]
  resolved := Array.replicate 186 none
  statics := none }

def pool3 : Array CpInfo := pool [(1, u "java/lang/Cloneable"), (0, .class_ 1), (0, u "java/lang/Object"), (0, .class_ 3)] 3

/-- java/lang/Cloneable -/
def k3 : Class := { plain "java/lang/Cloneable" (some 0) with
  accessFlags := 1537
  interfaces := #[]
  cf := some (fileOf pool3 2 #[] #[] 1537 4 #[] #[])
  fields := #[]
  methods := #[]
  instanceTypes := #[]
  staticTypes := #[]
  resolved := Array.replicate 8 none
  statics := none }

def pool4 : Array CpInfo := pool [(1, u "java/io/Serializable"), (0, .class_ 1), (0, u "java/lang/Object"), (0, .class_ 3)] 3

/-- java/io/Serializable -/
def k4 : Class := { plain "java/io/Serializable" (some 0) with
  accessFlags := 1537
  interfaces := #[]
  cf := some (fileOf pool4 2 #[] #[] 1537 4 #[] #[])
  fields := #[]
  methods := #[]
  instanceTypes := #[]
  staticTypes := #[]
  resolved := Array.replicate 8 none
  statics := none }

/-- the primitive byte -/
def k5 : Class := { plain "byte" none with kind := .primitive 'B', accessFlags := 0x411 }
/-- [B -/
def k6 : Class := { plain "[B" (some 0) with kind := .array 5 .byte, interfaces := #[3, 4], accessFlags := 1041 }

/-- the primitive int -/
def k7 : Class := { plain "int" none with kind := .primitive 'I', accessFlags := 0x411 }
/-- [I -/
def k8 : Class := { plain "[I" (some 0) with kind := .array 7 .int, interfaces := #[3, 4], accessFlags := 1041 }

/-- the primitive long -/
def k9 : Class := { plain "long" none with kind := .primitive 'J', accessFlags := 0x411 }
/-- [J -/
def k10 : Class := { plain "[J" (some 0) with kind := .array 9 .long, interfaces := #[3, 4], accessFlags := 1041 }

def heap : Heap := #[]
def classes : Array Class := #[k0, k1, k2, k3, k4, k5, k6, k7, k8, k9, k10]
def interned : List (Array UInt16 × Addr) := []
def slotsUsed : Nat := 0
def theMethod : MethodId := ⟨1, 3⟩
def args0 : Array Value := #[.int 3, .int 6, .int 7, .int 9, .int 1]
def aboutOver (below : List Frame) : State where
  vm := { classes := classes, interned := interned.toArray }
  heap := heap
  slotsUsed := slotsUsed
  threads := #[{ frames := .invoking theMethod args0 :: below }]
def below0 : List Frame := [.native { method := ⟨0, 0⟩, args := #[] }]
def about1 : State := aboutOver below0
def p0 : Program := .bare "" "" ""
def e0 : Env := launch0.env 0 0 0
theorem w_frames : about1.frames = Frame.invoking theMethod args0 :: below0 := rfl
set_option maxRecDepth 65536 in
theorem w_args : argsFit about1.vm theMethod args0 = true := by decide +kernel
set_option maxRecDepth 65536 in
theorem w_heap : heapFits about1 = true := by decide +kernel
set_option maxRecDepth 65536 in
theorem w_runnable : about1.curStatus? = some .runnable := by decide +kernel
set_option maxRecDepth 65536 in
theorem w_alone : about1.alone = true := by decide +kernel
set_option maxRecDepth 65536 in
theorem w_named : about1.methodNamed? x = some theMethod := by decide +kernel
set_option maxRecDepth 65536 in
theorem w_hears : about1.hears theMethod below0 = true := by decide +kernel
set_option maxRecDepth 65536 in
theorem w_ripe : about1.ripe theMethod args0 below0 = true := by decide +kernel
theorem w_running : about1.status = .running := rfl
set_option maxRecDepth 65536 in
theorem w_room : about1.hasRoom e0.platform room_1 = true :=
  launch0.hasRoom_least _ room_1 (by decide +kernel) (by decide +kernel) (by decide +kernel) (by decide +kernel) (by decide +kernel) (by decide +kernel)
theorem allAtoms_all (ts : List Jvm.Cond) (a : Array Jvm.Value) (st : Jvm.State) : (allAtoms ts).before a st = ts.all (fun c => c.before a st) := by
  induction ts with
  | nil => rfl
  | cons c t ih =>
    show (Jvm.Cond.and c (allAtoms t)).before a st = _
    rw [Jvm.Cond.before_and, ih, List.all_cons]
def words1 : List Jvm.Cond := Jvm.Cond.code x code maxLocals ret :: tables_1
/-- a 'code' word, met by the world's own term for the bytes: nothing is compared byte by byte -/
theorem code_word {y : MethodName} {bytes : ByteArray} {mx : Nat} {rt : Option FieldType} {a : Array Value} {s : State} {m : MethodId} {meth : Method} {c : Code} (h1 : s.methodNamed? y = some m) (h2 : s.vm.method? m = some meth) (h3 : meth.code = some c) (h4 : c.code = bytes)
    (h5 : (c.maxLocals == mx && c.exceptionTable.isEmpty && decide (c.maxStack ≤ mostOperands) && decide (meth.sig.returnType = rt) && !meth.locks && decide (parseMethodDescriptor y.desc = some meth.sig)) = true) : (Jvm.Cond.code y bytes mx rt).before a s = true := by
  simp only [Bool.and_eq_true, beq_iff_eq, Bool.not_eq_true', decide_eq_true_eq] at h5
  obtain ⟨⟨⟨⟨⟨g1, g2⟩, g3⟩, g4⟩, g5⟩, g6⟩ := h5
  simp [Cond.before, Cond.holds, Cond.value, h1, h2, h3, h4, g1, g2, g3, g4, g5, g6]
def isCode : Jvm.Cond → Bool
  | .code _ _ _ _ => true
  | _ => false
theorem all_split {L : List Jvm.Cond} {P : Jvm.Cond → Bool} (h1 : L.all (fun c => isCode c || P c) = true) (h2 : ∀ c ∈ L.filter isCode, P c = true) : L.all P = true := by
  refine List.all_eq_true.mpr fun c hc => ?_
  have h := List.all_eq_true.mp h1 c hc
  rcases Bool.eq_false_or_eq_true (isCode c) with hi | hi
  · exact h2 c (List.mem_filter.mpr ⟨hc, hi⟩)
  · simpa [hi] using h
set_option maxRecDepth 65536 in
theorem w_c0 : (Jvm.Cond.code x code maxLocals ret).before args0 about1 = true := code_word (m := ⟨1, 3⟩) (meth := k1m3) (c := k1c3) (by decide +kernel) rfl rfl rfl (by decide +kernel)
set_option maxRecDepth 65536 in
theorem w_c1 : (Jvm.Cond.code ({ cls := "com/example/housemartin/housemartin/record/SpellColumns", name := "<init>", desc := "()V" } : Jvm.MethodName) prog_33_method_1_code (1 : Nat) (Option.none : Option Jvm.ClassFile.FieldType)).before args0 about1 = true := code_word (m := ⟨2, 0⟩) (meth := k2m0) (c := k2c0) (by decide +kernel) rfl rfl rfl (by decide +kernel)
set_option maxRecDepth 65536 in
theorem w_c2 : (Jvm.Cond.code ({ cls := "java/lang/Object", name := "<init>", desc := "()V" } : Jvm.MethodName) object_method_1_code (1 : Nat) (Option.none : Option Jvm.ClassFile.FieldType)).before args0 about1 = true := code_word (m := ⟨0, 0⟩) (meth := k0m0) (c := k0c0) (by decide +kernel) rfl rfl rfl (by decide +kernel)
set_option maxRecDepth 65536 in
theorem w_c3 : (Jvm.Cond.code ({ cls := "com/example/housemartin/housemartin/record/SpellColumns", name := "byAgent", desc := "(I)[I" } : Jvm.MethodName) prog_33_method_14_code (5 : Nat) (Option.some (Jvm.ClassFile.FieldType.array Jvm.ClassFile.FieldType.int))).before args0 about1 = true := code_word (m := ⟨2, 2⟩) (meth := k2m2) (c := k2c2) (by decide +kernel) rfl rfl rfl (by decide +kernel)
set_option maxRecDepth 65536 in
theorem w_c4 : (Jvm.Cond.code ({ cls := "com/example/housemartin/housemartin/record/SpellColumns", name := "add", desc := "(IIIILcom/example/housemartin/housemartin/record/Spell$EndReason;J)V" } : Jvm.MethodName) prog_33_method_3_code (9 : Nat) (Option.none : Option Jvm.ClassFile.FieldType)).before args0 about1 = true := code_word (m := ⟨2, 1⟩) (meth := k2m1) (c := k2c1) (by decide +kernel) rfl rfl rfl (by decide +kernel)
set_option maxRecDepth 65536 in
theorem w_c5 : (Jvm.Cond.code ({ cls := "com/example/housemartin/housemartin/record/SpellColumnsByAgentPinLaw", name := "rank", desc := "([III)I" } : Jvm.MethodName) method_3_code (3 : Nat) (Option.some Jvm.ClassFile.FieldType.int)).before args0 about1 = true := code_word (m := ⟨1, 2⟩) (meth := k1m2) (c := k1c2) (by decide +kernel) rfl rfl rfl (by decide +kernel)
set_option maxRecDepth 65536 in
theorem w_c6 : (Jvm.Cond.code ({ cls := "com/example/housemartin/housemartin/record/SpellColumnsByAgentPinLaw", name := "term", desc := "([IIII)I" } : Jvm.MethodName) method_2_code (4 : Nat) (Option.some Jvm.ClassFile.FieldType.int)).before args0 about1 = true := code_word (m := ⟨1, 1⟩) (meth := k1m1) (c := k1c1) (by decide +kernel) rfl rfl rfl (by decide +kernel)
def codes1 : List Jvm.Cond := [Jvm.Cond.code x code maxLocals ret, Jvm.Cond.code ({ cls := "com/example/housemartin/housemartin/record/SpellColumns", name := "<init>", desc := "()V" } : Jvm.MethodName) prog_33_method_1_code (1 : Nat) (Option.none : Option Jvm.ClassFile.FieldType), Jvm.Cond.code ({ cls := "java/lang/Object", name := "<init>", desc := "()V" } : Jvm.MethodName) object_method_1_code (1 : Nat) (Option.none : Option Jvm.ClassFile.FieldType), Jvm.Cond.code ({ cls := "com/example/housemartin/housemartin/record/SpellColumns", name := "byAgent", desc := "(I)[I" } : Jvm.MethodName) prog_33_method_14_code (5 : Nat) (Option.some (Jvm.ClassFile.FieldType.array Jvm.ClassFile.FieldType.int)), Jvm.Cond.code ({ cls := "com/example/housemartin/housemartin/record/SpellColumns", name := "add", desc := "(IIIILcom/example/housemartin/housemartin/record/Spell$EndReason;J)V" } : Jvm.MethodName) prog_33_method_3_code (9 : Nat) (Option.none : Option Jvm.ClassFile.FieldType), Jvm.Cond.code ({ cls := "com/example/housemartin/housemartin/record/SpellColumnsByAgentPinLaw", name := "rank", desc := "([III)I" } : Jvm.MethodName) method_3_code (3 : Nat) (Option.some Jvm.ClassFile.FieldType.int), Jvm.Cond.code ({ cls := "com/example/housemartin/housemartin/record/SpellColumnsByAgentPinLaw", name := "term", desc := "([IIII)I" } : Jvm.MethodName) method_2_code (4 : Nat) (Option.some Jvm.ClassFile.FieldType.int)]
set_option maxRecDepth 65536 in
theorem codes_eq : words1.filter isCode = codes1 := rfl
theorem w_codes : ∀ c ∈ words1.filter isCode, c.before args0 about1 = true := by
  rw [codes_eq]
  intro c hc
  simp only [codes1, List.mem_cons, List.not_mem_nil, or_false] at hc
  rcases hc with rfl | rfl | rfl | rfl | rfl | rfl | rfl
  · exact w_c0
  · exact w_c1
  · exact w_c2
  · exact w_c3
  · exact w_c4
  · exact w_c5
  · exact w_c6
set_option maxRecDepth 65536 in
theorem w_t1 : (words1.take 24).all (fun c => isCode c || c.before args0 about1) = true := by decide +kernel
set_option maxRecDepth 65536 in
theorem w_t2 : ((words1.drop 24).take 24).all (fun c => isCode c || c.before args0 about1) = true := by decide +kernel
set_option maxRecDepth 65536 in
theorem w_t3 : ((words1.drop 24).drop 24).all (fun c => isCode c || c.before args0 about1) = true := by decide +kernel
theorem w_tables : (allAtoms (Jvm.Cond.code x code maxLocals ret :: tables_1)).before args0 about1 = true := by
  rw [allAtoms_all]
  show words1.all (fun c => c.before args0 about1) = true
  refine all_split ?_ w_codes
  rw [← List.take_append_drop 24 words1, List.all_append, w_t1, ← List.take_append_drop 24 (words1.drop 24), List.all_append, w_t2, w_t3]
  rfl
set_option maxRecDepth 65536 in
theorem w_case : (Jvm.Cond.and given_1 narrow_1).before args0 about1 = true := by decide +kernel
theorem w_applies : (headSpec (Jvm.Cond.code x code maxLocals ret :: tables_1) room_1).applies x e0.platform about1 = true :=
  (Spec.applies_iff w_frames).mpr ⟨w_running, w_runnable, w_alone, w_named, w_hears, w_ripe, w_room, w_tables⟩
theorem atStart : AtStart classFile x code maxLocals ret World_1 tables_1 room_1 Calls_1 rest_1 Pre_1 launch0 p0 e0 about1 theMethod args0 below0 :=
  ⟨lists_1, trivial, launch0.admits_env _ _ _, launch0.least_env, fairChoices_fair.cas, fairChoices_fair.clock, w_frames, w_args, w_heap, w_applies, trivial, trivial, w_case⟩
end start1
theorem witness_1 : WitnessClaimed_1 := ⟨start1.p0, start1.e0, start1.about1, start1.theMethod, start1.args0, start1.below0, start1.atStart⟩
end Jvm.Pilot.@@N@@
