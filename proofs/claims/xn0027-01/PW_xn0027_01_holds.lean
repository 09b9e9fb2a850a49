import PyProof.Rows.All
import Wide.All
import OpenK.AllK
import Wide.FinOn
import PySem.Challenge.RW_xn0027_01
set_option Elab.async false
set_option maxRecDepth 100000
set_option linter.unusedVariables false
set_option rowWalk.seconds 0
namespace Mine
local macro_rules | `(tactic| walk_at $s:str) => `(tactic| k_extra $s)
section
set_option autoImplicit false
/-! Robin Hood's ring, with no program in sight -/
noncomputable def wy (n h p : Nat) : Nat := if h ≤ p then p - h else p + n - h
theorem wy_s (n h p : Nat) : (h ≤ p ∧ wy n h p = p - h) ∨ (p < h ∧ wy n h p = p + n - h) := by
  unfold wy
  by_cases q : h ≤ p
  · rw [if_pos q]; exact .inl ⟨q, rfl⟩
  · rw [if_neg q]; exact .inr ⟨Nat.lt_of_not_le q, rfl⟩
noncomputable def nx (n p : Nat) : Nat := if p + 1 = n then 0 else p + 1
theorem nx_s (n p : Nat) : (p + 1 = n ∧ nx n p = 0) ∨ (p + 1 ≠ n ∧ nx n p = p + 1) := by
  unfold nx; split <;> (first | lia | omega)
theorem nx_lt {n p : Nat} (hp : p < n) : nx n p < n := by have := nx_s n p; (first | lia | omega)
theorem wy_lt {n a b : Nat} (ha : a < n) (hb : b < n) : wy n a b < n := by have := wy_s n a b; omega
theorem wy_self (n a : Nat) : wy n a a = 0 := by unfold wy; rw [if_pos (Nat.le_refl a), Nat.sub_self]
theorem wy_eq0 {n a b : Nat} (ha : a < n) (h : wy n a b = 0) : a = b := by have := wy_s n a b; omega
theorem wy_a {n h : Nat} (p : Nat) (hh : h < n) : wy n h p + h = p ∨ wy n h p + h = p + n := by
  rcases wy_s n h p with ⟨q, e⟩ | ⟨q, e⟩
  · exact .inl (e ▸ Nat.sub_add_cancel q)
  · exact .inr (e ▸ Nat.sub_add_cancel (Nat.le_of_lt (Nat.lt_of_lt_of_le hh (Nat.le_add_left ..))))
theorem tri_a {n a b c X Y Z : Nat} (x : X + a = b ∨ X + a = b + n) (y : Y + b = c ∨ Y + b = c + n) (z : Z + a = c ∨ Z + a = c + n) (l1 : X < n) (l2 : Y < n) (l3 : Z < n) : X + Y = Z ∨ X + Y = Z + n := by
  (first | lia | omega)
theorem wy_tri {n a b c : Nat} (ha : a < n) (hb : b < n) (hc : c < n) : wy n a b + wy n b c = wy n a c ∨ wy n a b + wy n b c = wy n a c + n :=
  tri_a (wy_a b ha) (wy_a c hb) (wy_a c ha) (wy_lt ha hb) (wy_lt hb hc) (wy_lt ha hc)
theorem wy_inj {n a b p : Nat} (ha : a < n) (hb : b < n) (hp : p < n) : wy n a p = wy n b p ↔ a = b := by
  refine ⟨fun h => ?_, fun h => by rw [h]⟩
  have t := wy_tri ha hb hp
  have l := wy_lt ha hb
  exact wy_eq0 ha (by (first | lia | omega))
theorem wy_inj2 {n a b h : Nat} (hh : h < n) (ha : a < n) (hb : b < n) : wy n h a = wy n h b ↔ a = b := by
  refine ⟨fun e => ?_, fun e => by rw [e]⟩
  have t := wy_tri hh ha hb
  have l := wy_lt ha hb
  exact wy_eq0 ha (by (first | lia | omega))
theorem wy_one {n p : Nat} (hp : p < n) : (n = 1 ∧ nx n p = p) ∨ (nx n p ≠ p ∧ wy n p (nx n p) = 1) := by
  rcases nx_s n p with ⟨h, e⟩ | ⟨h, e⟩
  · rw [e]
    by_cases q : p = 0
    · subst q; exact .inl ⟨h.symm, rfl⟩
    · refine .inr ⟨fun x => q x.symm, ?_⟩
      unfold wy; rw [if_neg (fun x => q (Nat.le_zero.mp x)), ← h]
      omega
  · rw [e]; refine .inr ⟨Nat.succ_ne_self p, ?_⟩
    unfold wy; rw [if_pos (Nat.le_succ p)]; omega
theorem wy_step {n h p : Nat} (hh : h < n) (hp : p < n) : (h = nx n p ∧ wy n h p + 1 = n) ∨ (h ≠ nx n p ∧ wy n h (nx n p) = wy n h p + 1) := by
  have t := wy_tri hh hp (nx_lt hp)
  have l := wy_lt hh hp
  have l2 := wy_lt hh (nx_lt hp)
  rcases wy_one hp with ⟨e1, e2⟩ | ⟨_, e⟩
  · left; rw [e2]; (first | lia | omega)
  · rw [e] at t
    by_cases q : h = nx n p
    · left
      refine ⟨q, ?_⟩
      have z : wy n h (nx n p) = 0 := by rw [← q]; exact wy_self n h
      (first | lia | omega)
    · right
      refine ⟨q, ?_⟩
      have z : wy n h (nx n p) ≠ 0 := fun z => q (wy_eq0 hh z)
      (first | lia | omega)
theorem wy_back {n z p : Nat} (hz : z < n) (hp : p < n) : (z = p ∧ wy n (nx n z) p + 1 = n) ∨ (z ≠ p ∧ wy n (nx n z) p + 1 = wy n z p) := by
  have t := wy_tri hz (nx_lt hz) hp
  have l := wy_lt (nx_lt hz) hp
  have l2 := wy_lt hz hp
  rcases wy_one hz with ⟨e1, e2⟩ | ⟨_, e⟩
  · left; rw [e2]; (first | lia | omega)
  · rw [e] at t
    by_cases q : z = p
    · left
      refine ⟨q, ?_⟩
      have x : wy n z p = 0 := by rw [← q]; exact wy_self n z
      (first | lia | omega)
    · right
      refine ⟨q, ?_⟩
      have x : wy n z p ≠ 0 := fun x => q (wy_eq0 hz x)
      (first | lia | omega)
structure Ring (K : Type) where
  n : Nat
  home : K → Nat
  lt : K → K → Bool
  n0 : 0 < n
  hh : ∀ k, home k < n
  irr : ∀ k, lt k k = false
  tr : ∀ a b c, lt a b = true → lt b c = true → lt a c = true
  tri : ∀ a b, lt a b = false → lt b a = false → a = b
section
variable {K : Type} (R : Ring K)
noncomputable def Ring.way (k : K) (p : Nat) : Nat := wy R.n (R.home k) p
noncomputable def Ring.Le (p : Nat) (j k : K) : Prop := R.way k p < R.way j p ∨ (R.way j p = R.way k p ∧ R.lt k j = false)
noncomputable def Ring.bef (p : Nat) (j k : K) : Bool := decide (R.way k p < R.way j p) || (R.way j p == R.way k p && R.lt j k)
noncomputable def Ring.I1 (A : Nat → Option K) : Prop := ∀ p, p < R.n → ∀ k, A (nx R.n p) = some k → R.home k ≠ nx R.n p → ∃ j, A p = some j ∧ R.Le p j k
/-- no way crosses the bound just ahead of place z -/
noncomputable def Ring.Cut (A : Nat → Option K) (z : Nat) : Prop := ∀ p, p < R.n → ∀ k, A p = some k → R.way k p ≤ wy R.n z p
section
variable {R}
theorem Ring.asym {a b : K} (h : R.lt a b = true) : R.lt b a = false := by
  cases e : R.lt b a with
  | false => rfl
  | true => have := R.tr _ _ _ h e; rw [R.irr] at this; cases this
theorem Ring.le_tr {a b c : K} (h1 : R.lt b a = false) (h2 : R.lt c b = false) : R.lt c a = false := by
  cases e : R.lt c a with
  | false => rfl
  | true =>
    cases e2 : R.lt a b with
    | true => rw [R.tr _ _ _ e e2] at h2; cases h2
    | false => rw [R.tri _ _ e2 h1] at e; rw [e] at h2; cases h2
theorem Ring.Le.refl (p : Nat) (k : K) : R.Le p k k := .inr ⟨rfl, R.irr k⟩
theorem Ring.Le.trans {p : Nat} {a b c : K} (h1 : R.Le p a b) (h2 : R.Le p b c) : R.Le p a c := by
  unfold Ring.Le at *
  rcases h1 with h1 | ⟨h1, l1⟩ <;> rcases h2 with h2 | ⟨h2, l2⟩
  · left; (first | lia | omega)
  · left; (first | lia | omega)
  · left; (first | lia | omega)
  · right; exact ⟨by (first | lia | omega), R.le_tr l1 l2⟩
theorem Ring.bef_le {p : Nat} {j k : K} (h : R.bef p j k = true) : R.Le p j k := by
  unfold Ring.bef at h; unfold Ring.Le
  simp only [Bool.or_eq_true, decide_eq_true_eq, Bool.and_eq_true, beq_iff_eq] at h
  rcases h with h | ⟨h, l⟩
  · exact .inl h
  · exact .inr ⟨h, R.asym l⟩
theorem Ring.nbef_le {p : Nat} {j k : K} (h : R.bef p j k = false) : R.Le p k j := by
  unfold Ring.bef at h; unfold Ring.Le
  simp only [Bool.or_eq_false_iff, decide_eq_false_iff_not, Bool.and_eq_false_imp, beq_iff_eq] at h
  rcases Nat.lt_trichotomy (R.way j p) (R.way k p) with e | e | e
  · exact .inl e
  · exact .inr ⟨e.symm, h.2 e⟩
  · exact absurd e h.1
theorem Ring.le_bef {p : Nat} {j k : K} (h : R.Le p j k) (hne : j ≠ k) : R.bef p j k = true := by
  unfold Ring.Le at h; unfold Ring.bef
  simp only [Bool.or_eq_true, decide_eq_true_eq, Bool.and_eq_true, beq_iff_eq]
  rcases h with h | ⟨h, l⟩
  · exact .inl h
  · refine .inr ⟨h, ?_⟩
    cases e : R.lt j k with
    | true => rfl
    | false => exact absurd (R.tri _ _ e l) hne
theorem Ring.bef_self (p : Nat) (k : K) : R.bef p k k = false := by unfold Ring.bef; simp [R.irr]
theorem Ring.way_lt {k : K} {p : Nat} (h : p < R.n) : R.way k p < R.n := by
  exact wy_lt (R.hh k) h
theorem Ring.way_nx {k : K} {p : Nat} (hp : p < R.n) (h : R.home k ≠ nx R.n p) : R.way k (nx R.n p) = R.way k p + 1 := by
  unfold Ring.way
  rcases wy_step (R.hh k) hp with ⟨e, _⟩ | ⟨_, e⟩
  · exact absurd e h
  · exact e
theorem Ring.way_zero {k : K} {p : Nat} (hp : p < R.n) : R.way k p = 0 ↔ R.home k = p := by
  unfold Ring.way
  exact ⟨wy_eq0 (R.hh k), fun e => by rw [e]; exact wy_self _ _⟩
theorem Ring.le_back {p : Nat} {j k : K} (hp : p < R.n) (hj : R.home j ≠ nx R.n p) (hk : R.home k ≠ nx R.n p) (h : R.Le (nx R.n p) j k) : R.Le p j k := by
  unfold Ring.Le at *
  rw [R.way_nx hp hj, R.way_nx hp hk] at h
  rcases h with h | ⟨h, l⟩
  · left; (first | lia | omega)
  · right; exact ⟨by (first | lia | omega), l⟩
/-- all places between a key's wish and its place are taken by keys that go first -/
theorem Ring.I1.glob {A : Nat → Option K} (I : R.I1 A) : ∀ (d q p : Nat) (k : K), q < R.n → p < R.n → A p = some k → wy R.n q p = d → d ≤ R.way k p → ∃ j, A q = some j ∧ R.Le q j k := by
  intro d
  induction d with
  | zero =>
    intro q p k hq hp hA hd _
    have : q = p := wy_eq0 hq hd
    subst this
    exact ⟨k, hA, .refl _ _⟩
  | succ d ih =>
    intro q p k hq hp hA hd hle
    have hq' := nx_lt hq
    obtain ⟨j, hj, lj⟩ := ih (nx R.n q) p k hq' hp hA (by
      rcases wy_back hq hp with ⟨e, _⟩ | ⟨_, e⟩
      · rw [e, wy_self] at hd; cases hd
      · rw [hd] at e; exact Nat.succ.inj e) (Nat.le_of_succ_le hle)
    have hk : R.home k ≠ nx R.n q := by
      unfold Ring.way at hle
      intro e
      rw [e] at hle
      rcases wy_back hq hp with ⟨e2, _⟩ | ⟨_, e2⟩
      · rw [e2, wy_self] at hd; cases hd
      · clear ih lj; (first | lia | omega)
    have hj' : R.home j ≠ nx R.n q := by
      intro e
      have h0 : R.way j (nx R.n q) = 0 := (R.way_zero hq').mpr e
      have h1 : R.way k (nx R.n q) ≠ 0 := fun e => hk ((R.way_zero hq').mp e)
      unfold Ring.Le at lj
      (first | lia | omega)
    obtain ⟨i, hi, li⟩ := I q hq j hj hj'
    exact ⟨i, hi, li.trans (R.le_back hq hj' hk lj)⟩
theorem Ring.cut_none {A : Nat → Option K} (I : R.I1 A) {z : Nat} (hz : z < R.n) (h : A z = none) : R.Cut A z := by
  intro p hp k hk
  refine Nat.le_of_not_lt fun hlt => ?_
  obtain ⟨j, hj, _⟩ := I.glob _ z p k hz hp hk rfl (by (first | lia | omega))
  rw [h] at hj; cases hj
theorem Ring.cut_home {A : Nat → Option K} (I : R.I1 A) {z : Nat} (hz : z < R.n) {k : K} (h : A z = some k) (hh : R.home k = z) : R.Cut A z := by
  intro p hp k' hk
  refine Nat.le_of_not_lt fun hlt => ?_
  obtain ⟨j, hj, lj⟩ := I.glob _ z p k' hz hp hk rfl (by (first | lia | omega))
  rw [h] at hj
  obtain rfl := Option.some.inj hj
  have h0 := (R.way_zero hz).mpr hh
  have : R.way k' z = 0 := by unfold Ring.Le at lj; (first | lia | omega)
  rw [R.way_zero hz] at this
  unfold Ring.way at hlt
  rw [this] at hlt
  (first | lia | omega)
end
end
/-! the table as a list of places and keys -/
section
variable {K : Type} [DecidableEq K] (R : Ring K)
noncomputable def atL (l : List (Nat × K)) (p : Nat) : Option K := (l.find? fun q => q.1 == p).map (·.2)
noncomputable def delL (l : List (Nat × K)) (p : Nat) : List (Nat × K) := l.filter fun q => !(q.1 == p)
noncomputable def layL (l : List (Nat × K)) (p : Nat) (k : K) : List (Nat × K) := delL l p ++ [(p, k)]
noncomputable def putL : Nat → List (Nat × K) → Nat → K → Option (List (Nat × K))
  | 0, _, _, _ => none
  | f + 1, l, p, key => match atL l p with
    | none => some (layL l p key)
    | some there => if R.bef p key there then putL f (layL l p key) (nx R.n p) there else putL f l (nx R.n p) key
noncomputable def takeL : Nat → List (Nat × K) → Nat → Nat → Option (List (Nat × K))
  | 0, _, _, _ => none
  | f + 1, l, hole, p => match atL l p with
    | none => some l
    | some there => if wy R.n hole p ≤ R.way there p then takeL f (delL (layL l hole there) p) p (nx R.n p) else takeL f l hole (nx R.n p)
noncomputable def seekL (l : List (Nat × K)) (key : K) : Nat → Nat → Nat
  | 0, p => p
  | f + 1, p => match atL l p with
    | none => p
    | some there => if R.bef p there key then seekL l key f (nx R.n p) else p
noncomputable def deedL (f : Nat) (l : List (Nat × K)) (key : K) : Option (List (Nat × K)) :=
  let p := seekL R l key (R.n - 1) (R.home key)
  if atL l p = some key then takeL R f (delL l p) p (nx R.n p)
  else if l.length < R.n then putL R f l p key else some l
structure WF (l : List (Nat × K)) : Prop where
  nd : (l.map (·.1)).Nodup
  lt : ∀ q ∈ l, q.1 < R.n
section
variable {R}
theorem atL_nil (p : Nat) : atL ([] : List (Nat × K)) p = none := rfl
theorem atL_cons (q : Nat × K) (l : List (Nat × K)) (p : Nat) : atL (q :: l) p = if q.1 = p then some q.2 else atL l p := by
  unfold atL
  rw [List.find?_cons]
  by_cases h : q.1 = p
  · simp [h]
  · have e : (q.1 == p) = false := by simpa using h
    rw [e, if_neg h]
theorem atL_mem {l : List (Nat × K)} {p : Nat} {k : K} (h : atL l p = some k) : (p, k) ∈ l := by
  induction l with
  | nil => cases h
  | cons q l ih =>
    rw [atL_cons] at h
    split at h
    · next e => obtain rfl := Option.some.inj h; subst e; exact List.mem_cons_self ..
    · exact List.mem_cons_of_mem _ (ih h)
theorem atL_none {l : List (Nat × K)} {p : Nat} : atL l p = none ↔ ∀ q ∈ l, q.1 ≠ p := by
  induction l with
  | nil => simp [atL_nil]
  | cons q l ih =>
    rw [atL_cons]
    split
    · next e => simp [e]
    · next e => simp [ih, e]
theorem atL_of_mem {l : List (Nat × K)} (nd : (l.map (·.1)).Nodup) {p : Nat} {k : K} (h : (p, k) ∈ l) : atL l p = some k := by
  induction l with
  | nil => cases h
  | cons q l ih =>
    rw [atL_cons]
    rw [List.map_cons, List.nodup_cons] at nd
    rcases List.mem_cons.mp h with e | h
    · subst e; rw [if_pos rfl]
    · rw [if_neg, ih nd.2 h]
      intro e
      exact nd.1 (e ▸ List.mem_map_of_mem (f := (·.1)) h)
theorem atL_del (l : List (Nat × K)) (p q : Nat) : atL (delL l p) q = if q = p then none else atL l q := by
  induction l with
  | nil => simp [delL, atL_nil]
  | cons a l ih =>
    unfold delL at *
    rw [List.filter_cons, atL_cons]
    by_cases h : a.1 = p
    · rw [if_neg (by simp [h]), ih]
      by_cases e : q = p
      · rw [if_pos e, if_pos e]
      · rw [if_neg e, if_neg e, if_neg (by (first | lia | omega))]
    · rw [if_pos (by simp [h]), atL_cons, ih]
      by_cases e : a.1 = q
      · rw [if_pos e, if_pos e, if_neg (by (first | lia | omega))]
      · rw [if_neg e, if_neg e]
theorem atL_append (l r : List (Nat × K)) (q : Nat) : atL (l ++ r) q = (atL l q).or (atL r q) := by
  unfold atL
  rw [List.find?_append]
  cases l.find? _ <;> rfl
theorem atL_lay (l : List (Nat × K)) (p q : Nat) (k : K) : atL (layL l p k) q = if q = p then some k else atL l q := by
  unfold layL
  rw [atL_append, atL_del, atL_cons, atL_nil]
  by_cases e : q = p
  · subst e; simp
  · rw [if_neg e, if_neg e, if_neg (fun h => e h.symm)]; simp
theorem del_same {l : List (Nat × K)} {p : Nat} (h : atL l p = none) : delL l p = l := by
  unfold delL
  rw [List.filter_eq_self]
  intro q hq
  have := atL_none.mp h q hq
  simp [this]
theorem WF.del {l : List (Nat × K)} (W : WF R l) (p : Nat) : WF R (delL l p) :=
  ⟨W.nd.sublist ((List.filter_sublist).map _), fun q hq => W.lt q (List.mem_filter.mp hq).1⟩
theorem WF.lay {l : List (Nat × K)} (W : WF R l) {p : Nat} (hp : p < R.n) (k : K) : WF R (layL l p k) := by
  refine ⟨?_, ?_⟩
  · unfold layL
    rw [List.map_append, List.nodup_append]
    refine ⟨(W.del p).nd, by simp, ?_⟩
    intro a ha b hb
    simp only [List.map_cons, List.map_nil, List.mem_singleton] at hb
    subst hb
    obtain ⟨q, hq, rfl⟩ := List.mem_map.mp ha
    unfold delL at hq
    simpa using (List.mem_filter.mp hq).2
  · intro q hq
    rcases List.mem_append.mp hq with h | h
    · exact (W.del p).lt q h
    · simp at h; subst h; exact hp
theorem del_perm {l : List (Nat × K)} (W : (l.map (·.1)).Nodup) {p : Nat} {k : K} (h : atL l p = some k) : List.Perm (k :: (delL l p).map (·.2)) (l.map (·.2)) := by
  induction l with
  | nil => cases h
  | cons q l ih =>
    rw [List.map_cons, List.nodup_cons] at W
    rw [atL_cons] at h
    by_cases e : q.1 = p
    · rw [if_pos e] at h
      obtain rfl := Option.some.inj h
      have hn : delL l p = l := del_same (atL_none.mpr fun r hr e2 => W.1 (by rw [e, ← e2]; exact List.mem_map_of_mem (f := (·.1)) hr))
      have : delL (q :: l) p = l := by
        unfold delL at *
        rw [List.filter_cons, if_neg (by simp [e]), hn]
      rw [this]
      exact List.Perm.refl _
    · rw [if_neg e] at h
      have : delL (q :: l) p = q :: delL l p := by
        unfold delL
        rw [List.filter_cons, if_pos (by simp [e])]
      rw [this, List.map_cons, List.map_cons]
      exact (List.Perm.swap ..).trans ((ih W.2 h).cons _)
theorem lay_keys (l : List (Nat × K)) (p : Nat) (k : K) : List.Perm ((layL l p k).map (·.2)) (k :: (delL l p).map (·.2)) := by
  unfold layL
  rw [List.map_append]
  exact List.perm_append_comm
/-! the hand: a key that may stand at place p -/
noncomputable def Hand (R : Ring K) (A : Nat → Option K) (p : Nat) (k : K) : Prop := R.home k = p ∨ ∃ q, q < R.n ∧ nx R.n q = p ∧ ∃ j, A q = some j ∧ R.Le q j k
structure Fine (R : Ring K) (l : List (Nat × K)) : Prop where
  wf : WF R l
  i1 : R.I1 (atL l)
  cut : ∃ z, z < R.n ∧ R.Cut (atL l) z
theorem nx_inj {n p q : Nat} (hp : p < n) (hq : q < n) (h : nx n p = nx n q) : p = q := by
  have := nx_s n p; have := nx_s n q; (first | lia | omega)
theorem lay_i1 {l : List (Nat × K)} (I : R.I1 (atL l)) {p : Nat} (hp : p < R.n) {key : K} (H : Hand R (atL l) p key) (ht : ∀ t, atL l p = some t → R.Le p key t) : R.I1 (atL (layL l p key)) := by
  intro q hq k hk hne
  rw [atL_lay] at hk ⊢
  by_cases e : nx R.n q = p
  · rw [if_pos e] at hk
    obtain rfl := Option.some.inj hk
    rcases H with H | ⟨r, hr, e2, j, hj, lj⟩
    · exact absurd (H.trans e.symm) hne
    · obtain rfl := nx_inj hq hr (e.trans e2.symm)
      by_cases e3 : q = p
      · rw [if_pos e3]
        exact ⟨_, rfl, .refl _ _⟩
      · rw [if_neg e3]
        exact ⟨j, hj, lj⟩
  · rw [if_neg e] at hk
    obtain ⟨j, hj, lj⟩ := I q hq k hk hne
    by_cases e3 : q = p
    · rw [if_pos e3]
      subst e3
      exact ⟨key, rfl, (ht j hj).trans lj⟩
    · rw [if_neg e3]
      exact ⟨j, hj, lj⟩
theorem put_spec : ∀ (f : Nat) (l : List (Nat × K)) (p z : Nat) (key : K), WF R l → R.I1 (atL l) → p < R.n → z < R.n → atL l z = none → wy R.n p z < f → Hand R (atL l) p key →
    ∃ l', putL R f l p key = some l' ∧ Fine R l' ∧ List.Perm (l'.map (·.2)) (key :: l.map (·.2)) := by
  intro f
  induction f with
  | zero => intro _ _ _ _ _ _ _ _ _ h; (first | lia | omega)
  | succ f ih =>
    intro l p z key W I hp hz hez hf H
    unfold putL
    cases ht : atL l p with
    | none =>
      refine ⟨_, rfl, ⟨W.lay hp key, lay_i1 I hp H (fun t h => by rw [ht] at h; cases h), ?_⟩, ?_⟩
      · have I' := lay_i1 I hp H (fun t h => by rw [ht] at h; cases h)
        have hn := nx_lt hp
        refine ⟨nx R.n p, hn, ?_⟩
        cases e : atL (layL l p key) (nx R.n p) with
        | none => exact R.cut_none I' hn e
        | some k =>
          refine R.cut_home I' hn e ?_
          rw [atL_lay] at e
          by_cases e2 : nx R.n p = p
          · have := R.hh k; have := nx_s R.n p; (first | lia | omega)
          · rw [if_neg e2] at e
            refine Decidable.byContradiction fun hne => ?_
            obtain ⟨j, hj, _⟩ := I p hp k e hne
            rw [ht] at hj; cases hj
      · refine (lay_keys l p key).trans ?_
        rw [del_same ht]
    | some there =>
      have hzp : z ≠ p := fun e => by rw [e, ht] at hez; cases hez
      have hd : wy R.n (nx R.n p) z < f := by
        rcases wy_back hp hz with ⟨q, _⟩ | ⟨_, q⟩
        · exact absurd q.symm hzp
        · rw [← q] at hf; exact Nat.lt_of_succ_lt_succ hf
      dsimp only
      by_cases hb : R.bef p key there = true
      · rw [if_pos hb]
        have lb := R.bef_le hb
        obtain ⟨l', h1, h2, h3⟩ := ih (layL l p key) (nx R.n p) z there (W.lay hp key) (lay_i1 I hp H (fun t h => by rw [ht] at h; obtain rfl := Option.some.inj h; exact lb)) (nx_lt hp) hz (by rw [atL_lay, if_neg hzp]; exact hez) hd (.inr ⟨p, hp, rfl, key, by rw [atL_lay, if_pos rfl], lb⟩)
        refine ⟨l', h1, h2, h3.trans ?_⟩
        refine ((lay_keys l p key).cons _).trans ((List.Perm.swap ..).trans ?_)
        exact (del_perm W.nd ht).cons _
      · rw [if_neg hb]
        have lb := R.nbef_le (by simpa using hb)
        exact ih l (nx R.n p) z key W I (nx_lt hp) hz hez hd (.inr ⟨p, hp, rfl, there, ht, lb⟩)
theorem take_spec : ∀ (f : Nat) (l : List (Nat × K)) (hole p z a u : Nat) (x : K), WF R l → hole < R.n → p < R.n → z < R.n → atL l hole = none →
    R.I1 (fun q => if q = hole then some x else atL l q) → R.Cut (atL l) z →
    (p = nx R.n hole ∨ ∀ k, atL l (nx R.n hole) = some k → R.home k = nx R.n hole) →
    ((p ≠ hole ∧ a = wy R.n hole p) ∨ (p = hole ∧ a = R.n)) → ((z ≠ hole ∧ u = wy R.n hole z) ∨ (z = hole ∧ u = R.n)) →
    ((u ≤ a ∧ R.n + 1 ≤ f + a) ∨ (a < u ∧ u + R.n + 1 ≤ f + a)) →
    ∃ l', takeL R f l hole p = some l' ∧ Fine R l' ∧ List.Perm (l'.map (·.2)) (l.map (·.2)) := by
  intro f
  induction f with
  | zero =>
    intro l hole p z a u x W hh hp hz _ _ _ _ ha hu hf
    have := wy_lt hh hp; (first | lia | omega)
  | succ f ih =>
    intro l hole p z a u x W hh hp hz he I C hB ha hu hf
    unfold takeL
    cases ht : atL l p with
    | none =>
      have I' : R.I1 (atL l) := by
        intro q hq k hk hne
        by_cases e : q = hole
        · subst e
          rcases hB with e | hB
          · rw [← e, ht] at hk; cases hk
          · exact absurd (hB k hk) hne
        · have := I q hq k (by
            dsimp only
            by_cases e2 : nx R.n q = hole
            · rw [e2, he] at hk; cases hk
            · rw [if_neg e2]; exact hk) hne
          dsimp only at this
          rw [if_neg e] at this
          exact this
      exact ⟨l, rfl, ⟨W, I', ⟨hole, hh, R.cut_none I' hh he⟩⟩, List.Perm.refl _⟩
    | some there =>
      have hph : p ≠ hole := fun e => by rw [e, he] at ht; cases ht
      have ha' : a = wy R.n hole p := ha.elim (fun h => h.2) (fun h => absurd h.1 hph)
      clear ha
      have ha := ha'
      clear ha'
      dsimp only
      by_cases hm : wy R.n hole p ≤ R.way there p
      · rw [if_pos hm]
        have hc := C p hp there ht
        have hau : a < u := by
          have t := wy_tri hh hz hp
          have l1 := wy_lt hz hp
          have l2 := wy_lt hh hp
          clear hf ih
          rcases hu with ⟨h1, h2⟩ | ⟨h1, h2⟩
          · have x : wy R.n hole z ≠ 0 := fun x => h1 (wy_eq0 hh x).symm
            (first | lia | omega)
          · (first | lia | omega)
        have hwt : R.way there hole + wy R.n hole p = R.way there p := by
          have t := wy_tri (R.hh there) hh hp
          have l := wy_lt (R.hh there) hh
          unfold Ring.way at *
          clear hf hu hau hc ih
          (first | lia | omega)
        have hnp := nx_lt hp
        refine Exists.imp (fun l' h => ⟨h.1, h.2.1, h.2.2.trans ?_⟩) (ih (delL (layL l hole there) p) p (nx R.n p) z (if nx R.n p = p then R.n else wy R.n p (nx R.n p)) (if z = p then R.n else wy R.n p z) there ((W.lay hh there).del p) hp hnp hz (by rw [atL_del, if_pos rfl]) ?_ ?_ (.inl rfl) ?_ ?_ ?_)
        · -- I1
          have hfun : (fun q => if q = p then some there else atL (delL (layL l hole there) p) q) = fun q => if q = hole then some there else atL l q := by
            funext q
            rw [atL_del, atL_lay]
            by_cases e1 : q = p
            · rw [if_pos e1, if_neg (by rw [e1]; exact hph), e1, ht]
            · rw [if_neg e1, if_neg e1]
          rw [hfun]
          have lx : R.Le hole x there := by
            obtain ⟨j, hj, lj⟩ := I.glob _ hole p there hh hp (by (try dsimp only); rw [if_neg hph]; exact ht) rfl hm
            try dsimp only at hj
            rw [if_pos rfl] at hj
            obtain rfl := Option.some.inj hj
            exact lj
          intro q hq k hk hne
          dsimp only at hk ⊢
          by_cases e : q = hole
          · rw [if_pos e]
            subst e
            refine ⟨there, rfl, ?_⟩
            by_cases e2 : nx R.n q = q
            · rw [if_pos e2] at hk
              obtain rfl := Option.some.inj hk
              exact .refl _ _
            · rw [if_neg e2] at hk
              rcases hB with e3 | hB
              · rw [← e3, ht] at hk
                obtain rfl := Option.some.inj hk
                exact .refl _ _
              · exact absurd (hB k hk) hne
          · rw [if_neg e]
            by_cases e2 : nx R.n q = hole
            · rw [if_pos e2] at hk
              obtain rfl := Option.some.inj hk
              have hw0 : R.way there hole ≠ 0 := fun h => hne (by rw [e2]; exact (R.way_zero hh).mp h)
              have hx : R.home x ≠ nx R.n q := by
                intro h
                have h0 : R.way x hole = 0 := (R.way_zero hh).mpr (h.trans e2)
                unfold Ring.Le at lx
                (first | lia | omega)
              obtain ⟨j, hj, lj⟩ := I q hq x (by dsimp only; rw [if_pos e2]) hx
              dsimp only at hj
              rw [if_neg e] at hj
              refine ⟨j, hj, lj.trans (R.le_back hq hx hne ?_)⟩
              rw [e2]; exact lx
            · rw [if_neg e2] at hk
              obtain ⟨j, hj, lj⟩ := I q hq k (by dsimp only; rw [if_neg e2]; exact hk) hne
              dsimp only at hj
              rw [if_neg e] at hj
              exact ⟨j, hj, lj⟩
        · -- Cut
          intro q hq k hk
          rw [atL_del, atL_lay] at hk
          by_cases e1 : q = p
          · rw [if_pos e1] at hk; cases hk
          · rw [if_neg e1] at hk
            by_cases e2 : q = hole
            · rw [if_pos e2] at hk
              obtain rfl := Option.some.inj hk
              rw [e2]
              have t := wy_tri hz hh hp
              clear hf hu hau ih
              (first | lia | omega)
            · rw [if_neg e2] at hk
              exact C q hq k hk
        · split
          · next e => exact .inr ⟨e, rfl⟩
          · next e => exact .inl ⟨e, rfl⟩
        · split
          · next e => exact .inr ⟨e, rfl⟩
          · next e => exact .inl ⟨e, rfl⟩
        · have k1 : 1 ≤ (if nx R.n p = p then R.n else wy R.n p (nx R.n p)) := by
            have := R.n0
            split
            · exact this
            · next e => exact Nat.one_le_iff_ne_zero.mpr fun x => e (wy_eq0 hp x).symm
          have k2 : a + (if z = p then R.n else wy R.n p z) = u := by
            have t := wy_tri hh hp hz
            have l := wy_lt hp hz
            have l2 := wy_lt hh hz
            clear hf ih hwt hc k1
            rw [if_neg]
            · rcases hu with ⟨h1, h2⟩ | ⟨h1, h2⟩
              · (first | lia | omega)
              · rw [h1, wy_self] at t
                rw [h1]
                have x : wy R.n hole p ≠ 0 := fun x => hph (wy_eq0 hh x).symm
                (first | lia | omega)
            · intro e
              rcases hu with ⟨h1, h2⟩ | ⟨h1, h2⟩
              · rw [e] at h2; (first | lia | omega)
              · exact hph (e.symm.trans h1)
          generalize (if nx R.n p = p then R.n else wy R.n p (nx R.n p)) = a' at k1 ⊢
          generalize (if z = p then R.n else wy R.n p z) = u' at k2 ⊢
          clear hu hwt hc ih hm
          (first | lia | omega)
        · refine List.Perm.trans ?_ (del_perm W.nd ht)
          have h1 : delL (layL l hole there) p = layL (delL l p) hole there := by
            unfold layL delL
            rw [List.filter_append]
            congr 1
            · rw [List.filter_filter, List.filter_filter]
              congr 1
              funext q
              rw [Bool.and_comm]
            · simp [Ne.symm hph]
          rw [h1]
          refine (lay_keys _ _ _).trans ?_
          rw [del_same (p := hole) (by rw [atL_del, if_neg (Ne.symm hph), he])]
      · rw [if_neg hm]
        have hm' := Nat.lt_of_not_le hm
        have k3 : (if nx R.n p = hole then R.n else wy R.n hole (nx R.n p)) = a + 1 := by
          rcases wy_step hh hp with ⟨e, e2⟩ | ⟨e, e2⟩
          · rw [if_pos e.symm, ha]; exact e2.symm
          · rw [if_neg (Ne.symm e), ha]; exact e2
        have hx : R.home there = p ∨ p ≠ nx R.n hole := by
          by_cases e : p = nx R.n hole
          · left
            refine (R.way_zero hp).mp ?_
            rcases wy_one hh with ⟨_, e2⟩ | ⟨_, e2⟩
            · exact absurd (e.trans e2) hph
            · rw [e, e2] at hm'
              rw [e]
              exact Nat.lt_one_iff.mp hm'
          · exact .inr e
        refine ih l hole (nx R.n p) z (if nx R.n p = hole then R.n else wy R.n hole (nx R.n p)) u x W hh (nx_lt hp) hz he I C ?_ ?_ hu ?_
        · refine .inr fun k hk => ?_
          rcases hB with e | hB
          · rw [← e, ht] at hk
            obtain rfl := Option.some.inj hk
            rcases hx with h | h
            · rw [← e]; exact h
            · exact absurd e h
          · exact hB k hk
        · split
          · next e => exact .inr ⟨e, rfl⟩
          · next e => exact .inl ⟨e, rfl⟩
        · rw [k3]
          clear hu hm hm' k3 ih
          (first | lia | omega)
end
end
section
set_option linter.unusedSectionVars false
variable {K : Type} [DecidableEq K] {R : Ring K}
theorem cnt_add {α : Type} {a b c : α → Bool} : ∀ {l : List α}, (∀ e ∈ l, (a e).toNat = (b e).toNat + (c e).toNat) → l.countP a = l.countP b + l.countP c := by
  intro l
  induction l with
  | nil => intro _; rfl
  | cons x l ih =>
    intro h
    have h1 := ih fun e he => h e (List.mem_cons_of_mem _ he)
    have h2 := h x (List.mem_cons_self ..)
    rw [List.countP_cons, List.countP_cons, List.countP_cons, h1]
    cases ha : a x <;> cases hb : b x <;> cases hc : c x <;> rw [ha, hb, hc] at h2 <;> simp at h2 ⊢ <;> (first | lia | omega)
theorem cnt_flow {α : Type} {a b c d : α → Bool} : ∀ {l : List α}, (∀ e ∈ l, (a e).toNat + (b e).toNat = (c e).toNat + (d e).toNat) → l.countP a + l.countP b = l.countP c + l.countP d := by
  intro l
  induction l with
  | nil => intro _; rfl
  | cons x l ih =>
    intro h
    have h1 := ih fun e he => h e (List.mem_cons_of_mem _ he)
    have h2 := h x (List.mem_cons_self ..)
    rw [List.countP_cons, List.countP_cons, List.countP_cons, List.countP_cons]
    cases ha : a x <;> cases hb : b x <;> cases hc : c x <;> cases hd : d x <;> rw [ha, hb, hc, hd] at h2 <;> simp at h2 ⊢ <;> (first | lia | omega)
noncomputable def occL (l : List (Nat × K)) (z : Nat) : Nat := l.countP fun e => e.1 == z
noncomputable def crL (R : Ring K) (l : List (Nat × K)) (z : Nat) : Nat := l.countP fun e => decide (wy R.n z e.1 < R.way e.2 e.1)
noncomputable def hoL (R : Ring K) (l : List (Nat × K)) (z : Nat) : Nat := l.countP fun e => R.home e.2 == z
noncomputable def leL (R : Ring K) (l : List (Nat × K)) (k : K) : Nat := l.countP fun e => R.home e.2 == R.home k && R.lt e.2 k
theorem occ_one {l : List (Nat × K)} (nd : (l.map (·.1)).Nodup) (z : Nat) : occL l z = if (atL l z).isSome then 1 else 0 := by
  induction l with
  | nil => rfl
  | cons q l ih =>
    rw [List.map_cons, List.nodup_cons] at nd
    have ih := ih nd.2
    unfold occL at *
    rw [List.countP_cons, ih, atL_cons]
    by_cases e : q.1 = z
    · have hn : atL l z = none := atL_none.mpr fun r hr e2 => nd.1 (by rw [e, ← e2]; exact List.mem_map_of_mem (f := (·.1)) hr)
      rw [if_pos e, hn]
      simp [e]
    · have e' : (q.1 == z) = false := by simpa using e
      rw [if_neg e, e']
      simp
theorem occ_le {l : List (Nat × K)} (nd : (l.map (·.1)).Nodup) (z : Nat) : occL l z ≤ 1 := by
  rw [occ_one nd]; split <;> (first | lia | omega)
theorem flow {l : List (Nat × K)} (W : WF R l) {z : Nat} (hz : z < R.n) : crL R l (nx R.n z) + occL l z = crL R l z + hoL R l z := by
  refine cnt_flow fun e he => ?_
  have hp := W.lt e he
  have h5 := R.hh e.2
  have hb := wy_back hz hp
  have hi := wy_inj h5 hz hp
  have hl := wy_lt h5 hp
  have hs : e.1 = z → wy R.n z e.1 = 0 := fun x => by rw [x]; exact wy_self _ _
  unfold Ring.way
  have s : ∀ b : Bool, b.toNat = if b = true then 1 else 0 := by decide
  rw [s, s, s, s]
  simp only [decide_eq_true_eq, beq_iff_eq]
  generalize wy R.n (R.home e.2) e.1 = x at hl hi ⊢
  generalize wy R.n (nx R.n z) e.1 = y at hb ⊢
  generalize wy R.n z e.1 = v at hb hs hi ⊢
  clear h5
  rcases hb with ⟨q, h⟩ | ⟨q, h⟩
  · rw [if_pos q.symm, if_neg (show ¬ y < x by (first | lia | omega))]
    have := hs q.symm
    by_cases x1 : R.home e.2 = z
    · have x0 := hi.mpr x1
      clear hi hs
      rw [if_pos x1, if_neg (show ¬ v < x by (first | lia | omega))]
    · have x0 : x ≠ v := fun h => x1 (hi.mp h)
      clear hi hs
      rw [if_neg x1, if_pos (show v < x by (first | lia | omega))]
  · rw [if_neg (Ne.symm q)]
    clear hs
    by_cases x2 : R.home e.2 = z
    · have x0 := hi.mpr x2
      clear hi
      rw [if_pos x2, if_pos (show y < x by (first | lia | omega)), if_neg (show ¬ v < x by (first | lia | omega))]
    · have x0 : x ≠ v := fun h => x2 (hi.mp h)
      clear hi
      rw [if_neg x2]
      by_cases x1 : y < x
      · rw [if_pos x1, if_pos (show v < x by (first | lia | omega))]
      · rw [if_neg x1, if_neg (show ¬ v < x by (first | lia | omega))]
theorem arc {l : List (Nat × K)} (W : WF R l) {h : Nat} (hh : h < R.n) : ∀ d, d ≤ R.n → (∀ q, q < R.n → wy R.n h q < d → ∃ k, atL l q = some k) → l.countP (fun e => decide (wy R.n h e.1 < d)) = d := by
  intro d
  induction d with
  | zero => intro _ _; rw [List.countP_eq_zero]; intro e _; simp
  | succ d ih =>
    intro hd H
    have hi := ih (by (first | lia | omega)) (fun q hq hw => H q hq (by (first | lia | omega)))
    have hq : (if h + d < R.n then h + d else h + d - R.n) < R.n := by split <;> (first | lia | omega)
    have hw : wy R.n h (if h + d < R.n then h + d else h + d - R.n) = d := by
      generalize e : (if h + d < R.n then h + d else h + d - R.n) = q at hq ⊢
      have := wy_s R.n h q
      split at e <;> (first | lia | omega)
    obtain ⟨k, hk⟩ := H _ hq (by (first | lia | omega))
    generalize (if h + d < R.n then h + d else h + d - R.n) = q at hq hw hk
    have ho := occ_one W.nd q
    rw [hk] at ho
    rw [cnt_add (b := fun e => decide (wy R.n h e.1 < d)) (c := fun e => e.1 == q), hi]
    · exact congrArg (d + ·) ho
    · intro e he
      have hp := W.lt e he
      have h1 := wy_inj2 hh hp hq
      rw [hw] at h1
      have s : ∀ b : Bool, b.toNat = if b = true then 1 else 0 := by decide
      rw [s, s, s]
      simp only [decide_eq_true_eq, beq_iff_eq]
      generalize wy R.n h e.1 = x at h1 ⊢
      clear hi H ih hk ho hw hd
      rcases Nat.lt_trichotomy x d with c | c | c
      · rw [if_pos (Nat.lt_succ_of_lt c), if_pos c, if_neg (fun e => Nat.ne_of_lt c (h1.mpr e))]
      · rw [if_pos (Nat.lt_succ_of_le (Nat.le_of_eq c)), if_neg (fun e => Nat.ne_of_lt e c), if_pos (h1.mp c)]
      · rw [if_neg (fun e => Nat.not_lt_of_le (Nat.le_of_lt_succ e) c), if_neg (fun e => Nat.lt_asymm e c), if_neg (fun e => Nat.ne_of_gt c (h1.mpr e))]
theorem full_len {l : List (Nat × K)} (W : WF R l) (h : ∀ q, q < R.n → ∃ k, atL l q = some k) : R.n ≤ l.length := by
  have := arc W R.n0 R.n (Nat.le_refl _) fun q hq _ => h q hq
  have h2 := @List.countP_le_length _ (fun e : Nat × K => decide (wy R.n 0 e.1 < R.n)) l
  (first | lia | omega)
theorem has_room {l : List (Nat × K)} (W : WF R l) (h : l.length < R.n) : ∃ z, z < R.n ∧ atL l z = none := by
  refine Classical.byContradiction fun hn => ?_
  have := full_len W fun q hq => by
    cases e : atL l q with
    | none => exact absurd ⟨q, hq, e⟩ hn
    | some k => exact ⟨k, rfl⟩
  (first | lia | omega)
theorem key_place {l : List (Nat × K)} (kd : (l.map (·.2)).Nodup) {p q : Nat} {k : K} (h1 : (p, k) ∈ l) (h2 : (q, k) ∈ l) : p = q := by
  induction l with
  | nil => cases h1
  | cons x l ih =>
    rw [List.map_cons, List.nodup_cons] at kd
    rcases List.mem_cons.mp h1 with e1 | m1 <;> rcases List.mem_cons.mp h2 with e2 | m2
    · rw [← e1] at e2; exact (congrArg Prod.fst e2).symm
    · exact absurd (List.mem_map_of_mem (f := (·.2)) m2) (by rw [← e1] at kd; exact kd.1)
    · exact absurd (List.mem_map_of_mem (f := (·.2)) m1) (by rw [← e2] at kd; exact kd.1)
    · exact ih kd.2 m1 m2
theorem pos_eq {l : List (Nat × K)} (F : Fine R l) (kd : (l.map (·.2)).Nodup) {p : Nat} {k : K} (hm : (p, k) ∈ l) : R.way k p = crL R l (R.home k) + leL R l k := by
  have W := F.wf
  have hp := W.lt _ hm
  dsimp only at hp
  have hk := atL_of_mem W.nd hm
  have hhk := R.hh k
  have ha := arc W hhk (R.way k p) (Nat.le_of_lt (R.way_lt hp)) fun q hq hw => by
    obtain ⟨j, hj, _⟩ := F.i1.glob _ q p k hq hp hk rfl (by
      have t := wy_tri hhk hq hp
      have l := wy_lt hq hp
      unfold Ring.way at *
      (first | lia | omega))
    exact ⟨j, hj⟩
  rw [← ha]
  refine cnt_add fun e he => ?_
  obtain ⟨q, j⟩ := e
  have hq := W.lt _ he
  dsimp only at hq ⊢
  have hj := atL_of_mem W.nd he
  have s : ∀ b : Bool, b.toNat = if b = true then 1 else 0 := by decide
  rw [s, s, s]
  simp only [decide_eq_true_eq, Bool.and_eq_true, beq_iff_eq]
  have hhj := R.hh j
  clear ha
  by_cases hin : wy R.n (R.home k) q < R.way k p
  · rw [if_pos hin]
    obtain ⟨j', hj', lj⟩ := F.i1.glob _ q p k hq hp hk rfl (by
      have t := wy_tri hhk hq hp
      have l := wy_lt hq hp
      unfold Ring.way at *
      (first | lia | omega))
    rw [hj] at hj'
    obtain rfl := Option.some.inj hj'
    have hne : j ≠ k := fun e => by
      subst e
      have := key_place kd hm he
      subst this
      exact Nat.lt_irrefl _ hin
    unfold Ring.Le at lj
    unfold Ring.way at *
    rcases lj with lj | ⟨lj, ll⟩
    · rw [if_pos lj, if_neg]
      intro h
      rw [h.1] at lj; exact Nat.lt_irrefl _ lj
    · have e : R.home j = R.home k := (wy_inj hhj hhk hq).mp lj
      rw [if_neg (by rw [lj]; exact Nat.lt_irrefl _), if_pos]
      refine ⟨e, ?_⟩
      cases e2 : R.lt j k with
      | true => rfl
      | false => exact absurd (R.tri _ _ e2 ll) hne
  · rw [if_neg hin]
    have e1 : ¬ wy R.n (R.home k) q < R.way j q := by
      intro hc
      by_cases e : q = p
      · subst e
        rw [hk] at hj
        obtain rfl := Option.some.inj hj
        exact Nat.lt_irrefl _ hc
      · have t := wy_tri hhk hp hq
        have l := wy_lt hp hq
        have l2 := wy_lt hhk hq
        unfold Ring.way at hc hin
        have t1 : wy R.n (R.home k) p + wy R.n p q = wy R.n (R.home k) q := by (first | lia | omega)
        obtain ⟨i, hi, li⟩ := F.i1.glob _ p q j hp hq hj rfl (by unfold Ring.way; (first | lia | omega))
        rw [hk] at hi
        obtain rfl := Option.some.inj hi
        have li' : wy R.n (R.home j) p ≤ wy R.n (R.home k) p := by
          unfold Ring.Le Ring.way at li
          exact li.elim Nat.le_of_lt fun h => Nat.le_of_eq h.1.symm
        have t2 := wy_tri hhj hp hq
        clear t hin li
        (first | lia | omega)
    have e2 : ¬ (R.home j = R.home k ∧ R.lt j k = true) := by
      intro ⟨h1, h2⟩
      by_cases e : q = p
      · subst e
        rw [hk] at hj
        obtain rfl := Option.some.inj hj
        rw [R.irr] at h2; cases h2
      · have t := wy_tri hhk hp hq
        have l := wy_lt hp hq
        have l2 := wy_lt hhk hq
        obtain ⟨i, hi, li⟩ := F.i1.glob _ p q j hp hq hj rfl (by
          unfold Ring.way at *
          rw [h1]
          clear e1
          (first | lia | omega))
        rw [hk] at hi
        obtain rfl := Option.some.inj hi
        unfold Ring.Le Ring.way at li
        rw [h1] at li
        rcases li with li | ⟨_, li⟩
        · exact absurd li (Nat.lt_irrefl _)
        · rw [h2] at li; cases li
    rw [if_neg e1, if_neg e2]
theorem cr_occ {l : List (Nat × K)} (F : Fine R l) {z : Nat} (hz : z < R.n) (h : crL R l (nx R.n z) ≠ 0) : occL l z = 1 := by
  have h' : 0 < crL R l (nx R.n z) := by (first | lia | omega)
  unfold crL at h'
  rw [List.countP_pos_iff] at h'
  obtain ⟨⟨p, k⟩, hm, hd⟩ := h'
  simp only [decide_eq_true_eq] at hd
  have hp := F.wf.lt _ hm
  dsimp only at hp
  obtain ⟨j, hj, _⟩ := F.i1.glob _ z p k hz hp (atL_of_mem F.wf.nd hm) rfl (by
    rcases wy_back hz hp with ⟨e, _⟩ | ⟨_, e⟩
    · rw [e, wy_self]; exact Nat.zero_le _
    · rw [← e]; exact hd)
  rw [occ_one F.wf.nd, hj]; rfl
theorem cr_zero {l : List (Nat × K)} (F : Fine R l) : ∃ z, z < R.n ∧ crL R l z = 0 := by
  obtain ⟨z, hz, C⟩ := F.cut
  refine ⟨z, hz, ?_⟩
  unfold crL
  rw [List.countP_eq_zero]
  intro e he
  have := C e.1 (F.wf.lt e he) e.2 (atL_of_mem F.wf.nd he)
  simp only [decide_eq_true_eq]; (first | lia | omega)
theorem way_le {l : List (Nat × K)} (F : Fine R l) (kd : (l.map (·.2)).Nodup) {p : Nat} {k : K} (hm : (p, k) ∈ l) : R.way k p ≤ crL R l (nx R.n (R.home k)) := by
  have h1 := pos_eq F kd hm
  have h2 := flow F.wf (R.hh k)
  have h3 := occ_le F.wf.nd (R.home k)
  have h4 : leL R l k < hoL R l (R.home k) := by
    obtain ⟨s, t, rfl⟩ := List.append_of_mem hm
    have hle : ∀ s : List (Nat × K), leL R s k ≤ hoL R s (R.home k) := fun s => List.countP_mono_left fun e _ h => by
      simp only [Bool.and_eq_true] at h; exact h.1
    have a1 := hle s
    have a2 := hle t
    unfold leL hoL at *
    rw [List.countP_append, List.countP_append, List.countP_cons, List.countP_cons]
    simp only [R.irr, Bool.and_false, beq_self_eq_true, if_true, Bool.false_eq_true, if_false]
    (first | lia | omega)
  (first | lia | omega)
/-- among numbers without a double there is one that is no less than how many they are, less one -/
theorem pig : ∀ (d : Nat) (l : List Nat), l.Nodup → l.length = d + 1 → ∃ x ∈ l, d ≤ x := by
  intro d
  induction d with
  | zero =>
    intro l _ hl
    match l, hl with
    | x :: _, _ => exact ⟨x, List.mem_cons_self .., Nat.zero_le _⟩
  | succ d ih =>
    intro l nd hl
    match l, nd, hl with
    | x :: r, nd, hl =>
      rw [List.nodup_cons] at nd
      by_cases hx : d + 1 ≤ x
      · exact ⟨x, List.mem_cons_self .., hx⟩
      · obtain ⟨y, hy, hdy⟩ := ih r nd.2 (by simpa using hl)
        by_cases hy2 : y = d
        · -- d is in r: take it away and put x there
          subst hy2
          obtain ⟨z, hz, hdz⟩ := ih (x :: r.erase y) (List.nodup_cons.mpr ⟨fun h => nd.1 (List.mem_of_mem_erase h), nd.2.erase _⟩) (by
            have := List.length_erase_of_mem hy
            simp only [List.length_cons] at hl ⊢
            (first | lia | omega))
          rcases List.mem_cons.mp hz with e | hz
          · subst e
            have : z = y := by (first | lia | omega)
            subst this
            exact absurd hy nd.1
          · have hzr := List.mem_of_mem_erase hz
            have : z ≠ y := fun e => by
              subst e
              exact absurd hz (List.Nodup.not_mem_erase nd.2)
            exact ⟨z, List.mem_cons_of_mem _ hzr, by (first | lia | omega)⟩
        · exact ⟨y, List.mem_cons_of_mem _ hy, by (first | lia | omega)⟩
theorem way_ge {l : List (Nat × K)} (W : WF R l) {z : Nat} (hz : z < R.n) (h : crL R l z ≠ 0) : ∃ e ∈ l, crL R l z ≤ R.way e.2 e.1 := by
  obtain ⟨d, hd⟩ : ∃ d, crL R l z = d + 1 := ⟨crL R l z - 1, by (first | lia | omega)⟩
  have hl : ((l.filter fun e => decide (wy R.n z e.1 < R.way e.2 e.1)).map fun e => wy R.n z e.1).length = d + 1 := by
    rw [List.length_map, ← List.countP_eq_length_filter]; exact hd
  obtain ⟨x, hx, hdx⟩ := pig d _ (by
    have h1 : ((l.filter fun e => decide (wy R.n z e.1 < R.way e.2 e.1)).map (·.1)).Nodup := W.nd.sublist ((List.filter_sublist).map _)
    have h2 : ∀ e ∈ (l.filter fun e => decide (wy R.n z e.1 < R.way e.2 e.1)), e.1 < R.n := fun e he => W.lt e (List.mem_filter.mp he).1
    generalize (l.filter fun e => decide (wy R.n z e.1 < R.way e.2 e.1)) = m at h1 h2
    induction m with
    | nil => exact List.nodup_nil
    | cons a m ih =>
      rw [List.map_cons, List.nodup_cons] at h1 ⊢
      refine ⟨fun hc => h1.1 ?_, ih h1.2 fun e he => h2 e (List.mem_cons_of_mem _ he)⟩
      obtain ⟨b, hb, e⟩ := List.mem_map.mp hc
      have ha := h2 a (List.mem_cons_self ..)
      have hb' := h2 b (List.mem_cons_of_mem _ hb)
      have : b.1 = a.1 := (wy_inj2 hz hb' ha).mp e
      rw [← this]; exact List.mem_map_of_mem (f := (·.1)) hb) hl
  obtain ⟨e, he, rfl⟩ := List.mem_map.mp hx
  obtain ⟨he, hc⟩ := List.mem_filter.mp he
  simp only [decide_eq_true_eq] at hc
  exact ⟨e, he, by (first | lia | omega)⟩
theorem seek_in {l : List (Nat × K)} (W : WF R l) (I : R.I1 (atL l)) (kd : (l.map (·.2)).Nodup) {key : K} {p' : Nat} (hp' : p' < R.n) (hk : atL l p' = some key) : ∀ (f p : Nat), p < R.n → wy R.n p p' ≤ R.way key p' → wy R.n p p' ≤ f → seekL R l key f p = p' := by
  intro f
  induction f with
  | zero =>
    intro p hp h1 h2
    unfold seekL
    exact wy_eq0 hp (Nat.le_zero.mp h2)
  | succ f ih =>
    intro p hp h1 h2
    unfold seekL
    by_cases e : p = p'
    · subst e
      rw [hk]; dsimp only
      rw [R.bef_self, if_neg (by decide)]
    · obtain ⟨j, hj, lj⟩ := I.glob _ p p' key hp hp' hk rfl h1
      rw [hj]; dsimp only
      have hne : j ≠ key := fun e2 => by
        subst e2
        exact e (key_place kd (atL_mem hj) (atL_mem hk))
      rw [R.le_bef lj hne, if_pos rfl]
      rcases wy_back hp hp' with ⟨q, _⟩ | ⟨_, q⟩
      · exact absurd q e
      · exact ih _ (nx_lt hp) (Nat.le_trans (Nat.le.intro q) h1) (by rw [← q] at h2; exact Nat.le_of_succ_le_succ h2)
theorem seek_hand {l : List (Nat × K)} {key : K} : ∀ (f p : Nat), p < R.n → Hand R (atL l) p key → seekL R l key f p < R.n ∧ Hand R (atL l) (seekL R l key f p) key := by
  intro f
  induction f with
  | zero => intro p hp H; exact ⟨hp, H⟩
  | succ f ih =>
    intro p hp H
    unfold seekL
    cases e : atL l p with
    | none => exact ⟨hp, H⟩
    | some there =>
      dsimp only
      by_cases hb : R.bef p there key = true
      · rw [if_pos hb]
        exact ih _ (nx_lt hp) (.inr ⟨p, hp, rfl, there, e, R.bef_le hb⟩)
      · rw [if_neg hb]
        exact ⟨hp, H⟩
theorem deed_in {l : List (Nat × K)} (F : Fine R l) (kd : (l.map (·.2)).Nodup) {key : K} (hk : key ∈ l.map (·.2)) {f : Nat} (hf : 2 * R.n ≤ f) : ∃ l', deedL R f l key = some l' ∧ Fine R l' ∧ List.Perm (key :: l'.map (·.2)) (l.map (·.2)) := by
  obtain ⟨⟨p, k⟩, hm, rfl⟩ := List.mem_map.mp hk
  dsimp only at *
  have hp := F.wf.lt _ hm
  dsimp only at hp
  have ha := atL_of_mem F.wf.nd hm
  have hs := seek_in F.wf F.i1 kd hp ha (R.n - 1) (R.home k) (R.hh k) (Nat.le_refl _) (by have := R.way_lt (k := k) hp; unfold Ring.way at this; (first | lia | omega))
  unfold deedL
  dsimp only
  rw [hs, if_pos ha]
  obtain ⟨z, hz, C⟩ := F.cut
  have hn := nx_lt hp
  obtain ⟨l', h1, h2, h3⟩ := take_spec f (delL l p) p (nx R.n p) z (if nx R.n p = p then R.n else wy R.n p (nx R.n p)) (if z = p then R.n else wy R.n p z) k (F.wf.del p) hp hn hz (by rw [atL_del, if_pos rfl]) (by
      have : (fun q => if q = p then some k else atL (delL l p) q) = atL l := by
        funext q
        rw [atL_del]
        by_cases e : q = p
        · rw [if_pos e, e, ha]
        · rw [if_neg e, if_neg e]
      rw [this]; exact F.i1) (by
      intro q hq j hj
      rw [atL_del] at hj
      split at hj
      · cases hj
      · exact C q hq j hj) (.inl rfl) (by split <;> simp_all) (by split <;> simp_all) (by
      have hu : (if z = p then R.n else wy R.n p z) ≤ R.n := by
        split
        · exact Nat.le_refl _
        · exact Nat.le_of_lt (wy_lt hp hz)
      generalize (if z = p then R.n else wy R.n p z) = u at hu ⊢
      rcases wy_one hp with ⟨e1, e2⟩ | ⟨e1, e2⟩
      · rw [if_pos e2]; exact .inl ⟨hu, by clear hu; omega⟩
      · rw [if_neg e1, e2]
        by_cases q : u ≤ 1
        · exact .inl ⟨q, by clear hu q; omega⟩
        · exact .inr ⟨Nat.lt_of_not_le q, by clear q; omega⟩)
  exact ⟨l', h1, h2, (h3.cons _).trans (del_perm F.wf.nd ha)⟩
theorem deed_out {l : List (Nat × K)} (F : Fine R l) {key : K} (hk : key ∉ l.map (·.2)) {f : Nat} (hf : 2 * R.n ≤ f) (hl : l.length < R.n) : ∃ l', deedL R f l key = some l' ∧ Fine R l' ∧ List.Perm (l'.map (·.2)) (key :: l.map (·.2)) := by
  have hs := seek_hand (l := l) (key := key) (R.n - 1) (R.home key) (R.hh key) (.inl rfl)
  unfold deedL
  dsimp only
  rw [if_neg, if_pos hl]
  · obtain ⟨z, hz, he⟩ := has_room F.wf hl
    exact put_spec f l _ z key F.wf F.i1 hs.1 hz he (Nat.lt_of_lt_of_le (wy_lt hs.1 hz) (Nat.le_trans (Nat.le_mul_of_pos_left _ (by decide)) hf)) hs.2
  · intro h
    exact hk (List.mem_map_of_mem (f := (·.2)) (atL_mem h))
theorem deed_full {l : List (Nat × K)} {key : K} (hk : key ∉ l.map (·.2)) {f : Nat} (hl : ¬ l.length < R.n) : deedL R f l key = some l := by
  unfold deedL
  dsimp only
  rw [if_neg, if_neg hl]
  intro h
  exact hk (List.mem_map_of_mem (f := (·.2)) (atL_mem h))
end
end
open PySem PySem.W PySem.Spec PySem.Calls PyProof.Rows PyProof.V
section
open PySem PySem.W PyProof.Rows
noncomputable def topAt (i : Nat) : Stmt := PySem.Challenge.pw_xn0027_01.main.body.getD i (.Pass ⟨0, 0, 0, 0⟩)
noncomputable def inCls (i j : Nat) : Stmt := match topAt i with
  | .ClassDef _ _ _ body _ _ _ _ _ _ _ => body.getD j (.Pass ⟨0, 0, 0, 0⟩)
  | _ => .Pass ⟨0, 0, 0, 0⟩
noncomputable def fnArgs : Stmt → Arguments
  | .FunctionDef _ a _ _ _ _ _ _ _ _ => a
  | _ => ⟨[], [], none, [], [], none, []⟩
noncomputable def fnBody : Stmt → FuncBody
  | .FunctionDef _ _ b _ _ _ _ _ _ _ => .stmts b
  | _ => .stmts []
noncomputable def fnScope : Stmt → Scope
  | .FunctionDef _ _ _ _ _ _ sc _ _ _ => sc
  | _ => ⟨.function, [], false, false, []⟩
noncomputable def hd.heap_39 (P : PySem.Params) : Frag :=
  ((nat_lit 2), (Obj.mk Value.none Option.none (Data.dict #[(DictEntry.mk (PyData.keyHash P (Str.ofString "\x69mport.loaded._sre")) (Value.str (Str.ofString "\x69mport.loaded._sre") 183) (Value.bool true)), (DictEntry.mk (PyData.keyHash P (Str.ofString "class._frozen_\x69mportlib.BuiltinImporter")) (Value.str (Str.ofString "class._frozen_\x69mportlib.BuiltinImporter") 185) (Value.ref 14)), (DictEntry.mk (PyData.keyHash P (Str.ofString "watched.\x69mport")) (Value.str (Str.ofString "watched.\x69mport") 206) (Value.ref 18)), (DictEntry.mk (PyData.keyHash P (Str.ofString "class._frozen_\x69mportlib.ModuleSpec")) (Value.str (Str.ofString "class._frozen_\x69mportlib.ModuleSpec") 216) (Value.ref 22)), (DictEntry.mk (PyData.keyHash P (Str.ofString "sys.modules.booked-epoch")) (Value.str (Str.ofString "sys.modules.booked-epoch") 245) (Value.int (3 : Int) 0)), (DictEntry.mk (PyData.keyHash P (Str.ofString "\x69mport.later-laid._sre")) (Value.str (Str.ofString "\x69mport.later-laid._sre") 270) (Value.bool true)), (DictEntry.mk (PyData.keyHash P (Str.ofString "watched.library")) (Value.str (Str.ofString "watched.library") 272) (Value.ref 27)), (DictEntry.mk (PyData.keyHash P (Str.ofString "watched.library-objects")) (Value.str (Str.ofString "watched.library-objects") 0) (Value.str (Str.ofString "\x0c") 0)), (DictEntry.mk (PyData.keyHash P (Str.ofString "watched.library-deep._sre")) (Value.str (Str.ofString "watched.library-deep._sre") 273) (Value.str (Str.ofString "\x04\x00\x00\x0b\x04\x00\x00\x0b\x04\x00\x00\x03\x04\x00\x00\x0b\x08\x04dict\x02") 0)), (DictEntry.mk (PyData.keyHash P (Str.ofString "type.__subclasses__.Exception.0")) (Value.str (Str.ofString "type.__subclasses__.Exception.0") 525) (Value.int (185 : Int) 0)), (DictEntry.mk (PyData.keyHash P (Str.ofString "type.__subclasses__.Exception.n")) (Value.str (Str.ofString "type.__subclasses__.Exception.n") 526) (Value.int (1 : Int) 0))] 11) #[])) ::
  ((nat_lit 3), (Obj.mk (Value.type "dict") Option.none (Data.dict #[(DictEntry.mk (PyData.keyHash P (Str.ofString "__name__")) (Value.str (Str.ofString "__name__") 165) (Value.str (Str.ofString "law_xn0027_01") 691)), (DictEntry.mk (PyData.keyHash P (Str.ofString "__doc__")) (Value.str (Str.ofString "__doc__") 166) Value.none), (DictEntry.mk (PyData.keyHash P (Str.ofString "__package__")) (Value.str (Str.ofString "__package__") 167) Value.none), (DictEntry.mk (PyData.keyHash P (Str.ofString "__loader__")) (Value.str (Str.ofString "__loader__") 168) (Value.builtin "__main__.__loader__#opaque")), (DictEntry.mk (PyData.keyHash P (Str.ofString "__spec__")) (Value.str (Str.ofString "__spec__") 169) Value.none), (DictEntry.mk (PyData.keyHash P (Str.ofString "__annotations__")) (Value.str (Str.ofString "__annotations__") 170) (Value.ref 6)), (DictEntry.mk (PyData.keyHash P (Str.ofString "__builtins__")) (Value.str (Str.ofString "__builtins__") 171) (Value.ref 4)), (DictEntry.mk (PyData.keyHash P (Str.ofString "__file__")) (Value.str (Str.ofString "__file__") 173) (Value.str (Str.ofString "/claim/cut.py") 172)), (DictEntry.mk (PyData.keyHash P (Str.ofString "__cached__")) (Value.str (Str.ofString "__cached__") 174) Value.none), (DictEntry.mk (PyData.keyHash P (Str.ofString "_sre")) (Value.str (Str.ofString "_sre") 275) (Value.ref 12)), (DictEntry.mk (PyData.keyHash P (Str.ofString "_wall")) (Value.str (Str.ofString "_wall") 288) (Value.ref 38)), (DictEntry.mk (PyData.keyHash P (Str.ofString "_name_disallowed_re")) (Value.str (Str.ofString "_name_disallowed_re") 316) (Value.ref 43)), (DictEntry.mk (PyData.keyHash P (Str.ofString "_value_disallowed_re")) (Value.str (Str.ofString "_value_disallowed_re") 350) (Value.ref 48)), (DictEntry.mk (PyData.keyHash P (Str.ofString "Headers")) (Value.str (Str.ofString "Headers") 506) (Value.ref 171)), (DictEntry.mk (PyData.keyHash P (Str.ofString "Error")) (Value.str (Str.ofString "Error") 528) (Value.ref 185)), (DictEntry.mk (PyData.keyHash P (Str.ofString "error_reply")) (Value.str (Str.ofString "error_reply") 544) (Value.ref 198)), (DictEntry.mk (PyData.keyHash P (Str.ofString "parse257")) (Value.str (Str.ofString "parse257") 555) (Value.ref 207)), (DictEntry.mk (PyData.keyHash P (Str.ofString "QName")) (Value.str (Str.ofString "QName") 648) (Value.ref 281)), (DictEntry.mk (PyData.keyHash P (Str.ofString "_raise_serialization_error")) (Value.str (Str.ofString "_raise_serialization_error") 655) (Value.ref 292)), (DictEntry.mk (PyData.keyHash P (Str.ofString "_escape_cdata")) (Value.str (Str.ofString "_escape_cdata") 662) (Value.ref 299)), (DictEntry.mk (PyData.keyHash P (Str.ofString "_escape_attrib")) (Value.str (Str.ofString "_escape_attrib") 669) (Value.ref 306)), (DictEntry.mk (PyData.keyHash P (Str.ofString "_escape_attrib_html")) (Value.str (Str.ofString "_escape_attrib_html") 676) (Value.ref 313)), (DictEntry.mk (PyData.keyHash P (Str.ofString "_escape_cdata_c14n")) (Value.str (Str.ofString "_escape_cdata_c14n") 683) (Value.ref 320)), (DictEntry.mk (PyData.keyHash P (Str.ofString "_escape_attrib_c14n")) (Value.str (Str.ofString "_escape_attrib_c14n") 690) (Value.ref 327)), (DictEntry.mk (PyData.keyHash P (Str.ofString "_law_reply")) (Value.str (Str.ofString "_law_reply") 703) (Value.ref 334)), (DictEntry.mk (PyData.keyHash P (Str.ofString "_law_told")) (Value.str (Str.ofString "_law_told") 711) (Value.ref 341)), (DictEntry.mk (PyData.keyHash P (Str.ofString "_law_key")) (Value.str (Str.ofString "_law_key") 719) (Value.ref 348)), (DictEntry.mk (PyData.keyHash P (Str.ofString "_law_written")) (Value.str (Str.ofString "_law_written") 727) (Value.ref 355)), (DictEntry.mk (PyData.keyHash P (Str.ofString "_law_spelled")) (Value.str (Str.ofString "_law_spelled") 734) (Value.ref 362)), (DictEntry.mk (PyData.keyHash P (Str.ofString "_law_free")) (Value.str (Str.ofString "_law_free") 745) (Value.ref 369)), (DictEntry.mk (PyData.keyHash P (Str.ofString "_law_lay")) (Value.str (Str.ofString "_law_lay") 754) (Value.ref 376)), (DictEntry.mk (PyData.keyHash P (Str.ofString "_law_before")) (Value.str (Str.ofString "_law_before") 767) (Value.ref 383)), (DictEntry.mk (PyData.keyHash P (Str.ofString "_law_put")) (Value.str (Str.ofString "_law_put") 780) (Value.ref 390)), (DictEntry.mk (PyData.keyHash P (Str.ofString "_law_take")) (Value.str (Str.ofString "_law_take") 793) (Value.ref 397)), (DictEntry.mk (PyData.keyHash P (Str.ofString "_law_deed")) (Value.str (Str.ofString "_law_deed") 807) (Value.ref 404)), (DictEntry.mk (PyData.keyHash P (Str.ofString "_law_excess")) (Value.str (Str.ofString "_law_excess") 819) (Value.ref 411)), (DictEntry.mk (PyData.keyHash P (Str.ofString "_law_due")) (Value.str (Str.ofString "_law_due") 825) (Value.ref 416)), (DictEntry.mk (PyData.keyHash P (Str.ofString "law")) (Value.str (Str.ofString "law") 831) (Value.ref 421))] 38) #[])) ::
  ((nat_lit 32), (Obj.mk (Value.type "tuple") Option.none (Data.seq #[] 0) #[])) ::
  ((nat_lit 34), (Obj.mk (Value.type "tuple") Option.none (Data.seq #[(Value.str (Str.ofString "k") 285)] 0) #[])) ::
  ((nat_lit 35), (Obj.mk (Value.type "tuple") Option.none (Data.seq #[] 0) #[])) ::
  ((nat_lit 37), (Obj.mk (Value.type "code") Option.none (Data.fields #[(Value.str (Str.ofString "_wall") 282), (Value.str (Str.ofString "_wall") 283), (Value.str (Str.ofString "/claim/cut.py") 284), (Value.int (2 : Int) 0), (Value.int (1 : Int) 0), (Value.int (0 : Int) 0), (Value.int (0 : Int) 0), (Value.int (3 : Int) 0), (Value.ref 32), (Value.bool true), (Value.int (276 : Int) 0), (Value.ref 33), Value.none, (Value.ref 34), (Value.ref 35), (Value.ref 36), (Value.int (286 : Int) 0), (Value.int (2 : Int) 0), (Value.str (Str.ofString "/claim/cut.py") 287)]) #[])) ::
  ((nat_lit 38), (Obj.mk (Value.type "function") Option.none (Data.func (FuncData.mk (Str.ofString "_wall") (Str.ofString "_wall") (fnArgs (topAt 1)) (fnBody (topAt 1)) (fnScope (topAt 1)) 3 [] Value.none Value.none Value.none (Value.str (Str.ofString "__main__") 164) Option.none (Value.ref 37) Value.none 0)) #[])) ::
  ((nat_lit 42), (Obj.mk (Value.type "tuple") Option.none (Data.seq #[(Value.int (14 : Int) 0), (Value.int (10 : Int) 0), (Value.int (4 : Int) 0), (Value.int (1 : Int) 0), (Value.int (1 : Int) 0), (Value.int (22 : Int) 0), (Value.int (0 : Int) 0), (Value.int (31 : Int) 0), (Value.int (16 : Int) 0), (Value.int (127 : Int) 0), (Value.int (0 : Int) 0), (Value.int (13 : Int) 0), (Value.int (7 : Int) 0), (Value.int (22 : Int) 0), (Value.int (0 : Int) 0), (Value.int (31 : Int) 0), (Value.int (16 : Int) 0), (Value.int (127 : Int) 0), (Value.int (0 : Int) 0), (Value.int (1 : Int) 0)] 0) #[])) ::
  ((nat_lit 43), (Obj.mk (Value.type "re.Pattern") Option.none (Data.fields #[(Value.str (Str.ofString "[\\x00-\\x1F\\x7F]") 292), (Value.int (32 : Int) 315), (Value.int (0 : Int) 0), Value.none, Value.none, (Value.ref 42), (Value.int (0 : Int) 0)]) #[])) ::
  ((nat_lit 47), (Obj.mk (Value.type "tuple") Option.none (Data.seq #[(Value.int (14 : Int) 0), (Value.int (14 : Int) 0), (Value.int (4 : Int) 0), (Value.int (1 : Int) 0), (Value.int (1 : Int) 0), (Value.int (9 : Int) 0), (Value.int (4294966783 : Int) 0), (Value.int (0 : Int) 0), (Value.int (0 : Int) 0), (Value.int (2147483648 : Int) 0), (Value.int (0 : Int) 0), (Value.int (0 : Int) 0), (Value.int (0 : Int) 0), (Value.int (0 : Int) 0), (Value.int (0 : Int) 0), (Value.int (13 : Int) 0), (Value.int (11 : Int) 0), (Value.int (9 : Int) 0), (Value.int (4294966783 : Int) 0), (Value.int (0 : Int) 0), (Value.int (0 : Int) 0), (Value.int (2147483648 : Int) 0), (Value.int (0 : Int) 0), (Value.int (0 : Int) 0), (Value.int (0 : Int) 0), (Value.int (0 : Int) 0), (Value.int (0 : Int) 0), (Value.int (1 : Int) 0)] 0) #[])) ::
  ((nat_lit 48), (Obj.mk (Value.type "re.Pattern") Option.none (Data.fields #[(Value.str (Str.ofString "[\\x00-\\x08\\x0A-\\x1F\\x7F]") 318), (Value.int (32 : Int) 349), (Value.int (0 : Int) 0), Value.none, Value.none, (Value.ref 47), (Value.int (0 : Int) 0)]) #[])) ::
  ((nat_lit 56), (Obj.mk (Value.type "tuple") Option.none (Data.seq #[Value.none] 0) #[])) ::
  ((nat_lit 57), (Obj.mk (Value.type "tuple") Option.none (Data.seq #[] 0) #[])) ::
  ((nat_lit 59), (Obj.mk (Value.type "tuple") Option.none (Data.seq #[(Value.str (Str.ofString "self") 366), (Value.str (Str.ofString "headers") 367), (Value.str (Str.ofString "k") 368), (Value.str (Str.ofString "v") 369)] 0) #[])) ::
  ((nat_lit 60), (Obj.mk (Value.type "tuple") Option.none (Data.seq #[] 0) #[])) ::
  ((nat_lit 62), (Obj.mk (Value.type "code") Option.none (Data.fields #[(Value.str (Str.ofString "__init__") 363), (Value.str (Str.ofString "Headers.__init__") 364), (Value.str (Str.ofString "/claim/cut.py") 365), (Value.int (10 : Int) 0), (Value.int (2 : Int) 0), (Value.int (0 : Int) 0), (Value.int (0 : Int) 0), (Value.int (3 : Int) 0), (Value.ref 57), (Value.bool true), (Value.int (276 : Int) 0), (Value.ref 58), Value.none, (Value.ref 59), (Value.ref 60), (Value.ref 61), (Value.int (370 : Int) 0), (Value.int (10 : Int) 0), (Value.str (Str.ofString "/claim/cut.py") 371)]) #[])) ::
  ((nat_lit 63), (Obj.mk (Value.type "function") Option.none (Data.func (FuncData.mk (Str.ofString "__init__") (Str.ofString "Headers.__init__") (fnArgs (inCls 5 0)) (fnBody (inCls 5 0)) (fnScope (inCls 5 0)) 3 [] (Value.ref 56) Value.none Value.none (Value.str (Str.ofString "cpy313.wsgiref.headers") 289) Option.none (Value.ref 62) Value.none 0)) #[])) ::
  ((nat_lit 64), (Obj.mk (Value.type "tuple") Option.none (Data.seq #[] 0) #[])) ::
  ((nat_lit 66), (Obj.mk (Value.type "tuple") Option.none (Data.seq #[(Value.str (Str.ofString "self") 376), (Value.str (Str.ofString "value") 377), (Value.str (Str.ofString "name") 378), (Value.str (Str.ofString "regex") 379)] 0) #[])) ::
  ((nat_lit 67), (Obj.mk (Value.type "tuple") Option.none (Data.seq #[] 0) #[])) ::
  ((nat_lit 69), (Obj.mk (Value.type "code") Option.none (Data.fields #[(Value.str (Str.ofString "_convert_string_type") 373), (Value.str (Str.ofString "Headers._convert_string_type") 374), (Value.str (Str.ofString "/claim/cut.py") 375), (Value.int (20 : Int) 0), (Value.int (2 : Int) 0), (Value.int (0 : Int) 0), (Value.int (1 : Int) 0), (Value.int (3 : Int) 0), (Value.ref 64), (Value.bool true), (Value.int (276 : Int) 0), (Value.ref 65), Value.none, (Value.ref 66), (Value.ref 67), (Value.ref 68), (Value.int (380 : Int) 0), (Value.int (20 : Int) 0), (Value.str (Str.ofString "/claim/cut.py") 381)]) #[])) ::
  ((nat_lit 70), (Obj.mk (Value.type "function") Option.none (Data.func (FuncData.mk (Str.ofString "_convert_string_type") (Str.ofString "Headers._convert_string_type") (fnArgs (inCls 5 1)) (fnBody (inCls 5 1)) (fnScope (inCls 5 1)) 3 [] Value.none Value.none Value.none (Value.str (Str.ofString "cpy313.wsgiref.headers") 289) Option.none (Value.ref 69) Value.none 0)) #[])) ::
  ((nat_lit 71), (Obj.mk (Value.type "tuple") Option.none (Data.seq #[] 0) #[])) ::
  ((nat_lit 73), (Obj.mk (Value.type "tuple") Option.none (Data.seq #[(Value.str (Str.ofString "self") 386)] 0) #[])) ::
  ((nat_lit 74), (Obj.mk (Value.type "tuple") Option.none (Data.seq #[] 0) #[])) ::
  ((nat_lit 76), (Obj.mk (Value.type "code") Option.none (Data.fields #[(Value.str (Str.ofString "__len__") 383), (Value.str (Str.ofString "Headers.__len__") 384), (Value.str (Str.ofString "/claim/cut.py") 385), (Value.int (28 : Int) 0), (Value.int (1 : Int) 0), (Value.int (0 : Int) 0), (Value.int (0 : Int) 0), (Value.int (3 : Int) 0), (Value.ref 71), (Value.bool true), (Value.int (276 : Int) 0), (Value.ref 72), Value.none, (Value.ref 73), (Value.ref 74), (Value.ref 75), (Value.int (387 : Int) 0), (Value.int (28 : Int) 0), (Value.str (Str.ofString "/claim/cut.py") 388)]) #[])) ::
  ((nat_lit 77), (Obj.mk (Value.type "function") Option.none (Data.func (FuncData.mk (Str.ofString "__len__") (Str.ofString "Headers.__len__") (fnArgs (inCls 5 2)) (fnBody (inCls 5 2)) (fnScope (inCls 5 2)) 3 [] Value.none Value.none Value.none (Value.str (Str.ofString "cpy313.wsgiref.headers") 289) Option.none (Value.ref 76) Value.none 0)) #[])) ::
  ((nat_lit 78), (Obj.mk (Value.type "tuple") Option.none (Data.seq #[] 0) #[])) ::
  ((nat_lit 80), (Obj.mk (Value.type "tuple") Option.none (Data.seq #[(Value.str (Str.ofString "self") 393), (Value.str (Str.ofString "name") 394), (Value.str (Str.ofString "val") 395)] 0) #[])) ::
  ((nat_lit 81), (Obj.mk (Value.type "tuple") Option.none (Data.seq #[] 0) #[])) ::
  ((nat_lit 83), (Obj.mk (Value.type "code") Option.none (Data.fields #[(Value.str (Str.ofString "__setitem__") 390), (Value.str (Str.ofString "Headers.__setitem__") 391), (Value.str (Str.ofString "/claim/cut.py") 392), (Value.int (31 : Int) 0), (Value.int (3 : Int) 0), (Value.int (0 : Int) 0), (Value.int (0 : Int) 0), (Value.int (3 : Int) 0), (Value.ref 78), (Value.bool true), (Value.int (276 : Int) 0), (Value.ref 79), Value.none, (Value.ref 80), (Value.ref 81), (Value.ref 82), (Value.int (396 : Int) 0), (Value.int (31 : Int) 0), (Value.str (Str.ofString "/claim/cut.py") 397)]) #[])) ::
  ((nat_lit 84), (Obj.mk (Value.type "function") Option.none (Data.func (FuncData.mk (Str.ofString "__setitem__") (Str.ofString "Headers.__setitem__") (fnArgs (inCls 5 3)) (fnBody (inCls 5 3)) (fnScope (inCls 5 3)) 3 [] Value.none Value.none Value.none (Value.str (Str.ofString "cpy313.wsgiref.headers") 289) Option.none (Value.ref 83) Value.none 0)) #[])) ::
  ((nat_lit 85), (Obj.mk (Value.type "tuple") Option.none (Data.seq #[] 0) #[])) ::
  ((nat_lit 88), (Obj.mk (Value.type "code") Option.none (Data.fields #[(Value.str (Str.ofString "__delitem__") 399), (Value.str (Str.ofString "Headers.__delitem__") 400), (Value.str (Str.ofString "/claim/cut.py") 401), (Value.int (35 : Int) 0), (Value.int (2 : Int) 0), (Value.int (0 : Int) 0), (Value.int (0 : Int) 0), (Value.int (3 : Int) 0), (Value.ref 85), (Value.bool true), (Value.int (276 : Int) 0), (Value.ref 86), Value.none, Value.none, Value.none, (Value.ref 87), (Value.int (402 : Int) 0), (Value.int (35 : Int) 0), (Value.str (Str.ofString "/claim/cut.py") 403)]) #[])) ::
  ((nat_lit 89), (Obj.mk (Value.type "function") Option.none (Data.func (FuncData.mk (Str.ofString "__delitem__") (Str.ofString "Headers.__delitem__") (fnArgs (inCls 5 4)) (fnBody (inCls 5 4)) (fnScope (inCls 5 4)) 3 [] Value.none Value.none Value.none (Value.str (Str.ofString "cpy313.wsgiref.headers") 289) Option.none (Value.ref 88) Value.none 0)) #[])) ::
  ((nat_lit 90), (Obj.mk (Value.type "tuple") Option.none (Data.seq #[] 0) #[])) ::
  ((nat_lit 92), (Obj.mk (Value.type "tuple") Option.none (Data.seq #[(Value.str (Str.ofString "self") 408), (Value.str (Str.ofString "name") 409)] 0) #[])) ::
  ((nat_lit 93), (Obj.mk (Value.type "tuple") Option.none (Data.seq #[] 0) #[])) ::
  ((nat_lit 95), (Obj.mk (Value.type "code") Option.none (Data.fields #[(Value.str (Str.ofString "__getitem__") 405), (Value.str (Str.ofString "Headers.__getitem__") 406), (Value.str (Str.ofString "/claim/cut.py") 407), (Value.int (39 : Int) 0), (Value.int (2 : Int) 0), (Value.int (0 : Int) 0), (Value.int (0 : Int) 0), (Value.int (3 : Int) 0), (Value.ref 90), (Value.bool true), (Value.int (276 : Int) 0), (Value.ref 91), Value.none, (Value.ref 92), (Value.ref 93), (Value.ref 94), (Value.int (410 : Int) 0), (Value.int (39 : Int) 0), (Value.str (Str.ofString "/claim/cut.py") 411)]) #[])) ::
  ((nat_lit 96), (Obj.mk (Value.type "function") Option.none (Data.func (FuncData.mk (Str.ofString "__getitem__") (Str.ofString "Headers.__getitem__") (fnArgs (inCls 5 5)) (fnBody (inCls 5 5)) (fnScope (inCls 5 5)) 3 [] Value.none Value.none Value.none (Value.str (Str.ofString "cpy313.wsgiref.headers") 289) Option.none (Value.ref 95) Value.none 0)) #[])) ::
  ((nat_lit 97), (Obj.mk (Value.type "tuple") Option.none (Data.seq #[] 0) #[])) ::
  ((nat_lit 99), (Obj.mk (Value.type "tuple") Option.none (Data.seq #[(Value.str (Str.ofString "self") 416), (Value.str (Str.ofString "name") 417)] 0) #[])) ::
  ((nat_lit 100), (Obj.mk (Value.type "tuple") Option.none (Data.seq #[] 0) #[])) ::
  ((nat_lit 102), (Obj.mk (Value.type "code") Option.none (Data.fields #[(Value.str (Str.ofString "__contains__") 413), (Value.str (Str.ofString "Headers.__contains__") 414), (Value.str (Str.ofString "/claim/cut.py") 415), (Value.int (42 : Int) 0), (Value.int (2 : Int) 0), (Value.int (0 : Int) 0), (Value.int (0 : Int) 0), (Value.int (3 : Int) 0), (Value.ref 97), (Value.bool true), (Value.int (276 : Int) 0), (Value.ref 98), Value.none, (Value.ref 99), (Value.ref 100), (Value.ref 101), (Value.int (418 : Int) 0), (Value.int (42 : Int) 0), (Value.str (Str.ofString "/claim/cut.py") 419)]) #[])) ::
  ((nat_lit 103), (Obj.mk (Value.type "function") Option.none (Data.func (FuncData.mk (Str.ofString "__contains__") (Str.ofString "Headers.__contains__") (fnArgs (inCls 5 6)) (fnBody (inCls 5 6)) (fnScope (inCls 5 6)) 3 [] Value.none Value.none Value.none (Value.str (Str.ofString "cpy313.wsgiref.headers") 289) Option.none (Value.ref 102) Value.none 0)) #[])) ::
  ((nat_lit 104), (Obj.mk (Value.type "tuple") Option.none (Data.seq #[] 0) #[])) ::
  ((nat_lit 106), (Obj.mk (Value.type "tuple") Option.none (Data.seq #[(Value.str (Str.ofString "self") 424), (Value.str (Str.ofString "name") 425)] 0) #[])) ::
  ((nat_lit 107), (Obj.mk (Value.type "tuple") Option.none (Data.seq #[] 0) #[])) ::
  ((nat_lit 109), (Obj.mk (Value.type "code") Option.none (Data.fields #[(Value.str (Str.ofString "get_all") 421), (Value.str (Str.ofString "Headers.get_all") 422), (Value.str (Str.ofString "/claim/cut.py") 423), (Value.int (45 : Int) 0), (Value.int (2 : Int) 0), (Value.int (0 : Int) 0), (Value.int (0 : Int) 0), (Value.int (3 : Int) 0), (Value.ref 104), (Value.bool true), (Value.int (276 : Int) 0), (Value.ref 105), Value.none, (Value.ref 106), (Value.ref 107), (Value.ref 108), (Value.int (426 : Int) 0), (Value.int (45 : Int) 0), (Value.str (Str.ofString "/claim/cut.py") 427)]) #[])) ::
  ((nat_lit 110), (Obj.mk (Value.type "function") Option.none (Data.func (FuncData.mk (Str.ofString "get_all") (Str.ofString "Headers.get_all") (fnArgs (inCls 5 7)) (fnBody (inCls 5 7)) (fnScope (inCls 5 7)) 3 [] Value.none Value.none Value.none (Value.str (Str.ofString "cpy313.wsgiref.headers") 289) Option.none (Value.ref 109) Value.none 0)) #[])) ::
  ((nat_lit 111), (Obj.mk (Value.type "tuple") Option.none (Data.seq #[Value.none] 0) #[])) ::
  ((nat_lit 112), (Obj.mk (Value.type "tuple") Option.none (Data.seq #[] 0) #[])) ::
  ((nat_lit 114), (Obj.mk (Value.type "tuple") Option.none (Data.seq #[(Value.str (Str.ofString "self") 432), (Value.str (Str.ofString "name") 433), (Value.str (Str.ofString "default") 434), (Value.str (Str.ofString "k") 435), (Value.str (Str.ofString "v") 436)] 0) #[])) ::
  ((nat_lit 115), (Obj.mk (Value.type "tuple") Option.none (Data.seq #[] 0) #[])) ::
  ((nat_lit 117), (Obj.mk (Value.type "code") Option.none (Data.fields #[(Value.str (Str.ofString "get") 429), (Value.str (Str.ofString "Headers.get") 430), (Value.str (Str.ofString "/claim/cut.py") 431), (Value.int (48 : Int) 0), (Value.int (3 : Int) 0), (Value.int (0 : Int) 0), (Value.int (0 : Int) 0), (Value.int (3 : Int) 0), (Value.ref 112), (Value.bool true), (Value.int (276 : Int) 0), (Value.ref 113), Value.none, (Value.ref 114), (Value.ref 115), (Value.ref 116), (Value.int (437 : Int) 0), (Value.int (48 : Int) 0), (Value.str (Str.ofString "/claim/cut.py") 438)]) #[])) ::
  ((nat_lit 118), (Obj.mk (Value.type "function") Option.none (Data.func (FuncData.mk (Str.ofString "get") (Str.ofString "Headers.get") (fnArgs (inCls 5 8)) (fnBody (inCls 5 8)) (fnScope (inCls 5 8)) 3 [] (Value.ref 111) Value.none Value.none (Value.str (Str.ofString "cpy313.wsgiref.headers") 289) Option.none (Value.ref 117) Value.none 0)) #[])) ::
  ((nat_lit 119), (Obj.mk (Value.type "tuple") Option.none (Data.seq #[] 0) #[])) ::
  ((nat_lit 122), (Obj.mk (Value.type "code") Option.none (Data.fields #[(Value.str (Str.ofString "keys") 440), (Value.str (Str.ofString "Headers.keys") 441), (Value.str (Str.ofString "/claim/cut.py") 442), (Value.int (55 : Int) 0), (Value.int (1 : Int) 0), (Value.int (0 : Int) 0), (Value.int (0 : Int) 0), (Value.int (3 : Int) 0), (Value.ref 119), (Value.bool true), (Value.int (276 : Int) 0), (Value.ref 120), Value.none, Value.none, Value.none, (Value.ref 121), (Value.int (443 : Int) 0), (Value.int (55 : Int) 0), (Value.str (Str.ofString "/claim/cut.py") 444)]) #[])) ::
  ((nat_lit 123), (Obj.mk (Value.type "function") Option.none (Data.func (FuncData.mk (Str.ofString "keys") (Str.ofString "Headers.keys") (fnArgs (inCls 5 9)) (fnBody (inCls 5 9)) (fnScope (inCls 5 9)) 3 [] Value.none Value.none Value.none (Value.str (Str.ofString "cpy313.wsgiref.headers") 289) Option.none (Value.ref 122) Value.none 0)) #[])) ::
  ((nat_lit 124), (Obj.mk (Value.type "tuple") Option.none (Data.seq #[] 0) #[])) ::
  ((nat_lit 127), (Obj.mk (Value.type "code") Option.none (Data.fields #[(Value.str (Str.ofString "values") 446), (Value.str (Str.ofString "Headers.values") 447), (Value.str (Str.ofString "/claim/cut.py") 448), (Value.int (58 : Int) 0), (Value.int (1 : Int) 0), (Value.int (0 : Int) 0), (Value.int (0 : Int) 0), (Value.int (3 : Int) 0), (Value.ref 124), (Value.bool true), (Value.int (276 : Int) 0), (Value.ref 125), Value.none, Value.none, Value.none, (Value.ref 126), (Value.int (449 : Int) 0), (Value.int (58 : Int) 0), (Value.str (Str.ofString "/claim/cut.py") 450)]) #[])) ::
  ((nat_lit 128), (Obj.mk (Value.type "function") Option.none (Data.func (FuncData.mk (Str.ofString "values") (Str.ofString "Headers.values") (fnArgs (inCls 5 10)) (fnBody (inCls 5 10)) (fnScope (inCls 5 10)) 3 [] Value.none Value.none Value.none (Value.str (Str.ofString "cpy313.wsgiref.headers") 289) Option.none (Value.ref 127) Value.none 0)) #[])) ::
  ((nat_lit 129), (Obj.mk (Value.type "tuple") Option.none (Data.seq #[] 0) #[])) ::
  ((nat_lit 131), (Obj.mk (Value.type "tuple") Option.none (Data.seq #[(Value.str (Str.ofString "self") 455)] 0) #[])) ::
  ((nat_lit 132), (Obj.mk (Value.type "tuple") Option.none (Data.seq #[] 0) #[])) ::
  ((nat_lit 134), (Obj.mk (Value.type "code") Option.none (Data.fields #[(Value.str (Str.ofString "items") 452), (Value.str (Str.ofString "Headers.items") 453), (Value.str (Str.ofString "/claim/cut.py") 454), (Value.int (61 : Int) 0), (Value.int (1 : Int) 0), (Value.int (0 : Int) 0), (Value.int (0 : Int) 0), (Value.int (3 : Int) 0), (Value.ref 129), (Value.bool true), (Value.int (276 : Int) 0), (Value.ref 130), Value.none, (Value.ref 131), (Value.ref 132), (Value.ref 133), (Value.int (456 : Int) 0), (Value.int (61 : Int) 0), (Value.str (Str.ofString "/claim/cut.py") 457)]) #[])) ::
  ((nat_lit 135), (Obj.mk (Value.type "function") Option.none (Data.func (FuncData.mk (Str.ofString "items") (Str.ofString "Headers.items") (fnArgs (inCls 5 11)) (fnBody (inCls 5 11)) (fnScope (inCls 5 11)) 3 [] Value.none Value.none Value.none (Value.str (Str.ofString "cpy313.wsgiref.headers") 289) Option.none (Value.ref 134) Value.none 0)) #[])) ::
  ((nat_lit 136), (Obj.mk (Value.type "tuple") Option.none (Data.seq #[] 0) #[])) ::
  ((nat_lit 138), (Obj.mk (Value.type "tuple") Option.none (Data.seq #[(Value.str (Str.ofString "self") 462)] 0) #[])) ::
  ((nat_lit 139), (Obj.mk (Value.type "tuple") Option.none (Data.seq #[] 0) #[])) ::
  ((nat_lit 141), (Obj.mk (Value.type "code") Option.none (Data.fields #[(Value.str (Str.ofString "__repr__") 459), (Value.str (Str.ofString "Headers.__repr__") 460), (Value.str (Str.ofString "/claim/cut.py") 461), (Value.int (64 : Int) 0), (Value.int (1 : Int) 0), (Value.int (0 : Int) 0), (Value.int (0 : Int) 0), (Value.int (3 : Int) 0), (Value.ref 136), (Value.bool true), (Value.int (276 : Int) 0), (Value.ref 137), Value.none, (Value.ref 138), (Value.ref 139), (Value.ref 140), (Value.int (463 : Int) 0), (Value.int (64 : Int) 0), (Value.str (Str.ofString "/claim/cut.py") 464)]) #[])) ::
  ((nat_lit 142), (Obj.mk (Value.type "function") Option.none (Data.func (FuncData.mk (Str.ofString "__repr__") (Str.ofString "Headers.__repr__") (fnArgs (inCls 5 12)) (fnBody (inCls 5 12)) (fnScope (inCls 5 12)) 3 [] Value.none Value.none Value.none (Value.str (Str.ofString "cpy313.wsgiref.headers") 289) Option.none (Value.ref 141) Value.none 0)) #[])) ::
  ((nat_lit 143), (Obj.mk (Value.type "tuple") Option.none (Data.seq #[] 0) #[])) ::
  ((nat_lit 146), (Obj.mk (Value.type "code") Option.none (Data.fields #[(Value.str (Str.ofString "__str__") 466), (Value.str (Str.ofString "Headers.__str__") 467), (Value.str (Str.ofString "/claim/cut.py") 468), (Value.int (67 : Int) 0), (Value.int (1 : Int) 0), (Value.int (0 : Int) 0), (Value.int (0 : Int) 0), (Value.int (3 : Int) 0), (Value.ref 143), (Value.bool true), (Value.int (276 : Int) 0), (Value.ref 144), Value.none, Value.none, Value.none, (Value.ref 145), (Value.int (469 : Int) 0), (Value.int (67 : Int) 0), (Value.str (Str.ofString "/claim/cut.py") 470)]) #[])) ::
  ((nat_lit 147), (Obj.mk (Value.type "function") Option.none (Data.func (FuncData.mk (Str.ofString "__str__") (Str.ofString "Headers.__str__") (fnArgs (inCls 5 13)) (fnBody (inCls 5 13)) (fnScope (inCls 5 13)) 3 [] Value.none Value.none Value.none (Value.str (Str.ofString "cpy313.wsgiref.headers") 289) Option.none (Value.ref 146) Value.none 0)) #[])) ::
  ((nat_lit 148), (Obj.mk (Value.type "tuple") Option.none (Data.seq #[] 0) #[])) ::
  ((nat_lit 150), (Obj.mk (Value.type "tuple") Option.none (Data.seq #[(Value.str (Str.ofString "self") 475)] 0) #[])) ::
  ((nat_lit 151), (Obj.mk (Value.type "tuple") Option.none (Data.seq #[] 0) #[])) ::
  ((nat_lit 153), (Obj.mk (Value.type "code") Option.none (Data.fields #[(Value.str (Str.ofString "__bytes__") 472), (Value.str (Str.ofString "Headers.__bytes__") 473), (Value.str (Str.ofString "/claim/cut.py") 474), (Value.int (70 : Int) 0), (Value.int (1 : Int) 0), (Value.int (0 : Int) 0), (Value.int (0 : Int) 0), (Value.int (3 : Int) 0), (Value.ref 148), (Value.bool true), (Value.int (276 : Int) 0), (Value.ref 149), Value.none, (Value.ref 150), (Value.ref 151), (Value.ref 152), (Value.int (476 : Int) 0), (Value.int (70 : Int) 0), (Value.str (Str.ofString "/claim/cut.py") 477)]) #[])) ::
  ((nat_lit 154), (Obj.mk (Value.type "function") Option.none (Data.func (FuncData.mk (Str.ofString "__bytes__") (Str.ofString "Headers.__bytes__") (fnArgs (inCls 5 14)) (fnBody (inCls 5 14)) (fnScope (inCls 5 14)) 3 [] Value.none Value.none Value.none (Value.str (Str.ofString "cpy313.wsgiref.headers") 289) Option.none (Value.ref 153) Value.none 0)) #[])) ::
  ((nat_lit 155), (Obj.mk (Value.type "tuple") Option.none (Data.seq #[] 0) #[])) ::
  ((nat_lit 157), (Obj.mk (Value.type "tuple") Option.none (Data.seq #[(Value.str (Str.ofString "self") 482), (Value.str (Str.ofString "name") 483), (Value.str (Str.ofString "value") 484)] 0) #[])) ::
  ((nat_lit 158), (Obj.mk (Value.type "tuple") Option.none (Data.seq #[] 0) #[])) ::
  ((nat_lit 160), (Obj.mk (Value.type "code") Option.none (Data.fields #[(Value.str (Str.ofString "setdefault") 479), (Value.str (Str.ofString "Headers.setdefault") 480), (Value.str (Str.ofString "/claim/cut.py") 481), (Value.int (73 : Int) 0), (Value.int (3 : Int) 0), (Value.int (0 : Int) 0), (Value.int (0 : Int) 0), (Value.int (3 : Int) 0), (Value.ref 155), (Value.bool true), (Value.int (276 : Int) 0), (Value.ref 156), Value.none, (Value.ref 157), (Value.ref 158), (Value.ref 159), (Value.int (485 : Int) 0), (Value.int (73 : Int) 0), (Value.str (Str.ofString "/claim/cut.py") 486)]) #[])) ::
  ((nat_lit 161), (Obj.mk (Value.type "function") Option.none (Data.func (FuncData.mk (Str.ofString "setdefault") (Str.ofString "Headers.setdefault") (fnArgs (inCls 5 15)) (fnBody (inCls 5 15)) (fnScope (inCls 5 15)) 3 [] Value.none Value.none Value.none (Value.str (Str.ofString "cpy313.wsgiref.headers") 289) Option.none (Value.ref 160) Value.none 0)) #[])) ::
  ((nat_lit 162), (Obj.mk (Value.type "tuple") Option.none (Data.seq #[] 0) #[])) ::
  ((nat_lit 164), (Obj.mk (Value.type "tuple") Option.none (Data.seq #[(Value.str (Str.ofString "self") 491), (Value.str (Str.ofString "_name") 492), (Value.str (Str.ofString "_value") 493), (Value.str (Str.ofString "_params") 494)] 0) #[])) ::
  ((nat_lit 165), (Obj.mk (Value.type "tuple") Option.none (Data.seq #[] 0) #[])) ::
  ((nat_lit 167), (Obj.mk (Value.type "code") Option.none (Data.fields #[(Value.str (Str.ofString "add_header") 488), (Value.str (Str.ofString "Headers.add_header") 489), (Value.str (Str.ofString "/claim/cut.py") 490), (Value.int (76 : Int) 0), (Value.int (3 : Int) 0), (Value.int (0 : Int) 0), (Value.int (0 : Int) 0), (Value.int (11 : Int) 0), (Value.ref 162), (Value.bool true), (Value.int (276 : Int) 0), (Value.ref 163), Value.none, (Value.ref 164), (Value.ref 165), (Value.ref 166), (Value.int (495 : Int) 0), (Value.int (76 : Int) 0), (Value.str (Str.ofString "/claim/cut.py") 496)]) #[])) ::
  ((nat_lit 168), (Obj.mk (Value.type "function") Option.none (Data.func (FuncData.mk (Str.ofString "add_header") (Str.ofString "Headers.add_header") (fnArgs (inCls 5 16)) (fnBody (inCls 5 16)) (fnScope (inCls 5 16)) 3 [] Value.none Value.none Value.none (Value.str (Str.ofString "cpy313.wsgiref.headers") 289) Option.none (Value.ref 167) Value.none 0)) #[])) ::
  ((nat_lit 169), (Obj.mk (Value.type "tuple") Option.none (Data.seq #[(Value.str (Str.ofString "_headers") 498)] 0) #[])) ::
  ((nat_lit 170), (Obj.mk (Value.type "dict") Option.none (Data.dict #[(DictEntry.mk (PyData.keyHash P (Str.ofString "__module__")) (Value.str (Str.ofString "__module__") 358) (Value.str (Str.ofString "cpy313.wsgiref.headers") 289)), (DictEntry.mk (PyData.keyHash P (Str.ofString "__firstlineno__")) (Value.str (Str.ofString "__firstlineno__") 362) (Value.int (8 : Int) 361)), (DictEntry.mk (PyData.keyHash P (Str.ofString "__init__")) (Value.str (Str.ofString "__init__") 372) (Value.ref 63)), (DictEntry.mk (PyData.keyHash P (Str.ofString "_convert_string_type")) (Value.str (Str.ofString "_convert_string_type") 382) (Value.ref 70)), (DictEntry.mk (PyData.keyHash P (Str.ofString "__len__")) (Value.str (Str.ofString "__len__") 389) (Value.ref 77)), (DictEntry.mk (PyData.keyHash P (Str.ofString "__setitem__")) (Value.str (Str.ofString "__setitem__") 398) (Value.ref 84)), (DictEntry.mk (PyData.keyHash P (Str.ofString "__delitem__")) (Value.str (Str.ofString "__delitem__") 404) (Value.ref 89)), (DictEntry.mk (PyData.keyHash P (Str.ofString "__getitem__")) (Value.str (Str.ofString "__getitem__") 412) (Value.ref 96)), (DictEntry.mk (PyData.keyHash P (Str.ofString "__contains__")) (Value.str (Str.ofString "__contains__") 420) (Value.ref 103)), (DictEntry.mk (PyData.keyHash P (Str.ofString "get_all")) (Value.str (Str.ofString "get_all") 428) (Value.ref 110)), (DictEntry.mk (PyData.keyHash P (Str.ofString "get")) (Value.str (Str.ofString "get") 439) (Value.ref 118)), (DictEntry.mk (PyData.keyHash P (Str.ofString "keys")) (Value.str (Str.ofString "keys") 445) (Value.ref 123)), (DictEntry.mk (PyData.keyHash P (Str.ofString "values")) (Value.str (Str.ofString "values") 451) (Value.ref 128)), (DictEntry.mk (PyData.keyHash P (Str.ofString "items")) (Value.str (Str.ofString "items") 458) (Value.ref 135)), (DictEntry.mk (PyData.keyHash P (Str.ofString "__repr__")) (Value.str (Str.ofString "__repr__") 465) (Value.ref 142)), (DictEntry.mk (PyData.keyHash P (Str.ofString "__str__")) (Value.str (Str.ofString "__str__") 471) (Value.ref 147)), (DictEntry.mk (PyData.keyHash P (Str.ofString "__bytes__")) (Value.str (Str.ofString "__bytes__") 478) (Value.ref 154)), (DictEntry.mk (PyData.keyHash P (Str.ofString "setdefault")) (Value.str (Str.ofString "setdefault") 487) (Value.ref 161)), (DictEntry.mk (PyData.keyHash P (Str.ofString "add_header")) (Value.str (Str.ofString "add_header") 497) (Value.ref 168)), (DictEntry.mk (PyData.keyHash P (Str.ofString "__static_attributes__")) (Value.str (Str.ofString "__static_attributes__") 499) (Value.ref 169)), (DictEntry.mk (PyData.keyHash P (Str.ofString "__dict__")) (Value.str (Str.ofString "__dict__") 501) (Value.ref 172)), (DictEntry.mk (PyData.keyHash P (Str.ofString "__weakref__")) (Value.str (Str.ofString "__weakref__") 503) (Value.ref 173)), (DictEntry.mk (PyData.keyHash P (Str.ofString "__doc__")) (Value.str (Str.ofString "__doc__") 504) Value.none)] 4) #[])) ::
  ((nat_lit 171), (Obj.mk (Value.type "type") Option.none (Data.cls (ClassData.mk (Str.ofString "Headers") [(Value.type "object")] [(Value.ref 171), (Value.type "object")] 170 (Str.ofString "Headers") true [] [] false Option.none false)) #[Option.none, Option.none, (Option.some (Value.str (Str.ofString "Headers") 351)), (Option.some (Value.str (Str.ofString "Headers") 359)), (Option.some (Value.builtin "object.__new__")), (Option.some (Value.bool true))])) ::
  ((nat_lit 172), (Obj.mk (Value.type "getset_descriptor") Option.none (Data.fields #[(Value.str (Str.ofString "__dict__") 500), (Value.ref 171), (Value.builtin "function.__dict__"), (Value.builtin "function.__dict__#set")]) #[])) ::
  ((nat_lit 173), (Obj.mk (Value.type "getset_descriptor") Option.none (Data.fields #[(Value.str (Str.ofString "__weakref__") 502), (Value.ref 171), (Value.builtin "ExceptionGroup.__weakref__"), Value.none]) #[])) ::
  ((nat_lit 176), (Obj.mk (Value.type "tuple") Option.none (Data.seq #[(Value.type "Exception")] 0) #[])) ::
  ((nat_lit 183), (Obj.mk (Value.type "tuple") Option.none (Data.seq #[] 0) #[])) ::
  ((nat_lit 184), (Obj.mk (Value.type "dict") Option.none (Data.dict #[(DictEntry.mk (PyData.keyHash P (Str.ofString "__module__")) (Value.str (Str.ofString "__module__") 516) (Value.str (Str.ofString "cpy313.ftplib") 507)), (DictEntry.mk (PyData.keyHash P (Str.ofString "__firstlineno__")) (Value.str (Str.ofString "__firstlineno__") 520) (Value.int (79 : Int) 519)), (DictEntry.mk (PyData.keyHash P (Str.ofString "__static_attributes__")) (Value.str (Str.ofString "__static_attributes__") 521) (Value.ref 183)), (DictEntry.mk (PyData.keyHash P (Str.ofString "__weakref__")) (Value.str (Str.ofString "__weakref__") 523) (Value.ref 186)), (DictEntry.mk (PyData.keyHash P (Str.ofString "__doc__")) (Value.str (Str.ofString "__doc__") 524) Value.none)] 3) #[])) ::
  ((nat_lit 185), (Obj.mk (Value.type "type") Option.none (Data.cls (ClassData.mk (Str.ofString "Error") [(Value.type "Exception")] [(Value.ref 185), (Value.type "Exception"), (Value.type "BaseException"), (Value.type "object")] 184 (Str.ofString "Error") true [] [(Value.ref 198)] false Option.none false)) #[(Option.some (Value.ref 176)), Option.none, (Option.some (Value.str (Str.ofString "Error") 509)), (Option.some (Value.str (Str.ofString "Error") 517)), (Option.some (Value.builtin "Exception.__new__")), (Option.some (Value.bool true))])) ::
  ((nat_lit 186), (Obj.mk (Value.type "getset_descriptor") Option.none (Data.fields #[(Value.str (Str.ofString "__weakref__") 522), (Value.ref 185), (Value.builtin "ExceptionGroup.__weakref__"), Value.none]) #[])) ::
  ((nat_lit 189), (Obj.mk (Value.type "tuple") Option.none (Data.seq #[(Value.ref 185)] 0) #[])) ::
  ((nat_lit 196), (Obj.mk (Value.type "tuple") Option.none (Data.seq #[] 0) #[])) ::
  ((nat_lit 197), (Obj.mk (Value.type "dict") Option.none (Data.dict #[(DictEntry.mk (PyData.keyHash P (Str.ofString "__module__")) (Value.str (Str.ofString "__module__") 536) (Value.str (Str.ofString "cpy313.ftplib") 507)), (DictEntry.mk (PyData.keyHash P (Str.ofString "__firstlineno__")) (Value.str (Str.ofString "__firstlineno__") 540) (Value.int (81 : Int) 539)), (DictEntry.mk (PyData.keyHash P (Str.ofString "__static_attributes__")) (Value.str (Str.ofString "__static_attributes__") 541) (Value.ref 196)), (DictEntry.mk (PyData.keyHash P (Str.ofString "__doc__")) (Value.str (Str.ofString "__doc__") 542) Value.none)] 2) #[])) ::
  ((nat_lit 198), (Obj.mk (Value.type "type") Option.none (Data.cls (ClassData.mk (Str.ofString "error_reply") [(Value.ref 185)] [(Value.ref 198), (Value.ref 185), (Value.type "Exception"), (Value.type "BaseException"), (Value.type "object")] 197 (Str.ofString "error_reply") true [] [] false Option.none false)) #[(Option.some (Value.ref 189)), Option.none, (Option.some (Value.str (Str.ofString "error_reply") 529)), (Option.some (Value.str (Str.ofString "error_reply") 537)), (Option.some (Value.builtin "Exception.__new__")), (Option.some (Value.bool true))])) ::
  ((nat_lit 201), (Obj.mk (Value.type "tuple") Option.none (Data.seq #[] 0) #[])) ::
  ((nat_lit 203), (Obj.mk (Value.type "tuple") Option.none (Data.seq #[(Value.str (Str.ofString "resp") 548), (Value.str (Str.ofString "dirname") 549), (Value.str (Str.ofString "i") 550), (Value.str (Str.ofString "n") 551), (Value.str (Str.ofString "c") 552)] 0) #[])) ::
  ((nat_lit 204), (Obj.mk (Value.type "tuple") Option.none (Data.seq #[] 0) #[])) ::
  ((nat_lit 206), (Obj.mk (Value.type "code") Option.none (Data.fields #[(Value.str (Str.ofString "parse257") 545), (Value.str (Str.ofString "parse257") 546), (Value.str (Str.ofString "/claim/cut.py") 547), (Value.int (83 : Int) 0), (Value.int (1 : Int) 0), (Value.int (0 : Int) 0), (Value.int (0 : Int) 0), (Value.int (3 : Int) 0), (Value.ref 201), (Value.bool true), (Value.int (276 : Int) 0), (Value.ref 202), Value.none, (Value.ref 203), (Value.ref 204), (Value.ref 205), (Value.int (553 : Int) 0), (Value.int (83 : Int) 0), (Value.str (Str.ofString "/claim/cut.py") 554)]) #[])) ::
  ((nat_lit 207), (Obj.mk (Value.type "function") Option.none (Data.func (FuncData.mk (Str.ofString "parse257") (Str.ofString "parse257") (fnArgs (topAt 9)) (fnBody (topAt 9)) (fnScope (topAt 9)) 3 [] Value.none Value.none Value.none (Value.str (Str.ofString "cpy313.ftplib") 507) Option.none (Value.ref 206) Value.none 0)) #[])) ::
  ((nat_lit 215), (Obj.mk (Value.type "tuple") Option.none (Data.seq #[Value.none] 0) #[])) ::
  ((nat_lit 216), (Obj.mk (Value.type "tuple") Option.none (Data.seq #[] 0) #[])) ::
  ((nat_lit 218), (Obj.mk (Value.type "tuple") Option.none (Data.seq #[(Value.str (Str.ofString "self") 573), (Value.str (Str.ofString "text_or_uri") 574), (Value.str (Str.ofString "tag") 575)] 0) #[])) ::
  ((nat_lit 219), (Obj.mk (Value.type "tuple") Option.none (Data.seq #[] 0) #[])) ::
  ((nat_lit 221), (Obj.mk (Value.type "code") Option.none (Data.fields #[(Value.str (Str.ofString "__init__") 570), (Value.str (Str.ofString "QName.__init__") 571), (Value.str (Str.ofString "/claim/cut.py") 572), (Value.int (103 : Int) 0), (Value.int (3 : Int) 0), (Value.int (0 : Int) 0), (Value.int (0 : Int) 0), (Value.int (3 : Int) 0), (Value.ref 216), (Value.bool true), (Value.int (276 : Int) 0), (Value.ref 217), Value.none, (Value.ref 218), (Value.ref 219), (Value.ref 220), (Value.int (576 : Int) 0), (Value.int (103 : Int) 0), (Value.str (Str.ofString "/claim/cut.py") 577)]) #[])) ::
  ((nat_lit 222), (Obj.mk (Value.type "function") Option.none (Data.func (FuncData.mk (Str.ofString "__init__") (Str.ofString "QName.__init__") (fnArgs (inCls 11 0)) (fnBody (inCls 11 0)) (fnScope (inCls 11 0)) 3 [] (Value.ref 215) Value.none Value.none (Value.str (Str.ofString "cpy313.xml.etree.ElementTree") 556) Option.none (Value.ref 221) Value.none 0)) #[])) ::
  ((nat_lit 223), (Obj.mk (Value.type "tuple") Option.none (Data.seq #[] 0) #[])) ::
  ((nat_lit 225), (Obj.mk (Value.type "tuple") Option.none (Data.seq #[(Value.str (Str.ofString "self") 582)] 0) #[])) ::
  ((nat_lit 226), (Obj.mk (Value.type "tuple") Option.none (Data.seq #[] 0) #[])) ::
  ((nat_lit 228), (Obj.mk (Value.type "code") Option.none (Data.fields #[(Value.str (Str.ofString "__str__") 579), (Value.str (Str.ofString "QName.__str__") 580), (Value.str (Str.ofString "/claim/cut.py") 581), (Value.int (108 : Int) 0), (Value.int (1 : Int) 0), (Value.int (0 : Int) 0), (Value.int (0 : Int) 0), (Value.int (3 : Int) 0), (Value.ref 223), (Value.bool true), (Value.int (276 : Int) 0), (Value.ref 224), Value.none, (Value.ref 225), (Value.ref 226), (Value.ref 227), (Value.int (583 : Int) 0), (Value.int (108 : Int) 0), (Value.str (Str.ofString "/claim/cut.py") 584)]) #[])) ::
  ((nat_lit 229), (Obj.mk (Value.type "function") Option.none (Data.func (FuncData.mk (Str.ofString "__str__") (Str.ofString "QName.__str__") (fnArgs (inCls 11 1)) (fnBody (inCls 11 1)) (fnScope (inCls 11 1)) 3 [] Value.none Value.none Value.none (Value.str (Str.ofString "cpy313.xml.etree.ElementTree") 556) Option.none (Value.ref 228) Value.none 0)) #[])) ::
  ((nat_lit 230), (Obj.mk (Value.type "tuple") Option.none (Data.seq #[] 0) #[])) ::
  ((nat_lit 232), (Obj.mk (Value.type "tuple") Option.none (Data.seq #[(Value.str (Str.ofString "self") 589)] 0) #[])) ::
  ((nat_lit 233), (Obj.mk (Value.type "tuple") Option.none (Data.seq #[] 0) #[])) ::
  ((nat_lit 235), (Obj.mk (Value.type "code") Option.none (Data.fields #[(Value.str (Str.ofString "__repr__") 586), (Value.str (Str.ofString "QName.__repr__") 587), (Value.str (Str.ofString "/claim/cut.py") 588), (Value.int (111 : Int) 0), (Value.int (1 : Int) 0), (Value.int (0 : Int) 0), (Value.int (0 : Int) 0), (Value.int (3 : Int) 0), (Value.ref 230), (Value.bool true), (Value.int (276 : Int) 0), (Value.ref 231), Value.none, (Value.ref 232), (Value.ref 233), (Value.ref 234), (Value.int (590 : Int) 0), (Value.int (111 : Int) 0), (Value.str (Str.ofString "/claim/cut.py") 591)]) #[])) ::
  ((nat_lit 236), (Obj.mk (Value.type "function") Option.none (Data.func (FuncData.mk (Str.ofString "__repr__") (Str.ofString "QName.__repr__") (fnArgs (inCls 11 2)) (fnBody (inCls 11 2)) (fnScope (inCls 11 2)) 3 [] Value.none Value.none Value.none (Value.str (Str.ofString "cpy313.xml.etree.ElementTree") 556) Option.none (Value.ref 235) Value.none 0)) #[])) ::
  ((nat_lit 237), (Obj.mk (Value.type "tuple") Option.none (Data.seq #[] 0) #[])) ::
  ((nat_lit 239), (Obj.mk (Value.type "tuple") Option.none (Data.seq #[(Value.str (Str.ofString "self") 596)] 0) #[])) ::
  ((nat_lit 240), (Obj.mk (Value.type "tuple") Option.none (Data.seq #[] 0) #[])) ::
  ((nat_lit 242), (Obj.mk (Value.type "code") Option.none (Data.fields #[(Value.str (Str.ofString "__hash__") 593), (Value.str (Str.ofString "QName.__hash__") 594), (Value.str (Str.ofString "/claim/cut.py") 595), (Value.int (114 : Int) 0), (Value.int (1 : Int) 0), (Value.int (0 : Int) 0), (Value.int (0 : Int) 0), (Value.int (3 : Int) 0), (Value.ref 237), (Value.bool true), (Value.int (276 : Int) 0), (Value.ref 238), Value.none, (Value.ref 239), (Value.ref 240), (Value.ref 241), (Value.int (597 : Int) 0), (Value.int (114 : Int) 0), (Value.str (Str.ofString "/claim/cut.py") 598)]) #[])) ::
  ((nat_lit 243), (Obj.mk (Value.type "function") Option.none (Data.func (FuncData.mk (Str.ofString "__hash__") (Str.ofString "QName.__hash__") (fnArgs (inCls 11 3)) (fnBody (inCls 11 3)) (fnScope (inCls 11 3)) 3 [] Value.none Value.none Value.none (Value.str (Str.ofString "cpy313.xml.etree.ElementTree") 556) Option.none (Value.ref 242) Value.none 0)) #[])) ::
  ((nat_lit 244), (Obj.mk (Value.type "tuple") Option.none (Data.seq #[] 0) #[])) ::
  ((nat_lit 246), (Obj.mk (Value.type "tuple") Option.none (Data.seq #[(Value.str (Str.ofString "self") 603), (Value.str (Str.ofString "other") 604)] 0) #[])) ::
  ((nat_lit 247), (Obj.mk (Value.type "tuple") Option.none (Data.seq #[] 0) #[])) ::
  ((nat_lit 249), (Obj.mk (Value.type "code") Option.none (Data.fields #[(Value.str (Str.ofString "__le__") 600), (Value.str (Str.ofString "QName.__le__") 601), (Value.str (Str.ofString "/claim/cut.py") 602), (Value.int (117 : Int) 0), (Value.int (2 : Int) 0), (Value.int (0 : Int) 0), (Value.int (0 : Int) 0), (Value.int (3 : Int) 0), (Value.ref 244), (Value.bool true), (Value.int (276 : Int) 0), (Value.ref 245), Value.none, (Value.ref 246), (Value.ref 247), (Value.ref 248), (Value.int (605 : Int) 0), (Value.int (117 : Int) 0), (Value.str (Str.ofString "/claim/cut.py") 606)]) #[])) ::
  ((nat_lit 250), (Obj.mk (Value.type "function") Option.none (Data.func (FuncData.mk (Str.ofString "__le__") (Str.ofString "QName.__le__") (fnArgs (inCls 11 4)) (fnBody (inCls 11 4)) (fnScope (inCls 11 4)) 3 [] Value.none Value.none Value.none (Value.str (Str.ofString "cpy313.xml.etree.ElementTree") 556) Option.none (Value.ref 249) Value.none 0)) #[])) ::
  ((nat_lit 251), (Obj.mk (Value.type "tuple") Option.none (Data.seq #[] 0) #[])) ::
  ((nat_lit 253), (Obj.mk (Value.type "tuple") Option.none (Data.seq #[(Value.str (Str.ofString "self") 611), (Value.str (Str.ofString "other") 612)] 0) #[])) ::
  ((nat_lit 254), (Obj.mk (Value.type "tuple") Option.none (Data.seq #[] 0) #[])) ::
  ((nat_lit 256), (Obj.mk (Value.type "code") Option.none (Data.fields #[(Value.str (Str.ofString "__lt__") 608), (Value.str (Str.ofString "QName.__lt__") 609), (Value.str (Str.ofString "/claim/cut.py") 610), (Value.int (122 : Int) 0), (Value.int (2 : Int) 0), (Value.int (0 : Int) 0), (Value.int (0 : Int) 0), (Value.int (3 : Int) 0), (Value.ref 251), (Value.bool true), (Value.int (276 : Int) 0), (Value.ref 252), Value.none, (Value.ref 253), (Value.ref 254), (Value.ref 255), (Value.int (613 : Int) 0), (Value.int (122 : Int) 0), (Value.str (Str.ofString "/claim/cut.py") 614)]) #[])) ::
  ((nat_lit 257), (Obj.mk (Value.type "function") Option.none (Data.func (FuncData.mk (Str.ofString "__lt__") (Str.ofString "QName.__lt__") (fnArgs (inCls 11 5)) (fnBody (inCls 11 5)) (fnScope (inCls 11 5)) 3 [] Value.none Value.none Value.none (Value.str (Str.ofString "cpy313.xml.etree.ElementTree") 556) Option.none (Value.ref 256) Value.none 0)) #[])) ::
  ((nat_lit 258), (Obj.mk (Value.type "tuple") Option.none (Data.seq #[] 0) #[])) ::
  ((nat_lit 260), (Obj.mk (Value.type "tuple") Option.none (Data.seq #[(Value.str (Str.ofString "self") 619), (Value.str (Str.ofString "other") 620)] 0) #[])) ::
  ((nat_lit 261), (Obj.mk (Value.type "tuple") Option.none (Data.seq #[] 0) #[])) ::
  ((nat_lit 263), (Obj.mk (Value.type "code") Option.none (Data.fields #[(Value.str (Str.ofString "__ge__") 616), (Value.str (Str.ofString "QName.__ge__") 617), (Value.str (Str.ofString "/claim/cut.py") 618), (Value.int (127 : Int) 0), (Value.int (2 : Int) 0), (Value.int (0 : Int) 0), (Value.int (0 : Int) 0), (Value.int (3 : Int) 0), (Value.ref 258), (Value.bool true), (Value.int (276 : Int) 0), (Value.ref 259), Value.none, (Value.ref 260), (Value.ref 261), (Value.ref 262), (Value.int (621 : Int) 0), (Value.int (127 : Int) 0), (Value.str (Str.ofString "/claim/cut.py") 622)]) #[])) ::
  ((nat_lit 264), (Obj.mk (Value.type "function") Option.none (Data.func (FuncData.mk (Str.ofString "__ge__") (Str.ofString "QName.__ge__") (fnArgs (inCls 11 6)) (fnBody (inCls 11 6)) (fnScope (inCls 11 6)) 3 [] Value.none Value.none Value.none (Value.str (Str.ofString "cpy313.xml.etree.ElementTree") 556) Option.none (Value.ref 263) Value.none 0)) #[])) ::
  ((nat_lit 265), (Obj.mk (Value.type "tuple") Option.none (Data.seq #[] 0) #[])) ::
  ((nat_lit 267), (Obj.mk (Value.type "tuple") Option.none (Data.seq #[(Value.str (Str.ofString "self") 627), (Value.str (Str.ofString "other") 628)] 0) #[])) ::
  ((nat_lit 268), (Obj.mk (Value.type "tuple") Option.none (Data.seq #[] 0) #[])) ::
  ((nat_lit 270), (Obj.mk (Value.type "code") Option.none (Data.fields #[(Value.str (Str.ofString "__gt__") 624), (Value.str (Str.ofString "QName.__gt__") 625), (Value.str (Str.ofString "/claim/cut.py") 626), (Value.int (132 : Int) 0), (Value.int (2 : Int) 0), (Value.int (0 : Int) 0), (Value.int (0 : Int) 0), (Value.int (3 : Int) 0), (Value.ref 265), (Value.bool true), (Value.int (276 : Int) 0), (Value.ref 266), Value.none, (Value.ref 267), (Value.ref 268), (Value.ref 269), (Value.int (629 : Int) 0), (Value.int (132 : Int) 0), (Value.str (Str.ofString "/claim/cut.py") 630)]) #[])) ::
  ((nat_lit 271), (Obj.mk (Value.type "function") Option.none (Data.func (FuncData.mk (Str.ofString "__gt__") (Str.ofString "QName.__gt__") (fnArgs (inCls 11 7)) (fnBody (inCls 11 7)) (fnScope (inCls 11 7)) 3 [] Value.none Value.none Value.none (Value.str (Str.ofString "cpy313.xml.etree.ElementTree") 556) Option.none (Value.ref 270) Value.none 0)) #[])) ::
  ((nat_lit 272), (Obj.mk (Value.type "tuple") Option.none (Data.seq #[] 0) #[])) ::
  ((nat_lit 274), (Obj.mk (Value.type "tuple") Option.none (Data.seq #[(Value.str (Str.ofString "self") 635), (Value.str (Str.ofString "other") 636)] 0) #[])) ::
  ((nat_lit 275), (Obj.mk (Value.type "tuple") Option.none (Data.seq #[] 0) #[])) ::
  ((nat_lit 277), (Obj.mk (Value.type "code") Option.none (Data.fields #[(Value.str (Str.ofString "__eq__") 632), (Value.str (Str.ofString "QName.__eq__") 633), (Value.str (Str.ofString "/claim/cut.py") 634), (Value.int (137 : Int) 0), (Value.int (2 : Int) 0), (Value.int (0 : Int) 0), (Value.int (0 : Int) 0), (Value.int (3 : Int) 0), (Value.ref 272), (Value.bool true), (Value.int (276 : Int) 0), (Value.ref 273), Value.none, (Value.ref 274), (Value.ref 275), (Value.ref 276), (Value.int (637 : Int) 0), (Value.int (137 : Int) 0), (Value.str (Str.ofString "/claim/cut.py") 638)]) #[])) ::
  ((nat_lit 278), (Obj.mk (Value.type "function") Option.none (Data.func (FuncData.mk (Str.ofString "__eq__") (Str.ofString "QName.__eq__") (fnArgs (inCls 11 8)) (fnBody (inCls 11 8)) (fnScope (inCls 11 8)) 3 [] Value.none Value.none Value.none (Value.str (Str.ofString "cpy313.xml.etree.ElementTree") 556) Option.none (Value.ref 277) Value.none 0)) #[])) ::
  ((nat_lit 279), (Obj.mk (Value.type "tuple") Option.none (Data.seq #[(Value.str (Str.ofString "text") 640)] 0) #[])) ::
  ((nat_lit 280), (Obj.mk (Value.type "dict") Option.none (Data.dict #[(DictEntry.mk (PyData.keyHash P (Str.ofString "__module__")) (Value.str (Str.ofString "__module__") 565) (Value.str (Str.ofString "cpy313.xml.etree.ElementTree") 556)), (DictEntry.mk (PyData.keyHash P (Str.ofString "__firstlineno__")) (Value.str (Str.ofString "__firstlineno__") 569) (Value.int (101 : Int) 568)), (DictEntry.mk (PyData.keyHash P (Str.ofString "__init__")) (Value.str (Str.ofString "__init__") 578) (Value.ref 222)), (DictEntry.mk (PyData.keyHash P (Str.ofString "__str__")) (Value.str (Str.ofString "__str__") 585) (Value.ref 229)), (DictEntry.mk (PyData.keyHash P (Str.ofString "__repr__")) (Value.str (Str.ofString "__repr__") 592) (Value.ref 236)), (DictEntry.mk (PyData.keyHash P (Str.ofString "__hash__")) (Value.str (Str.ofString "__hash__") 599) (Value.ref 243)), (DictEntry.mk (PyData.keyHash P (Str.ofString "__le__")) (Value.str (Str.ofString "__le__") 607) (Value.ref 250)), (DictEntry.mk (PyData.keyHash P (Str.ofString "__lt__")) (Value.str (Str.ofString "__lt__") 615) (Value.ref 257)), (DictEntry.mk (PyData.keyHash P (Str.ofString "__ge__")) (Value.str (Str.ofString "__ge__") 623) (Value.ref 264)), (DictEntry.mk (PyData.keyHash P (Str.ofString "__gt__")) (Value.str (Str.ofString "__gt__") 631) (Value.ref 271)), (DictEntry.mk (PyData.keyHash P (Str.ofString "__eq__")) (Value.str (Str.ofString "__eq__") 639) (Value.ref 278)), (DictEntry.mk (PyData.keyHash P (Str.ofString "__static_attributes__")) (Value.str (Str.ofString "__static_attributes__") 641) (Value.ref 279)), (DictEntry.mk (PyData.keyHash P (Str.ofString "__dict__")) (Value.str (Str.ofString "__dict__") 643) (Value.ref 282)), (DictEntry.mk (PyData.keyHash P (Str.ofString "__weakref__")) (Value.str (Str.ofString "__weakref__") 645) (Value.ref 283)), (DictEntry.mk (PyData.keyHash P (Str.ofString "__doc__")) (Value.str (Str.ofString "__doc__") 646) Value.none)] 4) #[])) ::
  ((nat_lit 281), (Obj.mk (Value.type "type") Option.none (Data.cls (ClassData.mk (Str.ofString "QName") [(Value.type "object")] [(Value.ref 281), (Value.type "object")] 280 (Str.ofString "QName") true [] [] false Option.none false)) #[Option.none, Option.none, (Option.some (Value.str (Str.ofString "QName") 558)), (Option.some (Value.str (Str.ofString "QName") 566)), (Option.some (Value.builtin "object.__new__")), (Option.some (Value.bool true))])) ::
  ((nat_lit 282), (Obj.mk (Value.type "getset_descriptor") Option.none (Data.fields #[(Value.str (Str.ofString "__dict__") 642), (Value.ref 281), (Value.builtin "function.__dict__"), (Value.builtin "function.__dict__#set")]) #[])) ::
  ((nat_lit 283), (Obj.mk (Value.type "getset_descriptor") Option.none (Data.fields #[(Value.str (Str.ofString "__weakref__") 644), (Value.ref 281), (Value.builtin "ExceptionGroup.__weakref__"), Value.none]) #[])) ::
  ((nat_lit 286), (Obj.mk (Value.type "tuple") Option.none (Data.seq #[] 0) #[])) ::
  ((nat_lit 288), (Obj.mk (Value.type "tuple") Option.none (Data.seq #[(Value.str (Str.ofString "text") 652)] 0) #[])) ::
  ((nat_lit 289), (Obj.mk (Value.type "tuple") Option.none (Data.seq #[] 0) #[])) ::
  ((nat_lit 291), (Obj.mk (Value.type "code") Option.none (Data.fields #[(Value.str (Str.ofString "_raise_serialization_error") 649), (Value.str (Str.ofString "_raise_serialization_error") 650), (Value.str (Str.ofString "/claim/cut.py") 651), (Value.int (141 : Int) 0), (Value.int (1 : Int) 0), (Value.int (0 : Int) 0), (Value.int (0 : Int) 0), (Value.int (3 : Int) 0), (Value.ref 286), (Value.bool true), (Value.int (276 : Int) 0), (Value.ref 287), Value.none, (Value.ref 288), (Value.ref 289), (Value.ref 290), (Value.int (653 : Int) 0), (Value.int (141 : Int) 0), (Value.str (Str.ofString "/claim/cut.py") 654)]) #[])) ::
  ((nat_lit 292), (Obj.mk (Value.type "function") Option.none (Data.func (FuncData.mk (Str.ofString "_raise_serialization_error") (Str.ofString "_raise_serialization_error") (fnArgs (topAt 12)) (fnBody (topAt 12)) (fnScope (topAt 12)) 3 [] Value.none Value.none Value.none (Value.str (Str.ofString "cpy313.xml.etree.ElementTree") 556) Option.none (Value.ref 291) Value.none 0)) #[])) ::
  ((nat_lit 293), (Obj.mk (Value.type "tuple") Option.none (Data.seq #[] 0) #[])) ::
  ((nat_lit 295), (Obj.mk (Value.type "tuple") Option.none (Data.seq #[(Value.str (Str.ofString "text") 659)] 0) #[])) ::
  ((nat_lit 296), (Obj.mk (Value.type "tuple") Option.none (Data.seq #[] 0) #[])) ::
  ((nat_lit 298), (Obj.mk (Value.type "code") Option.none (Data.fields #[(Value.str (Str.ofString "_escape_cdata") 656), (Value.str (Str.ofString "_escape_cdata") 657), (Value.str (Str.ofString "/claim/cut.py") 658), (Value.int (143 : Int) 0), (Value.int (1 : Int) 0), (Value.int (0 : Int) 0), (Value.int (0 : Int) 0), (Value.int (3 : Int) 0), (Value.ref 293), (Value.bool true), (Value.int (276 : Int) 0), (Value.ref 294), Value.none, (Value.ref 295), (Value.ref 296), (Value.ref 297), (Value.int (660 : Int) 0), (Value.int (143 : Int) 0), (Value.str (Str.ofString "/claim/cut.py") 661)]) #[])) ::
  ((nat_lit 299), (Obj.mk (Value.type "function") Option.none (Data.func (FuncData.mk (Str.ofString "_escape_cdata") (Str.ofString "_escape_cdata") (fnArgs (topAt 13)) (fnBody (topAt 13)) (fnScope (topAt 13)) 3 [] Value.none Value.none Value.none (Value.str (Str.ofString "cpy313.xml.etree.ElementTree") 556) Option.none (Value.ref 298) Value.none 0)) #[])) ::
  ((nat_lit 300), (Obj.mk (Value.type "tuple") Option.none (Data.seq #[] 0) #[])) ::
  ((nat_lit 302), (Obj.mk (Value.type "tuple") Option.none (Data.seq #[(Value.str (Str.ofString "text") 666)] 0) #[])) ::
  ((nat_lit 303), (Obj.mk (Value.type "tuple") Option.none (Data.seq #[] 0) #[])) ::
  ((nat_lit 305), (Obj.mk (Value.type "code") Option.none (Data.fields #[(Value.str (Str.ofString "_escape_attrib") 663), (Value.str (Str.ofString "_escape_attrib") 664), (Value.str (Str.ofString "/claim/cut.py") 665), (Value.int (154 : Int) 0), (Value.int (1 : Int) 0), (Value.int (0 : Int) 0), (Value.int (0 : Int) 0), (Value.int (3 : Int) 0), (Value.ref 300), (Value.bool true), (Value.int (276 : Int) 0), (Value.ref 301), Value.none, (Value.ref 302), (Value.ref 303), (Value.ref 304), (Value.int (667 : Int) 0), (Value.int (154 : Int) 0), (Value.str (Str.ofString "/claim/cut.py") 668)]) #[])) ::
  ((nat_lit 306), (Obj.mk (Value.type "function") Option.none (Data.func (FuncData.mk (Str.ofString "_escape_attrib") (Str.ofString "_escape_attrib") (fnArgs (topAt 14)) (fnBody (topAt 14)) (fnScope (topAt 14)) 3 [] Value.none Value.none Value.none (Value.str (Str.ofString "cpy313.xml.etree.ElementTree") 556) Option.none (Value.ref 305) Value.none 0)) #[])) ::
  ((nat_lit 307), (Obj.mk (Value.type "tuple") Option.none (Data.seq #[] 0) #[])) ::
  ((nat_lit 309), (Obj.mk (Value.type "tuple") Option.none (Data.seq #[(Value.str (Str.ofString "text") 673)] 0) #[])) ::
  ((nat_lit 310), (Obj.mk (Value.type "tuple") Option.none (Data.seq #[] 0) #[])) ::
  ((nat_lit 312), (Obj.mk (Value.type "code") Option.none (Data.fields #[(Value.str (Str.ofString "_escape_attrib_html") 670), (Value.str (Str.ofString "_escape_attrib_html") 671), (Value.str (Str.ofString "/claim/cut.py") 672), (Value.int (173 : Int) 0), (Value.int (1 : Int) 0), (Value.int (0 : Int) 0), (Value.int (0 : Int) 0), (Value.int (3 : Int) 0), (Value.ref 307), (Value.bool true), (Value.int (276 : Int) 0), (Value.ref 308), Value.none, (Value.ref 309), (Value.ref 310), (Value.ref 311), (Value.int (674 : Int) 0), (Value.int (173 : Int) 0), (Value.str (Str.ofString "/claim/cut.py") 675)]) #[])) ::
  ((nat_lit 313), (Obj.mk (Value.type "function") Option.none (Data.func (FuncData.mk (Str.ofString "_escape_attrib_html") (Str.ofString "_escape_attrib_html") (fnArgs (topAt 15)) (fnBody (topAt 15)) (fnScope (topAt 15)) 3 [] Value.none Value.none Value.none (Value.str (Str.ofString "cpy313.xml.etree.ElementTree") 556) Option.none (Value.ref 312) Value.none 0)) #[])) ::
  ((nat_lit 314), (Obj.mk (Value.type "tuple") Option.none (Data.seq #[] 0) #[])) ::
  ((nat_lit 316), (Obj.mk (Value.type "tuple") Option.none (Data.seq #[(Value.str (Str.ofString "text") 680)] 0) #[])) ::
  ((nat_lit 317), (Obj.mk (Value.type "tuple") Option.none (Data.seq #[] 0) #[])) ::
  ((nat_lit 319), (Obj.mk (Value.type "code") Option.none (Data.fields #[(Value.str (Str.ofString "_escape_cdata_c14n") 677), (Value.str (Str.ofString "_escape_cdata_c14n") 678), (Value.str (Str.ofString "/claim/cut.py") 679), (Value.int (184 : Int) 0), (Value.int (1 : Int) 0), (Value.int (0 : Int) 0), (Value.int (0 : Int) 0), (Value.int (3 : Int) 0), (Value.ref 314), (Value.bool true), (Value.int (276 : Int) 0), (Value.ref 315), Value.none, (Value.ref 316), (Value.ref 317), (Value.ref 318), (Value.int (681 : Int) 0), (Value.int (184 : Int) 0), (Value.str (Str.ofString "/claim/cut.py") 682)]) #[])) ::
  ((nat_lit 320), (Obj.mk (Value.type "function") Option.none (Data.func (FuncData.mk (Str.ofString "_escape_cdata_c14n") (Str.ofString "_escape_cdata_c14n") (fnArgs (topAt 16)) (fnBody (topAt 16)) (fnScope (topAt 16)) 3 [] Value.none Value.none Value.none (Value.str (Str.ofString "cpy313.xml.etree.ElementTree") 556) Option.none (Value.ref 319) Value.none 0)) #[])) ::
  ((nat_lit 321), (Obj.mk (Value.type "tuple") Option.none (Data.seq #[] 0) #[])) ::
  ((nat_lit 323), (Obj.mk (Value.type "tuple") Option.none (Data.seq #[(Value.str (Str.ofString "text") 687)] 0) #[])) ::
  ((nat_lit 324), (Obj.mk (Value.type "tuple") Option.none (Data.seq #[] 0) #[])) ::
  ((nat_lit 326), (Obj.mk (Value.type "code") Option.none (Data.fields #[(Value.str (Str.ofString "_escape_attrib_c14n") 684), (Value.str (Str.ofString "_escape_attrib_c14n") 685), (Value.str (Str.ofString "/claim/cut.py") 686), (Value.int (197 : Int) 0), (Value.int (1 : Int) 0), (Value.int (0 : Int) 0), (Value.int (0 : Int) 0), (Value.int (3 : Int) 0), (Value.ref 321), (Value.bool true), (Value.int (276 : Int) 0), (Value.ref 322), Value.none, (Value.ref 323), (Value.ref 324), (Value.ref 325), (Value.int (688 : Int) 0), (Value.int (197 : Int) 0), (Value.str (Str.ofString "/claim/cut.py") 689)]) #[])) ::
  ((nat_lit 327), (Obj.mk (Value.type "function") Option.none (Data.func (FuncData.mk (Str.ofString "_escape_attrib_c14n") (Str.ofString "_escape_attrib_c14n") (fnArgs (topAt 17)) (fnBody (topAt 17)) (fnScope (topAt 17)) 3 [] Value.none Value.none Value.none (Value.str (Str.ofString "cpy313.xml.etree.ElementTree") 556) Option.none (Value.ref 326) Value.none 0)) #[])) ::
  ((nat_lit 328), (Obj.mk (Value.type "tuple") Option.none (Data.seq #[] 0) #[])) ::
  ((nat_lit 330), (Obj.mk (Value.type "tuple") Option.none (Data.seq #[(Value.str (Str.ofString "x") 696), (Value.str (Str.ofString "name") 697), (Value.str (Str.ofString "kind") 698), (Value.str (Str.ofString "code") 699), (Value.str (Str.ofString "behind") 700)] 0) #[])) ::
  ((nat_lit 331), (Obj.mk (Value.type "tuple") Option.none (Data.seq #[] 0) #[])) ::
  ((nat_lit 333), (Obj.mk (Value.type "code") Option.none (Data.fields #[(Value.str (Str.ofString "_law_reply") 693), (Value.str (Str.ofString "_law_reply") 694), (Value.str (Str.ofString "/claim/cut.py") 695), (Value.int (215 : Int) 0), (Value.int (1 : Int) 0), (Value.int (0 : Int) 0), (Value.int (0 : Int) 0), (Value.int (3 : Int) 0), (Value.ref 328), (Value.bool true), (Value.int (276 : Int) 0), (Value.ref 329), Value.none, (Value.ref 330), (Value.ref 331), (Value.ref 332), (Value.int (701 : Int) 0), (Value.int (215 : Int) 0), (Value.str (Str.ofString "/claim/cut.py") 702)]) #[])) ::
  ((nat_lit 334), (Obj.mk (Value.type "function") Option.none (Data.func (FuncData.mk (Str.ofString "_law_reply") (Str.ofString "_law_reply") (fnArgs (topAt 19)) (fnBody (topAt 19)) (fnScope (topAt 19)) 3 [] Value.none Value.none Value.none (Value.str (Str.ofString "law_xn0027_01") 691) Option.none (Value.ref 333) Value.none 0)) #[])) ::
  ((nat_lit 335), (Obj.mk (Value.type "tuple") Option.none (Data.seq #[] 0) #[])) ::
  ((nat_lit 337), (Obj.mk (Value.type "tuple") Option.none (Data.seq #[(Value.str (Str.ofString "reply") 707), (Value.str (Str.ofString "fault") 708)] 0) #[])) ::
  ((nat_lit 338), (Obj.mk (Value.type "tuple") Option.none (Data.seq #[] 0) #[])) ::
  ((nat_lit 340), (Obj.mk (Value.type "code") Option.none (Data.fields #[(Value.str (Str.ofString "_law_told") 704), (Value.str (Str.ofString "_law_told") 705), (Value.str (Str.ofString "/claim/cut.py") 706), (Value.int (223 : Int) 0), (Value.int (1 : Int) 0), (Value.int (0 : Int) 0), (Value.int (0 : Int) 0), (Value.int (3 : Int) 0), (Value.ref 335), (Value.bool true), (Value.int (276 : Int) 0), (Value.ref 336), Value.none, (Value.ref 337), (Value.ref 338), (Value.ref 339), (Value.int (709 : Int) 0), (Value.int (223 : Int) 0), (Value.str (Str.ofString "/claim/cut.py") 710)]) #[])) ::
  ((nat_lit 341), (Obj.mk (Value.type "function") Option.none (Data.func (FuncData.mk (Str.ofString "_law_told") (Str.ofString "_law_told") (fnArgs (topAt 20)) (fnBody (topAt 20)) (fnScope (topAt 20)) 3 [] Value.none Value.none Value.none (Value.str (Str.ofString "law_xn0027_01") 691) Option.none (Value.ref 340) Value.none 0)) #[])) ::
  ((nat_lit 342), (Obj.mk (Value.type "tuple") Option.none (Data.seq #[] 0) #[])) ::
  ((nat_lit 344), (Obj.mk (Value.type "tuple") Option.none (Data.seq #[(Value.str (Str.ofString "x") 715), (Value.str (Str.ofString "signs") 716)] 0) #[])) ::
  ((nat_lit 345), (Obj.mk (Value.type "tuple") Option.none (Data.seq #[] 0) #[])) ::
  ((nat_lit 347), (Obj.mk (Value.type "code") Option.none (Data.fields #[(Value.str (Str.ofString "_law_key") 712), (Value.str (Str.ofString "_law_key") 713), (Value.str (Str.ofString "/claim/cut.py") 714), (Value.int (228 : Int) 0), (Value.int (1 : Int) 0), (Value.int (0 : Int) 0), (Value.int (0 : Int) 0), (Value.int (3 : Int) 0), (Value.ref 342), (Value.bool true), (Value.int (276 : Int) 0), (Value.ref 343), Value.none, (Value.ref 344), (Value.ref 345), (Value.ref 346), (Value.int (717 : Int) 0), (Value.int (228 : Int) 0), (Value.str (Str.ofString "/claim/cut.py") 718)]) #[])) ::
  ((nat_lit 348), (Obj.mk (Value.type "function") Option.none (Data.func (FuncData.mk (Str.ofString "_law_key") (Str.ofString "_law_key") (fnArgs (topAt 21)) (fnBody (topAt 21)) (fnScope (topAt 21)) 3 [] Value.none Value.none Value.none (Value.str (Str.ofString "law_xn0027_01") 691) Option.none (Value.ref 347) Value.none 0)) #[])) ::
  ((nat_lit 349), (Obj.mk (Value.type "tuple") Option.none (Data.seq #[] 0) #[])) ::
  ((nat_lit 351), (Obj.mk (Value.type "tuple") Option.none (Data.seq #[(Value.str (Str.ofString "which") 723), (Value.str (Str.ofString "sign") 724)] 0) #[])) ::
  ((nat_lit 352), (Obj.mk (Value.type "tuple") Option.none (Data.seq #[] 0) #[])) ::
  ((nat_lit 354), (Obj.mk (Value.type "code") Option.none (Data.fields #[(Value.str (Str.ofString "_law_written") 720), (Value.str (Str.ofString "_law_written") 721), (Value.str (Str.ofString "/claim/cut.py") 722), (Value.int (233 : Int) 0), (Value.int (2 : Int) 0), (Value.int (0 : Int) 0), (Value.int (0 : Int) 0), (Value.int (3 : Int) 0), (Value.ref 349), (Value.bool true), (Value.int (276 : Int) 0), (Value.ref 350), Value.none, (Value.ref 351), (Value.ref 352), (Value.ref 353), (Value.int (725 : Int) 0), (Value.int (233 : Int) 0), (Value.str (Str.ofString "/claim/cut.py") 726)]) #[])) ::
  ((nat_lit 355), (Obj.mk (Value.type "function") Option.none (Data.func (FuncData.mk (Str.ofString "_law_written") (Str.ofString "_law_written") (fnArgs (topAt 22)) (fnBody (topAt 22)) (fnScope (topAt 22)) 3 [] Value.none Value.none Value.none (Value.str (Str.ofString "law_xn0027_01") 691) Option.none (Value.ref 354) Value.none 0)) #[])) ::
  ((nat_lit 356), (Obj.mk (Value.type "tuple") Option.none (Data.seq #[] 0) #[])) ::
  ((nat_lit 358), (Obj.mk (Value.type "tuple") Option.none (Data.seq #[(Value.str (Str.ofString "which") 731)] 0) #[])) ::
  ((nat_lit 359), (Obj.mk (Value.type "tuple") Option.none (Data.seq #[] 0) #[])) ::
  ((nat_lit 361), (Obj.mk (Value.type "code") Option.none (Data.fields #[(Value.str (Str.ofString "_law_spelled") 728), (Value.str (Str.ofString "_law_spelled") 729), (Value.str (Str.ofString "/claim/cut.py") 730), (Value.int (243 : Int) 0), (Value.int (1 : Int) 0), (Value.int (0 : Int) 0), (Value.int (0 : Int) 0), (Value.int (3 : Int) 0), (Value.ref 356), (Value.bool true), (Value.int (276 : Int) 0), (Value.ref 357), Value.none, (Value.ref 358), (Value.ref 359), (Value.ref 360), (Value.int (732 : Int) 0), (Value.int (243 : Int) 0), (Value.str (Str.ofString "/claim/cut.py") 733)]) #[])) ::
  ((nat_lit 362), (Obj.mk (Value.type "function") Option.none (Data.func (FuncData.mk (Str.ofString "_law_spelled") (Str.ofString "_law_spelled") (fnArgs (topAt 23)) (fnBody (topAt 23)) (fnScope (topAt 23)) 3 [] Value.none Value.none Value.none (Value.str (Str.ofString "law_xn0027_01") 691) Option.none (Value.ref 361) Value.none 0)) #[])) ::
  ((nat_lit 363), (Obj.mk (Value.type "tuple") Option.none (Data.seq #[] 0) #[])) ::
  ((nat_lit 365), (Obj.mk (Value.type "tuple") Option.none (Data.seq #[(Value.str (Str.ofString "table") 738), (Value.str (Str.ofString "names") 739), (Value.str (Str.ofString "free") 740), (Value.str (Str.ofString "k") 741), (Value.str (Str.ofString "fault") 742)] 0) #[])) ::
  ((nat_lit 366), (Obj.mk (Value.type "tuple") Option.none (Data.seq #[] 0) #[])) ::
  ((nat_lit 368), (Obj.mk (Value.type "code") Option.none (Data.fields #[(Value.str (Str.ofString "_law_free") 735), (Value.str (Str.ofString "_law_free") 736), (Value.str (Str.ofString "/claim/cut.py") 737), (Value.int (245 : Int) 0), (Value.int (2 : Int) 0), (Value.int (0 : Int) 0), (Value.int (0 : Int) 0), (Value.int (3 : Int) 0), (Value.ref 363), (Value.bool true), (Value.int (276 : Int) 0), (Value.ref 364), Value.none, (Value.ref 365), (Value.ref 366), (Value.ref 367), (Value.int (743 : Int) 0), (Value.int (245 : Int) 0), (Value.str (Str.ofString "/claim/cut.py") 744)]) #[])) ::
  ((nat_lit 369), (Obj.mk (Value.type "function") Option.none (Data.func (FuncData.mk (Str.ofString "_law_free") (Str.ofString "_law_free") (fnArgs (topAt 24)) (fnBody (topAt 24)) (fnScope (topAt 24)) 3 [] Value.none Value.none Value.none (Value.str (Str.ofString "law_xn0027_01") 691) Option.none (Value.ref 368) Value.none 0)) #[])) ::
  ((nat_lit 370), (Obj.mk (Value.type "tuple") Option.none (Data.seq #[] 0) #[])) ::
  ((nat_lit 372), (Obj.mk (Value.type "tuple") Option.none (Data.seq #[(Value.str (Str.ofString "table") 749), (Value.str (Str.ofString "name") 750), (Value.str (Str.ofString "key") 751)] 0) #[])) ::
  ((nat_lit 373), (Obj.mk (Value.type "tuple") Option.none (Data.seq #[] 0) #[])) ::
  ((nat_lit 375), (Obj.mk (Value.type "code") Option.none (Data.fields #[(Value.str (Str.ofString "_law_lay") 746), (Value.str (Str.ofString "_law_lay") 747), (Value.str (Str.ofString "/claim/cut.py") 748), (Value.int (255 : Int) 0), (Value.int (3 : Int) 0), (Value.int (0 : Int) 0), (Value.int (0 : Int) 0), (Value.int (3 : Int) 0), (Value.ref 370), (Value.bool true), (Value.int (276 : Int) 0), (Value.ref 371), Value.none, (Value.ref 372), (Value.ref 373), (Value.ref 374), (Value.int (752 : Int) 0), (Value.int (255 : Int) 0), (Value.str (Str.ofString "/claim/cut.py") 753)]) #[])) ::
  ((nat_lit 376), (Obj.mk (Value.type "function") Option.none (Data.func (FuncData.mk (Str.ofString "_law_lay") (Str.ofString "_law_lay") (fnArgs (topAt 25)) (fnBody (topAt 25)) (fnScope (topAt 25)) 3 [] Value.none Value.none Value.none (Value.str (Str.ofString "law_xn0027_01") 691) Option.none (Value.ref 375) Value.none 0)) #[])) ::
  ((nat_lit 377), (Obj.mk (Value.type "tuple") Option.none (Data.seq #[] 0) #[])) ::
  ((nat_lit 379), (Obj.mk (Value.type "tuple") Option.none (Data.seq #[(Value.str (Str.ofString "size") 758), (Value.str (Str.ofString "wishes") 759), (Value.str (Str.ofString "place") 760), (Value.str (Str.ofString "one") 761), (Value.str (Str.ofString "other") 762), (Value.str (Str.ofString "way") 763), (Value.str (Str.ofString "far") 764)] 0) #[])) ::
  ((nat_lit 380), (Obj.mk (Value.type "tuple") Option.none (Data.seq #[] 0) #[])) ::
  ((nat_lit 382), (Obj.mk (Value.type "code") Option.none (Data.fields #[(Value.str (Str.ofString "_law_before") 755), (Value.str (Str.ofString "_law_before") 756), (Value.str (Str.ofString "/claim/cut.py") 757), (Value.int (257 : Int) 0), (Value.int (5 : Int) 0), (Value.int (0 : Int) 0), (Value.int (0 : Int) 0), (Value.int (3 : Int) 0), (Value.ref 377), (Value.bool true), (Value.int (276 : Int) 0), (Value.ref 378), Value.none, (Value.ref 379), (Value.ref 380), (Value.ref 381), (Value.int (765 : Int) 0), (Value.int (257 : Int) 0), (Value.str (Str.ofString "/claim/cut.py") 766)]) #[])) ::
  ((nat_lit 383), (Obj.mk (Value.type "function") Option.none (Data.func (FuncData.mk (Str.ofString "_law_before") (Str.ofString "_law_before") (fnArgs (topAt 26)) (fnBody (topAt 26)) (fnScope (topAt 26)) 3 [] Value.none Value.none Value.none (Value.str (Str.ofString "law_xn0027_01") 691) Option.none (Value.ref 382) Value.none 0)) #[])) ::
  ((nat_lit 384), (Obj.mk (Value.type "tuple") Option.none (Data.seq #[] 0) #[])) ::
  ((nat_lit 386), (Obj.mk (Value.type "tuple") Option.none (Data.seq #[(Value.str (Str.ofString "table") 771), (Value.str (Str.ofString "names") 772), (Value.str (Str.ofString "wishes") 773), (Value.str (Str.ofString "place") 774), (Value.str (Str.ofString "key") 775), (Value.str (Str.ofString "size") 776), (Value.str (Str.ofString "there") 777)] 0) #[])) ::
  ((nat_lit 387), (Obj.mk (Value.type "tuple") Option.none (Data.seq #[] 0) #[])) ::
  ((nat_lit 389), (Obj.mk (Value.type "code") Option.none (Data.fields #[(Value.str (Str.ofString "_law_put") 768), (Value.str (Str.ofString "_law_put") 769), (Value.str (Str.ofString "/claim/cut.py") 770), (Value.int (261 : Int) 0), (Value.int (5 : Int) 0), (Value.int (0 : Int) 0), (Value.int (0 : Int) 0), (Value.int (3 : Int) 0), (Value.ref 384), (Value.bool true), (Value.int (276 : Int) 0), (Value.ref 385), Value.none, (Value.ref 386), (Value.ref 387), (Value.ref 388), (Value.int (778 : Int) 0), (Value.int (261 : Int) 0), (Value.str (Str.ofString "/claim/cut.py") 779)]) #[])) ::
  ((nat_lit 390), (Obj.mk (Value.type "function") Option.none (Data.func (FuncData.mk (Str.ofString "_law_put") (Str.ofString "_law_put") (fnArgs (topAt 27)) (fnBody (topAt 27)) (fnScope (topAt 27)) 3 [] Value.none Value.none Value.none (Value.str (Str.ofString "law_xn0027_01") 691) Option.none (Value.ref 389) Value.none 0)) #[])) ::
  ((nat_lit 391), (Obj.mk (Value.type "tuple") Option.none (Data.seq #[] 0) #[])) ::
  ((nat_lit 393), (Obj.mk (Value.type "tuple") Option.none (Data.seq #[(Value.str (Str.ofString "table") 784), (Value.str (Str.ofString "names") 785), (Value.str (Str.ofString "wishes") 786), (Value.str (Str.ofString "hole") 787), (Value.str (Str.ofString "size") 788), (Value.str (Str.ofString "place") 789), (Value.str (Str.ofString "there") 790)] 0) #[])) ::
  ((nat_lit 394), (Obj.mk (Value.type "tuple") Option.none (Data.seq #[] 0) #[])) ::
  ((nat_lit 396), (Obj.mk (Value.type "code") Option.none (Data.fields #[(Value.str (Str.ofString "_law_take") 781), (Value.str (Str.ofString "_law_take") 782), (Value.str (Str.ofString "/claim/cut.py") 783), (Value.int (269 : Int) 0), (Value.int (4 : Int) 0), (Value.int (0 : Int) 0), (Value.int (0 : Int) 0), (Value.int (3 : Int) 0), (Value.ref 391), (Value.bool true), (Value.int (276 : Int) 0), (Value.ref 392), Value.none, (Value.ref 393), (Value.ref 394), (Value.ref 395), (Value.int (791 : Int) 0), (Value.int (269 : Int) 0), (Value.str (Str.ofString "/claim/cut.py") 792)]) #[])) ::
  ((nat_lit 397), (Obj.mk (Value.type "function") Option.none (Data.func (FuncData.mk (Str.ofString "_law_take") (Str.ofString "_law_take") (fnArgs (topAt 28)) (fnBody (topAt 28)) (fnScope (topAt 28)) 3 [] Value.none Value.none Value.none (Value.str (Str.ofString "law_xn0027_01") 691) Option.none (Value.ref 396) Value.none 0)) #[])) ::
  ((nat_lit 398), (Obj.mk (Value.type "tuple") Option.none (Data.seq #[] 0) #[])) ::
  ((nat_lit 400), (Obj.mk (Value.type "tuple") Option.none (Data.seq #[(Value.str (Str.ofString "table") 797), (Value.str (Str.ofString "names") 798), (Value.str (Str.ofString "wishes") 799), (Value.str (Str.ofString "key") 800), (Value.str (Str.ofString "size") 801), (Value.str (Str.ofString "place") 802), (Value.str (Str.ofString "there") 803), (Value.str (Str.ofString "turn") 804)] 0) #[])) ::
  ((nat_lit 401), (Obj.mk (Value.type "tuple") Option.none (Data.seq #[] 0) #[])) ::
  ((nat_lit 403), (Obj.mk (Value.type "code") Option.none (Data.fields #[(Value.str (Str.ofString "_law_deed") 794), (Value.str (Str.ofString "_law_deed") 795), (Value.str (Str.ofString "/claim/cut.py") 796), (Value.int (281 : Int) 0), (Value.int (4 : Int) 0), (Value.int (0 : Int) 0), (Value.int (0 : Int) 0), (Value.int (3 : Int) 0), (Value.ref 398), (Value.bool true), (Value.int (276 : Int) 0), (Value.ref 399), Value.none, (Value.ref 400), (Value.ref 401), (Value.ref 402), (Value.int (805 : Int) 0), (Value.int (281 : Int) 0), (Value.str (Str.ofString "/claim/cut.py") 806)]) #[])) ::
  ((nat_lit 404), (Obj.mk (Value.type "function") Option.none (Data.func (FuncData.mk (Str.ofString "_law_deed") (Str.ofString "_law_deed") (fnArgs (topAt 29)) (fnBody (topAt 29)) (fnScope (topAt 29)) 3 [] Value.none Value.none Value.none (Value.str (Str.ofString "law_xn0027_01") 691) Option.none (Value.ref 403) Value.none 0)) #[])) ::
  ((nat_lit 405), (Obj.mk (Value.type "tuple") Option.none (Data.seq #[] 0) #[])) ::
  ((nat_lit 407), (Obj.mk (Value.type "tuple") Option.none (Data.seq #[(Value.str (Str.ofString "homes") 811), (Value.str (Str.ofString "size") 812), (Value.str (Str.ofString "end") 813), (Value.str (Str.ofString "most") 814), (Value.str (Str.ofString "total") 815), (Value.str (Str.ofString "back") 816)] 0) #[])) ::
  ((nat_lit 408), (Obj.mk (Value.type "tuple") Option.none (Data.seq #[] 0) #[])) ::
  ((nat_lit 410), (Obj.mk (Value.type "code") Option.none (Data.fields #[(Value.str (Str.ofString "_law_excess") 808), (Value.str (Str.ofString "_law_excess") 809), (Value.str (Str.ofString "/claim/cut.py") 810), (Value.int (294 : Int) 0), (Value.int (3 : Int) 0), (Value.int (0 : Int) 0), (Value.int (0 : Int) 0), (Value.int (3 : Int) 0), (Value.ref 405), (Value.bool true), (Value.int (276 : Int) 0), (Value.ref 406), Value.none, (Value.ref 407), (Value.ref 408), (Value.ref 409), (Value.int (817 : Int) 0), (Value.int (294 : Int) 0), (Value.str (Str.ofString "/claim/cut.py") 818)]) #[])) ::
  ((nat_lit 411), (Obj.mk (Value.type "function") Option.none (Data.func (FuncData.mk (Str.ofString "_law_excess") (Str.ofString "_law_excess") (fnArgs (topAt 30)) (fnBody (topAt 30)) (fnScope (topAt 30)) 3 [] Value.none Value.none Value.none (Value.str (Str.ofString "law_xn0027_01") 691) Option.none (Value.ref 410) Value.none 0)) #[])) ::
  ((nat_lit 412), (Obj.mk (Value.type "tuple") Option.none (Data.seq #[] 0) #[])) ::
  ((nat_lit 415), (Obj.mk (Value.type "code") Option.none (Data.fields #[(Value.str (Str.ofString "_law_due") 820), (Value.str (Str.ofString "_law_due") 821), (Value.str (Str.ofString "/claim/cut.py") 822), (Value.int (301 : Int) 0), (Value.int (3 : Int) 0), (Value.int (0 : Int) 0), (Value.int (0 : Int) 0), (Value.int (3 : Int) 0), (Value.ref 412), (Value.bool true), (Value.int (276 : Int) 0), (Value.ref 413), Value.none, Value.none, Value.none, (Value.ref 414), (Value.int (823 : Int) 0), (Value.int (301 : Int) 0), (Value.str (Str.ofString "/claim/cut.py") 824)]) #[])) ::
  ((nat_lit 416), (Obj.mk (Value.type "function") Option.none (Data.func (FuncData.mk (Str.ofString "_law_due") (Str.ofString "_law_due") (fnArgs (topAt 31)) (fnBody (topAt 31)) (fnScope (topAt 31)) 3 [] Value.none Value.none Value.none (Value.str (Str.ofString "law_xn0027_01") 691) Option.none (Value.ref 415) Value.none 0)) #[])) ::
  ((nat_lit 417), (Obj.mk (Value.type "tuple") Option.none (Data.seq #[] 0) #[])) ::
  ((nat_lit 420), (Obj.mk (Value.type "code") Option.none (Data.fields #[(Value.str (Str.ofString "law") 826), (Value.str (Str.ofString "law") 827), (Value.str (Str.ofString "/claim/cut.py") 828), (Value.int (310 : Int) 0), (Value.int (1 : Int) 0), (Value.int (0 : Int) 0), (Value.int (0 : Int) 0), (Value.int (3 : Int) 0), (Value.ref 417), (Value.bool true), (Value.int (276 : Int) 0), (Value.ref 418), Value.none, Value.none, Value.none, (Value.ref 419), (Value.int (829 : Int) 0), (Value.int (310 : Int) 0), (Value.str (Str.ofString "/claim/cut.py") 830)]) #[])) ::
  ((nat_lit 421), (Obj.mk (Value.type "function") Option.none (Data.func (FuncData.mk (Str.ofString "law") (Str.ofString "law") (fnArgs (topAt 32)) (fnBody (topAt 32)) (fnScope (topAt 32)) 3 [] Value.none Value.none Value.none (Value.str (Str.ofString "law_xn0027_01") 691) Option.none (Value.ref 420) Value.none 0)) #[])) :: []
noncomputable def hd.view_39 : Program := view PySem.Challenge.pw_xn0027_01 [0, 1, 3, 4, 5, 7, 8, 9, 11, 12, 13, 14, 15, 16, 17, 19, 20, 21, 22, 23, 24, 25, 26, 27, 28, 29, 30, 31, 32]
noncomputable def hdLoose : List Str := [Str.ofString "_name_disallowed_re", Str.ofString "_value_disallowed_re"]
noncomputable def hdAt : List Addr := 2 :: 3 :: 32 :: 34 :: 35 :: 37 :: 38 :: 42 :: 43 :: 47 :: 48 :: 56 :: 57 :: 59 :: 60 :: 62 :: 63 :: 64 :: 66 :: 67 :: 69 :: 70 :: 71 :: 73 :: 74 :: 76 :: 77 :: 78 :: 80 :: 81 :: 83 :: 84 :: 85 :: 88 :: 89 :: 90 :: 92 :: 93 :: 95 :: 96 :: 97 :: 99 :: 100 :: 102 :: 103 :: 104 :: 106 :: 107 :: 109 :: 110 :: 111 :: 112 :: 114 :: 115 :: 117 :: 118 :: 119 :: 122 :: 123 :: 124 :: 127 :: 128 :: 129 :: 131 :: 132 :: 134 :: 135 :: 136 :: 138 :: 139 :: 141 :: 142 :: 143 :: 146 :: 147 :: 148 :: 150 :: 151 :: 153 :: 154 :: 155 :: 157 :: 158 :: 160 :: 161 :: 162 :: 164 :: 165 :: 167 :: 168 :: 169 :: 170 :: 171 :: 172 :: 173 :: 176 :: 183 :: 184 :: 185 :: 186 :: 189 :: 196 :: 197 :: 198 :: 201 :: 203 :: 204 :: 206 :: 207 :: 215 :: 216 :: 218 :: 219 :: 221 :: 222 :: 223 :: 225 :: 226 :: 228 :: 229 :: 230 :: 232 :: 233 :: 235 :: 236 :: 237 :: 239 :: 240 :: 242 :: 243 :: 244 :: 246 :: 247 :: 249 :: 250 :: 251 :: 253 :: 254 :: 256 :: 257 :: 258 :: 260 :: 261 :: 263 :: 264 :: 265 :: 267 :: 268 :: 270 :: 271 :: 272 :: 274 :: 275 :: 277 :: 278 :: 279 :: 280 :: 281 :: 282 :: 283 :: 286 :: 288 :: 289 :: 291 :: 292 :: 293 :: 295 :: 296 :: 298 :: 299 :: 300 :: 302 :: 303 :: 305 :: 306 :: 307 :: 309 :: 310 :: 312 :: 313 :: 314 :: 316 :: 317 :: 319 :: 320 :: 321 :: 323 :: 324 :: 326 :: 327 :: 328 :: 330 :: 331 :: 333 :: 334 :: 335 :: 337 :: 338 :: 340 :: 341 :: 342 :: 344 :: 345 :: 347 :: 348 :: 349 :: 351 :: 352 :: 354 :: 355 :: 356 :: 358 :: 359 :: 361 :: 362 :: 363 :: 365 :: 366 :: 368 :: 369 :: 370 :: 372 :: 373 :: 375 :: 376 :: 377 :: 379 :: 380 :: 382 :: 383 :: 384 :: 386 :: 387 :: 389 :: 390 :: 391 :: 393 :: 394 :: 396 :: 397 :: 398 :: 400 :: 401 :: 403 :: 404 :: 405 :: 407 :: 408 :: 410 :: 411 :: 412 :: 415 :: 416 :: 417 :: 420 :: 421 :: []
theorem hdAt_eq (P : PySem.Params) : hdAt = (hd.heap_39 P).map (·.1) := by kernel_rfl
noncomputable def lawDef : DefRec := match topAt 32 with
  | .FunctionDef n a b _ _ _ sc _ _ p => ⟨n, a, b, sc, p⟩
  | _ => ⟨Str.ofString "", ⟨[], [], none, [], [], none, []⟩, [], ⟨.function, [], false, false, []⟩, ⟨0, 0, 0, 0⟩⟩
noncomputable def hdRest (P : PySem.Params) : Frag :=
  ((nat_lit 0), (Obj.mk (Value.type "dict") Option.none (Data.dict #[(DictEntry.mk (PyData.keyHash P (Str.ofString "__name__")) (Value.str (Str.ofString "__name__") 1) (Value.str (Str.ofString "builtins") 160)), (DictEntry.mk (PyData.keyHash P (Str.ofString "__doc__")) (Value.str (Str.ofString "__doc__") 2) (Value.builtin "builtins.__doc__:str#opaque")), (DictEntry.mk (PyData.keyHash P (Str.ofString "__package__")) (Value.str (Str.ofString "__package__") 3) (Value.builtin "builtins.__package__:str#opaque")), (DictEntry.mk (PyData.keyHash P (Str.ofString "__loader__")) (Value.str (Str.ofString "__loader__") 4) (Value.builtin "builtins.__loader__:shared#opaque")), (DictEntry.mk (PyData.keyHash P (Str.ofString "__spec__")) (Value.str (Str.ofString "__spec__") 5) (Value.builtin "builtins.__spec__#opaque")), (DictEntry.mk (PyData.keyHash P (Str.ofString "__build_class__")) (Value.str (Str.ofString "__build_class__") 6) (Value.builtin "__build_class__")), (DictEntry.mk (PyData.keyHash P (Str.ofString "__\x69mport__")) (Value.str (Str.ofString "__\x69mport__") 7) (Value.builtin "__\x69mport__")), (DictEntry.mk (PyData.keyHash P (Str.ofString "abs")) (Value.str (Str.ofString "abs") 8) (Value.builtin "abs")), (DictEntry.mk (PyData.keyHash P (Str.ofString "all")) (Value.str (Str.ofString "all") 9) (Value.builtin "all")), (DictEntry.mk (PyData.keyHash P (Str.ofString "any")) (Value.str (Str.ofString "any") 10) (Value.builtin "any")), (DictEntry.mk (PyData.keyHash P (Str.ofString "ascii")) (Value.str (Str.ofString "ascii") 11) (Value.builtin "ascii")), (DictEntry.mk (PyData.keyHash P (Str.ofString "bin")) (Value.str (Str.ofString "bin") 12) (Value.builtin "bin")), (DictEntry.mk (PyData.keyHash P (Str.ofString "breakpoint")) (Value.str (Str.ofString "breakpoint") 13) (Value.builtin "breakpoint")), (DictEntry.mk (PyData.keyHash P (Str.ofString "callable")) (Value.str (Str.ofString "callable") 14) (Value.builtin "callable")), (DictEntry.mk (PyData.keyHash P (Str.ofString "chr")) (Value.str (Str.ofString "chr") 15) (Value.builtin "chr")), (DictEntry.mk (PyData.keyHash P (Str.ofString "compile")) (Value.str (Str.ofString "compile") 16) (Value.builtin "compile")), (DictEntry.mk (PyData.keyHash P (Str.ofString "delattr")) (Value.str (Str.ofString "delattr") 17) (Value.builtin "delattr")), (DictEntry.mk (PyData.keyHash P (Str.ofString "dir")) (Value.str (Str.ofString "dir") 18) (Value.builtin "dir")), (DictEntry.mk (PyData.keyHash P (Str.ofString "divmod")) (Value.str (Str.ofString "divmod") 19) (Value.builtin "divmod")), (DictEntry.mk (PyData.keyHash P (Str.ofString "eval")) (Value.str (Str.ofString "eval") 20) (Value.builtin "eval")), (DictEntry.mk (PyData.keyHash P (Str.ofString "exec")) (Value.str (Str.ofString "exec") 21) (Value.builtin "exec")), (DictEntry.mk (PyData.keyHash P (Str.ofString "format")) (Value.str (Str.ofString "format") 22) (Value.builtin "format")), (DictEntry.mk (PyData.keyHash P (Str.ofString "getattr")) (Value.str (Str.ofString "getattr") 23) (Value.builtin "getattr")), (DictEntry.mk (PyData.keyHash P (Str.ofString "globals")) (Value.str (Str.ofString "globals") 24) (Value.builtin "globals")), (DictEntry.mk (PyData.keyHash P (Str.ofString "hasattr")) (Value.str (Str.ofString "hasattr") 25) (Value.builtin "hasattr")), (DictEntry.mk (PyData.keyHash P (Str.ofString "hash")) (Value.str (Str.ofString "hash") 26) (Value.builtin "hash")), (DictEntry.mk (PyData.keyHash P (Str.ofString "hex")) (Value.str (Str.ofString "hex") 27) (Value.builtin "hex")), (DictEntry.mk (PyData.keyHash P (Str.ofString "id")) (Value.str (Str.ofString "id") 28) (Value.builtin "id")), (DictEntry.mk (PyData.keyHash P (Str.ofString "input")) (Value.str (Str.ofString "input") 29) (Value.builtin "input")), (DictEntry.mk (PyData.keyHash P (Str.ofString "isinstance")) (Value.str (Str.ofString "isinstance") 30) (Value.builtin "isinstance")), (DictEntry.mk (PyData.keyHash P (Str.ofString "issubclass")) (Value.str (Str.ofString "issubclass") 31) (Value.builtin "issubclass")), (DictEntry.mk (PyData.keyHash P (Str.ofString "iter")) (Value.str (Str.ofString "iter") 32) (Value.builtin "iter")), (DictEntry.mk (PyData.keyHash P (Str.ofString "aiter")) (Value.str (Str.ofString "aiter") 33) (Value.builtin "aiter")), (DictEntry.mk (PyData.keyHash P (Str.ofString "len")) (Value.str (Str.ofString "len") 34) (Value.builtin "len")), (DictEntry.mk (PyData.keyHash P (Str.ofString "locals")) (Value.str (Str.ofString "locals") 35) (Value.builtin "locals")), (DictEntry.mk (PyData.keyHash P (Str.ofString "max")) (Value.str (Str.ofString "max") 36) (Value.builtin "max")), (DictEntry.mk (PyData.keyHash P (Str.ofString "min")) (Value.str (Str.ofString "min") 37) (Value.builtin "min")), (DictEntry.mk (PyData.keyHash P (Str.ofString "next")) (Value.str (Str.ofString "next") 38) (Value.builtin "next")), (DictEntry.mk (PyData.keyHash P (Str.ofString "anext")) (Value.str (Str.ofString "anext") 39) (Value.builtin "anext")), (DictEntry.mk (PyData.keyHash P (Str.ofString "oct")) (Value.str (Str.ofString "oct") 40) (Value.builtin "oct")), (DictEntry.mk (PyData.keyHash P (Str.ofString "ord")) (Value.str (Str.ofString "ord") 41) (Value.builtin "ord")), (DictEntry.mk (PyData.keyHash P (Str.ofString "pow")) (Value.str (Str.ofString "pow") 42) (Value.builtin "pow")), (DictEntry.mk (PyData.keyHash P (Str.ofString "print")) (Value.str (Str.ofString "print") 43) (Value.builtin "print")), (DictEntry.mk (PyData.keyHash P (Str.ofString "repr")) (Value.str (Str.ofString "repr") 44) (Value.builtin "repr")), (DictEntry.mk (PyData.keyHash P (Str.ofString "round")) (Value.str (Str.ofString "round") 45) (Value.builtin "round")), (DictEntry.mk (PyData.keyHash P (Str.ofString "setattr")) (Value.str (Str.ofString "setattr") 46) (Value.builtin "setattr")), (DictEntry.mk (PyData.keyHash P (Str.ofString "sorted")) (Value.str (Str.ofString "sorted") 47) (Value.builtin "sorted")), (DictEntry.mk (PyData.keyHash P (Str.ofString "sum")) (Value.str (Str.ofString "sum") 48) (Value.builtin "sum")), (DictEntry.mk (PyData.keyHash P (Str.ofString "vars")) (Value.str (Str.ofString "vars") 49) (Value.builtin "vars")), (DictEntry.mk (PyData.keyHash P (Str.ofString "None")) (Value.str (Str.ofString "None") 50) Value.none), (DictEntry.mk (PyData.keyHash P (Str.ofString "Ellipsis")) (Value.str (Str.ofString "Ellipsis") 51) Value.ellipsis), (DictEntry.mk (PyData.keyHash P (Str.ofString "NotImplemented")) (Value.str (Str.ofString "NotImplemented") 52) Value.notImplemented), (DictEntry.mk (PyData.keyHash P (Str.ofString "False")) (Value.str (Str.ofString "False") 53) (Value.bool false)), (DictEntry.mk (PyData.keyHash P (Str.ofString "True")) (Value.str (Str.ofString "True") 54) (Value.bool true)), (DictEntry.mk (PyData.keyHash P (Str.ofString "bool")) (Value.str (Str.ofString "bool") 55) (Value.type "bool")), (DictEntry.mk (PyData.keyHash P (Str.ofString "memoryview")) (Value.str (Str.ofString "memoryview") 56) (Value.type "memoryview")), (DictEntry.mk (PyData.keyHash P (Str.ofString "bytearray")) (Value.str (Str.ofString "bytearray") 57) (Value.type "bytearray")), (DictEntry.mk (PyData.keyHash P (Str.ofString "bytes")) (Value.str (Str.ofString "bytes") 58) (Value.type "bytes")), (DictEntry.mk (PyData.keyHash P (Str.ofString "classmethod")) (Value.str (Str.ofString "classmethod") 59) (Value.type "classmethod")), (DictEntry.mk (PyData.keyHash P (Str.ofString "complex")) (Value.str (Str.ofString "complex") 60) (Value.type "complex")), (DictEntry.mk (PyData.keyHash P (Str.ofString "dict")) (Value.str (Str.ofString "dict") 61) (Value.type "dict")), (DictEntry.mk (PyData.keyHash P (Str.ofString "enumerate")) (Value.str (Str.ofString "enumerate") 62) (Value.type "enumerate")), (DictEntry.mk (PyData.keyHash P (Str.ofString "filter")) (Value.str (Str.ofString "filter") 63) (Value.type "filter")), (DictEntry.mk (PyData.keyHash P (Str.ofString "float")) (Value.str (Str.ofString "float") 64) (Value.type "float")), (DictEntry.mk (PyData.keyHash P (Str.ofString "frozenset")) (Value.str (Str.ofString "frozenset") 65) (Value.type "frozenset")), (DictEntry.mk (PyData.keyHash P (Str.ofString "property")) (Value.str (Str.ofString "property") 66) (Value.type "property")), (DictEntry.mk (PyData.keyHash P (Str.ofString "int")) (Value.str (Str.ofString "int") 67) (Value.type "int")), (DictEntry.mk (PyData.keyHash P (Str.ofString "list")) (Value.str (Str.ofString "list") 68) (Value.type "list")), (DictEntry.mk (PyData.keyHash P (Str.ofString "map")) (Value.str (Str.ofString "map") 69) (Value.type "map")), (DictEntry.mk (PyData.keyHash P (Str.ofString "object")) (Value.str (Str.ofString "object") 70) (Value.type "object")), (DictEntry.mk (PyData.keyHash P (Str.ofString "range")) (Value.str (Str.ofString "range") 71) (Value.type "range")), (DictEntry.mk (PyData.keyHash P (Str.ofString "reversed")) (Value.str (Str.ofString "reversed") 72) (Value.type "reversed")), (DictEntry.mk (PyData.keyHash P (Str.ofString "set")) (Value.str (Str.ofString "set") 73) (Value.type "set")), (DictEntry.mk (PyData.keyHash P (Str.ofString "slice")) (Value.str (Str.ofString "slice") 74) (Value.type "slice")), (DictEntry.mk (PyData.keyHash P (Str.ofString "staticmethod")) (Value.str (Str.ofString "staticmethod") 75) (Value.type "staticmethod")), (DictEntry.mk (PyData.keyHash P (Str.ofString "str")) (Value.str (Str.ofString "str") 76) (Value.type "str")), (DictEntry.mk (PyData.keyHash P (Str.ofString "super")) (Value.str (Str.ofString "super") 77) (Value.type "super")), (DictEntry.mk (PyData.keyHash P (Str.ofString "tuple")) (Value.str (Str.ofString "tuple") 78) (Value.type "tuple")), (DictEntry.mk (PyData.keyHash P (Str.ofString "type")) (Value.str (Str.ofString "type") 79) (Value.type "type")), (DictEntry.mk (PyData.keyHash P (Str.ofString "zip")) (Value.str (Str.ofString "zip") 80) (Value.type "zip")), (DictEntry.mk (PyData.keyHash P (Str.ofString "__debug__")) (Value.str (Str.ofString "__debug__") 81) (Value.bool true)), (DictEntry.mk (PyData.keyHash P (Str.ofString "BaseException")) (Value.str (Str.ofString "BaseException") 82) (Value.type "BaseException")), (DictEntry.mk (PyData.keyHash P (Str.ofString "BaseExceptionGroup")) (Value.str (Str.ofString "BaseExceptionGroup") 83) (Value.type "BaseExceptionGroup")), (DictEntry.mk (PyData.keyHash P (Str.ofString "Exception")) (Value.str (Str.ofString "Exception") 84) (Value.type "Exception")), (DictEntry.mk (PyData.keyHash P (Str.ofString "GeneratorExit")) (Value.str (Str.ofString "GeneratorExit") 85) (Value.type "GeneratorExit")), (DictEntry.mk (PyData.keyHash P (Str.ofString "KeyboardInterrupt")) (Value.str (Str.ofString "KeyboardInterrupt") 86) (Value.type "KeyboardInterrupt")), (DictEntry.mk (PyData.keyHash P (Str.ofString "SystemExit")) (Value.str (Str.ofString "SystemExit") 87) (Value.type "SystemExit")), (DictEntry.mk (PyData.keyHash P (Str.ofString "ArithmeticError")) (Value.str (Str.ofString "ArithmeticError") 88) (Value.type "ArithmeticError")), (DictEntry.mk (PyData.keyHash P (Str.ofString "AssertionError")) (Value.str (Str.ofString "AssertionError") 89) (Value.type "AssertionError")), (DictEntry.mk (PyData.keyHash P (Str.ofString "AttributeError")) (Value.str (Str.ofString "AttributeError") 90) (Value.type "AttributeError")), (DictEntry.mk (PyData.keyHash P (Str.ofString "BufferError")) (Value.str (Str.ofString "BufferError") 91) (Value.type "BufferError")), (DictEntry.mk (PyData.keyHash P (Str.ofString "EOFError")) (Value.str (Str.ofString "EOFError") 92) (Value.type "EOFError")), (DictEntry.mk (PyData.keyHash P (Str.ofString "ImportError")) (Value.str (Str.ofString "ImportError") 93) (Value.type "ImportError")), (DictEntry.mk (PyData.keyHash P (Str.ofString "LookupError")) (Value.str (Str.ofString "LookupError") 94) (Value.type "LookupError")), (DictEntry.mk (PyData.keyHash P (Str.ofString "MemoryError")) (Value.str (Str.ofString "MemoryError") 95) (Value.type "MemoryError")), (DictEntry.mk (PyData.keyHash P (Str.ofString "NameError")) (Value.str (Str.ofString "NameError") 96) (Value.type "NameError")), (DictEntry.mk (PyData.keyHash P (Str.ofString "OSError")) (Value.str (Str.ofString "OSError") 97) (Value.type "OSError")), (DictEntry.mk (PyData.keyHash P (Str.ofString "ReferenceError")) (Value.str (Str.ofString "ReferenceError") 98) (Value.type "ReferenceError")), (DictEntry.mk (PyData.keyHash P (Str.ofString "RuntimeError")) (Value.str (Str.ofString "RuntimeError") 99) (Value.type "RuntimeError")), (DictEntry.mk (PyData.keyHash P (Str.ofString "StopAsyncIteration")) (Value.str (Str.ofString "StopAsyncIteration") 100) (Value.type "StopAsyncIteration")), (DictEntry.mk (PyData.keyHash P (Str.ofString "StopIteration")) (Value.str (Str.ofString "StopIteration") 101) (Value.type "StopIteration")), (DictEntry.mk (PyData.keyHash P (Str.ofString "SyntaxError")) (Value.str (Str.ofString "SyntaxError") 102) (Value.type "SyntaxError")), (DictEntry.mk (PyData.keyHash P (Str.ofString "SystemError")) (Value.str (Str.ofString "SystemError") 103) (Value.type "SystemError")), (DictEntry.mk (PyData.keyHash P (Str.ofString "TypeError")) (Value.str (Str.ofString "TypeError") 104) (Value.type "TypeError")), (DictEntry.mk (PyData.keyHash P (Str.ofString "ValueError")) (Value.str (Str.ofString "ValueError") 105) (Value.type "ValueError")), (DictEntry.mk (PyData.keyHash P (Str.ofString "Warning")) (Value.str (Str.ofString "Warning") 106) (Value.type "Warning")), (DictEntry.mk (PyData.keyHash P (Str.ofString "FloatingPointError")) (Value.str (Str.ofString "FloatingPointError") 107) (Value.type "FloatingPointError")), (DictEntry.mk (PyData.keyHash P (Str.ofString "OverflowError")) (Value.str (Str.ofString "OverflowError") 108) (Value.type "OverflowError")), (DictEntry.mk (PyData.keyHash P (Str.ofString "ZeroDivisionError")) (Value.str (Str.ofString "ZeroDivisionError") 109) (Value.type "ZeroDivisionError")), (DictEntry.mk (PyData.keyHash P (Str.ofString "BytesWarning")) (Value.str (Str.ofString "BytesWarning") 110) (Value.type "BytesWarning")), (DictEntry.mk (PyData.keyHash P (Str.ofString "DeprecationWarning")) (Value.str (Str.ofString "DeprecationWarning") 111) (Value.type "DeprecationWarning")), (DictEntry.mk (PyData.keyHash P (Str.ofString "EncodingWarning")) (Value.str (Str.ofString "EncodingWarning") 112) (Value.type "EncodingWarning")), (DictEntry.mk (PyData.keyHash P (Str.ofString "FutureWarning")) (Value.str (Str.ofString "FutureWarning") 113) (Value.type "FutureWarning")), (DictEntry.mk (PyData.keyHash P (Str.ofString "ImportWarning")) (Value.str (Str.ofString "ImportWarning") 114) (Value.type "ImportWarning")), (DictEntry.mk (PyData.keyHash P (Str.ofString "PendingDeprecationWarning")) (Value.str (Str.ofString "PendingDeprecationWarning") 115) (Value.type "PendingDeprecationWarning")), (DictEntry.mk (PyData.keyHash P (Str.ofString "ResourceWarning")) (Value.str (Str.ofString "ResourceWarning") 116) (Value.type "ResourceWarning")), (DictEntry.mk (PyData.keyHash P (Str.ofString "RuntimeWarning")) (Value.str (Str.ofString "RuntimeWarning") 117) (Value.type "RuntimeWarning")), (DictEntry.mk (PyData.keyHash P (Str.ofString "SyntaxWarning")) (Value.str (Str.ofString "SyntaxWarning") 118) (Value.type "SyntaxWarning")), (DictEntry.mk (PyData.keyHash P (Str.ofString "UnicodeWarning")) (Value.str (Str.ofString "UnicodeWarning") 119) (Value.type "UnicodeWarning")), (DictEntry.mk (PyData.keyHash P (Str.ofString "UserWarning")) (Value.str (Str.ofString "UserWarning") 120) (Value.type "UserWarning")), (DictEntry.mk (PyData.keyHash P (Str.ofString "BlockingIOError")) (Value.str (Str.ofString "BlockingIOError") 121) (Value.type "BlockingIOError")), (DictEntry.mk (PyData.keyHash P (Str.ofString "ChildProcessError")) (Value.str (Str.ofString "ChildProcessError") 122) (Value.type "ChildProcessError")), (DictEntry.mk (PyData.keyHash P (Str.ofString "ConnectionError")) (Value.str (Str.ofString "ConnectionError") 123) (Value.type "ConnectionError")), (DictEntry.mk (PyData.keyHash P (Str.ofString "FileExistsError")) (Value.str (Str.ofString "FileExistsError") 124) (Value.type "FileExistsError")), (DictEntry.mk (PyData.keyHash P (Str.ofString "FileNotFoundError")) (Value.str (Str.ofString "FileNotFoundError") 125) (Value.type "FileNotFoundError")), (DictEntry.mk (PyData.keyHash P (Str.ofString "InterruptedError")) (Value.str (Str.ofString "InterruptedError") 126) (Value.type "InterruptedError")), (DictEntry.mk (PyData.keyHash P (Str.ofString "IsADirectoryError")) (Value.str (Str.ofString "IsADirectoryError") 127) (Value.type "IsADirectoryError")), (DictEntry.mk (PyData.keyHash P (Str.ofString "NotADirectoryError")) (Value.str (Str.ofString "NotADirectoryError") 128) (Value.type "NotADirectoryError")), (DictEntry.mk (PyData.keyHash P (Str.ofString "PermissionError")) (Value.str (Str.ofString "PermissionError") 129) (Value.type "PermissionError")), (DictEntry.mk (PyData.keyHash P (Str.ofString "ProcessLookupError")) (Value.str (Str.ofString "ProcessLookupError") 130) (Value.type "ProcessLookupError")), (DictEntry.mk (PyData.keyHash P (Str.ofString "TimeoutError")) (Value.str (Str.ofString "TimeoutError") 131) (Value.type "TimeoutError")), (DictEntry.mk (PyData.keyHash P (Str.ofString "IndentationError")) (Value.str (Str.ofString "IndentationError") 132) (Value.type "IndentationError")), (DictEntry.mk (PyData.keyHash P (Str.ofString "_IncompleteInputError")) (Value.str (Str.ofString "_IncompleteInputError") 133) (Value.type "_IncompleteInputError")), (DictEntry.mk (PyData.keyHash P (Str.ofString "IndexError")) (Value.str (Str.ofString "IndexError") 134) (Value.type "IndexError")), (DictEntry.mk (PyData.keyHash P (Str.ofString "KeyError")) (Value.str (Str.ofString "KeyError") 135) (Value.type "KeyError")), (DictEntry.mk (PyData.keyHash P (Str.ofString "ModuleNotFoundError")) (Value.str (Str.ofString "ModuleNotFoundError") 136) (Value.type "ModuleNotFoundError")), (DictEntry.mk (PyData.keyHash P (Str.ofString "NotImplementedError")) (Value.str (Str.ofString "NotImplementedError") 137) (Value.type "NotImplementedError")), (DictEntry.mk (PyData.keyHash P (Str.ofString "PythonFinalizationError")) (Value.str (Str.ofString "PythonFinalizationError") 138) (Value.type "PythonFinalizationError")), (DictEntry.mk (PyData.keyHash P (Str.ofString "RecursionError")) (Value.str (Str.ofString "RecursionError") 139) (Value.type "RecursionError")), (DictEntry.mk (PyData.keyHash P (Str.ofString "UnboundLocalError")) (Value.str (Str.ofString "UnboundLocalError") 140) (Value.type "UnboundLocalError")), (DictEntry.mk (PyData.keyHash P (Str.ofString "UnicodeError")) (Value.str (Str.ofString "UnicodeError") 141) (Value.type "UnicodeError")), (DictEntry.mk (PyData.keyHash P (Str.ofString "BrokenPipeError")) (Value.str (Str.ofString "BrokenPipeError") 142) (Value.type "BrokenPipeError")), (DictEntry.mk (PyData.keyHash P (Str.ofString "ConnectionAbortedError")) (Value.str (Str.ofString "ConnectionAbortedError") 143) (Value.type "ConnectionAbortedError")), (DictEntry.mk (PyData.keyHash P (Str.ofString "ConnectionRefusedError")) (Value.str (Str.ofString "ConnectionRefusedError") 144) (Value.type "ConnectionRefusedError")), (DictEntry.mk (PyData.keyHash P (Str.ofString "ConnectionResetError")) (Value.str (Str.ofString "ConnectionResetError") 145) (Value.type "ConnectionResetError")), (DictEntry.mk (PyData.keyHash P (Str.ofString "TabError")) (Value.str (Str.ofString "TabError") 146) (Value.type "TabError")), (DictEntry.mk (PyData.keyHash P (Str.ofString "UnicodeDecodeError")) (Value.str (Str.ofString "UnicodeDecodeError") 147) (Value.type "UnicodeDecodeError")), (DictEntry.mk (PyData.keyHash P (Str.ofString "UnicodeEncodeError")) (Value.str (Str.ofString "UnicodeEncodeError") 148) (Value.type "UnicodeEncodeError")), (DictEntry.mk (PyData.keyHash P (Str.ofString "UnicodeTranslateError")) (Value.str (Str.ofString "UnicodeTranslateError") 149) (Value.type "UnicodeTranslateError")), (DictEntry.mk (PyData.keyHash P (Str.ofString "ExceptionGroup")) (Value.str (Str.ofString "ExceptionGroup") 150) (Value.type "ExceptionGroup")), (DictEntry.mk (PyData.keyHash P (Str.ofString "EnvironmentError")) (Value.str (Str.ofString "EnvironmentError") 151) (Value.type "OSError")), (DictEntry.mk (PyData.keyHash P (Str.ofString "IOError")) (Value.str (Str.ofString "IOError") 152) (Value.type "OSError")), (DictEntry.mk (PyData.keyHash P (Str.ofString "open")) (Value.str (Str.ofString "open") 153) (Value.builtin "open")), (DictEntry.mk (PyData.keyHash P (Str.ofString "quit")) (Value.str (Str.ofString "quit") 154) (Value.builtin "builtins.quit#opaque")), (DictEntry.mk (PyData.keyHash P (Str.ofString "exit")) (Value.str (Str.ofString "exit") 155) (Value.builtin "builtins.exit#opaque")), (DictEntry.mk (PyData.keyHash P (Str.ofString "copyright")) (Value.str (Str.ofString "copyright") 156) (Value.builtin "builtins.copyright#opaque")), (DictEntry.mk (PyData.keyHash P (Str.ofString "credits")) (Value.str (Str.ofString "credits") 157) (Value.builtin "builtins.credits#opaque")), (DictEntry.mk (PyData.keyHash P (Str.ofString "license")) (Value.str (Str.ofString "license") 158) (Value.builtin "builtins.license#opaque")), (DictEntry.mk (PyData.keyHash P (Str.ofString "help")) (Value.str (Str.ofString "help") 159) (Value.builtin "builtins.help#opaque"))] 159) #[])) ::
  ((nat_lit 1), (Obj.mk (Value.type "dict") Option.none (Data.dict #[(DictEntry.mk (PyData.keyHash P (Str.ofString "builtins")) (Value.str (Str.ofString "builtins") 162) (Value.ref 4)), (DictEntry.mk (PyData.keyHash P (Str.ofString "__main__")) (Value.str (Str.ofString "__main__") 163) (Value.ref 5)), (DictEntry.mk (PyData.keyHash P (Str.ofString "_sre")) (Value.str (Str.ofString "_sre") 244) (Value.ref 12))] 3) #[])) ::
  ((nat_lit 4), (Obj.mk (Value.type "module") (Option.some 0) Data.plain #[])) ::
  ((nat_lit 5), (Obj.mk (Value.type "module") (Option.some 3) Data.plain #[])) ::
  ((nat_lit 6), (Obj.mk (Value.type "dict") Option.none (Data.dict #[] 0) #[])) ::
  ((nat_lit 7), (Obj.mk (Value.type "tuple") Option.none (Data.seq #[] 0) #[])) ::
  ((nat_lit 8), (Obj.mk Value.none Option.none (Data.fields #[]) #[])) ::
  ((nat_lit 9), (Obj.mk (Value.type "code") Option.none (Data.fields #[(Value.str (Str.ofString "<module>") 176), (Value.str (Str.ofString "<module>") 177), (Value.str (Str.ofString "/claim/cut.py") 178), (Value.int (1 : Int) 0), (Value.int (0 : Int) 0), (Value.int (0 : Int) 0), (Value.int (0 : Int) 0), (Value.int (0 : Int) 0), (Value.ref 7), (Value.bool false), (Value.int (175 : Int) 0), (Value.ref 8), Value.none, Value.none, Value.none, Value.none, (Value.int (179 : Int) 0), (Value.int (1 : Int) 0), (Value.str (Str.ofString "/claim/cut.py") 180)]) #[])) ::
  ((nat_lit 10), (Obj.mk (Value.type "frame") Option.none Data.plain #[(Option.some (Value.ref 9)), (Option.some (Value.ref 3)), (Option.some (Value.ref 3)), Option.none, (Option.some (Value.str (Str.ofString "__main__") 164)), Option.none, (Option.some (Value.ref 0))])) ::
  ((nat_lit 11), (Obj.mk (Value.type "dict") Option.none (Data.dict #[(DictEntry.mk (PyData.keyHash P (Str.ofString "__name__")) (Value.str (Str.ofString "__name__") 247) (Value.str (Str.ofString "_sre") 246)), (DictEntry.mk (PyData.keyHash P (Str.ofString "__doc__")) (Value.str (Str.ofString "__doc__") 248) Value.none), (DictEntry.mk (PyData.keyHash P (Str.ofString "__package__")) (Value.str (Str.ofString "__package__") 250) (Value.str (Str.ofString "") 249)), (DictEntry.mk (PyData.keyHash P (Str.ofString "__loader__")) (Value.str (Str.ofString "__loader__") 251) (Value.builtin "off-the-table:_sre.__loader__:shared#opaque")), (DictEntry.mk (PyData.keyHash P (Str.ofString "__spec__")) (Value.str (Str.ofString "__spec__") 252) (Value.builtin "off-the-table:_sre.__spec__:shared#opaque")), (DictEntry.mk (PyData.keyHash P (Str.ofString "compile")) (Value.str (Str.ofString "compile") 253) (Value.builtin "_sre.compile")), (DictEntry.mk (PyData.keyHash P (Str.ofString "template")) (Value.str (Str.ofString "template") 254) (Value.builtin "off-the-table:_sre.template:shared#opaque")), (DictEntry.mk (PyData.keyHash P (Str.ofString "getcodesize")) (Value.str (Str.ofString "getcodesize") 255) (Value.builtin "off-the-table:_sre.getcodesize:shared#opaque")), (DictEntry.mk (PyData.keyHash P (Str.ofString "ascii_iscased")) (Value.str (Str.ofString "ascii_iscased") 256) (Value.builtin "off-the-table:_sre.ascii_iscased:shared#opaque")), (DictEntry.mk (PyData.keyHash P (Str.ofString "unicode_iscased")) (Value.str (Str.ofString "unicode_iscased") 257) (Value.builtin "off-the-table:_sre.unicode_iscased:shared#opaque")), (DictEntry.mk (PyData.keyHash P (Str.ofString "ascii_tolower")) (Value.str (Str.ofString "ascii_tolower") 258) (Value.builtin "off-the-table:_sre.ascii_tolower:shared#opaque")), (DictEntry.mk (PyData.keyHash P (Str.ofString "unicode_tolower")) (Value.str (Str.ofString "unicode_tolower") 259) (Value.builtin "off-the-table:_sre.unicode_tolower:shared#opaque")), (DictEntry.mk (PyData.keyHash P (Str.ofString "MAGIC")) (Value.str (Str.ofString "MAGIC") 261) (Value.int (20230612 : Int) 260)), (DictEntry.mk (PyData.keyHash P (Str.ofString "CODESIZE")) (Value.str (Str.ofString "CODESIZE") 263) (Value.int (4 : Int) 262)), (DictEntry.mk (PyData.keyHash P (Str.ofString "MAXREPEAT")) (Value.str (Str.ofString "MAXREPEAT") 265) (Value.int (4294967295 : Int) 264)), (DictEntry.mk (PyData.keyHash P (Str.ofString "MAXGROUPS")) (Value.str (Str.ofString "MAXGROUPS") 267) (Value.int (1073741823 : Int) 266)), (DictEntry.mk (PyData.keyHash P (Str.ofString "copyright")) (Value.str (Str.ofString "copyright") 269) (Value.str (Str.ofString " SRE 2.2.2 Copyright (c) 1997-2002 by Secret Labs AB ") 268))] 17) #[])) ::
  ((nat_lit 12), (Obj.mk (Value.type "module") (Option.some 11) Data.plain #[])) ::
  ((nat_lit 13), (Obj.mk (Value.type "dict") Option.none (Data.dict #[(DictEntry.mk (PyData.keyHash P (Str.ofString "__module__")) (Value.str (Str.ofString "__module__") 189) (Value.str (Str.ofString "_frozen_\x69mportlib") 186)), (DictEntry.mk (PyData.keyHash P (Str.ofString "__firstlineno__")) (Value.str (Str.ofString "__firstlineno__") 190) (Value.int (971 : Int) 187)), (DictEntry.mk (PyData.keyHash P (Str.ofString "__doc__")) (Value.str (Str.ofString "__doc__") 191) (Value.builtin "_frozen_\x69mportlib.BuiltinImporter.__doc__:str#opaque")), (DictEntry.mk (PyData.keyHash P (Str.ofString "_ORIGIN")) (Value.str (Str.ofString "_ORIGIN") 192) (Value.str (Str.ofString "built-in") 188)), (DictEntry.mk (PyData.keyHash P (Str.ofString "find_spec")) (Value.str (Str.ofString "find_spec") 193) (Value.builtin "_frozen_\x69mportlib.BuiltinImporter.find_spec#opaque")), (DictEntry.mk (PyData.keyHash P (Str.ofString "create_module")) (Value.str (Str.ofString "create_module") 194) (Value.builtin "_frozen_\x69mportlib.BuiltinImporter.create_module#opaque")), (DictEntry.mk (PyData.keyHash P (Str.ofString "exec_module")) (Value.str (Str.ofString "exec_module") 195) (Value.builtin "_frozen_\x69mportlib.BuiltinImporter.exec_module#opaque")), (DictEntry.mk (PyData.keyHash P (Str.ofString "get_code")) (Value.str (Str.ofString "get_code") 196) (Value.builtin "_frozen_\x69mportlib.BuiltinImporter.get_code#opaque")), (DictEntry.mk (PyData.keyHash P (Str.ofString "get_source")) (Value.str (Str.ofString "get_source") 197) (Value.builtin "_frozen_\x69mportlib.BuiltinImporter.get_source#opaque")), (DictEntry.mk (PyData.keyHash P (Str.ofString "is_package")) (Value.str (Str.ofString "is_package") 198) (Value.builtin "_frozen_\x69mportlib.BuiltinImporter.is_package#opaque")), (DictEntry.mk (PyData.keyHash P (Str.ofString "load_module")) (Value.str (Str.ofString "load_module") 199) (Value.builtin "_frozen_\x69mportlib.BuiltinImporter.load_module#opaque")), (DictEntry.mk (PyData.keyHash P (Str.ofString "__static_attributes__")) (Value.str (Str.ofString "__static_attributes__") 200) (Value.ref 15)), (DictEntry.mk (PyData.keyHash P (Str.ofString "__dict__")) (Value.str (Str.ofString "__dict__") 202) (Value.ref 16)), (DictEntry.mk (PyData.keyHash P (Str.ofString "__weakref__")) (Value.str (Str.ofString "__weakref__") 204) (Value.ref 17))] 14) #[])) ::
  ((nat_lit 14), (Obj.mk (Value.type "type") Option.none (Data.cls (ClassData.mk (Str.ofString "BuiltinImporter") [(Value.type "object")] [(Value.ref 14), (Value.type "object")] 13 (Str.ofString "BuiltinImporter") true [] [] false Option.none false)) #[])) ::
  ((nat_lit 15), (Obj.mk (Value.type "tuple") Option.none (Data.seq #[] 0) #[])) ::
  ((nat_lit 16), (Obj.mk (Value.type "getset_descriptor") Option.none (Data.fields #[(Value.str (Str.ofString "__dict__") 201), (Value.ref 14), (Value.builtin "function.__dict__"), (Value.builtin "function.__dict__#set")]) #[])) ::
  ((nat_lit 17), (Obj.mk (Value.type "getset_descriptor") Option.none (Data.fields #[(Value.str (Str.ofString "__weakref__") 203), (Value.ref 14), (Value.builtin "ExceptionGroup.__weakref__"), Value.none]) #[])) ::
  ((nat_lit 18), (Obj.mk Value.none Option.none (Data.seq #[(Value.int (13 : Int) 0), (Value.str (Str.mk #[6, 189, 10, 95, 95, 109, 111, 100, 117, 108, 101, 95, 95, 6, 186, 17, 95, 102, 114, 111, 122, 101, 110, 95, 105, 109, 112, 111, 114, 116, 108, 105, 98, 6, 190, 15, 95, 95, 102, 105, 114, 115, 116, 108, 105, 110, 101, 110, 111, 95, 95, 4, 187, 0, 971, 6, 191, 7, 95, 95, 100, 111, 99, 95, 95, 9, 52, 95, 102, 114, 111, 122, 101, 110, 95, 105, 109, 112, 111, 114, 116, 108, 105, 98, 46, 66, 117, 105, 108, 116, 105, 110, 73, 109, 112, 111, 114, 116, 101, 114, 46, 95, 95, 100, 111, 99, 95, 95, 58, 115, 116, 114, 35, 111, 112, 97, 113, 117, 101, 6, 192, 7, 95, 79, 82, 73, 71, 73, 78, 6, 188, 8, 98, 117, 105, 108, 116, 45, 105, 110, 6, 193, 9, 102, 105, 110, 100, 95, 115, 112, 101, 99, 9, 50, 95, 102, 114, 111, 122, 101, 110, 95, 105, 109, 112, 111, 114, 116, 108, 105, 98, 46, 66, 117, 105, 108, 116, 105, 110, 73, 109, 112, 111, 114, 116, 101, 114, 46, 102, 105, 110, 100, 95, 115, 112, 101, 99, 35, 111, 112, 97, 113, 117, 101, 6, 194, 13, 99, 114, 101, 97, 116, 101, 95, 109, 111, 100, 117, 108, 101, 9, 54, 95, 102, 114, 111, 122, 101, 110, 95, 105, 109, 112, 111, 114, 116, 108, 105, 98, 46, 66, 117, 105, 108, 116, 105, 110, 73, 109, 112, 111, 114, 116, 101, 114, 46, 99, 114, 101, 97, 116, 101, 95, 109, 111, 100, 117, 108, 101, 35, 111, 112, 97, 113, 117, 101, 6, 195, 11, 101, 120, 101, 99, 95, 109, 111, 100, 117, 108, 101, 9, 52, 95, 102, 114, 111, 122, 101, 110, 95, 105, 109, 112, 111, 114, 116, 108, 105, 98, 46, 66, 117, 105, 108, 116, 105, 110, 73, 109, 112, 111, 114, 116, 101, 114, 46, 101, 120, 101, 99, 95, 109, 111, 100, 117, 108, 101, 35, 111, 112, 97, 113, 117, 101, 6, 196, 8, 103, 101, 116, 95, 99, 111, 100, 101, 9, 49, 95, 102, 114, 111, 122, 101, 110, 95, 105, 109, 112, 111, 114, 116, 108, 105, 98, 46, 66, 117, 105, 108, 116, 105, 110, 73, 109, 112, 111, 114, 116, 101, 114, 46, 103, 101, 116, 95, 99, 111, 100, 101, 35, 111, 112, 97, 113, 117, 101, 6, 197, 10, 103, 101, 116, 95, 115, 111, 117, 114, 99, 101, 9, 51, 95, 102, 114, 111, 122, 101, 110, 95, 105, 109, 112, 111, 114, 116, 108, 105, 98, 46, 66, 117, 105, 108, 116, 105, 110, 73, 109, 112, 111, 114, 116, 101, 114, 46, 103, 101, 116, 95, 115, 111, 117, 114, 99, 101, 35, 111, 112, 97, 113, 117, 101, 6, 198, 10, 105, 115, 95, 112, 97, 99, 107, 97, 103, 101, 9, 51, 95, 102, 114, 111, 122, 101, 110, 95, 105, 109, 112, 111, 114, 116, 108, 105, 98, 46, 66, 117, 105, 108, 116, 105, 110, 73, 109, 112, 111, 114, 116, 101, 114, 46, 105, 115, 95, 112, 97, 99, 107, 97, 103, 101, 35, 111, 112, 97, 113, 117, 101, 6, 199, 11, 108, 111, 97, 100, 95, 109, 111, 100, 117, 108, 101, 9, 52, 95, 102, 114, 111, 122, 101, 110, 95, 105, 109, 112, 111, 114, 116, 108, 105, 98, 46, 66, 117, 105, 108, 116, 105, 110, 73, 109, 112, 111, 114, 116, 101, 114, 46, 108, 111, 97, 100, 95, 109, 111, 100, 117, 108, 101, 35, 111, 112, 97, 113, 117, 101, 6, 200, 21, 95, 95, 115, 116, 97, 116, 105, 99, 95, 97, 116, 116, 114, 105, 98, 117, 116, 101, 115, 95, 95, 4, 0, 0, 15, 6, 202, 8, 95, 95, 100, 105, 99, 116, 95, 95, 4, 0, 0, 16, 6, 204, 11, 95, 95, 119, 101, 97, 107, 114, 101, 102, 95, 95, 4, 0, 0, 17]) 0), (Value.bool true), (Value.bool true), (Value.str (Str.ofString "") 205), (Value.int (21 : Int) 0), (Value.str (Str.mk #[6, 227, 10, 95, 95, 109, 111, 100, 117, 108, 101, 95, 95, 6, 217, 17, 95, 102, 114, 111, 122, 101, 110, 95, 105, 109, 112, 111, 114, 116, 108, 105, 98, 6, 228, 15, 95, 95, 102, 105, 114, 115, 116, 108, 105, 110, 101, 110, 111, 95, 95, 4, 218, 0, 562, 6, 229, 7, 95, 95, 100, 111, 99, 95, 95, 9, 47, 95, 102, 114, 111, 122, 101, 110, 95, 105, 109, 112, 111, 114, 116, 108, 105, 98, 46, 77, 111, 100, 117, 108, 101, 83, 112, 101, 99, 46, 95, 95, 100, 111, 99, 95, 95, 58, 115, 116, 114, 35, 111, 112, 97, 113, 117, 101, 6, 230, 8, 95, 95, 105, 110, 105, 116, 95, 95, 9, 44, 95, 102, 114, 111, 122, 101, 110, 95, 105, 109, 112, 111, 114, 116, 108, 105, 98, 46, 77, 111, 100, 117, 108, 101, 83, 112, 101, 99, 46, 95, 95, 105, 110, 105, 116, 95, 95, 35, 111, 112, 97, 113, 117, 101, 6, 231, 8, 95, 95, 114, 101, 112, 114, 95, 95, 9, 44, 95, 102, 114, 111, 122, 101, 110, 95, 105, 109, 112, 111, 114, 116, 108, 105, 98, 46, 77, 111, 100, 117, 108, 101, 83, 112, 101, 99, 46, 95, 95, 114, 101, 112, 114, 95, 95, 35, 111, 112, 97, 113, 117, 101, 6, 232, 6, 95, 95, 101, 113, 95, 95, 9, 42, 95, 102, 114, 111, 122, 101, 110, 95, 105, 109, 112, 111, 114, 116, 108, 105, 98, 46, 77, 111, 100, 117, 108, 101, 83, 112, 101, 99, 46, 95, 95, 101, 113, 95, 95, 35, 111, 112, 97, 113, 117, 101, 6, 233, 6, 99, 97, 99, 104, 101, 100, 9, 42, 95, 102, 114, 111, 122, 101, 110, 95, 105, 109, 112, 111, 114, 116, 108, 105, 98, 46, 77, 111, 100, 117, 108, 101, 83, 112, 101, 99, 46, 99, 97, 99, 104, 101, 100, 35, 111, 112, 97, 113, 117, 101, 6, 234, 6, 112, 97, 114, 101, 110, 116, 9, 42, 95, 102, 114, 111, 122, 101, 110, 95, 105, 109, 112, 111, 114, 116, 108, 105, 98, 46, 77, 111, 100, 117, 108, 101, 83, 112, 101, 99, 46, 112, 97, 114, 101, 110, 116, 35, 111, 112, 97, 113, 117, 101, 6, 235, 12, 104, 97, 115, 95, 108, 111, 99, 97, 116, 105, 111, 110, 9, 48, 95, 102, 114, 111, 122, 101, 110, 95, 105, 109, 112, 111, 114, 116, 108, 105, 98, 46, 77, 111, 100, 117, 108, 101, 83, 112, 101, 99, 46, 104, 97, 115, 95, 108, 111, 99, 97, 116, 105, 111, 110, 35, 111, 112, 97, 113, 117, 101, 6, 236, 21, 95, 95, 115, 116, 97, 116, 105, 99, 95, 97, 116, 116, 114, 105, 98, 117, 116, 101, 115, 95, 95, 4, 0, 0, 23, 6, 238, 8, 95, 95, 100, 105, 99, 116, 95, 95, 4, 0, 0, 24, 6, 240, 11, 95, 95, 119, 101, 97, 107, 114, 101, 102, 95, 95, 4, 0, 0, 25, 6, 241, 8, 95, 95, 104, 97, 115, 104, 95, 95, 0]) 0), (Value.bool true), (Value.bool true), (Value.str (Str.ofString "") 242)] 1) #[])) ::
  ((nat_lit 19), (Obj.mk (Value.type "list") Option.none (Data.seq #[] 0) #[])) ::
  ((nat_lit 20), (Obj.mk (Value.type "dict") Option.none (Data.dict #[(DictEntry.mk (PyData.keyHash P (Str.ofString "name")) (Value.str (Str.ofString "name") 208) (Value.str (Str.ofString "_sre") 207)), (DictEntry.mk (PyData.keyHash P (Str.ofString "loader")) (Value.str (Str.ofString "loader") 209) (Value.ref 14)), (DictEntry.mk (PyData.keyHash P (Str.ofString "origin")) (Value.str (Str.ofString "origin") 210) (Value.str (Str.ofString "built-in") 184)), (DictEntry.mk (PyData.keyHash P (Str.ofString "loader_state")) (Value.str (Str.ofString "loader_state") 211) Value.none), (DictEntry.mk (PyData.keyHash P (Str.ofString "submodule_search_locations")) (Value.str (Str.ofString "submodule_search_locations") 212) Value.none), (DictEntry.mk (PyData.keyHash P (Str.ofString "_uninitialized_submodules")) (Value.str (Str.ofString "_uninitialized_submodules") 213) (Value.ref 19)), (DictEntry.mk (PyData.keyHash P (Str.ofString "_set_fileattr")) (Value.str (Str.ofString "_set_fileattr") 214) (Value.bool false)), (DictEntry.mk (PyData.keyHash P (Str.ofString "_cached")) (Value.str (Str.ofString "_cached") 215) Value.none), (DictEntry.mk (PyData.keyHash P (Str.ofString "_initializing")) (Value.str (Str.ofString "_initializing") 243) (Value.bool false))] 9) #[])) ::
  ((nat_lit 21), (Obj.mk (Value.type "dict") Option.none (Data.dict #[(DictEntry.mk (PyData.keyHash P (Str.ofString "__module__")) (Value.str (Str.ofString "__module__") 227) (Value.str (Str.ofString "_frozen_\x69mportlib") 217)), (DictEntry.mk (PyData.keyHash P (Str.ofString "__firstlineno__")) (Value.str (Str.ofString "__firstlineno__") 228) (Value.int (562 : Int) 218)), (DictEntry.mk (PyData.keyHash P (Str.ofString "__doc__")) (Value.str (Str.ofString "__doc__") 229) (Value.builtin "_frozen_\x69mportlib.ModuleSpec.__doc__:str#opaque")), (DictEntry.mk (PyData.keyHash P (Str.ofString "__init__")) (Value.str (Str.ofString "__init__") 230) (Value.builtin "_frozen_\x69mportlib.ModuleSpec.__init__#opaque")), (DictEntry.mk (PyData.keyHash P (Str.ofString "__repr__")) (Value.str (Str.ofString "__repr__") 231) (Value.builtin "_frozen_\x69mportlib.ModuleSpec.__repr__#opaque")), (DictEntry.mk (PyData.keyHash P (Str.ofString "__eq__")) (Value.str (Str.ofString "__eq__") 232) (Value.builtin "_frozen_\x69mportlib.ModuleSpec.__eq__#opaque")), (DictEntry.mk (PyData.keyHash P (Str.ofString "cached")) (Value.str (Str.ofString "cached") 233) (Value.builtin "_frozen_\x69mportlib.ModuleSpec.cached#opaque")), (DictEntry.mk (PyData.keyHash P (Str.ofString "parent")) (Value.str (Str.ofString "parent") 234) (Value.builtin "_frozen_\x69mportlib.ModuleSpec.parent#opaque")), (DictEntry.mk (PyData.keyHash P (Str.ofString "has_location")) (Value.str (Str.ofString "has_location") 235) (Value.builtin "_frozen_\x69mportlib.ModuleSpec.has_location#opaque")), (DictEntry.mk (PyData.keyHash P (Str.ofString "__static_attributes__")) (Value.str (Str.ofString "__static_attributes__") 236) (Value.ref 23)), (DictEntry.mk (PyData.keyHash P (Str.ofString "__dict__")) (Value.str (Str.ofString "__dict__") 238) (Value.ref 24)), (DictEntry.mk (PyData.keyHash P (Str.ofString "__weakref__")) (Value.str (Str.ofString "__weakref__") 240) (Value.ref 25)), (DictEntry.mk (PyData.keyHash P (Str.ofString "__hash__")) (Value.str (Str.ofString "__hash__") 241) Value.none)] 13) #[])) ::
  ((nat_lit 22), (Obj.mk (Value.type "type") Option.none (Data.cls (ClassData.mk (Str.ofString "ModuleSpec") [(Value.type "object")] [(Value.ref 22), (Value.type "object")] 21 (Str.ofString "ModuleSpec") true [] [] false Option.none false)) #[])) ::
  ((nat_lit 23), (Obj.mk (Value.type "tuple") Option.none (Data.seq #[(Value.str (Str.ofString "_cached") 219), (Value.str (Str.ofString "_set_fileattr") 220), (Value.str (Str.ofString "_uninitialized_submodules") 221), (Value.str (Str.ofString "loader") 222), (Value.str (Str.ofString "loader_state") 223), (Value.str (Str.ofString "name") 224), (Value.str (Str.ofString "origin") 225), (Value.str (Str.ofString "submodule_search_locations") 226)] 0) #[])) ::
  ((nat_lit 24), (Obj.mk (Value.type "getset_descriptor") Option.none (Data.fields #[(Value.str (Str.ofString "__dict__") 237), (Value.ref 22), (Value.builtin "function.__dict__"), (Value.builtin "function.__dict__#set")]) #[])) ::
  ((nat_lit 25), (Obj.mk (Value.type "getset_descriptor") Option.none (Data.fields #[(Value.str (Str.ofString "__weakref__") 239), (Value.ref 22), (Value.builtin "ExceptionGroup.__weakref__"), Value.none]) #[])) ::
  ((nat_lit 26), (Obj.mk (Value.ref 22) (Option.some 20) Data.plain #[])) ::
  ((nat_lit 27), (Obj.mk Value.none Option.none (Data.seq #[(Value.int (11 : Int) 0), (Value.str (Str.mk #[6, 247, 8, 95, 95, 110, 97, 109, 101, 95, 95, 6, 246, 4, 95, 115, 114, 101, 6, 248, 7, 95, 95, 100, 111, 99, 95, 95, 0, 6, 250, 11, 95, 95, 112, 97, 99, 107, 97, 103, 101, 95, 95, 6, 249, 0, 6, 251, 10, 95, 95, 108, 111, 97, 100, 101, 114, 95, 95, 4, 0, 0, 14, 6, 252, 8, 95, 95, 115, 112, 101, 99, 95, 95, 4, 0, 0, 26, 6, 253, 7, 99, 111, 109, 112, 105, 108, 101, 9, 12, 95, 115, 114, 101, 46, 99, 111, 109, 112, 105, 108, 101, 6, 254, 8, 116, 101, 109, 112, 108, 97, 116, 101, 9, 13, 95, 115, 114, 101, 46, 116, 101, 109, 112, 108, 97, 116, 101, 6, 255, 11, 103, 101, 116, 99, 111, 100, 101, 115, 105, 122, 101, 9, 16, 95, 115, 114, 101, 46, 103, 101, 116, 99, 111, 100, 101, 115, 105, 122, 101, 6, 256, 13, 97, 115, 99, 105, 105, 95, 105, 115, 99, 97, 115, 101, 100, 9, 18, 95, 115, 114, 101, 46, 97, 115, 99, 105, 105, 95, 105, 115, 99, 97, 115, 101, 100, 6, 257, 15, 117, 110, 105, 99, 111, 100, 101, 95, 105, 115, 99, 97, 115, 101, 100, 9, 20, 95, 115, 114, 101, 46, 117, 110, 105, 99, 111, 100, 101, 95, 105, 115, 99, 97, 115, 101, 100, 6, 258, 13, 97, 115, 99, 105, 105, 95, 116, 111, 108, 111, 119, 101, 114, 9, 18, 95, 115, 114, 101, 46, 97, 115, 99, 105, 105, 95, 116, 111, 108, 111, 119, 101, 114, 6, 259, 15, 117, 110, 105, 99, 111, 100, 101, 95, 116, 111, 108, 111, 119, 101, 114, 9, 20, 95, 115, 114, 101, 46, 117, 110, 105, 99, 111, 100, 101, 95, 116, 111, 108, 111, 119, 101, 114, 6, 261, 5, 77, 65, 71, 73, 67, 4, 260, 0, 20230612, 6, 263, 8, 67, 79, 68, 69, 83, 73, 90, 69, 4, 262, 0, 4, 6, 265, 9, 77, 65, 88, 82, 69, 80, 69, 65, 84, 4, 264, 0, 4294967295, 6, 267, 9, 77, 65, 88, 71, 82, 79, 85, 80, 83, 4, 266, 0, 1073741823, 6, 269, 9, 99, 111, 112, 121, 114, 105, 103, 104, 116, 6, 268, 53, 32, 83, 82, 69, 32, 50, 46, 50, 46, 50, 32, 67, 111, 112, 121, 114, 105, 103, 104, 116, 32, 40, 99, 41, 32, 49, 57, 57, 55, 45, 50, 48, 48, 50, 32, 98, 121, 32, 83, 101, 99, 114, 101, 116, 32, 76, 97, 98, 115, 32, 65, 66, 32]) 0), (Value.bool true), (Value.bool false), (Value.str (Str.ofString "_sre") 271)] 0) #[])) ::
  ((nat_lit 28), (Obj.mk (Value.type "tuple") Option.none (Data.seq #[] 0) #[])) ::
  ((nat_lit 29), (Obj.mk Value.none Option.none (Data.fields #[(Value.int (2 : Int) 0), (Value.int (0 : Int) 0), (Value.ref 37), (Value.int (8 : Int) 0), (Value.int (0 : Int) 0), (Value.ref 54), (Value.int (79 : Int) 0), (Value.int (0 : Int) 0), (Value.ref 181), (Value.int (81 : Int) 0), (Value.int (0 : Int) 0), (Value.ref 194), (Value.int (83 : Int) 0), (Value.int (0 : Int) 0), (Value.ref 206), (Value.int (101 : Int) 0), (Value.int (0 : Int) 0), (Value.ref 213), (Value.int (141 : Int) 0), (Value.int (0 : Int) 0), (Value.ref 291), (Value.int (143 : Int) 0), (Value.int (0 : Int) 0), (Value.ref 298), (Value.int (154 : Int) 0), (Value.int (0 : Int) 0), (Value.ref 305), (Value.int (173 : Int) 0), (Value.int (0 : Int) 0), (Value.ref 312), (Value.int (184 : Int) 0), (Value.int (0 : Int) 0), (Value.ref 319), (Value.int (197 : Int) 0), (Value.int (0 : Int) 0), (Value.ref 326), (Value.int (215 : Int) 0), (Value.int (0 : Int) 0), (Value.ref 333), (Value.int (223 : Int) 0), (Value.int (0 : Int) 0), (Value.ref 340), (Value.int (228 : Int) 0), (Value.int (0 : Int) 0), (Value.ref 347), (Value.int (233 : Int) 0), (Value.int (0 : Int) 0), (Value.ref 354), (Value.int (243 : Int) 0), (Value.int (0 : Int) 0), (Value.ref 361), (Value.int (245 : Int) 0), (Value.int (0 : Int) 0), (Value.ref 368), (Value.int (255 : Int) 0), (Value.int (0 : Int) 0), (Value.ref 375), (Value.int (257 : Int) 0), (Value.int (0 : Int) 0), (Value.ref 382), (Value.int (261 : Int) 0), (Value.int (0 : Int) 0), (Value.ref 389), (Value.int (269 : Int) 0), (Value.int (0 : Int) 0), (Value.ref 396), (Value.int (281 : Int) 0), (Value.int (0 : Int) 0), (Value.ref 403), (Value.int (294 : Int) 0), (Value.int (0 : Int) 0), (Value.ref 410), (Value.int (301 : Int) 0), (Value.int (0 : Int) 0), (Value.ref 415), (Value.int (310 : Int) 0), (Value.int (0 : Int) 0), (Value.ref 420)]) #[])) ::
  ((nat_lit 30), (Obj.mk (Value.type "code") Option.none (Data.fields #[(Value.str (Str.ofString "<module>") 277), (Value.str (Str.ofString "<module>") 278), (Value.str (Str.ofString "/claim/cut.py") 279), (Value.int (1 : Int) 0), (Value.int (0 : Int) 0), (Value.int (0 : Int) 0), (Value.int (0 : Int) 0), (Value.int (0 : Int) 0), (Value.ref 28), (Value.bool false), (Value.int (276 : Int) 0), (Value.ref 29), Value.none, Value.none, Value.none, Value.none, (Value.int (280 : Int) 0), (Value.int (1 : Int) 0), (Value.str (Str.ofString "/claim/cut.py") 281)]) #[])) ::
  ((nat_lit 31), (Obj.mk (Value.type "frame") Option.none Data.plain #[(Option.some (Value.ref 30)), (Option.some (Value.ref 3)), (Option.some (Value.ref 3)), Option.none, (Option.some (Value.str (Str.ofString "__main__") 164)), Option.none, (Option.some (Value.ref 0))])) ::
  ((nat_lit 33), (Obj.mk Value.none Option.none (Data.fields #[]) #[])) ::
  ((nat_lit 36), (Obj.mk Value.none Option.none (Data.func (FuncData.mk (Str.ofString "_wall") (Str.ofString "_wall") (fnArgs (topAt 1)) (fnBody (topAt 1)) (fnScope (topAt 1)) 0 [] Value.none Value.none Value.none Value.none Option.none Value.none Value.none 0)) #[])) ::
  ((nat_lit 39), (Obj.mk (Value.type "list") Option.none (Data.seq #[(Value.int (14 : Int) 294), (Value.int (10 : Int) 295), (Value.int (4 : Int) 296), (Value.int (1 : Int) 297), (Value.int (1 : Int) 298), (Value.int (22 : Int) 299), (Value.int (0 : Int) 300), (Value.int (31 : Int) 301), (Value.int (16 : Int) 302), (Value.int (127 : Int) 303), (Value.int (0 : Int) 304), (Value.int (13 : Int) 305), (Value.int (7 : Int) 306), (Value.int (22 : Int) 307), (Value.int (0 : Int) 308), (Value.int (31 : Int) 309), (Value.int (16 : Int) 310), (Value.int (127 : Int) 311), (Value.int (0 : Int) 312), (Value.int (1 : Int) 313)] 0) #[])) ::
  ((nat_lit 40), (Obj.mk (Value.type "dict") Option.none (Data.dict #[] 0) #[])) ::
  ((nat_lit 41), (Obj.mk (Value.type "tuple") Option.none (Data.seq #[Value.none] 0) #[])) ::
  ((nat_lit 44), (Obj.mk (Value.type "list") Option.none (Data.seq #[(Value.int (14 : Int) 320), (Value.int (14 : Int) 321), (Value.int (4 : Int) 322), (Value.int (1 : Int) 323), (Value.int (1 : Int) 324), (Value.int (9 : Int) 325), (Value.int (4294966783 : Int) 326), (Value.int (0 : Int) 327), (Value.int (0 : Int) 328), (Value.int (2147483648 : Int) 329), (Value.int (0 : Int) 330), (Value.int (0 : Int) 331), (Value.int (0 : Int) 332), (Value.int (0 : Int) 333), (Value.int (0 : Int) 334), (Value.int (13 : Int) 335), (Value.int (11 : Int) 336), (Value.int (9 : Int) 337), (Value.int (4294966783 : Int) 338), (Value.int (0 : Int) 339), (Value.int (0 : Int) 340), (Value.int (2147483648 : Int) 341), (Value.int (0 : Int) 342), (Value.int (0 : Int) 343), (Value.int (0 : Int) 344), (Value.int (0 : Int) 345), (Value.int (0 : Int) 346), (Value.int (1 : Int) 347)] 0) #[])) ::
  ((nat_lit 45), (Obj.mk (Value.type "dict") Option.none (Data.dict #[] 0) #[])) ::
  ((nat_lit 46), (Obj.mk (Value.type "tuple") Option.none (Data.seq #[Value.none] 0) #[])) ::
  ((nat_lit 49), (Obj.mk (Value.type "tuple") Option.none (Data.seq #[] 0) #[])) ::
  ((nat_lit 50), (Obj.mk (Value.type "builtin_function_or_method") Option.none (Data.fields #[(Value.builtin "type.__prepare__"), (Value.type "type")]) #[])) ::
  ((nat_lit 51), (Obj.mk (Value.type "dict") Option.none (Data.dict #[(DictEntry.mk (PyData.keyHash P (Str.ofString "__module__")) (Value.str (Str.ofString "__module__") 358) (Value.str (Str.ofString "cpy313.wsgiref.headers") 289)), (DictEntry.mk (PyData.keyHash P (Str.ofString "__qualname__")) (Value.str (Str.ofString "__qualname__") 360) (Value.str (Str.ofString "Headers") 359)), (DictEntry.mk (PyData.keyHash P (Str.ofString "__firstlineno__")) (Value.str (Str.ofString "__firstlineno__") 362) (Value.int (8 : Int) 361)), (DictEntry.mk (PyData.keyHash P (Str.ofString "__init__")) (Value.str (Str.ofString "__init__") 372) (Value.ref 63)), (DictEntry.mk (PyData.keyHash P (Str.ofString "_convert_string_type")) (Value.str (Str.ofString "_convert_string_type") 382) (Value.ref 70)), (DictEntry.mk (PyData.keyHash P (Str.ofString "__len__")) (Value.str (Str.ofString "__len__") 389) (Value.ref 77)), (DictEntry.mk (PyData.keyHash P (Str.ofString "__setitem__")) (Value.str (Str.ofString "__setitem__") 398) (Value.ref 84)), (DictEntry.mk (PyData.keyHash P (Str.ofString "__delitem__")) (Value.str (Str.ofString "__delitem__") 404) (Value.ref 89)), (DictEntry.mk (PyData.keyHash P (Str.ofString "__getitem__")) (Value.str (Str.ofString "__getitem__") 412) (Value.ref 96)), (DictEntry.mk (PyData.keyHash P (Str.ofString "__contains__")) (Value.str (Str.ofString "__contains__") 420) (Value.ref 103)), (DictEntry.mk (PyData.keyHash P (Str.ofString "get_all")) (Value.str (Str.ofString "get_all") 428) (Value.ref 110)), (DictEntry.mk (PyData.keyHash P (Str.ofString "get")) (Value.str (Str.ofString "get") 439) (Value.ref 118)), (DictEntry.mk (PyData.keyHash P (Str.ofString "keys")) (Value.str (Str.ofString "keys") 445) (Value.ref 123)), (DictEntry.mk (PyData.keyHash P (Str.ofString "values")) (Value.str (Str.ofString "values") 451) (Value.ref 128)), (DictEntry.mk (PyData.keyHash P (Str.ofString "items")) (Value.str (Str.ofString "items") 458) (Value.ref 135)), (DictEntry.mk (PyData.keyHash P (Str.ofString "__repr__")) (Value.str (Str.ofString "__repr__") 465) (Value.ref 142)), (DictEntry.mk (PyData.keyHash P (Str.ofString "__str__")) (Value.str (Str.ofString "__str__") 471) (Value.ref 147)), (DictEntry.mk (PyData.keyHash P (Str.ofString "__bytes__")) (Value.str (Str.ofString "__bytes__") 478) (Value.ref 154)), (DictEntry.mk (PyData.keyHash P (Str.ofString "setdefault")) (Value.str (Str.ofString "setdefault") 487) (Value.ref 161)), (DictEntry.mk (PyData.keyHash P (Str.ofString "add_header")) (Value.str (Str.ofString "add_header") 497) (Value.ref 168)), (DictEntry.mk (PyData.keyHash P (Str.ofString "__static_attributes__")) (Value.str (Str.ofString "__static_attributes__") 499) (Value.ref 169))] 21) #[])) ::
  ((nat_lit 52), (Obj.mk (Value.type "tuple") Option.none (Data.seq #[] 0) #[])) ::
  ((nat_lit 53), (Obj.mk Value.none Option.none (Data.fields #[(Value.int (10 : Int) 0), (Value.int (4 : Int) 0), (Value.ref 62), (Value.int (20 : Int) 0), (Value.int (4 : Int) 0), (Value.ref 69), (Value.int (28 : Int) 0), (Value.int (4 : Int) 0), (Value.ref 76), (Value.int (31 : Int) 0), (Value.int (4 : Int) 0), (Value.ref 83), (Value.int (35 : Int) 0), (Value.int (4 : Int) 0), (Value.ref 88), (Value.int (39 : Int) 0), (Value.int (4 : Int) 0), (Value.ref 95), (Value.int (42 : Int) 0), (Value.int (4 : Int) 0), (Value.ref 102), (Value.int (45 : Int) 0), (Value.int (4 : Int) 0), (Value.ref 109), (Value.int (48 : Int) 0), (Value.int (4 : Int) 0), (Value.ref 117), (Value.int (55 : Int) 0), (Value.int (4 : Int) 0), (Value.ref 122), (Value.int (58 : Int) 0), (Value.int (4 : Int) 0), (Value.ref 127), (Value.int (61 : Int) 0), (Value.int (4 : Int) 0), (Value.ref 134), (Value.int (64 : Int) 0), (Value.int (4 : Int) 0), (Value.ref 141), (Value.int (67 : Int) 0), (Value.int (4 : Int) 0), (Value.ref 146), (Value.int (70 : Int) 0), (Value.int (4 : Int) 0), (Value.ref 153), (Value.int (73 : Int) 0), (Value.int (4 : Int) 0), (Value.ref 160), (Value.int (76 : Int) 0), (Value.int (4 : Int) 0), (Value.ref 167)]) #[])) ::
  ((nat_lit 54), (Obj.mk (Value.type "code") Option.none (Data.fields #[(Value.str (Str.ofString "Headers") 353), (Value.str (Str.ofString "Headers") 354), (Value.str (Str.ofString "/claim/cut.py") 355), (Value.int (8 : Int) 0), (Value.int (0 : Int) 0), (Value.int (0 : Int) 0), (Value.int (0 : Int) 0), (Value.int (0 : Int) 0), (Value.ref 52), (Value.bool false), (Value.int (276 : Int) 0), (Value.ref 53), Value.none, Value.none, Value.none, Value.none, (Value.int (356 : Int) 0), (Value.int (8 : Int) 0), (Value.str (Str.ofString "/claim/cut.py") 357)]) #[])) ::
  ((nat_lit 55), (Obj.mk (Value.type "frame") Option.none Data.plain #[(Option.some (Value.ref 54)), (Option.some (Value.ref 3)), (Option.some (Value.ref 51)), Option.none, (Option.some (Value.str (Str.ofString "cpy313.wsgiref.headers") 289)), Option.none, (Option.some (Value.ref 0))])) ::
  ((nat_lit 58), (Obj.mk Value.none Option.none (Data.fields #[]) #[])) ::
  ((nat_lit 61), (Obj.mk Value.none Option.none (Data.func (FuncData.mk (Str.ofString "__init__") (Str.ofString "Headers.__init__") (fnArgs (inCls 5 0)) (fnBody (inCls 5 0)) (fnScope (inCls 5 0)) 0 [] Value.none Value.none Value.none Value.none Option.none Value.none Value.none 0)) #[])) ::
  ((nat_lit 65), (Obj.mk Value.none Option.none (Data.fields #[]) #[])) ::
  ((nat_lit 68), (Obj.mk Value.none Option.none (Data.func (FuncData.mk (Str.ofString "_convert_string_type") (Str.ofString "Headers._convert_string_type") (fnArgs (inCls 5 1)) (fnBody (inCls 5 1)) (fnScope (inCls 5 1)) 0 [] Value.none Value.none Value.none Value.none Option.none Value.none Value.none 0)) #[])) ::
  ((nat_lit 72), (Obj.mk Value.none Option.none (Data.fields #[]) #[])) ::
  ((nat_lit 75), (Obj.mk Value.none Option.none (Data.func (FuncData.mk (Str.ofString "__len__") (Str.ofString "Headers.__len__") (fnArgs (inCls 5 2)) (fnBody (inCls 5 2)) (fnScope (inCls 5 2)) 0 [] Value.none Value.none Value.none Value.none Option.none Value.none Value.none 0)) #[])) ::
  ((nat_lit 79), (Obj.mk Value.none Option.none (Data.fields #[]) #[])) ::
  ((nat_lit 82), (Obj.mk Value.none Option.none (Data.func (FuncData.mk (Str.ofString "__setitem__") (Str.ofString "Headers.__setitem__") (fnArgs (inCls 5 3)) (fnBody (inCls 5 3)) (fnScope (inCls 5 3)) 0 [] Value.none Value.none Value.none Value.none Option.none Value.none Value.none 0)) #[])) ::
  ((nat_lit 86), (Obj.mk Value.none Option.none (Data.fields #[]) #[])) ::
  ((nat_lit 87), (Obj.mk Value.none Option.none (Data.func (FuncData.mk (Str.ofString "__delitem__") (Str.ofString "Headers.__delitem__") (fnArgs (inCls 5 4)) (fnBody (inCls 5 4)) (fnScope (inCls 5 4)) 0 [] Value.none Value.none Value.none Value.none Option.none Value.none Value.none 0)) #[])) ::
  ((nat_lit 91), (Obj.mk Value.none Option.none (Data.fields #[]) #[])) ::
  ((nat_lit 94), (Obj.mk Value.none Option.none (Data.func (FuncData.mk (Str.ofString "__getitem__") (Str.ofString "Headers.__getitem__") (fnArgs (inCls 5 5)) (fnBody (inCls 5 5)) (fnScope (inCls 5 5)) 0 [] Value.none Value.none Value.none Value.none Option.none Value.none Value.none 0)) #[])) ::
  ((nat_lit 98), (Obj.mk Value.none Option.none (Data.fields #[]) #[])) ::
  ((nat_lit 101), (Obj.mk Value.none Option.none (Data.func (FuncData.mk (Str.ofString "__contains__") (Str.ofString "Headers.__contains__") (fnArgs (inCls 5 6)) (fnBody (inCls 5 6)) (fnScope (inCls 5 6)) 0 [] Value.none Value.none Value.none Value.none Option.none Value.none Value.none 0)) #[])) ::
  ((nat_lit 105), (Obj.mk Value.none Option.none (Data.fields #[]) #[])) ::
  ((nat_lit 108), (Obj.mk Value.none Option.none (Data.func (FuncData.mk (Str.ofString "get_all") (Str.ofString "Headers.get_all") (fnArgs (inCls 5 7)) (fnBody (inCls 5 7)) (fnScope (inCls 5 7)) 0 [] Value.none Value.none Value.none Value.none Option.none Value.none Value.none 0)) #[])) ::
  ((nat_lit 113), (Obj.mk Value.none Option.none (Data.fields #[]) #[])) ::
  ((nat_lit 116), (Obj.mk Value.none Option.none (Data.func (FuncData.mk (Str.ofString "get") (Str.ofString "Headers.get") (fnArgs (inCls 5 8)) (fnBody (inCls 5 8)) (fnScope (inCls 5 8)) 0 [] Value.none Value.none Value.none Value.none Option.none Value.none Value.none 0)) #[])) ::
  ((nat_lit 120), (Obj.mk Value.none Option.none (Data.fields #[]) #[])) ::
  ((nat_lit 121), (Obj.mk Value.none Option.none (Data.func (FuncData.mk (Str.ofString "keys") (Str.ofString "Headers.keys") (fnArgs (inCls 5 9)) (fnBody (inCls 5 9)) (fnScope (inCls 5 9)) 0 [] Value.none Value.none Value.none Value.none Option.none Value.none Value.none 0)) #[])) ::
  ((nat_lit 125), (Obj.mk Value.none Option.none (Data.fields #[]) #[])) ::
  ((nat_lit 126), (Obj.mk Value.none Option.none (Data.func (FuncData.mk (Str.ofString "values") (Str.ofString "Headers.values") (fnArgs (inCls 5 10)) (fnBody (inCls 5 10)) (fnScope (inCls 5 10)) 0 [] Value.none Value.none Value.none Value.none Option.none Value.none Value.none 0)) #[])) ::
  ((nat_lit 130), (Obj.mk Value.none Option.none (Data.fields #[]) #[])) ::
  ((nat_lit 133), (Obj.mk Value.none Option.none (Data.func (FuncData.mk (Str.ofString "items") (Str.ofString "Headers.items") (fnArgs (inCls 5 11)) (fnBody (inCls 5 11)) (fnScope (inCls 5 11)) 0 [] Value.none Value.none Value.none Value.none Option.none Value.none Value.none 0)) #[])) ::
  ((nat_lit 137), (Obj.mk Value.none Option.none (Data.fields #[]) #[])) ::
  ((nat_lit 140), (Obj.mk Value.none Option.none (Data.func (FuncData.mk (Str.ofString "__repr__") (Str.ofString "Headers.__repr__") (fnArgs (inCls 5 12)) (fnBody (inCls 5 12)) (fnScope (inCls 5 12)) 0 [] Value.none Value.none Value.none Value.none Option.none Value.none Value.none 0)) #[])) ::
  ((nat_lit 144), (Obj.mk Value.none Option.none (Data.fields #[]) #[])) ::
  ((nat_lit 145), (Obj.mk Value.none Option.none (Data.func (FuncData.mk (Str.ofString "__str__") (Str.ofString "Headers.__str__") (fnArgs (inCls 5 13)) (fnBody (inCls 5 13)) (fnScope (inCls 5 13)) 0 [] Value.none Value.none Value.none Value.none Option.none Value.none Value.none 0)) #[])) ::
  ((nat_lit 149), (Obj.mk Value.none Option.none (Data.fields #[]) #[])) ::
  ((nat_lit 152), (Obj.mk Value.none Option.none (Data.func (FuncData.mk (Str.ofString "__bytes__") (Str.ofString "Headers.__bytes__") (fnArgs (inCls 5 14)) (fnBody (inCls 5 14)) (fnScope (inCls 5 14)) 0 [] Value.none Value.none Value.none Value.none Option.none Value.none Value.none 0)) #[])) ::
  ((nat_lit 156), (Obj.mk Value.none Option.none (Data.fields #[]) #[])) ::
  ((nat_lit 159), (Obj.mk Value.none Option.none (Data.func (FuncData.mk (Str.ofString "setdefault") (Str.ofString "Headers.setdefault") (fnArgs (inCls 5 15)) (fnBody (inCls 5 15)) (fnScope (inCls 5 15)) 0 [] Value.none Value.none Value.none Value.none Option.none Value.none Value.none 0)) #[])) ::
  ((nat_lit 163), (Obj.mk Value.none Option.none (Data.fields #[]) #[])) ::
  ((nat_lit 166), (Obj.mk Value.none Option.none (Data.func (FuncData.mk (Str.ofString "add_header") (Str.ofString "Headers.add_header") (fnArgs (inCls 5 16)) (fnBody (inCls 5 16)) (fnScope (inCls 5 16)) 0 [] Value.none Value.none Value.none Value.none Option.none Value.none Value.none 0)) #[])) ::
  ((nat_lit 174), (Obj.mk (Value.type "super") Option.none (Data.fields #[(Value.ref 171), (Value.ref 171), (Value.ref 171)]) #[])) ::
  ((nat_lit 175), (Obj.mk (Value.type "builtin_function_or_method") Option.none (Data.fields #[(Value.builtin "object.__init_subclass__"), (Value.ref 171)]) #[])) ::
  ((nat_lit 177), (Obj.mk (Value.type "builtin_function_or_method") Option.none (Data.fields #[(Value.builtin "type.__prepare__"), (Value.type "type")]) #[])) ::
  ((nat_lit 178), (Obj.mk (Value.type "dict") Option.none (Data.dict #[(DictEntry.mk (PyData.keyHash P (Str.ofString "__module__")) (Value.str (Str.ofString "__module__") 516) (Value.str (Str.ofString "cpy313.ftplib") 507)), (DictEntry.mk (PyData.keyHash P (Str.ofString "__qualname__")) (Value.str (Str.ofString "__qualname__") 518) (Value.str (Str.ofString "Error") 517)), (DictEntry.mk (PyData.keyHash P (Str.ofString "__firstlineno__")) (Value.str (Str.ofString "__firstlineno__") 520) (Value.int (79 : Int) 519)), (DictEntry.mk (PyData.keyHash P (Str.ofString "__static_attributes__")) (Value.str (Str.ofString "__static_attributes__") 521) (Value.ref 183))] 4) #[])) ::
  ((nat_lit 179), (Obj.mk (Value.type "tuple") Option.none (Data.seq #[] 0) #[])) ::
  ((nat_lit 180), (Obj.mk Value.none Option.none (Data.fields #[]) #[])) ::
  ((nat_lit 181), (Obj.mk (Value.type "code") Option.none (Data.fields #[(Value.str (Str.ofString "Error") 511), (Value.str (Str.ofString "Error") 512), (Value.str (Str.ofString "/claim/cut.py") 513), (Value.int (79 : Int) 0), (Value.int (0 : Int) 0), (Value.int (0 : Int) 0), (Value.int (0 : Int) 0), (Value.int (0 : Int) 0), (Value.ref 179), (Value.bool false), (Value.int (276 : Int) 0), (Value.ref 180), Value.none, Value.none, Value.none, Value.none, (Value.int (514 : Int) 0), (Value.int (79 : Int) 0), (Value.str (Str.ofString "/claim/cut.py") 515)]) #[])) ::
  ((nat_lit 182), (Obj.mk (Value.type "frame") Option.none Data.plain #[(Option.some (Value.ref 181)), (Option.some (Value.ref 3)), (Option.some (Value.ref 178)), Option.none, (Option.some (Value.str (Str.ofString "cpy313.ftplib") 507)), Option.none, (Option.some (Value.ref 0))])) ::
  ((nat_lit 187), (Obj.mk (Value.type "super") Option.none (Data.fields #[(Value.ref 185), (Value.ref 185), (Value.ref 185)]) #[])) ::
  ((nat_lit 188), (Obj.mk (Value.type "builtin_function_or_method") Option.none (Data.fields #[(Value.builtin "object.__init_subclass__"), (Value.ref 185)]) #[])) ::
  ((nat_lit 190), (Obj.mk (Value.type "builtin_function_or_method") Option.none (Data.fields #[(Value.builtin "type.__prepare__"), (Value.type "type")]) #[])) ::
  ((nat_lit 191), (Obj.mk (Value.type "dict") Option.none (Data.dict #[(DictEntry.mk (PyData.keyHash P (Str.ofString "__module__")) (Value.str (Str.ofString "__module__") 536) (Value.str (Str.ofString "cpy313.ftplib") 507)), (DictEntry.mk (PyData.keyHash P (Str.ofString "__qualname__")) (Value.str (Str.ofString "__qualname__") 538) (Value.str (Str.ofString "error_reply") 537)), (DictEntry.mk (PyData.keyHash P (Str.ofString "__firstlineno__")) (Value.str (Str.ofString "__firstlineno__") 540) (Value.int (81 : Int) 539)), (DictEntry.mk (PyData.keyHash P (Str.ofString "__static_attributes__")) (Value.str (Str.ofString "__static_attributes__") 541) (Value.ref 196))] 4) #[])) ::
  ((nat_lit 192), (Obj.mk (Value.type "tuple") Option.none (Data.seq #[] 0) #[])) ::
  ((nat_lit 193), (Obj.mk Value.none Option.none (Data.fields #[]) #[])) ::
  ((nat_lit 194), (Obj.mk (Value.type "code") Option.none (Data.fields #[(Value.str (Str.ofString "error_reply") 531), (Value.str (Str.ofString "error_reply") 532), (Value.str (Str.ofString "/claim/cut.py") 533), (Value.int (81 : Int) 0), (Value.int (0 : Int) 0), (Value.int (0 : Int) 0), (Value.int (0 : Int) 0), (Value.int (0 : Int) 0), (Value.ref 192), (Value.bool false), (Value.int (276 : Int) 0), (Value.ref 193), Value.none, Value.none, Value.none, Value.none, (Value.int (534 : Int) 0), (Value.int (81 : Int) 0), (Value.str (Str.ofString "/claim/cut.py") 535)]) #[])) ::
  ((nat_lit 195), (Obj.mk (Value.type "frame") Option.none Data.plain #[(Option.some (Value.ref 194)), (Option.some (Value.ref 3)), (Option.some (Value.ref 191)), Option.none, (Option.some (Value.str (Str.ofString "cpy313.ftplib") 507)), Option.none, (Option.some (Value.ref 0))])) ::
  ((nat_lit 199), (Obj.mk (Value.type "super") Option.none (Data.fields #[(Value.ref 198), (Value.ref 198), (Value.ref 198)]) #[])) ::
  ((nat_lit 200), (Obj.mk (Value.type "builtin_function_or_method") Option.none (Data.fields #[(Value.builtin "object.__init_subclass__"), (Value.ref 198)]) #[])) ::
  ((nat_lit 202), (Obj.mk Value.none Option.none (Data.fields #[]) #[])) ::
  ((nat_lit 205), (Obj.mk Value.none Option.none (Data.func (FuncData.mk (Str.ofString "parse257") (Str.ofString "parse257") (fnArgs (topAt 9)) (fnBody (topAt 9)) (fnScope (topAt 9)) 0 [] Value.none Value.none Value.none Value.none Option.none Value.none Value.none 0)) #[])) ::
  ((nat_lit 208), (Obj.mk (Value.type "tuple") Option.none (Data.seq #[] 0) #[])) ::
  ((nat_lit 209), (Obj.mk (Value.type "builtin_function_or_method") Option.none (Data.fields #[(Value.builtin "type.__prepare__"), (Value.type "type")]) #[])) ::
  ((nat_lit 210), (Obj.mk (Value.type "dict") Option.none (Data.dict #[(DictEntry.mk (PyData.keyHash P (Str.ofString "__module__")) (Value.str (Str.ofString "__module__") 565) (Value.str (Str.ofString "cpy313.xml.etree.ElementTree") 556)), (DictEntry.mk (PyData.keyHash P (Str.ofString "__qualname__")) (Value.str (Str.ofString "__qualname__") 567) (Value.str (Str.ofString "QName") 566)), (DictEntry.mk (PyData.keyHash P (Str.ofString "__firstlineno__")) (Value.str (Str.ofString "__firstlineno__") 569) (Value.int (101 : Int) 568)), (DictEntry.mk (PyData.keyHash P (Str.ofString "__init__")) (Value.str (Str.ofString "__init__") 578) (Value.ref 222)), (DictEntry.mk (PyData.keyHash P (Str.ofString "__str__")) (Value.str (Str.ofString "__str__") 585) (Value.ref 229)), (DictEntry.mk (PyData.keyHash P (Str.ofString "__repr__")) (Value.str (Str.ofString "__repr__") 592) (Value.ref 236)), (DictEntry.mk (PyData.keyHash P (Str.ofString "__hash__")) (Value.str (Str.ofString "__hash__") 599) (Value.ref 243)), (DictEntry.mk (PyData.keyHash P (Str.ofString "__le__")) (Value.str (Str.ofString "__le__") 607) (Value.ref 250)), (DictEntry.mk (PyData.keyHash P (Str.ofString "__lt__")) (Value.str (Str.ofString "__lt__") 615) (Value.ref 257)), (DictEntry.mk (PyData.keyHash P (Str.ofString "__ge__")) (Value.str (Str.ofString "__ge__") 623) (Value.ref 264)), (DictEntry.mk (PyData.keyHash P (Str.ofString "__gt__")) (Value.str (Str.ofString "__gt__") 631) (Value.ref 271)), (DictEntry.mk (PyData.keyHash P (Str.ofString "__eq__")) (Value.str (Str.ofString "__eq__") 639) (Value.ref 278)), (DictEntry.mk (PyData.keyHash P (Str.ofString "__static_attributes__")) (Value.str (Str.ofString "__static_attributes__") 641) (Value.ref 279))] 13) #[])) ::
  ((nat_lit 211), (Obj.mk (Value.type "tuple") Option.none (Data.seq #[] 0) #[])) ::
  ((nat_lit 212), (Obj.mk Value.none Option.none (Data.fields #[(Value.int (103 : Int) 0), (Value.int (4 : Int) 0), (Value.ref 221), (Value.int (108 : Int) 0), (Value.int (4 : Int) 0), (Value.ref 228), (Value.int (111 : Int) 0), (Value.int (4 : Int) 0), (Value.ref 235), (Value.int (114 : Int) 0), (Value.int (4 : Int) 0), (Value.ref 242), (Value.int (117 : Int) 0), (Value.int (4 : Int) 0), (Value.ref 249), (Value.int (122 : Int) 0), (Value.int (4 : Int) 0), (Value.ref 256), (Value.int (127 : Int) 0), (Value.int (4 : Int) 0), (Value.ref 263), (Value.int (132 : Int) 0), (Value.int (4 : Int) 0), (Value.ref 270), (Value.int (137 : Int) 0), (Value.int (4 : Int) 0), (Value.ref 277)]) #[])) ::
  ((nat_lit 213), (Obj.mk (Value.type "code") Option.none (Data.fields #[(Value.str (Str.ofString "QName") 560), (Value.str (Str.ofString "QName") 561), (Value.str (Str.ofString "/claim/cut.py") 562), (Value.int (101 : Int) 0), (Value.int (0 : Int) 0), (Value.int (0 : Int) 0), (Value.int (0 : Int) 0), (Value.int (0 : Int) 0), (Value.ref 211), (Value.bool false), (Value.int (276 : Int) 0), (Value.ref 212), Value.none, Value.none, Value.none, Value.none, (Value.int (563 : Int) 0), (Value.int (101 : Int) 0), (Value.str (Str.ofString "/claim/cut.py") 564)]) #[])) ::
  ((nat_lit 214), (Obj.mk (Value.type "frame") Option.none Data.plain #[(Option.some (Value.ref 213)), (Option.some (Value.ref 3)), (Option.some (Value.ref 210)), Option.none, (Option.some (Value.str (Str.ofString "cpy313.xml.etree.ElementTree") 556)), Option.none, (Option.some (Value.ref 0))])) ::
  ((nat_lit 217), (Obj.mk Value.none Option.none (Data.fields #[]) #[])) ::
  ((nat_lit 220), (Obj.mk Value.none Option.none (Data.func (FuncData.mk (Str.ofString "__init__") (Str.ofString "QName.__init__") (fnArgs (inCls 11 0)) (fnBody (inCls 11 0)) (fnScope (inCls 11 0)) 0 [] Value.none Value.none Value.none Value.none Option.none Value.none Value.none 0)) #[])) ::
  ((nat_lit 224), (Obj.mk Value.none Option.none (Data.fields #[]) #[])) ::
  ((nat_lit 227), (Obj.mk Value.none Option.none (Data.func (FuncData.mk (Str.ofString "__str__") (Str.ofString "QName.__str__") (fnArgs (inCls 11 1)) (fnBody (inCls 11 1)) (fnScope (inCls 11 1)) 0 [] Value.none Value.none Value.none Value.none Option.none Value.none Value.none 0)) #[])) ::
  ((nat_lit 231), (Obj.mk Value.none Option.none (Data.fields #[]) #[])) ::
  ((nat_lit 234), (Obj.mk Value.none Option.none (Data.func (FuncData.mk (Str.ofString "__repr__") (Str.ofString "QName.__repr__") (fnArgs (inCls 11 2)) (fnBody (inCls 11 2)) (fnScope (inCls 11 2)) 0 [] Value.none Value.none Value.none Value.none Option.none Value.none Value.none 0)) #[])) ::
  ((nat_lit 238), (Obj.mk Value.none Option.none (Data.fields #[]) #[])) ::
  ((nat_lit 241), (Obj.mk Value.none Option.none (Data.func (FuncData.mk (Str.ofString "__hash__") (Str.ofString "QName.__hash__") (fnArgs (inCls 11 3)) (fnBody (inCls 11 3)) (fnScope (inCls 11 3)) 0 [] Value.none Value.none Value.none Value.none Option.none Value.none Value.none 0)) #[])) ::
  ((nat_lit 245), (Obj.mk Value.none Option.none (Data.fields #[]) #[])) ::
  ((nat_lit 248), (Obj.mk Value.none Option.none (Data.func (FuncData.mk (Str.ofString "__le__") (Str.ofString "QName.__le__") (fnArgs (inCls 11 4)) (fnBody (inCls 11 4)) (fnScope (inCls 11 4)) 0 [] Value.none Value.none Value.none Value.none Option.none Value.none Value.none 0)) #[])) ::
  ((nat_lit 252), (Obj.mk Value.none Option.none (Data.fields #[]) #[])) ::
  ((nat_lit 255), (Obj.mk Value.none Option.none (Data.func (FuncData.mk (Str.ofString "__lt__") (Str.ofString "QName.__lt__") (fnArgs (inCls 11 5)) (fnBody (inCls 11 5)) (fnScope (inCls 11 5)) 0 [] Value.none Value.none Value.none Value.none Option.none Value.none Value.none 0)) #[])) ::
  ((nat_lit 259), (Obj.mk Value.none Option.none (Data.fields #[]) #[])) ::
  ((nat_lit 262), (Obj.mk Value.none Option.none (Data.func (FuncData.mk (Str.ofString "__ge__") (Str.ofString "QName.__ge__") (fnArgs (inCls 11 6)) (fnBody (inCls 11 6)) (fnScope (inCls 11 6)) 0 [] Value.none Value.none Value.none Value.none Option.none Value.none Value.none 0)) #[])) ::
  ((nat_lit 266), (Obj.mk Value.none Option.none (Data.fields #[]) #[])) ::
  ((nat_lit 269), (Obj.mk Value.none Option.none (Data.func (FuncData.mk (Str.ofString "__gt__") (Str.ofString "QName.__gt__") (fnArgs (inCls 11 7)) (fnBody (inCls 11 7)) (fnScope (inCls 11 7)) 0 [] Value.none Value.none Value.none Value.none Option.none Value.none Value.none 0)) #[])) ::
  ((nat_lit 273), (Obj.mk Value.none Option.none (Data.fields #[]) #[])) ::
  ((nat_lit 276), (Obj.mk Value.none Option.none (Data.func (FuncData.mk (Str.ofString "__eq__") (Str.ofString "QName.__eq__") (fnArgs (inCls 11 8)) (fnBody (inCls 11 8)) (fnScope (inCls 11 8)) 0 [] Value.none Value.none Value.none Value.none Option.none Value.none Value.none 0)) #[])) ::
  ((nat_lit 284), (Obj.mk (Value.type "super") Option.none (Data.fields #[(Value.ref 281), (Value.ref 281), (Value.ref 281)]) #[])) ::
  ((nat_lit 285), (Obj.mk (Value.type "builtin_function_or_method") Option.none (Data.fields #[(Value.builtin "object.__init_subclass__"), (Value.ref 281)]) #[])) ::
  ((nat_lit 287), (Obj.mk Value.none Option.none (Data.fields #[]) #[])) ::
  ((nat_lit 290), (Obj.mk Value.none Option.none (Data.func (FuncData.mk (Str.ofString "_raise_serialization_error") (Str.ofString "_raise_serialization_error") (fnArgs (topAt 12)) (fnBody (topAt 12)) (fnScope (topAt 12)) 0 [] Value.none Value.none Value.none Value.none Option.none Value.none Value.none 0)) #[])) ::
  ((nat_lit 294), (Obj.mk Value.none Option.none (Data.fields #[]) #[])) ::
  ((nat_lit 297), (Obj.mk Value.none Option.none (Data.func (FuncData.mk (Str.ofString "_escape_cdata") (Str.ofString "_escape_cdata") (fnArgs (topAt 13)) (fnBody (topAt 13)) (fnScope (topAt 13)) 0 [] Value.none Value.none Value.none Value.none Option.none Value.none Value.none 0)) #[])) ::
  ((nat_lit 301), (Obj.mk Value.none Option.none (Data.fields #[]) #[])) ::
  ((nat_lit 304), (Obj.mk Value.none Option.none (Data.func (FuncData.mk (Str.ofString "_escape_attrib") (Str.ofString "_escape_attrib") (fnArgs (topAt 14)) (fnBody (topAt 14)) (fnScope (topAt 14)) 0 [] Value.none Value.none Value.none Value.none Option.none Value.none Value.none 0)) #[])) ::
  ((nat_lit 308), (Obj.mk Value.none Option.none (Data.fields #[]) #[])) ::
  ((nat_lit 311), (Obj.mk Value.none Option.none (Data.func (FuncData.mk (Str.ofString "_escape_attrib_html") (Str.ofString "_escape_attrib_html") (fnArgs (topAt 15)) (fnBody (topAt 15)) (fnScope (topAt 15)) 0 [] Value.none Value.none Value.none Value.none Option.none Value.none Value.none 0)) #[])) ::
  ((nat_lit 315), (Obj.mk Value.none Option.none (Data.fields #[]) #[])) ::
  ((nat_lit 318), (Obj.mk Value.none Option.none (Data.func (FuncData.mk (Str.ofString "_escape_cdata_c14n") (Str.ofString "_escape_cdata_c14n") (fnArgs (topAt 16)) (fnBody (topAt 16)) (fnScope (topAt 16)) 0 [] Value.none Value.none Value.none Value.none Option.none Value.none Value.none 0)) #[])) ::
  ((nat_lit 322), (Obj.mk Value.none Option.none (Data.fields #[]) #[])) ::
  ((nat_lit 325), (Obj.mk Value.none Option.none (Data.func (FuncData.mk (Str.ofString "_escape_attrib_c14n") (Str.ofString "_escape_attrib_c14n") (fnArgs (topAt 17)) (fnBody (topAt 17)) (fnScope (topAt 17)) 0 [] Value.none Value.none Value.none Value.none Option.none Value.none Value.none 0)) #[])) ::
  ((nat_lit 329), (Obj.mk Value.none Option.none (Data.fields #[]) #[])) ::
  ((nat_lit 332), (Obj.mk Value.none Option.none (Data.func (FuncData.mk (Str.ofString "_law_reply") (Str.ofString "_law_reply") (fnArgs (topAt 19)) (fnBody (topAt 19)) (fnScope (topAt 19)) 0 [] Value.none Value.none Value.none Value.none Option.none Value.none Value.none 0)) #[])) ::
  ((nat_lit 336), (Obj.mk Value.none Option.none (Data.fields #[]) #[])) ::
  ((nat_lit 339), (Obj.mk Value.none Option.none (Data.func (FuncData.mk (Str.ofString "_law_told") (Str.ofString "_law_told") (fnArgs (topAt 20)) (fnBody (topAt 20)) (fnScope (topAt 20)) 0 [] Value.none Value.none Value.none Value.none Option.none Value.none Value.none 0)) #[])) ::
  ((nat_lit 343), (Obj.mk Value.none Option.none (Data.fields #[]) #[])) ::
  ((nat_lit 346), (Obj.mk Value.none Option.none (Data.func (FuncData.mk (Str.ofString "_law_key") (Str.ofString "_law_key") (fnArgs (topAt 21)) (fnBody (topAt 21)) (fnScope (topAt 21)) 0 [] Value.none Value.none Value.none Value.none Option.none Value.none Value.none 0)) #[])) ::
  ((nat_lit 350), (Obj.mk Value.none Option.none (Data.fields #[]) #[])) ::
  ((nat_lit 353), (Obj.mk Value.none Option.none (Data.func (FuncData.mk (Str.ofString "_law_written") (Str.ofString "_law_written") (fnArgs (topAt 22)) (fnBody (topAt 22)) (fnScope (topAt 22)) 0 [] Value.none Value.none Value.none Value.none Option.none Value.none Value.none 0)) #[])) ::
  ((nat_lit 357), (Obj.mk Value.none Option.none (Data.fields #[]) #[])) ::
  ((nat_lit 360), (Obj.mk Value.none Option.none (Data.func (FuncData.mk (Str.ofString "_law_spelled") (Str.ofString "_law_spelled") (fnArgs (topAt 23)) (fnBody (topAt 23)) (fnScope (topAt 23)) 0 [] Value.none Value.none Value.none Value.none Option.none Value.none Value.none 0)) #[])) ::
  ((nat_lit 364), (Obj.mk Value.none Option.none (Data.fields #[]) #[])) ::
  ((nat_lit 367), (Obj.mk Value.none Option.none (Data.func (FuncData.mk (Str.ofString "_law_free") (Str.ofString "_law_free") (fnArgs (topAt 24)) (fnBody (topAt 24)) (fnScope (topAt 24)) 0 [] Value.none Value.none Value.none Value.none Option.none Value.none Value.none 0)) #[])) ::
  ((nat_lit 371), (Obj.mk Value.none Option.none (Data.fields #[]) #[])) ::
  ((nat_lit 374), (Obj.mk Value.none Option.none (Data.func (FuncData.mk (Str.ofString "_law_lay") (Str.ofString "_law_lay") (fnArgs (topAt 25)) (fnBody (topAt 25)) (fnScope (topAt 25)) 0 [] Value.none Value.none Value.none Value.none Option.none Value.none Value.none 0)) #[])) ::
  ((nat_lit 378), (Obj.mk Value.none Option.none (Data.fields #[]) #[])) ::
  ((nat_lit 381), (Obj.mk Value.none Option.none (Data.func (FuncData.mk (Str.ofString "_law_before") (Str.ofString "_law_before") (fnArgs (topAt 26)) (fnBody (topAt 26)) (fnScope (topAt 26)) 0 [] Value.none Value.none Value.none Value.none Option.none Value.none Value.none 0)) #[])) ::
  ((nat_lit 385), (Obj.mk Value.none Option.none (Data.fields #[]) #[])) ::
  ((nat_lit 388), (Obj.mk Value.none Option.none (Data.func (FuncData.mk (Str.ofString "_law_put") (Str.ofString "_law_put") (fnArgs (topAt 27)) (fnBody (topAt 27)) (fnScope (topAt 27)) 0 [] Value.none Value.none Value.none Value.none Option.none Value.none Value.none 0)) #[])) ::
  ((nat_lit 392), (Obj.mk Value.none Option.none (Data.fields #[]) #[])) ::
  ((nat_lit 395), (Obj.mk Value.none Option.none (Data.func (FuncData.mk (Str.ofString "_law_take") (Str.ofString "_law_take") (fnArgs (topAt 28)) (fnBody (topAt 28)) (fnScope (topAt 28)) 0 [] Value.none Value.none Value.none Value.none Option.none Value.none Value.none 0)) #[])) ::
  ((nat_lit 399), (Obj.mk Value.none Option.none (Data.fields #[]) #[])) ::
  ((nat_lit 402), (Obj.mk Value.none Option.none (Data.func (FuncData.mk (Str.ofString "_law_deed") (Str.ofString "_law_deed") (fnArgs (topAt 29)) (fnBody (topAt 29)) (fnScope (topAt 29)) 0 [] Value.none Value.none Value.none Value.none Option.none Value.none Value.none 0)) #[])) ::
  ((nat_lit 406), (Obj.mk Value.none Option.none (Data.fields #[]) #[])) ::
  ((nat_lit 409), (Obj.mk Value.none Option.none (Data.func (FuncData.mk (Str.ofString "_law_excess") (Str.ofString "_law_excess") (fnArgs (topAt 30)) (fnBody (topAt 30)) (fnScope (topAt 30)) 0 [] Value.none Value.none Value.none Value.none Option.none Value.none Value.none 0)) #[])) ::
  ((nat_lit 413), (Obj.mk Value.none Option.none (Data.fields #[]) #[])) ::
  ((nat_lit 414), (Obj.mk Value.none Option.none (Data.func (FuncData.mk (Str.ofString "_law_due") (Str.ofString "_law_due") (fnArgs (topAt 31)) (fnBody (topAt 31)) (fnScope (topAt 31)) 0 [] Value.none Value.none Value.none Value.none Option.none Value.none Value.none 0)) #[])) ::
  ((nat_lit 418), (Obj.mk Value.none Option.none (Data.fields #[]) #[])) ::
  ((nat_lit 419), (Obj.mk Value.none Option.none (Data.func (FuncData.mk (Str.ofString "law") (Str.ofString "law") (fnArgs (topAt 32)) (fnBody (topAt 32)) (fnScope (topAt 32)) 0 [] Value.none Value.none Value.none Value.none Option.none Value.none Value.none 0)) #[])) :: []
noncomputable def mergeO : Nat → Frag → Frag → List Obj
  | 0, _, _ => []
  | n + 1, a, b => match a with
    | [] => b.map (·.2)
    | (i, o) :: a' => match b with
      | [] => o :: mergeO n a' []
      | (j, p) :: b' => match Nat.blt i j with
        | true => o :: mergeO n a' ((j, p) :: b')
        | false => p :: mergeO n ((i, o) :: a') b'
noncomputable def patO : Nat → Nat → List Obj → Frag → List Obj
  | 0, _, _, _ => []
  | n + 1, i, l, d => match l with
    | [] => []
    | o :: l' => match d with
      | [] => o :: patO n (i + 1) l' []
      | (j, p) :: d' => match Nat.beq i j with
        | true => p :: patO n (i + 1) l' d'
        | false => o :: patO n (i + 1) l' ((j, p) :: d')
noncomputable def evO : List Obj → List Obj
  | [] => []
  | [x] => [x]
  | x :: _ :: l => x :: evO l
noncomputable def treeO : Nat → List Obj → BT
  | 0, _ => .nil
  | n + 1, l => match l with
    | [] => .nil
    | o :: l' => .node o (treeO n (evO l')) (treeO n (evO l'.tail))
noncomputable def hdObjs (P : PySem.Params) : List Obj := mergeO 500 (hd.heap_39 P) (hdRest P)
noncomputable def hdLife : Life := (Life.mk [] [] [] 0 [] [] false #[] [] 0 false false false (0 : Int) [(2000 : Int), (10 : Int), (10 : Int)] false 0 true [] [] 0 false)
noncomputable def hdDrawn : Drawn := (Drawn.mk 0 0 0 0)
noncomputable def hdAnn : Option Value := (Option.some (Value.ref 6))
noncomputable def hdBody : List Stmt := behindTheImports PySem.Challenge.pw_xn0027_01
noncomputable def hdEnv : Env := { scope := PySem.Challenge.pw_xn0027_01.main.scope, locals := mainNs, globals := mainNs, cells := [], code := (Value.ref 30), frame := some 31 }
noncomputable def hdCode : Code := .body hdBody hdEnv
noncomputable def hdToks : Nat := 276
noncomputable def hdQ : Pos := (Pos.mk 0 0 0 0)
noncomputable def hdH (P : PySem.Params) : Heap := ⟨⟨hdObjs P⟩, hdLife⟩
noncomputable def hdL0 (P : PySem.Params) : List Obj := patO 32 0 (hdObjs P) (((nat_lit 2), (Obj.mk Value.none Option.none (Data.dict #[(DictEntry.mk (PyData.keyHash P (Str.ofString "\x69mport.loaded._sre")) (Value.str (Str.ofString "\x69mport.loaded._sre") 183) (Value.bool true)), (DictEntry.mk (PyData.keyHash P (Str.ofString "class._frozen_\x69mportlib.BuiltinImporter")) (Value.str (Str.ofString "class._frozen_\x69mportlib.BuiltinImporter") 185) (Value.ref 14)), (DictEntry.mk (PyData.keyHash P (Str.ofString "watched.\x69mport")) (Value.str (Str.ofString "watched.\x69mport") 206) (Value.ref 18)), (DictEntry.mk (PyData.keyHash P (Str.ofString "class._frozen_\x69mportlib.ModuleSpec")) (Value.str (Str.ofString "class._frozen_\x69mportlib.ModuleSpec") 216) (Value.ref 22)), (DictEntry.mk (PyData.keyHash P (Str.ofString "sys.modules.booked-epoch")) (Value.str (Str.ofString "sys.modules.booked-epoch") 245) (Value.int (3 : Int) 0)), (DictEntry.mk (PyData.keyHash P (Str.ofString "\x69mport.later-laid._sre")) (Value.str (Str.ofString "\x69mport.later-laid._sre") 270) (Value.bool true)), (DictEntry.mk (PyData.keyHash P (Str.ofString "watched.library")) (Value.str (Str.ofString "watched.library") 272) (Value.ref 27)), (DictEntry.mk (PyData.keyHash P (Str.ofString "watched.library-objects")) (Value.str (Str.ofString "watched.library-objects") 0) (Value.str (Str.ofString "\x0c") 0)), (DictEntry.mk (PyData.keyHash P (Str.ofString "watched.library-deep._sre")) (Value.str (Str.ofString "watched.library-deep._sre") 273) (Value.str (Str.ofString "\x04\x00\x00\x0b\x04\x00\x00\x0b\x04\x00\x00\x03\x04\x00\x00\x0b\x08\x04dict\x02") 0))] 9) #[])) :: ((nat_lit 3), (Obj.mk (Value.type "dict") Option.none (Data.dict #[(DictEntry.mk (PyData.keyHash P (Str.ofString "__name__")) (Value.str (Str.ofString "__name__") 165) (Value.str (Str.ofString "__main__") 164)), (DictEntry.mk (PyData.keyHash P (Str.ofString "__doc__")) (Value.str (Str.ofString "__doc__") 166) Value.none), (DictEntry.mk (PyData.keyHash P (Str.ofString "__package__")) (Value.str (Str.ofString "__package__") 167) Value.none), (DictEntry.mk (PyData.keyHash P (Str.ofString "__loader__")) (Value.str (Str.ofString "__loader__") 168) (Value.builtin "__main__.__loader__#opaque")), (DictEntry.mk (PyData.keyHash P (Str.ofString "__spec__")) (Value.str (Str.ofString "__spec__") 169) Value.none), (DictEntry.mk (PyData.keyHash P (Str.ofString "__annotations__")) (Value.str (Str.ofString "__annotations__") 170) (Value.ref 6)), (DictEntry.mk (PyData.keyHash P (Str.ofString "__builtins__")) (Value.str (Str.ofString "__builtins__") 171) (Value.ref 4)), (DictEntry.mk (PyData.keyHash P (Str.ofString "__file__")) (Value.str (Str.ofString "__file__") 173) (Value.str (Str.ofString "/claim/cut.py") 172)), (DictEntry.mk (PyData.keyHash P (Str.ofString "__cached__")) (Value.str (Str.ofString "__cached__") 174) Value.none), (DictEntry.mk (PyData.keyHash P (Str.ofString "_sre")) (Value.str (Str.ofString "_sre") 275) (Value.ref 12))] 10) #[])) :: ((nat_lit 29), (Obj.mk Value.none Option.none (Data.fields #[]) #[])) :: [])
noncomputable def hdS0 (P : PySem.Params) (os : OsState) : SharedT := ⟨treeO 10 (hdL0 P), 32, hdLife, #[], hdDrawn, 282, os⟩
noncomputable def hdL1 (P : PySem.Params) : List Obj := patO 49 0 (hdObjs P) (((nat_lit 2), (Obj.mk Value.none Option.none (Data.dict #[(DictEntry.mk (PyData.keyHash P (Str.ofString "\x69mport.loaded._sre")) (Value.str (Str.ofString "\x69mport.loaded._sre") 183) (Value.bool true)), (DictEntry.mk (PyData.keyHash P (Str.ofString "class._frozen_\x69mportlib.BuiltinImporter")) (Value.str (Str.ofString "class._frozen_\x69mportlib.BuiltinImporter") 185) (Value.ref 14)), (DictEntry.mk (PyData.keyHash P (Str.ofString "watched.\x69mport")) (Value.str (Str.ofString "watched.\x69mport") 206) (Value.ref 18)), (DictEntry.mk (PyData.keyHash P (Str.ofString "class._frozen_\x69mportlib.ModuleSpec")) (Value.str (Str.ofString "class._frozen_\x69mportlib.ModuleSpec") 216) (Value.ref 22)), (DictEntry.mk (PyData.keyHash P (Str.ofString "sys.modules.booked-epoch")) (Value.str (Str.ofString "sys.modules.booked-epoch") 245) (Value.int (3 : Int) 0)), (DictEntry.mk (PyData.keyHash P (Str.ofString "\x69mport.later-laid._sre")) (Value.str (Str.ofString "\x69mport.later-laid._sre") 270) (Value.bool true)), (DictEntry.mk (PyData.keyHash P (Str.ofString "watched.library")) (Value.str (Str.ofString "watched.library") 272) (Value.ref 27)), (DictEntry.mk (PyData.keyHash P (Str.ofString "watched.library-objects")) (Value.str (Str.ofString "watched.library-objects") 0) (Value.str (Str.ofString "\x0c") 0)), (DictEntry.mk (PyData.keyHash P (Str.ofString "watched.library-deep._sre")) (Value.str (Str.ofString "watched.library-deep._sre") 273) (Value.str (Str.ofString "\x04\x00\x00\x0b\x04\x00\x00\x0b\x04\x00\x00\x03\x04\x00\x00\x0b\x08\x04dict\x02") 0))] 9) #[])) :: ((nat_lit 3), (Obj.mk (Value.type "dict") Option.none (Data.dict #[(DictEntry.mk (PyData.keyHash P (Str.ofString "__name__")) (Value.str (Str.ofString "__name__") 165) (Value.str (Str.ofString "cpy313.wsgiref.headers") 289)), (DictEntry.mk (PyData.keyHash P (Str.ofString "__doc__")) (Value.str (Str.ofString "__doc__") 166) Value.none), (DictEntry.mk (PyData.keyHash P (Str.ofString "__package__")) (Value.str (Str.ofString "__package__") 167) Value.none), (DictEntry.mk (PyData.keyHash P (Str.ofString "__loader__")) (Value.str (Str.ofString "__loader__") 168) (Value.builtin "__main__.__loader__#opaque")), (DictEntry.mk (PyData.keyHash P (Str.ofString "__spec__")) (Value.str (Str.ofString "__spec__") 169) Value.none), (DictEntry.mk (PyData.keyHash P (Str.ofString "__annotations__")) (Value.str (Str.ofString "__annotations__") 170) (Value.ref 6)), (DictEntry.mk (PyData.keyHash P (Str.ofString "__builtins__")) (Value.str (Str.ofString "__builtins__") 171) (Value.ref 4)), (DictEntry.mk (PyData.keyHash P (Str.ofString "__file__")) (Value.str (Str.ofString "__file__") 173) (Value.str (Str.ofString "/claim/cut.py") 172)), (DictEntry.mk (PyData.keyHash P (Str.ofString "__cached__")) (Value.str (Str.ofString "__cached__") 174) Value.none), (DictEntry.mk (PyData.keyHash P (Str.ofString "_sre")) (Value.str (Str.ofString "_sre") 275) (Value.ref 12)), (DictEntry.mk (PyData.keyHash P (Str.ofString "_wall")) (Value.str (Str.ofString "_wall") 288) (Value.ref 38)), (DictEntry.mk (PyData.keyHash P (Str.ofString "_name_disallowed_re")) (Value.str (Str.ofString "_name_disallowed_re") 316) (Value.ref 43)), (DictEntry.mk (PyData.keyHash P (Str.ofString "_value_disallowed_re")) (Value.str (Str.ofString "_value_disallowed_re") 350) (Value.ref 48))] 13) #[])) :: ((nat_lit 29), (Obj.mk Value.none Option.none (Data.fields #[(Value.int (2 : Int) 0), (Value.int (0 : Int) 0), (Value.ref 37)]) #[])) :: [])
noncomputable def hdS1 (P : PySem.Params) (os : OsState) : SharedT := ⟨treeO 10 (hdL1 P), 49, hdLife, #[], hdDrawn, 351, os⟩
noncomputable def hdL2 (P : PySem.Params) : List Obj := patO 176 0 (hdObjs P) (((nat_lit 2), (Obj.mk Value.none Option.none (Data.dict #[(DictEntry.mk (PyData.keyHash P (Str.ofString "\x69mport.loaded._sre")) (Value.str (Str.ofString "\x69mport.loaded._sre") 183) (Value.bool true)), (DictEntry.mk (PyData.keyHash P (Str.ofString "class._frozen_\x69mportlib.BuiltinImporter")) (Value.str (Str.ofString "class._frozen_\x69mportlib.BuiltinImporter") 185) (Value.ref 14)), (DictEntry.mk (PyData.keyHash P (Str.ofString "watched.\x69mport")) (Value.str (Str.ofString "watched.\x69mport") 206) (Value.ref 18)), (DictEntry.mk (PyData.keyHash P (Str.ofString "class._frozen_\x69mportlib.ModuleSpec")) (Value.str (Str.ofString "class._frozen_\x69mportlib.ModuleSpec") 216) (Value.ref 22)), (DictEntry.mk (PyData.keyHash P (Str.ofString "sys.modules.booked-epoch")) (Value.str (Str.ofString "sys.modules.booked-epoch") 245) (Value.int (3 : Int) 0)), (DictEntry.mk (PyData.keyHash P (Str.ofString "\x69mport.later-laid._sre")) (Value.str (Str.ofString "\x69mport.later-laid._sre") 270) (Value.bool true)), (DictEntry.mk (PyData.keyHash P (Str.ofString "watched.library")) (Value.str (Str.ofString "watched.library") 272) (Value.ref 27)), (DictEntry.mk (PyData.keyHash P (Str.ofString "watched.library-objects")) (Value.str (Str.ofString "watched.library-objects") 0) (Value.str (Str.ofString "\x0c") 0)), (DictEntry.mk (PyData.keyHash P (Str.ofString "watched.library-deep._sre")) (Value.str (Str.ofString "watched.library-deep._sre") 273) (Value.str (Str.ofString "\x04\x00\x00\x0b\x04\x00\x00\x0b\x04\x00\x00\x03\x04\x00\x00\x0b\x08\x04dict\x02") 0))] 9) #[])) :: ((nat_lit 3), (Obj.mk (Value.type "dict") Option.none (Data.dict #[(DictEntry.mk (PyData.keyHash P (Str.ofString "__name__")) (Value.str (Str.ofString "__name__") 165) (Value.str (Str.ofString "cpy313.wsgiref.headers") 289)), (DictEntry.mk (PyData.keyHash P (Str.ofString "__doc__")) (Value.str (Str.ofString "__doc__") 166) Value.none), (DictEntry.mk (PyData.keyHash P (Str.ofString "__package__")) (Value.str (Str.ofString "__package__") 167) Value.none), (DictEntry.mk (PyData.keyHash P (Str.ofString "__loader__")) (Value.str (Str.ofString "__loader__") 168) (Value.builtin "__main__.__loader__#opaque")), (DictEntry.mk (PyData.keyHash P (Str.ofString "__spec__")) (Value.str (Str.ofString "__spec__") 169) Value.none), (DictEntry.mk (PyData.keyHash P (Str.ofString "__annotations__")) (Value.str (Str.ofString "__annotations__") 170) (Value.ref 6)), (DictEntry.mk (PyData.keyHash P (Str.ofString "__builtins__")) (Value.str (Str.ofString "__builtins__") 171) (Value.ref 4)), (DictEntry.mk (PyData.keyHash P (Str.ofString "__file__")) (Value.str (Str.ofString "__file__") 173) (Value.str (Str.ofString "/claim/cut.py") 172)), (DictEntry.mk (PyData.keyHash P (Str.ofString "__cached__")) (Value.str (Str.ofString "__cached__") 174) Value.none), (DictEntry.mk (PyData.keyHash P (Str.ofString "_sre")) (Value.str (Str.ofString "_sre") 275) (Value.ref 12)), (DictEntry.mk (PyData.keyHash P (Str.ofString "_wall")) (Value.str (Str.ofString "_wall") 288) (Value.ref 38)), (DictEntry.mk (PyData.keyHash P (Str.ofString "_name_disallowed_re")) (Value.str (Str.ofString "_name_disallowed_re") 316) (Value.ref 43)), (DictEntry.mk (PyData.keyHash P (Str.ofString "_value_disallowed_re")) (Value.str (Str.ofString "_value_disallowed_re") 350) (Value.ref 48)), (DictEntry.mk (PyData.keyHash P (Str.ofString "Headers")) (Value.str (Str.ofString "Headers") 506) (Value.ref 171))] 14) #[])) :: ((nat_lit 29), (Obj.mk Value.none Option.none (Data.fields #[(Value.int (2 : Int) 0), (Value.int (0 : Int) 0), (Value.ref 37), (Value.int (8 : Int) 0), (Value.int (0 : Int) 0), (Value.ref 54)]) #[])) :: [])
noncomputable def hdS2 (P : PySem.Params) (os : OsState) : SharedT := ⟨treeO 10 (hdL2 P), 176, hdLife, #[], hdDrawn, 507, os⟩
noncomputable def hdL3 (P : PySem.Params) : List Obj := patO 208 0 (hdObjs P) (((nat_lit 3), (Obj.mk (Value.type "dict") Option.none (Data.dict #[(DictEntry.mk (PyData.keyHash P (Str.ofString "__name__")) (Value.str (Str.ofString "__name__") 165) (Value.str (Str.ofString "cpy313.xml.etree.ElementTree") 556)), (DictEntry.mk (PyData.keyHash P (Str.ofString "__doc__")) (Value.str (Str.ofString "__doc__") 166) Value.none), (DictEntry.mk (PyData.keyHash P (Str.ofString "__package__")) (Value.str (Str.ofString "__package__") 167) Value.none), (DictEntry.mk (PyData.keyHash P (Str.ofString "__loader__")) (Value.str (Str.ofString "__loader__") 168) (Value.builtin "__main__.__loader__#opaque")), (DictEntry.mk (PyData.keyHash P (Str.ofString "__spec__")) (Value.str (Str.ofString "__spec__") 169) Value.none), (DictEntry.mk (PyData.keyHash P (Str.ofString "__annotations__")) (Value.str (Str.ofString "__annotations__") 170) (Value.ref 6)), (DictEntry.mk (PyData.keyHash P (Str.ofString "__builtins__")) (Value.str (Str.ofString "__builtins__") 171) (Value.ref 4)), (DictEntry.mk (PyData.keyHash P (Str.ofString "__file__")) (Value.str (Str.ofString "__file__") 173) (Value.str (Str.ofString "/claim/cut.py") 172)), (DictEntry.mk (PyData.keyHash P (Str.ofString "__cached__")) (Value.str (Str.ofString "__cached__") 174) Value.none), (DictEntry.mk (PyData.keyHash P (Str.ofString "_sre")) (Value.str (Str.ofString "_sre") 275) (Value.ref 12)), (DictEntry.mk (PyData.keyHash P (Str.ofString "_wall")) (Value.str (Str.ofString "_wall") 288) (Value.ref 38)), (DictEntry.mk (PyData.keyHash P (Str.ofString "_name_disallowed_re")) (Value.str (Str.ofString "_name_disallowed_re") 316) (Value.ref 43)), (DictEntry.mk (PyData.keyHash P (Str.ofString "_value_disallowed_re")) (Value.str (Str.ofString "_value_disallowed_re") 350) (Value.ref 48)), (DictEntry.mk (PyData.keyHash P (Str.ofString "Headers")) (Value.str (Str.ofString "Headers") 506) (Value.ref 171)), (DictEntry.mk (PyData.keyHash P (Str.ofString "Error")) (Value.str (Str.ofString "Error") 528) (Value.ref 185)), (DictEntry.mk (PyData.keyHash P (Str.ofString "error_reply")) (Value.str (Str.ofString "error_reply") 544) (Value.ref 198)), (DictEntry.mk (PyData.keyHash P (Str.ofString "parse257")) (Value.str (Str.ofString "parse257") 555) (Value.ref 207))] 17) #[])) :: ((nat_lit 29), (Obj.mk Value.none Option.none (Data.fields #[(Value.int (2 : Int) 0), (Value.int (0 : Int) 0), (Value.ref 37), (Value.int (8 : Int) 0), (Value.int (0 : Int) 0), (Value.ref 54), (Value.int (79 : Int) 0), (Value.int (0 : Int) 0), (Value.ref 181), (Value.int (81 : Int) 0), (Value.int (0 : Int) 0), (Value.ref 194), (Value.int (83 : Int) 0), (Value.int (0 : Int) 0), (Value.ref 206)]) #[])) :: [])
noncomputable def hdS3 (P : PySem.Params) (os : OsState) : SharedT := ⟨treeO 10 (hdL3 P), 208, hdLife, #[], hdDrawn, 558, os⟩
noncomputable def hdL4 (P : PySem.Params) : List Obj := patO 286 0 (hdObjs P) (((nat_lit 3), (Obj.mk (Value.type "dict") Option.none (Data.dict #[(DictEntry.mk (PyData.keyHash P (Str.ofString "__name__")) (Value.str (Str.ofString "__name__") 165) (Value.str (Str.ofString "cpy313.xml.etree.ElementTree") 556)), (DictEntry.mk (PyData.keyHash P (Str.ofString "__doc__")) (Value.str (Str.ofString "__doc__") 166) Value.none), (DictEntry.mk (PyData.keyHash P (Str.ofString "__package__")) (Value.str (Str.ofString "__package__") 167) Value.none), (DictEntry.mk (PyData.keyHash P (Str.ofString "__loader__")) (Value.str (Str.ofString "__loader__") 168) (Value.builtin "__main__.__loader__#opaque")), (DictEntry.mk (PyData.keyHash P (Str.ofString "__spec__")) (Value.str (Str.ofString "__spec__") 169) Value.none), (DictEntry.mk (PyData.keyHash P (Str.ofString "__annotations__")) (Value.str (Str.ofString "__annotations__") 170) (Value.ref 6)), (DictEntry.mk (PyData.keyHash P (Str.ofString "__builtins__")) (Value.str (Str.ofString "__builtins__") 171) (Value.ref 4)), (DictEntry.mk (PyData.keyHash P (Str.ofString "__file__")) (Value.str (Str.ofString "__file__") 173) (Value.str (Str.ofString "/claim/cut.py") 172)), (DictEntry.mk (PyData.keyHash P (Str.ofString "__cached__")) (Value.str (Str.ofString "__cached__") 174) Value.none), (DictEntry.mk (PyData.keyHash P (Str.ofString "_sre")) (Value.str (Str.ofString "_sre") 275) (Value.ref 12)), (DictEntry.mk (PyData.keyHash P (Str.ofString "_wall")) (Value.str (Str.ofString "_wall") 288) (Value.ref 38)), (DictEntry.mk (PyData.keyHash P (Str.ofString "_name_disallowed_re")) (Value.str (Str.ofString "_name_disallowed_re") 316) (Value.ref 43)), (DictEntry.mk (PyData.keyHash P (Str.ofString "_value_disallowed_re")) (Value.str (Str.ofString "_value_disallowed_re") 350) (Value.ref 48)), (DictEntry.mk (PyData.keyHash P (Str.ofString "Headers")) (Value.str (Str.ofString "Headers") 506) (Value.ref 171)), (DictEntry.mk (PyData.keyHash P (Str.ofString "Error")) (Value.str (Str.ofString "Error") 528) (Value.ref 185)), (DictEntry.mk (PyData.keyHash P (Str.ofString "error_reply")) (Value.str (Str.ofString "error_reply") 544) (Value.ref 198)), (DictEntry.mk (PyData.keyHash P (Str.ofString "parse257")) (Value.str (Str.ofString "parse257") 555) (Value.ref 207)), (DictEntry.mk (PyData.keyHash P (Str.ofString "QName")) (Value.str (Str.ofString "QName") 648) (Value.ref 281))] 18) #[])) :: ((nat_lit 29), (Obj.mk Value.none Option.none (Data.fields #[(Value.int (2 : Int) 0), (Value.int (0 : Int) 0), (Value.ref 37), (Value.int (8 : Int) 0), (Value.int (0 : Int) 0), (Value.ref 54), (Value.int (79 : Int) 0), (Value.int (0 : Int) 0), (Value.ref 181), (Value.int (81 : Int) 0), (Value.int (0 : Int) 0), (Value.ref 194), (Value.int (83 : Int) 0), (Value.int (0 : Int) 0), (Value.ref 206), (Value.int (101 : Int) 0), (Value.int (0 : Int) 0), (Value.ref 213)]) #[])) :: [])
noncomputable def hdS4 (P : PySem.Params) (os : OsState) : SharedT := ⟨treeO 10 (hdL4 P), 286, hdLife, #[], hdDrawn, 649, os⟩
noncomputable def hdL5 (P : PySem.Params) : List Obj := patO 349 0 (hdObjs P) (((nat_lit 3), (Obj.mk (Value.type "dict") Option.none (Data.dict #[(DictEntry.mk (PyData.keyHash P (Str.ofString "__name__")) (Value.str (Str.ofString "__name__") 165) (Value.str (Str.ofString "law_xn0027_01") 691)), (DictEntry.mk (PyData.keyHash P (Str.ofString "__doc__")) (Value.str (Str.ofString "__doc__") 166) Value.none), (DictEntry.mk (PyData.keyHash P (Str.ofString "__package__")) (Value.str (Str.ofString "__package__") 167) Value.none), (DictEntry.mk (PyData.keyHash P (Str.ofString "__loader__")) (Value.str (Str.ofString "__loader__") 168) (Value.builtin "__main__.__loader__#opaque")), (DictEntry.mk (PyData.keyHash P (Str.ofString "__spec__")) (Value.str (Str.ofString "__spec__") 169) Value.none), (DictEntry.mk (PyData.keyHash P (Str.ofString "__annotations__")) (Value.str (Str.ofString "__annotations__") 170) (Value.ref 6)), (DictEntry.mk (PyData.keyHash P (Str.ofString "__builtins__")) (Value.str (Str.ofString "__builtins__") 171) (Value.ref 4)), (DictEntry.mk (PyData.keyHash P (Str.ofString "__file__")) (Value.str (Str.ofString "__file__") 173) (Value.str (Str.ofString "/claim/cut.py") 172)), (DictEntry.mk (PyData.keyHash P (Str.ofString "__cached__")) (Value.str (Str.ofString "__cached__") 174) Value.none), (DictEntry.mk (PyData.keyHash P (Str.ofString "_sre")) (Value.str (Str.ofString "_sre") 275) (Value.ref 12)), (DictEntry.mk (PyData.keyHash P (Str.ofString "_wall")) (Value.str (Str.ofString "_wall") 288) (Value.ref 38)), (DictEntry.mk (PyData.keyHash P (Str.ofString "_name_disallowed_re")) (Value.str (Str.ofString "_name_disallowed_re") 316) (Value.ref 43)), (DictEntry.mk (PyData.keyHash P (Str.ofString "_value_disallowed_re")) (Value.str (Str.ofString "_value_disallowed_re") 350) (Value.ref 48)), (DictEntry.mk (PyData.keyHash P (Str.ofString "Headers")) (Value.str (Str.ofString "Headers") 506) (Value.ref 171)), (DictEntry.mk (PyData.keyHash P (Str.ofString "Error")) (Value.str (Str.ofString "Error") 528) (Value.ref 185)), (DictEntry.mk (PyData.keyHash P (Str.ofString "error_reply")) (Value.str (Str.ofString "error_reply") 544) (Value.ref 198)), (DictEntry.mk (PyData.keyHash P (Str.ofString "parse257")) (Value.str (Str.ofString "parse257") 555) (Value.ref 207)), (DictEntry.mk (PyData.keyHash P (Str.ofString "QName")) (Value.str (Str.ofString "QName") 648) (Value.ref 281)), (DictEntry.mk (PyData.keyHash P (Str.ofString "_raise_serialization_error")) (Value.str (Str.ofString "_raise_serialization_error") 655) (Value.ref 292)), (DictEntry.mk (PyData.keyHash P (Str.ofString "_escape_cdata")) (Value.str (Str.ofString "_escape_cdata") 662) (Value.ref 299)), (DictEntry.mk (PyData.keyHash P (Str.ofString "_escape_attrib")) (Value.str (Str.ofString "_escape_attrib") 669) (Value.ref 306)), (DictEntry.mk (PyData.keyHash P (Str.ofString "_escape_attrib_html")) (Value.str (Str.ofString "_escape_attrib_html") 676) (Value.ref 313)), (DictEntry.mk (PyData.keyHash P (Str.ofString "_escape_cdata_c14n")) (Value.str (Str.ofString "_escape_cdata_c14n") 683) (Value.ref 320)), (DictEntry.mk (PyData.keyHash P (Str.ofString "_escape_attrib_c14n")) (Value.str (Str.ofString "_escape_attrib_c14n") 690) (Value.ref 327)), (DictEntry.mk (PyData.keyHash P (Str.ofString "_law_reply")) (Value.str (Str.ofString "_law_reply") 703) (Value.ref 334)), (DictEntry.mk (PyData.keyHash P (Str.ofString "_law_told")) (Value.str (Str.ofString "_law_told") 711) (Value.ref 341)), (DictEntry.mk (PyData.keyHash P (Str.ofString "_law_key")) (Value.str (Str.ofString "_law_key") 719) (Value.ref 348))] 27) #[])) :: ((nat_lit 29), (Obj.mk Value.none Option.none (Data.fields #[(Value.int (2 : Int) 0), (Value.int (0 : Int) 0), (Value.ref 37), (Value.int (8 : Int) 0), (Value.int (0 : Int) 0), (Value.ref 54), (Value.int (79 : Int) 0), (Value.int (0 : Int) 0), (Value.ref 181), (Value.int (81 : Int) 0), (Value.int (0 : Int) 0), (Value.ref 194), (Value.int (83 : Int) 0), (Value.int (0 : Int) 0), (Value.ref 206), (Value.int (101 : Int) 0), (Value.int (0 : Int) 0), (Value.ref 213), (Value.int (141 : Int) 0), (Value.int (0 : Int) 0), (Value.ref 291), (Value.int (143 : Int) 0), (Value.int (0 : Int) 0), (Value.ref 298), (Value.int (154 : Int) 0), (Value.int (0 : Int) 0), (Value.ref 305), (Value.int (173 : Int) 0), (Value.int (0 : Int) 0), (Value.ref 312), (Value.int (184 : Int) 0), (Value.int (0 : Int) 0), (Value.ref 319), (Value.int (197 : Int) 0), (Value.int (0 : Int) 0), (Value.ref 326), (Value.int (215 : Int) 0), (Value.int (0 : Int) 0), (Value.ref 333), (Value.int (223 : Int) 0), (Value.int (0 : Int) 0), (Value.ref 340), (Value.int (228 : Int) 0), (Value.int (0 : Int) 0), (Value.ref 347)]) #[])) :: [])
noncomputable def hdS5 (P : PySem.Params) (os : OsState) : SharedT := ⟨treeO 10 (hdL5 P), 349, hdLife, #[], hdDrawn, 720, os⟩
noncomputable def hdL6 (P : PySem.Params) : List Obj := patO 422 0 (hdObjs P) ([])
noncomputable def hdS6 (P : PySem.Params) (os : OsState) : SharedT := ⟨treeO 10 (hdL6 P), 422, hdLife, #[], hdDrawn, 832, os⟩
noncomputable def hdB (P : PySem.Params) : Heap := ⟨⟨patO 28 0 (hdObjs P) (((nat_lit 2), (Obj.mk Value.none Option.none (Data.dict #[(DictEntry.mk (PyData.keyHash P (Str.ofString "\x69mport.loaded._sre")) (Value.str (Str.ofString "\x69mport.loaded._sre") 183) (Value.bool true)), (DictEntry.mk (PyData.keyHash P (Str.ofString "class._frozen_\x69mportlib.BuiltinImporter")) (Value.str (Str.ofString "class._frozen_\x69mportlib.BuiltinImporter") 185) (Value.ref 14)), (DictEntry.mk (PyData.keyHash P (Str.ofString "watched.\x69mport")) (Value.str (Str.ofString "watched.\x69mport") 206) (Value.ref 18)), (DictEntry.mk (PyData.keyHash P (Str.ofString "class._frozen_\x69mportlib.ModuleSpec")) (Value.str (Str.ofString "class._frozen_\x69mportlib.ModuleSpec") 216) (Value.ref 22)), (DictEntry.mk (PyData.keyHash P (Str.ofString "sys.modules.booked-epoch")) (Value.str (Str.ofString "sys.modules.booked-epoch") 245) (Value.int (3 : Int) 0)), (DictEntry.mk (PyData.keyHash P (Str.ofString "\x69mport.later-laid._sre")) (Value.str (Str.ofString "\x69mport.later-laid._sre") 270) (Value.bool true)), (DictEntry.mk (PyData.keyHash P (Str.ofString "watched.library")) (Value.str (Str.ofString "watched.library") 272) (Value.ref 27)), (DictEntry.mk (PyData.keyHash P (Str.ofString "watched.library-objects")) (Value.str (Str.ofString "watched.library-objects") 0) (Value.str (Str.ofString "\x0c") 0)), (DictEntry.mk (PyData.keyHash P (Str.ofString "watched.library-deep._sre")) (Value.str (Str.ofString "watched.library-deep._sre") 273) (Value.str (Str.ofString "\x04\x00\x00\x0b\x04\x00\x00\x0b\x04\x00\x00\x03\x04\x00\x00\x0b\x08\x04dict\x02") 0))] 9) #[])) :: ((nat_lit 3), (Obj.mk (Value.type "dict") Option.none (Data.dict #[(DictEntry.mk (PyData.keyHash P (Str.ofString "__name__")) (Value.str (Str.ofString "__name__") 165) (Value.str (Str.ofString "__main__") 164)), (DictEntry.mk (PyData.keyHash P (Str.ofString "__doc__")) (Value.str (Str.ofString "__doc__") 166) Value.none), (DictEntry.mk (PyData.keyHash P (Str.ofString "__package__")) (Value.str (Str.ofString "__package__") 167) Value.none), (DictEntry.mk (PyData.keyHash P (Str.ofString "__loader__")) (Value.str (Str.ofString "__loader__") 168) (Value.builtin "__main__.__loader__#opaque")), (DictEntry.mk (PyData.keyHash P (Str.ofString "__spec__")) (Value.str (Str.ofString "__spec__") 169) Value.none), (DictEntry.mk (PyData.keyHash P (Str.ofString "__annotations__")) (Value.str (Str.ofString "__annotations__") 170) (Value.ref 6)), (DictEntry.mk (PyData.keyHash P (Str.ofString "__builtins__")) (Value.str (Str.ofString "__builtins__") 171) (Value.ref 4)), (DictEntry.mk (PyData.keyHash P (Str.ofString "__file__")) (Value.str (Str.ofString "__file__") 173) (Value.str (Str.ofString "/claim/cut.py") 172)), (DictEntry.mk (PyData.keyHash P (Str.ofString "__cached__")) (Value.str (Str.ofString "__cached__") 174) Value.none), (DictEntry.mk (PyData.keyHash P (Str.ofString "_sre")) (Value.str (Str.ofString "_sre") 275) (Value.ref 12))] 10) #[])) :: [])⟩, (Life.mk [] [] [] 0 [] [] false #[] [] 0 false false false (0 : Int) [(2000 : Int), (10 : Int), (10 : Int)] false 0 true [] [] 0 false)⟩
noncomputable def hdE (P : PySem.Params) : Heap := ⟨⟨patO 28 0 (hdObjs P) (((nat_lit 2), (Obj.mk Value.none Option.none (Data.dict #[(DictEntry.mk (PyData.keyHash P (Str.ofString "\x69mport.loaded._sre")) (Value.str (Str.ofString "\x69mport.loaded._sre") 183) (Value.bool true)), (DictEntry.mk (PyData.keyHash P (Str.ofString "class._frozen_\x69mportlib.BuiltinImporter")) (Value.str (Str.ofString "class._frozen_\x69mportlib.BuiltinImporter") 185) (Value.ref 14)), (DictEntry.mk (PyData.keyHash P (Str.ofString "watched.\x69mport")) (Value.str (Str.ofString "watched.\x69mport") 206) (Value.ref 18)), (DictEntry.mk (PyData.keyHash P (Str.ofString "class._frozen_\x69mportlib.ModuleSpec")) (Value.str (Str.ofString "class._frozen_\x69mportlib.ModuleSpec") 216) (Value.ref 22)), (DictEntry.mk (PyData.keyHash P (Str.ofString "sys.modules.booked-epoch")) (Value.str (Str.ofString "sys.modules.booked-epoch") 245) (Value.int (3 : Int) 0)), (DictEntry.mk (PyData.keyHash P (Str.ofString "\x69mport.later-laid._sre")) (Value.str (Str.ofString "\x69mport.later-laid._sre") 270) (Value.bool true)), (DictEntry.mk (PyData.keyHash P (Str.ofString "watched.library")) (Value.str (Str.ofString "watched.library") 272) (Value.ref 27)), (DictEntry.mk (PyData.keyHash P (Str.ofString "watched.library-objects")) (Value.str (Str.ofString "watched.library-objects") 0) (Value.str (Str.ofString "\x0c") 0)), (DictEntry.mk (PyData.keyHash P (Str.ofString "watched.library-deep._sre")) (Value.str (Str.ofString "watched.library-deep._sre") 273) (Value.str (Str.ofString "\x04\x00\x00\x0b\x04\x00\x00\x0b\x04\x00\x00\x03\x04\x00\x00\x0b\x08\x04dict\x02") 0))] 9) #[])) :: ((nat_lit 3), (Obj.mk (Value.type "dict") Option.none (Data.dict #[(DictEntry.mk (PyData.keyHash P (Str.ofString "__name__")) (Value.str (Str.ofString "__name__") 165) (Value.str (Str.ofString "__main__") 164)), (DictEntry.mk (PyData.keyHash P (Str.ofString "__doc__")) (Value.str (Str.ofString "__doc__") 166) Value.none), (DictEntry.mk (PyData.keyHash P (Str.ofString "__package__")) (Value.str (Str.ofString "__package__") 167) Value.none), (DictEntry.mk (PyData.keyHash P (Str.ofString "__loader__")) (Value.str (Str.ofString "__loader__") 168) (Value.builtin "__main__.__loader__#opaque")), (DictEntry.mk (PyData.keyHash P (Str.ofString "__spec__")) (Value.str (Str.ofString "__spec__") 169) Value.none), (DictEntry.mk (PyData.keyHash P (Str.ofString "__annotations__")) (Value.str (Str.ofString "__annotations__") 170) (Value.ref 6)), (DictEntry.mk (PyData.keyHash P (Str.ofString "__builtins__")) (Value.str (Str.ofString "__builtins__") 171) (Value.ref 4)), (DictEntry.mk (PyData.keyHash P (Str.ofString "__file__")) (Value.str (Str.ofString "__file__") 173) (Value.str (Str.ofString "/claim/cut.py") 172)), (DictEntry.mk (PyData.keyHash P (Str.ofString "__cached__")) (Value.str (Str.ofString "__cached__") 174) Value.none), (DictEntry.mk (PyData.keyHash P (Str.ofString "_sre")) (Value.str (Str.ofString "_sre") 275) (Value.ref 12))] 10) #[])) :: ((nat_lit 11), (Obj.mk (Value.type "dict") Option.none (Data.dict #[(DictEntry.mk (PyData.keyHash P (Str.ofString "__name__")) (Value.str (Str.ofString "__name__") 247) (Value.str (Str.ofString "_sre") 246)), (DictEntry.mk (PyData.keyHash P (Str.ofString "__doc__")) (Value.str (Str.ofString "__doc__") 248) Value.none), (DictEntry.mk (PyData.keyHash P (Str.ofString "__package__")) (Value.str (Str.ofString "__package__") 250) (Value.str (Str.ofString "") 249)), (DictEntry.mk (PyData.keyHash P (Str.ofString "__loader__")) (Value.str (Str.ofString "__loader__") 251) (Value.ref 14)), (DictEntry.mk (PyData.keyHash P (Str.ofString "__spec__")) (Value.str (Str.ofString "__spec__") 252) (Value.ref 26)), (DictEntry.mk (PyData.keyHash P (Str.ofString "compile")) (Value.str (Str.ofString "compile") 253) (Value.builtin "_sre.compile")), (DictEntry.mk (PyData.keyHash P (Str.ofString "template")) (Value.str (Str.ofString "template") 254) (Value.builtin "_sre.template")), (DictEntry.mk (PyData.keyHash P (Str.ofString "getcodesize")) (Value.str (Str.ofString "getcodesize") 255) (Value.builtin "_sre.getcodesize")), (DictEntry.mk (PyData.keyHash P (Str.ofString "ascii_iscased")) (Value.str (Str.ofString "ascii_iscased") 256) (Value.builtin "_sre.ascii_iscased")), (DictEntry.mk (PyData.keyHash P (Str.ofString "unicode_iscased")) (Value.str (Str.ofString "unicode_iscased") 257) (Value.builtin "_sre.unicode_iscased")), (DictEntry.mk (PyData.keyHash P (Str.ofString "ascii_tolower")) (Value.str (Str.ofString "ascii_tolower") 258) (Value.builtin "_sre.ascii_tolower")), (DictEntry.mk (PyData.keyHash P (Str.ofString "unicode_tolower")) (Value.str (Str.ofString "unicode_tolower") 259) (Value.builtin "_sre.unicode_tolower")), (DictEntry.mk (PyData.keyHash P (Str.ofString "MAGIC")) (Value.str (Str.ofString "MAGIC") 261) (Value.int (20230612 : Int) 260)), (DictEntry.mk (PyData.keyHash P (Str.ofString "CODESIZE")) (Value.str (Str.ofString "CODESIZE") 263) (Value.int (4 : Int) 262)), (DictEntry.mk (PyData.keyHash P (Str.ofString "MAXREPEAT")) (Value.str (Str.ofString "MAXREPEAT") 265) (Value.int (4294967295 : Int) 264)), (DictEntry.mk (PyData.keyHash P (Str.ofString "MAXGROUPS")) (Value.str (Str.ofString "MAXGROUPS") 267) (Value.int (1073741823 : Int) 266)), (DictEntry.mk (PyData.keyHash P (Str.ofString "copyright")) (Value.str (Str.ofString "copyright") 269) (Value.str (Str.ofString " SRE 2.2.2 Copyright (c) 1997-2002 by Secret Labs AB ") 268))] 17) #[])) :: [])⟩, (Life.mk [] [] [] 0 [] [] false #[] [] 0 false false false (0 : Int) [(2000 : Int), (10 : Int), (10 : Int)] false 0 true [] [] 0 false)⟩
noncomputable def hdA (P : PySem.Params) (os : OsState) : Shared := ⟨⟨⟨hdL0 P⟩, hdLife⟩, #[], hdDrawn, 282, os⟩
set_option maxHeartbeats 8000000 in
theorem hd_pre (w : World) (os : OsState) : topGo treeTable PySem.Challenge.pw_xn0027_01 w 28 hdAnn 12 ⟨hdB w.params, #[], hdDrawn, hdToks, os⟩ (topStub PySem.Challenge.pw_xn0027_01) = some (hdA w.params os, ⟨denote treeTable hdCode, hdCode, (Pos.mk 0 0 0 0), [topFrame hdQ]⟩) := by
  simp only [PySem.W.Fast.te15667345088766844465, PySem.W.Fast.te14364793385576792824, PySem.W.Fast.te11892475500146522536]
  kernel_rfl
theorem hd_block (w : World) (os : OsState) : segRun treeTable PySem.Challenge.pw_xn0027_01 w 28 hdAnn 1 1 (hdA w.params os) (blockOf hdBody hdEnv hdCode (Pos.mk 0 0 0 0) [topFrame hdQ]) = some (.next, (hdS0 w.params os).abs, hdCode, (Pos.mk 0 0 0 0)) := by
  simp only [PySem.W.Fast.te14374325043358763698, PySem.W.Fast.te14364793385576792824]
  kernel_rfl
noncomputable def hdG1 : List Stmt := (hdBody.drop 0).take 4
set_option maxHeartbeats 8000000 in
theorem hd_p1 (w : World) (os : OsState) : segRunT treeTable PySem.Challenge.pw_xn0027_01 w 28 hdAnn 1 185 (hdS0 w.params os) (piecesOf hdG1 hdEnv hdCode (Pos.mk 0 0 0 0) [topFrame hdQ]) = some (.next, hdS1 w.params os, hdCode, (Pos.mk 7 0 7 20)) := by
  simp only [PySem.W.Fast.te10110043849684766642, PySem.W.Fast.te14364793385576792824, PySem.W.Fast.te12563942051412417395]
  kernel_rfl
noncomputable def hdG2 : List Stmt := (hdBody.drop 4).take 1
set_option maxHeartbeats 8000000 in
theorem hd_p2 (w : World) (os : OsState) : segRunT treeTable PySem.Challenge.pw_xn0027_01 w 28 hdAnn 1 728 (hdS1 w.params os) (piecesOf hdG2 hdEnv hdCode (Pos.mk 7 0 7 20) [topFrame hdQ]) = some (.next, hdS2 w.params os, hdCode, (Pos.mk 8 0 77 16)) := by
  simp only [PySem.W.Fast.te10110043849684766642, PySem.W.Fast.te14364793385576792824, PySem.W.Fast.te12563942051412417395]
  kernel_rfl
noncomputable def hdG3 : List Stmt := (hdBody.drop 5).take 5
set_option maxHeartbeats 8000000 in
theorem hd_p3 (w : World) (os : OsState) : segRunT treeTable PySem.Challenge.pw_xn0027_01 w 28 hdAnn 1 461 (hdS2 w.params os) (piecesOf hdG3 hdEnv hdCode (Pos.mk 8 0 77 16) [topFrame hdQ]) = some (.next, hdS3 w.params os, hdCode, (Pos.mk 100 0 100 8)) := by
  simp only [PySem.W.Fast.te10110043849684766642, PySem.W.Fast.te14364793385576792824, PySem.W.Fast.te12563942051412417395]
  kernel_rfl
noncomputable def hdG4 : List Stmt := (hdBody.drop 10).take 1
set_option maxHeartbeats 8000000 in
theorem hd_p4 (w : World) (os : OsState) : segRunT treeTable PySem.Challenge.pw_xn0027_01 w 28 hdAnn 1 479 (hdS3 w.params os) (piecesOf hdG4 hdEnv hdCode (Pos.mk 100 0 100 8) [topFrame hdQ]) = some (.next, hdS4 w.params os, hdCode, (Pos.mk 101 0 140 33)) := by
  simp only [PySem.W.Fast.te10110043849684766642, PySem.W.Fast.te14364793385576792824, PySem.W.Fast.te12563942051412417395]
  kernel_rfl
noncomputable def hdG5 : List Stmt := (hdBody.drop 11).take 10
set_option maxHeartbeats 8000000 in
theorem hd_p5 (w : World) (os : OsState) : segRunT treeTable PySem.Challenge.pw_xn0027_01 w 28 hdAnn 1 277 (hdS4 w.params os) (piecesOf hdG5 hdEnv hdCode (Pos.mk 101 0 140 33) [topFrame hdQ]) = some (.next, hdS5 w.params os, hdCode, (Pos.mk 228 0 232 43)) := by
  simp only [PySem.W.Fast.te10110043849684766642, PySem.W.Fast.te14364793385576792824, PySem.W.Fast.te12563942051412417395]
  kernel_rfl
noncomputable def hdG6 : List Stmt := (hdBody.drop 21).take 11
set_option maxHeartbeats 8000000 in
theorem hd_p6 (w : World) (os : OsState) : segRunT treeTable PySem.Challenge.pw_xn0027_01 w 28 hdAnn 1 351 (hdS5 w.params os) (piecesOf hdG6 hdEnv hdCode (Pos.mk 228 0 232 43) [topFrame hdQ]) = some (.next, hdS6 w.params os, hdCode, (Pos.mk 310 0 339 89)) := by
  simp only [PySem.W.Fast.te10110043849684766642, PySem.W.Fast.te14364793385576792824, PySem.W.Fast.te12563942051412417395]
  kernel_rfl
theorem hd_fin (w : World) (os : OsState) : topRun treeTable PySem.Challenge.pw_xn0027_01 w 28 hdAnn 2 (hdS6 w.params os).abs ⟨doneF .next, hdCode, (Pos.mk 310 0 339 89), [topFrame hdQ]⟩ = some ⟨hdH w.params, #[], hdDrawn, 832, os⟩ := by
  simp only [PySem.W.Fast.te14082659384304107361, PySem.W.Fast.te14364793385576792824]
  kernel_rfl
theorem hd_body : hdG1 ++ (hdG2 ++ (hdG3 ++ (hdG4 ++ (hdG5 ++ (hdG6 ++ []))))) = hdBody := by kernel_rfl
theorem rest_eq {tb : String → Option Builtin} {p : Program} {w : World} {n₀ : Nat} {ann : Option Value} {N : Nat} {s r : Shared} {l l' : List Stmt} {env : Env} {c : Code} {pos : Pos} {B : List Frame} (e : l = l') (k : topRun tb p w n₀ ann N s (restOf l env c pos B) = some r) : topRun tb p w n₀ ann N s (restOf l' env c pos B) = some r := by
  subst e; exact k
theorem hd_run (w : World) (os : OsState) : topRun treeTable PySem.Challenge.pw_xn0027_01 w 28 hdAnn (12 + (1 + (185 + (728 + (461 + (479 + (277 + (351 + 2)))))))) ⟨hdB w.params, #[], hdDrawn, hdToks, os⟩ (topStub PySem.Challenge.pw_xn0027_01) = some ⟨hdH w.params, #[], hdDrawn, 832, os⟩ :=
  go_top (hd_pre w os) (piece_block (hd_block w os) (rest_eq hd_body (piece_app (segRun_of (hd_p1 w os)) (piece_app (segRun_of (hd_p2 w os)) (piece_app (segRun_of (hd_p3 w os)) (piece_app (segRun_of (hd_p4 w os)) (piece_app (segRun_of (hd_p5 w os)) (piece_app (segRun_of (hd_p6 w os)) (piece_nil (hd_fin w os))))))))))
set_option maxHeartbeats 8000000 in
theorem hd_imp (w : World) : importEnds treeTable (opening PySem.Challenge.pw_xn0027_01) w 800 (start (opening PySem.Challenge.pw_xn0027_01)).1 (start (opening PySem.Challenge.pw_xn0027_01)).2 = some ⟨hdE w.params, #[], hdDrawn, hdToks, (start (opening PySem.Challenge.pw_xn0027_01)).1.os⟩ := by
  simp only [PySem.W.Fast.te10274390034422433532, PySem.W.Fast.te1435165496053646825, PySem.W.Fast.te14364793385576792824]
  kernel_rfl
theorem hd_fence (w : World) : (fun os => (fenceModules? PySem.Challenge.pw_xn0027_01 ⟨hdE w.params, #[], hdDrawn, hdToks, os⟩).map (fun s => (s.heap, s.gens, s.drawn, s.toks))) = fun _ => some (hdB w.params, #[], hdDrawn, hdToks) := by
  simp only [PySem.W.Fast.te14289696077712309145]
  kernel_rfl
theorem hd_open : ∀ w : World, (fencedOpening treeTable PySem.Challenge.pw_xn0027_01 w 5076).map (fun s => (s.heap, s.gens, s.drawn, s.toks)) = some (hdB w.params, #[], hdDrawn, hdToks) :=
  open_cut hd_imp (by decide) hd_fence
theorem hd_size (w : World) : ((hdB w.params).isNs mainGlobals && (#[] : Array GenState).size == 0, (hdB w.params).objs.size, (hdB w.params).nsMap mainGlobals "__annotations__") = (true, 28, hdAnn) := by
  simp only [PySem.W.Fast.te8920871248978507458]
  kernel_rfl
theorem looks3 {α β γ : Type} {a a' : α} {b b' : β} {c c' : γ} (x : a = a') (y : b = b') (z : c = c') : (a, b, c) = (a', b', c') := by rw [x, y, z]
noncomputable abbrev hdEnd (w : World) (os : OsState) : Shared := ⟨hdH w.params, #[], hdDrawn, 832, os⟩
set_option maxHeartbeats 8000000 in
theorem hd_look1 (w : World) (os : OsState) : (staticsOk (importedModules PySem.Challenge.pw_xn0027_01.main.body) (hdB w.params) (hdH w.params) && namesBound PySem.Challenge.pw_xn0027_01 (hdH w.params) && gensDone (hdEnd w os) && laidKept (hdB w.params) (hdH w.params)) = true := by
  simp only [PySem.W.Fast.te5923862056798008813]
  kernel_rfl
set_option maxHeartbeats 8000000 in
theorem hd_look2 (w : World) (os : OsState) : openSeen hd.view_39 hdLoose (importedModules PySem.Challenge.pw_xn0027_01.main.body) (fun s => xlAt hd.view_39 [] s && recOk (RowW.records PySem.Challenge.rw_xn0027_01.row.toRowW) s) true (hdEnd w os) = openGood hd.view_39 hdLoose := by
  simp only [PySem.W.Fast.te4187177175401517315, PySem.W.Fast.te5923862056798008813]
  kernel_rfl
set_option maxHeartbeats 8000000 in
theorem hd_look3 (w : World) (os : OsState) : Hook.obs (kHook hd.heap_39 hdAt hdAt_eq) (hdEnd w os) = Hook.val (kHook hd.heap_39 hdAt hdAt_eq) w := by
  kernel_rfl
theorem hd_left : LeftO PySem.Challenge.rw_xn0027_01.row.toRowW.prog hd.view_39 hdLoose (fun s => xlAt hd.view_39 [] s && recOk (RowW.records PySem.Challenge.rw_xn0027_01.row.toRowW) s) (Hook.obs (kHook hd.heap_39 hdAt hdAt_eq)) (Hook.val (kHook hd.heap_39 hdAt hdAt_eq)) 5076 :=
  LeftO.of_pieces (p := PySem.Challenge.pw_xn0027_01) (g0 := true) hd_open hd_size hd_run (by decide) fun w => funext fun os => looks3 (hd_look1 w os) (hd_look2 w os) (hd_look3 w os)
set_option maxHeartbeats 8000000 in
theorem hd_said : PySem.Challenge.rw_xn0027_01.wellSaid = true := by
  unfold OpenLaw.wellSaid OpenRow.wellSaid OpenRow.partSaid looksOpen
  repeat' with_reducible apply look_both
  all_goals decide +kernel
theorem hd_def : defOf hd.view_39 PySem.Challenge.rw_xn0027_01.row.name = some (lawDef, []) := by rfl
theorem hd_p : PySem.Challenge.rw_xn0027_01.row.prog.theDef PySem.Challenge.rw_xn0027_01.row.name = some (lawDef.params, lawDef.body, lawDef.scope) := by rfl
theorem hd_bare : PySem.Challenge.rw_xn0027_01.row.prog.bare := ⟨rfl, rfl, rfl, rfl, rfl, by decide +kernel⟩
theorem hd_wit : PySem.Challenge.rw_xn0027_01.row.toRowW.promised := by w_witness2
theorem hd (walk : WalkO hd.view_39 hdLoose (XL hd.view_39 []) (kHook hd.heap_39 hdAt hdAt_eq).says PySem.Challenge.rw_xn0027_01.row.toRowW lawDef [] fun f vs => PySem.call f vs) : PySem.Challenge.rw_xn0027_01.Holds :=
  holds_law hd_said fun said =>
  holds_open (q := hd.view_39) (loose := hdLoose) (Xt := fun s => xlAt hd.view_39 [] s && recOk (RowW.records PySem.Challenge.rw_xn0027_01.row.toRowW) s) (XP := XL hd.view_39 []) (Yf := Hook.obs (kHook hd.heap_39 hdAt hdAt_eq)) (Ya := Hook.val (kHook hd.heap_39 hdAt hdAt_eq)) (YP := Hook.says (kHook hd.heap_39 hdAt hdAt_eq)) (N := 5076) hd_left (Hook.of (kHook hd.heap_39 hdAt hdAt_eq)) (Hook.keeps (kHook hd.heap_39 hdAt hdAt_eq)) (fun s e => xl_of s (Bool.and_eq_true_iff.mp e).1) XL.keeps hd_def hd_p (by rfl) (fun s e => recFacts_of (Bool.and_eq_true_iff.mp e).2) (by rfl) said (by decide +kernel) hd_bare hd_wit walk
end
section
open PySem.Builtin PySem.Builtin.Re
theorem plainAttrs_pat : PlainAttrs "re.Pattern" :=
  ⟨⟨"object.__getattribute__", by rw [typeLookup_type, builtinLookup_eq_fast]; kernel_rfl, by decide +kernel⟩, by rw [typeLookup_type, builtinLookup_eq_fast]; kernel_rfl⟩
theorem slot_pat_search : Slot "re.Pattern" "search" "re.Pattern.search" :=
  .of (owner := "re.Pattern") (n := "search") (by rw [typeLookup_type, builtinLookup_eq_fast]; kernel_rfl) (by decide +kernel) (by decide +kernel) (by decide +kernel)
    (by first | exact .inl (by decide +kernel) | exact .inr (by decide +kernel)) (by rw [isSubtype_type]; kernel_rfl)
theorem type_pat_search : typeOf (.builtin "re.Pattern.search") = pure (.type "method_descriptor") := by show builtinType _ = _; rw [builtinType_eq_fast]; kernel_rfl
theorem entry_pat_search : entryFor table "re.Pattern.search" = some Builtin.«re.Pattern.search» := entryFor_of_tree (by kernel_rfl)
theorem owner_pat : Manifest.owners.lookup (String.ofList ['n','r','e','t','t','a','P','.','e','r'].reverse) = some Manifest.sig_re_Pattern := by kernel_rfl
theorem args_pat_search (a b : Value) : argsOk "re.Pattern.search" ⟨[a, b], []⟩ := by
  unfold argsOk; rw [signature?_of (id := "re.Pattern.search") (n := ['h','c','r','a','e','s']) (o := ['n','r','e','t','t','a','P','.','e','r']) (by kernel_rfl) owner_pat]; kernel_rfl
noncomputable def nameCode : Array Nat := #[14, 10, 4, 1, 1, 22, 0, 31, 16, 127, 0, 13, 7, 22, 0, 31, 16, 127, 0, 1]
noncomputable def valueCode : Array Nat := #[14, 14, 4, 1, 1, 9, 4294966783, 0, 0, 2147483648, 0, 0, 0, 0, 0, 13, 11, 9, 4294966783, 0, 0, 2147483648, 0, 0, 0, 0, 0, 1]
/-- no control sign, and plain ascii -/
noncomputable def Clean (x : Str) : Prop := ∀ c ∈ x.cps.toList, 32 ≤ c ∧ c < 127
theorem set_name (c : Nat) (hc : 32 ≤ c ∧ c < 127) (seen : Sre.Seen) : ∃ seen', Sre.inSet nameCode c nameCode.size 5 true seen = .ok (false, seen') := by
  refine ⟨((seen.add 22).add 16).add 0, ?_⟩
  have h1 : (decide (31 ≥ c)) = false := by simp; (first | lia | omega)
  have h2 : (c == 127) = false := by simp; (first | lia | omega)
  show Sre.inSet nameCode c 20 5 true seen = _
  rw [Sre.inSet]
  simp [nameCode, Sre.ops]
  rw [if_neg (by (first | lia | omega))]
  rw [Sre.inSet]
  simp [Sre.ops]
  rw [if_neg (by (first | lia | omega))]
  rw [Sre.inSet]
  simp [Sre.ops]
theorem bits_value : ∀ c, c < 127 → 32 ≤ c → (valueCode.getD (5 + (1 + c / 32)) 0).testBit (c % 32) = false := by
  intro c h1 h2
  have : ∀ c : Fin 127, 32 ≤ c.val → (valueCode.getD (5 + (1 + c.val / 32)) 0).testBit (c.val % 32) = false := by decide +kernel
  exact this ⟨c, h1⟩ h2
theorem set_value (c : Nat) (hc : 32 ≤ c ∧ c < 127) (seen : Sre.Seen) : ∃ seen', Sre.inSet valueCode c valueCode.size 5 true seen = .ok (false, seen') := by
  refine ⟨(seen.add 9).add 0, ?_⟩
  have hb := bits_value c hc.2 hc.1
  show Sre.inSet valueCode c 28 5 true seen = _
  rw [Sre.inSet]
  have e1 : valueCode.getD (5 + 0) 0 = 9 := rfl
  have e2 : Sre.ops[(9 : Nat)]? = some Sre.Op.CHARSET := rfl
  simp only [e1, e2, hb, Bool.and_false, Bool.false_eq_true, if_false]
  rw [Sre.inSet]
  have e3 : valueCode.getD (5 + 9 + 0) 0 = 0 := rfl
  have e4 : Sre.ops[(0 : Nat)]? = some Sre.Op.FAILURE := rfl
  simp only [e3, e4]
  rfl
/-- a code whose first set refuses each sign of the text -/
noncomputable def Refuses (code : Array Nat) (text : Array Nat) : Prop := ∀ c ∈ text.toList, ∀ seen, ∃ seen', Sre.inSet code c code.size 5 true seen = .ok (false, seen')
theorem admitted_none (m : Sre.M) (h : Refuses m.code m.text) (hl : m.lim ≤ m.text.size) : ∀ (fuel s : Nat) (seen : Sre.Seen), ∃ seen', Sre.M.admitted m fuel s seen = .ok (none, seen') := by
  intro fuel
  induction fuel with
  | zero => intro s seen; exact ⟨seen, rfl⟩
  | succ n ih =>
    intro s seen
    rw [Sre.M.admitted]
    by_cases hs : s ≥ m.lim
    · exact ⟨seen, by rw [if_pos hs]⟩
    · rw [if_neg hs]
      have hlt : s < m.text.size := by (first | lia | omega)
      have hm : m.text.getD s 0 ∈ m.text.toList := by
        rw [Array.getD_eq_getD_getElem?, Array.getElem?_eq_getElem hlt]
        simp
      obtain ⟨seen', e⟩ := h _ hm seen
      rw [e]
      exact ih (s + 1) seen'
theorem admitted_not {m : Sre.M} {fuel s : Nat} {seen : Sre.Seen} {r : Except String (Option Nat × Sre.Seen)} (q : Sre.M.admitted m fuel s seen = r) (h : Refuses m.code m.text) (hl : m.lim ≤ m.text.size) :
    ∃ seen', r = .ok (none, seen') := by
  obtain ⟨s', e⟩ := admitted_none m h hl fuel s seen
  exact ⟨s', q.symm.trans e⟩
theorem reDrive_one (n : Nat) (m : Sre.M) (h : (m.runFor reTurnSteps).outcome.isSome = true) : reDrive (n + 1) m = pure (m.runFor reTurnSteps) := by
  rw [reDrive]
  simp only [h, if_true]
theorem run_said (m : Sre.M) (ho : m.outcome = none) (ha : m.answer = some false) (hf : m.frames = []) : m.runFor reTurnSteps = { m with outcome := some .failed } := by
  show m.runFor 4 = _
  rw [Sre.M.runFor, ho]
  simp only [Option.isSome_none, Bool.false_eq_true, if_false]
  have e : m.step = { m with outcome := some .failed } := by
    unfold Sre.M.step
    simp only [ho, ha, hf, Option.isSome_none, Bool.false_eq_true, if_false]
  rw [e]
  rw [Sre.M.runFor]
  simp only [Option.isSome_some, if_true]
theorem search_fails (code text : Array Nat) (hcode : code = nameCode ∨ code = valueCode) (h : Refuses code text) :
    ∃ m, Sre.forSearch code text 0 0 text.size false = m ∧ m.outcome = none ∧ m.answer = some false ∧ m.frames = [] := by
  refine ⟨_, rfl, ?_⟩
  unfold Sre.forSearch
  have hh : (Sre.header code) = (1, 1 + code.getD 1 0) := by rcases hcode with rfl | rfl <;> rfl
  have hset : ∀ m : Sre.M, m.code = code → m.hasFirstSet = true := by
    intro m hm
    unfold Sre.M.hasFirstSet
    rw [hm]
    rcases hcode with rfl | rfl <;> rfl
  rw [hh]
  dsimp only
  split
  · exact ⟨rfl, rfl, rfl⟩
  · unfold Sre.M.attemptFrom
    have := hset
    rw [this _ rfl]
    simp only [Bool.not_true, Bool.false_eq_true, if_false]
    split
    · rename_i q
      obtain ⟨s', e'⟩ := admitted_not q (by exact h) (Nat.le_refl _)
      simp at e'
    · exact ⟨rfl, rfl, rfl⟩
    · rename_i q
      obtain ⟨s', e'⟩ := admitted_not q (by exact h) (Nat.le_refl _)
      simp at e'
noncomputable def patFields (f0 : Value) (f1 : Value) (l : Addr) : Array Value := #[f0, f1, .int 0 0, .none, .none, .ref l, .int 0 0]
theorem runToEnd_wp {M : Model} {A : Around} {E : Value → Shared → Prop} {s : Shared} (m : Sre.M) (ho : m.outcome = none) (ha : m.answer = some false) (hf : m.frames = []) {Q : Option Sre.M → Shared → Prop} (h : Q none s) :
    wpAny M A (reRunToEnd m) Q E s := by
  unfold reRunToEnd
  have e : reDrive (2 ^ 64) m = pure { m with outcome := some .failed } := by
    have e1 := run_said m ho ha hf
    have := reDrive_one (2 ^ 64 - 1) m (by rw [e1]; rfl)
    rw [show (2 ^ 64 - 1 + 1 : Nat) = 2 ^ 64 from by decide] at this
    rw [this, e1]
  rw [e]
  refine wpAny_bind (wpAny_pure ?_)
  refine wpAny_bind (wpAny_forIn_list _ (fun _ _ s' => s' = s) _ ?_ ?_ _ _ rfl)
  · intro x rest b s' hs'
    subst hs'
    split
    · exact wpAny_bind (wpAny_rule (wpAny_pure rfl))
    · exact wpAny_pure rfl
  · intro b s' hs'
    subst hs'
    exact wpAny_pure h
structure Pattern (h : Heap) (P : Addr) (code : Array Nat) : Prop where
  pat : ∃ o l f0 f1, h.get? P = some o ∧ o.cls = .type "re.Pattern" ∧ o.dict = none ∧ o.data = .fields (patFields f0 f1 l) ∧ ∃ ol its n, h.get? l = some ol ∧ ol.data = .seq its n ∧ (its.map reRawOf).map (·.toNat) = code
theorem meets_search {prog : Program} {w : World} (P : Addr) (x : Str) (t : Tok) (hx : x.cps.size < 1000000) :
    MeetsIn prog w (Builtin.«re.Pattern.search» ⟨[.ref P, .str x t], []⟩) (fun _ R s => ∃ code, (code = nameCode ∨ code = valueCode) ∧ Refuses code x.cps ∧ Pattern s.heap P code ∧ R (.ok (.ret .none)) s) := by
  intro A R s ⟨code, hcode, href, hP, hR⟩
  obtain ⟨o, l, f0, f1, ho, hc, hdn, hd, ol, its, n, hol, hld, hcd⟩ := hP
  have e1 : reNamed "re.Pattern.search" "search" ["string", "pos", "endpos"] 1 [Value.str x t] [] = pure [some (.str x t), none, none] := by kernel_rfl
  unfold Builtin.«re.Pattern.search» reTarget
  simp only [e1, pure_bind]
  refine wpAny_bind ?_
  refine wpAny_bind (wpAny_fieldsOf ho hd ?_)
  have e2 : reTextOf (.str x t) = pure (x.cps, 0) := rfl
  rw [e2]
  refine wpAny_bind (wpAny_pure ?_)
  have e3 : reRawNat ((patFields f0 f1 l).getD 6 .none) = 0 := rfl
  have e4 : (patFields f0 f1 l).getD 5 .none = .ref l := rfl
  have e5 : reRawNat ((patFields f0 f1 l).getD 2 .none) = 0 := rfl
  simp only [e3, e4, e5]
  have e6 : reNoCollectionInside (.str x t) 0 = pure () := rfl
  simp only [e6, reRawItems]
  rw [if_neg (by decide), if_neg (by decide)]
  refine wpAny_bind (wpAny_pure (wpAny_bind ?_))
  refine wpAny_bind (wpAny_seqItems hol hld (wpAny_pure (wpAny_pure ?_)))
  dsimp only [Option.getD_some]
  rw [hcd]
  have e7 : min (Int.toNat 0) x.cps.size = 0 := by simp
  have e8 : min (Int.toNat (2 ^ 63 - 1)) x.cps.size = x.cps.size := by (first | lia | omega)
  rw [e7, e8]
  obtain ⟨m, hm, ho', ha', hf'⟩ := search_fails code x.cps hcode href
  rw [hm]
  unfold reAnswer
  refine wpAny_bind (runToEnd_wp m ho' ha' hf' ?_)
  exact wpAny_pure hR
theorem pat_type {s : Shared} {P : Addr} {code : Array Nat} (h : Pattern s.heap P code) : s.TypeIs (.ref P) "re.Pattern" := by
  obtain ⟨o, l, f0, f1, ho, hc, _⟩ := h
  exact ⟨o, ho, hc⟩
theorem call_search {prog : Program} {w : World} {A : Around} {E : Value → Shared → Prop} {s : Shared} {P : Addr} {x : Str} {t : Tok} {code : Array Nat} {Q : Value → Shared → Prop}
    (hP : Pattern s.heap P code) (hcode : code = nameCode ∨ code = valueCode) (hx : Clean x) (hl : x.cps.size < 1000000) (h : Q .none s) :
    wpAny (model prog w) A (call (.builtin "re.Pattern.search") [.ref P, .str x t]) Q E s :=
  call_meetsIn slot_pat_search (pat_type hP) entry_pat_search (args_pat_search _ _) (meets_search P x t hl)
    ⟨code, hcode, fun c hc seen => by rcases hcode with rfl | rfl; exact set_name c (hx c hc) seen; exact set_value c (hx c hc) seen, hP, h⟩
theorem method_search {prog : Program} {w : World} {A : Around} {E : Value → Shared → Prop} {s : Shared} {P : Addr} {code : Array Nat} {pl : Sem Bool} {Q : Value × List Value → Shared → Prop}
    (hP : Pattern s.heap P code) (h : Q (.builtin "re.Pattern.search", [.ref P]) s) : wpAny (model prog w) A (getMethod (.ref P) "search" pl) Q E s :=
  getMethod_builtin (pat_type hP) plainAttrs_pat slot_pat_search type_pat_search (fun a e => by
    cases e; obtain ⟨o, l, f0, f1, ho, hc, hd, _⟩ := hP; exact ⟨o, ho, hd⟩) h
theorem pat_name {w : World} {h : Heap} (X : (hd.heap_39 w.params).In h) : Pattern h 43 nameCode :=
  ⟨_, 42, _, _, X 43 _ rfl, rfl, rfl, rfl, _, _, _, X 42 _ rfl, rfl, by decide +kernel⟩
theorem pat_value {w : World} {h : Heap} (X : (hd.heap_39 w.params).In h) : Pattern h 48 valueCode :=
  ⟨_, 47, _, _, X 48 _ rfl, rfl, rfl, rfl, _, _, _, X 47 _ rfl, rfl, by decide +kernel⟩
end
/-- a shut box round a goal: the walker stops at it -/
noncomputable def Hold (P : Prop) : Prop := P
theorem Hold.out {P : Prop} (h : Hold P) : P := h
theorem Hold.mk {P : Prop} (h : P) : Hold P := h
noncomputable abbrev NoE : Value → Shared → Prop := fun _ _ => False
section
variable {prog : Program} {w : World} {A : Around} {E : Value → Shared → Prop} {s : Shared} {env : Env}
theorem While_J {test : Expr} {body : List Stmt} {pos : Pos} {Q : Flow → Shared → Prop} (J : Nat → Shared → Prop)
    (n : Nat) (h : J n s)
    (turn : ∀ n s, J n s → wpAny (model prog w) A (isTrue test env (eval test env)) (fun b s₂ =>
        if b then wpAny (model prog w) A (execs body env) (fun f s₃ => match f with
            | .next | .cont => ∃ m, m < n ∧ J m s₃
            | .brk => Q .next s₃
            | .ret v => Q (.ret v) s₃) NoE s₂
        else Q .next s₂) NoE s) :
    wpAny (model prog w) A (exec (.While test body [] pos) env) Q E s := by
  refine wpAny_While (codeAny_whileLoop J (fun n s hJ => ?_) n h)
  refine wpAny_mono (turn n s hJ) (fun b s₂ hb => ?_) (fun _ _ x => x.elim)
  cases b with
  | true =>
    refine wpAny_mono hb (fun f s₃ hf => ?_) (fun _ _ x => x.elim)
    cases f <;> exact hf
  | false => exact wpAny_execs_nil hb
/-- nothing of the ledger stands at the iterator's place -/
noncomputable def OffI (I : Addr) (it : Obj) (n : List (Addr × Obj)) : Prop := ∀ p ∈ n, p.1 ≠ I ∨ p.2.cls ≠ it.cls
theorem OffI.ne {g h : Heap} {L I : Addr} {it : Obj} {n : List (Addr × Obj)} (o : OffI I it n) (N : News g L h ((I, it) :: n)) : ∀ p ∈ n, p.1 ≠ I := by
  intro p hp e
  rcases o p hp with q | q
  · exact q e
  · have h1 := (N _ (List.mem_cons_of_mem _ hp)).1
    have h2 := (N _ (List.mem_cons_self ..)).1
    rw [e] at h1
    have h3 : p.2 = it := Option.some.inj (h1.symm.trans h2)
    exact q (congrArg Obj.cls h3)
/-- the end of a turn of a loop over a list -/
noncomputable def TurnJ (s : Shared) (g : Heap) (L I : Addr) (it : Obj) (J : (Str → Option Value) → List (Addr × Obj) → Prop) (s₃ : Shared) : Prop :=
  ∃ h' tk' m' n', s₃ = { s with heap := h', toks := tk' } ∧ Fr g L h' m' ∧ News g L h' ((I, it) :: n') ∧ OffI I it n' ∧ J m' n'
theorem TurnJ.intro {s : Shared} {g : Heap} {L I : Addr} {it : Obj} {J : (Str → Option Value) → List (Addr × Obj) → Prop} {h' : Heap} {tk' : Nat} {m' : Str → Option Value} {n' : List (Addr × Obj)}
    (F : Fr g L h' m') (N : News g L h' ((I, it) :: n')) (o : OffI I it n') (j : J m' n') : TurnJ s g L I it J { s with heap := h', toks := tk' } := ⟨h', tk', m', n', rfl, F, N, o, j⟩
theorem iter_list_J {g : Heap} {L l : Addr} {items : Array Value} {lo : Obj} {m : Str → Option Value} {news : List (Addr × Obj)} {R : Result → Shared → Prop} {target : Expr} {body : List Stmt}
    (hh : A.handled = none) (F : Fr g L s.heap m) (N : News g L s.heap news) (hm : (l, lo) ∈ news) (hc : lo.cls = .type "list") (hd : ∃ n, lo.data = .seq items n)
    (J : Nat → (Str → Option Value) → List (Addr × Obj) → Prop) (h0 : J 0 m news)
    (hJl : ∀ i m' n', J i m' n' → (l, lo) ∈ n')
    (turn : ∀ i v m' news' I it h tk, items[i]? = some v → J i m' news' → it.cls = .type "list_iterator" → Fr g L h m' → News g L h ((I, it) :: news') → OffI I it news' →
      wpAny (model prog w) A (assign target env v) (fun _ s₂ => wpAny (model prog w) A (execs body env) (fun f s₃ => match f with
        | .next | .cont => TurnJ s g L I it (J (i + 1)) s₃
        | .brk => R (.ok .next) s₃
        | .ret v => R (.ok (.ret v)) s₃) NoE s₂) NoE { s with heap := h, toks := tk })
    (done : ∀ h tk m' news', J items.size m' news' → Fr g L h m' → News g L h news' → R (.ok .next) { s with heap := h, toks := tk })
    (ht : (∀ it v, letOwnedTupleGo target it v = pure ()) ∨ ((∃ elts x1 pos, target = .Tuple elts x1 pos) ∧ ∀ v ∈ items.toList, ∃ T, v = .ref T)) :
    wpAny (model prog w) A (pyIter (.ref l)) (fun it s₂ => codeAny (model prog w) A (.forLoop target it body [] env) R s₂) E s := by
  obtain ⟨ln, hd⟩ := hd
  have hl : s.heap.IsList l items := ⟨lo, (N _ hm).1, hc, ln, hd⟩
  have hlt : l < s.heap.objs.size := Heap.lt_size (N _ hm).1
  refine wpAny_pyIter_list hl ?_
  have hI : ∀ b o, s.heap.get? b = some o → b ≠ s.heap.objs.size := fun b o e => Nat.ne_of_lt (Heap.lt_size e)
  have hLlt : L < s.heap.objs.size := F.ns.lt
  have hpush : ∀ b o, s.heap.get? b = some o → (s.heap.push { cls := .type "list_iterator", data := .fields #[.ref l, .int 0 0] }).get? b = some o := fun b o e => Heap.get?_push_of_some _ e
  have hit0 : (s.heap.push { cls := .type "list_iterator", data := .fields #[.ref l, .int 0 0] }).IsListIter s.heap.objs.size l 0 := ⟨_, Heap.get?_push_size _ rfl, rfl, rfl⟩
  have hsz := F.above
  generalize hIe : s.heap.objs.size = I at *
  have hgI : g.get? I = none := by
    cases q : g.get? I with
    | none => rfl
    | some o => exact absurd (Nat.lt_of_lt_of_le (Heap.lt_size q) hsz) (Nat.not_lt.mpr (Nat.le_of_lt hLlt))
  have hLI : L ≠ I := Nat.ne_of_lt hLlt
  refine codeAny_forLoop_any (fun n s' => ∃ i h tk m' news', n = items.size + 1 - i ∧ i ≤ items.size ∧ s' = { s with heap := h, toks := tk } ∧ h.IsListIter I l i ∧ Fr g L h m' ∧ News g L h news' ∧ (∀ p ∈ news', p.1 ≠ I) ∧ J i m' news') ?_ (items.size + 1) ?_
  · rintro n s' ⟨i, h, tk, m', news', rfl, hi, rfl, hit, F', N', off, hJ⟩
    have hl' : h.IsList l items := ⟨lo, (N' _ (hJl _ _ _ hJ)).1, hc, ln, hd⟩
    cases hv : items[i]? with
    | none =>
      have hsz : i = items.size := Nat.le_antisymm hi (by simpa using hv)
      subst hsz
      refine wpAny_pyNext_list_end hh hit hl' hv fun h₁ he => wpAny_execs_nil (done h₁ tk m' news' hJ ?_ ?_)
      · obtain ⟨oL, a1, a2, e1, r⟩ := F'.ns
        exact ⟨⟨oL, a1, a2, he _ _ hLI e1, r⟩, fun b o e => he b o (fun q => by rw [q, hgI] at e; cases e) (F'.keep b o e), F'.above⟩
      · exact fun p hp => ⟨he _ _ (off p hp) (N' p hp).1, (N' p hp).2⟩
    | some v =>
      have hlt : i < items.size := (Array.getElem?_eq_some_iff.mp hv).1
      refine wpAny_pyNext_list_item hit hl' hv fun h₁ hit₁ hs₁ => ?_
      obtain ⟨it, hit1, hitc, hitd⟩ := id hit₁
      have F₁ : Fr g L h₁ m' := by
        obtain ⟨oL, a1, a2, e1, r⟩ := F'.ns
        exact ⟨⟨oL, a1, a2, (hs₁.2 _ hLI).trans e1, r⟩, fun b o e => (hs₁.2 b (fun q => by rw [q, hgI] at e; cases e)).trans (F'.keep b o e), F'.above⟩
      have N₁ : News g L h₁ ((I, it) :: news') := fun p hp => by
        rcases List.mem_cons.mp hp with rfl | hp
        · exact ⟨hit1, Ne.symm hLI, hgI⟩
        · exact ⟨(hs₁.2 _ (off p hp)).trans (N' p hp).1, (N' p hp).2⟩
      have hgo : ∀ (Q : Unit → Shared → Prop), Q () { s with heap := h₁, toks := tk } → wpAny (model prog w) A (letOwnedTupleGo target (.ref I) v) Q (notedBy (model prog w) A env fun e s' => R (.error e) s') { s with heap := h₁, toks := tk } := by
        intro Q hQ
        rcases ht with ht | ⟨⟨elts, x1, pos, rfl⟩, ht⟩
        · rw [ht]; exact wpAny_pure hQ
        · obtain ⟨T, rfl⟩ := ht v (by have := Array.mem_of_getElem? hv; exact Array.mem_toList_iff.mpr this)
          exact wpAny_letOwnedTupleGo_listiter (s := { s with heap := h₁, toks := tk }) hit₁ hQ
      refine hgo _ ?_
      refine wpAny_mono (turn i v m' news' I it h₁ tk hv hJ hitc F₁ N₁ (fun p hp => .inl (off p hp))) (fun _ s₂ h₂ => ?_) (fun _ _ x => x.elim)
      refine wpAny_mono h₂ (fun f s₃ h₃ => ?_) (fun _ _ x => x.elim)
      have key : TurnJ s g L I it (J (i + 1)) s₃ →
          ∃ m, m < items.size + 1 - i ∧ ∃ i' h tk m' news', m = items.size + 1 - i' ∧ i' ≤ items.size ∧ s₃ = { s with heap := h, toks := tk } ∧ h.IsListIter I l i' ∧ Fr g L h m' ∧ News g L h news' ∧ (∀ p ∈ news', p.1 ≠ I) ∧ J i' m' news' := by
        rintro ⟨h', tk', m'', news'', rfl, F₃, N₃, off₃, hJ₃⟩
        exact ⟨items.size + 1 - (i + 1), by (first | lia | omega), i + 1, h', tk', m'', news'', rfl, hlt, rfl, ⟨it, (N₃ _ (List.mem_cons_self ..)).1, hitc, hitd⟩, F₃, fun p hp => N₃ p (List.mem_cons_of_mem _ hp), off₃.ne N₃, hJ₃⟩
      cases f with
      | next => exact key h₃
      | cont => exact key h₃
      | brk => exact h₃
      | ret v => exact h₃
  · exact ⟨0, _, s.toks, m, news, rfl, Nat.zero_le _, rfl, hit0, F.keeps hpush, N.grown hpush, fun p hp => hI _ _ (N p hp).1, h0⟩
theorem For_hold {target iter : Expr} {body orelse : List Stmt} {pos : Pos} {Q : Flow → Shared → Prop}
    (h : wpAny (model prog w) A (eval iter env) (fun x s₁ => Hold (wpAny (model prog w) A (pyIter x) (fun it s₂ =>
      codeAny (model prog w) A (.forLoop target it body orelse env) (fun r s' => match r with | .ok f => Q f s' | .error e => cameBackBy (model prog w) A env E e s') s₂) E s₁)) E s)
    (hs : ∀ x, foldedSetIterable iter env x = pure x := by intro _; rfl) :
    wpAny (model prog w) A (exec (.For target iter body orelse pos) env) Q E s := wpAny_For (wpAny_mono h (fun _ _ x => x.out) (fun _ _ x => x)) hs
theorem assign_pair {cn : Str} {cs : Scope} {a : Addr} {cd : Value} {g : Heap} {L T : Addr} {x y : Str} {px py pt : Pos} {x1 : Nat} {v1 v2 : Value} {k : Nat} {m : Str → Option Value} {news : List (Addr × Obj)} {Q : Unit → Shared → Prop}
    (hh : A.handled = none) (F : Fr g L s.heap m) (N : News g L s.heap news) (hm : (T, ({ cls := .type "tuple", data := .seq #[v1, v2] k } : Obj)) ∈ news)
    (h : ∀ h' tk, Fr g L h' (fun z => if z = y then some v2 else if z = x then some v1 else m z) → News g L h' news → Q () { s with heap := h', toks := tk })
    (hk : cs.kind = .function) (hx : (envOf cn cs L a cd).kindOf x = some .local) (hy : (envOf cn cs L a cd).kindOf y = some .local) :
    wpAny (model prog w) A (assign (.Tuple [.Name x px, .Name y py] x1 pt) (envOf cn cs L a cd) (.ref T)) Q E s := by
  have ht : s.heap.IsTuple T #[v1, v2] := ⟨_, (N _ hm).1, rfl, _, rfl⟩
  refine wpAny_assign_Tuple hh ht rfl rfl fun h₁ he => ?_
  have up : ∀ b o, s.heap.get? b = some o → h₁.get? b = some o := fun b o e => he b o (Nat.ne_of_lt (Heap.lt_size e)) e
  show wpAny _ _ (assignInOrder [fun v => assign (.Name x px) (envOf cn cs L a cd) v, fun v => assign (.Name y py) (envOf cn cs L a cd) v] [v1, v2]) _ _ _
  refine wpAny_assignInOrder_more (wpAny_assign_Name (stN (F.keeps up) (N.grown up) (fun h₂ F₂ N₂ => ?_) hk hx))
  refine wpAny_assignInOrder_more (wpAny_assign_Name (stN F₂ N₂ (fun h₃ F₃ N₃ => ?_) hk hy))
  exact wpAny_assignInOrder_none (h _ _ F₃ N₃)
theorem iter_range_J {g : Heap} {L r : Addr} {a b : Int} {k : Nat} {t u v : Tok} {m : Str → Option Value} {news : List (Addr × Obj)} {R : Result → Shared → Prop} {target : Expr} {body : List Stmt}
    (hh : A.handled = none) (F : Fr g L s.heap m) (N : News g L s.heap news) (hr : IsRange s.heap r a b 1 t u v) (hsm : Builtin.Range.small a b 1 = true) (hk : Builtin.Range.rangeSize a b 1 = (k : Int))
    (J : Nat → (Str → Option Value) → List (Addr × Obj) → Prop) (h0 : J 0 m news)
    (turn : ∀ (i : Nat) tv m' news' I it h tk, i < k → J i m' news' → it.cls = .type "range_iterator" → Fr g L h m' → News g L h ((I, it) :: news') → OffI I it news' →
      wpAny (model prog w) A (assign target env (.int (a + (i : Int)) tv)) (fun _ s₂ => wpAny (model prog w) A (execs body env) (fun f s₃ => match f with
        | .next | .cont => TurnJ s g L I it (J (i + 1)) s₃
        | .brk => R (.ok .next) s₃
        | .ret v => R (.ok (.ret v)) s₃) NoE s₂) NoE { s with heap := h, toks := tk })
    (done : ∀ h tk m' news', J k m' news' → Fr g L h m' → News g L h news' → R (.ok .next) { s with heap := h, toks := tk })
    (ht : ∀ v, letOwnedTupleGo target (.ref s.heap.objs.size) v = pure () := by intro _; rfl) :
    wpAny (model prog w) A (pyIter (.ref r)) (fun it s₂ => codeAny (model prog w) A (.forLoop target it body [] env) R s₂) E s := by
  refine wpAny_pyIter_range hr hsm ?_
  rw [hk]
  have hI : ∀ b o, s.heap.get? b = some o → b ≠ s.heap.objs.size := fun b o e => Nat.ne_of_lt (Heap.lt_size e)
  have hLlt : L < s.heap.objs.size := F.ns.lt
  have hpush : ∀ b o, s.heap.get? b = some o → (s.heap.push { cls := .type "range_iterator", data := .fields #[rawInt a, rawInt (k : Int), rawInt 1] }).get? b = some o := fun b o e => Heap.get?_push_of_some _ e
  have hit0 : IsRangeIter (s.heap.push { cls := .type "range_iterator", data := .fields #[rawInt a, rawInt (k : Int), rawInt 1] }) s.heap.objs.size a k 1 := Heap.get?_push_size _ rfl
  have hsz := F.above
  generalize hIe : s.heap.objs.size = I at *
  have hgI : g.get? I = none := by
    cases q : g.get? I with
    | none => rfl
    | some o => exact absurd (Nat.lt_of_lt_of_le (Heap.lt_size q) hsz) (Nat.not_lt.mpr (Nat.le_of_lt hLlt))
  have hLI : L ≠ I := Nat.ne_of_lt hLlt
  refine codeAny_forLoop (fun n s' => ∃ (i : Nat) (h : Heap) (tk : Nat) (m' : Str → Option Value) (news' : List (Addr × Obj)), n = k + 1 - i ∧ i ≤ k ∧ s' = { s with heap := h, toks := tk } ∧ IsRangeIter h I (a + (i : Int)) ((k : Int) - (i : Int)) 1 ∧ Fr g L h m' ∧ News g L h news' ∧ (∀ p ∈ news', p.1 ≠ I) ∧ J i m' news') ?_ (k + 1) ?_ ht
  · rintro n s' ⟨i, h, tk, m', news', rfl, hi, rfl, hit, F', N', off, hJ⟩
    by_cases hlt : i < k
    · refine wpAny_pyNext_range_item hit (by (first | lia | omega)) fun h₁ hit₁ hs₁ => ?_
      have F₁ : Fr g L h₁ m' := by
        obtain ⟨oL, a1, a2, e1, r⟩ := F'.ns
        exact ⟨⟨oL, a1, a2, (hs₁.2 _ hLI).trans e1, r⟩, fun b o e => (hs₁.2 b (fun q => by rw [q, hgI] at e; cases e)).trans (F'.keep b o e), F'.above⟩
      have N₁ : News g L h₁ ((I, itR (a + (i : Int) + 1) ((k : Int) - (i : Int) - 1)) :: news') := fun p hp => by
        rcases List.mem_cons.mp hp with rfl | hp
        · exact ⟨hit₁, Ne.symm hLI, hgI⟩
        · exact ⟨(hs₁.2 _ (off p hp)).trans (N' p hp).1, (N' p hp).2⟩
      refine wpAny_mono (turn i _ m' news' I _ h₁ _ hlt hJ rfl F₁ N₁ (fun p hp => .inl (off p hp))) (fun _ s₂ h₂ => ?_) (fun _ _ x => x.elim)
      refine wpAny_mono h₂ (fun f s₃ h₃ => ?_) (fun _ _ x => x.elim)
      have key : TurnJ s g L I (itR (a + (i : Int) + 1) ((k : Int) - (i : Int) - 1)) (J (i + 1)) s₃ →
          ∃ m, m < k + 1 - i ∧ ∃ (i' : Nat) (h : Heap) (tk : Nat) (m' : Str → Option Value) (news' : List (Addr × Obj)), m = k + 1 - i' ∧ i' ≤ k ∧ s₃ = { s with heap := h, toks := tk } ∧ IsRangeIter h I (a + (i' : Int)) ((k : Int) - (i' : Int)) 1 ∧ Fr g L h m' ∧ News g L h news' ∧ (∀ p ∈ news', p.1 ≠ I) ∧ J i' m' news' := by
        rintro ⟨h', tk', m'', news'', rfl, F₃, N₃, off₃, hJ₃⟩
        have e1 : a + ((i + 1 : Nat) : Int) = a + (i : Int) + 1 := by (first | lia | omega)
        have e2 : (k : Int) - ((i + 1 : Nat) : Int) = (k : Int) - (i : Int) - 1 := by (first | lia | omega)
        exact ⟨k + 1 - (i + 1), by (first | lia | omega), i + 1, h', tk', m'', news'', rfl, hlt, rfl, by rw [e1, e2]; exact (N₃ _ (List.mem_cons_self ..)).1, F₃, fun p hp => N₃ p (List.mem_cons_of_mem _ hp), off₃.ne N₃, hJ₃⟩
      cases f with
      | next => exact key h₃
      | cont => exact key h₃
      | brk => exact h₃
      | ret v => exact h₃
    · have hik : i = k := Nat.le_antisymm hi (Nat.not_lt.mp hlt)
      subst hik
      refine wpAny_pyNext_range_end hh hit (by (first | lia | omega)) fun h₁ he => wpAny_execs_nil (done h₁ tk m' news' hJ ?_ ?_)
      · obtain ⟨oL, a1, a2, e1, r⟩ := F'.ns
        exact ⟨⟨oL, a1, a2, he _ _ hLI e1, r⟩, fun b o e => he b o (fun q => by rw [q, hgI] at e; cases e) (F'.keep b o e), F'.above⟩
      · exact fun p hp => ⟨he _ _ (off p hp) (N' p hp).1, (N' p hp).2⟩
  · exact ⟨0, _, s.toks, m, news, rfl, Nat.zero_le _, rfl, by simpa using hit0, F.keeps hpush, N.grown hpush, fun p hp => hI _ _ (N p hp).1, h0⟩
end
section
open PyProof.Rows.LCg PyProof.Rows.LCt
variable {prog : Program} {w : World} {A : Around} {E : Value → Shared → Prop} {s : Shared} {h₀ : Heap} {L : Addr} {m : Str → Option Value} {env : Env}
/-- the end of a comprehension's turn, shut -/
noncomputable def CEnd (s : Shared) (h₀ : Heap) (L : Addr) (m : Str → Option Value) (news : List (Addr × Obj)) (P : Prop) (s₂ : Shared) : Prop :=
  ∃ h' tk', s₂ = { s with heap := h', toks := tk' } ∧ Fr h₀ L h' m ∧ News h₀ L h' news ∧ P
theorem CEnd.intro {s : Shared} {h₀ h' : Heap} {tk' : Nat} {L : Addr} {m : Str → Option Value} {news : List (Addr × Obj)} {P : Prop} (F : Fr h₀ L h' m) (N : News h₀ L h' news) (p : P) : CEnd s h₀ L m news P { s with heap := h', toks := tk' } :=
  ⟨h', tk', rfl, F, N, p⟩
/-- a comprehension without a test: what holds of the values made so far -/
theorem compRest_J {elt : Expr} {x : Str} {scope : Scope} {cl : List (Str × Addr)} {S : List (Addr × Obj) → Prop} {P : Nat → Value → Prop} {Fin : List Value → List (Addr × Obj) → Prop} {n : Nat} {news : List (Addr × Obj)}
    (J : Nat → List Value → Prop) (h0 : J 0 []) (fin : ∀ ys, J n ys → Fin ys news) (hS : S news)
    (turn : ∀ i v ys I oI C oC D m₂ h tk E', i < n → P i v → J i ys → NsObj oC m₂ → m₂ x = some v → Fr h₀ L h m → News h₀ L h ((I, oI) :: (C, oC) :: (D, lst ys) :: news) → Off3 I C D news → ((@Ne Nat I C) ∧ (@Ne Nat I D) ∧ (@Ne Nat C D)) →
      wpAny (model prog w) A (eval elt (compEnvC scope cl C env)) (fun y s₂ => CEnd s h₀ L m ((I, oI) :: (C, oC) :: (D, lst ys) :: news) (J (i + 1) (ys ++ [y])) s₂) E' { s with heap := h, toks := tk }) :
    CompRest prog w A h₀ L m env elt x scope cl s S P Fin n 0 [] news := by
  have all : ∀ k i ys, i + k = n → J i ys → CompRest prog w A h₀ L m env elt x scope cl s S P Fin k i ys news := by
    intro k
    induction k with
    | zero => intro i ys e hJ; exact CompRest.zero (fin ys (by rw [← e]; exact hJ))
    | succ k ih =>
      intro i ys e hJ
      refine CompRest.succ fun v I oI C oC D m₂ h tk E' hP hns hx F N off ne => ?_
      refine wpAny_mono (turn i v ys I oI C oC D m₂ h tk E' (by (first | lia | omega)) hP hJ hns hx F N off ne) (fun y s₂ hy => ?_) (fun _ _ x => x)
      obtain ⟨h', tk', rfl, F', N', hJ'⟩ := hy
      exact ⟨h', tk', news, rfl, F', N', off, hS, ih (i + 1) (ys ++ [y]) (by (first | lia | omega)) hJ'⟩
  exact all n 0 [] (by (first | lia | omega)) h0
theorem compRestT_J {ct elt : Expr} {x : Str} {scope : Scope} {cl : List (Str × Addr)} {S : List (Addr × Obj) → Prop} {P : Nat → Value → Prop} {Fin : List Value → List (Addr × Obj) → Prop} {n : Nat} {news : List (Addr × Obj)}
    (J : Nat → List Value → Prop) (h0 : J 0 []) (fin : ∀ ys, J n ys → Fin ys news) (hS : S news)
    (turn : ∀ i v ys I oI C oC D m₂ h tk E', i < n → P i v → J i ys → NsObj oC m₂ → m₂ x = some v → Fr h₀ L h m → News h₀ L h ((I, oI) :: (C, oC) :: (D, lst ys) :: news) → Off3 I C D news → ((@Ne Nat I C) ∧ (@Ne Nat I D) ∧ (@Ne Nat C D)) →
      wpAny (model prog w) A (isTrue ct (compEnvC scope cl C env) (eval ct (compEnvC scope cl C env))) (fun ok s' => if ok = true then
        wpAny (model prog w) A (eval elt (compEnvC scope cl C env)) (fun y s₂ => CEnd s h₀ L m ((I, oI) :: (C, oC) :: (D, lst ys) :: news) (J (i + 1) (ys ++ [y])) s₂) E' s'
        else CEnd s h₀ L m ((I, oI) :: (C, oC) :: (D, lst ys) :: news) (J (i + 1) ys) s') E' { s with heap := h, toks := tk }) :
    CompRestT prog w A h₀ L m env ct elt x scope cl s S P Fin n 0 [] news := by
  have all : ∀ k i ys, i + k = n → J i ys → CompRestT prog w A h₀ L m env ct elt x scope cl s S P Fin k i ys news := by
    intro k
    induction k with
    | zero => intro i ys e hJ; exact CompRestT.zero (fin ys (by rw [← e]; exact hJ))
    | succ k ih =>
      intro i ys e hJ
      refine CompRestT.succ fun v I oI C oC D m₂ h tk E' hP hns hx F N off ne => ?_
      refine wpAny_mono (turn i v ys I oI C oC D m₂ h tk E' (by (first | lia | omega)) hP hJ hns hx F N off ne) (fun ok s' hok => ?_) (fun _ _ x => x)
      cases ok with
      | true =>
        rw [if_pos rfl] at hok ⊢
        refine wpAny_mono hok (fun y s₂ hy => ?_) (fun _ _ x => x)
        obtain ⟨h', tk', rfl, F', N', hJ'⟩ := hy
        exact ⟨h', tk', news, rfl, F', N', off, hS, ih (i + 1) (ys ++ [y]) (by (first | lia | omega)) hJ'⟩
      | false =>
        rw [if_neg (by decide)] at hok ⊢
        obtain ⟨h', tk', rfl, F', N', hJ'⟩ := hok
        exact ⟨h', tk', news, rfl, F', N', off, hS, ih (i + 1) ys (by (first | lia | omega)) hJ'⟩
  exact all n 0 [] (by (first | lia | omega)) h0
end
section
open PyProof.Rows.LCg
variable {prog : Program} {w : World} {A : Around} {E : Value → Shared → Prop} {s : Shared} {h₀ : Heap} {L : Addr} {m : Str → Option Value} {env : Env}
noncomputable def SrcS (prog : Program) (w : World) (A : Around) (h₀ : Heap) (L : Addr) (m : Str → Option Value) (env : Env) (elt : Expr) (x : Str) (scope : Scope) (cl : List (Str × Addr)) (Fin : Shared → List Value → List (Addr × Obj) → Prop) (xv : Value) (s₁ : Shared) : Prop :=
  ∃ y t news, xv = .str y t ∧ A.handled = none ∧ Fr h₀ L s₁.heap m ∧ News h₀ L s₁.heap news ∧ y.cps.size ≤ sizeLine ∧ y.cps.all (· < 128) = true ∧
    ∀ g, CompRest prog w A h₀ L m env elt x scope cl { s₁ with heap := g } (fun _ => True) (SignAt y) (Fin { s₁ with heap := g }) y.cps.size 0 [] news
/-- a list comprehension over the signs of a text -/
theorem ListComp_S {elt iter : Expr} {x : Str} {px : Pos} {scope : Scope} {cl : List (Str × Addr)} {pos : Pos} {Q : Value → Shared → Prop}
    (hclos : closureFor scope env = pure cl) (hcell : ∀ y ∈ scope.names, y.2 ≠ .cell) (hkind : scope.kind = .function)
    (hnames : ∀ y ∈ scope.names, y.2 = .local → scope.names.lookup y.1 = some .local) (hx : scope.names.lookup x = some .local)
    (h : wpAny (model prog w) A (eval iter env) (SrcS prog w A h₀ L m env elt x scope cl (fun s₂ => FinE h₀ L m s₂ Q)) E s)
    (hs : ∀ x, foldedSetIterable iter env x = pure x := by intro _; rfl) :
    wpAny (model prog w) A (eval (.ListComp elt [⟨.Name x px, iter, [], 0⟩] scope pos) env) Q E s := by
  rw [eval_ListComp]
  refine wpAny_comprehension_free (use := none) rfl hs hclos hkind hnames (wpAny_mono h (fun xv s₁ h₁ => ?_) fun _ _ e => e)
  obtain ⟨y, t, news, rfl, hh, F, N, hsz, ha, R⟩ := h₁
  refine wpAny_pyIter_ascii ha ?_
  have W := Walks.strAscii (prog := prog) (w := w) hh s₁.heap.objs.size y t
  have hnew : ∀ p ∈ news, p.1 ≠ s₁.heap.objs.size := fun p hp => Nat.ne_of_lt (Heap.lt_size (N p hp).1)
  refine block_U W hsz (fun i h st => let ⟨o, ho, _⟩ := st; ⟨o, ho⟩) (fun i h h' o' nw st e e' _ _ _ => W.frame _ _ _ st fun b hb ob eb => ?_) hcell hkind hx ⟨_, Heap.get?_push_size _ rfl, rfl, rfl⟩ (fun b hb => ?_)
    (F.keeps fun _ _ e => Heap.get?_push_of_some _ e) (N.grown fun _ _ e => Heap.get?_push_of_some _ e) (Nat.ne_of_lt F.ns.lt) (next_is_new F) hnew trivial (R _) ?_
  · rw [List.mem_singleton.mp hb] at eb ⊢
    rw [eb] at e
    cases e
    exact e'
  · rw [List.mem_singleton.mp hb]
    show s₁.heap.objs.size < (s₁.heap.push _).objs.size
    rw [Heap.size_push]; exact Nat.lt_succ_self _
  · intro D C h tk m' ys news' F' N' o1 hn hC₀ hD₀ hCL hDL hCD offC fin
    refine ⟨m', hn, fun h'' hs'' => fin D h'' tk (F'.change hs'' hCL hC₀) (fun p hp => ?_) o1⟩
    refine ⟨hs''.extBut _ _ ?_ (N' p hp).1, (N' p hp).2⟩
    rcases List.mem_cons.mp hp with rfl | hp
    · exact Ne.symm hCD
    · exact offC p hp
noncomputable def DEnd (s : Shared) (h₀ : Heap) (L : Addr) (m : Str → Option Value) (news : List (Addr × Obj)) (P : Str → Int → Prop) (kv vv : Value) (s' : Shared) : Prop :=
  ∃ h' tk' k z t1 t2, s' = { s with heap := h', toks := tk' } ∧ Fr h₀ L h' m ∧ News h₀ L h' news ∧ kv = .str k t1 ∧ vv = .int z t2 ∧ P k z
noncomputable def SrcX (prog : Program) (w : World) (A : Around) (h₀ : Heap) (L : Addr) (m : Str → Option Value) (env : Env) (kx vx : Expr) (x : Str) (scope : Scope) (cl : List (Str × Addr)) (Q : Value → Shared → Prop) (xv : Value) (s₁ : Shared) : Prop :=
  ∃ ax its kk news, xv = .ref ax ∧ Fr h₀ L s₁.heap m ∧ News h₀ L s₁.heap news ∧ (ax, ({ cls := .type "list", data := .seq its kk } : Obj)) ∈ news ∧ its.size ≤ 1000 ∧
    ∃ J : Nat → List (Str × Int) → Prop, J 0 [] ∧
      (∀ i v c I oI C oC oX D oD m₂ h tk E', i < its.size → its[i]? = some v → J i c → NsObj oC m₂ → oX.data = .cell (some v) → Fr h₀ L h m → News h₀ L h ((I, oI) :: (C, oC) :: (C + 1, oX) :: (D, oD) :: news) →
        wpAny (model prog w) A (eval kx (compEnvC scope ((x, C + 1) :: cl) C env)) (fun kv s₄ => wpAny (model prog w) A (eval vx (compEnvC scope ((x, C + 1) :: cl) C env)) (fun vv s₅ =>
          DEnd s₁ h₀ L m ((I, oI) :: (C, oC) :: (C + 1, oX) :: (D, oD) :: news) (fun k z => J (i + 1) (kdpPut c k z)) kv vv s₅) E' s₄) E' { s₁ with heap := h, toks := tk }) ∧
      (∀ D oD kvs c h tk, J its.size c → Fr h₀ L h m → News h₀ L h ((D, oD) :: news) → oD.IsDictOf (PySem.strKind prog w) kvs → FlatPairs PyData.str kvs (kdpD c) → (∀ p ∈ news, p.1 ≠ D) → (D == sysModules) = false → Q (.ref D) { s₁ with heap := h, toks := tk })
theorem DictComp_X {kx vx iter : Expr} {x : Str} {px : Pos} {scope : Scope} {cl : List (Str × Addr)} {pos : Pos} {Q : Value → Shared → Prop}
    (hh : A.handled = none) (hclos : closureFor scope env = pure cl) (hkind : scope.kind = .function)
    (hnames : ∀ y ∈ scope.names, y.2 = .local → scope.names.lookup y.1 = some .local) (hx : (relabel scope env).names.lookup x = some .cell)
    (hcf : ∀ n, cellsFrom n scope.names cl = (x, n) :: cl) (hpc : ∀ h, pushCells h scope.names = h.push { cls := .type "cell", data := .cell none })
    (h : wpAny (model prog w) A (eval iter env) (SrcX prog w A h₀ L m env kx vx x scope cl Q) E s)
    (hs : ∀ x, foldedSetIterable iter env x = pure x := by intro _; rfl) :
    wpAny (model prog w) A (eval (.DictComp kx vx [⟨.Name x px, iter, [], 0⟩] scope pos) env) Q E s := by
  rw [arm_eval_DictComp]
  refine wpAny_comprehension_free (use := none) rfl hs hclos hkind hnames (wpAny_mono h (fun xv s₁ h₁ => ?_) fun _ _ e => e)
  obtain ⟨ax, its, kk, news, rfl, F, N, hm, hsz, J, J0, turn, fin⟩ := h₁
  have hl : s₁.heap.IsList ax its := N.isList hm
  refine wpAny_pyIter_list hl ?_
  refine wpAny_newObj_type ?_
  simp only [newFunctionEnv, Option.isSome_some, if_true]
  refine wpAny_bind (wpAny_alloc ?_)
  refine wpAny_bind (wpAny_layCells _ (fun name kind cells => by cases hkc : kind == NameKind.cell <;> simp [hkc]) _ _ _ _ ?_)
  rw [hcf, hpc]
  rw [List.forIn_nil]
  refine wpAny_bind (wpAny_pure (wpAny_pure ?_))
  have hLlt : @LT.lt Nat _ L s₁.heap.objs.size := F.ns.lt
  have haxlt : @LT.lt Nat _ ax s₁.heap.objs.size := by obtain ⟨_, e, _⟩ := hl; exact Heap.lt_size e
  generalize hH1 : s₁.heap.push { cls := Value.type "list_iterator", data := Data.fields #[Value.ref ax, Value.int 0 0] } = H1
  have z1 : H1.objs.size = s₁.heap.objs.size + 1 := by rw [← hH1, Heap.size_push]
  have up1 : ∀ b o, s₁.heap.get? b = some o → H1.get? b = some o := fun b o e => by rw [← hH1]; exact Heap.get?_push_of_some _ e
  have it1 : H1.IsListIter s₁.heap.objs.size ax 0 := by rw [← hH1]; exact ⟨_, Heap.get?_push_size _ rfl, rfl, rfl⟩
  generalize hH2 : H1.push { cls := Value.type "dict", data := Data.dict #[] } = H2
  have z2 : H2.objs.size = H1.objs.size + 1 := by rw [← hH2, Heap.size_push]
  have up2 : ∀ b o, H1.get? b = some o → H2.get? b = some o := fun b o e => by rw [← hH2]; exact Heap.get?_push_of_some _ e
  have dd2 : H2.DictOf (PySem.strKind prog w) H1.objs.size [] := by rw [← hH2]; exact Heap.DictOf.new H1
  generalize hH3 : H2.push { cls := Value.type "dict", data := Data.dict #[] } = H3
  have z3 : H3.objs.size = H2.objs.size + 1 := by rw [← hH3, Heap.size_push]
  have up3 : ∀ b o, H2.get? b = some o → H3.get? b = some o := fun b o e => by rw [← hH3]; exact Heap.get?_push_of_some _ e
  have ns3 : H3.Ns H2.objs.size (fun _ => none) := by rw [← hH3]; exact Heap.Ns.new H2 (.type "dict")
  generalize hH4 : H3.push { cls := Value.type "cell", data := Data.cell none } = H4
  have up4 : ∀ b o, H3.get? b = some o → H4.get? b = some o := fun b o e => by rw [← hH4]; exact Heap.get?_push_of_some _ e
  have cc4 : H4.get? H3.objs.size = some { cls := Value.type "cell", data := Data.cell none } := by rw [← hH4]; exact Heap.get?_push_size _ rfl
  have up : ∀ b o, s₁.heap.get? b = some o → H4.get? b = some o := fun b o e => up4 _ _ (up3 _ _ (up2 _ _ (up1 _ _ e)))
  obtain ⟨oC0, hC0, nC0⟩ := ns_obj (ns3.keeps up4)
  obtain ⟨oD0, hD0, dD0⟩ := Heap.dictOf_iff.mp dd2
  have hD0 := up4 _ _ (up3 _ _ hD0)
  have it4 : H4.IsListIter s₁.heap.objs.size ax 0 := let ⟨o, e, r⟩ := it1; ⟨o, up4 _ _ (up3 _ _ (up2 _ _ e)), r⟩
  have fr0 : ∀ a, s₁.heap.objs.size ≤ a → h₀.get? a = none := fun a ha => by
    cases q : h₀.get? a with
    | none => rfl
    | some o' => exact absurd (Heap.lt_size (F.keep a o' q)) (Nat.not_lt.mpr ha)
  dsimp only
  have hX : H3.objs.size = H2.objs.size + 1 := z3
  rw [hX] at cc4 ⊢
  show codeAny (model prog w) A (Code.compStart (Expr.DictComp kx vx [⟨.Name x px, iter, [], 0⟩] scope pos) 0 (Value.ref s₁.heap.objs.size) (Value.ref H1.objs.size) (compEnvC scope ((x, H2.objs.size + 1) :: cl) H2.objs.size env)) (compPost (model prog w) A E none Q (Value.ref H1.objs.size) H2.objs.size) _
  generalize hIe : s₁.heap.objs.size = I at *
  generalize hDe : H1.objs.size = D at *
  generalize hCe : H2.objs.size = C at *
  have hID : @Ne Nat I D := by (first | lia | omega)
  have hIC : @Ne Nat I C := by (first | lia | omega)
  have hIX : @Ne Nat I (C + 1) := by (first | lia | omega)
  have hDC : @Ne Nat D C := by (first | lia | omega)
  have hDX : @Ne Nat D (C + 1) := by (first | lia | omega)
  have hCX : @Ne Nat C (C + 1) := by (first | lia | omega)
  have hLI : @Ne Nat L I := by (first | lia | omega)
  have hLD : @Ne Nat L D := by (first | lia | omega)
  have hLC : @Ne Nat L C := by (first | lia | omega)
  have hLX : @Ne Nat L (C + 1) := by (first | lia | omega)
  have haxI : @Ne Nat ax I := by (first | lia | omega)
  have haxD : @Ne Nat ax D := by (first | lia | omega)
  have haxX : @Ne Nat ax (C + 1) := by (first | lia | omega)
  have nlt : ∀ p ∈ news, @LT.lt Nat _ p.1 I := fun p hp => by have := Heap.lt_size (N p hp).1; rw [hIe] at this; exact this
  have fI : h₀.get? I = none := fr0 _ (Nat.le_refl _)
  have fD : h₀.get? D = none := fr0 _ (by (first | lia | omega))
  have fC : h₀.get? C = none := fr0 _ (by (first | lia | omega))
  have fX : h₀.get? (C + 1) = none := fr0 _ (by (first | lia | omega))
  have W := Walks.list (prog := prog) (w := w) hh I ax haxI its
  have F4 : Fr h₀ L H4 m := F.keeps up
  have hkc : (compEnvC scope ((x, C + 1) :: cl) C env).scope.kind = .function := by show (relabel scope env).kind = _; exact hkind
  have loop : ∀ tk, codeAny (model prog w) A (Code.compLoop (Expr.DictComp kx vx [⟨.Name x px, iter, [], 0⟩] scope pos) 0 (Value.ref I) (Value.ref D) (compEnvC scope ((x, C + 1) :: cl) C env)) (compPost (model prog w) A E none Q (Value.ref D) C) { s₁ with heap := H4, toks := tk } := by
    intro tk0
    refine codeAny_compLoop_testsD (fun k s' => ∃ (i : Nat) (h : Heap) (tk : Nat) (c : List (Str × Int)) (kvs : List (Str × Value)) (oC oX oD : Obj) (m' : Str → Option Value), k = its.size + 1 - i ∧ i ≤ its.size ∧ s' = { s₁ with heap := h, toks := tk } ∧ (h.IsListIter I ax i ∧ h.IsList ax its) ∧ Fr h₀ L h m ∧ News h₀ L h ((C, oC) :: (C + 1, oX) :: (D, oD) :: news) ∧ NsObj oC m' ∧ (∃ v, oX.data = .cell v) ∧ oD.IsDictOf (PySem.strKind prog w) kvs ∧ FlatPairs PyData.str kvs (kdpD c) ∧ J i c ∧ c.length ≤ i) ?_ (its.size + 1) ?_
    · rintro k s' ⟨i, h, tk, c, kvs, oC, oX, oD, m', rfl, hi, rfl, hst, F', N', hns, ⟨vX, hcx⟩, hdo, hfl, hJ, hcl⟩
      by_cases hlt : i < its.size
      · refine W.item i _ _ _ hlt hst fun v h₁ tk₁ hPv hst₁ hk₁ => ?_
        have k1 : ∀ b o, b ≠ I → h.get? b = some o → h₁.get? b = some o := fun b o hb e => hk₁ b o (by simpa using hb) e
        have F₁ : Fr h₀ L h₁ m := by
          obtain ⟨oL, a1, a2, e1, r⟩ := F'.ns
          exact ⟨⟨oL, a1, a2, k1 _ _ hLI e1, r⟩, fun b o e => k1 b o (fun q => by rw [q, fI] at e; cases e) (F'.keep b o e), F'.above⟩
        have N₁ : News h₀ L h₁ ((C, oC) :: (C + 1, oX) :: (D, oD) :: news) := fun p hp => by
          refine ⟨k1 _ _ ?_ (N' p hp).1, (N' p hp).2⟩
          simp only [List.mem_cons] at hp
          rcases hp with rfl | rfl | rfl | hp
          · exact Ne.symm hIC
          · exact Ne.symm hIX
          · exact Ne.symm hID
          · exact Nat.ne_of_lt (nlt p hp)
        refine wpAny_assign_Name (wpAny_storeName_cell (c := C + 1) (v₀ := vX) hkc hx (by simp [compEnvC]) ⟨oX, (N₁ (C + 1, oX) (.tail _ (.head _))).1, hcx⟩ fun h₂ hc₂ hs₂ => ?_)
        refine wpAny_tests_nil ?_
        simp only [if_true]
        obtain ⟨oX₂, eX₂, dX₂⟩ := hc₂
        have k2 : ∀ b o, b ≠ C + 1 → h₁.get? b = some o → h₂.get? b = some o := fun b o hb e => hs₂.extBut b o hb e
        have hst₂ : h₂.IsListIter I ax (i + 1) ∧ h₂.IsList ax its := W.frame _ _ _ hst₁ fun b hb o e => k2 b o (fun q => by
          rcases List.mem_cons.mp hb with hb | hb
          · exact hIX (hb.symm.trans q)
          · have := List.mem_singleton.mp hb
            exact haxX (this.symm.trans q)) e
        have F₂ : Fr h₀ L h₂ m := by
          obtain ⟨oL, a1, a2, e1, r⟩ := F₁.ns
          exact ⟨⟨oL, a1, a2, k2 _ _ hLX e1, r⟩, fun b o e => k2 b o (fun q => by rw [q, fX] at e; cases e) (F₁.keep b o e), F₁.above⟩
        obtain ⟨oI₂, eI₂, rI₂⟩ := hst₂.1
        have N₂ : News h₀ L h₂ ((I, oI₂) :: (C, oC) :: (C + 1, oX₂) :: (D, oD) :: news) := fun p hp => by
          simp only [List.mem_cons] at hp
          rcases hp with rfl | rfl | rfl | rfl | hp
          · exact ⟨eI₂, Ne.symm hLI, fI⟩
          · exact ⟨k2 _ _ hCX (N₁ _ (.head _)).1, (N₁ _ (.head _)).2⟩
          · exact ⟨eX₂, Ne.symm hLX, fX⟩
          · exact ⟨k2 _ _ hDX (N₁ _ (.tail _ (.tail _ (.head _)))).1, (N₁ _ (.tail _ (.tail _ (.head _)))).2⟩
          · refine ⟨k2 _ _ ?_ (N₁ p (.tail _ (.tail _ (.tail _ hp)))).1, (N₁ p (.tail _ (.tail _ (.tail _ hp)))).2⟩
            have := nlt p hp
            exact Nat.ne_of_lt (by (first | lia | omega))
        refine wpAny_mono (turn i v c I oI₂ C oC oX₂ D oD m' h₂ tk₁ _ hlt hPv hJ hns dX₂ F₂ N₂) (fun kv s₄ h₄ => ?_) fun _ _ e => e
        refine wpAny_mono h₄ (fun vv s₅ h₅ => ?_) fun _ _ e => e
        obtain ⟨h₅, tk₅, kk', z, t1, t2, rfl, F₅, N₅, rfl, rfl, hJ₅⟩ := h₅
        have hcl2 : kvs.length ≤ sizeLine := by
          have : kvs.length = (kdpD c).length := by
            clear hdo
            generalize kdpD c = dd at hfl
            induction hfl with
            | nil => rfl
            | cons _ _ ih => simp [ih]
          rw [this, kdpD_length, sizeLine_eq]; (first | lia | omega)
        refine wpAny_dictSet_pairs (knd := PySem.strKind prog w) (hsz := hcl2) (strKind_is _ _ _ _) (Heap.dictOf_iff.mpr ⟨oD, (N₅ (D, oD) (.tail _ (.tail _ (.tail _ (.head _))))).1, hdo⟩) fun h₆ hd₆ hs₆ => ?_
        obtain ⟨oD₆, eD₆, dD₆⟩ := Heap.dictOf_iff.mp hd₆
        have k6 : ∀ b o, b ≠ D → h₅.get? b = some o → h₆.get? b = some o := fun b o hb e => hs₆.extBut b o hb e
        refine ⟨its.size + 1 - (i + 1), by (first | lia | omega), i + 1, h₆, _, kdpPut c kk' z, _, oC, oX₂, oD₆, m', rfl, hlt, rfl, ?_, ?_, ?_, hns, ⟨_, dX₂⟩, dD₆, ?_, hJ₅, ?_⟩
        · have hl₅ : h₅.IsList ax its := News.isList N₅ (List.mem_cons_of_mem _ (List.mem_cons_of_mem _ (List.mem_cons_of_mem _ (List.mem_cons_of_mem _ hm))))
          obtain ⟨oa, ea, ra⟩ := hl₅
          exact ⟨⟨oI₂, k6 _ _ hID (N₅ (I, oI₂) (.head _)).1, rI₂⟩, oa, k6 _ _ haxD ea, ra⟩
        · obtain ⟨oL, a1, a2, e1, r⟩ := F₅.ns
          exact ⟨⟨oL, a1, a2, k6 _ _ hLD e1, r⟩, fun b o e => k6 b o (fun q => by rw [q, fD] at e; cases e) (F₅.keep b o e), F₅.above⟩
        · intro p hp
          simp only [List.mem_cons] at hp
          rcases hp with rfl | rfl | rfl | hp
          · exact ⟨k6 _ _ (Ne.symm hDC) (N₅ _ (.tail _ (.head _))).1, (N₅ _ (.tail _ (.head _))).2⟩
          · exact ⟨k6 _ _ (Ne.symm hDX) (N₅ _ (.tail _ (.tail _ (.head _)))).1, (N₅ _ (.tail _ (.tail _ (.head _)))).2⟩
          · exact ⟨eD₆, Ne.symm hLD, fD⟩
          · refine ⟨k6 _ _ ?_ (N₅ p (.tail _ (.tail _ (.tail _ (.tail _ hp))))).1, (N₅ p (.tail _ (.tail _ (.tail _ (.tail _ hp))))).2⟩
            have := nlt p hp
            exact Nat.ne_of_lt (by (first | lia | omega))
        · rw [← kdpD_put]
          exact FlatPairs.stored PyProof.V.same_str hfl kk' (PyProof.V.Flat.int z t2)
        · have := kdpPut_len c kk' z
          (first | lia | omega)
      · obtain rfl : i = its.size := Nat.le_antisymm hi (Nat.not_lt.mp hlt)
        refine W.done _ _ _ hst fun h₁ tk₁ hk₁ => ?_
        have k1 : ∀ b o, b ≠ I → h.get? b = some o → h₁.get? b = some o := fun b o hb e => hk₁ b o (by simpa using hb) e
        refine ⟨m', hns.ns (k1 _ _ (Ne.symm hIC) (N' (C, oC) (.head _)).1), fun h'' hs'' => ?_⟩
        have k2 : ∀ b o, b ≠ C → h₁.get? b = some o → h''.get? b = some o := fun b o hb e => hs''.extBut b o hb e
        refine fin D oD kvs c h'' _ hJ ?_ ?_ hdo hfl (fun p hp => ?_) ?_
        · obtain ⟨oL, a1, a2, e1, r⟩ := F'.ns
          exact ⟨⟨oL, a1, a2, k2 _ _ hLC (k1 _ _ hLI e1), r⟩, fun b o e => k2 b o (fun q => by rw [q, fC] at e; cases e) (k1 b o (fun q => by rw [q, fI] at e; cases e) (F'.keep b o e)), F'.above⟩
        · intro p hp
          rcases List.mem_cons.mp hp with rfl | hp
          · exact ⟨k2 _ _ hDC (k1 _ _ (Ne.symm hID) (N' _ (.tail _ (.tail _ (.head _)))).1), (N' _ (.tail _ (.tail _ (.head _)))).2⟩
          · have := nlt p hp
            exact ⟨k2 _ _ (Nat.ne_of_lt (by (first | lia | omega))) (k1 _ _ (Nat.ne_of_lt this) (N' p (.tail _ (.tail _ (.tail _ hp)))).1), (N' p (.tail _ (.tail _ (.tail _ hp)))).2⟩
        · have := nlt p hp
          exact Nat.ne_of_lt (by (first | lia | omega))
        · have : @Ne Nat D 1 := by (first | lia | omega)
          exact beq_eq_false_iff_ne.mpr this
    · refine ⟨0, H4, tk0, [], [], oC0, { cls := Value.type "cell", data := Data.cell none }, oD0, fun _ => none, rfl, Nat.zero_le _, rfl, ⟨it4, ?_⟩, F4, ?_, nC0, ⟨_, rfl⟩, dD0, .nil, J0, Nat.le_refl _⟩
      · obtain ⟨o, e, r⟩ := hl
        exact ⟨o, up _ _ e, r⟩
      · intro p hp
        simp only [List.mem_cons] at hp
        rcases hp with rfl | rfl | rfl | hp
        · exact ⟨hC0, Ne.symm hLC, fC⟩
        · exact ⟨cc4, Ne.symm hLX, fX⟩
        · exact ⟨hD0, Ne.symm hLD, fD⟩
        · exact ⟨up _ _ (N p hp).1, (N p hp).2⟩
  exact codeAny_compStart_dict (loop _) (W.self 0 _ _ _ ⟨it4, let ⟨o, e, r⟩ := hl; ⟨o, up _ _ e, r⟩⟩ (loop _))
end
noncomputable abbrev PR : Program := PySem.Challenge.rw_xn0027_01.row.prog
noncomputable abbrev loose : List Str := looseW hd.view_39 [Str.ofString "_name_disallowed_re", Str.ofString "_value_disallowed_re"]
theorem leN {a b : Nat} (h : a ≤ b) : a ≤ b := h
theorem above_ne {n : List (Addr × Obj)} {a c : Addr} (h : ∀ p ∈ n, p.1 < a) (hc : a ≤ c) : ∀ p ∈ n, p.1 ≠ c := fun p hp => Nat.ne_of_lt (Nat.lt_of_lt_of_le (h p hp) hc)
/-- the rows of a table: tuples of two texts -/
inductive Rows (news : List (Addr × Obj)) : List Value → List (Str × Str) → Prop
  | nil : Rows news [] []
  | cons {a : Addr} {k v : Str} {tk tv : Tok} {n : Nat} {vs : List Value} {T : List (Str × Str)} : (a, ({ cls := .type "tuple", data := .seq #[.str k tk, .str v tv] n } : Obj)) ∈ news → Rows news vs T → Rows news (.ref a :: vs) ((k, v) :: T)
theorem Rows.mono {news news' : List (Addr × Obj)} {vs : List Value} {T : List (Str × Str)} (h : Rows news vs T) (hs : ∀ p ∈ news, p ∈ news') : Rows news' vs T := by
  induction h with
  | nil => exact .nil
  | cons hm _ ih => exact .cons (hs _ hm) ih
theorem Rows.length {news : List (Addr × Obj)} {vs : List Value} {T : List (Str × Str)} (h : Rows news vs T) : vs.length = T.length := by
  induction h with
  | nil => rfl
  | cons _ _ ih => simp [ih]
theorem Rows.at {news : List (Addr × Obj)} {vs : List Value} {T : List (Str × Str)} (h : Rows news vs T) : ∀ {i : Nat} {x : Value}, vs[i]? = some x → ∃ a k v tk tv n, x = .ref a ∧ T[i]? = some (k, v) ∧ (a, ({ cls := .type "tuple", data := .seq #[.str k tk, .str v tv] n } : Obj)) ∈ news := by
  induction h with
  | nil => intro i x e; simp at e
  | cons hm _ ih =>
    intro i x e
    cases i with
    | zero => simp at e; subst e; exact ⟨_, _, _, _, _, _, rfl, rfl, hm⟩
    | succ i => simp at e; simpa using ih e
theorem Rows.refs {news : List (Addr × Obj)} {vs : List Value} {T : List (Str × Str)} (h : Rows news vs T) : ∀ v ∈ vs, ∃ a, v = .ref a := by
  induction h with
  | nil => intro v hv; cases hv
  | cons _ _ ih => intro v hv; rcases List.mem_cons.mp hv with rfl | hv; exact ⟨_, rfl⟩; exact ih v hv
structure TabIn (news : List (Addr × Obj)) (t l d : Addr) (hs : Int) (tkk : Tok) (nn : Nat) (vs : List Value) (ln : Nat) (T : List (Str × Str)) : Prop where
  inst : (t, instObj 171 d) ∈ news
  dict : (d, dictOf [⟨hs, .str (Str.ofString "_headers") tkk, .ref l⟩] nn) ∈ news
  list : (l, listOf vs.toArray ln) ∈ news
  rows : Rows news vs T
  short : ∀ p ∈ T, p.1.length < 1000
noncomputable def look (T : List (Str × Str)) (key : Str) : Option Str := (T.find? fun p => Txt.lower p.1 == key).map (·.2)
theorem look_hit {T : List (Str × Str)} {key k v : Str} : ∀ {i : Nat}, (∀ p ∈ T.take i, (Txt.lower p.1 == key) = false) → T[i]? = some (k, v) → (Txt.lower k == key) = true → look T key = some v := by
  induction T with
  | nil => intro i _ h; simp at h
  | cons q r ih =>
    intro i h1 h2 h3
    unfold look
    cases i with
    | zero => simp at h2; subst h2; simp [h3]
    | succ i =>
      have hq := h1 q (by simp)
      rw [List.find?_cons, hq]
      exact ih (i := i) (fun p hp => h1 p (by simp [hp])) (by simpa using h2) h3
theorem look_miss {T : List (Str × Str)} {key : Str} (h : ∀ p ∈ T, (Txt.lower p.1 == key) = false) : look T key = none := by
  unfold look
  rw [List.find?_eq_none.mpr (fun p hp => by simp [h p hp])]
  rfl
theorem take_next {T : List (Str × Str)} {key : Str} {i : Nat} {p : Str × Str} (h : ∀ p ∈ T.take i, (Txt.lower p.1 == key) = false) (hp : T[i]? = some p) (h2 : (Txt.lower p.1 == key) = false) : ∀ p ∈ T.take (i + 1), (Txt.lower p.1 == key) = false := by
  intro q hq
  rw [List.take_add_one, hp] at hq
  rcases List.mem_append.mp hq with hq | hq
  · exact h q hq
  · simp at hq; subst hq; exact h2
theorem Rows.snoc {news : List (Addr × Obj)} {a : Addr} {k v : Str} {tk tv : Tok} {n : Nat} (hm : (a, ({ cls := .type "tuple", data := .seq #[.str k tk, .str v tv] n } : Obj)) ∈ news) :
    ∀ {vs : List Value} {T : List (Str × Str)}, Rows news vs T → Rows news (vs ++ [.ref a]) (T ++ [(k, v)]) := by
  intro vs T h
  induction h with
  | nil => exact .cons hm .nil
  | cons h1 _ ih => exact .cons h1 ih
theorem off1_ne {D l : Addr} {o : Obj} {c : Addr × Obj} {news : List (Addr × Obj)} (off : PyProof.Rows.LCg.Off1 D (c :: news)) (h : (l, o) ∈ news) : D ≠ l := by
  have : ∀ (n : List (Addr × Obj)), PyProof.Rows.LCg.Off1 D n → ∀ p ∈ n, p.1 ≠ D := by
    intro n
    induction n with
    | nil => intro _ p hp; cases hp
    | cons q r ih =>
      intro x p hp
      rcases List.mem_cons.mp hp with rfl | hp
      · exact x.1
      · exact ih x.2 p hp
  exact Ne.symm (this _ off (l, o) (List.mem_cons_of_mem _ h))
noncomputable def delT (T : List (Str × Str)) (key : Str) : List (Str × Str) := T.filter (fun p => !(Txt.lower p.1 == key))
theorem delT_next {T : List (Str × Str)} {key : Str} {i : Nat} {p : Str × Str} (hp : T[i]? = some p) : delT (T.take (i + 1)) key = delT (T.take i) key ++ (if Txt.lower p.1 == key then [] else [p]) := by
  unfold delT
  rw [List.take_add_one, hp, List.filter_append]
  by_cases h : (Txt.lower p.1 == key) = true
  · simp [h]
  · simp [h]
theorem delT_in {news : List (Addr × Obj)} {T : List (Str × Str)} {key k v : Str} {i n : Nat} {a : Addr} {tk tv : Tok} {ys : List Value} (h : Rows news ys (delT (T.take i) key)) (hp : T[i]? = some (k, v))
    (hm : (a, ({ cls := .type "tuple", data := .seq #[.str k tk, .str v tv] n } : Obj)) ∈ news) (hc : (!(Txt.lower k == key)) = true) : Rows news (ys ++ [.ref a]) (delT (T.take (i + 1)) key) := by
  rw [delT_next hp, if_neg (by simpa using hc)]
  exact Rows.snoc hm h
theorem delT_out {news : List (Addr × Obj)} {T : List (Str × Str)} {key k v : Str} {i : Nat} {ys : List Value} (h : Rows news ys (delT (T.take i) key)) (hp : T[i]? = some (k, v))
    (hc : (!(Txt.lower k == key)) = false) : Rows news ys (delT (T.take (i + 1)) key) := by
  rw [delT_next hp, if_pos (by simpa using hc), List.append_nil]
  exact h
/-- all but one place of a ledger stands in another -/
noncomputable def Upto (l : Addr) (n n' : List (Addr × Obj)) : Prop := ∀ p ∈ n, p.1 ≠ l → p ∈ n'
theorem Upto.refl (l : Addr) (n : List (Addr × Obj)) : Upto l n n := fun _ hp _ => hp
theorem Upto.trans {l : Addr} {n n' n'' : List (Addr × Obj)} (a : Upto l n n') (b : Upto l n' n'') : Upto l n n'' := fun p hp h => b p (a p hp h) h
theorem Upto.drop {l : Addr} {n n' n'' : List (Addr × Obj)} (a : Upto l n n') (hs : ∀ p ∈ n'', p ∈ n) : Upto l n'' n' := fun p hp h => a p (hs p hp) h
theorem news_ne {g h : Heap} {L a b : Addr} {oa ob : Obj} {n : List (Addr × Obj)} (N : News g L h n) (ha : (a, oa) ∈ n) (hb : (b, ob) ∈ n) (hc : oa.cls ≠ ob.cls) : a ≠ b := by
  rintro rfl
  have h1 := (N _ ha).1
  have h2 := (N _ hb).1
  rw [h1] at h2
  exact hc (congrArg Obj.cls (Option.some.inj h2))
theorem Rows.upto {g h : Heap} {L l : Addr} {lo : Obj} {n n' : List (Addr × Obj)} {vs : List Value} {T : List (Str × Str)} (R : Rows n vs T) (N : News g L h n) (hl : (l, lo) ∈ n) (hc : lo.cls = .type "list") (U : Upto l n n') : Rows n' vs T := by
  induction R with
  | nil => exact .nil
  | cons hm _ ih => exact .cons (U _ hm (news_ne N hm hl (by rw [hc]; simp))) ih
theorem TabIn.upto {g h : Heap} {L t l d : Addr} {hs : Int} {tkk : Tok} {nn ln ln' : Nat} {vs vs' : List Value} {T T' : List (Str × Str)} {n n' : List (Addr × Obj)} (TI : TabIn n t l d hs tkk nn vs ln T) (N : News g L h n) (U : Upto l n n')
    (hl : (l, listOf vs'.toArray ln') ∈ n') (hR : Rows n' vs' T') (hS : ∀ p ∈ T', p.1.length < 1000) : TabIn n' t l d hs tkk nn vs' ln' T' :=
  ⟨U _ TI.inst (news_ne N TI.inst TI.list (by simp)), U _ TI.dict (news_ne N TI.dict TI.list (by simp)), hl, hR, hS⟩
theorem TabIn.cons {t l d : Addr} {hs : Int} {tkk : Tok} {nn ln : Nat} {vs : List Value} {T : List (Str × Str)} {n : List (Addr × Obj)} {q : Addr × Obj} (TI : TabIn n t l d hs tkk nn vs ln T) : TabIn (q :: n) t l d hs tkk nn vs ln T :=
  ⟨List.mem_cons_of_mem _ TI.inst, List.mem_cons_of_mem _ TI.dict, List.mem_cons_of_mem _ TI.list, TI.rows.mono fun _ h => List.mem_cons_of_mem _ h, TI.short⟩
theorem delT_short {T : List (Str × Str)} {key : Str} (h : ∀ p ∈ T, p.1.length < 1000) : ∀ p ∈ delT T key, p.1.length < 1000 := fun p hp => h p (List.mem_filter.mp hp).1
/-- a ledger with one object's place set anew -/
noncomputable def putAt (a : Addr) (o : Obj) (n : List (Addr × Obj)) : List (Addr × Obj) := (a, o) :: n.filter (fun p => p.1 != a)
theorem putAt_mem {a : Addr} {o : Obj} {n : List (Addr × Obj)} {p : Addr × Obj} (hp : p ∈ n) (h : p.1 ≠ a) : p ∈ putAt a o n :=
  List.mem_cons_of_mem _ (List.mem_filter.mpr ⟨hp, by simpa using h⟩)
theorem putAt_self {a : Addr} {o : Obj} {n : List (Addr × Obj)} : (a, o) ∈ putAt a o n := List.mem_cons_self ..
theorem news_putAt {g h h' : Heap} {L a : Addr} {o o' : Obj} {n : List (Addr × Obj)} (N : News g L h n) (hm : (a, o) ∈ n) (hs : Heap.SameBut a h h') (ho : h'.get? a = some o') : News g L h' (putAt a o' n) := by
  intro p hp
  rcases List.mem_cons.mp hp with rfl | hp
  · exact ⟨ho, (N _ hm).2⟩
  · obtain ⟨hp, hne⟩ := List.mem_filter.mp hp
    have hne : p.1 ≠ a := by simpa using hne
    exact ⟨(hs.2 _ hne).trans (N _ hp).1, (N _ hp).2⟩
theorem fr_putAt {g h h' : Heap} {L a : Addr} {o : Obj} {m : Str → Option Value} {n : List (Addr × Obj)} (F : Fr g L h m) (N : News g L h n) (hm : (a, o) ∈ n) (hs : Heap.SameBut a h h') : Fr g L h' m :=
  F.change hs (N _ hm).2.1 (N _ hm).2.2
theorem args_list_setitem_any (a b c : Value) : argsOk "list.__setitem__" ⟨[a, b, c], []⟩ := args_list_setitem a b c
section
variable {prog : Program} {w : World} {A : Around} {E : Value → Shared → Prop} {s : Shared}
/-- xs[:] = ys -/
theorem setSlice_all {l D sl : Addr} {items new : Array Value} {ln : Nat} {Q : Unit → Shared → Prop}
    (hl : s.heap.get? l = some (listOf items ln)) (hD : s.heap.IsList D new) (hsl : s.heap.IsSliceOf sl .none .none .none) (hne : D ≠ l)
    (h1 : items.size < 1000) (h2 : new.size < 1000)
    (h : ∀ h' ln', Heap.SameBut l s.heap h' → h'.get? l = some (listOf new ln') → Q () { s with heap := h' }) :
    wpAny (model prog w) A (setItem (.ref l) (.ref sl) (.ref D)) Q E s := by
  have hL : s.heap.IsList l items := ⟨_, hl, rfl, ln, rfl⟩
  obtain ⟨osl, hosl, hcsl, hdsl⟩ := id hsl
  obtain ⟨oD, hoD, hcD, nD, hdD⟩ := id hD
  unfold setItem
  try with_reducible refine wpAny_holding ?_
  first | refine wpAny_bind (wpAny_pure ?_) | skip
  refine wpAny_bind (wpAny_sequenceKey hL.typeIs (by decide) ?_)
  refine wpAny_bind (wpAny_callSpecial?_slot (name := Str.ofString "__setitem__") hL.typeIs slot_list_setitem
    (wpAny_call_entry slot_list_setitem hL.typeIs entry_list_setitem ?_ (args_list_setitem_any _ _ _)))
  have hTs : s.TypeIs (.ref sl) "slice" := ⟨osl, hosl, hcsl⟩
  have hTD : s.TypeIs (.ref D) "list" := ⟨oD, hoD, hcD⟩
  show wpAny _ _ (Builtin.List.listSubscript? (.ref sl) >>= _) _ _ s
  refine wpAny_bind ?_
  unfold Builtin.List.listSubscript?
  refine wpAny_bind (wpAny_specialOf hTs slice_no_index ?_)
  simp only [Option.isNone_none, if_true]
  refine wpAny_pure ?_
  show wpAny _ _ (typeOf (.ref sl) >>= _) _ _ s
  refine wpAny_bind (wpAny_typeOf hTs ?_)
  rw [if_neg (by decide)]
  rw [listSliceParts_eq]
  refine wpAny_bind (wpAny_bind (wpAny_field hosl hdsl (x := .none) rfl ?_))
  refine wpAny_bind (wpAny_listPart .none ?_)
  rw [if_neg (by decide)]
  refine wpAny_bind (wpAny_field hosl hdsl (x := .none) rfl (wpAny_bind (wpAny_listPart .none ?_)))
  refine wpAny_bind (wpAny_field hosl hdsl (x := .none) rfl (wpAny_bind (wpAny_listPart .none (wpAny_pure ?_))))
  have hsame : Builtin.List.listSameRef (.ref l) (.ref D) = false := by
    show (l == D) = false
    simpa using Ne.symm hne
  dsimp only
  rw [hsame]
  simp only [Bool.false_eq_true, if_false]
  unfold Builtin.List.listAllItems
  refine wpAny_bind (wpAny_bind (wpAny_typeOf hTD ?_))
  rw [if_pos (by decide)]
  unfold Builtin.List.listItems
  refine wpAny_bind (wpAny_seqItems hoD hdD (wpAny_pure ?_))
  refine wpAny_bind (wpAny_bind (wpAny_seqItems hl rfl (wpAny_pure ?_)))
  refine wpAny_bind (wpAny_of_eq (sliceIndices_raw none none none items.size (by simp)) ?_)
  have hb : sliceBounds none none none items.size = (0, (items.size : Int), 1) := rfl
  rw [hb]
  dsimp only
  rw [if_pos (by decide)]
  refine wpAny_bind (wpAny_rule ?_)
  have htl : Builtin.List.listTooLong (items.size + new.size) = false := by
    unfold Builtin.List.listTooLong
    simp only [decide_eq_false_iff_not, sizeLine_eq]
    (first | lia | omega)
  rw [htl]
  simp only [Bool.false_eq_true, if_false]
  have e1 : (Int.toNat 0) = 0 := rfl
  have e2 : (max (0 : Int) (items.size : Int)).toNat = items.size := by (first | lia | omega)
  rw [e1, e2]
  have hf : ∀ xs : Array Value, xs.size = items.size → xs.extract 0 0 ++ new ++ xs.extract items.size xs.size = new := by
    intro xs hx
    simp [hx]
  have hsz : (items.extract 0 0 ++ new ++ items.extract items.size items.size).size ≤ sizeLine + 1 := by rw [hf items rfl, sizeLine_eq]; (first | lia | omega)
  unfold Builtin.List.listUpdate
  refine wpAny_bind (wpAny_updateSeq (f := fun xs => xs.extract 0 0 ++ new ++ xs.extract items.size xs.size) hl rfl ?_ (by rw [sizeLine_eq]; (first | lia | omega)) hsz)
  refine wpAny_bind (wpAny_letGo ?_)
  refine wpAny_pure ⟨.none, rfl, wpAny_pure ?_⟩
  refine h _ (if (items.extract 0 0 ++ new ++ items.extract items.size items.size).size == items.size then ln else ln + 1) (Heap.SameBut.update ..) ?_
  have := Heap.get?_update_self (Obj.mapSeq fun xs => xs.extract 0 0 ++ new ++ xs.extract items.size xs.size) hl rfl
  rw [this]
  simp only [Obj.mapSeq, hf items rfl]
theorem setSlice_push {g h : Heap} {L l D : Addr} {m : Str → Option Value} {news : List (Addr × Obj)} {items new : Array Value} {ln dn : Nat} {Q : Unit → Shared → Prop} (F : Fr g L h m) (N : News g L h news)
    (hl : (l, listOf items ln) ∈ news) (hD : (D, listOf new dn) ∈ news) (hne : D ≠ l) (h1 : items.size < 1000) (h2 : new.size < 1000)
    (hs : s.heap = h.push { cls := .type "slice", data := .fields #[.none, .none, .none] })
    (cont : ∀ h' ln', Fr g L h' m → News g L h' (putAt l (listOf new ln') news) → Q () { s with heap := h' }) :
    wpAny (model prog w) A (setItem (.ref l) (.ref h.objs.size) (.ref D)) Q E s := by
  have F' : Fr g L s.heap m := hs ▸ F.push _
  have N' : News g L s.heap news := by rw [hs]; exact N.grown fun _ _ e => Heap.get?_push_of_some _ e
  refine setSlice_all (N'.get hl) ⟨_, N'.get hD, rfl, _, rfl⟩ (hs ▸ Heap.IsSliceOf.new ..) hne h1 h2 fun h' ln' hsb hg => ?_
  exact cont h' ln' (fr_putAt F' N' hl hsb) (news_putAt N' hl hsb hg)
theorem append_P {g : Heap} {L l : Addr} {m : Str → Option Value} {news : List (Addr × Obj)} {items : Array Value} {ln : Nat} {x : Value} {Q : Value → Shared → Prop} (F : Fr g L s.heap m) (N : News g L s.heap news)
    (hl : (l, listOf items ln) ∈ news) (hsz : items.size < 1000)
    (cont : ∀ h', Fr g L h' m → News g L h' (putAt l (listOf (items.push x) (ln + 1)) news) → Q .none { s with heap := h' }) :
    wpAny (model prog w) A (call (.builtin "list.append") [.ref l, x]) Q E s :=
  append_at (hsz := by rw [sizeLine_eq]; (first | lia | omega)) (N.get hl) fun h' hs ho' => cont h' (fr_putAt F N hl hs) (news_putAt N hl hs ho')
end
theorem own_delItem {M : Model} {A : Around} {E : Value → Shared → Prop} {s : Shared} {K : Frag} {x C L f : Addr} {h₀ : Heap} {m : Str → Option Value} {ox : Obj} {od : Option Obj} {i : Value} {Q : Unit → Shared → Prop}
    (F : Fr h₀ L s.heap m) (X₀ : K.In h₀) (I : InstAt s.heap x ox C od) (hq : noSeq K C = true) (hs : findIn K (.ref C) "__delitem__" = some (some (.ref f))) (hf : isFn K (.ref f) = true)
    (h : wpAny M A (call (.ref f) [.ref x, i]) (fun _ s' => Q () s') E s) : wpAny M A (delItem (.ref x) i) Q E s := by
  have X := X₀.keeps F.keep
  unfold delItem sequenceKey
  refine wpAny_holding (wpAny_bind (wpAny_bind (I.type.here ?_)))
  refine wpAny_bind ((anyM_none X hq).here ?_)
  rw [if_pos (show (!false) = true from rfl)]
  exact wpAny_pure (wpAny_bind (special_fn X I hs (beq_iff_eq.mp hf) (wpAny_mono h (fun _ _ z => wpAny_pure z) fun _ _ z => z)))
theorem set_end {g g₀ h h₁ : Heap} {L L₀ t l d D : Addr} {hs : Int} {tkk : Tok} {nn l1 : Nat} {v1 : List Value} {T1 : List (Str × Str)} {news n1 : List (Addr × Obj)} {nm vl : Str} {tn tv : Tok} {k : Nat}
    (U : Upto l news n1) (TI1 : TabIn n1 t l d hs tkk nn v1 l1 T1) (N9 : News g L h ((D, ({ cls := .type "tuple", data := .seq #[.str nm tn, .str vl tv] k } : Obj)) :: n1))
    (N3 : News g₀ L₀ h₁ (putAt l (listOf (v1.toArray.push (.ref D)) (l1 + 1)) ((D, ({ cls := .type "tuple", data := .seq #[.str nm tn, .str vl tv] k } : Obj)) :: n1))) (hn : nm.length < 1000) :
    ∃ news' vs' ln', News g₀ L₀ h₁ news' ∧ Upto l news news' ∧ TabIn news' t l d hs tkk nn vs' ln' (T1 ++ [(nm, vl)]) := by
  have U2 : Upto l ((D, ({ cls := .type "tuple", data := .seq #[.str nm tn, .str vl tv] k } : Obj)) :: n1) (putAt l (listOf (v1.toArray.push (.ref D)) (l1 + 1)) ((D, ({ cls := .type "tuple", data := .seq #[.str nm tn, .str vl tv] k } : Obj)) :: n1)) := fun p hp hne => putAt_mem hp hne
  refine ⟨_, v1 ++ [.ref D], l1 + 1, N3, U.trans (U2.drop fun p hp => List.mem_cons_of_mem _ hp), ?_⟩
  refine TI1.cons.upto N9 U2 ?_ (Rows.upto (Rows.snoc (List.mem_cons_self ..) TI1.cons.rows) N9 (List.mem_cons_of_mem _ TI1.list) rfl U2) ?_
  · rw [show (v1 ++ [Value.ref D]).toArray = v1.toArray.push (.ref D) from by simp]
    exact putAt_self
  · intro p hp
    rcases List.mem_append.mp hp with hp | hp
    · exact TI1.short p hp
    · simp at hp; subst hp; exact hn
section
local macro_rules | `(tactic| k_ne) => `(tactic| (refine neN ?_; (try dsimp only); first | with_reducible assumption | with_reducible exact Ne.symm (by assumption) | omega))
local macro_rules | `(tactic| k_units) => `(tactic| ((try simp only [units_in1, units_deeper, units_under_make, Around.mark_units]); (try dsimp only); omega))
local macro_rules | `(tactic| k_room) => `(tactic| ((try simp only [depth_mark, depth_under_make, depth_under_kw, depth_in1, depth_deeper, depth_caller]); (try dsimp only); omega))
local macro_rules | `(tactic| k_mem) => `(tactic| first | with_reducible assumption | (with_reducible exact List.mem_cons_self ..) | (refine' List.mem_cons_of_mem _ ?_; k_mem))
local macro_rules | `(tactic| k_all) => `(tactic| (refine above_ne (by assumption) ?_; first | exact Nat.le_refl _ | exact Nat.le_succ _ | (refine leN ?_; omega)))
theorem lines0 : True := by
  k_with_none
  (k_with "M:enter" => (
  (case zqkA => exact rfl); (case zqkF => assumption); (case zqkK => assumption); (case zqk1 => k_asm); (case zqk2 => k_asm); (case zqk3 => k_asm); (case zqk4 => k_asm); (case zqk5 => k_asm); (case zqk6 => k_is); (case zqk7 => k_is); (case zqk8 => k_room); (case zqk9 => first | exact BindsTo.of_eq rfl | exact binds_K (by k_in) rfl (by k_is) rfl rfl rfl); (case zqc5 => decide); (case zqkB => exact locs rfl); (case zqc2 => exact rfl); (case zqc3 => exact rfl); (case zqc4 => exact rfl)))
  (k_with "M:args" => (
  (case zqcB => k_asm); (case zqcF => k_asm); (case zqcX => k_asm); (case zqcN => k_asm); (case zqcT => k_asm); (case zqcA => exact rfl); (case zqcf => first | exact rfl | assumption); (case zqck => first | exact rfl | assumption); (case zqch => exact rfl); (case zqcr => k_room); (case zqcu => k_units)))
  (k_with "M:pat" => first | exact pat_name (by k_in) | exact pat_value (by k_in))
  (k_with "getMethod ref" => (k_here; (with_reducible show wpAny _ _ (getMethod (Value.ref _) (Str.ofString "search") _) _ _ _); k_dflt (refine' method_search (code := ?zqcd) ?zqP ?_; (case zqP => walk_at "M:pat"); k_whole)))
  (k_with "call builtin:re.Pattern.search" => (k_here; k_dflt (refine' call_search (code := ?zqcd) ?zqP ?zqC ?zqX ?zqL ?_; (case zqP => walk_at "M:pat"); (case zqC => first | exact .inl rfl | exact .inr rfl); (case zqX => assumption); (case zqL => assumption); k_whole)))
  (k_with "exec For" => (k_here; k_dflt (refine For_hold ?_)))
  (k_with "call builtin:str.lower" => (k_here; (with_reducible show wpAny _ _ (call (Value.builtin "str.lower") [Value.str _ _]) _ _ _); (refine SCL.lower (by omega) ?_; intro _)))
  (k_with "eval Name" => (k_here; (with_reducible show wpAny _ _ (eval _ (envOf _ _ _ _ _)) _ _ _); k_dflt (refine' ld ?zqk1 ?zqk2 ?_; (case zqk1 => k_asm); (case zqk2 => first | with_reducible assumption | ((try simp only []); assumption)); k_whole)))
  (k_with "assign Tuple" => (k_here; k_dflt (refine' assign_pair ?zqk0 ?zqk1 ?zqk2 ?zqk3 ?_ ?zqk4 ?zqk5 ?zqk6; (case zqk0 => exact rfl); (case zqk1 => k_asm); (case zqk2 => k_asm); (case zqk3 => k_mem); (case zqk4 => exact rfl); (case zqk5 => exact rfl); (case zqk6 => exact rfl); k_whole); intro h' tk' F' N'; (try k_sweep)))
  trivial
theorem freshW1 : True := by
  try row_walk
  trivial
set_option maxHeartbeats 4000000 in
theorem conv_true {w : World} {mean : ExcName → Option Value} {mg mb : Str → Option Value} {A A₀ : Around} {base h₀ : Heap} {outer : List Env} {env : Env} {L : Addr} {m : Str → Option Value} {news : List (Addr × Obj)} {s : Shared} {R : Result → Shared → Prop}
  (B : Below A₀ base outer h₀) (F : Fr h₀ L s.heap m) (X : (hd.heap_39 w.params).In h₀) (N : News h₀ L s.heap news) (T : Top hd.view_39 loose mean mg mb h₀) (hA : A.frames = some (env :: outer)) (hf : env.frame = some L) (hke : env.scope.kind = .function) (hh : A.handled = none) (hroom : A.depth + 2 < recursionLimit) (hun : A.units + 10 < cLine)
  {self : Value} {x : Str} {tx : Tok}
  (hx : Clean x) (hl : x.cps.size < 1000000)
  (ret : ∀ h' tk', Fr h₀ L h' m → News h₀ L h' news → R (.ok (.ret (.str x tx))) { s with heap := h', toks := tk' }) :
  codeAny (model PySem.Challenge.rw_xn0027_01.row.prog w) A (.call (.ref 70) ⟨[self, .str x tx], [(Str.ofString "name", .bool true)]⟩) R s := by
  obtain ⟨hdl, dp, fr, gd, un⟩ := A
  dsimp only at hA hh hroom hun
  subst hA hh
  revert X; k_fill; intro X
  (refine' code_def (binds := [(Str.ofString "self", self), (Str.ofString "value", .str x tx), (Str.ofString "name", .bool true)]) ?zqk1 ?zqk2 ?zqk3 ?zqk4 ?zqk5 ?zqkA ?zqkF ?zqkK ?zqk6 ?zqk7 ?zqk8 ?zqk9 ?zqkB ?_ ?zqc2 ?zqc3 ?zqc4 ?zqc5; walk_at "M:enter"; k_whole)
  intro g' L' h' FG' F' N' B' X' T'; (try dsimp only); (try k_lift B'); (try k_fold)
  k_steps
  exact ret _ _ (by k_asm) (by k_asm)
set_option maxHeartbeats 4000000 in
theorem conv_false {w : World} {mean : ExcName → Option Value} {mg mb : Str → Option Value} {A A₀ : Around} {base h₀ : Heap} {outer : List Env} {env : Env} {L : Addr} {m : Str → Option Value} {news : List (Addr × Obj)} {s : Shared} {R : Result → Shared → Prop}
  (B : Below A₀ base outer h₀) (F : Fr h₀ L s.heap m) (X : (hd.heap_39 w.params).In h₀) (N : News h₀ L s.heap news) (T : Top hd.view_39 loose mean mg mb h₀) (hA : A.frames = some (env :: outer)) (hf : env.frame = some L) (hke : env.scope.kind = .function) (hh : A.handled = none) (hroom : A.depth + 2 < recursionLimit) (hun : A.units + 10 < cLine)
  {self : Value} {x : Str} {tx : Tok}
  (hx : Clean x) (hl : x.cps.size < 1000000)
  (ret : ∀ h' tk', Fr h₀ L h' m → News h₀ L h' news → R (.ok (.ret (.str x tx))) { s with heap := h', toks := tk' }) :
  codeAny (model PySem.Challenge.rw_xn0027_01.row.prog w) A (.call (.ref 70) ⟨[self, .str x tx], [(Str.ofString "name", .bool false)]⟩) R s := by
  obtain ⟨hdl, dp, fr, gd, un⟩ := A
  dsimp only at hA hh hroom hun
  subst hA hh
  revert X; k_fill; intro X
  (refine' code_def (binds := [(Str.ofString "self", self), (Str.ofString "value", .str x tx), (Str.ofString "name", .bool false)]) ?zqk1 ?zqk2 ?zqk3 ?zqk4 ?zqk5 ?zqkA ?zqkF ?zqkK ?zqk6 ?zqk7 ?zqk8 ?zqk9 ?zqkB ?_ ?zqc2 ?zqc3 ?zqc4 ?zqc5; walk_at "M:enter"; k_whole)
  intro g' L' h' FG' F' N' B' X' T'; (try dsimp only); (try k_lift B'); (try k_fold)
  k_steps
  exact ret _ _ (by k_asm) (by k_asm)
theorem lines1 : True := by
  (k_with "call ref" => (k_here; (with_reducible show wpAny _ _ (call (Value.ref _) [_, Value.str _ _] _) _ _ _); k_dflt (refine wpAny_call ?_; (first | refine' conv_true ?zqcB ?zqcF ?zqcX ?zqcN ?zqcT ?zqcA ?zqcf ?zqck ?zqch ?zqcr ?zqcu ?zqx ?zql ?_ | refine' conv_false ?zqcB ?zqcF ?zqcX ?zqcN ?zqcT ?zqcA ?zqcf ?zqck ?zqch ?zqcr ?zqcu ?zqx ?zql ?_); walk_at "M:args"; (case zqx => assumption); (case zql => assumption); k_whole); intro h' tk' F' N'; (try dsimp only); (try k_sweep)))
  (k_with "storeName" => (k_here; (with_reducible show wpAny _ _ (storeName (envOfC _ _ _ _ _) _ _) _ _ _); k_dflt (refine' storeX_C ?zqF ?zqN ?zqc ?zqU ?zqd ?_ ?zqa ?zqb; (case zqa => rfl); (case zqb => rfl); (case zqF => k_asm); (case zqN => k_asm); (case zqc => rfl); (case zqU => k_updF); (case zqd => assumption); k_whole); intro h' o' F' N' d'; (try dsimp only at N'); (try k_sweep)))
  (k_with "eval ListComp" => (k_here; refine Hold.out ?_))
  (k_with "exec Assign cons ListComp" => (k_here; refine Hold.out ?_))
  (k_with "exec While" => (k_here; refine Hold.out ?_))
  trivial
theorem freshW2 : True := by
  try row_walk
  trivial
set_option maxHeartbeats 4000000 in
theorem get_ct {w : World} {mean : ExcName → Option Value} {mg mb : Str → Option Value} {A A₀ : Around} {base h₀ : Heap} {outer : List Env} {env : Env} {L : Addr} {m : Str → Option Value} {news : List (Addr × Obj)} {s : Shared} {R : Result → Shared → Prop}
  (B : Below A₀ base outer h₀) (F : Fr h₀ L s.heap m) (X : (hd.heap_39 w.params).In h₀) (N : News h₀ L s.heap news) (T : Top hd.view_39 loose mean mg mb h₀) (hA : A.frames = some (env :: outer)) (hf : env.frame = some L) (hke : env.scope.kind = .function) (hh : A.handled = none) (hroom : A.depth + 6 < recursionLimit) (hun : A.units + 40 < cLine)
  {t l d : Addr} {hs : Int} {tkk : Tok} {nn ln : Nat} {vs : List Value} {T0 : List (Str × Str)} {nm : Str} {tn : Tok}
  (TI : TabIn news t l d hs tkk nn vs ln T0) (hn1 : nm.length < 1000) (hn2 : Clean (Txt.lower nm)) (hn3 : (Txt.lower nm).cps.size < 1000000)
  (ret1 : ∀ v tv h' tk', look T0 (Txt.lower nm) = some v → Fr h₀ L h' m → News h₀ L h' news → R (.ok (.ret (.str v tv))) { s with heap := h', toks := tk' })
  (ret2 : ∀ h' tk', look T0 (Txt.lower nm) = none → Fr h₀ L h' m → News h₀ L h' news → R (.ok (.ret .none)) { s with heap := h', toks := tk' }) :
  codeAny (model PySem.Challenge.rw_xn0027_01.row.prog w) A (.call (.ref 118) ⟨[.ref t, .str nm tn], []⟩) R s := by
  obtain ⟨hdl, dp, fr, gd, un⟩ := A
  dsimp only at hA hh hroom hun
  subst hA hh
  revert X; k_fill; intro X
  (refine' code_def (binds := [(Str.ofString "self", .ref t), (Str.ofString "name", .str nm tn), (Str.ofString "default", .none)]) ?zqk1 ?zqk2 ?zqk3 ?zqk4 ?zqk5 ?zqkA ?zqkF ?zqkK ?zqk6 ?zqk7 ?zqk8 ?zqk9 ?zqkB ?_ ?zqc2 ?zqc3 ?zqc4 ?zqc5; walk_at "M:enter"; k_whole)
  intro g' L' h' FG' F' N' B' X' T'; (try dsimp only); (try k_lift B'); (try k_fold)
  obtain ⟨hI, hD, hL, hR, hS⟩ := TI
  k_steps
  refine Hold.mk ?_
  with_reducible rename Fr _ _ _ _ => F9
  with_reducible rename News _ _ _ _ => N9
  refine iter_list_J (l := l) rfl F9 N9 hL rfl ⟨_, rfl⟩ (fun i m' n' => n' = news ∧ (∃ t9, m' (Str.ofString "name") = some (.str (Txt.lower nm) t9)) ∧ m' (Str.ofString "default") = some .none ∧ ∀ p ∈ T0.take i, (Txt.lower p.1 == Txt.lower nm) = false) ⟨rfl, ⟨_, rfl⟩, rfl, fun p hp => nomatch hp⟩ (fun i m' n' hj => hj.1 ▸ hL) ?_ ?_ (.inr ⟨⟨_, _, _, rfl⟩, fun v hv => hR.refs v (by simpa using hv)⟩)
  · intro i v m' n' I it h tk hv hj hc F8 N8 off
    obtain ⟨rfl, ⟨t9, hm1⟩, hm2, hall⟩ := hj
    obtain ⟨a, k, vv, tka, tva, na, rfl, hT, hmem⟩ := hR.at (by simpa using hv)
    have hk1 : k.length < 1000 := hS _ (List.mem_of_getElem? hT)
    clear F9 N9
    refine assign_pair rfl F8 N8 (List.mem_cons_of_mem _ hmem) ?_ rfl rfl rfl
    intro h2 tk2 F7 N7
    k_steps
    · with_reducible rename Fr _ _ _ _ => F6
      with_reducible rename News _ _ _ _ => N6
      exact ret1 vv tva _ _ (look_hit hall hT (by assumption)) F6 (cb_drop N6 (fun p hp => List.mem_cons_of_mem _ hp))
    · with_reducible rename Fr _ _ _ _ => F6
      with_reducible rename News _ _ _ _ => N6
      exact TurnJ.intro F6 N6 off ⟨rfl, ⟨t9, hm1⟩, hm2, take_next hall hT (by assumption)⟩
  · intro h tk m' n' hj F8 N8
    obtain ⟨rfl, ⟨t9, hm1⟩, hm2, hall⟩ := hj
    clear F9 N9
    dsimp only
    k_steps
    with_reducible rename Fr _ _ _ _ => F6
    with_reducible rename News _ _ _ _ => N6
    exact ret2 _ _ (look_miss (by simpa [hR.length] using hall)) F6 N6
theorem lines2 : True := by
  (k_with "M:enterC" => (
  (case zqkA => exact rfl); (case zqkF => assumption); (case zqkK => assumption); (case zqk1 => k_asm); (case zqk2 => k_asm); (case zqk3 => k_asm); (case zqk4 => k_asm); (case zqk5 => k_asm); (case zqk6 => k_is); (case zqk7 => k_is); (case zqk8 => k_room); (case zqk9 => first | exact BindsTo.of_eq rfl | exact binds_K (by k_in) rfl (by k_is) rfl rfl rfl); (case zqkB => exact rfl); (case zqkD => decide +kernel); (case zqc2 => exact rfl); (case zqc3 => exact rfl); (case zqc4 => exact rfl)))
  trivial
theorem freshW3 : True := by
  try row_walk
  trivial
set_option maxHeartbeats 4000000 in
theorem del_ct {w : World} {mean : ExcName → Option Value} {mg mb : Str → Option Value} {A A₀ : Around} {base h₀ : Heap} {outer : List Env} {env : Env} {L : Addr} {m : Str → Option Value} {news : List (Addr × Obj)} {s : Shared} {R : Result → Shared → Prop}
  (B : Below A₀ base outer h₀) (F : Fr h₀ L s.heap m) (X : (hd.heap_39 w.params).In h₀) (N : News h₀ L s.heap news) (T : Top hd.view_39 loose mean mg mb h₀) (hA : A.frames = some (env :: outer)) (hf : env.frame = some L) (hke : env.scope.kind = .function) (hh : A.handled = none) (hroom : A.depth + 6 < recursionLimit) (hun : A.units + 40 < cLine)
  {t l d : Addr} {hs : Int} {tkk : Tok} {nn ln : Nat} {vs : List Value} {T0 : List (Str × Str)} {nm : Str} {tn : Tok}
  (TI : TabIn news t l d hs tkk nn vs ln T0) (hlen : T0.length < 100) (hn1 : nm.length < 1000) (hn2 : Clean (Txt.lower nm)) (hn3 : (Txt.lower nm).cps.size < 1000000)
  (ret : ∀ h' tk' news' vs' ln', Fr h₀ L h' m → News h₀ L h' news' → Upto l news news' → TabIn news' t l d hs tkk nn vs' ln' (delT T0 (Txt.lower nm)) → R (.ok (.ret .none)) { s with heap := h', toks := tk' }) :
  codeAny (model PySem.Challenge.rw_xn0027_01.row.prog w) A (.call (.ref 89) ⟨[.ref t, .str nm tn], []⟩) R s := by
  obtain ⟨hdl, dp, fr, gd, un⟩ := A
  dsimp only at hA hh hroom hun
  subst hA hh
  revert X; k_fill; intro X
  (refine' code_defC (binds := [(Str.ofString "self", .ref t), (Str.ofString "name", .str nm tn)]) ?zqk1 ?zqk2 ?zqk3 ?zqk4 ?zqk5 ?zqkA ?zqkF ?zqkK ?zqk6 ?zqk7 ?zqk8 ?zqk9 ?zqkB ?zqkD ?_ ?zqc2 ?zqc3 ?zqc4; walk_at "M:enterC"; k_whole)
  intro g' L' h' tk' cells' FG' F' N' Y' B' X' T' l1; k_cells Y'; (try simp only [List.cons_append, List.nil_append] at N'); (try dsimp only); (try k_lift B'); (try k_fold)
  obtain ⟨hI, hD, hL, hR, hS⟩ := TI
  k_steps
  refine Hold.mk ?_
  with_reducible rename Fr _ _ _ _ => F8
  refine wpAny_Assign_Subscript ?_
  k_dflt (refine LCt.ListComp_T (F₀ := F8) (by with_unfolding_all rfl) (by decide) (by rfl) (by decide) (by rfl) ?_)
  k_steps
  with_reducible rename Fr _ _ _ _ => F7
  with_reducible rename News _ _ _ _ => N7
  have hvl : vs.length < 100 := by rw [hR.length]; exact hlen
  refine LCt.CompSrcT.ledger rfl F7 N7 (List.mem_cons_of_mem _ hL) (by rw [sizeLine_eq, List.size_toArray]; omega) (fun g => compRestT_J (fun i ys => Rows news ys (delT (T0.take i) (Txt.lower nm))) Rows.nil ?_ (.inr ⟨_, List.mem_cons_of_mem _ hL, rfl, _, rfl⟩) ?_)
  · intro ys hys D h tk F6 N6 off
    clear F7 N7
    k_steps
    k_dflt (refine setSlice_push (ln := ln) (dn := ys.length) F6 N6 (by k_mem) (by k_mem) ?_ (by simpa [hR.length] using Nat.lt_of_lt_of_le hlen (by decide)) (by rw [List.size_toArray, hys.length]; exact Nat.lt_of_le_of_lt (List.length_filter_le ..) (by simp; omega)) rfl ?_)
    · intro e; exact off1_ne off hL e
    intro h4 ln4 F4 N4
    dsimp only at F4 N4 ⊢
    k_steps
    with_reducible rename Fr _ _ _ _ => F3
    with_reducible rename News _ _ _ _ => N3
    have hup : Upto l news (putAt l (listOf ys.toArray ln4) news) := fun p hp hne => putAt_mem hp hne
    have TI0 : TabIn news t l d hs tkk nn vs ln T0 := ⟨hI, hD, hL, hR, hS⟩
    refine ret _ _ _ ys ln4 F3 (cb_drop N3 ?_) hup (TI0.upto N hup putAt_self (Rows.upto (by simpa [hR.length] using hys) N hL rfl hup) (delT_short hS))
    intro p hp
    rcases List.mem_cons.mp hp with rfl | hp
    · exact putAt_self
    · obtain ⟨hp, hne⟩ := List.mem_filter.mp hp
      exact putAt_mem (List.mem_cons_of_mem _ (List.mem_cons_of_mem _ hp)) (by simpa using hne)
  · intro i v ys I oI C oC D m₂ h tk E' hi hP hJ hns hx F6 N6 off ne
    obtain ⟨a, k, vv, tka, tva, na, rfl, hT, hmem⟩ := hR.at (by simpa using hP)
    have hk1 : k.length < 1000 := hS _ (List.mem_of_getElem? hT)
    clear F7 N7
    dsimp only
    k_steps
    · exact CEnd.intro (by k_asm) (by k_asm) (delT_in hJ hT hmem (by assumption))
    · exact CEnd.intro (by k_asm) (by k_asm) (delT_out hJ hT (by assumption))
theorem lines3 : True := by
  (k_with "M:tab" => first | with_reducible assumption | (refine TabIn.cons ?_; walk_at "M:tab"))
  (k_with "call ref" => (k_here; (with_reducible show wpAny _ _ (call (Value.ref _) [_, Value.str _ _]) _ _ _); k_dflt (refine wpAny_call ?_; refine' del_ct ?zqcB ?zqcF ?zqcX ?zqcN ?zqcT ?zqcA ?zqcf ?zqck ?zqch ?zqcr ?zqcu ?zqt ?zql ?zqn1 ?zqn2 ?zqn3 ?_; walk_at "M:args"; (case zqt => walk_at "M:tab"); (case zql => assumption); (case zqn1 => assumption); (case zqn2 => assumption); (case zqn3 => assumption); k_whole); intro h' tk' news' vs' ln' F' N' U' TI'; (have hI' := TabIn.inst TI'); (have hD' := TabIn.dict TI'); (have hL' := TabIn.list TI'); (try dsimp only); (try k_sweep)))
  (k_with "delItem ref" => (k_here; (with_reducible show wpAny _ _ (delItem (Value.ref _) _) _ _ _); k_dflt (refine' own_delItem ?zqF ?zqX ?zqI ?zqhQ ?zqhS ?zqhF ?_; (case zqF => k_asm); (case zqX => k_asm); (case zqI => k_inst); (case zqhS => k_is); (case zqhF => k_is); (case zqhQ => k_is); k_whole)))
  (k_with "call builtin:list.append" => (k_here; k_dflt (refine' append_P ?zqf ?zqn ?zql ?zqz ?_; (case zqf => k_asm); (case zqn => k_asm); (case zql => k_mem); (case zqz => assumption); k_whole); intro h' F' N'; (try k_sweep)))
  trivial
theorem freshW4 : True := by
  try row_walk
  trivial
set_option maxHeartbeats 4000000 in
theorem set_ct {w : World} {mean : ExcName → Option Value} {mg mb : Str → Option Value} {A A₀ : Around} {base h₀ : Heap} {outer : List Env} {env : Env} {L : Addr} {m : Str → Option Value} {news : List (Addr × Obj)} {s : Shared} {R : Result → Shared → Prop}
  (B : Below A₀ base outer h₀) (F : Fr h₀ L s.heap m) (X : (hd.heap_39 w.params).In h₀) (N : News h₀ L s.heap news) (T : Top hd.view_39 loose mean mg mb h₀) (hA : A.frames = some (env :: outer)) (hf : env.frame = some L) (hke : env.scope.kind = .function) (hh : A.handled = none) (hroom : A.depth + 10 < recursionLimit) (hun : A.units + 70 < cLine)
  {t l d : Addr} {hs : Int} {tkk : Tok} {nn ln : Nat} {vs : List Value} {T0 : List (Str × Str)} {nm vl : Str} {tn tv : Tok}
  (TI : TabIn news t l d hs tkk nn vs ln T0) (hlen : T0.length < 100) (hn1 : nm.length < 1000) (hn2 : Clean (Txt.lower nm)) (hn3 : (Txt.lower nm).cps.size < 1000000) (hn4 : Clean nm) (hn5 : nm.cps.size < 1000000) (hn6 : Clean vl) (hn7 : vl.cps.size < 1000000)
  (ret : ∀ h' tk' news' vs' ln', Fr h₀ L h' m → News h₀ L h' news' → Upto l news news' → TabIn news' t l d hs tkk nn vs' ln' (delT T0 (Txt.lower nm) ++ [(nm, vl)]) → R (.ok (.ret .none)) { s with heap := h', toks := tk' }) :
  codeAny (model PySem.Challenge.rw_xn0027_01.row.prog w) A (.call (.ref 84) ⟨[.ref t, .str nm tn, .str vl tv], []⟩) R s := by
  obtain ⟨hdl, dp, fr, gd, un⟩ := A
  dsimp only at hA hh hroom hun
  subst hA hh
  revert X; k_fill; intro X
  (refine' code_def (binds := [(Str.ofString "self", .ref t), (Str.ofString "name", .str nm tn), (Str.ofString "val", .str vl tv)]) ?zqk1 ?zqk2 ?zqk3 ?zqk4 ?zqk5 ?zqkA ?zqkF ?zqkK ?zqk6 ?zqk7 ?zqk8 ?zqk9 ?zqkB ?_ ?zqc2 ?zqc3 ?zqc4 ?zqc5; walk_at "M:enter"; k_whole)
  intro g' L' h' FG' F' N' B' X' T'; (try dsimp only); (try k_lift B'); (try k_fold)
  have hI := TI.inst
  have hD := TI.dict
  have hL := TI.list
  k_steps
  with_reducible rename Fr _ _ _ _ => F9
  with_reducible rename News _ _ _ _ => N9
  with_reducible rename TabIn _ _ _ _ _ _ _ _ _ _ => TI9
  with_reducible rename Upto _ _ _ => U9
  k_dflt (refine append_P F9 N9 (List.mem_cons_of_mem _ TI9.list) ?_ ?_)
  · rw [List.size_toArray, TI9.rows.length]
    exact Nat.lt_of_le_of_lt (List.length_filter_le ..) (by omega)
  intro h4 F4 N4
  k_steps
  with_reducible rename Fr _ _ _ _ => F3
  with_reducible rename News _ _ _ _ => N3
  obtain ⟨n5, v5, l5, N5, U5, TI5⟩ := set_end U9 TI9 N9 N3 hn1
  exact ret _ _ n5 v5 l5 F3 N5 U5 TI5
section
open PyProof.Rows.LCg PyProof.Rows.LCp
variable {prog : Program} {w : World} {A : Around} {E : Value → Shared → Prop} {s : Shared} {h₀ : Heap} {L : Addr} {m : Str → Option Value} {env : Env}
theorem freshW5 : True := by
  try row_walk
  trivial
theorem compRestP_J {elt : Expr} {x x₂ : Str} {scope : Scope} {cl : List (Str × Addr)} {S : List (Addr × Obj) → Prop} {P : Nat → Value → Prop} {Fin : List Value → List (Addr × Obj) → Prop} {n : Nat} {news : List (Addr × Obj)}
    (J : Nat → List Value → Prop) (h0 : J 0 []) (fin : ∀ ys, J n ys → Fin ys news) (hS : S news)
    (turn : ∀ i v ys, i < n → P i v → J i ys → ∃ (t : Addr) (ot : Obj) (v₁ v₂ : Value) (nt : Nat), v = .ref t ∧ (t, ot) ∈ news ∧ ot.cls = .type "tuple" ∧ ot.data = .seq #[v₁, v₂] nt ∧
      ∀ I oI C oC D m₂ h tk E', NsObj oC m₂ → m₂ x = some v₁ → m₂ x₂ = some v₂ → Fr h₀ L h m → News h₀ L h ((I, oI) :: (C, oC) :: (D, lst ys) :: news) → Off3 I C D news → ((@Ne Nat I C) ∧ (@Ne Nat I D) ∧ (@Ne Nat C D)) →
      wpAny (model prog w) A (eval elt (compEnvC scope cl C env)) (fun y s₂ => CEnd s h₀ L m ((I, oI) :: (C, oC) :: (D, lst ys) :: news) (J (i + 1) (ys ++ [y])) s₂) E' { s with heap := h, toks := tk }) :
    CompRestP prog w A h₀ L m env elt x x₂ scope cl s S P Fin n 0 [] news := by
  have all : ∀ k i ys, i + k = n → J i ys → CompRestP prog w A h₀ L m env elt x x₂ scope cl s S P Fin k i ys news := by
    intro k
    induction k with
    | zero => intro i ys e hJ; exact CompRestP.zero (fin ys (by rw [← e]; exact hJ))
    | succ k ih =>
      intro i ys e hJ
      refine CompRestP.succ fun v hP => ?_
      obtain ⟨t, ot, v₁, v₂, nt, e1, e2, e3, e4, tn⟩ := turn i v ys (by omega) hP hJ
      refine ⟨t, ot, v₁, v₂, nt, e1, e2, e3, e4, fun I oI C oC D m₂ h tk E' hns hx hx2 F N off ne => ?_⟩
      refine wpAny_mono (tn I oI C oC D m₂ h tk E' hns hx hx2 F N off ne) (fun y s₂ hy => ?_) (fun _ _ x => x)
      obtain ⟨h', tk', rfl, F', N', hJ'⟩ := hy
      exact ⟨h', tk', news, rfl, F', N', off, hS, ih (i + 1) (ys ++ [y]) (by omega) hJ'⟩
  exact all n 0 [] (by omega) h0
end
noncomputable def wishesIn (w : World) (news : List (Addr × Obj)) (d : Addr) (c : List (Str × Int)) : Prop := ∃ o kvs, (d, o) ∈ news ∧ o.IsDictOf (PySem.strKind PR w) kvs ∧ FlatPairs PyData.str kvs (kdpD c) ∧ (d == sysModules) = false
theorem wish_tab {w : World} {h₀ : Heap} {s : Shared} {L d : Addr} {news : List (Addr × Obj)} {c : List (Str × Int)} (N : News h₀ L s.heap news) (W : wishesIn w news d c) : StrTab PR w s.heap d (kdpD c) := by
  obtain ⟨o, kvs, hm, hd, hf, lo⟩ := W
  exact ⟨lo, kvs, kda_dict N hm hd, hf⟩
theorem wishesIn.mono {w : World} {n n' : List (Addr × Obj)} {d : Addr} {c : List (Str × Int)} (h : wishesIn w n d c) (hs : ∀ p ∈ n, p ∈ n') : wishesIn w n' d c := by
  obtain ⟨o, kvs, hm, r⟩ := h
  exact ⟨o, kvs, hs _ hm, r⟩
theorem wishesIn.cons {w : World} {n : List (Addr × Obj)} {p : Addr × Obj} {d : Addr} {c : List (Str × Int)} (h : wishesIn w n d c) : wishesIn w (p :: n) d c := h.mono fun _ hp => List.mem_cons_of_mem _ hp
theorem wish_item {w : World} {A : Around} {E : Value → Shared → Prop} {h₀ : Heap} {L : Addr} {s : Shared} {value slice : PySem.Expr} {d : Addr} {news : List (Addr × Obj)} {c : List (Str × Int)} {k : Str} {tk : Tok} {Q : Value → Shared → Prop}
    (N : News h₀ L s.heap news) (W : wishesIn w news d c) (hk : kdpHas c k = true) (h : ∀ t, Q (.int (kdpLook c k 0) t) { s with toks := s.toks + 1 }) (hs : subscripted slice false (Value.ref d) (Value.str k tk) = operate [Value.ref d, Value.str k tk] (getItem (Value.ref d) (Value.str k tk)) := by with_unfolding_all rfl) (hg : ∀ r, letTemporaryGo value (Value.ref d) r = pure () := by intro _; with_unfolding_all rfl) :
    wpAny (model PySem.Challenge.rw_xn0027_01.row.prog w) A (subscriptTail value slice (.ref d) (.str k tk)) Q E s := kdp_item (wish_tab N W) hk h hs hg
theorem off1_ne1 {D l : Addr} {o : Obj} {news : List (Addr × Obj)} (off : PyProof.Rows.LCg.Off1 D news) (h : (l, o) ∈ news) : D ≠ l := by
  induction news with
  | nil => cases h
  | cons q r ih =>
    rcases List.mem_cons.mp h with rfl | h
    · exact Ne.symm off.1
    · exact ih off.2 h
noncomputable def befC (c : List (Str × Int)) (size place : Int) (one other : Str) : Bool :=
  decide ((place - kdpLook c other 0).fmod size < (place - kdpLook c one 0).fmod size) || ((place - kdpLook c one 0).fmod size == (place - kdpLook c other 0).fmod size && decide (one.cps.toList < other.cps.toList))
theorem befC_gt {c : List (Str × Int)} {size place : Int} {one other : Str} (h : (place - kdpLook c other 0).fmod size < (place - kdpLook c one 0).fmod size) : befC c size place one other = decide ((place - kdpLook c other 0).fmod size < (place - kdpLook c one 0).fmod size) := by
  unfold befC; rw [decide_eq_true h]; rfl
theorem befC_eq {c : List (Str × Int)} {size place : Int} {one other : Str} (h : ¬ (place - kdpLook c other 0).fmod size < (place - kdpLook c one 0).fmod size) (h2 : (place - kdpLook c one 0).fmod size = (place - kdpLook c other 0).fmod size) : befC c size place one other = decide (one.cps.toList < other.cps.toList) := by
  unfold befC; rw [decide_eq_false h, h2]; simp
theorem befC_ne {c : List (Str × Int)} {size place : Int} {one other : Str} (h : ¬ (place - kdpLook c other 0).fmod size < (place - kdpLook c one 0).fmod size) (h2 : (place - kdpLook c one 0).fmod size ≠ (place - kdpLook c other 0).fmod size) : befC c size place one other = ((place - kdpLook c one 0).fmod size == (place - kdpLook c other 0).fmod size) := by
  have e : ((place - kdpLook c one 0).fmod size == (place - kdpLook c other 0).fmod size) = false := by simpa using h2
  unfold befC; rw [decide_eq_false h, e]; rfl
theorem lines4 : True := by
  (k_with "M:wish" => first | with_reducible assumption | (refine wishesIn.cons ?_; walk_at "M:wish"))
  (k_with "subscriptTail" => (k_here; (with_reducible show wpAny _ _ (subscriptTail _ _ (Value.ref _) (Value.str _ _)) _ _ _); k_dflt (refine' wish_item ?zqN ?zqW ?zqK ?_; (case zqN => k_asm); (case zqW => walk_at "M:wish"); (case zqK => assumption); k_whole); intro _; (try k_sweep)))
  trivial
set_option maxHeartbeats 4000000 in
theorem before_ct {w : World} {mean : ExcName → Option Value} {mg mb : Str → Option Value} {A A₀ : Around} {base h₀ : Heap} {outer : List Env} {env : Env} {L : Addr} {m : Str → Option Value} {news : List (Addr × Obj)} {s : Shared} {R : Result → Shared → Prop}
  (B : Below A₀ base outer h₀) (F : Fr h₀ L s.heap m) (X : (hd.heap_39 w.params).In h₀) (N : News h₀ L s.heap news) (T : Top hd.view_39 loose mean mg mb h₀) (hA : A.frames = some (env :: outer)) (hf : env.frame = some L) (hke : env.scope.kind = .function) (hh : A.handled = none) (hroom : A.depth + 5 < recursionLimit) (hun : A.units + 30 < cLine)
  {size place : Int} {one other : Str} {wd : Addr} {c : List (Str × Int)} {t1 t2 t3 t4 : Tok}
  (hs : 0 < size ∧ size < 100) (hp : 0 ≤ place ∧ place < 100) (W : wishesIn w news wd c) (h1 : kdpHas c one = true) (h2 : kdpHas c other = true)
  (ret : ∀ h' tk', Fr h₀ L h' m → News h₀ L h' news → R (.ok (.ret (.bool (befC c size place one other)))) { s with heap := h', toks := tk' }) :
  codeAny (model PySem.Challenge.rw_xn0027_01.row.prog w) A (.call (.ref 383) ⟨[.int size t1, .ref wd, .int place t2, .str one t3, .str other t4], []⟩) R s := by
  obtain ⟨hdl, dp, fr, gd, un⟩ := A
  dsimp only at hA hh hroom hun
  subst hA hh
  revert X; k_fill; intro X
  (refine' code_def (binds := [(Str.ofString "size", .int size t1), (Str.ofString "wishes", .ref wd), (Str.ofString "place", .int place t2), (Str.ofString "one", .str one t3), (Str.ofString "other", .str other t4)]) ?zqk1 ?zqk2 ?zqk3 ?zqk4 ?zqk5 ?zqkA ?zqkF ?zqkK ?zqk6 ?zqk7 ?zqk8 ?zqk9 ?zqkB ?_ ?zqc2 ?zqc3 ?zqc4 ?zqc5; walk_at "M:enter"; k_whole)
  intro g' L' h' FG' F' N' B' X' T'; (try dsimp only); (try k_lift B'); (try k_fold)
  k_steps
  · with_reducible rename Fr _ _ _ _ => F6
    with_reducible rename News _ _ _ _ => N6
    have F' := True.intro; have N' := True.intro; have D' := True.intro; have ws' := True.intro; have hI' := True.intro; have l1' := True.intro; have tv' := True.intro; have t' := True.intro; have vs' := True.intro; have ys' := True.intro; have kd' := True.intro; have hS' := True.intro; have v' := True.intro; have hlk' := True.intro; have news' := True.intro; have ln' := True.intro; have U' := True.intro; have S' := True.intro; have n' := True.intro; have kvs' := True.intro; have kk' := True.intro; have hk' := True.intro; have hT' := True.intro; have hc1' := True.intro; have hc2' := True.intro; have o' := True.intro; have d' := True.intro; have U2' := True.intro; have S2' := True.intro; have hsub' := True.intro; have hD' := True.intro; have hR' := True.intro; have TI' := True.intro; have k' := True.intro; have htk' := True.intro; have hsh' := True.intro; have M' := True.intro; have a' := True.intro; have b' := True.intro; have off' := True.intro; have hys' := True.intro
    rename_i hc
    have hr := fun h' tk' => ret h' tk'
    rw [befC_gt (by assumption)] at hr
    exact hr _ _ F6 N6
  · with_reducible rename Fr _ _ _ _ => F6
    with_reducible rename News _ _ _ _ => N6
    have hr := fun h' tk' => ret h' tk'
    rw [befC_eq (by assumption) (by assumption)] at hr
    exact hr _ _ F6 (cb_drop N6 (fun p hp => by k_mem))
  · with_reducible rename Fr _ _ _ _ => F6
    with_reducible rename News _ _ _ _ => N6
    have hr := fun h' tk' => ret h' tk'
    rw [befC_ne (by assumption) (by assumption)] at hr
    exact hr _ _ F6 N6
set_option maxHeartbeats 4000000 in
theorem keys_ct {w : World} {mean : ExcName → Option Value} {mg mb : Str → Option Value} {A A₀ : Around} {base h₀ : Heap} {outer : List Env} {env : Env} {L : Addr} {m : Str → Option Value} {news : List (Addr × Obj)} {s : Shared} {R : Result → Shared → Prop}
  (B : Below A₀ base outer h₀) (F : Fr h₀ L s.heap m) (X : (hd.heap_39 w.params).In h₀) (N : News h₀ L s.heap news) (T : Top hd.view_39 loose mean mg mb h₀) (hA : A.frames = some (env :: outer)) (hf : env.frame = some L) (hke : env.scope.kind = .function) (hh : A.handled = none) (hroom : A.depth + 6 < recursionLimit) (hun : A.units + 40 < cLine)
  {t l d : Addr} {hs : Int} {tkk : Tok} {nn ln : Nat} {vs : List Value} {T0 : List (Str × Str)}
  (TI : TabIn news t l d hs tkk nn vs ln T0) (hlen : T0.length < 100)
  (ret : ∀ h' tk' D ys, ys.length = T0.length → Fr h₀ L h' m → News h₀ L h' ((D, PyProof.Rows.LCg.lst ys) :: news) → D ≠ l → R (.ok (.ret (.ref D))) { s with heap := h', toks := tk' }) :
  codeAny (model PySem.Challenge.rw_xn0027_01.row.prog w) A (.call (.ref 123) ⟨[.ref t], []⟩) R s := by
  obtain ⟨hdl, dp, fr, gd, un⟩ := A
  dsimp only at hA hh hroom hun
  subst hA hh
  revert X; k_fill; intro X
  (refine' code_def (binds := [(Str.ofString "self", .ref t)]) ?zqk1 ?zqk2 ?zqk3 ?zqk4 ?zqk5 ?zqkA ?zqkF ?zqkK ?zqk6 ?zqk7 ?zqk8 ?zqk9 ?zqkB ?_ ?zqc2 ?zqc3 ?zqc4 ?zqc5; walk_at "M:enter"; k_whole)
  intro g' L' h' FG' F' N' B' X' T'; (try dsimp only); (try k_lift B'); (try k_fold)
  obtain ⟨hI, hD, hL, hR, hS⟩ := TI
  k_steps
  refine Hold.mk ?_
  with_reducible rename Fr _ _ _ _ => F8
  k_dflt (refine LCp.ListComp_P (F₀ := F8) (by with_unfolding_all rfl) (by decide) (by rfl) (by decide) (by rfl) (by rfl) (by decide) ?_)
  k_steps
  with_reducible rename Fr _ _ _ _ => F7
  with_reducible rename News _ _ _ _ => N7
  have hvl : vs.length < 100 := by rw [hR.length]; exact hlen
  refine LCp.SrcLP.ledger rfl F7 N7 (by k_mem) (by rw [sizeLine_eq, List.size_toArray]; omega) (fun g => compRestP_J (fun i ys => ys.length = i) rfl ?_ (.inr ⟨_, by k_mem, rfl, _, rfl⟩) ?_)
  · intro ys hys D h tk F6 N6 off
    clear F7 N7
    k_steps
    with_reducible rename Fr _ _ _ _ => F3
    with_reducible rename News _ _ _ _ => N3
    exact ret _ _ D ys (by rw [hys, List.size_toArray, hR.length]) F3 N3 (fun e => off1_ne1 off (by k_mem) e)
  · intro i v ys hi hP hJ
    obtain ⟨a, k, vv, tka, tva, na, rfl, hT, hmem⟩ := hR.at (by simpa using hP)
    refine ⟨a, _, _, _, _, rfl, by k_mem, rfl, rfl, ?_⟩
    intro I oI C oC D m₂ h tk E' hns hx hx2 F6 N6 off ne
    clear F7 N7
    dsimp only
    k_steps
    exact CEnd.intro (by k_asm) (by k_asm) (by simp [hJ])
set_option maxHeartbeats 4000000 in
theorem items_ct {w : World} {mean : ExcName → Option Value} {mg mb : Str → Option Value} {A A₀ : Around} {base h₀ : Heap} {outer : List Env} {env : Env} {L : Addr} {m : Str → Option Value} {news : List (Addr × Obj)} {s : Shared} {R : Result → Shared → Prop}
  (B : Below A₀ base outer h₀) (F : Fr h₀ L s.heap m) (X : (hd.heap_39 w.params).In h₀) (N : News h₀ L s.heap news) (T : Top hd.view_39 loose mean mg mb h₀) (hA : A.frames = some (env :: outer)) (hf : env.frame = some L) (hke : env.scope.kind = .function) (hh : A.handled = none) (hroom : A.depth + 6 < recursionLimit) (hun : A.units + 40 < cLine)
  {t l d : Addr} {hs : Int} {tkk : Tok} {nn ln : Nat} {vs : List Value} {T0 : List (Str × Str)}
  (TI : TabIn news t l d hs tkk nn vs ln T0) (hlen : T0.length < 100)
  (ret : ∀ h' tk' D kk, Fr h₀ L h' m → News h₀ L h' ((D, listOf vs.toArray kk) :: news) → R (.ok (.ret (.ref D))) { s with heap := h', toks := tk' }) :
  codeAny (model PySem.Challenge.rw_xn0027_01.row.prog w) A (.call (.ref 135) ⟨[.ref t], []⟩) R s := by
  obtain ⟨hdl, dp, fr, gd, un⟩ := A
  dsimp only at hA hh hroom hun
  subst hA hh
  revert X; k_fill; intro X
  (refine' code_def (binds := [(Str.ofString "self", .ref t)]) ?zqk1 ?zqk2 ?zqk3 ?zqk4 ?zqk5 ?zqkA ?zqkF ?zqkK ?zqk6 ?zqk7 ?zqk8 ?zqk9 ?zqkB ?_ ?zqc2 ?zqc3 ?zqc4 ?zqc5; walk_at "M:enter"; k_whole)
  intro g' L' h' FG' F' N' B' X' T'; (try dsimp only); (try k_lift B'); (try k_fold)
  obtain ⟨hI, hD, hL, hR, hS⟩ := TI
  k_steps
  with_reducible rename Fr _ _ _ _ => F7
  with_reducible rename News _ _ _ _ => N7
  have hvl : vs.length < 100 := by rw [hR.length]; exact hlen
  k_dflt (refine kmk_slice (its := vs.toArray) F7 N7 (N7.isList hL) .none .none ?_ (by with_unfolding_all rfl) (by intro _; with_unfolding_all rfl) (by rw [sizeLine_eq, List.size_toArray]; omega))
  intro D h4 F4 N4 off
  rw [slicePick_all] at N4
  k_steps
  with_reducible rename Fr _ _ _ _ => F3
  with_reducible rename News _ _ _ _ => N3
  exact ret _ _ D _ F3 N3
theorem freshWM : True := by
  try row_walk
  trivial
/-! the table as a plain list of rows, and what the law's functions do to it -/
noncomputable def bKey (key : Str) : Bool := Txt.slice key none (some 1) == Str.ofString "B"
noncomputable def spell (key nm : Str) : Str := if bKey key then Txt.upper nm else nm
noncomputable def layT (T : List (Str × Str)) (nm key : Str) : List (Str × Str) := delT T (Txt.lower (spell key nm)) ++ [(spell key nm, key)]
noncomputable def nmAt (nms : List Str) (p : Nat) : Str := nms.getD p (Str.ofString "")
noncomputable def atT (nms : List Str) (T : List (Str × Str)) (p : Nat) : Option Str := look T (Txt.lower (nmAt nms p))
noncomputable def nxt (n p : Nat) : Nat := if p + 1 = n then 0 else p + 1
theorem nxt_lt {n p : Nat} (h : p < n) : nxt n p < n := by unfold nxt; split <;> (first | lia | omega)
theorem nxt_fmod {n p : Nat} (h : p < n) : ((p : Int) + 1).fmod (n : Int) = ((nxt n p : Nat) : Int) := by
  unfold nxt
  split
  · next e => rw [show (p : Int) + 1 = (n : Int) by (first | lia | omega)]; simp
  · rw [Int.fmod_eq_of_lt (by (first | lia | omega)) (by (first | lia | omega))]; (first | lia | omega)
noncomputable def putF (nms : List Str) (c : List (Str × Int)) : Nat → List (Str × Str) → Nat → Str → Option (List (Str × Str))
  | 0, _, _, _ => none
  | f + 1, T, p, key => match atT nms T p with
    | none => some (layT T (nmAt nms p) key)
    | some there => if befC c nms.length p key there then putF nms c f (layT T (nmAt nms p) key) (nxt nms.length p) there else putF nms c f T (nxt nms.length p) key
noncomputable def takeF (nms : List Str) (c : List (Str × Int)) : Nat → List (Str × Str) → Nat → Nat → Option (List (Str × Str))
  | 0, _, _, _ => none
  | f + 1, T, hole, p => match atT nms T p with
    | none => some T
    | some there => if ((p : Int) - (hole : Int)).fmod nms.length ≤ ((p : Int) - kdpLook c there 0).fmod nms.length
        then takeF nms c f (delT (layT T (nmAt nms hole) there) (Txt.lower (nmAt nms p))) p (nxt nms.length p)
        else takeF nms c f T hole (nxt nms.length p)
noncomputable def seekF (nms : List Str) (c : List (Str × Int)) (T : List (Str × Str)) (key : Str) : Nat → Nat → Nat
  | 0, p => p
  | f + 1, p => match atT nms T p with
    | none => p
    | some there => if befC c nms.length p there key then seekF nms c T key f (nxt nms.length p) else p
noncomputable def wishN (c : List (Str × Int)) (key : Str) : Nat := (kdpLook c key 0).toNat
noncomputable def deedF (nms : List Str) (c : List (Str × Int)) (f : Nat) (T : List (Str × Str)) (key : Str) : Option (List (Str × Str)) :=
  let p := seekF nms c T key (nms.length - 1) (wishN c key)
  if atT nms T p = some key then takeF nms c f (delT T (Txt.lower (nmAt nms p))) p (nxt nms.length p)
  else if T.length < nms.length then putF nms c f T p key else some T
structure Cfg (nms : List Str) (c : List (Str × Int)) : Prop where
  n0 : 0 < nms.length
  n1 : nms.length < 50
  len : ∀ p, (nmAt nms p).length < 1000
  ulen : ∀ p, (Txt.upper (nmAt nms p)).length < 1000
  cl : ∀ p, Clean (nmAt nms p)
  clu : ∀ p, Clean (Txt.upper (nmAt nms p))
  cll : ∀ p, Clean (Txt.lower (nmAt nms p))
  cllu : ∀ p, Clean (Txt.lower (Txt.upper (nmAt nms p)))
  sz : ∀ p, (nmAt nms p).cps.size < 1000000
  szu : ∀ p, (Txt.upper (nmAt nms p)).cps.size < 1000000
  szl : ∀ p, (Txt.lower (nmAt nms p)).cps.size < 1000000
  szlu : ∀ p, (Txt.lower (Txt.upper (nmAt nms p))).cps.size < 1000000
  kcl : ∀ k, kdpHas c k = true → Clean k
  ksz : ∀ k, kdpHas c k = true → k.cps.size < 1000000
  wish : ∀ k, kdpHas c k = true → ∃ p : Nat, kdpLook c k 0 = (p : Int) ∧ p < nms.length
structure St (w : World) (news : List (Addr × Obj)) (t l d : Addr) (hs : Int) (tkk : Tok) (nn : Nat) (vs : List Value) (ln : Nat) (T : List (Str × Str)) (nl : Addr) (nvs : List Value) (nk : Nat) (wd : Addr) (nms : List Str) (c : List (Str × Int)) : Prop where
  tab : TabIn news t l d hs tkk nn vs ln T
  nam : (nl, listOf nvs.toArray nk) ∈ news
  nstr : StrsAre nvs nms
  wsh : wishesIn w news wd c
  ne1 : nl ≠ l
  ne2 : wd ≠ l
  cfg : Cfg nms c
  good : ∀ p ∈ T, kdpHas c p.2 = true
theorem St.cons {w : World} {news : List (Addr × Obj)} {q : Addr × Obj} {t l d : Addr} {hs : Int} {tkk : Tok} {nn : Nat} {vs : List Value} {ln : Nat} {T : List (Str × Str)} {nl : Addr} {nvs : List Value} {nk : Nat} {wd : Addr} {nms : List Str} {c : List (Str × Int)}
    (S : St w news t l d hs tkk nn vs ln T nl nvs nk wd nms c) : St w (q :: news) t l d hs tkk nn vs ln T nl nvs nk wd nms c :=
  ⟨S.tab.cons, List.mem_cons_of_mem _ S.nam, S.nstr, S.wsh.cons, S.ne1, S.ne2, S.cfg, S.good⟩
theorem wishesIn.upto {w : World} {n n' : List (Addr × Obj)} {wd l : Addr} {c : List (Str × Int)} (h : wishesIn w n wd c) (U : Upto l n n') (hne : wd ≠ l) : wishesIn w n' wd c := by
  obtain ⟨o, kvs, hm, r⟩ := h
  exact ⟨o, kvs, U _ hm hne, r⟩
theorem St.upto {w : World} {news news' : List (Addr × Obj)} {t l d : Addr} {hs : Int} {tkk : Tok} {nn : Nat} {vs vs' : List Value} {ln ln' : Nat} {T T' : List (Str × Str)} {nl : Addr} {nvs : List Value} {nk : Nat} {wd : Addr} {nms : List Str} {c : List (Str × Int)}
    (S : St w news t l d hs tkk nn vs ln T nl nvs nk wd nms c) (U : Upto l news news') (TI : TabIn news' t l d hs tkk nn vs' ln' T') (hg : ∀ p ∈ T', kdpHas c p.2 = true) : St w news' t l d hs tkk nn vs' ln' T' nl nvs nk wd nms c :=
  ⟨TI, U _ S.nam S.ne1, S.nstr, S.wsh.upto U S.ne2, S.ne1, S.ne2, S.cfg, hg⟩
theorem delT_good {c : List (Str × Int)} {T : List (Str × Str)} {x : Str} (h : ∀ p ∈ T, kdpHas c p.2 = true) : ∀ p ∈ delT T x, kdpHas c p.2 = true := fun p hp => h p (List.mem_filter.mp hp).1
theorem layT_good {c : List (Str × Int)} {T : List (Str × Str)} {nm key : Str} (h : ∀ p ∈ T, kdpHas c p.2 = true) (hk : kdpHas c key = true) : ∀ p ∈ layT T nm key, kdpHas c p.2 = true := by
  intro p hp
  rcases List.mem_append.mp hp with hp | hp
  · exact delT_good h p hp
  · simp at hp; subst hp; exact hk
theorem delT_len (T : List (Str × Str)) (x : Str) : (delT T x).length ≤ T.length := List.length_filter_le ..
theorem layT_len (T : List (Str × Str)) (nm key : Str) : (layT T nm key).length ≤ T.length + 1 := by
  unfold layT
  rw [List.length_append]
  have := delT_len T (Txt.lower (spell key nm))
  simp only [List.length_cons, List.length_nil]
  (first | lia | omega)
theorem look_mem {T : List (Str × Str)} {x v : Str} (h : look T x = some v) : ∃ p ∈ T, p.2 = v := by
  unfold look at h
  cases e : T.find? fun p => Txt.lower p.1 == x with
  | none => rw [e] at h; cases h
  | some p => rw [e] at h; exact ⟨p, List.mem_of_find?_eq_some e, Option.some.inj h⟩
theorem look_good {c : List (Str × Int)} {T : List (Str × Str)} {x v : Str} (hg : ∀ p ∈ T, kdpHas c p.2 = true) (h : look T x = some v) : kdpHas c v = true := by
  obtain ⟨p, hp, rfl⟩ := look_mem h
  exact hg p hp
theorem nmAt_get {nms : List Str} {p : Nat} (h : p < nms.length) : nms[p]? = some (nmAt nms p) := by
  unfold nmAt
  simp [h]
theorem name_item {w : World} {A : Around} {E : Value → Shared → Prop} {h₀ : Heap} {L : Addr} {s : Shared} {value slice : PySem.Expr} {nl : Addr} {nk : Nat} {nvs : List Value} {nms : List Str} {news : List (Addr × Obj)} {p : Nat} {u : Tok} {Q : Value → Shared → Prop}
    (N : News h₀ L s.heap news) (hm : (nl, listOf nvs.toArray nk) ∈ news) (hS : StrsAre nvs nms) (hp : p < nms.length) (h5 : nms.length < 50) (h : ∀ t, Q (.str (nmAt nms p) t) s) (hs : subscripted slice false (Value.ref nl) (Value.int p u) = operate [Value.ref nl, Value.int p u] (getItem (Value.ref nl) (Value.int p u)) := by with_unfolding_all rfl) (hg : ∀ r, letTemporaryGo value (Value.ref nl) r = pure () := by intro _; with_unfolding_all rfl) :
    wpAny (model PySem.Challenge.rw_xn0027_01.row.prog w) A (subscriptTail value slice (.ref nl) (.int p u)) Q E s := by
  obtain ⟨t, ht⟩ := hS.at (nmAt_get hp)
  exact item_listL (N.isList hm) (by (first | lia | omega)) (by (first | lia | omega)) (x := .str (nmAt nms p) t) (by simpa using ht) (h t) hs hg
theorem lines5 : True := by
  k_with_none
  (k_with "M:enter" => (
  (case zqkA => exact rfl); (case zqkF => assumption); (case zqkK => assumption); (case zqk1 => k_asm); (case zqk2 => k_asm); (case zqk3 => k_asm); (case zqk4 => k_asm); (case zqk5 => k_asm); (case zqk6 => k_is); (case zqk7 => k_is); (case zqk8 => k_room); (case zqk9 => first | exact BindsTo.of_eq rfl | exact binds_K (by k_in) rfl (by k_is) rfl rfl rfl); (case zqc5 => decide); (case zqkB => exact locs rfl); (case zqc2 => exact rfl); (case zqc3 => exact rfl); (case zqc4 => exact rfl)))
  (k_with "M:args" => (
  (case zqcB => k_asm); (case zqcF => k_asm); (case zqcX => k_asm); (case zqcN => k_asm); (case zqcT => k_asm); (case zqcA => exact rfl); (case zqcf => first | exact rfl | assumption); (case zqck => first | exact rfl | assumption); (case zqch => exact rfl); (case zqcr => k_room); (case zqcu => k_units)))
  (k_with "M:pat" => first | exact pat_name (by k_in) | exact pat_value (by k_in))
  (k_with "getMethod ref" => (k_here; (with_reducible show wpAny _ _ (getMethod (Value.ref _) (Str.ofString "search") _) _ _ _); k_dflt (refine' method_search (code := ?zqcd) ?zqP ?_; (case zqP => walk_at "M:pat"); k_whole)))
  (k_with "call builtin:re.Pattern.search" => (k_here; k_dflt (refine' call_search (code := ?zqcd) ?zqP ?zqC ?zqX ?zqL ?_; (case zqP => walk_at "M:pat"); (case zqC => first | exact .inl rfl | exact .inr rfl); (case zqX => assumption); (case zqL => assumption); k_whole)))
  (k_with "exec For" => (k_here; k_dflt (refine For_hold ?_)))
  (k_with "call builtin:str.lower" => (k_here; (with_reducible show wpAny _ _ (call (Value.builtin "str.lower") [Value.str _ _]) _ _ _); (refine SCL.lower (by omega) ?_; intro _)))
  (k_with "eval Name" => (k_here; (with_reducible show wpAny _ _ (eval _ (envOf _ _ _ _ _)) _ _ _); k_dflt (refine' ld ?zqk1 ?zqk2 ?_; (case zqk1 => k_asm); (case zqk2 => first | with_reducible assumption | ((try simp only []); assumption)); k_whole)))
  (k_with "assign Tuple" => (k_here; k_dflt (refine' assign_pair ?zqk0 ?zqk1 ?zqk2 ?zqk3 ?_ ?zqk4 ?zqk5 ?zqk6; (case zqk0 => exact rfl); (case zqk1 => k_asm); (case zqk2 => k_asm); (case zqk3 => k_mem); (case zqk4 => exact rfl); (case zqk5 => exact rfl); (case zqk6 => exact rfl); k_whole); intro h' tk' F' N'; (try k_sweep)))
  (k_with "call ref" => (k_here; (with_reducible show wpAny _ _ (call (Value.ref _) [_, Value.str _ _] _) _ _ _); k_dflt (refine wpAny_call ?_; (first | refine' conv_true ?zqcB ?zqcF ?zqcX ?zqcN ?zqcT ?zqcA ?zqcf ?zqck ?zqch ?zqcr ?zqcu ?zqx ?zql ?_ | refine' conv_false ?zqcB ?zqcF ?zqcX ?zqcN ?zqcT ?zqcA ?zqcf ?zqck ?zqch ?zqcr ?zqcu ?zqx ?zql ?_); walk_at "M:args"; (case zqx => assumption); (case zql => assumption); k_whole); intro h' tk' F' N'; (try dsimp only); (try k_sweep)))
  (k_with "storeName" => (k_here; (with_reducible show wpAny _ _ (storeName (envOfC _ _ _ _ _) _ _) _ _ _); k_dflt (refine' storeX_C ?zqF ?zqN ?zqc ?zqU ?zqd ?_ ?zqa ?zqb; (case zqa => rfl); (case zqb => rfl); (case zqF => k_asm); (case zqN => k_asm); (case zqc => rfl); (case zqU => k_updF); (case zqd => assumption); k_whole); intro h' o' F' N' d'; (try dsimp only at N'); (try k_sweep)))
  (k_with "eval ListComp" => (k_here; refine Hold.out ?_))
  (k_with "exec Assign cons ListComp" => (k_here; refine Hold.out ?_))
  (k_with "exec While" => (k_here; refine Hold.out ?_))
  (k_with "M:enterC" => (
  (case zqkA => exact rfl); (case zqkF => assumption); (case zqkK => assumption); (case zqk1 => k_asm); (case zqk2 => k_asm); (case zqk3 => k_asm); (case zqk4 => k_asm); (case zqk5 => k_asm); (case zqk6 => k_is); (case zqk7 => k_is); (case zqk8 => k_room); (case zqk9 => first | exact BindsTo.of_eq rfl | exact binds_K (by k_in) rfl (by k_is) rfl rfl rfl); (case zqkB => exact rfl); (case zqkD => decide +kernel); (case zqc2 => exact rfl); (case zqc3 => exact rfl); (case zqc4 => exact rfl)))
  (k_with "M:tab" => first | with_reducible assumption | (refine TabIn.cons ?_; walk_at "M:tab"))
  (k_with "call ref" => (k_here; (with_reducible show wpAny _ _ (call (Value.ref _) [_, Value.str _ _]) _ _ _); k_dflt (refine wpAny_call ?_; refine' del_ct ?zqcB ?zqcF ?zqcX ?zqcN ?zqcT ?zqcA ?zqcf ?zqck ?zqch ?zqcr ?zqcu ?zqt ?zql ?zqn1 ?zqn2 ?zqn3 ?_; walk_at "M:args"; (case zqt => walk_at "M:tab"); (case zql => assumption); (case zqn1 => assumption); (case zqn2 => assumption); (case zqn3 => assumption); k_whole); intro h' tk' news' vs' ln' F' N' U' TI'; (have hI' := TabIn.inst TI'); (have hD' := TabIn.dict TI'); (have hL' := TabIn.list TI'); (try dsimp only); (try k_sweep)))
  (k_with "delItem ref" => (k_here; (with_reducible show wpAny _ _ (delItem (Value.ref _) _) _ _ _); k_dflt (refine' own_delItem ?zqF ?zqX ?zqI ?zqhQ ?zqhS ?zqhF ?_; (case zqF => k_asm); (case zqX => k_asm); (case zqI => k_inst); (case zqhS => k_is); (case zqhF => k_is); (case zqhQ => k_is); k_whole)))
  (k_with "call builtin:list.append" => (k_here; k_dflt (refine' append_P ?zqf ?zqn ?zql ?zqz ?_; (case zqf => k_asm); (case zqn => k_asm); (case zql => k_mem); (case zqz => assumption); k_whole); intro h' F' N'; (try k_sweep)))
  (k_with "M:wish" => first | with_reducible assumption | (refine wishesIn.cons ?_; walk_at "M:wish"))
  (k_with "M:n1" => first | with_reducible assumption | (with_reducible first | exact Cfg.len (by assumption) _ | exact Cfg.ulen (by assumption) _ | exact Cfg.cl (by assumption) _ | exact Cfg.clu (by assumption) _ | exact Cfg.cll (by assumption) _ | exact Cfg.cllu (by assumption) _ | exact Cfg.sz (by assumption) _ | exact Cfg.szu (by assumption) _ | exact Cfg.szl (by assumption) _ | exact Cfg.szlu (by assumption) _ | exact Cfg.kcl (by assumption) _ (by assumption) | exact Cfg.ksz (by assumption) _ (by assumption)))
  (k_with "subscriptTail" => (k_here; (with_reducible show wpAny _ _ (subscriptTail _ _ (Value.ref _) (Value.str _ _)) _ _ _); k_dflt (refine' wish_item ?zqN ?zqW ?zqK ?_; (case zqN => k_asm); (case zqW => walk_at "M:wish"); (case zqK => assumption); k_whole); intro _; (try k_sweep)))
  (k_with "subscriptTail" => (k_here; (with_reducible show wpAny _ _ (subscriptTail _ _ (Value.ref _) (Value.int (Nat.cast _) _)) _ _ _); k_dflt (refine' name_item ?zqN ?zqM ?zqS ?zqP ?zqF ?_; (case zqN => k_asm); (case zqS => assumption); (case zqM => k_mem); (case zqP => assumption); (case zqF => assumption); k_whole); intro _; (try k_sweep)))
  (k_with "call ref" => (k_here; (with_reducible show wpAny _ _ (call (Value.ref _) [_, Value.str _ _]) _ _ _); k_dflt (refine wpAny_call ?_; refine' get_ct ?zqcB ?zqcF ?zqcX ?zqcN ?zqcT ?zqcA ?zqcf ?zqck ?zqch ?zqcr ?zqcu ?zqt ?zqn1 ?zqn2 ?zqn3 ?_ ?_; walk_at "M:args"; (case zqt => walk_at "M:tab"); (case zqn1 => walk_at "M:n1"); (case zqn2 => walk_at "M:n1"); (case zqn3 => walk_at "M:n1"); k_whole); (intro v' tv' h' tk' hlk' F' N'; (try dsimp only); (try k_sweep)); rotate_left; (intro h' tk' hlk' F' N'; (try dsimp only); (try k_sweep))))
  (k_with "call ref" => (k_here; (with_reducible show wpAny _ _ (call (Value.ref _) [_, Value.str _ _, Value.str _ _]) _ _ _); k_dflt (refine wpAny_call ?_; refine' set_ct ?zqcB ?zqcF ?zqcX ?zqcN ?zqcT ?zqcA ?zqcf ?zqck ?zqch ?zqcr ?zqcu ?zqt ?zql ?zqn1 ?zqn2 ?zqn3 ?zqn4 ?zqn5 ?zqn6 ?zqn7 ?_; walk_at "M:args"; (case zqt => walk_at "M:tab"); (case zql => assumption); (case zqn1 => walk_at "M:n1"); (case zqn2 => walk_at "M:n1"); (case zqn3 => walk_at "M:n1"); (case zqn4 => walk_at "M:n1"); (case zqn5 => walk_at "M:n1"); (case zqn6 => walk_at "M:n1"); (case zqn7 => walk_at "M:n1"); k_whole); intro h' tk' news' vs' ln' F' N' U' TI'; (have hI' := TabIn.inst TI'); (have hD' := TabIn.dict TI'); (have hL' := TabIn.list TI'); (try dsimp only); (try k_sweep)))
  (k_with "call builtin:str.upper" => (k_here; (with_reducible show wpAny _ _ (call (Value.builtin "str.upper") [Value.str _ _]) _ _ _); (refine SCL.upper (by with_reducible assumption) ?_; intro _)))
  (k_with "subscriptTail" => (k_here; (with_reducible show wpAny _ _ (subscriptTail _ (Expr.Slice none (some _) none _) (Value.str _ _) (Value.ref _)) _ _ _); (with_reducible rename Fr _ _ _ _ => F'); (with_reducible rename News _ _ _ _ => N'); (refine slice_strN_ns (hsz := ?zqhsz) (s := ⟨_, _, _, _, _⟩) F' N' ?_); (case zqhsz => assumption); intro _ _ _ _ _))
  trivial
theorem freshW6 : True := by
  try row_walk
  trivial
set_option maxHeartbeats 4000000 in
theorem lay_ct {w : World} {mean : ExcName → Option Value} {mg mb : Str → Option Value} {A A₀ : Around} {base h₀ : Heap} {outer : List Env} {env : Env} {L : Addr} {m : Str → Option Value} {news : List (Addr × Obj)} {s : Shared} {R : Result → Shared → Prop}
  (B : Below A₀ base outer h₀) (F : Fr h₀ L s.heap m) (X : (hd.heap_39 w.params).In h₀) (N : News h₀ L s.heap news) (T : Top hd.view_39 loose mean mg mb h₀) (hA : A.frames = some (env :: outer)) (hf : env.frame = some L) (hke : env.scope.kind = .function) (hh : A.handled = none) (hroom : A.depth + 13 < recursionLimit) (hun : A.units + 100 < cLine)
  {t l d : Addr} {hs : Int} {tkk : Tok} {nn ln : Nat} {vs : List Value} {T0 : List (Str × Str)} {nl : Addr} {nvs : List Value} {nk : Nat} {wd : Addr} {nms : List Str} {c : List (Str × Int)} {p : Nat} {key : Str} {tn tk : Tok}
  (S : St w news t l d hs tkk nn vs ln T0 nl nvs nk wd nms c) (hlen : T0.length < 100) (hk : kdpHas c key = true)
  (ret : ∀ h' tk' news' vs' ln', Fr h₀ L h' m → News h₀ L h' news' → Upto l news news' → St w news' t l d hs tkk nn vs' ln' (layT T0 (nmAt nms p) key) nl nvs nk wd nms c → R (.ok (.ret .none)) { s with heap := h', toks := tk' }) :
  codeAny (model PySem.Challenge.rw_xn0027_01.row.prog w) A (.call (.ref 376) ⟨[.ref t, .str (nmAt nms p) tn, .str key tk], []⟩) R s := by
  obtain ⟨hdl, dp, fr, gd, un⟩ := A
  dsimp only at hA hh hroom hun
  subst hA hh
  revert X; k_fill; intro X
  (refine' code_def (binds := [(Str.ofString "table", .ref t), (Str.ofString "name", .str (nmAt nms p) tn), (Str.ofString "key", .str key tk)]) ?zqk1 ?zqk2 ?zqk3 ?zqk4 ?zqk5 ?zqkA ?zqkF ?zqkK ?zqk6 ?zqk7 ?zqk8 ?zqk9 ?zqkB ?_ ?zqc2 ?zqc3 ?zqc4 ?zqc5; walk_at "M:enter"; k_whole)
  intro g' L' h' FG' F' N' B' X' T'; (try dsimp only); (try k_lift B'); (try k_fold)
  have hcfg := S.cfg
  have hI := S.tab.inst
  have hD := S.tab.dict
  have hL := S.tab.list
  have hTI := S.tab
  have hnam := S.nam
  have hstrs := S.nstr
  have hwsh := S.wsh
  have hn0 := S.cfg.n0
  have hn1 := S.cfg.n1
  have hks : key.length ≤ sizeLine := Nat.le_trans (Nat.le_of_lt (hcfg.ksz _ hk)) (by decide)
  have hup : (nmAt nms p).length ≤ 5592405 := Nat.le_trans (Nat.le_of_lt (hcfg.len p)) (by decide)
  k_steps
  · with_reducible rename Fr _ _ _ _ => F6
    with_reducible rename News _ _ _ _ => N6
    with_reducible rename TabIn _ _ _ _ _ _ _ _ _ _ => TI6
    with_reducible rename Upto _ _ _ => U6
    have e : spell key (nmAt nms p) = Txt.upper (nmAt nms p) := if_pos (by assumption)
    have q : layT T0 (nmAt nms p) key = delT T0 (Txt.lower (Txt.upper (nmAt nms p))) ++ [((Txt.upper (nmAt nms p)), key)] := by unfold layT; rw [e]
    rw [← q] at TI6
    exact ret _ _ _ _ _ F6 N6 U6 (S.upto U6 TI6 (layT_good S.good hk))
  · with_reducible rename Fr _ _ _ _ => F6
    with_reducible rename News _ _ _ _ => N6
    with_reducible rename TabIn _ _ _ _ _ _ _ _ _ _ => TI6
    with_reducible rename Upto _ _ _ => U6
    have e : spell key (nmAt nms p) = nmAt nms p := if_neg (by unfold bKey; rw [Bool.not_eq_true]; assumption)
    have q : layT T0 (nmAt nms p) key = delT T0 (Txt.lower (nmAt nms p)) ++ [((nmAt nms p), key)] := by unfold layT; rw [e]
    rw [← q] at TI6
    exact ret _ _ _ _ _ F6 N6 U6 (S.upto U6 TI6 (layT_good S.good hk))
theorem lines6 : True := by
  k_with_none
  (k_with "M:enter" => (
  (case zqkA => exact rfl); (case zqkF => assumption); (case zqkK => assumption); (case zqk1 => k_asm); (case zqk2 => k_asm); (case zqk3 => k_asm); (case zqk4 => k_asm); (case zqk5 => k_asm); (case zqk6 => k_is); (case zqk7 => k_is); (case zqk8 => k_room); (case zqk9 => first | exact BindsTo.of_eq rfl | exact binds_K (by k_in) rfl (by k_is) rfl rfl rfl); (case zqc5 => decide); (case zqkB => exact locs rfl); (case zqc2 => exact rfl); (case zqc3 => exact rfl); (case zqc4 => exact rfl)))
  (k_with "M:args" => (
  (case zqcB => k_asm); (case zqcF => k_asm); (case zqcX => k_asm); (case zqcN => k_asm); (case zqcT => k_asm); (case zqcA => exact rfl); (case zqcf => first | exact rfl | assumption); (case zqck => first | exact rfl | assumption); (case zqch => exact rfl); (case zqcr => k_room); (case zqcu => k_units)))
  (k_with "M:pat" => first | exact pat_name (by k_in) | exact pat_value (by k_in))
  (k_with "getMethod ref" => (k_here; (with_reducible show wpAny _ _ (getMethod (Value.ref _) (Str.ofString "search") _) _ _ _); k_dflt (refine' method_search (code := ?zqcd) ?zqP ?_; (case zqP => walk_at "M:pat"); k_whole)))
  (k_with "call builtin:re.Pattern.search" => (k_here; k_dflt (refine' call_search (code := ?zqcd) ?zqP ?zqC ?zqX ?zqL ?_; (case zqP => walk_at "M:pat"); (case zqC => first | exact .inl rfl | exact .inr rfl); (case zqX => assumption); (case zqL => assumption); k_whole)))
  (k_with "exec For" => (k_here; k_dflt (refine For_hold ?_)))
  (k_with "call builtin:str.lower" => (k_here; (with_reducible show wpAny _ _ (call (Value.builtin "str.lower") [Value.str _ _]) _ _ _); (refine SCL.lower (by omega) ?_; intro _)))
  (k_with "eval Name" => (k_here; (with_reducible show wpAny _ _ (eval _ (envOf _ _ _ _ _)) _ _ _); k_dflt (refine' ld ?zqk1 ?zqk2 ?_; (case zqk1 => k_asm); (case zqk2 => first | with_reducible assumption | ((try simp only []); assumption)); k_whole)))
  (k_with "assign Tuple" => (k_here; k_dflt (refine' assign_pair ?zqk0 ?zqk1 ?zqk2 ?zqk3 ?_ ?zqk4 ?zqk5 ?zqk6; (case zqk0 => exact rfl); (case zqk1 => k_asm); (case zqk2 => k_asm); (case zqk3 => k_mem); (case zqk4 => exact rfl); (case zqk5 => exact rfl); (case zqk6 => exact rfl); k_whole); intro h' tk' F' N'; (try k_sweep)))
  (k_with "call ref" => (k_here; (with_reducible show wpAny _ _ (call (Value.ref _) [_, Value.str _ _] _) _ _ _); k_dflt (refine wpAny_call ?_; (first | refine' conv_true ?zqcB ?zqcF ?zqcX ?zqcN ?zqcT ?zqcA ?zqcf ?zqck ?zqch ?zqcr ?zqcu ?zqx ?zql ?_ | refine' conv_false ?zqcB ?zqcF ?zqcX ?zqcN ?zqcT ?zqcA ?zqcf ?zqck ?zqch ?zqcr ?zqcu ?zqx ?zql ?_); walk_at "M:args"; (case zqx => assumption); (case zql => assumption); k_whole); intro h' tk' F' N'; (try dsimp only); (try k_sweep)))
  (k_with "storeName" => (k_here; (with_reducible show wpAny _ _ (storeName (envOfC _ _ _ _ _) _ _) _ _ _); k_dflt (refine' storeX_C ?zqF ?zqN ?zqc ?zqU ?zqd ?_ ?zqa ?zqb; (case zqa => rfl); (case zqb => rfl); (case zqF => k_asm); (case zqN => k_asm); (case zqc => rfl); (case zqU => k_updF); (case zqd => assumption); k_whole); intro h' o' F' N' d'; (try dsimp only at N'); (try k_sweep)))
  (k_with "eval ListComp" => (k_here; refine Hold.out ?_))
  (k_with "exec Assign cons ListComp" => (k_here; refine Hold.out ?_))
  (k_with "exec While" => (k_here; refine Hold.out ?_))
  (k_with "M:enterC" => (
  (case zqkA => exact rfl); (case zqkF => assumption); (case zqkK => assumption); (case zqk1 => k_asm); (case zqk2 => k_asm); (case zqk3 => k_asm); (case zqk4 => k_asm); (case zqk5 => k_asm); (case zqk6 => k_is); (case zqk7 => k_is); (case zqk8 => k_room); (case zqk9 => first | exact BindsTo.of_eq rfl | exact binds_K (by k_in) rfl (by k_is) rfl rfl rfl); (case zqkB => exact rfl); (case zqkD => decide +kernel); (case zqc2 => exact rfl); (case zqc3 => exact rfl); (case zqc4 => exact rfl)))
  (k_with "M:tab" => first | with_reducible assumption | (refine TabIn.cons ?_; walk_at "M:tab"))
  (k_with "call ref" => (k_here; (with_reducible show wpAny _ _ (call (Value.ref _) [_, Value.str _ _]) _ _ _); k_dflt (refine wpAny_call ?_; refine' del_ct ?zqcB ?zqcF ?zqcX ?zqcN ?zqcT ?zqcA ?zqcf ?zqck ?zqch ?zqcr ?zqcu ?zqt ?zql ?zqn1 ?zqn2 ?zqn3 ?_; walk_at "M:args"; (case zqt => walk_at "M:tab"); (case zql => assumption); (case zqn1 => assumption); (case zqn2 => assumption); (case zqn3 => assumption); k_whole); intro h' tk' news' vs' ln' F' N' U' TI'; (have hI' := TabIn.inst TI'); (have hD' := TabIn.dict TI'); (have hL' := TabIn.list TI'); (try dsimp only); (try k_sweep)))
  (k_with "delItem ref" => (k_here; (with_reducible show wpAny _ _ (delItem (Value.ref _) _) _ _ _); k_dflt (refine' own_delItem ?zqF ?zqX ?zqI ?zqhQ ?zqhS ?zqhF ?_; (case zqF => k_asm); (case zqX => k_asm); (case zqI => k_inst); (case zqhS => k_is); (case zqhF => k_is); (case zqhQ => k_is); k_whole)))
  (k_with "call builtin:list.append" => (k_here; k_dflt (refine' append_P ?zqf ?zqn ?zql ?zqz ?_; (case zqf => k_asm); (case zqn => k_asm); (case zql => k_mem); (case zqz => assumption); k_whole); intro h' F' N'; (try k_sweep)))
  (k_with "M:wish" => first | with_reducible assumption | (refine wishesIn.cons ?_; walk_at "M:wish"))
  (k_with "M:n1" => first | with_reducible assumption | (with_reducible first | exact Cfg.len (by assumption) _ | exact Cfg.ulen (by assumption) _ | exact Cfg.cl (by assumption) _ | exact Cfg.clu (by assumption) _ | exact Cfg.cll (by assumption) _ | exact Cfg.cllu (by assumption) _ | exact Cfg.sz (by assumption) _ | exact Cfg.szu (by assumption) _ | exact Cfg.szl (by assumption) _ | exact Cfg.szlu (by assumption) _ | exact Cfg.kcl (by assumption) _ (by assumption) | exact Cfg.ksz (by assumption) _ (by assumption)))
  (k_with "subscriptTail" => (k_here; (with_reducible show wpAny _ _ (subscriptTail _ _ (Value.ref _) (Value.str _ _)) _ _ _); k_dflt (refine' wish_item ?zqN ?zqW ?zqK ?_; (case zqN => k_asm); (case zqW => walk_at "M:wish"); (case zqK => assumption); k_whole); intro _; (try k_sweep)))
  (k_with "subscriptTail" => (k_here; (with_reducible show wpAny _ _ (subscriptTail _ _ (Value.ref _) (Value.int (Nat.cast _) _)) _ _ _); k_dflt (refine' name_item ?zqN ?zqM ?zqS ?zqP ?zqF ?_; (case zqN => k_asm); (case zqS => assumption); (case zqM => k_mem); (case zqP => assumption); (case zqF => assumption); k_whole); intro _; (try k_sweep)))
  (k_with "call ref" => (k_here; (with_reducible show wpAny _ _ (call (Value.ref _) [_, Value.str _ _]) _ _ _); k_dflt (refine wpAny_call ?_; refine' get_ct ?zqcB ?zqcF ?zqcX ?zqcN ?zqcT ?zqcA ?zqcf ?zqck ?zqch ?zqcr ?zqcu ?zqt ?zqn1 ?zqn2 ?zqn3 ?_ ?_; walk_at "M:args"; (case zqt => walk_at "M:tab"); (case zqn1 => walk_at "M:n1"); (case zqn2 => walk_at "M:n1"); (case zqn3 => walk_at "M:n1"); k_whole); (intro v' tv' h' tk' hlk' F' N'; (try have hgd' := look_good (St.good (by assumption)) hlk'); (try dsimp only); (try k_sweep)); rotate_left; (intro h' tk' hlk' F' N'; (try dsimp only); (try k_sweep))))
  (k_with "call ref" => (k_here; (with_reducible show wpAny _ _ (call (Value.ref _) [_, Value.str _ _, Value.str _ _]) _ _ _); k_dflt (refine wpAny_call ?_; refine' set_ct ?zqcB ?zqcF ?zqcX ?zqcN ?zqcT ?zqcA ?zqcf ?zqck ?zqch ?zqcr ?zqcu ?zqt ?zql ?zqn1 ?zqn2 ?zqn3 ?zqn4 ?zqn5 ?zqn6 ?zqn7 ?_; walk_at "M:args"; (case zqt => walk_at "M:tab"); (case zql => assumption); (case zqn1 => walk_at "M:n1"); (case zqn2 => walk_at "M:n1"); (case zqn3 => walk_at "M:n1"); (case zqn4 => walk_at "M:n1"); (case zqn5 => walk_at "M:n1"); (case zqn6 => walk_at "M:n1"); (case zqn7 => walk_at "M:n1"); k_whole); intro h' tk' news' vs' ln' F' N' U' TI'; (have hI' := TabIn.inst TI'); (have hD' := TabIn.dict TI'); (have hL' := TabIn.list TI'); (try dsimp only); (try k_sweep)))
  (k_with "call builtin:str.upper" => (k_here; (with_reducible show wpAny _ _ (call (Value.builtin "str.upper") [Value.str _ _]) _ _ _); (refine SCL.upper (by with_reducible assumption) ?_; intro _)))
  (k_with "subscriptTail" => (k_here; (with_reducible show wpAny _ _ (subscriptTail _ (Expr.Slice none (some _) none _) (Value.str _ _) (Value.ref _)) _ _ _); (with_reducible rename Fr _ _ _ _ => F'); (with_reducible rename News _ _ _ _ => N'); (refine slice_strN_ns (hsz := ?zqhsz) (s := ⟨_, _, _, _, _⟩) F' N' ?_); (case zqhsz => assumption); intro _ _ _ _ _))
  (k_with "M:st" => first | with_reducible assumption | (refine St.cons ?_; walk_at "M:st"))
  (k_with "call ref" => (k_here; (with_reducible show wpAny _ _ (call (Value.ref _) [_, Value.str _ _, Value.str _ _]) _ _ _); k_dflt (refine wpAny_call ?_; refine' lay_ct ?zqcB ?zqcF ?zqcX ?zqcN ?zqcT ?zqcA ?zqcf ?zqck ?zqch ?zqcr ?zqcu ?zqt ?zql ?zqk ?_; walk_at "M:args"; (case zqt => walk_at "M:st"); (case zql => omega); (case zqk => assumption); k_whole); intro h' tk' news' vs' ln' F' N' U' S'; (have hI' := S'.tab.inst); (have hD' := S'.tab.dict); (have hL' := S'.tab.list); (have hTI' := S'.tab); (have hnam' := S'.nam); (have hwsh' := S'.wsh); (try dsimp only); (try k_sweep)))
  (k_with "call ref" => (k_here; (with_reducible show wpAny _ _ (call (Value.ref _) [Value.int _ _, Value.ref _, Value.int _ _, Value.str _ _, Value.str _ _]) _ _ _); k_dflt (refine wpAny_call ?_; refine' before_ct ?zqcB ?zqcF ?zqcX ?zqcN ?zqcT ?zqcA ?zqcf ?zqck ?zqch ?zqcr ?zqcu ?zqz ?zqp ?zqW ?zqk1 ?zqk2 ?_; walk_at "M:args"; (case zqz => omega); (case zqp => omega); (case zqW => walk_at "M:wish"); (case zqk1 => assumption); (case zqk2 => assumption); k_whole); intro h' tk' F' N'; (try dsimp only); (try k_sweep)))
  (k_with "call builtin:len" => (k_here; k_dflt (refine' len_strsA ?zql ?zqi ?zqf ?_; (case zqi => assumption); (case zql => exact News.isList (by k_asm) (by k_mem)); (case zqf => omega); k_whole)))
  trivial
theorem freshW7 : True := by
  try row_walk
  trivial
noncomputable def WTurn (n : Nat) (J : Nat → Shared → Prop) (s : Shared) : Prop := ∃ m, m < n ∧ J m s
theorem WTurn.intro {n : Nat} {J : Nat → Shared → Prop} {s : Shared} (m : Nat) (h : m < n) (j : J m s) : WTurn n J s := ⟨m, h, j⟩
theorem While_B {prog : Program} {w : World} {A : Around} {E : Value → Shared → Prop} {s : Shared} {env : Env} {test : Expr} {body : List Stmt} {pos : Pos} {Q : Flow → Shared → Prop} (J : Nat → Shared → Prop)
    (n : Nat) (h : J n s)
    (turn : ∀ n s, J n s → wpAny (model prog w) A (isTrue test env (eval test env)) (fun b s₂ =>
        if b then wpAny (model prog w) A (execs body env) (fun f s₃ => match f with
            | .next | .cont => WTurn n J s₃
            | .brk => Q .next s₃
            | .ret v => Q (.ret v) s₃) NoE s₂
        else Q .next s₂) NoE s) :
    wpAny (model prog w) A (exec (.While test body [] pos) env) Q E s := While_J J n h turn
theorem putF_none {nms : List Str} {c : List (Str × Int)} {f p : Nat} {T : List (Str × Str)} {key : Str} (h : look T (Txt.lower (nmAt nms p)) = none) : putF nms c (f + 1) T p key = some (layT T (nmAt nms p) key) := by
  show (match look T (Txt.lower (nmAt nms p)) with | none => _ | some there => _) = _
  rw [h]
theorem putF_bef {nms : List Str} {c : List (Str × Int)} {f p : Nat} {T : List (Str × Str)} {key v : Str} (h : look T (Txt.lower (nmAt nms p)) = some v) (hb : befC c nms.length p key v = true) : putF nms c (f + 1) T p key = putF nms c f (layT T (nmAt nms p) key) (nxt nms.length p) v := by
  show (match look T (Txt.lower (nmAt nms p)) with | none => _ | some there => _) = _
  rw [h]
  exact if_pos hb
theorem putF_skip {nms : List Str} {c : List (Str × Int)} {f p : Nat} {T : List (Str × Str)} {key v : Str} (h : look T (Txt.lower (nmAt nms p)) = some v) (hb : befC c nms.length p key v = false) : putF nms c (f + 1) T p key = putF nms c f T (nxt nms.length p) key := by
  show (match look T (Txt.lower (nmAt nms p)) with | none => _ | some there => _) = _
  rw [h]
  exact if_neg (by rw [hb]; decide)
structure PutJ (s₀ : Shared) (g : Heap) (L : Addr) (w : World) (news : List (Addr × Obj)) (t l d : Addr) (hs : Int) (tkk : Tok) (nn : Nat) (nl : Addr) (nvs : List Value) (nk : Nat) (wd : Addr) (nms : List Str) (c : List (Str × Int)) (Te : List (Str × Str)) (k : Nat) (h : Heap) (m : Str → Option Value) (n' : List (Addr × Obj)) (vs : List Value) (ln : Nat) (T : List (Str × Str)) : Prop where
  fr : Fr g L h m
  nw : News g L h n'
  up : Upto l news n'
  st : St w n' t l d hs tkk nn vs ln T nl nvs nk wd nms c
  m1 : m (Str.ofString "table") = some (.ref t)
  m2 : m (Str.ofString "names") = some (.ref nl)
  m3 : m (Str.ofString "wishes") = some (.ref wd)
  m4 : ∃ ts, m (Str.ofString "size") = some (.int nms.length ts)
  alt : (m (Str.ofString "key") = some .none ∧ T = Te) ∨ (∃ key kt p pt, m (Str.ofString "key") = some (.str key kt) ∧ m (Str.ofString "place") = some (.int ((p : Nat) : Int) pt) ∧ p < nms.length ∧ kdpHas c key = true ∧ T.length + k < 100 ∧ putF nms c k T p key = some Te)
set_option maxHeartbeats 4000000 in
theorem put_ct {w : World} {mean : ExcName → Option Value} {mg mb : Str → Option Value} {A A₀ : Around} {base h₀ : Heap} {outer : List Env} {env : Env} {L : Addr} {m : Str → Option Value} {news : List (Addr × Obj)} {s : Shared} {R : Result → Shared → Prop}
  (B : Below A₀ base outer h₀) (F : Fr h₀ L s.heap m) (X : (hd.heap_39 w.params).In h₀) (N : News h₀ L s.heap news) (T : Top hd.view_39 loose mean mg mb h₀) (hA : A.frames = some (env :: outer)) (hf : env.frame = some L) (hke : env.scope.kind = .function) (hh : A.handled = none) (hroom : A.depth + 16 < recursionLimit) (hun : A.units + 140 < cLine)
  {t l d : Addr} {hs : Int} {tkk : Tok} {nn ln : Nat} {vs : List Value} {T0 : List (Str × Str)} {nl : Addr} {nvs : List Value} {nk : Nat} {wd : Addr} {nms : List Str} {c : List (Str × Int)} {p : Nat} {key : Str} {tp tk : Tok} {f : Nat} {Te : List (Str × Str)}
  (S : St w news t l d hs tkk nn vs ln T0 nl nvs nk wd nms c) (hp : p < nms.length) (hlen : T0.length + f < 100) (hk : kdpHas c key = true) (he : putF nms c f T0 p key = some Te)
  (ret : ∀ h' tk' news' vs' ln', Fr h₀ L h' m → News h₀ L h' news' → Upto l news news' → St w news' t l d hs tkk nn vs' ln' Te nl nvs nk wd nms c → R (.ok (.ret .none)) { s with heap := h', toks := tk' }) :
  codeAny (model PySem.Challenge.rw_xn0027_01.row.prog w) A (.call (.ref 390) ⟨[.ref t, .ref nl, .ref wd, .int ((p : Nat) : Int) tp, .str key tk], []⟩) R s := by
  obtain ⟨hdl, dp, fr, gd, un⟩ := A
  dsimp only at hA hh hroom hun
  subst hA hh
  revert X; k_fill; intro X
  (refine' code_def (binds := [(Str.ofString "table", .ref t), (Str.ofString "names", .ref nl), (Str.ofString "wishes", .ref wd), (Str.ofString "place", .int ((p : Nat) : Int) tp), (Str.ofString "key", .str key tk)]) ?zqk1 ?zqk2 ?zqk3 ?zqk4 ?zqk5 ?zqkA ?zqkF ?zqkK ?zqk6 ?zqk7 ?zqk8 ?zqk9 ?zqkB ?_ ?zqc2 ?zqc3 ?zqc4 ?zqc5; walk_at "M:enter"; k_whole)
  intro g' L' h' FG' F' N' B' X' T'; (try dsimp only); (try k_lift B'); (try k_fold)
  have hcfg := S.cfg
  have hI := S.tab.inst
  have hD := S.tab.dict
  have hL := S.tab.list
  have hTI := S.tab
  have hnam := S.nam
  have hstrs := S.nstr
  have hwsh := S.wsh
  have hn0 := S.cfg.n0
  have hn1 := S.cfg.n1
  k_steps
  refine Hold.mk ?_
  with_reducible rename Fr _ _ _ _ => F9
  with_reducible rename News _ _ _ _ => N9
  refine While_B (fun k s' => ∃ h tk m n' vs ln T, s' = { s with heap := h, toks := tk } ∧ PutJ s g' L' w news t l d hs tkk nn nl nvs nk wd nms c Te k h m n' vs ln T) f ⟨_, _, _, _, _, _, _, rfl, F9, N9, Upto.refl _ _, S, rfl, rfl, rfl, ⟨_, rfl⟩, .inr ⟨key, _, p, _, rfl, rfl, hp, hk, hlen, he⟩⟩ ?_
  clear F9 N9
  rintro k s' ⟨h, tk, m, n', vs1, ln1, T1, rfl, F9, N9, U9, S9, m1, m2, m3, ⟨ts, m4⟩, ⟨m5, rfl⟩ | ⟨key1, kt, p1, pt, m5, m6, hp1, hk1, hlen1, he1⟩⟩
  · clear hI hD hL hTI hnam hwsh
    k_steps
    with_reducible rename Fr _ _ _ _ => F6
    with_reducible rename News _ _ _ _ => N6
    exact ret _ _ _ _ _ F6 N6 U9 S9
  · clear hI hD hL hTI hnam hwsh
    have hI := S9.tab.inst
    have hD := S9.tab.dict
    have hL := S9.tab.list
    have hTI := S9.tab
    have hnam := S9.nam
    have hwsh := S9.wsh
    obtain _ | k := k
    · exact absurd he1 (by intro e; cases e)
    have hly := layT_len T1 (nmAt nms p1) key1
    k_steps
    · dsimp only
      with_reducible rename Fr _ _ _ _ => F6
      with_reducible rename News _ _ _ _ => N6
      with_reducible rename Upto _ _ _ => U6
      with_reducible rename St _ _ _ _ _ _ _ _ _ _ _ _ _ _ _ _ _ => S6
      rw [putF_none (by assumption)] at he1
      exact WTurn.intro 0 (Nat.succ_pos _) ⟨_, _, _, _, _, _, _, rfl, F6, N6, U9.trans U6, S6, m1, m2, m3, ⟨ts, m4⟩, .inl ⟨rfl, Option.some.inj he1⟩⟩
    · dsimp only
      with_reducible rename Fr _ _ _ _ => F6
      with_reducible rename News _ _ _ _ => N6
      with_reducible rename Upto _ _ _ => U6
      with_reducible rename St _ _ _ _ _ _ _ _ _ _ _ _ _ _ _ _ _ => S6
      rw [putF_bef (by assumption) (by assumption)] at he1
      exact WTurn.intro k (Nat.lt_succ_self _) ⟨_, _, _, _, _, _, _, rfl, F6, N6, U9.trans U6, S6, m1, m2, m3, ⟨ts, m4⟩, .inr ⟨_, _, nxt nms.length p1, _, rfl, by rw [← nxt_fmod hp1]; rfl, nxt_lt hp1, by assumption, by omega, he1⟩⟩
    · dsimp only
      with_reducible rename Fr _ _ _ _ => F6
      with_reducible rename News _ _ _ _ => N6
      rw [putF_skip (by assumption) (by assumption)] at he1
      exact WTurn.intro k (Nat.lt_succ_self _) ⟨_, _, _, _, _, _, _, rfl, F6, N6, U9, S9, m1, m2, m3, ⟨ts, m4⟩, .inr ⟨_, _, nxt nms.length p1, _, m5, by rw [← nxt_fmod hp1]; rfl, nxt_lt hp1, by assumption, by omega, he1⟩⟩
theorem freshW8 : True := by
  try row_walk
  trivial
theorem del2_ct {w : World} {mean : ExcName → Option Value} {mg mb : Str → Option Value} {A A₀ : Around} {base h₀ : Heap} {outer : List Env} {env : Env} {L : Addr} {m : Str → Option Value} {news : List (Addr × Obj)} {s : Shared} {R : Result → Shared → Prop}
  (B : Below A₀ base outer h₀) (F : Fr h₀ L s.heap m) (X : (hd.heap_39 w.params).In h₀) (N : News h₀ L s.heap news) (T : Top hd.view_39 loose mean mg mb h₀) (hA : A.frames = some (env :: outer)) (hf : env.frame = some L) (hke : env.scope.kind = .function) (hh : A.handled = none) (hroom : A.depth + 6 < recursionLimit) (hun : A.units + 40 < cLine)
  {t l d : Addr} {hs : Int} {tkk : Tok} {nn ln : Nat} {vs : List Value} {T0 : List (Str × Str)} {nl : Addr} {nvs : List Value} {nk : Nat} {wd : Addr} {nms : List Str} {c : List (Str × Int)} {nm : Str} {tn : Tok}
  (S : St w news t l d hs tkk nn vs ln T0 nl nvs nk wd nms c) (hlen : T0.length < 100) (hn1 : nm.length < 1000) (hn2 : Clean (Txt.lower nm)) (hn3 : (Txt.lower nm).cps.size < 1000000)
  (ret : ∀ h' tk' news' vs' ln', Fr h₀ L h' m → News h₀ L h' news' → Upto l news news' → St w news' t l d hs tkk nn vs' ln' (delT T0 (Txt.lower nm)) nl nvs nk wd nms c → R (.ok (.ret .none)) { s with heap := h', toks := tk' }) :
  codeAny (model PySem.Challenge.rw_xn0027_01.row.prog w) A (.call (.ref 89) ⟨[.ref t, .str nm tn], []⟩) R s :=
  del_ct B F X N T hA hf hke hh hroom hun S.tab hlen hn1 hn2 hn3 fun h' tk' news' vs' ln' F' N' U' TI' => ret h' tk' news' vs' ln' F' N' U' (S.upto U' TI' (delT_good S.good))
theorem takeF_none {nms : List Str} {c : List (Str × Int)} {f p hole : Nat} {T Te : List (Str × Str)} (h : look T (Txt.lower (nmAt nms p)) = none) (he : takeF nms c f T hole p = some Te) : T = Te := by
  cases f with
  | zero => cases he
  | succ f =>
    have he' : (match look T (Txt.lower (nmAt nms p)) with | none => some T | some there => _) = some Te := he
    rw [h] at he'
    exact Option.some.inj he'
theorem takeF_move {nms : List Str} {c : List (Str × Int)} {f p hole : Nat} {T : List (Str × Str)} {v : Str} (h : look T (Txt.lower (nmAt nms p)) = some v) (hb : ((p : Int) - (hole : Int)).fmod nms.length ≤ ((p : Int) - kdpLook c v 0).fmod nms.length) :
    takeF nms c (f + 1) T hole p = takeF nms c f (delT (layT T (nmAt nms hole) v) (Txt.lower (nmAt nms p))) p (nxt nms.length p) := by
  show (match look T (Txt.lower (nmAt nms p)) with | none => _ | some there => _) = _
  rw [h]
  exact if_pos hb
theorem takeF_skip {nms : List Str} {c : List (Str × Int)} {f p hole : Nat} {T : List (Str × Str)} {v : Str} (h : look T (Txt.lower (nmAt nms p)) = some v) (hb : ¬ ((p : Int) - (hole : Int)).fmod nms.length ≤ ((p : Int) - kdpLook c v 0).fmod nms.length) :
    takeF nms c (f + 1) T hole p = takeF nms c f T hole (nxt nms.length p) := by
  show (match look T (Txt.lower (nmAt nms p)) with | none => _ | some there => _) = _
  rw [h]
  exact if_neg hb
theorem mod_nxt {prog : Program} {w : World} {A : Around} {E : Value → Shared → Prop} {s : Shared} {n p : Nat} {t u : Tok} {Q : Value → Shared → Prop} (hp : p < n) (h : nxt n p < n → Q (.int ((nxt n p : Nat) : Int) s.toks) { s with toks := s.toks + 1 }) :
    wpAny (model prog w) A (binaryOp .Mod (.int ((p : Int) + 1) t) (.int (n : Int) u)) Q E s := by
  refine mod_int' (by omega) ?_
  rw [nxt_fmod hp]
  exact h (nxt_lt hp)
structure TakeJ (s₀ : Shared) (g : Heap) (L : Addr) (w : World) (news : List (Addr × Obj)) (t l d : Addr) (hs : Int) (tkk : Tok) (nn : Nat) (nl : Addr) (nvs : List Value) (nk : Nat) (wd : Addr) (nms : List Str) (c : List (Str × Int)) (Te : List (Str × Str)) (k : Nat) (h : Heap) (m : Str → Option Value) (n' : List (Addr × Obj)) (vs : List Value) (ln : Nat) (T : List (Str × Str)) : Prop where
  fr : Fr g L h m
  nw : News g L h n'
  up : Upto l news n'
  st : St w n' t l d hs tkk nn vs ln T nl nvs nk wd nms c
  m1 : m (Str.ofString "table") = some (.ref t)
  m2 : m (Str.ofString "names") = some (.ref nl)
  m3 : m (Str.ofString "wishes") = some (.ref wd)
  m4 : ∃ ts, m (Str.ofString "size") = some (.int nms.length ts)
  alt : (m (Str.ofString "there") = some .none ∧ T = Te) ∨ (∃ v vt p pt hole ht, m (Str.ofString "there") = some (.str v vt) ∧ m (Str.ofString "place") = some (.int ((p : Nat) : Int) pt) ∧ m (Str.ofString "hole") = some (.int ((hole : Nat) : Int) ht) ∧ p < nms.length ∧ hole < nms.length ∧ kdpHas c v = true ∧ look T (Txt.lower (nmAt nms p)) = some v ∧ T.length + k < 100 ∧ takeF nms c k T hole p = some Te)
theorem lines7 : True := by
  (k_with "call ref" => (k_here; (with_reducible show wpAny _ _ (call (Value.ref _) [_, Value.str _ _]) _ _ _); k_dflt (refine wpAny_call ?_; refine' del2_ct ?zqcB ?zqcF ?zqcX ?zqcN ?zqcT ?zqcA ?zqcf ?zqck ?zqch ?zqcr ?zqcu ?zqt ?zql ?zqn1 ?zqn2 ?zqn3 ?_; walk_at "M:args"; (case zqt => walk_at "M:st"); (case zql => omega); (case zqn1 => walk_at "M:n1"); (case zqn2 => walk_at "M:n1"); (case zqn3 => walk_at "M:n1"); k_whole); intro h' tk' news' vs' ln' F' N' U' S'; (have hI' := S'.tab.inst); (have hD' := S'.tab.dict); (have hL' := S'.tab.list); (have hTI' := S'.tab); (have hnam' := S'.nam); (have hwsh' := S'.wsh); (try dsimp only); (try k_sweep)))
  (k_with "binaryOp Mod int int" => (k_here; (with_reducible show wpAny _ _ (binaryOp Operator.Mod (Value.int (HAdd.hAdd (Nat.cast _) _) _) (Value.int (Nat.cast _) _)) _ _ _); k_dflt (refine mod_nxt (by assumption) ?_; intro _)))
  trivial
set_option maxHeartbeats 4000000 in
theorem take_ct {w : World} {mean : ExcName → Option Value} {mg mb : Str → Option Value} {A A₀ : Around} {base h₀ : Heap} {outer : List Env} {env : Env} {L : Addr} {m : Str → Option Value} {news : List (Addr × Obj)} {s : Shared} {R : Result → Shared → Prop}
  (B : Below A₀ base outer h₀) (F : Fr h₀ L s.heap m) (X : (hd.heap_39 w.params).In h₀) (N : News h₀ L s.heap news) (T : Top hd.view_39 loose mean mg mb h₀) (hA : A.frames = some (env :: outer)) (hf : env.frame = some L) (hke : env.scope.kind = .function) (hh : A.handled = none) (hroom : A.depth + 16 < recursionLimit) (hun : A.units + 140 < cLine)
  {t l d : Addr} {hs : Int} {tkk : Tok} {nn ln : Nat} {vs : List Value} {T0 : List (Str × Str)} {nl : Addr} {nvs : List Value} {nk : Nat} {wd : Addr} {nms : List Str} {c : List (Str × Int)} {p : Nat} {tp : Tok} {f : Nat} {Te : List (Str × Str)}
  (S : St w news t l d hs tkk nn vs ln T0 nl nvs nk wd nms c) (hp : p < nms.length) (hlen : T0.length + f < 100) (he : takeF nms c f (delT T0 (Txt.lower (nmAt nms p))) p (nxt nms.length p) = some Te)
  (ret : ∀ h' tk' news' vs' ln', Fr h₀ L h' m → News h₀ L h' news' → Upto l news news' → St w news' t l d hs tkk nn vs' ln' Te nl nvs nk wd nms c → R (.ok (.ret .none)) { s with heap := h', toks := tk' }) :
  codeAny (model PySem.Challenge.rw_xn0027_01.row.prog w) A (.call (.ref 397) ⟨[.ref t, .ref nl, .ref wd, .int ((p : Nat) : Int) tp], []⟩) R s := by
  obtain ⟨hdl, dp, fr, gd, un⟩ := A
  dsimp only at hA hh hroom hun
  subst hA hh
  revert X; k_fill; intro X
  (refine' code_def (binds := [(Str.ofString "table", .ref t), (Str.ofString "names", .ref nl), (Str.ofString "wishes", .ref wd), (Str.ofString "hole", .int ((p : Nat) : Int) tp)]) ?zqk1 ?zqk2 ?zqk3 ?zqk4 ?zqk5 ?zqkA ?zqkF ?zqkK ?zqk6 ?zqk7 ?zqk8 ?zqk9 ?zqkB ?_ ?zqc2 ?zqc3 ?zqc4 ?zqc5; walk_at "M:enter"; k_whole)
  intro g' L' h' FG' F' N' B' X' T'; (try dsimp only); (try k_lift B'); (try k_fold)
  have hcfg := S.cfg
  have hI := S.tab.inst
  have hD := S.tab.dict
  have hL := S.tab.list
  have hTI := S.tab
  have hnam := S.nam
  have hstrs := S.nstr
  have hwsh := S.wsh
  have hn0 := S.cfg.n0
  have hn1 := S.cfg.n1
  have hx := nxt_lt hp
  have hfx := nxt_fmod hp
  have hdl := delT_len T0 (Txt.lower (nmAt nms p))
  k_steps
  · with_reducible rename Fr _ _ _ _ => F9
    with_reducible rename News _ _ _ _ => N9
    with_reducible rename Upto _ _ _ => U9
    with_reducible rename St _ _ _ _ _ _ _ _ _ _ _ _ _ _ _ _ _ => S9
    obtain rfl := takeF_none (by assumption) he
    exact ret _ _ _ _ _ F9 N9 U9 S9
  · refine Hold.mk ?_
    with_reducible rename Fr g' L' _ _ => F9
    with_reducible rename News g' L' _ _ => N9
    with_reducible rename Upto _ _ _ => U9
    with_reducible rename St _ _ _ _ _ _ _ _ _ _ _ _ _ _ _ _ _ => S9
    refine While_B (fun k s' => ∃ h tk m n' vs ln T, s' = { s with heap := h, toks := tk } ∧ TakeJ s g' L' w news t l d hs tkk nn nl nvs nk wd nms c Te k h m n' vs ln T) f ⟨_, _, _, _, _, _, _, rfl, F9, N9, U9, S9, rfl, rfl, rfl, ⟨_, rfl⟩, .inr ⟨_, _, _, _, p, _, rfl, rfl, rfl, by assumption, hp, by assumption, by assumption, by omega, he⟩⟩ ?_
    clear F9 N9
    rintro k s' ⟨h, tk, m, n', vs1, ln1, T1, rfl, F9, N9, U8, S8, m1, m2, m3, ⟨ts, m4⟩, ⟨m5, rfl⟩ | ⟨v1, vt, p1, pt, hole, ht, m5, m6, m7, hp1, hq1, hk1, hl1, hlen1, he1⟩⟩
    · clear hI hD hL hTI hnam hwsh U9 S9
      k_steps
      with_reducible rename Fr _ _ _ _ => F6
      with_reducible rename News _ _ _ _ => N6
      exact ret _ _ _ _ _ F6 N6 U8 S8
    · clear hI hD hL hTI hnam hwsh U9 S9 he
      have hI := S8.tab.inst
      have hD := S8.tab.dict
      have hL := S8.tab.list
      have hTI := S8.tab
      have hnam := S8.nam
      have hwsh := S8.wsh
      obtain _ | k := k
      · exact absurd he1 (by intro e; cases e)
      have hly := layT_len T1 (nmAt nms hole) v1
      have hdl2 := delT_len (layT T1 (nmAt nms hole) v1) (Txt.lower (nmAt nms p1))
      have hxx := nxt_lt hp1
      k_steps
      · dsimp only
        with_reducible rename Fr _ _ _ _ => F6
        with_reducible rename News _ _ _ _ => N6
        with_reducible rename Upto _ _ _ => U6
        with_reducible rename Upto l n' _ => U5
        with_reducible rename St _ _ _ _ _ _ _ _ _ _ _ _ _ _ _ _ _ => S6
        rw [takeF_move hl1 (by assumption)] at he1
        exact WTurn.intro k (Nat.lt_succ_self _) ⟨_, _, _, _, _, _, _, rfl, F6, N6, (U8.trans U5).trans U6, S6, m1, m2, m3, ⟨ts, m4⟩, .inl ⟨rfl, takeF_none (by assumption) he1⟩⟩
      · dsimp only
        with_reducible rename Fr _ _ _ _ => F6
        with_reducible rename News _ _ _ _ => N6
        with_reducible rename Upto _ _ _ => U6
        with_reducible rename Upto l n' _ => U5
        with_reducible rename St _ _ _ _ _ _ _ _ _ _ _ _ _ _ _ _ _ => S6
        rw [takeF_move hl1 (by assumption)] at he1
        exact WTurn.intro k (Nat.lt_succ_self _) ⟨_, _, _, _, _, _, _, rfl, F6, N6, (U8.trans U5).trans U6, S6, m1, m2, m3, ⟨ts, m4⟩, .inr ⟨_, _, nxt nms.length p1, _, p1, _, rfl, rfl, rfl, hxx, hp1, by assumption, by assumption, by omega, he1⟩⟩
      · dsimp only
        with_reducible rename Fr _ _ _ _ => F6
        with_reducible rename News _ _ _ _ => N6
        rw [takeF_skip hl1 (by assumption)] at he1
        exact WTurn.intro k (Nat.lt_succ_self _) ⟨_, _, _, _, _, _, _, rfl, F6, N6, U8, S8, m1, m2, m3, ⟨ts, m4⟩, .inl ⟨rfl, takeF_none (by assumption) he1⟩⟩
      · dsimp only
        with_reducible rename Fr _ _ _ _ => F6
        with_reducible rename News _ _ _ _ => N6
        rw [takeF_skip hl1 (by assumption)] at he1
        exact WTurn.intro k (Nat.lt_succ_self _) ⟨_, _, _, _, _, _, _, rfl, F6, N6, U8, S8, m1, m2, m3, ⟨ts, m4⟩, .inr ⟨_, _, nxt nms.length p1, _, hole, _, rfl, rfl, m7, hxx, hq1, by assumption, by assumption, by omega, he1⟩⟩
theorem freshW9 : True := by
  try row_walk
  trivial
theorem wish_itemN {w : World} {A : Around} {E : Value → Shared → Prop} {h₀ : Heap} {L : Addr} {s : Shared} {value slice : PySem.Expr} {d : Addr} {news : List (Addr × Obj)} {c : List (Str × Int)} {k : Str} {p : Nat} {tk : Tok} {Q : Value → Shared → Prop}
    (N : News h₀ L s.heap news) (W : wishesIn w news d c) (hk : kdpHas c k = true) (hz : kdpLook c k 0 = (p : Int)) (h : ∀ t, Q (.int ((p : Nat) : Int) t) { s with toks := s.toks + 1 }) (hs : subscripted slice false (Value.ref d) (Value.str k tk) = operate [Value.ref d, Value.str k tk] (getItem (Value.ref d) (Value.str k tk)) := by with_unfolding_all rfl) (hg : ∀ r, letTemporaryGo value (Value.ref d) r = pure () := by intro _; with_unfolding_all rfl) :
    wpAny (model PySem.Challenge.rw_xn0027_01.row.prog w) A (subscriptTail value slice (.ref d) (.str k tk)) Q E s := wish_item N W hk (fun t => by rw [hz]; exact h t) hs hg
theorem While_C {prog : Program} {w : World} {A : Around} {E : Value → Shared → Prop} {s : Shared} {env : Env} {test : Expr} {body : List Stmt} {pos : Pos} {Q : Flow → Shared → Prop} (J : Nat → Shared → Prop) (Fin : Shared → Prop)
    (n : Nat) (h : J n s)
    (turn : ∀ n s, J n s → wpAny (model prog w) A (isTrue test env (eval test env)) (fun b s₂ =>
        if b then wpAny (model prog w) A (execs body env) (fun f s₃ => match f with
            | .next | .cont => WTurn n J s₃
            | .brk => Fin s₃
            | .ret _ => False) NoE s₂
        else Fin s₂) NoE s)
    (fin : ∀ s', Fin s' → Q .next s') :
    wpAny (model prog w) A (exec (.While test body [] pos) env) Q E s := by
  refine While_J J n h fun n s hJ => ?_
  refine wpAny_mono (turn n s hJ) (fun b s₂ hb => ?_) (fun _ _ x => x)
  cases b with
  | true =>
    rw [if_pos rfl] at hb ⊢
    refine wpAny_mono hb (fun f s₃ hf => ?_) (fun _ _ x => x)
    cases f with
    | next => exact hf
    | cont => exact hf
    | brk => exact fin _ hf
    | ret v => exact hf.elim
  | false =>
    rw [if_neg (by decide)] at hb ⊢
    exact fin _ hb
theorem seekF_none {nms : List Str} {c : List (Str × Int)} {T : List (Str × Str)} {key : Str} {f p : Nat} (h : look T (Txt.lower (nmAt nms p)) = none) : seekF nms c T key f p = p := by
  cases f with
  | zero => rfl
  | succ f =>
    show (match look T (Txt.lower (nmAt nms p)) with | none => p | some there => _) = _
    rw [h]
theorem seekF_go {nms : List Str} {c : List (Str × Int)} {T : List (Str × Str)} {key v : Str} {f p : Nat} (h : look T (Txt.lower (nmAt nms p)) = some v) (hb : befC c nms.length p v key = true) : seekF nms c T key (f + 1) p = seekF nms c T key f (nxt nms.length p) := by
  show (match look T (Txt.lower (nmAt nms p)) with | none => p | some there => _) = _
  rw [h]
  exact if_pos hb
theorem seekF_stop {nms : List Str} {c : List (Str × Int)} {T : List (Str × Str)} {key v : Str} {f p : Nat} (h : look T (Txt.lower (nmAt nms p)) = some v) (hb : befC c nms.length p v key = false) : seekF nms c T key f p = p := by
  cases f with
  | zero => rfl
  | succ f =>
    show (match look T (Txt.lower (nmAt nms p)) with | none => p | some there => _) = _
    rw [h]
    exact if_neg (by rw [hb]; decide)
structure DeedN (nms : List Str) (c : List (Str × Int)) (f : Nat) (T : List (Str × Str)) (p : Nat) (key : Str) (Te : List (Str × Str)) : Prop where
  put : T.length < nms.length → putF nms c f T p key = some Te
  no : ¬ T.length < nms.length → T = Te
structure DeedS (nms : List Str) (c : List (Str × Int)) (f : Nat) (T : List (Str × Str)) (p : Nat) (key v : Str) (Te : List (Str × Str)) : Prop where
  take : (v == key) = true → takeF nms c f (delT T (Txt.lower (nmAt nms p))) p (nxt nms.length p) = some Te
  put : (v == key) = false → T.length < nms.length → putF nms c f T p key = some Te
  no : (v == key) = false → ¬ T.length < nms.length → T = Te
theorem deedF_none {nms : List Str} {c : List (Str × Int)} {f p : Nat} {T Te : List (Str × Str)} {key : Str} (hp : p = seekF nms c T key (nms.length - 1) (wishN c key)) (h : look T (Txt.lower (nmAt nms p)) = none) (he : deedF nms c f T key = some Te) :
    DeedN nms c f T p key Te := by
  unfold deedF atT at he
  dsimp only at he
  rw [← hp, h, if_neg (by simp)] at he
  constructor
  · intro hl; rwa [if_pos hl] at he
  · intro hl; rw [if_neg hl] at he; exact Option.some.inj he
theorem deedF_some {nms : List Str} {c : List (Str × Int)} {f p : Nat} {T Te : List (Str × Str)} {key v : Str} (hp : p = seekF nms c T key (nms.length - 1) (wishN c key)) (h : look T (Txt.lower (nmAt nms p)) = some v) (he : deedF nms c f T key = some Te) :
    DeedS nms c f T p key v Te := by
  unfold deedF atT at he
  dsimp only at he
  rw [← hp, h] at he
  refine ⟨fun hk => ?_, fun hk hl => ?_, fun hk hl => ?_⟩
  · rwa [if_pos (by rw [beq_iff_eq.mp hk])] at he
  · rwa [if_neg (by simpa using hk), if_pos hl] at he
  · rw [if_neg (by simpa using hk), if_neg hl] at he; exact Option.some.inj he
theorem len_ys {prog : Program} {w : World} {A : Around} {E : Value → Shared → Prop} {s : Shared} {h₀ : Heap} {L D : Addr} {news : List (Addr × Obj)} {ys : List Value} {k : Nat} {Q : Value → Shared → Prop} (N : News h₀ L s.heap news) (hm : (D, PyProof.Rows.LCg.lst ys) ∈ news) (hk : ys.length = k) (hf : k < 1000)
    (h : Q (.int ((k : Nat) : Int) (s.toks + 1)) { s with toks := s.toks + 1 + 1 }) : wpAny (model prog w) A (call (.builtin "len") [.ref D]) Q E s := by
  have e : ys.toArray.size = k := by rw [List.size_toArray]; exact hk
  refine len_list (N.isList hm) (by rw [e]; omega) ?_
  rw [e]
  exact h
/-- the search's state: where it stands, and what lies there -/
structure SeekJ (s₀ : Shared) (g : Heap) (L : Addr) (news : List (Addr × Obj)) (t nl wd : Addr) (nms : List Str) (c : List (Str × Int)) (T : List (Str × Str)) (key : Str) (pe : Nat) (b : Bool) (k : Nat) (h : Heap) (m : Str → Option Value) (p : Nat) : Prop where
  fr : Fr g L h m
  nw : News g L h news
  m1 : m (Str.ofString "table") = some (.ref t)
  m2 : m (Str.ofString "names") = some (.ref nl)
  m3 : m (Str.ofString "wishes") = some (.ref wd)
  m4 : ∃ ts, m (Str.ofString "size") = some (.int nms.length ts)
  m5 : ∃ ts, m (Str.ofString "key") = some (.str key ts)
  m6 : ∃ ts, m (Str.ofString "place") = some (.int ((p : Nat) : Int) ts)
  m7 : ∃ ts tv, m (Str.ofString "turn") = some (.int tv ts) ∧ (b = true → tv + (k : Int) = nms.length)
  hp : p < nms.length
  sk : seekF nms c T key k p = pe
  alt : (m (Str.ofString "there") = some .none ∧ look T (Txt.lower (nmAt nms p)) = none) ∨ (∃ v vt, m (Str.ofString "there") = some (.str v vt) ∧ kdpHas c v = true ∧ look T (Txt.lower (nmAt nms p)) = some v)
noncomputable def SeekFin (s₀ : Shared) (g : Heap) (L : Addr) (news : List (Addr × Obj)) (t nl wd : Addr) (nms : List Str) (c : List (Str × Int)) (T : List (Str × Str)) (key : Str) (pe : Nat) (s' : Shared) : Prop :=
  ∃ h tk m p, s' = { s₀ with heap := h, toks := tk } ∧ SeekJ s₀ g L news t nl wd nms c T key pe false 0 h m p
theorem lines8 : True := by
  (k_with "M:st" => with_reducible first | assumption | exact St.cons (by assumption) | exact St.cons (St.cons (by assumption)) | exact St.cons (St.cons (St.cons (by assumption))) | exact St.cons (St.cons (St.cons (St.cons (by assumption)))))
  (k_with "M:tab" => with_reducible first | assumption | exact TabIn.cons (by assumption) | exact TabIn.cons (TabIn.cons (by assumption)) | exact TabIn.cons (TabIn.cons (TabIn.cons (by assumption))) | exact TabIn.cons (TabIn.cons (TabIn.cons (TabIn.cons (by assumption)))))
  (k_with "M:wish" => with_reducible first | assumption | exact wishesIn.cons (by assumption) | exact wishesIn.cons (wishesIn.cons (by assumption)) | exact wishesIn.cons (wishesIn.cons (wishesIn.cons (by assumption))) | exact wishesIn.cons (wishesIn.cons (wishesIn.cons (wishesIn.cons (by assumption)))))
  (k_with "call builtin:len" => (k_here; k_dflt (refine' len_ys ?zql ?zqi ?zqk ?zqf ?_; (case zql => k_asm); (case zqi => k_mem); (case zqk => assumption); (case zqf => omega); k_whole)))
  (k_with "subscriptTail" => (k_here; (with_reducible show wpAny _ _ (subscriptTail _ _ (Value.ref _) (Value.str _ _)) _ _ _); k_dflt (refine' wish_itemN ?zqN ?zqW ?zqK ?zqZ ?_; (case zqN => k_asm); (case zqW => walk_at "M:wish"); (case zqK => assumption); (case zqZ => assumption); k_whole); intro _; (try k_sweep)))
  (k_with "call ref" => (k_here; (with_reducible show wpAny _ _ (call (Value.ref _) _) _ _ _); k_dflt (refine wpAny_call ?_; refine' keys_ct ?zqcB ?zqcF ?zqcX ?zqcN ?zqcT ?zqcA ?zqcf ?zqck ?zqch ?zqcr ?zqcu ?zqt ?zql ?_; walk_at "M:args"; (case zqt => walk_at "M:tab"); (case zql => omega); k_whole); intro h' tk' D' ys' hys' F' N' off'; (try dsimp only); (try k_sweep)))
  (k_with "call ref" => (k_here; (with_reducible show wpAny _ _ (call (Value.ref _) [Value.ref _, Value.ref _, Value.ref _, Value.int _ _]) _ _ _); k_dflt (refine wpAny_call ?_; refine' take_ct ?zqcB ?zqcF ?zqcX ?zqcN ?zqcT ?zqcA ?zqcf ?zqck ?zqch ?zqcr ?zqcu ?zqt ?zqp ?zql ?zqe ?_; walk_at "M:args"; (case zqt => walk_at "M:st"); (case zqe => first | with_reducible assumption | exact DeedS.take (by with_reducible assumption) (by assumption)); (case zqp => assumption); (case zql => omega); k_whole); intro h' tk' news' vs' ln' F' N' U' S'; (have hI' := S'.tab.inst); (have hD' := S'.tab.dict); (have hL' := S'.tab.list); (have hTI' := S'.tab); (have hnam' := S'.nam); (have hwsh' := S'.wsh); (try dsimp only); (try k_sweep)))
  (k_with "call ref" => (k_here; (with_reducible show wpAny _ _ (call (Value.ref _) [Value.ref _, Value.ref _, Value.ref _, Value.int _ _, Value.str _ _]) _ _ _); k_dflt (refine wpAny_call ?_; refine' put_ct ?zqcB ?zqcF ?zqcX ?zqcN ?zqcT ?zqcA ?zqcf ?zqck ?zqch ?zqcr ?zqcu ?zqt ?zqp ?zql ?zqk ?zqe ?_; walk_at "M:args"; (case zqt => walk_at "M:st"); (case zqe => first | with_reducible assumption | exact DeedN.put (by with_reducible assumption) (by omega) | exact DeedS.put (by with_reducible assumption) (by assumption) (by omega)); (case zqp => assumption); (case zql => omega); (case zqk => assumption); k_whole); intro h' tk' news' vs' ln' F' N' U' S'; (have hI' := S'.tab.inst); (have hD' := S'.tab.dict); (have hL' := S'.tab.list); (have hTI' := S'.tab); (have hnam' := S'.nam); (have hwsh' := S'.wsh); (try dsimp only); (try k_sweep)))
  trivial
set_option maxHeartbeats 4000000 in
theorem deed_ct {w : World} {mean : ExcName → Option Value} {mg mb : Str → Option Value} {A A₀ : Around} {base h₀ : Heap} {outer : List Env} {env : Env} {L : Addr} {m : Str → Option Value} {news : List (Addr × Obj)} {s : Shared} {R : Result → Shared → Prop}
  (B : Below A₀ base outer h₀) (F : Fr h₀ L s.heap m) (X : (hd.heap_39 w.params).In h₀) (N : News h₀ L s.heap news) (T : Top hd.view_39 loose mean mg mb h₀) (hA : A.frames = some (env :: outer)) (hf : env.frame = some L) (hke : env.scope.kind = .function) (hh : A.handled = none) (hroom : A.depth + 19 < recursionLimit) (hun : A.units + 180 < cLine)
  {t l d : Addr} {hs : Int} {tkk : Tok} {nn ln : Nat} {vs : List Value} {T0 : List (Str × Str)} {nl : Addr} {nvs : List Value} {nk : Nat} {wd : Addr} {nms : List Str} {c : List (Str × Int)} {key : Str} {tk : Tok} {f : Nat} {Te : List (Str × Str)}
  (S : St w news t l d hs tkk nn vs ln T0 nl nvs nk wd nms c) (hlen : T0.length + f < 100) (hk : kdpHas c key = true) (he : deedF nms c f T0 key = some Te)
  (ret : ∀ h' tk' news' vs' ln', Fr h₀ L h' m → News h₀ L h' news' → Upto l news news' → St w news' t l d hs tkk nn vs' ln' Te nl nvs nk wd nms c → R (.ok (.ret .none)) { s with heap := h', toks := tk' }) :
  codeAny (model PySem.Challenge.rw_xn0027_01.row.prog w) A (.call (.ref 404) ⟨[.ref t, .ref nl, .ref wd, .str key tk], []⟩) R s := by
  obtain ⟨hdl, dp, fr, gd, un⟩ := A
  dsimp only at hA hh hroom hun
  subst hA hh
  revert X; k_fill; intro X
  (refine' code_def (binds := [(Str.ofString "table", .ref t), (Str.ofString "names", .ref nl), (Str.ofString "wishes", .ref wd), (Str.ofString "key", .str key tk)]) ?zqk1 ?zqk2 ?zqk3 ?zqk4 ?zqk5 ?zqkA ?zqkF ?zqkK ?zqk6 ?zqk7 ?zqk8 ?zqk9 ?zqkB ?_ ?zqc2 ?zqc3 ?zqc4 ?zqc5; walk_at "M:enter"; k_whole)
  intro g' L' h' FG' F' N' B' X' T'; (try dsimp only); (try k_lift B'); (try k_fold)
  have hcfg := S.cfg
  have hI := S.tab.inst
  have hD := S.tab.dict
  have hL := S.tab.list
  have hTI := S.tab
  have hnam := S.nam
  have hstrs := S.nstr
  have hwsh := S.wsh
  have hn0 := S.cfg.n0
  have hn1 := S.cfg.n1
  obtain ⟨p0, hp0, hp0'⟩ := hcfg.wish key hk
  have hp0'' : wishN c key = p0 := by unfold wishN; rw [hp0]; rfl
  k_steps
  · refine Hold.mk ?_
    with_reducible rename Fr g' L' _ _ => F9
    with_reducible rename News g' L' _ _ => N9
    refine While_C (fun k s' => ∃ h tk m p, s' = { s with heap := h, toks := tk } ∧ SeekJ s g' L' news t nl wd nms c T0 key (seekF nms c T0 key (nms.length - 1) (wishN c key)) true k h m p) (SeekFin s g' L' news t nl wd nms c T0 key (seekF nms c T0 key (nms.length - 1) (wishN c key))) (nms.length - 1) ⟨_, _, _, p0, rfl, F9, N9, rfl, rfl, rfl, ⟨_, rfl⟩, ⟨_, rfl⟩, ⟨_, rfl⟩, ⟨_, _, rfl, fun _ => by omega⟩, hp0', by rw [hp0''], .inl ⟨rfl, by assumption⟩⟩ ?_ ?_
    · clear F9 N9
      rintro k s' ⟨h, tk, m, p, rfl, F9, N9, m1, m2, m3, ⟨ts4, m4⟩, ⟨ts5, m5⟩, ⟨ts6, m6⟩, ⟨ts7, tv, m7, htv⟩, hp, hsk, ⟨ma, hla⟩ | ⟨v, vt, ma, hgv, hla⟩⟩
      · have htv := htv rfl
        k_steps
        all_goals (with_reducible rename Fr g' L' _ _ => F6)
        all_goals (with_reducible rename News g' L' _ _ => N6)
        all_goals exact ⟨_, _, _, p, rfl, F6, N6, m1, m2, m3, ⟨ts4, m4⟩, ⟨ts5, m5⟩, ⟨ts6, m6⟩, ⟨ts7, tv, m7, fun e => nomatch e⟩, hp, (seekF_none hla).symm.trans hsk, .inl ⟨ma, hla⟩⟩
      · have htv := htv rfl
        have hxx := nxt_lt hp
        k_steps
        · dsimp only
          with_reducible rename Fr g' L' _ _ => F6
          with_reducible rename News g' L' _ _ => N6
          obtain ⟨k, rfl⟩ : ∃ k', k = k' + 1 := ⟨k - 1, by omega⟩
          rw [seekF_go hla (by assumption)] at hsk
          exact WTurn.intro k (Nat.lt_succ_self _) ⟨_, _, _, nxt nms.length p, rfl, F6, N6, m1, m2, m3, ⟨ts4, m4⟩, ⟨ts5, m5⟩, ⟨_, rfl⟩, ⟨_, _, rfl, fun _ => by omega⟩, hxx, hsk, .inl ⟨rfl, by assumption⟩⟩
        · dsimp only
          with_reducible rename Fr g' L' _ _ => F6
          with_reducible rename News g' L' _ _ => N6
          obtain ⟨k, rfl⟩ : ∃ k', k = k' + 1 := ⟨k - 1, by omega⟩
          rw [seekF_go hla (by assumption)] at hsk
          exact WTurn.intro k (Nat.lt_succ_self _) ⟨_, _, _, nxt nms.length p, rfl, F6, N6, m1, m2, m3, ⟨ts4, m4⟩, ⟨ts5, m5⟩, ⟨_, rfl⟩, ⟨_, _, rfl, fun _ => by omega⟩, hxx, hsk, .inr ⟨_, _, rfl, by assumption, by assumption⟩⟩
        · with_reducible rename Fr g' L' _ _ => F6
          with_reducible rename News g' L' _ _ => N6
          exact ⟨_, _, _, p, rfl, F6, N6, m1, m2, m3, ⟨ts4, m4⟩, ⟨ts5, m5⟩, ⟨ts6, m6⟩, ⟨ts7, tv, m7, fun e => nomatch e⟩, hp, (seekF_stop hla (by assumption)).symm.trans hsk, .inr ⟨v, vt, ma, hgv, hla⟩⟩
        · with_reducible rename Fr g' L' _ _ => F6
          with_reducible rename News g' L' _ _ => N6
          obtain rfl : k = 0 := by omega
          exact ⟨_, _, _, p, rfl, F6, N6, m1, m2, m3, ⟨ts4, m4⟩, ⟨ts5, m5⟩, ⟨ts6, m6⟩, ⟨ts7, tv, m7, fun e => nomatch e⟩, hp, hsk, .inr ⟨v, vt, ma, hgv, hla⟩⟩
    · clear F9 N9
      rintro s' ⟨h, tk, m, p, rfl, F9, N9, m1, m2, m3, ⟨ts4, m4⟩, ⟨ts5, m5⟩, ⟨ts6, m6⟩, -, hp, hsk, ⟨ma, hla⟩ | ⟨v, vt, ma, hgv, hla⟩⟩
      · have hsk : p = _ := hsk
        have hxx := nxt_lt hp
        have hdn := deedF_none hsk hla he
        clear he
        k_steps
        · with_reducible rename Fr h₀ L _ _ => F6
          with_reducible rename News h₀ L _ _ => N6
          with_reducible rename Upto _ _ _ => U6
          with_reducible rename St _ _ _ _ _ _ _ _ _ _ _ _ _ _ _ _ _ => S6
          exact ret _ _ _ _ _ F6 N6 (U6.drop fun p hp => List.mem_cons_of_mem _ hp) S6
        · with_reducible rename Fr h₀ L _ _ => F6
          with_reducible rename News h₀ L _ _ => N6
          obtain rfl := hdn.no (by omega)
          exact ret _ _ _ _ _ F6 (cb_drop N6 fun p hp => List.mem_cons_of_mem _ hp) (Upto.refl _ _) S
      · have hsk : p = _ := hsk
        have hxx := nxt_lt hp
        have hds := deedF_some hsk hla he
        clear he
        k_steps
        · with_reducible rename Fr h₀ L _ _ => F6
          with_reducible rename News h₀ L _ _ => N6
          with_reducible rename Upto _ _ _ => U6
          with_reducible rename St _ _ _ _ _ _ _ _ _ _ _ _ _ _ _ _ _ => S6
          exact ret _ _ _ _ _ F6 N6 U6 S6
        · with_reducible rename Fr h₀ L _ _ => F6
          with_reducible rename News h₀ L _ _ => N6
          with_reducible rename Upto _ _ _ => U6
          with_reducible rename St _ _ _ _ _ _ _ _ _ _ _ _ _ _ _ _ _ => S6
          exact ret _ _ _ _ _ F6 N6 (U6.drop fun p hp => List.mem_cons_of_mem _ hp) S6
        · with_reducible rename Fr h₀ L _ _ => F6
          with_reducible rename News h₀ L _ _ => N6
          obtain rfl := hds.no (by assumption) (by omega)
          exact ret _ _ _ _ _ F6 (cb_drop N6 fun p hp => List.mem_cons_of_mem _ hp) (Upto.refl _ _) S
  · refine Hold.mk ?_
    with_reducible rename Fr g' L' _ _ => F9
    with_reducible rename News g' L' _ _ => N9
    refine While_C (fun k s' => ∃ h tk m p, s' = { s with heap := h, toks := tk } ∧ SeekJ s g' L' news t nl wd nms c T0 key (seekF nms c T0 key (nms.length - 1) (wishN c key)) true k h m p) (SeekFin s g' L' news t nl wd nms c T0 key (seekF nms c T0 key (nms.length - 1) (wishN c key))) (nms.length - 1) ⟨_, _, _, p0, rfl, F9, N9, rfl, rfl, rfl, ⟨_, rfl⟩, ⟨_, rfl⟩, ⟨_, rfl⟩, ⟨_, _, rfl, fun _ => by omega⟩, hp0', by rw [hp0''], .inr ⟨_, _, rfl, by assumption, by assumption⟩⟩ ?_ ?_
    · clear F9 N9
      rintro k s' ⟨h, tk, m, p, rfl, F9, N9, m1, m2, m3, ⟨ts4, m4⟩, ⟨ts5, m5⟩, ⟨ts6, m6⟩, ⟨ts7, tv, m7, htv⟩, hp, hsk, ⟨ma, hla⟩ | ⟨v, vt, ma, hgv, hla⟩⟩
      · have htv := htv rfl
        k_steps
        all_goals (with_reducible rename Fr g' L' _ _ => F6)
        all_goals (with_reducible rename News g' L' _ _ => N6)
        all_goals exact ⟨_, _, _, p, rfl, F6, N6, m1, m2, m3, ⟨ts4, m4⟩, ⟨ts5, m5⟩, ⟨ts6, m6⟩, ⟨ts7, tv, m7, fun e => nomatch e⟩, hp, (seekF_none hla).symm.trans hsk, .inl ⟨ma, hla⟩⟩
      · have htv := htv rfl
        have hxx := nxt_lt hp
        k_steps
        · dsimp only
          with_reducible rename Fr g' L' _ _ => F6
          with_reducible rename News g' L' _ _ => N6
          obtain ⟨k, rfl⟩ : ∃ k', k = k' + 1 := ⟨k - 1, by omega⟩
          rw [seekF_go hla (by assumption)] at hsk
          exact WTurn.intro k (Nat.lt_succ_self _) ⟨_, _, _, nxt nms.length p, rfl, F6, N6, m1, m2, m3, ⟨ts4, m4⟩, ⟨ts5, m5⟩, ⟨_, rfl⟩, ⟨_, _, rfl, fun _ => by omega⟩, hxx, hsk, .inl ⟨rfl, by assumption⟩⟩
        · dsimp only
          with_reducible rename Fr g' L' _ _ => F6
          with_reducible rename News g' L' _ _ => N6
          obtain ⟨k, rfl⟩ : ∃ k', k = k' + 1 := ⟨k - 1, by omega⟩
          rw [seekF_go hla (by assumption)] at hsk
          exact WTurn.intro k (Nat.lt_succ_self _) ⟨_, _, _, nxt nms.length p, rfl, F6, N6, m1, m2, m3, ⟨ts4, m4⟩, ⟨ts5, m5⟩, ⟨_, rfl⟩, ⟨_, _, rfl, fun _ => by omega⟩, hxx, hsk, .inr ⟨_, _, rfl, by assumption, by assumption⟩⟩
        · with_reducible rename Fr g' L' _ _ => F6
          with_reducible rename News g' L' _ _ => N6
          exact ⟨_, _, _, p, rfl, F6, N6, m1, m2, m3, ⟨ts4, m4⟩, ⟨ts5, m5⟩, ⟨ts6, m6⟩, ⟨ts7, tv, m7, fun e => nomatch e⟩, hp, (seekF_stop hla (by assumption)).symm.trans hsk, .inr ⟨v, vt, ma, hgv, hla⟩⟩
        · with_reducible rename Fr g' L' _ _ => F6
          with_reducible rename News g' L' _ _ => N6
          obtain rfl : k = 0 := by omega
          exact ⟨_, _, _, p, rfl, F6, N6, m1, m2, m3, ⟨ts4, m4⟩, ⟨ts5, m5⟩, ⟨ts6, m6⟩, ⟨ts7, tv, m7, fun e => nomatch e⟩, hp, hsk, .inr ⟨v, vt, ma, hgv, hla⟩⟩
    · clear F9 N9
      rintro s' ⟨h, tk, m, p, rfl, F9, N9, m1, m2, m3, ⟨ts4, m4⟩, ⟨ts5, m5⟩, ⟨ts6, m6⟩, -, hp, hsk, ⟨ma, hla⟩ | ⟨v, vt, ma, hgv, hla⟩⟩
      · have hsk : p = _ := hsk
        have hxx := nxt_lt hp
        have hdn := deedF_none hsk hla he
        clear he
        k_steps
        · with_reducible rename Fr h₀ L _ _ => F6
          with_reducible rename News h₀ L _ _ => N6
          with_reducible rename Upto _ _ _ => U6
          with_reducible rename St _ _ _ _ _ _ _ _ _ _ _ _ _ _ _ _ _ => S6
          exact ret _ _ _ _ _ F6 N6 (U6.drop fun p hp => List.mem_cons_of_mem _ hp) S6
        · with_reducible rename Fr h₀ L _ _ => F6
          with_reducible rename News h₀ L _ _ => N6
          obtain rfl := hdn.no (by omega)
          exact ret _ _ _ _ _ F6 (cb_drop N6 fun p hp => List.mem_cons_of_mem _ hp) (Upto.refl _ _) S
      · have hsk : p = _ := hsk
        have hxx := nxt_lt hp
        have hds := deedF_some hsk hla he
        clear he
        k_steps
        · with_reducible rename Fr h₀ L _ _ => F6
          with_reducible rename News h₀ L _ _ => N6
          with_reducible rename Upto _ _ _ => U6
          with_reducible rename St _ _ _ _ _ _ _ _ _ _ _ _ _ _ _ _ _ => S6
          exact ret _ _ _ _ _ F6 N6 U6 S6
        · with_reducible rename Fr h₀ L _ _ => F6
          with_reducible rename News h₀ L _ _ => N6
          with_reducible rename Upto _ _ _ => U6
          with_reducible rename St _ _ _ _ _ _ _ _ _ _ _ _ _ _ _ _ _ => S6
          exact ret _ _ _ _ _ F6 N6 (U6.drop fun p hp => List.mem_cons_of_mem _ hp) S6
        · with_reducible rename Fr h₀ L _ _ => F6
          with_reducible rename News h₀ L _ _ => N6
          obtain rfl := hds.no (by assumption) (by omega)
          exact ret _ _ _ _ _ F6 (cb_drop N6 fun p hp => List.mem_cons_of_mem _ hp) (Upto.refl _ _) S
theorem freshW10 : True := by
  try row_walk
  trivial
noncomputable def excT (hs : List Int) (n : Nat) (e : Int) (b : Nat) (p : Int × Int) : Int := p.2 + ((hs.count ((e - (0 + (b : Int))).fmod (n : Int)) : Nat) : Int) - 1
noncomputable def excP (hs : List Int) (n : Nat) (e : Int) : Nat → Int × Int
  | 0 => (0, 0)
  | b + 1 => (if excT hs n e b (excP hs n e b) > (excP hs n e b).1 then excT hs n e b (excP hs n e b) else (excP hs n e b).1, excT hs n e b (excP hs n e b))
theorem rangeSize_n (n : Nat) : Builtin.Range.rangeSize 0 n 1 = (n : Int) := by
  rw [rangeSize_nat]; simp
theorem small_n {n : Nat} (h : n < 50) : Builtin.Range.small 0 n 1 = true := by
  unfold Builtin.Range.small
  rw [rangeSize_n]
  have a1 : Builtin.Range.rangeFitsLong (n : Int) = true := by unfold Builtin.Range.rangeFitsLong; simp; omega
  have a2 : Builtin.Range.rangeFitsLong ((n : Int) + (1 - 1)) = true := by rw [show (n : Int) + (1 - 1) = n by omega]; exact a1
  rw [a1, if_pos (by decide), a2, show Builtin.Range.rangeFitsLong 0 = true from by decide, show Builtin.Range.rangeFitsLong 1 = true from by decide]
  simp
noncomputable def excF (hs : List Int) (n : Nat) (e : Int) : Int := (excP hs n e n).1
theorem lines9 : True := by
  (k_with "getMethod ref" => (k_here; (with_reducible show wpAny _ _ (getMethod (Value.ref _) (PySem.Str.ofString "count") _) _ _ _); k_dflt (refine' kl_method ?zqN ?zqm PySem.F.slot_list_count PySem.F.type_list_count ?_; (case zqN => k_asm); (case zqm => k_mem))))
  (k_with "call builtin:list.count" => (k_here; (with_reducible show wpAny _ _ (call (Value.builtin _) [Value.ref _, Value.int _ _]) _ _ _); k_dflt (refine' count_list_ints ?zql ?zqi ?_; (case zqi => assumption); (case zql => exact News.isList (by k_asm) (by k_mem)); k_whole)))
  (k_with "exec For Name Call cons nil" => (k_here; k_dflt (refine For_hold ?_)))
  trivial
set_option maxHeartbeats 4000000 in
theorem excess_ct {w : World} {mean : ExcName → Option Value} {mg mb : Str → Option Value} {A A₀ : Around} {base h₀ : Heap} {outer : List Env} {env : Env} {L : Addr} {m : Str → Option Value} {news : List (Addr × Obj)} {s : Shared} {R : Result → Shared → Prop}
  (B : Below A₀ base outer h₀) (F : Fr h₀ L s.heap m) (X : (hd.heap_39 w.params).In h₀) (N : News h₀ L s.heap news) (T : Top hd.view_39 loose mean mg mb h₀) (hA : A.frames = some (env :: outer)) (hf : env.frame = some L) (hke : env.scope.kind = .function) (hh : A.handled = none) (hroom : A.depth + 6 < recursionLimit) (hun : A.units + 40 < cLine)
  {ho : Addr} {hvs : List Value} {hk : Nat} {hs : List Int} {n : Nat} {e : Int} {t1 t2 : Tok}
  (hm : (ho, listOf hvs.toArray hk) ∈ news) (hi : IntsAre hvs hs) (hn0 : 0 < n) (hn1 : n < 50) (hl : hs.length < 50)
  (ret : ∀ h' tk' t', Fr h₀ L h' m → News h₀ L h' news → R (.ok (.ret (.int (excF hs n e) t'))) { s with heap := h', toks := tk' }) :
  codeAny (model PySem.Challenge.rw_xn0027_01.row.prog w) A (.call (.ref 411) ⟨[.ref ho, .int (n : Nat) t1, .int e t2], []⟩) R s := by
  obtain ⟨hdl, dp, fr, gd, un⟩ := A
  dsimp only at hA hh hroom hun
  subst hA hh
  revert X; k_fill; intro X
  (refine' code_def (binds := [(Str.ofString "homes", .ref ho), (Str.ofString "size", .int (n : Nat) t1), (Str.ofString "end", .int e t2)]) ?zqk1 ?zqk2 ?zqk3 ?zqk4 ?zqk5 ?zqkA ?zqkF ?zqkK ?zqk6 ?zqk7 ?zqk8 ?zqk9 ?zqkB ?_ ?zqc2 ?zqc3 ?zqc4 ?zqc5; walk_at "M:enter"; k_whole)
  intro g' L' h' FG' F' N' B' X' T'; (try dsimp only); (try k_lift B'); (try k_fold)
  k_steps
  refine Hold.mk ?_
  with_reducible rename Fr g' L' _ _ => F9
  with_reducible rename News g' L' _ _ => N9
  refine iter_range_J (a := 0) (b := n) (k := n) rfl F9 N9 (by assumption) (small_n hn1) (rangeSize_n n) (fun i m' n' => n' = news ∧ m' (Str.ofString "homes") = some (.ref ho) ∧ (∃ tx, m' (Str.ofString "size") = some (.int (n : Int) tx)) ∧ (∃ tx, m' (Str.ofString "end") = some (.int e tx)) ∧ (∃ tx, m' (Str.ofString "most") = some (.int (excP hs n e i).1 tx)) ∧ (∃ tx, m' (Str.ofString "total") = some (.int (excP hs n e i).2 tx))) ⟨rfl, rfl, ⟨_, rfl⟩, ⟨_, rfl⟩, ⟨_, rfl⟩, ⟨_, rfl⟩⟩ ?_ ?_
  · intro i tv m' n' I it h tk hi9 hj hc F8 N8 off
    obtain ⟨rfl, m1, ⟨t2, m2⟩, ⟨t3, m3⟩, ⟨t4, m4⟩, ⟨t5, m5⟩⟩ := hj
    clear F9 N9
    k_steps
    with_reducible rename Fr g' L' _ _ => F6
    with_reducible rename News g' L' _ _ => N6
    dsimp only
    exact TurnJ.intro F6 N6 off ⟨rfl, m1, ⟨t2, m2⟩, ⟨t3, m3⟩, ⟨_, rfl⟩, ⟨_, rfl⟩⟩
  · intro h tk m' n' hj F8 N8
    obtain ⟨rfl, m1, ⟨t2, m2⟩, ⟨t3, m3⟩, ⟨t4, m4⟩, ⟨t5, m5⟩⟩ := hj
    clear F9 N9
    k_steps
    with_reducible rename Fr h₀ L _ _ => F6
    with_reducible rename News h₀ L _ _ => N6
    exact ret _ _ _ F6 N6
theorem freshW11 : True := by
  try row_walk
  trivial
noncomputable def lesserL (c : List (Str × Int)) (ks : List Str) (key : Str) : List Str := ks.filter fun one => kdpLook c one 0 == kdpLook c key 0 && decide (one.cps.toList < key.cps.toList)
noncomputable def homesL (c : List (Str × Int)) (ks : List Str) : List Int := ks.map fun k => kdpLook c k 0
theorem homes_next {c : List (Str × Int)} {ks : List Str} {i : Nat} {y : Str} {ys : List Value} {t : Tok} (h : IntsAre ys (homesL c (ks.take i))) (hy : ks[i]? = some y) : IntsAre (ys ++ [.int (kdpLook c y 0) t]) (homesL c (ks.take (i + 1))) := by
  unfold homesL at *
  rw [List.take_add_one, hy]
  simp only [Option.toList_some, List.map_append, List.map_cons, List.map_nil]
  exact h.append (.cons _ _ .nil)
noncomputable def dueZ (nms : List Str) (c : List (Str × Int)) (ks : List Str) (key : Str) : Int := (kdpLook c key 0 + excF (homesL c ks) nms.length (kdpLook c key 0 - 1) + ((lesserL c ks key).length : Int)).fmod (nms.length : Int)
theorem allLt_mem {d : Nat} : ∀ {l : List (Addr × Obj)}, AllLt d l → ∀ p ∈ l, @LT.lt Nat _ p.1 d
  | [], _, p, hp => nomatch hp
  | q :: r, h, p, hp => by
    rcases List.mem_cons.mp hp with rfl | hp
    · exact h.1
    · exact allLt_mem h.2 p hp
theorem due_o {H L x : Addr} {o : Obj} {news : List (Addr × Obj)} (h : @Ne Nat H x) (hn : ∀ p ∈ news, p.1 < L) (hx : @LE.le Nat _ L x) : ∀ p ∈ ((H, o) :: news), p.1 ≠ x := by
  intro p hp
  rcases List.mem_cons.mp hp with rfl | hp
  · exact h
  · exact Nat.ne_of_lt (Nat.lt_of_lt_of_le (hn p hp) hx)
theorem due_off {D H x1 x2 x3 : Addr} {oa ob oc : Obj} {ys : List Value} {news : List (Addr × Obj)} (h : H < D ∧ x1 < D ∧ x2 < D ∧ x3 < D ∧ AllLt D news) : ∀ p ∈ ((x1, oa) :: (x2, ob) :: (x3, oc) :: (H, PyProof.Rows.LCg.lst ys) :: news), p.1 ≠ D := by
  intro p hp
  obtain ⟨h1, h2, h3, h4, h5⟩ := h
  simp only [List.mem_cons] at hp
  rcases hp with rfl | rfl | rfl | rfl | hp
  · exact Nat.ne_of_lt h2
  · exact Nat.ne_of_lt h3
  · exact Nat.ne_of_lt h4
  · exact Nat.ne_of_lt h1
  · exact Nat.ne_of_lt (allLt_mem h5 p hp)
noncomputable def dueT (nms : List Str) (c : List (Str × Int)) (ks l : List Str) : List (Str × Str) := l.map fun key => (spell key (nmAt nms (dueZ nms c ks key).toNat), key)
structure DueS (nl kl L D H : Addr) (news : List (Addr × Obj)) (hv : List Value) (nms : List Str) (c : List (Str × Int)) (ks : List Str) (oc : Obj) (i : Nat) (m : Str → Option Value) (n : List (Addr × Obj)) (oa ob : Obj) (ys : List Value) (kd : Nat) (rest : List (Addr × Obj)) : Prop where
  sh : n = (L + 1 + 1 + 1, oa) :: (L + 1 + 1, ob) :: (L + 1, oc) :: (D, listOf ys.toArray kd) :: rest
  da : ∃ x, oa.data = Data.cell x
  db : ∃ x, ob.data = Data.cell x
  off : ∀ p ∈ ((L + 1 + 1 + 1, oa) :: (L + 1 + 1, ob) :: (L + 1, oc) :: rest), p.1 ≠ D
  o1 : ∀ p ∈ rest, p.1 ≠ L + 1
  o2 : ∀ p ∈ rest, p.1 ≠ L + 1 + 1
  o3 : ∀ p ∈ rest, p.1 ≠ L + 1 + 1 + 1
  mH : (H, PyProof.Rows.LCg.lst hv) ∈ rest
  sub : ∀ p ∈ news, p ∈ rest
  rows : Rows rest ys (dueT nms c ks (ks.take i))
  m1 : m (Str.ofString "names") = some (.ref nl)
  m2 : m (Str.ofString "kept") = some (.ref kl)
  m3 : m (Str.ofString "homes") = some (.ref H)
  m4 : m (Str.ofString "due") = some (.ref D)
noncomputable def DueJ (nl kl L D H : Addr) (news : List (Addr × Obj)) (hv : List Value) (nms : List Str) (c : List (Str × Int)) (ks : List Str) (oc : Obj) (i : Nat) (m : Str → Option Value) (n : List (Addr × Obj)) : Prop :=
  ∃ oa ob ys kd rest, DueS nl kl L D H news hv nms c ks oc i m n oa ob ys kd rest
theorem spell_B {key nm : Str} (h : (Txt.slice key none (some 1) == Str.ofString "B") = true) : spell key nm = Txt.upper nm := if_pos h
theorem spell_b {key nm : Str} (h : (Txt.slice key none (some 1) == Str.ofString "B") = false) : spell key nm = nm := if_neg (by unfold bKey; rw [h]; decide)
theorem dueT_next {nms : List Str} {c : List (Str × Int)} {ks : List Str} {i : Nat} {y : Str} (hy : ks[i]? = some y) : dueT nms c ks (ks.take (i + 1)) = dueT nms c ks (ks.take i) ++ [(spell y (nmAt nms (dueZ nms c ks y).toNat), y)] := by
  unfold dueT
  rw [List.take_add_one, hy]
  simp only [Option.toList_some, List.map_append, List.map_cons, List.map_nil]
theorem due_end {g h : Heap} {L I D T Dl H nl kl : Addr} {it oa ob oc dl old : Obj} {ys' hv : List Value} {kd i k : Nat} {rest news : List (Addr × Obj)} {nms : List Str} {c : List (Str × Int)} {ks : List Str} {y x : Str} {tx ty : Tok} {m : Str → Option Value}
    (N : News g L h (putAt D (listOf (ys'.toArray.push (.ref T)) (kd + 1)) ((T, ({ cls := .type "tuple", data := .seq #[.str x tx, .str y ty] k } : Obj)) :: (Dl, dl) :: (I, it) :: (L + 1 + 1 + 1, oa) :: (L + 1 + 1, ob) :: (L + 1, oc) :: (D, old) :: rest)))
    (l : Dl < T ∧ I < T ∧ L + 1 + 1 + 1 < T ∧ L + 1 + 1 < T ∧ L + 1 < T ∧ D < T ∧ AllLt T rest)
    (F : Fr g L h m) (hd3 : @Ne Nat (L + 1 + 1 + 1) D) (hd2 : @Ne Nat (L + 1 + 1) D) (hd1 : @Ne Nat (L + 1) D) (hofr : ∀ p ∈ rest, p.1 ≠ D) (hi3 : @Ne Nat (L + 1 + 1 + 1) I) (hi2 : @Ne Nat (L + 1 + 1) I) (hi1 : @Ne Nat (L + 1) I) (hiD : @Ne Nat D I) (hir : ∀ p ∈ rest, p.1 ≠ I) (hc : it.cls = .type "list_iterator")
    (o1 : ∀ p ∈ rest, p.1 ≠ L + 1) (o2 : ∀ p ∈ rest, p.1 ≠ L + 1 + 1) (o3 : ∀ p ∈ rest, p.1 ≠ L + 1 + 1 + 1) (mH : (H, PyProof.Rows.LCg.lst hv) ∈ rest) (sub : ∀ p ∈ news, p ∈ rest) (rows : Rows rest ys' (dueT nms c ks (ks.take i))) (hy : ks[i]? = some y) (hx : x = spell y (nmAt nms (dueZ nms c ks y).toNat))
    (da : ∃ x, oa.data = Data.cell x) (db : ∃ x, ob.data = Data.cell x)
    (m1 : m (Str.ofString "names") = some (.ref nl)) (m2 : m (Str.ofString "kept") = some (.ref kl)) (m3 : m (Str.ofString "homes") = some (.ref H)) (m4 : m (Str.ofString "due") = some (.ref D)) :
    ∃ n', News g L h ((I, it) :: n') ∧ OffI I it n' ∧ DueJ nl kl L D H news hv nms c ks oc (i + 1) m n' := by
  obtain ⟨l1, l2, l3, l4, l5, l6, l7⟩ := l
  have hTD : T ≠ D := fun e => absurd l6 (by rw [e]; exact Nat.lt_irrefl _)
  have hTI : T ≠ I := fun e => absurd l2 (by rw [e]; exact Nat.lt_irrefl _)
  have hTr : ∀ p ∈ rest, p.1 ≠ T := fun p hp => Nat.ne_of_lt (allLt_mem l7 p hp)
  refine ⟨(L + 1 + 1 + 1, oa) :: (L + 1 + 1, ob) :: (L + 1, oc) :: (D, listOf (ys' ++ [Value.ref T]).toArray (kd + 1)) :: (T, { cls := .type "tuple", data := .seq #[.str x tx, .str y ty] k }) :: rest, ?_, ?_, oa, ob, ys' ++ [Value.ref T], kd + 1, (T, { cls := .type "tuple", data := .seq #[.str x tx, .str y ty] k }) :: rest, rfl, da, db, ?_, ?_, ?_, ?_, List.mem_cons_of_mem _ mH, fun p hp => List.mem_cons_of_mem _ (sub p hp), ?_, m1, m2, m3, m4⟩
  · refine cb_drop N ?_
    intro p hp
    simp only [List.mem_cons] at hp
    rcases hp with rfl | rfl | rfl | rfl | rfl | rfl | hp
    · exact putAt_mem (by simp) (Ne.symm hiD)
    · exact putAt_mem (by simp) hd3
    · exact putAt_mem (by simp) hd2
    · exact putAt_mem (by simp) hd1
    · rw [show (ys' ++ [Value.ref T]).toArray = ys'.toArray.push (.ref T) from by simp]
      exact putAt_self
    · exact putAt_mem (by simp) hTD
    · exact putAt_mem (by simp [hp]) (hofr _ hp)
  · intro p hp
    simp only [List.mem_cons] at hp
    rcases hp with rfl | rfl | rfl | rfl | rfl | hp
    · exact .inl hi3
    · exact .inl hi2
    · exact .inl hi1
    · exact .inl hiD
    · exact .inl hTI
    · exact .inl (hir p hp)
  · intro p hp
    simp only [List.mem_cons] at hp
    rcases hp with rfl | rfl | rfl | rfl | hp
    · exact hd3
    · exact hd2
    · exact hd1
    · exact hTD
    · exact hofr _ hp
  · intro p hp
    rcases List.mem_cons.mp hp with rfl | hp
    · exact Ne.symm (Nat.ne_of_lt l5)
    · exact o1 p hp
  · intro p hp
    rcases List.mem_cons.mp hp with rfl | hp
    · exact Ne.symm (Nat.ne_of_lt l4)
    · exact o2 p hp
  · intro p hp
    rcases List.mem_cons.mp hp with rfl | hp
    · exact Ne.symm (Nat.ne_of_lt l3)
    · exact o3 p hp
  · rw [dueT_next hy, ← hx]
    exact Rows.snoc (List.mem_cons_self ..) (rows.mono fun p hp => List.mem_cons_of_mem _ hp)
theorem lesser_next {c : List (Str × Int)} {ks : List Str} {key z : Str} {i : Nat} (hz : ks[i]? = some z) : lesserL c (ks.take (i + 1)) key = lesserL c (ks.take i) key ++ (if (kdpLook c z 0 == kdpLook c key 0 && decide (z.cps.toList < key.cps.toList)) = true then [z] else []) := by
  unfold lesserL
  rw [List.take_add_one, hz, List.filter_append]
  simp only [Option.toList_some, List.filter_cons, List.filter_nil]
theorem lesser_in {c : List (Str × Int)} {ks : List Str} {key z : Str} {i n : Nat} (hz : ks[i]? = some z) (hJ : n = (lesserL c (ks.take i) key).length) (h1 : kdpLook c z 0 = kdpLook c key 0) (h2 : z.cps.toList < key.cps.toList) : n + 1 = (lesserL c (ks.take (i + 1)) key).length := by
  rw [lesser_next hz, if_pos (by rw [h1, decide_eq_true h2]; simp), List.length_append, hJ]; rfl
theorem lesser_out1 {c : List (Str × Int)} {ks : List Str} {key z : Str} {i n : Nat} (hz : ks[i]? = some z) (hJ : n = (lesserL c (ks.take i) key).length) (h1 : kdpLook c z 0 ≠ kdpLook c key 0) : n = (lesserL c (ks.take (i + 1)) key).length := by
  rw [lesser_next hz, if_neg (by simp [h1]), List.append_nil, hJ]
theorem lesser_out2 {c : List (Str × Int)} {ks : List Str} {key z : Str} {i n : Nat} (hz : ks[i]? = some z) (hJ : n = (lesserL c (ks.take i) key).length) (h2 : ¬ z.cps.toList < key.cps.toList) : n = (lesserL c (ks.take (i + 1)) key).length := by
  rw [lesser_next hz, if_neg (by rw [decide_eq_false h2]; simp), List.append_nil, hJ]
theorem len_nms {prog : Program} {w : World} {A : Around} {E : Value → Shared → Prop} {s : Shared} {h₀ : Heap} {L nl : Addr} {news : List (Addr × Obj)} {nvs : List Value} {nms : List Str} {nk : Nat} {Q : Value → Shared → Prop} (N : News h₀ L s.heap news) (hm : (nl, listOf nvs.toArray nk) ∈ news) (hS : StrsAre nvs nms) (hf : nms.length < 50)
    (h : Q (.int ((nms.length : Nat) : Int) (s.toks + 1)) { s with toks := s.toks + 1 + 1 }) : wpAny (model prog w) A (call (.builtin "len") [.ref nl]) Q E s := len_strsA (N.isList hm) hS (by omega) h
theorem name_itemZ {w : World} {A : Around} {E : Value → Shared → Prop} {h₀ : Heap} {L : Addr} {s : Shared} {value slice : PySem.Expr} {nl : Addr} {nk : Nat} {nvs : List Value} {nms : List Str} {news : List (Addr × Obj)} {z : Int} {u : Tok} {Q : Value → Shared → Prop}
    (N : News h₀ L s.heap news) (hm : (nl, listOf nvs.toArray nk) ∈ news) (hS : StrsAre nvs nms) (h0 : 0 < nms.length) (h5 : nms.length < 50) (h : ∀ t, Q (.str (nmAt nms (z.fmod (nms.length : Int)).toNat) t) s) (hs : subscripted slice false (Value.ref nl) (Value.int (z.fmod (nms.length : Int)) u) = operate [Value.ref nl, Value.int (z.fmod (nms.length : Int)) u] (getItem (Value.ref nl) (Value.int (z.fmod (nms.length : Int)) u)) := by with_unfolding_all rfl) (hg : ∀ r, letTemporaryGo value (Value.ref nl) r = pure () := by intro _; with_unfolding_all rfl) :
    wpAny (model PySem.Challenge.rw_xn0027_01.row.prog w) A (subscriptTail value slice (.ref nl) (.int (z.fmod (nms.length : Int)) u)) Q E s := by
  have a0 : 0 ≤ z.fmod (nms.length : Int) := Int.fmod_nonneg_of_pos _ (by omega)
  have a1 : z.fmod (nms.length : Int) < (nms.length : Int) := Int.fmod_lt_of_pos _ (by omega)
  obtain ⟨t, ht⟩ := hS.at (nmAt_get (p := (z.fmod (nms.length : Int)).toNat) (by omega))
  exact item_listL (N.isList hm) (by omega) (by omega) (x := .str (nmAt nms (z.fmod (nms.length : Int)).toNat) t) (by simpa using ht) (h t) hs hg
section
local macro_rules | `(tactic| k_all) => `(tactic| with_reducible assumption)
theorem lines10 : True := by
  (k_with "call builtin:len" => (k_here; k_dflt (refine' len_nms ?zqn ?zqm ?zqi ?zqf ?_; (case zqn => k_asm); (case zqm => k_mem); (case zqi => assumption); (case zqf => assumption); k_whole)))
  (k_with "eval Name" => (k_here; (with_reducible show wpAny _ _ (eval _ (envOfC _ _ _ _ _)) _ _ _); k_dflt (refine' nameX_L ?zqF ?zqv ?_ ?zqa ?zqb; (case zqa => rfl); (case zqb => rfl); (case zqF => k_asm); (case zqv => first | with_reducible assumption | ((try simp only []); assumption)); k_whole)))
  (k_with "subscriptTail" => (k_here; (with_reducible show wpAny _ _ (subscriptTail _ _ (Value.ref _) (Value.int (Int.fmod _ _) _)) _ _ _); k_dflt (refine' name_itemZ ?zqN ?zqM ?zqS ?zqP ?zqF ?_; (case zqN => k_asm); (case zqS => assumption); (case zqM => k_mem); (case zqP => assumption); (case zqF => assumption); k_whole); intro _; (try k_sweep)))
  (k_with "call builtin:str.upper" => (k_here; (with_reducible show wpAny _ _ (call (Value.builtin "str.upper") [Value.str _ _]) _ _ _); (refine SCL.upper (by first | with_reducible assumption | exact Nat.le_trans (Nat.le_of_lt (Cfg.len (by assumption) _)) (by decide)) ?_; intro _)))
  (k_with "M:wish" => first | with_reducible assumption | exact wishesIn.mono (by with_reducible assumption) (fun _ hp' => by k_mem))
  (k_with "call ref" => (k_here; (with_reducible show wpAny _ _ (call (Value.ref _) [Value.ref _, Value.int _ _, Value.int _ _]) _ _ _); k_dflt (refine wpAny_call ?_; refine' excess_ct ?zqcB ?zqcF ?zqcX ?zqcN ?zqcT ?zqcA ?zqcf ?zqck ?zqch ?zqcr ?zqcu ?zqm ?zqi ?zqz0 ?zqz1 ?zqzl ?_; walk_at "M:args"; (case zqm => k_mem); (case zqi => assumption); (case zqz0 => omega); (case zqz1 => omega); (case zqzl => assumption); k_whole); intro h' tk' t' F' N'; (try dsimp only); (try k_sweep)))
  trivial
set_option maxHeartbeats 4000000 in
theorem due_ct {w : World} {mean : ExcName → Option Value} {mg mb : Str → Option Value} {A A₀ : Around} {base h₀ : Heap} {outer : List Env} {env : Env} {L : Addr} {m : Str → Option Value} {news : List (Addr × Obj)} {s : Shared} {R : Result → Shared → Prop}
  (B : Below A₀ base outer h₀) (F : Fr h₀ L s.heap m) (X : (hd.heap_39 w.params).In h₀) (N : News h₀ L s.heap news) (T : Top hd.view_39 loose mean mg mb h₀) (hA : A.frames = some (env :: outer)) (hf : env.frame = some L) (hke : env.scope.kind = .function) (hh : A.handled = none) (hroom : A.depth + 12 < recursionLimit) (hun : A.units + 100 < cLine)
  {nl wd kl : Addr} {nvs kvs : List Value} {nk kk : Nat} {nms ks : List Str} {c : List (Str × Int)}
  (hcfg : Cfg nms c) (hnam : (nl, listOf nvs.toArray nk) ∈ news) (hstrs : StrsAre nvs nms) (hwsh : wishesIn w news wd c) (hkl : (kl, listOf kvs.toArray kk) ∈ news) (hks : StrsAre kvs ks) (hin : ∀ k ∈ ks, kdpHas c k = true) (hlen : ks.length < 50)
  (ret : ∀ h' tk' D ys kd news', Fr h₀ L h' m → News h₀ L h' news' → (∀ p ∈ news, p ∈ news') → (D, listOf ys.toArray kd) ∈ news' → Rows news' ys (dueT nms c ks ks) → R (.ok (.ret (.ref D))) { s with heap := h', toks := tk' }) :
  codeAny (model PySem.Challenge.rw_xn0027_01.row.prog w) A (.call (.ref 416) ⟨[.ref nl, .ref wd, .ref kl], []⟩) R s := by
  obtain ⟨hdl, dp, fr, gd, un⟩ := A
  dsimp only at hA hh hroom hun
  subst hA hh
  revert X; k_fill; intro X
  (refine' code_defC (binds := [(Str.ofString "names", .ref nl), (Str.ofString "wishes", .ref wd), (Str.ofString "kept", .ref kl)]) ?zqk1 ?zqk2 ?zqk3 ?zqk4 ?zqk5 ?zqkA ?zqkF ?zqkK ?zqk6 ?zqk7 ?zqk8 ?zqk9 ?zqkB ?zqkD ?_ ?zqc2 ?zqc3 ?zqc4; walk_at "M:enterC"; k_whole)
  intro g' L' h' tk' cells' FG' F' N' Y' B' X' T' l1; k_cells Y'; (try simp only [List.cons_append, List.nil_append] at N'); (try dsimp only); (try k_lift B'); (try k_fold)
  rename_i oa ob oc da db dc
  replace da : oa.data = Data.cell none := da
  replace db : ob.data = Data.cell none := db
  replace dc : oc.data = Data.cell (some (.ref wd)) := dc
  have hn0 := hcfg.n0
  have hn1 := hcfg.n1
  have hkv : kvs.length = ks.length := hks.len_eq
  k_steps
  refine Hold.mk ?_
  with_reducible rename Fr g' L' _ _ => F8
  k_dflt (refine LCg.Assign_ListComp_U (F₀ := F8) (by rfl) (by with_unfolding_all rfl) (by with_unfolding_all rfl) (by decide) (by rfl) (by decide) (by rfl) (by rfl) (by rfl) ?_)
  k_steps
  with_reducible rename Fr g' L' _ _ => F7
  with_reducible rename News g' L' _ _ => N7
  refine LCg.CompSrc.ledger rfl F7 N7 (by k_mem) (by rw [sizeLine_eq, List.size_toArray]; omega) (fun g => compRest_J (fun i ys => IntsAre ys (homesL c (ks.take i))) (by unfold homesL; exact .nil) ?_ (.inr ⟨_, by k_mem, rfl, _, rfl⟩) ?_)
  · intro ys hys H h tk F6 N6 off
    clear F7 N7
    k_steps
    refine Hold.mk ?_
    have h' := True.intro; have tk' := True.intro; have F' := True.intro; have N' := True.intro; have D' := True.intro; have ws' := True.intro; have hI' := True.intro; have l1' := True.intro; have tv' := True.intro; have t' := True.intro; have vs' := True.intro; have kd' := True.intro; have hS' := True.intro; have v' := True.intro; have hlk' := True.intro; have news' := True.intro; have ln' := True.intro; have U' := True.intro; have S' := True.intro; have kvs' := True.intro; have kk' := True.intro; have hk' := True.intro; have hT' := True.intro; have hc1' := True.intro; have hc2' := True.intro; have o' := True.intro; have d' := True.intro; have U2' := True.intro; have S2' := True.intro; have hsub' := True.intro; have hD' := True.intro; have hR' := True.intro; have TI' := True.intro; have k' := True.intro; have htk' := True.intro; have hsh' := True.intro; have M' := True.intro; have a' := True.intro; have b' := True.intro; have off' := True.intro
    rename_i D hA1 hD9 hA2 F9 N9
    have hys' : IntsAre ys (homesL c ks) := by rwa [List.size_toArray, hkv, List.take_length] at hys
    have hhl : (homesL c ks).length < 50 := by unfold homesL; rw [List.length_map]; exact hlen
    have hDo : ∀ p ∈ ((L' + 1 + 1 + 1, oa) :: (L' + 1 + 1, ob) :: (L' + 1, oc) :: (H, PyProof.Rows.LCg.lst ys) :: news), p.1 ≠ D := due_off hD9
    refine iter_list_J (l := kl) (news := (L' + 1 + 1 + 1, oa) :: (L' + 1 + 1, ob) :: (L' + 1, oc) :: (D, listOf #[] 0) :: (H, PyProof.Rows.LCg.lst ys) :: news) rfl F9 (cb_drop N9 (by intro p hp; simp only [List.mem_cons] at hp ⊢; rcases hp with h | h | h | h | h | h <;> simp [h])) (by k_mem) rfl ⟨_, rfl⟩
      (fun i m' n' => DueJ nl kl L' D H news ys nms c ks oc i m' n') ⟨oa, ob, [], 0, _, rfl, ⟨_, da⟩, ⟨_, db⟩, hDo, due_o (Ne.symm off.2.2.1) l1 (by omega), due_o (Ne.symm off.2.1) l1 (by omega), due_o (Ne.symm off.1) l1 (by omega), List.mem_cons_self .., fun p hp => List.mem_cons_of_mem _ hp, .nil, rfl, rfl, rfl, rfl⟩ ?_ ?_ ?_ (.inl (by intro _ _; rfl))
    · rintro i m' n' ⟨oa', ob', ys', kd, rest, rfl, -, -, -, -, -, -, -, hsub, -⟩
      exact List.mem_cons_of_mem _ (List.mem_cons_of_mem _ (List.mem_cons_of_mem _ (List.mem_cons_of_mem _ (hsub _ hkl))))
    · intro i v m' n' I it h tk hv hj hc F8 N8 off
      obtain ⟨oa', ob', ys', kd, rest, rfl, ⟨xa, da'⟩, ⟨xb, db'⟩, hoff, hro1, hro2, hro3, hmH, hsub, hrows, m1, m2, m3, m4⟩ := hj
      obtain ⟨y, ty, rfl, hy⟩ := hks.item i v (by simpa using hv)
      have hyk := hin y (List.mem_of_getElem? hy)
      have hnam' := hsub _ hnam
      have hkl' := hsub _ hkl
      have hwsh' : wishesIn w rest wd c := hwsh.mono hsub
      have hks9 : y.length ≤ sizeLine := Nat.le_trans (Nat.le_of_lt (hcfg.ksz _ hyk)) (by decide)
      have offne := off.ne N8
      have hi3 : @Ne Nat (L' + 1 + 1 + 1) I := offne _ (List.mem_cons_self ..)
      have hi2 : @Ne Nat (L' + 1 + 1) I := offne _ (List.mem_cons_of_mem _ (List.mem_cons_self ..))
      have hi1 : @Ne Nat (L' + 1) I := offne _ (List.mem_cons_of_mem _ (List.mem_cons_of_mem _ (List.mem_cons_self ..)))
      have hiD : @Ne Nat D I := offne _ (List.mem_cons_of_mem _ (List.mem_cons_of_mem _ (List.mem_cons_of_mem _ (List.mem_cons_self ..))))
      have hd3 : @Ne Nat (L' + 1 + 1 + 1) D := hoff _ (List.mem_cons_self ..)
      have hd2 : @Ne Nat (L' + 1 + 1) D := hoff _ (List.mem_cons_of_mem _ (List.mem_cons_self ..))
      have hd1 : @Ne Nat (L' + 1) D := hoff _ (List.mem_cons_of_mem _ (List.mem_cons_of_mem _ (List.mem_cons_self ..)))
      clear F9 N9 da db N F
      k_steps
      refine Hold.mk ?_
      have h' := True.intro; have tk' := True.intro; have F' := True.intro; have N' := True.intro; have D' := True.intro; have ws' := True.intro; have hI' := True.intro; have l1' := True.intro; have tv' := True.intro; have t' := True.intro; have vs' := True.intro; have kd' := True.intro; have hS' := True.intro; have v' := True.intro; have hlk' := True.intro; have news' := True.intro; have ln' := True.intro; have U' := True.intro; have S' := True.intro; have kvs' := True.intro; have kk' := True.intro; have hk' := True.intro; have hT' := True.intro; have hc1' := True.intro; have hc2' := True.intro; have o' := True.intro; have d' := True.intro; have U2' := True.intro; have S2' := True.intro; have hsub' := True.intro; have hD' := True.intro; have hR' := True.intro; have TI' := True.intro; have k' := True.intro; have htk' := True.intro; have hsh' := True.intro; have M' := True.intro; have a' := True.intro; have b' := True.intro; have off' := True.intro; have hys' := True.intro
      rename_i hh1 ob9 db9 tw hh2 oa9 F6 N6 da9
      have hrl : ys'.toArray.size < 1000 := by rw [List.size_toArray, hrows.length]; unfold dueT; rw [List.length_map, List.length_take]; omega
      clear off
      k_dflt (refine LCt.ListComp_T (F₀ := F6) (by with_unfolding_all rfl) (by decide) (by rfl) (by decide) (by rfl) ?_)
      k_steps
      with_reducible rename Fr g' L' _ _ => F7
      with_reducible rename News g' L' _ _ => N7
      refine LCt.CompSrcT.ledger rfl F7 N7 (by k_mem) (by rw [sizeLine_eq, List.size_toArray]; omega) (fun g => compRestT_J (fun i ys => ys.length = (lesserL c (ks.take i) y).length) rfl ?_ (.inr ⟨_, (by k_mem), rfl, _, rfl⟩) ?_)
      · intro ys2 hys2 Dl h tk F5 N5 off2
        have hys3 : ys2.length = (lesserL c ks y).length := by rwa [List.size_toArray, hkv, List.take_length] at hys2
        have hle : (lesserL c ks y).length < 50 := Nat.lt_of_le_of_lt (List.length_filter_le ..) hlen
        clear F7 N7
        k_steps
        · dsimp only
          have h' := True.intro; have tk' := True.intro; have F' := True.intro; have N' := True.intro; have D' := True.intro; have ws' := True.intro; have hI' := True.intro; have l1' := True.intro; have tv' := True.intro; have t' := True.intro; have vs' := True.intro; have kd' := True.intro; have hS' := True.intro; have v' := True.intro; have hlk' := True.intro; have news' := True.intro; have ln' := True.intro; have U' := True.intro; have S' := True.intro; have kvs' := True.intro; have kk' := True.intro; have hk' := True.intro; have hT' := True.intro; have hc1' := True.intro; have hc2' := True.intro; have o' := True.intro; have d' := True.intro; have U2' := True.intro; have S2' := True.intro; have hsub' := True.intro; have hD' := True.intro; have hR' := True.intro; have TI' := True.intro; have k' := True.intro; have htk' := True.intro; have hsh' := True.intro; have M' := True.intro; have a' := True.intro; have b' := True.intro; have off' := True.intro; have hys' := True.intro
          rename_i DT hT1 hTl hT2 F4 N4
          obtain ⟨n', a1, a2, a3⟩ := due_end N4 hTl F4 hd3 hd2 hd1 (fun p hp => hoff p (by simp [hp])) hi3 hi2 hi1 hiD (fun p hp => offne p (by simp [hp])) hc hro1 hro2 hro3 hmH hsub hrows hy (spell_B (by assumption)).symm ⟨_, da9⟩ ⟨_, db9⟩ m1 m2 m3 m4
          exact TurnJ.intro F4 a1 a2 a3
        · dsimp only
          have h' := True.intro; have tk' := True.intro; have F' := True.intro; have N' := True.intro; have D' := True.intro; have ws' := True.intro; have hI' := True.intro; have l1' := True.intro; have tv' := True.intro; have t' := True.intro; have vs' := True.intro; have kd' := True.intro; have hS' := True.intro; have v' := True.intro; have hlk' := True.intro; have news' := True.intro; have ln' := True.intro; have U' := True.intro; have S' := True.intro; have kvs' := True.intro; have kk' := True.intro; have hk' := True.intro; have hT' := True.intro; have hc1' := True.intro; have hc2' := True.intro; have o' := True.intro; have d' := True.intro; have U2' := True.intro; have S2' := True.intro; have hsub' := True.intro; have hD' := True.intro; have hR' := True.intro; have TI' := True.intro; have k' := True.intro; have htk' := True.intro; have hsh' := True.intro; have M' := True.intro; have a' := True.intro; have b' := True.intro; have off' := True.intro; have hys' := True.intro
          rename_i DT hT1 hTl hT2 F4 N4
          obtain ⟨n', a1, a2, a3⟩ := due_end N4 hTl F4 hd3 hd2 hd1 (fun p hp => hoff p (by simp [hp])) hi3 hi2 hi1 hiD (fun p hp => offne p (by simp [hp])) hc hro1 hro2 hro3 hmH hsub hrows hy (spell_b (by assumption)).symm ⟨_, da9⟩ ⟨_, db9⟩ m1 m2 m3 m4
          exact TurnJ.intro F4 a1 a2 a3
      · intro i v ys I oI C oC D m₂ h tk E' hi hP hJ hns hx F6 N6 off ne
        obtain ⟨z, tz, rfl, hz⟩ := hks.item i v (by simpa using hP)
        have hzk := hin z (List.mem_of_getElem? hz)
        clear F7 N7
        dsimp only
        k_steps
        · exact CEnd.intro (by k_asm) (by k_asm) (by rw [List.length_append]; exact lesser_in hz hJ (by assumption) (by assumption))
        · exact CEnd.intro (by k_asm) (by k_asm) (lesser_out2 hz hJ (by assumption))
        · exact CEnd.intro (by k_asm) (by k_asm) (lesser_out1 hz hJ (by assumption))
    · intro h tk m' n' hj F8 N8
      obtain ⟨oa', ob', ys', kd, rest, rfl, -, -, hoff, hro1, hro2, hro3, hmH, hsub, hrows, m1, m2, m3, m4⟩ := hj
      have hrows' : Rows rest ys' (dueT nms c ks ks) := by rwa [List.size_toArray, hkv, List.take_length] at hrows
      clear F9 N9 da db N F
      k_steps
      with_reducible rename Fr h₀ L _ _ => F6
      with_reducible rename News h₀ L _ _ => N6
      exact ret _ _ D ys' kd _ F6 N6 (fun p hp => by simp [hsub p hp]) (by simp) (hrows'.mono fun p hp => by simp [hp])
  · intro i v ys I oI C oC D m₂ h tk E' hi hP hJ hns hx F6 N6 off ne
    obtain ⟨y, ty, rfl, hy⟩ := hks.item i v (by simpa using hP)
    have hyk := hin y (List.mem_of_getElem? hy)
    clear F7 N7
    dsimp only
    k_steps
    all_goals exact CEnd.intro (by k_asm) (by k_asm) (homes_next hJ hy)
section
set_option autoImplicit false
set_option linter.unusedSectionVars false
theorem freshRH3 : True := by
  try row_walk
  trivial
theorem nxt_nx (n p : Nat) : nxt n p = nx n p := rfl
theorem emod_nx {n : Nat} (hn : 0 < n) (x : Int) : nx n ((x - 1) % (n : Int)).toNat = (x % (n : Int)).toNat := by
  have h0 := Int.emod_nonneg (x - 1) (show (n : Int) ≠ 0 by omega)
  have h1 := Int.emod_lt_of_pos (x - 1) (show (0 : Int) < n by omega)
  have hx : x % (n : Int) = ((x - 1) % (n : Int) + 1) % (n : Int) := by
    rw [Int.emod_add_emod]; congr 1; omega
  rw [hx]
  have hs := nx_s n ((x - 1) % (n : Int)).toNat
  rcases hs with ⟨e, hs⟩ | ⟨e, hs⟩
  · rw [hs, show (x - 1) % (n : Int) + 1 = n by omega, Int.emod_self]; rfl
  · have e2 : ((x - 1) % (n : Int) + 1) % (n : Int) = (x - 1) % (n : Int) + 1 := Int.emod_eq_of_lt (by omega) (by omega)
    rw [hs, e2]; omega
/-- Lindley: the greatest excess of an arc that ends at e -/
theorem exc_eq {n : Nat} (hn : 0 < n) {hs : List Int} {X c occ : Nat → Nat} (hc : ∀ z, z < n → hs.count (z : Int) = c z) (hf : ∀ z, z < n → X (nx n z) + occ z = X z + c z) (ho : ∀ z, z < n → occ z ≤ 1) (ho1 : ∀ z, z < n → X (nx n z) ≠ 0 → occ z = 1) (h0 : ∃ z, z < n ∧ X z = 0) (e : Int) : excF hs n e = ((X ((e + 1) % (n : Int)).toNat : Nat) : Int) := by
  let Y : Nat → Nat := fun b => X ((e - b + 1) % (n : Int)).toNat
  have hY : ∀ b : Nat, Y b + occ ((e - b) % (n : Int)).toNat = Y (b + 1) + c ((e - b) % (n : Int)).toNat := by
    intro b
    have hz : ((e - b) % (n : Int)).toNat < n := by
      have := Int.emod_nonneg (e - b) (show (n : Int) ≠ 0 by (first | lia | omega))
      have := Int.emod_lt_of_pos (e - b) (show (0 : Int) < n by (first | lia | omega))
      (first | lia | omega)
    have := hf _ hz
    have h2 := emod_nx hn (e - b + 1)
    rw [show e - (b : Int) + 1 - 1 = e - b by (first | lia | omega)] at h2
    rw [h2] at this
    show X _ + _ = X _ + _
    rw [show e - ((b + 1 : Nat) : Int) + 1 = e - b by (first | lia | omega)]
    exact this
  have hO : ∀ b : Nat, occ ((e - b) % (n : Int)).toNat ≤ 1 ∧ (Y b ≠ 0 → occ ((e - b) % (n : Int)).toNat = 1) := by
    intro b
    have hz : ((e - b) % (n : Int)).toNat < n := by
      have := Int.emod_nonneg (e - b) (show (n : Int) ≠ 0 by (first | lia | omega))
      have := Int.emod_lt_of_pos (e - b) (show (0 : Int) < n by (first | lia | omega))
      (first | lia | omega)
    refine ⟨ho _ hz, fun h => ho1 _ hz ?_⟩
    have h2 := emod_nx hn (e - b + 1)
    rw [show e - (b : Int) + 1 - 1 = e - b by (first | lia | omega)] at h2
    rw [h2]; exact h
  have hC : ∀ b : Nat, ((hs.count ((e - (0 + (b : Int))).fmod (n : Int)) : Nat) : Int) = c ((e - b) % (n : Int)).toNat := by
    intro b
    have h1 := Int.emod_nonneg (e - b) (show (n : Int) ≠ 0 by (first | lia | omega))
    have h2 := Int.emod_lt_of_pos (e - b) (show (0 : Int) < n by (first | lia | omega))
    rw [Int.fmod_eq_emod_of_nonneg _ (by (first | lia | omega)), show e - (0 + (b : Int)) = e - b by (first | lia | omega)]
    rw [← hc _ (by (first | lia | omega)), Int.toNat_of_nonneg h1]
  have hYd : ∀ b : Nat, Y b = X ((e - b + 1) % (n : Int)).toNat := fun _ => rfl
  clear_value Y
  have main : ∀ b : Nat, (excP hs n e b).2 + Y b ≤ Y 0 ∧ (excP hs n e b).1 ≤ Y 0 ∧ 0 ≤ (excP hs n e b).1 ∧ ((Y 0 : Int) ≤ (excP hs n e b).1 ∨ ((excP hs n e b).2 + Y b = Y 0 ∧ (0 < b → (excP hs n e b).2 ≤ (excP hs n e b).1) ∧ ∀ i, i < b → Y i ≠ 0)) := by
    intro b
    induction b with
    | zero => refine ⟨by simp [excP], by simp [excP], by simp [excP], .inr ⟨by simp [excP], by (first | lia | omega), by (first | lia | omega)⟩⟩
    | succ b ih =>
      obtain ⟨i1, i2, i0, i3⟩ := ih
      have hy := hY b
      obtain ⟨o1, o2⟩ := hO b
      have hcb := hC b
      have ht : excT hs n e b (excP hs n e b) = (excP hs n e b).2 + c ((e - b) % (n : Int)).toNat - 1 := by
        unfold excT; rw [hcb]
      have e1 : (excP hs n e (b + 1)).2 = (excP hs n e b).2 + c ((e - b) % (n : Int)).toNat - 1 := by
        rw [← ht]; rfl
      have e2 : (excP hs n e (b + 1)).1 = if (excP hs n e b).2 + c ((e - b) % (n : Int)).toNat - 1 > (excP hs n e b).1 then (excP hs n e b).2 + c ((e - b) % (n : Int)).toNat - 1 else (excP hs n e b).1 := by
        rw [← ht]; rfl
      rw [e1, e2]
      clear ht e1 e2 hcb hY hO hC hYd
      generalize ((e - (b : Int)) % (n : Int)).toNat = zz at hy o1 o2 ⊢
      generalize occ zz = oz at hy o1 o2
      generalize c zz = cz at hy ⊢
      generalize (excP hs n e b).2 = t at i1 i3 ⊢
      generalize (excP hs n e b).1 = m at i0 i2 i3 ⊢
      have hm : ((if t + cz - 1 > m then t + cz - 1 else m) : Int) ≥ m ∧ ((if t + cz - 1 > m then t + cz - 1 else m) : Int) ≥ t + cz - 1 ∧ ((if t + cz - 1 > m then t + cz - 1 else m) = m ∨ (if t + cz - 1 > m then t + cz - 1 else m) = t + cz - 1) := by
        clear i0 i1 i2 i3 hy o1 o2
        split
        · exact ⟨Int.le_of_lt (by assumption), Int.le_refl _, .inr rfl⟩
        · exact ⟨Int.le_refl _, Int.le_of_not_gt (by assumption), .inl rfl⟩
      generalize (if t + (cz : Int) - 1 > m then t + (cz : Int) - 1 else m) = m' at *
      refine ⟨by (first | lia | omega), by (first | lia | omega), by (first | lia | omega), ?_⟩
      rcases i3 with i3 | ⟨i3, i4, i5⟩
      · left; (first | lia | omega)
      · by_cases hz : Y b = 0
        · left
          by_cases hb : 0 < b
          · have := i4 hb; (first | lia | omega)
          · have : b = 0 := by (first | lia | omega)
            subst this
            (first | lia | omega)
        · right
          have := o2 hz
          refine ⟨by (first | lia | omega), by (first | lia | omega), ?_⟩
          intro i hi
          by_cases e : i = b
          · subst e; exact hz
          · exact i5 i (by (first | lia | omega))
  obtain ⟨m1, m2, _, m3⟩ := main n
  have h00 : Y 0 = X ((e + 1) % (n : Int)).toNat := by
    rw [hYd 0, show e - ((0 : Nat) : Int) + 1 = e + 1 by (first | lia | omega)]
  unfold excF
  rw [← h00]
  rcases m3 with m3 | ⟨_, _, m3⟩
  · (first | lia | omega)
  · exfalso
    obtain ⟨z, hz, hx⟩ := h0
    have hb := Int.emod_nonneg (e + 1 - z) (show (n : Int) ≠ 0 by (first | lia | omega))
    have hb2 := Int.emod_lt_of_pos (e + 1 - z) (show (0 : Int) < n by (first | lia | omega))
    refine m3 ((e + 1 - z) % (n : Int)).toNat (by (first | lia | omega)) ?_
    rw [hYd, Int.toNat_of_nonneg hb]
    have : (e - (e + 1 - z) % (n : Int) + 1) % (n : Int) = z := by
      rw [show e - (e + 1 - (z : Int)) % (n : Int) + 1 = z + (n : Int) * ((e + 1 - z) / (n : Int)) by
        have := Int.emod_def (e + 1 - z) n
        (first | lia | omega)]
      rw [Int.add_mul_emod_self_left]
      exact Int.emod_eq_of_lt (by (first | lia | omega)) (by (first | lia | omega))
    rw [this]
    rw [Int.toNat_natCast]; exact hx
/-! the law's table -/
structure NamOK (nms : List Str) (c : List (Str × Int)) : Prop where
  n0 : 0 < nms.length
  wish : ∀ k, ∃ p : Nat, kdpLook c k 0 = (p : Int) ∧ p < nms.length
  low : ∀ p, p < nms.length → Txt.lower (Txt.upper (nmAt nms p)) = Txt.lower (nmAt nms p)
  inj : ∀ p q, p < nms.length → q < nms.length → Txt.lower (nmAt nms p) = Txt.lower (nmAt nms q) → p = q
theorem NamOK.wishN {nms : List Str} {c : List (Str × Int)} (O : NamOK nms c) (k : Str) : kdpLook c k 0 = ((wishN c k : Nat) : Int) ∧ Mine.wishN c k < nms.length := by
  obtain ⟨p, h1, h2⟩ := O.wish k
  unfold Mine.wishN
  rw [h1]; exact ⟨by simp, by simpa using h2⟩
theorem cps_tri {a b : Str} (h1 : ¬ a.cps.toList < b.cps.toList) (h2 : ¬ b.cps.toList < a.cps.toList) : a = b := by
  have : a.cps.toList = b.cps.toList := List.le_antisymm (List.not_lt.mp h2) (List.not_lt.mp h1)
  obtain ⟨⟨x⟩⟩ := a
  obtain ⟨⟨y⟩⟩ := b
  simp at this
  subst this
  rfl
noncomputable def ringOf {nms : List Str} {c : List (Str × Int)} (O : NamOK nms c) : Ring Str where
  n := nms.length
  home := wishN c
  lt a b := decide (a.cps.toList < b.cps.toList)
  n0 := O.n0
  hh k := (O.wishN k).2
  irr k := by simp [List.lt_irrefl]
  tr a b d h1 h2 := by simp only [decide_eq_true_eq] at *; exact List.lt_trans h1 h2
  tri a b h1 h2 := by simp only [decide_eq_false_iff_not] at *; exact cps_tri h1 h2
section
variable {nms : List Str} {c : List (Str × Int)}
noncomputable def toT (nms : List Str) (l : List (Nat × Str)) : List (Str × Str) := l.map fun e => (spell e.2 (nmAt nms e.1), e.2)
theorem NamOK.sp (O : NamOK nms c) {p : Nat} (hp : p < nms.length) (k : Str) : Txt.lower (spell k (nmAt nms p)) = Txt.lower (nmAt nms p) := by
  unfold spell; split
  · exact O.low p hp
  · rfl
theorem NamOK.spEq (O : NamOK nms c) {p q : Nat} (hp : p < nms.length) (hq : q < nms.length) (k : Str) : (Txt.lower (spell k (nmAt nms p)) == Txt.lower (nmAt nms q)) = (p == q) := by
  rw [O.sp hp]
  by_cases e : p = q
  · subst e; simp
  · have : (p == q) = false := by simpa using e
    rw [this]
    simpa using fun h => e (O.inj p q hp hq h)
theorem atT_eq (O : NamOK nms c) {l : List (Nat × Str)} (hl : ∀ e ∈ l, e.1 < nms.length) {p : Nat} (hp : p < nms.length) : atT nms (toT nms l) p = atL l p := by
  unfold atT look atL toT
  rw [List.find?_map, Option.map_map]
  have : List.find? ((fun p_1 : Str × Str => Txt.lower p_1.1 == Txt.lower (nmAt nms p)) ∘ fun e : Nat × Str => (spell e.2 (nmAt nms e.1), e.2)) l = l.find? fun q => q.1 == p := by
    induction l with
    | nil => rfl
    | cons x l ih =>
      rw [List.find?_cons, List.find?_cons, ih fun e he => hl e (List.mem_cons_of_mem _ he)]
      have := O.spEq (hl x (List.mem_cons_self ..)) hp x.2
      simp only [Function.comp]
      rw [this]
  rw [this]
  cases l.find? _ <;> rfl
theorem delT_eq (O : NamOK nms c) {l : List (Nat × Str)} (hl : ∀ e ∈ l, e.1 < nms.length) {p : Nat} (hp : p < nms.length) : delT (toT nms l) (Txt.lower (nmAt nms p)) = toT nms (delL l p) := by
  induction l with
  | nil => rfl
  | cons x l ih =>
    have ih := ih fun e he => hl e (List.mem_cons_of_mem _ he)
    have h := O.spEq (hl x (List.mem_cons_self ..)) hp x.2
    unfold delT toT delL at *
    rw [List.map_cons, List.filter_cons, List.filter_cons, ih, h]
    by_cases e : x.1 = p
    · have e' : (x.1 == p) = true := by simpa using e
      rw [e']; rfl
    · have e' : (x.1 == p) = false := by simpa using e
      rw [e']; rfl
theorem layT_eq (O : NamOK nms c) {l : List (Nat × Str)} (hl : ∀ e ∈ l, e.1 < nms.length) {p : Nat} (hp : p < nms.length) (k : Str) : layT (toT nms l) (nmAt nms p) k = toT nms (layL l p k) := by
  unfold layT
  rw [O.sp hp, delT_eq O hl hp]
  unfold layL toT
  rw [List.map_append]; rfl
theorem del_lt {l : List (Nat × Str)} {n p : Nat} (hl : ∀ e ∈ l, e.1 < n) : ∀ e ∈ delL l p, e.1 < n := fun e he => hl e (List.mem_filter.mp he).1
theorem lay_lt {l : List (Nat × Str)} {n p : Nat} {k : Str} (hl : ∀ e ∈ l, e.1 < n) (hp : p < n) : ∀ e ∈ layL l p k, e.1 < n := fun e he => by
  rcases List.mem_append.mp he with h | h
  · exact del_lt hl e h
  · simp at h; subst h; exact hp
theorem wy_fmod {n h p : Nat} (hh : h < n) (hp : p < n) : ((p : Int) - (h : Int)).fmod (n : Int) = ((wy n h p : Nat) : Int) := by
  rw [Int.fmod_eq_emod_of_nonneg _ (by (first | lia | omega))]
  rcases wy_s n h p with ⟨h1, h2⟩ | ⟨h1, h2⟩
  · rw [h2, Int.emod_eq_of_lt (by (first | lia | omega)) (by (first | lia | omega))]; (first | lia | omega)
  · rw [h2, ← Int.add_emod_right, Int.emod_eq_of_lt (by (first | lia | omega)) (by (first | lia | omega))]; (first | lia | omega)
theorem way_eq (O : NamOK nms c) {p : Nat} (hp : p < nms.length) (k : Str) : ((p : Int) - kdpLook c k 0).fmod (nms.length : Int) = (((ringOf O).way k p : Nat) : Int) := by
  obtain ⟨h1, h2⟩ := O.wishN k
  rw [h1]; exact wy_fmod h2 hp
theorem bef_eq (O : NamOK nms c) {p : Nat} (hp : p < nms.length) (one other : Str) : befC c nms.length p one other = (ringOf O).bef p one other := by
  unfold befC Ring.bef
  rw [way_eq O hp, way_eq O hp]
  congr 1
  · simp [Int.ofNat_lt]
  · have : ((((ringOf O).way one p : Nat) : Int) == (((ringOf O).way other p : Nat) : Int)) = ((ringOf O).way one p == (ringOf O).way other p) := by
      by_cases e : (ringOf O).way one p = (ringOf O).way other p
      · simp [e]
      · have e' : ((ringOf O).way one p == (ringOf O).way other p) = false := by simpa using e
        rw [e']; simp; (first | lia | omega)
    rw [this]; rfl
theorem put_eq (O : NamOK nms c) : ∀ (f : Nat) (l : List (Nat × Str)) (p : Nat) (key : Str), (∀ e ∈ l, e.1 < nms.length) → p < nms.length → putF nms c f (toT nms l) p key = (putL (ringOf O) f l p key).map (toT nms) := by
  intro f
  induction f with
  | zero => intros; rfl
  | succ f ih =>
    intro l p key hl hp
    have hn : nx nms.length p < nms.length := nx_lt hp
    unfold putF putL
    rw [atT_eq O hl hp]
    cases atL l p with
    | none => exact congrArg some (layT_eq O hl hp key)
    | some there =>
      dsimp only
      rw [bef_eq O hp, layT_eq O hl hp, nxt_nx]
      split
      · exact ih _ _ _ (lay_lt hl hp) hn
      · exact ih _ _ _ hl hn
theorem take_eq (O : NamOK nms c) : ∀ (f : Nat) (l : List (Nat × Str)) (hole p : Nat), (∀ e ∈ l, e.1 < nms.length) → hole < nms.length → p < nms.length → takeF nms c f (toT nms l) hole p = (takeL (ringOf O) f l hole p).map (toT nms) := by
  intro f
  induction f with
  | zero => intros; rfl
  | succ f ih =>
    intro l hole p hl hh hp
    have hn : nx nms.length p < nms.length := nx_lt hp
    unfold takeF takeL
    rw [atT_eq O hl hp]
    cases atL l p with
    | none => rfl
    | some there =>
      dsimp only
      rw [way_eq O hp, wy_fmod hh hp, layT_eq O hl hh, delT_eq O (lay_lt hl hh) hp, nxt_nx]
      have : ((wy nms.length hole p : Nat) : Int) ≤ (((ringOf O).way there p : Nat) : Int) ↔ wy (ringOf O).n hole p ≤ (ringOf O).way there p := Int.ofNat_le
      by_cases h : wy (ringOf O).n hole p ≤ (ringOf O).way there p
      · rw [if_pos h, if_pos (this.mpr h)]
        exact ih _ _ _ (del_lt (lay_lt hl hh)) hp hn
      · rw [if_neg h, if_neg (fun e => h (this.mp e))]
        exact ih _ _ _ hl hh hn
theorem seek_eq (O : NamOK nms c) {l : List (Nat × Str)} (hl : ∀ e ∈ l, e.1 < nms.length) (key : Str) : ∀ (f p : Nat), p < nms.length → seekF nms c (toT nms l) key f p = seekL (ringOf O) l key f p := by
  intro f
  induction f with
  | zero => intros; rfl
  | succ f ih =>
    intro p hp
    unfold seekF seekL
    rw [atT_eq O hl hp]
    cases atL l p with
    | none => rfl
    | some there =>
      dsimp only
      rw [bef_eq O hp, nxt_nx, ih _ (nx_lt hp)]
      rfl
theorem deed_eq (O : NamOK nms c) {l : List (Nat × Str)} (hl : ∀ e ∈ l, e.1 < nms.length) (f : Nat) (key : Str) : deedF nms c f (toT nms l) key = (deedL (ringOf O) f l key).map (toT nms) := by
  unfold deedF deedL
  dsimp only
  have hw := (O.wishN key).2
  have hs : seekL (ringOf O) l key (nms.length - 1) (wishN c key) < nms.length := (seek_hand (R := ringOf O) (l := l) (key := key) (nms.length - 1) (wishN c key) hw (.inl rfl)).1
  rw [seek_eq O hl key _ _ hw]
  have e1 : seekL (ringOf O) l key ((ringOf O).n - 1) ((ringOf O).home key) = seekL (ringOf O) l key (nms.length - 1) (wishN c key) := rfl
  rw [e1]
  generalize seekL (ringOf O) l key (nms.length - 1) (wishN c key) = p at hs
  rw [atT_eq O hl hs, delT_eq O hl hs, take_eq O _ _ _ _ (del_lt hl) hs (nxt_lt hs), put_eq O _ _ _ _ hl hs, nxt_nx]
  have e2 : (toT nms l).length = l.length := List.length_map ..
  rw [e2]
  have e3 : (ringOf O).n = nms.length := rfl
  rw [e3]
  split
  · rfl
  · split <;> rfl
/-- what the loop keeps: the table's rows and the plain list -/
noncomputable def Good (O : NamOK nms c) (T : List (Str × Str)) (kept : List Str) : Prop := ∃ l, T = toT nms l ∧ Fine (ringOf O) l ∧ kept.Perm (l.map (·.2)) ∧ kept.Nodup
theorem Good.nil (O : NamOK nms c) : Good O [] [] :=
  ⟨[], rfl, ⟨⟨List.nodup_nil, fun _ h => nomatch h⟩, fun _ _ _ h => by simp [atL_nil] at h, 0, O.n0, fun _ _ _ h => by simp [atL_nil] at h⟩, List.Perm.refl _, List.nodup_nil⟩
theorem Good.len {O : NamOK nms c} {T : List (Str × Str)} {kept : List Str} (G : Good O T kept) : T.length = kept.length := by
  obtain ⟨l, rfl, _, hp, _⟩ := G
  rw [hp.length_eq, toT, List.length_map, List.length_map]
theorem Good.out {O : NamOK nms c} {T : List (Str × Str)} {kept : List Str} (G : Good O T kept) {key : Str} (hk : key ∈ kept) {f : Nat} (hf : 2 * nms.length ≤ f) : ∃ Te, deedF nms c f T key = some Te ∧ Good O Te (kept.erase key) := by
  obtain ⟨l, rfl, F, hp, nd⟩ := G
  obtain ⟨l', h1, h2, h3⟩ := deed_in F (hp.nodup_iff.mp nd) (hp.mem_iff.mp hk) hf
  refine ⟨toT nms l', by rw [deed_eq O F.wf.lt, h1]; rfl, l', rfl, h2, ?_, nd.erase _⟩
  have := (hp.trans h3.symm).erase key
  rw [List.erase_cons_head] at this
  exact this
theorem Good.inn {O : NamOK nms c} {T : List (Str × Str)} {kept : List Str} (G : Good O T kept) {key : Str} (hk : key ∉ kept) (hl : kept.length < nms.length) {f : Nat} (hf : 2 * nms.length ≤ f) : ∃ Te, deedF nms c f T key = some Te ∧ Good O Te (kept ++ [key]) := by
  obtain ⟨l, rfl, F, hp, nd⟩ := G
  have hll : l.length < nms.length := by have := hp.length_eq; rw [List.length_map] at this; (first | lia | omega)
  obtain ⟨l', h1, h2, h3⟩ := deed_out F (fun h => hk (hp.mem_iff.mpr h)) hf hll
  refine ⟨toT nms l', by rw [deed_eq O F.wf.lt, h1]; rfl, l', rfl, h2, ?_, ?_⟩
  · exact (List.perm_append_comm.trans (hp.cons key)).trans h3.symm
  · rw [List.nodup_append]
    refine ⟨nd, by simp, ?_⟩
    intro a ha b hb
    simp at hb
    subst hb
    exact fun e => hk (e ▸ ha)
theorem Good.full {O : NamOK nms c} {T : List (Str × Str)} {kept : List Str} (G : Good O T kept) {key : Str} (hk : key ∉ kept) (hl : ¬ kept.length < nms.length) {f : Nat} : deedF nms c f T key = some T := by
  obtain ⟨l, rfl, F, hp, nd⟩ := G
  have hll : ¬ l.length < nms.length := by have := hp.length_eq; rw [List.length_map] at this; (first | lia | omega)
  rw [deed_eq O F.wf.lt, deed_full (R := ringOf O) (fun h => hk (hp.mem_iff.mpr h)) hll]; rfl
theorem Good.cnt {O : NamOK nms c} {l : List (Nat × Str)} {kept : List Str} (hp : kept.Perm (l.map (·.2))) (z : Nat) : (homesL c kept).count (z : Int) = hoL (ringOf O) l z := by
  unfold homesL hoL
  rw [(hp.map fun k => kdpLook c k 0).count_eq, List.map_map, List.count, List.countP_map]
  refine List.countP_congr fun e _ => ?_
  simp only [Function.comp, beq_iff_eq]
  rw [(O.wishN e.2).1]
  exact Int.ofNat_inj
theorem Good.exc {O : NamOK nms c} {l : List (Nat × Str)} {kept : List Str} (F : Fine (ringOf O) l) (hp : kept.Perm (l.map (·.2))) (e : Int) : excF (homesL c kept) nms.length e = ((crL (ringOf O) l ((e + 1) % (nms.length : Int)).toNat : Nat) : Int) :=
  exc_eq (X := crL (ringOf O) l) (c := hoL (ringOf O) l) (occ := occL l) O.n0 (fun z _ => Good.cnt hp z) (fun _ hz => flow F.wf hz) (fun z _ => occ_le F.wf.nd z) (fun _ hz h => cr_occ F hz h) (cr_zero F) e
theorem due_arith {n w p a : Nat} {e : Int} (hw : w < n) (hp : p < n) (he : e = ((a : Nat) : Int)) (b : Nat) (hab : a + b = wy n w p) : (((w : Nat) : Int) + e + ((b : Nat) : Int)).fmod (n : Int) = (p : Int) := by
  subst he
  rw [Int.fmod_eq_emod_of_nonneg _ (by omega), show ((w : Nat) : Int) + ((a : Nat) : Int) + ((b : Nat) : Int) = (w : Int) + ((wy n w p : Nat) : Int) by omega]
  rcases wy_s n w p with ⟨h1, h2⟩ | ⟨h1, h2⟩
  · rw [h2, Int.emod_eq_of_lt (by omega) (by omega)]; omega
  · rw [h2, show ((w : Nat) : Int) + ((p + n - w : Nat) : Int) = p + n by omega, Int.add_emod_right, Int.emod_eq_of_lt (by omega) (by omega)]
theorem Good.les {O : NamOK nms c} {l : List (Nat × Str)} {kept : List Str} (hp : kept.Perm (l.map (·.2))) (k : Str) : (lesserL c kept k).length = leL (ringOf O) l k := by
  unfold lesserL leL
  rw [← List.countP_eq_length_filter, hp.countP_eq, List.countP_map]
  refine List.countP_congr fun e _ => ?_
  simp only [Function.comp, Bool.and_eq_true, beq_iff_eq]
  rw [(O.wishN e.2).1, (O.wishN k).1]
  constructor
  · intro h; exact ⟨Int.ofNat_inj.mp h.1, h.2⟩
  · intro h; exact ⟨Int.ofNat_inj.mpr h.1, h.2⟩
theorem Good.exc_at {O : NamOK nms c} {l : List (Nat × Str)} {kept : List Str} (F : Fine (ringOf O) l) (hp : kept.Perm (l.map (·.2))) (w : Nat) (hw : w < nms.length) : excF (homesL c kept) nms.length ((w : Int) - 1) = ((crL (ringOf O) l w : Nat) : Int) := by
  rw [Good.exc F hp]
  have : ((w : Int) - 1 + 1) % (nms.length : Int) = w := by
    rw [show (w : Int) - 1 + 1 = w by (first | lia | omega)]
    exact Int.emod_eq_of_lt (by (first | lia | omega)) (by (first | lia | omega))
  rw [this]
  rfl
theorem Good.pos {O : NamOK nms c} {l : List (Nat × Str)} {kept : List Str} (F : Fine (ringOf O) l) (hp : kept.Perm (l.map (·.2))) (nd : kept.Nodup) {p : Nat} {k : Str} (hm : (p, k) ∈ l) : dueZ nms c kept k = (p : Int) := by
  have hpn : p < nms.length := F.wf.lt _ hm
  have hw := O.wishN k
  have hpos := pos_eq F (hp.nodup_iff.mp nd) hm
  unfold dueZ
  rw [hw.1]
  exact due_arith hw.2 hpn (Good.exc_at F hp _ hw.2) _ (by rw [Good.les hp (O := O)]; exact hpos.symm)
theorem Good.due {O : NamOK nms c} {T : List (Str × Str)} {kept : List Str} (G : Good O T kept) : ∀ q ∈ dueT nms c kept kept, q ∈ T := by
  obtain ⟨l, rfl, F, hp, nd⟩ := G
  intro q hq
  unfold dueT at hq
  obtain ⟨k, hk, rfl⟩ := List.mem_map.mp hq
  obtain ⟨⟨p, k'⟩, hm, e⟩ := List.mem_map.mp (hp.mem_iff.mp hk)
  dsimp only at e
  subst e
  have hd := Good.pos F hp nd hm
  show (spell k' (nmAt nms (dueZ nms c kept k').toNat), k') ∈ toT nms l
  rw [hd, Int.toNat_natCast]
  exact List.mem_map.mpr ⟨(p, k'), hm, rfl⟩
theorem Good.way_le {O : NamOK nms c} {T : List (Str × Str)} {kept : List Str} (G : Good O T kept) {p : Nat} (hp : p < nms.length) {k : Str} (hk : atT nms T p = some k) : ∃ e : Nat, e < nms.length ∧ ((p : Int) - kdpLook c k 0).fmod nms.length ≤ excF (homesL c kept) nms.length e := by
  obtain ⟨l, rfl, F, hpm, nd⟩ := G
  rw [atT_eq O F.wf.lt hp] at hk
  have hw := (O.wishN k).2
  refine ⟨wishN c k, hw, ?_⟩
  rw [way_eq O hp, Good.exc F hpm]
  have h1 := Mine.way_le F (hpm.nodup_iff.mp nd) (atL_mem hk)
  have h2 : (((wishN c k : Nat) : Int) + 1) % (nms.length : Int) = ((nx nms.length (wishN c k) : Nat) : Int) := by
    rw [← nxt_nx, ← nxt_fmod hw, Int.fmod_eq_emod_of_nonneg _ (by (first | lia | omega))]
  rw [h2]
  exact Int.ofNat_le.mpr h1
theorem Good.way_ge {O : NamOK nms c} {T : List (Str × Str)} {kept : List Str} (G : Good O T kept) {e : Nat} (he : e < nms.length) : excF (homesL c kept) nms.length e = 0 ∨ ∃ p k, p < nms.length ∧ atT nms T p = some k ∧ excF (homesL c kept) nms.length e ≤ ((p : Int) - kdpLook c k 0).fmod nms.length := by
  obtain ⟨l, rfl, F, hpm, nd⟩ := G
  rw [Good.exc F hpm]
  have h2 : ((e : Int) + 1) % (nms.length : Int) = ((nx nms.length e : Nat) : Int) := by
    rw [← nxt_nx, ← nxt_fmod he, Int.fmod_eq_emod_of_nonneg _ (by (first | lia | omega))]
  rw [h2, show (((nx nms.length e : Nat) : Int)).toNat = nx nms.length e by simp]
  by_cases hz : crL (ringOf O) l (nx nms.length e) = 0
  · left; rw [hz]; rfl
  · right
    obtain ⟨⟨p, k⟩, hm, hle⟩ := Mine.way_ge F.wf (nx_lt he) hz
    have hp : p < nms.length := F.wf.lt _ hm
    refine ⟨p, k, hp, ?_, ?_⟩
    · rw [atT_eq O F.wf.lt hp]; exact atL_of_mem F.wf.nd hm
    · rw [way_eq O hp]; exact Int.ofNat_le.mpr hle
theorem Good.exc_nn {O : NamOK nms c} {T : List (Str × Str)} {kept : List Str} (G : Good O T kept) (e : Int) : 0 ≤ excF (homesL c kept) nms.length e := by
  obtain ⟨l, rfl, F, hpm, nd⟩ := G
  rw [Good.exc F hpm]; (first | lia | omega)
end
end
theorem freshW12 : True := by
  try row_walk
  trivial
noncomputable def Sh (x : Str) (n : Nat) : Prop := x.length ≤ n
theorem Sh.mono {x : Str} {a b : Nat} (h : Sh x a) (hab : a ≤ b) : Sh x b := Nat.le_trans h hab
section
variable {prog : Program} {w : World} {A : Around} {E : Value → Shared → Prop} {s : Shared} {x y z : Str} {t u v : Tok} {Q : Value → Shared → Prop}
theorem str_add {a b : Nat} (hx : Sh x a) (hy : Sh y b) (hab : a + b ≤ 10000) (h : ∀ t' k, s.toks ≤ k → Sh (x ++ y) (a + b) → Q (.str (x ++ y) t') { s with toks := k }) :
    wpAny (model prog w) A (binaryOp .Add (.str x t) (.str y u)) Q E s := by
  have hL : (x ++ y).length ≤ a + b := by rw [Str.length_append]; exact Nat.add_le_add hx hy
  have hs : x.length + y.length ≤ sizeLine := by
    have := Nat.add_le_add hx hy
    rw [sizeLine_eq]; omega
  refine P.add_str ?_
  by_cases h1 : (x.length == 0) = true
  · rw [if_pos h1]; have h' := h u s.toks (Nat.le_refl _) hL; rw [Str.append_left_empty h1] at h'; exact h'
  · rw [if_neg h1]
    by_cases h2 : (y.length == 0) = true
    · rw [if_pos h2]; have h' := h t s.toks (Nat.le_refl _) hL; rw [Str.append_right_empty h2] at h'; exact h'
    · rw [if_neg h2]; exact ⟨by rw [PySem.size_cat]; exact hs, h _ _ (Nat.le_succ _) hL⟩
theorem str_rep {a b : Nat} (hx : Sh x a) (hz : Sh z b) (hab : a + (a + 1) * b ≤ 16777216) (hu : @Ne Nat u 0) (hv : @Ne Nat v 0) (huv : @Ne Nat u v) (hyz : (y == z) = false)
    (hq : ∀ t' k, Q (.str (Txt.replace x y z) t') { s with toks := k }) : wpAny (model prog w) A (call (.builtin "str.replace") [.str x t, .str y u, .str z v]) Q E s := by
  refine SC.replace hu hv huv hyz ?_ hq
  have hx : x.length ≤ a := hx
  have hz : z.length ≤ b := hz
  have h1 : (x.length + 1) * z.length ≤ (a + 1) * b := Nat.mul_le_mul (Nat.succ_le_succ hx) hz
  omega
end
noncomputable def letF (x : Int) : Str := Txt.item (Str.ofString "Bab") ((x.fdiv 7).fmod 3)
noncomputable def charF (x : Int) : Str := Txt.item (Str.ofString "&\r<\n>\t\"") (x.fmod 7)
theorem letF_sh (x : Int) : Sh (letF x) 1 := Nat.le_refl _
theorem charF_sh (x : Int) : Sh (charF x) 1 := Nat.le_refl _
noncomputable def signsL : List Str := [Str.ofString "&amp;", Str.ofString "&#13;", Str.ofString "&lt;", Str.ofString "&#10;", Str.ofString "&gt;", Str.ofString "&#09;", Str.ofString "&quot;"]
noncomputable def keyF (x : Int) : Str := if (x.fdiv 21).fmod 5 > 2 then Str.ofString "" else letF x ++ nmAt signsL (x.fmod 7).toNat
theorem sign_item {w : World} {A : Around} {E : Value → Shared → Prop} {h₀ : Heap} {L : Addr} {s : Shared} {value slice : PySem.Expr} {nl : Addr} {nk : Nat} {nvs : List Value} {news : List (Addr × Obj)} {z : Int} {u : Tok} {Q : Value → Shared → Prop}
    (N : News h₀ L s.heap news) (hm : (nl, listOf nvs.toArray nk) ∈ news) (hS : StrsAre nvs signsL) (h : ∀ t, Q (.str (nmAt signsL (z.fmod 7).toNat) t) s) (hs : subscripted slice false (Value.ref nl) (Value.int (z.fmod 7) u) = operate [Value.ref nl, Value.int (z.fmod 7) u] (getItem (Value.ref nl) (Value.int (z.fmod 7) u)) := by with_unfolding_all rfl) (hg : ∀ r, letTemporaryGo value (Value.ref nl) r = pure () := by intro _; with_unfolding_all rfl) :
    wpAny (model PySem.Challenge.rw_xn0027_01.row.prog w) A (subscriptTail value slice (.ref nl) (.int (z.fmod 7) u)) Q E s := by
  have a0 : 0 ≤ z.fmod 7 := Int.fmod_nonneg_of_pos _ (by omega)
  have a1 : z.fmod 7 < 7 := Int.fmod_lt_of_pos _ (by omega)
  have e : signsL.length = 7 := rfl
  obtain ⟨t, ht⟩ := hS.at (nmAt_get (p := (z.fmod 7).toNat) (by rw [e]; omega))
  exact item_listL (N.isList hm) (by omega) (by omega) (x := .str (nmAt signsL (z.fmod 7).toNat) t) (by simpa using ht) (h t) hs hg
theorem lit_sh (x : String) (h : (Str.ofString x).length ≤ 32) : Sh (Str.ofString x) 32 := h
theorem sign_sh (n : Nat) : Sh (nmAt signsL n) 6 := by
  match n with
  | 0 => show Str.length _ ≤ _; decide +kernel
  | 1 => show Str.length _ ≤ _; decide +kernel
  | 2 => show Str.length _ ≤ _; decide +kernel
  | 3 => show Str.length _ ≤ _; decide +kernel
  | 4 => show Str.length _ ≤ _; decide +kernel
  | 5 => show Str.length _ ≤ _; decide +kernel
  | 6 => show Str.length _ ≤ _; decide +kernel
  | n + 7 =>
    have e : nmAt signsL (n + 7) = Str.ofString "" := rfl
    rw [e]
    show Str.length _ ≤ _; decide +kernel
theorem char_item {w : World} {A : Around} {E : Value → Shared → Prop} {s : Shared} {value slice : PySem.Expr} {x : Int} {t u : Tok} {Q : Value → Shared → Prop}
    (h : Q (.str (charF x) s.toks) { s with toks := s.toks + 1 })
    (hs : subscripted slice false (.str (Str.ofString "&\r<\n>\t\"") t) (.int (x.fmod 7) u) = operate [.str (Str.ofString "&\r<\n>\t\"") t, .int (x.fmod 7) u] (getItem (.str (Str.ofString "&\r<\n>\t\"") t) (.int (x.fmod 7) u)) := by with_unfolding_all rfl)
    (ht : ∀ r, letTemporaryGo value (.str (Str.ofString "&\r<\n>\t\"") t) r = pure () := by intro _; with_unfolding_all rfl) :
    wpAny (model PySem.Challenge.rw_xn0027_01.row.prog w) A (subscriptTail value slice (.str (Str.ofString "&\r<\n>\t\"") t) (.int (x.fmod 7) u)) Q E s :=
  KXi.item (n := 7) (by decide +kernel) (Int.le_trans (by decide) (Int.fmod_nonneg_of_pos _ (by omega))) (Int.fmod_lt_of_pos _ (by omega)) (by decide) (fun _ => h) hs ht
theorem bab_item {w : World} {A : Around} {E : Value → Shared → Prop} {s : Shared} {value slice : PySem.Expr} {x : Int} {t u : Tok} {Q : Value → Shared → Prop}
    (h : Q (.str (letF x) s.toks) { s with toks := s.toks + 1 })
    (hs : subscripted slice false (.str (Str.ofString "Bab") t) (.int ((x.fdiv 7).fmod 3) u) = operate [.str (Str.ofString "Bab") t, .int ((x.fdiv 7).fmod 3) u] (getItem (.str (Str.ofString "Bab") t) (.int ((x.fdiv 7).fmod 3) u)) := by with_unfolding_all rfl)
    (ht : ∀ r, letTemporaryGo value (.str (Str.ofString "Bab") t) r = pure () := by intro _; with_unfolding_all rfl) :
    wpAny (model PySem.Challenge.rw_xn0027_01.row.prog w) A (subscriptTail value slice (.str (Str.ofString "Bab") t) (.int ((x.fdiv 7).fmod 3) u)) Q E s :=
  KXi.item (n := 3) (by decide +kernel) (Int.le_trans (by decide) (Int.fmod_nonneg_of_pos _ (by omega))) (Int.fmod_lt_of_pos _ (by omega)) (by decide) (fun _ => h) hs ht
theorem lines11 : True := by
  (k_with "M:sh" => first | with_reducible assumption | with_reducible exact letF_sh _ | with_reducible exact charF_sh _ | with_reducible exact sign_sh _ | with_reducible exact lit_sh _ (by decide +kernel))
  (k_with "binaryOp Add str str" => (k_here; (with_reducible show wpAny _ _ (binaryOp Operator.Add (Value.str _ _) (Value.str _ _)) _ _ _); k_dflt (refine' str_add ?zqha ?zqhb ?zqhc ?_; (case zqha => walk_at "M:sh"); (case zqhb => walk_at "M:sh"); (case zqhc => decide); k_whole); intro t' k' htk' hsh'; (try dsimp only at htk')))
  (k_with "call builtin:str.replace" => (k_here; (with_reducible show wpAny _ _ (call (Value.builtin _) [Value.str _ _, Value.str _ _, Value.str _ _]) _ _ _); k_dflt (refine' str_rep ?zqha ?zqhb ?zqhc ?zqhu ?zqhv ?zqhuv ?zqhyz ?_; (case zqha => walk_at "M:sh"); (case zqhb => walk_at "M:sh"); (case zqhc => decide); (case zqhu => ((try dsimp only); omega)); (case zqhv => ((try dsimp only); omega)); (case zqhuv => ((try dsimp only); omega)); (case zqhyz => decide +kernel); k_whole); intro t' k'))
  (k_with "subscriptTail" => (k_here; (with_reducible show wpAny _ _ (subscriptTail _ _ (Value.ref _) (Value.int (Int.fmod _ _) _)) _ _ _); k_dflt (refine' sign_item ?zqN ?zqM ?zqS ?_; (case zqN => k_asm); (case zqM => k_mem); (case zqS => exact .cons _ _ (.cons _ _ (.cons _ _ (.cons _ _ (.cons _ _ (.cons _ _ (.cons _ _ .nil))))))); k_whole); intro _; (try k_sweep)))
  (k_with "subscriptTail" => (k_here; (with_reducible show wpAny _ _ (subscriptTail _ _ (Value.str (Str.ofString "Bab") _) (Value.int (Int.fmod (Int.fdiv _ _) _) _)) _ _ _); k_dflt (refine bab_item ?_)))
  (k_with "subscriptTail" => (k_here; (with_reducible show wpAny _ _ (subscriptTail _ _ (Value.str (Str.ofString "&\r<\n>\t\"") _) (Value.int (Int.fmod _ _) _)) _ _ _); k_dflt (refine char_item ?_)))
  trivial
set_option maxHeartbeats 4000000 in
theorem key_ct {w : World} {mean : ExcName → Option Value} {mg mb : Str → Option Value} {A A₀ : Around} {base h₀ : Heap} {outer : List Env} {env : Env} {L : Addr} {m : Str → Option Value} {news : List (Addr × Obj)} {s : Shared} {R : Result → Shared → Prop}
  (B : Below A₀ base outer h₀) (F : Fr h₀ L s.heap m) (X : (hd.heap_39 w.params).In h₀) (N : News h₀ L s.heap news) (T : Top hd.view_39 loose mean mg mb h₀) (hA : A.frames = some (env :: outer)) (hf : env.frame = some L) (hke : env.scope.kind = .function) (hh : A.handled = none) (hroom : A.depth + 4 < recursionLimit) (hun : A.units + 30 < cLine)
  {x : Int} {t1 : Tok}
  
  (ret : ∀ h' tk' tv, Fr h₀ L h' m → News h₀ L h' news → R (.ok (.ret (.str (keyF x) tv))) { s with heap := h', toks := tk' }) :
  codeAny (model PySem.Challenge.rw_xn0027_01.row.prog w) A (.call (.ref 348) ⟨[.int x t1], []⟩) R s := by
  obtain ⟨hdl, dp, fr, gd, un⟩ := A
  dsimp only at hA hh hroom hun
  subst hA hh
  revert X; k_fill; intro X
  (refine' code_def (binds := [(Str.ofString "x", .int x t1)]) ?zqk1 ?zqk2 ?zqk3 ?zqk4 ?zqk5 ?zqkA ?zqkF ?zqkK ?zqk6 ?zqk7 ?zqk8 ?zqk9 ?zqkB ?_ ?zqc2 ?zqc3 ?zqc4 ?zqc5; walk_at "M:enter"; k_whole)
  intro g' L' h' FG' F' N' B' X' T'; (try dsimp only); (try k_lift B'); (try k_fold)
  k_steps
  · with_reducible rename Fr h₀ L _ _ => F6
    with_reducible rename News h₀ L _ _ => N6
    have e : keyF x = Str.ofString "" := if_pos (by assumption)
    rw [e] at ret
    exact ret _ _ _ F6 N6
  · with_reducible rename Fr h₀ L _ _ => F6
    with_reducible rename News h₀ L _ _ => N6
    have e : keyF x = letF x ++ nmAt signsL (x.fmod 7).toNat := if_neg (by assumption)
    rw [e] at ret
    exact ret _ _ _ F6 (cb_drop N6 fun p hp => by k_mem)
theorem freshW13 : True := by
  try row_walk
  trivial
noncomputable def nmF (x : Int) : Str := letF x ++ charF x
noncomputable def codeF (x : Int) : Str := if (x.fdiv 21).fmod 5 = 4 then Str.ofString "250" else Str.ofString "257"
noncomputable def behF (x : Int) : Str := if (x.fdiv 21).fmod 5 = 1 then Str.ofString "\"" else if (x.fdiv 21).fmod 5 = 2 then Str.ofString "" else Str.ofString "\" and \"more\""
noncomputable def replyF (x : Int) : Str := if (x.fdiv 21).fmod 5 = 3 then Str.ofString "257 " ++ nmF x else codeF x ++ Str.ofString " \"" ++ Txt.replace (nmF x) (Str.ofString "\"") (Str.ofString "\"\"") ++ behF x
noncomputable def nmN (i j : Nat) : Str := Txt.item (Str.ofString "Bab") (i : Int) ++ Txt.item (Str.ofString "&\r<\n>\t\"") (j : Int)
noncomputable def iF (x : Int) : Nat := ((x.fdiv 7).fmod 3).toNat
noncomputable def jF (x : Int) : Nat := (x.fmod 7).toNat
theorem iF_lt (x : Int) : iF x < 3 := by
  have a := Int.fmod_nonneg_of_pos (x.fdiv 7) (show (0:Int) < 3 by omega)
  have b := Int.fmod_lt_of_pos (x.fdiv 7) (show (0:Int) < 3 by omega)
  unfold iF; omega
theorem jF_lt (x : Int) : jF x < 7 := by
  have a := Int.fmod_nonneg_of_pos x (show (0:Int) < 7 by omega)
  have b := Int.fmod_lt_of_pos x (show (0:Int) < 7 by omega)
  unfold jF; omega
theorem nmF_eq (x : Int) : nmF x = nmN (iF x) (jF x) := by
  unfold nmF nmN letF charF iF jF
  rw [Int.toNat_of_nonneg (Int.fmod_nonneg_of_pos _ (by omega)), Int.toNat_of_nonneg (Int.fmod_nonneg_of_pos _ (by omega))]
theorem rep_dec : ∀ i, i < 3 → ∀ j, j < 7 → (Txt.replace (nmN i j) (Str.ofString "\"") (Str.ofString "\"\"")).length ≤ 4 := by decide +kernel
theorem rep_sh (x : Int) : Sh (Txt.replace (letF x ++ charF x) (Str.ofString "\"") (Str.ofString "\"\"")) 4 := by
  show (Txt.replace (nmF x) _ _).length ≤ 4
  rw [nmF_eq]
  exact rep_dec _ (iF_lt x) _ (jF_lt x)
theorem replyF_3 {x : Int} (h : (x.fdiv 21).fmod 5 = 3) : replyF x = Str.ofString "257 " ++ (letF x ++ charF x) := if_pos h
theorem replyF_n {x : Int} (h : (x.fdiv 21).fmod 5 ≠ 3) : replyF x = codeF x ++ Str.ofString " \"" ++ Txt.replace (letF x ++ charF x) (Str.ofString "\"") (Str.ofString "\"\"") ++ behF x := if_neg h
theorem codeF_4 {x : Int} (h : (x.fdiv 21).fmod 5 = 4) : codeF x = Str.ofString "250" := if_pos h
theorem codeF_n {x : Int} (h : (x.fdiv 21).fmod 5 ≠ 4) : codeF x = Str.ofString "257" := if_neg h
theorem behF_1 {x : Int} (h : (x.fdiv 21).fmod 5 = 1) : behF x = Str.ofString "\"" := if_pos h
theorem behF_2 {x : Int} (h1 : (x.fdiv 21).fmod 5 ≠ 1) (h : (x.fdiv 21).fmod 5 = 2) : behF x = Str.ofString "" := by unfold behF; rw [if_neg h1, if_pos h]
theorem behF_n {x : Int} (h1 : (x.fdiv 21).fmod 5 ≠ 1) (h : (x.fdiv 21).fmod 5 ≠ 2) : behF x = Str.ofString "\" and \"more\"" := by unfold behF; rw [if_neg h1, if_neg h]
set_option maxHeartbeats 4000000 in
theorem reply_ct {w : World} {mean : ExcName → Option Value} {mg mb : Str → Option Value} {A A₀ : Around} {base h₀ : Heap} {outer : List Env} {env : Env} {L : Addr} {m : Str → Option Value} {news : List (Addr × Obj)} {s : Shared} {R : Result → Shared → Prop}
  (B : Below A₀ base outer h₀) (F : Fr h₀ L s.heap m) (X : (hd.heap_39 w.params).In h₀) (N : News h₀ L s.heap news) (T : Top hd.view_39 loose mean mg mb h₀) (hA : A.frames = some (env :: outer)) (hf : env.frame = some L) (hke : env.scope.kind = .function) (hh : A.handled = none) (hroom : A.depth + 4 < recursionLimit) (hun : A.units + 30 < cLine)
  {x : Int} {t1 : Tok}
  
  (ret : ∀ h' tk' tv, Fr h₀ L h' m → News h₀ L h' news → R (.ok (.ret (.str (replyF x) tv))) { s with heap := h', toks := tk' }) :
  codeAny (model PySem.Challenge.rw_xn0027_01.row.prog w) A (.call (.ref 334) ⟨[.int x t1], []⟩) R s := by
  obtain ⟨hdl, dp, fr, gd, un⟩ := A
  dsimp only at hA hh hroom hun
  subst hA hh
  revert X; k_fill; intro X
  (refine' code_def (binds := [(Str.ofString "x", .int x t1)]) ?zqk1 ?zqk2 ?zqk3 ?zqk4 ?zqk5 ?zqkA ?zqkF ?zqkK ?zqk6 ?zqk7 ?zqk8 ?zqk9 ?zqkB ?_ ?zqc2 ?zqc3 ?zqc4 ?zqc5; walk_at "M:enter"; k_whole)
  intro g' L' h' FG' F' N' B' X' T'; (try dsimp only); (try k_lift B'); (try k_fold)
  have hrs := rep_sh x
  k_steps
  · rw [replyF_3 (by assumption)] at ret
    with_reducible rename Fr h₀ L _ _ => F6
    with_reducible rename News h₀ L _ _ => N6
    exact ret _ _ _ F6 N6
  · rw [replyF_n (by assumption), codeF_4 (by assumption), behF_1 (by assumption)] at ret
    with_reducible rename Fr h₀ L _ _ => F6
    with_reducible rename News h₀ L _ _ => N6
    exact ret _ _ _ F6 N6
  · rw [replyF_n (by assumption), codeF_4 (by assumption), behF_2 (by assumption) (by assumption)] at ret
    with_reducible rename Fr h₀ L _ _ => F6
    with_reducible rename News h₀ L _ _ => N6
    exact ret _ _ _ F6 N6
  · rw [replyF_n (by assumption), codeF_4 (by assumption), behF_n (by assumption) (by assumption)] at ret
    with_reducible rename Fr h₀ L _ _ => F6
    with_reducible rename News h₀ L _ _ => N6
    exact ret _ _ _ F6 N6
  · rw [replyF_n (by assumption), codeF_n (by assumption), behF_1 (by assumption)] at ret
    with_reducible rename Fr h₀ L _ _ => F6
    with_reducible rename News h₀ L _ _ => N6
    exact ret _ _ _ F6 N6
  · rw [replyF_n (by assumption), codeF_n (by assumption), behF_2 (by assumption) (by assumption)] at ret
    with_reducible rename Fr h₀ L _ _ => F6
    with_reducible rename News h₀ L _ _ => N6
    exact ret _ _ _ F6 N6
  · rw [replyF_n (by assumption), codeF_n (by assumption), behF_n (by assumption) (by assumption)] at ret
    with_reducible rename Fr h₀ L _ _ => F6
    with_reducible rename News h₀ L _ _ => N6
    exact ret _ _ _ F6 N6
theorem freshW14 : True := by
  try row_walk
  trivial
noncomputable def parseLp (resp : Str) : Nat → Nat → Str → Str
  | 0, _, d => d
  | k + 1, i, d => if i < resp.length then
      if (Txt.item resp ((i : Nat) : Int) == Str.ofString "\"") = true then
        if i + 1 < resp.length ∧ (Txt.item resp (((i : Nat) : Int) + 1) != Str.ofString "\"") = false then parseLp resp k (i + 2) (d ++ Txt.item resp ((i : Nat) : Int)) else d
      else parseLp resp k (i + 1) (d ++ Txt.item resp ((i : Nat) : Int))
    else d
noncomputable def parseF (resp : Str) : Str := if (Txt.slice resp (some 3) (some 5) != Str.ofString " \"") = true then Str.ofString "" else parseLp resp resp.length 5 (Str.ofString "")
theorem parse_end {resp d : Str} {k i : Nat} (h : ¬ i < resp.length) : parseLp resp k i d = d := by
  cases k with
  | zero => rfl
  | succ k => show (if _ then _ else _) = _; rw [if_neg h]
theorem parse_chr {resp d : Str} {k i : Nat} (h : i < resp.length) (hc : (Txt.item resp ((i : Nat) : Int) == Str.ofString "\"") = false) : parseLp resp (k + 1) i d = parseLp resp k (i + 1) (d ++ Txt.item resp ((i : Nat) : Int)) := by
  show (if _ then _ else _) = _; rw [if_pos h, if_neg (by rw [hc]; decide)]
theorem parse_two {resp d : Str} {k i : Nat} (h : i < resp.length) (hc : (Txt.item resp ((i : Nat) : Int) == Str.ofString "\"") = true) (h2 : i + 1 < resp.length) (hc2 : (Txt.item resp (((i : Nat) : Int) + 1) != Str.ofString "\"") = false) : parseLp resp (k + 1) i d = parseLp resp k (i + 2) (d ++ Txt.item resp ((i : Nat) : Int)) := by
  show (if _ then _ else _) = _; rw [if_pos h, if_pos hc, if_pos ⟨h2, hc2⟩]
theorem parse_brk1 {resp d : Str} {k i : Nat} (h : i < resp.length) (hc : (Txt.item resp ((i : Nat) : Int) == Str.ofString "\"") = true) (h2 : ¬ i + 1 < resp.length) : parseLp resp (k + 1) i d = d := by
  show (if _ then _ else _) = _; rw [if_pos h, if_pos hc, if_neg (fun e => h2 e.1)]
theorem parse_brk2 {resp d : Str} {k i : Nat} (h : i < resp.length) (hc : (Txt.item resp ((i : Nat) : Int) == Str.ofString "\"") = true) (hc2 : (Txt.item resp (((i : Nat) : Int) + 1) != Str.ofString "\"") = true) : parseLp resp (k + 1) i d = d := by
  show (if _ then _ else _) = _; rw [if_pos h, if_pos hc, if_neg (fun e => by rw [hc2] at e; exact absurd e.2 (by decide))]
theorem item_sh (x : Str) (i : Int) : Sh (Txt.item x i) 1 := Nat.le_refl _
theorem str_itemZ {w : World} {A : Around} {E : Value → Shared → Prop} {s : Shared} {value slice : PySem.Expr} {x : Str} {i : Int} {t u : Tok} {Q : Value → Shared → Prop}
    (hl : x.length ≤ 60) (h0 : 0 ≤ i) (h1 : i < (x.length : Int)) (h : Q (.str (Txt.item x i) s.toks) { s with toks := s.toks + 1 })
    (hs : subscripted slice false (.str x t) (.int i u) = operate [.str x t, .int i u] (getItem (.str x t) (.int i u)) := by with_unfolding_all rfl)
    (ht : ∀ r, letTemporaryGo value (.str x t) r = pure () := by intro _; with_unfolding_all rfl) :
    wpAny (model PySem.Challenge.rw_xn0027_01.row.prog w) A (subscriptTail value slice (.str x t) (.int i u)) Q E s :=
  item_str (fitsSsize_of (N := 9223372036854775808) (by omega) (by omega) (Int.le_refl _)) (by omega) (by omega) (fun _ => h) hs ht
structure ParJ (g : Heap) (L : Addr) (news : List (Addr × Obj)) (resp res : Str) (b : Bool) (k : Nat) (h : Heap) (m : Str → Option Value) (i : Nat) (d : Str) : Prop where
  fr : Fr g L h m
  nw : News g L h news
  m1 : ∃ t, m (Str.ofString "resp") = some (.str resp t)
  m2 : ∃ t, m (Str.ofString "n") = some (.int (resp.length : Int) t)
  m3 : ∃ t z, m (Str.ofString "i") = some (.int z t) ∧ (b = true → z = ((i : Nat) : Int))
  m4 : ∃ t, m (Str.ofString "dirname") = some (.str d t)
  sh : Sh d 60 
  dl : b = true → Sh d i
  fu : b = true → resp.length ≤ i + k
  rs : parseLp resp k i d = res
noncomputable def ParFin (s : Shared) (g : Heap) (L : Addr) (news : List (Addr × Obj)) (resp res : Str) (s' : Shared) : Prop := ∃ h tk m i d, s' = { s with heap := h, toks := tk } ∧ ParJ g L news resp res false 0 h m i d
theorem lines12 : True := by
  (k_with "M:sh" => with_reducible exact item_sh _ _)
  (k_with "binaryOp Add str str" => (k_here; (with_reducible show wpAny _ _ (binaryOp Operator.Add (Value.str _ _) (Value.str _ _)) _ _ _); k_dflt (refine' str_add ?zqha ?zqhb ?zqhc ?_; (case zqha => walk_at "M:sh"); (case zqhb => walk_at "M:sh"); (case zqhc => first | decide | omega); k_whole); intro t' k' htk' hsh'; (try dsimp only at htk')))
  (k_with "subscriptTail" => (k_here; (with_reducible show wpAny _ _ (subscriptTail _ _ (Value.str _ _) (Value.int _ _)) _ _ _); k_dflt (refine' str_itemZ ?zqha ?zqhb ?zqhc ?_; (case zqha => with_reducible assumption); (case zqhb => omega); (case zqhc => omega); k_whole)))
  trivial
set_option maxHeartbeats 2000000 in
theorem parse_ct {w : World} {mean : ExcName → Option Value} {mg mb : Str → Option Value} {A A₀ : Around} {base h₀ : Heap} {outer : List Env} {env : Env} {L : Addr} {m : Str → Option Value} {news : List (Addr × Obj)} {s : Shared} {R : Result → Shared → Prop}
  (B : Below A₀ base outer h₀) (F : Fr h₀ L s.heap m) (X : (hd.heap_39 w.params).In h₀) (N : News h₀ L s.heap news) (T : Top hd.view_39 loose mean mg mb h₀) (hA : A.frames = some (env :: outer)) (hf : env.frame = some L) (hke : env.scope.kind = .function) (hh : A.handled = none) (hroom : A.depth + 4 < recursionLimit) (hun : A.units + 30 < cLine)
  {resp : Str} {t1 : Tok}
  (hl : resp.length ≤ 60) (h1 : (Txt.slice resp none (some 3) != Str.ofString "257") = false)
  (ret : ∀ h' tk' tv, Fr h₀ L h' m → News h₀ L h' news → R (.ok (.ret (.str (parseF resp) tv))) { s with heap := h', toks := tk' }) :
  codeAny (model PySem.Challenge.rw_xn0027_01.row.prog w) A (.call (.ref 207) ⟨[.str resp t1], []⟩) R s := by
  obtain ⟨hdl, dp, fr, gd, un⟩ := A
  dsimp only at hA hh hroom hun
  subst hA hh
  revert X; k_fill; intro X
  (refine' code_def (binds := [(Str.ofString "resp", .str resp t1)]) ?zqk1 ?zqk2 ?zqk3 ?zqk4 ?zqk5 ?zqkA ?zqkF ?zqkK ?zqk6 ?zqk7 ?zqk8 ?zqk9 ?zqkB ?_ ?zqc2 ?zqc3 ?zqc4 ?zqc5; walk_at "M:enter"; k_whole)
  intro g' L' h' FG' F' N' B' X' T'; (try dsimp only); (try k_lift B'); (try k_fold)
  have hls : resp.length ≤ sizeLine := Nat.le_trans hl (by decide)
  k_steps
  · with_reducible rename Fr h₀ L _ _ => F6
    with_reducible rename News h₀ L _ _ => N6
    rw [show parseF resp = Str.ofString "" from if_pos (by assumption)] at ret
    exact ret _ _ _ F6 N6
  · refine Hold.mk ?_
    with_reducible rename Fr g' L' _ _ => F9
    with_reducible rename News g' L' _ _ => N9
    rw [show parseF resp = parseLp resp resp.length 5 (Str.ofString "") from if_neg (by rw [Bool.not_eq_true]; assumption)] at ret
    refine While_C (fun k s' => ∃ h tk m i d, s' = { s with heap := h, toks := tk } ∧ ParJ g' L' news resp (parseLp resp resp.length 5 (Str.ofString "")) true k h m i d) (ParFin s g' L' news resp (parseLp resp resp.length 5 (Str.ofString ""))) resp.length ⟨_, _, _, 5, Str.ofString "", rfl, F9, N9, ⟨_, rfl⟩, ⟨_, rfl⟩, ⟨_, _, rfl, fun _ => rfl⟩, ⟨_, rfl⟩, by show Str.length _ ≤ _; decide +kernel, fun _ => by show Str.length _ ≤ _; decide +kernel, fun _ => by omega, rfl⟩ ?_ ?_
    · clear F9 N9
      rintro k s' ⟨h, tk, m, i, d, rfl, F9, N9, ⟨ta, m1⟩, ⟨tb, m2⟩, ⟨tc, z, m3, hz⟩, ⟨td, m4⟩, hsd, hdl, hfu, hrs⟩
      have hz := hz rfl
      subst hz
      have hdl := hdl rfl
      have hfu := hfu rfl
      k_steps
      · with_reducible rename Fr g' L' _ _ => F6
        with_reducible rename News g' L' _ _ => N6
        obtain ⟨k, rfl⟩ : ∃ k', k = k' + 1 := ⟨k - 1, by omega⟩
        rw [parse_brk1 (by omega) (by assumption) (by omega)] at hrs
        exact ⟨_, _, _, i, d, rfl, F6, N6, ⟨ta, m1⟩, ⟨tb, m2⟩, ⟨_, _, rfl, fun e => nomatch e⟩, ⟨td, m4⟩, hsd, (fun e => nomatch e), (fun e => nomatch e), hrs⟩
      · with_reducible rename Fr g' L' _ _ => F6
        with_reducible rename News g' L' _ _ => N6
        obtain ⟨k, rfl⟩ : ∃ k', k = k' + 1 := ⟨k - 1, by omega⟩
        rw [parse_brk2 (by omega) (by assumption) (by assumption)] at hrs
        exact ⟨_, _, _, i, d, rfl, F6, N6, ⟨ta, m1⟩, ⟨tb, m2⟩, ⟨_, _, rfl, fun e => nomatch e⟩, ⟨td, m4⟩, hsd, (fun e => nomatch e), (fun e => nomatch e), hrs⟩
      · dsimp only
        with_reducible rename Fr g' L' _ _ => F6
        with_reducible rename News g' L' _ _ => N6
        obtain ⟨k, rfl⟩ : ∃ k', k = k' + 1 := ⟨k - 1, by omega⟩
        rw [parse_two (by omega) (by assumption) (by omega) (by assumption)] at hrs
        with_reducible rename Sh (_ ++ _) _ => hs6
        exact WTurn.intro k (Nat.lt_succ_self _) ⟨_, _, _, i + 2, _, rfl, F6, N6, ⟨ta, m1⟩, ⟨tb, m2⟩, ⟨_, _, rfl, fun _ => by omega⟩, ⟨_, rfl⟩, hs6.mono (by omega), (fun _ => hs6.mono (by omega)), (fun _ => by omega), hrs⟩
      · dsimp only
        with_reducible rename Fr g' L' _ _ => F6
        with_reducible rename News g' L' _ _ => N6
        obtain ⟨k, rfl⟩ : ∃ k', k = k' + 1 := ⟨k - 1, by omega⟩
        rw [parse_chr (by omega) (by assumption)] at hrs
        with_reducible rename Sh (_ ++ _) _ => hs6
        exact WTurn.intro k (Nat.lt_succ_self _) ⟨_, _, _, i + 1, _, rfl, F6, N6, ⟨ta, m1⟩, ⟨tb, m2⟩, ⟨_, _, rfl, fun _ => by omega⟩, ⟨_, rfl⟩, hs6.mono (by omega), (fun _ => hs6.mono (by omega)), (fun _ => by omega), hrs⟩
      · with_reducible rename Fr g' L' _ _ => F6
        with_reducible rename News g' L' _ _ => N6
        rw [parse_end (by omega)] at hrs
        exact ⟨_, _, _, i, d, rfl, F6, N6, ⟨ta, m1⟩, ⟨tb, m2⟩, ⟨_, _, m3, fun e => nomatch e⟩, ⟨td, m4⟩, hsd, (fun e => nomatch e), (fun e => nomatch e), hrs⟩
    · clear F9 N9
      rintro s' ⟨h, tk, m, i, d, rfl, F9, N9, ⟨ta, m1⟩, ⟨tb, m2⟩, ⟨tc, z, m3, hz⟩, ⟨td, m4⟩, hsd, hdl, hfu, hrs⟩
      have hrs : d = _ := hrs
      subst hrs
      k_steps
      with_reducible rename Fr h₀ L _ _ => F6
      with_reducible rename News h₀ L _ _ => N6
      exact ret _ _ _ F6 N6
theorem freshW15 : True := by
  try row_walk
  trivial
noncomputable def escS (x a b : Str) : Str := if (!(Builtin.Str.occurrences x a 0 x.length 1).isEmpty) = true then Txt.replace x a b else x
noncomputable def escL : List (Str × Str) → Str → Str
  | [], x => x
  | (a, b) :: r, x => escL r (escS x a b)
noncomputable def escOK : List (Str × Str) → Str → Bool
  | [], _ => true
  | (a, b) :: r, x => decide (x.length ≤ 100) && escOK r (escS x a b)
theorem escOK.hd {a b x : Str} {r : List (Str × Str)} (h : escOK ((a, b) :: r) x = true) : Sh x 100 := by
  show x.length ≤ 100
  exact of_decide_eq_true (Bool.and_eq_true_iff.mp h).1
theorem escOK.tl {a b x : Str} {r : List (Str × Str)} (h : escOK ((a, b) :: r) x = true) : escOK r (escS x a b) = true := (Bool.and_eq_true_iff.mp h).2
theorem esc_yes {x a b : Str} (h : (Builtin.Str.occurrences x a 0 x.length 1).isEmpty = false) : escS x a b = Txt.replace x a b := if_pos (by rw [h]; rfl)
theorem esc_no {x a b : Str} (h : (Builtin.Str.occurrences x a 0 x.length 1).isEmpty = true) : escS x a b = x := if_neg (by rw [h]; decide)
noncomputable def EscJ (s : Shared) (g : Heap) (L : Addr) (news : List (Addr × Obj)) (x a b : Str) (f : Flow) (s' : Shared) : Prop := f = .next ∧ ∃ h tk m t, s' = { s with heap := h, toks := tk } ∧ Fr g L h m ∧ News g L h news ∧ m (Str.ofString "text") = some (.str (escS x a b) t)
theorem EscJ.no {s : Shared} {g h : Heap} {L : Addr} {m : Str → Option Value} {news : List (Addr × Obj)} {tk : Tok} {x a b : Str} {t : Tok} (F : Fr g L h m) (N : News g L h news) (m1 : m (Str.ofString "text") = some (.str x t)) (e : (Builtin.Str.occurrences x a 0 x.length 1).isEmpty = true) : EscJ s g L news x a b .next { s with heap := h, toks := tk } :=
  ⟨rfl, h, tk, m, t, rfl, F, N, by rw [esc_no e]; exact m1⟩
theorem EscJ.yes {s : Shared} {g h : Heap} {L : Addr} {m : Str → Option Value} {news : List (Addr × Obj)} {tk : Tok} {x a b : Str} {t : Tok} (F : Fr g L h m) (N : News g L h news) (m1 : m (Str.ofString "text") = some (.str (Txt.replace x a b) t)) (e : (Builtin.Str.occurrences x a 0 x.length 1).isEmpty = false) : EscJ s g L news x a b .next { s with heap := h, toks := tk } :=
  ⟨rfl, h, tk, m, t, rfl, F, N, by rw [esc_yes e]; exact m1⟩
theorem esc_join {w : World} {A : Around} {g h : Heap} {L : Addr} {m : Str → Option Value} {news : List (Addr × Obj)} {s : Shared} {tk : Tok} {x ya yb : Str} {t : Tok} {r : List (Str × Str)} {Q : Flow → Shared → Prop} {E : Value → Shared → Prop} {env : Env} {p1 p3 p4 p7 p8 p9 p10 p11 : Pos} {ops : List CmpOp} {cs : List PySem.Expr} {f : PySem.Expr}
  (_F : Fr g L h m) (_N : News g L h news) (_m1 : m (Str.ofString "text") = some (.str x t)) (ok : escOK ((ya, yb) :: r) x = true)
  (hi : Sh x 100 → wpAny (model PySem.Challenge.rw_xn0027_01.row.prog w) A (PySem.isTrue ((PySem.Expr.Constant (Const.str ya) 0 p1).Compare ops cs p3) env (eval ((PySem.Expr.Constant (Const.str ya) 0 p1).Compare ops cs p3) env)) (fun b s₂ => if b = true then wpAny (model PySem.Challenge.rw_xn0027_01.row.prog w) A (execs [Stmt.Assign [PySem.Expr.Name (Str.ofString "text") p4] (f.Call [PySem.Expr.Constant (Const.str ya) 0 p7, PySem.Expr.Constant (Const.str yb) 0 p8] [] p9) p10] env) (EscJ s g L news x ya yb) E s₂ else wpAny (model PySem.Challenge.rw_xn0027_01.row.prog w) A (execs [] env) (EscJ s g L news x ya yb) E s₂) E { s with heap := h, toks := tk })
  (ret : ∀ h' tk' m' t', Fr g L h' m' → News g L h' news → m' (Str.ofString "text") = some (.str (escS x ya yb) t') → escOK r (escS x ya yb) = true → Q .next { s with heap := h', toks := tk' }) :
  wpAny (model PySem.Challenge.rw_xn0027_01.row.prog w) A (exec (Stmt.If ((PySem.Expr.Constant (Const.str ya) 0 p1).Compare ops cs p3) [Stmt.Assign [PySem.Expr.Name (Str.ofString "text") p4] (f.Call [PySem.Expr.Constant (Const.str ya) 0 p7, PySem.Expr.Constant (Const.str yb) 0 p8] [] p9) p10] [] p11) env) Q E { s with heap := h, toks := tk } := by
  refine wpAny_mono (wpAny_If (hi (escOK.hd ok))) ?_ fun _ _ x => x
  rintro f s' ⟨rfl, h', tk', m', t', rfl, F', N', m1'⟩
  exact ret h' tk' m' t' F' N' m1' (escOK.tl ok)
theorem lines13 : True := by
  (k_with "execs cons" => ((with_reducible refine wpAny_execs_cons ?_); try dsimp only))
  (k_with "execs nil" => (with_reducible refine wpAny_execs_nil ?_))
  (k_with "M:sh" => with_reducible assumption)
  (k_with "exec If" => (k_here; k_dflt (refine' esc_join ?zqF ?zqN ?zqm ?zqok ?_ ?_; (case zqF => k_asm); (case zqN => k_asm); (case zqm => first | with_reducible assumption | exact rfl); (case zqok => with_reducible assumption)); (intro hsh'; (try dsimp only)); rotate_left; (intro h' tk' m' t' F' N' m1' ok'; (try dsimp only); (try k_sweep))))
  (k_with "EscJ" => fail)
  trivial
noncomputable def cdataT : List (Str × Str) := [(Str.ofString "&", Str.ofString "&amp;"), (Str.ofString "<", Str.ofString "&lt;"), (Str.ofString ">", Str.ofString "&gt;")]
set_option maxHeartbeats 2000000 in
theorem cdata_ct {w : World} {mean : ExcName → Option Value} {mg mb : Str → Option Value} {A A₀ : Around} {base h₀ : Heap} {outer : List Env} {env : Env} {L : Addr} {m : Str → Option Value} {news : List (Addr × Obj)} {s : Shared} {R : Result → Shared → Prop}
  (B : Below A₀ base outer h₀) (F : Fr h₀ L s.heap m) (X : (hd.heap_39 w.params).In h₀) (N : News h₀ L s.heap news) (T : Top hd.view_39 loose mean mg mb h₀) (hA : A.frames = some (env :: outer)) (hf : env.frame = some L) (hke : env.scope.kind = .function) (hh : A.handled = none) (hroom : A.depth + 4 < recursionLimit) (hun : A.units + 30 < cLine)
  {x : Str} {t1 : Tok}
  (ok : escOK cdataT x = true)
  (ret : ∀ h' tk' tv, Fr h₀ L h' m → News h₀ L h' news → R (.ok (.ret (.str (escL cdataT x) tv))) { s with heap := h', toks := tk' }) :
  codeAny (model PySem.Challenge.rw_xn0027_01.row.prog w) A (.call (.ref 299) ⟨[.str x t1], []⟩) R s := by
  obtain ⟨hdl, dp, fr, gd, un⟩ := A
  dsimp only at hA hh hroom hun
  subst hA hh
  revert X; k_fill; intro X
  (refine' code_def (binds := [(Str.ofString "text", .str x t1)]) ?zqk1 ?zqk2 ?zqk3 ?zqk4 ?zqk5 ?zqkA ?zqkF ?zqkK ?zqk6 ?zqk7 ?zqk8 ?zqk9 ?zqkB ?_ ?zqc2 ?zqc3 ?zqc4 ?zqc5; walk_at "M:enter"; k_whole)
  intro g' L' h' FG' F' N' B' X' T'; (try dsimp only); (try k_lift B'); (try k_fold)
  unfold cdataT at ok ret
  dsimp only [escL] at ret
  k_steps
  · with_reducible rename Fr h₀ L _ _ => F6
    with_reducible rename News h₀ L _ _ => N6
    exact ret _ _ _ F6 N6
  all_goals (try dsimp only)
  all_goals first
    | exact EscJ.no (by with_reducible assumption) (by with_reducible assumption) (by first | with_reducible assumption | exact rfl) (by with_reducible assumption)
    | exact EscJ.yes (by with_reducible assumption) (by with_reducible assumption) (by exact rfl) (by with_reducible assumption)
noncomputable def attribT : List (Str × Str) := [(Str.ofString "&", Str.ofString "&amp;"), (Str.ofString "<", Str.ofString "&lt;"), (Str.ofString ">", Str.ofString "&gt;"), (Str.ofString "\"", Str.ofString "&quot;"), (Str.ofString "\r", Str.ofString "&#13;"), (Str.ofString "\n", Str.ofString "&#10;"), (Str.ofString "\t", Str.ofString "&#09;")]
set_option maxHeartbeats 2000000 in
theorem attrib_ct {w : World} {mean : ExcName → Option Value} {mg mb : Str → Option Value} {A A₀ : Around} {base h₀ : Heap} {outer : List Env} {env : Env} {L : Addr} {m : Str → Option Value} {news : List (Addr × Obj)} {s : Shared} {R : Result → Shared → Prop}
  (B : Below A₀ base outer h₀) (F : Fr h₀ L s.heap m) (X : (hd.heap_39 w.params).In h₀) (N : News h₀ L s.heap news) (T : Top hd.view_39 loose mean mg mb h₀) (hA : A.frames = some (env :: outer)) (hf : env.frame = some L) (hke : env.scope.kind = .function) (hh : A.handled = none) (hroom : A.depth + 4 < recursionLimit) (hun : A.units + 30 < cLine)
  {x : Str} {t1 : Tok}
  (ok : escOK attribT x = true)
  (ret : ∀ h' tk' tv, Fr h₀ L h' m → News h₀ L h' news → R (.ok (.ret (.str (escL attribT x) tv))) { s with heap := h', toks := tk' }) :
  codeAny (model PySem.Challenge.rw_xn0027_01.row.prog w) A (.call (.ref 306) ⟨[.str x t1], []⟩) R s := by
  obtain ⟨hdl, dp, fr, gd, un⟩ := A
  dsimp only at hA hh hroom hun
  subst hA hh
  revert X; k_fill; intro X
  (refine' code_def (binds := [(Str.ofString "text", .str x t1)]) ?zqk1 ?zqk2 ?zqk3 ?zqk4 ?zqk5 ?zqkA ?zqkF ?zqkK ?zqk6 ?zqk7 ?zqk8 ?zqk9 ?zqkB ?_ ?zqc2 ?zqc3 ?zqc4 ?zqc5; walk_at "M:enter"; k_whole)
  intro g' L' h' FG' F' N' B' X' T'; (try dsimp only); (try k_lift B'); (try k_fold)
  unfold attribT at ok ret
  dsimp only [escL] at ret
  k_steps
  · with_reducible rename Fr h₀ L _ _ => F6
    with_reducible rename News h₀ L _ _ => N6
    exact ret _ _ _ F6 N6
  all_goals (try dsimp only)
  all_goals first
    | exact EscJ.no (by with_reducible assumption) (by with_reducible assumption) (by first | with_reducible assumption | exact rfl) (by with_reducible assumption)
    | exact EscJ.yes (by with_reducible assumption) (by with_reducible assumption) (by exact rfl) (by with_reducible assumption)
noncomputable def htmlT : List (Str × Str) := [(Str.ofString "&", Str.ofString "&amp;"), (Str.ofString ">", Str.ofString "&gt;"), (Str.ofString "\"", Str.ofString "&quot;")]
set_option maxHeartbeats 2000000 in
theorem html_ct {w : World} {mean : ExcName → Option Value} {mg mb : Str → Option Value} {A A₀ : Around} {base h₀ : Heap} {outer : List Env} {env : Env} {L : Addr} {m : Str → Option Value} {news : List (Addr × Obj)} {s : Shared} {R : Result → Shared → Prop}
  (B : Below A₀ base outer h₀) (F : Fr h₀ L s.heap m) (X : (hd.heap_39 w.params).In h₀) (N : News h₀ L s.heap news) (T : Top hd.view_39 loose mean mg mb h₀) (hA : A.frames = some (env :: outer)) (hf : env.frame = some L) (hke : env.scope.kind = .function) (hh : A.handled = none) (hroom : A.depth + 4 < recursionLimit) (hun : A.units + 30 < cLine)
  {x : Str} {t1 : Tok}
  (ok : escOK htmlT x = true)
  (ret : ∀ h' tk' tv, Fr h₀ L h' m → News h₀ L h' news → R (.ok (.ret (.str (escL htmlT x) tv))) { s with heap := h', toks := tk' }) :
  codeAny (model PySem.Challenge.rw_xn0027_01.row.prog w) A (.call (.ref 313) ⟨[.str x t1], []⟩) R s := by
  obtain ⟨hdl, dp, fr, gd, un⟩ := A
  dsimp only at hA hh hroom hun
  subst hA hh
  revert X; k_fill; intro X
  (refine' code_def (binds := [(Str.ofString "text", .str x t1)]) ?zqk1 ?zqk2 ?zqk3 ?zqk4 ?zqk5 ?zqkA ?zqkF ?zqkK ?zqk6 ?zqk7 ?zqk8 ?zqk9 ?zqkB ?_ ?zqc2 ?zqc3 ?zqc4 ?zqc5; walk_at "M:enter"; k_whole)
  intro g' L' h' FG' F' N' B' X' T'; (try dsimp only); (try k_lift B'); (try k_fold)
  unfold htmlT at ok ret
  dsimp only [escL] at ret
  k_steps
  · with_reducible rename Fr h₀ L _ _ => F6
    with_reducible rename News h₀ L _ _ => N6
    exact ret _ _ _ F6 N6
  all_goals (try dsimp only)
  all_goals first
    | exact EscJ.no (by with_reducible assumption) (by with_reducible assumption) (by first | with_reducible assumption | exact rfl) (by with_reducible assumption)
    | exact EscJ.yes (by with_reducible assumption) (by with_reducible assumption) (by exact rfl) (by with_reducible assumption)
noncomputable def c14nT : List (Str × Str) := [(Str.ofString "&", Str.ofString "&amp;"), (Str.ofString "<", Str.ofString "&lt;"), (Str.ofString ">", Str.ofString "&gt;"), (Str.ofString "\r", Str.ofString "&#xD;")]
set_option maxHeartbeats 2000000 in
theorem c14n_ct {w : World} {mean : ExcName → Option Value} {mg mb : Str → Option Value} {A A₀ : Around} {base h₀ : Heap} {outer : List Env} {env : Env} {L : Addr} {m : Str → Option Value} {news : List (Addr × Obj)} {s : Shared} {R : Result → Shared → Prop}
  (B : Below A₀ base outer h₀) (F : Fr h₀ L s.heap m) (X : (hd.heap_39 w.params).In h₀) (N : News h₀ L s.heap news) (T : Top hd.view_39 loose mean mg mb h₀) (hA : A.frames = some (env :: outer)) (hf : env.frame = some L) (hke : env.scope.kind = .function) (hh : A.handled = none) (hroom : A.depth + 4 < recursionLimit) (hun : A.units + 30 < cLine)
  {x : Str} {t1 : Tok}
  (ok : escOK c14nT x = true)
  (ret : ∀ h' tk' tv, Fr h₀ L h' m → News h₀ L h' news → R (.ok (.ret (.str (escL c14nT x) tv))) { s with heap := h', toks := tk' }) :
  codeAny (model PySem.Challenge.rw_xn0027_01.row.prog w) A (.call (.ref 320) ⟨[.str x t1], []⟩) R s := by
  obtain ⟨hdl, dp, fr, gd, un⟩ := A
  dsimp only at hA hh hroom hun
  subst hA hh
  revert X; k_fill; intro X
  (refine' code_def (binds := [(Str.ofString "text", .str x t1)]) ?zqk1 ?zqk2 ?zqk3 ?zqk4 ?zqk5 ?zqkA ?zqkF ?zqkK ?zqk6 ?zqk7 ?zqk8 ?zqk9 ?zqkB ?_ ?zqc2 ?zqc3 ?zqc4 ?zqc5; walk_at "M:enter"; k_whole)
  intro g' L' h' FG' F' N' B' X' T'; (try dsimp only); (try k_lift B'); (try k_fold)
  unfold c14nT at ok ret
  dsimp only [escL] at ret
  k_steps
  · with_reducible rename Fr h₀ L _ _ => F6
    with_reducible rename News h₀ L _ _ => N6
    exact ret _ _ _ F6 N6
  all_goals (try dsimp only)
  all_goals first
    | exact EscJ.no (by with_reducible assumption) (by with_reducible assumption) (by first | with_reducible assumption | exact rfl) (by with_reducible assumption)
    | exact EscJ.yes (by with_reducible assumption) (by with_reducible assumption) (by exact rfl) (by with_reducible assumption)
noncomputable def ac14nT : List (Str × Str) := [(Str.ofString "&", Str.ofString "&amp;"), (Str.ofString "<", Str.ofString "&lt;"), (Str.ofString "\"", Str.ofString "&quot;"), (Str.ofString "\t", Str.ofString "&#x9;"), (Str.ofString "\n", Str.ofString "&#xA;"), (Str.ofString "\r", Str.ofString "&#xD;")]
set_option maxHeartbeats 2000000 in
theorem ac14n_ct {w : World} {mean : ExcName → Option Value} {mg mb : Str → Option Value} {A A₀ : Around} {base h₀ : Heap} {outer : List Env} {env : Env} {L : Addr} {m : Str → Option Value} {news : List (Addr × Obj)} {s : Shared} {R : Result → Shared → Prop}
  (B : Below A₀ base outer h₀) (F : Fr h₀ L s.heap m) (X : (hd.heap_39 w.params).In h₀) (N : News h₀ L s.heap news) (T : Top hd.view_39 loose mean mg mb h₀) (hA : A.frames = some (env :: outer)) (hf : env.frame = some L) (hke : env.scope.kind = .function) (hh : A.handled = none) (hroom : A.depth + 4 < recursionLimit) (hun : A.units + 30 < cLine)
  {x : Str} {t1 : Tok}
  (ok : escOK ac14nT x = true)
  (ret : ∀ h' tk' tv, Fr h₀ L h' m → News h₀ L h' news → R (.ok (.ret (.str (escL ac14nT x) tv))) { s with heap := h', toks := tk' }) :
  codeAny (model PySem.Challenge.rw_xn0027_01.row.prog w) A (.call (.ref 327) ⟨[.str x t1], []⟩) R s := by
  obtain ⟨hdl, dp, fr, gd, un⟩ := A
  dsimp only at hA hh hroom hun
  subst hA hh
  revert X; k_fill; intro X
  (refine' code_def (binds := [(Str.ofString "text", .str x t1)]) ?zqk1 ?zqk2 ?zqk3 ?zqk4 ?zqk5 ?zqkA ?zqkF ?zqkK ?zqk6 ?zqk7 ?zqk8 ?zqk9 ?zqkB ?_ ?zqc2 ?zqc3 ?zqc4 ?zqc5; walk_at "M:enter"; k_whole)
  intro g' L' h' FG' F' N' B' X' T'; (try dsimp only); (try k_lift B'); (try k_fold)
  unfold ac14nT at ok ret
  dsimp only [escL] at ret
  k_steps
  · with_reducible rename Fr h₀ L _ _ => F6
    with_reducible rename News h₀ L _ _ => N6
    exact ret _ _ _ F6 N6
  all_goals (try dsimp only)
  all_goals first
    | exact EscJ.no (by with_reducible assumption) (by with_reducible assumption) (by first | with_reducible assumption | exact rfl) (by with_reducible assumption)
    | exact EscJ.yes (by with_reducible assumption) (by with_reducible assumption) (by exact rfl) (by with_reducible assumption)
section
variable {prog : Program} {w : World} {A₀ A : Around} {s : Shared} {base h₀ : Heap} {env : Env} {L : Addr} {m : Str → Option Value} {news : List (Addr × Obj)} {K : Frag} {p : Program} {loose : List Str} {mean : ExcName → Option Value} {mg mb : Str → Option Value}
    {R : Result → Shared → Prop} {name qual : Str} {params : Arguments} {body : List Stmt} {scope : Scope} {dV kV doc pm cdv ct oc : Value} {an od : Option Addr} {osl : Array (Option Value)} {f : Addr} {args : Args} {binds : List (Str × Value)}
theorem lines14 : True := by
  k_with_none
  (k_with "M:enter" => (
  (case zqkA => exact rfl); (case zqkF => assumption); (case zqkK => assumption); (case zqk1 => k_asm); (case zqk2 => k_asm); (case zqk3 => k_asm); (case zqk4 => k_asm); (case zqk5 => k_asm); (case zqk6 => k_is); (case zqk7 => k_is); (case zqk8 => k_room); (case zqk9 => first | exact BindsTo.of_eq rfl | exact binds_K (by k_in) rfl (by k_is) rfl rfl rfl); (case zqc5 => decide); (case zqkB => exact locs rfl); (case zqc2 => exact rfl); (case zqc3 => exact rfl); (case zqc4 => exact rfl)))
  (k_with "M:args" => (
  (case zqcB => k_asm); (case zqcF => k_asm); (case zqcX => k_asm); (case zqcN => k_asm); (case zqcT => k_asm); (case zqcA => exact rfl); (case zqcf => first | exact rfl | assumption); (case zqck => first | exact rfl | assumption); (case zqch => exact rfl); (case zqcr => k_room); (case zqcu => k_units)))
  (k_with "M:pat" => first | exact pat_name (by k_in) | exact pat_value (by k_in))
  (k_with "getMethod ref" => (k_here; (with_reducible show wpAny _ _ (getMethod (Value.ref _) (Str.ofString "search") _) _ _ _); k_dflt (refine' method_search (code := ?zqcd) ?zqP ?_; (case zqP => walk_at "M:pat"); k_whole)))
  (k_with "call builtin:re.Pattern.search" => (k_here; k_dflt (refine' call_search (code := ?zqcd) ?zqP ?zqC ?zqX ?zqL ?_; (case zqP => walk_at "M:pat"); (case zqC => first | exact .inl rfl | exact .inr rfl); (case zqX => assumption); (case zqL => assumption); k_whole)))
  (k_with "exec For" => (k_here; k_dflt (refine For_hold ?_)))
  (k_with "call builtin:str.lower" => (k_here; (with_reducible show wpAny _ _ (call (Value.builtin "str.lower") [Value.str _ _]) _ _ _); (refine SCL.lower (by omega) ?_; intro _)))
  (k_with "eval Name" => (k_here; (with_reducible show wpAny _ _ (eval _ (envOf _ _ _ _ _)) _ _ _); k_dflt (refine' ld ?zqk1 ?zqk2 ?_; (case zqk1 => k_asm); (case zqk2 => first | with_reducible assumption | ((try simp only []); assumption)); k_whole)))
  (k_with "assign Tuple" => (k_here; k_dflt (refine' assign_pair ?zqk0 ?zqk1 ?zqk2 ?zqk3 ?_ ?zqk4 ?zqk5 ?zqk6; (case zqk0 => exact rfl); (case zqk1 => k_asm); (case zqk2 => k_asm); (case zqk3 => k_mem); (case zqk4 => exact rfl); (case zqk5 => exact rfl); (case zqk6 => exact rfl); k_whole); intro h' tk' F' N'; (try k_sweep)))
  (k_with "call ref" => (k_here; (with_reducible show wpAny _ _ (call (Value.ref _) [_, Value.str _ _] _) _ _ _); k_dflt (refine wpAny_call ?_; (first | refine' conv_true ?zqcB ?zqcF ?zqcX ?zqcN ?zqcT ?zqcA ?zqcf ?zqck ?zqch ?zqcr ?zqcu ?zqx ?zql ?_ | refine' conv_false ?zqcB ?zqcF ?zqcX ?zqcN ?zqcT ?zqcA ?zqcf ?zqck ?zqch ?zqcr ?zqcu ?zqx ?zql ?_); walk_at "M:args"; (case zqx => assumption); (case zql => assumption); k_whole); intro h' tk' F' N'; (try dsimp only); (try k_sweep)))
  (k_with "storeName" => (k_here; (with_reducible show wpAny _ _ (storeName (envOfC _ _ _ _ _) _ _) _ _ _); k_dflt (refine' storeX_C ?zqF ?zqN ?zqc ?zqU ?zqd ?_ ?zqa ?zqb; (case zqa => rfl); (case zqb => rfl); (case zqF => k_asm); (case zqN => k_asm); (case zqc => rfl); (case zqU => k_updF); (case zqd => assumption); k_whole); intro h' o' F' N' d'; (try dsimp only at N'); (try k_sweep)))
  (k_with "eval ListComp" => (k_here; refine Hold.out ?_))
  (k_with "exec Assign cons ListComp" => (k_here; refine Hold.out ?_))
  (k_with "exec While" => (k_here; refine Hold.out ?_))
  (k_with "M:enterC" => (
  (case zqkA => exact rfl); (case zqkF => assumption); (case zqkK => assumption); (case zqk1 => k_asm); (case zqk2 => k_asm); (case zqk3 => k_asm); (case zqk4 => k_asm); (case zqk5 => k_asm); (case zqk6 => k_is); (case zqk7 => k_is); (case zqk8 => k_room); (case zqk9 => first | exact BindsTo.of_eq rfl | exact binds_K (by k_in) rfl (by k_is) rfl rfl rfl); (case zqkB => exact rfl); (case zqkD => decide +kernel); (case zqc2 => exact rfl); (case zqc3 => exact rfl); (case zqc4 => exact rfl)))
  (k_with "M:tab" => first | with_reducible assumption | (refine TabIn.cons ?_; walk_at "M:tab"))
  (k_with "call ref" => (k_here; (with_reducible show wpAny _ _ (call (Value.ref _) [_, Value.str _ _]) _ _ _); k_dflt (refine wpAny_call ?_; refine' del_ct ?zqcB ?zqcF ?zqcX ?zqcN ?zqcT ?zqcA ?zqcf ?zqck ?zqch ?zqcr ?zqcu ?zqt ?zql ?zqn1 ?zqn2 ?zqn3 ?_; walk_at "M:args"; (case zqt => walk_at "M:tab"); (case zql => assumption); (case zqn1 => assumption); (case zqn2 => assumption); (case zqn3 => assumption); k_whole); intro h' tk' news' vs' ln' F' N' U' TI'; (have hI' := TabIn.inst TI'); (have hD' := TabIn.dict TI'); (have hL' := TabIn.list TI'); (try dsimp only); (try k_sweep)))
  (k_with "delItem ref" => (k_here; (with_reducible show wpAny _ _ (delItem (Value.ref _) _) _ _ _); k_dflt (refine' own_delItem ?zqF ?zqX ?zqI ?zqhQ ?zqhS ?zqhF ?_; (case zqF => k_asm); (case zqX => k_asm); (case zqI => k_inst); (case zqhS => k_is); (case zqhF => k_is); (case zqhQ => k_is); k_whole)))
  (k_with "call builtin:list.append" => (k_here; k_dflt (refine' append_P ?zqf ?zqn ?zql ?zqz ?_; (case zqf => k_asm); (case zqn => k_asm); (case zql => k_mem); (case zqz => assumption); k_whole); intro h' F' N'; (try k_sweep)))
  (k_with "M:wish" => first | with_reducible assumption | (refine wishesIn.cons ?_; walk_at "M:wish"))
  (k_with "M:n1" => first | with_reducible assumption | (with_reducible first | exact Cfg.len (by assumption) _ | exact Cfg.ulen (by assumption) _ | exact Cfg.cl (by assumption) _ | exact Cfg.clu (by assumption) _ | exact Cfg.cll (by assumption) _ | exact Cfg.cllu (by assumption) _ | exact Cfg.sz (by assumption) _ | exact Cfg.szu (by assumption) _ | exact Cfg.szl (by assumption) _ | exact Cfg.szlu (by assumption) _ | exact Cfg.kcl (by assumption) _ (by assumption) | exact Cfg.ksz (by assumption) _ (by assumption)))
  (k_with "subscriptTail" => (k_here; (with_reducible show wpAny _ _ (subscriptTail _ _ (Value.ref _) (Value.str _ _)) _ _ _); k_dflt (refine' wish_item ?zqN ?zqW ?zqK ?_; (case zqN => k_asm); (case zqW => walk_at "M:wish"); (case zqK => assumption); k_whole); intro _; (try k_sweep)))
  (k_with "subscriptTail" => (k_here; (with_reducible show wpAny _ _ (subscriptTail _ _ (Value.ref _) (Value.int (Nat.cast _) _)) _ _ _); k_dflt (refine' name_item ?zqN ?zqM ?zqS ?zqP ?zqF ?_; (case zqN => k_asm); (case zqS => assumption); (case zqM => k_mem); (case zqP => assumption); (case zqF => assumption); k_whole); intro _; (try k_sweep)))
  (k_with "call ref" => (k_here; (with_reducible show wpAny _ _ (call (Value.ref _) [_, Value.str _ _]) _ _ _); k_dflt (refine wpAny_call ?_; refine' get_ct ?zqcB ?zqcF ?zqcX ?zqcN ?zqcT ?zqcA ?zqcf ?zqck ?zqch ?zqcr ?zqcu ?zqt ?zqn1 ?zqn2 ?zqn3 ?_ ?_; walk_at "M:args"; (case zqt => walk_at "M:tab"); (case zqn1 => walk_at "M:n1"); (case zqn2 => walk_at "M:n1"); (case zqn3 => walk_at "M:n1"); k_whole); (intro v' tv' h' tk' hlk' F' N'; (try have hgd' := look_good (St.good (by assumption)) hlk'); (try dsimp only); (try k_sweep)); rotate_left; (intro h' tk' hlk' F' N'; (try dsimp only); (try k_sweep))))
  (k_with "call ref" => (k_here; (with_reducible show wpAny _ _ (call (Value.ref _) [_, Value.str _ _, Value.str _ _]) _ _ _); k_dflt (refine wpAny_call ?_; refine' set_ct ?zqcB ?zqcF ?zqcX ?zqcN ?zqcT ?zqcA ?zqcf ?zqck ?zqch ?zqcr ?zqcu ?zqt ?zql ?zqn1 ?zqn2 ?zqn3 ?zqn4 ?zqn5 ?zqn6 ?zqn7 ?_; walk_at "M:args"; (case zqt => walk_at "M:tab"); (case zql => assumption); (case zqn1 => walk_at "M:n1"); (case zqn2 => walk_at "M:n1"); (case zqn3 => walk_at "M:n1"); (case zqn4 => walk_at "M:n1"); (case zqn5 => walk_at "M:n1"); (case zqn6 => walk_at "M:n1"); (case zqn7 => walk_at "M:n1"); k_whole); intro h' tk' news' vs' ln' F' N' U' TI'; (have hI' := TabIn.inst TI'); (have hD' := TabIn.dict TI'); (have hL' := TabIn.list TI'); (try dsimp only); (try k_sweep)))
  (k_with "call builtin:str.upper" => (k_here; (with_reducible show wpAny _ _ (call (Value.builtin "str.upper") [Value.str _ _]) _ _ _); (refine SCL.upper (by with_reducible assumption) ?_; intro _)))
  (k_with "subscriptTail" => (k_here; (with_reducible show wpAny _ _ (subscriptTail _ (Expr.Slice none (some _) none _) (Value.str _ _) (Value.ref _)) _ _ _); (with_reducible rename Fr _ _ _ _ => F'); (with_reducible rename News _ _ _ _ => N'); (refine slice_strN_ns (hsz := ?zqhsz) (s := ⟨_, _, _, _, _⟩) F' N' ?_); (case zqhsz => assumption); intro _ _ _ _ _))
  (k_with "M:st" => first | with_reducible assumption | (refine St.cons ?_; walk_at "M:st"))
  (k_with "call ref" => (k_here; (with_reducible show wpAny _ _ (call (Value.ref _) [_, Value.str _ _, Value.str _ _]) _ _ _); k_dflt (refine wpAny_call ?_; refine' lay_ct ?zqcB ?zqcF ?zqcX ?zqcN ?zqcT ?zqcA ?zqcf ?zqck ?zqch ?zqcr ?zqcu ?zqt ?zql ?zqk ?_; walk_at "M:args"; (case zqt => walk_at "M:st"); (case zql => omega); (case zqk => assumption); k_whole); intro h' tk' news' vs' ln' F' N' U' S'; (have hI' := S'.tab.inst); (have hD' := S'.tab.dict); (have hL' := S'.tab.list); (have hTI' := S'.tab); (have hnam' := S'.nam); (have hwsh' := S'.wsh); (try dsimp only); (try k_sweep)))
  (k_with "call ref" => (k_here; (with_reducible show wpAny _ _ (call (Value.ref _) [Value.int _ _, Value.ref _, Value.int _ _, Value.str _ _, Value.str _ _]) _ _ _); k_dflt (refine wpAny_call ?_; refine' before_ct ?zqcB ?zqcF ?zqcX ?zqcN ?zqcT ?zqcA ?zqcf ?zqck ?zqch ?zqcr ?zqcu ?zqz ?zqp ?zqW ?zqk1 ?zqk2 ?_; walk_at "M:args"; (case zqz => omega); (case zqp => omega); (case zqW => walk_at "M:wish"); (case zqk1 => assumption); (case zqk2 => assumption); k_whole); intro h' tk' F' N'; (try dsimp only); (try k_sweep)))
  (k_with "call builtin:len" => (k_here; k_dflt (refine' len_strsA ?zql ?zqi ?zqf ?_; (case zqi => assumption); (case zql => exact News.isList (by k_asm) (by k_mem)); (case zqf => omega); k_whole)))
  (k_with "call ref" => (k_here; (with_reducible show wpAny _ _ (call (Value.ref _) [_, Value.str _ _]) _ _ _); k_dflt (refine wpAny_call ?_; refine' del2_ct ?zqcB ?zqcF ?zqcX ?zqcN ?zqcT ?zqcA ?zqcf ?zqck ?zqch ?zqcr ?zqcu ?zqt ?zql ?zqn1 ?zqn2 ?zqn3 ?_; walk_at "M:args"; (case zqt => walk_at "M:st"); (case zql => omega); (case zqn1 => walk_at "M:n1"); (case zqn2 => walk_at "M:n1"); (case zqn3 => walk_at "M:n1"); k_whole); intro h' tk' news' vs' ln' F' N' U' S'; (have hI' := S'.tab.inst); (have hD' := S'.tab.dict); (have hL' := S'.tab.list); (have hTI' := S'.tab); (have hnam' := S'.nam); (have hwsh' := S'.wsh); (try dsimp only); (try k_sweep)))
  (k_with "binaryOp Mod int int" => (k_here; (with_reducible show wpAny _ _ (binaryOp Operator.Mod (Value.int (HAdd.hAdd (Nat.cast _) _) _) (Value.int (Nat.cast _) _)) _ _ _); k_dflt (refine mod_nxt (by assumption) ?_; intro _)))
  (k_with "M:st" => with_reducible first | assumption | exact St.cons (by assumption) | exact St.cons (St.cons (by assumption)) | exact St.cons (St.cons (St.cons (by assumption))) | exact St.cons (St.cons (St.cons (St.cons (by assumption)))))
  (k_with "M:tab" => with_reducible first | assumption | exact TabIn.cons (by assumption) | exact TabIn.cons (TabIn.cons (by assumption)) | exact TabIn.cons (TabIn.cons (TabIn.cons (by assumption))) | exact TabIn.cons (TabIn.cons (TabIn.cons (TabIn.cons (by assumption)))))
  (k_with "M:wish" => with_reducible first | assumption | exact wishesIn.cons (by assumption) | exact wishesIn.cons (wishesIn.cons (by assumption)) | exact wishesIn.cons (wishesIn.cons (wishesIn.cons (by assumption))) | exact wishesIn.cons (wishesIn.cons (wishesIn.cons (wishesIn.cons (by assumption)))))
  (k_with "call builtin:len" => (k_here; k_dflt (refine' len_ys ?zql ?zqi ?zqk ?zqf ?_; (case zql => k_asm); (case zqi => k_mem); (case zqk => assumption); (case zqf => omega); k_whole)))
  (k_with "subscriptTail" => (k_here; (with_reducible show wpAny _ _ (subscriptTail _ _ (Value.ref _) (Value.str _ _)) _ _ _); k_dflt (refine' wish_itemN ?zqN ?zqW ?zqK ?zqZ ?_; (case zqN => k_asm); (case zqW => walk_at "M:wish"); (case zqK => assumption); (case zqZ => assumption); k_whole); intro _; (try k_sweep)))
  (k_with "call ref" => (k_here; (with_reducible show wpAny _ _ (call (Value.ref _) _) _ _ _); k_dflt (refine wpAny_call ?_; refine' keys_ct ?zqcB ?zqcF ?zqcX ?zqcN ?zqcT ?zqcA ?zqcf ?zqck ?zqch ?zqcr ?zqcu ?zqt ?zql ?_; walk_at "M:args"; (case zqt => walk_at "M:tab"); (case zql => omega); k_whole); intro h' tk' D' ys' hys' F' N' off'; (try dsimp only); (try k_sweep)))
  (k_with "call ref" => (k_here; (with_reducible show wpAny _ _ (call (Value.ref _) [Value.ref _, Value.ref _, Value.ref _, Value.int _ _]) _ _ _); k_dflt (refine wpAny_call ?_; refine' take_ct ?zqcB ?zqcF ?zqcX ?zqcN ?zqcT ?zqcA ?zqcf ?zqck ?zqch ?zqcr ?zqcu ?zqt ?zqp ?zql ?zqe ?_; walk_at "M:args"; (case zqt => walk_at "M:st"); (case zqe => first | with_reducible assumption | exact DeedS.take (by with_reducible assumption) (by assumption)); (case zqp => assumption); (case zql => omega); k_whole); intro h' tk' news' vs' ln' F' N' U' S'; (have hI' := S'.tab.inst); (have hD' := S'.tab.dict); (have hL' := S'.tab.list); (have hTI' := S'.tab); (have hnam' := S'.nam); (have hwsh' := S'.wsh); (try dsimp only); (try k_sweep)))
  (k_with "call ref" => (k_here; (with_reducible show wpAny _ _ (call (Value.ref _) [Value.ref _, Value.ref _, Value.ref _, Value.int _ _, Value.str _ _]) _ _ _); k_dflt (refine wpAny_call ?_; refine' put_ct ?zqcB ?zqcF ?zqcX ?zqcN ?zqcT ?zqcA ?zqcf ?zqck ?zqch ?zqcr ?zqcu ?zqt ?zqp ?zql ?zqk ?zqe ?_; walk_at "M:args"; (case zqt => walk_at "M:st"); (case zqe => first | with_reducible assumption | exact DeedN.put (by with_reducible assumption) (by omega) | exact DeedS.put (by with_reducible assumption) (by assumption) (by omega)); (case zqp => assumption); (case zql => omega); (case zqk => assumption); k_whole); intro h' tk' news' vs' ln' F' N' U' S'; (have hI' := S'.tab.inst); (have hD' := S'.tab.dict); (have hL' := S'.tab.list); (have hTI' := S'.tab); (have hnam' := S'.nam); (have hwsh' := S'.wsh); (try dsimp only); (try k_sweep)))
  (k_with "getMethod ref" => (k_here; (with_reducible show wpAny _ _ (getMethod (Value.ref _) (PySem.Str.ofString "count") _) _ _ _); k_dflt (refine' kl_method ?zqN ?zqm PySem.F.slot_list_count PySem.F.type_list_count ?_; (case zqN => k_asm); (case zqm => k_mem))))
  (k_with "call builtin:list.count" => (k_here; (with_reducible show wpAny _ _ (call (Value.builtin _) [Value.ref _, Value.int _ _]) _ _ _); k_dflt (refine' count_list_ints ?zql ?zqi ?_; (case zqi => assumption); (case zql => exact News.isList (by k_asm) (by k_mem)); k_whole)))
  (k_with "exec For Name Call cons nil" => (k_here; k_dflt (refine For_hold ?_)))
  (k_with "call builtin:len" => (k_here; k_dflt (refine' len_nms ?zqn ?zqm ?zqi ?zqf ?_; (case zqn => k_asm); (case zqm => k_mem); (case zqi => assumption); (case zqf => assumption); k_whole)))
  (k_with "eval Name" => (k_here; (with_reducible show wpAny _ _ (eval _ (envOfC _ _ _ _ _)) _ _ _); k_dflt (refine' nameX_L ?zqF ?zqv ?_ ?zqa ?zqb; (case zqa => rfl); (case zqb => rfl); (case zqF => k_asm); (case zqv => first | with_reducible assumption | ((try simp only []); assumption)); k_whole)))
  (k_with "subscriptTail" => (k_here; (with_reducible show wpAny _ _ (subscriptTail _ _ (Value.ref _) (Value.int (Int.fmod _ _) _)) _ _ _); k_dflt (refine' name_itemZ ?zqN ?zqM ?zqS ?zqP ?zqF ?_; (case zqN => k_asm); (case zqS => assumption); (case zqM => k_mem); (case zqP => assumption); (case zqF => assumption); k_whole); intro _; (try k_sweep)))
  (k_with "call builtin:str.upper" => (k_here; (with_reducible show wpAny _ _ (call (Value.builtin "str.upper") [Value.str _ _]) _ _ _); (refine SCL.upper (by first | with_reducible assumption | exact Nat.le_trans (Nat.le_of_lt (Cfg.len (by assumption) _)) (by decide)) ?_; intro _)))
  (k_with "M:wish" => first | with_reducible assumption | exact wishesIn.mono (by with_reducible assumption) (fun _ hp' => by k_mem))
  (k_with "call ref" => (k_here; (with_reducible show wpAny _ _ (call (Value.ref _) [Value.ref _, Value.int _ _, Value.int _ _]) _ _ _); k_dflt (refine wpAny_call ?_; refine' excess_ct ?zqcB ?zqcF ?zqcX ?zqcN ?zqcT ?zqcA ?zqcf ?zqck ?zqch ?zqcr ?zqcu ?zqm ?zqi ?zqz0 ?zqz1 ?zqzl ?_; walk_at "M:args"; (case zqm => k_mem); (case zqi => assumption); (case zqz0 => omega); (case zqz1 => omega); (case zqzl => assumption); k_whole); intro h' tk' t' F' N'; (try dsimp only); (try k_sweep)))
  (k_with "M:sh" => first | with_reducible assumption | with_reducible exact letF_sh _ | with_reducible exact charF_sh _ | with_reducible exact sign_sh _ | with_reducible exact lit_sh _ (by decide +kernel))
  (k_with "binaryOp Add str str" => (k_here; (with_reducible show wpAny _ _ (binaryOp Operator.Add (Value.str _ _) (Value.str _ _)) _ _ _); k_dflt (refine' str_add ?zqha ?zqhb ?zqhc ?_; (case zqha => walk_at "M:sh"); (case zqhb => walk_at "M:sh"); (case zqhc => decide); k_whole); intro t' k' htk' hsh'; (try dsimp only at htk')))
  (k_with "call builtin:str.replace" => (k_here; (with_reducible show wpAny _ _ (call (Value.builtin _) [Value.str _ _, Value.str _ _, Value.str _ _]) _ _ _); k_dflt (refine' str_rep ?zqha ?zqhb ?zqhc ?zqhu ?zqhv ?zqhuv ?zqhyz ?_; (case zqha => walk_at "M:sh"); (case zqhb => walk_at "M:sh"); (case zqhc => decide); (case zqhu => ((try dsimp only); omega)); (case zqhv => ((try dsimp only); omega)); (case zqhuv => ((try dsimp only); omega)); (case zqhyz => decide +kernel); k_whole); intro t' k'))
  (k_with "subscriptTail" => (k_here; (with_reducible show wpAny _ _ (subscriptTail _ _ (Value.ref _) (Value.int (Int.fmod _ _) _)) _ _ _); k_dflt (refine' sign_item ?zqN ?zqM ?zqS ?_; (case zqN => k_asm); (case zqM => k_mem); (case zqS => exact .cons _ _ (.cons _ _ (.cons _ _ (.cons _ _ (.cons _ _ (.cons _ _ (.cons _ _ .nil))))))); k_whole); intro _; (try k_sweep)))
  (k_with "subscriptTail" => (k_here; (with_reducible show wpAny _ _ (subscriptTail _ _ (Value.str (Str.ofString "Bab") _) (Value.int (Int.fmod (Int.fdiv _ _) _) _)) _ _ _); k_dflt (refine bab_item ?_)))
  (k_with "subscriptTail" => (k_here; (with_reducible show wpAny _ _ (subscriptTail _ _ (Value.str (Str.ofString "&\r<\n>\t\"") _) (Value.int (Int.fmod _ _) _)) _ _ _); k_dflt (refine char_item ?_)))
  (k_with "M:sh" => with_reducible exact item_sh _ _)
  (k_with "binaryOp Add str str" => (k_here; (with_reducible show wpAny _ _ (binaryOp Operator.Add (Value.str _ _) (Value.str _ _)) _ _ _); k_dflt (refine' str_add ?zqha ?zqhb ?zqhc ?_; (case zqha => walk_at "M:sh"); (case zqhb => walk_at "M:sh"); (case zqhc => first | decide | omega); k_whole); intro t' k' htk' hsh'; (try dsimp only at htk')))
  (k_with "subscriptTail" => (k_here; (with_reducible show wpAny _ _ (subscriptTail _ _ (Value.str _ _) (Value.int _ _)) _ _ _); k_dflt (refine' str_itemZ ?zqha ?zqhb ?zqhc ?_; (case zqha => with_reducible assumption); (case zqhb => omega); (case zqhc => omega); k_whole)))
  trivial
theorem freshW16 : True := by
  try row_walk
  trivial
/-- the ground of a def that catches, called by the outermost frame -/
theorem cat_ground (B : Below A₀ base [] h₀) (F : Fr h₀ L s.heap m) (N : News h₀ L s.heap news) (hA : A.frames = some [env]) (hf : env.frame = some L) (hke : env.scope.kind = .function) :
    ∃ o es n, (hideAll s.heap (news.map (·.1))).get? L = some o ∧ o.data = .dict es n ∧ (∀ (sl : Array (Option Value)) h', h'.get? L = some { o with slots := sl } → Heap.Ns h' L m) ∧ h₀.StaysIn (hideAll s.heap (news.map (·.1))) ∧ Below A base [env] (hideAll s.heap (news.map (·.1))) := by
  obtain ⟨o, es, n, h1, h2, h3, h4⟩ := F.ns
  have hL : L ∉ news.map (·.1) := by
    intro q
    obtain ⟨x, hx, e⟩ := List.mem_map.mp q
    exact (N x hx).2.1 e
  have keep : h₀.StaysIn (hideAll s.heap (news.map (·.1))) := by
    intro b o' e
    refine hideAll_get _ (F.keep b o' e) fun q => ?_
    obtain ⟨x, hx, rfl⟩ := List.mem_map.mp q
    rw [(N x hx).2.2] at e; cases e
  have hg := hideAll_get _ h1 hL
  have hb : base.get? L = none := by
    cases q : base.get? L with
    | none => rfl
    | some o' => exact absurd (Nat.lt_of_lt_of_le (Heap.lt_size (B.stays L o' q)) F.above) (Nat.lt_irrefl _)
  exact ⟨o, es, n, hg, h2, fun sl h' e => ⟨_, es, n, e, h2, h3, h4⟩, keep, hA, fun b o' e => keep b o' (B.stays b o' e), by rw [hke]; decide, ⟨L, o, hf, hb, hg, fun vs q => by rw [h2] at q; cases q⟩, trivial⟩
theorem cat_def (B : Below A₀ base [] h₀) (F : Fr h₀ L s.heap m) (X₀ : K.In h₀) (N : News h₀ L s.heap news) (T : Top p loose mean mg mb h₀) (hA : A.frames = some [env]) (hf : env.frame = some L) (hke : env.scope.kind = .function)
    (ho : K.lookup f = some ⟨oc, od, .func (fnOf name qual params body scope dV kV doc pm an cdv ct), osl⟩) (hcd : codeIn K cdv qual = true) (hroom : A.depth < recursionLimit)
    (hbind : BindsTo s (fnOf name qual params body scope dV kV doc pm an cdv ct) args binds) (hloc : ∀ y ∈ binds, scope.names.lookup y.1 = some .local)
    (h : ∀ g L' h₁, Fr h₀ L g m → Fr g L' h₁ (fun y => binds.reverse.lookup y) → News g L' h₁ news → Below A base [env] g → K.In g → Top p loose mean mg mb g → KtsDicts ([env].filterMap (·.frame)) g →
      wpAny (model prog w) (A.deeper (envOf qual scope L' f cdv)) (execs body (envOf qual scope L' f cdv))
        (fun fl s' => LeaveS0 ([env].filterMap (·.frame)) h₀ L m g R (match fl with | .ret v => v | _ => .none) s')
        (fun e s' => wpAny (model prog w) (A.deeper (envOf qual scope L' f cdv)) (leaving (envOf qual scope L' f cdv) e) (fun _ s'' => R (.error e) s'') (fun e' s'' => R (.error e') s'') s')
        { s with heap := h₁, toks := s.toks + binds.length })
    (hco : scope.isCoroutine = false) (hgen : scope.isGenerator = false) (hk : scope.kind = .function)
    (hcell : ∀ x ∈ scope.names, x.2 ≠ .cell) : codeAny (model prog w) A (.call (.ref f) args) R s := by
  obtain ⟨o, es, n, hg, hd, hns, keep, B'⟩ := cat_ground B F N hA hf hke
  have hfs : [env].filterMap (·.frame) = [L] := by simp [hf]
  have hX := X₀.keeps F.keep
  refine codeAny_call_def hroom (hX _ _ ho) rfl (T.nolimit.keeps F.keep) (codeRec_of hX hcd) rfl hbind hcell hloc ?_ hco hgen hk
  intro h₁ e1 e2
  refine wpAny_mono (h _ s.heap.objs.size h₁ ⟨?_, keep, F.above⟩ ⟨e1, fun b o' e => e2 b o' (of_hideAll _ e), by rw [hideAll_size]; exact Nat.le_refl _⟩ ?_ B' (X₀.keeps keep) (T.keeps keep) ?_) ?_ fun _ _ y => y
  · have := hns o.slots _ hg
    exact this
  · intro x hx
    exact ⟨e2 _ _ (N x hx).1, Nat.ne_of_lt (Heap.lt_size (N x hx).1), hideAll_none _ (List.mem_map_of_mem hx)⟩
  · intro b hb
    rw [hfs] at hb
    rw [List.mem_singleton.mp hb]
    exact ⟨o, es, n, hg, hd⟩
  · rintro fl s' ⟨g', L', m', news', TT, F', N', k⟩
    rw [hfs] at TT
    have none0 : ∀ b, g'.get? b = none → h₀.get? b = none := by
      intro b q
      cases e : h₀.get? b with
      | none => rfl
      | some o' =>
        obtain ⟨sl, hs⟩ := TT.up (keep _ _ e)
        rw [hs] at q; cases q
    obtain ⟨sl, hs⟩ := TT.up hg
    have hL0 : h₀.get? L = none := kts_self F
    refine k ⟨hns sl _ (F'.keep _ _ hs), ?_, F.above⟩ fun x hx => ⟨(N' x hx).1, ?_, none0 _ (N' x hx).2.2⟩
    · intro b o' e
      refine F'.keep _ _ (TT.other _ _ (keep _ _ e) fun q => ?_)
      rw [List.mem_singleton.mp q, hL0] at e; cases e
    · intro q
      have z := (N' x hx).2.2
      rw [q, hs] at z; cases z
end
theorem lines15 : True := by
  (k_with "call ref" => (k_here; (with_reducible show wpAny _ _ (call (Value.ref 306) [Value.str _ _]) _ _ _); k_dflt (refine wpAny_call ?_; refine' attrib_ct ?zqcB ?zqcF ?zqcX ?zqcN ?zqcT ?zqcA ?zqcf ?zqck ?zqch ?zqcr ?zqcu ?zqok ?_; walk_at "M:args"; (case zqok => assumption); k_whole); intro h' tk' tv' F' N'; (try dsimp only); (try k_sweep)))
  (k_with "call ref" => (k_here; (with_reducible show wpAny _ _ (call (Value.ref 207) [Value.str _ _]) _ _ _); k_dflt (refine wpAny_call ?_; refine' parse_ct ?zqcB ?zqcF ?zqcX ?zqcN ?zqcT ?zqcA ?zqcf ?zqck ?zqch ?zqcr ?zqcu ?zql ?zqg ?_; walk_at "M:args"; (case zql => assumption); (case zqg => assumption); k_whole); intro h' tk' tv' F' N'; (try dsimp only); (try k_sweep)))
  trivial
set_option maxHeartbeats 2000000 in
theorem toldA_ct {w : World} {mean : ExcName → Option Value} {mg mb : Str → Option Value} {A A₀ : Around} {base h₀ : Heap} {outer : List Env} {env : Env} {L : Addr} {m : Str → Option Value} {news : List (Addr × Obj)} {s : Shared} {R : Result → Shared → Prop}
  (B : Below A₀ base outer h₀) (F : Fr h₀ L s.heap m) (X : (hd.heap_39 w.params).In h₀) (N : News h₀ L s.heap news) (T : Top hd.view_39 loose mean mg mb h₀) (hA : A.frames = some (env :: outer)) (hf : env.frame = some L) (hke : env.scope.kind = .function) (hh : A.handled = none) (hroom : A.depth + 8 < recursionLimit) (hun : A.units + 60 < cLine)
  {x : Str} {t1 : Tok}
  (hl : x.length ≤ 60) (h1 : (Txt.slice x none (some 3) != Str.ofString "257") = false) (ok : escOK attribT (parseF x) = true)
  (ret : ∀ h' tk' tv, Fr h₀ L h' m → News h₀ L h' news → R (.ok (.ret (.str (escL attribT (parseF x)) tv))) { s with heap := h', toks := tk' }) :
  codeAny (model PySem.Challenge.rw_xn0027_01.row.prog w) A (.call (.ref 341) ⟨[.str x t1], []⟩) R s := by
  obtain ⟨hdl, dp, fr, gd, un⟩ := A
  dsimp only at hA hh hroom hun
  subst hA hh
  revert X; k_fill; intro X
  (refine' code_def (binds := [(Str.ofString "reply", .str x t1)]) ?zqk1 ?zqk2 ?zqk3 ?zqk4 ?zqk5 ?zqkA ?zqkF ?zqkK ?zqk6 ?zqk7 ?zqk8 ?zqk9 ?zqkB ?_ ?zqc2 ?zqc3 ?zqc4 ?zqc5; walk_at "M:enter"; k_whole)
  intro g' L' h' FG' F' N' B' X' T'; (try dsimp only); (try k_lift B'); (try k_fold)
  k_steps
  · with_reducible rename Fr h₀ L _ _ => F6
    with_reducible rename News h₀ L _ _ => N6
    exact ret _ _ _ F6 N6
section
open PySem.Builtin PySem.Builtin.Str PySem.Builtin.BaseException PySem.Builtin.Exceptions
variable {prog : Program} {w : World} {A : Around} {E : Value → Shared → Prop} {s : Shared} {e t0 C : Addr} {K : Frag} {o : Obj} {vs : List Value} {m : Str} {tk : Tok} {Q : Value → Shared → Prop}
theorem lines16 : True := by
  k_with_none
  (k_with "M:enter" => (
  (case zqkA => exact rfl); (case zqkF => assumption); (case zqkK => assumption); (case zqk1 => k_asm); (case zqk2 => k_asm); (case zqk3 => k_asm); (case zqk4 => k_asm); (case zqk5 => k_asm); (case zqk6 => k_is); (case zqk7 => k_is); (case zqk8 => k_room); (case zqk9 => first | exact BindsTo.of_eq rfl | exact binds_K (by k_in) rfl (by k_is) rfl rfl rfl); (case zqc5 => decide); (case zqkB => exact locs rfl); (case zqc2 => exact rfl); (case zqc3 => exact rfl); (case zqc4 => exact rfl)))
  (k_with "M:args" => (
  (case zqcB => k_asm); (case zqcF => k_asm); (case zqcX => k_asm); (case zqcN => k_asm); (case zqcT => k_asm); (case zqcA => exact rfl); (case zqcf => first | exact rfl | assumption); (case zqck => first | exact rfl | assumption); (case zqch => exact rfl); (case zqcr => k_room); (case zqcu => k_units)))
  (k_with "M:pat" => first | exact pat_name (by k_in) | exact pat_value (by k_in))
  (k_with "getMethod ref" => (k_here; (with_reducible show wpAny _ _ (getMethod (Value.ref _) (Str.ofString "search") _) _ _ _); k_dflt (refine' method_search (code := ?zqcd) ?zqP ?_; (case zqP => walk_at "M:pat"); k_whole)))
  (k_with "call builtin:re.Pattern.search" => (k_here; k_dflt (refine' call_search (code := ?zqcd) ?zqP ?zqC ?zqX ?zqL ?_; (case zqP => walk_at "M:pat"); (case zqC => first | exact .inl rfl | exact .inr rfl); (case zqX => assumption); (case zqL => assumption); k_whole)))
  (k_with "exec For" => (k_here; k_dflt (refine For_hold ?_)))
  (k_with "call builtin:str.lower" => (k_here; (with_reducible show wpAny _ _ (call (Value.builtin "str.lower") [Value.str _ _]) _ _ _); (refine SCL.lower (by omega) ?_; intro _)))
  (k_with "eval Name" => (k_here; (with_reducible show wpAny _ _ (eval _ (envOf _ _ _ _ _)) _ _ _); k_dflt (refine' ld ?zqk1 ?zqk2 ?_; (case zqk1 => k_asm); (case zqk2 => first | with_reducible assumption | ((try simp only []); assumption)); k_whole)))
  (k_with "assign Tuple" => (k_here; k_dflt (refine' assign_pair ?zqk0 ?zqk1 ?zqk2 ?zqk3 ?_ ?zqk4 ?zqk5 ?zqk6; (case zqk0 => exact rfl); (case zqk1 => k_asm); (case zqk2 => k_asm); (case zqk3 => k_mem); (case zqk4 => exact rfl); (case zqk5 => exact rfl); (case zqk6 => exact rfl); k_whole); intro h' tk' F' N'; (try k_sweep)))
  (k_with "call ref" => (k_here; (with_reducible show wpAny _ _ (call (Value.ref _) [_, Value.str _ _] _) _ _ _); k_dflt (refine wpAny_call ?_; (first | refine' conv_true ?zqcB ?zqcF ?zqcX ?zqcN ?zqcT ?zqcA ?zqcf ?zqck ?zqch ?zqcr ?zqcu ?zqx ?zql ?_ | refine' conv_false ?zqcB ?zqcF ?zqcX ?zqcN ?zqcT ?zqcA ?zqcf ?zqck ?zqch ?zqcr ?zqcu ?zqx ?zql ?_); walk_at "M:args"; (case zqx => assumption); (case zql => assumption); k_whole); intro h' tk' F' N'; (try dsimp only); (try k_sweep)))
  (k_with "storeName" => (k_here; (with_reducible show wpAny _ _ (storeName (envOfC _ _ _ _ _) _ _) _ _ _); k_dflt (refine' storeX_C ?zqF ?zqN ?zqc ?zqU ?zqd ?_ ?zqa ?zqb; (case zqa => rfl); (case zqb => rfl); (case zqF => k_asm); (case zqN => k_asm); (case zqc => rfl); (case zqU => k_updF); (case zqd => assumption); k_whole); intro h' o' F' N' d'; (try dsimp only at N'); (try k_sweep)))
  (k_with "eval ListComp" => (k_here; refine Hold.out ?_))
  (k_with "exec Assign cons ListComp" => (k_here; refine Hold.out ?_))
  (k_with "exec While" => (k_here; refine Hold.out ?_))
  (k_with "M:enterC" => (
  (case zqkA => exact rfl); (case zqkF => assumption); (case zqkK => assumption); (case zqk1 => k_asm); (case zqk2 => k_asm); (case zqk3 => k_asm); (case zqk4 => k_asm); (case zqk5 => k_asm); (case zqk6 => k_is); (case zqk7 => k_is); (case zqk8 => k_room); (case zqk9 => first | exact BindsTo.of_eq rfl | exact binds_K (by k_in) rfl (by k_is) rfl rfl rfl); (case zqkB => exact rfl); (case zqkD => decide +kernel); (case zqc2 => exact rfl); (case zqc3 => exact rfl); (case zqc4 => exact rfl)))
  (k_with "M:tab" => first | with_reducible assumption | (refine TabIn.cons ?_; walk_at "M:tab"))
  (k_with "call ref" => (k_here; (with_reducible show wpAny _ _ (call (Value.ref _) [_, Value.str _ _]) _ _ _); k_dflt (refine wpAny_call ?_; refine' del_ct ?zqcB ?zqcF ?zqcX ?zqcN ?zqcT ?zqcA ?zqcf ?zqck ?zqch ?zqcr ?zqcu ?zqt ?zql ?zqn1 ?zqn2 ?zqn3 ?_; walk_at "M:args"; (case zqt => walk_at "M:tab"); (case zql => assumption); (case zqn1 => assumption); (case zqn2 => assumption); (case zqn3 => assumption); k_whole); intro h' tk' news' vs' ln' F' N' U' TI'; (have hI' := TabIn.inst TI'); (have hD' := TabIn.dict TI'); (have hL' := TabIn.list TI'); (try dsimp only); (try k_sweep)))
  (k_with "delItem ref" => (k_here; (with_reducible show wpAny _ _ (delItem (Value.ref _) _) _ _ _); k_dflt (refine' own_delItem ?zqF ?zqX ?zqI ?zqhQ ?zqhS ?zqhF ?_; (case zqF => k_asm); (case zqX => k_asm); (case zqI => k_inst); (case zqhS => k_is); (case zqhF => k_is); (case zqhQ => k_is); k_whole)))
  (k_with "call builtin:list.append" => (k_here; k_dflt (refine' append_P ?zqf ?zqn ?zql ?zqz ?_; (case zqf => k_asm); (case zqn => k_asm); (case zql => k_mem); (case zqz => assumption); k_whole); intro h' F' N'; (try k_sweep)))
  (k_with "M:wish" => first | with_reducible assumption | (refine wishesIn.cons ?_; walk_at "M:wish"))
  (k_with "M:n1" => first | with_reducible assumption | (with_reducible first | exact Cfg.len (by assumption) _ | exact Cfg.ulen (by assumption) _ | exact Cfg.cl (by assumption) _ | exact Cfg.clu (by assumption) _ | exact Cfg.cll (by assumption) _ | exact Cfg.cllu (by assumption) _ | exact Cfg.sz (by assumption) _ | exact Cfg.szu (by assumption) _ | exact Cfg.szl (by assumption) _ | exact Cfg.szlu (by assumption) _ | exact Cfg.kcl (by assumption) _ (by assumption) | exact Cfg.ksz (by assumption) _ (by assumption)))
  (k_with "subscriptTail" => (k_here; (with_reducible show wpAny _ _ (subscriptTail _ _ (Value.ref _) (Value.str _ _)) _ _ _); k_dflt (refine' wish_item ?zqN ?zqW ?zqK ?_; (case zqN => k_asm); (case zqW => walk_at "M:wish"); (case zqK => assumption); k_whole); intro _; (try k_sweep)))
  (k_with "subscriptTail" => (k_here; (with_reducible show wpAny _ _ (subscriptTail _ _ (Value.ref _) (Value.int (Nat.cast _) _)) _ _ _); k_dflt (refine' name_item ?zqN ?zqM ?zqS ?zqP ?zqF ?_; (case zqN => k_asm); (case zqS => assumption); (case zqM => k_mem); (case zqP => assumption); (case zqF => assumption); k_whole); intro _; (try k_sweep)))
  (k_with "call ref" => (k_here; (with_reducible show wpAny _ _ (call (Value.ref _) [_, Value.str _ _]) _ _ _); k_dflt (refine wpAny_call ?_; refine' get_ct ?zqcB ?zqcF ?zqcX ?zqcN ?zqcT ?zqcA ?zqcf ?zqck ?zqch ?zqcr ?zqcu ?zqt ?zqn1 ?zqn2 ?zqn3 ?_ ?_; walk_at "M:args"; (case zqt => walk_at "M:tab"); (case zqn1 => walk_at "M:n1"); (case zqn2 => walk_at "M:n1"); (case zqn3 => walk_at "M:n1"); k_whole); (intro v' tv' h' tk' hlk' F' N'; (try have hgd' := look_good (St.good (by assumption)) hlk'); (try dsimp only); (try k_sweep)); rotate_left; (intro h' tk' hlk' F' N'; (try dsimp only); (try k_sweep))))
  (k_with "call ref" => (k_here; (with_reducible show wpAny _ _ (call (Value.ref _) [_, Value.str _ _, Value.str _ _]) _ _ _); k_dflt (refine wpAny_call ?_; refine' set_ct ?zqcB ?zqcF ?zqcX ?zqcN ?zqcT ?zqcA ?zqcf ?zqck ?zqch ?zqcr ?zqcu ?zqt ?zql ?zqn1 ?zqn2 ?zqn3 ?zqn4 ?zqn5 ?zqn6 ?zqn7 ?_; walk_at "M:args"; (case zqt => walk_at "M:tab"); (case zql => assumption); (case zqn1 => walk_at "M:n1"); (case zqn2 => walk_at "M:n1"); (case zqn3 => walk_at "M:n1"); (case zqn4 => walk_at "M:n1"); (case zqn5 => walk_at "M:n1"); (case zqn6 => walk_at "M:n1"); (case zqn7 => walk_at "M:n1"); k_whole); intro h' tk' news' vs' ln' F' N' U' TI'; (have hI' := TabIn.inst TI'); (have hD' := TabIn.dict TI'); (have hL' := TabIn.list TI'); (try dsimp only); (try k_sweep)))
  (k_with "call builtin:str.upper" => (k_here; (with_reducible show wpAny _ _ (call (Value.builtin "str.upper") [Value.str _ _]) _ _ _); (refine SCL.upper (by with_reducible assumption) ?_; intro _)))
  (k_with "subscriptTail" => (k_here; (with_reducible show wpAny _ _ (subscriptTail _ (Expr.Slice none (some _) none _) (Value.str _ _) (Value.ref _)) _ _ _); (with_reducible rename Fr _ _ _ _ => F'); (with_reducible rename News _ _ _ _ => N'); (refine slice_strN_ns (hsz := ?zqhsz) (s := ⟨_, _, _, _, _⟩) F' N' ?_); (case zqhsz => assumption); intro _ _ _ _ _))
  (k_with "M:st" => first | with_reducible assumption | (refine St.cons ?_; walk_at "M:st"))
  (k_with "call ref" => (k_here; (with_reducible show wpAny _ _ (call (Value.ref _) [_, Value.str _ _, Value.str _ _]) _ _ _); k_dflt (refine wpAny_call ?_; refine' lay_ct ?zqcB ?zqcF ?zqcX ?zqcN ?zqcT ?zqcA ?zqcf ?zqck ?zqch ?zqcr ?zqcu ?zqt ?zql ?zqk ?_; walk_at "M:args"; (case zqt => walk_at "M:st"); (case zql => omega); (case zqk => assumption); k_whole); intro h' tk' news' vs' ln' F' N' U' S'; (have hI' := S'.tab.inst); (have hD' := S'.tab.dict); (have hL' := S'.tab.list); (have hTI' := S'.tab); (have hnam' := S'.nam); (have hwsh' := S'.wsh); (try dsimp only); (try k_sweep)))
  (k_with "call ref" => (k_here; (with_reducible show wpAny _ _ (call (Value.ref _) [Value.int _ _, Value.ref _, Value.int _ _, Value.str _ _, Value.str _ _]) _ _ _); k_dflt (refine wpAny_call ?_; refine' before_ct ?zqcB ?zqcF ?zqcX ?zqcN ?zqcT ?zqcA ?zqcf ?zqck ?zqch ?zqcr ?zqcu ?zqz ?zqp ?zqW ?zqk1 ?zqk2 ?_; walk_at "M:args"; (case zqz => omega); (case zqp => omega); (case zqW => walk_at "M:wish"); (case zqk1 => assumption); (case zqk2 => assumption); k_whole); intro h' tk' F' N'; (try dsimp only); (try k_sweep)))
  (k_with "call builtin:len" => (k_here; k_dflt (refine' len_strsA ?zql ?zqi ?zqf ?_; (case zqi => assumption); (case zql => exact News.isList (by k_asm) (by k_mem)); (case zqf => omega); k_whole)))
  (k_with "call ref" => (k_here; (with_reducible show wpAny _ _ (call (Value.ref _) [_, Value.str _ _]) _ _ _); k_dflt (refine wpAny_call ?_; refine' del2_ct ?zqcB ?zqcF ?zqcX ?zqcN ?zqcT ?zqcA ?zqcf ?zqck ?zqch ?zqcr ?zqcu ?zqt ?zql ?zqn1 ?zqn2 ?zqn3 ?_; walk_at "M:args"; (case zqt => walk_at "M:st"); (case zql => omega); (case zqn1 => walk_at "M:n1"); (case zqn2 => walk_at "M:n1"); (case zqn3 => walk_at "M:n1"); k_whole); intro h' tk' news' vs' ln' F' N' U' S'; (have hI' := S'.tab.inst); (have hD' := S'.tab.dict); (have hL' := S'.tab.list); (have hTI' := S'.tab); (have hnam' := S'.nam); (have hwsh' := S'.wsh); (try dsimp only); (try k_sweep)))
  (k_with "binaryOp Mod int int" => (k_here; (with_reducible show wpAny _ _ (binaryOp Operator.Mod (Value.int (HAdd.hAdd (Nat.cast _) _) _) (Value.int (Nat.cast _) _)) _ _ _); k_dflt (refine mod_nxt (by assumption) ?_; intro _)))
  (k_with "M:st" => with_reducible first | assumption | exact St.cons (by assumption) | exact St.cons (St.cons (by assumption)) | exact St.cons (St.cons (St.cons (by assumption))) | exact St.cons (St.cons (St.cons (St.cons (by assumption)))))
  (k_with "M:tab" => with_reducible first | assumption | exact TabIn.cons (by assumption) | exact TabIn.cons (TabIn.cons (by assumption)) | exact TabIn.cons (TabIn.cons (TabIn.cons (by assumption))) | exact TabIn.cons (TabIn.cons (TabIn.cons (TabIn.cons (by assumption)))))
  (k_with "M:wish" => with_reducible first | assumption | exact wishesIn.cons (by assumption) | exact wishesIn.cons (wishesIn.cons (by assumption)) | exact wishesIn.cons (wishesIn.cons (wishesIn.cons (by assumption))) | exact wishesIn.cons (wishesIn.cons (wishesIn.cons (wishesIn.cons (by assumption)))))
  (k_with "call builtin:len" => (k_here; k_dflt (refine' len_ys ?zql ?zqi ?zqk ?zqf ?_; (case zql => k_asm); (case zqi => k_mem); (case zqk => assumption); (case zqf => omega); k_whole)))
  (k_with "subscriptTail" => (k_here; (with_reducible show wpAny _ _ (subscriptTail _ _ (Value.ref _) (Value.str _ _)) _ _ _); k_dflt (refine' wish_itemN ?zqN ?zqW ?zqK ?zqZ ?_; (case zqN => k_asm); (case zqW => walk_at "M:wish"); (case zqK => assumption); (case zqZ => assumption); k_whole); intro _; (try k_sweep)))
  (k_with "call ref" => (k_here; (with_reducible show wpAny _ _ (call (Value.ref _) _) _ _ _); k_dflt (refine wpAny_call ?_; refine' keys_ct ?zqcB ?zqcF ?zqcX ?zqcN ?zqcT ?zqcA ?zqcf ?zqck ?zqch ?zqcr ?zqcu ?zqt ?zql ?_; walk_at "M:args"; (case zqt => walk_at "M:tab"); (case zql => omega); k_whole); intro h' tk' D' ys' hys' F' N' off'; (try dsimp only); (try k_sweep)))
  (k_with "call ref" => (k_here; (with_reducible show wpAny _ _ (call (Value.ref _) [Value.ref _, Value.ref _, Value.ref _, Value.int _ _]) _ _ _); k_dflt (refine wpAny_call ?_; refine' take_ct ?zqcB ?zqcF ?zqcX ?zqcN ?zqcT ?zqcA ?zqcf ?zqck ?zqch ?zqcr ?zqcu ?zqt ?zqp ?zql ?zqe ?_; walk_at "M:args"; (case zqt => walk_at "M:st"); (case zqe => first | with_reducible assumption | exact DeedS.take (by with_reducible assumption) (by assumption)); (case zqp => assumption); (case zql => omega); k_whole); intro h' tk' news' vs' ln' F' N' U' S'; (have hI' := S'.tab.inst); (have hD' := S'.tab.dict); (have hL' := S'.tab.list); (have hTI' := S'.tab); (have hnam' := S'.nam); (have hwsh' := S'.wsh); (try dsimp only); (try k_sweep)))
  (k_with "call ref" => (k_here; (with_reducible show wpAny _ _ (call (Value.ref _) [Value.ref _, Value.ref _, Value.ref _, Value.int _ _, Value.str _ _]) _ _ _); k_dflt (refine wpAny_call ?_; refine' put_ct ?zqcB ?zqcF ?zqcX ?zqcN ?zqcT ?zqcA ?zqcf ?zqck ?zqch ?zqcr ?zqcu ?zqt ?zqp ?zql ?zqk ?zqe ?_; walk_at "M:args"; (case zqt => walk_at "M:st"); (case zqe => first | with_reducible assumption | exact DeedN.put (by with_reducible assumption) (by omega) | exact DeedS.put (by with_reducible assumption) (by assumption) (by omega)); (case zqp => assumption); (case zql => omega); (case zqk => assumption); k_whole); intro h' tk' news' vs' ln' F' N' U' S'; (have hI' := S'.tab.inst); (have hD' := S'.tab.dict); (have hL' := S'.tab.list); (have hTI' := S'.tab); (have hnam' := S'.nam); (have hwsh' := S'.wsh); (try dsimp only); (try k_sweep)))
  (k_with "getMethod ref" => (k_here; (with_reducible show wpAny _ _ (getMethod (Value.ref _) (PySem.Str.ofString "count") _) _ _ _); k_dflt (refine' kl_method ?zqN ?zqm PySem.F.slot_list_count PySem.F.type_list_count ?_; (case zqN => k_asm); (case zqm => k_mem))))
  (k_with "call builtin:list.count" => (k_here; (with_reducible show wpAny _ _ (call (Value.builtin _) [Value.ref _, Value.int _ _]) _ _ _); k_dflt (refine' count_list_ints ?zql ?zqi ?_; (case zqi => assumption); (case zql => exact News.isList (by k_asm) (by k_mem)); k_whole)))
  (k_with "exec For Name Call cons nil" => (k_here; k_dflt (refine For_hold ?_)))
  (k_with "call builtin:len" => (k_here; k_dflt (refine' len_nms ?zqn ?zqm ?zqi ?zqf ?_; (case zqn => k_asm); (case zqm => k_mem); (case zqi => assumption); (case zqf => assumption); k_whole)))
  (k_with "eval Name" => (k_here; (with_reducible show wpAny _ _ (eval _ (envOfC _ _ _ _ _)) _ _ _); k_dflt (refine' nameX_L ?zqF ?zqv ?_ ?zqa ?zqb; (case zqa => rfl); (case zqb => rfl); (case zqF => k_asm); (case zqv => first | with_reducible assumption | ((try simp only []); assumption)); k_whole)))
  (k_with "subscriptTail" => (k_here; (with_reducible show wpAny _ _ (subscriptTail _ _ (Value.ref _) (Value.int (Int.fmod _ _) _)) _ _ _); k_dflt (refine' name_itemZ ?zqN ?zqM ?zqS ?zqP ?zqF ?_; (case zqN => k_asm); (case zqS => assumption); (case zqM => k_mem); (case zqP => assumption); (case zqF => assumption); k_whole); intro _; (try k_sweep)))
  (k_with "call builtin:str.upper" => (k_here; (with_reducible show wpAny _ _ (call (Value.builtin "str.upper") [Value.str _ _]) _ _ _); (refine SCL.upper (by first | with_reducible assumption | exact Nat.le_trans (Nat.le_of_lt (Cfg.len (by assumption) _)) (by decide)) ?_; intro _)))
  (k_with "M:wish" => first | with_reducible assumption | exact wishesIn.mono (by with_reducible assumption) (fun _ hp' => by k_mem))
  (k_with "call ref" => (k_here; (with_reducible show wpAny _ _ (call (Value.ref _) [Value.ref _, Value.int _ _, Value.int _ _]) _ _ _); k_dflt (refine wpAny_call ?_; refine' excess_ct ?zqcB ?zqcF ?zqcX ?zqcN ?zqcT ?zqcA ?zqcf ?zqck ?zqch ?zqcr ?zqcu ?zqm ?zqi ?zqz0 ?zqz1 ?zqzl ?_; walk_at "M:args"; (case zqm => k_mem); (case zqi => assumption); (case zqz0 => omega); (case zqz1 => omega); (case zqzl => assumption); k_whole); intro h' tk' t' F' N'; (try dsimp only); (try k_sweep)))
  (k_with "M:sh" => first | with_reducible assumption | with_reducible exact letF_sh _ | with_reducible exact charF_sh _ | with_reducible exact sign_sh _ | with_reducible exact lit_sh _ (by decide +kernel))
  (k_with "binaryOp Add str str" => (k_here; (with_reducible show wpAny _ _ (binaryOp Operator.Add (Value.str _ _) (Value.str _ _)) _ _ _); k_dflt (refine' str_add ?zqha ?zqhb ?zqhc ?_; (case zqha => walk_at "M:sh"); (case zqhb => walk_at "M:sh"); (case zqhc => decide); k_whole); intro t' k' htk' hsh'; (try dsimp only at htk')))
  (k_with "call builtin:str.replace" => (k_here; (with_reducible show wpAny _ _ (call (Value.builtin _) [Value.str _ _, Value.str _ _, Value.str _ _]) _ _ _); k_dflt (refine' str_rep ?zqha ?zqhb ?zqhc ?zqhu ?zqhv ?zqhuv ?zqhyz ?_; (case zqha => walk_at "M:sh"); (case zqhb => walk_at "M:sh"); (case zqhc => decide); (case zqhu => ((try dsimp only); omega)); (case zqhv => ((try dsimp only); omega)); (case zqhuv => ((try dsimp only); omega)); (case zqhyz => decide +kernel); k_whole); intro t' k'))
  (k_with "subscriptTail" => (k_here; (with_reducible show wpAny _ _ (subscriptTail _ _ (Value.ref _) (Value.int (Int.fmod _ _) _)) _ _ _); k_dflt (refine' sign_item ?zqN ?zqM ?zqS ?_; (case zqN => k_asm); (case zqM => k_mem); (case zqS => exact .cons _ _ (.cons _ _ (.cons _ _ (.cons _ _ (.cons _ _ (.cons _ _ (.cons _ _ .nil))))))); k_whole); intro _; (try k_sweep)))
  (k_with "subscriptTail" => (k_here; (with_reducible show wpAny _ _ (subscriptTail _ _ (Value.str (Str.ofString "Bab") _) (Value.int (Int.fmod (Int.fdiv _ _) _) _)) _ _ _); k_dflt (refine bab_item ?_)))
  (k_with "subscriptTail" => (k_here; (with_reducible show wpAny _ _ (subscriptTail _ _ (Value.str (Str.ofString "&\r<\n>\t\"") _) (Value.int (Int.fmod _ _) _)) _ _ _); k_dflt (refine char_item ?_)))
  (k_with "M:sh" => with_reducible exact item_sh _ _)
  (k_with "binaryOp Add str str" => (k_here; (with_reducible show wpAny _ _ (binaryOp Operator.Add (Value.str _ _) (Value.str _ _)) _ _ _); k_dflt (refine' str_add ?zqha ?zqhb ?zqhc ?_; (case zqha => walk_at "M:sh"); (case zqhb => walk_at "M:sh"); (case zqhc => first | decide | omega); k_whole); intro t' k' htk' hsh'; (try dsimp only at htk')))
  (k_with "subscriptTail" => (k_here; (with_reducible show wpAny _ _ (subscriptTail _ _ (Value.str _ _) (Value.int _ _)) _ _ _); k_dflt (refine' str_itemZ ?zqha ?zqhb ?zqhc ?_; (case zqha => with_reducible assumption); (case zqhb => omega); (case zqhc => omega); k_whole)))
  trivial
theorem freshW17 : True := by
  try row_walk
  trivial
structure OwnExc (K : Frag) (C e t0 : Addr) (m : Str) (tk : Tok) (h : Heap) : Prop where
  ob : ∃ o vs, h.get? e = some o ∧ o.cls = .ref C ∧ o.data = .fields vs ∧ vs[0]? = some (.ref t0)
  tup : h.TupAt t0 [.str m tk]
  kin : K.In h
theorem oe_check {Q : Unit → Shared → Prop} (x : OwnExc K C e t0 m tk s.heap) (hc : ktsIn K C "Exception" = true) (hq : Q () s) : wpAny (model prog w) A (checkBuiltinCall "BaseException.__str__" ⟨[.ref e], []⟩) Q E s := by
  obtain ⟨o, vs, h1, h2, h3, h4⟩ := x.ob
  have hs : splitId "BaseException.__str__" = some ("BaseException", "__str__") := by decide +kernel
  have hk : builtinKind "BaseException.__str__" = (Manifest.find? "BaseException").bind (·.attrs.lookup "__str__") := by simp only [builtinKind, hs]
  have hk2 : (Manifest.find? "BaseException").bind (·.attrs.lookup "__str__") = some .slot := by decide +kernel
  obtain ⟨nm, qn, N, bs, bm, hdct, sn, sub, ab, col, dd, k0, k1, k2, k3, k5, newId, hC, hb, _⟩ := kts_cls x.kin hc
  obtain ⟨hh, gg, ddr, tt, oss⟩ := s
  simp only [checkBuiltinCall, hk, hk2, hs]
  refine wpAny_bind ?_
  unfold isInstance
  refine wpAny_bind ?_
  simp only [typeOf]
  refine wpAny_bind (wpAny_load h1 (wpAny_pure ?_))
  rw [h2]
  refine wpAny_isSubtype_exc hC ?_
  rw [show (Value.ref C :: bm).contains (.type "BaseException") = true by rw [List.contains_cons, hb, Bool.or_true]]
  simp only [Bool.not_true, Bool.false_eq_true, if_false]
  cases hsig : Manifest.signature? "BaseException.__str__" with
  | none => exact wpAny_pure hq
  | some sig =>
    have ha := PySem.F.args_bexc_str (.ref e)
    simp only [argsOk, hsig] at ha
    have h2 : Bind.checkArgs "BaseException.__str__" sig ⟨[.ref e], []⟩ = pure () := ha
    show wpAny (model prog w) A (Bind.checkArgs "BaseException.__str__" sig ⟨[.ref e], []⟩) Q E _
    rw [h2]; exact wpAny_pure hq
theorem oe_args {M : Model} {Q : Value × List Value → Shared → Prop} (x : OwnExc K C e t0 m tk s.heap) (hq : Q (.ref t0, [.str m tk]) s) : wpAny M A (bexcArgs (.ref e)) Q E s := by
  obtain ⟨o, vs, h1, h2, h3, h4⟩ := x.ob
  obtain ⟨ot, k, g1, _, g2⟩ := x.tup
  unfold bexcArgs
  exact wpAny_bind (wpAny_field h1 h3 h4 (wpAny_bind (wpAny_seqItems g1 g2 (wpAny_pure hq))))
theorem oe_entry {Q : Fin → Shared → Prop} (x : OwnExc K C e t0 m tk s.heap) (hq : Q (.done (.ret (.str m tk))) s) : wpAny (model prog w) A (Builtin.«BaseException.__str__» ⟨[.ref e], []⟩) Q E s := by
  unfold Builtin.«BaseException.__str__»
  repeat (first | with_reducible refine oe_args x ?_ | wp_step)
  exact hq
theorem oe_dunder (x : OwnExc K C e t0 m tk s.heap) (hc : ktsIn K C "Exception" = true) (hq : Q (.str m tk) s) : wpAny (model prog w) A (call (.builtin "BaseException.__str__") [.ref e]) Q E s := by
  refine wpAny_call (codeAny_call_builtin PySem.F.excStr_Exception.str.plain PySem.F.entry_bexc_str (oe_check x hc (oe_entry x hq)))
theorem oe_strOf (hu : A.units < cLine) (x : OwnExc K C e t0 m tk s.heap) (hc : ktsIn K C "Exception" = true) (hl : findIn K (.ref C) (Str.ofString "__str__") = some (some (.builtin "BaseException.__str__"))) (hq : Q (.str m tk) s) :
    wpAny (model prog w) A (PySem.Builtin.Str.strOf (.ref e)) Q E s := by
  obtain ⟨o, vs, h1, h2, h3, h4⟩ := x.ob
  unfold PySem.Builtin.Str.strOf
  rw [show isExactStr (.ref e) = false from rfl]
  refine wpAny_bind (m := cRoomFor _ _) (wpAny_cRoomFor hu ?_)
  refine wpAny_bind (m := callSpecial? (.ref e) (Str.ofString "__str__")) ?_
  simp only [callSpecial?, specialOf, typeOf]
  refine wpAny_bind (wpAny_bind (wpAny_bind (wpAny_load h1 (wpAny_pure ?_))))
  rw [h2]
  refine (looks_findIn x.kin hl).here ?_
  refine wpAny_holding (wpAny_bind ?_)
  rw [PySem.F.excStr_Exception.str.bind]
  refine wpAny_pure (wpAny_bind (wpAny_mono (oe_dunder x hc (Q := fun v s' => v = .str m tk ∧ Q (.str m tk) s') ⟨rfl, hq⟩) ?_ fun _ _ y => y))
  rintro v s' ⟨rfl, hq⟩
  refine wpAny_pure ?_
  exact wpAny_pure hq
theorem oe_str (hu : A.units + 2 < cLine) (x : OwnExc K C e t0 m tk s.heap) (hc : ktsIn K C "Exception" = true) (hl : findIn K (.ref C) (Str.ofString "__str__") = some (some (.builtin "BaseException.__str__"))) (hq : Q (.str m tk) s) :
    wpAny (model prog w) A (call (.type "str") [.ref e]) Q E s :=
  PySem.callType_new PySem.F.called_str (by decide) (PySem.F.typeCall_str_1 _) (PySem.F.newCall_str_1 _) (fun obj => PySem.F.args_object_init_2 obj _) PySem.F.entry_str_new
    (meets_str_new (S := fun A' R s' => A'.units + 1 < cLine ∧ OwnExc K C e t0 m tk s'.heap ∧ R (.ok (.ret (.str m tk))) s')
      fun _ _ A' _ _ z => oe_strOf (A := A'.in1) z.1 z.2.1 hc hl z.2.2)
    ⟨(show A.units + 1 + 1 < cLine from hu), x, typeIs_str _ _ _, hq⟩
theorem own_str {h₀ h : Heap} {L : Addr} {news : List (Addr × Obj)} {g : Array GenState} {d : Drawn} {tk0 : Nat} {os : OsState} (N : News h₀ L h news) (G : Got news e t0 (.ref C) [.str m tk]) (X : K.In h₀) (k : ∀ b o, h₀.get? b = some o → h.get? b = some o) (hu : A.units + 2 < cLine) (hc : ktsIn K C "Exception" = true) (hl : findIn K (.ref C) (Str.ofString "__str__") = some (some (.builtin "BaseException.__str__"))) (hq : Q (.str m tk) ⟨h, g, d, tk0, os⟩) :
    wpAny (model prog w) A (call (.type "str") [.ref e]) Q E ⟨h, g, d, tk0, os⟩ := by
  obtain ⟨oe, ot, ws, nt, h1, h2, hc', hd, h0, htc, htd⟩ := G
  exact oe_str hu ⟨⟨oe, ws, N.get h1, hc', hd, h0⟩, ⟨ot, nt, N.get h2, htc, htd⟩, X.keeps k⟩ hc hl hq
end
theorem lines17 : True := by
  (k_with "call type:str" => (k_here; (with_reducible show wpAny _ _ (call (Value.type "str") [Value.ref _]) _ _ _); k_dflt (refine' own_str ?zqN ?zqG ?zqX ?zqk ?zqu ?zqc ?zql ?_; (case zqG => assumption); (case zqN => assumption); (case zqX => assumption); (case zqk => exact Fr.keep (by assumption)); (case zqu => k_units); (case zqc => kts_isx); (case zql => k_is); k_whole)))
  trivial
set_option maxHeartbeats 2000000 in
theorem toldB_ct {w : World} {mean : ExcName → Option Value} {mg mb : Str → Option Value} {A A₀ : Around} {base h₀ : Heap} {env : Env} {L : Addr} {m : Str → Option Value} {news : List (Addr × Obj)} {s : Shared} {R : Result → Shared → Prop}
  (B : Below A₀ base [] h₀) (F : Fr h₀ L s.heap m) (X : (hd.heap_39 w.params).In h₀) (N : News h₀ L s.heap news) (T : Top hd.view_39 loose mean mg mb h₀) (hA : A.frames = some [env]) (hf : env.frame = some L) (hke : env.scope.kind = .function) (hh : A.handled = none) (XB : (hd.heap_39 w.params).In base) (TB : Top hd.view_39 loose mean mg mb base) (hroom : A.depth + 8 < recursionLimit) (hun : A.units + 60 < cLine)
  {x : Str} {t1 : Tok}
  (hl : x.length ≤ 60) (h1 : (Txt.slice x none (some 3) != Str.ofString "257") = true)
  (ret : ∀ h' tk' tv, Fr h₀ L h' m → News h₀ L h' news → R (.ok (.ret (.str (Str.ofString "") tv))) { s with heap := h', toks := tk' }) :
  codeAny (model PySem.Challenge.rw_xn0027_01.row.prog w) A (.call (.ref 341) ⟨[.str x t1], []⟩) R s := by
  obtain ⟨hdl, dp, fr, gd, un⟩ := A
  dsimp only at hA hh hroom hun
  subst hA hh
  revert X XB; k_fill; intro X XB
  (refine' cat_def (binds := [(Str.ofString "reply", .str x t1)]) ?zqk1 ?zqk2 ?zqk3 ?zqk4 ?zqk5 ?zqkA ?zqkF ?zqkK ?zqk6 ?zqk7 ?zqk8 ?zqk9 ?zqkB ?_ ?zqc2 ?zqc3 ?zqc4 ?zqc5; walk_at "M:enter"; k_whole)
  intro g' L' h' FG' F' N' B' X' T' D'; (try dsimp only); (try k_lift B'); (try k_fold)
  k_steps
  · with_reducible rename Fr h₀ L _ _ => F6
    with_reducible rename News h₀ L _ _ => N6
    exact ret _ _ _ F6 N6
  · exact absurd (show (x == x) = false by assumption) (by simp)
theorem lines18 : True := by
  k_with_none
  (k_with "M:enter" => (
  (case zqkA => exact rfl); (case zqkF => assumption); (case zqkK => assumption); (case zqk1 => k_asm); (case zqk2 => k_asm); (case zqk3 => k_asm); (case zqk4 => k_asm); (case zqk5 => k_asm); (case zqk6 => k_is); (case zqk7 => k_is); (case zqk8 => k_room); (case zqk9 => first | exact BindsTo.of_eq rfl | exact binds_K (by k_in) rfl (by k_is) rfl rfl rfl); (case zqc5 => decide); (case zqkB => exact locs rfl); (case zqc2 => exact rfl); (case zqc3 => exact rfl); (case zqc4 => exact rfl)))
  (k_with "M:args" => (
  (case zqcB => k_asm); (case zqcF => k_asm); (case zqcX => k_asm); (case zqcN => k_asm); (case zqcT => k_asm); (case zqcA => exact rfl); (case zqcf => first | exact rfl | assumption); (case zqck => first | exact rfl | assumption); (case zqch => exact rfl); (case zqcr => k_room); (case zqcu => k_units)))
  (k_with "M:pat" => first | exact pat_name (by k_in) | exact pat_value (by k_in))
  (k_with "getMethod ref" => (k_here; (with_reducible show wpAny _ _ (getMethod (Value.ref _) (Str.ofString "search") _) _ _ _); k_dflt (refine' method_search (code := ?zqcd) ?zqP ?_; (case zqP => walk_at "M:pat"); k_whole)))
  (k_with "call builtin:re.Pattern.search" => (k_here; k_dflt (refine' call_search (code := ?zqcd) ?zqP ?zqC ?zqX ?zqL ?_; (case zqP => walk_at "M:pat"); (case zqC => first | exact .inl rfl | exact .inr rfl); (case zqX => assumption); (case zqL => assumption); k_whole)))
  (k_with "exec For" => (k_here; k_dflt (refine For_hold ?_)))
  (k_with "call builtin:str.lower" => (k_here; (with_reducible show wpAny _ _ (call (Value.builtin "str.lower") [Value.str _ _]) _ _ _); (refine SCL.lower (by omega) ?_; intro _)))
  (k_with "eval Name" => (k_here; (with_reducible show wpAny _ _ (eval _ (envOf _ _ _ _ _)) _ _ _); k_dflt (refine' ld ?zqk1 ?zqk2 ?_; (case zqk1 => k_asm); (case zqk2 => first | with_reducible assumption | ((try simp only []); assumption)); k_whole)))
  (k_with "assign Tuple" => (k_here; k_dflt (refine' assign_pair ?zqk0 ?zqk1 ?zqk2 ?zqk3 ?_ ?zqk4 ?zqk5 ?zqk6; (case zqk0 => exact rfl); (case zqk1 => k_asm); (case zqk2 => k_asm); (case zqk3 => k_mem); (case zqk4 => exact rfl); (case zqk5 => exact rfl); (case zqk6 => exact rfl); k_whole); intro h' tk' F' N'; (try k_sweep)))
  (k_with "call ref" => (k_here; (with_reducible show wpAny _ _ (call (Value.ref _) [_, Value.str _ _] _) _ _ _); k_dflt (refine wpAny_call ?_; (first | refine' conv_true ?zqcB ?zqcF ?zqcX ?zqcN ?zqcT ?zqcA ?zqcf ?zqck ?zqch ?zqcr ?zqcu ?zqx ?zql ?_ | refine' conv_false ?zqcB ?zqcF ?zqcX ?zqcN ?zqcT ?zqcA ?zqcf ?zqck ?zqch ?zqcr ?zqcu ?zqx ?zql ?_); walk_at "M:args"; (case zqx => assumption); (case zql => assumption); k_whole); intro h' tk' F' N'; (try dsimp only); (try k_sweep)))
  (k_with "storeName" => (k_here; (with_reducible show wpAny _ _ (storeName (envOfC _ _ _ _ _) _ _) _ _ _); k_dflt (refine' storeX_C ?zqF ?zqN ?zqc ?zqU ?zqd ?_ ?zqa ?zqb; (case zqa => rfl); (case zqb => rfl); (case zqF => k_asm); (case zqN => k_asm); (case zqc => rfl); (case zqU => k_updF); (case zqd => assumption); k_whole); intro h' o' F' N' d'; (try dsimp only at N'); (try k_sweep)))
  (k_with "eval ListComp" => (k_here; refine Hold.out ?_))
  (k_with "exec Assign cons ListComp" => (k_here; refine Hold.out ?_))
  (k_with "exec While" => (k_here; refine Hold.out ?_))
  (k_with "M:enterC" => (
  (case zqkA => exact rfl); (case zqkF => assumption); (case zqkK => assumption); (case zqk1 => k_asm); (case zqk2 => k_asm); (case zqk3 => k_asm); (case zqk4 => k_asm); (case zqk5 => k_asm); (case zqk6 => k_is); (case zqk7 => k_is); (case zqk8 => k_room); (case zqk9 => first | exact BindsTo.of_eq rfl | exact binds_K (by k_in) rfl (by k_is) rfl rfl rfl); (case zqkB => exact rfl); (case zqkD => decide +kernel); (case zqc2 => exact rfl); (case zqc3 => exact rfl); (case zqc4 => exact rfl)))
  (k_with "M:tab" => first | with_reducible assumption | (refine TabIn.cons ?_; walk_at "M:tab"))
  (k_with "call ref" => (k_here; (with_reducible show wpAny _ _ (call (Value.ref _) [_, Value.str _ _]) _ _ _); k_dflt (refine wpAny_call ?_; refine' del_ct ?zqcB ?zqcF ?zqcX ?zqcN ?zqcT ?zqcA ?zqcf ?zqck ?zqch ?zqcr ?zqcu ?zqt ?zql ?zqn1 ?zqn2 ?zqn3 ?_; walk_at "M:args"; (case zqt => walk_at "M:tab"); (case zql => assumption); (case zqn1 => assumption); (case zqn2 => assumption); (case zqn3 => assumption); k_whole); intro h' tk' news' vs' ln' F' N' U' TI'; (have hI' := TabIn.inst TI'); (have hD' := TabIn.dict TI'); (have hL' := TabIn.list TI'); (try dsimp only); (try k_sweep)))
  (k_with "delItem ref" => (k_here; (with_reducible show wpAny _ _ (delItem (Value.ref _) _) _ _ _); k_dflt (refine' own_delItem ?zqF ?zqX ?zqI ?zqhQ ?zqhS ?zqhF ?_; (case zqF => k_asm); (case zqX => k_asm); (case zqI => k_inst); (case zqhS => k_is); (case zqhF => k_is); (case zqhQ => k_is); k_whole)))
  (k_with "call builtin:list.append" => (k_here; k_dflt (refine' append_P ?zqf ?zqn ?zql ?zqz ?_; (case zqf => k_asm); (case zqn => k_asm); (case zql => k_mem); (case zqz => assumption); k_whole); intro h' F' N'; (try k_sweep)))
  (k_with "M:wish" => first | with_reducible assumption | (refine wishesIn.cons ?_; walk_at "M:wish"))
  (k_with "M:n1" => first | with_reducible assumption | (with_reducible first | exact Cfg.len (by assumption) _ | exact Cfg.ulen (by assumption) _ | exact Cfg.cl (by assumption) _ | exact Cfg.clu (by assumption) _ | exact Cfg.cll (by assumption) _ | exact Cfg.cllu (by assumption) _ | exact Cfg.sz (by assumption) _ | exact Cfg.szu (by assumption) _ | exact Cfg.szl (by assumption) _ | exact Cfg.szlu (by assumption) _ | exact Cfg.kcl (by assumption) _ (by assumption) | exact Cfg.ksz (by assumption) _ (by assumption)))
  (k_with "subscriptTail" => (k_here; (with_reducible show wpAny _ _ (subscriptTail _ _ (Value.ref _) (Value.str _ _)) _ _ _); k_dflt (refine' wish_item ?zqN ?zqW ?zqK ?_; (case zqN => k_asm); (case zqW => walk_at "M:wish"); (case zqK => assumption); k_whole); intro _; (try k_sweep)))
  (k_with "subscriptTail" => (k_here; (with_reducible show wpAny _ _ (subscriptTail _ _ (Value.ref _) (Value.int (Nat.cast _) _)) _ _ _); k_dflt (refine' name_item ?zqN ?zqM ?zqS ?zqP ?zqF ?_; (case zqN => k_asm); (case zqS => assumption); (case zqM => k_mem); (case zqP => assumption); (case zqF => assumption); k_whole); intro _; (try k_sweep)))
  (k_with "call ref" => (k_here; (with_reducible show wpAny _ _ (call (Value.ref _) [_, Value.str _ _]) _ _ _); k_dflt (refine wpAny_call ?_; refine' get_ct ?zqcB ?zqcF ?zqcX ?zqcN ?zqcT ?zqcA ?zqcf ?zqck ?zqch ?zqcr ?zqcu ?zqt ?zqn1 ?zqn2 ?zqn3 ?_ ?_; walk_at "M:args"; (case zqt => walk_at "M:tab"); (case zqn1 => walk_at "M:n1"); (case zqn2 => walk_at "M:n1"); (case zqn3 => walk_at "M:n1"); k_whole); (intro v' tv' h' tk' hlk' F' N'; (try have hgd' := look_good (St.good (by assumption)) hlk'); (try dsimp only); (try k_sweep)); rotate_left; (intro h' tk' hlk' F' N'; (try dsimp only); (try k_sweep))))
  (k_with "call ref" => (k_here; (with_reducible show wpAny _ _ (call (Value.ref _) [_, Value.str _ _, Value.str _ _]) _ _ _); k_dflt (refine wpAny_call ?_; refine' set_ct ?zqcB ?zqcF ?zqcX ?zqcN ?zqcT ?zqcA ?zqcf ?zqck ?zqch ?zqcr ?zqcu ?zqt ?zql ?zqn1 ?zqn2 ?zqn3 ?zqn4 ?zqn5 ?zqn6 ?zqn7 ?_; walk_at "M:args"; (case zqt => walk_at "M:tab"); (case zql => assumption); (case zqn1 => walk_at "M:n1"); (case zqn2 => walk_at "M:n1"); (case zqn3 => walk_at "M:n1"); (case zqn4 => walk_at "M:n1"); (case zqn5 => walk_at "M:n1"); (case zqn6 => walk_at "M:n1"); (case zqn7 => walk_at "M:n1"); k_whole); intro h' tk' news' vs' ln' F' N' U' TI'; (have hI' := TabIn.inst TI'); (have hD' := TabIn.dict TI'); (have hL' := TabIn.list TI'); (try dsimp only); (try k_sweep)))
  (k_with "call builtin:str.upper" => (k_here; (with_reducible show wpAny _ _ (call (Value.builtin "str.upper") [Value.str _ _]) _ _ _); (refine SCL.upper (by with_reducible assumption) ?_; intro _)))
  (k_with "subscriptTail" => (k_here; (with_reducible show wpAny _ _ (subscriptTail _ (Expr.Slice none (some _) none _) (Value.str _ _) (Value.ref _)) _ _ _); (with_reducible rename Fr _ _ _ _ => F'); (with_reducible rename News _ _ _ _ => N'); (refine slice_strN_ns (hsz := ?zqhsz) (s := ⟨_, _, _, _, _⟩) F' N' ?_); (case zqhsz => assumption); intro _ _ _ _ _))
  (k_with "M:st" => first | with_reducible assumption | (refine St.cons ?_; walk_at "M:st"))
  (k_with "call ref" => (k_here; (with_reducible show wpAny _ _ (call (Value.ref _) [_, Value.str _ _, Value.str _ _]) _ _ _); k_dflt (refine wpAny_call ?_; refine' lay_ct ?zqcB ?zqcF ?zqcX ?zqcN ?zqcT ?zqcA ?zqcf ?zqck ?zqch ?zqcr ?zqcu ?zqt ?zql ?zqk ?_; walk_at "M:args"; (case zqt => walk_at "M:st"); (case zql => omega); (case zqk => assumption); k_whole); intro h' tk' news' vs' ln' F' N' U' S'; (have hI' := S'.tab.inst); (have hD' := S'.tab.dict); (have hL' := S'.tab.list); (have hTI' := S'.tab); (have hnam' := S'.nam); (have hwsh' := S'.wsh); (try dsimp only); (try k_sweep)))
  (k_with "call ref" => (k_here; (with_reducible show wpAny _ _ (call (Value.ref _) [Value.int _ _, Value.ref _, Value.int _ _, Value.str _ _, Value.str _ _]) _ _ _); k_dflt (refine wpAny_call ?_; refine' before_ct ?zqcB ?zqcF ?zqcX ?zqcN ?zqcT ?zqcA ?zqcf ?zqck ?zqch ?zqcr ?zqcu ?zqz ?zqp ?zqW ?zqk1 ?zqk2 ?_; walk_at "M:args"; (case zqz => omega); (case zqp => omega); (case zqW => walk_at "M:wish"); (case zqk1 => assumption); (case zqk2 => assumption); k_whole); intro h' tk' F' N'; (try dsimp only); (try k_sweep)))
  (k_with "call builtin:len" => (k_here; k_dflt (refine' len_strsA ?zql ?zqi ?zqf ?_; (case zqi => assumption); (case zql => exact News.isList (by k_asm) (by k_mem)); (case zqf => omega); k_whole)))
  (k_with "call ref" => (k_here; (with_reducible show wpAny _ _ (call (Value.ref _) [_, Value.str _ _]) _ _ _); k_dflt (refine wpAny_call ?_; refine' del2_ct ?zqcB ?zqcF ?zqcX ?zqcN ?zqcT ?zqcA ?zqcf ?zqck ?zqch ?zqcr ?zqcu ?zqt ?zql ?zqn1 ?zqn2 ?zqn3 ?_; walk_at "M:args"; (case zqt => walk_at "M:st"); (case zql => omega); (case zqn1 => walk_at "M:n1"); (case zqn2 => walk_at "M:n1"); (case zqn3 => walk_at "M:n1"); k_whole); intro h' tk' news' vs' ln' F' N' U' S'; (have hI' := S'.tab.inst); (have hD' := S'.tab.dict); (have hL' := S'.tab.list); (have hTI' := S'.tab); (have hnam' := S'.nam); (have hwsh' := S'.wsh); (try dsimp only); (try k_sweep)))
  (k_with "binaryOp Mod int int" => (k_here; (with_reducible show wpAny _ _ (binaryOp Operator.Mod (Value.int (HAdd.hAdd (Nat.cast _) _) _) (Value.int (Nat.cast _) _)) _ _ _); k_dflt (refine mod_nxt (by assumption) ?_; intro _)))
  (k_with "M:st" => with_reducible first | assumption | exact St.cons (by assumption) | exact St.cons (St.cons (by assumption)) | exact St.cons (St.cons (St.cons (by assumption))) | exact St.cons (St.cons (St.cons (St.cons (by assumption)))))
  (k_with "M:tab" => with_reducible first | assumption | exact TabIn.cons (by assumption) | exact TabIn.cons (TabIn.cons (by assumption)) | exact TabIn.cons (TabIn.cons (TabIn.cons (by assumption))) | exact TabIn.cons (TabIn.cons (TabIn.cons (TabIn.cons (by assumption)))))
  (k_with "M:wish" => with_reducible first | assumption | exact wishesIn.cons (by assumption) | exact wishesIn.cons (wishesIn.cons (by assumption)) | exact wishesIn.cons (wishesIn.cons (wishesIn.cons (by assumption))) | exact wishesIn.cons (wishesIn.cons (wishesIn.cons (wishesIn.cons (by assumption)))))
  (k_with "call builtin:len" => (k_here; k_dflt (refine' len_ys ?zql ?zqi ?zqk ?zqf ?_; (case zql => k_asm); (case zqi => k_mem); (case zqk => assumption); (case zqf => omega); k_whole)))
  (k_with "subscriptTail" => (k_here; (with_reducible show wpAny _ _ (subscriptTail _ _ (Value.ref _) (Value.str _ _)) _ _ _); k_dflt (refine' wish_itemN ?zqN ?zqW ?zqK ?zqZ ?_; (case zqN => k_asm); (case zqW => walk_at "M:wish"); (case zqK => assumption); (case zqZ => assumption); k_whole); intro _; (try k_sweep)))
  (k_with "call ref" => (k_here; (with_reducible show wpAny _ _ (call (Value.ref _) _) _ _ _); k_dflt (refine wpAny_call ?_; refine' keys_ct ?zqcB ?zqcF ?zqcX ?zqcN ?zqcT ?zqcA ?zqcf ?zqck ?zqch ?zqcr ?zqcu ?zqt ?zql ?_; walk_at "M:args"; (case zqt => walk_at "M:tab"); (case zql => omega); k_whole); intro h' tk' D' ys' hys' F' N' off'; (try dsimp only); (try k_sweep)))
  (k_with "call ref" => (k_here; (with_reducible show wpAny _ _ (call (Value.ref _) [Value.ref _, Value.ref _, Value.ref _, Value.int _ _]) _ _ _); k_dflt (refine wpAny_call ?_; refine' take_ct ?zqcB ?zqcF ?zqcX ?zqcN ?zqcT ?zqcA ?zqcf ?zqck ?zqch ?zqcr ?zqcu ?zqt ?zqp ?zql ?zqe ?_; walk_at "M:args"; (case zqt => walk_at "M:st"); (case zqe => first | with_reducible assumption | exact DeedS.take (by with_reducible assumption) (by assumption)); (case zqp => assumption); (case zql => omega); k_whole); intro h' tk' news' vs' ln' F' N' U' S'; (have hI' := S'.tab.inst); (have hD' := S'.tab.dict); (have hL' := S'.tab.list); (have hTI' := S'.tab); (have hnam' := S'.nam); (have hwsh' := S'.wsh); (try dsimp only); (try k_sweep)))
  (k_with "call ref" => (k_here; (with_reducible show wpAny _ _ (call (Value.ref _) [Value.ref _, Value.ref _, Value.ref _, Value.int _ _, Value.str _ _]) _ _ _); k_dflt (refine wpAny_call ?_; refine' put_ct ?zqcB ?zqcF ?zqcX ?zqcN ?zqcT ?zqcA ?zqcf ?zqck ?zqch ?zqcr ?zqcu ?zqt ?zqp ?zql ?zqk ?zqe ?_; walk_at "M:args"; (case zqt => walk_at "M:st"); (case zqe => first | with_reducible assumption | exact DeedN.put (by with_reducible assumption) (by omega) | exact DeedS.put (by with_reducible assumption) (by assumption) (by omega)); (case zqp => assumption); (case zql => omega); (case zqk => assumption); k_whole); intro h' tk' news' vs' ln' F' N' U' S'; (have hI' := S'.tab.inst); (have hD' := S'.tab.dict); (have hL' := S'.tab.list); (have hTI' := S'.tab); (have hnam' := S'.nam); (have hwsh' := S'.wsh); (try dsimp only); (try k_sweep)))
  (k_with "getMethod ref" => (k_here; (with_reducible show wpAny _ _ (getMethod (Value.ref _) (PySem.Str.ofString "count") _) _ _ _); k_dflt (refine' kl_method ?zqN ?zqm PySem.F.slot_list_count PySem.F.type_list_count ?_; (case zqN => k_asm); (case zqm => k_mem))))
  (k_with "call builtin:list.count" => (k_here; (with_reducible show wpAny _ _ (call (Value.builtin _) [Value.ref _, Value.int _ _]) _ _ _); k_dflt (refine' count_list_ints ?zql ?zqi ?_; (case zqi => assumption); (case zql => exact News.isList (by k_asm) (by k_mem)); k_whole)))
  (k_with "exec For Name Call cons nil" => (k_here; k_dflt (refine For_hold ?_)))
  (k_with "call builtin:len" => (k_here; k_dflt (refine' len_nms ?zqn ?zqm ?zqi ?zqf ?_; (case zqn => k_asm); (case zqm => k_mem); (case zqi => assumption); (case zqf => assumption); k_whole)))
  (k_with "eval Name" => (k_here; (with_reducible show wpAny _ _ (eval _ (envOfC _ _ _ _ _)) _ _ _); k_dflt (refine' nameX_L ?zqF ?zqv ?_ ?zqa ?zqb; (case zqa => rfl); (case zqb => rfl); (case zqF => k_asm); (case zqv => first | with_reducible assumption | ((try simp only []); assumption)); k_whole)))
  (k_with "subscriptTail" => (k_here; (with_reducible show wpAny _ _ (subscriptTail _ _ (Value.ref _) (Value.int (Int.fmod _ _) _)) _ _ _); k_dflt (refine' name_itemZ ?zqN ?zqM ?zqS ?zqP ?zqF ?_; (case zqN => k_asm); (case zqS => assumption); (case zqM => k_mem); (case zqP => assumption); (case zqF => assumption); k_whole); intro _; (try k_sweep)))
  (k_with "call builtin:str.upper" => (k_here; (with_reducible show wpAny _ _ (call (Value.builtin "str.upper") [Value.str _ _]) _ _ _); (refine SCL.upper (by first | with_reducible assumption | exact Nat.le_trans (Nat.le_of_lt (Cfg.len (by assumption) _)) (by decide)) ?_; intro _)))
  (k_with "M:wish" => first | with_reducible assumption | exact wishesIn.mono (by with_reducible assumption) (fun _ hp' => by k_mem))
  (k_with "call ref" => (k_here; (with_reducible show wpAny _ _ (call (Value.ref _) [Value.ref _, Value.int _ _, Value.int _ _]) _ _ _); k_dflt (refine wpAny_call ?_; refine' excess_ct ?zqcB ?zqcF ?zqcX ?zqcN ?zqcT ?zqcA ?zqcf ?zqck ?zqch ?zqcr ?zqcu ?zqm ?zqi ?zqz0 ?zqz1 ?zqzl ?_; walk_at "M:args"; (case zqm => k_mem); (case zqi => assumption); (case zqz0 => omega); (case zqz1 => omega); (case zqzl => assumption); k_whole); intro h' tk' t' F' N'; (try dsimp only); (try k_sweep)))
  (k_with "M:sh" => first | with_reducible assumption | with_reducible exact letF_sh _ | with_reducible exact charF_sh _ | with_reducible exact sign_sh _ | with_reducible exact lit_sh _ (by decide +kernel))
  (k_with "binaryOp Add str str" => (k_here; (with_reducible show wpAny _ _ (binaryOp Operator.Add (Value.str _ _) (Value.str _ _)) _ _ _); k_dflt (refine' str_add ?zqha ?zqhb ?zqhc ?_; (case zqha => walk_at "M:sh"); (case zqhb => walk_at "M:sh"); (case zqhc => decide); k_whole); intro t' k' htk' hsh'; (try dsimp only at htk')))
  (k_with "call builtin:str.replace" => (k_here; (with_reducible show wpAny _ _ (call (Value.builtin _) [Value.str _ _, Value.str _ _, Value.str _ _]) _ _ _); k_dflt (refine' str_rep ?zqha ?zqhb ?zqhc ?zqhu ?zqhv ?zqhuv ?zqhyz ?_; (case zqha => walk_at "M:sh"); (case zqhb => walk_at "M:sh"); (case zqhc => decide); (case zqhu => ((try dsimp only); omega)); (case zqhv => ((try dsimp only); omega)); (case zqhuv => ((try dsimp only); omega)); (case zqhyz => decide +kernel); k_whole); intro t' k'))
  (k_with "subscriptTail" => (k_here; (with_reducible show wpAny _ _ (subscriptTail _ _ (Value.ref _) (Value.int (Int.fmod _ _) _)) _ _ _); k_dflt (refine' sign_item ?zqN ?zqM ?zqS ?_; (case zqN => k_asm); (case zqM => k_mem); (case zqS => exact .cons _ _ (.cons _ _ (.cons _ _ (.cons _ _ (.cons _ _ (.cons _ _ (.cons _ _ .nil))))))); k_whole); intro _; (try k_sweep)))
  (k_with "subscriptTail" => (k_here; (with_reducible show wpAny _ _ (subscriptTail _ _ (Value.str (Str.ofString "Bab") _) (Value.int (Int.fmod (Int.fdiv _ _) _) _)) _ _ _); k_dflt (refine bab_item ?_)))
  (k_with "subscriptTail" => (k_here; (with_reducible show wpAny _ _ (subscriptTail _ _ (Value.str (Str.ofString "&\r<\n>\t\"") _) (Value.int (Int.fmod _ _) _)) _ _ _); k_dflt (refine char_item ?_)))
  (k_with "M:sh" => with_reducible exact item_sh _ _)
  (k_with "binaryOp Add str str" => (k_here; (with_reducible show wpAny _ _ (binaryOp Operator.Add (Value.str _ _) (Value.str _ _)) _ _ _); k_dflt (refine' str_add ?zqha ?zqhb ?zqhc ?_; (case zqha => walk_at "M:sh"); (case zqhb => walk_at "M:sh"); (case zqhc => first | decide | omega); k_whole); intro t' k' htk' hsh'; (try dsimp only at htk')))
  (k_with "subscriptTail" => (k_here; (with_reducible show wpAny _ _ (subscriptTail _ _ (Value.str _ _) (Value.int _ _)) _ _ _); k_dflt (refine' str_itemZ ?zqha ?zqhb ?zqhc ?_; (case zqha => with_reducible assumption); (case zqhb => omega); (case zqhc => omega); k_whole)))
  trivial
theorem freshW18 : True := by
  try row_walk
  trivial
noncomputable def tabF (i : Nat) : List (Str × Str) := if i = 0 then c14nT else if i = 1 then attribT else if i = 2 then htmlT else if i = 3 then ac14nT else cdataT
theorem tabF_0 {i : Nat} (h : i = 0) : tabF i = c14nT := by subst h; rfl
theorem tabF_1 {i : Nat} (h : i = 1) : tabF i = attribT := by subst h; rfl
theorem tabF_2 {i : Nat} (h : i = 2) : tabF i = htmlT := by subst h; rfl
theorem tabF_3 {i : Nat} (h : i = 3) : tabF i = ac14nT := by subst h; rfl
theorem tabF_4 {i : Nat} (h : 4 ≤ i) : tabF i = cdataT := by
  unfold tabF; rw [if_neg (by omega), if_neg (by omega), if_neg (by omega), if_neg (by omega)]
noncomputable def wrF (i : Nat) (x : Str) : Str := escL (tabF i) x
theorem lines19 : True := by
  (k_with "call ref" => (k_here; (with_reducible show wpAny _ _ (call (Value.ref 299) [Value.str _ _]) _ _ _); k_dflt (refine wpAny_call ?_; refine' cdata_ct ?zqcB ?zqcF ?zqcX ?zqcN ?zqcT ?zqcA ?zqcf ?zqck ?zqch ?zqcr ?zqcu ?zqok ?_; walk_at "M:args"; (case zqok => assumption); k_whole); intro h' tk' tv' F' N'; (try dsimp only); (try k_sweep)))
  (k_with "call ref" => (k_here; (with_reducible show wpAny _ _ (call (Value.ref 306) [Value.str _ _]) _ _ _); k_dflt (refine wpAny_call ?_; refine' attrib_ct ?zqcB ?zqcF ?zqcX ?zqcN ?zqcT ?zqcA ?zqcf ?zqck ?zqch ?zqcr ?zqcu ?zqok ?_; walk_at "M:args"; (case zqok => assumption); k_whole); intro h' tk' tv' F' N'; (try dsimp only); (try k_sweep)))
  (k_with "call ref" => (k_here; (with_reducible show wpAny _ _ (call (Value.ref 313) [Value.str _ _]) _ _ _); k_dflt (refine wpAny_call ?_; refine' html_ct ?zqcB ?zqcF ?zqcX ?zqcN ?zqcT ?zqcA ?zqcf ?zqck ?zqch ?zqcr ?zqcu ?zqok ?_; walk_at "M:args"; (case zqok => assumption); k_whole); intro h' tk' tv' F' N'; (try dsimp only); (try k_sweep)))
  (k_with "call ref" => (k_here; (with_reducible show wpAny _ _ (call (Value.ref 320) [Value.str _ _]) _ _ _); k_dflt (refine wpAny_call ?_; refine' c14n_ct ?zqcB ?zqcF ?zqcX ?zqcN ?zqcT ?zqcA ?zqcf ?zqck ?zqch ?zqcr ?zqcu ?zqok ?_; walk_at "M:args"; (case zqok => assumption); k_whole); intro h' tk' tv' F' N'; (try dsimp only); (try k_sweep)))
  (k_with "call ref" => (k_here; (with_reducible show wpAny _ _ (call (Value.ref 327) [Value.str _ _]) _ _ _); k_dflt (refine wpAny_call ?_; refine' ac14n_ct ?zqcB ?zqcF ?zqcX ?zqcN ?zqcT ?zqcA ?zqcf ?zqck ?zqch ?zqcr ?zqcu ?zqok ?_; walk_at "M:args"; (case zqok => assumption); k_whole); intro h' tk' tv' F' N'; (try dsimp only); (try k_sweep)))
  trivial
set_option maxHeartbeats 2000000 in
theorem written_ct {w : World} {mean : ExcName → Option Value} {mg mb : Str → Option Value} {A A₀ : Around} {base h₀ : Heap} {outer : List Env} {env : Env} {L : Addr} {m : Str → Option Value} {news : List (Addr × Obj)} {s : Shared} {R : Result → Shared → Prop}
  (B : Below A₀ base outer h₀) (F : Fr h₀ L s.heap m) (X : (hd.heap_39 w.params).In h₀) (N : News h₀ L s.heap news) (T : Top hd.view_39 loose mean mg mb h₀) (hA : A.frames = some (env :: outer)) (hf : env.frame = some L) (hke : env.scope.kind = .function) (hh : A.handled = none) (hroom : A.depth + 8 < recursionLimit) (hun : A.units + 60 < cLine)
  {i : Nat} {x : Str} {t1 t2 : Tok}
  (hi : i < 5) (ok0 : escOK c14nT x = true) (ok1 : escOK attribT x = true) (ok2 : escOK htmlT x = true) (ok3 : escOK ac14nT x = true) (ok4 : escOK cdataT x = true)
  (ret : ∀ h' tk' tv, Fr h₀ L h' m → News h₀ L h' news → R (.ok (.ret (.str (wrF i x) tv))) { s with heap := h', toks := tk' }) :
  codeAny (model PySem.Challenge.rw_xn0027_01.row.prog w) A (.call (.ref 355) ⟨[.int (i : Nat) t1, .str x t2], []⟩) R s := by
  obtain ⟨hdl, dp, fr, gd, un⟩ := A
  dsimp only at hA hh hroom hun
  subst hA hh
  revert X; k_fill; intro X
  (refine' code_def (binds := [(Str.ofString "which", .int (i : Nat) t1), (Str.ofString "sign", .str x t2)]) ?zqk1 ?zqk2 ?zqk3 ?zqk4 ?zqk5 ?zqkA ?zqkF ?zqkK ?zqk6 ?zqk7 ?zqk8 ?zqk9 ?zqkB ?_ ?zqc2 ?zqc3 ?zqc4 ?zqc5; walk_at "M:enter"; k_whole)
  intro g' L' h' FG' F' N' B' X' T'; (try dsimp only); (try k_lift B'); (try k_fold)
  k_steps
  all_goals (with_reducible rename Fr h₀ L _ _ => F6; with_reducible rename News h₀ L _ _ => N6)
  · rw [show wrF i x = escL c14nT x from congrArg (escL · x) (tabF_0 (by omega))] at ret
    exact ret _ _ _ F6 N6
  · rw [show wrF i x = escL attribT x from congrArg (escL · x) (tabF_1 (by omega))] at ret
    exact ret _ _ _ F6 N6
  · rw [show wrF i x = escL htmlT x from congrArg (escL · x) (tabF_2 (by omega))] at ret
    exact ret _ _ _ F6 N6
  · rw [show wrF i x = escL ac14nT x from congrArg (escL · x) (tabF_3 (by omega))] at ret
    exact ret _ _ _ F6 N6
  · rw [show wrF i x = escL cdataT x from congrArg (escL · x) (tabF_4 (by omega))] at ret
    exact ret _ _ _ F6 N6
noncomputable def spellR (i : Nat) : List Str := match i with
  | 0 => [Str.ofString "&amp;", Str.ofString "&#xD;", Str.ofString "&lt;", Str.ofString "", Str.ofString "&gt;", Str.ofString "", Str.ofString "\""]
  | 1 => [Str.ofString "&amp;", Str.ofString "&#13;", Str.ofString "&lt;", Str.ofString "&#10;", Str.ofString "&gt;", Str.ofString "&#09;", Str.ofString "&quot;"]
  | 2 => [Str.ofString "&amp;", Str.ofString "", Str.ofString "<", Str.ofString "", Str.ofString "&gt;", Str.ofString "", Str.ofString "&quot;"]
  | 3 => [Str.ofString "&amp;", Str.ofString "&#xD;", Str.ofString "&lt;", Str.ofString "&#xA;", Str.ofString ">", Str.ofString "&#x9;", Str.ofString "&quot;"]
  | _ => [Str.ofString "&amp;", Str.ofString "", Str.ofString "&lt;", Str.ofString "", Str.ofString "&gt;", Str.ofString "", Str.ofString "\""]
theorem cb_sub {h₀ h : Heap} {L : Addr} {q : Addr × Obj} {n n' : List (Addr × Obj)} (N : News h₀ L h n) (hq : q ∈ n) (hn : ∀ p ∈ n', p ∈ n) : News h₀ L h (q :: n') := cb_drop N fun p hp => by
  rcases List.mem_cons.mp hp with rfl | hp
  · exact hq
  · exact hn p hp
theorem five_item {w : World} {A : Around} {E : Value → Shared → Prop} {h₀ : Heap} {L : Addr} {s : Shared} {value slice : PySem.Expr} {l : Addr} {k i : Nat} {a b c d e : Value} {news : List (Addr × Obj)} {u : Tok} {Q : Value → Shared → Prop}
    (N : News h₀ L s.heap news) (hm : (l, listOf #[a, b, c, d, e] k) ∈ news) (hi : i < 5) (h0 : i = 0 → Q a s) (h1 : i = 1 → Q b s) (h2 : i = 2 → Q c s) (h3 : i = 3 → Q d s) (h4 : i = 4 → Q e s)
    (hs : subscripted slice false (Value.ref l) (Value.int i u) = operate [Value.ref l, Value.int i u] (getItem (Value.ref l) (Value.int i u)) := by with_unfolding_all rfl) (hg : ∀ r, letTemporaryGo value (Value.ref l) r = pure () := by intro _; with_unfolding_all rfl) :
    wpAny (model PySem.Challenge.rw_xn0027_01.row.prog w) A (subscriptTail value slice (.ref l) (.int i u)) Q E s := by
  have hl : s.heap.IsList l [a, b, c, d, e].toArray := N.isList hm
  obtain rfl | rfl | rfl | rfl | rfl : i = 0 ∨ i = 1 ∨ i = 2 ∨ i = 3 ∨ i = 4 := by omega
  · exact item_listL hl (by omega) (by omega) (x := a) rfl (h0 rfl) hs hg
  · exact item_listL hl (by omega) (by omega) (x := b) rfl (h1 rfl) hs hg
  · exact item_listL hl (by omega) (by omega) (x := c) rfl (h2 rfl) hs hg
  · exact item_listL hl (by omega) (by omega) (x := d) rfl (h3 rfl) hs hg
  · exact item_listL hl (by omega) (by omega) (x := e) rfl (h4 rfl) hs hg
theorem lines20 : True := by
  (k_with "subscriptTail" => (k_here; (with_reducible show wpAny _ _ (subscriptTail _ _ (Value.ref _) (Value.int (Nat.cast _) _)) _ _ _); k_dflt (refine' five_item ?zqN ?zqm ?zqi ?_ ?_ ?_ ?_ ?_; (case zqN => k_asm); (case zqm => k_mem); (case zqi => assumption)); all_goals (intro hi5)))
  trivial
set_option maxHeartbeats 2000000 in
theorem spelled_ct {w : World} {mean : ExcName → Option Value} {mg mb : Str → Option Value} {A A₀ : Around} {base h₀ : Heap} {outer : List Env} {env : Env} {L : Addr} {m : Str → Option Value} {news : List (Addr × Obj)} {s : Shared} {R : Result → Shared → Prop}
  (B : Below A₀ base outer h₀) (F : Fr h₀ L s.heap m) (X : (hd.heap_39 w.params).In h₀) (N : News h₀ L s.heap news) (T : Top hd.view_39 loose mean mg mb h₀) (hA : A.frames = some (env :: outer)) (hf : env.frame = some L) (hke : env.scope.kind = .function) (hh : A.handled = none) (hroom : A.depth + 4 < recursionLimit) (hun : A.units + 30 < cLine)
  {i : Nat} {t1 : Tok}
  (hi : i < 5)
  (ret : ∀ h' tk' D vs, StrsAre vs (spellR i) → Fr h₀ L h' m → News h₀ L h' ((D, listOf vs.toArray 0) :: news) → R (.ok (.ret (.ref D))) { s with heap := h', toks := tk' }) :
  codeAny (model PySem.Challenge.rw_xn0027_01.row.prog w) A (.call (.ref 362) ⟨[.int (i : Nat) t1], []⟩) R s := by
  obtain ⟨hdl, dp, fr, gd, un⟩ := A
  dsimp only at hA hh hroom hun
  subst hA hh
  revert X; k_fill; intro X
  (refine' code_def (binds := [(Str.ofString "which", .int (i : Nat) t1)]) ?zqk1 ?zqk2 ?zqk3 ?zqk4 ?zqk5 ?zqkA ?zqkF ?zqkK ?zqk6 ?zqk7 ?zqk8 ?zqk9 ?zqkB ?_ ?zqc2 ?zqc3 ?zqc4 ?zqc5; walk_at "M:enter"; k_whole)
  intro g' L' h' FG' F' N' B' X' T'; (try dsimp only); (try k_lift B'); (try k_fold)
  k_steps
  all_goals
    with_reducible rename Fr h₀ L _ _ => F6
    with_reducible rename News h₀ L _ _ => N6
    with_reducible rename (i = _) => hi5
    subst hi5
    refine' ret _ _ _ [_, _, _, _, _, _, _] (.cons _ _ (.cons _ _ (.cons _ _ (.cons _ _ (.cons _ _ (.cons _ _ (.cons _ _ .nil))))))) F6 (cb_sub N6 ?hd (fun p hp => ?he))
    case hd => k_mem
    case he => k_mem
section
open PySem.Builtin PySem.Builtin.Re
theorem lines21 : True := by
  k_with_none
  (k_with "M:enter" => (
  (case zqkA => exact rfl); (case zqkF => assumption); (case zqkK => assumption); (case zqk1 => k_asm); (case zqk2 => k_asm); (case zqk3 => k_asm); (case zqk4 => k_asm); (case zqk5 => k_asm); (case zqk6 => k_is); (case zqk7 => k_is); (case zqk8 => k_room); (case zqk9 => first | exact BindsTo.of_eq rfl | exact binds_K (by k_in) rfl (by k_is) rfl rfl rfl); (case zqc5 => decide); (case zqkB => exact locs rfl); (case zqc2 => exact rfl); (case zqc3 => exact rfl); (case zqc4 => exact rfl)))
  (k_with "M:args" => (
  (case zqcB => k_asm); (case zqcF => k_asm); (case zqcX => k_asm); (case zqcN => k_asm); (case zqcT => k_asm); (case zqcA => exact rfl); (case zqcf => first | exact rfl | assumption); (case zqck => first | exact rfl | assumption); (case zqch => exact rfl); (case zqcr => k_room); (case zqcu => k_units)))
  (k_with "M:pat" => first | exact pat_name (by k_in) | exact pat_value (by k_in))
  (k_with "getMethod ref" => (k_here; (with_reducible show wpAny _ _ (getMethod (Value.ref _) (Str.ofString "search") _) _ _ _); k_dflt (refine' method_search (code := ?zqcd) ?zqP ?_; (case zqP => walk_at "M:pat"); k_whole)))
  (k_with "call builtin:re.Pattern.search" => (k_here; k_dflt (refine' call_search (code := ?zqcd) ?zqP ?zqC ?zqX ?zqL ?_; (case zqP => walk_at "M:pat"); (case zqC => first | exact .inl rfl | exact .inr rfl); (case zqX => assumption); (case zqL => assumption); k_whole)))
  (k_with "exec For" => (k_here; k_dflt (refine For_hold ?_)))
  (k_with "call builtin:str.lower" => (k_here; (with_reducible show wpAny _ _ (call (Value.builtin "str.lower") [Value.str _ _]) _ _ _); (refine SCL.lower (by omega) ?_; intro _)))
  (k_with "eval Name" => (k_here; (with_reducible show wpAny _ _ (eval _ (envOf _ _ _ _ _)) _ _ _); k_dflt (refine' ld ?zqk1 ?zqk2 ?_; (case zqk1 => k_asm); (case zqk2 => first | with_reducible assumption | ((try simp only []); assumption)); k_whole)))
  (k_with "assign Tuple" => (k_here; k_dflt (refine' assign_pair ?zqk0 ?zqk1 ?zqk2 ?zqk3 ?_ ?zqk4 ?zqk5 ?zqk6; (case zqk0 => exact rfl); (case zqk1 => k_asm); (case zqk2 => k_asm); (case zqk3 => k_mem); (case zqk4 => exact rfl); (case zqk5 => exact rfl); (case zqk6 => exact rfl); k_whole); intro h' tk' F' N'; (try k_sweep)))
  (k_with "call ref" => (k_here; (with_reducible show wpAny _ _ (call (Value.ref _) [_, Value.str _ _] _) _ _ _); k_dflt (refine wpAny_call ?_; (first | refine' conv_true ?zqcB ?zqcF ?zqcX ?zqcN ?zqcT ?zqcA ?zqcf ?zqck ?zqch ?zqcr ?zqcu ?zqx ?zql ?_ | refine' conv_false ?zqcB ?zqcF ?zqcX ?zqcN ?zqcT ?zqcA ?zqcf ?zqck ?zqch ?zqcr ?zqcu ?zqx ?zql ?_); walk_at "M:args"; (case zqx => assumption); (case zql => assumption); k_whole); intro h' tk' F' N'; (try dsimp only); (try k_sweep)))
  (k_with "storeName" => (k_here; (with_reducible show wpAny _ _ (storeName (envOfC _ _ _ _ _) _ _) _ _ _); k_dflt (refine' storeX_C ?zqF ?zqN ?zqc ?zqU ?zqd ?_ ?zqa ?zqb; (case zqa => rfl); (case zqb => rfl); (case zqF => k_asm); (case zqN => k_asm); (case zqc => rfl); (case zqU => k_updF); (case zqd => assumption); k_whole); intro h' o' F' N' d'; (try dsimp only at N'); (try k_sweep)))
  (k_with "eval ListComp" => (k_here; refine Hold.out ?_))
  (k_with "exec Assign cons ListComp" => (k_here; refine Hold.out ?_))
  (k_with "exec While" => (k_here; refine Hold.out ?_))
  (k_with "M:enterC" => (
  (case zqkA => exact rfl); (case zqkF => assumption); (case zqkK => assumption); (case zqk1 => k_asm); (case zqk2 => k_asm); (case zqk3 => k_asm); (case zqk4 => k_asm); (case zqk5 => k_asm); (case zqk6 => k_is); (case zqk7 => k_is); (case zqk8 => k_room); (case zqk9 => first | exact BindsTo.of_eq rfl | exact binds_K (by k_in) rfl (by k_is) rfl rfl rfl); (case zqkB => exact rfl); (case zqkD => decide +kernel); (case zqc2 => exact rfl); (case zqc3 => exact rfl); (case zqc4 => exact rfl)))
  (k_with "M:tab" => first | with_reducible assumption | (refine TabIn.cons ?_; walk_at "M:tab"))
  (k_with "call ref" => (k_here; (with_reducible show wpAny _ _ (call (Value.ref _) [_, Value.str _ _]) _ _ _); k_dflt (refine wpAny_call ?_; refine' del_ct ?zqcB ?zqcF ?zqcX ?zqcN ?zqcT ?zqcA ?zqcf ?zqck ?zqch ?zqcr ?zqcu ?zqt ?zql ?zqn1 ?zqn2 ?zqn3 ?_; walk_at "M:args"; (case zqt => walk_at "M:tab"); (case zql => assumption); (case zqn1 => assumption); (case zqn2 => assumption); (case zqn3 => assumption); k_whole); intro h' tk' news' vs' ln' F' N' U' TI'; (have hI' := TabIn.inst TI'); (have hD' := TabIn.dict TI'); (have hL' := TabIn.list TI'); (try dsimp only); (try k_sweep)))
  (k_with "delItem ref" => (k_here; (with_reducible show wpAny _ _ (delItem (Value.ref _) _) _ _ _); k_dflt (refine' own_delItem ?zqF ?zqX ?zqI ?zqhQ ?zqhS ?zqhF ?_; (case zqF => k_asm); (case zqX => k_asm); (case zqI => k_inst); (case zqhS => k_is); (case zqhF => k_is); (case zqhQ => k_is); k_whole)))
  (k_with "call builtin:list.append" => (k_here; k_dflt (refine' append_P ?zqf ?zqn ?zql ?zqz ?_; (case zqf => k_asm); (case zqn => k_asm); (case zql => k_mem); (case zqz => assumption); k_whole); intro h' F' N'; (try k_sweep)))
  (k_with "M:wish" => first | with_reducible assumption | (refine wishesIn.cons ?_; walk_at "M:wish"))
  (k_with "M:n1" => first | with_reducible assumption | (with_reducible first | exact Cfg.len (by assumption) _ | exact Cfg.ulen (by assumption) _ | exact Cfg.cl (by assumption) _ | exact Cfg.clu (by assumption) _ | exact Cfg.cll (by assumption) _ | exact Cfg.cllu (by assumption) _ | exact Cfg.sz (by assumption) _ | exact Cfg.szu (by assumption) _ | exact Cfg.szl (by assumption) _ | exact Cfg.szlu (by assumption) _ | exact Cfg.kcl (by assumption) _ (by assumption) | exact Cfg.ksz (by assumption) _ (by assumption)))
  (k_with "subscriptTail" => (k_here; (with_reducible show wpAny _ _ (subscriptTail _ _ (Value.ref _) (Value.str _ _)) _ _ _); k_dflt (refine' wish_item ?zqN ?zqW ?zqK ?_; (case zqN => k_asm); (case zqW => walk_at "M:wish"); (case zqK => assumption); k_whole); intro _; (try k_sweep)))
  (k_with "subscriptTail" => (k_here; (with_reducible show wpAny _ _ (subscriptTail _ _ (Value.ref _) (Value.int (Nat.cast _) _)) _ _ _); k_dflt (refine' name_item ?zqN ?zqM ?zqS ?zqP ?zqF ?_; (case zqN => k_asm); (case zqS => assumption); (case zqM => k_mem); (case zqP => assumption); (case zqF => assumption); k_whole); intro _; (try k_sweep)))
  (k_with "call ref" => (k_here; (with_reducible show wpAny _ _ (call (Value.ref _) [_, Value.str _ _]) _ _ _); k_dflt (refine wpAny_call ?_; refine' get_ct ?zqcB ?zqcF ?zqcX ?zqcN ?zqcT ?zqcA ?zqcf ?zqck ?zqch ?zqcr ?zqcu ?zqt ?zqn1 ?zqn2 ?zqn3 ?_ ?_; walk_at "M:args"; (case zqt => walk_at "M:tab"); (case zqn1 => walk_at "M:n1"); (case zqn2 => walk_at "M:n1"); (case zqn3 => walk_at "M:n1"); k_whole); (intro v' tv' h' tk' hlk' F' N'; (try have hgd' := look_good (St.good (by assumption)) hlk'); (try dsimp only); (try k_sweep)); rotate_left; (intro h' tk' hlk' F' N'; (try dsimp only); (try k_sweep))))
  (k_with "call ref" => (k_here; (with_reducible show wpAny _ _ (call (Value.ref _) [_, Value.str _ _, Value.str _ _]) _ _ _); k_dflt (refine wpAny_call ?_; refine' set_ct ?zqcB ?zqcF ?zqcX ?zqcN ?zqcT ?zqcA ?zqcf ?zqck ?zqch ?zqcr ?zqcu ?zqt ?zql ?zqn1 ?zqn2 ?zqn3 ?zqn4 ?zqn5 ?zqn6 ?zqn7 ?_; walk_at "M:args"; (case zqt => walk_at "M:tab"); (case zql => assumption); (case zqn1 => walk_at "M:n1"); (case zqn2 => walk_at "M:n1"); (case zqn3 => walk_at "M:n1"); (case zqn4 => walk_at "M:n1"); (case zqn5 => walk_at "M:n1"); (case zqn6 => walk_at "M:n1"); (case zqn7 => walk_at "M:n1"); k_whole); intro h' tk' news' vs' ln' F' N' U' TI'; (have hI' := TabIn.inst TI'); (have hD' := TabIn.dict TI'); (have hL' := TabIn.list TI'); (try dsimp only); (try k_sweep)))
  (k_with "call builtin:str.upper" => (k_here; (with_reducible show wpAny _ _ (call (Value.builtin "str.upper") [Value.str _ _]) _ _ _); (refine SCL.upper (by with_reducible assumption) ?_; intro _)))
  (k_with "subscriptTail" => (k_here; (with_reducible show wpAny _ _ (subscriptTail _ (Expr.Slice none (some _) none _) (Value.str _ _) (Value.ref _)) _ _ _); (with_reducible rename Fr _ _ _ _ => F'); (with_reducible rename News _ _ _ _ => N'); (refine slice_strN_ns (hsz := ?zqhsz) (s := ⟨_, _, _, _, _⟩) F' N' ?_); (case zqhsz => assumption); intro _ _ _ _ _))
  (k_with "M:st" => first | with_reducible assumption | (refine St.cons ?_; walk_at "M:st"))
  (k_with "call ref" => (k_here; (with_reducible show wpAny _ _ (call (Value.ref _) [_, Value.str _ _, Value.str _ _]) _ _ _); k_dflt (refine wpAny_call ?_; refine' lay_ct ?zqcB ?zqcF ?zqcX ?zqcN ?zqcT ?zqcA ?zqcf ?zqck ?zqch ?zqcr ?zqcu ?zqt ?zql ?zqk ?_; walk_at "M:args"; (case zqt => walk_at "M:st"); (case zql => omega); (case zqk => assumption); k_whole); intro h' tk' news' vs' ln' F' N' U' S'; (have hI' := S'.tab.inst); (have hD' := S'.tab.dict); (have hL' := S'.tab.list); (have hTI' := S'.tab); (have hnam' := S'.nam); (have hwsh' := S'.wsh); (try dsimp only); (try k_sweep)))
  (k_with "call ref" => (k_here; (with_reducible show wpAny _ _ (call (Value.ref _) [Value.int _ _, Value.ref _, Value.int _ _, Value.str _ _, Value.str _ _]) _ _ _); k_dflt (refine wpAny_call ?_; refine' before_ct ?zqcB ?zqcF ?zqcX ?zqcN ?zqcT ?zqcA ?zqcf ?zqck ?zqch ?zqcr ?zqcu ?zqz ?zqp ?zqW ?zqk1 ?zqk2 ?_; walk_at "M:args"; (case zqz => omega); (case zqp => omega); (case zqW => walk_at "M:wish"); (case zqk1 => assumption); (case zqk2 => assumption); k_whole); intro h' tk' F' N'; (try dsimp only); (try k_sweep)))
  (k_with "call builtin:len" => (k_here; k_dflt (refine' len_strsA ?zql ?zqi ?zqf ?_; (case zqi => assumption); (case zql => exact News.isList (by k_asm) (by k_mem)); (case zqf => omega); k_whole)))
  (k_with "call ref" => (k_here; (with_reducible show wpAny _ _ (call (Value.ref _) [_, Value.str _ _]) _ _ _); k_dflt (refine wpAny_call ?_; refine' del2_ct ?zqcB ?zqcF ?zqcX ?zqcN ?zqcT ?zqcA ?zqcf ?zqck ?zqch ?zqcr ?zqcu ?zqt ?zql ?zqn1 ?zqn2 ?zqn3 ?_; walk_at "M:args"; (case zqt => walk_at "M:st"); (case zql => omega); (case zqn1 => walk_at "M:n1"); (case zqn2 => walk_at "M:n1"); (case zqn3 => walk_at "M:n1"); k_whole); intro h' tk' news' vs' ln' F' N' U' S'; (have hI' := S'.tab.inst); (have hD' := S'.tab.dict); (have hL' := S'.tab.list); (have hTI' := S'.tab); (have hnam' := S'.nam); (have hwsh' := S'.wsh); (try dsimp only); (try k_sweep)))
  (k_with "binaryOp Mod int int" => (k_here; (with_reducible show wpAny _ _ (binaryOp Operator.Mod (Value.int (HAdd.hAdd (Nat.cast _) _) _) (Value.int (Nat.cast _) _)) _ _ _); k_dflt (refine mod_nxt (by assumption) ?_; intro _)))
  (k_with "M:st" => with_reducible first | assumption | exact St.cons (by assumption) | exact St.cons (St.cons (by assumption)) | exact St.cons (St.cons (St.cons (by assumption))) | exact St.cons (St.cons (St.cons (St.cons (by assumption)))))
  (k_with "M:tab" => with_reducible first | assumption | exact TabIn.cons (by assumption) | exact TabIn.cons (TabIn.cons (by assumption)) | exact TabIn.cons (TabIn.cons (TabIn.cons (by assumption))) | exact TabIn.cons (TabIn.cons (TabIn.cons (TabIn.cons (by assumption)))))
  (k_with "M:wish" => with_reducible first | assumption | exact wishesIn.cons (by assumption) | exact wishesIn.cons (wishesIn.cons (by assumption)) | exact wishesIn.cons (wishesIn.cons (wishesIn.cons (by assumption))) | exact wishesIn.cons (wishesIn.cons (wishesIn.cons (wishesIn.cons (by assumption)))))
  (k_with "call builtin:len" => (k_here; k_dflt (refine' len_ys ?zql ?zqi ?zqk ?zqf ?_; (case zql => k_asm); (case zqi => k_mem); (case zqk => assumption); (case zqf => omega); k_whole)))
  (k_with "subscriptTail" => (k_here; (with_reducible show wpAny _ _ (subscriptTail _ _ (Value.ref _) (Value.str _ _)) _ _ _); k_dflt (refine' wish_itemN ?zqN ?zqW ?zqK ?zqZ ?_; (case zqN => k_asm); (case zqW => walk_at "M:wish"); (case zqK => assumption); (case zqZ => assumption); k_whole); intro _; (try k_sweep)))
  (k_with "call ref" => (k_here; (with_reducible show wpAny _ _ (call (Value.ref _) _) _ _ _); k_dflt (refine wpAny_call ?_; refine' keys_ct ?zqcB ?zqcF ?zqcX ?zqcN ?zqcT ?zqcA ?zqcf ?zqck ?zqch ?zqcr ?zqcu ?zqt ?zql ?_; walk_at "M:args"; (case zqt => walk_at "M:tab"); (case zql => omega); k_whole); intro h' tk' D' ys' hys' F' N' off'; (try dsimp only); (try k_sweep)))
  (k_with "call ref" => (k_here; (with_reducible show wpAny _ _ (call (Value.ref _) [Value.ref _, Value.ref _, Value.ref _, Value.int _ _]) _ _ _); k_dflt (refine wpAny_call ?_; refine' take_ct ?zqcB ?zqcF ?zqcX ?zqcN ?zqcT ?zqcA ?zqcf ?zqck ?zqch ?zqcr ?zqcu ?zqt ?zqp ?zql ?zqe ?_; walk_at "M:args"; (case zqt => walk_at "M:st"); (case zqe => first | with_reducible assumption | exact DeedS.take (by with_reducible assumption) (by assumption)); (case zqp => assumption); (case zql => omega); k_whole); intro h' tk' news' vs' ln' F' N' U' S'; (have hI' := S'.tab.inst); (have hD' := S'.tab.dict); (have hL' := S'.tab.list); (have hTI' := S'.tab); (have hnam' := S'.nam); (have hwsh' := S'.wsh); (try dsimp only); (try k_sweep)))
  (k_with "call ref" => (k_here; (with_reducible show wpAny _ _ (call (Value.ref _) [Value.ref _, Value.ref _, Value.ref _, Value.int _ _, Value.str _ _]) _ _ _); k_dflt (refine wpAny_call ?_; refine' put_ct ?zqcB ?zqcF ?zqcX ?zqcN ?zqcT ?zqcA ?zqcf ?zqck ?zqch ?zqcr ?zqcu ?zqt ?zqp ?zql ?zqk ?zqe ?_; walk_at "M:args"; (case zqt => walk_at "M:st"); (case zqe => first | with_reducible assumption | exact DeedN.put (by with_reducible assumption) (by omega) | exact DeedS.put (by with_reducible assumption) (by assumption) (by omega)); (case zqp => assumption); (case zql => omega); (case zqk => assumption); k_whole); intro h' tk' news' vs' ln' F' N' U' S'; (have hI' := S'.tab.inst); (have hD' := S'.tab.dict); (have hL' := S'.tab.list); (have hTI' := S'.tab); (have hnam' := S'.nam); (have hwsh' := S'.wsh); (try dsimp only); (try k_sweep)))
  (k_with "getMethod ref" => (k_here; (with_reducible show wpAny _ _ (getMethod (Value.ref _) (PySem.Str.ofString "count") _) _ _ _); k_dflt (refine' kl_method ?zqN ?zqm PySem.F.slot_list_count PySem.F.type_list_count ?_; (case zqN => k_asm); (case zqm => k_mem))))
  (k_with "call builtin:list.count" => (k_here; (with_reducible show wpAny _ _ (call (Value.builtin _) [Value.ref _, Value.int _ _]) _ _ _); k_dflt (refine' count_list_ints ?zql ?zqi ?_; (case zqi => assumption); (case zql => exact News.isList (by k_asm) (by k_mem)); k_whole)))
  (k_with "exec For Name Call cons nil" => (k_here; k_dflt (refine For_hold ?_)))
  (k_with "call builtin:len" => (k_here; k_dflt (refine' len_nms ?zqn ?zqm ?zqi ?zqf ?_; (case zqn => k_asm); (case zqm => k_mem); (case zqi => assumption); (case zqf => assumption); k_whole)))
  (k_with "eval Name" => (k_here; (with_reducible show wpAny _ _ (eval _ (envOfC _ _ _ _ _)) _ _ _); k_dflt (refine' nameX_L ?zqF ?zqv ?_ ?zqa ?zqb; (case zqa => rfl); (case zqb => rfl); (case zqF => k_asm); (case zqv => first | with_reducible assumption | ((try simp only []); assumption)); k_whole)))
  (k_with "subscriptTail" => (k_here; (with_reducible show wpAny _ _ (subscriptTail _ _ (Value.ref _) (Value.int (Int.fmod _ _) _)) _ _ _); k_dflt (refine' name_itemZ ?zqN ?zqM ?zqS ?zqP ?zqF ?_; (case zqN => k_asm); (case zqS => assumption); (case zqM => k_mem); (case zqP => assumption); (case zqF => assumption); k_whole); intro _; (try k_sweep)))
  (k_with "call builtin:str.upper" => (k_here; (with_reducible show wpAny _ _ (call (Value.builtin "str.upper") [Value.str _ _]) _ _ _); (refine SCL.upper (by first | with_reducible assumption | exact Nat.le_trans (Nat.le_of_lt (Cfg.len (by assumption) _)) (by decide)) ?_; intro _)))
  (k_with "M:wish" => first | with_reducible assumption | exact wishesIn.mono (by with_reducible assumption) (fun _ hp' => by k_mem))
  (k_with "call ref" => (k_here; (with_reducible show wpAny _ _ (call (Value.ref _) [Value.ref _, Value.int _ _, Value.int _ _]) _ _ _); k_dflt (refine wpAny_call ?_; refine' excess_ct ?zqcB ?zqcF ?zqcX ?zqcN ?zqcT ?zqcA ?zqcf ?zqck ?zqch ?zqcr ?zqcu ?zqm ?zqi ?zqz0 ?zqz1 ?zqzl ?_; walk_at "M:args"; (case zqm => k_mem); (case zqi => assumption); (case zqz0 => omega); (case zqz1 => omega); (case zqzl => assumption); k_whole); intro h' tk' t' F' N'; (try dsimp only); (try k_sweep)))
  (k_with "M:sh" => first | with_reducible assumption | with_reducible exact letF_sh _ | with_reducible exact charF_sh _ | with_reducible exact sign_sh _ | with_reducible exact lit_sh _ (by decide +kernel))
  (k_with "binaryOp Add str str" => (k_here; (with_reducible show wpAny _ _ (binaryOp Operator.Add (Value.str _ _) (Value.str _ _)) _ _ _); k_dflt (refine' str_add ?zqha ?zqhb ?zqhc ?_; (case zqha => walk_at "M:sh"); (case zqhb => walk_at "M:sh"); (case zqhc => decide); k_whole); intro t' k' htk' hsh'; (try dsimp only at htk')))
  (k_with "call builtin:str.replace" => (k_here; (with_reducible show wpAny _ _ (call (Value.builtin _) [Value.str _ _, Value.str _ _, Value.str _ _]) _ _ _); k_dflt (refine' str_rep ?zqha ?zqhb ?zqhc ?zqhu ?zqhv ?zqhuv ?zqhyz ?_; (case zqha => walk_at "M:sh"); (case zqhb => walk_at "M:sh"); (case zqhc => decide); (case zqhu => ((try dsimp only); omega)); (case zqhv => ((try dsimp only); omega)); (case zqhuv => ((try dsimp only); omega)); (case zqhyz => decide +kernel); k_whole); intro t' k'))
  (k_with "subscriptTail" => (k_here; (with_reducible show wpAny _ _ (subscriptTail _ _ (Value.ref _) (Value.int (Int.fmod _ _) _)) _ _ _); k_dflt (refine' sign_item ?zqN ?zqM ?zqS ?_; (case zqN => k_asm); (case zqM => k_mem); (case zqS => exact .cons _ _ (.cons _ _ (.cons _ _ (.cons _ _ (.cons _ _ (.cons _ _ (.cons _ _ .nil))))))); k_whole); intro _; (try k_sweep)))
  (k_with "subscriptTail" => (k_here; (with_reducible show wpAny _ _ (subscriptTail _ _ (Value.str (Str.ofString "Bab") _) (Value.int (Int.fmod (Int.fdiv _ _) _) _)) _ _ _); k_dflt (refine bab_item ?_)))
  (k_with "subscriptTail" => (k_here; (with_reducible show wpAny _ _ (subscriptTail _ _ (Value.str (Str.ofString "&\r<\n>\t\"") _) (Value.int (Int.fmod _ _) _)) _ _ _); k_dflt (refine char_item ?_)))
  (k_with "M:sh" => with_reducible exact item_sh _ _)
  (k_with "binaryOp Add str str" => (k_here; (with_reducible show wpAny _ _ (binaryOp Operator.Add (Value.str _ _) (Value.str _ _)) _ _ _); k_dflt (refine' str_add ?zqha ?zqhb ?zqhc ?_; (case zqha => walk_at "M:sh"); (case zqhb => walk_at "M:sh"); (case zqhc => first | decide | omega); k_whole); intro t' k' htk' hsh'; (try dsimp only at htk')))
  (k_with "subscriptTail" => (k_here; (with_reducible show wpAny _ _ (subscriptTail _ _ (Value.str _ _) (Value.int _ _)) _ _ _); k_dflt (refine' str_itemZ ?zqha ?zqhb ?zqhc ?_; (case zqha => with_reducible assumption); (case zqhb => omega); (case zqhc => omega); k_whole)))
  trivial
theorem freshW19 : True := by
  try row_walk
  trivial
/-- one control sign -/
noncomputable def Dirt (x : Str) : Prop := x.cps = #[9] ∨ x.cps = #[10] ∨ x.cps = #[13]
theorem dirt_run {x : Str} (hx : Dirt x) : (match ((Sre.forSearch nameCode x.cps 0 0 x.cps.size false).runFor reTurnSteps).outcome with | some .matched => true | _ => false) = true := by
  rcases hx with h | h | h <;> rw [h] <;> decide +kernel
theorem dirt_end {M : Model} {A : Around} {E : Value → Shared → Prop} {s : Shared} (m : Sre.M) (ho : (match (m.runFor reTurnSteps).outcome with | some .matched => true | _ => false) = true) {Q : Option Sre.M → Shared → Prop} (h : Q (some (m.runFor reTurnSteps)) s) :
    wpAny M A (reRunToEnd m) Q E s := by
  have hs : (m.runFor reTurnSteps).outcome = some .matched := by
    generalize (m.runFor reTurnSteps).outcome = o at ho
    rcases o with _ | _ | _ | _ <;> first | rfl | cases ho
  unfold reRunToEnd
  have e : reDrive (2 ^ 64) m = pure (m.runFor reTurnSteps) := by
    have := reDrive_one (2 ^ 64 - 1) m (by rw [hs]; rfl)
    rw [show (2 ^ 64 - 1 + 1 : Nat) = 2 ^ 64 from by decide] at this
    exact this
  rw [e]
  generalize m.runFor reTurnSteps = m' at hs h
  refine wpAny_bind (wpAny_pure ?_)
  refine wpAny_bind (wpAny_forIn_list _ (fun _ _ s' => s' = s) _ ?_ ?_ _ _ rfl)
  · intro x rest b s' hs'
    subst hs'
    split
    · exact wpAny_bind (wpAny_rule (wpAny_pure rfl))
    · exact wpAny_pure rfl
  · intro b s' hs'
    subst hs'
    rw [hs]
    exact wpAny_pure h
theorem meets_dirt {prog : Program} {w : World} (P : Addr) (x : Str) (t : Tok) (hx : Dirt x) :
    MeetsIn prog w (Builtin.«re.Pattern.search» ⟨[.ref P, .str x t], []⟩) (fun _ R s => Pattern s.heap P nameCode ∧ ∀ T O : Obj, T.isFreed = false → O.isFreed = false → O.cls = .type "re.Match" → R (.ok (.ret (.ref (s.heap.push T).objs.size))) { s with heap := (s.heap.push T).push O }) := by
  intro A R s ⟨hP, hR⟩
  obtain ⟨o, l, f0, f1, ho, hc, hdn, hd, ol, its, n, hol, hld, hcd⟩ := hP
  have e1 : reNamed "re.Pattern.search" "search" ["string", "pos", "endpos"] 1 [Value.str x t] [] = pure [some (.str x t), none, none] := by kernel_rfl
  have hsz : x.cps.size < 1000000 := by rcases hx with h | h | h <;> rw [h] <;> decide
  unfold Builtin.«re.Pattern.search» reTarget
  simp only [e1, pure_bind]
  refine wpAny_bind ?_
  refine wpAny_bind (wpAny_fieldsOf ho hd ?_)
  have e2 : reTextOf (.str x t) = pure (x.cps, 0) := rfl
  rw [e2]
  refine wpAny_bind (wpAny_pure ?_)
  have e3 : reRawNat ((patFields f0 f1 l).getD 6 .none) = 0 := rfl
  have e4 : (patFields f0 f1 l).getD 5 .none = .ref l := rfl
  have e5 : reRawNat ((patFields f0 f1 l).getD 2 .none) = 0 := rfl
  simp only [e3, e4, e5]
  have e6 : reNoCollectionInside (.str x t) 0 = pure () := rfl
  simp only [e6, reRawItems]
  rw [if_neg (by decide), if_neg (by decide)]
  refine wpAny_bind (wpAny_pure (wpAny_bind ?_))
  refine wpAny_bind (wpAny_seqItems hol hld (wpAny_pure (wpAny_pure ?_)))
  dsimp only [Option.getD_some]
  rw [hcd]
  have e7 : min (Int.toNat 0) x.cps.size = 0 := by simp
  have e8 : min (Int.toNat (2 ^ 63 - 1)) x.cps.size = x.cps.size := by omega
  rw [e7, e8]
  unfold reAnswer
  refine wpAny_bind (dirt_end _ (dirt_run hx) ?_)
  generalize (Sre.forSearch nameCode x.cps 0 0 x.cps.size false).runFor reTurnSteps = m'
  dsimp only
  refine wpAny_bind ?_
  unfold reNewMatch
  simp only [List.range_zero, List.flatMap_nil, List.any_nil, Bool.false_eq_true, if_false]
  refine wpAny_bind (wpAny_newTuple ?_ (by size_fits))
  unfold newFields
  refine wpAny_newObj_type ?_ ?_
  · exact wpAny_pure (hR _ _ rfl rfl rfl)
  · size_fits
theorem search_found {prog : Program} {w : World} {A : Around} {E : Value → Shared → Prop} {s : Shared} {g : Heap} {L : Addr} {m : Str → Option Value} {news : List (Addr × Obj)} {P : Addr} {x : Str} {t : Tok} {Q : Value → Shared → Prop}
    (F : Fr g L s.heap m) (N : News g L s.heap news) (hP : Pattern s.heap P nameCode) (hx : Dirt x) (h : ∀ h' a O, Fr g L h' m → News g L h' ((a, O) :: news) → O.cls = .type "re.Match" → Q (.ref a) { s with heap := h' }) :
    wpAny (model prog w) A (call (.builtin "re.Pattern.search") [.ref P, .str x t]) Q E s :=
  call_meetsIn slot_pat_search (pat_type hP) entry_pat_search (args_pat_search _ _) (meets_dirt P x t hx)
    ⟨hP, fun T O hT hO hc => h _ _ O ((F.push T).push O) (cb_drop (News.push (F.push T) (News.push F N T hT) O hO) fun p hp => by
      rcases List.mem_cons.mp hp with rfl | hp
      · exact List.mem_cons_self ..
      · exact List.mem_cons_of_mem _ (List.mem_cons_of_mem _ hp)) hc⟩
theorem noBool_match : typeLookup (.type "re.Match") "__bool__" = pure none := by rw [typeLookup_type, builtinLookup_eq_fast]; kernel_rfl
theorem noLen_match : typeLookup (.type "re.Match") "__len__" = pure none := by rw [typeLookup_type, builtinLookup_eq_fast]; kernel_rfl
theorem truthy_match {M : Model} {A : Around} {E : Value → Shared → Prop} {s : Shared} {a : Addr} {Q : Bool → Shared → Prop} (hT : s.TypeIs (.ref a) "re.Match") (h : Q true s) : wpAny M A (truthy (.ref a)) Q E s := by
  unfold truthy
  first
    | refine wpAny_bind (wpAny_callSpecial?_none (name := Str.ofString "__bool__") hT noBool_match ?_)
    | refine wpAny_bind (wpAny_pure (wpAny_bind (wpAny_callSpecial?_none (name := Str.ofString "__bool__") hT noBool_match ?_)))
  first
    | refine wpAny_bind (wpAny_specialOf (name := Str.ofString "__len__") hT noLen_match ?_)
    | refine wpAny_bind (wpAny_pure (wpAny_bind (wpAny_specialOf (name := Str.ofString "__len__") hT noLen_match ?_)))
  exact wpAny_pure h
theorem truthy_found {M : Model} {A : Around} {E : Value → Shared → Prop} {s : Shared} {g : Heap} {L a : Addr} {O : Obj} {news : List (Addr × Obj)} {Q : Bool → Shared → Prop} (N : News g L s.heap news) (hm : (a, O) ∈ news) (hc : O.cls = .type "re.Match") (h : Q true s) : wpAny M A (truthy (.ref a)) Q E s :=
  truthy_match ⟨O, N.get hm, hc⟩ h
end
section
variable {prog : Program} {w : World} {A : Around} {E : Value → Shared → Prop} {s : Shared} {env : Env}
noncomputable def TurnG (s : Shared) (Gr : Heap → Prop) (L I : Addr) (it : Obj) (J : (Str → Option Value) → List (Addr × Obj) → Prop) (s₃ : Shared) : Prop :=
  ∃ g h' tk' m' n', Gr g ∧ s₃ = { s with heap := h', toks := tk' } ∧ Fr g L h' m' ∧ News g L h' ((I, it) :: n') ∧ OffI I it n' ∧ J m' n'
theorem TurnG.intro {s : Shared} {Gr : Heap → Prop} {g : Heap} {L I : Addr} {it : Obj} {J : (Str → Option Value) → List (Addr × Obj) → Prop} {h' : Heap} {tk' : Nat} {m' : Str → Option Value} {n' : List (Addr × Obj)}
    (G : Gr g) (F : Fr g L h' m') (N : News g L h' ((I, it) :: n')) (o : OffI I it n') (j : J m' n') : TurnG s Gr L I it J { s with heap := h', toks := tk' } := ⟨g, h', tk', m', n', G, rfl, F, N, o, j⟩
theorem iter_range_G {g : Heap} {L r : Addr} {a b : Int} {k : Nat} {t u v : Tok} {m : Str → Option Value} {news : List (Addr × Obj)} {R : Result → Shared → Prop} {target : Expr} {body : List Stmt}
    (hh : A.handled = none) (Gr : Heap → Prop) (hG : Gr g) (F : Fr g L s.heap m) (N : News g L s.heap news) (hr : IsRange s.heap r a b 1 t u v) (hsm : Builtin.Range.small a b 1 = true) (hk : Builtin.Range.rangeSize a b 1 = (k : Int))
    (J : Nat → (Str → Option Value) → List (Addr × Obj) → Prop) (h0 : J 0 m news)
    (turn : ∀ g (i : Nat) tv m' news' I it h tk, Gr g → i < k → J i m' news' → it.cls = .type "range_iterator" → Fr g L h m' → News g L h ((I, it) :: news') → OffI I it news' →
      wpAny (model prog w) A (assign target env (.int (a + (i : Int)) tv)) (fun _ s₂ => wpAny (model prog w) A (execs body env) (fun f s₃ => match f with
        | .next | .cont => TurnG s Gr L I it (J (i + 1)) s₃
        | .brk => R (.ok .next) s₃
        | .ret v => R (.ok (.ret v)) s₃) NoE s₂) NoE { s with heap := h, toks := tk })
    (done : ∀ g h tk m' news', Gr g → J k m' news' → Fr g L h m' → News g L h news' → R (.ok .next) { s with heap := h, toks := tk })
    (ht : ∀ v, letOwnedTupleGo target (.ref s.heap.objs.size) v = pure () := by intro _; rfl) :
    wpAny (model prog w) A (pyIter (.ref r)) (fun it s₂ => codeAny (model prog w) A (.forLoop target it body [] env) R s₂) E s := by
  refine wpAny_pyIter_range hr hsm ?_
  rw [hk]
  have hI : ∀ b o, s.heap.get? b = some o → b ≠ s.heap.objs.size := fun b o e => Nat.ne_of_lt (Heap.lt_size e)
  have hLlt : L < s.heap.objs.size := F.ns.lt
  have hpush : ∀ b o, s.heap.get? b = some o → (s.heap.push { cls := .type "range_iterator", data := .fields #[rawInt a, rawInt (k : Int), rawInt 1] }).get? b = some o := fun b o e => Heap.get?_push_of_some _ e
  have hit0 : IsRangeIter (s.heap.push { cls := .type "range_iterator", data := .fields #[rawInt a, rawInt (k : Int), rawInt 1] }) s.heap.objs.size a k 1 := Heap.get?_push_size _ rfl
  have hsz := F.above
  generalize hIe : s.heap.objs.size = I at *
  have hgI : g.get? I = none := by
    cases q : g.get? I with
    | none => rfl
    | some o => exact absurd (Nat.lt_of_lt_of_le (Heap.lt_size q) hsz) (Nat.not_lt.mpr (Nat.le_of_lt hLlt))
  have hLI : L ≠ I := Nat.ne_of_lt hLlt
  refine codeAny_forLoop (fun n s' => ∃ (g : Heap) (i : Nat) (h : Heap) (tk : Nat) (m' : Str → Option Value) (news' : List (Addr × Obj)), Gr g ∧ n = k + 1 - i ∧ i ≤ k ∧ s' = { s with heap := h, toks := tk } ∧ IsRangeIter h I (a + (i : Int)) ((k : Int) - (i : Int)) 1 ∧ Fr g L h m' ∧ News g L h news' ∧ (∀ p ∈ news', p.1 ≠ I) ∧ J i m' news') ?_ (k + 1) ?_ ht
  · rintro n s' ⟨g, i, h, tk, m', news', hG, rfl, hi, rfl, hit, F', N', off, hJ⟩
    have hgI : g.get? I = none := by
      cases q : g.get? I with
      | none => rfl
      | some o => exact absurd (Nat.lt_of_lt_of_le (Heap.lt_size q) F'.above) (Nat.not_lt.mpr (Nat.le_of_lt hLlt))
    by_cases hlt : i < k
    · refine wpAny_pyNext_range_item hit (by omega) fun h₁ hit₁ hs₁ => ?_
      have F₁ : Fr g L h₁ m' := by
        obtain ⟨oL, a1, a2, e1, r⟩ := F'.ns
        exact ⟨⟨oL, a1, a2, (hs₁.2 _ hLI).trans e1, r⟩, fun b o e => (hs₁.2 b (fun q => by rw [q, hgI] at e; cases e)).trans (F'.keep b o e), F'.above⟩
      have N₁ : News g L h₁ ((I, itR (a + (i : Int) + 1) ((k : Int) - (i : Int) - 1)) :: news') := fun p hp => by
        rcases List.mem_cons.mp hp with rfl | hp
        · exact ⟨hit₁, Ne.symm hLI, hgI⟩
        · exact ⟨(hs₁.2 _ (off p hp)).trans (N' p hp).1, (N' p hp).2⟩
      refine wpAny_mono (turn g i _ m' news' I _ h₁ _ hG hlt hJ rfl F₁ N₁ (fun p hp => .inl (off p hp))) (fun _ s₂ h₂ => ?_) (fun _ _ x => x.elim)
      refine wpAny_mono h₂ (fun f s₃ h₃ => ?_) (fun _ _ x => x.elim)
      have key : TurnG s Gr L I (itR (a + (i : Int) + 1) ((k : Int) - (i : Int) - 1)) (J (i + 1)) s₃ →
          ∃ m, m < k + 1 - i ∧ ∃ (g : Heap) (i' : Nat) (h : Heap) (tk : Nat) (m' : Str → Option Value) (news' : List (Addr × Obj)), Gr g ∧ m = k + 1 - i' ∧ i' ≤ k ∧ s₃ = { s with heap := h, toks := tk } ∧ IsRangeIter h I (a + (i' : Int)) ((k : Int) - (i' : Int)) 1 ∧ Fr g L h m' ∧ News g L h news' ∧ (∀ p ∈ news', p.1 ≠ I) ∧ J i' m' news' := by
        rintro ⟨g₃, h', tk', m'', news'', hG₃, rfl, F₃, N₃, off₃, hJ₃⟩
        have e1 : a + ((i + 1 : Nat) : Int) = a + (i : Int) + 1 := by omega
        have e2 : (k : Int) - ((i + 1 : Nat) : Int) = (k : Int) - (i : Int) - 1 := by omega
        exact ⟨k + 1 - (i + 1), by omega, g₃, i + 1, h', tk', m'', news'', hG₃, rfl, hlt, rfl, by rw [e1, e2]; exact (N₃ _ (List.mem_cons_self ..)).1, F₃, fun p hp => N₃ p (List.mem_cons_of_mem _ hp), off₃.ne N₃, hJ₃⟩
      cases f with
      | next => exact key h₃
      | cont => exact key h₃
      | brk => exact h₃
      | ret v => exact h₃
    · have hik : i = k := Nat.le_antisymm hi (Nat.not_lt.mp hlt)
      subst hik
      refine wpAny_pyNext_range_end hh hit (by omega) fun h₁ he => wpAny_execs_nil (done g h₁ tk m' news' hG hJ ?_ ?_)
      · obtain ⟨oL, a1, a2, e1, r⟩ := F'.ns
        exact ⟨⟨oL, a1, a2, he _ _ hLI e1, r⟩, fun b o e => he b o (fun q => by rw [q, hgI] at e; cases e) (F'.keep b o e), F'.above⟩
      · exact fun p hp => ⟨he _ _ (off p hp) (N' p hp).1, (N' p hp).2⟩
  · exact ⟨g, 0, _, s.toks, m, news, hG, rfl, Nat.zero_le _, rfl, by simpa using hit0, F.keeps hpush, N.grown hpush, fun p hp => hI _ _ (N p hp).1, h0⟩
end
theorem freshW20 : True := by
  try row_walk
  trivial
noncomputable def cleanB (x : Str) : Bool := x.cps.toList.all fun c => decide (32 ≤ c) && decide (c < 127)
theorem cleanB.clean {x : Str} (h : cleanB x = true) : Clean x := by
  intro c hc
  have := List.all_eq_true.mp h c hc
  simpa using this
noncomputable def freeL (nms : List Str) (i : Nat) : List Nat := (List.range i).filter fun k => cleanB (Txt.lower (nmAt nms k))
theorem freeL_yes {nms : List Str} {i : Nat} (h : cleanB (Txt.lower (nmAt nms i)) = true) : freeL nms (i + 1) = freeL nms i ++ [i] := by
  unfold freeL; rw [List.range_succ, List.filter_append, List.filter_cons, if_pos h, List.filter_nil]
theorem freeL_no {nms : List Str} {i : Nat} (h : cleanB (Txt.lower (nmAt nms i)) = false) : freeL nms (i + 1) = freeL nms i := by
  unfold freeL; rw [List.range_succ, List.filter_append, List.filter_cons, if_neg (by rw [h]; decide), List.filter_nil, List.append_nil]
theorem freeL_len (nms : List Str) (i : Nat) : (freeL nms i).length ≤ i := by
  have := List.length_filter_le (fun k => cleanB (Txt.lower (nmAt nms k))) (List.range i)
  rw [List.length_range] at this; exact this
theorem free_end {g h : Heap} {L I D : Addr} {it old : Obj} {ys : List Value} {v : Value} {kd : Nat} {news : List (Addr × Obj)}
    (N : News g L h (putAt D (listOf (ys.toArray.push v) (kd + 1)) ((I, it) :: (D, old) :: news))) (hID : I ≠ D) (hn : ∀ p ∈ news, p.1 ≠ D) : News g L h ((I, it) :: (D, listOf (ys ++ [v]).toArray (kd + 1)) :: news) := by
  refine cb_drop N ?_
  intro p hp
  simp only [List.mem_cons] at hp
  rcases hp with rfl | rfl | hp
  · exact putAt_mem (List.mem_cons_self ..) hID
  · rw [show (ys ++ [v]).toArray = ys.toArray.push v by simp]
    exact putAt_self
  · exact putAt_mem (List.mem_cons_of_mem _ (List.mem_cons_of_mem _ hp)) (hn p hp)
theorem off_put {D I : Addr} {it o o' : Obj} {news : List (Addr × Obj)} (h : ∀ p ∈ ((D, o) :: news), p.1 ≠ I) : OffI I it ((D, o') :: news) := by
  intro p hp
  rcases List.mem_cons.mp hp with rfl | hp
  · exact .inl (h (D, o) (List.mem_cons_self ..))
  · exact .inl (h p (List.mem_cons_of_mem _ hp))
structure FreeJ (t nl D : Addr) (news : List (Addr × Obj)) (nms : List Str) (i : Nat) (m : Str → Option Value) (n : List (Addr × Obj)) : Prop where
  ex : ∃ ys kd, n = (D, listOf ys.toArray kd) :: news ∧ IntsAre ys ((freeL nms i).map fun (k : Nat) => (k : Int))
  m1 : m (Str.ofString "table") = some (.ref t)
  m2 : m (Str.ofString "names") = some (.ref nl)
  m3 : m (Str.ofString "free") = some (.ref D)
theorem lines22 : True := by
  (k_with "call type:str" => (k_here; (with_reducible show wpAny _ _ (call (Value.type "str") [Value.ref _]) _ _ _); k_dflt (refine' str_got_one PySem.F.excStr_ValueError ?zqN ?zqG ?zqu ?_; (case zqG => assumption); (case zqN => assumption); (case zqu => k_units); k_whole)))
  (k_with "call builtin:re.Pattern.search" => (k_here; k_dflt (refine' search_found ?zqF ?zqN ?zqP ?zqX ?_; (case zqF => k_asm); (case zqN => k_asm); (case zqP => walk_at "M:pat"); (case zqX => assumption); k_whole); intro h' a' O' F' N' hO'; (try k_sweep)))
  (k_with "truthy ref" => (k_here; (with_reducible show wpAny _ _ (truthy (Value.ref _)) _ _ _); k_dflt (refine' truthy_found ?zqN ?zqm ?zqc ?_; (case zqc => with_reducible assumption); (case zqN => k_asm); (case zqm => k_mem); k_whole)))
  trivial
set_option maxHeartbeats 4000000 in
theorem free_ct {w : World} {mean : ExcName → Option Value} {mg mb : Str → Option Value} {A A₀ : Around} {base h₀ : Heap} {env : Env} {L : Addr} {m : Str → Option Value} {news : List (Addr × Obj)} {s : Shared} {R : Result → Shared → Prop}
  (B : Below A₀ base [] h₀) (F : Fr h₀ L s.heap m) (X : (hd.heap_39 w.params).In h₀) (N : News h₀ L s.heap news) (T : Top hd.view_39 loose mean mg mb h₀) (hA : A.frames = some [env]) (hf : env.frame = some L) (hke : env.scope.kind = .function) (hh : A.handled = none) (XB : (hd.heap_39 w.params).In base) (TB : Top hd.view_39 loose mean mg mb base) (hroom : A.depth + 12 < recursionLimit) (hun : A.units + 100 < cLine)
  {t l d : Addr} {hs : Int} {tkk : Tok} {nn ln : Nat} {vs : List Value} {nl : Addr} {nvs : List Value} {nk : Nat} {nms : List Str}
  (TI : TabIn news t l d hs tkk nn vs ln []) (hnam : (nl, listOf nvs.toArray nk) ∈ news) (hstrs : StrsAre nvs nms) (hlen : nms.length = 7) (hsz : ∀ p, p < 7 → (nmAt nms p).length < 1000 ∧ (Txt.lower (nmAt nms p)).cps.size < 1000000) (hdirt : ∀ p, p < 7 → cleanB (Txt.lower (nmAt nms p)) = false → Dirt (Txt.lower (nmAt nms p)))
  (ret : ∀ h' tk' D ys kd, IntsAre ys ((freeL nms 7).map fun (k : Nat) => (k : Int)) → Fr h₀ L h' m → News h₀ L h' ((D, listOf ys.toArray kd) :: news) → R (.ok (.ret (.ref D))) { s with heap := h', toks := tk' }) :
  codeAny (model PySem.Challenge.rw_xn0027_01.row.prog w) A (.call (.ref 369) ⟨[.ref t, .ref nl], []⟩) R s := by
  obtain ⟨hdl, dp, fr, gd, un⟩ := A
  dsimp only at hA hh hroom hun
  subst hA hh
  revert X XB; k_fill; intro X XB
  (refine' cat_def (binds := [(Str.ofString "table", .ref t), (Str.ofString "names", .ref nl)]) ?zqk1 ?zqk2 ?zqk3 ?zqk4 ?zqk5 ?zqkA ?zqkF ?zqkK ?zqk6 ?zqk7 ?zqk8 ?zqk9 ?zqkB ?_ ?zqc2 ?zqc3 ?zqc4 ?zqc5; walk_at "M:enter"; k_whole)
  intro g' L' h' FG' F' N' B' X' T' D'; (try dsimp only); (try k_lift B'); (try k_fold)
  k_steps
  refine Hold.mk ?_
  with_reducible rename Fr g' L' _ _ => F9
  with_reducible rename News g' L' _ _ => N9
  with_reducible rename (∀ (p : Addr × Obj), p ∈ news → p.fst < _) => hlt9
  have hlt9 := fun p hp => Nat.ne_of_lt (hlt9 p hp)
  refine iter_range_G (a := 0) (b := 7) (k := 7) rfl (fun g => KtsTurn ([env].filterMap (·.frame)) g' g ∧ Below _ base [env] g ∧ (hd.heap_39 w.params).In g ∧ Top hd.view_39 loose mean mg mb g ∧ KtsDicts ([env].filterMap (·.frame)) g) ⟨.refl, B', X', T', D'⟩ F9 N9 (by assumption) (by exact small_n (n := 7) (by omega)) (by exact rangeSize_n 7) (fun i m' n' => FreeJ t nl _ news nms i m' n') ⟨⟨[], 0, rfl, .nil⟩, rfl, rfl, rfl⟩ ?_ ?_
  · rintro g i tv m' n' I it h tk ⟨TT, B9, X9, T9, D9⟩ hi9 ⟨⟨ys, kd, rfl, hys⟩, m1, m2, m3⟩ hc F8 N8 off
    clear F9 N9 B' X' T' D'
    rw [Int.zero_add]
    obtain ⟨hz1, hz2⟩ := hsz i hi9
    have hin9 : i < nms.length := by omega
    have hn50 : nms.length < 50 := by omega
    have hI9 := TI.inst
    have hD9 := TI.dict
    have hL9 := TI.list
    cases hcl : cleanB (Txt.lower (nmAt nms i)) with
    | true =>
      have hcc := cleanB.clean hcl
      have hrl : ys.toArray.size < 1000 := by
        have h1 := hys.length
        have h2 := freeL_len nms i
        rw [List.length_map] at h1
        rw [List.size_toArray]; omega
      have hoff := off.ne N8
      k_steps
      · dsimp only
        with_reducible rename Fr g L' _ _ => F6
        with_reducible rename News g L' _ _ => N6
        refine TurnG.intro ⟨TT, B9, X9, T9, D9⟩ F6 (free_end N6 (Ne.symm (hoff _ (List.mem_cons_self ..))) hlt9) (off_put hoff) ⟨⟨_, _, rfl, ?_⟩, m1, m2, m3⟩
        rw [freeL_yes hcl, List.map_append]
        exact hys.append (.cons _ _ .nil)
      · exact absurd (show look [] _ = some _ by with_reducible assumption) (by simp [look])
    | false =>
      have hdd := hdirt i hi9 hcl
      k_steps
      dsimp only
      with_reducible rename Fr _ L' _ _ => F6
      with_reducible rename News _ L' _ _ => N6
      with_reducible rename KtsTurn _ _ _ => TT6
      with_reducible rename Below _ _ [env] _ => B6
      with_reducible rename Top _ _ _ _ _ _ => T6
      with_reducible rename KtsDicts _ _ => D6
      refine TurnG.intro ⟨TT6, B6, by assumption, T6, D6⟩ F6 (cb_drop N6 fun p hp => List.mem_cons_of_mem _ hp) off ⟨⟨ys, kd, rfl, ?_⟩, m1, m2, m3⟩
      rw [freeL_no hcl]
      exact hys
  · rintro g h tk m' n' ⟨TT, B9, X9, T9, D9⟩ ⟨⟨ys, kd, rfl, hys⟩, m1, m2, m3⟩ F8 N8
    clear F9 N9 B' X' T' D'
    dsimp only
    k_steps
    with_reducible rename Fr h₀ L _ _ => F6
    with_reducible rename News h₀ L _ _ => N6
    exact ret _ _ _ ys kd hys F6 N6
section
set_option autoImplicit false
theorem freshPF : True := by
  try row_walk
  trivial
/-! plain facts of the finite data -/
noncomputable def kF (x : Int) : Nat := ((x.fdiv 21).fmod 5).toNat
theorem kF_lt (x : Int) : kF x < 5 := by
  have a := Int.fmod_nonneg_of_pos (x.fdiv 21) (show (0:Int) < 5 by omega)
  have b := Int.fmod_lt_of_pos (x.fdiv 21) (show (0:Int) < 5 by omega)
  unfold kF; omega
theorem kF_eq (x : Int) : (x.fdiv 21).fmod 5 = ((kF x : Nat) : Int) := by
  have a := Int.fmod_nonneg_of_pos (x.fdiv 21) (show (0:Int) < 5 by omega)
  unfold kF; omega
noncomputable def keyN (i j k : Nat) : Str := if k > 2 then Str.ofString "" else Txt.item (Str.ofString "Bab") (i : Int) ++ nmAt signsL j
noncomputable def replyN (i j k : Nat) : Str := if k = 3 then Str.ofString "257 " ++ nmN i j else (if k = 4 then Str.ofString "250" else Str.ofString "257") ++ Str.ofString " \"" ++ Txt.replace (nmN i j) (Str.ofString "\"") (Str.ofString "\"\"") ++ (if k = 1 then Str.ofString "\"" else if k = 2 then Str.ofString "" else Str.ofString "\" and \"more\"")
theorem keyF_eq (x : Int) : keyF x = keyN (iF x) (jF x) (kF x) := by
  unfold keyF keyN
  rw [kF_eq]
  have hi : letF x = Txt.item (Str.ofString "Bab") ((iF x : Nat) : Int) := by
    unfold letF iF
    rw [Int.toNat_of_nonneg (Int.fmod_nonneg_of_pos _ (by omega))]
  rw [hi]
  by_cases h : kF x > 2
  · rw [if_pos h, if_pos (by omega)]
  · rw [if_neg h, if_neg (by omega)]; rfl
theorem replyF_eq (x : Int) : replyF x = replyN (iF x) (jF x) (kF x) := by
  have h := kF_lt x
  unfold replyF replyN codeF behF
  rw [nmF_eq, kF_eq]
  obtain e | e | e | e | e : kF x = 0 ∨ kF x = 1 ∨ kF x = 2 ∨ kF x = 3 ∨ kF x = 4 := by (first | lia | omega)
  all_goals (rw [e]; rfl)
noncomputable def toldOK (i j k : Nat) : Bool :=
  decide ((replyN i j k).length ≤ 60) && (if (Txt.slice (replyN i j k) none (some 3) != Str.ofString "257") = true then keyN i j k == Str.ofString "" else escOK attribT (parseF (replyN i j k)) && escL attribT (parseF (replyN i j k)) == keyN i j k)
theorem told_dec : ∀ i, i < 3 → ∀ j, j < 7 → ∀ k, k < 5 → toldOK i j k = true := by decide +kernel
theorem told_len (x : Int) : (replyF x).length ≤ 60 := by
  have h := told_dec _ (iF_lt x) _ (jF_lt x) _ (kF_lt x)
  rw [replyF_eq]
  unfold toldOK at h
  exact of_decide_eq_true (Bool.and_eq_true_iff.mp h).1
theorem told_no {x : Int} (h1 : (Txt.slice (replyF x) none (some 3) != Str.ofString "257") = true) : keyF x = Str.ofString "" := by
  have h := told_dec _ (iF_lt x) _ (jF_lt x) _ (kF_lt x)
  rw [replyF_eq] at h1
  rw [keyF_eq]
  unfold toldOK at h
  rw [if_pos h1] at h
  exact beq_iff_eq.mp (Bool.and_eq_true_iff.mp h).2
theorem told_yes {x : Int} (h1 : (Txt.slice (replyF x) none (some 3) != Str.ofString "257") = false) : escOK attribT (parseF (replyF x)) = true ∧ escL attribT (parseF (replyF x)) = keyF x := by
  have h := told_dec _ (iF_lt x) _ (jF_lt x) _ (kF_lt x)
  rw [replyF_eq] at h1 ⊢
  rw [keyF_eq]
  unfold toldOK at h
  rw [if_neg (by rw [h1]; decide)] at h
  have := Bool.and_eq_true_iff.mp (Bool.and_eq_true_iff.mp h).2
  exact ⟨this.1, beq_iff_eq.mp this.2⟩
noncomputable def okKey (k : Str) : Bool := cleanB k && decide (k.cps.size < 1000000) && decide (k.length ≤ 16)
theorem key_dec : ∀ i, i < 3 → ∀ j, j < 7 → ∀ k, k < 5 → okKey (keyN i j k) = true := by decide +kernel
theorem key_ok (x : Int) : Clean (keyF x) ∧ (keyF x).cps.size < 1000000 ∧ (keyF x).length ≤ 16 := by
  have h := key_dec _ (iF_lt x) _ (jF_lt x) _ (kF_lt x)
  rw [← keyF_eq] at h
  unfold okKey at h
  simp only [Bool.and_eq_true, decide_eq_true_eq] at h
  exact ⟨cleanB.clean h.1.1, h.1.2, h.2⟩
noncomputable def sigs : List Str := [Str.ofString "&", Str.ofString "\r", Str.ofString "<", Str.ofString "\n", Str.ofString ">", Str.ofString "\t", Str.ofString "\""]
noncomputable def wrL (i : Nat) : List Str := sigs.map (wrF i)
noncomputable def frL (i : Nat) : List Nat := freeL (wrL i) 7
noncomputable def nmsF (i : Nat) : List Str := (frL i).map (nmAt (wrL i))
noncomputable def wz (i j : Nat) : Nat := ((frL i).filter fun k => decide (k < j)).length
noncomputable def escAll (x : Str) : Bool := escOK c14nT x && escOK attribT x && escOK htmlT x && escOK ac14nT x && escOK cdataT x
theorem sigs_ok : ∀ p, p < 7 → escAll (nmAt sigs p) = true := by decide +kernel
noncomputable def okDirt (x : Str) : Bool := decide (x.length < 1000) && decide ((Txt.lower x).cps.size < 1000000) && (cleanB (Txt.lower x) || decide ((Txt.lower x).cps = #[9]) || decide ((Txt.lower x).cps = #[10]) || decide ((Txt.lower x).cps = #[13]))
theorem dirt_dec : ∀ i, i < 5 → ∀ p, p < 7 → okDirt (nmAt (wrL i) p) = true := by decide +kernel
theorem wr_len (i : Nat) : (wrL i).length = 7 := rfl
theorem wr_sz {i : Nat} (hi : i < 5) : ∀ p, p < 7 → (nmAt (wrL i) p).length < 1000 ∧ (Txt.lower (nmAt (wrL i) p)).cps.size < 1000000 := by
  intro p hp
  have h := dirt_dec i hi p hp
  unfold okDirt at h
  simp only [Bool.and_eq_true, decide_eq_true_eq] at h
  exact ⟨h.1.1, h.1.2⟩
theorem wr_dirt {i : Nat} (hi : i < 5) : ∀ p, p < 7 → cleanB (Txt.lower (nmAt (wrL i) p)) = false → Dirt (Txt.lower (nmAt (wrL i) p)) := by
  intro p hp hc
  have h := dirt_dec i hi p hp
  unfold okDirt at h
  rw [hc] at h
  simp only [Bool.false_or, Bool.and_eq_true, Bool.or_eq_true, decide_eq_true_eq] at h
  unfold Dirt
  rcases h.2 with (h | h) | h
  · exact .inl h
  · exact .inr (.inl h)
  · exact .inr (.inr h)
theorem names_dec : ∀ i, i < 5 → nmsF i = (spellR i).filter (fun x => x != Str.ofString "") := by decide +kernel
theorem wz_dec : ∀ i, i < 5 → ∀ j, j < 7 → wz i j < (nmsF i).length := by decide +kernel
theorem nms_lt : ∀ i, i < 5 → 0 < (nmsF i).length ∧ (nmsF i).length < 8 := by decide +kernel
theorem fr_lt : ∀ i, i < 5 → ∀ k ∈ frL i, k < 7 := by decide +kernel
noncomputable def okName (n : Str) : Bool := decide (n.length < 1000) && decide ((Txt.upper n).length < 1000) && cleanB n && cleanB (Txt.upper n) && cleanB (Txt.lower n) && cleanB (Txt.lower (Txt.upper n)) && decide (n.cps.size < 1000000) && decide ((Txt.upper n).cps.size < 1000000) && decide ((Txt.lower n).cps.size < 1000000) && decide ((Txt.lower (Txt.upper n)).cps.size < 1000000) && decide (Txt.lower (Txt.upper n) = Txt.lower n)
theorem names_ok : ∀ i, i < 5 → ∀ n ∈ Str.ofString "" :: nmsF i, okName n = true := by decide +kernel
theorem names_inj : ∀ i, i < 5 → ∀ p, p < (nmsF i).length → ∀ q, q < (nmsF i).length → Txt.lower (nmAt (nmsF i) p) = Txt.lower (nmAt (nmsF i) q) → p = q := by decide +kernel
theorem nmAt_mem (nms : List Str) (p : Nat) : nmAt nms p ∈ Str.ofString "" :: nms := by
  unfold nmAt
  rw [List.getD_eq_getElem?_getD]
  cases e : nms[p]? with
  | none => exact List.mem_cons_self ..
  | some x => exact List.mem_cons_of_mem _ (List.mem_of_getElem? e)
theorem nm_ok {i : Nat} (hi : i < 5) (p : Nat) : okName (nmAt (nmsF i) p) = true := names_ok i hi _ (nmAt_mem _ p)
structure COK (i : Nat) (c : List (Str × Int)) : Prop where
  key : ∀ k, kdpHas c k = true → ∃ x, k = keyF x
  val : ∀ k, kdpHas c k = true → ∃ p : Nat, kdpLook c k 0 = (p : Int) ∧ p < (nmsF i).length
theorem COK.cfg {i : Nat} {c : List (Str × Int)} (hi : i < 5) (h : COK i c) : Cfg (nmsF i) c := by
  have key : ∀ p, _ := nm_ok hi
  unfold okName at key
  simp only [Bool.and_eq_true, decide_eq_true_eq] at key
  exact {
    n0 := (nms_lt i hi).1
    n1 := by have := (nms_lt i hi).2; (first | lia | omega)
    len := fun p => (key p).1.1.1.1.1.1.1.1.1.1
    ulen := fun p => (key p).1.1.1.1.1.1.1.1.1.2
    cl := fun p => cleanB.clean (key p).1.1.1.1.1.1.1.1.2
    clu := fun p => cleanB.clean (key p).1.1.1.1.1.1.1.2
    cll := fun p => cleanB.clean (key p).1.1.1.1.1.1.2
    cllu := fun p => cleanB.clean (key p).1.1.1.1.1.2
    sz := fun p => (key p).1.1.1.1.2
    szu := fun p => (key p).1.1.1.2
    szl := fun p => (key p).1.1.2
    szlu := fun p => (key p).1.2
    kcl := fun k hk => by obtain ⟨x, rfl⟩ := h.key k hk; exact (key_ok x).1
    ksz := fun k hk => by obtain ⟨x, rfl⟩ := h.key k hk; exact (key_ok x).2.1
    wish := h.val }
theorem look_none {c : List (Str × Int)} {k : Str} (h : kdpHas c k = false) : kdpLook c k 0 = 0 := by
  unfold kdpHas at h
  unfold kdpLook
  have : c.find? (fun p => decide (p.1 = k)) = none := by
    rw [List.find?_eq_none]
    intro p hp
    have := List.any_eq_false.mp h p hp
    simpa using this
  rw [this]; rfl
theorem COK.nam {i : Nat} {c : List (Str × Int)} (hi : i < 5) (h : COK i c) : NamOK (nmsF i) c where
  n0 := (nms_lt i hi).1
  wish k := by
    cases e : kdpHas c k with
    | true => exact h.val k e
    | false => exact ⟨0, look_none e, (nms_lt i hi).1⟩
  low p _ := by
    have := nm_ok hi p
    unfold okName at this
    simp only [Bool.and_eq_true, decide_eq_true_eq] at this
    exact this.2
  inj p q hp hq e := names_inj i hi p hp q hq e
end
theorem freshWK : True := by
  try row_walk
  trivial
theorem strs_get {vs : List Value} {ks : List Str} (h : StrsAre vs ks) (k : Str) : ∀ (i : Nat) (hi : i < vs.length), ∃ (hi' : i < ks.length), isStrOf k vs[i] = (ks[i] == k) := by
  induction h with
  | nil => intro i hi; exact absurd hi (Nat.not_lt_zero _)
  | cons y t _ ih =>
    intro i hi
    cases i with
    | zero => exact ⟨Nat.zero_lt_succ _, rfl⟩
    | succ i =>
      obtain ⟨a, b⟩ := ih i (Nat.lt_of_succ_lt_succ hi)
      exact ⟨Nat.succ_lt_succ a, b⟩
theorem strs_erase {vs : List Value} {ks : List Str} (h : StrsAre vs ks) : ∀ j, StrsAre (vs.eraseIdx j) (ks.eraseIdx j) := by
  induction h with
  | nil => intro j; exact .nil
  | cons y t r ih =>
    intro j
    cases j with
    | zero => exact r
    | succ j => exact .cons y t (ih j)
section
variable {prog : Program} {w : World} {A : Around} {E : Value → Shared → Prop} {s : Shared}
theorem remove_P {g : Heap} {L l : Addr} {m : Str → Option Value} {news : List (Addr × Obj)} {vs : List Value} {ks : List Str} {ln : Nat} {k : Str} {t : Tok} {Q : Value → Shared → Prop} (F : Fr g L s.heap m) (N : News g L s.heap news)
    (hl : (l, listOf vs.toArray ln) ∈ news) (hS : StrsAre vs ks) (hk : k ∈ ks) (hsz : vs.length < 1000)
    (cont : ∀ h' vs' ln', StrsAre vs' (ks.erase k) → Fr g L h' m → News g L h' (putAt l (listOf (List.toArray vs') ln') news) → Q .none { s with heap := h' }) :
    wpAny (model prog w) A (call (.builtin "list.remove") [.ref l, .str k t]) Q E s := by
  have hlen := hS.len_eq
  have hj : ks.idxOf k < ks.length := List.idxOf_lt_length_of_mem hk
  have hjv : ks.idxOf k < vs.length := by (first | lia | omega)
  have h1 : isStrOf k vs[ks.idxOf k] = true := by
    obtain ⟨a, b⟩ := strs_get hS k _ hjv
    rw [b]
    simp
  have h2 : ∀ i (hi : i < vs.length), i < ks.idxOf k → isStrOf k vs[i] = false := by
    intro i hi hlt
    obtain ⟨a, b⟩ := strs_get hS k _ hi
    rw [b]
    have := List.not_of_lt_findIdx (p := (· == k)) (xs := ks) (i := i) hlt
    simpa using this
  refine call_meets PySem.F.slot_list_remove ⟨_, (N _ hl).1, rfl⟩ PySem.F.entry_list_remove (PySem.F.args_list_remove_2 _ _)
    (MeetsSeq.list_remove l vs.toArray ln (.str k t) (isStrOf k) (fun y hy => eq_isStrOf k t hS y (by simpa using hy)) (ks.idxOf k) (by simpa using hjv) (by simpa using h1) (fun i hi hlt => by simpa using h2 i (by simpa using hi) hlt) (by rw [List.size_toArray, sizeLine_eq]; (first | lia | omega)))
    ⟨(N _ hl).1, cont _ (vs.eraseIdx (ks.idxOf k)) (if (vs.eraseIdx (ks.idxOf k)).toArray.size == vs.toArray.size then ln else ln + 1) ?_ (fr_putAt F N hl (Heap.SameBut.update ..)) (news_putAt N hl (Heap.SameBut.update ..) ?_)⟩
  · rw [List.erase_eq_eraseIdx_of_idxOf (rfl : ks.idxOf k = ks.idxOf k)]
    exact strs_erase hS (ks.idxOf k)
  · have q := PySem.IsL.update (N (l, listOf vs.toArray ln) hl).1 (fun xs => xs.eraseIdxIfInBounds (ks.idxOf k))
    have e : vs.toArray.eraseIdxIfInBounds (ks.idxOf k) = (vs.eraseIdx (ks.idxOf k)).toArray := by
      apply Array.toList_inj.mp
      simp [Array.toList_eraseIdxIfInBounds]
    rw [e] at q
    exact q
theorem in_kept {g : Heap} {L l : Addr} {news : List (Addr × Obj)} {vs : List Value} {ks : List Str} {ln : Nat} {k : Str} {t : Tok} {Q : Value → Shared → Prop} (N : News g L s.heap news) (hl : (l, listOf vs.toArray ln) ∈ news) (hS : StrsAre vs ks) (h1 : k ∈ ks → Q (.bool true) s) (h2 : k ∉ ks → Q (.bool false) s) :
    wpAny (model prog w) A (compareOp .In (.str k t) (.ref l)) Q E s := by
  refine in_list_strs (N.isList hl) hS ?_
  by_cases hk : k ∈ ks
  · rw [show ks.any (· == k) = true from List.any_eq_true.mpr ⟨k, hk, by simp⟩]
    exact h1 hk
  · rw [show ks.any (· == k) = false from by
      rw [List.any_eq_false]
      intro x hx e
      exact hk (beq_iff_eq.mp e ▸ hx)]
    exact h2 hk
theorem ne_self {x : Str} {t u : Tok} {Q : Value → Shared → Prop} (h : Q (.bool (x != x)) s → Q (.bool (x != x)) s) : (Q (.bool false) s) → Q (.bool (x != x)) s := by
  intro h'
  rw [show (x != x) = false by simp]
  exact h'
end
/-- a change of the plain list leaves the table alone -/
theorem St.put {w : World} {g h : Heap} {L a : Addr} {its : Array Value} {k : Nat} {o' : Obj} {news : List (Addr × Obj)} {t l d : Addr} {hs : Int} {tkk : Tok} {nn : Nat} {vs : List Value} {ln : Nat} {T : List (Str × Str)} {nl : Addr} {nvs : List Value} {nk : Nat} {wd : Addr} {nms : List Str} {c : List (Str × Int)}
    (S : St w news t l d hs tkk nn vs ln T nl nvs nk wd nms c) (N : News g L h news) (ha : (a, listOf its k) ∈ news) (h1 : @Ne Nat l a) (h2 : @Ne Nat nl a) : St w (putAt a o' news) t l d hs tkk nn vs ln T nl nvs nk wd nms c := by
  have keep : ∀ b o, (b, o) ∈ news → o ≠ listOf its k → (b, o) ∈ putAt a o' news := by
    intro b o hb hne
    refine putAt_mem hb fun e => hne ?_
    have x := (N _ hb).1
    have y := (N _ ha).1
    dsimp only at x y e
    rw [e, y] at x
    exact (Option.some.inj x).symm
  obtain ⟨⟨i1, i2, i3, i4, i5⟩, s2, s3, ⟨o, kvs, w1, w2, w3, w4⟩, s5, s6, s7, s8⟩ := S
  refine ⟨⟨keep _ _ i1 (fun e => by have := congrArg Obj.data e; cases this), keep _ _ i2 (fun e => by have := congrArg Obj.data e; cases this), putAt_mem i3 h1, ?_, i5⟩, putAt_mem s2 h2, s3, ⟨o, kvs, keep _ _ w1 (fun e => ?_), w2, w3, w4⟩, s5, s6, s7, s8⟩
  · clear i5 s8 i3
    induction i4 with
    | nil => exact .nil
    | cons hm _ ih => exact .cons (keep _ _ hm (fun e => absurd (Value.type.inj (congrArg Obj.cls e)) (by decide))) ih
  · subst e
    obtain ⟨es, ep, hc, hd, _⟩ := w2
    cases hd
set_option maxHeartbeats 1000000 in
theorem toldK_ct {w : World} {mean : ExcName → Option Value} {mg mb : Str → Option Value} {A A₀ : Around} {base h₀ : Heap} {env : Env} {L : Addr} {m : Str → Option Value} {news : List (Addr × Obj)} {s : Shared} {R : Result → Shared → Prop}
  (B : Below A₀ base [] h₀) (F : Fr h₀ L s.heap m) (X : (hd.heap_39 w.params).In h₀) (N : News h₀ L s.heap news) (T : Top hd.view_39 loose mean mg mb h₀) (hA : A.frames = some [env]) (hf : env.frame = some L) (hke : env.scope.kind = .function) (hh : A.handled = none) (XB : (hd.heap_39 w.params).In base) (TB : Top hd.view_39 loose mean mg mb base) (hroom : A.depth + 8 < recursionLimit) (hun : A.units + 60 < cLine)
  {x : Int} {t1 : Tok}
  (ret : ∀ h' tk' tv, Fr h₀ L h' m → News h₀ L h' news → R (.ok (.ret (.str (keyF x) tv))) { s with heap := h', toks := tk' }) :
  codeAny (model PySem.Challenge.rw_xn0027_01.row.prog w) A (.call (.ref 341) ⟨[.str (replyF x) t1], []⟩) R s := by
  cases h1 : (Txt.slice (replyF x) none (some 3) != Str.ofString "257") with
  | false =>
    obtain ⟨ok, e⟩ := told_yes h1
    refine toldA_ct B F X N T hA hf hke hh hroom hun (told_len x) h1 ok ?_
    rw [e]
    exact ret
  | true =>
    have e := told_no h1
    refine toldB_ct B F X N T hA hf hke hh XB TB hroom hun (told_len x) h1 ?_
    rw [e] at ret
    exact ret
theorem lines23 : True := by
  k_with_none
  (k_with "M:enter" => (
  (case zqkA => exact rfl); (case zqkF => assumption); (case zqkK => assumption); (case zqk1 => k_asm); (case zqk2 => k_asm); (case zqk3 => k_asm); (case zqk4 => k_asm); (case zqk5 => k_asm); (case zqk6 => k_is); (case zqk7 => k_is); (case zqk8 => k_room); (case zqk9 => first | exact BindsTo.of_eq rfl | exact binds_K (by k_in) rfl (by k_is) rfl rfl rfl); (case zqc5 => decide); (case zqkB => exact locs rfl); (case zqc2 => exact rfl); (case zqc3 => exact rfl); (case zqc4 => exact rfl)))
  (k_with "M:args" => (
  (case zqcB => k_asm); (case zqcF => k_asm); (case zqcX => k_asm); (case zqcN => k_asm); (case zqcT => k_asm); (case zqcA => exact rfl); (case zqcf => first | exact rfl | assumption); (case zqck => first | exact rfl | assumption); (case zqch => exact rfl); (case zqcr => k_room); (case zqcu => k_units)))
  (k_with "M:pat" => first | exact pat_name (by k_in) | exact pat_value (by k_in))
  (k_with "getMethod ref" => (k_here; (with_reducible show wpAny _ _ (getMethod (Value.ref _) (Str.ofString "search") _) _ _ _); k_dflt (refine' method_search (code := ?zqcd) ?zqP ?_; (case zqP => walk_at "M:pat"); k_whole)))
  (k_with "call builtin:re.Pattern.search" => (k_here; k_dflt (refine' call_search (code := ?zqcd) ?zqP ?zqC ?zqX ?zqL ?_; (case zqP => walk_at "M:pat"); (case zqC => first | exact .inl rfl | exact .inr rfl); (case zqX => assumption); (case zqL => assumption); k_whole)))
  (k_with "exec For" => (k_here; k_dflt (refine For_hold ?_)))
  (k_with "call builtin:str.lower" => (k_here; (with_reducible show wpAny _ _ (call (Value.builtin "str.lower") [Value.str _ _]) _ _ _); (refine SCL.lower (by omega) ?_; intro _)))
  (k_with "eval Name" => (k_here; (with_reducible show wpAny _ _ (eval _ (envOf _ _ _ _ _)) _ _ _); k_dflt (refine' ld ?zqk1 ?zqk2 ?_; (case zqk1 => k_asm); (case zqk2 => first | with_reducible assumption | ((try simp only []); assumption)); k_whole)))
  (k_with "assign Tuple" => (k_here; k_dflt (refine' assign_pair ?zqk0 ?zqk1 ?zqk2 ?zqk3 ?_ ?zqk4 ?zqk5 ?zqk6; (case zqk0 => exact rfl); (case zqk1 => k_asm); (case zqk2 => k_asm); (case zqk3 => k_mem); (case zqk4 => exact rfl); (case zqk5 => exact rfl); (case zqk6 => exact rfl); k_whole); intro h' tk' F' N'; (try k_sweep)))
  (k_with "call ref" => (k_here; (with_reducible show wpAny _ _ (call (Value.ref _) [_, Value.str _ _] _) _ _ _); k_dflt (refine wpAny_call ?_; (first | refine' conv_true ?zqcB ?zqcF ?zqcX ?zqcN ?zqcT ?zqcA ?zqcf ?zqck ?zqch ?zqcr ?zqcu ?zqx ?zql ?_ | refine' conv_false ?zqcB ?zqcF ?zqcX ?zqcN ?zqcT ?zqcA ?zqcf ?zqck ?zqch ?zqcr ?zqcu ?zqx ?zql ?_); walk_at "M:args"; (case zqx => assumption); (case zql => assumption); k_whole); intro h' tk' F' N'; (try dsimp only); (try k_sweep)))
  (k_with "storeName" => (k_here; (with_reducible show wpAny _ _ (storeName (envOfC _ _ _ _ _) _ _) _ _ _); k_dflt (refine' storeX_C ?zqF ?zqN ?zqc ?zqU ?zqd ?_ ?zqa ?zqb; (case zqa => rfl); (case zqb => rfl); (case zqF => k_asm); (case zqN => k_asm); (case zqc => rfl); (case zqU => k_updF); (case zqd => assumption); k_whole); intro h' o' F' N' d'; (try dsimp only at N'); (try k_sweep)))
  (k_with "eval ListComp" => (k_here; refine Hold.out ?_))
  (k_with "exec Assign cons ListComp" => (k_here; refine Hold.out ?_))
  (k_with "exec While" => (k_here; refine Hold.out ?_))
  (k_with "M:enterC" => (
  (case zqkA => exact rfl); (case zqkF => assumption); (case zqkK => assumption); (case zqk1 => k_asm); (case zqk2 => k_asm); (case zqk3 => k_asm); (case zqk4 => k_asm); (case zqk5 => k_asm); (case zqk6 => k_is); (case zqk7 => k_is); (case zqk8 => k_room); (case zqk9 => first | exact BindsTo.of_eq rfl | exact binds_K (by k_in) rfl (by k_is) rfl rfl rfl); (case zqkB => exact rfl); (case zqkD => decide +kernel); (case zqc2 => exact rfl); (case zqc3 => exact rfl); (case zqc4 => exact rfl)))
  (k_with "M:tab" => first | with_reducible assumption | (refine TabIn.cons ?_; walk_at "M:tab"))
  (k_with "call ref" => (k_here; (with_reducible show wpAny _ _ (call (Value.ref _) [_, Value.str _ _]) _ _ _); k_dflt (refine wpAny_call ?_; refine' del_ct ?zqcB ?zqcF ?zqcX ?zqcN ?zqcT ?zqcA ?zqcf ?zqck ?zqch ?zqcr ?zqcu ?zqt ?zql ?zqn1 ?zqn2 ?zqn3 ?_; walk_at "M:args"; (case zqt => walk_at "M:tab"); (case zql => assumption); (case zqn1 => assumption); (case zqn2 => assumption); (case zqn3 => assumption); k_whole); intro h' tk' news' vs' ln' F' N' U' TI'; (have hI' := TabIn.inst TI'); (have hD' := TabIn.dict TI'); (have hL' := TabIn.list TI'); (try dsimp only); (try k_sweep)))
  (k_with "delItem ref" => (k_here; (with_reducible show wpAny _ _ (delItem (Value.ref _) _) _ _ _); k_dflt (refine' own_delItem ?zqF ?zqX ?zqI ?zqhQ ?zqhS ?zqhF ?_; (case zqF => k_asm); (case zqX => k_asm); (case zqI => k_inst); (case zqhS => k_is); (case zqhF => k_is); (case zqhQ => k_is); k_whole)))
  (k_with "call builtin:list.append" => (k_here; k_dflt (refine' append_P ?zqf ?zqn ?zql ?zqz ?_; (case zqf => k_asm); (case zqn => k_asm); (case zql => k_mem); (case zqz => assumption); k_whole); intro h' F' N'; (try k_sweep)))
  (k_with "M:wish" => first | with_reducible assumption | (refine wishesIn.cons ?_; walk_at "M:wish"))
  (k_with "M:n1" => first | with_reducible assumption | (with_reducible first | exact Cfg.len (by assumption) _ | exact Cfg.ulen (by assumption) _ | exact Cfg.cl (by assumption) _ | exact Cfg.clu (by assumption) _ | exact Cfg.cll (by assumption) _ | exact Cfg.cllu (by assumption) _ | exact Cfg.sz (by assumption) _ | exact Cfg.szu (by assumption) _ | exact Cfg.szl (by assumption) _ | exact Cfg.szlu (by assumption) _ | exact Cfg.kcl (by assumption) _ (by assumption) | exact Cfg.ksz (by assumption) _ (by assumption)))
  (k_with "subscriptTail" => (k_here; (with_reducible show wpAny _ _ (subscriptTail _ _ (Value.ref _) (Value.str _ _)) _ _ _); k_dflt (refine' wish_item ?zqN ?zqW ?zqK ?_; (case zqN => k_asm); (case zqW => walk_at "M:wish"); (case zqK => assumption); k_whole); intro _; (try k_sweep)))
  (k_with "subscriptTail" => (k_here; (with_reducible show wpAny _ _ (subscriptTail _ _ (Value.ref _) (Value.int (Nat.cast _) _)) _ _ _); k_dflt (refine' name_item ?zqN ?zqM ?zqS ?zqP ?zqF ?_; (case zqN => k_asm); (case zqS => assumption); (case zqM => k_mem); (case zqP => assumption); (case zqF => assumption); k_whole); intro _; (try k_sweep)))
  (k_with "call ref" => (k_here; (with_reducible show wpAny _ _ (call (Value.ref _) [_, Value.str _ _]) _ _ _); k_dflt (refine wpAny_call ?_; refine' get_ct ?zqcB ?zqcF ?zqcX ?zqcN ?zqcT ?zqcA ?zqcf ?zqck ?zqch ?zqcr ?zqcu ?zqt ?zqn1 ?zqn2 ?zqn3 ?_ ?_; walk_at "M:args"; (case zqt => walk_at "M:tab"); (case zqn1 => walk_at "M:n1"); (case zqn2 => walk_at "M:n1"); (case zqn3 => walk_at "M:n1"); k_whole); (intro v' tv' h' tk' hlk' F' N'; (try have hgd' := look_good (St.good (by assumption)) hlk'); (try dsimp only); (try k_sweep)); rotate_left; (intro h' tk' hlk' F' N'; (try dsimp only); (try k_sweep))))
  (k_with "call ref" => (k_here; (with_reducible show wpAny _ _ (call (Value.ref _) [_, Value.str _ _, Value.str _ _]) _ _ _); k_dflt (refine wpAny_call ?_; refine' set_ct ?zqcB ?zqcF ?zqcX ?zqcN ?zqcT ?zqcA ?zqcf ?zqck ?zqch ?zqcr ?zqcu ?zqt ?zql ?zqn1 ?zqn2 ?zqn3 ?zqn4 ?zqn5 ?zqn6 ?zqn7 ?_; walk_at "M:args"; (case zqt => walk_at "M:tab"); (case zql => assumption); (case zqn1 => walk_at "M:n1"); (case zqn2 => walk_at "M:n1"); (case zqn3 => walk_at "M:n1"); (case zqn4 => walk_at "M:n1"); (case zqn5 => walk_at "M:n1"); (case zqn6 => walk_at "M:n1"); (case zqn7 => walk_at "M:n1"); k_whole); intro h' tk' news' vs' ln' F' N' U' TI'; (have hI' := TabIn.inst TI'); (have hD' := TabIn.dict TI'); (have hL' := TabIn.list TI'); (try dsimp only); (try k_sweep)))
  (k_with "call builtin:str.upper" => (k_here; (with_reducible show wpAny _ _ (call (Value.builtin "str.upper") [Value.str _ _]) _ _ _); (refine SCL.upper (by with_reducible assumption) ?_; intro _)))
  (k_with "subscriptTail" => (k_here; (with_reducible show wpAny _ _ (subscriptTail _ (Expr.Slice none (some _) none _) (Value.str _ _) (Value.ref _)) _ _ _); (with_reducible rename Fr _ _ _ _ => F'); (with_reducible rename News _ _ _ _ => N'); (refine slice_strN_ns (hsz := ?zqhsz) (s := ⟨_, _, _, _, _⟩) F' N' ?_); (case zqhsz => assumption); intro _ _ _ _ _))
  (k_with "M:st" => first | with_reducible assumption | (refine St.cons ?_; walk_at "M:st"))
  (k_with "call ref" => (k_here; (with_reducible show wpAny _ _ (call (Value.ref _) [_, Value.str _ _, Value.str _ _]) _ _ _); k_dflt (refine wpAny_call ?_; refine' lay_ct ?zqcB ?zqcF ?zqcX ?zqcN ?zqcT ?zqcA ?zqcf ?zqck ?zqch ?zqcr ?zqcu ?zqt ?zql ?zqk ?_; walk_at "M:args"; (case zqt => walk_at "M:st"); (case zql => omega); (case zqk => assumption); k_whole); intro h' tk' news' vs' ln' F' N' U' S'; (have hI' := S'.tab.inst); (have hD' := S'.tab.dict); (have hL' := S'.tab.list); (have hTI' := S'.tab); (have hnam' := S'.nam); (have hwsh' := S'.wsh); (try dsimp only); (try k_sweep)))
  (k_with "call ref" => (k_here; (with_reducible show wpAny _ _ (call (Value.ref _) [Value.int _ _, Value.ref _, Value.int _ _, Value.str _ _, Value.str _ _]) _ _ _); k_dflt (refine wpAny_call ?_; refine' before_ct ?zqcB ?zqcF ?zqcX ?zqcN ?zqcT ?zqcA ?zqcf ?zqck ?zqch ?zqcr ?zqcu ?zqz ?zqp ?zqW ?zqk1 ?zqk2 ?_; walk_at "M:args"; (case zqz => omega); (case zqp => omega); (case zqW => walk_at "M:wish"); (case zqk1 => assumption); (case zqk2 => assumption); k_whole); intro h' tk' F' N'; (try dsimp only); (try k_sweep)))
  (k_with "call builtin:len" => (k_here; k_dflt (refine' len_strsA ?zql ?zqi ?zqf ?_; (case zqi => assumption); (case zql => exact News.isList (by k_asm) (by k_mem)); (case zqf => omega); k_whole)))
  (k_with "call ref" => (k_here; (with_reducible show wpAny _ _ (call (Value.ref _) [_, Value.str _ _]) _ _ _); k_dflt (refine wpAny_call ?_; refine' del2_ct ?zqcB ?zqcF ?zqcX ?zqcN ?zqcT ?zqcA ?zqcf ?zqck ?zqch ?zqcr ?zqcu ?zqt ?zql ?zqn1 ?zqn2 ?zqn3 ?_; walk_at "M:args"; (case zqt => walk_at "M:st"); (case zql => omega); (case zqn1 => walk_at "M:n1"); (case zqn2 => walk_at "M:n1"); (case zqn3 => walk_at "M:n1"); k_whole); intro h' tk' news' vs' ln' F' N' U' S'; (have hI' := S'.tab.inst); (have hD' := S'.tab.dict); (have hL' := S'.tab.list); (have hTI' := S'.tab); (have hnam' := S'.nam); (have hwsh' := S'.wsh); (try dsimp only); (try k_sweep)))
  (k_with "binaryOp Mod int int" => (k_here; (with_reducible show wpAny _ _ (binaryOp Operator.Mod (Value.int (HAdd.hAdd (Nat.cast _) _) _) (Value.int (Nat.cast _) _)) _ _ _); k_dflt (refine mod_nxt (by assumption) ?_; intro _)))
  (k_with "M:st" => with_reducible first | assumption | exact St.cons (by assumption) | exact St.cons (St.cons (by assumption)) | exact St.cons (St.cons (St.cons (by assumption))) | exact St.cons (St.cons (St.cons (St.cons (by assumption)))))
  (k_with "M:tab" => with_reducible first | assumption | exact TabIn.cons (by assumption) | exact TabIn.cons (TabIn.cons (by assumption)) | exact TabIn.cons (TabIn.cons (TabIn.cons (by assumption))) | exact TabIn.cons (TabIn.cons (TabIn.cons (TabIn.cons (by assumption)))))
  (k_with "M:wish" => with_reducible first | assumption | exact wishesIn.cons (by assumption) | exact wishesIn.cons (wishesIn.cons (by assumption)) | exact wishesIn.cons (wishesIn.cons (wishesIn.cons (by assumption))) | exact wishesIn.cons (wishesIn.cons (wishesIn.cons (wishesIn.cons (by assumption)))))
  (k_with "call builtin:len" => (k_here; k_dflt (refine' len_ys ?zql ?zqi ?zqk ?zqf ?_; (case zql => k_asm); (case zqi => k_mem); (case zqk => assumption); (case zqf => omega); k_whole)))
  (k_with "subscriptTail" => (k_here; (with_reducible show wpAny _ _ (subscriptTail _ _ (Value.ref _) (Value.str _ _)) _ _ _); k_dflt (refine' wish_itemN ?zqN ?zqW ?zqK ?zqZ ?_; (case zqN => k_asm); (case zqW => walk_at "M:wish"); (case zqK => assumption); (case zqZ => assumption); k_whole); intro _; (try k_sweep)))
  (k_with "call ref" => (k_here; (with_reducible show wpAny _ _ (call (Value.ref _) _) _ _ _); k_dflt (refine wpAny_call ?_; refine' keys_ct ?zqcB ?zqcF ?zqcX ?zqcN ?zqcT ?zqcA ?zqcf ?zqck ?zqch ?zqcr ?zqcu ?zqt ?zql ?_; walk_at "M:args"; (case zqt => walk_at "M:tab"); (case zql => omega); k_whole); intro h' tk' D' ys' hys' F' N' off'; (try dsimp only); (try k_sweep)))
  (k_with "call ref" => (k_here; (with_reducible show wpAny _ _ (call (Value.ref _) [Value.ref _, Value.ref _, Value.ref _, Value.int _ _]) _ _ _); k_dflt (refine wpAny_call ?_; refine' take_ct ?zqcB ?zqcF ?zqcX ?zqcN ?zqcT ?zqcA ?zqcf ?zqck ?zqch ?zqcr ?zqcu ?zqt ?zqp ?zql ?zqe ?_; walk_at "M:args"; (case zqt => walk_at "M:st"); (case zqe => first | with_reducible assumption | exact DeedS.take (by with_reducible assumption) (by assumption)); (case zqp => assumption); (case zql => omega); k_whole); intro h' tk' news' vs' ln' F' N' U' S'; (have hI' := S'.tab.inst); (have hD' := S'.tab.dict); (have hL' := S'.tab.list); (have hTI' := S'.tab); (have hnam' := S'.nam); (have hwsh' := S'.wsh); (try dsimp only); (try k_sweep)))
  (k_with "call ref" => (k_here; (with_reducible show wpAny _ _ (call (Value.ref _) [Value.ref _, Value.ref _, Value.ref _, Value.int _ _, Value.str _ _]) _ _ _); k_dflt (refine wpAny_call ?_; refine' put_ct ?zqcB ?zqcF ?zqcX ?zqcN ?zqcT ?zqcA ?zqcf ?zqck ?zqch ?zqcr ?zqcu ?zqt ?zqp ?zql ?zqk ?zqe ?_; walk_at "M:args"; (case zqt => walk_at "M:st"); (case zqe => first | with_reducible assumption | exact DeedN.put (by with_reducible assumption) (by omega) | exact DeedS.put (by with_reducible assumption) (by assumption) (by omega)); (case zqp => assumption); (case zql => omega); (case zqk => assumption); k_whole); intro h' tk' news' vs' ln' F' N' U' S'; (have hI' := S'.tab.inst); (have hD' := S'.tab.dict); (have hL' := S'.tab.list); (have hTI' := S'.tab); (have hnam' := S'.nam); (have hwsh' := S'.wsh); (try dsimp only); (try k_sweep)))
  (k_with "getMethod ref" => (k_here; (with_reducible show wpAny _ _ (getMethod (Value.ref _) (PySem.Str.ofString "count") _) _ _ _); k_dflt (refine' kl_method ?zqN ?zqm PySem.F.slot_list_count PySem.F.type_list_count ?_; (case zqN => k_asm); (case zqm => k_mem))))
  (k_with "call builtin:list.count" => (k_here; (with_reducible show wpAny _ _ (call (Value.builtin _) [Value.ref _, Value.int _ _]) _ _ _); k_dflt (refine' count_list_ints ?zql ?zqi ?_; (case zqi => assumption); (case zql => exact News.isList (by k_asm) (by k_mem)); k_whole)))
  (k_with "exec For Name Call cons nil" => (k_here; k_dflt (refine For_hold ?_)))
  (k_with "call builtin:len" => (k_here; k_dflt (refine' len_nms ?zqn ?zqm ?zqi ?zqf ?_; (case zqn => k_asm); (case zqm => k_mem); (case zqi => assumption); (case zqf => assumption); k_whole)))
  (k_with "eval Name" => (k_here; (with_reducible show wpAny _ _ (eval _ (envOfC _ _ _ _ _)) _ _ _); k_dflt (refine' nameX_L ?zqF ?zqv ?_ ?zqa ?zqb; (case zqa => rfl); (case zqb => rfl); (case zqF => k_asm); (case zqv => first | with_reducible assumption | ((try simp only []); assumption)); k_whole)))
  (k_with "subscriptTail" => (k_here; (with_reducible show wpAny _ _ (subscriptTail _ _ (Value.ref _) (Value.int (Int.fmod _ _) _)) _ _ _); k_dflt (refine' name_itemZ ?zqN ?zqM ?zqS ?zqP ?zqF ?_; (case zqN => k_asm); (case zqS => assumption); (case zqM => k_mem); (case zqP => assumption); (case zqF => assumption); k_whole); intro _; (try k_sweep)))
  (k_with "call builtin:str.upper" => (k_here; (with_reducible show wpAny _ _ (call (Value.builtin "str.upper") [Value.str _ _]) _ _ _); (refine SCL.upper (by first | with_reducible assumption | exact Nat.le_trans (Nat.le_of_lt (Cfg.len (by assumption) _)) (by decide)) ?_; intro _)))
  (k_with "M:wish" => first | with_reducible assumption | exact wishesIn.mono (by with_reducible assumption) (fun _ hp' => by k_mem))
  (k_with "call ref" => (k_here; (with_reducible show wpAny _ _ (call (Value.ref _) [Value.ref _, Value.int _ _, Value.int _ _]) _ _ _); k_dflt (refine wpAny_call ?_; refine' excess_ct ?zqcB ?zqcF ?zqcX ?zqcN ?zqcT ?zqcA ?zqcf ?zqck ?zqch ?zqcr ?zqcu ?zqm ?zqi ?zqz0 ?zqz1 ?zqzl ?_; walk_at "M:args"; (case zqm => k_mem); (case zqi => assumption); (case zqz0 => omega); (case zqz1 => omega); (case zqzl => assumption); k_whole); intro h' tk' t' F' N'; (try dsimp only); (try k_sweep)))
  (k_with "M:sh" => first | with_reducible assumption | with_reducible exact letF_sh _ | with_reducible exact charF_sh _ | with_reducible exact sign_sh _ | with_reducible exact lit_sh _ (by decide +kernel))
  (k_with "binaryOp Add str str" => (k_here; (with_reducible show wpAny _ _ (binaryOp Operator.Add (Value.str _ _) (Value.str _ _)) _ _ _); k_dflt (refine' str_add ?zqha ?zqhb ?zqhc ?_; (case zqha => walk_at "M:sh"); (case zqhb => walk_at "M:sh"); (case zqhc => decide); k_whole); intro t' k' htk' hsh'; (try dsimp only at htk')))
  (k_with "call builtin:str.replace" => (k_here; (with_reducible show wpAny _ _ (call (Value.builtin _) [Value.str _ _, Value.str _ _, Value.str _ _]) _ _ _); k_dflt (refine' str_rep ?zqha ?zqhb ?zqhc ?zqhu ?zqhv ?zqhuv ?zqhyz ?_; (case zqha => walk_at "M:sh"); (case zqhb => walk_at "M:sh"); (case zqhc => decide); (case zqhu => ((try dsimp only); omega)); (case zqhv => ((try dsimp only); omega)); (case zqhuv => ((try dsimp only); omega)); (case zqhyz => decide +kernel); k_whole); intro t' k'))
  (k_with "subscriptTail" => (k_here; (with_reducible show wpAny _ _ (subscriptTail _ _ (Value.ref _) (Value.int (Int.fmod _ _) _)) _ _ _); k_dflt (refine' sign_item ?zqN ?zqM ?zqS ?_; (case zqN => k_asm); (case zqM => k_mem); (case zqS => exact .cons _ _ (.cons _ _ (.cons _ _ (.cons _ _ (.cons _ _ (.cons _ _ (.cons _ _ .nil))))))); k_whole); intro _; (try k_sweep)))
  (k_with "subscriptTail" => (k_here; (with_reducible show wpAny _ _ (subscriptTail _ _ (Value.str (Str.ofString "Bab") _) (Value.int (Int.fmod (Int.fdiv _ _) _) _)) _ _ _); k_dflt (refine bab_item ?_)))
  (k_with "subscriptTail" => (k_here; (with_reducible show wpAny _ _ (subscriptTail _ _ (Value.str (Str.ofString "&\r<\n>\t\"") _) (Value.int (Int.fmod _ _) _)) _ _ _); k_dflt (refine char_item ?_)))
  (k_with "M:sh" => with_reducible exact item_sh _ _)
  (k_with "binaryOp Add str str" => (k_here; (with_reducible show wpAny _ _ (binaryOp Operator.Add (Value.str _ _) (Value.str _ _)) _ _ _); k_dflt (refine' str_add ?zqha ?zqhb ?zqhc ?_; (case zqha => walk_at "M:sh"); (case zqhb => walk_at "M:sh"); (case zqhc => first | decide | omega); k_whole); intro t' k' htk' hsh'; (try dsimp only at htk')))
  (k_with "subscriptTail" => (k_here; (with_reducible show wpAny _ _ (subscriptTail _ _ (Value.str _ _) (Value.int _ _)) _ _ _); k_dflt (refine' str_itemZ ?zqha ?zqhb ?zqhc ?_; (case zqha => with_reducible assumption); (case zqhb => omega); (case zqhc => omega); k_whole)))
  trivial
theorem freshLA : True := by
  try row_walk
  trivial
structure LW where
  D : Addr
  ws : List Value
  wsk : Nat
  t : Tok
  l : Addr
  x : Addr
  d : Addr
  hs : Int
  tkk : Tok
  nn : Nat
  wl : Addr
  wvs : List Value
  wk : Nat
  fl : Addr
  fvs : List Value
  fk : Nat
  nl : Addr
  nvs : List Value
  nk : Nat
  wd : Addr
  od : Obj
  c : List (Str × Int)
  o1 : Obj
  o2 : Obj
  o3 : Obj
  o4 : Obj
  o5 : Obj
  o6 : Obj
  o7 : Obj
  o8 : Obj
  o9 : Obj
theorem cutW {M : Model} {A : Around} {α : Type} {E : Value → Shared → Prop} {s₁ s : Shared} {t : Sem α} {Q : α → Shared → Prop} (P : LW → Heap → (Str → Option Value) → Prop) (hp : ∃ W h tk m, s = { s₁ with heap := h, toks := tk } ∧ P W h m) (k : ∀ W h tk m, P W h m → wpAny M A t Q E { s₁ with heap := h, toks := tk }) : wpAny M A t Q E s := by
  obtain ⟨W, h, tk, m, rfl, p⟩ := hp
  exact k W h tk m p
noncomputable def numsF (xs : List Int) : List Int := [16, 9, 2, 4, 9] ++ xs.take 5
theorem numsF_len (xs : List Int) : (numsF xs).length ≤ 10 := by unfold numsF; simp; omega
structure StA (g : Heap) (L : Addr) (xs : List Int) (iw : Nat) (W : LW) (h : Heap) (m : Str → Option Value) : Prop where
  F : Fr g L h m
  N : News g L h [(W.D, listOf (List.toArray W.ws) W.wsk), (L + 1 + 1 + 1 + 1 + 1 + 1 + 1 + 1 + 1, W.o1), (L + 1 + 1 + 1 + 1 + 1 + 1 + 1 + 1, W.o2), (L + 1 + 1 + 1 + 1 + 1 + 1 + 1, W.o3), (L + 1 + 1 + 1 + 1 + 1 + 1, W.o4), (L + 1 + 1 + 1 + 1 + 1, W.o5), (L + 1 + 1 + 1 + 1, W.o6), (L + 1 + 1 + 1, W.o7), (L + 1 + 1, W.o8), (L + 1, W.o9)]
  hws : IntsAre W.ws (numsF xs)
  m1 : m (Str.ofString "numbers") = some (.ref W.D)
  d1 : W.o9.data = Data.cell (some (Value.int ((iw : Nat) : Int) W.t))
  d2 : W.o8.data = Data.cell none
  d3 : W.o7.data = Data.cell none
  d4 : W.o6.data = Data.cell none
  d5 : W.o5.data = Data.cell none
  d6 : W.o4.data = Data.cell none
  d7 : W.o3.data = Data.cell none
  d8 : W.o2.data = Data.cell none
  d9 : W.o1.data = Data.cell none
  gD : @LT.lt Nat _ (L + 1 + 1 + 1 + 1 + 1 + 1 + 1 + 1 + 1) W.D
structure StB (g : Heap) (L : Addr) (xs : List Int) (iw : Nat) (W : LW) (h : Heap) (m : Str → Option Value) : Prop where
  F : Fr g L h m
  N : News g L h [(W.l, listOf #[] 0), (W.x, instObj 171 W.d), (W.d, dictOf [⟨W.hs, Value.str (Str.ofString "_headers") W.tkk, Value.ref W.l⟩] W.nn), (W.D, listOf (List.toArray W.ws) W.wsk), (L + 1 + 1 + 1 + 1 + 1 + 1 + 1 + 1 + 1, W.o1), (L + 1 + 1 + 1 + 1 + 1 + 1 + 1 + 1, W.o2), (L + 1 + 1 + 1 + 1 + 1 + 1 + 1, W.o3), (L + 1 + 1 + 1 + 1 + 1 + 1, W.o4), (L + 1 + 1 + 1 + 1 + 1, W.o5), (L + 1 + 1 + 1 + 1, W.o6), (L + 1 + 1 + 1, W.o7), (L + 1 + 1, W.o8), (L + 1, W.o9)]
  hws : IntsAre W.ws (numsF xs)
  m1 : m (Str.ofString "numbers") = some (.ref W.D)
  d1 : W.o9.data = Data.cell (some (Value.int ((iw : Nat) : Int) W.t))
  d2 : W.o8.data = Data.cell (some (Value.ref W.x))
  d3 : W.o7.data = Data.cell none
  d4 : W.o6.data = Data.cell none
  d5 : W.o5.data = Data.cell none
  d6 : W.o4.data = Data.cell none
  d7 : W.o3.data = Data.cell none
  d8 : W.o2.data = Data.cell none
  d9 : W.o1.data = Data.cell none
  gl : @LT.lt Nat _ (L + 1 + 1 + 1 + 1 + 1 + 1 + 1 + 1 + 1) W.l
  gx : @LT.lt Nat _ (L + 1 + 1 + 1 + 1 + 1 + 1 + 1 + 1 + 1) W.x
  gd : @LT.lt Nat _ (L + 1 + 1 + 1 + 1 + 1 + 1 + 1 + 1 + 1) W.d
  gD : @LT.lt Nat _ (L + 1 + 1 + 1 + 1 + 1 + 1 + 1 + 1 + 1) W.D
structure StD (g : Heap) (L : Addr) (xs : List Int) (iw : Nat) (W : LW) (h : Heap) (m : Str → Option Value) : Prop where
  F : Fr g L h m
  N : News g L h [(W.fl, listOf (List.toArray W.fvs) W.fk), (W.wl, listOf (List.toArray W.wvs) W.wk), (W.l, listOf #[] 0), (W.x, instObj 171 W.d), (W.d, dictOf [⟨W.hs, Value.str (Str.ofString "_headers") W.tkk, Value.ref W.l⟩] W.nn), (W.D, listOf (List.toArray W.ws) W.wsk), (L + 1 + 1 + 1 + 1 + 1 + 1 + 1 + 1 + 1, W.o1), (L + 1 + 1 + 1 + 1 + 1 + 1 + 1 + 1, W.o2), (L + 1 + 1 + 1 + 1 + 1 + 1 + 1, W.o3), (L + 1 + 1 + 1 + 1 + 1 + 1, W.o4), (L + 1 + 1 + 1 + 1 + 1, W.o5), (L + 1 + 1 + 1 + 1, W.o6), (L + 1 + 1 + 1, W.o7), (L + 1 + 1, W.o8), (L + 1, W.o9)]
  hws : IntsAre W.ws (numsF xs)
  hwv : StrsAre W.wvs (wrL iw)
  hfv : IntsAre W.fvs ((frL iw).map fun (k : Nat) => (k : Int))
  m1 : m (Str.ofString "numbers") = some (.ref W.D)
  d1 : W.o9.data = Data.cell (some (Value.int ((iw : Nat) : Int) W.t))
  d2 : W.o8.data = Data.cell (some (Value.ref W.x))
  d3 : W.o7.data = Data.cell (some (Value.ref W.wl))
  d4 : W.o6.data = Data.cell (some (Value.ref W.fl))
  d5 : W.o5.data = Data.cell none
  d6 : W.o4.data = Data.cell none
  d7 : W.o3.data = Data.cell none
  d8 : W.o2.data = Data.cell none
  d9 : W.o1.data = Data.cell none
  gl : @LT.lt Nat _ (L + 1 + 1 + 1 + 1 + 1 + 1 + 1 + 1 + 1) W.l
  gx : @LT.lt Nat _ (L + 1 + 1 + 1 + 1 + 1 + 1 + 1 + 1 + 1) W.x
  gd : @LT.lt Nat _ (L + 1 + 1 + 1 + 1 + 1 + 1 + 1 + 1 + 1) W.d
  gD : @LT.lt Nat _ (L + 1 + 1 + 1 + 1 + 1 + 1 + 1 + 1 + 1) W.D
  wl1 : @Ne Nat W.wl (L + 1)
  wl2 : @Ne Nat W.wl (L + 1 + 1)
  wl3 : @Ne Nat W.wl (L + 1 + 1 + 1)
  wl4 : @Ne Nat W.wl (L + 1 + 1 + 1 + 1)
  wl5 : @Ne Nat W.wl (L + 1 + 1 + 1 + 1 + 1)
  wl6 : @Ne Nat W.wl (L + 1 + 1 + 1 + 1 + 1 + 1)
  wl7 : @Ne Nat W.wl (L + 1 + 1 + 1 + 1 + 1 + 1 + 1)
  wl8 : @Ne Nat W.wl (L + 1 + 1 + 1 + 1 + 1 + 1 + 1 + 1)
  wl9 : @Ne Nat W.wl (L + 1 + 1 + 1 + 1 + 1 + 1 + 1 + 1 + 1)
  fl1 : @Ne Nat W.fl (L + 1)
  fl2 : @Ne Nat W.fl (L + 1 + 1)
  fl3 : @Ne Nat W.fl (L + 1 + 1 + 1)
  fl4 : @Ne Nat W.fl (L + 1 + 1 + 1 + 1)
  fl5 : @Ne Nat W.fl (L + 1 + 1 + 1 + 1 + 1)
  fl6 : @Ne Nat W.fl (L + 1 + 1 + 1 + 1 + 1 + 1)
  fl7 : @Ne Nat W.fl (L + 1 + 1 + 1 + 1 + 1 + 1 + 1)
  fl8 : @Ne Nat W.fl (L + 1 + 1 + 1 + 1 + 1 + 1 + 1 + 1)
  fl9 : @Ne Nat W.fl (L + 1 + 1 + 1 + 1 + 1 + 1 + 1 + 1 + 1)
structure StE (g : Heap) (L : Addr) (xs : List Int) (iw : Nat) (W : LW) (h : Heap) (m : Str → Option Value) : Prop where
  F : Fr g L h m
  N : News g L h [(W.nl, listOf (List.toArray W.nvs) W.nk), (W.fl, listOf (List.toArray W.fvs) W.fk), (W.wl, listOf (List.toArray W.wvs) W.wk), (W.l, listOf #[] 0), (W.x, instObj 171 W.d), (W.d, dictOf [⟨W.hs, Value.str (Str.ofString "_headers") W.tkk, Value.ref W.l⟩] W.nn), (W.D, listOf (List.toArray W.ws) W.wsk), (L + 1 + 1 + 1 + 1 + 1 + 1 + 1 + 1 + 1, W.o1), (L + 1 + 1 + 1 + 1 + 1 + 1 + 1 + 1, W.o2), (L + 1 + 1 + 1 + 1 + 1 + 1 + 1, W.o3), (L + 1 + 1 + 1 + 1 + 1 + 1, W.o4), (L + 1 + 1 + 1 + 1 + 1, W.o5), (L + 1 + 1 + 1 + 1, W.o6), (L + 1 + 1 + 1, W.o7), (L + 1 + 1, W.o8), (L + 1, W.o9)]
  hws : IntsAre W.ws (numsF xs)
  hfv : IntsAre W.fvs ((frL iw).map fun (k : Nat) => (k : Int))
  hnv : StrsAre W.nvs (nmsF iw)
  m1 : m (Str.ofString "numbers") = some (.ref W.D)
  m2 : m (Str.ofString "names") = some (.ref W.nl)
  d1 : W.o9.data = Data.cell (some (Value.int ((iw : Nat) : Int) W.t))
  d2 : W.o8.data = Data.cell (some (Value.ref W.x))
  d3 : W.o7.data = Data.cell (some (Value.ref W.wl))
  d4 : W.o6.data = Data.cell (some (Value.ref W.fl))
  d5 : W.o5.data = Data.cell none
  d6 : W.o4.data = Data.cell none
  d7 : W.o3.data = Data.cell none
  d8 : W.o2.data = Data.cell none
  d9 : W.o1.data = Data.cell none
  gl : @LT.lt Nat _ (L + 1 + 1 + 1 + 1 + 1 + 1 + 1 + 1 + 1) W.l
  gx : @LT.lt Nat _ (L + 1 + 1 + 1 + 1 + 1 + 1 + 1 + 1 + 1) W.x
  gd : @LT.lt Nat _ (L + 1 + 1 + 1 + 1 + 1 + 1 + 1 + 1 + 1) W.d
  gD : @LT.lt Nat _ (L + 1 + 1 + 1 + 1 + 1 + 1 + 1 + 1 + 1) W.D
  wl1 : @Ne Nat W.wl (L + 1)
  wl2 : @Ne Nat W.wl (L + 1 + 1)
  wl3 : @Ne Nat W.wl (L + 1 + 1 + 1)
  wl4 : @Ne Nat W.wl (L + 1 + 1 + 1 + 1)
  wl5 : @Ne Nat W.wl (L + 1 + 1 + 1 + 1 + 1)
  wl6 : @Ne Nat W.wl (L + 1 + 1 + 1 + 1 + 1 + 1)
  wl7 : @Ne Nat W.wl (L + 1 + 1 + 1 + 1 + 1 + 1 + 1)
  wl8 : @Ne Nat W.wl (L + 1 + 1 + 1 + 1 + 1 + 1 + 1 + 1)
  wl9 : @Ne Nat W.wl (L + 1 + 1 + 1 + 1 + 1 + 1 + 1 + 1 + 1)
  fl1 : @Ne Nat W.fl (L + 1)
  fl2 : @Ne Nat W.fl (L + 1 + 1)
  fl3 : @Ne Nat W.fl (L + 1 + 1 + 1)
  fl4 : @Ne Nat W.fl (L + 1 + 1 + 1 + 1)
  fl5 : @Ne Nat W.fl (L + 1 + 1 + 1 + 1 + 1)
  fl6 : @Ne Nat W.fl (L + 1 + 1 + 1 + 1 + 1 + 1)
  fl7 : @Ne Nat W.fl (L + 1 + 1 + 1 + 1 + 1 + 1 + 1)
  fl8 : @Ne Nat W.fl (L + 1 + 1 + 1 + 1 + 1 + 1 + 1 + 1)
  fl9 : @Ne Nat W.fl (L + 1 + 1 + 1 + 1 + 1 + 1 + 1 + 1 + 1)
  nl1 : @Ne Nat W.nl (L + 1)
  nl2 : @Ne Nat W.nl (L + 1 + 1)
  nl3 : @Ne Nat W.nl (L + 1 + 1 + 1)
  nl4 : @Ne Nat W.nl (L + 1 + 1 + 1 + 1)
  nl5 : @Ne Nat W.nl (L + 1 + 1 + 1 + 1 + 1)
  nl6 : @Ne Nat W.nl (L + 1 + 1 + 1 + 1 + 1 + 1)
  nl7 : @Ne Nat W.nl (L + 1 + 1 + 1 + 1 + 1 + 1 + 1)
  nl8 : @Ne Nat W.nl (L + 1 + 1 + 1 + 1 + 1 + 1 + 1 + 1)
  nl9 : @Ne Nat W.nl (L + 1 + 1 + 1 + 1 + 1 + 1 + 1 + 1 + 1)
theorem cells_nine {cm : Str → Option Value} {n1 n2 n3 n4 n5 n6 n7 n8 n9 : Str} {c1 c2 c3 c4 c5 c6 c7 c8 c9 : Addr} {cells : List (Addr × Obj)} (x : CellsAre cm [(n1, c1), (n2, c2), (n3, c3), (n4, c4), (n5, c5), (n6, c6), (n7, c7), (n8, c8), (n9, c9)] cells) :
    ∃ o1 o2 o3 o4 o5 o6 o7 o8 o9, cells = [(c1, o1), (c2, o2), (c3, o3), (c4, o4), (c5, o5), (c6, o6), (c7, o7), (c8, o8), (c9, o9)] ∧ o1.data = .cell (cm n1) ∧ o2.data = .cell (cm n2) ∧ o3.data = .cell (cm n3) ∧ o4.data = .cell (cm n4) ∧ o5.data = .cell (cm n5) ∧ o6.data = .cell (cm n6) ∧ o7.data = .cell (cm n7) ∧ o8.data = .cell (cm n8) ∧ o9.data = .cell (cm n9) := by
  cases x with | cons h1 x => cases x with | cons h2 x => cases x with | cons h3 x => cases x with | cons h4 x => cases x with | cons h5 x =>
  obtain ⟨o6, o7, o8, o9, rfl, h6, h7, h8, h9⟩ := CellsAre.four x
  exact ⟨_, _, _, _, _, o6, o7, o8, o9, rfl, h1, h2, h3, h4, h5, h6, h7, h8, h9⟩
noncomputable def LawEnd (s₁ : Shared) (L : Addr) (f : Flow) (s' : Shared) : Prop := f = .ret (.bool true) ∧ ∃ h' tk' m', s' = { s₁ with heap := h', toks := tk' } ∧ Fr s₁.heap L h' m'
theorem law_slice {w : World} {A : Around} {E : Value → Shared → Prop} {s : Shared} {g : Heap} {L l : Addr} {m : Str → Option Value} {news : List (Addr × Obj)} {value slice : PySem.Expr} {vs : List Value} {ns : List Int} {t : Tok} {Q : Value → Shared → Prop}
    (F : Fr g L s.heap m) (N : News g L s.heap news) (hl : g.IsList l vs.toArray) (hi : IntsAre vs ns) (hlen : ns.length ≤ 63)
    (h : ∀ D ws h', Fr g L h' m → News g L h' ((D, listOf (List.toArray ws) 0) :: news) → (∀ p ∈ news, p.1 < D) → IntsAre ws (ns.take 5) → Q (.ref D) { s with heap := h' })
    (hs : subscripted slice false (.ref l) (.ref s.heap.objs.size) = operate [.ref s.heap.objs.size, .ref l] (getItem (.ref l) (.ref s.heap.objs.size))) (ht : ∀ r, letTemporaryGo value (.ref l) r = pure ()) :
    wpAny (model PySem.Challenge.rw_xn0027_01.row.prog w) A (subscriptTail value slice (.ref l) (.ref s.heap.objs.size)) Q E { s with heap := s.heap.push { cls := .type "slice", data := .fields #[.none, .int 5 t, .none] } } := by
  have hl' : s.heap.IsList l vs.toArray := by
    obtain ⟨o, e, r⟩ := hl
    exact ⟨o, F.keep _ _ e, r⟩
  exact kmk_slice_ints (lo := none) (hi := some 5) F N hl' (by constructor) (by constructor) hi (kmk_upto (y := 5) hi (by decide)) rfl (fun D ws h' F' N' l1 hi' _ _ => h D ws h' F' N' l1 hi') hs ht (by rw [List.size_toArray, hi.length, sizeLine_eq]; omega)
theorem type_list {w : World} {A : Around} {E : Value → Shared → Prop} {s : Shared} {g : Heap} {L l : Addr} {news : List (Addr × Obj)} {its : Array Value} {n : Nat} {Q : Value → Shared → Prop}
    (N : News g L s.heap news) (hm : (l, listOf its n) ∈ news) (h : Q (.type "list") s) : wpAny (model PySem.Challenge.rw_xn0027_01.row.prog w) A (call (.type "type") [.ref l]) Q E s := by
  have e := N.get hm
  obtain ⟨hh, gg, d, t, os⟩ := s
  exact call_type_obj e (by show (Value.type "list" == _) = false; decide +kernel) h
theorem sign_at {i c : Nat} (h : (Str.ofString "&\r<\n>\t\"").cps[i]? = some c) : (⟨#[c]⟩ : Str) = nmAt sigs i ∧ i < 7 := by
  have hi : i < 7 := by
    obtain ⟨h', _⟩ := Array.getElem?_eq_some_iff.mp h
    exact h'
  refine ⟨?_, hi⟩
  obtain rfl | rfl | rfl | rfl | rfl | rfl | rfl : i = 0 ∨ i = 1 ∨ i = 2 ∨ i = 3 ∨ i = 4 ∨ i = 5 ∨ i = 6 := by omega
  all_goals (have h := Option.some.inj h; subst h; decide +kernel)
theorem wr_next {i j : Nat} {ys : List Value} {t : Tok} (h : StrsAre ys ((sigs.take i).map (wrF j))) (hi : i < 7) : StrsAre (ys ++ [.str (wrF j (nmAt sigs i)) t]) ((sigs.take (i + 1)).map (wrF j)) := by
  have e : sigs[i]? = some (nmAt sigs i) := nmAt_get hi
  rw [List.take_add_one, e, List.map_append]
  exact kct_snoc h
theorem escAll_all {x : Str} (h : escAll x = true) : escOK c14nT x = true ∧ escOK attribT x = true ∧ escOK htmlT x = true ∧ escOK ac14nT x = true ∧ escOK cdataT x = true := by
  unfold escAll at h
  simp only [Bool.and_eq_true] at h
  exact ⟨h.1.1.1.1, h.1.1.1.2, h.1.1.2, h.1.2, h.2⟩
theorem tab_sub {n n' : List (Addr × Obj)} {t l d : Addr} {hs : Int} {tkk : Tok} {nn ln : Nat} {vs : List Value} (h : TabIn n t l d hs tkk nn vs ln []) (h1 : ∀ p ∈ n, p ∈ n') : TabIn n' t l d hs tkk nn vs ln [] := by
  obtain ⟨a, b, c, r, s⟩ := h
  refine ⟨h1 _ a, h1 _ b, h1 _ c, ?_, s⟩
  cases r
  exact .nil
theorem tab_new {n : List (Addr × Obj)} {t l d : Addr} {hs : Int} {tkk : Tok} {nn : Nat} (a : (t, instObj 171 d) ∈ n) (b : (d, dictOf [⟨hs, Value.str (Str.ofString "_headers") tkk, Value.ref l⟩] nn) ∈ n) (c : (l, listOf #[] 0) ∈ n) : TabIn n t l d hs tkk nn [] 0 [] := ⟨a, b, c, .nil, fun _ h => nomatch h⟩
theorem cell_ne {g h : Heap} {L D c : Addr} {its : Array Value} {k : Nat} {o : Obj} {v : Option Value} {n : List (Addr × Obj)} (N : News g L h n) (hD : (D, listOf its k) ∈ n) (hc : (c, o) ∈ n) (d : o.data = .cell v) : @Ne Nat D c := by
  intro e
  have h1 := (N _ hD).1
  have h2 := (N _ hc).1
  dsimp only at h1 h2
  have e' : D = c := e
  rw [e', h2] at h1
  have := Option.some.inj h1
  subst this
  cases d
theorem fr_at {i j : Nat} {vs : List Value} {v : Value} (h : IntsAre vs ((frL j).map fun (k : Nat) => (k : Int))) (hv : vs[i]? = some v) : ∃ (p : Nat) (t : Tok), v = .int (p : Int) t ∧ (frL j)[i]? = some p := by
  obtain ⟨k, t, rfl, hk⟩ := h.at i v hv
  rw [List.getElem?_map] at hk
  cases e : (frL j)[i]? with
  | none => rw [e] at hk; cases hk
  | some p => rw [e] at hk; exact ⟨p, t, by rw [← Option.some.inj hk], rfl⟩
theorem nm_next {i j p : Nat} {ys : List Value} {t : Tok} (h : StrsAre ys (((frL j).take i).map (nmAt (wrL j)))) (hp : (frL j)[i]? = some p) : StrsAre (ys ++ [.str (nmAt (wrL j) p) t]) (((frL j).take (i + 1)).map (nmAt (wrL j))) := by
  rw [List.take_add_one, hp, List.map_append]
  exact kct_snoc h
theorem ints_len {vs : List Value} {ns : List Int} (h : IntsAre vs ns) : vs.length = ns.length := h.length
theorem strs_dat {n : List (Addr × Obj)} {vs : List Value} {xs : List Str} (h : StrsAre vs xs) : DatAll n vs (xs.map Dat.str) := by
  induction h with
  | nil => exact .nil
  | cons y t _ ih => exact .cons (.str y t) ih
theorem strs_same {w : World} {A : Around} {E : Value → Shared → Prop} {s : Shared} {g : Heap} {L a b : Addr} {news : List (Addr × Obj)} {xs ys : List Value} {ka kb : Nat} {ss : List Str} {Q : Value → Shared → Prop} (N : News g L s.heap news) (ma : (a, listOf xs.toArray ka) ∈ news) (Da : StrsAre xs ss) (mb : (b, listOf ys.toArray kb) ∈ news) (Db : StrsAre ys ss) (ok : ∀ x ∈ ss, PyData.strOk x = true) (hu : A.units + 64 < cLine) (h : Q (.bool false) s) : wpAny (model PySem.Challenge.rw_xn0027_01.row.prog w) A (compareOp .NotEq (.ref a) (.ref b)) Q E s := by
  have okd : ∀ d ∈ ss.map Dat.str, kqdOk 8 d = true := by
    intro d hd
    obtain ⟨x, hx, rfl⟩ := List.mem_map.mp hd
    exact ok x hx
  refine kqd_ne N ma rfl rfl (strs_dat (n := []) Da) (fun p hp => nomatch hp) mb rfl rfl (strs_dat (n := []) Db) (fun p hp => nomatch hp) okd okd hu ?_
  simp only [decide_true, Bool.not_true]
  exact h
theorem names_strok : ∀ i, i < 5 → ∀ n ∈ nmsF i, PyData.strOk n = true := by decide +kernel
theorem spell_yes {i j : Nat} {ys : List Value} {y : Str} {t : Tok} (h : StrsAre ys (((spellR j).take i).filter fun x => x != Str.ofString "")) (hy : (spellR j)[i]? = some y) (hne : (y != Str.ofString "") = true) : StrsAre (ys ++ [.str y t]) (((spellR j).take (i + 1)).filter fun x => x != Str.ofString "") := by
  rw [List.take_add_one, hy, List.filter_append]
  show StrsAre _ (_ ++ List.filter _ [y])
  rw [List.filter_cons, if_pos hne]
  exact kct_snoc h
theorem spell_no {i j : Nat} {ys : List Value} {y : Str} (h : StrsAre ys (((spellR j).take i).filter fun x => x != Str.ofString "")) (hy : (spellR j)[i]? = some y) (hne : (y != Str.ofString "") = false) : StrsAre ys (((spellR j).take (i + 1)).filter fun x => x != Str.ofString "") := by
  rw [List.take_add_one, hy, List.filter_append]
  show StrsAre _ (_ ++ List.filter _ [y])
  rw [List.filter_cons, if_neg (by rw [hne]; decide), List.filter_nil, List.append_nil]
  exact h
theorem spell_len : ∀ i, i < 5 → (spellR i).length = 7 := by decide +kernel
theorem spell_short : ∀ i, i < 5 → ∀ y ∈ spellR i, y.length ≤ 100 := by decide +kernel
structure StF (w : World) (g : Heap) (L : Addr) (xs : List Int) (iw : Nat) (W : LW) (h : Heap) (m : Str → Option Value) : Prop where
  F : Fr g L h m
  N : News g L h [(W.wd, W.od), (W.nl, listOf (List.toArray W.nvs) W.nk), (W.fl, listOf (List.toArray W.fvs) W.fk), (W.wl, listOf (List.toArray W.wvs) W.wk), (W.l, listOf #[] 0), (W.x, instObj 171 W.d), (W.d, dictOf [⟨W.hs, Value.str (Str.ofString "_headers") W.tkk, Value.ref W.l⟩] W.nn), (W.D, listOf (List.toArray W.ws) W.wsk), (L + 1 + 1 + 1 + 1 + 1 + 1 + 1 + 1 + 1, W.o1), (L + 1 + 1 + 1 + 1 + 1 + 1 + 1 + 1, W.o2), (L + 1 + 1 + 1 + 1 + 1 + 1 + 1, W.o3), (L + 1 + 1 + 1 + 1 + 1 + 1, W.o4), (L + 1 + 1 + 1 + 1 + 1, W.o5), (L + 1 + 1 + 1 + 1, W.o6), (L + 1 + 1 + 1, W.o7), (L + 1 + 1, W.o8), (L + 1, W.o9)]
  hws : IntsAre W.ws (numsF xs)
  hnv : StrsAre W.nvs (nmsF iw)
  hwsh : wishesIn w [(W.wd, W.od)] W.wd W.c
  hcok : COK iw W.c
  hck : ∀ x ∈ numsF xs, kdpHas W.c (keyF x) = true
  m1 : m (Str.ofString "numbers") = some (.ref W.D)
  m2 : m (Str.ofString "names") = some (.ref W.nl)
  d1 : W.o9.data = Data.cell (some (Value.int ((iw : Nat) : Int) W.t))
  d2 : W.o8.data = Data.cell (some (Value.ref W.x))
  d3 : W.o7.data = Data.cell (some (Value.ref W.wl))
  d4 : W.o6.data = Data.cell (some (Value.ref W.fl))
  d5 : W.o5.data = Data.cell (some (Value.ref W.wd))
  d6 : W.o4.data = Data.cell none
  d7 : W.o3.data = Data.cell none
  d8 : W.o2.data = Data.cell none
  d9 : W.o1.data = Data.cell none
  gl : @LT.lt Nat _ (L + 1 + 1 + 1 + 1 + 1 + 1 + 1 + 1 + 1) W.l
  gx : @LT.lt Nat _ (L + 1 + 1 + 1 + 1 + 1 + 1 + 1 + 1 + 1) W.x
  gd : @LT.lt Nat _ (L + 1 + 1 + 1 + 1 + 1 + 1 + 1 + 1 + 1) W.d
  gD : @LT.lt Nat _ (L + 1 + 1 + 1 + 1 + 1 + 1 + 1 + 1 + 1) W.D
  wl1 : @Ne Nat W.wl (L + 1)
  wl2 : @Ne Nat W.wl (L + 1 + 1)
  wl3 : @Ne Nat W.wl (L + 1 + 1 + 1)
  wl4 : @Ne Nat W.wl (L + 1 + 1 + 1 + 1)
  wl5 : @Ne Nat W.wl (L + 1 + 1 + 1 + 1 + 1)
  wl6 : @Ne Nat W.wl (L + 1 + 1 + 1 + 1 + 1 + 1)
  wl7 : @Ne Nat W.wl (L + 1 + 1 + 1 + 1 + 1 + 1 + 1)
  wl8 : @Ne Nat W.wl (L + 1 + 1 + 1 + 1 + 1 + 1 + 1 + 1)
  wl9 : @Ne Nat W.wl (L + 1 + 1 + 1 + 1 + 1 + 1 + 1 + 1 + 1)
  fl1 : @Ne Nat W.fl (L + 1)
  fl2 : @Ne Nat W.fl (L + 1 + 1)
  fl3 : @Ne Nat W.fl (L + 1 + 1 + 1)
  fl4 : @Ne Nat W.fl (L + 1 + 1 + 1 + 1)
  fl5 : @Ne Nat W.fl (L + 1 + 1 + 1 + 1 + 1)
  fl6 : @Ne Nat W.fl (L + 1 + 1 + 1 + 1 + 1 + 1)
  fl7 : @Ne Nat W.fl (L + 1 + 1 + 1 + 1 + 1 + 1 + 1)
  fl8 : @Ne Nat W.fl (L + 1 + 1 + 1 + 1 + 1 + 1 + 1 + 1)
  fl9 : @Ne Nat W.fl (L + 1 + 1 + 1 + 1 + 1 + 1 + 1 + 1 + 1)
  nl1 : @Ne Nat W.nl (L + 1)
  nl2 : @Ne Nat W.nl (L + 1 + 1)
  nl3 : @Ne Nat W.nl (L + 1 + 1 + 1)
  nl4 : @Ne Nat W.nl (L + 1 + 1 + 1 + 1)
  nl5 : @Ne Nat W.nl (L + 1 + 1 + 1 + 1 + 1)
  nl6 : @Ne Nat W.nl (L + 1 + 1 + 1 + 1 + 1 + 1)
  nl7 : @Ne Nat W.nl (L + 1 + 1 + 1 + 1 + 1 + 1 + 1)
  nl8 : @Ne Nat W.nl (L + 1 + 1 + 1 + 1 + 1 + 1 + 1 + 1)
  nl9 : @Ne Nat W.nl (L + 1 + 1 + 1 + 1 + 1 + 1 + 1 + 1 + 1)
  wd1 : @Ne Nat W.wd (L + 1)
  wd2 : @Ne Nat W.wd (L + 1 + 1)
  wd3 : @Ne Nat W.wd (L + 1 + 1 + 1)
  wd4 : @Ne Nat W.wd (L + 1 + 1 + 1 + 1)
  wd5 : @Ne Nat W.wd (L + 1 + 1 + 1 + 1 + 1)
  wd6 : @Ne Nat W.wd (L + 1 + 1 + 1 + 1 + 1 + 1)
  wd7 : @Ne Nat W.wd (L + 1 + 1 + 1 + 1 + 1 + 1 + 1)
  wd8 : @Ne Nat W.wd (L + 1 + 1 + 1 + 1 + 1 + 1 + 1 + 1)
  wd9 : @Ne Nat W.wd (L + 1 + 1 + 1 + 1 + 1 + 1 + 1 + 1 + 1)
theorem kdpLook_put (c : List (Str × Int)) (k : Str) (v : Int) (j : Str) : kdpLook (kdpPut c k v) j 0 = if j = k then v else kdpLook c j 0 := by
  unfold kdpPut
  split
  · next ha =>
    unfold kdpLook
    have e : ((c.map fun p => if decide (p.1 = k) then (p.1, v) else p).find? fun p => decide (p.1 = j)) = (c.find? fun p => decide (p.1 = j)).map fun p => if decide (p.1 = k) then (p.1, v) else p := by
      rw [List.find?_map]
      congr 2
      funext p
      simp only [Function.comp]
      split <;> rfl
    rw [e]
    cases hf : c.find? fun p => decide (p.1 = j) with
    | none =>
      rw [if_neg]
      · rfl
      · intro hjk
        subst hjk
        obtain ⟨p, hp, hk⟩ := List.any_eq_true.mp ha
        have := List.find?_eq_none.mp hf p hp
        exact this hk
    | some p =>
      have hp := of_decide_eq_true (List.find?_some (p := fun p : Str × Int => decide (p.1 = j)) hf)
      by_cases hjk : j = k
      · rw [if_pos hjk]
        have : p.1 = k := hp.trans hjk
        simp [this]
      · rw [if_neg hjk]
        have : ¬ p.1 = k := fun e => hjk (hp.symm.trans e)
        simp [this]
  · next ha =>
    unfold kdpLook
    rw [List.find?_append]
    by_cases hjk : j = k
    · rw [if_pos hjk]
      have hf : c.find? (fun p => decide (p.1 = j)) = none := by
        rw [List.find?_eq_none]
        intro p hp hk
        exact ha (List.any_eq_true.mpr ⟨p, hp, by rw [← hjk]; exact hk⟩)
      rw [hf]
      simp [hjk]
    · rw [if_neg hjk]
      have hn : ([(k, v)].find? fun p : Str × Int => decide (p.1 = j)) = none := by
        rw [List.find?_cons, decide_eq_false (fun e => hjk e.symm)]; rfl
      rw [hn, Option.or_none]
noncomputable def WInv (iw : Nat) (ns : List Int) (i : Nat) (c : List (Str × Int)) : Prop := (∀ x ∈ ns.take i, kdpHas c (keyF x) = true) ∧ COK iw c
theorem WInv.zero (iw : Nat) (ns : List Int) : WInv iw ns 0 [] := ⟨fun x hx => by simp at hx, ⟨fun k hk => by simp [kdpHas] at hk, fun k hk => by simp [kdpHas] at hk⟩⟩
theorem WInv.next {iw i : Nat} {ns : List Int} {c : List (Str × Int)} {x : Int} (hi : iw < 5) (h : WInv iw ns i c) (hx : ns[i]? = some x) : WInv iw ns (i + 1) (kdpPut c (keyF x) ((wz iw (jF x) : Nat) : Int)) := by
  refine ⟨?_, ?_, ?_⟩
  · intro y hy
    rw [kdpHas_put]
    rw [List.take_add_one, hx] at hy
    rcases List.mem_append.mp hy with hy | hy
    · rw [h.1 y hy, Bool.or_true]
    · simp at hy; subst hy; simp
  · intro k hk
    rw [kdpHas_put] at hk
    rcases Bool.or_eq_true_iff.mp hk with e | e
    · exact ⟨x, of_decide_eq_true e⟩
    · exact h.2.key k e
  · intro k hk
    rw [kdpHas_put] at hk
    rw [kdpLook_put]
    by_cases e : k = keyF x
    · rw [if_pos e]
      exact ⟨_, rfl, wz_dec iw hi _ (jF_lt x)⟩
    · rw [if_neg e]
      rcases Bool.or_eq_true_iff.mp hk with e' | e'
      · exact absurd (of_decide_eq_true e') e
      · exact h.2.val k e'
theorem wz_yes {iw i p : Nat} {x : Int} {n : Nat} (h : n = (((frL iw).take i).filter fun k => decide (k < jF x)).length) (hp : (frL iw)[i]? = some p) (hlt : (p : Int) < x.fmod 7) : n + 1 = (((frL iw).take (i + 1)).filter fun k => decide (k < jF x)).length := by
  have : p < jF x := by unfold jF; omega
  rw [List.take_add_one, hp, List.filter_append, List.length_append, ← h]
  simp [this]
theorem wz_no {iw i p : Nat} {x : Int} {n : Nat} (h : n = (((frL iw).take i).filter fun k => decide (k < jF x)).length) (hp : (frL iw)[i]? = some p) (hlt : ¬ (p : Int) < x.fmod 7) : n = (((frL iw).take (i + 1)).filter fun k => decide (k < jF x)).length := by
  have a := Int.fmod_nonneg_of_pos x (show (0:Int) < 7 by omega)
  have : ¬ p < jF x := by unfold jF; omega
  rw [List.take_add_one, hp, List.filter_append, List.length_append, ← h]
  simp [this]
structure LoopS (w : World) (L : Addr) (xs : List Int) (iw : Nat) (W : LW) (hcok : NamOK (nmsF iw) W.c) (kl : Addr) (m : Str → Option Value) (n : List (Addr × Obj)) (T : List (Str × Str)) (kept : List Str) (tvs : List Value) (tln : Nat) (kvs : List Value) (kk : Nat) : Prop where
  S : St w n W.x W.l W.d W.hs W.tkk W.nn tvs tln T W.nl W.nvs W.nk W.wd (nmsF iw) W.c
  hk : (kl, listOf (List.toArray kvs) kk) ∈ n
  hks : StrsAre kvs kept
  hD : (W.D, listOf (List.toArray W.ws) W.wsk) ∈ n
  c1 : (L + 1, W.o9) ∈ n
  c2 : (L + 1 + 1, W.o8) ∈ n
  c3 : (L + 1 + 1 + 1, W.o7) ∈ n
  c4 : (L + 1 + 1 + 1 + 1, W.o6) ∈ n
  c5 : (L + 1 + 1 + 1 + 1 + 1, W.o5) ∈ n
  c6 : (L + 1 + 1 + 1 + 1 + 1 + 1, W.o4) ∈ n
  c7 : (L + 1 + 1 + 1 + 1 + 1 + 1 + 1, W.o3) ∈ n
  c8 : (L + 1 + 1 + 1 + 1 + 1 + 1 + 1 + 1, W.o2) ∈ n
  c9 : (L + 1 + 1 + 1 + 1 + 1 + 1 + 1 + 1 + 1, W.o1) ∈ n
  m1 : m (Str.ofString "numbers") = some (.ref W.D)
  m2 : m (Str.ofString "names") = some (.ref W.nl)
  m3 : m (Str.ofString "kept") = some (.ref kl)
  G : Good hcok T kept
  kin : ∀ k ∈ kept, kdpHas W.c k = true ∧ k ≠ Str.ofString ""
  n1 : @Ne Nat W.l kl
  n2 : @Ne Nat W.nl kl
  n3 : @Ne Nat W.D kl
  n4 : @Ne Nat W.D W.l
  n5 : @Ne Nat kl W.l
  len : kept.length ≤ (nmsF iw).length
  e1 : @Ne Nat (L + 1) W.l
  k1 : @Ne Nat (L + 1) kl
  e2 : @Ne Nat (L + 1 + 1) W.l
  k2 : @Ne Nat (L + 1 + 1) kl
  e3 : @Ne Nat (L + 1 + 1 + 1) W.l
  k3 : @Ne Nat (L + 1 + 1 + 1) kl
  e4 : @Ne Nat (L + 1 + 1 + 1 + 1) W.l
  k4 : @Ne Nat (L + 1 + 1 + 1 + 1) kl
  e5 : @Ne Nat (L + 1 + 1 + 1 + 1 + 1) W.l
  k5 : @Ne Nat (L + 1 + 1 + 1 + 1 + 1) kl
  e6 : @Ne Nat (L + 1 + 1 + 1 + 1 + 1 + 1) W.l
  k6 : @Ne Nat (L + 1 + 1 + 1 + 1 + 1 + 1) kl
  e7 : @Ne Nat (L + 1 + 1 + 1 + 1 + 1 + 1 + 1) W.l
  k7 : @Ne Nat (L + 1 + 1 + 1 + 1 + 1 + 1 + 1) kl
  e8 : @Ne Nat (L + 1 + 1 + 1 + 1 + 1 + 1 + 1 + 1) W.l
  k8 : @Ne Nat (L + 1 + 1 + 1 + 1 + 1 + 1 + 1 + 1) kl
  e9 : @Ne Nat (L + 1 + 1 + 1 + 1 + 1 + 1 + 1 + 1 + 1) W.l
  k9 : @Ne Nat (L + 1 + 1 + 1 + 1 + 1 + 1 + 1 + 1 + 1) kl
noncomputable def LoopJ (w : World) (L : Addr) (xs : List Int) (iw : Nat) (W : LW) (hcok : NamOK (nmsF iw) W.c) (kl : Addr) (m : Str → Option Value) (n : List (Addr × Obj)) : Prop := ∃ T kept tvs tln kvs kk, LoopS w L xs iw W hcok kl m n T kept tvs tln kvs kk
theorem good_new {nms : List Str} {c : List (Str × Int)} (O : NamOK nms c) : Good O [] [] := Good.nil O
theorem in_yes {prog : Program} {w : World} {A : Around} {E : Value → Shared → Prop} {s : Shared} {g : Heap} {L l : Addr} {news : List (Addr × Obj)} {vs : List Value} {ks : List Str} {ln : Nat} {k : Str} {t : Tok} {Q : Value → Shared → Prop} (N : News g L s.heap news) (hl : (l, listOf vs.toArray ln) ∈ news) (hS : StrsAre vs ks) (hk : k ∈ ks) (h1 : Q (.bool true) s) : wpAny (model prog w) A (compareOp .In (.str k t) (.ref l)) Q E s :=
  in_kept N hl hS (fun _ => h1) (fun h => absurd hk h)
theorem in_no {prog : Program} {w : World} {A : Around} {E : Value → Shared → Prop} {s : Shared} {g : Heap} {L l : Addr} {news : List (Addr × Obj)} {vs : List Value} {ks : List Str} {ln : Nat} {k : Str} {t : Tok} {Q : Value → Shared → Prop} (N : News g L s.heap news) (hl : (l, listOf vs.toArray ln) ∈ news) (hS : StrsAre vs ks) (hk : k ∉ ks) (h1 : Q (.bool false) s) : wpAny (model prog w) A (compareOp .In (.str k t) (.ref l)) Q E s :=
  in_kept N hl hS (fun h => absurd h hk) (fun _ => h1)
theorem remove_K {w : World} {A : Around} {E : Value → Shared → Prop} {s : Shared} {g : Heap} {L a : Addr} {m : Str → Option Value} {news : List (Addr × Obj)} {kvs : List Value} {ks : List Str} {kk : Nat} {k : Str} {tt : Tok} {Q : Value → Shared → Prop}
    {t l d : Addr} {hs : Int} {tkk : Tok} {nn : Nat} {vs : List Value} {ln : Nat} {T : List (Str × Str)} {nl : Addr} {nvs : List Value} {nk : Nat} {wd : Addr} {nms : List Str} {c : List (Str × Int)}
    (F : Fr g L s.heap m) (N : News g L s.heap news) (hl : (a, listOf kvs.toArray kk) ∈ news) (hS : StrsAre kvs ks) (hk : k ∈ ks) (hsz : kvs.length < 1000) (S : St w news t l d hs tkk nn vs ln T nl nvs nk wd nms c) (h1 : @Ne Nat l a) (h2 : @Ne Nat nl a)
    (cont : ∀ h' n' kvs' kk', Fr g L h' m → News g L h' n' → Upto a news n' → (a, listOf (List.toArray kvs') kk') ∈ n' → StrsAre kvs' (ks.erase k) → St w n' t l d hs tkk nn vs ln T nl nvs nk wd nms c → Q .none { s with heap := h' }) :
    wpAny (model PySem.Challenge.rw_xn0027_01.row.prog w) A (call (.builtin "list.remove") [.ref a, .str k tt]) Q E s :=
  remove_P F N hl hS hk hsz fun h' vs' ln' hS' F' N' => cont h' _ vs' ln' F' N' (fun _ hp hne => putAt_mem hp hne) putAt_self hS' (S.put N hl h1 h2)
theorem append_K {w : World} {A : Around} {E : Value → Shared → Prop} {s : Shared} {g : Heap} {L a : Addr} {m : Str → Option Value} {news : List (Addr × Obj)} {kvs : List Value} {ks : List Str} {kk : Nat} {k : Str} {tt : Tok} {Q : Value → Shared → Prop}
    {t l d : Addr} {hs : Int} {tkk : Tok} {nn : Nat} {vs : List Value} {ln : Nat} {T : List (Str × Str)} {nl : Addr} {nvs : List Value} {nk : Nat} {wd : Addr} {nms : List Str} {c : List (Str × Int)}
    (F : Fr g L s.heap m) (N : News g L s.heap news) (hl : (a, listOf kvs.toArray kk) ∈ news) (hS : StrsAre kvs ks) (hsz : kvs.length < 1000) (S : St w news t l d hs tkk nn vs ln T nl nvs nk wd nms c) (h1 : @Ne Nat l a) (h2 : @Ne Nat nl a)
    (cont : ∀ h' n' kvs' kk', Fr g L h' m → News g L h' n' → Upto a news n' → (a, listOf (List.toArray kvs') kk') ∈ n' → StrsAre kvs' (ks ++ [k]) → St w n' t l d hs tkk nn vs ln T nl nvs nk wd nms c → Q .none { s with heap := h' }) :
    wpAny (model PySem.Challenge.rw_xn0027_01.row.prog w) A (call (.builtin "list.append") [.ref a, .str k tt]) Q E s :=
  append_P F N hl (by rw [List.size_toArray]; exact hsz) fun h' F' N' => cont h' _ (kvs ++ [.str k tt]) (kk + 1) F' N' (fun _ hp hne => putAt_mem hp hne) (by rw [show (kvs ++ [Value.str k tt]).toArray = kvs.toArray.push (.str k tt) by simp]; exact putAt_self) (kct_snoc hS) (S.put N hl h1 h2)
structure Two (a1 a2 a : Addr) (o1 o2 : Obj) (n : List (Addr × Obj)) : Prop where
  c1 : (a1, o1) ∈ n
  c2 : (a2, o2) ∈ n
  n1 : a1 ≠ a
  n2 : a2 ≠ a
theorem Two.up {a1 a2 a : Addr} {o1 o2 : Obj} {n n' : List (Addr × Obj)} (t : Two a1 a2 a o1 o2 n) (U : Upto a n n') : Two a1 a2 a o1 o2 n' := ⟨U _ t.c1 t.n1, U _ t.c2 t.n2, t.n1, t.n2⟩
theorem st_off {w : World} {g h : Heap} {L I : Addr} {it : Obj} {news : List (Addr × Obj)} {t l d : Addr} {hs : Int} {tkk : Tok} {nn : Nat} {vs : List Value} {ln : Nat} {T : List (Str × Str)} {nl : Addr} {nvs : List Value} {nk : Nat} {wd : Addr} {nms : List Str} {c : List (Str × Int)}
    (S : St w news t l d hs tkk nn vs ln T nl nvs nk wd nms c) (N : News g L h news) (hI : (I, it) ∈ news) (hc : it.cls = .type "list_iterator") : St w (news.filter fun p => p.1 != I) t l d hs tkk nn vs ln T nl nvs nk wd nms c := by
  have keep : ∀ b o, (b, o) ∈ news → o.cls ≠ .type "list_iterator" → (b, o) ∈ news.filter fun p => p.1 != I := by
    intro b o hb hne
    refine List.mem_filter.mpr ⟨hb, ?_⟩
    have : b ≠ I := by
      intro e
      have x := (N _ hb).1
      have y := (N _ hI).1
      dsimp only at x y
      rw [e, y] at x
      exact hne (by rw [← Option.some.inj x]; exact hc)
    simpa using this
  obtain ⟨⟨i1, i2, i3, i4, i5⟩, s2, s3, ⟨o, kvs, w1, w2, w3, w4⟩, s5, s6, s7, s8⟩ := S
  have hty : ∀ x : String, x ≠ "list_iterator" → Value.type x ≠ .type "list_iterator" := fun x hx e => hx (Value.type.inj e)
  refine ⟨⟨keep _ _ i1 (fun e => by cases e), keep _ _ i2 (hty _ (by decide)), keep _ _ i3 (hty _ (by decide)), ?_, i5⟩, keep _ _ s2 (hty _ (by decide)), s3, ⟨o, kvs, keep _ _ w1 ?_, w2, w3, w4⟩, s5, s6, s7, s8⟩
  · clear i5 s8 i3
    induction i4 with
    | nil => exact .nil
    | cons hm _ ih => exact .cons (keep _ _ hm (hty _ (by decide))) ih
  · obtain ⟨es, ep, hc', _⟩ := w2
    rw [hc'.1]; exact hty _ (by decide)
theorem LoopS.next {w : World} {g h' : Heap} {L : Addr} {xs : List Int} {iw : Nat} {W : LW} {O : NamOK (nmsF iw) W.c} {kl : Addr} {m m' : Str → Option Value} {n n1 n2 : List (Addr × Obj)} {T Te : List (Str × Str)} {kept kept' : List Str} {tvs tvs' : List Value} {tln tln' : Nat} {kvs kvs' : List Value} {kk kk' : Nat} {I : Addr} {it : Obj}
    (st : LoopS w L xs iw W O kl m n T kept tvs tln kvs kk) (hoff : ∀ p ∈ n, p.1 ≠ I) (hIk : I ≠ kl) (hIl : I ≠ W.l) (hc : it.cls = .type "list_iterator")
    (U1 : Upto kl ((I, it) :: n) n1) (hk1 : (kl, listOf (List.toArray kvs') kk') ∈ n1) (U2 : Upto W.l n1 n2) (S2 : St w n2 W.x W.l W.d W.hs W.tkk W.nn tvs' tln' Te W.nl W.nvs W.nk W.wd (nmsF iw) W.c) (N2 : News g L h' n2) (F2 : Fr g L h' m')
    (hks' : StrsAre kvs' kept') (G' : Good O Te kept') (kin' : ∀ k ∈ kept', kdpHas W.c k = true ∧ k ≠ Str.ofString "") (len' : kept'.length ≤ (nmsF iw).length)
    (m1 : m' (Str.ofString "numbers") = some (.ref W.D)) (m2 : m' (Str.ofString "names") = some (.ref W.nl)) (m3 : m' (Str.ofString "kept") = some (.ref kl)) :
    ∃ n3, News g L h' ((I, it) :: n3) ∧ OffI I it n3 ∧ LoopJ w L xs iw W O kl m' n3 := by
  have hI2 : (I, it) ∈ n2 := U2 _ (U1 _ (List.mem_cons_self ..) hIk) hIl
  have far : ∀ a o, (a, o) ∈ n → a ≠ kl → a ≠ W.l → (a, o) ∈ n2.filter fun p => p.1 != I := fun a o ha h1 h2 =>
    List.mem_filter.mpr ⟨U2 _ (U1 _ (List.mem_cons_of_mem _ ha) h1) h2, by simpa using hoff _ ha⟩
  refine ⟨n2.filter fun p => p.1 != I, ?_, ?_, Te, kept', tvs', tln', kvs', kk', ?_⟩
  · intro p hp
    rcases List.mem_cons.mp hp with rfl | hp
    · exact N2 _ hI2
    · exact N2 _ (List.mem_filter.mp hp).1
  · intro p hp
    exact .inl (by simpa using (List.mem_filter.mp hp).2)
  · have hkk : (kl, listOf (List.toArray kvs') kk') ∈ n2.filter fun p => p.1 != I := List.mem_filter.mpr ⟨U2 _ hk1 st.n5, by simpa using Ne.symm hIk⟩
    exact { S := st_off S2 N2 hI2 hc, hk := hkk, hks := hks', hD := far _ _ st.hD st.n3 st.n4, c1 := far _ _ st.c1 st.k1 st.e1, c2 := far _ _ st.c2 st.k2 st.e2, c3 := far _ _ st.c3 st.k3 st.e3, c4 := far _ _ st.c4 st.k4 st.e4, c5 := far _ _ st.c5 st.k5 st.e5, c6 := far _ _ st.c6 st.k6 st.e6, c7 := far _ _ st.c7 st.k7 st.e7, c8 := far _ _ st.c8 st.k8 st.e8, c9 := far _ _ st.c9 st.k9 st.e9, m1 := m1, m2 := m2, m3 := m3, G := G', kin := kin', n1 := st.n1, n2 := st.n2, n3 := st.n3, n4 := st.n4, n5 := st.n5, len := len', e1 := st.e1, k1 := st.k1, e2 := st.e2, k2 := st.k2, e3 := st.e3, k3 := st.k3, e4 := st.e4, k4 := st.k4, e5 := st.e5, k5 := st.k5, e6 := st.e6, k6 := st.k6, e7 := st.e7, k7 := st.k7, e8 := st.e8, k8 := st.k8, e9 := st.e9, k9 := st.k9 }
structure LG where
  W : LW
  kl : Addr
  kvs : List Value
  kk : Nat
  T : List (Str × Str)
  kept : List Str
  tvs : List Value
  tln : Nat
  r : List (Addr × Obj)
  Dd : Addr
  dvs : List Value
  dk : Nat
  Df : Addr
  fvs : List Value
  Dw : Addr
  yvs : List Value
  Dh : Addr
  zvs : List Value
structure StG (w : World) (g : Heap) (L : Addr) (xs : List Int) (iw : Nat) (V : LG) (h : Heap) (m : Str → Option Value) : Prop where
  F : Fr g L h m
  N : News g L h ((L + 1 + 1 + 1 + 1 + 1 + 1 + 1 + 1 + 1, V.W.o1) :: (L + 1 + 1 + 1 + 1 + 1 + 1 + 1 + 1, V.W.o2) :: (L + 1 + 1 + 1 + 1 + 1 + 1 + 1, V.W.o3) :: (L + 1 + 1 + 1 + 1 + 1 + 1, V.W.o4) :: (L + 1 + 1 + 1 + 1 + 1, V.W.o5) :: (L + 1 + 1, V.W.o8) :: V.r)
  S : St w V.r V.W.x V.W.l V.W.d V.W.hs V.W.tkk V.W.nn V.tvs V.tln V.T V.W.nl V.W.nvs V.W.nk V.W.wd (nmsF iw) V.W.c
  hk : (V.kl, listOf (List.toArray V.kvs) V.kk) ∈ V.r
  hks : StrsAre V.kvs V.kept
  hcok : COK iw V.W.c
  hO : NamOK (nmsF iw) V.W.c
  G : Good hO V.T V.kept
  kin : ∀ k ∈ V.kept, kdpHas V.W.c k = true
  len : V.kept.length ≤ (nmsF iw).length
  m2 : m (Str.ofString "names") = some (.ref V.W.nl)
  m3 : m (Str.ofString "kept") = some (.ref V.kl)
  hDd : (V.Dd, listOf (List.toArray V.dvs) V.dk) ∈ V.r
  hdr : Rows V.r V.dvs (dueT (nmsF iw) V.W.c V.kept V.kept)
  m4 : m (Str.ofString "due") = some (.ref V.Dd)
  d2 : V.W.o8.data = Data.cell (some (Value.ref V.W.x))
  d5 : V.W.o5.data = Data.cell (some (Value.ref V.W.wd))
  d6 : V.W.o4.data = Data.cell none
  d7 : V.W.o3.data = Data.cell none
  d8 : V.W.o2.data = Data.cell none
  d9 : V.W.o1.data = Data.cell none
  r2 : ∀ p ∈ V.r, p.1 ≠ L + 1 + 1
  r5 : ∀ p ∈ V.r, p.1 ≠ L + 1 + 1 + 1 + 1 + 1
  r6 : ∀ p ∈ V.r, p.1 ≠ L + 1 + 1 + 1 + 1 + 1 + 1
  r7 : ∀ p ∈ V.r, p.1 ≠ L + 1 + 1 + 1 + 1 + 1 + 1 + 1
  r8 : ∀ p ∈ V.r, p.1 ≠ L + 1 + 1 + 1 + 1 + 1 + 1 + 1 + 1
  r9 : ∀ p ∈ V.r, p.1 ≠ L + 1 + 1 + 1 + 1 + 1 + 1 + 1 + 1 + 1
theorem cutT {β : Type} {M : Model} {A : Around} {α : Type} {E : Value → Shared → Prop} {s₁ s : Shared} {t : Sem α} {Q : α → Shared → Prop} (P : β → Heap → (Str → Option Value) → Prop) (hp : ∃ W h tk m, s = { s₁ with heap := h, toks := tk } ∧ P W h m) (k : ∀ W h tk m, P W h m → wpAny M A t Q E { s₁ with heap := h, toks := tk }) : wpAny M A t Q E s := by
  obtain ⟨W, h, tk, m, rfl, p⟩ := hp
  exact k W h tk m p
noncomputable def nocell (p : Addr × Obj) : Bool := match p.2.data with | .cell _ => false | _ => true
theorem nocell_of {b : Addr} {o : Obj} (h : ∀ v, o.data ≠ .cell v) : nocell (b, o) = true := by
  unfold nocell
  dsimp only
  split
  · next v e => exact absurd e (h v)
  · rfl
theorem mem_nc {n : List (Addr × Obj)} {b : Addr} {o : Obj} (hm : (b, o) ∈ n) (h : ∀ v, o.data ≠ .cell v) : (b, o) ∈ n.filter nocell := List.mem_filter.mpr ⟨hm, nocell_of h⟩
theorem nc_ne {g h : Heap} {L c : Addr} {o : Obj} {v : Option Value} {n : List (Addr × Obj)} (N : News g L h n) (hc : (c, o) ∈ n) (d : o.data = .cell v) : ∀ p ∈ n.filter nocell, p.1 ≠ c := by
  intro p hp e
  have hp := List.mem_filter.mp hp
  have x := (N _ hp.1).1
  have y := (N _ hc).1
  dsimp only at y
  rw [e, y] at x
  have e2 := Option.some.inj x
  have := hp.2
  unfold nocell at this
  rw [← e2, d] at this
  cases this
theorem Rows.nc {n : List (Addr × Obj)} {vs : List Value} {T : List (Str × Str)} (h : Rows n vs T) : Rows (n.filter nocell) vs T := by
  induction h with
  | nil => exact .nil
  | cons hm _ ih => exact .cons (mem_nc hm (fun v e => by cases e)) ih
theorem St.nc {w : World} {news : List (Addr × Obj)} {t l d : Addr} {hs : Int} {tkk : Tok} {nn : Nat} {vs : List Value} {ln : Nat} {T : List (Str × Str)} {nl : Addr} {nvs : List Value} {nk : Nat} {wd : Addr} {nms : List Str} {c : List (Str × Int)}
    (S : St w news t l d hs tkk nn vs ln T nl nvs nk wd nms c) : St w (news.filter nocell) t l d hs tkk nn vs ln T nl nvs nk wd nms c := by
  obtain ⟨⟨i1, i2, i3, i4, i5⟩, s2, s3, ⟨o, kvs, w1, w2, w3, w4⟩, s5, s6, s7, s8⟩ := S
  refine ⟨⟨mem_nc i1 (fun v e => by cases e), mem_nc i2 (fun v e => by cases e), mem_nc i3 (fun v e => by cases e), i4.nc, i5⟩, mem_nc s2 (fun v e => by cases e), s3, ⟨o, kvs, mem_nc w1 ?_, w2, w3, w4⟩, s5, s6, s7, s8⟩
  obtain ⟨es, ep, hc', hd', _⟩ := w2
  intro v e
  rw [hd'] at e
  cases e
theorem Rows.sub {n n' : List (Addr × Obj)} {vs : List Value} {T : List (Str × Str)} (h : Rows n vs T) (hs : ∀ p ∈ n, p ∈ n') : Rows n' vs T := by
  induction h with
  | nil => exact .nil
  | cons hm _ ih => exact .cons (hs _ hm) ih
theorem St.sub {w : World} {news n' : List (Addr × Obj)} {t l d : Addr} {hs : Int} {tkk : Tok} {nn : Nat} {vs : List Value} {ln : Nat} {T : List (Str × Str)} {nl : Addr} {nvs : List Value} {nk : Nat} {wd : Addr} {nms : List Str} {c : List (Str × Int)}
    (S : St w news t l d hs tkk nn vs ln T nl nvs nk wd nms c) (h : ∀ p ∈ news, p ∈ n') : St w n' t l d hs tkk nn vs ln T nl nvs nk wd nms c :=
  ⟨⟨h _ S.tab.inst, h _ S.tab.dict, h _ S.tab.list, S.tab.rows.sub h, S.tab.short⟩, h _ S.nam, S.nstr, S.wsh.mono h, S.ne1, S.ne2, S.cfg, S.good⟩
structure StI (w : World) (g : Heap) (L : Addr) (xs : List Int) (iw : Nat) (V : LG) (h : Heap) (m : Str → Option Value) : Prop where
  F : Fr g L h m
  N : News g L h ((L + 1 + 1 + 1 + 1 + 1 + 1 + 1 + 1 + 1, V.W.o1) :: (L + 1 + 1 + 1 + 1 + 1 + 1 + 1 + 1, V.W.o2) :: (L + 1 + 1 + 1 + 1 + 1 + 1 + 1, V.W.o3) :: (L + 1 + 1 + 1 + 1 + 1, V.W.o5) :: (L + 1 + 1, V.W.o8) :: V.r)
  S : St w V.r V.W.x V.W.l V.W.d V.W.hs V.W.tkk V.W.nn V.tvs V.tln V.T V.W.nl V.W.nvs V.W.nk V.W.wd (nmsF iw) V.W.c
  hk : (V.kl, listOf (List.toArray V.kvs) V.kk) ∈ V.r
  hks : StrsAre V.kvs V.kept
  hcok : COK iw V.W.c
  hO : NamOK (nmsF iw) V.W.c
  G : Good hO V.T V.kept
  kin : ∀ k ∈ V.kept, kdpHas V.W.c k = true
  len : V.kept.length ≤ (nmsF iw).length
  m2 : m (Str.ofString "names") = some (.ref V.W.nl)
  m3 : m (Str.ofString "kept") = some (.ref V.kl)
  d2 : V.W.o8.data = Data.cell (some (Value.ref V.W.x))
  d5 : V.W.o5.data = Data.cell (some (Value.ref V.W.wd))
  d7 : V.W.o3.data = Data.cell (some (Value.int (((nmsF iw).length : Nat) : Int) V.W.t))
  d8 : V.W.o2.data = Data.cell none
  d9 : V.W.o1.data = Data.cell none
  r2 : ∀ p ∈ V.r, p.1 ≠ L + 1 + 1
  r5 : ∀ p ∈ V.r, p.1 ≠ L + 1 + 1 + 1 + 1 + 1
  r7 : ∀ p ∈ V.r, p.1 ≠ L + 1 + 1 + 1 + 1 + 1 + 1 + 1
  r8 : ∀ p ∈ V.r, p.1 ≠ L + 1 + 1 + 1 + 1 + 1 + 1 + 1 + 1
  r9 : ∀ p ∈ V.r, p.1 ≠ L + 1 + 1 + 1 + 1 + 1 + 1 + 1 + 1 + 1
noncomputable def rowB (p : Str × Str) : Bool := PyData.strOk p.1 && PyData.strOk p.2
theorem key_strok : ∀ i, i < 3 → ∀ j, j < 7 → ∀ k, k < 5 → PyData.strOk (keyN i j k) = true := by decide +kernel
theorem nm_strok : ∀ i, i < 5 → ∀ n ∈ Str.ofString "" :: nmsF i, (PyData.strOk n && PyData.strOk (Txt.upper n)) = true := by decide +kernel
theorem spell_ok {i : Nat} (hi : i < 5) (k : Str) (q : Nat) : PyData.strOk (spell k (nmAt (nmsF i) q)) = true := by
  have := nm_strok i hi _ (nmAt_mem _ q)
  rw [Bool.and_eq_true] at this
  unfold spell
  split
  · exact this.2
  · exact this.1
theorem keyHas_ok {i : Nat} {c : List (Str × Int)} (C : COK i c) {k : Str} (h : kdpHas c k = true) : PyData.strOk k = true := by
  obtain ⟨x, rfl⟩ := C.key k h
  rw [keyF_eq]
  exact key_strok _ (iF_lt x) _ (jF_lt x) _ (kF_lt x)
theorem good_ok {i : Nat} {c : List (Str × Int)} {T : List (Str × Str)} {kept : List Str} (hi : i < 5) (O : NamOK (nmsF i) c) (C : COK i c) (G : Good O T kept) (kin : ∀ k ∈ kept, kdpHas c k = true) : ∀ p ∈ T, rowB p = true := by
  obtain ⟨l, rfl, _, hp, _⟩ := G
  intro p h
  obtain ⟨e, he, rfl⟩ := List.mem_map.mp h
  have hk : e.2 ∈ kept := hp.mem_iff.mpr (List.mem_map.mpr ⟨e, he, rfl⟩)
  unfold rowB
  rw [Bool.and_eq_true]
  exact ⟨spell_ok hi _ _, keyHas_ok C (kin _ hk)⟩
noncomputable def rowsD (T : List (Str × Str)) : List Dat := T.map fun p => .tuple [.str p.1, .str p.2]
theorem rows_dat {n : List (Addr × Obj)} {vs : List Value} {T : List (Str × Str)} (h : Rows n vs T) : DatAll n vs (rowsD T) := by
  induction h with
  | nil => exact .nil
  | cons hm _ ih => exact .cons (.tuple (vs := [_, _]) hm (.cons (.str _ _) (.cons (.str _ _) .nil))) ih
theorem not_in_rows {w : World} {A : Around} {E : Value → Shared → Prop} {s : Shared} {g : Heap} {L a b : Addr} {news r : List (Addr × Obj)} {xs : List Value} {ka : Nat} {T : List (Str × Str)} {q : Str × Str} {Q : Value → Shared → Prop} (N : News g L s.heap news) (ma : (a, listOf xs.toArray ka) ∈ news) (Da : Rows r xs T) (sa : ∀ p ∈ r, p ∈ news) (Dx : Rows r [Value.ref b] [q]) (hq : q ∈ T) (ok : ∀ p ∈ T, rowB p = true) (hu : A.units + 64 < cLine) (h : Q (.bool false) s) : wpAny (model PySem.Challenge.rw_xn0027_01.row.prog w) A (compareOp .NotIn (.ref b) (.ref a)) Q E s := by
  have okd : ∀ p ∈ T, kqdOk 8 (Dat.tuple [.str p.1, .str p.2]) = true := by
    intro p hp
    have := ok p hp
    unfold rowB at this
    rw [Bool.and_eq_true] at this
    show ([Dat.str p.1, Dat.str p.2].all (kqdOk 7)) = true
    simp only [List.all_cons, List.all_nil, Bool.and_true, Bool.and_eq_true]
    exact ⟨this.1, this.2⟩
  obtain ⟨dx, hdx⟩ : ∃ d, DatIn r (.ref b) d ∧ d = Dat.tuple [.str q.1, .str q.2] := by
    have := rows_dat Dx
    cases this with
    | cons h1 _ => exact ⟨_, h1, rfl⟩
  obtain ⟨hd1, rfl⟩ := hdx
  refine kqd_notIn N ma rfl rfl (rows_dat Da) sa hd1 sa ?_ (okd q hq) hu ?_
  · intro d hd
    obtain ⟨p, hp, rfl⟩ := List.mem_map.mp hd
    exact okd p hp
  · have : Dat.tuple [.str q.1, .str q.2] ∈ rowsD T := List.mem_map.mpr ⟨q, hq, rfl⟩
    have e : ∀ i : Decidable (Dat.tuple [.str q.1, .str q.2] ∈ rowsD T), @decide _ i = true := fun i => by cases i with | isTrue _ => rfl | isFalse x => exact absurd this x
    rw [e]
    exact h
theorem len_lk {prog : Program} {w : World} {A : Around} {E : Value → Shared → Prop} {s : Shared} {h₀ : Heap} {L D : Addr} {news : List (Addr × Obj)} {ys : List Value} {n k : Nat} {Q : Value → Shared → Prop} (N : News h₀ L s.heap news) (hm : (D, listOf ys.toArray n) ∈ news) (hk : ys.length = k) (hf : k < 1000)
    (h : Q (.int ((k : Nat) : Int) (s.toks + 1)) { s with toks := s.toks + 1 + 1 }) : wpAny (model prog w) A (call (.builtin "len") [.ref D]) Q E s := by
  have e : ys.toArray.size = k := by rw [List.size_toArray]; exact hk
  refine len_list (N.isList hm) (by rw [e]; omega) ?_
  rw [e]
  exact h
theorem Rows.one {n : List (Addr × Obj)} {vs : List Value} {T : List (Str × Str)} (h : Rows n vs T) : ∀ {i : Nat} {x : Value}, vs[i]? = some x → ∃ b q, x = .ref b ∧ T[i]? = some q ∧ Rows n [.ref b] [q] := by
  induction h with
  | nil => intro i x hx; cases hx
  | @cons a k v tk tv n' vs T hm _ ih =>
    intro i x hx
    cases i with
    | zero => exact ⟨a, (k, v), (Option.some.inj hx).symm, rfl, .cons hm .nil⟩
    | succ i => exact ih hx
theorem four_ne {g h : Heap} {L D : Addr} {its : Array Value} {k : Nat} {o1 o2 o3 o4 : Obj} {q : List (Addr × Obj)} (N : News g L h ((D, listOf its k) :: (L + 1 + 1 + 1 + 1 + 1 + 1 + 1 + 1 + 1, o1) :: (L + 1 + 1 + 1 + 1 + 1 + 1 + 1 + 1, o2) :: (L + 1 + 1 + 1 + 1 + 1 + 1 + 1, o3) :: (L + 1 + 1 + 1 + 1 + 1 + 1, o4) :: q)) (d1 : o1.data = .cell none) (d2 : o2.data = .cell none) (d3 : o3.data = .cell none) (d4 : o4.data = .cell none) :
    (@Ne Nat D (L + 1 + 1 + 1 + 1 + 1 + 1 + 1 + 1 + 1)) ∧ (@Ne Nat D (L + 1 + 1 + 1 + 1 + 1 + 1 + 1 + 1)) ∧ (@Ne Nat D (L + 1 + 1 + 1 + 1 + 1 + 1 + 1)) ∧ (@Ne Nat D (L + 1 + 1 + 1 + 1 + 1 + 1)) :=
  ⟨cell_ne N (.head _) (.tail _ (.head _)) d1, cell_ne N (.head _) (.tail _ (.tail _ (.head _))) d2, cell_ne N (.head _) (.tail _ (.tail _ (.tail _ (.head _)))) d3, cell_ne N (.head _) (.tail _ (.tail _ (.tail _ (.tail _ (.head _))))) d4⟩
theorem TabIn.sub {n n' : List (Addr × Obj)} {t l d : Addr} {hs : Int} {tkk : Tok} {nn ln : Nat} {vs : List Value} {T : List (Str × Str)} (S : TabIn n t l d hs tkk nn vs ln T) (h : ∀ p ∈ n, p ∈ n') : TabIn n' t l d hs tkk nn vs ln T := ⟨h _ S.inst, h _ S.dict, h _ S.list, S.rows.mono h, S.short⟩
inductive OptV : Value → Option Str → Prop
  | none : OptV .none none
  | some (x : Str) (t : Tok) : OptV (.str x t) (some x)
inductive OptAre : List Value → List (Option Str) → Prop
  | nil : OptAre [] []
  | cons {v : Value} {o : Option Str} {vs : List Value} {os : List (Option Str)} : OptV v o → OptAre vs os → OptAre (v :: vs) (o :: os)
theorem OptAre.snoc {vs : List Value} {os : List (Option Str)} {v : Value} {o : Option Str} (h : OptAre vs os) (hv : OptV v o) : OptAre (vs ++ [v]) (os ++ [o]) := by
  induction h with
  | nil => exact .cons hv .nil
  | cons h1 _ ih => exact .cons h1 ih
theorem OptAre.len {vs : List Value} {os : List (Option Str)} (h : OptAre vs os) : vs.length = os.length := by
  induction h with
  | nil => rfl
  | cons _ _ ih => simp [ih]
theorem OptAre.at {vs : List Value} {os : List (Option Str)} (h : OptAre vs os) : ∀ {i : Nat} {o : Option Str}, os[i]? = some o → ∃ v, vs[i]? = some v ∧ OptV v o := by
  induction h with
  | nil => intro i o e; cases e
  | cons h1 _ ih =>
    intro i o e
    cases i with
    | zero => exact ⟨_, rfl, by rw [← Option.some.inj e]; exact h1⟩
    | succ i => exact ih e
theorem fnd_next {T : List (Str × Str)} {nms : List Str} {i : Nat} {ys : List Value} {y : Str} {v : Value} {o : Option Str} (h : OptAre ys ((nms.take i).map fun n => look T (Txt.lower n))) (hy : nms[i]? = some y) (hl : look T (Txt.lower y) = o) (hv : OptV v o) : OptAre (ys ++ [v]) ((nms.take (i + 1)).map fun n => look T (Txt.lower n)) := by
  rw [List.take_add_one, hy, List.map_append]
  subst hl
  exact h.snoc hv
theorem nmAt_of {nms : List Str} {i : Nat} {y : Str} (h : nms[i]? = some y) : nmAt nms i = y := by
  unfold nmAt
  rw [List.getD_eq_getElem?_getD, h]
  rfl
theorem cell_ne2 {g h : Heap} {L D c : Addr} {o' o : Obj} {v : Option Value} {n : List (Addr × Obj)} (N : News g L h n) (hD : (D, o') ∈ n) (hc : (c, o) ∈ n) (d : o.data = .cell v) (hn : ∀ x, o'.data ≠ .cell x) : @Ne Nat D c := by
  intro e
  have h1 := (N _ hD).1
  have h2 := (N _ hc).1
  dsimp only at h1 h2
  have e' : D = c := e
  rw [e', h2] at h1
  have := Option.some.inj h1
  subst this
  exact hn _ d
structure StJ (w : World) (g : Heap) (L : Addr) (xs : List Int) (iw : Nat) (V : LG) (h : Heap) (m : Str → Option Value) : Prop where
  F : Fr g L h m
  N : News g L h ((L + 1 + 1 + 1 + 1 + 1 + 1 + 1 + 1 + 1, V.W.o1) :: (L + 1 + 1 + 1 + 1 + 1 + 1 + 1 + 1, V.W.o2) :: (L + 1 + 1 + 1 + 1 + 1 + 1 + 1, V.W.o3) :: (L + 1 + 1 + 1 + 1 + 1, V.W.o5) :: V.r)
  S : St w V.r V.W.x V.W.l V.W.d V.W.hs V.W.tkk V.W.nn V.tvs V.tln V.T V.W.nl V.W.nvs V.W.nk V.W.wd (nmsF iw) V.W.c
  hk : (V.kl, listOf (List.toArray V.kvs) V.kk) ∈ V.r
  hks : StrsAre V.kvs V.kept
  hcok : COK iw V.W.c
  hO : NamOK (nmsF iw) V.W.c
  G : Good hO V.T V.kept
  kin : ∀ k ∈ V.kept, kdpHas V.W.c k = true
  len : V.kept.length ≤ (nmsF iw).length
  m2 : m (Str.ofString "names") = some (.ref V.W.nl)
  m3 : m (Str.ofString "kept") = some (.ref V.kl)
  d5 : V.W.o5.data = Data.cell (some (Value.ref V.W.wd))
  d7 : V.W.o3.data = Data.cell (some (Value.int (((nmsF iw).length : Nat) : Int) V.W.t))
  d8 : V.W.o2.data = Data.cell (some (Value.ref V.Df))
  d9 : V.W.o1.data = Data.cell none
  r9 : ∀ p ∈ V.r, p.1 ≠ L + 1 + 1 + 1 + 1 + 1 + 1 + 1 + 1 + 1
  hDf : (V.Df, PyProof.Rows.LCg.lst V.fvs) ∈ V.r
  hfd : OptAre V.fvs ((nmsF iw).map fun n => look V.T (Txt.lower n))
noncomputable def waysL (nms : List Str) (c : List (Str × Int)) (T : List (Str × Str)) (i : Nat) : List Int := (List.range i).filterMap fun p => (atT nms T p).map fun x => ((p : Int) - kdpLook c x 0).fmod (nms.length : Int)
structure StK (w : World) (g : Heap) (L : Addr) (xs : List Int) (iw : Nat) (V : LG) (h : Heap) (m : Str → Option Value) : Prop where
  F : Fr g L h m
  N : News g L h ((L + 1 + 1 + 1 + 1 + 1 + 1 + 1 + 1 + 1, V.W.o1) :: (L + 1 + 1 + 1 + 1 + 1 + 1 + 1, V.W.o3) :: (L + 1 + 1 + 1 + 1 + 1, V.W.o5) :: V.r)
  S : St w V.r V.W.x V.W.l V.W.d V.W.hs V.W.tkk V.W.nn V.tvs V.tln V.T V.W.nl V.W.nvs V.W.nk V.W.wd (nmsF iw) V.W.c
  hk : (V.kl, listOf (List.toArray V.kvs) V.kk) ∈ V.r
  hks : StrsAre V.kvs V.kept
  hcok : COK iw V.W.c
  hO : NamOK (nmsF iw) V.W.c
  G : Good hO V.T V.kept
  kin : ∀ k ∈ V.kept, kdpHas V.W.c k = true
  len : V.kept.length ≤ (nmsF iw).length
  m2 : m (Str.ofString "names") = some (.ref V.W.nl)
  m3 : m (Str.ofString "kept") = some (.ref V.kl)
  d5 : V.W.o5.data = Data.cell (some (Value.ref V.W.wd))
  d7 : V.W.o3.data = Data.cell (some (Value.int (((nmsF iw).length : Nat) : Int) V.W.t))
  d9 : V.W.o1.data = Data.cell none
  r9 : ∀ p ∈ V.r, p.1 ≠ L + 1 + 1 + 1 + 1 + 1 + 1 + 1 + 1 + 1
  hDw : (V.Dw, PyProof.Rows.LCg.lst V.yvs) ∈ V.r
  hyw : IntsAre V.yvs (waysL (nmsF iw) V.W.c V.T (nmsF iw).length)
  m5 : m (Str.ofString "ways") = some (.ref V.Dw)
theorem ways_none {nms : List Str} {c : List (Str × Int)} {T : List (Str × Str)} {i : Nat} {ys : List Value} (h : IntsAre ys (waysL nms c T i)) (hl : atT nms T i = none) : IntsAre ys (waysL nms c T (i + 1)) := by
  unfold waysL at *
  rw [List.range_succ, List.filterMap_append]
  simp only [List.filterMap_cons, List.filterMap_nil, hl, Option.map_none, List.append_nil]
  exact h
theorem ways_some {nms : List Str} {c : List (Str × Int)} {T : List (Str × Str)} {i : Nat} {ys : List Value} {x : Str} {t : Tok} (h : IntsAre ys (waysL nms c T i)) (hl : atT nms T i = some x) : IntsAre (ys ++ [.int (((i : Int) - kdpLook c x 0).fmod (nms.length : Int)) t]) (waysL nms c T (i + 1)) := by
  unfold waysL at *
  rw [List.range_succ, List.filterMap_append]
  simp only [List.filterMap_cons, List.filterMap_nil, hl, Option.map_some]
  exact h.append (.cons _ _ .nil)
theorem item_lst {w : World} {A : Around} {E : Value → Shared → Prop} {s : Shared} {g : Heap} {L a : Addr} {news : List (Addr × Obj)} {value slice : PySem.Expr} {vs : List Value} {i : Nat} {v : Value} {t : Tok} {Q : Value → Shared → Prop}
    (N : News g L s.heap news) (hl : (a, PyProof.Rows.LCg.lst vs) ∈ news) (hv : vs[i]? = some v) (hf : vs.length < 1000) (h : Q v s)
    (hs : subscripted slice false (.ref a) (.int (i : Int) t) = operate [.ref a, .int (i : Int) t] (getItem (.ref a) (.int (i : Int) t)) := by with_unfolding_all rfl) (hg : ∀ r, letTemporaryGo value (.ref a) r = pure () := by intro _; with_unfolding_all rfl) :
    wpAny (model PySem.Challenge.rw_xn0027_01.row.prog w) A (subscriptTail value slice (.ref a) (.int (i : Int) t)) Q E s := by
  have hi : i < vs.length := by
    rcases Nat.lt_or_ge i vs.length with h | h
    · exact h
    · rw [List.getElem?_eq_none h] at hv; cases hv
  exact item_listL (N.isList hl) (by omega) (by omega) (x := v) (by simpa using hv) h hs hg
structure StL (w : World) (g : Heap) (L : Addr) (xs : List Int) (iw : Nat) (V : LG) (h : Heap) (m : Str → Option Value) : Prop where
  F : Fr g L h m
  N : News g L h ((L + 1 + 1 + 1 + 1 + 1 + 1 + 1 + 1 + 1, V.W.o1) :: (L + 1 + 1 + 1 + 1 + 1 + 1 + 1, V.W.o3) :: V.r)
  S : St w V.r V.W.x V.W.l V.W.d V.W.hs V.W.tkk V.W.nn V.tvs V.tln V.T V.W.nl V.W.nvs V.W.nk V.W.wd (nmsF iw) V.W.c
  hk : (V.kl, listOf (List.toArray V.kvs) V.kk) ∈ V.r
  hks : StrsAre V.kvs V.kept
  hcok : COK iw V.W.c
  hO : NamOK (nmsF iw) V.W.c
  G : Good hO V.T V.kept
  kin : ∀ k ∈ V.kept, kdpHas V.W.c k = true
  len : V.kept.length ≤ (nmsF iw).length
  m2 : m (Str.ofString "names") = some (.ref V.W.nl)
  m3 : m (Str.ofString "kept") = some (.ref V.kl)
  d7 : V.W.o3.data = Data.cell (some (Value.int (((nmsF iw).length : Nat) : Int) V.W.t))
  d9 : V.W.o1.data = Data.cell (some (Value.ref V.Dh))
  hDw : (V.Dw, PyProof.Rows.LCg.lst V.yvs) ∈ V.r
  hyw : IntsAre V.yvs (waysL (nmsF iw) V.W.c V.T (nmsF iw).length)
  m5 : m (Str.ofString "ways") = some (.ref V.Dw)
  hDh : (V.Dh, PyProof.Rows.LCg.lst V.zvs) ∈ V.r
  hzh : IntsAre V.zvs (homesL V.W.c V.kept)
theorem exc_next {hs : List Int} {n i : Nat} {ys : List Value} {t : Tok} (h : IntsAre ys ((List.range i).map fun (e : Nat) => excF hs n (e : Int))) : IntsAre (ys ++ [.int (excF hs n (i : Int)) t]) ((List.range (i + 1)).map fun (e : Nat) => excF hs n (e : Int)) := by
  rw [List.range_succ, List.map_append]
  exact h.append (.cons _ _ .nil)
theorem ways_len (nms : List Str) (c : List (Str × Int)) (T : List (Str × Str)) (i : Nat) : (waysL nms c T i).length ≤ i := by
  unfold waysL
  exact Nat.le_trans (List.length_filterMap_le _ _) (by rw [List.length_range]; exact Nat.le_refl _)
theorem max_eq {nms : List Str} {c : List (Str × Int)} {O : NamOK nms c} {T : List (Str × Str)} {kept : List Str} (G : Good O T kept) {M1 M2 : Int} (a1 : M1 ∈ [0] ++ waysL nms c T nms.length) (b1 : ∀ a, a ∈ [0] ++ waysL nms c T nms.length → a ≤ M1)
    (a2 : M2 ∈ (List.range nms.length).map fun (e : Nat) => excF (homesL c kept) nms.length (e : Int)) (b2 : ∀ a, a ∈ (List.range nms.length).map (fun (e : Nat) => excF (homesL c kept) nms.length (e : Int)) → a ≤ M2) : M1 = M2 := by
  obtain ⟨e2, he2, rfl⟩ := List.mem_map.mp a2
  have he2 := List.mem_range.mp he2
  apply Int.le_antisymm
  · rcases List.mem_append.mp a1 with h | h
    · rw [List.mem_singleton.mp h]
      exact G.exc_nn _
    · unfold waysL at h
      obtain ⟨p, hp, hpe⟩ := List.mem_filterMap.mp h
      have hp := List.mem_range.mp hp
      cases hat : atT nms T p with
      | none => rw [hat] at hpe; cases hpe
      | some x =>
        rw [hat] at hpe
        have hpe := Option.some.inj hpe
        obtain ⟨e, he, hle⟩ := G.way_le hp hat
        rw [← hpe]
        exact Int.le_trans hle (b2 _ (List.mem_map.mpr ⟨e, List.mem_range.mpr he, rfl⟩))
  · rcases G.way_ge he2 with h | ⟨p, k, hp, hat, hle⟩
    · rw [h]
      exact b1 0 (List.mem_append_left _ (List.mem_singleton.mpr rfl))
    · refine Int.le_trans hle (b1 _ (List.mem_append_right _ ?_))
      unfold waysL
      exact List.mem_filterMap.mpr ⟨p, List.mem_range.mpr hp, by rw [hat]; rfl⟩
noncomputable def lawFn : List Stmt × Scope := match PySem.Challenge.pw_xn0027_01.main.body.getLast? with
  | some (.FunctionDef _ _ body _ _ _ scope _ _ _) => (body, scope)
  | _ => ([], ⟨.function, [], false, false, []⟩)
noncomputable def lawBody : List Stmt := lawFn.1
noncomputable def lawScope : Scope := lawFn.2
noncomputable def LawAt (w : World) (s₁ : Shared) (L : Nat) (fa cdr : Addr) (k : Nat) (s : Shared) : Prop :=
  wpAny (model PySem.Challenge.rw_xn0027_01.row.prog w) (callerA.deeper (envOfC (Str.ofString "law") lawScope L fa (Value.ref cdr))) (execs (lawBody.drop k) (envOfC (Str.ofString "law") lawScope L fa (Value.ref cdr))) (LawEnd s₁ L) (fun _ _ => False) s
theorem lines24 : True := by
  (k_with "M:ints" => first | with_reducible assumption | (repeat constructor; done) | (repeat (first | exact IntsAre.nil | apply IntsAre.cons)))
  (k_with "subscriptTail Name Slice ref ref" => (k_here; (with_reducible show wpAny _ _ (subscriptTail _ (PySem.Expr.Slice none (some _) none _) (Value.ref _) (Value.ref _)) _ _ _); k_dflt (refine' law_slice ?zqF ?zqN ?zql ?zqi ?zqh ?_ ?zqs ?zqt; (case zql => with_reducible assumption); (case zqF => k_asm); (case zqN => k_asm); (case zqi => with_reducible assumption); (case zqh => assumption); (case zqs => with_unfolding_all rfl); (case zqt => intro _; with_unfolding_all rfl)); intro D' ws' h' F' N' l1 hI'; (try k_lt l1); (try k_sweep)))
  (k_with "binaryOp Add ref ref" => (k_here; (with_reducible show wpAny _ _ (binaryOp _ (Value.ref _) (Value.ref _)) _ _ _); k_dflt (refine' kmk_add_ints ?zqF ?zqN ?zqa ?zqb ?zqi ?zqj ?_ ?zqz; (case zqF => k_asm); (case zqN => k_asm); (case zqa => exact News.isList (by k_asm) (by k_mem)); (case zqb => exact News.isList (by k_asm) (by k_mem)); (case zqi => walk_at "M:ints"); (case zqj => walk_at "M:ints"); (case zqz => (simp only [List.length_take, List.length_cons, List.length_nil, sizeLine_eq]; omega))); intro D' ws' h' F' N' l1 hI'; (try k_lt l1); (try k_sweep)))
  (k_with "call type:type" => (k_here; (with_reducible show wpAny _ _ (call (Value.type "type") [Value.ref _]) _ _ _); k_dflt (refine' type_list ?zqN ?zqm ?_; (case zqN => k_asm); (case zqm => k_mem); k_whole)))
  (k_with "call builtin:sum" => (k_here; (with_reducible show wpAny _ _ (call (Value.builtin "sum") [Value.ref _]) _ _ _); k_dflt (refine' LSm.sum_ints ?zqF ?zqN ?zqhh ?zql ?zqi ?_; (case zqi => with_reducible assumption); (case zqF => k_asm); (case zqN => k_asm); (case zqhh => exact rfl); (case zql => exact News.isList (by k_asm) (by k_mem))); intro h' tk' t' F' N'; (try k_sweep)))
  (k_with "execs cons Assign cons" => (k_here; (with_reducible show wpAny _ _ (execs (Stmt.Assign [Expr.Name (Str.ofString "table") _] _ _ :: _) _) _ _ _); refine Hold.out ?_))
  trivial
theorem freshLXA : True := by
  try row_walk
  trivial
set_option maxHeartbeats 1000000 in
theorem segA {w : World} {s₁ : Shared} {mg mb : Str → Option Value} {mean : ExcName → Option Value} {fa cdr : Addr} {L : Nat} {xs : List Int} {iw : Nat} (KX : (hd.heap_39 w.params).In s₁.heap) (K0 : Below callerA s₁.heap [] s₁.heap) (T : Top hd.view_39 loose mean mg mb s₁.heap) (hlen : xs.length ≤ 63) (hiw : iw < 5)
    {sl : Addr} {svs : List Value} {h₁ : Heap} {tk₁ : Tok} {m : Str → Option Value} {o1 o2 o3 o4 o5 o6 o7 o8 o9 : Obj} (d1 : o1.data = Data.cell none) (d2 : o2.data = Data.cell none) (d3 : o3.data = Data.cell none) (d4 : o4.data = Data.cell none) (d5 : o5.data = Data.cell none) (d6 : o6.data = Data.cell none) (d7 : o7.data = Data.cell none) (d8 : o8.data = Data.cell none) (d9 : o9.data = Data.cell none) (hsl : s₁.heap.IsList sl svs.toArray) (hsi : IntsAre svs xs) (hms : m (Str.ofString "script") = some (Value.ref sl)) (N0 : News s₁.heap L h₁ [(L + 1 + 1 + 1 + 1 + 1 + 1 + 1 + 1 + 1, o1), (L + 1 + 1 + 1 + 1 + 1 + 1 + 1 + 1, o2), (L + 1 + 1 + 1 + 1 + 1 + 1 + 1, o3), (L + 1 + 1 + 1 + 1 + 1 + 1, o4), (L + 1 + 1 + 1 + 1 + 1, o5), (L + 1 + 1 + 1 + 1, o6), (L + 1 + 1 + 1, o7), (L + 1 + 1, o8), (L + 1, o9)]) (F1 : Fr s₁.heap L h₁ m) (hiwe : (List.take 5 xs).sum.fmod 5 = (iw : Int))
    (k : ∀ W h tk m, StA s₁.heap L xs iw W h m → LawAt w s₁ L fa cdr 2 { s₁ with heap := h, toks := tk }) : LawAt w s₁ L fa cdr 0 { s₁ with heap := h₁, toks := tk₁ } := by
  unfold LawAt
  revert KX; k_fill; intro KX
  generalize hsc : lawScope = sc
  conv at hsc => lhs; whnf
  subst hsc
  generalize hbd : lawBody.drop 0 = bd
  conv at hbd => lhs; whnf
  subst hbd
  k_steps
  refine Hold.mk ?_
  with_reducible rename Fr s₁.heap L _ _ => F4
  with_reducible rename News s₁.heap L _ _ => N4
  with_reducible rename IntsAre _ (_ ++ _) => hz
  with_reducible rename Obj.data _ = Data.cell (some (Value.int _ _)) => dz
  rw [hiwe] at dz
  refine cutW (s₁ := s₁) (P := fun W h m => StA s₁.heap L xs iw W h m) ⟨⟨_, _, 0, _, 0, 0, 0, 0, 0, 0, 0, [], 0, 0, [], 0, 0, [], 0, 0, { cls := .none, data := .plain }, [], o1, o2, o3, o4, o5, o6, o7, o8, _⟩, _, _, _, rfl, { F := F4, N := cb_drop N4 (by intro p hp; rcases List.mem_cons.mp hp with rfl | hp; (k_mem); rcases List.mem_cons.mp hp with rfl | hp; (k_mem); rcases List.mem_cons.mp hp with rfl | hp; (k_mem); rcases List.mem_cons.mp hp with rfl | hp; (k_mem); rcases List.mem_cons.mp hp with rfl | hp; (k_mem); rcases List.mem_cons.mp hp with rfl | hp; (k_mem); rcases List.mem_cons.mp hp with rfl | hp; (k_mem); rcases List.mem_cons.mp hp with rfl | hp; (k_mem); rcases List.mem_cons.mp hp with rfl | hp; (k_mem); k_mem), hws := hz, m1 := rfl, d1 := dz, d2 := d8, d3 := d7, d4 := d6, d5 := d5, d6 := d4, d7 := d3, d8 := d2, d9 := d1, gD := by dsimp only; omega }⟩ k
theorem lines25 : True := by
  (k_with "execs cons Assign cons" => (k_here; (with_reducible show wpAny _ _ (execs (Stmt.Assign [Expr.Name (Str.ofString "written") _] _ _ :: _) _) _ _ _); refine Hold.out ?_))
  trivial
theorem freshLXB : True := by
  try row_walk
  trivial
set_option maxHeartbeats 1000000 in
theorem segB {w : World} {s₁ : Shared} {mg mb : Str → Option Value} {mean : ExcName → Option Value} {fa cdr : Addr} {L : Nat} {xs : List Int} {iw : Nat} (KX : (hd.heap_39 w.params).In s₁.heap) (K0 : Below callerA s₁.heap [] s₁.heap) (T : Top hd.view_39 loose mean mg mb s₁.heap) (hlen : xs.length ≤ 63) (hiw : iw < 5)
    {W : LW} {h : Heap} {tk : Tok} {m : Str → Option Value} (st : StA s₁.heap L xs iw W h m)
    (k : ∀ W h tk m, StB s₁.heap L xs iw W h m → LawAt w s₁ L fa cdr 3 { s₁ with heap := h, toks := tk }) : LawAt w s₁ L fa cdr 2 { s₁ with heap := h, toks := tk } := by
  unfold LawAt
  revert KX; k_fill; intro KX
  generalize hsc : lawScope = sc
  conv at hsc => lhs; whnf
  subst hsc
  generalize hbd : lawBody.drop 2 = bd
  conv at hbd => lhs; whnf
  subst hbd
  have F := st.F
  have N := st.N
  have hws := st.hws
  have m1 := st.m1
  have d1 := st.d1
  have d2 := st.d2
  have d3 := st.d3
  have d4 := st.d4
  have d5 := st.d5
  have d6 := st.d6
  have d7 := st.d7
  have d8 := st.d8
  have d9 := st.d9
  have gD := st.gD
  clear st
  refine wpAny_execs_cons ?_; (try dsimp only)
  k_steps
  refine Hold.mk ?_
  with_reducible rename Fr s₁.heap L _ _ => F4
  with_reducible rename News s₁.heap L _ _ => N4
  with_reducible rename Obj.data _ = Data.cell (some (Value.ref _)) => dz
  refine cutW (s₁ := s₁) (P := fun W h m => StB s₁.heap L xs iw W h m) ⟨⟨W.D, W.ws, W.wsk, W.t, _, _, _, _, _, _, 0, [], 0, 0, [], 0, 0, [], 0, 0, { cls := .none, data := .plain }, [], W.o1, W.o2, W.o3, W.o4, W.o5, W.o6, W.o7, _, W.o9⟩, _, _, _, rfl, { F := F4, N := N4, hws := hws, m1 := m1, d1 := d1, d2 := dz, d3 := d3, d4 := d4, d5 := d5, d6 := d6, d7 := d7, d8 := d8, d9 := d9, gl := by dsimp only; omega, gx := by dsimp only; omega, gd := by dsimp only; omega, gD := gD }⟩ k
theorem lines26 : True := by
  (k_with "M:tab0" => (refine' tab_new ?zqa ?zqb ?zqc; (case zqa => k_mem); (case zqb => k_mem); (case zqc => k_mem)))
  (k_with "call ref" => (k_here; (with_reducible show wpAny _ _ (call (Value.ref 369) [Value.ref _, Value.ref _]) _ _ _); k_dflt (refine wpAny_call ?_; refine' free_ct ?zqcB ?zqcF ?zqcX ?zqcN ?zqcT ?zqcA ?zqcf ?zqck ?zqch ?zqxb ?zqtb ?zqcr ?zqcu ?zqti ?zqnam ?zqst ?zqlen ?zqsz ?zqdi ?_; (case zqxb => with_reducible assumption); (case zqtb => with_reducible assumption); (case zqst => with_reducible assumption); walk_at "M:args"; (case zqti => walk_at "M:tab0"); (case zqnam => k_mem); (case zqlen => assumption); (case zqsz => assumption); (case zqdi => assumption); k_whole); intro h' tk' D' ys' kd' hI' F' N'; (try dsimp only); (try k_sweep)))
  (k_with "call ref" => (k_here; (with_reducible show wpAny _ _ (call (Value.ref 355) [Value.int (Nat.cast _) _, Value.str _ _]) _ _ _); k_dflt (refine wpAny_call ?_; refine' written_ct ?zqcB ?zqcF ?zqcX ?zqcN ?zqcT ?zqcA ?zqcf ?zqck ?zqch ?zqcr ?zqcu ?zqhi ?zqq0 ?zqq1 ?zqq2 ?zqq3 ?zqq4 ?_; walk_at "M:args"; (case zqhi => assumption); (case zqq0 => with_reducible assumption); (case zqq1 => with_reducible assumption); (case zqq2 => with_reducible assumption); (case zqq3 => with_reducible assumption); (case zqq4 => with_reducible assumption); k_whole); intro h' tk' tv' F' N'; (try dsimp only); (try k_sweep)))
  (k_with "execs cons Assign cons" => (k_here; (with_reducible show wpAny _ _ (execs (Stmt.Assign [Expr.Name (Str.ofString "names") _] _ _ :: _) _) _ _ _); refine Hold.out ?_))
  trivial
theorem freshLXC : True := by
  try row_walk
  trivial
set_option maxHeartbeats 1000000 in
theorem segC {w : World} {s₁ : Shared} {mg mb : Str → Option Value} {mean : ExcName → Option Value} {fa cdr : Addr} {L : Nat} {xs : List Int} {iw : Nat} (KX : (hd.heap_39 w.params).In s₁.heap) (K0 : Below callerA s₁.heap [] s₁.heap) (T : Top hd.view_39 loose mean mg mb s₁.heap) (hlen : xs.length ≤ 63) (hiw : iw < 5)
    {W : LW} {h : Heap} {tk : Tok} {m : Str → Option Value} (st : StB s₁.heap L xs iw W h m)
    (k : ∀ W h tk m, StD s₁.heap L xs iw W h m → LawAt w s₁ L fa cdr 5 { s₁ with heap := h, toks := tk }) : LawAt w s₁ L fa cdr 3 { s₁ with heap := h, toks := tk } := by
  unfold LawAt
  revert KX; k_fill; intro KX
  generalize hsc : lawScope = sc
  conv at hsc => lhs; whnf
  subst hsc
  generalize hbd : lawBody.drop 3 = bd
  conv at hbd => lhs; whnf
  subst hbd
  have F := st.F
  have N := st.N
  have hws := st.hws
  have m1 := st.m1
  have d1 := st.d1
  have d2 := st.d2
  have d3 := st.d3
  have d4 := st.d4
  have d5 := st.d5
  have d6 := st.d6
  have d7 := st.d7
  have d8 := st.d8
  have d9 := st.d9
  have gl := st.gl
  have gx := st.gx
  have gd := st.gd
  have gD := st.gD
  clear st
  refine wpAny_execs_cons ?_; (try dsimp only)
  k_steps
  refine Hold.mk ?_
  refine wpAny_Assign_Name ?_
  k_dflt (refine ListComp_S (h₀ := s₁.heap) (L := L) (m := m) (by with_unfolding_all rfl) (by decide) (by rfl) (by decide) (by rfl) ?_)
  k_steps
  refine ⟨_, _, _, rfl, rfl, F, N, by decide, by decide +kernel, fun g => compRest_J (fun i ys => StrsAre ys ((sigs.take i).map (wrF iw))) .nil ?_ trivial ?_⟩
  · intro ys hys D9 h9 tk9 F9 N9 off9
    obtain ⟨p1, p2, p3, p4, p5, p6, p7, p8, p9, p10, p11, p12, p13, -⟩ := off9
    replace p5 : @Ne Nat _ _ := p5
    replace p6 : @Ne Nat _ _ := p6
    replace p7 : @Ne Nat _ _ := p7
    replace p8 : @Ne Nat _ _ := p8
    replace p9 : @Ne Nat _ _ := p9
    replace p10 : @Ne Nat _ _ := p10
    replace p11 : @Ne Nat _ _ := p11
    replace p12 : @Ne Nat _ _ := p12
    replace p13 : @Ne Nat _ _ := p13
    dsimp only at p5 p6 p7 p8 p9 p10 p11 p12 p13
    have hys : StrsAre ys (wrL iw) := hys
    have hwl : (wrL iw).length = 7 := wr_len iw
    have hwsz := wr_sz hiw
    have hwd := wr_dirt hiw
    k_steps
    with_reducible rename Fr s₁.heap L _ _ => F4
    with_reducible rename News s₁.heap L _ _ => N4
    with_reducible rename Obj.data _ = Data.cell (some (Value.ref D9)) => dz
    have v1 := cell_ne N4 (List.mem_cons_self ..) (c := L + 1) (by k_mem) d1
    have v2 := cell_ne N4 (List.mem_cons_self ..) (c := L + 1 + 1) (by k_mem) d2
    have v3 := cell_ne N4 (List.mem_cons_self ..) (c := L + 1 + 1 + 1) (by k_mem) dz
    have v4 := cell_ne N4 (List.mem_cons_self ..) (c := L + 1 + 1 + 1 + 1) (by k_mem) d4
    have v5 := cell_ne N4 (List.mem_cons_self ..) (c := L + 1 + 1 + 1 + 1 + 1) (by k_mem) d5
    have v6 := cell_ne N4 (List.mem_cons_self ..) (c := L + 1 + 1 + 1 + 1 + 1 + 1) (by k_mem) d6
    have v7 := cell_ne N4 (List.mem_cons_self ..) (c := L + 1 + 1 + 1 + 1 + 1 + 1 + 1) (by k_mem) d7
    have v8 := cell_ne N4 (List.mem_cons_self ..) (c := L + 1 + 1 + 1 + 1 + 1 + 1 + 1 + 1) (by k_mem) d8
    have v9 := cell_ne N4 (List.mem_cons_self ..) (c := L + 1 + 1 + 1 + 1 + 1 + 1 + 1 + 1 + 1) (by k_mem) d9
    k_steps
    refine Hold.mk ?_
    with_reducible rename Fr s₁.heap L _ _ => F4
    with_reducible rename News s₁.heap L _ _ => N4
    with_reducible rename IntsAre _ (List.map _ _) => hz
    with_reducible rename Obj.data _ = Data.cell (some (Value.ref _)) => dy
    refine cutW (s₁ := s₁) (P := fun W h m => StD s₁.heap L xs iw W h m) ⟨⟨W.D, W.ws, W.wsk, W.t, W.l, W.x, W.d, W.hs, W.tkk, W.nn, _, _, _, _, _, _, 0, [], 0, 0, { cls := .none, data := .plain }, [], W.o1, W.o2, W.o3, W.o4, W.o5, _, _, W.o8, W.o9⟩, _, _, _, rfl, { F := F4, N := N4, hws := hws, hwv := hys, hfv := hz, m1 := m1, d1 := d1, d2 := d2, d3 := dz, d4 := dy, d5 := d5, d6 := d6, d7 := d7, d8 := d8, d9 := d9, gl := gl, gx := gx, gd := gd, gD := gD, wl1 := Ne.symm p13, wl2 := Ne.symm p12, wl3 := Ne.symm p11, wl4 := Ne.symm p10, wl5 := Ne.symm p9, wl6 := Ne.symm p8, wl7 := Ne.symm p7, wl8 := Ne.symm p6, wl9 := Ne.symm p5, fl1 := v1, fl2 := v2, fl3 := v3, fl4 := v4, fl5 := v5, fl6 := v6, fl7 := v7, fl8 := v8, fl9 := v9 }⟩ k
  · intro i v ys I oI C oC D m₂ h tk E' hi hP hJ hns hx F6 N6 off ne
    obtain ⟨c9, u9, hc9, rfl⟩ := hP
    obtain ⟨hsg, hi7⟩ := sign_at hc9
    rw [hsg] at hx
    obtain ⟨q0, q1, q2, q3, q4⟩ := escAll_all (sigs_ok i hi7)
    k_steps
    exact CEnd.intro (by k_asm) (by k_asm) (wr_next hJ hi7)
theorem lines27 : True := by
  (k_with "CompSrc" => (refine Hold.out ?_))
  (k_with "CompSrcT" => (refine Hold.out ?_))
  (k_with "subscriptTail Name Name ref int" => (k_here; (with_reducible show wpAny _ _ (subscriptTail _ _ (Value.ref _) (Value.int (Nat.cast _) _)) _ _ _); k_dflt (refine' name_item ?zqN ?zqM ?zqS ?zqP ?zqF ?_; (case zqN => k_asm); (case zqM => k_mem); (case zqS => with_reducible assumption); (case zqP => assumption); (case zqF => assumption); k_whole); intro _; (try k_sweep)))
  (k_with "exec Assign cons DictComp" => (k_here; refine Hold.out ?_))
  (k_with "call ref" => (k_here; (with_reducible show wpAny _ _ (call (Value.ref 362) [Value.int (Nat.cast _) _]) _ _ _); k_dflt (refine wpAny_call ?_; refine' spelled_ct ?zqcB ?zqcF ?zqcX ?zqcN ?zqcT ?zqcA ?zqcf ?zqck ?zqch ?zqcr ?zqcu ?zqhi ?_; walk_at "M:args"; (case zqhi => assumption); k_whole); intro h' tk' D' vs' hS' F' N'; (try dsimp only); (try k_sweep)))
  (k_with "compareOp NotEq ref ref" => (k_here; (with_reducible show wpAny _ _ (compareOp CmpOp.NotEq (Value.ref _) (Value.ref _)) _ _ _); k_dflt (refine' strs_same ?zqN ?zqma ?zqDa ?zqmb ?zqDb ?zqok ?zqhu ?_; (case zqN => k_asm); (case zqma => k_mem); (case zqmb => k_mem); (case zqDa => with_reducible assumption); (case zqDb => with_reducible assumption); (case zqok => with_reducible assumption); (case zqhu => k_units))))
  (k_with "execs cons Assign cons" => (k_here; (with_reducible show wpAny _ _ (execs (Stmt.Assign [Expr.Name (Str.ofString "wishes") _] _ _ :: _) _) _ _ _); refine Hold.out ?_))
  trivial
theorem freshLXE : True := by
  try row_walk
  trivial
set_option maxHeartbeats 1000000 in
theorem segE {w : World} {s₁ : Shared} {mg mb : Str → Option Value} {mean : ExcName → Option Value} {fa cdr : Addr} {L : Nat} {xs : List Int} {iw : Nat} (KX : (hd.heap_39 w.params).In s₁.heap) (K0 : Below callerA s₁.heap [] s₁.heap) (T : Top hd.view_39 loose mean mg mb s₁.heap) (hlen : xs.length ≤ 63) (hiw : iw < 5)
    {W : LW} {h : Heap} {tk : Tok} {m : Str → Option Value} (st : StD s₁.heap L xs iw W h m)
    (k : ∀ W h tk m, StE s₁.heap L xs iw W h m → LawAt w s₁ L fa cdr 7 { s₁ with heap := h, toks := tk }) : LawAt w s₁ L fa cdr 5 { s₁ with heap := h, toks := tk } := by
  unfold LawAt
  revert KX; k_fill; intro KX
  generalize hsc : lawScope = sc
  conv at hsc => lhs; whnf
  subst hsc
  generalize hbd : lawBody.drop 5 = bd
  conv at hbd => lhs; whnf
  subst hbd
  have F := st.F
  have N := st.N
  have hws := st.hws
  have hwv := st.hwv
  have hfv := st.hfv
  have m1 := st.m1
  have d1 := st.d1
  have d2 := st.d2
  have d3 := st.d3
  have d4 := st.d4
  have d5 := st.d5
  have d6 := st.d6
  have d7 := st.d7
  have d8 := st.d8
  have d9 := st.d9
  have gl := st.gl
  have gx := st.gx
  have gd := st.gd
  have gD := st.gD
  have wl1 := st.wl1
  have wl2 := st.wl2
  have wl3 := st.wl3
  have wl4 := st.wl4
  have wl5 := st.wl5
  have wl6 := st.wl6
  have wl7 := st.wl7
  have wl8 := st.wl8
  have wl9 := st.wl9
  have fl1 := st.fl1
  have fl2 := st.fl2
  have fl3 := st.fl3
  have fl4 := st.fl4
  have fl5 := st.fl5
  have fl6 := st.fl6
  have fl7 := st.fl7
  have fl8 := st.fl8
  have fl9 := st.fl9
  clear st
  refine wpAny_execs_cons ?_; (try dsimp only)
  have hfl : (frL iw).length < 8 := by
    have := freeL_len (wrL iw) 7
    unfold frL; omega
  have hfl2 : W.fvs.length < 8 := by rw [ints_len hfv, List.length_map]; exact hfl
  k_steps
  refine Hold.mk ?_
  with_reducible rename Fr s₁.heap L _ _ => F7
  k_dflt (refine LCg.Assign_ListComp_U (F₀ := F7) (by rfl) (by with_unfolding_all rfl) (by with_unfolding_all rfl) (by decide) (by rfl) (by decide) (by rfl) (by rfl) (by rfl) ?_)
  k_steps
  refine Hold.mk ?_
  with_reducible rename News s₁.heap L _ _ => N7
  refine LCg.CompSrc.ledger rfl F7 N7 (by k_mem) (by rw [sizeLine_eq, List.size_toArray]; omega) (fun g => compRest_J (fun i ys => StrsAre ys (((frL iw).take i).map (nmAt (wrL iw)))) .nil ?_ (.inr ⟨_, by k_mem, rfl, _, rfl⟩) ?_)
  · intro ys hys D9 h9 tk9 F9 N9 off9
    have hys : StrsAre ys (nmsF iw) := by
      have e : List.take W.fvs.toArray.size (frL iw) = frL iw := List.take_of_length_le (by rw [List.size_toArray, ints_len hfv, List.length_map]; exact Nat.le_refl _)
      rw [e] at hys; exact hys
    have hsok := names_strok iw hiw
    clear hwv
    dsimp only
    k_steps
    refine Hold.mk ?_
    k_dflt (refine LCt.ListComp_T (F₀ := F9) (by with_unfolding_all rfl) (by decide) (by rfl) (by decide) (by rfl) ?_)
    k_steps
    refine Hold.mk ?_
    with_reducible rename Fr s₁.heap L _ _ => F5
    with_reducible rename News s₁.heap L _ _ => N5
    with_reducible rename StrsAre _ (spellR iw) => hS5
    have hv5 := hS5.len_eq
    rw [spell_len iw hiw] at hv5
    refine LCt.CompSrcT.ledger rfl F5 N5 (by k_mem) (by rw [sizeLine_eq, List.size_toArray]; omega) (fun g => compRestT_J (fun i ys => StrsAre ys (((spellR iw).take i).filter fun x => x != Str.ofString "")) .nil ?_ (.inr ⟨_, by k_mem, rfl, _, rfl⟩) ?_)
    · intro ys5 hys5 D6 h6 tk6 F6 N6 off6
      have hys5 : StrsAre ys5 (nmsF iw) := by
        rw [List.size_toArray, hS5.len_eq, List.take_length, ← names_dec iw hiw] at hys5; exact hys5
      k_steps
      refine Hold.mk ?_
      with_reducible rename Fr s₁.heap L _ _ => F4
      with_reducible rename News s₁.heap L _ _ => N4
      refine cutW (s₁ := s₁) (P := fun W h m => StE s₁.heap L xs iw W h m) ⟨⟨W.D, W.ws, W.wsk, W.t, W.l, W.x, W.d, W.hs, W.tkk, W.nn, W.wl, W.wvs, W.wk, W.fl, W.fvs, W.fk, D9, ys, _, 0, { cls := .none, data := .plain }, [], W.o1, W.o2, W.o3, W.o4, W.o5, W.o6, W.o7, W.o8, W.o9⟩, _, _, _, rfl, ⟨F4, (cb_drop N4 fun p hp => List.mem_cons_of_mem _ (List.mem_cons_of_mem _ hp)), hws, hfv, hys, m1, rfl, d1, d2, d3, d4, d5, d6, d7, d8, d9, gl, gx, gd, gD, wl1, wl2, wl3, wl4, wl5, wl6, wl7, wl8, wl9, fl1, fl2, fl3, fl4, fl5, fl6, fl7, fl8, fl9, Ne.symm off9.2.2.2.2.2.2.2.2.2.2.2.2.2.2.1, Ne.symm off9.2.2.2.2.2.2.2.2.2.2.2.2.2.1, Ne.symm off9.2.2.2.2.2.2.2.2.2.2.2.2.1, Ne.symm off9.2.2.2.2.2.2.2.2.2.2.2.1, Ne.symm off9.2.2.2.2.2.2.2.2.2.2.1, Ne.symm off9.2.2.2.2.2.2.2.2.2.1, Ne.symm off9.2.2.2.2.2.2.2.2.1, Ne.symm off9.2.2.2.2.2.2.2.1, Ne.symm off9.2.2.2.2.2.2.1⟩⟩ k
    · intro i v ys I oI C oC D m₂ h tk E' hi hP hJ hns hx F6 N6 off ne
      obtain ⟨y, ty, rfl, hy⟩ := hS5.item i v (by simpa using hP)
      have hyl := spell_short iw hiw y (List.mem_of_getElem? hy)
      clear F5 N5
      k_steps
      · exact CEnd.intro (by k_asm) (by k_asm) (spell_yes hJ hy (by assumption))
      · exact CEnd.intro (by k_asm) (by k_asm) (spell_no hJ hy (by assumption))
  · intro i v ys I oI C oC D m₂ h tk E' hi hP hJ hns hx F6 N6 off ne
    obtain ⟨p9, t9, rfl, hp9⟩ := fr_at hfv (by simpa using hP)
    have hp7 := fr_lt iw hiw _ (List.mem_of_getElem? hp9)
    have hp8 : p9 < (wrL iw).length := by rw [wr_len]; exact hp7
    have hw50 : (wrL iw).length < 50 := by rw [wr_len]; decide
    clear F7 N7
    k_steps
    exact CEnd.intro (by k_asm) (by k_asm) (nm_next hJ hp9)
theorem lines28 : True := by
  (k_with "exec Assign cons List" => (k_here; refine Hold.out ?_))
  (k_with "call ref" => (k_here; (with_reducible show wpAny _ _ (call (Value.ref 348) [Value.int _ _]) _ _ _); k_dflt (refine wpAny_call ?_; refine' key_ct ?zqcB ?zqcF ?zqcX ?zqcN ?zqcT ?zqcA ?zqcf ?zqck ?zqch ?zqcr ?zqcu ?_; walk_at "M:args"; k_whole); intro h' tk' tv' F' N'; (try dsimp only); (try k_sweep)))
  (k_with "execs cons Assign cons" => (k_here; (with_reducible show wpAny _ _ (execs (Stmt.Assign [Expr.Name (Str.ofString "kept") _] _ _ :: _) _) _ _ _); refine Hold.out ?_))
  trivial
theorem freshLXF : True := by
  try row_walk
  trivial
set_option maxHeartbeats 1000000 in
theorem segF {w : World} {s₁ : Shared} {mg mb : Str → Option Value} {mean : ExcName → Option Value} {fa cdr : Addr} {L : Nat} {xs : List Int} {iw : Nat} (KX : (hd.heap_39 w.params).In s₁.heap) (K0 : Below callerA s₁.heap [] s₁.heap) (T : Top hd.view_39 loose mean mg mb s₁.heap) (hlen : xs.length ≤ 63) (hiw : iw < 5)
    {W : LW} {h : Heap} {tk : Tok} {m : Str → Option Value} (st : StE s₁.heap L xs iw W h m)
    (k : ∀ W h tk m, StF w s₁.heap L xs iw W h m → LawAt w s₁ L fa cdr 8 { s₁ with heap := h, toks := tk }) : LawAt w s₁ L fa cdr 7 { s₁ with heap := h, toks := tk } := by
  unfold LawAt
  revert KX; k_fill; intro KX
  generalize hsc : lawScope = sc
  conv at hsc => lhs; whnf
  subst hsc
  generalize hbd : lawBody.drop 7 = bd
  conv at hbd => lhs; whnf
  subst hbd
  have F := st.F
  have N := st.N
  have hws := st.hws
  have hfv := st.hfv
  have hnv := st.hnv
  have m1 := st.m1
  have m2 := st.m2
  have d1 := st.d1
  have d2 := st.d2
  have d3 := st.d3
  have d4 := st.d4
  have d5 := st.d5
  have d6 := st.d6
  have d7 := st.d7
  have d8 := st.d8
  have d9 := st.d9
  have gl := st.gl
  have gx := st.gx
  have gd := st.gd
  have gD := st.gD
  have wl1 := st.wl1
  have wl2 := st.wl2
  have wl3 := st.wl3
  have wl4 := st.wl4
  have wl5 := st.wl5
  have wl6 := st.wl6
  have wl7 := st.wl7
  have wl8 := st.wl8
  have wl9 := st.wl9
  have fl1 := st.fl1
  have fl2 := st.fl2
  have fl3 := st.fl3
  have fl4 := st.fl4
  have fl5 := st.fl5
  have fl6 := st.fl6
  have fl7 := st.fl7
  have fl8 := st.fl8
  have fl9 := st.fl9
  have nl1 := st.nl1
  have nl2 := st.nl2
  have nl3 := st.nl3
  have nl4 := st.nl4
  have nl5 := st.nl5
  have nl6 := st.nl6
  have nl7 := st.nl7
  have nl8 := st.nl8
  have nl9 := st.nl9
  clear st
  refine wpAny_execs_cons ?_; (try dsimp only)
  k_steps
  refine Hold.mk ?_
  refine wpAny_Assign_Name ?_
  k_dflt (refine DictComp_X (h₀ := s₁.heap) (L := L) (m := m) rfl (by with_unfolding_all rfl) (by rfl) (by decide) (by with_unfolding_all rfl) (by intro n; rfl) (by intro h; rfl) ?_)
  k_steps
  have hfl : (frL iw).length < 8 := by
    have := freeL_len (wrL iw) 7
    unfold frL; omega
  have hfl2 : W.fvs.length < 8 := by rw [ints_len hfv, List.length_map]; exact hfl
  have hns10 := numsF_len xs
  have hwl10 : W.ws.length ≤ 10 := by rw [ints_len hws]; exact hns10
  refine ⟨_, _, _, _, rfl, F, N, by k_mem, by rw [List.size_toArray]; omega, WInv iw (numsF xs), WInv.zero _ _, ?_, ?_⟩
  · intro i v c I oI C oC oX D oD m₂ h tk E' hi hv hJ hns hx F6 N6
    obtain ⟨x9, t9, rfl, hx9⟩ := hws.at i v (by simpa using hv)
    clear F N
    k_steps
    refine Hold.mk ?_
    with_reducible rename Fr s₁.heap L _ _ => F7
    k_dflt (refine LCt.ListComp_T (F₀ := F7) (by with_unfolding_all rfl) (by decide) (by rfl) (by decide) (by rfl) ?_)
    k_steps
    refine Hold.mk ?_
    with_reducible rename News s₁.heap L _ _ => N7
    refine LCt.CompSrcT.ledger rfl F7 N7 (by k_mem) (by rw [sizeLine_eq, List.size_toArray]; omega) (fun g => compRestT_J (fun i ys => ys.length = (((frL iw).take i).filter fun k => decide (k < jF x9)).length) rfl ?_ (.inr ⟨_, by k_mem, rfl, _, rfl⟩) ?_)
    · intro ys5 hys5 D6 h6 tk6 F6 N6 off6
      have hys6 : ys5.length = wz iw (jF x9) := by
        rw [List.size_toArray, ints_len hfv, List.length_map, List.take_length] at hys5
        exact hys5
      have hwz8 : wz iw (jF x9) < 50 := by
        have := wz_dec iw hiw _ (jF_lt x9)
        have := nms_lt iw hiw
        omega
      clear F7 N7
      k_steps
      exact ⟨_, _, _, _, _, _, rfl, F6, cb_drop N6 (fun p hp => List.mem_cons_of_mem _ hp), rfl, rfl, hJ.next hiw hx9⟩
    · intro i v ys I oI C oC D m₂ h tk E' hi hP hJ hns hx F6 N6 off ne
      obtain ⟨p9, t9, rfl, hp9⟩ := fr_at hfv (by simpa using hP)
      clear F7 N7
      k_steps
      · exact CEnd.intro (by k_asm) (by k_asm) (by rw [List.length_append]; exact wz_yes hJ hp9 (by assumption))
      · exact CEnd.intro (by k_asm) (by k_asm) (wz_no hJ hp9 (by assumption))
  · intro D9 oD kvs c h9 tk9 hJ F9 N9 hdo hfl hoff hsm
    clear F N
    have wd1 : @Ne Nat D9 (L + 1) := Ne.symm (hoff (L + 1, W.o9) (by simp))
    have wd2 : @Ne Nat D9 (L + 1 + 1) := Ne.symm (hoff (L + 1 + 1, W.o8) (by simp))
    have wd3 : @Ne Nat D9 (L + 1 + 1 + 1) := Ne.symm (hoff (L + 1 + 1 + 1, W.o7) (by simp))
    have wd4 : @Ne Nat D9 (L + 1 + 1 + 1 + 1) := Ne.symm (hoff (L + 1 + 1 + 1 + 1, W.o6) (by simp))
    have wd5 : @Ne Nat D9 (L + 1 + 1 + 1 + 1 + 1) := Ne.symm (hoff (L + 1 + 1 + 1 + 1 + 1, W.o5) (by simp))
    have wd6 : @Ne Nat D9 (L + 1 + 1 + 1 + 1 + 1 + 1) := Ne.symm (hoff (L + 1 + 1 + 1 + 1 + 1 + 1, W.o4) (by simp))
    have wd7 : @Ne Nat D9 (L + 1 + 1 + 1 + 1 + 1 + 1 + 1) := Ne.symm (hoff (L + 1 + 1 + 1 + 1 + 1 + 1 + 1, W.o3) (by simp))
    have wd8 : @Ne Nat D9 (L + 1 + 1 + 1 + 1 + 1 + 1 + 1 + 1) := Ne.symm (hoff (L + 1 + 1 + 1 + 1 + 1 + 1 + 1 + 1, W.o2) (by simp))
    have wd9 : @Ne Nat D9 (L + 1 + 1 + 1 + 1 + 1 + 1 + 1 + 1 + 1) := Ne.symm (hoff (L + 1 + 1 + 1 + 1 + 1 + 1 + 1 + 1 + 1, W.o1) (by simp))
    k_steps
    refine Hold.mk ?_
    with_reducible rename Fr s₁.heap L _ _ => F4
    with_reducible rename News s₁.heap L _ _ => N4
    have h' := True.intro; have tk' := True.intro; have F' := True.intro; have N' := True.intro; have D' := True.intro; have ws' := True.intro; have hI' := True.intro; have l1' := True.intro; have tv' := True.intro; have t' := True.intro; have vs' := True.intro; have ys' := True.intro; have kd' := True.intro; have hS' := True.intro; have v' := True.intro; have hlk' := True.intro; have news' := True.intro; have ln' := True.intro; have U' := True.intro; have S' := True.intro; have n' := True.intro; have kvs' := True.intro; have kk' := True.intro; have hk' := True.intro; have hT' := True.intro; have hc1' := True.intro; have hc2' := True.intro; have o' := True.intro; have d' := True.intro; have U2' := True.intro; have S2' := True.intro; have hsub' := True.intro; have hD' := True.intro; have hR' := True.intro; have TI' := True.intro; have k' := True.intro; have htk' := True.intro; have hsh' := True.intro; have M' := True.intro; have a' := True.intro; have b' := True.intro; have off' := True.intro; have hys' := True.intro
    rename_i oW dW
    have hJ2 : ∀ x ∈ numsF xs, kdpHas c (keyF x) = true := by
      have := hJ.1
      rw [List.size_toArray, ints_len hws, List.take_length] at this
      exact this
    refine cutW (s₁ := s₁) (P := fun W h m => StF w s₁.heap L xs iw W h m) ⟨⟨W.D, W.ws, W.wsk, W.t, W.l, W.x, W.d, W.hs, W.tkk, W.nn, W.wl, W.wvs, W.wk, W.fl, W.fvs, W.fk, W.nl, W.nvs, W.nk, D9, oD, c, W.o1, W.o2, W.o3, W.o4, oW, W.o6, W.o7, W.o8, W.o9⟩, _, _, _, rfl, ⟨F4, N4, hws, hnv, ⟨oD, kvs, by simp, hdo, hfl, hsm⟩, hJ.2, hJ2, m1, m2, d1, d2, d3, d4, dW, d6, d7, d8, d9, gl, gx, gd, gD, wl1, wl2, wl3, wl4, wl5, wl6, wl7, wl8, wl9, fl1, fl2, fl3, fl4, fl5, fl6, fl7, fl8, fl9, nl1, nl2, nl3, nl4, nl5, nl6, nl7, nl8, nl9, wd1, wd2, wd3, wd4, wd5, wd6, wd7, wd8, wd9⟩⟩ k
theorem lines29 : True := by
  (k_with "call ref" => (k_here; (with_reducible show wpAny _ _ (call (Value.ref 334) [Value.int _ _]) _ _ _); k_dflt (refine wpAny_call ?_; refine' reply_ct ?zqcB ?zqcF ?zqcX ?zqcN ?zqcT ?zqcA ?zqcf ?zqck ?zqch ?zqcr ?zqcu ?_; walk_at "M:args"; k_whole); intro h' tk' tv' F' N'; (try dsimp only); (try k_sweep)))
  (k_with "call ref" => (k_here; (with_reducible show wpAny _ _ (call (Value.ref 341) [Value.str _ _]) _ _ _); k_dflt (refine wpAny_call ?_; refine' toldK_ct ?zqcB ?zqcF ?zqcX ?zqcN ?zqcT ?zqcA ?zqcf ?zqck ?zqch ?zqxb ?zqtb ?zqcr ?zqcu ?_; (case zqxb => with_reducible assumption); (case zqtb => with_reducible assumption); walk_at "M:args"; k_whole); intro h' tk' tv' F' N'; (try dsimp only); (try k_sweep)))
  (k_with "exec For Name Name cons nil" => (k_here; k_dflt (refine For_hold ?_)))
  (k_with "last exec For Name Name" => (k_here; k_dflt (refine For_hold ?_)))
  (k_with "M:st" => with_reducible first | assumption | exact St.cons (by assumption))
  (k_with "compareOp In str ref" => (k_here; (with_reducible show wpAny _ _ (compareOp CmpOp.In (Value.str _ _) (Value.ref _)) _ _ _); k_dflt (first
  | (refine' in_yes ?zqN ?zql ?zqS ?zqk ?_; (case zqN => k_asm); (case zql => k_mem); (case zqS => with_reducible assumption); (case zqk => with_reducible assumption))
  | (refine' in_no ?zqN ?zql ?zqS ?zqk ?_; (case zqN => k_asm); (case zql => k_mem); (case zqS => with_reducible assumption); (case zqk => with_reducible assumption)))))
  (k_with "call builtin:list.remove" => (k_here; k_dflt (refine' remove_K ?zqF ?zqN ?zql ?zqS ?zqk ?zqz ?zqT ?zqa ?zqb ?_; (case zqF => k_asm); (case zqN => k_asm); (case zql => k_mem); (case zqS => with_reducible assumption); (case zqk => with_reducible assumption); (case zqz => with_reducible assumption); (case zqT => walk_at "M:st"); (case zqa => with_reducible assumption); (case zqb => with_reducible assumption)); intro h' n' kvs' kk' F' N' U' hk' hS' S'; (have hT' := Two.up (by with_reducible assumption) U'); (have hc1' := hT'.c1); (have hc2' := hT'.c2); (try k_sweep)))
  (k_with "call builtin:list.append" => (k_here; k_dflt (refine' append_K ?zqF ?zqN ?zql ?zqS ?zqz ?zqT ?zqa ?zqb ?_; (case zqF => k_asm); (case zqN => k_asm); (case zql => k_mem); (case zqS => with_reducible assumption); (case zqz => with_reducible assumption); (case zqT => walk_at "M:st"); (case zqa => with_reducible assumption); (case zqb => with_reducible assumption)); intro h' n' kvs' kk' F' N' U' hk' hS' S'; (have hT' := Two.up (by with_reducible assumption) U'); (have hc1' := hT'.c1); (have hc2' := hT'.c2); (try k_sweep)))
  (k_with "call builtin:len" => (k_here; (with_reducible show wpAny _ _ (call (Value.builtin "len") [Value.ref _]) _ _ _); k_dflt (refine' len_strsA ?zql ?zqi ?zqf ?_; (case zql => exact News.isList (by k_asm) (by k_mem)); (case zqi => with_reducible assumption); (case zqf => omega); k_whole)))
  (k_with "call ref" => (k_here; (with_reducible show wpAny _ _ (call (Value.ref 404) [Value.ref _, Value.ref _, Value.ref _, Value.str _ _]) _ _ _); k_dflt (refine wpAny_call ?_; refine' deed_ct ?zqcB ?zqcF ?zqcX ?zqcN ?zqcT ?zqcA ?zqcf ?zqck ?zqch ?zqcr ?zqcu ?zqS ?zql ?zqk ?zqe ?_; walk_at "M:args"; (case zqS => walk_at "M:st"); (case zqe => with_reducible assumption); (case zql => with_reducible assumption); (case zqk => with_reducible assumption); k_whole); intro h' tk' news' vs' ln' F' N' U2' S2'; (try dsimp only); (try k_sweep)))
  (k_with "execs cons Assign cons" => (k_here; (with_reducible show wpAny _ _ (execs (Stmt.Assign [Expr.Name (Str.ofString "items") _] _ _ :: _) _) _ _ _); refine Hold.out ?_))
  (k_with "call ref" => (k_here; (with_reducible show wpAny _ _ (call (Value.ref 416) [Value.ref _, Value.ref _, Value.ref _]) _ _ _); k_dflt (refine wpAny_call ?_; refine' due_ct ?zqcB ?zqcF ?zqcX ?zqcN ?zqcT ?zqcA ?zqcf ?zqck ?zqch ?zqcr ?zqcu ?zqcfg ?zqnam ?zqstr ?zqwsh ?zqkl ?zqks ?zqhin ?zqlen ?_; walk_at "M:args"; (case zqcfg => with_reducible assumption); (case zqnam => k_mem); (case zqstr => with_reducible assumption); (case zqwsh => with_reducible assumption); (case zqkl => k_mem); (case zqks => with_reducible assumption); (case zqhin => with_reducible assumption); (case zqlen => with_reducible assumption); k_whole); intro h' tk' D' ys' kd' n' F' N' hsub' hD' hR'; (try dsimp only); (try k_sweep)))
  trivial
theorem freshLXG : True := by
  try row_walk
  trivial
set_option maxHeartbeats 4000000 in
theorem segG {w : World} {s₁ : Shared} {mg mb : Str → Option Value} {mean : ExcName → Option Value} {fa cdr : Addr} {L : Nat} {xs : List Int} {iw : Nat} (KX : (hd.heap_39 w.params).In s₁.heap) (K0 : Below callerA s₁.heap [] s₁.heap) (T : Top hd.view_39 loose mean mg mb s₁.heap) (hlen : xs.length ≤ 63) (hiw : iw < 5)
    {W : LW} {h : Heap} {tk : Tok} {m : Str → Option Value} (st : StF w s₁.heap L xs iw W h m)
    (k : ∀ V h tk m, StG w s₁.heap L xs iw V h m → LawAt w s₁ L fa cdr 11 { s₁ with heap := h, toks := tk }) : LawAt w s₁ L fa cdr 8 { s₁ with heap := h, toks := tk } := by
  unfold LawAt
  revert KX; k_fill; intro KX
  generalize hsc : lawScope = sc
  conv at hsc => lhs; whnf
  subst hsc
  generalize hbd : lawBody.drop 8 = bd
  conv at hbd => lhs; whnf
  subst hbd
  have F := st.F
  have N := st.N
  have hws := st.hws
  have hnv := st.hnv
  have hwsh := st.hwsh
  have hcok := st.hcok
  have hck := st.hck
  have m1 := st.m1
  have m2 := st.m2
  have d1 := st.d1
  have d2 := st.d2
  have d3 := st.d3
  have d4 := st.d4
  have d5 := st.d5
  have d6 := st.d6
  have d7 := st.d7
  have d8 := st.d8
  have d9 := st.d9
  have gl := st.gl
  have gx := st.gx
  have gd := st.gd
  have gD := st.gD
  have wl1 := st.wl1
  have wl2 := st.wl2
  have wl3 := st.wl3
  have wl4 := st.wl4
  have wl5 := st.wl5
  have wl6 := st.wl6
  have wl7 := st.wl7
  have wl8 := st.wl8
  have wl9 := st.wl9
  have fl1 := st.fl1
  have fl2 := st.fl2
  have fl3 := st.fl3
  have fl4 := st.fl4
  have fl5 := st.fl5
  have fl6 := st.fl6
  have fl7 := st.fl7
  have fl8 := st.fl8
  have fl9 := st.fl9
  have nl1 := st.nl1
  have nl2 := st.nl2
  have nl3 := st.nl3
  have nl4 := st.nl4
  have nl5 := st.nl5
  have nl6 := st.nl6
  have nl7 := st.nl7
  have nl8 := st.nl8
  have nl9 := st.nl9
  have wd1 := st.wd1
  have wd2 := st.wd2
  have wd3 := st.wd3
  have wd4 := st.wd4
  have wd5 := st.wd5
  have wd6 := st.wd6
  have wd7 := st.wd7
  have wd8 := st.wd8
  have wd9 := st.wd9
  clear st
  refine wpAny_execs_cons ?_; (try dsimp only)
  have hO : NamOK (nmsF iw) W.c := hcok.nam hiw
  have hcfg := hcok.cfg hiw
  have hnl0 := (nms_lt iw hiw).1
  have hnl8 := (nms_lt iw hiw).2
  have hnvl := hnv.len_eq
  have hwsl := ints_len hws
  have q1 : W.nl ≠ W.l := by
    intro e
    have x := (N (W.nl, listOf (List.toArray W.nvs) W.nk) (by k_mem)).1
    have y := (N (W.l, listOf #[] 0) (by k_mem)).1
    dsimp only at x y
    rw [e, y] at x
    have := congrArg Obj.data (Option.some.inj x)
    injection this with z
    have z2 := congrArg Array.size z
    simp at z2
    omega
  have q2 : W.wd ≠ W.l := by
    intro e
    obtain ⟨o, kvs, w1, ⟨es, ep, hc', hd', _⟩, _⟩ := hwsh
    have hod : o = W.od := by simpa using w1
    have x := (N (W.wd, W.od) (by k_mem)).1
    have y := (N (W.l, listOf #[] 0) (by k_mem)).1
    dsimp only at x y
    rw [e, y] at x
    rw [hod, ← Option.some.inj x] at hd'
    cases hd'
  have q3 : @Ne Nat W.D W.l := by
    intro e
    have e : W.D = W.l := e
    have x := (N (W.D, listOf (List.toArray W.ws) W.wsk) (by k_mem)).1
    have y := (N (W.l, listOf #[] 0) (by k_mem)).1
    dsimp only at x y
    rw [e, y] at x
    have := congrArg Obj.data (Option.some.inj x)
    injection this with z
    have z2 := congrArg Array.size z
    simp at z2
    unfold numsF at hwsl
    simp at hwsl
    omega
  k_steps
  refine Hold.mk ?_
  refine wpAny_Assign_Name ?_
  k_steps
  refine Hold.mk ?_
  with_reducible rename Fr s₁.heap L _ _ => F9
  with_reducible rename News s₁.heap L _ _ => N9
  have h' := True.intro; have tk' := True.intro; have F' := True.intro; have N' := True.intro; have D' := True.intro; have ws' := True.intro; have hI' := True.intro; have l1' := True.intro; have tv' := True.intro; have t' := True.intro; have vs' := True.intro; have ys' := True.intro; have kd' := True.intro; have hS' := True.intro; have v' := True.intro; have hlk' := True.intro; have news' := True.intro; have ln' := True.intro; have U' := True.intro; have S' := True.intro; have kvs' := True.intro; have kk' := True.intro; have hk' := True.intro; have hT' := True.intro; have hc1' := True.intro; have hc2' := True.intro; have o' := True.intro; have d' := True.intro; have U2' := True.intro; have S2' := True.intro; have hsub' := True.intro; have hD' := True.intro; have hR' := True.intro; have TI' := True.intro; have k' := True.intro; have htk' := True.intro; have hsh' := True.intro; have M' := True.intro; have a' := True.intro; have b' := True.intro; have off' := True.intro; have hys' := True.intro
  rename_i kl hz1 lk hz2
  clear hz1
  obtain ⟨lk1, lk2, lk3, lk4, lk5, lk6, lk7, lk8, lk9, lk10, lk11, lk12, lk13, lk14, lk15, lk16, lk17⟩ := lk
  refine iter_list_J (l := W.D) rfl F9 N9 (by k_mem) rfl ⟨_, rfl⟩ (fun _ m' n' => LoopJ w L xs iw W hO kl m' n') ?_ (fun i m' n' ⟨_, _, _, _, _, _, st⟩ => st.hD) ?_ ?_ (.inl (by intro _ _; rfl))
  · exact ⟨[], [], [], 0, [], 0, { S := ⟨tab_new (by k_mem) (by k_mem) (by k_mem), by k_mem, hnv, hwsh.mono (by intro p hp; simp only [List.mem_singleton] at hp; subst hp; k_mem), q1, q2, hcfg, fun p hp => nomatch hp⟩, hk := by k_mem, hks := .nil, hD := by k_mem, c1 := by k_mem, c2 := by k_mem, c3 := by k_mem, c4 := by k_mem, c5 := by k_mem, c6 := by k_mem, c7 := by k_mem, c8 := by k_mem, c9 := by k_mem, m1 := m1, m2 := m2, m3 := rfl, G := Good.nil _, kin := fun _ h => (nomatch h), n1 := by omega, n2 := by omega, n3 := by omega, n4 := q3, n5 := by omega, len := Nat.zero_le _, e1 := by omega, e2 := by omega, e3 := by omega, e4 := by omega, e5 := by omega, e6 := by omega, e7 := by omega, e8 := by omega, e9 := by omega, k1 := by omega, k2 := by omega, k3 := by omega, k4 := by omega, k5 := by omega, k6 := by omega, k7 := by omega, k8 := by omega, k9 := by omega }⟩
  · intro i v m' n' I it h tk hv hJ hc F8 N8 off
    obtain ⟨T, kept, tvs, tln, kvs, kk, st⟩ := hJ
    obtain ⟨x9, t9, rfl, hx9⟩ := hws.at i v (by simpa using hv)
    have hkey : kdpHas W.c (keyF x9) = true := hck x9 (List.mem_of_getElem? hx9)
    have hoff := off.ne N8
    have hIk : I ≠ kl := fun e => hoff _ st.hk e.symm
    have hIl : I ≠ W.l := fun e => hoff _ st.S.tab.list e.symm
    have hSt := St.cons (q := (I, it)) st.S
    have hk := st.hk
    have hks := st.hks
    have hnam := st.S.nam
    have m1 := st.m1
    have m2 := st.m2
    have m3 := st.m3
    have n1 := st.n1
    have n2 := st.n2
    have hklen := st.len
    have hkl1 : kvs.length < 1000 := by rw [hks.len_eq]; omega
    have hkl2 : kvs.length = kept.length := hks.len_eq
    have htl : T.length + 14 < 100 := by rw [st.G.len]; omega
    have hkx : (keyF x9 != keyF x9) = false := by simp
    have c2 := st.c2
    have c5 := st.c5
    have two : Two (L + 1 + 1) (L + 1 + 1 + 1 + 1 + 1) kl W.o8 W.o5 ((I, it) :: n') := ⟨List.mem_cons_of_mem _ c2, List.mem_cons_of_mem _ c5, st.k2, st.k5⟩
    clear F9 N9 off hv hck hws
    by_cases hin : keyF x9 ∈ kept
    · obtain ⟨Te, hde, G'⟩ := st.G.out hin (f := 14) (by omega)
      have hne : (keyF x9 != Str.ofString "") = true := by simpa using (st.kin _ hin).2
      k_steps
      dsimp only
      with_reducible rename Fr s₁.heap L _ _ => F6
      with_reducible rename News s₁.heap L _ _ => N6
      with_reducible rename Upto W.l _ _ => U6
      with_reducible rename Upto kl _ _ => U5
      with_reducible rename St w _ W.x W.l W.d W.hs W.tkk W.nn _ _ _ W.nl W.nvs W.nk W.wd (nmsF iw) W.c => S6
      with_reducible rename StrsAre _ (kept.erase _) => hS5
      with_reducible rename (kl, _) ∈ _ => hk5
      obtain ⟨n3, a1, a2, a3⟩ := LoopS.next st hoff hIk hIl hc U5 hk5 U6 S6 N6 F6 hS5 G' (fun k hk => st.kin k (List.mem_of_mem_erase hk)) (Nat.le_trans (List.erase_sublist ..).length_le st.len) m1 m2 m3
      exact TurnJ.intro F6 a1 a2 a3
    · by_cases hE : keyF x9 = Str.ofString ""
      · have hne : (keyF x9 != Str.ofString "") = false := by simpa using hE
        k_steps
        dsimp only
        with_reducible rename Fr s₁.heap L _ _ => F6
        with_reducible rename News s₁.heap L _ _ => N6
        obtain ⟨n3, a1, a2, a3⟩ := LoopS.next st hoff hIk hIl hc (Upto.refl _ _) (List.mem_cons_of_mem _ hk) (Upto.refl _ _) hSt N6 F6 hks st.G st.kin st.len m1 m2 m3
        exact TurnJ.intro F6 a1 a2 a3
      · have hne : (keyF x9 != Str.ofString "") = true := by simpa using hE
        by_cases hl : kept.length < (nmsF iw).length
        · obtain ⟨Te, hde, G'⟩ := st.G.inn hin hl (f := 14) (by omega)
          k_steps
          dsimp only
          with_reducible rename Fr s₁.heap L _ _ => F6
          with_reducible rename News s₁.heap L _ _ => N6
          with_reducible rename Upto W.l _ _ => U6
          with_reducible rename Upto kl _ _ => U5
          with_reducible rename St w _ W.x W.l W.d W.hs W.tkk W.nn _ _ _ W.nl W.nvs W.nk W.wd (nmsF iw) W.c => S6
          with_reducible rename StrsAre _ (kept ++ _) => hS5
          with_reducible rename (kl, _) ∈ _ => hk5
          obtain ⟨n3, a1, a2, a3⟩ := LoopS.next st hoff hIk hIl hc U5 hk5 U6 S6 N6 F6 hS5 G' (fun k hk => (List.mem_append.mp hk).elim (st.kin k) (fun h => by rw [List.mem_singleton.mp h]; exact ⟨hkey, hE⟩)) (by rw [List.length_append, List.length_singleton]; omega) m1 m2 m3
          exact TurnJ.intro F6 a1 a2 a3
        · have hde := st.G.full hin hl (f := 14)
          k_steps
          dsimp only
          with_reducible rename Fr s₁.heap L _ _ => F6
          with_reducible rename News s₁.heap L _ _ => N6
          with_reducible rename Upto W.l _ _ => U6
          with_reducible rename St w _ W.x W.l W.d W.hs W.tkk W.nn _ _ _ W.nl W.nvs W.nk W.wd (nmsF iw) W.c => S6
          obtain ⟨n3, a1, a2, a3⟩ := LoopS.next st hoff hIk hIl hc (Upto.refl _ _) (List.mem_cons_of_mem _ hk) U6 S6 N6 F6 hks st.G st.kin st.len m1 m2 m3
          exact TurnJ.intro F6 a1 a2 a3
  · intro h tk m' n' hJ F8 N8
    obtain ⟨T, kept, tvs, tln, kvs, kk, st⟩ := hJ
    have hk := st.hk
    have hks := st.hks
    have hnam := st.S.nam
    have hwn := st.S.wsh
    have m2 := st.m2
    have m3 := st.m3
    have hkin : ∀ k ∈ kept, kdpHas W.c k = true := fun k hk => (st.kin k hk).1
    have hklen := st.len
    have hkl5 : kept.length < 50 := by omega
    have c5 := st.c5
    clear F9 N9 hws hwsh hck
    dsimp only
    k_steps
    refine Hold.mk ?_
    with_reducible rename Fr s₁.heap L _ _ => F9
    with_reducible rename News s₁.heap L _ _ => N9
    have h' := True.intro; have tk' := True.intro; have F' := True.intro; have N' := True.intro; have D' := True.intro; have ws' := True.intro; have hI' := True.intro; have l1' := True.intro; have tv' := True.intro; have t' := True.intro; have vs' := True.intro; have ys' := True.intro; have kd' := True.intro; have hS' := True.intro; have v' := True.intro; have hlk' := True.intro; have news' := True.intro; have ln' := True.intro; have U' := True.intro; have S' := True.intro; have n' := True.intro; have kvs' := True.intro; have kk' := True.intro; have hk' := True.intro; have hT' := True.intro; have hc1' := True.intro; have hc2' := True.intro; have o' := True.intro; have d' := True.intro; have U2' := True.intro; have S2' := True.intro; have hsub' := True.intro; have hD' := True.intro; have hR' := True.intro; have TI' := True.intro; have k' := True.intro; have htk' := True.intro; have hsh' := True.intro; have M' := True.intro; have a' := True.intro; have b' := True.intro; have off' := True.intro; have hys' := True.intro
    rename_i D9 ys9 kd9 n9 sb9 hD9 hR9 hz9
    refine cutT (s₁ := s₁) (P := fun V h m => StG w s₁.heap L xs iw V h m) ⟨⟨W, kl, kvs, kk, T, kept, tvs, tln, n9.filter nocell, D9, ys9, kd9, 0, [], 0, [], 0, []⟩, _, _, _, rfl, { F := F9, N := cb_drop N9 (by intro p hp; rcases List.mem_cons.mp hp with rfl | hp; exact (sb9 _ st.c9); rcases List.mem_cons.mp hp with rfl | hp; exact (sb9 _ st.c8); rcases List.mem_cons.mp hp with rfl | hp; exact (sb9 _ st.c7); rcases List.mem_cons.mp hp with rfl | hp; exact (sb9 _ st.c6); rcases List.mem_cons.mp hp with rfl | hp; exact (sb9 _ st.c5); rcases List.mem_cons.mp hp with rfl | hp; exact (sb9 _ st.c2); exact (List.mem_filter.mp hp).1), S := (st.S.sub sb9).nc, hk := mem_nc (sb9 _ st.hk) (fun v e => by cases e), hks := st.hks, hcok := hcok, hO := hO, G := st.G, kin := hkin, len := st.len, m2 := st.m2, m3 := st.m3, hDd := mem_nc hD9 (fun v e => by cases e), hdr := hR9.nc, m4 := rfl, d2 := d2, d5 := d5, d6 := d6, d7 := d7, d8 := d8, d9 := d9, r2 := nc_ne N9 (sb9 _ st.c2) d2, r5 := nc_ne N9 (sb9 _ st.c5) d5, r6 := nc_ne N9 (sb9 _ st.c6) d6, r7 := nc_ne N9 (sb9 _ st.c7) d7, r8 := nc_ne N9 (sb9 _ st.c8) d8, r9 := nc_ne N9 (sb9 _ st.c9) d9 }⟩ k
section
local macro_rules | `(tactic| k_all) => `(tactic| with_reducible assumption)
theorem lines30 : True := by
  (k_with "M:tab" => first | with_reducible assumption | exact TabIn.sub (by with_reducible assumption) (fun p' hp' => by k_mem))
  (k_with "call ref" => (k_here; (with_reducible show wpAny _ _ (call (Value.ref 135) _) _ _ _); k_dflt (refine wpAny_call ?_; refine' items_ct ?zqcB ?zqcF ?zqcX ?zqcN ?zqcT ?zqcA ?zqcf ?zqck ?zqch ?zqcr ?zqcu ?zqt ?zql ?_; walk_at "M:args"; (case zqt => walk_at "M:tab"); (case zql => with_reducible assumption); k_whole); intro h' tk' D' kk' F' N'; (obtain ⟨u1', u2', u3', u4'⟩ := four_ne N' (by with_reducible assumption) (by with_reducible assumption) (by with_reducible assumption) (by with_reducible assumption)); (try dsimp only); (try k_sweep)))
  (k_with "call builtin:len" => (k_here; (with_reducible show wpAny _ _ (call (Value.builtin "len") [Value.ref _]) _ _ _); k_dflt (refine' len_lk ?zql ?zqi ?zqk ?zqf ?_; (case zql => k_asm); (case zqi => k_mem); (case zqk => with_reducible assumption); (case zqf => with_reducible assumption); k_whole)))
  (k_with "compareOp NotIn ref ref" => (k_here; (with_reducible show wpAny _ _ (compareOp CmpOp.NotIn (Value.ref _) (Value.ref _)) _ _ _); k_dflt (refine' not_in_rows ?zqN ?zqma ?zqDa ?zqsa ?zqDx ?zqhq ?zqok ?zqhu ?_; (case zqN => k_asm); (case zqma => k_mem); (case zqDa => with_reducible assumption); (case zqDx => with_reducible assumption); (case zqhq => with_reducible assumption); (case zqok => with_reducible assumption); (case zqhu => k_units); (case zqsa => (intro p' hp'; k_mem)); k_whole)))
  (k_with "execs cons Assign cons" => (k_here; (with_reducible show wpAny _ _ (execs (Stmt.Assign [Expr.Name (Str.ofString "found") _] _ _ :: _) _) _ _ _); refine Hold.out ?_))
  trivial
theorem freshLXI : True := by
  try row_walk
  trivial
set_option maxHeartbeats 2000000 in
theorem segI {w : World} {s₁ : Shared} {mg mb : Str → Option Value} {mean : ExcName → Option Value} {fa cdr : Addr} {L : Nat} {xs : List Int} {iw : Nat} (KX : (hd.heap_39 w.params).In s₁.heap) (K0 : Below callerA s₁.heap [] s₁.heap) (T : Top hd.view_39 loose mean mg mb s₁.heap) (hlen : xs.length ≤ 63) (hiw : iw < 5)
    {V : LG} {h : Heap} {tk : Tok} {m : Str → Option Value} (st : StG w s₁.heap L xs iw V h m)
    (k : ∀ V h tk m, StI w s₁.heap L xs iw V h m → LawAt w s₁ L fa cdr 14 { s₁ with heap := h, toks := tk }) : LawAt w s₁ L fa cdr 11 { s₁ with heap := h, toks := tk } := by
  unfold LawAt
  revert KX; k_fill; intro KX
  generalize hsc : lawScope = sc
  conv at hsc => lhs; whnf
  subst hsc
  generalize hbd : lawBody.drop 11 = bd
  conv at hbd => lhs; whnf
  subst hbd
  have F := st.F
  have N := st.N
  have S := st.S
  have hk := st.hk
  have hks := st.hks
  have hcok := st.hcok
  have hO := st.hO
  have G : Good hO V.T V.kept := st.G
  have kin := st.kin
  have len := st.len
  have m2 := st.m2
  have m3 := st.m3
  have hDd := st.hDd
  have hdr := st.hdr
  have m4 := st.m4
  have d2 := st.d2
  have d5 := st.d5
  have d6 := st.d6
  have d7 := st.d7
  have d8 := st.d8
  have d9 := st.d9
  have r2 := st.r2
  have r5 := st.r5
  have r6 := st.r6
  have r7 := st.r7
  have r8 := st.r8
  have r9 := st.r9
  clear st
  have hnl8 := (nms_lt iw hiw).2
  have hTl : V.T.length = V.kept.length := G.len
  have hTI := S.tab
  have hI := S.tab.inst
  have hDi := S.tab.dict
  have hnam := S.nam
  have hnv := S.nstr
  have hTl1 : V.T.length < 100 := by omega
  have htR := S.tab.rows
  have htv : V.tvs.length = V.kept.length := htR.length.trans hTl
  have hdv : V.dvs.length = V.kept.length := hdr.length.trans (by unfold dueT; rw [List.length_map])
  have hkb : V.kept.length < 1000 := by omega
  have hnvl : V.W.nvs.length = (nmsF iw).length := hnv.len_eq
  have hnb : (nmsF iw).length < 1000 := by omega
  have hTok := good_ok hiw hO hcok G kin
  have hdue := G.due
  refine wpAny_execs_cons ?_; (try dsimp only)
  k_steps
  · exact absurd rfl (by assumption)
  · refine Hold.mk ?_
    with_reducible rename Fr s₁.heap L _ _ => F9
    k_dflt (refine LCt.ListComp_T (F₀ := F9) (by with_unfolding_all rfl) (by decide) (by rfl) (by decide) (by rfl) ?_)
    k_steps
    refine Hold.mk ?_
    with_reducible rename Fr s₁.heap L _ _ => F5
    with_reducible rename News s₁.heap L _ _ => N5
    refine LCt.CompSrcT.ledger rfl F5 N5 (by k_mem) (by rw [sizeLine_eq, List.size_toArray]; omega) (fun g => compRestT_J (fun i ys => ys = []) rfl ?_ (.inr ⟨_, by k_mem, rfl, _, rfl⟩) ?_)
    · intro ys5 hys5 D6 h6 tk6 F6 N6 off6
      subst hys5
      have hnil : StrsAre [] [] := .nil
      have hnok : ∀ x ∈ ([] : List Str), PyData.strOk x = true := fun x h => (nomatch h)
      k_steps
      with_reducible rename News s₁.heap L _ _ => N7
      have N8 : News s₁.heap L _ ((L + 1 + 1 + 1 + 1 + 1 + 1 + 1 + 1 + 1, V.W.o1) :: (L + 1 + 1 + 1 + 1 + 1 + 1 + 1 + 1, V.W.o2) :: (L + 1 + 1 + 1 + 1 + 1 + 1 + 1, V.W.o3) :: (L + 1 + 1 + 1 + 1 + 1, V.W.o5) :: (L + 1 + 1, V.W.o8) :: V.r) := cb_drop N7 (by intro p hp; rcases List.mem_cons.mp hp with rfl | hp; (k_mem); rcases List.mem_cons.mp hp with rfl | hp; (k_mem); rcases List.mem_cons.mp hp with rfl | hp; (k_mem); rcases List.mem_cons.mp hp with rfl | hp; (k_mem); rcases List.mem_cons.mp hp with rfl | hp; (k_mem); k_mem)
      clear N7
      k_steps
      refine Hold.mk ?_
      with_reducible rename Fr s₁.heap L _ _ => F4
      with_reducible rename News s₁.heap L _ _ => N4
      with_reducible rename Obj.data _ = Data.cell (some (Value.int _ _)) => dz
      obtain ⟨oz, tz, N4, dz⟩ : ∃ oz tz, News s₁.heap L _ ((L + 1 + 1 + 1 + 1 + 1 + 1 + 1 + 1 + 1, V.W.o1) :: (L + 1 + 1 + 1 + 1 + 1 + 1 + 1 + 1, V.W.o2) :: (L + 1 + 1 + 1 + 1 + 1 + 1 + 1, oz) :: (L + 1 + 1 + 1 + 1 + 1, V.W.o5) :: (L + 1 + 1, V.W.o8) :: V.r) ∧ oz.data = Data.cell (some (Value.int (((nmsF iw).length : Nat) : Int) tz)) := ⟨_, _, N4, dz⟩
      refine cutT (s₁ := s₁) (P := fun V h m => StI w s₁.heap L xs iw V h m) ⟨{ V with W := { V.W with o3 := oz, t := tz } }, _, _, _, rfl, { F := F4, N := N4, S := S, hk := hk, hks := hks, hcok := hcok, hO := hO, G := G, kin := kin, len := len, m2 := m2, m3 := m3, d2 := d2, d5 := d5, d7 := dz, d8 := d8, d9 := d9, r2 := r2, r5 := r5, r7 := r7, r8 := r8, r9 := r9 }⟩ k
    · intro i v ys I oI C oC D m₂ h tk E' hi hP hJ hns hx F6 N6 off ne
      obtain ⟨b9, q9, rfl, hq9, hrow9⟩ := hdr.one (by simpa using hP)
      have hqT := hdue q9 (List.mem_of_getElem? hq9)
      clear F5 N5
      k_steps
      exact CEnd.intro (by k_asm) (by k_asm) hJ
theorem lines31 : True := by
  (k_with "call ref" => (k_here; (with_reducible show wpAny _ _ (call (Value.ref 118) _) _ _ _); k_dflt (refine wpAny_call ?_; refine' get_ct ?zqcB ?zqcF ?zqcX ?zqcN ?zqcT ?zqcA ?zqcf ?zqck ?zqch ?zqcr ?zqcu ?zqtt ?zqn1 ?zqn2 ?zqn3 ?_ ?_; walk_at "M:args"; (case zqtt => walk_at "M:tab"); (case zqn1 => with_reducible assumption); (case zqn2 => with_reducible assumption); (case zqn3 => with_reducible assumption); k_whole); (intro v' tv' h' tk' hlk' F' N'; (try dsimp only); (try k_sweep)); rotate_left; (intro h' tk' hlk' F' N'; (try dsimp only); (try k_sweep)); rotate_left))
  (k_with "execs cons Assign cons" => (k_here; (with_reducible show wpAny _ _ (execs (Stmt.Assign [Expr.Name (Str.ofString "ways") _] _ _ :: _) _) _ _ _); refine Hold.out ?_))
  trivial
theorem freshLXJ : True := by
  try row_walk
  trivial
set_option maxHeartbeats 2000000 in
theorem segJ {w : World} {s₁ : Shared} {mg mb : Str → Option Value} {mean : ExcName → Option Value} {fa cdr : Addr} {L : Nat} {xs : List Int} {iw : Nat} (KX : (hd.heap_39 w.params).In s₁.heap) (K0 : Below callerA s₁.heap [] s₁.heap) (T : Top hd.view_39 loose mean mg mb s₁.heap) (hlen : xs.length ≤ 63) (hiw : iw < 5)
    {V : LG} {h : Heap} {tk : Tok} {m : Str → Option Value} (st : StI w s₁.heap L xs iw V h m)
    (k : ∀ V h tk m, StJ w s₁.heap L xs iw V h m → LawAt w s₁ L fa cdr 15 { s₁ with heap := h, toks := tk }) : LawAt w s₁ L fa cdr 14 { s₁ with heap := h, toks := tk } := by
  unfold LawAt
  revert KX; k_fill; intro KX
  generalize hsc : lawScope = sc
  conv at hsc => lhs; whnf
  subst hsc
  generalize hbd : lawBody.drop 14 = bd
  conv at hbd => lhs; whnf
  subst hbd
  have F := st.F
  have N := st.N
  have S := st.S
  have hk := st.hk
  have hks := st.hks
  have hcok := st.hcok
  have hO := st.hO
  have G : Good hO V.T V.kept := st.G
  have kin := st.kin
  have len := st.len
  have m2 := st.m2
  have m3 := st.m3
  have d2 := st.d2
  have d5 := st.d5
  have d7 := st.d7
  have d8 := st.d8
  have d9 := st.d9
  have r2 := st.r2
  have r5 := st.r5
  have r7 := st.r7
  have r8 := st.r8
  have r9 := st.r9
  clear st
  refine wpAny_execs_cons ?_; (try dsimp only)
  have hnl8 := (nms_lt iw hiw).2
  have hTI := S.tab
  have hI := S.tab.inst
  have hDi := S.tab.dict
  have hnam := S.nam
  have hnv := S.nstr
  have hcfg := S.cfg
  have hnvl : V.W.nvs.length = (nmsF iw).length := hnv.len_eq
  refine wpAny_Assign_Name ?_
  with_reducible rename Fr s₁.heap L _ _ => F7
  k_dflt (refine LCg.ListComp_U (F₀ := F7) (by with_unfolding_all rfl) (by decide) (by rfl) (by decide) (by rfl) ?_)
  k_steps
  refine Hold.mk ?_
  with_reducible rename News s₁.heap L _ _ => N7
  refine LCg.CompSrc.ledger rfl F7 N7 (by k_mem) (by rw [sizeLine_eq, List.size_toArray]; omega) (fun g => compRest_J (fun i ys => OptAre ys (((nmsF iw).take i).map fun n => look V.T (Txt.lower n))) .nil ?_ (.inr ⟨_, by k_mem, rfl, _, rfl⟩) ?_)
  · intro ys hys D9 h9 tk9 F9 N9 off9
    have hys : OptAre ys ((nmsF iw).map fun n => look V.T (Txt.lower n)) := by
      rw [List.size_toArray, hnvl, List.take_length] at hys
      exact hys
    have u9 := cell_ne2 N9 (List.mem_cons_self ..) (c := (L + 1 + 1 + 1 + 1 + 1 + 1 + 1 + 1 + 1)) (o := V.W.o1) (by k_mem) d9 (fun x e => by cases e)
    have u8 := cell_ne2 N9 (List.mem_cons_self ..) (c := (L + 1 + 1 + 1 + 1 + 1 + 1 + 1 + 1)) (o := V.W.o2) (by k_mem) d8 (fun x e => by cases e)
    clear F7 N7
    k_steps
    refine Hold.mk ?_
    with_reducible rename Fr s₁.heap L _ _ => F4
    with_reducible rename News s₁.heap L _ _ => N4
    with_reducible rename Obj.data _ = Data.cell (some (Value.ref D9)) => dz
    obtain ⟨oz, N4, dz⟩ : ∃ oz, News s₁.heap L _ ((L + 1 + 1 + 1 + 1 + 1 + 1 + 1 + 1 + 1, V.W.o1) :: (L + 1 + 1 + 1 + 1 + 1 + 1 + 1 + 1, oz) :: (L + 1 + 1 + 1 + 1 + 1 + 1 + 1, V.W.o3) :: (L + 1 + 1 + 1 + 1 + 1, V.W.o5) :: (D9, PyProof.Rows.LCg.lst ys) :: V.r) ∧ oz.data = Data.cell (some (Value.ref D9)) := ⟨_, cb_drop N4 (by intro p hp; rcases List.mem_cons.mp hp with rfl | hp; (k_mem); rcases List.mem_cons.mp hp with rfl | hp; (k_mem); rcases List.mem_cons.mp hp with rfl | hp; (k_mem); rcases List.mem_cons.mp hp with rfl | hp; (k_mem); rcases List.mem_cons.mp hp with rfl | hp; (k_mem); k_mem), dz⟩
    refine cutT (s₁ := s₁) (P := fun V h m => StJ w s₁.heap L xs iw V h m) ⟨{ V with W := { V.W with o2 := oz }, r := (D9, PyProof.Rows.LCg.lst ys) :: V.r, Df := D9, fvs := ys }, _, _, _, rfl, { F := F4, N := N4, S := S.cons, hk := List.mem_cons_of_mem _ hk, hks := hks, hcok := hcok, hO := hO, G := G, kin := kin, len := len, m2 := m2, m3 := m3, d5 := d5, d7 := d7, d8 := dz, d9 := d9, r9 := fun p hp => (List.mem_cons.mp hp).elim (fun e => e ▸ u9) (r9 p), hDf := List.mem_cons_self .., hfd := hys }⟩ k
  · intro i v ys I oI C oC D m₂ h tk E' hi hP hJ hns hx F6 N6 off ne
    obtain ⟨y, ty, rfl, hy⟩ := hnv.item i v (by simpa using hP)
    have hye := nmAt_of hy
    have hn1 : y.length < 1000 := by rw [← hye]; exact hcfg.len i
    have hn2 : Clean (Txt.lower y) := by rw [← hye]; exact hcfg.cll i
    have hn3 : (Txt.lower y).cps.size < 1000000 := by rw [← hye]; exact hcfg.szl i
    clear F7 N7
    k_steps
    · exact CEnd.intro (by k_asm) (by k_asm) (fnd_next hJ hy (by assumption) (.some _ _))
    · exact CEnd.intro (by k_asm) (by k_asm) (fnd_next hJ hy (by assumption) .none)
theorem lines32 : True := by
  (k_with "subscriptTail Name Name ref int" => (k_here; (with_reducible show wpAny _ _ (subscriptTail _ _ (Value.ref _) (Value.int _ _)) _ _ _); k_dflt (refine' item_lst ?zqN ?zql ?zqv ?zqf ?_; (case zqN => k_asm); (case zql => k_mem); (case zqv => with_reducible assumption); (case zqf => with_reducible assumption); k_whole); (try k_sweep)))
  (k_with "execs cons Assign cons" => (k_here; (with_reducible show wpAny _ _ (execs (Stmt.Assign [Expr.Name (Str.ofString "homes") _] _ _ :: _) _) _ _ _); refine Hold.out ?_))
  trivial
theorem freshLXK : True := by
  try row_walk
  trivial
set_option maxHeartbeats 2000000 in
theorem segK {w : World} {s₁ : Shared} {mg mb : Str → Option Value} {mean : ExcName → Option Value} {fa cdr : Addr} {L : Nat} {xs : List Int} {iw : Nat} (KX : (hd.heap_39 w.params).In s₁.heap) (K0 : Below callerA s₁.heap [] s₁.heap) (T : Top hd.view_39 loose mean mg mb s₁.heap) (hlen : xs.length ≤ 63) (hiw : iw < 5)
    {V : LG} {h : Heap} {tk : Tok} {m : Str → Option Value} (st : StJ w s₁.heap L xs iw V h m)
    (k : ∀ V h tk m, StK w s₁.heap L xs iw V h m → LawAt w s₁ L fa cdr 16 { s₁ with heap := h, toks := tk }) : LawAt w s₁ L fa cdr 15 { s₁ with heap := h, toks := tk } := by
  unfold LawAt
  revert KX; k_fill; intro KX
  generalize hsc : lawScope = sc
  conv at hsc => lhs; whnf
  subst hsc
  generalize hbd : lawBody.drop 15 = bd
  conv at hbd => lhs; whnf
  subst hbd
  have F := st.F
  have N := st.N
  have S := st.S
  have hk := st.hk
  have hks := st.hks
  have hcok := st.hcok
  have hO := st.hO
  have G : Good hO V.T V.kept := st.G
  have kin := st.kin
  have len := st.len
  have m2 := st.m2
  have m3 := st.m3
  have d5 := st.d5
  have d7 := st.d7
  have d8 := st.d8
  have d9 := st.d9
  have r9 := st.r9
  have hDf := st.hDf
  have hfd := st.hfd
  clear st
  refine wpAny_execs_cons ?_; (try dsimp only)
  have hnl8 := (nms_lt iw hiw).2
  have hnl0 := (nms_lt iw hiw).1
  have hwsh := S.wsh
  have hfl : V.fvs.length < 1000 := by rw [hfd.len, List.length_map]; omega
  with_reducible rename Fr s₁.heap L _ _ => F7
  k_dflt (refine LCt.Assign_ListComp_T (F₀ := F7) (by rfl) (by with_unfolding_all rfl) (by with_unfolding_all rfl) (by decide) (by rfl) (by decide) (by rfl) (by rfl) (by rfl) ?_)
  k_steps
  refine Hold.mk ?_
  with_reducible rename Fr s₁.heap L _ _ => F8
  with_reducible rename News s₁.heap L _ _ => N8
  refine LCt.CompSrcT.range (a := 0) (b := (((nmsF iw).length : Nat) : Int)) (n := (nmsF iw).length) rfl F8 N8 (by assumption) (small_n (by omega)) (rangeSize_n _) (by rw [sizeLine_eq]; omega) (fun g => compRestT_J (fun i ys => IntsAre ys (waysL (nmsF iw) V.W.c V.T i)) .nil ?_ trivial ?_)
  · intro ys hys D9 h9 tk9 F9 N9 off9
    have u9 := cell_ne2 N9 (List.mem_cons_self ..) (c := (L + 1 + 1 + 1 + 1 + 1 + 1 + 1 + 1 + 1)) (o := V.W.o1) (by k_mem) d9 (fun x e => by cases e)
    clear F8 N8
    k_steps
    refine Hold.mk ?_
    refine cutT (s₁ := s₁) (P := fun V h m => StK w s₁.heap L xs iw V h m) ⟨{ V with r := (D9, PyProof.Rows.LCg.lst ys) :: V.r, Dw := D9, yvs := ys }, _, _, _, rfl, { F := F9, N := cb_drop N9 (by intro p hp; rcases List.mem_cons.mp hp with rfl | hp; (k_mem); rcases List.mem_cons.mp hp with rfl | hp; (k_mem); rcases List.mem_cons.mp hp with rfl | hp; (k_mem); rcases List.mem_cons.mp hp with rfl | hp; (k_mem); k_mem), S := S.cons, hk := List.mem_cons_of_mem _ hk, hks := hks, hcok := hcok, hO := hO, G := G, kin := kin, len := len, m2 := m2, m3 := m3, d5 := d5, d7 := d7, d9 := d9, r9 := fun p hp => (List.mem_cons.mp hp).elim (fun e => e ▸ u9) (r9 p), hDw := List.mem_cons_self .., hyw := hys, m5 := rfl }⟩ k
  · intro i v ys I oI C oC D m₂ h tk E' hi hP hJ hns hx F6 N6 off ne
    obtain ⟨t9, hv9⟩ := hP
    rw [Int.zero_add] at hv9
    subst hv9
    clear F8 N8
    cases hat : atT (nmsF iw) V.T i with
    | none =>
      obtain ⟨v9, hv9, ho9⟩ := hfd.at (i := i) (o := none) (by rw [List.getElem?_map, nmAt_get hi]; exact congrArg some hat)
      cases ho9
      k_steps
      all_goals exact CEnd.intro (by k_asm) (by k_asm) (ways_none hJ hat)
    | some x9 =>
      obtain ⟨v9, hv9, ho9⟩ := hfd.at (i := i) (o := some x9) (by rw [List.getElem?_map, nmAt_get hi]; exact congrArg some hat)
      have hxk : kdpHas V.W.c x9 = true := look_good S.good hat
      cases ho9
      k_steps
      all_goals exact CEnd.intro (by k_asm) (by k_asm) (ways_some hJ hat)
theorem lines33 : True := by
  (k_with "exec Return some" => (k_here; refine Hold.out ?_))
  (k_with "execs cons Return" => (k_here; (with_reducible show wpAny _ _ (execs (Stmt.Return _ _ :: _) _) _ _ _); refine Hold.out ?_))
  trivial
theorem freshLXL : True := by
  try row_walk
  trivial
set_option maxHeartbeats 2000000 in
theorem segL {w : World} {s₁ : Shared} {mg mb : Str → Option Value} {mean : ExcName → Option Value} {fa cdr : Addr} {L : Nat} {xs : List Int} {iw : Nat} (KX : (hd.heap_39 w.params).In s₁.heap) (K0 : Below callerA s₁.heap [] s₁.heap) (T : Top hd.view_39 loose mean mg mb s₁.heap) (hlen : xs.length ≤ 63) (hiw : iw < 5)
    {V : LG} {h : Heap} {tk : Tok} {m : Str → Option Value} (st : StK w s₁.heap L xs iw V h m)
    (k : ∀ V h tk m, StL w s₁.heap L xs iw V h m → LawAt w s₁ L fa cdr 17 { s₁ with heap := h, toks := tk }) : LawAt w s₁ L fa cdr 16 { s₁ with heap := h, toks := tk } := by
  unfold LawAt
  revert KX; k_fill; intro KX
  generalize hsc : lawScope = sc
  conv at hsc => lhs; whnf
  subst hsc
  generalize hbd : lawBody.drop 16 = bd
  conv at hbd => lhs; whnf
  subst hbd
  have F := st.F
  have N := st.N
  have S := st.S
  have hk := st.hk
  have hks := st.hks
  have hcok := st.hcok
  have hO := st.hO
  have G : Good hO V.T V.kept := st.G
  have kin := st.kin
  have len := st.len
  have m2 := st.m2
  have m3 := st.m3
  have d5 := st.d5
  have d7 := st.d7
  have d9 := st.d9
  have r9 := st.r9
  have hDw := st.hDw
  have hyw := st.hyw
  have m5 := st.m5
  clear st
  refine wpAny_execs_cons ?_; (try dsimp only)
  have hnl8 := (nms_lt iw hiw).2
  have hwsh := S.wsh
  have hkl2 : V.kvs.length = V.kept.length := hks.len_eq
  refine wpAny_Assign_Name ?_
  with_reducible rename Fr s₁.heap L _ _ => F7
  k_dflt (refine LCg.ListComp_U (F₀ := F7) (by with_unfolding_all rfl) (by decide) (by rfl) (by decide) (by rfl) ?_)
  k_steps
  refine Hold.mk ?_
  with_reducible rename News s₁.heap L _ _ => N7
  refine LCg.CompSrc.ledger rfl F7 N7 (by k_mem) (by rw [sizeLine_eq, List.size_toArray]; omega) (fun g => compRest_J (fun i ys => IntsAre ys (homesL V.W.c (V.kept.take i))) .nil ?_ (.inr ⟨_, by k_mem, rfl, _, rfl⟩) ?_)
  · intro ys hys D9 h9 tk9 F9 N9 off9
    have hys : IntsAre ys (homesL V.W.c V.kept) := by
      rw [List.size_toArray, hkl2, List.take_length] at hys
      exact hys
    have u9 := cell_ne2 N9 (List.mem_cons_self ..) (c := (L + 1 + 1 + 1 + 1 + 1 + 1 + 1 + 1 + 1)) (o := V.W.o1) (by k_mem) d9 (fun x e => by cases e)
    clear F7 N7
    k_steps
    refine Hold.mk ?_
    with_reducible rename Fr s₁.heap L _ _ => F4
    with_reducible rename News s₁.heap L _ _ => N4
    with_reducible rename Obj.data _ = Data.cell (some (Value.ref D9)) => dz
    obtain ⟨oz, N4, dz⟩ : ∃ oz, News s₁.heap L _ ((L + 1 + 1 + 1 + 1 + 1 + 1 + 1 + 1 + 1, oz) :: (L + 1 + 1 + 1 + 1 + 1 + 1 + 1, V.W.o3) :: (D9, PyProof.Rows.LCg.lst ys) :: V.r) ∧ oz.data = Data.cell (some (Value.ref D9)) := ⟨_, cb_drop N4 (by intro p hp; rcases List.mem_cons.mp hp with rfl | hp; (k_mem); rcases List.mem_cons.mp hp with rfl | hp; (k_mem); rcases List.mem_cons.mp hp with rfl | hp; (k_mem); k_mem), dz⟩
    refine cutT (s₁ := s₁) (P := fun V h m => StL w s₁.heap L xs iw V h m) ⟨{ V with W := { V.W with o1 := oz }, r := (D9, PyProof.Rows.LCg.lst ys) :: V.r, Dh := D9, zvs := ys }, _, _, _, rfl, { F := F4, N := N4, S := S.cons, hk := List.mem_cons_of_mem _ hk, hks := hks, hcok := hcok, hO := hO, G := G, kin := kin, len := len, m2 := m2, m3 := m3, d7 := d7, d9 := dz, hDw := List.mem_cons_of_mem _ hDw, hyw := hyw, m5 := m5, hDh := List.mem_cons_self .., hzh := hys }⟩ k
  · intro i v ys I oI C oC D m₂ h tk E' hi hP hJ hns hx F6 N6 off ne
    obtain ⟨y, ty, rfl, hy⟩ := hks.item i v (by simpa using hP)
    have hxk : kdpHas V.W.c y = true := kin y (List.mem_of_getElem? hy)
    clear F7 N7
    k_steps
    exact CEnd.intro (by k_asm) (by k_asm) (homes_next hJ hy)
theorem lines34 : True := by
  (k_with "call builtin:max" => (k_here; (with_reducible show wpAny _ _ (call (Value.builtin _) [Value.ref _]) _ _ _); (refine' kso_max ?zqk1 ?zqk2 ?zqk3 ?zqk4 ?zqk5 ?zqk6 ?_; (case zqk1 => k_asm); (case zqk2 => k_asm); (case zqk3 => exact News.isList (by k_asm) (by k_mem)); (case zqk4 => with_reducible assumption); (case zqk5 => with_reducible assumption); (case zqk6 => exact rfl); k_whole); intro h' M' t' k' F' N' a' b'; (try k_sweep)))
  (k_with "call ref" => (k_here; (with_reducible show wpAny _ _ (call (Value.ref 411) [Value.ref _, Value.int _ _, Value.int _ _]) _ _ _); k_dflt (refine wpAny_call ?_; refine' excess_ct ?zqcB ?zqcF ?zqcX ?zqcN ?zqcT ?zqcA ?zqcf ?zqck ?zqch ?zqcr ?zqcu ?zqm ?zqi ?zqz0 ?zqz1 ?zqzl ?_; walk_at "M:args"; (case zqm => k_mem); (case zqi => with_reducible assumption); (case zqz0 => with_reducible assumption); (case zqz1 => with_reducible assumption); (case zqzl => with_reducible assumption); k_whole); intro h' tk' t' F' N'; (try dsimp only); (try k_sweep)))
  (k_with "binaryOp Add ref ref" => (k_here; (with_reducible show wpAny _ _ (binaryOp _ (Value.ref _) (Value.ref _)) _ _ _); k_dflt (refine' kmk_add_ints ?zqF ?zqN ?zqa ?zqb ?zqi ?zqj ?_ ?zqz; (case zqF => k_asm); (case zqN => k_asm); (case zqa => exact News.isList (by k_asm) (by k_mem)); (case zqb => exact News.isList (by k_asm) (by k_mem)); (case zqi => exact IntsAre.cons _ _ IntsAre.nil); (case zqj => with_reducible assumption); (case zqz => (simp only [List.length_cons, List.length_nil, sizeLine_eq]; omega))); intro D' ws' h' F' N' l1 hI'; (try k_lt l1); (try k_sweep)))
  trivial
theorem freshLXM : True := by
  try row_walk
  trivial
set_option maxHeartbeats 2000000 in
theorem segM {w : World} {s₁ : Shared} {mg mb : Str → Option Value} {mean : ExcName → Option Value} {fa cdr : Addr} {L : Nat} {xs : List Int} {iw : Nat} (KX : (hd.heap_39 w.params).In s₁.heap) (K0 : Below callerA s₁.heap [] s₁.heap) (T : Top hd.view_39 loose mean mg mb s₁.heap) (hlen : xs.length ≤ 63) (hiw : iw < 5)
    {V : LG} {h : Heap} {tk : Tok} {m : Str → Option Value} (st : StL w s₁.heap L xs iw V h m)
     : LawAt w s₁ L fa cdr 17 { s₁ with heap := h, toks := tk } := by
  unfold LawAt
  revert KX; k_fill; intro KX
  generalize hsc : lawScope = sc
  conv at hsc => lhs; whnf
  subst hsc
  generalize hbd : lawBody.drop 17 = bd
  conv at hbd => lhs; whnf
  subst hbd
  have F := st.F
  have N := st.N
  have S := st.S
  have hk := st.hk
  have hks := st.hks
  have hcok := st.hcok
  have hO := st.hO
  have G : Good hO V.T V.kept := st.G
  have kin := st.kin
  have len := st.len
  have m2 := st.m2
  have m3 := st.m3
  have d7 := st.d7
  have d9 := st.d9
  have hDw := st.hDw
  have hyw := st.hyw
  have m5 := st.m5
  have hDh := st.hDh
  have hzh := st.hzh
  clear st
  refine wpAny_execs_cons ?_; (try dsimp only)
  have hnl8 := (nms_lt iw hiw).2
  have hnl0 := (nms_lt iw hiw).1
  have hn50 : (nmsF iw).length < 50 := by omega
  have hwl := ways_len (nmsF iw) V.W.c V.T (nmsF iw).length
  have hzl : (homesL V.W.c V.kept).length < 50 := by unfold homesL; rw [List.length_map]; omega
  have hp1 : 0 < ([0] ++ waysL (nmsF iw) V.W.c V.T (nmsF iw).length).length := by simp
  refine wpAny_Return_some ?_
  k_steps
  refine Hold.mk ?_
  with_reducible rename Fr s₁.heap L _ _ => F7
  k_dflt (refine LCg.ListComp_U (F₀ := F7) (by with_unfolding_all rfl) (by decide) (by rfl) (by decide) (by rfl) ?_)
  k_steps
  refine Hold.mk ?_
  with_reducible rename Fr s₁.heap L _ _ => F8
  with_reducible rename News s₁.heap L _ _ => N8
  refine LCg.CompSrc.range (a := 0) (b := (((nmsF iw).length : Nat) : Int)) (n := (nmsF iw).length) rfl F8 N8 (by assumption) (small_n hn50) (rangeSize_n _) (by rw [sizeLine_eq]; omega) (fun g => compRest_J (fun i ys => IntsAre ys ((List.range i).map fun (e : Nat) => excF (homesL V.W.c V.kept) (nmsF iw).length (e : Int))) .nil ?_ trivial ?_)
  · intro ys hys D9 h9 tk9 F9 N9 off9
    have hp2 : 0 < ((List.range (nmsF iw).length).map fun (e : Nat) => excF (homesL V.W.c V.kept) (nmsF iw).length (e : Int)).length := by rw [List.length_map, List.length_range]; exact hnl0
    clear F8 N8
    k_steps
    with_reducible rename Fr s₁.heap L _ _ => F4
    have e9 := max_eq G (by assumption) (by assumption) (by assumption) (by assumption)
    unfold LawEnd
    exact ⟨congrArg (fun b => Flow.ret (Value.bool b)) (beq_iff_eq.mpr e9), _, _, _, rfl, F4⟩
  · intro i v ys I oI C oC D m₂ h tk E' hi hP hJ hns hx F6 N6 off ne
    obtain ⟨t9, hv9⟩ := hP
    rw [Int.zero_add] at hv9
    subst hv9
    clear F8 N8
    k_steps
    exact CEnd.intro (by k_asm) (by k_asm) (exc_next hJ)
end
theorem freshLXZ : True := by
  try row_walk
  trivial
set_option maxHeartbeats 4000000 in
theorem law_ok : PySem.Challenge.rw_xn0027_01.Holds := by
  refine hd ?_
  k_fill
  intro w s₀ s₁ mg mb G Y fa o pm cd doc dV kV ho hdd hcd hD hmg hg args vals as hpre hlay hrd hwl hlo
  have KX := kIn_of Y
  have X := (Ground.X G).1
  have V := (Ground.X G).2
  refine Ground.open G ?_
  intro T B D TE TW
  try (refine guard_noD D (by decide +kernel) ?_; clear D)
  obtain ⟨_, _, M⟩ := bmod_of_top T
  have TA := at_of_top T
  try (obtain ⟨_, _, he, B0⟩ := based_of_top T rfl hmg ho hdd; have he' : cd = _ := he; subst he'; clear he)
  clear hmg
  wrow_args hpre hlay hrd hwl hlo
  all_goals (first | refine callC_kw (enter_call ?_) | refine enter_call ?_ | refine callC_kw (enter_callW ?_) | refine enter_callW ?_ | w_how)
  all_goals (w_top on)
  all_goals (try refine codeAny_mono ?_ (fun _ _ g => GoodW.toG g))
  all_goals (have K0 := below_caller (Top.heap T))
  rename_i xs hx1 hx2 hx3 hx4 hx5 wa1 wa2 sl svs wa3 hsl wr1 ww1 wr2 hsi wr3 hlen wtt
  have he := Dflts.none hD rfl
  subst he
  have he := Dflts.noKw hD
  subst he
  refine call_cellsN (by decide) ho (fd_plain hdd) (Top.nolimit T) hcd rfl (kinds_of (by kinds_ok)) (by decide) fun h₁ tk₁ cells F N0 X0 => ?_
  obtain ⟨o1, o2, o3, o4, o5, o6, o7, o8, o9, rfl, d1, d2, d3, d4, d5, d6, d7, d8, d9⟩ := cells_nine X0
  clear hdd TA
  k_drop
  replace d1 : o1.data = Data.cell none := d1
  replace d2 : o2.data = Data.cell none := d2
  replace d3 : o3.data = Data.cell none := d3
  replace d4 : o4.data = Data.cell none := d4
  replace d5 : o5.data = Data.cell none := d5
  replace d6 : o6.data = Data.cell none := d6
  replace d7 : o7.data = Data.cell none := d7
  replace d8 : o8.data = Data.cell none := d8
  replace d9 : o9.data = Data.cell none := d9
  obtain ⟨m, F1, hms⟩ : ∃ m, Fr s₁.heap s₁.heap.objs.size h₁ m ∧ m (Str.ofString "script") = some (.ref sl) := ⟨_, F, rfl⟩
  clear F X0
  have ret : ∀ h' tk' m', Fr s₁.heap s₁.heap.objs.size h' m' → GoodW PySem.Challenge.rw_xn0027_01.row.claim (classAt s₀.heap) (ExcName.means s₀.heap) [ofPy (PyData.list (List.map PyData.int xs))] s₁ (.ok (.ret (.bool true))) { s₁ with heap := h', toks := tk' } := fun h' tk' m' F' => goodW_bool F' (by row_bare) (raisesW_false (by wrow_none_raised)) (postW_of (by wrow_shape) (by wtm_val) (by str_meet; first | done | w_fin))
  try dsimp only
  refine wpAny_mono (Q := LawEnd s₁ s₁.heap.objs.size) (E := fun _ _ => False) ?_ (fun f s' hq => ?_) (fun _ _ x => x.elim)
  rotate_left
  · obtain ⟨rfl, h', tk', m', rfl, F'⟩ := hq
    exact ret h' tk' m' F'
  clear ret
  replace K0 : Below callerA s₁.heap [] s₁.heap := K0
  replace T : Top hd.view_39 loose (ExcName.means s₀.heap) mg mb s₁.heap := T
  clear G Y X V B TE TW M hcd ho hg hx1 hx2 hx3 hx4 hx5 wr1 ww1 wr2 wr3 wtt hD
  generalize ExcName.means s₀.heap = mean at T
  generalize s₁.heap.objs.size = L at *
  replace hlen : xs.length ≤ 63 := by omega
  obtain ⟨iw, hiw, hiwe⟩ : ∃ iw : Nat, iw < 5 ∧ (xs.take 5).sum.fmod 5 = (iw : Int) := by
    have a := Int.fmod_nonneg_of_pos (xs.take 5).sum (show (0 : Int) < 5 by omega)
    have b := Int.fmod_lt_of_pos (xs.take 5).sum (show (0 : Int) < 5 by omega)
    exact ⟨((xs.take 5).sum.fmod 5).toNat, by omega, by omega⟩
  show LawAt w s₁ L fa _ 0 _
  refine segA KX K0 T hlen hiw d1 d2 d3 d4 d5 d6 d7 d8 d9 hsl hsi hms N0 F1 hiwe ?_
  intro W h tk m st
  refine segB KX K0 T hlen hiw st ?_
  intro W h tk m st
  refine segC KX K0 T hlen hiw st ?_
  intro W h tk m st
  refine segE KX K0 T hlen hiw st ?_
  intro W h tk m st
  refine segF KX K0 T hlen hiw st ?_
  intro W h tk m st
  refine segG KX K0 T hlen hiw st ?_
  intro V h tk m st
  refine segI KX K0 T hlen hiw st ?_
  intro V h tk m st
  refine segJ KX K0 T hlen hiw st ?_
  intro V h tk m st
  refine segK KX K0 T hlen hiw st ?_
  intro V h tk m st
  refine segL KX K0 T hlen hiw st ?_
  intro V h tk m st
  exact segM KX K0 T hlen hiw st
end
end
end Mine
theorem PySem.Challenge.cw_xn0027_01_holds : PySem.Challenge.rw_xn0027_01.Holds := by
  exact Mine.law_ok
