/-
  THE PLAIN LAWS of 'grow': least closed supersets; the two ways to reach one (sweeps in rounds; counters and waiting lists). No Go in sight.
-/
namespace Go.Proofs.Qxb6605479a.Plain

/-- A rule as the laws see it: its administrative role, the roles that it asks for, the role that it gives. -/
structure Rule where
  ad : Nat
  req : List Nat
  ro : Nat

/-- The administrative side: with no list it must be held, with a list it must stand there. -/
def admOk (adm : Option (Nat → Bool)) (X : Nat → Bool) (a : Nat) : Bool :=
  match adm with
  | none => X a
  | some A => A a

def enabled (adm : Option (Nat → Bool)) (X : Nat → Bool) (r : Rule) : Bool := admOk adm X r.ad && r.req.all X

/-- X is closed under the first R rules. -/
def Closed (adm : Option (Nat → Bool)) (rule : Nat → Rule) (R : Nat) (X : Nat → Bool) : Prop :=
  ∀ i, i < R → enabled adm X (rule i) = true → X (rule i).ro = true

/-- X holds H, below n. -/
def Sup (n : Nat) (H X : Nat → Bool) : Prop := ∀ x, x < n → H x = true → X x = true

/-- Every role that the rules name lies below n. -/
def InRange (n : Nat) (rule : Nat → Rule) (R : Nat) : Prop :=
  ∀ i, i < R → (rule i).ad < n ∧ (rule i).ro < n ∧ ∀ r, r ∈ (rule i).req → r < n

/-- X is reached from H: it lies in every closed superset. -/
def Reached (n : Nat) (adm : Option (Nat → Bool)) (rule : Nat → Rule) (R : Nat) (H X : Nat → Bool) : Prop :=
  ∀ Y, Sup n H Y → Closed adm rule R Y → Sup n X Y

structure IsLfp (n : Nat) (adm : Option (Nat → Bool)) (rule : Nat → Rule) (R : Nat) (H X : Nat → Bool) : Prop where
  sup : Sup n H X
  closed : Closed adm rule R X
  least : Reached n adm rule R H X

theorem enabled_mono {n : Nat} {adm : Option (Nat → Bool)} {X Y : Nat → Bool} {r : Rule} (had : r.ad < n) (hreq : ∀ x, x ∈ r.req → x < n) (h : Sup n X Y) (he : enabled adm X r = true) : enabled adm Y r = true := by
  simp only [enabled, Bool.and_eq_true, List.all_eq_true] at he ⊢
  refine ⟨?_, fun x hx => h x (hreq x hx) (he.2 x hx)⟩
  cases adm with
  | none => exact h _ had he.1
  | some A => exact he.1

theorem IsLfp.unique {n : Nat} {adm : Option (Nat → Bool)} {rule : Nat → Rule} {R : Nat} {H X Y : Nat → Bool} (hx : IsLfp n adm rule R H X) (hy : IsLfp n adm rule R H Y) (x : Nat) (h : x < n) : X x = Y x := by
  have h1 := hx.least Y hy.sup hy.closed x h
  have h2 := hy.least X hx.sup hx.closed x h
  cases e1 : X x <;> cases e2 : Y x <;> simp_all

/-- What is closed is its own least closed superset. -/
theorem IsLfp.self {n : Nat} {adm : Option (Nat → Bool)} {rule : Nat → Rule} {R : Nat} {X : Nat → Bool} (h : Closed adm rule R X) : IsLfp n adm rule R X X :=
  ⟨fun _ _ h => h, h, fun _ hs _ => hs⟩

/-- The order of the rules does not matter. -/
theorem IsLfp.reorder {n : Nat} {adm : Option (Nat → Bool)} {rule rule' : Nat → Rule} {R : Nat} {H X : Nat → Bool} (h : IsLfp n adm rule R H X)
    (h1 : ∀ i, i < R → ∃ j, j < R ∧ rule' i = rule j) (h2 : ∀ i, i < R → ∃ j, j < R ∧ rule i = rule' j) : IsLfp n adm rule' R H X := by
  refine ⟨h.sup, ?_, ?_⟩
  · intro i hi he
    obtain ⟨j, hj, e⟩ := h1 i hi
    rw [e] at he ⊢
    exact h.closed j hj he
  · intro Y hs hc
    refine h.least Y hs ?_
    intro i hi he
    obtain ⟨j, hj, e⟩ := h2 i hi
    rw [e] at he ⊢
    exact hc j hj he

/-! ### Setting one role -/

def put (X : Nat → Bool) (r : Nat) : Nat → Bool := fun x => if x = r then true else X x

theorem put_same (X : Nat → Bool) (r : Nat) : put X r r = true := by simp [put]
theorem put_sup (n : Nat) (X : Nat → Bool) (r : Nat) : Sup n X (put X r) := by
  intro x _ h
  simp [put, h]
theorem Sup.trans {n : Nat} {X Y Z : Nat → Bool} (h1 : Sup n X Y) (h2 : Sup n Y Z) : Sup n X Z := fun x hx h => h2 x hx (h1 x hx h)

theorem Reached.self (n : Nat) (adm : Option (Nat → Bool)) (rule : Nat → Rule) (R : Nat) (H : Nat → Bool) : Reached n adm rule R H H := fun _ hs _ => hs

/-- Firing an enabled rule stays within what is reached. -/
theorem Reached.fire {n : Nat} {adm : Option (Nat → Bool)} {rule : Nat → Rule} {R : Nat} {H X : Nat → Bool} (h : Reached n adm rule R H X) (hr : InRange n rule R) {i : Nat} (hi : i < R) (he : enabled adm X (rule i) = true) :
    Reached n adm rule R H (put X (rule i).ro) := by
  intro Y hs hc x hx hp
  have hXY := h Y hs hc
  by_cases e : x = (rule i).ro
  · subst e
    exact hc i hi (enabled_mono (hr i hi).1 (hr i hi).2.2 hXY he)
  · simp only [put, if_neg e] at hp
    exact hXY x hx hp

/-! ### Sweeps -/

/-- How many of the first n roles are held. -/
def held (X : Nat → Bool) : Nat → Nat
  | 0 => 0
  | n + 1 => held X n + (if X n = true then 1 else 0)

theorem held_le (X : Nat → Bool) : ∀ n, held X n ≤ n
  | 0 => Nat.le_refl _
  | n + 1 => by have := held_le X n; unfold held; split <;> omega

theorem held_put_out (X : Nat → Bool) (r : Nat) : ∀ n, n ≤ r → held (put X r) n = held X n
  | 0, _ => rfl
  | n + 1, h => by
    unfold held
    rw [held_put_out X r n (by omega)]
    have : put X r n = X n := by simp [put]; intro e; omega
    rw [this]

theorem held_put (X : Nat → Bool) (r : Nat) (hr : X r = false) : ∀ n, r < n → held (put X r) n = held X n + 1
  | 0, h => by omega
  | n + 1, h => by
    unfold held
    by_cases e : r = n
    · subst e
      rw [held_put_out X r r (Nat.le_refl _), put_same]
      simp [hr]
    · rw [held_put X r hr n (by omega)]
      have : put X r n = X n := by simp [put]; intro e'; omega
      rw [this]
      split <;> omega

/-! ### Counters and waiting lists -/

/-- What a rule waits on, in the order in which it is asked. -/
def need (adm : Option (Nat → Bool)) (r : Rule) : List Nat :=
  match adm with
  | none => r.ad :: r.req
  | some _ => r.req

def active (adm : Option (Nat → Bool)) (r : Rule) : Bool :=
  match adm with
  | none => true
  | some A => A r.ad

theorem enabled_iff (adm : Option (Nat → Bool)) (X : Nat → Bool) (r : Rule) : enabled adm X r = true ↔ active adm r = true ∧ ∀ x, x ∈ need adm r → X x = true := by
  cases adm with
  | none => simp [enabled, admOk, active, need]
  | some A => simp [enabled, admOk, active, need]

/-- How many of a list's roles are not held. -/
def unmet (X : Nat → Bool) (l : List Nat) : Nat := (l.filter fun x => !X x).length

theorem unmet_zero {X : Nat → Bool} {l : List Nat} (h : unmet X l = 0) : ∀ x, x ∈ l → X x = true := by
  intro x hx
  unfold unmet at h
  have := List.eq_nil_of_length_eq_zero h
  rw [List.filter_eq_nil_iff] at this
  have := this x hx
  simpa using this

theorem unmet_of_all {X : Nat → Bool} {l : List Nat} (h : ∀ x, x ∈ l → X x = true) : unmet X l = 0 := by
  unfold unmet
  rw [List.filter_eq_nil_iff.2 (fun x hx => by simp [h x hx])]
  rfl

theorem unmet_append (X : Nat → Bool) (l m : List Nat) : unmet X (l ++ m) = unmet X l + unmet X m := by
  simp [unmet, List.filter_append]

theorem unmet_le (X : Nat → Bool) (l : List Nat) : unmet X l ≤ l.length := List.length_filter_le _ _

theorem unmet_put (X : Nat → Bool) (r : Nat) (hr : X r = false) : ∀ l : List Nat, unmet (put X r) l + l.count r = unmet X l
  | [] => rfl
  | x :: l => by
    have ih := unmet_put X r hr l
    unfold unmet at ih ⊢
    rw [List.count_cons]
    by_cases e : x = r
    · subst e
      simp only [List.filter_cons, put_same, hr, beq_self_eq_true]
      simp
      omega
    · have e2 : put X r x = X x := by simp [put, e]
      have e3 : (x == r) = false := by simpa using e
      simp only [List.filter_cons, e2, e3]
      cases X x <;> simp <;> omega

theorem count_le_unmet (X : Nat → Bool) (r : Nat) (hr : X r = false) (l : List Nat) : l.count r ≤ unmet X l := by
  have := unmet_put X r hr l
  omega

/-- THE COUNTERS AND LISTS, as far as they are built: 'pr i': the roles that rule i has asked for so far. -/
structure Built (H : Nat → Bool) (R : Nat) (pr : Nat → List Nat) (u : Nat → Nat) (wl : Nat → List Nat) : Prop where
  cnt : ∀ i, u i = unmet H (pr i)
  lst : ∀ r i, (wl r).count i = if H r = true then 0 else (pr i).count r
  lt : ∀ r i, i ∈ wl r → i < R

def upd {α : Type} (f : Nat → α) (i : Nat) (v : α) : Nat → α := fun j => if j = i then v else f j

theorem upd_same {α : Type} (f : Nat → α) (i : Nat) (v : α) : upd f i v i = v := by simp [upd]
theorem upd_other {α : Type} (f : Nat → α) {i j : Nat} (v : α) (h : j ≠ i) : upd f i v j = f j := by simp [upd, h]

theorem Built.start (H : Nat → Bool) (R : Nat) : Built H R (fun _ => []) (fun _ => 0) (fun _ => []) :=
  ⟨fun _ => rfl, fun r i => by simp, fun r i h => by simp at h⟩

/-- A role that is held is not waited on. -/
theorem Built.askHeld {H : Nat → Bool} {R : Nat} {pr : Nat → List Nat} {u : Nat → Nat} {wl : Nat → List Nat} (h : Built H R pr u wl) (i r : Nat) (hr : H r = true) :
    Built H R (upd pr i (pr i ++ [r])) u wl := by
  refine ⟨fun j => ?_, fun q j => ?_, h.lt⟩
  · by_cases e : j = i
    · subst e
      rw [upd_same, unmet_append, h.cnt]
      simp [unmet, hr]
    · rw [upd_other _ _ e, h.cnt]
  · rw [h.lst]
    by_cases hq : H q = true
    · simp [hq]
    · simp only [hq]
      by_cases e : j = i
      · subst e
        rw [upd_same, List.count_append]
        have : r ≠ q := by intro e; subst e; exact hq hr
        simp [this]
      · rw [upd_other _ _ e]

/-- A role that is not held is counted and listed. -/
theorem Built.askNew {H : Nat → Bool} {R : Nat} {pr : Nat → List Nat} {u : Nat → Nat} {wl : Nat → List Nat} (h : Built H R pr u wl) (i r : Nat) (hi : i < R) (hr : H r = false) :
    Built H R (upd pr i (pr i ++ [r])) (upd u i (u i + 1)) (upd wl r (wl r ++ [i])) := by
  refine ⟨fun j => ?_, fun q j => ?_, fun q j hj => ?_⟩
  · by_cases e : j = i
    · subst e
      rw [upd_same, upd_same, unmet_append, h.cnt]
      simp [unmet, hr]
    · rw [upd_other _ _ e, upd_other _ _ e, h.cnt]
  · by_cases eq : q = r
    · subst eq
      rw [upd_same, List.count_append, h.lst]
      simp only [hr]
      by_cases e : j = i
      · subst e
        rw [upd_same, List.count_append]
        simp
      · rw [upd_other _ _ e]
        have : i ≠ j := fun e' => e e'.symm
        simp [this]
    · rw [upd_other _ _ eq, h.lst]
      by_cases hq : H q = true
      · simp [hq]
      · simp only [hq]
        by_cases e : j = i
        · subst e
          rw [upd_same, List.count_append]
          have : r ≠ q := fun e' => eq e'.symm
          simp [this]
        · rw [upd_other _ _ e]
  · by_cases eq : q = r
    · subst eq
      rw [upd_same, List.mem_append] at hj
      rcases hj with hj | hj
      · exact h.lt q j hj
      · simp at hj; omega
    · rw [upd_other _ _ eq] at hj
      exact h.lt q j hj

/-- How many of the first R counters are not nought. -/
def busy (u : Nat → Nat) : Nat → Nat
  | 0 => 0
  | R + 1 => busy u R + (if 0 < u R then 1 else 0)

theorem busy_le (u : Nat → Nat) : ∀ R, busy u R ≤ R
  | 0 => Nat.le_refl _
  | R + 1 => by have := busy_le u R; unfold busy; split <;> omega

theorem busy_congr {u v : Nat → Nat} : ∀ R, (∀ i, i < R → (0 < u i ↔ 0 < v i)) → busy u R = busy v R
  | 0, _ => rfl
  | R + 1, h => by
    unfold busy
    rw [busy_congr R (fun i hi => h i (by omega))]
    by_cases e : 0 < u R
    · rw [if_pos e, if_pos ((h R (by omega)).1 e)]
    · rw [if_neg e, if_neg (fun e' => e ((h R (by omega)).2 e'))]

theorem busy_drop {u : Nat → Nat} {i : Nat} (h0 : 0 < u i) : ∀ R, i < R → busy (upd u i 0) R + 1 = busy u R
  | 0, h => by omega
  | R + 1, h => by
    unfold busy
    by_cases e : i = R
    · subst e
      rw [upd_same, if_neg (by omega), if_pos h0, busy_congr i (fun j hj => by rw [upd_other _ _ (by omega)])]
    · have := busy_drop (u := u) h0 R (by omega)
      rw [upd_other _ _ (fun e' => e e'.symm)]
      omega

/-- A rule that is ready: in the list, or what it gives is held. -/
structure Run (n : Nat) (adm : Option (Nat → Bool)) (rule : Nat → Rule) (R : Nat) (H X : Nat → Bool) (pr : Nat → List Nat) (u : Nat → Nat) (ready : List Nat) : Prop where
  cnt : ∀ i, i < R → u i = unmet X (pr i)
  full : ∀ i, i < R → active adm (rule i) = true → pr i = need adm (rule i)
  idle : ∀ i, i < R → active adm (rule i) = false → pr i = []
  open_ : ∀ i, i < R → active adm (rule i) = true → u i = 0 → X (rule i).ro = true ∨ i ∈ ready
  here : ∀ i, i ∈ ready → i < R ∧ active adm (rule i) = true ∧ u i = 0
  sup : Sup n H X
  reached : Reached n adm rule R H X

/-- NOTHING IS READY: the least closed superset is there. -/
theorem Run.done {n : Nat} {adm : Option (Nat → Bool)} {rule : Nat → Rule} {R : Nat} {H X : Nat → Bool} {pr : Nat → List Nat} {u : Nat → Nat} (h : Run n adm rule R H X pr u []) : IsLfp n adm rule R H X := by
  refine ⟨h.sup, ?_, h.reached⟩
  intro i hi he
  rw [enabled_iff] at he
  have hu : u i = 0 := by rw [h.cnt i hi, h.full i hi he.1]; exact unmet_of_all he.2
  rcases h.open_ i hi he.1 hu with h1 | h1
  · exact h1
  · simp at h1

/-- A rule whose role is held already is dropped. -/
theorem Run.drop {n : Nat} {adm : Option (Nat → Bool)} {rule : Nat → Rule} {R : Nat} {H X : Nat → Bool} {pr : Nat → List Nat} {u : Nat → Nat} {ready : List Nat} {i : Nat} (h : Run n adm rule R H X pr u (ready ++ [i])) (hX : X (rule i).ro = true) : Run n adm rule R H X pr u ready := by
  refine ⟨h.cnt, h.full, h.idle, fun j hj ha hu => ?_, fun j hj => h.here j (List.mem_append_left _ hj), h.sup, h.reached⟩
  rcases h.open_ j hj ha hu with h1 | h1
  · exact .inl h1
  · rw [List.mem_append] at h1
    rcases h1 with h1 | h1
    · exact .inr h1
    · simp at h1; subst h1; exact .inl hX

/-- WHILE A ROLE's WAITING LIST IS WORKED OFF: 'l' is what is left of it. -/
structure Mid (n : Nat) (adm : Option (Nat → Bool)) (rule : Nat → Rule) (R : Nat) (H X : Nat → Bool) (pr : Nat → List Nat) (u : Nat → Nat) (ready : List Nat) (l : List Nat) : Prop where
  cnt : ∀ i, i < R → u i = unmet X (pr i) + l.count i
  full : ∀ i, i < R → active adm (rule i) = true → pr i = need adm (rule i)
  idle : ∀ i, i < R → active adm (rule i) = false → pr i = []
  asks : ∀ i, i ∈ l → i < R ∧ active adm (rule i) = true
  open_ : ∀ i, i < R → active adm (rule i) = true → u i = 0 → X (rule i).ro = true ∨ i ∈ ready
  here : ∀ i, i ∈ ready → i < R ∧ active adm (rule i) = true ∧ u i = 0
  sup : Sup n H X
  reached : Reached n adm rule R H X

/-- A ready rule fires: its role is held from now on, and its waiting list is to be worked off. -/
theorem Run.fire {n : Nat} {adm : Option (Nat → Bool)} {rule : Nat → Rule} {R : Nat} {H X : Nat → Bool} {pr : Nat → List Nat} {u : Nat → Nat} {ready : List Nat} {i : Nat} {l : List Nat}
    (h : Run n adm rule R H X pr u (ready ++ [i])) (hr : InRange n rule R) (hX : X (rule i).ro = false)
    (hl : ∀ j, l.count j = (pr j).count (rule i).ro) (hlt : ∀ j, j ∈ l → j < R) : Mid n adm rule R H (put X (rule i).ro) pr u ready l := by
  obtain ⟨hi, ha, hu⟩ := h.here i (by simp)
  have he : enabled adm X (rule i) = true := by
    rw [enabled_iff]
    refine ⟨ha, ?_⟩
    have := h.cnt i hi
    rw [hu, h.full i hi ha] at this
    exact unmet_zero this.symm
  refine ⟨fun j hj => ?_, h.full, h.idle, fun j hj => ⟨hlt j hj, ?_⟩, fun j hj hja hju => ?_, fun j hj => h.here j (List.mem_append_left _ hj), h.sup.trans (put_sup n X _), h.reached.fire hr hi he⟩
  · rw [h.cnt j hj, hl]
    exact (unmet_put X _ hX (pr j)).symm
  · cases hact : active adm (rule j) with
    | true => rfl
    | false =>
      have h1 := h.idle j (hlt j hj) hact
      have h2 := hl j
      rw [h1] at h2
      simp at h2
      exact absurd hj (List.count_eq_zero.1 h2)
  · rcases h.open_ j hj hja hju with h1 | h1
    · exact .inl (put_sup n X _ _ (hr j hj).2.1 h1)
    · rw [List.mem_append] at h1
      rcases h1 with h1 | h1
      · exact .inr h1
      · simp at h1; subst h1; exact .inl (put_same X _)

/-- One more of the list: its counter goes down and is not nought yet. -/
theorem Mid.step {n : Nat} {adm : Option (Nat → Bool)} {rule : Nat → Rule} {R : Nat} {H X : Nat → Bool} {pr : Nat → List Nat} {u : Nat → Nat} {ready l : List Nat} {i : Nat}
    (h : Mid n adm rule R H X pr u ready (i :: l)) (h0 : u i - 1 ≠ 0) : Mid n adm rule R H X pr (upd u i (u i - 1)) ready l := by
  have hi := h.asks i (by simp)
  refine ⟨fun j hj => ?_, h.full, h.idle, fun j hj => h.asks j (List.mem_cons_of_mem _ hj), fun j hj ha hu => ?_, fun j hj => ?_, h.sup, h.reached⟩
  · have := h.cnt j hj
    rw [List.count_cons] at this
    by_cases e : j = i
    · subst e
      rw [upd_same]
      simp at this
      omega
    · rw [upd_other _ _ e]
      have e' : (i == j) = false := by simpa using fun e' => e e'.symm
      simp [e'] at this
      exact this
  · by_cases e : j = i
    · subst e
      rw [upd_same] at hu
      exact absurd hu h0
    · rw [upd_other _ _ e] at hu
      exact h.open_ j hj ha hu
  · obtain ⟨h1, h2, h3⟩ := h.here j hj
    refine ⟨h1, h2, ?_⟩
    by_cases e : j = i
    · subst e
      omega
    · rw [upd_other _ _ e]; exact h3

/-- One more of the list: its counter comes to nought: it is ready. -/
theorem Mid.push {n : Nat} {adm : Option (Nat → Bool)} {rule : Nat → Rule} {R : Nat} {H X : Nat → Bool} {pr : Nat → List Nat} {u : Nat → Nat} {ready l : List Nat} {i : Nat}
    (h : Mid n adm rule R H X pr u ready (i :: l)) (h0 : u i - 1 = 0) : Mid n adm rule R H X pr (upd u i 0) (ready ++ [i]) l := by
  have hi := h.asks i (by simp)
  have hpos : 0 < u i := by
    have := h.cnt i hi.1
    rw [List.count_cons] at this
    simp at this
    omega
  refine ⟨fun j hj => ?_, h.full, h.idle, fun j hj => h.asks j (List.mem_cons_of_mem _ hj), fun j hj ha hu => ?_, fun j hj => ?_, h.sup, h.reached⟩
  · have := h.cnt j hj
    rw [List.count_cons] at this
    by_cases e : j = i
    · subst e
      rw [upd_same]
      simp at this
      omega
    · rw [upd_other _ _ e]
      have e' : (i == j) = false := by simpa using fun e' => e e'.symm
      simp [e'] at this
      exact this
  · by_cases e : j = i
    · subst e
      exact .inr (by simp)
    · rw [upd_other _ _ e] at hu
      rcases h.open_ j hj ha hu with h1 | h1
      · exact .inl h1
      · exact .inr (List.mem_append_left _ h1)
  · rw [List.mem_append] at hj
    rcases hj with hj | hj
    · obtain ⟨h1, h2, h3⟩ := h.here j hj
      refine ⟨h1, h2, ?_⟩
      by_cases e : j = i
      · subst e; rw [upd_same]
      · rw [upd_other _ _ e]; exact h3
    · simp at hj
      subst hj
      exact ⟨hi.1, hi.2, upd_same _ _ _⟩

theorem Mid.pos {n : Nat} {adm : Option (Nat → Bool)} {rule : Nat → Rule} {R : Nat} {H X : Nat → Bool} {pr : Nat → List Nat} {u : Nat → Nat} {ready l : List Nat} {i : Nat}
    (h : Mid n adm rule R H X pr u ready (i :: l)) : 0 < u i ∧ i < R := by
  have hi := h.asks i (by simp)
  have := h.cnt i hi.1
  rw [List.count_cons] at this
  simp at this
  exact ⟨by omega, hi.1⟩

theorem Mid.done {n : Nat} {adm : Option (Nat → Bool)} {rule : Nat → Rule} {R : Nat} {H X : Nat → Bool} {pr : Nat → List Nat} {u : Nat → Nat} {ready : List Nat}
    (h : Mid n adm rule R H X pr u ready []) : Run n adm rule R H X pr u ready :=
  ⟨fun i hi => by have := h.cnt i hi; simpa using this, h.full, h.idle, h.open_, h.here, h.sup, h.reached⟩
end Go.Proofs.Qxb6605479a.Plain
