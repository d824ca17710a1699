/-
  WHAT keepRoles NEEDS: the new numbers, the rows that it brings, the rules with their preconditions.
-/
import Derived.Test.Qxb6605479aKept
import Derived.Deep.RegionHeldLaw
namespace Go.Proofs.Qxb6605479a
open Go.RowKit

theorem own_ne {P : Nat → Prop} {w1 wr : World} {B j e s m : Nat} {bf : Nat → Value} {v : Value} {xs : List Value} (h : Ph P w1 wr B j bf e s v m xs) {b : Nat} (hb : b < w1.heap.size) : v.ownBlock ≠ some b := fun e => by have := (h.own.lt b e).1; omega

theorem Ph.boxIn {P : Nat → Prop} {w1 wr w2 : World} {B j e s m : Nat} {bf : Nat → Value} {v : Value} {xs : List Value} (h : Ph P w1 wr B j bf e s v m xs) (hg : wr.grownBy w2 v.ownBlock) : w2.rowIs B 62 6 (fun i => if i = j then v else bf i) :=
  h.box.of_block (hg.block B h.box.lt (fun e => by have := (h.own.lt B e.symm).1; have := h.lt; omega))

/-- A role's new number. -/
def num (M : Nat → Bool) (x : Nat) : Nat := if M x = true then cnt M x else 0

/-- The new numbers' row, the first k told. -/
def Ren (w : World) (b n : Nat) (M : Nat → Bool) (k : Nat) : Prop := ∃ f, w.rowIs b 3 n f ∧ (∀ i, i < k → f i = .int .i64 (num M i : Int)) ∧ ∀ i, k ≤ i → i < n → f i = .int .i64 0

theorem Ren.of_block {w w' : World} {b n : Nat} {M : Nat → Bool} {k : Nat} (h : Ren w b n M k) (e : w'.heap[b]? = w.heap[b]?) : Ren w' b n M k := by
  obtain ⟨f, h1, h2, h3⟩ := h
  exact ⟨f, h1.of_block e, h2, h3⟩
theorem Ren.lt {w : World} {b n : Nat} {M : Nat → Bool} {k : Nat} (h : Ren w b n M k) : b < w.heap.size := by
  obtain ⟨f, h1, _⟩ := h
  exact h1.lt
theorem Ren.skip {w : World} {b n : Nat} {M : Nat → Bool} {k : Nat} (h : Ren w b n M k) (hk : k < n) (hm : M k = false) : Ren w b n M (k + 1) := by
  obtain ⟨f, h1, h2, h3⟩ := h
  refine ⟨f, h1, fun i hi => ?_, fun i hi => h3 i (by omega)⟩
  by_cases e : i = k
  · subst e
    rw [h3 i (Nat.le_refl _) hk, num, if_neg (by rw [hm]; decide)]
    rfl
  · exact h2 i (by omega)
theorem Ren.put {w : World} {b n : Nat} {M : Nat → Bool} {k : Nat} (h : Ren w b n M k) (hm : M k = true) : Ren (w.setCell ⟨b, k, none⟩ (.int .i64 (cnt M k : Int))) b n M (k + 1) := by
  obtain ⟨f, h1, h2, h3⟩ := h
  refine ⟨_, h1.set _ _, fun i hi => ?_, fun i hi hn => ?_⟩
  · by_cases e : i = k
    · subst e
      simp [num, hm]
    · simp only [e, if_false]
      exact h2 i (by omega)
  · have e : i ≠ k := by omega
    simp only [e, if_false]
    exact h3 i (by omega) hn

theorem ren_start (w : World) (b n : Nat) (M : Nat → Bool) (hb : w.heap.size = b) : Ren (w.alloc (.cells (zrow (.int .i64 0) n) 3)) b n M 0 := by
  subst hb
  exact ⟨_, World.rowIs_made w (.int .i64 0) n 3, fun i hi => by omega, fun _ _ _ => rfl⟩

/-- Is its role kept? -/
def kp (M : Nat → Bool) (Y : Nat → Int) (i : Nat) : Bool := M (Y i).toNat
/-- What an assignment brings. -/
def uaRow (M : Nat → Bool) (X Y : Nat → Int) (i : Nat) : List Value := [.int .i64 (X i), .int .i64 (num M (Y i).toNat : Int)]
theorem uaRow_at {M : Nat → Bool} {X Y : Nat → Int} {i y : Nat} (h : (Y i).toNat = y) : uaRow M X Y i = [.int .i64 (X i), .int .i64 (num M y : Int)] := by rw [uaRow, h]
/-- What a rule on revoking brings. -/
def crRow (M : Nat → Bool) (A R : Nat → Int) (i : Nat) : List Value := [.int .i64 (num M (A i).toNat : Int), .int .i64 (num M (R i).toNat : Int)]
theorem crRow_at {M : Nat → Bool} {A R : Nat → Int} {i x y : Nat} (hx : (A i).toNat = x) (h : (R i).toNat = y) : crRow M A R i = [.int .i64 (num M x : Int), .int .i64 (num M y : Int)] := by rw [crRow, h, hx]

/-- The box as it begins. -/
def box0 (us : Value) : Array Value := #[.slice none 0 0, us, .slice none 0 0, .slice none 0 0, .slice none 0 0, .int .i64 0]
def boxf (us : Value) (i : Nat) : Value := (box0 us)[i]?.getD default

theorem box_made (w : World) (us : Value) : (w.alloc (.cells (box0 us) 62)).rowIs w.heap.size 62 6 (boxf us) :=
  World.rowIs_alloc w (box0 us) 62 (boxf us) (fun i hi => by simp [boxf, hi])

theorem next_own {w2 wr : World} {B j e s m : Nat} {bf : Nat → Value} {v : Value} {xs : List Value} (hp : Ph (fun b => b = B) w2 wr B j bf e s v m xs) {base e' s' n' : Nat} {v' : Value} {xs' : List Value} (h : w2.ownsRow base e' s' v' n' xs') (hB : B < base) : wr.ownsRow base e' s' v' n' xs' :=
  hp.kept.owns h (fun g hg e => by have := (h.lt g hg).1; have e' : g = B := e; omega)

/-- What a rule on assigning brings; pb: where each precondition's literals lie. -/
def caRow (M : Nat → Bool) (c : CA) (pb : Nat → Nat) (i : Nat) : List Value := [.int .i64 (num M (c.ad i).toNat : Int), .slice (some ⟨pb i, 0, none⟩) (c.pl i) (c.pl i), .int .i64 (num M (c.ro i).toNat : Int)]
/-- A literal's new number. -/
def lrN (M : Nat → Bool) (c : CA) (i t : Nat) : Int := (num M (c.lr i t).toNat : Int)

theorem pick_congr {p : Nat → Bool} {f g : Nat → List Value} : ∀ k, (∀ i, i < k → f i = g i) → pick p f k = pick p g k
  | 0, _ => rfl
  | k + 1, h => by
    show pick p f k ++ _ = pick p g k ++ _
    rw [pick_congr k (fun i hi => h i (by omega)), h k (by omega)]

theorem LitsIs.start (w : World) (z : Value) (m lt : Nat) (lr : Nat → Int) (ln : Nat → Bool) : LitsIs (w.alloc (.cells (zrow z (m * 2)) lt)) w.heap.size lt m lr ln 0 := by
  obtain ⟨g, hg⟩ := row_made w z (m * 2) lt
  exact ⟨g, hg, fun i hi => by omega⟩
theorem LitsIs.cells {w : World} {b lt m : Nat} {lr : Nat → Int} {ln : Nat → Bool} (h : LitsIs w b lt m lr ln m) (t : Nat) (ht : t < m) : w.cell? ⟨b, t * 2, none⟩ = some (.int .i64 (lr t)) ∧ w.cell? ⟨b, t * 2 + 1, none⟩ = some (.bool (ln t)) := by
  obtain ⟨g, hg, hx⟩ := h
  have h1 := hg.cell (i := t * 2) (by omega)
  have h2 := hg.cell (i := t * 2 + 1) (by omega)
  rw [(hx t ht).1] at h1
  rw [(hx t ht).2] at h2
  exact ⟨h1, h2⟩

theorem Ph.below {P : Nat → Prop} {w1 wr wi : World} {B j e s m : Nat} {bf : Nat → Value} {v : Value} {xs : List Value} (h : Ph P w1 wr B j bf e s v m xs) (hb : Below wr.heap.size wr wi) : Ph P w1 wi B j bf e s v m xs :=
  ⟨h.box.of_block (hb.block _ h.box.lt), ownsRow_of_block h.own (fun g hg => hb.block g (h.own.lt g hg).2), ⟨hb.os.trans h.kept.os, hb.tape.trans h.kept.tape, hb.output.trans h.kept.output, Nat.le_trans h.kept.size hb.size, fun b hb1 hP => (hb.block b (Nat.lt_of_lt_of_le hb1 h.kept.size)).trans (h.kept.block b hb1 hP)⟩, h.nl, h.lt, h.may⟩

/-- THE RULES THAT ARE APPENDED, with their preconditions' rows. -/
structure PhC (w1 wr : World) (B : Nat) (bf : Nat → Value) (M : Nat → Bool) (c : CA) (k : Nat) (v : Value) (pb : Nat → Nat) : Prop where
  ph : Ph (fun b => b = B) w1 wr B 4 bf 72 3 v (cnt (kp M c.ro) k) (pick (kp M c.ro) (caRow M c pb) k)
  pre : ∀ i, i < k → kp M c.ro i = true → w1.heap.size ≤ pb i ∧ v.ownBlock ≠ some (pb i) ∧ LitsIs wr (pb i) 73 (c.pl i) (lrN M c i) (c.ln i) (c.pl i)

section
variable {w1 wr wi w2 : World} {B : Nat} {bf : Nat → Value} {M : Nat → Bool} {c : CA} {k : Nat} {v : Value} {pb : Nat → Nat}
theorem PhC.start (hb : w1.rowIs B 62 6 bf) (hj : bf 4 = .slice none 0 0) : PhC w1 w1 B bf M c 0 (.slice none 0 0) pb := ⟨Ph.start hb hj rfl, fun i hi => by omega⟩
theorem PhC.below (h : PhC w1 wr B bf M c k v pb) (hb : Below wr.heap.size wr wi) : PhC w1 wi B bf M c k v pb :=
  ⟨h.ph.below hb, fun i hi hk => ⟨(h.pre i hi hk).1, (h.pre i hi hk).2.1, (h.pre i hi hk).2.2.of_block (hb.block _ (h.pre i hi hk).2.2.lt)⟩⟩
theorem PhC.alloc (h : PhC w1 wr B bf M c k v pb) (o : Obj) : PhC w1 (wr.alloc o) B bf M c k v pb := h.below ((Below.refl _ _).alloc (Nat.le_refl _) o)
theorem PhC.drew (h : PhC w1 wr B bf M c k v pb) : PhC w1 wr.drew B bf M c k v pb := h.below (Below.refl _ _).drew
theorem PhC.skip (h : PhC w1 wr B bf M c k v pb) (hk : kp M c.ro k = false) : PhC w1 wr B bf M c (k + 1) v pb := by
  refine ⟨by rw [cnt_neg hk, pick_neg hk]; exact h.ph, fun i hi hp => h.pre i ?_ hp⟩
  by_cases e : i = k
  · subst e
    rw [hk] at hp
    cases hp
  · omega
theorem PhC.push (h : PhC w1 wr B bf M c k v pb) (hk : kp M c.ro k = true) {nb : Nat} (hnb : w1.heap.size ≤ nb) (hne : v.ownBlock ≠ some nb) (hl : LitsIs wr nb 73 (c.pl k) (lrN M c k) (c.ln k) (c.pl k)) {x y : Nat} (hx : (c.ad k).toNat = x) (hy : (c.ro k).toNat = y) {g cap : Nat}
    (hown : w2.ownsRow w1.heap.size 72 3 (.slice (some ⟨g, 0, none⟩) (cnt (kp M c.ro) k + 1) cap) (cnt (kp M c.ro) k + 1) (pick (kp M c.ro) (caRow M c pb) k ++ [.int .i64 (num M x : Int), .slice (some ⟨nb, 0, none⟩) (c.pl k) (c.pl k), .int .i64 (num M y : Int)]))
    (hgrow : wr.grownBy w2 v.ownBlock) {H : Nat} (hat : v.ownBlock = some g ∨ g = H) (hH : wr.heap.size ≤ H) :
    PhC w1 (w2.setCell ⟨B, 4, none⟩ (.slice (some ⟨g, 0, none⟩) (cnt (kp M c.ro) k + 1) cap)) B bf M c (k + 1) (.slice (some ⟨g, 0, none⟩) (cnt (kp M c.ro) k + 1) cap) (fun i => if i = k then nb else pb i) := by
  have hlt := h.ph.lt
  have hks := h.ph.kept.size
  have e1 : pick (kp M c.ro) (caRow M c (fun i => if i = k then nb else pb i)) k = pick (kp M c.ro) (caRow M c pb) k := pick_congr k (fun i hi => by simp [caRow, (show i ≠ k by omega)])
  have e2 : caRow M c (fun i => if i = k then nb else pb i) k = [.int .i64 (num M x : Int), .slice (some ⟨nb, 0, none⟩) (c.pl k) (c.pl k), .int .i64 (num M y : Int)] := by simp [caRow, hx, hy]
  refine ⟨by rw [cnt_pos hk, pick_pos hk, e1, e2]; exact h.ph.push hown hgrow (h.ph.le hat (by omega)), fun i hi hp => ?_⟩
  have fin : ∀ b, w1.heap.size ≤ b → v.ownBlock ≠ some b → b < wr.heap.size → (Value.slice (some ⟨g, 0, none⟩) (cnt (kp M c.ro) k + 1) cap).ownBlock ≠ some b ∧ (w2.setCell ⟨B, 4, none⟩ (.slice (some ⟨g, 0, none⟩) (cnt (kp M c.ro) k + 1) cap)).heap[b]? = wr.heap[b]? := fun b h1 h2 h3 => by
    refine ⟨fun e => ?_, ?_⟩
    · have e' : g = b := by simpa [Value.ownBlock] using e
      rcases hat with h4 | h4
      · exact h2 (by rw [h4, e'])
      · omega
    · rw [Below.heap_setCell _ _ _ _ (by show b ≠ B; omega)]
      exact hgrow.block b h3 (fun e => h2 e.symm)
  by_cases e : i = k
  · subst e
    simp only [if_true]
    exact ⟨hnb, (fin nb hnb hne hl.lt).1, hl.of_block (fin nb hnb hne hl.lt).2⟩
  · simp only [e, if_false]
    obtain ⟨p1, p2, p3⟩ := h.pre i (by omega) hp
    exact ⟨p1, (fin _ p1 p2 p3.lt).1, p3.of_block (fin _ p1 p2 p3.lt).2⟩
end

/-- WHAT keepRoles HANDS BACK: the box, block w.heap.size. -/
def KOut (w w' : World) (n : Nat) (S : Nat → ByteArray) (us : Value) (M : Nat → Bool) (un : Nat) (X Y : Nat → Int) (goal : Nat) (c : CA) (kn : Nat) (A R : Nat → Int) : Prop :=
  Below w.heap.size w w' ∧ ∃ bf : Nat → Value, w'.rowIs w.heap.size 62 6 bf ∧ bf 1 = us ∧ bf 5 = .int .i64 (num M goal : Int) ∧
    (∃ base, w'.ownsRow base 9 1 (bf 0) (cnt M n) (pick M (fun i => [.string (S i)]) n) ∧ (cnt M n = 0 → bf 0 = .slice none 0 0)) ∧
    (∃ base, w'.ownsRow base 68 2 (bf 2) (cnt (kp M Y) un) (pick (kp M Y) (uaRow M X Y) un) ∧ (cnt (kp M Y) un = 0 → bf 2 = .slice none 0 0)) ∧
    (∃ base, w'.ownsRow base 69 2 (bf 3) (cnt (kp M R) kn) (pick (kp M R) (crRow M A R) kn) ∧ (cnt (kp M R) kn = 0 → bf 3 = .slice none 0 0)) ∧
    (∃ pb base, w'.ownsRow base 72 3 (bf 4) (cnt (kp M c.ro) c.n) (pick (kp M c.ro) (caRow M c pb) c.n) ∧ (cnt (kp M c.ro) c.n = 0 → bf 4 = .slice none 0 0) ∧
      ∀ i, i < c.n → kp M c.ro i = true → LitsIs w' (pb i) 73 (c.pl i) (lrN M c i) (c.ln i) (c.pl i))

/-- WHAT keepRoles IS CALLED WITH. -/
structure KIn (w : World) (pb : Nat) (ra : Option Addr) (rb ro n rcap : Nat) (S : Nat → ByteArray) (us : Value) (ma : Option Addr) (mb mo mcap : Nat) (M : Nat → Bool) (ua : Option Addr) (ub uo un ucap : Nat) (X Y : Nat → Int) (goal : Nat) (fa : Option Addr) (fb fo fcap : Nat) (c : CA) (ka : Option Addr) (kb ko kn kcap : Nat) (A R : Nat → Int) : Prop where
  p0 : w.cell? ⟨pb, 0, none⟩ = some (.slice ra n rcap)
  p1 : w.cell? ⟨pb, 1, none⟩ = some us
  p2 : w.cell? ⟨pb, 2, none⟩ = some (.slice ua un ucap)
  p5 : w.cell? ⟨pb, 5, none⟩ = some (.int .i64 (goal : Int))
  rA : 0 < n → ra = some ⟨rb, ro, none⟩
  rv : Sv w rb ro n S
  mA : 0 < n → ma = some ⟨mb, mo, none⟩
  mv : Bv w mb mo n M
  uA : 0 < un → ua = some ⟨ub, uo, none⟩
  uv : Pv w ub uo un X Y
  ur : ∀ i, i < un → 0 ≤ Y i ∧ Y i < n
  fA : 0 < c.n → fa = some ⟨fb, fo, none⟩
  fv : CAv w fb fo c
  fr : CAin c n
  kA : 0 < kn → ka = some ⟨kb, ko, none⟩
  kv : Pv w kb ko kn A R
  kr : ∀ i, i < kn → (0 ≤ A i ∧ A i < n) ∧ 0 ≤ R i ∧ R i < n
  hg : goal < n
  hn : n ≤ 65536
  hun : un ≤ 65536
  hkn : kn ≤ 65536
  hcn : c.n ≤ 65536
  hpl : ∀ i, i < c.n → c.pl i ≤ 1048576
  uo1 : ∃ a l k, us = .slice a l k

end Go.Proofs.Qxb6605479a
