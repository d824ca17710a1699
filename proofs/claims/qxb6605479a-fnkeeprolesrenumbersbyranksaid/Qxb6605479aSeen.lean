/-
  WHAT THE LAW SEES of keepRoles' answer, cell by cell; and of the copies of rules.
-/
import Derived.Test.Qxb6605479aRules
namespace Go.Proofs.Qxb6605479a
open Go.RowKit

theorem SaysCA.seen {w w' : World} {t lt : Nat} {a : Option Addr} {c : CA} {e : Ending} (h : SaysCA w w' t lt a c e) (hnil : a = none → c.n = 0) (hl : ∀ i, i < c.n → c.pa i = none → c.pl i = 0) :
    ∃ a1 cap1, e = .returned (.slice a1 c.n cap1) ∧ (0 < c.n → a1 = some ⟨w.heap.size, 0, none⟩) ∧ (a1 = none → c.n = 0 ∧ cap1 = 0) ∧ CAv w' w.heap.size 0 (c.moved w.heap.size) ∧ Below w.heap.size w w' := by
  rcases h with ⟨rfl, rfl, rfl⟩ | ⟨_, rfl, hc⟩
  · have h0 := hnil rfl
    refine ⟨none, 0, by rw [h0], fun h => by omega, fun _ => ⟨h0, rfl⟩, ?_, Below.refl _ _⟩
    have hz : ∀ i, i < (c.moved w.heap.size).n → False := fun i hi => by have : i < c.n := hi; omega
    exact ⟨fun i hi => (hz i hi).elim, fun i hi => (hz i hi).elim, fun i hi => (hz i hi).elim, fun i hi => (hz i hi).elim, fun i hi => (hz i hi).elim, fun i hi => (hz i hi).elim, fun i hi => (hz i hi).elim⟩
  · exact ⟨_, _, rfl, fun _ => rfl, (fun h => by cases h), hc.view hl, hc.below⟩

/-- A list that the kept ones of p were appended to, each of size s: the slice, where it lies. -/
structure Lv (w : World) (ob j : Nat) (p : Nat → Bool) (n s : Nat) (f : Nat → List Value) (a : Option Addr) (g cap : Nat) : Prop where
  c : w.cell? ⟨ob, j, none⟩ = some (.slice a (cnt p n) cap)
  z : a.isNone = decide (cnt p n = 0)
  A : 0 < cnt p n → a = some ⟨g, 0, none⟩
  get : ∀ i, i < n → p i = true → ∀ q u, q < s → (f i)[q]? = some u → w.cell? ⟨g, cnt p i * s + q, none⟩ = some u

theorem Lv.below {w w' : World} {ob j : Nat} {p : Nat → Bool} {n s : Nat} {f : Nat → List Value} {a : Option Addr} {g cap : Nat} (h : Lv w ob j p n s f a g cap) (hb : Below w.heap.size w w') : Lv w' ob j p n s f a g cap :=
  ⟨cell_below hb h.c, h.z, h.A, fun i hi hp q u hq hu => cell_below hb (h.get i hi hp q u hq hu)⟩

theorem Lv.of_own {w : World} {ob j e s base n : Nat} {bf : Nat → Value} {p : Nat → Bool} {f : Nat → List Value} (hb : w.rowIs ob 62 6 bf) (hj : j < 6) (ho : w.ownsRow base e s (bf j) (cnt p n) (pick p f n)) (hnl : cnt p n = 0 → bf j = .slice none 0 0) (hs : ∀ i, i < n → (f i).length = s) :
    ∃ a g cap, Lv w ob j p n s f a g cap := by
  obtain ⟨a, g, cap, h1, h2, h3, _, h5⟩ := own_view ho hnl
  have hc := hb.cell (i := j) hj
  rw [h1] at hc
  exact ⟨a, g, cap, hc, h3, h2, fun i hi hp q u hq hu => h5 _ u (by rw [pick_get hp hq n hs hi]; exact hu)⟩

/-- keepRoles' answer, cell by cell. -/
structure KSee (w : World) (ob n : Nat) (S : Nat → ByteArray) (us : Value) (M : Nat → Bool) (un : Nat) (X Y : Nat → Int) (goal : Nat) (c : CA) (kn : Nat) (A R : Nat → Int) (r0 r2 r3 r4 : Option Addr) (g0 g2 g3 g4 k0 k2 k3 k4 : Nat) (pb : Nat → Nat) : Prop where
  v0 : Lv w ob 0 M n 1 (fun i => [.string (S i)]) r0 g0 k0
  v2 : Lv w ob 2 (kp M Y) un 2 (uaRow M X Y) r2 g2 k2
  v3 : Lv w ob 3 (kp M R) kn 2 (crRow M A R) r3 g3 k3
  v4 : Lv w ob 4 (kp M c.ro) c.n 3 (caRow M c pb) r4 g4 k4
  c1 : w.cell? ⟨ob, 1, none⟩ = some us
  c5 : w.cell? ⟨ob, 5, none⟩ = some (.int .i64 (num M goal : Int))
  lr : ∀ i, i < c.n → kp M c.ro i = true → ∀ t, t < c.pl i → w.cell? ⟨pb i, t * 2, none⟩ = some (.int .i64 (num M (c.lr i t).toNat : Int))
  ln : ∀ i, i < c.n → kp M c.ro i = true → ∀ t, t < c.pl i → w.cell? ⟨pb i, t * 2 + 1, none⟩ = some (.bool (c.ln i t))

theorem KSee.below {w w' : World} {ob n : Nat} {S : Nat → ByteArray} {us : Value} {M : Nat → Bool} {un : Nat} {X Y : Nat → Int} {goal : Nat} {c : CA} {kn : Nat} {A R : Nat → Int} {r0 r2 r3 r4 : Option Addr} {g0 g2 g3 g4 k0 k2 k3 k4 : Nat} {pb : Nat → Nat} (h : KSee w ob n S us M un X Y goal c kn A R r0 r2 r3 r4 g0 g2 g3 g4 k0 k2 k3 k4 pb) (hb : Below w.heap.size w w') : KSee w' ob n S us M un X Y goal c kn A R r0 r2 r3 r4 g0 g2 g3 g4 k0 k2 k3 k4 pb :=
  ⟨h.v0.below hb, h.v2.below hb, h.v3.below hb, h.v4.below hb, cell_below hb h.c1, cell_below hb h.c5, fun i hi hk t ht => cell_below hb (h.lr i hi hk t ht), fun i hi hk t ht => cell_below hb (h.ln i hi hk t ht)⟩

theorem KOut.see {w w' : World} {n : Nat} {S : Nat → ByteArray} {us : Value} {M : Nat → Bool} {un : Nat} {X Y : Nat → Int} {goal : Nat} {c : CA} {kn : Nat} {A R : Nat → Int} (h : KOut w w' n S us M un X Y goal c kn A R) :
    ∃ r0 r2 r3 r4 g0 g2 g3 g4 k0 k2 k3 k4 pb, KSee w' w.heap.size n S us M un X Y goal c kn A R r0 r2 r3 r4 g0 g2 g3 g4 k0 k2 k3 k4 pb := by
  obtain ⟨_, bf, hb, h1, h5, ⟨_, o0, l0⟩, ⟨_, o2, l2⟩, ⟨_, o3, l3⟩, pb, _, o4, l4, hl⟩ := h
  obtain ⟨r0, g0, k0, q0⟩ := Lv.of_own hb (by omega) o0 l0 (fun _ _ => rfl)
  obtain ⟨r2, g2, k2, q2⟩ := Lv.of_own hb (by omega) o2 l2 (fun _ _ => rfl)
  obtain ⟨r3, g3, k3, q3⟩ := Lv.of_own hb (by omega) o3 l3 (fun _ _ => rfl)
  obtain ⟨r4, g4, k4, q4⟩ := Lv.of_own hb (by omega) o4 l4 (fun _ _ => rfl)
  have e1 := hb.cell (i := 1) (by omega)
  have e5 := hb.cell (i := 5) (by omega)
  rw [h1] at e1
  rw [h5] at e5
  exact ⟨r0, r2, r3, r4, g0, g2, g3, g4, k0, k2, k3, k4, pb, q0, q2, q3, q4, e1, e5, fun i hi hk t ht => ((hl i hi hk).cells t ht).1, fun i hi hk t ht => ((hl i hi hk).cells t ht).2⟩
end Go.Proofs.Qxb6605479a
