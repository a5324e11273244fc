/- The order of floats, NaNs ahead, is a strict weak order. No conditions. -/
import Derived.Test.YtaifikhgijnkgaaFlo
import Derived.Sort.Statements
namespace Go.Proofs.Ytaifikhgijnkgaa
open Ieee
set_option linter.unusedVariables false

theorem int_cmp_lt (a b : Int) : compare a b = .lt ↔ a < b := by
  show compareOfLessAndEq a b = .lt ↔ _
  unfold compareOfLessAndEq
  split
  · simp [*]
  · split <;> simp [*]
theorem int_cmp_eq (a : Int) : compare a a = .eq := by
  show compareOfLessAndEq a a = .eq
  unfold compareOfLessAndEq
  simp

theorem signed_add (s : Bool) (m u v : Nat) : signed s m (u + v) = signed s m u * (2 ^ v : Nat) := by
  unfold signed
  have h : m <<< (u + v) = (m <<< u) * 2 ^ v := by
    rw [Nat.shiftLeft_eq, Nat.shiftLeft_eq, Nat.pow_add, Nat.mul_assoc]
  rw [h]
  split <;> simp [Int.natCast_mul, Int.neg_mul]

theorem scale_lt (x y : Int) (v : Nat) : x * (2 ^ v : Nat) < y * (2 ^ v : Nat) ↔ x < y := by
  have hp : (0 : Int) < ((2 ^ v : Nat) : Int) := by exact_mod_cast Nat.two_pow_pos v
  exact ⟨fun h => Int.lt_of_mul_lt_mul_right h (Int.le_of_lt hp), fun h => Int.mul_lt_mul_of_pos_right h hp⟩

/-- The class of a datum, and its value over the base B. -/
def kc : Datum → Int
  | .nan .. => -2
  | .infinity true => -1
  | .number .. => 0
  | .infinity false => 1
def kv (B : Int) : Datum → Int
  | .number s m i => signed s m (i - B).toNat
  | _ => 0
def okB (B : Int) : Datum → Prop
  | .number _ _ i => B ≤ i
  | _ => True
def isN : Datum → Bool
  | .nan .. => true
  | _ => false

theorem base_of (d e f : Datum) : ∃ B, okB B d ∧ okB B e ∧ okB B f := by
  have h : ∀ d : Datum, ∃ B, ∀ B', B' ≤ B → okB B' d := fun d => by
    cases d with
    | number s m i => exact ⟨i, fun B' h => h⟩
    | infinity s => exact ⟨0, fun _ _ => trivial⟩
    | nan s f => exact ⟨0, fun _ _ => trivial⟩
  obtain ⟨B1, h1⟩ := h d
  obtain ⟨B2, h2⟩ := h e
  obtain ⟨B3, h3⟩ := h f
  exact ⟨min B1 (min B2 B3), h1 _ (by omega), h2 _ (by omega), h3 _ (by omega)⟩

theorem order_self (d : Datum) : (d.order d != some .eq) = isN d := by
  cases d with
  | number s m i => simp [Datum.order, isN]
  | infinity s => cases s <;> rfl
  | nan s f => rfl

theorem number_lt (B : Int) (s t : Bool) (m n : Nat) (i j : Int) (hi : B ≤ i) (hj : B ≤ j) :
    ((Datum.number s m i).order (Datum.number t n j) == some .lt) = decide (signed s m (i - B).toNat < signed t n (j - B).toNat) := by
  have e1 : (i - B).toNat = (i - min i j).toNat + (min i j - B).toNat := by omega
  have e2 : (j - B).toNat = (j - min i j).toNat + (min i j - B).toNat := by omega
  rw [e1, e2, signed_add, signed_add]
  rw [Bool.eq_iff_iff]
  simp only [Datum.order, beq_iff_eq, Option.some.injEq, decide_eq_true_eq, scale_lt]
  exact int_cmp_lt _ _

theorem lt_key (B : Int) (d e : Datum) (hd : okB B d) (he : okB B e) :
    ((d.order e == some .lt) || (isN d && !isN e)) = decide (kc d < kc e ∨ (kc d = kc e ∧ kv B d < kv B e)) := by
  cases d with
  | nan s f => cases e with
    | nan t g => simp [Datum.order, isN, kc, kv]
    | infinity t => cases t <;> simp [Datum.order, isN, kc, kv]
    | number t n j => simp [Datum.order, isN, kc, kv]
  | infinity s => cases e with
    | nan t g => cases s <;> simp [Datum.order, isN, kc, kv]
    | infinity t => cases s <;> cases t <;> simp [Datum.order, isN, kc, kv] <;> decide
    | number t n j => cases s <;> simp [Datum.order, isN, kc, kv]
  | number s m i => cases e with
    | nan t g => simp [Datum.order, isN, kc, kv]
    | infinity t => cases t <;> simp [Datum.order, isN, kc, kv]
    | number t n j =>
      rw [number_lt B s t m n i j hd he]
      simp [isN, kc, kv]

theorem fLt_key (B : Int) (a b : Nat) (ha : okB B (FloatKind.f64.format.read a)) (hb : okB B (FloatKind.f64.format.read b)) :
    fLt a b = decide (kc (FloatKind.f64.format.read a) < kc (FloatKind.f64.format.read b) ∨ (kc (FloatKind.f64.format.read a) = kc (FloatKind.f64.format.read b) ∧ kv B (FloatKind.f64.format.read a) < kv B (FloatKind.f64.format.read b))) := by
  rw [← lt_key B _ _ ha hb]
  unfold fLt fNaN fOrd Format.order
  rw [order_self, order_self]

theorem fLt_swo : Sort.SWO fLt where
  irrefl x := by
    obtain ⟨B, h, _, _⟩ := base_of (FloatKind.f64.format.read x) (FloatKind.f64.format.read x) (FloatKind.f64.format.read x)
    rw [fLt_key B x x h h]
    simp
  trans x y z h1 h2 := by
    obtain ⟨B, hx, hy, hz⟩ := base_of (FloatKind.f64.format.read x) (FloatKind.f64.format.read y) (FloatKind.f64.format.read z)
    rw [fLt_key B x y hx hy, decide_eq_true_eq] at h1
    rw [fLt_key B y z hy hz, decide_eq_true_eq] at h2
    rw [fLt_key B x z hx hz, decide_eq_true_eq]
    omega
  ntrans x y z h1 h2 := by
    obtain ⟨B, hx, hy, hz⟩ := base_of (FloatKind.f64.format.read x) (FloatKind.f64.format.read y) (FloatKind.f64.format.read z)
    rw [fLt_key B x y hx hy, decide_eq_false_iff_not] at h1
    rw [fLt_key B y z hy hz, decide_eq_false_iff_not] at h2
    rw [fLt_key B x z hx hz, decide_eq_false_iff_not]
    omega
#print axioms fLt_swo
end Go.Proofs.Ytaifikhgijnkgaa
