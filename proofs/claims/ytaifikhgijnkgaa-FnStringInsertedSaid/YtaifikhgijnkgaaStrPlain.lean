/- Plain facts on the order of strings, byte by byte. No conditions. -/
import GoSem.Op.String
import Derived.Laws.Strings
namespace Go.Proofs.Ytaifikhgijnkgaa

/-- A string comes before another one. -/
def sLt (a b : ByteArray) : Bool := Op.bytesLess a.toList b.toList

theorem toList_eq (a : ByteArray) : a.toList = a.data.toList := Go.ByteArray.toList_eq a
theorem toList_length (a : ByteArray) : a.toList.length = a.size := by rw [toList_eq]; rfl

theorem drop_at (a : ByteArray) (k : Nat) (h : k < a.size) : a.toList.drop k = a[k] :: a.toList.drop (k + 1) := by
  rw [toList_eq, List.drop_eq_getElem_cons (by simpa using h)]
  rfl

theorem bless_ne (a b : ByteArray) (k : Nat) (ha : k < a.size) (hb : k < b.size) (hne : (a[k].toNat : Int) ≠ (b[k].toNat : Int)) :
    Op.bytesLess (a.toList.drop k) (b.toList.drop k) = decide ((a[k].toNat : Int) < (b[k].toNat : Int)) := by
  rw [drop_at a k ha, drop_at b k hb]
  have h1 : a[k] ≠ b[k] := fun h => hne (by rw [h])
  simp only [Op.bytesLess, Bool.false_and, Bool.or_false, beq_eq_false_iff_ne.2 h1]
  rw [Bool.eq_iff_iff]
  simp [UInt8.lt_iff_toNat_lt]

theorem bless_eq (a b : ByteArray) (k : Nat) (ha : k < a.size) (hb : k < b.size) (he : (a[k].toNat : Int) = (b[k].toNat : Int)) :
    Op.bytesLess (a.toList.drop k) (b.toList.drop k) = Op.bytesLess (a.toList.drop (k + 1)) (b.toList.drop (k + 1)) := by
  rw [drop_at a k ha, drop_at b k hb]
  have h1 : a[k] = b[k] := UInt8.toNat.inj (by omega)
  simp only [Op.bytesLess, h1, BEq.rfl, Bool.true_and]
  simp

theorem bless_nil (x : List UInt8) : Op.bytesLess x [] = false := by cases x <;> rfl

theorem bless_end (a b : ByteArray) (k : Nat) (ha : k ≤ a.size) (hb : k ≤ b.size) (h : ¬ (k < a.size ∧ k < b.size)) :
    Op.bytesLess (a.toList.drop k) (b.toList.drop k) = decide ((a.size : Int) < (b.size : Int)) := by
  by_cases h1 : k < b.size
  · have h2 : k = a.size := by omega
    have h3 : a.toList.drop k = [] := List.drop_eq_nil_of_le (by rw [toList_length]; omega)
    rw [h3, drop_at b k h1]
    simp only [Op.bytesLess]
    rw [Bool.eq_iff_iff]; simp; omega
  · have h3 : b.toList.drop k = [] := List.drop_eq_nil_of_le (by rw [toList_length]; omega)
    rw [h3]
    rw [bless_nil]
    rw [Bool.eq_iff_iff]; simp; omega

theorem bless_iff : ∀ (x y : List UInt8), Op.bytesLess x y = decide (x < y)
  | [], [] => by simp [Op.bytesLess]
  | _ :: _, [] => by simp [Op.bytesLess]
  | [], _ :: _ => by simp [Op.bytesLess]
  | a :: x, b :: y => by
    rw [Op.bytesLess, bless_iff x y]
    simp only [List.cons_lt_cons_iff]
    by_cases h1 : a < b <;> by_cases h2 : a = b <;> by_cases h3 : x < y <;> simp [h1, h2, h3]

theorem toList_inj {a b : ByteArray} (h : a.toList = b.toList) : a = b := by
  rw [toList_eq, toList_eq] at h
  exact ByteArray.ext (Array.toList_inj.1 h)

theorem sLt_irrefl (a : ByteArray) : sLt a a = false := by
  simp [sLt, bless_iff, List.lt_irrefl]
theorem sLt_asymm {a b : ByteArray} (h : sLt a b = true) : sLt b a = false := by
  simp only [sLt, bless_iff, decide_eq_true_eq, decide_eq_false_iff_not] at *
  exact fun h' => List.lt_irrefl _ (List.lt_trans h h')
theorem sLt_trans {a b c : ByteArray} (h : sLt a b = true) (h' : sLt b c = true) : sLt a c = true := by
  simp only [sLt, bless_iff, decide_eq_true_eq] at *
  exact List.lt_trans h h'
theorem sLt_total {a b : ByteArray} (h : sLt a b = false) (h' : sLt b a = false) : a = b := by
  simp only [sLt, bless_iff, decide_eq_false_iff_not] at *
  exact toList_inj (List.le_antisymm h' h)
theorem sLt_ne {a b : ByteArray} (h : sLt a b = true) : a.toList ≠ b.toList := fun e => by
  rw [toList_inj e, sLt_irrefl] at h; cases h
theorem sLt_ne' {a b : ByteArray} (h : sLt a b = true) : b.toList ≠ a.toList := fun e => sLt_ne h e.symm
#print axioms sLt_total
#print axioms bless_end
#print axioms bless_ne
end Go.Proofs.Ytaifikhgijnkgaa
