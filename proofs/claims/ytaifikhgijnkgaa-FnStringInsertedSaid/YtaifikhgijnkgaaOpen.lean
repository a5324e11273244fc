/- How the arguments of the laws of this seat lie in memory: slices of numbers, strings, items; an order. No conditions. -/
import Derived.Test.YtaifikhgijnkgaaKit
import Derived.Test.YtaifikhgijnkgaaHead
import Derived.ProofKit
import Derived.OpenShut
import Derived.ShutString
import Derived.ChangeOld
import Derived.SizedLaws
import Derived.Deep.Slices
import Derived.Deep.Fields
import Derived.ChangeSame
import Derived.Lib.SmallJoins
namespace Go.Proofs.Ytaifikhgijnkgaa
open Go.ChangeShapes Go.WideShapes Go.ChangeAt Go.RowKit Go.Deep
set_option linter.unusedVariables false

theorem el_range {α : Type} [Inhabited α] (f : Nat → α) (n i : Nat) (h : i < n) : el ((List.range n).map f) i = f i := by
  simp [el, h]

theorem list_two {α : Type} {l : List α} (h : l.length = 2) : ∃ x y, l = [x, y] := by
  match l, h with
  | [x, y], _ => exact ⟨x, y, rfl⟩

section
variable {H : Type} {enc : TypeId × Value → H} {P : Program} {W : World}

/-- The datum of a slice: nil, or so many elements as the capacity is. -/
def Shape (cap : Nat) (d : DataW H) : Prop := (cap = 0 ∧ d = .nil) ∨ (cap ≤ maxLen ∧ ∃ el sp, d = .slice el sp ∧ el.length + sp.length = cap)

theorem open_any {α : Type} [Inhabited α] (C : Nat) (hCp : 0 < C) (encL : α → List Value) (good : α → Prop) {t e : TypeId} (ht : P.underlying t = some (.slice e)) (hC : P.cellsOf e = C)
    (dec : ∀ n cs y, DataW.trod enc P W 0 (fun _ => true) true n e cs = some y → ∃ x, cs = encL x ∧ good x)
    {a : Option Addr} {len cap : Nat} {fuel : Nat} {d : DataW H} {p : List MemPlace} (h : DataW.trod enc P W 0 (fun _ => true) true fuel t [.slice a len cap] = some (d, p)) :
    ∃ xs : List α, SlK C encL W a len cap xs ∧ (∀ x ∈ xs, good x) ∧ Shape cap d := by
  rcases open_slice ht h with ⟨hcs, hx⟩ | ⟨a', len', cap', m, n, D, Pl, hcs, hb, hl, hm, hmm, hx, hi⟩
  · simp only [List.cons.injEq, Value.slice.injEq, and_true] at hcs
    obtain ⟨rfl, rfl, rfl⟩ := hcs
    simp only [Prod.mk.injEq] at hx
    exact ⟨[], ⟨rfl, Nat.le_refl _, fun _ => rfl, .inl rfl⟩, by simp, .inl ⟨rfl, hx.1⟩⟩
  · simp only [List.cons.injEq, Value.slice.injEq, and_true] at hcs
    obtain ⟨rfl, rfl, rfl⟩ := hcs
    simp only [if_true] at hmm
    subst hmm
    rw [hC] at hi hx
    have hex : ∀ i, i < m → ∃ x, W.cells? 0 (a'.add (i * C)) C = some (encL x) ∧ good x := fun i him => by
      obtain ⟨cs', hc, htr⟩ := hi i him
      obtain ⟨x, rfl, hg⟩ := dec _ _ _ htr
      exact ⟨x, hc, hg⟩
    let f : Nat → α := fun i => if him : i < m then Classical.choose (hex i him) else default
    have hf : ∀ i, i < m → W.cells? 0 (a'.add (i * C)) C = some (encL (f i)) ∧ good (f i) := fun i him => by
      have := Classical.choose_spec (hex i him)
      simp only [f, him, dif_pos]
      exact this
    refine ⟨(List.range len).map f, ⟨by simp, hl, (fun h => by cases h), ?_⟩, ?_, .inr ⟨hm, _, _, (Prod.mk.inj hx).1, by simp; omega⟩⟩
    · rcases Nat.eq_zero_or_pos len with h0 | h0
      · exact .inl h0
      · right
        have c0 := (World.cells?_some (hf 0 (by omega)).1).2.2 0 hCp
        have l0 := (World.cells?_some (hf 0 (by omega)).1).2.1
        rw [List.getElem?_eq_getElem (by omega)] at c0
        have hsp := World.cell?_spot c0
        obtain ⟨b, off, spot⟩ := a'
        have hs : spot = none := by simpa [Addr.add] using hsp
        subst hs
        refine ⟨b, off, rfl, ?_, fun i hil j hj => ?_⟩
        · exact block_of_cell (off := off + 0 * C + 0) (by simpa [Addr.add] using c0)
        · have := (World.cells?_some (hf i (by omega)).1).2.2 j hj
          rw [el_range f len i hil]
          rw [addr_add, addr_add] at this
          exact this
    · intro x hx
      obtain ⟨i, hi', rfl⟩ := List.mem_map.1 hx
      exact (hf i (by have := List.mem_range.1 hi'; omega)).2
end

theorem Try.cells3 : Try.prog.cellsOf 3 = 1 := by kernel_rfl
theorem Try.cells4 : Try.prog.cellsOf 4 = 1 := by kernel_rfl
theorem Try.cells9 : Try.prog.cellsOf 9 = 1 := by kernel_rfl
theorem Try.cells48 : Try.prog.cellsOf 48 = 1 := by kernel_rfl
theorem Try.cells52 : Try.prog.cellsOf 52 = 2 := by kernel_rfl
theorem Try.cells33 : Try.prog.cellsOf 33 = 2 := by kernel_rfl
theorem Try.bytes3 : Try.prog.bytesOf 3 = 8 := by kernel_rfl
theorem Try.bytes4 : Try.prog.bytesOf 4 = 1 := by kernel_rfl
theorem Try.bytes9 : Try.prog.bytesOf 9 = 16 := by kernel_rfl
theorem Try.bytes48 : Try.prog.bytesOf 48 = 8 := by kernel_rfl
theorem Try.bytes52 : Try.prog.bytesOf 52 = 16 := by kernel_rfl

section
variable {H : Type} {enc : TypeId × Value → H} {W : World}

theorem Shape.reach {P : Program} {ts : List TypeId} {ds : List (DataW H)} (h : (DataW.weightsEach P ts ds).all (· ≤ reachBytes) = true) {j : Nat} {t e : TypeId} {cap : Nat} {d : DataW H} (hs : Shape cap d) (ht : ts[j]? = some t) (hd : ds[j]? = some d) (hu : P.underlying t = some (.slice e)) :
    cap * P.bytesOf e ≤ 140737488351232 := by
  rcases hs with ⟨rfl, _⟩ | ⟨_, el, sp, rfl, hl⟩
  · simp
  · have := sized_slice h ht hd hu
    rw [hl] at this
    exact this

theorem Shape.le {cap : Nat} {d : DataW H} (hs : Shape cap d) : cap ≤ 9223372036854775807 := by
  rcases hs with ⟨rfl, _⟩ | ⟨h, _⟩
  · omega
  · exact h

theorem open_I {a : Option Addr} {len cap : Nat} {d : DataW H} {p : List MemPlace} (h : DataW.Trod enc Try.prog W 0 (fun _ => true) true 22 (.slice a len cap) d p) :
    ∃ xs, Sl (Value.int .i64) W a len cap xs ∧ (∀ x ∈ xs, (Lit.int .i64 x).wf = true) ∧ Shape cap d := by
  obtain ⟨fuel, hf⟩ := h
  obtain ⟨xs, h1, h2, h3⟩ := open_any 1 (by omega) (fun x => [Value.int .i64 x]) (fun x => (Lit.int .i64 x).wf = true) Try.underlying22 Try.cells3 (fun n cs y ht => by obtain ⟨n, h1, _, h3⟩ := DataW.trod_int Try.underlying3 ht; exact ⟨n, h1, h3⟩) hf
  exact ⟨xs, h1.one, h2, h3⟩

theorem open_U {a : Option Addr} {len cap : Nat} {d : DataW H} {p : List MemPlace} (h : DataW.Trod enc Try.prog W 0 (fun _ => true) true 45 (.slice a len cap) d p) :
    ∃ xs, Sl (Value.int .u64) W a len cap xs ∧ (∀ x ∈ xs, (Lit.int .u64 x).wf = true) ∧ Shape cap d := by
  obtain ⟨fuel, hf⟩ := h
  obtain ⟨xs, h1, h2, h3⟩ := open_any 1 (by omega) (fun x => [Value.int .u64 x]) (fun x => (Lit.int .u64 x).wf = true) Try.underlying45 Try.cells48 (fun n cs y ht => by obtain ⟨n, h1, _, h3⟩ := DataW.trod_int Try.underlying48 ht; exact ⟨n, h1, h3⟩) hf
  exact ⟨xs, h1.one, h2, h3⟩

theorem open_S {a : Option Addr} {len cap : Nat} {d : DataW H} {p : List MemPlace} (h : DataW.Trod enc Try.prog W 0 (fun _ => true) true 27 (.slice a len cap) d p) :
    ∃ xs, Sl Value.string W a len cap xs ∧ (∀ x ∈ xs, x.size ≤ maxLen) ∧ Shape cap d := by
  obtain ⟨fuel, hf⟩ := h
  obtain ⟨xs, h1, h2, h3⟩ := open_any 1 (by omega) (fun x => [Value.string x]) (fun x => x.size ≤ maxLen) Try.underlying27 Try.cells9 (fun n cs y ht => by obtain ⟨n, h1, _, h3⟩ := DataW.trod_string Try.underlying9 ht; exact ⟨n, h1, h3⟩) hf
  exact ⟨xs, h1.one, h2, h3⟩

theorem open_B {a : Option Addr} {len cap : Nat} {fuel : Nat} {d : DataW H} {p : List MemPlace} (hf : DataW.trod enc Try.prog W 0 (fun _ => true) true fuel 31 [.slice a len cap] = some (d, p)) :
    ∃ xs, Sl Value.bool W a len cap xs ∧ Shape cap d := by
  obtain ⟨xs, h1, _, h3⟩ := open_any 1 (by omega) (fun x => [Value.bool x]) (fun _ => True) Try.underlying31 Try.cells4 (fun n cs y ht => by obtain ⟨n, h1, h3⟩ := DataW.trod_bool Try.underlying4 ht; exact ⟨n, h1, trivial⟩) hf
  exact ⟨xs, h1.one, h3⟩


set_option maxRecDepth 100000 in
theorem open_L {a : Option Addr} {len cap : Nat} {d : DataW H} {p : List MemPlace} (h : DataW.Trod enc Try.prog W 0 (fun _ => true) true 30 (.slice a len cap) d p) :
    ∃ xs, SlK 2 encIt W a len cap xs ∧ (∀ x ∈ xs, okIt x) ∧ Shape cap d := by
  obtain ⟨fuel, hf⟩ := h
  refine open_any 2 (by omega) encIt okIt Try.underlying30 Try.cells52 (fun n cs y ht => ?_) hf
  obtain ⟨y0, y1, n, _, hl, h0, h1⟩ := trod_struct2 Try.underlying52 ht
  rw [Try.cells52] at hl
  obtain ⟨c0, c1, rfl⟩ := list_two hl
  simp only [Try.cells3, List.drop_zero, List.drop_succ_cons, List.take_succ_cons, List.take_zero] at h0 h1
  obtain ⟨k, e0, _, w0⟩ := DataW.trod_int Try.underlying3 h0
  obtain ⟨t, e1, _, w1⟩ := DataW.trod_int Try.underlying3 h1
  simp only [List.cons.injEq, and_true] at e0 e1
  exact ⟨(k, t), by rw [e0, e1]; rfl, w0, w1⟩

set_option maxRecDepth 100000 in
/-- An order by value: its size, its table. -/
theorem open_O {r : Reach} {b0 : Nat} {v : Value} {d : DataW H} {p : List MemPlace} (hv : Value.okWide Try.prog W r b0 33 v) (h : DataW.Trod enc Try.prog W 0 (fun _ => true) true 33 v d p) :
    ∃ (n : Int) (a : Option Addr) (len cap : Nat) (bs : List Bool), v = .agg #[.int .i64 n, .slice a len cap] ∧ (Lit.int .i64 n).wf = true ∧ Sl Value.bool W a len cap bs ∧ cap ≤ 9223372036854775807 := by
  obtain ⟨c0, c1, y0, y1, m, rfl, rfl, rfl, hy0, hy1⟩ := Joins.open_agg2 Try.underlying33 (by kernel_rfl) Try.cells33 hv h
  obtain ⟨n, e0, _, w0⟩ := DataW.trod_int Try.underlying3 hy0
  simp only [List.cons.injEq, and_true] at e0
  subst e0
  have hsl : ∃ a len cap, c1 = .slice a len cap := by
    rcases open_slice Try.underlying31 hy1 with ⟨hcs, _⟩ | ⟨a', len', cap', _, _, _, _, hcs, _⟩
    · simp only [List.cons.injEq, and_true] at hcs; exact ⟨_, _, _, hcs⟩
    · simp only [List.cons.injEq, and_true] at hcs; exact ⟨_, _, _, hcs⟩
  obtain ⟨a, len, cap, rfl⟩ := hsl
  obtain ⟨bs, h1, h2⟩ := open_B hy1
  exact ⟨n, a, len, cap, bs, rfl, w0, h1, h2.le⟩
end
#print axioms open_O
#print axioms open_L
#print axioms open_S
end Go.Proofs.Ytaifikhgijnkgaa
