/- Contracts of sort.Slice and impl.Slice: the same items, sorted by the order where it is a strict weak order of them. No conditions. -/
import Derived.Test.YtaifikhgijnkgaaFfPdq
import Derived.Test.YtaifikhgijnkgaaRevSort
import Derived.Test.YtaifikhgijnkgaaClosure
namespace Go.Proofs.Ytaifikhgijnkgaa
open Go.RowKit
open Go.Sort hiding Below
set_option linter.unusedVariables false

theorem Try.item52 : ∃ i, Try.prog.info? 52 = some i ∧ i.hasPointers = false ∧ i.bytes = 16 ∧ i.size = 2 := by
  have h : (Try.prog.info? 52).map (fun i => (i.hasPointers, i.bytes, i.size)) = some (false, 16, 2) := by kernel_rfl
  cases hi : Try.prog.info? 52 with
  | none => rw [hi] at h; cases h
  | some i =>
    rw [hi] at h
    simp only [Option.map_some, Option.some.injEq, Prod.mk.injEq] at h
    exact ⟨i, rfl, h.1, h.2.1, h.2.2⟩
theorem Try.kind52 (w : World) : (Extern.Rtype.kind 52).run Try.prog w = .ok 25 w := by kernel_rfl
theorem Try.agg52 (w : World) : (isAgg 52).run Try.prog w = .ok true w := by kernel_rfl

theorem swapK {i : TypeInfo} (h1 : i.hasPointers = false) (h2 : i.bytes = 16) (n : Nat) : Lib.swapperK n i 25 = if n = 0 then 1 else if n = 1 then 2 else 9 := by
  unfold Lib.swapperK
  rcases n with _ | _ | n
  · rfl
  · rfl
  · simp [h1, h2]

/-- Which of the nine literals. -/
def litOf (n : Nat) : Nat := if n = 0 then 134 else if n = 1 then 135 else 142
def litB (n : Nat) (s : Value) : Array Value := if n ≤ 1 then #[] else #[s, .pointer (some ⟨1, 52, none⟩)]

theorem run_swapper (a : Option Addr) (n c : Nat) (w : World) :
    (Extern.ReflectliteSwapper.swapper "internal/reflectlite" (Extern.ReflectliteValue.valueError "Swapper") #[.iface 30 (.slice a n c)]).run Try.prog w = .ok (.func (.func (litOf n)) #[] (litB n (.slice a n c))) w := by
  obtain ⟨i0, hi0, hd0⟩ := Try.slice30
  obtain ⟨ie, hie, e1, e2, e3⟩ := Try.item52
  have hK := swapK e1 e2 n
  have hf : Try.prog.funcs.findIdx? (·.name == "internal/reflectlite" ++ ".Swapper$" ++ toString (Lib.swapperK n ie 25)) = some (litOf n) := by
    rw [hK]
    rcases n with _ | _ | n
    · kernel_rfl
    · kernel_rfl
    · show Try.prog.funcs.findIdx? (·.name == "internal/reflectlite" ++ ".Swapper$" ++ toString (if n + 1 + 1 = 0 then 1 else if n + 1 + 1 = 1 then 2 else 9)) = some (litOf (n + 1 + 1))
      rw [if_neg (by omega), if_neg (by omega)]
      kernel_rfl
  have h := Lib.run_swapper_slice (P := Try.prog) 30 52 i0 ie hi0 hd0 hie 25 Try.kind52 a n c (litOf n) hf w
  have hb : (if Lib.swapperK n ie 25 ≤ 2 then (#[] : Array Value) else #[.slice a n c, typeHandle Try.prog 52]) = litB n (.slice a n c) := by
    rw [hK]
    unfold litB
    rcases n with _ | _ | n
    · rfl
    · rfl
    · simp [typeHandle]
  rw [h, hb]

theorem run_swap9 (g n c i j : Nat) (x y : It) (w : World) (hi : i < n) (hj : j < n) (hn : n < 4611686018427387904)
    (i0 : w.cell? ⟨g, i * 2, none⟩ = some (.int .i64 x.1)) (i1 : w.cell? ⟨g, i * 2 + 1, none⟩ = some (.int .i64 x.2))
    (j0 : w.cell? ⟨g, j * 2, none⟩ = some (.int .i64 y.1)) (j1 : w.cell? ⟨g, j * 2 + 1, none⟩ = some (.int .i64 y.2)) (hf : ∀ k, w.frozen? ⟨g, k, none⟩ = false) :
    (callFunc 142 #[.int .i64 i, .int .i64 j, .slice (some ⟨g, 0, none⟩) n c, .pointer (some ⟨1, 52, none⟩)]).run Try.prog w = .ok (.value (.tuple #[])) (put4 w g (i * 2) (j * 2) x y) := by
  obtain ⟨ie, hie, e1, e2, e3⟩ := Try.item52
  rw [run_callFunc_extern Try.func142 (by kernel_rfl) (by kernel_rfl) (by kernel_rfl) (e := Extern.ReflectliteSwapper.swap false) (by kernel_rfl)]
  have h := Lib.run_swap_cells (P := Try.prog) false 52 ie hie Try.agg52 g 0 n c i j hi hj (encIt x) (encIt y) (by rw [e3]; rfl) (by rw [e3]; rfl) (by simp [encIt, Value.oneCell']) (by simp [encIt, Value.oneCell']) w
    (fun k v hv => by
      rw [e3, Nat.zero_add]
      match k, hv with
      | 0, hv => simp [encIt] at hv; subst hv; exact i0
      | 1, hv => simp [encIt] at hv; subst hv; exact i1)
    (fun k v hv => by
      rw [e3, Nat.zero_add]
      match k, hv with
      | 0, hv => simp [encIt] at hv; subst hv; exact j0
      | 1, hv => simp [encIt] at hv; subst hv; exact j1)
    (fun k _ => hf _) (fun k _ => hf _)
  simp only [typeHandle, Try.globs] at h
  rw [h, e3]
  simp [Result.andThen, World.setCells, encIt, put4]

/-- The closure's variables: the order, the slice. -/
def XSl (PO PS : Nat) (nn : Int) (ab : Option Addr) (lb cb : Nat) (bs : List Bool) (s : Value) (w : World) : Prop := Box2 PO nn (.slice ab lb cb) w ∧ w.cell? ⟨PS, 0, none⟩ = some s ∧ Sl Value.bool w ab lb cb bs

theorem StR.swap2' {e : TypeId} {base B g n cap : Nat} {xs : List It} {X : World → Prop} {dk : Array It} {w : World} (h : StR 2 encIt e base B g n cap xs X dk w) (hl : xs.length = n) (hX : Stays B g X) (i j : Nat) (hi : i < n) (hj : j < n) :
    StR 2 encIt e base B g n cap xs X (swp dk i j) (put4 w g (i * 2) (j * 2) (el dk.toList i) (el dk.toList j)) ∧ Apart g w (put4 w g (i * 2) (j * 2) (el dk.toList i) (el dk.toList j)) := by
  have hn := h.len hl
  have ap : Apart g w (put4 w g (i * 2) (j * 2) (el dk.toList i) (el dk.toList j)) := (Apart.refl g w).put4 _ _ _ _
  refine ⟨⟨?_, ?_, Nat.le_trans h.sz ap.size, hX _ _ h.x ap.size fun k hk hkg => ap.block k (Nat.lt_of_lt_of_le hk h.sz) hkg⟩, ap⟩
  · rw [swp_toList]; exact h.own.swap2 hn i j 0
  · rw [swp_toList]; exact (swapL_perm _ i j (by omega) (by omega)).trans h.perm

theorem face_slice (base B g n cap : Nat) (xs : List It) (PO PS : Nat) (nn : Int) (ab : Option Addr) (lb cb : Nat) (bs : List Bool) (hgB : g < B) (hoB : PO < B) (hog : PO ≠ g) (hsB : PS < B) (hsg : PS ≠ g) (hab : lb ≠ 0 → ∀ ad, ab = some ad → ad.block < B ∧ ad.block ≠ g) (hl : xs.length = n) (hn : n < 4611686018427387904) :
    FFace (ext (sbef nn bs false) xs) (StR 2 encIt 52 base B g n cap xs (XSl PO PS nn ab lb cb bs (.slice (some ⟨g, 0, none⟩) n cap))) B g n 94 #[.pointer (some ⟨PO, 0, none⟩), .pointer (some ⟨PS, 0, none⟩)] 142 #[.slice (some ⟨g, 0, none⟩) n cap, .pointer (some ⟨1, 52, none⟩)] :=
  have hX : Stays B g (XSl PO PS nn ab lb cb bs (.slice (some ⟨g, 0, none⟩) n cap)) := fun w w' h hsz hk =>
    ⟨⟨(World.cell?_of_block (w := w) (hk PO hoB hog)).trans h.1.1, (World.cell?_of_block (w := w) (hk PO hoB hog)).trans h.1.2⟩, (World.cell?_of_block (w := w) (hk PS hsB hsg)).trans h.2.1, stays_table hab w w' h.2.2 hsz hk⟩
  { toBase := StR.base hgB hl hX
    enterL := enters_try Try.func94 (by kernel_rfl) rfl
    less := fun {dk w} i j h hi hj => by
      have hd := h.len hl
      obtain ⟨a', c', hv, hs, _, _⟩ := Own.slk (C := 2) (encL := encIt) (fun _ => rfl) h.own
      rw [hd] at hv hs
      cases hv
      refine (less94 PO PS g 0 n cap i j dk.toList nn ab lb cb bs w hi hj hn h.x.1 h.x.2.1 hs h.x.2.2).mono ?_
      rintro e w' ⟨rfl, hb⟩
      exact ⟨by rw [bang_el, bang_el, ext_mem (h.mem hl i hi) (h.mem hl j hj)], hb⟩
    swap := fun {dk w} i j h hi hj => by
      have hd := h.len hl
      have ci := h.own.cells2 hd i hi
      have cj := h.own.cells2 hd j hj
      exact ⟨_, run_swap9 g n cap i j _ _ w hi hj hn ci.1 ci.2 cj.1 cj.2 (fun k => h.own.fz hd k), h.swap2' hl hX i j hi hj⟩ }

set_option maxHeartbeats 1000000 in
set_option maxRecDepth 100000 in
theorem ff_ins_tiny (lf : Fn) (la lb : Array Value) (sf : Fn) (sa sb : Array Value) (n : Nat) (hn : n ≤ 1) (w : World) :
    Calls Try.prog 145 #[.agg #[.func lf la lb, .func sf sa sb], .int .i64 0, .int .i64 n] w fun e w' => e = .returned (.tuple #[]) ∧ Below w.heap.size w w' := by
  have hnz : ¬ (1 : Int) < (n : Int) := by omega
  have HB := Lib.hid (below1 w (.cells #[.func lf la lb, .func sf sa sb] 114))
  go_enter Try.func145, Try.ntmps145
  go_wp2
  generalize w.alloc (.cells #[.func lf la lb, .func sf sa sb] 114) = w1 at *
  go_loopw [6] (fun v wr => v = .int .i64 1 ∧ wr = w1) (fun _ _ => 0)
  case atStart => exact ⟨by go_num, rfl⟩
  case round =>
    obtain ⟨rfl, rfl⟩ := hrel
    go_wp2
    go_end0
    exact ⟨rfl, HB.out⟩

set_option maxHeartbeats 1000000 in
set_option maxRecDepth 100000 in
theorem ff_pdq_tiny (lf : Fn) (la lb : Array Value) (sf : Fn) (sa sb : Array Value) (n : Nat) (hn : n ≤ 1) (lim : Int) (w : World) :
    Calls Try.prog 123 #[.agg #[.func lf la lb, .func sf sa sb], .int .i64 0, .int .i64 n, .int .i64 lim] w fun e w' => e = .returned (.tuple #[]) ∧ Below w.heap.size w w' := by
  have hnz : (n : Int) ≤ 12 := by omega
  have HB := Lib.hid (below1 w (.cells #[.func lf la lb, .func sf sa sb] 114))
  have c0 : (w.alloc (.cells #[.func lf la lb, .func sf sa sb] 114)).cell? ⟨w.heap.size, 0, none⟩ = some (.func lf la lb) := by simp
  have c1 : (w.alloc (.cells #[.func lf la lb, .func sf sa sb] 114)).cell? ⟨w.heap.size, 1, none⟩ = some (.func sf sa sb) := by simp
  go_enter Try.func123, Try.ntmps123
  go_wp2
  generalize w.alloc (.cells #[.func lf la lb, .func sf sa sb] 114) = w1 at *
  refine wp_loop_rounds 1 ?_
  rw [rounds_succ]
  go_wp2_with fail
  refine (ff_ins_tiny lf la lb sf sa sb n hn w1).mono ?_
  rintro e w2 ⟨rfl, hb2⟩
  have HB2 := Lib.hid (HB.out.trans (hb2.mono HB.out.size))
  clear hb2
  go_wp2_with fail
  (try simp only [Exit.inBlock, Exit.then]); refine bodyPost_ret (results_none rfl _ _ _) rfl ?_
  exact ⟨rfl, HB2.out⟩

set_option maxHeartbeats 1000000 in
set_option maxRecDepth 100000 in
/-- sort.Slice's own body, as far as pdqsort_func. -/
theorem sort_Slice_of (a : Option Addr) (n c : Nat) (hn : n < 4611686018427387904) (lf : Fn) (la lb : Array Value) (w : World) (R : World → Prop)
    (hp : Calls Try.prog 123 #[.agg #[.func lf la lb, .func (.func (litOf n)) #[] (litB n (.slice a n c))], .int .i64 0, .int .i64 n, .int .i64 (bitsLen n)] ((w.alloc (.cells #[.slice a n c] 30)).alloc (.cells #[.pointer (some ⟨1, 30, none⟩), .pointer (some ⟨w.heap.size, 0, none⟩), .int .u64 151] 107)) fun e w' => e = .returned (.tuple #[]) ∧ R w') :
    Calls Try.prog 93 #[.iface 30 (.slice a n c), .func lf la lb] w fun e w' => e = .returned (.tuple #[]) ∧ R w' := by
  obtain ⟨i0, hi0, hd0⟩ := Try.slice30
  have hv := Lib.run_valueOf_slice (P := Try.prog) 30 52 i0 hi0 hd0 a n c w
  have hlen := fun ad w ha => Lib.run_valueLen_slice (P := Try.prog) 30 52 i0 hi0 hd0 Try.packed30 ad a n c w ha
  simp only [typeHandle, Try.globs] at hv hlen
  have HP := Lib.hid hp
  have wr := (show IntKind.u64.wrap n = n by simp [IntKind.wrap, IntKind.bits, IntKind.signed]; omega)
  clear hp
  go_enter Try.func93, Try.ntmps93
  go_wp2
  rw [run_callFunc_extern Try.func119 (by kernel_rfl) (by kernel_rfl) (by kernel_rfl) (e := fun args => Extern.ReflectliteValue.unpack (args.getD 0 (.tuple #[]))) (by kernel_rfl),
    show Sem.run Try.prog ((fun args : Array Value => Extern.ReflectliteValue.unpack (args.getD 0 (.tuple #[]))) #[.iface 30 (.slice a n c)]) w = _ from hv]
  simp only [Result.andThen]
  rw [Oper.upon_value]
  go_wp2
  rw [run_callFunc_extern Try.func120 (by kernel_rfl) (by kernel_rfl) (by kernel_rfl) (e := Extern.ReflectliteSwapper.swapper "internal/reflectlite" (Extern.ReflectliteValue.valueError "Swapper")) (by kernel_rfl), run_swapper]
  simp only [Result.andThen]
  rw [Oper.upon_value]
  go_wp2
  rw [run_callFunc_extern Try.func121 (by kernel_rfl) (by kernel_rfl) (by kernel_rfl) (e := Extern.ReflectliteValue.method (Extern.ReflectliteValue.valueError "reflectlite.Value.Len" 0) Extern.ReflectliteValue.len) (by kernel_rfl),
    hlen _ _ (by simp)]
  simp only [Result.andThen]
  rw [Oper.upon_value]
  clear hv hlen
  generalize ((w.alloc (.cells #[.slice a n c] 30)).alloc (.cells #[.pointer (some ⟨1, 30, none⟩), .pointer (some ⟨w.heap.size, 0, none⟩), .int .u64 151] 107)) = w2 at *
  go_wp2_with fail
  refine (bits_Len_nat n _ hn).mono ?_
  rintro e w' ⟨rfl, rfl⟩
  go_wp2_with fail
  refine HP.out.mono ?_
  rintro e w3 ⟨rfl, hR⟩
  go_wp2_with fail
  go_end0
  exact ⟨rfl, hR⟩

/-- sort.Slice of items by the closure impl.Slice$1. -/
theorem sort_Slice (a : Option Addr) (n cap base : Nat) (xs : List It) (PO PS : Nat) (nn : Int) (ab : Option Addr) (lb cb : Nat) (bs : List Bool) (w : World)
    (ho : Own 2 encIt 52 w base (.slice a n cap) xs) (hl : xs.length = n) (hbase : base ≤ w.heap.size) (hn : n < 4611686018427387904)
    (hO : Box2 PO nn (.slice ab lb cb) w) (hP : w.cell? ⟨PS, 0, none⟩ = some (.slice a n cap)) (hoa : ∀ ad, a = some ad → PO ≠ ad.block) (hsa : ∀ ad, a = some ad → PS ≠ ad.block) (hs : Sl Value.bool w ab lb cb bs) (hab : lb ≠ 0 → ∀ ad, ab = some ad → ad.block < base) :
    Calls Try.prog 93 #[.iface 30 (.slice a n cap), .func (.func 94) #[] #[.pointer (some ⟨PO, 0, none⟩), .pointer (some ⟨PS, 0, none⟩)]] w fun r w' => r = .returned (.tuple #[]) ∧ ∃ O, Own 2 encIt 52 w' base (.slice a n cap) O ∧ SortedBy (sbef nn bs false) xs O ∧ Below base w w' ∧ w'.cell? ⟨PS, 0, none⟩ = some (.slice a n cap) := by
  have B2 := below2 w (.cells #[.slice a n cap] 30) (.cells #[.pointer (some ⟨1, 30, none⟩), .pointer (some ⟨w.heap.size, 0, none⟩), .int .u64 151] 107)
  refine sort_Slice_of a n cap hn _ _ _ w _ ?_
  generalize ((w.alloc (.cells #[.slice a n cap] 30)).alloc (.cells #[.pointer (some ⟨1, 30, none⟩), .pointer (some ⟨w.heap.size, 0, none⟩), .int .u64 151] 107)) = w2 at *
  have hsz := B2.size
  have hP2 : w2.cell? ⟨PS, 0, none⟩ = some (.slice a n cap) := (B2.cell (p := ⟨PS, 0, none⟩) (block_of_cell hP)).trans hP
  by_cases h1 : n ≤ 1
  · refine (ff_pdq_tiny _ _ _ _ _ _ n h1 _ w2).mono ?_
    rintro r w' ⟨rfl, hb⟩
    have hb' := B2.trans (hb.mono hsz)
    exact ⟨rfl, xs, ho.below hb', short_sortedBy _ xs (by omega), hb'.mono hbase, (hb.cell (p := ⟨PS, 0, none⟩) (block_of_cell hP2)).trans hP2⟩
  · have ho2 := ho.below B2
    obtain ⟨g, rfl, hgb, hgs, hfz, hxl⟩ := ho2.at (by omega)
    have hoB : PO < w.heap.size := block_of_cell hO.1
    have hsB : PS < w.heap.size := block_of_cell hP
    have F := face_slice base w2.heap.size g n cap xs PO PS nn ab lb cb bs hgs (by omega) (hoa _ rfl) (by omega) (hsa _ rfl) (fun h0 ad had => ⟨by have := hab h0 ad had; omega, by have := hab h0 ad had; omega⟩) hl hn
    have hlit : litOf n = 142 := by unfold litOf; rw [if_neg (by omega), if_neg (by omega)]
    have hlb : litB n (.slice (some ⟨g, 0, none⟩) n cap) = #[.slice (some ⟨g, 0, none⟩) n cap, .pointer (some ⟨1, 52, none⟩)] := by unfold litB; rw [if_neg h1]
    rw [hlit, hlb]
    refine (ff_pdqsort F hn (n + 1) 0 n (bitsLen n) xs.toArray w2 (by omega) ⟨by simpa using ho2, by simp, Nat.le_refl _, hO.keep B2, hP2, hs.below B2⟩ (by omega) (Nat.le_refl _) (Nat.lt_of_le_of_lt ((bitsLen_le_iff n 62).2 (by omega)) (by omega))).mono ?_
    rintro r w' ⟨rfl, hL⟩
    have hb' := B2.mono hbase
    exact ⟨rfl, _, hL.st.own, pdq_sortedBy _ xs n _ hl (fun e => by subst e; simp at hl; omega) hL.st.perm, hb'.trans (hL.ap.below (by omega) hgb), hL.st.x.2.1⟩

set_option maxHeartbeats 2000000 in
set_option maxRecDepth 100000 in
theorem impl_Slice (a : Option Addr) (len cap : Nat) (xs : List It) (nn : Int) (ab : Option Addr) (lb cb : Nat) (bs : List Bool) (w : World) (hs : SlK 2 encIt w a len cap xs) (hb : len * 16 ≤ 140737488351232) (ho : Sl Value.bool w ab lb cb bs) :
    Calls Try.prog 44 #[.slice a len cap, .agg #[.int .i64 nn, .slice ab lb cb]] w (GivesBy (sbef nn bs false) w len xs) := by
  have HS := Lib.hid hs
  have HL := Lib.hid hs.1
  have HT := Lib.hid ho
  have hcap := hs.2.1
  clear hs ho
  have HZ := Lib.hid (box2_new w nn (.slice ab lb cb) 33)
  go_enter Try.func44, Try.ntmps44
  go_wp2_with (first
    | (at_builtin; refine wpList_copy rfl _ _ 30 rfl 52 (.agg #[.int .i64 0, .int .i64 0]) 2 16 encIt Try.underlying30 Try.info52 rfl (by decide) (fun _ => rfl) (by simp [encIt, Value.oneCell']) rfl _ len cap xs rfl (HS.out.belowS (below1 w _)) (by unfold maxLen; omega) (by omega) ?_; intro a' cap' w2 hown hbel; have HZ2 := Lib.hid (HZ.out.keep hbel); have HB := Lib.hid ((below1 w (.cells #[.int .i64 nn, .slice ab lb cb] 33)).trans (hbel.mono (by simp))); have HO := Lib.hid (hown.base (show w.heap.size + 1 ≤ _ by simp)); clear hown hbel)
    | fail)
  have B3 := below1 w2 (.cells #[.slice a' len cap'] 30)
  have hblk : ∀ ad, a' = some ad → w.heap.size < ad.block ∧ ad.block < w2.heap.size := fun ad had => by
    have ho := HO.out
    rcases Nat.eq_zero_or_pos len with h0 | h0
    · obtain ⟨aa, cc, hv, hsl, _, hlo⟩ := Own.slk (C := 2) (encL := encIt) (fun _ => rfl) ho
      obtain ⟨_, h2 | ⟨g, cap2, cur, hv2, hg, hh, _⟩⟩ := ho
      · cases h2.1; cases had
      · cases hv2; cases had
        have : g < w2.heap.size := by
          rcases Nat.lt_or_ge g w2.heap.size with h | h
          · exact h
          · rw [Array.getElem?_eq_none h] at hh; cases hh
        exact ⟨hg, this⟩
    · obtain ⟨g, rfl, hg, hgs, _, _⟩ := ho.at h0
      cases had
      exact ⟨hg, hgs⟩
  have hlt : w.heap.size + 1 ≤ w2.heap.size := block_of_cell HZ2.out.1
  have hC := sort_Slice a' len cap' (w.heap.size + 1) xs w.heap.size w2.heap.size nn ab lb cb bs (w2.alloc (.cells #[.slice a' len cap'] 30)) (HO.out.below B3) HL.out (Nat.le_trans hlt B3.size) (by omega)
    (HZ2.out.keep B3) (by simp) (fun ad had => by have := hblk ad had; omega) (fun ad had => by have := hblk ad had; omega)
    (HT.out.below (HB.out.trans (B3.mono HB.out.size)))
    (fun h0 ad had => by
      obtain ⟨_, _, _, h4⟩ := HT.out
      rcases h4 with h4 | ⟨b, off, ha, hb, _⟩
      · exact absurd h4 h0
      · rw [ha] at had; cases had; exact Nat.lt_succ_of_lt hb)
  have HC := Lib.hid hC
  have HB3 := Lib.hid (HB.out.trans (B3.mono HB.out.size))
  clear hC B3 hblk hlt
  generalize w2.alloc (.cells #[.slice a' len cap'] 30) = w3 at *
  refine HC.out.mono ?_
  rintro e w4 ⟨rfl, O, ho4, hso, hb4, hc4⟩
  have H4 := Lib.hid (And.intro ho4 (And.intro hso hb4))
  clear ho4 hso hb4
  go_wp2_with fail
  go_ret
  obtain ⟨ho4, hso, hb4⟩ := H4.out
  exact ⟨O, gives_it (ho4.base (Nat.le_succ _)) (by rw [hso.1.length_eq]; exact HL.out) (HB3.out.trans (hb4.mono (Nat.le_succ _))), hso⟩
#print axioms impl_Slice
#print axioms sort_Slice
end Go.Proofs.Ytaifikhgijnkgaa
