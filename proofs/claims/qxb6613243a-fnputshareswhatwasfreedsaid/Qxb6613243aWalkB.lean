import Derived.Test.Qxb6613243aWalkA
import Derived.LaidEqlPtr
namespace Go.Proofs.Qxb6613243a.Put
open Go.ChangeShapes Go.WideShapes Go.ChangeAt Go.RowKit
set_option linter.unusedVariables false

theorem info40 : ∃ j, Try.prog.info? 40 = some j ∧ j.size ≠ 0 := by
  have h : (Try.prog.info? 40).map (fun i => i.size) = some 2 := by kernel_rfl
  cases e : Try.prog.info? 40 with
  | none => rw [e] at h; cases h
  | some j => rw [e] at h; exact ⟨j, rfl, by simp at h; omega⟩

/-- '==' between pointers to two nodes in different new blocks. -/
theorem eql_other (w : World) {a b : Addr} {ca cb : Array Value} {ta tb : TypeId} (hne : a ≠ b) (ha : w.heap[a.block]? = some (.cells ca ta (0, 0))) (hb : w.heap[b.block]? = some (.cells cb tb (0, 0))) :
    (binOp .eql 30 (.pointer (some a)) (.pointer (some b))).run Try.prog w = .ok (.bool false) w := by
  obtain ⟨j, hj, hs⟩ := info40
  exact run_eql_ptr_other w Try.underlying30 hj hs hne ha hb

/-- '!=' between a pointer and itself. -/
theorem neq_self (w : World) (u : Option Addr) : (binOp .neq 30 (.pointer u) (.pointer u)).run Try.prog w = .ok (.bool false) w := by
  obtain ⟨j, hj, hs⟩ := info40
  have h : ∀ d : Nat, (Op.equalIn (d + 1) 30 (.pointer u) (.pointer u)).run Try.prog w = .ok true w := fun d => by
    cases u <;> simp [Op.equalIn, run_underlying Try.underlying30, sizeOf, typeInfo, hj, run_sameAddr_same]
  simp only [binOp]
  simp [Op.equal, Op.maxDepth, h 9999]

/-- What a put into the vacancies at block N leaves: a new node at block M, bearing z and leading to u; the head leads to it; all other cells stand. -/
structure PutAt (N M : Nat) (z : Int) (u : Option Addr) (w w' : World) : Prop where
  size : w'.heap.size = M + 1
  head : w'.cell? ⟨N, 0, none⟩ = some (.pointer (some ⟨M, 0, none⟩))
  idx : w'.cell? ⟨M, 0, none⟩ = some (.int .i64 z)
  nxt : w'.cell? ⟨M, 1, none⟩ = some (.pointer u)
  old : ∀ b o, b < M → b ≠ N → w'.cell? ⟨b, o, none⟩ = w.cell? ⟨b, o, none⟩
  fro : ∀ b o, b < M → w'.frozen? ⟨b, o, none⟩ = w.frozen? ⟨b, o, none⟩
  below : ∀ B, B ≤ N → Below B w w'
  blk : w'.heap[M]? = some (.cells #[.int .i64 z, .pointer u] 40 (0, 0))
  blks : ∀ b, b < M → b ≠ N → w'.heap[b]? = w.heap[b]?

theorem put_abs (w : World) (N M : Nat) (u : Option Addr) (z : Int) (hc : w.cell? ⟨N, 0, none⟩ = some (.pointer u)) (hf : w.frozen? ⟨N, 0, none⟩ = false) (hN : N < M) (hM : w.heap.size = M) :
    Calls Try.prog 12 #[.pointer (some ⟨N, 0, none⟩), .int .i64 z] w fun e w' => e = .returned (.tuple #[]) ∧ PutAt N M z u w w' := by
  subst hM
  refine (put_any w N u z hc hf hN).mono ?_
  rintro e w' ⟨rfl, rfl⟩
  have hs : ∀ v, (w.setCell ⟨N, 0, none⟩ v).heap.size = w.heap.size := fun v => by simp
  refine ⟨rfl, by simp, ?_, ?_, ?_, ?_, ?_, ?_, ?_, ?_⟩
  · rw [World.cell?_alloc_lt _ _ _ (by simp only [hs]; exact hN), World.cell?_setCell_same _ _ _ hc]
  · rw [World.cell?_alloc_at _ _ _ _ (by simp)]; rfl
  · rw [World.cell?_alloc_at _ _ _ _ (by simp)]; rfl
  · intro b o h1 h2
    rw [World.cell?_alloc_lt _ _ _ (by simp only [hs]; exact h1), World.cell?_setCell_other _ _ _ _ (by intro e; exact h2 (congrArg Addr.block e).symm)]
  · intro b o h1
    rw [World.frozen?_alloc_past _ _ _ (by simp only [hs]; exact h1)]
    simp
  · intro B hB
    exact ((Below.refl _ _).setCell hB _).alloc (by simp only [hs]; omega) _
  · have e := hs (.pointer (some ⟨w.heap.size, 0, none⟩))
    revert e
    generalize w.setCell ⟨N, 0, none⟩ (.pointer (some ⟨w.heap.size, 0, none⟩)) = W
    intro e
    rw [← e]
    show (W.heap.push _)[W.heap.size]? = _
    exact Array.getElem?_push_size
  · intro b h1 h2
    rw [Below.heap_alloc _ _ _ (by rw [hs]; exact h1), Below.heap_setCell _ _ _ _ h2]

/-- What sharing leaves: a new head at block M that holds u. -/
structure ShareAt (M : Nat) (u : Option Addr) (w w' : World) : Prop where
  size : w'.heap.size = M + 1
  head : w'.cell? ⟨M, 0, none⟩ = some (.pointer u)
  hfro : w'.frozen? ⟨M, 0, none⟩ = false
  old : ∀ b o, b < M → w'.cell? ⟨b, o, none⟩ = w.cell? ⟨b, o, none⟩
  fro : ∀ b o, b < M → w'.frozen? ⟨b, o, none⟩ = w.frozen? ⟨b, o, none⟩
  below : ∀ B, B ≤ M → Below B w w'

theorem share_abs (w : World) (N M : Nat) (u : Option Addr) (hc : w.cell? ⟨N, 0, none⟩ = some (.pointer u)) (hM : w.heap.size = M) :
    Calls Try.prog 17 #[.pointer (some ⟨N, 0, none⟩)] w fun e w' => e = .returned (.pointer (some ⟨M, 0, none⟩)) ∧ ShareAt M u w w' := by
  subst hM
  refine (share_any w N u hc (World.block_lt_of_cell? _ _ hc)).mono ?_
  rintro e w' ⟨rfl, rfl⟩
  refine ⟨rfl, by simp, ?_, ?_, ?_, ?_, ?_⟩
  · rw [World.cell?_alloc_at _ _ _ _ rfl]; rfl
  · rw [World.frozen?_alloc_at _ _ _ _ rfl]
  · intro b o h1
    rw [World.cell?_alloc_lt _ _ _ h1]
  · intro b o h1
    rw [World.frozen?_alloc_past _ _ _ h1]
  · intro B hB
    exact (Below.refl _ _).alloc hB _

/-- The world behind both puts: x's node at block B + 1 over the shared list, y's at block B + 2. -/
structure Both (N k : Nat) (Z : Nat → Int) (x y : Int) (w wr : World) : Prop where
  below : Below N w wr
  nodes : Nodes N k Z wr
  hv : wr.cell? ⟨N, 0, none⟩ = some (.pointer (some ⟨N + 1 + k + 2, 0, none⟩))
  hw : wr.cell? ⟨N + 1 + k, 0, none⟩ = some (.pointer (some ⟨N + 1 + k + 1, 0, none⟩))
  xi : wr.cell? ⟨N + 1 + k + 1, 0, none⟩ = some (.int .i64 x)
  xn : wr.cell? ⟨N + 1 + k + 1, 1, none⟩ = some (.pointer (ptr N k))
  yi : wr.cell? ⟨N + 1 + k + 2, 0, none⟩ = some (.int .i64 y)
  yn : wr.cell? ⟨N + 1 + k + 2, 1, none⟩ = some (.pointer (ptr N k))
  eq : (binOp .eql 30 (.pointer (some ⟨N + 1 + k + 2, 0, none⟩)) (.pointer (some ⟨N + 1 + k + 1, 0, none⟩))).run Try.prog wr = .ok (.bool false) wr

theorem both {N k : Nat} {Z : Nat → Int} {x y : Int} {w wr w1 w2 w3 : World} (hb : Built N k Z w wr) (h1 : ShareAt (N + 1 + k) (ptr N k) wr w1)
    (h2 : PutAt (N + 1 + k) (N + 1 + k + 1) x (ptr N k) w1 w2) (h3 : PutAt N (N + 1 + k + 2) y (ptr N k) w2 w3) : Both N k Z x y w w3 where
  below := ((hb.below.trans (h1.below N (by omega))).trans (h2.below N (by omega))).trans (h3.below N (Nat.le_refl _))
  nodes := hb.nodes.keep fun i o hi => by rw [h3.old _ _ (by omega) (by omega), h2.old _ _ (by omega) (by omega), h1.old _ _ (by omega)]
  hv := h3.head
  hw := by rw [h3.old _ _ (by omega) (by omega)]; exact h2.head
  xi := by rw [h3.old _ _ (by omega) (by omega)]; exact h2.idx
  xn := by rw [h3.old _ _ (by omega) (by omega)]; exact h2.nxt
  yi := h3.idx
  yn := h3.nxt
  eq := eql_other w3 (by intro e; have := congrArg Addr.block e; simp only [] at this; omega) h3.blk (by rw [h3.blks _ (by simp only []; omega) (by simp only []; omega)]; exact h2.blk)

set_option maxHeartbeats 400000 in
theorem walkB (a0 : Option Addr) (len cap : Nat) (Z : Nat → Int) (x y : Int) (w : World) (hl : len ≤ 65536)
    (hrow : ∀ k, k < len → ∃ b off, a0 = some ⟨b, off, none⟩ ∧ w.cell? ⟨b, off + k, none⟩ = some (.int .i64 (Z k)) ∧ b < w.heap.size ∧ len ≤ cap) :
    Calls Try.prog 6 #[.slice a0 len cap, .int .i64 x, .int .i64 y] w fun e w' => e = .returned (.bool true) ∧ Below w.heap.size w w' := by
  go_enter Try.func6, Try.ntmps6
  go_wp2_with (first | (go_at_call 16; refine (bytes6 _ _ _ _ _ _ (by omega)).mono ?_; rintro e w' ⟨rfl, hw⟩; replace hw := hw.symm; subst hw) | (go_at_call 11; refine (new_any _).mono ?_; rintro e w' ⟨rfl, rfl⟩))
  go_loopg [8] (len) (fun g i wr => ∃ k : Nat, g + k = len ∧ i = .int .i64 k ∧ Built w.heap.size k Z w wr)
  case atStart => exact ⟨0, by omega, rfl, Built.start w Z⟩
  case round =>
    obtain ⟨k, hgk, rfl, hb⟩ := hrel
    by_cases hlt : k < len
    · obtain ⟨b, off, rfl, hcell, hbl, hlc⟩ := hrow k hlt
      have hcell' : wr.cell? ⟨b, off + k, none⟩ = some (.int .i64 (Z k)) := by rw [hb.below.cell hbl]; exact hcell
      go_wp2_with (go_at_call 12; refine (put_any _ _ _ _ hb.head hb.fro (by rw [hb.size]; omega)).mono ?_; rintro e w' ⟨rfl, rfl⟩)
      go_roundg (gk - 1)
      case measure => omega
      case rel => exact ⟨k + 1, by omega, by go_num, hb.step (Nat.le_refl _)⟩
    · have hkl : k = len := by omega
      subst hkl
      clear hgk
      go_wp2_with fail
      refine (head_any _ _ _ hb.head).mono ?_
      rintro e w' ⟨rfl, hw⟩; replace hw := hw.symm; subst hw
      go_wp2_with fail
      refine (share_abs _ _ _ _ hb.head hb.size).mono ?_
      rintro e w1 ⟨rfl, h1⟩
      go_wp2_with fail
      refine (put_abs _ _ _ _ _ h1.head h1.hfro (by omega) h1.size).mono ?_
      rintro e w2 ⟨rfl, h2⟩
      go_wp2_with fail
      refine (put_abs _ _ _ (ptr w.heap.size k) _ (by rw [h2.old _ _ (by omega) (by omega), h1.old _ _ (by omega)]; exact hb.head) (by rw [h2.fro _ _ (by omega), h1.fro _ _ (by omega)]; exact hb.fro) (by omega) h2.size).mono ?_
      rintro e w3 ⟨rfl, h3⟩
      have B := both hb h1 h2 h3
      clear hb h1 h2 h3
      go_wp2_with fail
      refine (head_any _ _ _ B.hv).mono ?_
      rintro e w' ⟨rfl, hw⟩; replace hw := hw.symm; subst hw
      go_wp2_with fail
      refine (head_any _ _ _ B.hw).mono ?_
      rintro e w' ⟨rfl, hw⟩; replace hw := hw.symm; subst hw
      have heq := B.eq
      have hns := neq_self w3 (ptr w.heap.size k)
      go_wp2_with fail
      refine (index_any _ _ _ B.yi).mono ?_
      rintro e w' ⟨rfl, hw⟩; replace hw := hw.symm; subst hw
      go_wp2_with fail
      refine (index_any _ _ _ B.xi).mono ?_
      rintro e w' ⟨rfl, hw⟩; replace hw := hw.symm; subst hw
      go_wp2_with fail
      refine (next_any _ _ _ B.yn).mono ?_
      rintro e w' ⟨rfl, hw⟩; replace hw := hw.symm; subst hw
      go_wp2_with fail
      refine (next_any _ _ _ B.xn).mono ?_
      rintro e w' ⟨rfl, hw⟩; replace hw := hw.symm; subst hw
      go_wp2_with fail
      have hbel := B.below
      have hnod := B.nodes
      clear B heq hns
      go_loopg [13, 14] (k) (fun g p i wr2 => g ≤ k ∧ p = .pointer (ptr w.heap.size g) ∧ i = .int .i64 ((g : Int) - 1) ∧ Below w.heap.size w wr2 ∧ Nodes w.heap.size k Z wr2)
      case atStart => exact ⟨Nat.le_refl _, rfl, by go_num, hbel, hnod⟩
      case round =>
        clear hbel hnod
        obtain ⟨hg, rfl, rfl, hbel, hnod⟩ := hrel
        cases gk with
        | zero =>
          go_wp2
          go_ret
          exact ⟨rfl, hbel⟩
        | succ g =>
          obtain ⟨b, off, rfl, hcell, hbl, hlc⟩ := hrow g (by omega)
          have hcell' : wr.cell? ⟨b, off + g, none⟩ = some (.int .i64 (Z g)) := by rw [hbel.cell hbl]; exact hcell
          have h0 := hnod.idx g (by omega)
          have h1 := hnod.nxt g (by omega)
          have hcst : ((g + 1 : Nat) : Int) - 1 = (g : Int) := by omega
          rw [hcst]
          clear hcst
          rw [ptr_succ]
          clear hrow hcell hlt
          go_wp2
          go_quiet ((go_at_call 14; exact Calls.quiet_of_same (index_any _ _ _ (by simpa using h0))))
          go_wp2_with (go_at_call 15; refine (next_any _ _ _ (by simpa using h1)).mono ?_; rintro e w' ⟨rfl, rfl⟩)
          go_roundg (g)
          case measure => omega
          case rel => exact ⟨by omega, rfl, by go_num, below_drewN hbel _, ⟨hnod.idx, hnod.nxt⟩⟩

theorem walkB_long (a0 : Option Addr) (len cap : Nat) (x y : Int) (w : World) (hl : 65536 < len) :
    Calls Try.prog 6 #[.slice a0 len cap, .int .i64 x, .int .i64 y] w fun e w' => e = .returned (.bool true) ∧ Below w.heap.size w w' := by
  by_cases h : len ≤ 1048576
  · go_enter Try.func6, Try.ntmps6
    go_wp2_with (go_at_call 16; refine (bytes6 _ _ _ _ _ _ h).mono ?_; rintro e w' ⟨rfl, hw⟩; replace hw := hw.symm; subst hw)
    go_ret
    exact ⟨rfl, Below.refl _ _⟩
  · go_enter Try.func6, Try.ntmps6
    go_wp2_with (go_at_call 16; refine (bytes6_no _ _ _ _ _ _ (by omega)).mono ?_; rintro e w' ⟨rfl, hw⟩; replace hw := hw.symm; subst hw)
    go_ret
    exact ⟨rfl, Below.refl _ _⟩
end Go.Proofs.Qxb6613243a.Put
