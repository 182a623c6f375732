import Derived.Test.Qxb6613926aDoorAu
namespace Go.Proofs.Qxb6613926aDoor.Au
open Go.ChangeShapes Go.WideShapes Go.ChangeAt Go.RowKit
set_option linter.unusedVariables false

theorem strAt (i : Nat) (w : World) (h0 : 1 ≤ i) (h1 : i ≤ 5) (hT : Tab w) : Calls Tryd.prog 5 #[.int .u8 i] w fun e w' => e = .returned (.string (nmAt i)) ∧ w' = w := by
  have h : i = 1 ∨ i = 2 ∨ i = 3 ∨ i = 4 ∨ i = 5 := by omega
  rcases h with rfl | rfl | rfl | rfl | rfl
  · exact str1 w hT
  · exact str2 w hT
  · exact str3 w hT
  · exact str4 w hT
  · exact str5 w hT

theorem nm_ne (a b : Nat) (h0 : 1 ≤ a) (h1 : a < b) (h2 : b ≤ 5) : ((nmAt a).toList == (nmAt b).toList) = false := by
  have ha : a = 1 ∨ a = 2 ∨ a = 3 ∨ a = 4 := by omega
  have hb : b = 2 ∨ b = 3 ∨ b = 4 ∨ b = 5 := by omega
  rcases ha with rfl | rfl | rfl | rfl <;> rcases hb with rfl | rfl | rfl | rfl <;> first | omega | simp [nmAt, n1, n2, n3, n4, n5, go_sem]

theorem len1 (w : World) (hT : Tab w) : Calls Tryd.prog 8 #[.int .u8 1] w fun e w' => e = .returned (.tuple #[.int .i64 1, .int .i64 16]) ∧ ∃ n, w' = w.drewN n := by
  have h : w.cell? ⟨0, 6, none⟩ = some (.int .i64 16) := (hT 1 (by omega)).2
  clear hT
  go_enter Tryd.func8, Tryd.ntmps8
  go_wp2
  go_quiet (fail)
  go_wp2
  go_ret2
  exact ⟨rfl, _, rfl⟩
theorem len2 (w : World) (hT : Tab w) : Calls Tryd.prog 8 #[.int .u8 2] w fun e w' => e = .returned (.tuple #[.int .i64 16, .int .i64 16]) ∧ ∃ n, w' = w.drewN n := by
  have h : w.cell? ⟨0, 10, none⟩ = some (.int .i64 16) := (hT 2 (by omega)).2
  clear hT
  go_enter Tryd.func8, Tryd.ntmps8
  go_wp2
  go_quiet (fail)
  go_wp2
  go_ret2
  exact ⟨rfl, _, rfl⟩
theorem len3 (w : World) (hT : Tab w) : Calls Tryd.prog 8 #[.int .u8 3] w fun e w' => e = .returned (.tuple #[.int .i64 16, .int .i64 16]) ∧ ∃ n, w' = w.drewN n := by
  have h : w.cell? ⟨0, 14, none⟩ = some (.int .i64 16) := (hT 3 (by omega)).2
  clear hT
  go_enter Tryd.func8, Tryd.ntmps8
  go_wp2
  go_quiet (fail)
  go_wp2
  go_ret2
  exact ⟨rfl, _, rfl⟩
theorem len4 (w : World) (hT : Tab w) : Calls Tryd.prog 8 #[.int .u8 4] w fun e w' => e = .returned (.tuple #[.int .i64 20, .int .i64 20]) ∧ ∃ n, w' = w.drewN n := by
  have h : w.cell? ⟨0, 18, none⟩ = some (.int .i64 20) := (hT 4 (by omega)).2
  clear hT
  go_enter Tryd.func8, Tryd.ntmps8
  go_wp2
  go_quiet (fail)
  go_wp2
  go_ret2
  exact ⟨rfl, _, rfl⟩
theorem len5 (w : World) (hT : Tab w) : Calls Tryd.prog 8 #[.int .u8 5] w fun e w' => e = .returned (.tuple #[.int .i64 20, .int .i64 20]) ∧ ∃ n, w' = w.drewN n := by
  have h : w.cell? ⟨0, 22, none⟩ = some (.int .i64 20) := (hT 5 (by omega)).2
  clear hT
  go_enter Tryd.func8, Tryd.ntmps8
  go_wp2
  go_quiet (fail)
  go_wp2
  go_ret2
  exact ⟨rfl, _, rfl⟩

/-- The new array of 256 empty names. -/
def blank : Array Value := Array.replicate 256 (.string ⟨#[]⟩)
theorem zero27 (W : World) : (zeroValue 27).run Tryd.prog W = .ok (.agg blank) W := by kernel_rfl
theorem blank_at (j : Nat) (h : j < 256) : blank[j]? = some (.string ⟨#[]⟩) := by simp [blank, h]

/-- How many types below i are defined. -/
def cnt (i : Nat) : Nat := if i ≤ 1 then 0 else if i ≤ 6 then i - 1 else 5
/-- How many of them take data of more than one length. -/
def smp (i : Nat) : Nat := if i ≤ 1 then 0 else 1

/-- The array of names at block N: c of them are laid. -/
structure Names (N c : Nat) (w wr : World) : Prop where
  below : Below N w wr
  fro : ∀ j, j < 256 → wr.frozen? ⟨N, j, none⟩ = false
  has : ∀ j, j < 256 → ∃ s, wr.cell? ⟨N, j, none⟩ = some (.string s)
  cell : ∀ j, j < c → wr.cell? ⟨N, j, none⟩ = some (.string (nmAt (j + 1)))

theorem Names.start (w : World) : Names w.heap.size 0 w (w.alloc (.cells blank 27)) where
  below := (Below.refl _ _).alloc (Nat.le_refl _) _
  fro := fun j _ => World.frozen?_alloc_at _ _ _ _ rfl
  has := fun j hj => ⟨_, by rw [World.cell?_alloc_at _ _ _ _ rfl]; exact blank_at j hj⟩
  cell := fun j hj => by omega

theorem Names.drewN {N c : Nat} {w wr : World} (h : Names N c w wr) (n : Nat) : Names N c w (wr.drewN n) := ⟨below_drewN h.below n, h.fro, h.has, h.cell⟩

theorem Names.put {N c : Nat} {w wr : World} (h : Names N c w wr) (hc : c < 256) : Names N (c + 1) w (wr.setCell ⟨N, c, none⟩ (.string (nmAt (c + 1)))) where
  below := h.below.setCell (Nat.le_refl _) _
  fro := fun j hj => by rw [World.frozen?_setCell]; exact h.fro j hj
  has := fun j hj => by
    by_cases e : j = c
    · subst e
      obtain ⟨s, hs⟩ := h.has j hj
      exact ⟨_, World.cell?_setCell_same _ _ _ hs⟩
    · rw [World.cell?_setCell_other _ _ _ _ (by intro e2; exact e (congrArg Addr.off e2).symm)]
      exact h.has j hj
  cell := fun j hj => by
    by_cases e : j = c
    · subst e
      obtain ⟨s, hs⟩ := h.has j hc
      exact World.cell?_setCell_same _ _ _ hs
    · rw [World.cell?_setCell_other _ _ _ _ (by intro e2; exact e (congrArg Addr.off e2).symm)]
      exact h.cell j (by omega)

theorem Tab.below {w wr : World} {N : Nat} (h : Tab w) (hN : 0 < N) (hb : Below N w wr) : Tab wr := fun i hi => by
  rw [hb.cell (p := ⟨0, 4 * i, none⟩) hN, hb.cell (p := ⟨0, 4 * i + 2, none⟩) hN]
  exact h i hi

set_option maxHeartbeats 400000 in
theorem lawB (w : World) (hT : Tab w) :
    Calls Tryd.prog 4 #[] w fun e w' => e = .returned (.bool true) ∧ Below w.heap.size w w' := by
  have hN : 0 < w.heap.size := World.block_lt_of_cell? _ _ (hT 0 (by omega)).1
  have HT : Hid (Tab w) := hT
  have hz := zero27
  clear hT
  go_enter Tryd.func4, Tryd.ntmps4
  go_wp2
  clear hz
  go_loopg [2, 3, 4] 256 (fun g c m i wr => ∃ k : Nat, g + k = 256 ∧ c = .int .i64 (cnt k) ∧ m = .int .i64 (smp k) ∧ i = .int .i64 k ∧ Names w.heap.size (cnt k) w wr)
  case atStart => exact ⟨0, rfl, rfl, rfl, rfl, Names.start w⟩
  case round =>
    obtain ⟨k, hgk, rfl, rfl, rfl, hn⟩ := hrel
    have hT : Hid (Tab wr) := HT.out.below hN hn.below
    have HG : Hid (gk + k = 256) := hgk
    clear hgk
    by_cases hk : (k : Int) < 256
    · by_cases hd : k = 0 ∨ 6 ≤ k
      · have HK : Hid (cnt (k + 1) = cnt k ∧ smp (k + 1) = smp k) := by unfold cnt smp; constructor <;> (repeat' split) <;> omega
        have HN : Hid (Names w.heap.size (cnt k) w wr) := hn
        clear hn
        generalize cnt k = c at HK HN ⊢
        generalize smp k = m at HK HN ⊢
        have hd' : Hid ((k : Int) = 0 ∨ 6 ≤ (k : Int)) := by rcases hd with rfl | h; exact .inl rfl; exact .inr (by omega)
        clear hd
        go_wp2_with fail
        refine (def_no _ _ (by omega) (by omega) hd'.out).mono ?_
        rintro e w' ⟨rfl, rfl⟩
        go_wp2_with fail
        go_roundg (gk - 1)
        case measure => have := HG.out; omega
        case rel => exact ⟨k + 1, by have := HG.out; omega, by rw [HK.out.1], by rw [HK.out.2], by go_num, by rw [HK.out.1]; exact HN⟩
      · have hk1 : 1 ≤ k := by omega
        have hk5 : (k : Int) ≤ 5 := by omega
        have HK : Hid (cnt k = k - 1 ∧ cnt (k + 1) = k ∧ smp k = (if k = 1 then 0 else 1) ∧ smp (k + 1) = 1) := by unfold cnt smp; refine ⟨?_, ?_, ?_, ?_⟩ <;> (repeat' split) <;> omega
        obtain ⟨c, hck⟩ : ∃ c, cnt k = c := ⟨_, rfl⟩
        have HC : Hid (c + 1 = k) := by have := HK.out.1; show c + 1 = k; omega
        rw [hck] at hn ⊢
        clear hck hd
        have hc5 : (c : Int) ≤ 4 := by have := HC.out; omega
        have hk0 : 1 ≤ (k : Int) := by omega
        have hkc : (k : Int) = c + 1 := by have := HC.out; omega
        have HC2 : Hid ((k : Int) = c + 1) := hkc
        clear hkc hk1
        go_wp2_with fail
        refine (def_yes _ _ (by omega) (by omega)).mono ?_
        rintro e w' ⟨rfl, hw⟩; replace hw := hw.symm; subst hw
        go_wp2_with fail
        refine (strAt k _ (by omega) (by omega) hT.out).mono ?_
        rintro e w' ⟨rfl, hw⟩; replace hw := hw.symm; subst hw
        go_wp2_with fail
        have HTw : Hid (Tab w) := HT
        obtain ⟨G, hG⟩ : ∃ G, G = gk := ⟨_, rfl⟩
        subst hG
        go_loopg [7] c (fun g j wr2 => ∃ q : Nat, Hid (g + q = c) ∧ j = .int .i64 q ∧ wr2 = wr)
        case atStart => exact ⟨0, rfl, rfl, rfl⟩
        case round =>
          obtain ⟨q, hq, rfl, rfl⟩ := hrel
          by_cases hlt : (q : Int) < c
          · have hcell := hn.cell q (by omega)
            have hne := nm_ne (q + 1) k (by omega) (by have := HC.out; omega) (by omega)
            have hq256 : (q : Int) < 256 := by omega
            go_wp2
            go_roundg (gk - 1)
            case measure => have := hq.out; omega
            case rel => exact ⟨q + 1, by have := hq.out; show _ = _; omega, by go_num, rfl⟩
          · have hqc : q = c := by have := hq.out; omega
            subst hqc
            clear hlt hq
            obtain ⟨s0, hs0⟩ := hn.has q (by omega)
            have hf0 := hn.fro q (by omega)
            have hn1 : Hid (Names w.heap.size (q + 1) w (wr.setCell ⟨w.heap.size, q, none⟩ (.string (nmAt k)))) := by
              have := hn.put (by omega)
              rw [HC.out] at this ⊢
              exact this
            have hT1 : Hid (Tab (wr.setCell ⟨w.heap.size, q, none⟩ (.string (nmAt k)))) := HTw.out.below hN hn1.out.below
            have hq256 : (q : Int) < 256 := by omega
            clear hn
            go_wp2_with fail
            generalize wr.setCell ⟨w.heap.size, q, none⟩ (.string (nmAt k)) = W1 at hn1 hT1 ⊢
            clear hs0 hf0 hT HT HTw
            by_cases h1 : k = 1
            · subst h1
              have hq0 : q = 0 := by have := HC.out; omega
              subst hq0
              have hsm : ((smp 1 : Nat) : Int) = 0 := rfl
              rw [hsm]
              clear hsm
              have hnm : ((nmAt 1).toList == [115, 105, 109, 112, 108, 101, 45, 112, 97, 115, 115, 119, 111, 114, 100]) = true := by simp [nmAt, n1, go_sem]
              refine (len1 _ hT1.out).mono ?_
              rintro e w' ⟨rfl, n, rfl⟩
              go_wp2_with fail
              go_roundg (G - 1)
              case measure => have := HG.out; omega
              case rel => exact ⟨2, by have := HG.out; omega, rfl, rfl, rfl, hn1.out.drewN n⟩
            · have hk' : k = 2 ∨ k = 3 ∨ k = 4 ∨ k = 5 := by omega
              rcases hk' with rfl | rfl | rfl | rfl
              · have hq0 : q = 1 := by have := HC.out; omega
                subst hq0
                have hsm : ((smp 2 : Nat) : Int) = 1 := rfl
                rw [hsm]
                clear hsm h1
                refine (len2 _ hT1.out).mono ?_
                rintro e w' ⟨rfl, n, rfl⟩
                go_wp2_with fail
                go_roundg (G - 1)
                case measure => have := HG.out; omega
                case rel => exact ⟨3, by have := HG.out; omega, rfl, rfl, rfl, hn1.out.drewN n⟩
              · have hq0 : q = 2 := by have := HC.out; omega
                subst hq0
                have hsm : ((smp 3 : Nat) : Int) = 1 := rfl
                rw [hsm]
                clear hsm h1
                refine (len3 _ hT1.out).mono ?_
                rintro e w' ⟨rfl, n, rfl⟩
                go_wp2_with fail
                go_roundg (G - 1)
                case measure => have := HG.out; omega
                case rel => exact ⟨4, by have := HG.out; omega, rfl, rfl, rfl, hn1.out.drewN n⟩
              · have hq0 : q = 3 := by have := HC.out; omega
                subst hq0
                have hsm : ((smp 4 : Nat) : Int) = 1 := rfl
                rw [hsm]
                clear hsm h1
                refine (len4 _ hT1.out).mono ?_
                rintro e w' ⟨rfl, n, rfl⟩
                go_wp2_with fail
                go_roundg (G - 1)
                case measure => have := HG.out; omega
                case rel => exact ⟨5, by have := HG.out; omega, rfl, rfl, rfl, hn1.out.drewN n⟩
              · have hq0 : q = 4 := by have := HC.out; omega
                subst hq0
                have hsm : ((smp 5 : Nat) : Int) = 1 := rfl
                rw [hsm]
                clear hsm h1
                refine (len5 _ hT1.out).mono ?_
                rintro e w' ⟨rfl, n, rfl⟩
                go_wp2_with fail
                go_roundg (G - 1)
                case measure => have := HG.out; omega
                case rel => exact ⟨6, by have := HG.out; omega, rfl, rfl, rfl, hn1.out.drewN n⟩
    · have hk2 : k = 256 := by have := HG.out; omega
      subst hk2
      have h1 : cnt 256 = 5 := rfl
      have h2 : smp 256 = 1 := rfl
      rw [h1, h2]
      clear h1 h2
      go_wp2
      go_ret
      exact ⟨rfl, hn.below⟩
end Go.Proofs.Qxb6613926aDoor.Au
