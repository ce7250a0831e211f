import Derived.Test.YbulkcfriTSOps
import Derived.Test.YbulkcfriEqSame
namespace Go.Proofs.Ybulkcfri
open Go.ChangeShapes Go.WideShapes Go.ChangeAt Go.RowKit Go.MuLone
/-- The script's steps, as they lie. -/
def OpsAt (w : World) (ad : Option Addr) (L : Nat) (d1 d2 d3 : Nat → Nat) : Prop := L = 0 ∨ ∃ b off, ad = some ⟨b, off, none⟩ ∧ b < w.heap.size ∧ ∀ i, i < L → w.cell? ⟨b, off + i * 3, none⟩ = some (.int .u8 (d1 i)) ∧ w.cell? ⟨b, off + i * 3 + 1, none⟩ = some (.int .u8 (d2 i)) ∧ w.cell? ⟨b, off + i * 3 + 2, none⟩ = some (.int .u8 (d3 i)) ∧ d1 i < 256 ∧ d2 i < 256 ∧ d3 i < 256
theorem TS.new {w : World} {B M : Nat} (hM : w.heap[M]? = some (.cells (tCells 0 (.slice none 0 0) 0 (.map none)) 96 (0, 0))) (hB : B ≤ M) : TS B M 0 w [] (fun _ => none) 0 :=
  ⟨.slice none 0 0, 0, .map none, [], fun _ => .slice none 0 0, fun _ => none, ⟨hM, hB, World.ownsRow_nil _ _ _ _, Nat.zero_le _, by simp [tot], .inl ⟨rfl, rfl, rfl⟩, (fun k hk => rfl), (fun k q hk hq => by cases hq), (fun k q g hk hq => by cases hq), (fun k k' q q' g hk hk' hne hq => by cases hq), Nat.le_refl _⟩, rfl⟩
def Built (w w' : World) : Prop := ∃ fl H n, TS w.heap.size w.heap.size 1024 w' fl H n ∧ Kept w.heap.size w w'
set_option maxRecDepth 100000 in
set_option maxHeartbeats 4000000 in
theorem build_any (ad : Option Addr) (L c : Nat) (d1 d2 d3 : Nat → Nat) (w : World) (hops : OpsAt w ad L d1 d2 d3) (hL : L ≤ 1024) :
    Calls Yba.prog 9 #[.slice ad L c] w fun e w' => e = .returned (.pointer (some ⟨w.heap.size, 0, none⟩)) ∧ Built w w' := by
  go_enter Yba.func9, Yba.ntmps9
  go_wp2
  have hts := TS.new (w := w.alloc (.cells (tCells 0 (.slice none 0 0) 0 (.map none)) 96)) (B := w.heap.size) (M := w.heap.size) (by rw [heap_alloc, if_pos rfl]) (Nat.le_refl _)
  have hkp : Kept w.heap.size w (w.alloc (.cells (tCells 0 (.slice none 0 0) 0 (.map none)) 96)) := Kept.of_below (below_alloc _ _)
  change Code.wp _ _ _ _ (w.alloc (.cells (tCells 0 (.slice none 0 0) 0 (.map none)) 96))
  generalize (w.alloc (.cells (tCells 0 (.slice none 0 0) 0 (.map none)) 96)) = w0 at *
  obtain ⟨M, hMe⟩ : ∃ M, w.heap.size = M := ⟨_, rfl⟩
  rw [hMe] at hts hkp ⊢
  go_loopg [12] L (fun gk p wr => ∃ i : Nat, i ≤ L ∧ p = .int .i64 i ∧ L ≤ gk + i ∧ ∃ fl H n, TS M M i wr fl H n ∧ Kept M w wr)
  case atStart => exact ⟨0, Nat.zero_le _, rfl, by omega, _, _, _, hts, hkp⟩
  case round =>
    obtain ⟨i, hile, rfl, hgk, fl, H, n, ht, hk⟩ := hrel
    clear hts hkp
    by_cases hilt : i < L
    · have hil : (i : Int) < L := by omega
      rcases hops with h0 | ⟨b, off, rfl, hbl, hc⟩
      · omega
      obtain ⟨c1, c2, c3, l1, l2, l3⟩ := hc i hilt
      have hbk := hk.below (by rw [hMe]; exact Nat.le_refl _)
      have c1' := (World.cell?_of_block (a := ⟨b, off + i * 3, none⟩) (hbk.block b (hMe ▸ hbl))).trans c1
      have c2' := (World.cell?_of_block (a := ⟨b, off + i * 3 + 1, none⟩) (hbk.block b (hMe ▸ hbl))).trans c2
      have c3' := (World.cell?_of_block (a := ⟨b, off + i * 3 + 2, none⟩) (hbk.block b (hMe ▸ hbl))).trans c3
      clear c1 c2 c3 hc
      generalize d1 i = x1 at *
      generalize d2 i = x2 at *
      generalize d3 i = x3 at *
      go_wp2
      go_quiet (refine Calls.quiet_of_same (name_any _ (by assumption) _))
      generalize hWe : World.drewN _ _ = W
      have hbW : Below wr.heap.size wr W := by rw [← hWe]; exact (below_alloc _ _).trans ⟨rfl, rfl, rfl, Nat.le_refl _, fun _ _ => rfl⟩
      have hNW : W.heap[wr.heap.size]? = some (.cells #[.int .u8 x1, .int .u8 x2, .int .u8 x3] 107 (0, 0)) := by
        rw [← hWe]
        show (World.alloc wr _).heap[wr.heap.size]? = _
        rw [heap_alloc, if_pos rfl]
      clear hWe
      replace ht := ht.below hbW
      replace hk : Kept M w W := hk.trans (Kept.of_below hbW)
      have e1 := cell_of (j := 0) hNW rfl
      have e2 := cell_of (j := 1) hNW rfl
      have e3 := cell_of (j := 2) hNW rfl
      clear c1' c2' c3' hbk hbW
      have fin : ∀ (W2 : World) fl H n, TS M M (i + 1) W2 fl H n → Kept M W W2 → ∃ j : Nat, j ≤ L ∧ Value.int .i64 ((i : Int) + 1) = .int .i64 j ∧ L ≤ (gk - 1) + j ∧ ∃ fl H n, TS M M j W2 fl H n ∧ Kept M w W2 := fun W2 fl H n h1 h2 => ⟨i + 1, hilt, by simp, by omega, fl, H, n, h1, hk.trans h2⟩
      by_cases z0 : x1 % 5 = 0
      · have b0 : ((x1 : Int) % 5 == 0) = true := by simp; omega
        clear z0
        cases hkx : H (ix x2 x3) with
        | none =>
          go_wp2_with fail
          refine (send_ts_free x2 x3 ht (by omega) hkx).mono ?_
          rintro e W2 ⟨rfl, h1, h2⟩
          go_wp2
          go_roundg (gk - 1)
          case measure => omega
          case rel => exact fin _ _ _ _ (h1.mono (by omega)) h2
        | some q =>
          go_wp2_with fail
          refine (send_ts_held x2 x3 q ht (by omega) hkx).mono ?_
          rintro e W2 ⟨rfl, h1, h2⟩
          go_wp2
          go_roundg (gk - 1)
          case measure => omega
          case rel => exact fin _ _ _ _ (h1.mono (by omega)) h2
      · have b0 : ((x1 : Int) % 5 == 0) = false := by simp; omega
        by_cases z1 : x1 % 5 = 1
        · have b1 : ((x1 : Int) % 5 == 1) = true := by simp; omega
          clear z0 z1
          cases hkx : H (ix x2 x3) with
          | none =>
            go_wp2_with fail
            refine (send_ts_free x2 x3 ht (by omega) hkx).mono ?_
            rintro e W2 ⟨rfl, h1, h2⟩
            go_wp2
            go_roundg (gk - 1)
            case measure => omega
            case rel => exact fin _ _ _ _ (h1.mono (by omega)) h2
          | some q =>
            go_wp2_with fail
            refine (send_ts_held x2 x3 q ht (by omega) hkx).mono ?_
            rintro e W2 ⟨rfl, h1, h2⟩
            go_wp2
            go_roundg (gk - 1)
            case measure => omega
            case rel => exact fin _ _ _ _ (h1.mono (by omega)) h2
        · have b1 : ((x1 : Int) % 5 == 1) = false := by simp; omega
          by_cases z2 : x1 % 5 = 2
          · have b2 : ((x1 : Int) % 5 == 2) = true := by simp; omega
            clear z0 z1 z2
            cases hkx : H (ix x2 x3) with
            | none =>
              go_wp2_with fail
              refine (hold_ts_new x2 x3 ht (by omega) hkx).mono ?_
              rintro e W2 ⟨rfl, h1, h2⟩
              go_wp2
              go_roundg (gk - 1)
              case measure => omega
              case rel => exact fin _ _ _ _ (h1.mono (by omega)) h2
            | some q =>
              go_wp2_with fail
              refine (hold_ts_known x2 x3 q ht hkx).mono ?_
              rintro e W2 ⟨rfl, h1, h2⟩
              go_wp2
              go_roundg (gk - 1)
              case measure => omega
              case rel => exact fin _ _ _ _ (h1.mono (by omega)) h2
          · have b2 : ((x1 : Int) % 5 == 2) = false := by simp; omega
            by_cases z3 : x1 % 5 = 3
            · have b3 : ((x1 : Int) % 5 == 3) = true := by simp; omega
              clear z0 z1 z2 z3
              go_wp2_with fail
              refine (rel_ts x2 x3 ht (by omega)).mono ?_
              rintro e W2 ⟨rfl, h1, h2⟩
              go_wp2
              go_roundg (gk - 1)
              case measure => omega
              case rel => exact fin _ _ _ _ (h1.mono (by omega)) h2
            · have b3 : ((x1 : Int) % 5 == 3) = false := by simp; omega
              clear z0 z1 z2 z3
              go_wp2_with fail
              cases fl with
              | nil =>
                refine (next_ts_nil ht).mono ?_
                rintro e W2 ⟨rfl, h1, h2⟩
                go_wp2
                go_roundg (gk - 1)
                case measure => omega
                case rel => exact fin _ _ _ _ (h1.mono (by omega)) h2
              | cons p fl =>
                obtain ⟨px, py⟩ := p
                refine (next_ts_cons px py ht (by omega)).mono ?_
                rintro e W2 ⟨rfl, h1, h2⟩
                go_wp2
                go_roundg (gk - 1)
                case measure => omega
                case rel => exact fin _ _ _ _ (h1.mono (by omega)) h2
    · have hil : ¬ (i : Int) < L := by omega
      go_wp2
      go_ret
      exact ⟨rfl, fl, H, n, by rw [hMe]; exact ht.mono (by omega), by rw [hMe]; exact hk⟩
end Go.Proofs.Ybulkcfri
