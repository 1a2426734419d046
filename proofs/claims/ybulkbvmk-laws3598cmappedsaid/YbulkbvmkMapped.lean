/- The walk of LawS3598CMapped: a new row of bytes is filled, then checked. -/
import Derived.Test.YbulkbvmkDigits
import Derived.OwnWalk
namespace Go.Proofs.Ybulkbvmk.Mapped
open Go.ChangeShapes Go.WideShapes Go.ChangeAt Go.RowKit
set_option linter.unusedVariables false

theorem hide {p : Prop} (h : p) : Hid p := h
theorem info5 : (Yba.prog.info? 5).map (fun i => (i.zero, i.size, i.bytes)) = some (some (.int .u8 0), 1, 1) := by kernel_rfl

/-- The new row holds 'len' bytes, whatever they are. -/
def Filled (B len : Nat) (wr : World) : Prop :=
  ∃ ys : List Int, wr.ownsRow B 5 1 (.slice (some ⟨B, 0, none⟩) len len) len (ys.map (Value.int .u8))

theorem Filled.cell {B len : Nat} {wr : World} (h : Filled B len wr) : ∃ f : Nat → Int, ∀ j, j < len → wr.cell? ⟨B, 0 + j, none⟩ = some (.int .u8 (f j)) := by
  obtain ⟨ys, h⟩ := h
  refine ⟨fun j => ys.getD j 0, fun j hj => ?_⟩
  have hl : ys.length = len := by have := h.1; simpa using this
  rw [Nat.zero_add, h.cellAt j (by omega)]
  simp [hl, hj]

theorem Filled.frozen {B len : Nat} {wr : World} (h : Filled B len wr) (j : Nat) : wr.frozen? ⟨B, j, none⟩ = false := by
  obtain ⟨ys, h⟩ := h
  exact h.frozenAt j

theorem Filled.stored {B len : Nat} {wr : World} (h : Filled B len wr) (j : Nat) (z : Int) : Filled B len (wr.setCell ⟨B, j, none⟩ (.int .u8 z)) := by
  obtain ⟨ys, h⟩ := h
  refine ⟨ys.set j z, ?_⟩
  have := (h.stored j (.int .u8 z)).1
  rwa [List.map_set]

theorem filled_made {B len : Nat} {wr : World} (h : wr.ownsRow B 5 1 (.slice (some ⟨B, 0, none⟩) len len) len (madeCells (Value.int .u8 0).cells (len * 1)).toList) : Filled B len wr := by
  refine ⟨List.replicate len 0, ?_⟩
  have e : (madeCells (Value.int .u8 0).cells (len * 1)).toList = (List.replicate len (0 : Int)).map (Value.int .u8) := by
    rw [Nat.mul_one, show (Value.int .u8 0).cells = #[Value.int .u8 0] from rfl, toList_madeCells_one]; simp
  rwa [e] at h

theorem mapped_any (a0 : Option Addr) (len0 cap0 n : Nat) (w : World) (hn : n ≤ 65535) (hl : len0 ≤ 4096)
    (hr : len0 = 0 ∨ ∃ (b off : Nat) (f : Nat → Int), a0 = some ⟨b, off, none⟩ ∧ b < w.heap.size ∧ (∀ j, 0 ≤ f j ∧ f j ≤ 255) ∧ ∀ j, j < len0 → w.cell? ⟨b, off + j, none⟩ = some (.int .u8 (f j))) :
    Calls Yba.prog 7 #[.slice a0 len0 cap0, .int .u16 n] w fun e w' => e = .returned (.bool true) ∧ Below w.heap.size w w' := by
  obtain ⟨i0, hi, hz0, hz1, hz2⟩ := info_parts info5
  have HR : Hid (len0 = 0 ∨ ∃ (b off : Nat) (f : Nat → Int), a0 = some ⟨b, off, none⟩ ∧ b < w.heap.size ∧ (∀ j, 0 ≤ f j ∧ f j ≤ 255) ∧ ∀ j, j < len0 → w.cell? ⟨b, off + j, none⟩ = some (.int .u8 (f j))) := hr
  clear hr
  have d0 : decide (4096 < (len0 : Int)) = false := decide_eq_false (by omega)
  go_enter Yba.func7, Yba.ntmps7
  go_wp2_with (at_make; refine wpList_make_full _ rfl _ _ 58 rfl w.heap.size 5 i0 (.int .u8 0) 1 Yba.underlying58 hi hz0 hz1 _ _ _ _ len0 rfl rfl (by omega) (by omega) (by rw [hz2]; omega) (by unfold maxLen; omega) (Nat.le_refl _) ?_; intro w1 hown hgrow)
  have hF := filled_made hown
  have hB1 : Below w.heap.size w w1 := (Below.refl _ _).grown hgrow (Nat.le_refl _) (by simp)
  clear hown hgrow hi hz0 hz1 hz2
  go_loopw [6] (fun i wr => ∃ k : Nat, i = .int .i64 k ∧ k ≤ len0 ∧ Filled w.heap.size len0 wr ∧ Below w.heap.size w wr) (fun i _ => len0 - (intOf i).toNat)
  case atStart => exact ⟨0, rfl, Nat.zero_le _, hF, hB1⟩
  case round =>
    clear hF hB1
    obtain ⟨k, rfl, hk, hF, hB⟩ := hrel
    by_cases hlt : k < len0
    · rcases HR.out with h | ⟨b, off, f, rfl, hb, hf, hc⟩
      · omega
      · have hck : wr.cell? ⟨b, off + k, none⟩ = some (.int .u8 (f k)) := (hB.cell (p := ⟨b, off + k, none⟩) hb).trans (hc k hlt)
        obtain ⟨g, hg⟩ := hF.cell
        have hck2 := hg k hlt
        rw [Nat.zero_add] at hck2
        have hfr := hF.frozen k
        have hf1 := (hf k).1
        have hf2 := (hf k).2
        clear hc hf hg
        by_cases hev : f k % 2 = 0
        · have he : (f k % 2 == 0) = true := by simp [hev]
          have HE := hide hev
          clear hev
          go_wp2_with fail
          go_roundw
          case rel => exact ⟨k + 1, by go_num, by omega, hF.stored _ _, hB.setCell (by simp) _⟩
          case measure => simp [intOf]; omega
        · have he : (f k % 2 == 0) = false := by simp [hev]
          have HE := hide hev
          clear hev
          go_wp2_with fail
          go_roundw
          case rel => exact ⟨k + 1, by go_num, by omega, hF.stored _ _, hB.setCell (by simp) _⟩
          case measure => simp [intOf]; omega
    · have hp : (0 : Int) < (len0 : Int) + 3 := by omega
      have hs0 := Int.emod_nonneg (n : Int) (Int.ne_of_gt hp)
      have hs1 := Int.emod_lt_of_pos (n : Int) hp
      obtain ⟨g, hg⟩ := hF.cell
      have HG := hide hg
      clear hg
      go_wp2_with fail
      refine (Digits.check_any _ len0 len0 _ _ hs0 (by omega) hl (.inr ⟨_, _, g, rfl, HG.out⟩)).mono ?_
      rintro e w' ⟨rfl, rfl⟩
      go_wp2_with fail
      go_ret
      exact ⟨rfl, hB⟩

end Go.Proofs.Ybulkbvmk.Mapped
