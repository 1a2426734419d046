/- The walks that both laws over 'afterDigits' share: isDigit, zzs3598cdig, afterDigits, zzs3598ccheck. -/
import Derived.Test.YbulkbvmkRows
import Derived.WalkKit
import Derived.ProofKit
import Derived.Below
namespace Go.Proofs.Ybulkbvmk.Digits
open Go.ChangeShapes Go.WideShapes Go.ChangeAt Go.RowKit
set_option linter.unusedVariables false

/-- A byte is an ASCII digit. -/
def digB (c : Int) : Bool := decide (48 ≤ c) && decide (c ≤ 57)
theorem digB_yes {c : Int} (h : digB c = true) : 48 ≤ c ∧ c ≤ 57 := by unfold digB at h; simpa using h
theorem digB_no {c : Int} (h : digB c = false) : ¬ (48 ≤ c ∧ c ≤ 57) := by
  intro h'; unfold digB at h; simp at h; omega

theorem isDigit_any (c : Int) (w : World) :
    Calls Yba.prog 18 #[.int .u8 c] w fun e w' => e = .returned (.bool (digB c)) ∧ w' = w := by
  by_cases h1 : 48 ≤ c
  · by_cases h2 : c ≤ 57
    · rw [show digB c = true from by simp [digB, h1, h2]]
      go_enter Yba.func18, Yba.ntmps18
      go_wp2
      go_ret
      exact ⟨rfl, rfl⟩
    · rw [show digB c = false from by simp [digB, h2]]
      go_enter Yba.func18, Yba.ntmps18
      go_wp2
      go_ret
      exact ⟨rfl, rfl⟩
  · rw [show digB c = false from by simp [digB, h1]]
    go_enter Yba.func18, Yba.ntmps18
    go_wp2
    go_ret
    exact ⟨rfl, rfl⟩

theorem cdig_any (c : Int) (w : World) :
    Calls Yba.prog 17 #[.int .u8 c] w fun e w' => e = .returned (.bool (digB c)) ∧ w' = w := by
  by_cases h1 : 48 ≤ c
  · by_cases h2 : c ≤ 57
    · rw [show digB c = true from by simp [digB, h1, h2]]
      go_enter Yba.func17, Yba.ntmps17
      go_wp2
      go_ret
      exact ⟨rfl, rfl⟩
    · rw [show digB c = false from by simp [digB, h2]]
      go_enter Yba.func17, Yba.ntmps17
      go_wp2
      go_ret
      exact ⟨rfl, rfl⟩
  · rw [show digB c = false from by simp [digB, h1]]
    go_enter Yba.func17, Yba.ntmps17
    go_wp2
    go_ret
    exact ⟨rfl, rfl⟩

/-- afterDigits from a place at or past the end: it answers that place. -/
theorem after_far (a : Option Addr) (len cap s : Nat) (w : World) (hs : len ≤ s) (hb : s ≤ 70000) :
    Calls Yba.prog 16 #[.slice a len cap, .int .i64 s] w fun e w' => e = .returned (.int .i64 s) ∧ w' = w := by
  go_enter Yba.func16, Yba.ntmps16
  go_wp2
  go_loop [1] (fun i => i = .int .i64 s) (fun _ => 0)
  case atStart => exact rfl
  case round =>
    subst hrel
    go_wp2
    go_ret
    exact ⟨rfl, rfl⟩

theorem after_in (b off len cap s : Nat) (f : Nat → Int) (w : World) (hs : s < len) (hb : len ≤ 70000)
    (hc : ∀ j, j < len → w.cell? ⟨b, off + j, none⟩ = some (.int .u8 (f j))) :
    Calls Yba.prog 16 #[.slice (some ⟨b, off, none⟩) len cap, .int .i64 s] w fun e w' => (∃ r : Nat, e = .returned (.int .i64 r) ∧ s ≤ r ∧ r ≤ len ∧ (∀ j, s ≤ j → j < r → digB (f j) = true) ∧ (r < len → digB (f r) = false)) ∧ w' = w := by
  go_enter Yba.func16, Yba.ntmps16
  go_wp2
  go_loop [1] (fun i => ∃ k : Nat, i = .int .i64 k ∧ s ≤ k ∧ k ≤ len ∧ ∀ j, s ≤ j → j < k → digB (f j) = true) (fun i => len - (intOf i).toNat)
  case atStart => exact ⟨s, rfl, Nat.le_refl _, by omega, fun j h1 h2 => by omega⟩
  case round =>
    obtain ⟨k, rfl, h1, h2, h3⟩ := hrel
    have H3 : Hid (∀ j, s ≤ j → j < k → digB (f j) = true) := h3
    clear h3
    by_cases hlt : k < len
    · have hck := hc k hlt
      by_cases hd : digB (f k) = true
      · go_wp2_with (go_at_call 18; refine (isDigit_any _ _).mono ?_; rintro e w' ⟨rfl, rfl⟩)
        go_round
        case rel => exact ⟨k + 1, by go_num, by omega, by omega, fun j q1 q2 => by
          by_cases e : j = k
          · subst e; exact hd
          · exact H3.out j q1 (by omega)⟩
        case measure => simp [intOf]; omega
      · have hd' : digB (f k) = false := by simpa using hd
        clear hd
        go_wp2_with (go_at_call 18; refine (isDigit_any _ _).mono ?_; rintro e w' ⟨rfl, rfl⟩)
        go_ret
        exact ⟨⟨k, rfl, h1, h2, H3.out, fun _ => hd'⟩, rfl⟩
    · go_wp2
      go_ret
      exact ⟨⟨k, rfl, h1, h2, H3.out, fun h => absurd h hlt⟩, rfl⟩

theorem check_far (a : Option Addr) (len cap s : Nat) (w : World) (hs : len ≤ s) (hb : s ≤ 70000) :
    Calls Yba.prog 15 #[.slice a len cap, .int .i64 s] w fun e w' => e = .returned (.bool true) ∧ w' = w := by
  go_enter Yba.func15, Yba.ntmps15
  go_wp2_with (go_at_call 16; refine (after_far _ _ _ _ _ hs hb).mono ?_; rintro e w' ⟨rfl, rfl⟩)
  go_ret
  exact ⟨rfl, rfl⟩

theorem check_in (b off len cap s : Nat) (f : Nat → Int) (w : World) (hs : s < len) (hb : len ≤ 70000)
    (hc : ∀ j, j < len → w.cell? ⟨b, off + j, none⟩ = some (.int .u8 (f j))) :
    Calls Yba.prog 15 #[.slice (some ⟨b, off, none⟩) len cap, .int .i64 s] w fun e w' => e = .returned (.bool true) ∧ w' = w := by
  go_enter Yba.func15, Yba.ntmps15
  go_wp2_with fail
  refine (after_in b off len cap s f w hs hb hc).mono ?_
  rintro e w' ⟨⟨r, rfl, h1, h2, h3, h4⟩, rfl⟩
  have H3 : Hid (∀ j, s ≤ j → j < r → digB (f j) = true) := h3
  have H4 : Hid (r < len → digB (f r) = false) := h4
  clear h3 h4
  have d0 : decide (len ≤ s) = false := decide_eq_false (by omega)
  have d1 : decide (r < s) = false := decide_eq_false (by omega)
  have d2 : decide (len < r) = false := decide_eq_false (by omega)
  go_wp2_with fail
  go_loop [6] (fun i => ∃ k : Nat, i = .int .i64 k ∧ s ≤ k ∧ k ≤ r) (fun i => r - (intOf i).toNat)
  case atStart => exact ⟨s, rfl, Nat.le_refl _, h1⟩
  case round =>
    obtain ⟨k, rfl, q1, q2⟩ := hrel
    by_cases hlt : k < r
    · have hck := hc k (by omega)
      have hd := H3.out k q1 hlt
      go_wp2_with (go_at_call 17; refine (cdig_any _ _).mono ?_; rintro e w' ⟨rfl, rfl⟩)
      go_round
      case rel => exact ⟨k + 1, by go_num, by omega, by omega⟩
      case measure => simp [intOf]; omega
    · by_cases hl : r = len
      · have hbq : ((r : Int) == (len : Int)) = true := by simp [hl]
        have hl' : Hid (r = len) := hl
        clear hl
        go_wp2_with fail
        go_ret
        exact ⟨rfl, rfl⟩
      · have hbq : ((r : Int) == (len : Int)) = false := by simp; omega
        have hck := hc r (by omega)
        have hd := H4.out (by omega)
        go_wp2_with (go_at_call 17; refine (cdig_any _ _).mono ?_; rintro e w' ⟨rfl, rfl⟩)
        go_ret
        exact ⟨by simp, rfl⟩

/-- zzs3598ccheck answers true from every place, over whatever row of bytes. -/
theorem check_any (a : Option Addr) (len cap : Nat) (z : Int) (w : World) (h0 : 0 ≤ z) (hz : z ≤ 70000) (hb : len ≤ 4096)
    (hr : len = 0 ∨ ∃ (b off : Nat) (f : Nat → Int), a = some ⟨b, off, none⟩ ∧ ∀ j, j < len → w.cell? ⟨b, off + j, none⟩ = some (.int .u8 (f j))) :
    Calls Yba.prog 15 #[.slice a len cap, .int .i64 z] w fun e w' => e = .returned (.bool true) ∧ w' = w := by
  obtain ⟨s, rfl⟩ := Int.eq_ofNat_of_zero_le h0
  by_cases hs : len ≤ s
  · exact check_far a len cap s w hs (by omega)
  · rcases hr with hr | ⟨b, off, f, rfl, hc⟩
    · omega
    · exact check_in b off len cap s f w (by omega) (by omega) hc

end Go.Proofs.Ybulkbvmk.Digits
