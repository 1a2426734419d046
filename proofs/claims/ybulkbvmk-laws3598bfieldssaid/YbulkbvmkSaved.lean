/- The walk of zzs3598bsaved: the messages that came in, laid anew as messageJSON. -/
import Derived.Test.YbulkbvmkMem
namespace Go.Proofs.Ybulkbvmk.Msgs
open Go.ChangeShapes Go.WideShapes Go.ChangeAt Go.RowKit
set_option linter.unusedVariables false

def RowPost (w : World) (n : Nat) (d : Dat) (Z : Nat → Bool) (e : Ending) (w' : World) : Prop :=
  ∃ a c, e = .returned (.slice a n c) ∧ OutRows w' a n d Z ∧ Below w.heap.size w w'

theorem saved_nil (cap : Nat) (d : Dat) (w : World) :
    Calls Yba.prog 11 #[.slice none 0 cap] w fun e w' => RowPost w 0 d d.Z e w' := by
  have q40 := eqnil Yba.underlying40
  go_enter Yba.func11, Yba.ntmps11
  go_wp2
  go_ret
  exact ⟨none, 0, rfl, fun i hi => by omega, Below.refl _ _⟩

set_option maxRecDepth 100000 in
set_option maxHeartbeats 1000000 in
theorem saved_some (y : Addr) (n cap : Nat) (d : Dat) (w : World) (hn : n ≤ 1024) (hL : ∀ i, i < n → d.L i ≤ 1024) (hr : InRows w (some y) n d) :
    Calls Yba.prog 11 #[.slice (some y) n cap] w fun e w' => RowPost w n d d.Z e w' := by
  obtain ⟨i0, hi, hz0, hz1, hz2⟩ := info_parts info69
  obtain ⟨i1, hi1, hy0, hy1, hy2⟩ := info_parts info67
  have HL := hide hL
  have HR := hide hr
  clear hL hr
  have q40 := eqnil Yba.underlying40
  go_enter Yba.func11, Yba.ntmps11
  go_wp2_with (at_make; refine wpList_make_full _ rfl _ _ 42 rfl w.heap.size 69 i0 (.agg #[.string ⟨#[]⟩, .string ⟨#[]⟩, .slice none 0 0, .string ⟨#[]⟩]) 4 Yba.underlying42 hi hz0 hz1 _ _ _ _ n rfl rfl (by omega) (by omega) (by rw [hz2]; omega) (by unfold maxLen; omega) (Nat.le_refl _) ?_; intro w1 hown hgrow)
  have hI : Inv w w.heap.size n d d.Z 0 w1 := Inv.start (room_of_owns hown) ((Below.refl _ _).grown hgrow (Nat.le_refl _) (by simp))
  clear hown hgrow hi hz0 hz1 hz2 q40
  go_loopw [4] (fun i wr => ∃ k : Nat, i = .int .i64 k ∧ k ≤ n ∧ Inv w w.heap.size n d d.Z k wr) (fun i _ => n - (intOf i).toNat)
  case atStart => exact ⟨0, rfl, Nat.zero_le _, hI⟩
  case round =>
    clear hI
    obtain ⟨k, rfl, hk, hI⟩ := hrel
    by_cases hlt : k < n
    · obtain ⟨b, o, hyy, h1, h2, h3, x, cc, h4, h5, h6⟩ := HR.out k hlt
      obtain rfl : y = ⟨b, o, none⟩ := Option.some.inj hyy
      clear hyy
      have hbw : b < w.heap.size := World.block_lt_of_cell? w _ h1
      have hlr := hI.room.lt
      have hb1 : b < wr.heap.size := by omega
      have h1' := (hI.below.cell (p := ⟨b, o + k * 4, none⟩) hbw).trans h1
      have h2' := (hI.below.cell (p := ⟨b, o + k * 4 + 1, none⟩) hbw).trans h2
      have h3' := (hI.below.cell (p := ⟨b, o + k * 4 + 2, none⟩) hbw).trans h3
      have h4' := (hI.below.cell (p := ⟨b, o + k * 4 + 3, none⟩) hbw).trans h4
      have hLk := HL.out k hlt
      have H6 := hide h6
      have H5 := hide h5
      clear h1 h2 h3 h4 h5 h6
      have n46 := nenil Yba.underlying46
      rcases x with _ | x
      · have hL0 : d.L k = 0 := by
          by_cases e : d.L k = 0
          · exact e
          · obtain ⟨_, _, h, _⟩ := H6.out 0 (by omega)
            simp at h
        have HP : Hid (Inv w w.heap.size n d d.Z (k + 1) (set4 wr w.heap.size (k * 4) (.string (d.R k)) (.string (d.C k)) (.slice none 0 0) (.string (d.T k)))) := by
          have := hI.put hlt (Below.refl _ _) (x := none) (c := 0) H5.out (by simp) (fun j hj => by omega)
          rwa [hL0] at this
        clear hL0
        obtain ⟨v0, c0⟩ := hI.room.cell (o := k * 4) (by omega)
        obtain ⟨v1, c1⟩ := hI.room.cell (o := k * 4 + 1) (by omega)
        obtain ⟨v2, c2⟩ := hI.room.cell (o := k * 4 + 2) (by omega)
        obtain ⟨v3, c3⟩ := hI.room.cell (o := k * 4 + 3) (by omega)
        have f0 := hI.room.frozen (k * 4)
        have f1 := hI.room.frozen (k * 4 + 1)
        have f2 := hI.room.frozen (k * 4 + 2)
        have f3 := hI.room.frozen (k * 4 + 3)
        go_wp2_with fail
        go_roundw
        case rel => exact ⟨k + 1, by go_num, by omega, HP.out.alloc _⟩
        case measure => simp [intOf]; omega
      · go_wp2_with (at_make; refine wpList_make_full _ rfl _ _ 65 rfl (wr.heap.size + 1) 67 i1 (.agg #[.string ⟨#[]⟩, .string ⟨#[]⟩, .string ⟨#[]⟩]) 3 Yba.underlying65 hi1 hy0 hy1 _ _ _ _ (d.L k) rfl rfl (by omega) (by omega) (by rw [hy2]; omega) (by unfold maxLen; omega) (by simp) ?_; intro w1 hown hgrow)
        have hroom := room_of_owns hown
        simp only [World.size_alloc] at hroom
        have hC : InvC wr wr.heap.size (wr.heap.size + 1) (d.L k) (d.I k) (d.N k) (d.A k) (.string (d.R k)) (.string (d.C k)) (.string (d.T k)) (.slice (some x) (d.L k) cc) 0 w1 :=
          ⟨hroom, fun j hj => by omega, ((Below.refl _ _).alloc (Nat.le_refl _) _).grown hgrow (by simp) (by simp), hgrow.cell (by simp) (by simp), hgrow.cell (by simp) (by simp), hgrow.cell (by simp) (by simp), hgrow.cell (by simp) (by simp)⟩
        clear hown hgrow hroom h1' h2' h3' h4' n46
        obtain ⟨wo, rfl⟩ : ∃ wo : World, wo = wr := ⟨_, rfl⟩
        go_loopw [7] (fun j w2 => ∃ q : Nat, j = .int .i64 q ∧ q ≤ d.L k ∧ InvC wo wo.heap.size (wo.heap.size + 1) (d.L k) (d.I k) (d.N k) (d.A k) (.string (d.R k)) (.string (d.C k)) (.string (d.T k)) (.slice (some x) (d.L k) cc) q w2) (fun j _ => d.L k - (intOf j).toNat)
        case atStart => exact ⟨0, rfl, Nat.zero_le _, hC⟩
        case round =>
          clear hC
          obtain ⟨q, rfl, hq, hC⟩ := hrel
          have hlw := hC.room.lt
          have m3 := hC.c3
          by_cases hqt : q < d.L k
          · obtain ⟨p1, p2, hxx, r1, r2, r3⟩ := H6.out q hqt
            obtain rfl : x = ⟨p1, p2, none⟩ := Option.some.inj hxx
            clear hxx
            have hp1 : p1 < w.heap.size := World.block_lt_of_cell? w _ r1
            have hbel : Below w.heap.size w wr := hI.below.trans (hC.below.mono (by omega))
            have r1' := (hbel.cell (p := ⟨p1, p2 + q * 3, none⟩) hp1).trans r1
            have r2' := (hbel.cell (p := ⟨p1, p2 + q * 3 + 1, none⟩) hp1).trans r2
            have r3' := (hbel.cell (p := ⟨p1, p2 + q * 3 + 2, none⟩) hp1).trans r3
            clear r1 r2 r3 hbel
            have hp1' : p1 < wr.heap.size := by omega
            obtain ⟨v0, c0⟩ := hC.room.cell (o := q * 3) (by omega)
            obtain ⟨v1, c1⟩ := hC.room.cell (o := q * 3 + 1) (by omega)
            obtain ⟨v2, c2⟩ := hC.room.cell (o := q * 3 + 2) (by omega)
            have f0 := hC.room.frozen (q * 3)
            have f1 := hC.room.frozen (q * 3 + 1)
            have f2 := hC.room.frozen (q * 3 + 2)
            have hz1 : wo.heap.size < wr.heap.size := by omega
            go_wp2_with fail
            go_roundw
            case rel => exact ⟨q + 1, by go_num, by omega, (hC.put (by omega) hqt).alloc (by omega) _⟩
            case measure => simp [intOf]; omega
          · have hql : q = d.L k := by omega
            have hC' : InvC wo wo.heap.size (wo.heap.size + 1) (d.L k) (d.I k) (d.N k) (d.A k) (.string (d.R k)) (.string (d.C k)) (.string (d.T k)) (.slice (some x) (d.L k) cc) (d.L k) wr := by rw [hql] at hC; exact hC
            clear hql
            have hroom2 : Room wr w.heap.size (n * 4) := hI.room.below hC.below hlr
            have m0 := hC.c0
            have m1 := hC.c1
            have m2 := hC.c2
            obtain ⟨v0, c0⟩ := hroom2.cell (o := k * 4) (by omega)
            obtain ⟨v1, c1⟩ := hroom2.cell (o := k * 4 + 1) (by omega)
            obtain ⟨v2, c2⟩ := hroom2.cell (o := k * 4 + 2) (by omega)
            obtain ⟨v3, c3⟩ := hroom2.cell (o := k * 4 + 3) (by omega)
            have f0 := hroom2.frozen (k * 4)
            have f1 := hroom2.frozen (k * 4 + 1)
            have f2 := hroom2.frozen (k * 4 + 2)
            have f3 := hroom2.frozen (k * 4 + 3)
            have HP : Hid (Inv w w.heap.size n d d.Z (k + 1) (set4 wr w.heap.size (k * 4) (.string (d.R k)) (.string (d.C k)) (.slice (some ⟨wo.heap.size + 1, 0, none⟩) (d.L k) (d.L k)) (.string (d.T k)))) :=
              hI.put hlt hC.below (x := some ⟨wo.heap.size + 1, 0, none⟩) (c := d.L k) (by rw [← H5.out]; rfl) (fun y hy => by cases hy; show w.heap.size < wo.heap.size + 1; omega) hC'.calls
            clear hC' hC
            go_wp2_with fail
            go_roundw
            case rel => exact ⟨k + 1, by go_num, by omega, HP.out⟩
            case measure => simp [intOf]; omega
    · go_wp2_with fail
      go_ret
      have : k = n := by omega
      subst this
      exact ⟨_, _, rfl, hI.rows, hI.below⟩

end Go.Proofs.Ybulkbvmk.Msgs
