/- The walk of zzs3598bsamejson: a row that the program made equals the row that came in. -/
import Derived.Test.YbulkbvmkMsgs
namespace Go.Proofs.Ybulkbvmk.Msgs
open Go.ChangeShapes Go.WideShapes Go.ChangeAt Go.RowKit
set_option linter.unusedVariables false

set_option maxRecDepth 100000 in
set_option maxHeartbeats 1000000 in
theorem same_false (ao : Option Addr) (cs : Nat) (a : Option Addr) (n c : Nat) (d : Dat) (w : World) (hn : n ≤ 1024) (hL : ∀ i, i < n → d.L i ≤ 1024)
    (ho : OutRows w ao n d d.Z) (hr : InRows w a n d) :
    Calls Yba.prog 13 #[.slice ao n cs, .slice a n c, .bool false] w fun e w' => e = .returned (.bool true) ∧ Below w.heap.size w w' := by
  have HL := hide hL
  have HO := hide ho
  have HR := hide hr
  clear hL ho hr
  have d0 : ((n : Int) != (n : Int)) = false := by simp
  have q65 := eqnil Yba.underlying65
  have q46 := eqnil Yba.underlying46
  go_enter Yba.func13, Yba.ntmps13
  go_wp2
  go_loopw [7] (fun i wr => ∃ k : Nat, i = .int .i64 k ∧ k ≤ n ∧ Below w.heap.size w wr) (fun i _ => n - (intOf i).toNat)
  case atStart => exact ⟨0, rfl, Nat.zero_le _, Below.refl _ _⟩
  case round =>
    obtain ⟨k, rfl, hk, hB⟩ := hrel
    by_cases hlt : k < n
    · obtain ⟨b, o, rfl, h1, h2, h3, x, cc, h4, h5, h6⟩ := (HR.out.keep hB) k hlt
      obtain ⟨b', o', rfl, g1, g2, g3, x', cc', g4, g5, g6⟩ := (HO.out.keep hB) k hlt
      have hLk := HL.out k hlt
      have H6 := hide h6
      have G6 := hide g6
      clear h6 g6
      have hb1 : b < wr.heap.size := World.block_lt_of_cell? wr _ h1
      have hb2 : b' < wr.heap.size := World.block_lt_of_cell? wr _ g1
      go_wp2
      obtain ⟨wo, rfl⟩ : ∃ wo : World, wo = wr := ⟨_, rfl⟩
      clear q65 q46 h1 h2 h3 h4 g1 g2 g3 g4 h5 g5
      go_loopw [10] (fun j w2 => ∃ q : Nat, j = .int .i64 q ∧ q ≤ d.L k ∧ w2.cell? ⟨wo.heap.size, 3, none⟩ = some (.slice x (d.L k) cc) ∧ w2.cell? ⟨wo.heap.size + 1, 2, none⟩ = some (.slice x' (d.L k) cc') ∧ wo.heap.size + 2 ≤ w2.heap.size ∧ Below wo.heap.size wo w2) (fun j _ => d.L k - (intOf j).toNat)
      case atStart => exact ⟨0, rfl, Nat.zero_le _, by simp, by simp, by simp, ((Below.refl _ _).alloc (Nat.le_refl _) _).alloc (by simp) _⟩
      case round =>
        obtain ⟨q, rfl, hq, e1, e2, e3, e4⟩ := hrel
        by_cases hqt : q < d.L k
        · obtain ⟨p1, p2, rfl, r1, r2, r3⟩ := H6.out q hqt
          obtain ⟨p3, p4, rfl, s1, s2, s3⟩ := G6.out q hqt
          have hp1 : p1 < wo.heap.size := World.block_lt_of_cell? wo _ r1
          have hp3 : p3 < wo.heap.size := World.block_lt_of_cell? wo _ s1
          have r1' := (e4.cell (p := ⟨p1, p2 + q * 3, none⟩) hp1).trans r1
          have r2' := (e4.cell (p := ⟨p1, p2 + q * 3 + 1, none⟩) hp1).trans r2
          have r3' := (e4.cell (p := ⟨p1, p2 + q * 3 + 2, none⟩) hp1).trans r3
          have s1' := (e4.cell (p := ⟨p3, p4 + q * 3, none⟩) hp3).trans s1
          have s2' := (e4.cell (p := ⟨p3, p4 + q * 3 + 1, none⟩) hp3).trans s2
          have s3' := (e4.cell (p := ⟨p3, p4 + q * 3 + 2, none⟩) hp3).trans s3
          have hp1' : p1 < wr.heap.size := by omega
          have hp3' : p3 < wr.heap.size := by omega
          have hz1 : wo.heap.size < wr.heap.size := by omega
          have hz2 : wo.heap.size + 1 < wr.heap.size := by omega
          clear r1 r2 r3 s1 s2 s3
          go_wp2
          go_roundw
          case rel => exact ⟨q + 1, by go_num, by omega, alloc2_cell e1, alloc2_cell e2, by simp; omega, (e4.alloc (by omega) _).alloc (by simp; omega) _⟩
          case measure => simp [intOf]; omega
        · go_wp2
          go_roundw
          case rel => exact ⟨k + 1, by go_num, by omega, hB.trans (e4.mono hB.size)⟩
          case measure => simp [intOf]; omega
    · go_wp2
      go_ret
      exact ⟨rfl, hB⟩

set_option maxRecDepth 100000 in
set_option maxHeartbeats 1000000 in
theorem same_true (ao : Option Addr) (cs : Nat) (a : Option Addr) (n c : Nat) (d : Dat) (w : World) (hn : n ≤ 1024) (hL : ∀ i, i < n → d.L i ≤ 1024)
    (ho : OutRows w ao n d (fun i => d.L i == 0)) (hr : InRows w a n d) :
    Calls Yba.prog 13 #[.slice ao n cs, .slice a n c, .bool true] w fun e w' => e = .returned (.bool true) ∧ Below w.heap.size w w' := by
  have HL := hide hL
  have HO := hide ho
  have HR := hide hr
  clear hL ho hr
  have d0 : ((n : Int) != (n : Int)) = false := by simp
  have q65 := nenil Yba.underlying65
  go_enter Yba.func13, Yba.ntmps13
  go_wp2
  go_loopw [7] (fun i wr => ∃ k : Nat, i = .int .i64 k ∧ k ≤ n ∧ Below w.heap.size w wr) (fun i _ => n - (intOf i).toNat)
  case atStart => exact ⟨0, rfl, Nat.zero_le _, Below.refl _ _⟩
  case round =>
    obtain ⟨k, rfl, hk, hB⟩ := hrel
    by_cases hlt : k < n
    · obtain ⟨b, o, rfl, h1, h2, h3, x, cc, h4, h5, h6⟩ := (HR.out.keep hB) k hlt
      obtain ⟨b', o', rfl, g1, g2, g3, x', cc', g4, g5, g6⟩ := (HO.out.keep hB) k hlt
      have hLk := HL.out k hlt
      have H6 := hide h6
      have G6 := hide g6
      clear h6 g6
      have hb1 : b < wr.heap.size := World.block_lt_of_cell? wr _ h1
      have hb2 : b' < wr.heap.size := World.block_lt_of_cell? wr _ g1
      by_cases hL0 : d.L k = 0
      · have z0 : ((d.L k : Int) == 0) = true := by simp [hL0]
        have z1 : x'.isNone = true := by rw [g5]; simp [hL0]
        have HL0 := hide hL0
        clear hL0 g5
        go_wp2
        obtain ⟨wo, rfl⟩ : ∃ wo : World, wo = wr := ⟨_, rfl⟩
        clear q65 h1 h2 h3 h4 g1 g2 g3 g4 h5 z0 z1
        go_loopw [10] (fun j w2 => ∃ q : Nat, j = .int .i64 q ∧ q ≤ d.L k ∧ w2.cell? ⟨wo.heap.size, 3, none⟩ = some (.slice x (d.L k) cc) ∧ w2.cell? ⟨wo.heap.size + 1, 2, none⟩ = some (.slice x' (d.L k) cc') ∧ wo.heap.size + 2 ≤ w2.heap.size ∧ Below wo.heap.size wo w2) (fun j _ => d.L k - (intOf j).toNat)
        case atStart => exact ⟨0, rfl, Nat.zero_le _, by simp, by simp, by simp, ((Below.refl _ _).alloc (Nat.le_refl _) _).alloc (by simp) _⟩
        case round =>
          obtain ⟨q, rfl, hq, e1, e2, e3, e4⟩ := hrel
          by_cases hqt : q < d.L k
          · obtain ⟨p1, p2, rfl, r1, r2, r3⟩ := H6.out q hqt
            obtain ⟨p3, p4, rfl, s1, s2, s3⟩ := G6.out q hqt
            have hp1 : p1 < wo.heap.size := World.block_lt_of_cell? wo _ r1
            have hp3 : p3 < wo.heap.size := World.block_lt_of_cell? wo _ s1
            have r1' := (e4.cell (p := ⟨p1, p2 + q * 3, none⟩) hp1).trans r1
            have r2' := (e4.cell (p := ⟨p1, p2 + q * 3 + 1, none⟩) hp1).trans r2
            have r3' := (e4.cell (p := ⟨p1, p2 + q * 3 + 2, none⟩) hp1).trans r3
            have s1' := (e4.cell (p := ⟨p3, p4 + q * 3, none⟩) hp3).trans s1
            have s2' := (e4.cell (p := ⟨p3, p4 + q * 3 + 1, none⟩) hp3).trans s2
            have s3' := (e4.cell (p := ⟨p3, p4 + q * 3 + 2, none⟩) hp3).trans s3
            have hp1' : p1 < wr.heap.size := by omega
            have hp3' : p3 < wr.heap.size := by omega
            have hz1 : wo.heap.size < wr.heap.size := by omega
            have hz2 : wo.heap.size + 1 < wr.heap.size := by omega
            clear r1 r2 r3 s1 s2 s3
            go_wp2
            go_roundw
            case rel => exact ⟨q + 1, by go_num, by omega, alloc2_cell e1, alloc2_cell e2, by simp; omega, (e4.alloc (by omega) _).alloc (by simp; omega) _⟩
            case measure => simp [intOf]; omega
          · go_wp2
            go_roundw
            case rel => exact ⟨k + 1, by go_num, by omega, hB.trans (e4.mono hB.size)⟩
            case measure => simp [intOf]; omega
      · have z0 : ((d.L k : Int) == 0) = false := by simp [hL0]
        have z1 := hide g5
        have HL0 := hide hL0
        clear hL0 g5
        go_wp2
        obtain ⟨wo, rfl⟩ : ∃ wo : World, wo = wr := ⟨_, rfl⟩
        clear q65 h1 h2 h3 h4 g1 g2 g3 g4 h5 z0 z1
        go_loopw [10] (fun j w2 => ∃ q : Nat, j = .int .i64 q ∧ q ≤ d.L k ∧ w2.cell? ⟨wo.heap.size, 3, none⟩ = some (.slice x (d.L k) cc) ∧ w2.cell? ⟨wo.heap.size + 1, 2, none⟩ = some (.slice x' (d.L k) cc') ∧ wo.heap.size + 2 ≤ w2.heap.size ∧ Below wo.heap.size wo w2) (fun j _ => d.L k - (intOf j).toNat)
        case atStart => exact ⟨0, rfl, Nat.zero_le _, by simp, by simp, by simp, ((Below.refl _ _).alloc (Nat.le_refl _) _).alloc (by simp) _⟩
        case round =>
          obtain ⟨q, rfl, hq, e1, e2, e3, e4⟩ := hrel
          by_cases hqt : q < d.L k
          · obtain ⟨p1, p2, rfl, r1, r2, r3⟩ := H6.out q hqt
            obtain ⟨p3, p4, rfl, s1, s2, s3⟩ := G6.out q hqt
            have hp1 : p1 < wo.heap.size := World.block_lt_of_cell? wo _ r1
            have hp3 : p3 < wo.heap.size := World.block_lt_of_cell? wo _ s1
            have r1' := (e4.cell (p := ⟨p1, p2 + q * 3, none⟩) hp1).trans r1
            have r2' := (e4.cell (p := ⟨p1, p2 + q * 3 + 1, none⟩) hp1).trans r2
            have r3' := (e4.cell (p := ⟨p1, p2 + q * 3 + 2, none⟩) hp1).trans r3
            have s1' := (e4.cell (p := ⟨p3, p4 + q * 3, none⟩) hp3).trans s1
            have s2' := (e4.cell (p := ⟨p3, p4 + q * 3 + 1, none⟩) hp3).trans s2
            have s3' := (e4.cell (p := ⟨p3, p4 + q * 3 + 2, none⟩) hp3).trans s3
            have hp1' : p1 < wr.heap.size := by omega
            have hp3' : p3 < wr.heap.size := by omega
            have hz1 : wo.heap.size < wr.heap.size := by omega
            have hz2 : wo.heap.size + 1 < wr.heap.size := by omega
            clear r1 r2 r3 s1 s2 s3
            go_wp2
            go_roundw
            case rel => exact ⟨q + 1, by go_num, by omega, alloc2_cell e1, alloc2_cell e2, by simp; omega, (e4.alloc (by omega) _).alloc (by simp; omega) _⟩
            case measure => simp [intOf]; omega
          · go_wp2
            go_roundw
            case rel => exact ⟨k + 1, by go_num, by omega, hB.trans (e4.mono hB.size)⟩
            case measure => simp [intOf]; omega
    · go_wp2
      go_ret
      exact ⟨rfl, hB⟩

end Go.Proofs.Ybulkbvmk.Msgs
