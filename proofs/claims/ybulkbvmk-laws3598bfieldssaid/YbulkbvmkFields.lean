/- The walk of LawS3598BFields, out of its callees' contracts, with a loop of its own. -/
import Derived.Test.YbulkbvmkRound
namespace Go.Proofs.Ybulkbvmk.Msgs
open Go.ChangeShapes Go.WideShapes Go.ChangeAt Go.RowKit
set_option linter.unusedVariables false

set_option maxRecDepth 100000 in
set_option maxHeartbeats 2000000 in
theorem fields_walk (a : Option Addr) (n cap : Nat) (d : Dat) (w : World) (hnil : a = none → n = 0) (hn : n ≤ maxLen) (hL : ∀ i, i < n → d.L i ≤ maxLen) (hr : InRows w a n d) :
    Calls Yba.prog 4 #[.slice a n cap] w fun e w' => e = .returned (.bool true) ∧ Below w.heap.size w w' := by
  have HN := hide hnil
  have HR := hide hr
  have HT := hide (toobig_any a n cap d w hn hL hr)
  clear hnil hr hn hL
  have q44 := eqnil Yba.underlying44
  have d0 : ((n : Int) != (n : Int)) = false := by simp
  go_enter Yba.func4, Yba.ntmps4
  go_wp2_with fail
  refine HT.out.mono ?_
  rintro e w' ⟨⟨r, rfl, hb⟩, rfl⟩
  cases r with
  | true =>
    clear hb
    go_wp2_with fail
    go_ret
    exact ⟨rfl, Below.refl _ _⟩
  | false =>
    obtain ⟨hn, hL⟩ := hb rfl
    have HL := hide hL
    clear hb hL HT
    go_wp2_with fail
    refine (saved_any a n cap d w' HN.out hn HL.out HR.out).mono ?_
    rintro e w1 ⟨a1, c1, rfl, ho1, hb1⟩
    go_wp2_with fail
    refine (mof_any a1 n c1 d d.Z w1 hn HL.out ho1).mono ?_
    rintro e w2 ⟨a2, c2, rfl, ho2, hb2⟩
    have hb02 : Below w'.heap.size w' w2 := hb1.trans (hb2.mono hb1.size)
    have HR2 := hide (HR.out.keep hb02)
    have HO1 := hide (ho1.keep hb2)
    have HO2 := hide ho2
    have HB := hide hb02
    clear ho1 hb1 ho2 hb2 hb02 HR
    go_wp2_with fail
    clear q44
    go_loopw [5] (fun i wr => ∃ k : Nat, i = .int .i64 k ∧ k ≤ n ∧ Below w2.heap.size w2 wr) (fun i _ => n - (intOf i).toNat)
    case atStart => exact ⟨0, rfl, Nat.zero_le _, Below.refl _ _⟩
    case round =>
      obtain ⟨k, rfl, hk, hB⟩ := hrel
      by_cases hlt : k < n
      · obtain ⟨b, o, rfl, h1, h2, h3, x, cc, h4, h5, h6⟩ := (HR2.out.keep hB) k hlt
        obtain ⟨b', o', hyy, g1, g2, g3, x', cc', g4, g5, g6⟩ := (HO2.out.keep hB) k hlt
        obtain rfl : a2 = ⟨b', o', none⟩ := Option.some.inj hyy
        clear hyy
        have hLk := HL.out k hlt
        have H6 := hide h6
        have G6 := hide g6
        have H5 := hide h5
        clear h6 g6 h5
        have hb1 : b < wr.heap.size := World.block_lt_of_cell? wr _ h1
        have hb2 : b' < wr.heap.size := World.block_lt_of_cell? wr _ g1
        by_cases hL0 : d.L k = 0
        · have z0 : ((d.L k : Int) == 0) = true := by simp [hL0]
          have z1 : x'.isNone = true := by rw [g5]; simp [hL0]
          have n50 := nenil Yba.underlying50
          clear hL0 g5
          go_wp2_with fail
          go_roundw
          case rel => exact ⟨k + 1, by go_num, by omega, (hB.alloc hB.size _).alloc (by simp; have := hB.size; omega) _⟩
          case measure => simp [intOf]; omega
        · have z0 : ((d.L k : Int) == 0) = false := by simp [hL0]
          have G5 := hide g5
          clear hL0 g5
          go_wp2_with fail
          obtain ⟨wo, rfl⟩ : ∃ wo : World, wo = wr := ⟨_, rfl⟩
          clear h1 h2 h3 h4 g1 g2 g3 g4 z0
          go_loopw [8] (fun j w3 => ∃ q : Nat, j = .int .i64 q ∧ q ≤ d.L k ∧ w3.cell? ⟨wo.heap.size, 3, none⟩ = some (.slice x (d.L k) cc) ∧ w3.cell? ⟨wo.heap.size + 1, 2, none⟩ = some (.slice x' (d.L k) cc') ∧ wo.heap.size + 2 ≤ w3.heap.size ∧ Below wo.heap.size wo w3) (fun j _ => d.L k - (intOf j).toNat)
          case atStart => exact ⟨0, rfl, Nat.zero_le _, by simp, by simp, by simp, ((Below.refl _ _).alloc (Nat.le_refl _) _).alloc (by simp) _⟩
          case round =>
            obtain ⟨q, rfl, hq, e1, e2, e3, e4⟩ := hrel
            by_cases hqt : q < d.L k
            · obtain ⟨p1, p2, rfl, r1, r2, r3⟩ := H6.out q hqt
              obtain ⟨p3, p4, rfl, s1, s2, s3⟩ := G6.out q hqt
              have hp1 : p1 < wo.heap.size := World.block_lt_of_cell? wo _ r1
              have hp3 : p3 < wo.heap.size := World.block_lt_of_cell? wo _ s1
              have r1' := (e4.cell (p := ⟨p1, p2 + q * 3, none⟩) hp1).trans r1
              have r2' := (e4.cell (p := ⟨p1, p2 + q * 3 + 1, none⟩) hp1).trans r2
              have r3' := (e4.cell (p := ⟨p1, p2 + q * 3 + 2, none⟩) hp1).trans r3
              have s1' := (e4.cell (p := ⟨p3, p4 + q * 3, none⟩) hp3).trans s1
              have s2' := (e4.cell (p := ⟨p3, p4 + q * 3 + 1, none⟩) hp3).trans s2
              have s3' := (e4.cell (p := ⟨p3, p4 + q * 3 + 2, none⟩) hp3).trans s3
              have hp1' : p1 < wr.heap.size := by omega
              have hp3' : p3 < wr.heap.size := by omega
              have hz1 : wo.heap.size < wr.heap.size := by omega
              have hz2 : wo.heap.size + 1 < wr.heap.size := by omega
              clear r1 r2 r3 s1 s2 s3
              go_wp2_with fail
              go_roundw
              case rel => exact ⟨q + 1, by go_num, by omega, alloc2_cell e1, alloc2_cell e2, by simp; omega, (e4.alloc (by omega) _).alloc (by simp; omega) _⟩
              case measure => simp [intOf]; omega
            · go_wp2_with fail
              go_roundw
              case rel => exact ⟨k + 1, by go_num, by omega, hB.trans (e4.mono hB.size)⟩
              case measure => simp [intOf]; omega
      · have HOr := hide (HO1.out.keep hB)
        have HRr := hide (HR2.out.keep hB)
        go_wp2_with fail
        refine (same_false a1 c1 a n cap d wr hn HL.out HOr.out HRr.out).mono ?_
        rintro e w4 ⟨rfl, hb4⟩
        have hbr : Below w'.heap.size w' wr := HB.out.trans (hB.mono HB.out.size)
        go_wp2_with fail
        go_ret
        exact ⟨rfl, hbr.trans (hb4.mono hbr.size)⟩

end Go.Proofs.Ybulkbvmk.Msgs
