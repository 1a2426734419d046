/- The walk of messagesOf. -/
import Derived.Test.YbulkbvmkPush
import Derived.Deep.RegionLaw
namespace Go.Proofs.Ybulkbvmk.Msgs
open Go.ChangeShapes Go.WideShapes Go.ChangeAt Go.RowKit
set_option linter.unusedVariables false

/-- A new row, not nil, that holds the messages; calls nil where there are none. -/
def NewPost (w : World) (n : Nat) (d : Dat) (e : Ending) (w' : World) : Prop :=
  ∃ a c, e = .returned (.slice (some a) n c) ∧ OutRows w' (some a) n d (fun i => d.L i == 0) ∧ Below w.heap.size w w'

set_option maxRecDepth 100000 in
set_option maxHeartbeats 2000000 in
theorem mof_any (a : Option Addr) (n cap : Nat) (d : Dat) (Z : Nat → Bool) (w : World) (hn : n ≤ 1024) (hL : ∀ i, i < n → d.L i ≤ 1024) (hr : OutRows w a n d Z) :
    Calls Yba.prog 12 #[.slice a n cap] w fun e w' => NewPost w n d e w' := by
  obtain ⟨i0, hi, hz0, hz1, hz2⟩ := info_parts info52
  obtain ⟨i1, hi1, hy0, hy1, hy2⟩ := info_parts info55
  have HL := hide hL
  have HR := hide hr
  clear hL hr
  go_enter Yba.func12, Yba.ntmps12
  go_wp2_with (at_make; refine wpList_make_full _ rfl _ _ 44 rfl w.heap.size 52 i0 (.agg #[.string ⟨#[]⟩, .string ⟨#[]⟩, .slice none 0 0, .string ⟨#[]⟩]) 4 Yba.underlying44 hi hz0 hz1 _ _ _ _ n rfl rfl (by omega) (by omega) (by rw [hz2]; omega) (by unfold maxLen; omega) (Nat.le_refl _) ?_; intro w1 hown hgrow)
  have hI : Inv w w.heap.size n d (fun i => d.L i == 0) 0 w1 := Inv.start (room_of_owns hown) ((Below.refl _ _).grown hgrow (Nat.le_refl _) (by simp))
  clear hown hgrow hi hz0 hz1 hz2
  go_loopw [13] (fun i wr => ∃ k : Nat, i = .int .i64 k ∧ k ≤ n ∧ Inv w w.heap.size n d (fun i => d.L i == 0) k wr) (fun i _ => n - (intOf i).toNat)
  case atStart => exact ⟨0, rfl, Nat.zero_le _, hI⟩
  case round =>
    clear hI
    obtain ⟨k, rfl, hk, hI⟩ := hrel
    by_cases hlt : k < n
    · obtain ⟨b, o, rfl, h1, h2, h3, x, cc, h4, h5, h6⟩ := HR.out k hlt
      have hbw : b < w.heap.size := World.block_lt_of_cell? w _ h1
      have hlr := hI.room.lt
      have hb1 : b < wr.heap.size := by omega
      have h1' := (hI.below.cell (p := ⟨b, o + k * 4, none⟩) hbw).trans h1
      have h2' := (hI.below.cell (p := ⟨b, o + k * 4 + 1, none⟩) hbw).trans h2
      have h3' := (hI.below.cell (p := ⟨b, o + k * 4 + 3, none⟩) hbw).trans h3
      have h4' := (hI.below.cell (p := ⟨b, o + k * 4 + 2, none⟩) hbw).trans h4
      have hLk := HL.out k hlt
      have H6 := hide h6
      clear h1 h2 h3 h4 h5 h6
      have hA : ∀ o, InvA wr w.heap.size n 55 d k 0 (.slice none 0 0) ((set4 wr w.heap.size (k * 4) (.string (d.R k)) (.string (d.C k)) (.slice none 0 0) (.string (d.T k))).alloc o) := fun o => InvA.start hI hlt o
      have HA := hide hA
      clear hA
      obtain ⟨v0, c0⟩ := hI.room.cell (o := k * 4) (by omega)
      obtain ⟨v1, c1⟩ := hI.room.cell (o := k * 4 + 1) (by omega)
      obtain ⟨v2, c2⟩ := hI.room.cell (o := k * 4 + 2) (by omega)
      obtain ⟨v3, c3⟩ := hI.room.cell (o := k * 4 + 3) (by omega)
      have f0 := hI.room.frozen (k * 4)
      have f1 := hI.room.frozen (k * 4 + 1)
      have f2 := hI.room.frozen (k * 4 + 2)
      have f3 := hI.room.frozen (k * 4 + 3)
      go_wp2_with fail
      clear h1' h2' h3' h4' c0 c1 c2 c3 f0 f1 f2 f3
      obtain ⟨wo, rfl⟩ : ∃ wo : World, wo = wr := ⟨_, rfl⟩
      go_loopw [31] (fun j w2 => ∃ (q : Nat) (v : Value), j = .int .i64 q ∧ q ≤ d.L k ∧ wo.heap.size < w2.heap.size ∧ InvA wo w.heap.size n 55 d k q v w2) (fun j _ => d.L k - (intOf j).toNat)
      case atStart => exact ⟨0, _, rfl, Nat.zero_le _, by simp, HA.out _⟩
      case round =>
        obtain ⟨q, v, rfl, hq, hsz, hA⟩ := hrel
        by_cases hqt : q < d.L k
        · obtain ⟨p1, p2, rfl, r1, r2, r3⟩ := H6.out q hqt
          have hp1 : p1 < w.heap.size := World.block_lt_of_cell? w _ r1
          have hbel : Below w.heap.size w wr := hI.below.trans hA.below
          have r1' := (hbel.cell (p := ⟨p1, p2 + q * 3, none⟩) hp1).trans r1
          have r2' := (hbel.cell (p := ⟨p1, p2 + q * 3 + 1, none⟩) hp1).trans r2
          have r3' := (hbel.cell (p := ⟨p1, p2 + q * 3 + 2, none⟩) hp1).trans r3
          clear r1 r2 r3 hbel
          have hp1' : p1 < wr.heap.size := by omega
          have hBw : w.heap.size < wr.heap.size := by omega
          have cv := hA.c2
          have fv := hA.room.frozen (k * 4 + 2)
          have HN : Hid (∀ c : Obj, ∀ j u, ([.string (d.I k q), .string (d.N k q), .string (d.A k q)] : List Value)[j]? = some u → (((wr.alloc c).alloc (.cells #[.string (d.I k q), .string (d.N k q), .string (d.A k q)] 55)).drew).cell? ((⟨wr.heap.size + 1, 0, none⟩ : Addr).add j) = some u) := fun c =>
            World.news_of_block (w := ((wr.alloc c).alloc (.cells #[.string (d.I k q), .string (d.N k q), .string (d.A k q)] 55)).drew) (cs := #[.string (d.I k q), .string (d.N k q), .string (d.A k q)]) (t := 55) (fr := (0, 0)) (by have := heap_alloc_new (wr.alloc c) (.cells #[.string (d.I k q), .string (d.N k q), .string (d.A k q)] 55); rw [World.size_alloc] at this; exact this)
          have hk0 : (0 : Int) ≤ (k : Int) := Int.natCast_nonneg _
          have hk1 : (k : Int) < (n : Int) := by omega
          go_wp2_with fail
          clear r1' r2' r3'
          go_region_law ((refine step_append_lies _ (by rfl) (.tmp 41) (.tmp 43) 50 (by rfl) wo.heap.size 55 i1 _ 3 48 Yba.underlying50 hi1 hy0 hy1 hy2 rfl (by omega) v q (flat (d.I k) (d.N k) (d.A k) q) (by rfl) (((hA.owns.alloc _).alloc _).drew) ⟨wr.heap.size + 1, 0, none⟩ 1 1 [.string (d.I k q), .string (d.N k q), .string (d.A k q)] (by rfl) (by rfl) (by exact HN.out _) (by simp [Value.oneCell']) (by omega) (by unfold maxLen; omega) (by omega) (by simp; omega) (wr.heap.size + 2) (by simp) ?_; intro g cp w3 hown3 hgrow hat hltg; obtain ⟨e1, e2⟩ := InvA.cell3 hI hA (Nat.le_of_lt hsz) ((((Below.refl _ _).alloc (Nat.le_refl _) _).alloc (by simp) _).drew) hgrow))
          all_goals
            have hP := InvA.push hI hA hlt (Nat.le_of_lt hsz) ((((Below.refl _ _).alloc (Nat.le_refl _) _).alloc (by simp) _).drew) hgrow hown3
            have hs3 : wo.heap.size < w3.heap.size := by have := hgrow.size; simp at this; omega
            clear hown3 hgrow hat hltg e1 e2 cv fv HN hA
            go_wp2_with fail
            go_roundw
            case rel => exact ⟨q + 1, _, by go_num, by omega, by simp [World.setCell]; omega, hP⟩
            case measure => simp [intOf]; omega
        · have hql : q = d.L k := by omega
          rw [hql] at hA
          have HF := hide (InvA.finish hI hA hlt)
          clear hql hA
          go_wp2_with fail
          go_roundw
          case rel => exact ⟨k + 1, by go_num, by omega, HF.out⟩
          case measure => simp [intOf]; omega
    · go_wp2_with fail
      go_ret
      have : k = n := by omega
      subst this
      exact ⟨_, _, rfl, hI.rows, hI.below⟩

end Go.Proofs.Ybulkbvmk.Msgs
