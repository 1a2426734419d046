/- The walk of LawS3598BRoundTrip, out of its callees' contracts. -/
import Derived.Test.YbulkbvmkSame
import Derived.Test.YbulkbvmkSaved
import Derived.Test.YbulkbvmkMjs
namespace Go.Proofs.Ybulkbvmk.Msgs
open Go.ChangeShapes Go.WideShapes Go.ChangeAt Go.RowKit
set_option linter.unusedVariables false

theorem saved_any (a : Option Addr) (n cap : Nat) (d : Dat) (w : World) (hnil : a = none → n = 0) (hn : n ≤ 1024) (hL : ∀ i, i < n → d.L i ≤ 1024) (hr : InRows w a n d) :
    Calls Yba.prog 11 #[.slice a n cap] w fun e w' => RowPost w n d d.Z e w' := by
  rcases a with _ | y
  · have := hnil rfl
    subst this
    exact saved_nil cap d w
  · exact saved_some y n cap d w hn hL hr

set_option maxHeartbeats 1000000 in
theorem round_walk (a : Option Addr) (n cap : Nat) (d : Dat) (w : World) (hnil : a = none → n = 0) (hn : n ≤ maxLen) (hL : ∀ i, i < n → d.L i ≤ maxLen) (hr : InRows w a n d) :
    Calls Yba.prog 5 #[.slice a n cap] w fun e w' => e = .returned (.bool true) ∧ Below w.heap.size w w' := by
  have HN := hide hnil
  have HR := hide hr
  have HT := hide (toobig_any a n cap d w hn hL hr)
  clear hnil hr hn hL
  have q42 := eqnil Yba.underlying42
  go_enter Yba.func5, Yba.ntmps5
  go_wp2_with fail
  refine HT.out.mono ?_
  rintro e w' ⟨⟨r, rfl, hb⟩, rfl⟩
  cases r with
  | true =>
    clear hb
    go_wp2_with fail
    go_ret
    exact ⟨rfl, Below.refl _ _⟩
  | false =>
    obtain ⟨hn, hL⟩ := hb rfl
    have HL := hide hL
    clear hb hL HT
    go_wp2_with fail
    refine (saved_any a n cap d w' HN.out hn HL.out HR.out).mono ?_
    rintro e w1 ⟨a1, c1, rfl, ho1, hb1⟩
    go_wp2_with fail
    refine (mof_any a1 n c1 d d.Z w1 hn HL.out ho1).mono ?_
    rintro e w2 ⟨a2, c2, rfl, ho2, hb2⟩
    go_wp2_with fail
    refine (mjs_any (some a2) n c2 d (fun i => d.L i == 0) w2 hn HL.out ho2).mono ?_
    rintro e w3 ⟨a3, c3, rfl, ho3, hb3⟩
    have hb03 : Below w'.heap.size w' w3 := (hb1.trans (hb2.mono hb1.size)).trans (hb3.mono (Nat.le_trans hb1.size hb2.size))
    have HR3 := hide (HR.out.keep hb03)
    go_wp2_with fail
    refine (same_true (some a3) c3 a n cap d w3 hn HL.out ho3 HR3.out).mono ?_
    rintro e w4 ⟨rfl, hb4⟩
    go_wp2_with fail
    go_ret
    exact ⟨rfl, hb03.trans (hb4.mono hb03.size)⟩

end Go.Proofs.Ybulkbvmk.Msgs
