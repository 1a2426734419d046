/- From the reading of the argument (a slice of messages as data) to the cells that the walks ask for. -/
import Derived.Test.YbulkbvmkMsgs
import Derived.Deep.Slices
namespace Go.Proofs.Ybulkbvmk.Msgs
open Go.ChangeShapes Go.WideShapes Go.ChangeAt Go.RowKit Go.Deep
set_option linter.unusedVariables false

theorem cells48 : Yba.prog.cellsOf 48 = 4 := by kernel_rfl
theorem cells54 : Yba.prog.cellsOf 54 = 3 := by kernel_rfl
theorem cells9 : Yba.prog.cellsOf 9 = 1 := by kernel_rfl
theorem cells46 : Yba.prog.cellsOf 46 = 1 := by kernel_rfl

section
variable {H : Type} {enc : TypeId × Value → H} {w : World} {base : Nat} {spare : Nat → Bool} {held : Bool}

/-- A call: three strings. -/
theorem open_call {fuel : Nat} {cs : List Value} {x : DataW H × List MemPlace} (h : DataW.trod enc Yba.prog w base spare held fuel 54 cs = some x) :
    ∃ s0 s1 s2 : ByteArray, cs = [.string s0, .string s1, .string s2] := by
  obtain ⟨xs, n, _, _, hl, hx, hf⟩ := DataW.trod_struct Yba.underlying54 h
  rw [cells54] at hl
  obtain ⟨c0, c1, c2, rfl⟩ : ∃ c0 c1 c2, cs = [c0, c1, c2] := by
    match cs, hl with
    | [c0, c1, c2], _ => exact ⟨c0, c1, c2, rfl⟩
  obtain ⟨y0, y1, y2, rfl⟩ : ∃ y0 y1 y2, xs = [y0, y1, y2] := by
    match xs, hx with
    | [y0, y1, y2], _ => exact ⟨y0, y1, y2, rfl⟩
  have f0 : DataW.trod enc Yba.prog w base spare held n 9 (([c0, c1, c2].drop 0).take (Yba.prog.cellsOf 9)) = [y0, y1, y2][0]? := hf 0 _ rfl
  have f1 : DataW.trod enc Yba.prog w base spare held n 9 (([c0, c1, c2].drop 1).take (Yba.prog.cellsOf 9)) = [y0, y1, y2][1]? := hf 1 _ rfl
  have f2 : DataW.trod enc Yba.prog w base spare held n 9 (([c0, c1, c2].drop 2).take (Yba.prog.cellsOf 9)) = [y0, y1, y2][2]? := hf 2 _ rfl
  rw [cells9] at f0 f1 f2
  obtain ⟨s0, e0, _⟩ := DataW.trod_string Yba.underlying9 f0
  obtain ⟨s1, e1, _⟩ := DataW.trod_string Yba.underlying9 f1
  obtain ⟨s2, e2, _⟩ := DataW.trod_string Yba.underlying9 f2
  simp at e0 e1 e2
  subst e0; subst e1; subst e2
  exact ⟨s0, s1, s2, rfl⟩

theorem spot_of {w : World} {a : Addr} {v : Value} (h : w.cell? ((a.add (0 * 4)).add 0) = some v) : a.spot = none := by
  simpa [Addr.add] using World.cell?_spot h
theorem spot_of' {w : World} {a : Addr} {v : Value} (h : w.cell? ((a.add (0 * 3)).add 0) = some v) : a.spot = none := by
  simpa [Addr.add] using World.cell?_spot h

/-- A row of calls. -/
theorem open_calls {fuel : Nat} {v : Value} {x : DataW H × List MemPlace} (h : DataW.trod enc Yba.prog w base spare held fuel 46 [v] = some x) :
    ∃ (a : Option Addr) (l c : Nat) (f : Nat → ByteArray × ByteArray × ByteArray), v = .slice a l c ∧ (a = none → l = 0) ∧ l ≤ maxLen ∧ CallsAt w a l (fun j => (f j).1) (fun j => (f j).2.1) (fun j => (f j).2.2) := by
  rcases open_slice Yba.underlying46 h with ⟨e, _⟩ | ⟨a, l, c, m, n, D, Pl, e, hb, hlc, hcm, hm, _, hx⟩
  · simp at e
    subst e
    exact ⟨none, 0, 0, fun _ => default, rfl, fun _ => rfl, Nat.zero_le _, fun j hj => by omega⟩
  · simp at e
    subst e
    rw [cells54] at hx
    have hlm : l ≤ m := by rw [hm]; split <;> omega
    obtain ⟨f, hf⟩ := choose_lt (α := ByteArray × ByteArray × ByteArray) (n := l) (p := fun j s => w.cell? ((a.add (j * 3)).add 0) = some (.string s.1) ∧ w.cell? ((a.add (j * 3)).add 1) = some (.string s.2.1) ∧ w.cell? ((a.add (j * 3)).add 2) = some (.string s.2.2)) (fun j hj => by
      obtain ⟨cs', h1, h2⟩ := hx j (by omega)
      obtain ⟨s0, s1, s2, rfl⟩ := open_call h2
      obtain ⟨_, _, hc⟩ := World.cells?_some h1
      exact ⟨(s0, s1, s2), hc 0 (by omega), hc 1 (by omega), hc 2 (by omega)⟩)
    refine ⟨some a, l, c, f, rfl, fun h => by simp at h, by omega, fun j hj => ?_⟩
    obtain ⟨b, o, sp⟩ := a
    have hs : sp = none := spot_of' (hf 0 (by omega)).1
    subst hs
    have := hf j hj
    simp only [add_plain] at this
    exact ⟨b, o, rfl, this⟩

/-- A message: three strings and a row of calls. -/
theorem open_msg {fuel : Nat} {cs : List Value} {x : DataW H × List MemPlace} (h : DataW.trod enc Yba.prog w base spare held fuel 48 cs = some x) :
    ∃ (s : ByteArray × ByteArray × ByteArray) (a : Option Addr) (l c : Nat) (f : Nat → ByteArray × ByteArray × ByteArray), cs = [.string s.1, .string s.2.1, .string s.2.2, .slice a l c] ∧ (a = none → l = 0) ∧ l ≤ maxLen ∧
      CallsAt w a l (fun j => (f j).1) (fun j => (f j).2.1) (fun j => (f j).2.2) := by
  obtain ⟨xs, n, _, _, hl, hx, hf⟩ := DataW.trod_struct Yba.underlying48 h
  rw [cells48] at hl
  obtain ⟨c0, c1, c2, c3, rfl⟩ : ∃ c0 c1 c2 c3, cs = [c0, c1, c2, c3] := by
    match cs, hl with
    | [c0, c1, c2, c3], _ => exact ⟨c0, c1, c2, c3, rfl⟩
  obtain ⟨y0, y1, y2, y3, rfl⟩ : ∃ y0 y1 y2 y3, xs = [y0, y1, y2, y3] := by
    match xs, hx with
    | [y0, y1, y2, y3], _ => exact ⟨y0, y1, y2, y3, rfl⟩
  have f0 : DataW.trod enc Yba.prog w base spare held n 9 (([c0, c1, c2, c3].drop 0).take (Yba.prog.cellsOf 9)) = [y0, y1, y2, y3][0]? := hf 0 _ rfl
  have f1 : DataW.trod enc Yba.prog w base spare held n 9 (([c0, c1, c2, c3].drop 1).take (Yba.prog.cellsOf 9)) = [y0, y1, y2, y3][1]? := hf 1 _ rfl
  have f2 : DataW.trod enc Yba.prog w base spare held n 9 (([c0, c1, c2, c3].drop 2).take (Yba.prog.cellsOf 9)) = [y0, y1, y2, y3][2]? := hf 2 _ rfl
  have f3 : DataW.trod enc Yba.prog w base spare held n 46 (([c0, c1, c2, c3].drop 3).take (Yba.prog.cellsOf 46)) = [y0, y1, y2, y3][3]? := hf 3 _ rfl
  rw [cells9] at f0 f1 f2
  rw [cells46] at f3
  obtain ⟨s0, e0, _⟩ := DataW.trod_string Yba.underlying9 f0
  obtain ⟨s1, e1, _⟩ := DataW.trod_string Yba.underlying9 f1
  obtain ⟨s2, e2, _⟩ := DataW.trod_string Yba.underlying9 f2
  simp at e0 e1 e2
  subst e0; subst e1; subst e2
  obtain ⟨a, l, c, f, rfl, h1, h2, h3⟩ := open_calls (v := c3) f3
  exact ⟨(s0, s1, s2), a, l, c, f, rfl, h1, h2, h3⟩

/-- The argument. -/
theorem open_msgs {fuel : Nat} {a : Option Addr} {n cap : Nat} {x : DataW H × List MemPlace} (h : DataW.trod enc Yba.prog w base spare held fuel 40 [.slice a n cap] = some x) :
    ∃ d : Dat, (a = none → n = 0) ∧ n ≤ maxLen ∧ (∀ i, i < n → d.L i ≤ maxLen) ∧ InRows w a n d := by
  rcases open_slice Yba.underlying40 h with ⟨e, _⟩ | ⟨a', l, c, m, k, D, Pl, e, hb, hlc, hcm, hm, _, hx⟩
  · simp at e
    obtain ⟨rfl, rfl, rfl⟩ := e
    exact ⟨⟨fun _ => default, fun _ => default, fun _ => default, fun _ => 0, fun _ => true, fun _ _ => default, fun _ _ => default, fun _ _ => default⟩, fun _ => rfl, Nat.zero_le _, fun i hi => by omega, fun i hi => by omega⟩
  · simp at e
    obtain ⟨rfl, rfl, rfl⟩ := e
    rw [cells48] at hx
    have hlm : n ≤ m := by rw [hm]; split <;> omega
    obtain ⟨F, hF⟩ := choose_lt (α := (ByteArray × ByteArray × ByteArray) × Option Addr × Nat × Nat × (Nat → ByteArray × ByteArray × ByteArray)) (n := n)
      (p := fun i s => w.cell? ((a'.add (i * 4)).add 0) = some (.string s.1.1) ∧ w.cell? ((a'.add (i * 4)).add 1) = some (.string s.1.2.1) ∧ w.cell? ((a'.add (i * 4)).add 2) = some (.string s.1.2.2) ∧
        w.cell? ((a'.add (i * 4)).add 3) = some (.slice s.2.1 s.2.2.1 s.2.2.2.1) ∧ s.2.2.1 ≤ maxLen ∧ CallsAt w s.2.1 s.2.2.1 (fun j => (s.2.2.2.2 j).1) (fun j => (s.2.2.2.2 j).2.1) (fun j => (s.2.2.2.2 j).2.2)) (fun i hi => by
      obtain ⟨cs', h1, h2⟩ := hx i (by omega)
      obtain ⟨s, a, l, c, f, rfl, _, g2, g3⟩ := open_msg h2
      obtain ⟨_, _, hc⟩ := World.cells?_some h1
      exact ⟨(s, a, l, c, f), hc 0 (by omega), hc 1 (by omega), hc 2 (by omega), hc 3 (by omega), g2, g3⟩)
    refine ⟨⟨fun i => (F i).1.1, fun i => (F i).1.2.1, fun i => (F i).1.2.2, fun i => (F i).2.2.1, fun i => (F i).2.1.isNone, fun i j => ((F i).2.2.2.2 j).1, fun i j => ((F i).2.2.2.2 j).2.1, fun i j => ((F i).2.2.2.2 j).2.2⟩, fun h => by simp at h, by omega, fun i hi => (hF i hi).2.2.2.2.1, fun i hi => ?_⟩
    obtain ⟨b, o, sp⟩ := a'
    have hs : sp = none := spot_of (hF 0 (by omega)).1
    subst hs
    have := hF i hi
    simp only [add_plain] at this
    obtain ⟨h0, h1, h2, h3, _, h5⟩ := this
    exact ⟨b, o, rfl, h0, h1, h2, (F i).2.1, (F i).2.2.2.1, h3, rfl, h5⟩
end

end Go.Proofs.Ybulkbvmk.Msgs
