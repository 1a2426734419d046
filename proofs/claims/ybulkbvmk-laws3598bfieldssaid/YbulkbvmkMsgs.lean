/- What the laws over messagesOf and messagesJSON are told of memory: rows of messages, each with a row of calls. -/
import Derived.Test.YbulkbvmkRows
import Derived.WalkKit
import Derived.ProofKit
import Derived.Below
import Derived.OwnWalk
import Derived.Lib.SliceRun
import Derived.Laws.Cover3
namespace Go.Proofs.Ybulkbvmk.Msgs
open Go.ChangeShapes Go.WideShapes Go.ChangeAt Go.RowKit
set_option linter.unusedVariables false

theorem hide {p : Prop} (h : p) : Hid p := h

/-- The plain data: of message i its role, content, tool-call id; how many calls; whether the calls are nil; of call j its three strings. -/
structure Dat where
  R : Nat → ByteArray
  C : Nat → ByteArray
  T : Nat → ByteArray
  L : Nat → Nat
  Z : Nat → Bool
  I : Nat → Nat → ByteArray
  N : Nat → Nat → ByteArray
  A : Nat → Nat → ByteArray

/-- l calls lie at x: three strings each. -/
def CallsAt (w : World) (x : Option Addr) (l : Nat) (I N A : Nat → ByteArray) : Prop :=
  ∀ j, j < l → ∃ b o, x = some ⟨b, o, none⟩ ∧ w.cell? ⟨b, o + j * 3, none⟩ = some (.string (I j)) ∧ w.cell? ⟨b, o + j * 3 + 1, none⟩ = some (.string (N j)) ∧ w.cell? ⟨b, o + j * 3 + 2, none⟩ = some (.string (A j))

/-- Message i as it came in lies at ⟨b, o⟩. -/
def InMsg (w : World) (b o : Nat) (d : Dat) (i : Nat) : Prop :=
  w.cell? ⟨b, o, none⟩ = some (.string (d.R i)) ∧ w.cell? ⟨b, o + 1, none⟩ = some (.string (d.C i)) ∧ w.cell? ⟨b, o + 2, none⟩ = some (.string (d.T i)) ∧
  ∃ x c, w.cell? ⟨b, o + 3, none⟩ = some (.slice x (d.L i) c) ∧ x.isNone = d.Z i ∧ CallsAt w x (d.L i) (d.I i) (d.N i) (d.A i)

/-- Message i as the program makes it (messageJSON, Message: one layout) lies at ⟨b, o⟩; 'z': its calls are nil. -/
def OutMsg (w : World) (b o : Nat) (d : Dat) (i : Nat) (z : Bool) : Prop :=
  w.cell? ⟨b, o, none⟩ = some (.string (d.R i)) ∧ w.cell? ⟨b, o + 1, none⟩ = some (.string (d.C i)) ∧ w.cell? ⟨b, o + 3, none⟩ = some (.string (d.T i)) ∧
  ∃ x c, w.cell? ⟨b, o + 2, none⟩ = some (.slice x (d.L i) c) ∧ x.isNone = z ∧ CallsAt w x (d.L i) (d.I i) (d.N i) (d.A i)

def InRows (w : World) (a : Option Addr) (n : Nat) (d : Dat) : Prop := ∀ i, i < n → ∃ b o, a = some ⟨b, o, none⟩ ∧ InMsg w b (o + i * 4) d i
def OutRows (w : World) (a : Option Addr) (n : Nat) (d : Dat) (Z : Nat → Bool) : Prop := ∀ i, i < n → ∃ b o, a = some ⟨b, o, none⟩ ∧ OutMsg w b (o + i * 4) d i (Z i)

/-- Every cell that was there outside 'p' is as it was. -/
def Keeps (p : Nat → Nat → Prop) (w w' : World) : Prop := ∀ b o v, ¬ p b o → w.cell? ⟨b, o, none⟩ = some v → w'.cell? ⟨b, o, none⟩ = some v

theorem keeps_below {w w' : World} (h : Below w.heap.size w w') : Keeps (fun _ _ => False) w w' := fun b o v _ hv =>
  (h.cell (p := ⟨b, o, none⟩) (World.block_lt_of_cell? w _ hv)).trans hv

theorem CallsAt.keep {w w' : World} (k : Keeps (fun _ _ => False) w w') {x : Option Addr} {l : Nat} {I N A : Nat → ByteArray} (h : CallsAt w x l I N A) : CallsAt w' x l I N A := fun j hj => by
  obtain ⟨b, o, rfl, h1, h2, h3⟩ := h j hj
  exact ⟨b, o, rfl, k _ _ _ id h1, k _ _ _ id h2, k _ _ _ id h3⟩

theorem InMsg.keep {w w' : World} (k : Keeps (fun _ _ => False) w w') {b o i : Nat} {d : Dat} (h : InMsg w b o d i) : InMsg w' b o d i := by
  obtain ⟨h1, h2, h3, x, c, h4, h5, h6⟩ := h
  exact ⟨k _ _ _ id h1, k _ _ _ id h2, k _ _ _ id h3, x, c, k _ _ _ id h4, h5, h6.keep k⟩

theorem OutMsg.keep {w w' : World} (k : Keeps (fun _ _ => False) w w') {b o i : Nat} {d : Dat} {z : Bool} (h : OutMsg w b o d i z) : OutMsg w' b o d i z := by
  obtain ⟨h1, h2, h3, x, c, h4, h5, h6⟩ := h
  exact ⟨k _ _ _ id h1, k _ _ _ id h2, k _ _ _ id h3, x, c, k _ _ _ id h4, h5, h6.keep k⟩

theorem InRows.keep {w w' : World} (h : Below w.heap.size w w') {a : Option Addr} {n : Nat} {d : Dat} (hr : InRows w a n d) : InRows w' a n d := fun i hi => by
  obtain ⟨b, o, rfl, hm⟩ := hr i hi
  exact ⟨b, o, rfl, hm.keep (keeps_below h)⟩

theorem OutRows.keep {w w' : World} (h : Below w.heap.size w w') {a : Option Addr} {n : Nat} {d : Dat} {Z : Nat → Bool} (hr : OutRows w a n d Z) : OutRows w' a n d Z := fun i hi => by
  obtain ⟨b, o, rfl, hm⟩ := hr i hi
  exact ⟨b, o, rfl, hm.keep (keeps_below h)⟩

theorem alloc2_cell {w : World} {o1 o2 : Obj} {b i : Nat} {v : Value} (h : w.cell? ⟨b, i, none⟩ = some v) : ((w.alloc o1).alloc o2).cell? ⟨b, i, none⟩ = some v := by
  have hb : b < w.heap.size := World.block_lt_of_cell? w _ h
  rw [World.cell?_alloc_lt _ _ _ (by simp; omega), World.cell?_alloc_lt _ _ _ hb, h]

/-! ### '== nil', '!= nil' at a slice -/
theorem eqnil {t e : TypeId} (h : Yba.prog.underlying t = some (.slice e)) (w : World) (a : Option Addr) (n c : Nat) : (binOp .eql t (.slice a n c) (.slice none 0 0)).run Yba.prog w = .ok (.bool a.isNone) w :=
  Lib.run_eql_slice_nil w t e a n c 0 0 h
theorem nenil {t e : TypeId} (h : Yba.prog.underlying t = some (.slice e)) (w : World) (a : Option Addr) (n c : Nat) : (binOp .neq t (.slice a n c) (.slice none 0 0)).run Yba.prog w = .ok (.bool (!a.isNone)) w :=
  run_neq_slice_nil w t e a n c h

/-! ### zzs3598btoobig -/
def BigPost (n : Nat) (d : Dat) (e : Ending) : Prop := ∃ r : Bool, e = .returned (.bool r) ∧ (r = false → n ≤ 1024 ∧ ∀ i, i < n → d.L i ≤ 1024)
theorem toobig_any (a : Option Addr) (n cap : Nat) (d : Dat) (w : World) (hn : n ≤ maxLen) (hL : ∀ i, i < n → d.L i ≤ maxLen) (hr : InRows w a n d) :
    Calls Yba.prog 10 #[.slice a n cap] w fun e w' => BigPost n d e ∧ w' = w := by
  unfold maxLen at hn hL
  have HL := hide hL
  clear hL
  by_cases hb : 1024 < n
  · go_enter Yba.func10, Yba.ntmps10
    go_wp2
    go_ret
    exact ⟨⟨true, rfl, fun h => by simp at h⟩, rfl⟩
  · have HR : Hid (InRows w a n d) := hr
    clear hr
    have d0 : decide ((1024 : Int) < (n : Int)) = false := decide_eq_false (by omega)
    go_enter Yba.func10, Yba.ntmps10
    go_wp2
    go_loop [3] (fun i => ∃ k : Nat, i = .int .i64 k ∧ k ≤ n ∧ ∀ j, j < k → d.L j ≤ 1024) (fun i => n - (intOf i).toNat)
    case atStart => exact ⟨0, rfl, Nat.zero_le _, fun j hj => by omega⟩
    case round =>
      obtain ⟨k, rfl, hk, h3⟩ := hrel
      have H3 := hide h3
      clear h3
      by_cases hlt : k < n
      · obtain ⟨b, o, rfl, h1, h2, h3, x, c, h4, h5, h6⟩ := HR.out k hlt
        have hLk := HL.out k hlt
        have H6 := hide h6
        have H5 := hide h5
        clear h1 h2 h3 h5 h6
        by_cases hbig : 1024 < d.L k
        · go_wp2
          go_ret
          exact ⟨⟨true, rfl, fun h => by simp at h⟩, rfl⟩
        · go_wp2
          go_round
          case rel => exact ⟨k + 1, by go_num, by omega, fun j hj => by
            by_cases e : j = k
            · subst e; omega
            · exact H3.out j (by omega)⟩
          case measure => simp [intOf]; omega
      · go_wp2
        go_ret
        exact ⟨⟨false, rfl, fun _ => ⟨by omega, fun i hi => H3.out i (by omega)⟩⟩, rfl⟩

end Go.Proofs.Ybulkbvmk.Msgs
