/- The inner loops of messagesOf and messagesJSON: 'out[k].ToolCalls = append(out[k].ToolCalls, c)'. No walk in here. -/
import Derived.Test.YbulkbvmkMem
import Derived.Deep.AppendLies
namespace Go.Proofs.Ybulkbvmk.Msgs
open Go.ChangeShapes Go.WideShapes Go.ChangeAt Go.RowKit
set_option linter.unusedVariables false

/-- The cells of the first q calls. -/
def flat (I N A : Nat → ByteArray) : Nat → List Value
  | 0 => []
  | q + 1 => flat I N A q ++ [.string (I q), .string (N q), .string (A q)]

theorem flat_length (I N A : Nat → ByteArray) (q : Nat) : (flat I N A q).length = q * 3 := by
  induction q with
  | zero => rfl
  | succ q ih => simp [flat, ih]; omega

theorem flat_get (I N A : Nat → ByteArray) (q j : Nat) (hj : j < q) :
    (flat I N A q)[j * 3]? = some (.string (I j)) ∧ (flat I N A q)[j * 3 + 1]? = some (.string (N j)) ∧ (flat I N A q)[j * 3 + 2]? = some (.string (A j)) := by
  induction q with
  | zero => omega
  | succ q ih =>
    have hl := flat_length I N A q
    unfold flat
    by_cases e : j = q
    · subst e
      refine ⟨?_, ?_, ?_⟩
      · rw [List.getElem?_append_right (by omega), hl]; simp
      · rw [List.getElem?_append_right (by omega), hl, show j * 3 + 1 - j * 3 = 1 from by omega]; simp
      · rw [List.getElem?_append_right (by omega), hl, show j * 3 + 2 - j * 3 = 2 from by omega]; simp
    · obtain ⟨h1, h2, h3⟩ := ih (by omega)
      refine ⟨?_, ?_, ?_⟩
      · rw [List.getElem?_append_left (by omega)]; exact h1
      · rw [List.getElem?_append_left (by omega)]; exact h2
      · rw [List.getElem?_append_left (by omega)]; exact h3

/-- Message k of block B is under way: its first q calls are laid, in new memory. -/
structure InvA (wo : World) (B n E : Nat) (d : Dat) (k q : Nat) (v : Value) (wr : World) : Prop where
  room : Room wr B (n * 4)
  c0 : wr.cell? ⟨B, k * 4, none⟩ = some (.string (d.R k))
  c1 : wr.cell? ⟨B, k * 4 + 1, none⟩ = some (.string (d.C k))
  c2 : wr.cell? ⟨B, k * 4 + 2, none⟩ = some v
  c3 : wr.cell? ⟨B, k * 4 + 3, none⟩ = some (.string (d.T k))
  owns : wr.ownsRow wo.heap.size E 3 v q (flat (d.I k) (d.N k) (d.A k) q)
  isnil : q = 0 → v = .slice none 0 0
  keeps : Keeps (fun b o => (b = B ∧ k * 4 ≤ o) ∨ wo.heap.size ≤ b) wo wr
  below : Below B wo wr

theorem InvA.start {w wo : World} {B n E : Nat} {d : Dat} {Z : Nat → Bool} {k : Nat} (h : Inv w B n d Z k wo) (hk : k < n) (o : Obj) :
    InvA wo B n E d k 0 (.slice none 0 0) ((set4 wo B (k * 4) (.string (d.R k)) (.string (d.C k)) (.slice none 0 0) (.string (d.T k))).alloc o) := by
  obtain ⟨c0, c1, c2, c3⟩ := set4_cells h.room (o := k * 4) (by omega) (.string (d.R k)) (.string (d.C k)) (.slice none 0 0) (.string (d.T k))
  have hK := (Keeps.refl (fun _ _ => False) (set4 wo B (k * 4) (.string (d.R k)) (.string (d.C k)) (.slice none 0 0) (.string (d.T k)))).alloc o
  have hr := set4_room h.room B (k * 4) (.string (d.R k)) (.string (d.C k)) (.slice none 0 0) (.string (d.T k))
  refine ⟨hr.alloc o, hK _ _ _ id c0, hK _ _ _ id c1, hK _ _ _ id c2, hK _ _ _ id c3, World.ownsRow_nil _ _ _ _, fun _ => rfl, ?_, ?_⟩
  · exact ((set4_keeps wo B (k * 4) _ _ _ _).mono fun b j hp => Or.inl hp).alloc o
  · exact (set4_below (Below.refl _ _) (Nat.le_refl _) _ _ _ _ _).alloc (Nat.le_of_lt hr.lt) o

/-- What an owner's own block is: none, or one behind B. -/
theorem own_ne {w : World} {base E q : Nat} {v : Value} {xs : List Value} (h : w.ownsRow base E 3 v q xs) {b : Nat} (hb : b < base) : some b ≠ v.ownBlock := by
  rcases h.2 with ⟨rfl, _⟩ | ⟨g, cap, cur, rfl, hg, _⟩
  · simp [Value.ownBlock]
  · simp [Value.ownBlock]; omega

theorem own_ge {w : World} {base E q : Nat} {v : Value} {xs : List Value} (h : w.ownsRow base E 3 v q xs) {b : Nat} (hb : some b = v.ownBlock) : base ≤ b := by
  by_cases hh : b < base
  · exact absurd hb (own_ne h hh)
  · omega

theorem InvA.push {w wo : World} {B n E : Nat} {d : Dat} {Z : Nat → Bool} {k q : Nat} {v : Value} {wr wx w3 : World} {g cap : Nat} (hI : Inv w B n d Z k wo) (h : InvA wo B n E d k q v wr) (hk : k < n)
    (hsz : wo.heap.size ≤ wr.heap.size) (hx : Below wr.heap.size wr wx) (hgrow : wx.grownBy w3 v.ownBlock)
    (hown : w3.ownsRow wo.heap.size E 3 (.slice (some ⟨g, 0, none⟩) (q + 1) cap) (q + 1) (flat (d.I k) (d.N k) (d.A k) q ++ [.string (d.I k q), .string (d.N k q), .string (d.A k q)])) :
    InvA wo B n E d k (q + 1) (.slice (some ⟨g, 0, none⟩) (q + 1) cap) (w3.setCell ⟨B, k * 4 + 2, none⟩ (.slice (some ⟨g, 0, none⟩) (q + 1) cap)) := by
  have hB := hI.room.lt
  have hne : some B ≠ v.ownBlock := own_ne h.owns hB
  have hsx := hx.size
  have hbl : ∀ b, b < wr.heap.size → some b ≠ v.ownBlock → w3.heap[b]? = wr.heap[b]? := fun b hb hn => (hgrow.block b (by omega) hn).trans (hx.block b hb)
  have hcl : ∀ b o u, some b ≠ v.ownBlock → wr.cell? ⟨b, o, none⟩ = some u → w3.cell? ⟨b, o, none⟩ = some u := fun b o u hn hu =>
    (World.cell?_of_block (w := wr) (w' := w3) (a := ⟨b, o, none⟩) (hbl b (World.block_lt_of_cell? wr _ hu) hn)).trans hu
  have hr3 : Room w3 B (n * 4) := by
    obtain ⟨cur, e, h1, h2⟩ := h.room
    exact ⟨cur, e, by rw [hbl B (by omega) hne]; exact h1, h2⟩
  have hK : Keeps (fun b o => (b = B ∧ k * 4 ≤ o) ∨ wo.heap.size ≤ b) wr w3 := fun b o u hp hu =>
    hcl b o u (fun e => hp (Or.inr (own_ge h.owns e))) hu
  refine ⟨hr3.set _ _ _, ?_, ?_, cell_same hr3 (by omega) _, ?_, ownsRow_setCell_below hown hB _, fun e => by omega, ?_, ?_⟩
  · rw [cell_other _ _ _ _ _ _ (.inr (by omega))]; exact hcl _ _ _ hne h.c0
  · rw [cell_other _ _ _ _ _ _ (.inr (by omega))]; exact hcl _ _ _ hne h.c1
  · rw [cell_other _ _ _ _ _ _ (.inr (by omega))]; exact hcl _ _ _ hne h.c3
  · exact (h.keeps.trans hK).set (Or.inl ⟨rfl, by omega⟩) _
  · refine Below.setCell (p := ⟨B, k * 4 + 2, none⟩) ?_ (Nat.le_refl _) _
    exact h.below.trans ⟨hgrow.os.trans hx.os, hgrow.tape.trans hx.tape, hgrow.output.trans hx.output, Nat.le_trans hx.size hgrow.size, fun b hb => hbl b (by omega) (own_ne h.owns (by omega))⟩

/-- Behind the append, ahead of the store: the field is there still, and may be written. -/
theorem InvA.cell3 {w wo : World} {B n E : Nat} {d : Dat} {Z : Nat → Bool} {k q : Nat} {v : Value} {wr wx w3 : World} (hI : Inv w B n d Z k wo) (h : InvA wo B n E d k q v wr)
    (hsz : wo.heap.size ≤ wr.heap.size) (hx : Below wr.heap.size wr wx) (hgrow : wx.grownBy w3 v.ownBlock) : w3.cell? ⟨B, k * 4 + 2, none⟩ = some v ∧ w3.frozen? ⟨B, k * 4 + 2, none⟩ = false := by
  have hB := hI.room.lt
  have hne : some B ≠ v.ownBlock := own_ne h.owns hB
  have hsx := hx.size
  have hbl : w3.heap[B]? = wr.heap[B]? := (hgrow.block B (by omega) hne).trans (hx.block B (by omega))
  exact ⟨(World.cell?_of_block (w := wr) (w' := w3) (a := ⟨B, k * 4 + 2, none⟩) hbl).trans h.c2, (World.frozen?_of_block (w := wr) (w' := w3) (a := ⟨B, k * 4 + 2, none⟩) hbl).trans (h.room.frozen _)⟩

theorem InvA.finish {w wo : World} {B n E : Nat} {d : Dat} {k : Nat} {v : Value} {wr : World} (hI : Inv w B n d (fun i => d.L i == 0) k wo) (h : InvA wo B n E d k (d.L k) v wr) (hk : k < n) :
    Inv w B n d (fun i => d.L i == 0) (k + 1) wr := by
  have hB := hI.room.lt
  refine hI.step h.keeps h.room h.below ?_
  by_cases hl : d.L k = 0
  · have hv := h.isnil hl
    subst hv
    exact ⟨h.c0, h.c1, h.c3, none, 0, by rw [hl]; exact h.c2, by simp [hl], by simp, fun j hj => by omega⟩
  · obtain ⟨g, cap, rfl, hg, hlt⟩ := h.owns.form (by omega)
    refine ⟨h.c0, h.c1, h.c3, some ⟨g, 0, none⟩, cap, h.c2, by simp [hl], fun y hy => by cases hy; show B < g; omega, fun j hj => ⟨g, 0, rfl, ?_⟩⟩
    obtain ⟨f0, f1, f2⟩ := flat_get (d.I k) (d.N k) (d.A k) (d.L k) j hj
    rw [Nat.zero_add]
    exact ⟨(h.owns.cellAt _ (by omega)).trans f0, (h.owns.cellAt _ (by omega)).trans f1, (h.owns.cellAt _ (by omega)).trans f2⟩

end Go.Proofs.Ybulkbvmk.Msgs
