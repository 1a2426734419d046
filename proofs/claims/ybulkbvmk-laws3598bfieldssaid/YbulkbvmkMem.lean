/- Memory that the call itself makes: a block with room, cells that are kept, rows of messages half done. No walk in here. -/
import Derived.Test.YbulkbvmkMsgs
namespace Go.Proofs.Ybulkbvmk.Msgs
open Go.ChangeShapes Go.WideShapes Go.ChangeAt Go.RowKit
set_option linter.unusedVariables false

/-- Block g is a row of m cells, none of them frozen. -/
def Room (w : World) (g m : Nat) : Prop := ∃ cur e, w.heap[g]? = some (.cells cur e (0, 0)) ∧ cur.size = m

theorem Room.cell {w : World} {g m : Nat} (h : Room w g m) {o : Nat} (ho : o < m) : ∃ v, w.cell? ⟨g, o, none⟩ = some v := by
  obtain ⟨cur, e, h1, rfl⟩ := h
  exact ⟨cur[o], by rw [cell_of_row w g o cur e _ h1]; simp [ho]⟩

theorem Room.got {w : World} {g m : Nat} (h : Room w g m) {o : Nat} (ho : o < m) : (w.cell? ⟨g, o, none⟩).isSome = true := by
  obtain ⟨v, hv⟩ := h.cell ho
  simp [hv]

theorem Room.frozen {w : World} {g m : Nat} (h : Room w g m) (o : Nat) : w.frozen? ⟨g, o, none⟩ = false := by
  obtain ⟨cur, e, h1, _⟩ := h
  exact frozen_of_row w g o cur e h1

theorem Room.lt {w : World} {g m : Nat} (h : Room w g m) : g < w.heap.size := by
  obtain ⟨cur, e, h1, _⟩ := h
  exact (Array.getElem?_eq_some_iff.1 h1).1

theorem Room.set {w : World} {g m : Nat} (h : Room w g m) (b o : Nat) (v : Value) : Room (w.setCell ⟨b, o, none⟩ v) g m := by
  obtain ⟨cur, e, h1, h2⟩ := h
  by_cases hb : g = b
  · subst hb
    exact ⟨_, e, heap_setCell_same w g o cur e v h1, by simpa using h2⟩
  · exact ⟨cur, e, by rw [heap_setCell_other w _ g v hb]; exact h1, h2⟩

theorem Room.below {w w' : World} {g m K : Nat} (h : Room w g m) (hb : Below K w w') (hg : g < K) : Room w' g m := by
  obtain ⟨cur, e, h1, h2⟩ := h
  exact ⟨cur, e, by rw [hb.block g hg]; exact h1, h2⟩

theorem Room.alloc {w : World} {g m : Nat} (h : Room w g m) (o : Obj) : Room (w.alloc o) g m :=
  h.below ((Below.refl w.heap.size w).alloc (Nat.le_refl _) o) h.lt

theorem Room.drew {w : World} {g m : Nat} (h : Room w g m) : Room w.drew g m := h

theorem Keeps.refl (p : Nat → Nat → Prop) (w : World) : Keeps p w w := fun _ _ _ _ h => h
theorem Keeps.trans {p : Nat → Nat → Prop} {a b c : World} (h : Keeps p a b) (k : Keeps p b c) : Keeps p a c := fun b o v hp hv => k b o v hp (h b o v hp hv)
theorem Keeps.mono {p p' : Nat → Nat → Prop} {a b : World} (h : Keeps p a b) (hp : ∀ b o, p b o → p' b o) : Keeps p' a b := fun b o v hn hv => h b o v (fun hh => hn (hp b o hh)) hv
theorem Keeps.alloc {p : Nat → Nat → Prop} {a w : World} (h : Keeps p a w) (o : Obj) : Keeps p a (w.alloc o) :=
  h.trans fun b i v _ hv => by rw [World.cell?_alloc_lt _ _ _ (World.block_lt_of_cell? w _ hv)]; exact hv
theorem Keeps.set {p : Nat → Nat → Prop} {a w : World} (h : Keeps p a w) {g i : Nat} (hp : p g i) (u : Value) : Keeps p a (w.setCell ⟨g, i, none⟩ u) :=
  h.trans fun b o v hn hv => by
    rw [World.cell?_setCell_other _ _ _ _ (fun e => hn (by cases e; exact hp))]; exact hv
/-- Below K all is kept. -/
theorem Keeps.below {p : Nat → Nat → Prop} {K : Nat} {w w' : World} (h : Below K w w') (hp : ∀ b o, K ≤ b → p b o) : Keeps p w w' := fun b o v hn hv => by
  by_cases hb : b < K
  · exact (h.cell (p := ⟨b, o, none⟩) hb).trans hv
  · exact absurd (hp b o (by omega)) hn

/-- As 'OutMsg', in block B; its calls lie behind block B. -/
def OutX (w : World) (B o : Nat) (d : Dat) (i : Nat) (z : Bool) : Prop :=
  w.cell? ⟨B, o, none⟩ = some (.string (d.R i)) ∧ w.cell? ⟨B, o + 1, none⟩ = some (.string (d.C i)) ∧ w.cell? ⟨B, o + 3, none⟩ = some (.string (d.T i)) ∧
  ∃ x c, w.cell? ⟨B, o + 2, none⟩ = some (.slice x (d.L i) c) ∧ x.isNone = z ∧ (∀ y, x = some y → B < y.block) ∧ CallsAt w x (d.L i) (d.I i) (d.N i) (d.A i)

theorem OutX.out {w : World} {B o i : Nat} {d : Dat} {z : Bool} (h : OutX w B o d i z) : OutMsg w B o d i z := by
  obtain ⟨h1, h2, h3, x, c, h4, h5, _, h6⟩ := h
  exact ⟨h1, h2, h3, x, c, h4, h5, h6⟩

theorem OutX.keep {p : Nat → Nat → Prop} {w w' : World} (k : Keeps p w w') {B o i : Nat} {d : Dat} {z : Bool} (h : OutX w B o d i z) (hp : ∀ j, j < o + 4 → ¬ p B j) (hq : ∀ b j, B < b → b < w.heap.size → ¬ p b j) : OutX w' B o d i z := by
  obtain ⟨h1, h2, h3, x, c, h4, h5, hx, h6⟩ := h
  refine ⟨k _ _ _ (hp _ (by omega)) h1, k _ _ _ (hp _ (by omega)) h2, k _ _ _ (hp _ (by omega)) h3, x, c, k _ _ _ (hp _ (by omega)) h4, h5, hx, fun j hj => ?_⟩
  obtain ⟨b, o, rfl, g1, g2, g3⟩ := h6 j hj
  have hb := hx _ rfl
  have hl := World.block_lt_of_cell? w _ g1
  exact ⟨b, o, rfl, k _ _ _ (hq _ _ hb hl) g1, k _ _ _ (hq _ _ hb hl) g2, k _ _ _ (hq _ _ hb hl) g3⟩

/-- The relation of the outer loops: of the n messages of block B the first k are done. -/
structure Inv (w : World) (B n : Nat) (d : Dat) (Z : Nat → Bool) (k : Nat) (wr : World) : Prop where
  room : Room wr B (n * 4)
  done : ∀ i, i < k → OutX wr B (i * 4) d i (Z i)
  below : Below B w wr

theorem Inv.step {w : World} {B n : Nat} {d : Dat} {Z : Nat → Bool} {k : Nat} {wr w2 : World} (h : Inv w B n d Z k wr) (hk : Keeps (fun b o => (b = B ∧ k * 4 ≤ o) ∨ wr.heap.size ≤ b) wr w2)
    (hr : Room w2 B (n * 4)) (hb : Below B wr w2) (new : OutX w2 B (k * 4) d k (Z k)) : Inv w B n d Z (k + 1) w2 := by
  refine ⟨hr, fun i hi => ?_, h.below.trans hb⟩
  by_cases e : i = k
  · subst e; exact new
  · exact (h.done i (by omega)).keep hk (fun j hj hp => by have := h.room.lt; rcases hp with ⟨_, hp⟩ | hp <;> omega) (fun b j hB hl hp => by rcases hp with ⟨hp, _⟩ | hp <;> omega)

theorem Inv.rows {w : World} {B n : Nat} {d : Dat} {Z : Nat → Bool} {wr : World} (h : Inv w B n d Z n wr) : OutRows wr (some ⟨B, 0, none⟩) n d Z := fun i hi =>
  ⟨B, 0, rfl, by rw [Nat.zero_add]; exact (h.done i hi).out⟩

theorem Inv.start {w wr : World} {B n : Nat} {d : Dat} {Z : Nat → Bool} (h : Room wr B (n * 4)) (hb : Below B w wr) : Inv w B n d Z 0 wr :=
  ⟨h, fun i hi => by omega, hb⟩

/-- Four cells stored, one behind the other. -/
def set4 (w : World) (B o : Nat) (v0 v1 v2 v3 : Value) : World :=
  (((w.setCell ⟨B, o, none⟩ v0).setCell ⟨B, o + 1, none⟩ v1).setCell ⟨B, o + 2, none⟩ v2).setCell ⟨B, o + 3, none⟩ v3
def set3 (w : World) (B o : Nat) (v0 v1 v2 : Value) : World :=
  ((w.setCell ⟨B, o, none⟩ v0).setCell ⟨B, o + 1, none⟩ v1).setCell ⟨B, o + 2, none⟩ v2

theorem cell_other (w : World) (b i b' i' : Nat) (v : Value) (h : b ≠ b' ∨ i ≠ i') : (w.setCell ⟨b, i, none⟩ v).cell? ⟨b', i', none⟩ = w.cell? ⟨b', i', none⟩ :=
  World.cell?_setCell_other _ _ _ _ (fun e => by cases e; rcases h with h | h <;> exact h rfl)

theorem cell_same {w : World} {g m : Nat} (h : Room w g m) {o : Nat} (ho : o < m) (v : Value) : (w.setCell ⟨g, o, none⟩ v).cell? ⟨g, o, none⟩ = some v := by
  obtain ⟨u, hu⟩ := h.cell ho
  exact World.cell?_setCell_same _ _ _ hu

theorem set4_cells {w : World} {B m o : Nat} (h : Room w B m) (ho : o + 3 < m) (v0 v1 v2 v3 : Value) :
    (set4 w B o v0 v1 v2 v3).cell? ⟨B, o, none⟩ = some v0 ∧ (set4 w B o v0 v1 v2 v3).cell? ⟨B, o + 1, none⟩ = some v1 ∧
    (set4 w B o v0 v1 v2 v3).cell? ⟨B, o + 2, none⟩ = some v2 ∧ (set4 w B o v0 v1 v2 v3).cell? ⟨B, o + 3, none⟩ = some v3 := by
  unfold set4
  refine ⟨?_, ?_, ?_, ?_⟩
  · rw [cell_other _ _ _ _ _ _ (.inr (by omega)), cell_other _ _ _ _ _ _ (.inr (by omega)), cell_other _ _ _ _ _ _ (.inr (by omega))]
    exact cell_same h (by omega) _
  · rw [cell_other _ _ _ _ _ _ (.inr (by omega)), cell_other _ _ _ _ _ _ (.inr (by omega))]
    exact cell_same (h.set _ _ _) (by omega) _
  · rw [cell_other _ _ _ _ _ _ (.inr (by omega))]
    exact cell_same ((h.set _ _ _).set _ _ _) (by omega) _
  · exact cell_same (((h.set _ _ _).set _ _ _).set _ _ _) (by omega) _

theorem set3_cells {w : World} {B m o : Nat} (h : Room w B m) (ho : o + 2 < m) (v0 v1 v2 : Value) :
    (set3 w B o v0 v1 v2).cell? ⟨B, o, none⟩ = some v0 ∧ (set3 w B o v0 v1 v2).cell? ⟨B, o + 1, none⟩ = some v1 ∧ (set3 w B o v0 v1 v2).cell? ⟨B, o + 2, none⟩ = some v2 := by
  unfold set3
  refine ⟨?_, ?_, ?_⟩
  · rw [cell_other _ _ _ _ _ _ (.inr (by omega)), cell_other _ _ _ _ _ _ (.inr (by omega))]
    exact cell_same h (by omega) _
  · rw [cell_other _ _ _ _ _ _ (.inr (by omega))]
    exact cell_same (h.set _ _ _) (by omega) _
  · exact cell_same ((h.set _ _ _).set _ _ _) (by omega) _

theorem set4_keeps (w : World) (B o : Nat) (v0 v1 v2 v3 : Value) : Keeps (fun b j => b = B ∧ o ≤ j) w (set4 w B o v0 v1 v2 v3) :=
  ((((Keeps.refl _ w).set ⟨rfl, Nat.le_refl _⟩ _).set ⟨rfl, by omega⟩ _).set ⟨rfl, by omega⟩ _).set ⟨rfl, by omega⟩ _
theorem set3_keeps (w : World) (B o : Nat) (v0 v1 v2 : Value) : Keeps (fun b j => b = B ∧ o ≤ j) w (set3 w B o v0 v1 v2) :=
  (((Keeps.refl _ w).set ⟨rfl, Nat.le_refl _⟩ _).set ⟨rfl, by omega⟩ _).set ⟨rfl, by omega⟩ _
theorem set4_room {w : World} {g m : Nat} (h : Room w g m) (B o : Nat) (v0 v1 v2 v3 : Value) : Room (set4 w B o v0 v1 v2 v3) g m :=
  (((h.set _ _ _).set _ _ _).set _ _ _).set _ _ _
theorem set3_room {w : World} {g m : Nat} (h : Room w g m) (B o : Nat) (v0 v1 v2 : Value) : Room (set3 w B o v0 v1 v2) g m :=
  ((h.set _ _ _).set _ _ _).set _ _ _
theorem set4_below {K B : Nat} {a w : World} (h : Below K a w) (hB : K ≤ B) (o : Nat) (v0 v1 v2 v3 : Value) : Below K a (set4 w B o v0 v1 v2 v3) :=
  (((h.setCell (p := ⟨B, o, none⟩) hB _).setCell (p := ⟨B, o + 1, none⟩) hB _).setCell (p := ⟨B, o + 2, none⟩) hB _).setCell (p := ⟨B, o + 3, none⟩) hB _
theorem set3_below {K B : Nat} {a w : World} (h : Below K a w) (hB : K ≤ B) (o : Nat) (v0 v1 v2 : Value) : Below K a (set3 w B o v0 v1 v2) :=
  ((h.setCell (p := ⟨B, o, none⟩) hB _).setCell (p := ⟨B, o + 1, none⟩) hB _).setCell (p := ⟨B, o + 2, none⟩) hB _

theorem CallsAt.keepp {p : Nat → Nat → Prop} {w w' : World} (k : Keeps p w w') {x : Option Addr} {l : Nat} {I N A : Nat → ByteArray} (h : CallsAt w x l I N A) (hp : ∀ y, x = some y → ∀ j, ¬ p y.block j) : CallsAt w' x l I N A := fun j hj => by
  obtain ⟨b, o, rfl, h1, h2, h3⟩ := h j hj
  exact ⟨b, o, rfl, k _ _ _ (hp _ rfl _) h1, k _ _ _ (hp _ rfl _) h2, k _ _ _ (hp _ rfl _) h3⟩

/-- Message k is stored: behind whatever was made in new memory since the round began. -/
theorem Inv.put {w : World} {B n : Nat} {d : Dat} {Z : Nat → Bool} {k : Nat} {wr w2 : World} (h : Inv w B n d Z k wr) (hk : k < n) (hb : Below wr.heap.size wr w2) {x : Option Addr} {c : Nat}
    (hz : x.isNone = Z k) (hx : ∀ y, x = some y → B < y.block) (hc : CallsAt w2 x (d.L k) (d.I k) (d.N k) (d.A k)) :
    Inv w B n d Z (k + 1) (set4 w2 B (k * 4) (.string (d.R k)) (.string (d.C k)) (.slice x (d.L k) c) (.string (d.T k))) := by
  have hlt := h.room.lt
  have hr2 : Room w2 B (n * 4) := h.room.below hb hlt
  obtain ⟨c0, c1, c2, c3⟩ := set4_cells hr2 (o := k * 4) (by omega) (.string (d.R k)) (.string (d.C k)) (.slice x (d.L k) c) (.string (d.T k))
  refine h.step ?_ (set4_room hr2 _ _ _ _ _ _) (set4_below (hb.mono (by omega)) (Nat.le_refl _) _ _ _ _ _) ⟨c0, c1, c3, x, c, c2, hz, hx, hc.keepp (set4_keeps _ _ _ _ _ _ _) (fun y hy j hp => by have := hx y hy; omega)⟩
  exact ((Keeps.below hb fun b o hbo => Or.inr hbo).trans ((set4_keeps w2 B (k * 4) _ _ _ _).mono fun b o hp => Or.inl hp))

theorem Inv.alloc {w : World} {B n : Nat} {d : Dat} {Z : Nat → Bool} {k : Nat} {wr : World} (h : Inv w B n d Z k wr) (o : Obj) : Inv w B n d Z k (wr.alloc o) :=
  ⟨h.room.alloc o, fun i hi => (h.done i hi).keep ((Keeps.refl (fun _ _ => False) _).alloc o) (fun _ _ hf => hf) (fun _ _ _ _ hf => hf), h.below.alloc (Nat.le_of_lt h.room.lt) o⟩

/-- The relation of zzs3598bsaved's inner loop: of the l calls of block G the first q are laid; the message's copy in block M reads as it did; below M all is as it was. -/
structure InvC (wo : World) (M G l : Nat) (I N A : Nat → ByteArray) (m0 m1 m2 m3 : Value) (q : Nat) (wr : World) : Prop where
  room : Room wr G (l * 3)
  done : ∀ j, j < q → wr.cell? ⟨G, j * 3, none⟩ = some (.string (I j)) ∧ wr.cell? ⟨G, j * 3 + 1, none⟩ = some (.string (N j)) ∧ wr.cell? ⟨G, j * 3 + 2, none⟩ = some (.string (A j))
  below : Below M wo wr
  c0 : wr.cell? ⟨M, 0, none⟩ = some m0
  c1 : wr.cell? ⟨M, 1, none⟩ = some m1
  c2 : wr.cell? ⟨M, 2, none⟩ = some m2
  c3 : wr.cell? ⟨M, 3, none⟩ = some m3

theorem InvC.put {wo : World} {M G l : Nat} {I N A : Nat → ByteArray} {m0 m1 m2 m3 : Value} {q : Nat} {wr : World} (h : InvC wo M G l I N A m0 m1 m2 m3 q wr) (hMG : M < G) (hq : q < l) :
    InvC wo M G l I N A m0 m1 m2 m3 (q + 1) (set3 wr G (q * 3) (.string (I q)) (.string (N q)) (.string (A q))) := by
  have hK := set3_keeps wr G (q * 3) (.string (I q)) (.string (N q)) (.string (A q))
  obtain ⟨c0, c1, c2⟩ := set3_cells h.room (o := q * 3) (by omega) (.string (I q)) (.string (N q)) (.string (A q))
  refine ⟨set3_room h.room _ _ _ _ _, fun j hj => ?_, set3_below h.below (by omega) _ _ _ _, hK _ _ _ (by omega) h.c0, hK _ _ _ (by omega) h.c1, hK _ _ _ (by omega) h.c2, hK _ _ _ (by omega) h.c3⟩
  by_cases e : j = q
  · subst e; exact ⟨c0, c1, c2⟩
  · obtain ⟨d0, d1, d2⟩ := h.done j (by omega)
    exact ⟨hK _ _ _ (by omega) d0, hK _ _ _ (by omega) d1, hK _ _ _ (by omega) d2⟩

theorem InvC.alloc {wo : World} {M G l : Nat} {I N A : Nat → ByteArray} {m0 m1 m2 m3 : Value} {q : Nat} {wr : World} (h : InvC wo M G l I N A m0 m1 m2 m3 q wr) (hMG : M < G) (o : Obj) :
    InvC wo M G l I N A m0 m1 m2 m3 q (wr.alloc o) := by
  have hK := (Keeps.refl (fun _ _ => False) wr).alloc o
  have hl := h.room.lt
  refine ⟨h.room.alloc o, fun j hj => ?_, h.below.alloc (by omega) o, hK _ _ _ id h.c0, hK _ _ _ id h.c1, hK _ _ _ id h.c2, hK _ _ _ id h.c3⟩
  obtain ⟨d0, d1, d2⟩ := h.done j hj
  exact ⟨hK _ _ _ id d0, hK _ _ _ id d1, hK _ _ _ id d2⟩

theorem InvC.calls {wo : World} {M G l : Nat} {I N A : Nat → ByteArray} {m0 m1 m2 m3 : Value} {wr : World} (h : InvC wo M G l I N A m0 m1 m2 m3 l wr) : CallsAt wr (some ⟨G, 0, none⟩) l I N A := fun j hj =>
  ⟨G, 0, rfl, by simpa using h.done j hj⟩

/-- Out of the kit's law on 'make'. -/
theorem room_of_owns {w : World} {base e size g n : Nat} {xs : List Value} (h : w.ownsRow base e size (.slice (some ⟨g, 0, none⟩) n n) n xs) : Room w g (n * size) := by
  rcases h.2 with ⟨h', _⟩ | ⟨g', cap, cur, h', hb, hg, hnc, hcm, hcs, _⟩
  · simp at h'
  · simp only [Value.slice.injEq, Option.some.injEq, Addr.mk.injEq, and_true, true_and] at h'
    obtain ⟨rfl, rfl⟩ := h'
    exact ⟨cur, e, hg, hcs⟩

theorem info69 : (Yba.prog.info? 69).map (fun i => (i.zero, i.size, i.bytes)) = some (some (.agg #[.string ⟨#[]⟩, .string ⟨#[]⟩, .slice none 0 0, .string ⟨#[]⟩]), 4, 72) := by kernel_rfl
theorem info52 : (Yba.prog.info? 52).map (fun i => (i.zero, i.size, i.bytes)) = some (some (.agg #[.string ⟨#[]⟩, .string ⟨#[]⟩, .slice none 0 0, .string ⟨#[]⟩]), 4, 72) := by kernel_rfl
theorem info67 : (Yba.prog.info? 67).map (fun i => (i.zero, i.size, i.bytes)) = some (some (.agg #[.string ⟨#[]⟩, .string ⟨#[]⟩, .string ⟨#[]⟩]), 3, 48) := by kernel_rfl
theorem info55 : (Yba.prog.info? 55).map (fun i => (i.zero, i.size, i.bytes)) = some (some (.agg #[.string ⟨#[]⟩, .string ⟨#[]⟩, .string ⟨#[]⟩]), 3, 48) := by kernel_rfl

end Go.Proofs.Ybulkbvmk.Msgs
