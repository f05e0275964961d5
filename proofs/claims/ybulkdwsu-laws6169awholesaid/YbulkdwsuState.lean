import Derived.Test.YbulkdwsuMap
namespace Go.Proofs.Ybulkdwsu
open Go.RowKit Go.Maps

theorem make_map (w : World) : (Instr.makeMap 26 (some (.int .i64 256))).run Yba.prog w = .ok (.map (some w.heap.size)) (w.alloc (.map #[] 0)) := by kernel_rfl

theorem wpList_build_two {P : Program} {ops : Array Oper} {rest : List Oper} {o : Oper} {a : Act} {w : World} {Q : Exit → Act → World → Prop} (hg : o.guard = none) (t : TypeId) (i1 i2 : Nat) (x1 x2 : Operand) (ho : o.op = .build t #[(i1, x1), (i2, x2)])
    (v1 v2 : Value) (h1 : a.eval x1 = v1) (h2 : a.eval x2 = v2) (cells : Array Value) (hb : P.built t [(i1, v1), (i2, v2)] = some cells)
    (h : wpList P ops Q rest (a.put o.dst (.agg cells)) w) : wpList P ops Q (o :: rest) a w := by
  have e : (#[(i1, x1), (i2, x2)].map fun (i, x) => (i, a.eval x)).toList = [(i1, v1), (i2, v2)] := by simp [h1, h2]
  refine wpList_build hg t #[(i1, x1), (i2, x2)] ho (by rw [e, hb]; rfl) ?_
  rw [e, hb]
  exact h

/-- the page as the literal lays it. -/
theorem built_page (num : ByteArray) (S : Nat) : Yba.prog.built 29 [(0, .string num), (1, .map (some S))] = some (#[.string num, .map (some S)] ++ Array.replicate 256 (.int .i32 0)) := by kernel_rfl

/-- A PAGE UNDER CONSTRUCTION, in the block behind the map's: w0: the world when the call began. -/
structure Pg (w0 : World) (num : ByteArray) (ch : Nat → Int) (k : Nat) (F : Int → Option Nat) (wr : World) : Prop where
  below : Below w0.heap.size w0 wr
  number : wr.cell? ⟨w0.heap.size + 1, 0, none⟩ = some (.string num)
  codes : wr.cell? ⟨w0.heap.size + 1, 1, none⟩ = some (.map (some w0.heap.size))
  chars : ∀ j, j < 256 → wr.cell? ⟨w0.heap.size + 1, 2 + j, none⟩ = some (.int .i32 (ch j))
  bd : ∀ j, 0 ≤ ch j ∧ ch j ≤ 65535
  free : ∀ p, wr.frozen? ⟨w0.heap.size + 1, p, none⟩ = false
  map : MapAt wr w0.heap.size k F
  blk : ∃ C, wr.heap[w0.heap.size + 1]? = some (.cells C 29 (0, 0))

theorem Pg.set {w0 wr : World} {num : ByteArray} {ch : Nat → Int} {k : Nat} {F : Int → Option Nat} (h : Pg w0 num ch k F wr) {j0 : Nat} (hj : j0 < 256) {v : Int} (hv : 0 ≤ v ∧ v ≤ 65535) :
    Pg w0 num (fun j => if j = j0 then v else ch j) k F (wr.setCell ⟨w0.heap.size + 1, 2 + j0, none⟩ (.int .i32 v)) := by
  refine ⟨h.below.setCell (by show w0.heap.size ≤ w0.heap.size + 1; omega) _, ?_, ?_, ?_, ?_, ?_, ?_, ?_⟩
  · have hne : (⟨w0.heap.size + 1, 2 + j0, none⟩ : Addr) ≠ ⟨w0.heap.size + 1, 0, none⟩ := by intro e; simp only [Addr.mk.injEq, true_and, and_true] at e; omega
    exact (World.cell?_setCell_other _ _ _ _ hne).trans h.number
  · have hne : (⟨w0.heap.size + 1, 2 + j0, none⟩ : Addr) ≠ ⟨w0.heap.size + 1, 1, none⟩ := by intro e; simp only [Addr.mk.injEq, true_and, and_true] at e; omega
    exact (World.cell?_setCell_other _ _ _ _ hne).trans h.codes
  · intro j hj'
    by_cases e : j = j0
    · subst e
      simp only [if_true]
      exact World.cell?_setCell_same _ _ _ (h.chars j hj)
    · have hne : (⟨w0.heap.size + 1, 2 + j0, none⟩ : Addr) ≠ ⟨w0.heap.size + 1, 2 + j, none⟩ := by intro e2; simp only [Addr.mk.injEq, true_and, and_true] at e2; omega
      simp only [if_neg e]
      exact (World.cell?_setCell_other _ _ _ _ hne).trans (h.chars j hj')
  · intro j
    by_cases e : j = j0
    · simp only [if_pos e]; exact hv
    · simp only [if_neg e]; exact h.bd j
  · intro p
    rw [World.frozen?_setCell]; exact h.free p
  · exact h.map.of_heap (Below.heap_setCell _ _ _ _ (by show w0.heap.size ≠ w0.heap.size + 1; omega))
  · obtain ⟨C, hC⟩ := h.blk
    exact ⟨_, heap_setCell_same _ _ _ _ _ _ hC⟩

theorem Pg.alike {w0 wr wx : World} {num : ByteArray} {ch : Nat → Int} {k : Nat} {F : Int → Option Nat} (h : Pg w0 num ch k F wr) (hb : Below wr.heap.size wr wx) (hs : w0.heap.size + 2 ≤ wr.heap.size) : Pg w0 num ch k F wx := by
  refine ⟨h.below.trans (hb.mono h.below.size), cell_later hb h.number, cell_later hb h.codes, fun j hj => cell_later hb (h.chars j hj), h.bd, ?_, h.map.of_heap (hb.block _ (by omega)), by obtain ⟨C, hC⟩ := h.blk; exact ⟨C, (hb.block _ (by omega)).trans hC⟩⟩
  intro p
  exact (hb.frozen (p := ⟨w0.heap.size + 1, p, none⟩) (by show w0.heap.size + 1 < _; omega)).trans (h.free p)

theorem Pg.drew {w0 wr : World} {num : ByteArray} {ch : Nat → Int} {k : Nat} {F : Int → Option Nat} (h : Pg w0 num ch k F wr) : Pg w0 num ch k F wr.drew :=
  ⟨h.below.drew, h.number, h.codes, h.chars, h.bd, h.free, h.map.of_heap rfl, h.blk⟩

theorem MapAt.mono {w : World} {m k k' : Nat} {F : Int → Option Nat} (h : MapAt w m k F) (hk : k ≤ k') : MapAt w m k' F := by
  obtain ⟨D, hown, hD⟩ := h
  exact ⟨D, hown.mono hk, hD⟩

theorem Pg.turn {w0 wr w1 : World} {num : ByteArray} {ch : Nat → Int} {k k' : Nat} {F F' : Int → Option Nat} (h : Pg w0 num ch k F wr) (hg : wr.grownBy w1 (some w0.heap.size)) (hs : w0.heap.size + 2 ≤ wr.heap.size)
    (hm : MapAt w1 w0.heap.size k' F') : Pg w0 num ch k' F' w1 := by
  have hb : w1.heap[w0.heap.size + 1]? = wr.heap[w0.heap.size + 1]? := hg.block _ (by omega) (by simp)
  have hc : ∀ p, w1.cell? ⟨w0.heap.size + 1, p, none⟩ = wr.cell? ⟨w0.heap.size + 1, p, none⟩ := fun p => World.cell?_of_block hb
  have hf : ∀ p, w1.frozen? ⟨w0.heap.size + 1, p, none⟩ = wr.frozen? ⟨w0.heap.size + 1, p, none⟩ := fun p => World.frozen?_of_block hb
  refine ⟨h.below.grown hg h.below.size (fun j hj => by cases hj; exact Nat.le_refl _), (hc _).trans h.number, (hc _).trans h.codes, fun j hj => (hc _).trans (h.chars j hj), h.bd, fun p => (hf p).trans (h.free p), hm, by obtain ⟨C, hC⟩ := h.blk; exact ⟨C, hb.trans hC⟩⟩

theorem Pg.withMap {w0 wr : World} {num : ByteArray} {ch : Nat → Int} {k k' : Nat} {F F' : Int → Option Nat} (h : Pg w0 num ch k F wr) (hm : MapAt wr w0.heap.size k' F') : Pg w0 num ch k' F' wr :=
  ⟨h.below, h.number, h.codes, h.chars, h.bd, h.free, hm, h.blk⟩

theorem fst_found (ch : Nat → Int) (t : Nat) (h : (fst ch t (ch t)).isSome = true) : fst ch (t + 1) = fst ch t := by
  funext x
  rw [fst]
  cases e : fst ch t x with
  | some j => rfl
  | none =>
    have hx : ¬ ch t = x := fun hx => by rw [hx, e] at h; cases h
    simp only [if_neg hx]

theorem fst_new (ch : Nat → Int) (t : Nat) (h : (fst ch t (ch t)).isSome = false) : fst ch (t + 1) = fun x => if x = ch t then some t else fst ch t x := by
  funext x
  rw [fst]
  by_cases hx : x = ch t
  · subst hx
    have : fst ch t (ch t) = none := by simpa using h
    rw [this]
  · rw [if_neg hx]
    cases e : fst ch t x with
    | some j => rfl
    | none => simp only; rw [if_neg (fun h2 => hx h2.symm)]

theorem start_pg (w : World) (num : ByteArray) (PG : Array Value) (hPG : PG = #[.string num, .map (some w.heap.size)] ++ Array.replicate 256 (.int .i32 0)) :
    Pg w num (fun _ => 0) 0 (fun _ => none) ((w.alloc (.map #[] 0)).alloc (.cells PG 29)) := by
  have hsz : (w.alloc (.map #[] 0)).heap.size = w.heap.size + 1 := by simp
  refine ⟨((Below.refl _ _).alloc (Nat.le_refl _) _).alloc (by simp) _, ?_, ?_, ?_, fun _ => ⟨by omega, by omega⟩, ?_, ?_, ⟨PG, heap_alloc2_new _ _ _⟩⟩
  · rw [World.cell?_alloc2_new, hPG, Array.getElem?_append, if_pos (by simp)]; rfl
  · rw [World.cell?_alloc2_new, hPG, Array.getElem?_append, if_pos (by simp)]; rfl
  · intro j hj
    rw [World.cell?_alloc2_new, hPG, Array.getElem?_append, if_neg (by simp)]
    simp [hj]
  · intro p
    exact World.frozen?_alloc2_new _ _ _ _
  · refine (mapAt_made w).of_heap ?_
    exact heap_alloc_old _ _ (by simp)

/-- A PAGE, whole: in block p, its map in block m. -/
structure Page (w : World) (p m : Nat) (num : ByteArray) (ch : Nat → Int) : Prop where
  number : w.cell? ⟨p, 0, none⟩ = some (.string num)
  codes : w.cell? ⟨p, 1, none⟩ = some (.map (some m))
  chars : ∀ j, j < 256 → w.cell? ⟨p, 2 + j, none⟩ = some (.int .i32 (ch j))
  bd : ∀ j, 0 ≤ ch j ∧ ch j ≤ 65535
  map : MapAt w m 256 (fst ch 256)
  blk : ∃ C, w.heap[p]? = some (.cells C 29 (0, 0))

theorem Pg.page {w0 wr : World} {num : ByteArray} {ch : Nat → Int} (h : Pg w0 num ch 256 (fst ch 256) wr) : Page wr (w0.heap.size + 1) w0.heap.size num ch :=
  ⟨h.number, h.codes, h.chars, h.bd, h.map, h.blk⟩

theorem Page.plt {w : World} {p m : Nat} {num : ByteArray} {ch : Nat → Int} (h : Page w p m num ch) : p < w.heap.size := by
  obtain ⟨C, hC⟩ := h.blk
  exact (Array.getElem?_eq_some_iff.1 hC).1

theorem Page.later {w w' : World} {p m : Nat} {num : ByteArray} {ch : Nat → Int} (h : Page w p m num ch) (hb : Below w.heap.size w w') : Page w' p m num ch :=
  ⟨cell_later hb h.number, cell_later hb h.codes, fun j hj => cell_later hb (h.chars j hj), h.bd, h.map.of_heap (hb.block _ h.map.lt), by obtain ⟨C, hC⟩ := h.blk; exact ⟨C, (hb.block _ h.plt).trans hC⟩⟩
end Go.Proofs.Ybulkdwsu
