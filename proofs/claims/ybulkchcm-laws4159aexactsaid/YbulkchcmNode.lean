/- A node's block; what a round that builds one node does to memory. -/
import Derived.Test.YbulkchcmPlace
namespace Go.Proofs.Ybulkchcm
open Go.RowKit Plain

theorem Yba.info25 : (Yba.prog.info? 25).map (fun i => (i.zero, i.size, i.bytes)) = some (some (.pointer none), 1, 8) := by kernel_rfl

/-- a node's fourteen cells -/
abbrev nodeCells (ty : ByteArray) (l c : Int) (par ch : Value) : Array Value :=
  #[.string ty, .string ⟨#[]⟩, .int .i64 l, .int .i64 c, .int .i64 0, .float .f64 0, .string ⟨#[]⟩, .bool false, .int .u8 0, .bool false, .int .i32 0, par, ch, .map none]

/-- since the round's start (N blocks in w): old cells but those at offset 11 hold what they held; below B nothing has turned since w0 -/
structure Kp (N B : Nat) (w0 w w' : World) : Prop where
  cells : ∀ a v, a.block < N → a.off ≠ 11 → w.cell? a = some v → w'.cell? a = some v
  bel : Below B w0 w'
  size : N ≤ w'.heap.size
  hB : B ≤ N

theorem Kp.start {B : Nat} {w0 w : World} (h : Below B w0 w) (hB : B ≤ w.heap.size) : Kp w.heap.size B w0 w w := ⟨fun _ _ _ _ h => h, h, Nat.le_refl _, hB⟩
theorem Kp.drew {N B : Nat} {w0 w w' : World} (h : Kp N B w0 w w') : Kp N B w0 w w'.drew := ⟨fun a v h1 h2 h3 => h.cells a v h1 h2 h3, h.bel.drew, h.size, h.hB⟩
theorem Kp.alloc {N B : Nat} {w0 w w' : World} (h : Kp N B w0 w w') (o : Obj) : Kp N B w0 w (w'.alloc o) := by
  have h1 := h.size
  have h2 := h.hB
  refine ⟨fun a v h1 h2 h3 => ?_, h.bel.alloc (by omega) o, by simp; omega, h.hB⟩
  have h4 := h.cells a v h1 h2 h3
  rw [World.cell?_of_block (w := w') (Below.heap_alloc _ _ _ (by omega))]
  exact h4
theorem Kp.set11 {N B b : Nat} {w0 w w' : World} (h : Kp N B w0 w w') (hb : B ≤ b) (u : Value) : Kp N B w0 w (w'.setCell ⟨b, 11, none⟩ u) := by
  have h1 := h.size
  refine ⟨fun a v h1 h2 h3 => ?_, h.bel.setCell hb u, by simpa [World.setCell] using h1, h.hB⟩
  rw [World.cell?_setCell_other _ _ _ _ (fun e => h2 (by rw [← e]))]
  exact h.cells a v h1 h2 h3
theorem Kp.set {N B b i : Nat} {w0 w w' : World} (h : Kp N B w0 w w') (hb : N ≤ b) (u : Value) : Kp N B w0 w (w'.setCell ⟨b, i, none⟩ u) := by
  have h1 := h.size
  have h2 := h.hB
  refine ⟨fun a v h1 h2 h3 => ?_, h.bel.setCell (p := ⟨b, i, none⟩) (by simp only; omega) u, by simpa [World.setCell] using h1, h.hB⟩
  rw [World.cell?_setCell_other _ _ _ _ (fun e => by rw [← e] at h1; simp only at h1; omega)]
  exact h.cells a v h1 h2 h3
theorem Kp.grown {N B : Nat} {w0 w w' w'' : World} {row : Option Nat} (h : Kp N B w0 w w') (hg : w'.grownBy w'' row) (hr : ∀ k, row = some k → N ≤ k) : Kp N B w0 w w'' := by
  have h1 := h.size
  have h2 := h.hB
  refine ⟨fun a v h1 h2 h3 => ?_, h.bel.grown hg (by omega) (fun k hk => by have := hr k hk; omega), by have := hg.size; omega, h.hB⟩
  exact hg.cell (h.cells a v h1 h2 h3) (fun e => by have := hr _ e.symm; omega)
theorem Kp.down {N B : Nat} {w0 w w' : World} (h : Kp N B w0 w w') (hN : N = w.heap.size) {m : Nat} {xs : List Pt} (hd : Down w m xs) : Down w' m xs :=
  Down.keep (fun a v ha hc => h.cells a v (by rw [hN]; exact World.block_lt_of_cell? w a hc) ha hc) xs m hd

/-- 'below' behind d rounds: nil, or the node of index 'len - d' with the way down from it -/
def BelowIs (w : World) (B : Nat) (f : Nat → Int × Int × Bool) (len d : Nat) (v : Value) : Prop :=
  (d = 0 ∧ v = .pointer none) ∨
  (0 < d ∧ ∃ (b : Nat) (cs : Array Value), v = .pointer (some ⟨b, 0, none⟩) ∧ B ≤ b ∧ w.heap[b]? = some (.cells cs 33 (0, 0)) ∧ cs.size = 14 ∧
    w.cell? ⟨b, 2, none⟩ = some (.int .i64 (f (len - d)).1) ∧ w.cell? ⟨b, 3, none⟩ = some (.int .i64 (f (len - d)).2.1) ∧ Down w b (vis f len (d - 1)))

/-- the first cell of a slice that owns 'x :: xs' -/
theorem owns_first {w : World} {base : Nat} {e : TypeId} {g n cap : Nat} {x : Value} {xs : List Value} (h : w.ownsRow base e 1 (.slice (some ⟨g, 0, none⟩) n cap) n (x :: xs)) :
    w.cell? ⟨g, 0, none⟩ = some x ∧ 0 < n ∧ n ≤ 9223372036854775807 := by
  have hl := h.1
  simp at hl
  rcases h.2 with ⟨h0, _⟩ | ⟨g', cap', cur, hv, _, hg, h1, h2, h3, h4⟩
  · cases h0
  · simp at hv
    obtain ⟨rfl, rfl⟩ := hv
    unfold maxLen at h2
    refine ⟨cell_of_cells hg ?_, by omega, by omega⟩
    have : (x :: xs)[0]? = some x := rfl
    rw [← h4, Nat.mul_one, List.getElem?_take_of_lt (by omega)] at this
    simpa using this

/-- the node m of the round, in the world as it stands -/
structure St (N B m : Nat) (w0 w wc : World) (cs : Array Value) : Prop where
  kp : Kp N B w0 w wc
  node : wc.heap[m]? = some (.cells cs 33 (0, 0))
  hm : N ≤ m
theorem St.lt {N B m : Nat} {w0 w wc : World} {cs : Array Value} (h : St N B m w0 w wc cs) : m < wc.heap.size := lt_of_block h.node
theorem St.alloc {N B m : Nat} {w0 w wc : World} {cs : Array Value} (h : St N B m w0 w wc cs) (o : Obj) : St N B m w0 w (wc.alloc o) cs :=
  ⟨h.kp.alloc o, by rw [Below.heap_alloc _ _ _ h.lt]; exact h.node, h.hm⟩
theorem St.set12 {N B m : Nat} {w0 w wc : World} {cs : Array Value} (h : St N B m w0 w wc cs) (v : Value) : St N B m w0 w (wc.setCell ⟨m, 12, none⟩ v) (cs.setIfInBounds 12 v) :=
  ⟨h.kp.set h.hm v, cells_setCell h.node, h.hm⟩
theorem St.set11 {N B m b : Nat} {w0 w wc : World} {cs : Array Value} (h : St N B m w0 w wc cs) (hb : B ≤ b) (hne : m ≠ b) (v : Value) : St N B m w0 w (wc.setCell ⟨b, 11, none⟩ v) cs :=
  ⟨h.kp.set11 hb v, by rw [Below.heap_setCell _ _ _ _ hne]; exact h.node, h.hm⟩
theorem St.grown {N B m : Nat} {w0 w wc w' : World} {cs : Array Value} {row : Option Nat} (h : St N B m w0 w wc cs) (hg : wc.grownBy w' row) (hr : ∀ k, row = some k → N ≤ k ∧ k ≠ m) : St N B m w0 w w' cs :=
  ⟨h.kp.grown hg (fun k hk => (hr k hk).1), by rw [hg.block m h.lt (fun e => (hr m e.symm).2 rfl)]; exact h.node, h.hm⟩
theorem St.c12 {N B m : Nat} {w0 w wc : World} {ty : ByteArray} {l c : Int} {par ch : Value} (h : St N B m w0 w wc (nodeCells ty l c par ch)) : wc.cell? ⟨m, 12, none⟩ = some ch ∧ wc.frozen? ⟨m, 12, none⟩ = false :=
  ⟨cell_of_cells h.node rfl, free_of_cells h.node⟩

/-- the way down from the new node: to 'below' -/
theorem St.downSome {N B m len d g n cp b' base : Nat} {w0 w wc : World} {f : Nat → Int × Int × Bool} {ty : ByteArray} {l c : Int} {par : Value} {xs : List Value}
    (h : St N B m w0 w wc (nodeCells ty l c par (.slice (some ⟨g, 0, none⟩) n cp))) (hown : wc.ownsRow base 25 1 (.slice (some ⟨g, 0, none⟩) n cp) n (.pointer (some ⟨b', 0, none⟩) :: xs)) (hN : N = w.heap.size) (hd : 0 < d)
    (e2 : w.cell? ⟨b', 2, none⟩ = some (.int .i64 (f (len - d)).1)) (e3 : w.cell? ⟨b', 3, none⟩ = some (.int .i64 (f (len - d)).2.1)) (edn : Down w b' (vis f len (d - 1))) : Down wc m (vis f len d) := by
  obtain ⟨k, rfl⟩ : ∃ k, d = k + 1 := ⟨d - 1, by omega⟩
  obtain ⟨o1, o2, o3⟩ := owns_first hown
  have hb : b' < N := by rw [hN]; exact World.block_lt_of_cell? w ⟨b', 2, none⟩ e2
  exact ⟨g, n, cp, b', h.c12.1, o2, o3, o1, h.kp.cells _ _ hb (by simp) e2, h.kp.cells _ _ hb (by simp) e3, h.kp.down hN edn⟩
/-- .. or to the placeless leaf -/
theorem St.downLeaf {N B m g n cp p0 base : Nat} {w0 w wc : World} {ty : ByteArray} {l c : Int} {par : Value} {xs : List Value} {ty' : ByteArray} {par' : Value}
    (h : St N B m w0 w wc (nodeCells ty l c par (.slice (some ⟨g, 0, none⟩) n cp))) (hown : wc.ownsRow base 25 1 (.slice (some ⟨g, 0, none⟩) n cp) n (.pointer (some ⟨p0, 0, none⟩) :: xs))
    (hp : wc.heap[p0]? = some (.cells (nodeCells ty' 0 0 par' (.slice none 0 0)) 33 (0, 0))) : Down wc m [(0, 0)] := by
  obtain ⟨o1, o2, o3⟩ := owns_first hown
  exact ⟨g, n, cp, p0, h.c12.1, o2, o3, o1, cell_of_cells hp rfl, cell_of_cells hp rfl, cell_of_cells hp rfl⟩

/-- the way down from the receiver: it begins at 'below' -/
theorem St.downAll {N B m len g n cp b' base : Nat} {w0 w wc : World} {f : Nat → Int × Int × Bool} {ty : ByteArray} {l c : Int} {par : Value} {xs : List Value}
    (h : St N B m w0 w wc (nodeCells ty l c par (.slice (some ⟨g, 0, none⟩) n cp))) (hown : wc.ownsRow base 25 1 (.slice (some ⟨g, 0, none⟩) n cp) n (.pointer (some ⟨b', 0, none⟩) :: xs)) (hN : N = w.heap.size) (hd : 0 < len)
    (e2 : w.cell? ⟨b', 2, none⟩ = some (.int .i64 (f (len - len)).1)) (e3 : w.cell? ⟨b', 3, none⟩ = some (.int .i64 (f (len - len)).2.1)) (edn : Down w b' (vis f len (len - 1))) : Down wc m (vis f len len) :=
  h.downSome hown hN hd e2 e3 edn

/-- THE ROUND's END: the new node stands in 'below''s place -/
theorem St.below {N B m len d : Nat} {w0 w wc : World} {f : Nat → Int × Int × Bool} {ty : ByteArray} {l c : Int} {par ch : Value} (h : St N B m w0 w wc (nodeCells ty l c par ch))
    (hl : (f (len - (d + 1))).1 = l) (hc : (f (len - (d + 1))).2.1 = c) (hdn : Down wc m (vis f len d)) : BelowIs wc B f len (d + 1) (.pointer (some ⟨m, 0, none⟩)) ∧ Below B w0 wc := by
  have h1 := h.hm
  have h2 := h.kp.hB
  refine ⟨Or.inr ⟨by omega, m, _, rfl, by omega, h.node, rfl, ?_, ?_, hdn⟩, h.kp.bel⟩
  · rw [hl]; exact cell_of_cells h.node rfl
  · rw [hc]; exact cell_of_cells h.node rfl

end Go.Proofs.Ybulkchcm
