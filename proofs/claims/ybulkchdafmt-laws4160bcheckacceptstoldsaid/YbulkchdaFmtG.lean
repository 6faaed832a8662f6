/- (*row).g, walked once: four sums and four XOR-rotations. -/
import Derived.Test.YbulkchdaFmtRot
import Derived.Deep.RegionHeld3
namespace Go.Proofs.YbulkchdaFmt
open Go.RowKit Bits

/-- a word's halves, shut -/
def hi (a : Nat) : Nat := a / 65536
def lo (a : Nat) : Nat := a % 65536
theorem hi_lt {a : Nat} (h : a < 4294967296) : hi a < 65536 := by unfold hi; omega
theorem lo_lt (a : Nat) : lo a < 65536 := by unfold lo; omega
abbrev wh (a : Nat) : Value := .agg #[.int .u32 (hi a : Nat), .int .u32 (lo a : Nat)]
abbrev whO (a : Nat) : Obj := .cells #[.int .u32 (hi a : Nat), .int .u32 (lo a : Nat)] 32 (0, 0)

theorem add3 (rb tb : Nat) (v : Value) (st : RSt) (a b x s : Nat) (w : World) (h : RowAt w rb v st) (ha : a < 4294967296) (hb : b < 4294967296) (hx : x < 4294967296)
    (ht : Loc w rb v tb (.cells #[.int .u32 (hi a : Nat), .int .u32 (lo a : Nat), .int .u32 (hi b : Nat), .int .u32 (lo b : Nat), .int .u32 (hi x : Nat), .int .u32 (lo x : Nat)] 32 (0, 0)))
    (hs : s = (a + b + x) % 4294967296) (hc : st.can (emAdd s) 0) :
    Calls Ybaf.prog 15 #[.pointer (some ⟨rb, 0, none⟩), .slice (some ⟨tb, 0, none⟩) 3 3] w fun e w' => e = .returned (wh s) ∧ ∃ v', RowAt w' rb v' (st.emit (emAdd s) 0) ∧ Fr rb v v' w w' := by
  have e : sumM (fun i => if i = 0 then hi a else if i = 1 then hi b else hi x) (fun i => if i = 0 then lo a else if i = 1 then lo b else lo x) 3 = s := by
    rw [hs]
    simp [sumM, sumTo, hi, lo]
    omega
  have k := add_any rb tb 3 (fun i => if i = 0 then hi a else if i = 1 then hi b else hi x) (fun i => if i = 0 then lo a else if i = 1 then lo b else lo x) v st _ w h (by omega)
    (fun i => by split; exact hi_lt ha; split; exact hi_lt hb; exact hi_lt hx) (fun i => by split; exact lo_lt a; split; exact lo_lt b; exact lo_lt x) ht
    (fun i hi => by rcases (show i = 0 ∨ i = 1 ∨ i = 2 by omega) with rfl | rfl | rfl <;> exact ⟨rfl, rfl⟩) (by rw [e]; exact hc)
  rw [e] at k
  exact k

theorem add2 (rb tb : Nat) (v : Value) (st : RSt) (a b s : Nat) (w : World) (h : RowAt w rb v st) (ha : a < 4294967296) (hb : b < 4294967296)
    (ht : Loc w rb v tb (.cells #[.int .u32 (hi a : Nat), .int .u32 (lo a : Nat), .int .u32 (hi b : Nat), .int .u32 (lo b : Nat)] 32 (0, 0)))
    (hs : s = (a + b) % 4294967296) (hc : st.can (emAdd s) 0) :
    Calls Ybaf.prog 15 #[.pointer (some ⟨rb, 0, none⟩), .slice (some ⟨tb, 0, none⟩) 2 2] w fun e w' => e = .returned (wh s) ∧ ∃ v', RowAt w' rb v' (st.emit (emAdd s) 0) ∧ Fr rb v v' w w' := by
  have e : sumM (fun i => if i = 0 then hi a else hi b) (fun i => if i = 0 then lo a else lo b) 2 = s := by
    rw [hs]
    simp [sumM, sumTo, hi, lo]
    omega
  have k := add_any rb tb 2 (fun i => if i = 0 then hi a else hi b) (fun i => if i = 0 then lo a else lo b) v st _ w h (by omega)
    (fun i => by split; exact hi_lt ha; exact hi_lt hb) (fun i => by split; exact lo_lt a; exact lo_lt b) ht
    (fun i hi => by rcases (show i = 0 ∨ i = 1 by omega) with rfl | rfl <;> exact ⟨rfl, rfl⟩) (by rw [e]; exact hc)
  rw [e] at k
  exact k

theorem xh16 (rb : Nat) (v : Value) (st : RSt) (a b r : Nat) (w : World) (h : RowAt w rb v st) (ha : a < 4294967296) (hb : b < 4294967296) (hr : r = rotr (a ^^^ b) 16) (hc : st.can (emXor a b 8) 4) :
    Calls Ybaf.prog 16 #[.pointer (some ⟨rb, 0, none⟩), wh a, wh b, .int .u64 16] w fun e w' => e = .returned (wh r) ∧ ∃ v', RowAt w' rb v' (st.emit (emXor a b 8) 4) ∧ Fr rb v v' w w' := by
  subst hr
  exact xw16 rb v st a b w h ha hb hc
theorem xh12 (rb : Nat) (v : Value) (st : RSt) (a b r : Nat) (w : World) (h : RowAt w rb v st) (ha : a < 4294967296) (hb : b < 4294967296) (hr : r = rotr (a ^^^ b) 12) (hc : st.can (emXor a b 12) 4) :
    Calls Ybaf.prog 16 #[.pointer (some ⟨rb, 0, none⟩), wh a, wh b, .int .u64 12] w fun e w' => e = .returned (wh r) ∧ ∃ v', RowAt w' rb v' (st.emit (emXor a b 12) 4) ∧ Fr rb v v' w w' := by
  subst hr
  exact xw12 rb v st a b w h ha hb hc
theorem xh8 (rb : Nat) (v : Value) (st : RSt) (a b r : Nat) (w : World) (h : RowAt w rb v st) (ha : a < 4294967296) (hb : b < 4294967296) (hr : r = rotr (a ^^^ b) 8) (hc : st.can (emXor a b 8) 4) :
    Calls Ybaf.prog 16 #[.pointer (some ⟨rb, 0, none⟩), wh a, wh b, .int .u64 8] w fun e w' => e = .returned (wh r) ∧ ∃ v', RowAt w' rb v' (st.emit (emXor a b 8) 4) ∧ Fr rb v v' w w' := by
  subst hr
  exact xw8 rb v st a b w h ha hb hc
theorem xh7 (rb : Nat) (v : Value) (st : RSt) (a b r : Nat) (w : World) (h : RowAt w rb v st) (ha : a < 4294967296) (hb : b < 4294967296) (hr : r = rotr (a ^^^ b) 7) (hc : st.can (emXor a b 7) 4) :
    Calls Ybaf.prog 16 #[.pointer (some ⟨rb, 0, none⟩), wh a, wh b, .int .u64 7] w fun e w' => e = .returned (wh r) ∧ ∃ v', RowAt w' rb v' (st.emit (emXor a b 7) 4) ∧ Fr rb v v' w w' := by
  subst hr
  exact xw7 rb v st a b w h ha hb hc

theorem Loc.newAt {w : World} {rb n : Nat} {v : Value} {st : RSt} (h : RowAt w rb v st) (hn : n = w.heap.size) (o : Obj) : Loc (w.alloc o) rb v n o := hn ▸ Loc.new h o

/-- the ten blocks of g, from n on: the six words and the four results -/
structure GAt (w : World) (rb : Nat) (v : Value) (st : RSt) (n : Nat) (a b c d x y : Nat) : Prop where
  row : RowAt w rb v st
  A : Loc w rb v (n) (whO a)
  B : Loc w rb v (n + 1) (whO b)
  C : Loc w rb v (n + 1 + 1) (whO c)
  D : Loc w rb v (n + 1 + 1 + 1) (whO d)
  X : Loc w rb v (n + 1 + 1 + 1 + 1) (whO x)
  Y : Loc w rb v (n + 1 + 1 + 1 + 1 + 1) (whO y)
  r0 : Loc w rb v (n + 1 + 1 + 1 + 1 + 1 + 1) (wordO 0 0)
  r1 : Loc w rb v (n + 1 + 1 + 1 + 1 + 1 + 1 + 1) (wordO 0 0)
  r2 : Loc w rb v (n + 1 + 1 + 1 + 1 + 1 + 1 + 1 + 1) (wordO 0 0)
  r3 : Loc w rb v (n + 1 + 1 + 1 + 1 + 1 + 1 + 1 + 1 + 1) (wordO 0 0)
theorem GAt.fr {w w' : World} {rb n : Nat} {v v' : Value} {st st' : RSt} {a b c d x y : Nat} (h : GAt w rb v st n a b c d x y) (r : RowAt w' rb v' st') (f : Fr rb v v' w w') : GAt w' rb v' st' n a b c d x y :=
  ⟨r, h.A.fr f, h.B.fr f, h.C.fr f, h.D.fr f, h.X.fr f, h.Y.fr f, h.r0.fr f, h.r1.fr f, h.r2.fr f, h.r3.fr f⟩
theorem GAt.alloc {w : World} {rb n : Nat} {v : Value} {st : RSt} {a b c d x y : Nat} (h : GAt w rb v st n a b c d x y) (o : Obj) : GAt (w.alloc o) rb v st n a b c d x y :=
  ⟨h.row.alloc o, h.A.alloc o, h.B.alloc o, h.C.alloc o, h.D.alloc o, h.X.alloc o, h.Y.alloc o, h.r0.alloc o, h.r1.alloc o, h.r2.alloc o, h.r3.alloc o⟩
theorem GAt.setA {w : World} {rb n : Nat} {v : Value} {st : RSt} {a b c d x y : Nat} (h : GAt w rb v st n a b c d x y) (u : Nat) : GAt ((w.setCell ⟨n, 0, none⟩ (.int .u32 (hi u : Nat))).setCell ⟨n, 1, none⟩ (.int .u32 (lo u : Nat))) rb v st n u b c d x y :=
  ⟨(h.row.setOther h.A.ne h.A.own _).setOther h.A.ne h.A.own _, (h.A.set _).set _, (h.B.setOther (by omega) _).setOther (by omega) _, (h.C.setOther (by omega) _).setOther (by omega) _, (h.D.setOther (by omega) _).setOther (by omega) _, (h.X.setOther (by omega) _).setOther (by omega) _, (h.Y.setOther (by omega) _).setOther (by omega) _, (h.r0.setOther (by omega) _).setOther (by omega) _, (h.r1.setOther (by omega) _).setOther (by omega) _, (h.r2.setOther (by omega) _).setOther (by omega) _, (h.r3.setOther (by omega) _).setOther (by omega) _⟩
theorem GAt.setB {w : World} {rb n : Nat} {v : Value} {st : RSt} {a b c d x y : Nat} (h : GAt w rb v st n a b c d x y) (u : Nat) : GAt ((w.setCell ⟨n + 1, 0, none⟩ (.int .u32 (hi u : Nat))).setCell ⟨n + 1, 1, none⟩ (.int .u32 (lo u : Nat))) rb v st n a u c d x y :=
  ⟨(h.row.setOther h.B.ne h.B.own _).setOther h.B.ne h.B.own _, (h.A.setOther (by omega) _).setOther (by omega) _, (h.B.set _).set _, (h.C.setOther (by omega) _).setOther (by omega) _, (h.D.setOther (by omega) _).setOther (by omega) _, (h.X.setOther (by omega) _).setOther (by omega) _, (h.Y.setOther (by omega) _).setOther (by omega) _, (h.r0.setOther (by omega) _).setOther (by omega) _, (h.r1.setOther (by omega) _).setOther (by omega) _, (h.r2.setOther (by omega) _).setOther (by omega) _, (h.r3.setOther (by omega) _).setOther (by omega) _⟩
theorem GAt.setC {w : World} {rb n : Nat} {v : Value} {st : RSt} {a b c d x y : Nat} (h : GAt w rb v st n a b c d x y) (u : Nat) : GAt ((w.setCell ⟨n + 1 + 1, 0, none⟩ (.int .u32 (hi u : Nat))).setCell ⟨n + 1 + 1, 1, none⟩ (.int .u32 (lo u : Nat))) rb v st n a b u d x y :=
  ⟨(h.row.setOther h.C.ne h.C.own _).setOther h.C.ne h.C.own _, (h.A.setOther (by omega) _).setOther (by omega) _, (h.B.setOther (by omega) _).setOther (by omega) _, (h.C.set _).set _, (h.D.setOther (by omega) _).setOther (by omega) _, (h.X.setOther (by omega) _).setOther (by omega) _, (h.Y.setOther (by omega) _).setOther (by omega) _, (h.r0.setOther (by omega) _).setOther (by omega) _, (h.r1.setOther (by omega) _).setOther (by omega) _, (h.r2.setOther (by omega) _).setOther (by omega) _, (h.r3.setOther (by omega) _).setOther (by omega) _⟩
theorem GAt.setD {w : World} {rb n : Nat} {v : Value} {st : RSt} {a b c d x y : Nat} (h : GAt w rb v st n a b c d x y) (u : Nat) : GAt ((w.setCell ⟨n + 1 + 1 + 1, 0, none⟩ (.int .u32 (hi u : Nat))).setCell ⟨n + 1 + 1 + 1, 1, none⟩ (.int .u32 (lo u : Nat))) rb v st n a b c u x y :=
  ⟨(h.row.setOther h.D.ne h.D.own _).setOther h.D.ne h.D.own _, (h.A.setOther (by omega) _).setOther (by omega) _, (h.B.setOther (by omega) _).setOther (by omega) _, (h.C.setOther (by omega) _).setOther (by omega) _, (h.D.set _).set _, (h.X.setOther (by omega) _).setOther (by omega) _, (h.Y.setOther (by omega) _).setOther (by omega) _, (h.r0.setOther (by omega) _).setOther (by omega) _, (h.r1.setOther (by omega) _).setOther (by omega) _, (h.r2.setOther (by omega) _).setOther (by omega) _, (h.r3.setOther (by omega) _).setOther (by omega) _⟩
theorem GAt.look {w : World} {rb n : Nat} {v : Value} {st : RSt} {a b c d x y : Nat} (h : GAt w rb v st n a b c d x y) : w.cell? ⟨n, 0, none⟩ = some (.int .u32 (hi a : Nat)) ∧ w.cell? ⟨n, 1, none⟩ = some (.int .u32 (lo a : Nat)) ∧ w.cell? ⟨n + 1, 0, none⟩ = some (.int .u32 (hi b : Nat)) ∧ w.cell? ⟨n + 1, 1, none⟩ = some (.int .u32 (lo b : Nat)) ∧ w.cell? ⟨n + 1 + 1, 0, none⟩ = some (.int .u32 (hi c : Nat)) ∧ w.cell? ⟨n + 1 + 1, 1, none⟩ = some (.int .u32 (lo c : Nat)) ∧ w.cell? ⟨n + 1 + 1 + 1, 0, none⟩ = some (.int .u32 (hi d : Nat)) ∧ w.cell? ⟨n + 1 + 1 + 1, 1, none⟩ = some (.int .u32 (lo d : Nat)) ∧ w.cell? ⟨n + 1 + 1 + 1 + 1, 0, none⟩ = some (.int .u32 (hi x : Nat)) ∧ w.cell? ⟨n + 1 + 1 + 1 + 1, 1, none⟩ = some (.int .u32 (lo x : Nat)) ∧ w.cell? ⟨n + 1 + 1 + 1 + 1 + 1, 0, none⟩ = some (.int .u32 (hi y : Nat)) ∧ w.cell? ⟨n + 1 + 1 + 1 + 1 + 1, 1, none⟩ = some (.int .u32 (lo y : Nat)) :=
  ⟨cell_of_cells h.A.blk rfl, cell_of_cells h.A.blk rfl, cell_of_cells h.B.blk rfl, cell_of_cells h.B.blk rfl, cell_of_cells h.C.blk rfl, cell_of_cells h.C.blk rfl, cell_of_cells h.D.blk rfl, cell_of_cells h.D.blk rfl, cell_of_cells h.X.blk rfl, cell_of_cells h.X.blk rfl, cell_of_cells h.Y.blk rfl, cell_of_cells h.Y.blk rfl⟩
theorem GAt.free {w : World} {rb n : Nat} {v : Value} {st : RSt} {a b c d x y : Nat} (h : GAt w rb v st n a b c d x y) : w.frozen? ⟨n, 0, none⟩ = false ∧ w.frozen? ⟨n, 1, none⟩ = false ∧ w.frozen? ⟨n + 1, 0, none⟩ = false ∧ w.frozen? ⟨n + 1, 1, none⟩ = false ∧ w.frozen? ⟨n + 1 + 1, 0, none⟩ = false ∧ w.frozen? ⟨n + 1 + 1, 1, none⟩ = false ∧ w.frozen? ⟨n + 1 + 1 + 1, 0, none⟩ = false ∧ w.frozen? ⟨n + 1 + 1 + 1, 1, none⟩ = false :=
  ⟨free_of_cells h.A.blk, free_of_cells h.A.blk, free_of_cells h.B.blk, free_of_cells h.B.blk, free_of_cells h.C.blk, free_of_cells h.C.blk, free_of_cells h.D.blk, free_of_cells h.D.blk⟩

set_option maxHeartbeats 4000000 in
set_option maxRecDepth 100000 in
theorem g_any (rb : Nat) (v : Value) (st : RSt) (a b c d x y : Nat) (w : World) (h : RowAt w rb v st) (ha : a < 4294967296) (hb : b < 4294967296) (hc : c < 4294967296) (hd : d < 4294967296) (hx : x < 4294967296) (hy : y < 4294967296)
    (hcan : st.can (emMix a b c d x y) 16) :
    Calls Ybaf.prog 11 #[.pointer (some ⟨rb, 0, none⟩), wh a, wh b, wh c, wh d, wh x, wh y] w fun e w' =>
      e = .returned (.tuple #[wh (mix a b c d x y).a, wh (mix a b c d x y).b, wh (mix a b c d x y).c, wh (mix a b c d x y).d]) ∧ ∃ v', RowAt w' rb v' (st.emit (emMix a b c d x y) 16) ∧ Fr rb v v' w w' := by
  obtain ⟨a1, ea1⟩ : ∃ a1, a1 = (a + b + x) % 4294967296 := ⟨_, rfl⟩
  have ha1 : a1 < 4294967296 := by omega
  obtain ⟨d1, ed1⟩ : ∃ d1, d1 = rotr (d ^^^ a1) 16 := ⟨_, rfl⟩
  have hd1 : d1 < 4294967296 := by rw [ed1]; exact rotr_lt _ _ (xor_lt _ _ 32 hd ha1) (by omega)
  obtain ⟨c1, ec1⟩ : ∃ c1, c1 = (c + d1) % 4294967296 := ⟨_, rfl⟩
  have hc1 : c1 < 4294967296 := by omega
  obtain ⟨b1, eb1⟩ : ∃ b1, b1 = rotr (b ^^^ c1) 12 := ⟨_, rfl⟩
  have hb1 : b1 < 4294967296 := by rw [eb1]; exact rotr_lt _ _ (xor_lt _ _ 32 hb hc1) (by omega)
  obtain ⟨a2, ea2⟩ : ∃ a2, a2 = (a1 + b1 + y) % 4294967296 := ⟨_, rfl⟩
  have ha2 : a2 < 4294967296 := by omega
  obtain ⟨d2, ed2⟩ : ∃ d2, d2 = rotr (d1 ^^^ a2) 8 := ⟨_, rfl⟩
  have hd2 : d2 < 4294967296 := by rw [ed2]; exact rotr_lt _ _ (xor_lt _ _ 32 hd1 ha2) (by omega)
  obtain ⟨c2, ec2⟩ : ∃ c2, c2 = (c1 + d2) % 4294967296 := ⟨_, rfl⟩
  have hc2 : c2 < 4294967296 := by omega
  obtain ⟨b2, eb2⟩ : ∃ b2, b2 = rotr (b1 ^^^ c2) 7 := ⟨_, rfl⟩
  have hb2 : b2 < 4294967296 := by rw [eb2]; exact rotr_lt _ _ (xor_lt _ _ 32 hb1 hc2) (by omega)
  have hem : emMix a b c d x y = (emAdd a1) ++ (emXor d a1 8) ++ (emAdd c1) ++ (emXor b c1 12) ++ (emAdd a2) ++ (emXor d1 a2 8) ++ (emAdd c2) ++ (emXor b1 c2 7) := by rw [ec2, ed2, ea2, eb1, ec1, ed1, ea1]; rfl
  have hmix : mix a b c d x y = ⟨a2, b2, c2, d2⟩ := by rw [eb2, ec2, ed2, ea2, eb1, ec1, ed1, ea1]; rfl
  rw [hem] at hcan ⊢
  rw [hmix]
  have q0 := hcan
  simp only [List.append_assoc] at q0
  have HC0 := hide (RSt.can_left (e1 := emAdd a1) (e2 := ((emXor d a1 8) ++ ((emAdd c1) ++ ((emXor b c1 12) ++ ((emAdd a2) ++ ((emXor d1 a2 8) ++ ((emAdd c2) ++ (emXor b1 c2 7)))))))) (k1 := 0) (k2 := 16) q0)
  have q1 := RSt.can_right (e1 := emAdd a1) (e2 := ((emXor d a1 8) ++ ((emAdd c1) ++ ((emXor b c1 12) ++ ((emAdd a2) ++ ((emXor d1 a2 8) ++ ((emAdd c2) ++ (emXor b1 c2 7)))))))) (k1 := 0) (k2 := 16) q0
  have HC1 := hide (RSt.can_left (e1 := emXor d a1 8) (e2 := ((emAdd c1) ++ ((emXor b c1 12) ++ ((emAdd a2) ++ ((emXor d1 a2 8) ++ ((emAdd c2) ++ (emXor b1 c2 7))))))) (k1 := 4) (k2 := 12) q1)
  have q2 := RSt.can_right (e1 := emXor d a1 8) (e2 := ((emAdd c1) ++ ((emXor b c1 12) ++ ((emAdd a2) ++ ((emXor d1 a2 8) ++ ((emAdd c2) ++ (emXor b1 c2 7))))))) (k1 := 4) (k2 := 12) q1
  have HC2 := hide (RSt.can_left (e1 := emAdd c1) (e2 := ((emXor b c1 12) ++ ((emAdd a2) ++ ((emXor d1 a2 8) ++ ((emAdd c2) ++ (emXor b1 c2 7)))))) (k1 := 0) (k2 := 12) q2)
  have q3 := RSt.can_right (e1 := emAdd c1) (e2 := ((emXor b c1 12) ++ ((emAdd a2) ++ ((emXor d1 a2 8) ++ ((emAdd c2) ++ (emXor b1 c2 7)))))) (k1 := 0) (k2 := 12) q2
  have HC3 := hide (RSt.can_left (e1 := emXor b c1 12) (e2 := ((emAdd a2) ++ ((emXor d1 a2 8) ++ ((emAdd c2) ++ (emXor b1 c2 7))))) (k1 := 4) (k2 := 8) q3)
  have q4 := RSt.can_right (e1 := emXor b c1 12) (e2 := ((emAdd a2) ++ ((emXor d1 a2 8) ++ ((emAdd c2) ++ (emXor b1 c2 7))))) (k1 := 4) (k2 := 8) q3
  have HC4 := hide (RSt.can_left (e1 := emAdd a2) (e2 := ((emXor d1 a2 8) ++ ((emAdd c2) ++ (emXor b1 c2 7)))) (k1 := 0) (k2 := 8) q4)
  have q5 := RSt.can_right (e1 := emAdd a2) (e2 := ((emXor d1 a2 8) ++ ((emAdd c2) ++ (emXor b1 c2 7)))) (k1 := 0) (k2 := 8) q4
  have HC5 := hide (RSt.can_left (e1 := emXor d1 a2 8) (e2 := ((emAdd c2) ++ (emXor b1 c2 7))) (k1 := 4) (k2 := 4) q5)
  have q6 := RSt.can_right (e1 := emXor d1 a2 8) (e2 := ((emAdd c2) ++ (emXor b1 c2 7))) (k1 := 4) (k2 := 4) q5
  have HC6 := hide (RSt.can_left (e1 := emAdd c2) (e2 := (emXor b1 c2 7)) (k1 := 0) (k2 := 4) q6)
  have q7 := RSt.can_right (e1 := emAdd c2) (e2 := (emXor b1 c2 7)) (k1 := 0) (k2 := 4) q6
  have HC7 := hide q7
  clear q0 q1 q2 q3 q4 q5 q6 q7 hcan hem hmix
  have Ea1 := hide ea1
  have Ed1 := hide ed1
  have Ec1 := hide ec1
  have Eb1 := hide eb1
  have Ea2 := hide ea2
  have Ed2 := hide ed2
  have Ec2 := hide ec2
  have Eb2 := hide eb2
  have Ha := hide ha
  have Hb := hide hb
  have Hc := hide hc
  have Hd := hide hd
  have Hx := hide hx
  have Hy := hide hy
  have Ha1 := hide ha1
  have Hd1 := hide hd1
  have Hc1 := hide hc1
  have Hb1 := hide hb1
  have Ha2 := hide ha2
  have Hd2 := hide hd2
  have Hc2 := hide hc2
  have Hb2 := hide hb2
  clear ha hb hc hd hx hy ha1 hd1 hc1 hb1 ha2 hd2 hc2 hb2 ea1 ed1 ec1 eb1 ea2 ed2 ec2 eb2
  obtain ⟨w0, hw0⟩ : ∃ w0, w0 = ((((((((((w).alloc (whO a)).alloc (whO b)).alloc (whO c)).alloc (whO d)).alloc (whO x)).alloc (whO y)).alloc (.cells #[.int .u32 0, .int .u32 0] 32)).alloc (.cells #[.int .u32 0, .int .u32 0] 32)).alloc (.cells #[.int .u32 0, .int .u32 0] 32)).alloc (.cells #[.int .u32 0, .int .u32 0] 32) := ⟨_, rfl⟩
  have F0 : Fr rb v v w w0 := by rw [hw0]; exact (((((((((((Fr.refl rb v w).alloc _).alloc _).alloc _).alloc _).alloc _).alloc _).alloc _).alloc _).alloc _).alloc _)
  have G0 : GAt w0 rb v st w.heap.size a b c d x y := by
    rw [hw0]
    refine ⟨((((((((((h.alloc _).alloc _).alloc _).alloc _).alloc _).alloc _).alloc _).alloc _).alloc _).alloc _), ?_, ?_, ?_, ?_, ?_, ?_, ?_, ?_, ?_, ?_⟩
    · have := Loc.new h (whO a); exact (((((((((this.alloc _).alloc _).alloc _).alloc _).alloc _).alloc _).alloc _).alloc _).alloc _)
    · have := Loc.new (h.alloc (whO a)) (whO b); rw [World.size_alloc] at this; exact ((((((((this.alloc _).alloc _).alloc _).alloc _).alloc _).alloc _).alloc _).alloc _)
    · have := Loc.new ((h.alloc (whO a)).alloc (whO b)) (whO c); rw [World.size_alloc, World.size_alloc] at this; exact (((((((this.alloc _).alloc _).alloc _).alloc _).alloc _).alloc _).alloc _)
    · have := Loc.new (((h.alloc (whO a)).alloc (whO b)).alloc (whO c)) (whO d); rw [World.size_alloc, World.size_alloc, World.size_alloc] at this; exact ((((((this.alloc _).alloc _).alloc _).alloc _).alloc _).alloc _)
    · have := Loc.new ((((h.alloc (whO a)).alloc (whO b)).alloc (whO c)).alloc (whO d)) (whO x); rw [World.size_alloc, World.size_alloc, World.size_alloc, World.size_alloc] at this; exact (((((this.alloc _).alloc _).alloc _).alloc _).alloc _)
    · have := Loc.new (((((h.alloc (whO a)).alloc (whO b)).alloc (whO c)).alloc (whO d)).alloc (whO x)) (whO y); rw [World.size_alloc, World.size_alloc, World.size_alloc, World.size_alloc, World.size_alloc] at this; exact ((((this.alloc _).alloc _).alloc _).alloc _)
    · have := Loc.new ((((((h.alloc (whO a)).alloc (whO b)).alloc (whO c)).alloc (whO d)).alloc (whO x)).alloc (whO y)) (.cells #[.int .u32 0, .int .u32 0] 32); rw [World.size_alloc, World.size_alloc, World.size_alloc, World.size_alloc, World.size_alloc, World.size_alloc] at this; exact (((this.alloc _).alloc _).alloc _)
    · have := Loc.new (((((((h.alloc (whO a)).alloc (whO b)).alloc (whO c)).alloc (whO d)).alloc (whO x)).alloc (whO y)).alloc (.cells #[.int .u32 0, .int .u32 0] 32)) (.cells #[.int .u32 0, .int .u32 0] 32); rw [World.size_alloc, World.size_alloc, World.size_alloc, World.size_alloc, World.size_alloc, World.size_alloc, World.size_alloc] at this; exact ((this.alloc _).alloc _)
    · have := Loc.new ((((((((h.alloc (whO a)).alloc (whO b)).alloc (whO c)).alloc (whO d)).alloc (whO x)).alloc (whO y)).alloc (.cells #[.int .u32 0, .int .u32 0] 32)).alloc (.cells #[.int .u32 0, .int .u32 0] 32)) (.cells #[.int .u32 0, .int .u32 0] 32); rw [World.size_alloc, World.size_alloc, World.size_alloc, World.size_alloc, World.size_alloc, World.size_alloc, World.size_alloc, World.size_alloc] at this; exact (this.alloc _)
    · have := Loc.new (((((((((h.alloc (whO a)).alloc (whO b)).alloc (whO c)).alloc (whO d)).alloc (whO x)).alloc (whO y)).alloc (.cells #[.int .u32 0, .int .u32 0] 32)).alloc (.cells #[.int .u32 0, .int .u32 0] 32)).alloc (.cells #[.int .u32 0, .int .u32 0] 32)) (.cells #[.int .u32 0, .int .u32 0] 32); rw [World.size_alloc, World.size_alloc, World.size_alloc, World.size_alloc, World.size_alloc, World.size_alloc, World.size_alloc, World.size_alloc, World.size_alloc] at this; exact this
  have hsz : w0.heap.size = w.heap.size + 1 + 1 + 1 + 1 + 1 + 1 + 1 + 1 + 1 + 1 := by rw [hw0]; simp only [World.size_alloc]
  have HSZ := hide hsz
  have HW0 := hide hw0
  have HF0 := hide F0
  have HG0 := hide G0
  clear hsz hw0 F0 G0 h
  go_enter Ybaf.func11, Ybaf.ntmps11
  go_wp2_with fail
  rw [← HW0.out]
  clear HW0
  refine (add3 rb _ v _ a b x a1 _ (HG0.out.row.alloc _) Ha.out Hb.out Hx.out (Loc.newAt HG0.out.row HSZ.out.symm (.cells #[.int .u32 (hi a : Nat), .int .u32 (lo a : Nat), .int .u32 (hi b : Nat), .int .u32 (lo b : Nat), .int .u32 (hi x : Nat), .int .u32 (lo x : Nat)] 32 (0, 0))) Ea1.out HC0.out).mono ?_
  rintro e w1 ⟨rfl, v1, R, F⟩
  have HG1 := hide ((HG0.out.alloc _).fr R F)
  have HF1 := hide ((HF0.out.alloc _).trans F)
  clear R F
  obtain ⟨kA0, kA1, kB0, kB1, kC0, kC1, kD0, kD1, kX0, kX1, kY0, kY1⟩ := HG1.out.look
  obtain ⟨fA0, fA1, fB0, fB1, fC0, fC1, fD0, fD1⟩ := HG1.out.free
  go_wp2_with fail
  refine (xh16 rb v1 _ d a1 d1 _ (HG1.out.setA a1).row Hd.out Ha1.out Ed1.out HC1.out).mono ?_
  rintro e w2 ⟨rfl, v2, R, F⟩
  have HG2 := hide ((HG1.out.setA a1).fr R F)
  have HF2 := hide (((HF1.out.setNew (p := ⟨w.heap.size, 0, none⟩) (by simp only; omega) (.int .u32 (hi a1 : Nat))).setNew (p := ⟨w.heap.size, 1, none⟩) (by simp only; omega) (.int .u32 (lo a1 : Nat))).trans F)
  clear R F
  clear kA0 kA1 kB0 kB1 kC0 kC1 kD0 kD1 kX0 kX1 kY0 kY1 fA0 fA1 fB0 fB1 fC0 fC1 fD0 fD1
  obtain ⟨kA0, kA1, kB0, kB1, kC0, kC1, kD0, kD1, kX0, kX1, kY0, kY1⟩ := HG2.out.look
  obtain ⟨fA0, fA1, fB0, fB1, fC0, fC1, fD0, fD1⟩ := HG2.out.free
  go_wp2_with fail
  refine (add2 rb _ v2 _ c d1 c1 _ ((HG2.out.setD d1).row.alloc _) Hc.out Hd1.out (Loc.newAt (HG2.out.setD d1).row (by simp) (.cells #[.int .u32 (hi c : Nat), .int .u32 (lo c : Nat), .int .u32 (hi d1 : Nat), .int .u32 (lo d1 : Nat)] 32 (0, 0))) Ec1.out HC2.out).mono ?_
  rintro e w3 ⟨rfl, v3, R, F⟩
  have HG3 := hide (((HG2.out.setD d1).alloc _).fr R F)
  have HF3 := hide ((((HF2.out.setNew (p := ⟨w.heap.size + 1 + 1 + 1, 0, none⟩) (by simp only; omega) (.int .u32 (hi d1 : Nat))).setNew (p := ⟨w.heap.size + 1 + 1 + 1, 1, none⟩) (by simp only; omega) (.int .u32 (lo d1 : Nat))).alloc _).trans F)
  clear R F
  clear kA0 kA1 kB0 kB1 kC0 kC1 kD0 kD1 kX0 kX1 kY0 kY1 fA0 fA1 fB0 fB1 fC0 fC1 fD0 fD1
  obtain ⟨kA0, kA1, kB0, kB1, kC0, kC1, kD0, kD1, kX0, kX1, kY0, kY1⟩ := HG3.out.look
  obtain ⟨fA0, fA1, fB0, fB1, fC0, fC1, fD0, fD1⟩ := HG3.out.free
  go_wp2_with fail
  refine (xh12 rb v3 _ b c1 b1 _ (HG3.out.setC c1).row Hb.out Hc1.out Eb1.out HC3.out).mono ?_
  rintro e w4 ⟨rfl, v4, R, F⟩
  have HG4 := hide ((HG3.out.setC c1).fr R F)
  have HF4 := hide (((HF3.out.setNew (p := ⟨w.heap.size + 1 + 1, 0, none⟩) (by simp only; omega) (.int .u32 (hi c1 : Nat))).setNew (p := ⟨w.heap.size + 1 + 1, 1, none⟩) (by simp only; omega) (.int .u32 (lo c1 : Nat))).trans F)
  clear R F
  clear kA0 kA1 kB0 kB1 kC0 kC1 kD0 kD1 kX0 kX1 kY0 kY1 fA0 fA1 fB0 fB1 fC0 fC1 fD0 fD1
  obtain ⟨kA0, kA1, kB0, kB1, kC0, kC1, kD0, kD1, kX0, kX1, kY0, kY1⟩ := HG4.out.look
  obtain ⟨fA0, fA1, fB0, fB1, fC0, fC1, fD0, fD1⟩ := HG4.out.free
  go_wp2_with fail
  refine (add3 rb _ v4 _ a1 b1 y a2 _ ((HG4.out.setB b1).row.alloc _) Ha1.out Hb1.out Hy.out (Loc.newAt (HG4.out.setB b1).row (by simp) (.cells #[.int .u32 (hi a1 : Nat), .int .u32 (lo a1 : Nat), .int .u32 (hi b1 : Nat), .int .u32 (lo b1 : Nat), .int .u32 (hi y : Nat), .int .u32 (lo y : Nat)] 32 (0, 0))) Ea2.out HC4.out).mono ?_
  rintro e w5 ⟨rfl, v5, R, F⟩
  have HG5 := hide (((HG4.out.setB b1).alloc _).fr R F)
  have HF5 := hide ((((HF4.out.setNew (p := ⟨w.heap.size + 1, 0, none⟩) (by simp only; omega) (.int .u32 (hi b1 : Nat))).setNew (p := ⟨w.heap.size + 1, 1, none⟩) (by simp only; omega) (.int .u32 (lo b1 : Nat))).alloc _).trans F)
  clear R F
  clear kA0 kA1 kB0 kB1 kC0 kC1 kD0 kD1 kX0 kX1 kY0 kY1 fA0 fA1 fB0 fB1 fC0 fC1 fD0 fD1
  obtain ⟨kA0, kA1, kB0, kB1, kC0, kC1, kD0, kD1, kX0, kX1, kY0, kY1⟩ := HG5.out.look
  obtain ⟨fA0, fA1, fB0, fB1, fC0, fC1, fD0, fD1⟩ := HG5.out.free
  go_wp2_with fail
  refine (xh8 rb v5 _ d1 a2 d2 _ (HG5.out.setA a2).row Hd1.out Ha2.out Ed2.out HC5.out).mono ?_
  rintro e w6 ⟨rfl, v6, R, F⟩
  have HG6 := hide ((HG5.out.setA a2).fr R F)
  have HF6 := hide (((HF5.out.setNew (p := ⟨w.heap.size, 0, none⟩) (by simp only; omega) (.int .u32 (hi a2 : Nat))).setNew (p := ⟨w.heap.size, 1, none⟩) (by simp only; omega) (.int .u32 (lo a2 : Nat))).trans F)
  clear R F
  clear kA0 kA1 kB0 kB1 kC0 kC1 kD0 kD1 kX0 kX1 kY0 kY1 fA0 fA1 fB0 fB1 fC0 fC1 fD0 fD1
  obtain ⟨kA0, kA1, kB0, kB1, kC0, kC1, kD0, kD1, kX0, kX1, kY0, kY1⟩ := HG6.out.look
  obtain ⟨fA0, fA1, fB0, fB1, fC0, fC1, fD0, fD1⟩ := HG6.out.free
  go_wp2_with fail
  refine (add2 rb _ v6 _ c1 d2 c2 _ ((HG6.out.setD d2).row.alloc _) Hc1.out Hd2.out (Loc.newAt (HG6.out.setD d2).row (by simp) (.cells #[.int .u32 (hi c1 : Nat), .int .u32 (lo c1 : Nat), .int .u32 (hi d2 : Nat), .int .u32 (lo d2 : Nat)] 32 (0, 0))) Ec2.out HC6.out).mono ?_
  rintro e w7 ⟨rfl, v7, R, F⟩
  have HG7 := hide (((HG6.out.setD d2).alloc _).fr R F)
  have HF7 := hide ((((HF6.out.setNew (p := ⟨w.heap.size + 1 + 1 + 1, 0, none⟩) (by simp only; omega) (.int .u32 (hi d2 : Nat))).setNew (p := ⟨w.heap.size + 1 + 1 + 1, 1, none⟩) (by simp only; omega) (.int .u32 (lo d2 : Nat))).alloc _).trans F)
  clear R F
  clear kA0 kA1 kB0 kB1 kC0 kC1 kD0 kD1 kX0 kX1 kY0 kY1 fA0 fA1 fB0 fB1 fC0 fC1 fD0 fD1
  obtain ⟨kA0, kA1, kB0, kB1, kC0, kC1, kD0, kD1, kX0, kX1, kY0, kY1⟩ := HG7.out.look
  obtain ⟨fA0, fA1, fB0, fB1, fC0, fC1, fD0, fD1⟩ := HG7.out.free
  go_wp2_with fail
  refine (xh7 rb v7 _ b1 c2 b2 _ (HG7.out.setC c2).row Hb1.out Hc2.out Eb2.out HC7.out).mono ?_
  rintro e w8 ⟨rfl, v8, R, F⟩
  have HG8 := hide ((HG7.out.setC c2).fr R F)
  have HF8 := hide (((HF7.out.setNew (p := ⟨w.heap.size + 1 + 1, 0, none⟩) (by simp only; omega) (.int .u32 (hi c2 : Nat))).setNew (p := ⟨w.heap.size + 1 + 1, 1, none⟩) (by simp only; omega) (.int .u32 (lo c2 : Nat))).trans F)
  clear R F
  clear kA0 kA1 kB0 kB1 kC0 kC1 kD0 kD1 kX0 kX1 kY0 kY1 fA0 fA1 fB0 fB1 fC0 fC1 fD0 fD1
  obtain ⟨kA0, kA1, kB0, kB1, kC0, kC1, kD0, kD1, kX0, kX1, kY0, kY1⟩ := HG8.out.look
  obtain ⟨fA0, fA1, fB0, fB1, fC0, fC1, fD0, fD1⟩ := HG8.out.free
  go_wp2_with fail
  obtain ⟨w9, hw9⟩ : ∃ w9, w9 = (w8.setCell ⟨w.heap.size + 1, 0, none⟩ (.int .u32 (hi b2 : Nat))).setCell ⟨w.heap.size + 1, 1, none⟩ (.int .u32 (lo b2 : Nat)) := ⟨_, rfl⟩
  have G9 : GAt w9 rb v8 _ _ _ _ _ _ _ _ := hw9 ▸ (HG8.out.setB b2)
  have F9 : Fr rb v v8 w w9 := hw9 ▸ ((HF8.out.setNew (p := ⟨w.heap.size + 1, 0, none⟩) (by simp only; omega) (.int .u32 (hi b2 : Nat))).setNew (p := ⟨w.heap.size + 1, 1, none⟩) (by simp only; omega) (.int .u32 (lo b2 : Nat)))
  rw [← hw9]
  have HG9 := hide G9
  have HF9 := hide F9
  clear hw9 G9 F9
  clear kA0 kA1 kB0 kB1 kC0 kC1 kD0 kD1 kX0 kX1 kY0 kY1 fA0 fA1 fB0 fB1 fC0 fC1 fD0 fD1
  obtain ⟨kA0, kA1, kB0, kB1, kC0, kC1, kD0, kD1, kX0, kX1, kY0, kY1⟩ := HG9.out.look
  obtain ⟨fA0, fA1, fB0, fB1, fC0, fC1, fD0, fD1⟩ := HG9.out.free
  have kr00 : w9.cell? ⟨w.heap.size + 1 + 1 + 1 + 1 + 1 + 1, 0, none⟩ = some (.int .u32 0) := cell_of_cells HG9.out.r0.blk rfl
  have kr01 : w9.cell? ⟨w.heap.size + 1 + 1 + 1 + 1 + 1 + 1, 1, none⟩ = some (.int .u32 0) := cell_of_cells HG9.out.r0.blk rfl
  have fr00 := free_of_cells (i := 0) HG9.out.r0.blk
  have fr01 := free_of_cells (i := 1) HG9.out.r0.blk
  have kr10 : w9.cell? ⟨w.heap.size + 1 + 1 + 1 + 1 + 1 + 1 + 1, 0, none⟩ = some (.int .u32 0) := cell_of_cells HG9.out.r1.blk rfl
  have kr11 : w9.cell? ⟨w.heap.size + 1 + 1 + 1 + 1 + 1 + 1 + 1, 1, none⟩ = some (.int .u32 0) := cell_of_cells HG9.out.r1.blk rfl
  have fr10 := free_of_cells (i := 0) HG9.out.r1.blk
  have fr11 := free_of_cells (i := 1) HG9.out.r1.blk
  have kr20 : w9.cell? ⟨w.heap.size + 1 + 1 + 1 + 1 + 1 + 1 + 1 + 1, 0, none⟩ = some (.int .u32 0) := cell_of_cells HG9.out.r2.blk rfl
  have kr21 : w9.cell? ⟨w.heap.size + 1 + 1 + 1 + 1 + 1 + 1 + 1 + 1, 1, none⟩ = some (.int .u32 0) := cell_of_cells HG9.out.r2.blk rfl
  have fr20 := free_of_cells (i := 0) HG9.out.r2.blk
  have fr21 := free_of_cells (i := 1) HG9.out.r2.blk
  have kr30 : w9.cell? ⟨w.heap.size + 1 + 1 + 1 + 1 + 1 + 1 + 1 + 1 + 1, 0, none⟩ = some (.int .u32 0) := cell_of_cells HG9.out.r3.blk rfl
  have kr31 : w9.cell? ⟨w.heap.size + 1 + 1 + 1 + 1 + 1 + 1 + 1 + 1 + 1, 1, none⟩ = some (.int .u32 0) := cell_of_cells HG9.out.r3.blk rfl
  have fr30 := free_of_cells (i := 0) HG9.out.r3.blk
  have fr31 := free_of_cells (i := 1) HG9.out.r3.blk
  go_region_held3 (fun w' => w'.cell? ⟨w.heap.size, 0, none⟩ = some (.int .u32 (hi a2 : Nat)) ∧ w'.cell? ⟨w.heap.size, 1, none⟩ = some (.int .u32 (lo a2 : Nat)) ∧ w'.cell? ⟨w.heap.size + 1, 0, none⟩ = some (.int .u32 (hi b2 : Nat)) ∧ w'.cell? ⟨w.heap.size + 1, 1, none⟩ = some (.int .u32 (lo b2 : Nat)) ∧ w'.cell? ⟨w.heap.size + 1 + 1, 0, none⟩ = some (.int .u32 (hi c2 : Nat)) ∧ w'.cell? ⟨w.heap.size + 1 + 1, 1, none⟩ = some (.int .u32 (lo c2 : Nat)) ∧ w'.cell? ⟨w.heap.size + 1 + 1 + 1, 0, none⟩ = some (.int .u32 (hi d2 : Nat)) ∧ w'.cell? ⟨w.heap.size + 1 + 1 + 1, 1, none⟩ = some (.int .u32 (lo d2 : Nat))) (first | (go_keep; done) | ( refine ⟨?_, ?_, ?_, ?_, ?_, ?_, ?_, ?_⟩ <;> (simp (disch := (dsimp only; omega)) only [World.cell?_drew, World.cell?_setCell_far]; assumption))) (skip)
  go_wp2
  obtain ⟨wE, hwE⟩ : ∃ wE, wE = ((((((((w9.setCell ⟨w.heap.size + 1 + 1 + 1 + 1 + 1 + 1, 0, none⟩ (.int .u32 (hi a2 : Nat))).setCell ⟨w.heap.size + 1 + 1 + 1 + 1 + 1 + 1, 1, none⟩ (.int .u32 (lo a2 : Nat))).setCell ⟨w.heap.size + 1 + 1 + 1 + 1 + 1 + 1 + 1, 0, none⟩ (.int .u32 (hi b2 : Nat))).setCell ⟨w.heap.size + 1 + 1 + 1 + 1 + 1 + 1 + 1, 1, none⟩ (.int .u32 (lo b2 : Nat))).setCell ⟨w.heap.size + 1 + 1 + 1 + 1 + 1 + 1 + 1 + 1, 0, none⟩ (.int .u32 (hi c2 : Nat))).setCell ⟨w.heap.size + 1 + 1 + 1 + 1 + 1 + 1 + 1 + 1, 1, none⟩ (.int .u32 (lo c2 : Nat))).setCell ⟨w.heap.size + 1 + 1 + 1 + 1 + 1 + 1 + 1 + 1 + 1, 0, none⟩ (.int .u32 (hi d2 : Nat))).setCell ⟨w.heap.size + 1 + 1 + 1 + 1 + 1 + 1 + 1 + 1 + 1, 1, none⟩ (.int .u32 (lo d2 : Nat))).drew := ⟨_, rfl⟩
  have L0 : Loc wE rb v8 (w.heap.size + 1 + 1 + 1 + 1 + 1 + 1) (whO a2) := hwE ▸ ((((((((HG9.out.r0.set (i := 0) (.int .u32 (hi a2 : Nat))).set (i := 1) (.int .u32 (lo a2 : Nat))).setOther (k' := w.heap.size + 1 + 1 + 1 + 1 + 1 + 1 + 1) (i := 0) (by omega) (.int .u32 (hi b2 : Nat))).setOther (k' := w.heap.size + 1 + 1 + 1 + 1 + 1 + 1 + 1) (i := 1) (by omega) (.int .u32 (lo b2 : Nat))).setOther (k' := w.heap.size + 1 + 1 + 1 + 1 + 1 + 1 + 1 + 1) (i := 0) (by omega) (.int .u32 (hi c2 : Nat))).setOther (k' := w.heap.size + 1 + 1 + 1 + 1 + 1 + 1 + 1 + 1) (i := 1) (by omega) (.int .u32 (lo c2 : Nat))).setOther (k' := w.heap.size + 1 + 1 + 1 + 1 + 1 + 1 + 1 + 1 + 1) (i := 0) (by omega) (.int .u32 (hi d2 : Nat))).setOther (k' := w.heap.size + 1 + 1 + 1 + 1 + 1 + 1 + 1 + 1 + 1) (i := 1) (by omega) (.int .u32 (lo d2 : Nat))).drew
  have m00 : wE.cell? ⟨w.heap.size + 1 + 1 + 1 + 1 + 1 + 1, 0, none⟩ = some (.int .u32 (hi a2 : Nat)) := cell_of_cells L0.blk rfl
  have m01 : wE.cell? ⟨w.heap.size + 1 + 1 + 1 + 1 + 1 + 1, 1, none⟩ = some (.int .u32 (lo a2 : Nat)) := cell_of_cells L0.blk rfl
  have L1 : Loc wE rb v8 (w.heap.size + 1 + 1 + 1 + 1 + 1 + 1 + 1) (whO b2) := hwE ▸ ((((((((HG9.out.r1.setOther (k' := w.heap.size + 1 + 1 + 1 + 1 + 1 + 1) (i := 0) (by omega) (.int .u32 (hi a2 : Nat))).setOther (k' := w.heap.size + 1 + 1 + 1 + 1 + 1 + 1) (i := 1) (by omega) (.int .u32 (lo a2 : Nat))).set (i := 0) (.int .u32 (hi b2 : Nat))).set (i := 1) (.int .u32 (lo b2 : Nat))).setOther (k' := w.heap.size + 1 + 1 + 1 + 1 + 1 + 1 + 1 + 1) (i := 0) (by omega) (.int .u32 (hi c2 : Nat))).setOther (k' := w.heap.size + 1 + 1 + 1 + 1 + 1 + 1 + 1 + 1) (i := 1) (by omega) (.int .u32 (lo c2 : Nat))).setOther (k' := w.heap.size + 1 + 1 + 1 + 1 + 1 + 1 + 1 + 1 + 1) (i := 0) (by omega) (.int .u32 (hi d2 : Nat))).setOther (k' := w.heap.size + 1 + 1 + 1 + 1 + 1 + 1 + 1 + 1 + 1) (i := 1) (by omega) (.int .u32 (lo d2 : Nat))).drew
  have m10 : wE.cell? ⟨w.heap.size + 1 + 1 + 1 + 1 + 1 + 1 + 1, 0, none⟩ = some (.int .u32 (hi b2 : Nat)) := cell_of_cells L1.blk rfl
  have m11 : wE.cell? ⟨w.heap.size + 1 + 1 + 1 + 1 + 1 + 1 + 1, 1, none⟩ = some (.int .u32 (lo b2 : Nat)) := cell_of_cells L1.blk rfl
  have L2 : Loc wE rb v8 (w.heap.size + 1 + 1 + 1 + 1 + 1 + 1 + 1 + 1) (whO c2) := hwE ▸ ((((((((HG9.out.r2.setOther (k' := w.heap.size + 1 + 1 + 1 + 1 + 1 + 1) (i := 0) (by omega) (.int .u32 (hi a2 : Nat))).setOther (k' := w.heap.size + 1 + 1 + 1 + 1 + 1 + 1) (i := 1) (by omega) (.int .u32 (lo a2 : Nat))).setOther (k' := w.heap.size + 1 + 1 + 1 + 1 + 1 + 1 + 1) (i := 0) (by omega) (.int .u32 (hi b2 : Nat))).setOther (k' := w.heap.size + 1 + 1 + 1 + 1 + 1 + 1 + 1) (i := 1) (by omega) (.int .u32 (lo b2 : Nat))).set (i := 0) (.int .u32 (hi c2 : Nat))).set (i := 1) (.int .u32 (lo c2 : Nat))).setOther (k' := w.heap.size + 1 + 1 + 1 + 1 + 1 + 1 + 1 + 1 + 1) (i := 0) (by omega) (.int .u32 (hi d2 : Nat))).setOther (k' := w.heap.size + 1 + 1 + 1 + 1 + 1 + 1 + 1 + 1 + 1) (i := 1) (by omega) (.int .u32 (lo d2 : Nat))).drew
  have m20 : wE.cell? ⟨w.heap.size + 1 + 1 + 1 + 1 + 1 + 1 + 1 + 1, 0, none⟩ = some (.int .u32 (hi c2 : Nat)) := cell_of_cells L2.blk rfl
  have m21 : wE.cell? ⟨w.heap.size + 1 + 1 + 1 + 1 + 1 + 1 + 1 + 1, 1, none⟩ = some (.int .u32 (lo c2 : Nat)) := cell_of_cells L2.blk rfl
  have L3 : Loc wE rb v8 (w.heap.size + 1 + 1 + 1 + 1 + 1 + 1 + 1 + 1 + 1) (whO d2) := hwE ▸ ((((((((HG9.out.r3.setOther (k' := w.heap.size + 1 + 1 + 1 + 1 + 1 + 1) (i := 0) (by omega) (.int .u32 (hi a2 : Nat))).setOther (k' := w.heap.size + 1 + 1 + 1 + 1 + 1 + 1) (i := 1) (by omega) (.int .u32 (lo a2 : Nat))).setOther (k' := w.heap.size + 1 + 1 + 1 + 1 + 1 + 1 + 1) (i := 0) (by omega) (.int .u32 (hi b2 : Nat))).setOther (k' := w.heap.size + 1 + 1 + 1 + 1 + 1 + 1 + 1) (i := 1) (by omega) (.int .u32 (lo b2 : Nat))).setOther (k' := w.heap.size + 1 + 1 + 1 + 1 + 1 + 1 + 1 + 1) (i := 0) (by omega) (.int .u32 (hi c2 : Nat))).setOther (k' := w.heap.size + 1 + 1 + 1 + 1 + 1 + 1 + 1 + 1) (i := 1) (by omega) (.int .u32 (lo c2 : Nat))).set (i := 0) (.int .u32 (hi d2 : Nat))).set (i := 1) (.int .u32 (lo d2 : Nat))).drew
  have m30 : wE.cell? ⟨w.heap.size + 1 + 1 + 1 + 1 + 1 + 1 + 1 + 1 + 1, 0, none⟩ = some (.int .u32 (hi d2 : Nat)) := cell_of_cells L3.blk rfl
  have m31 : wE.cell? ⟨w.heap.size + 1 + 1 + 1 + 1 + 1 + 1 + 1 + 1 + 1, 1, none⟩ = some (.int .u32 (lo d2 : Nat)) := cell_of_cells L3.blk rfl
  have RE : RowAt wE rb v8 _ := hwE ▸ ((((((((HG9.out.row.setOther (i := 0) HG9.out.r0.ne HG9.out.r0.own (.int .u32 (hi a2 : Nat))).setOther (i := 1) HG9.out.r0.ne HG9.out.r0.own (.int .u32 (lo a2 : Nat))).setOther (i := 0) HG9.out.r1.ne HG9.out.r1.own (.int .u32 (hi b2 : Nat))).setOther (i := 1) HG9.out.r1.ne HG9.out.r1.own (.int .u32 (lo b2 : Nat))).setOther (i := 0) HG9.out.r2.ne HG9.out.r2.own (.int .u32 (hi c2 : Nat))).setOther (i := 1) HG9.out.r2.ne HG9.out.r2.own (.int .u32 (lo c2 : Nat))).setOther (i := 0) HG9.out.r3.ne HG9.out.r3.own (.int .u32 (hi d2 : Nat))).setOther (i := 1) HG9.out.r3.ne HG9.out.r3.own (.int .u32 (lo d2 : Nat))).drew
  have FE : Fr rb v v8 w wE := hwE ▸ ((((((((HF9.out.setNew (p := ⟨w.heap.size + 1 + 1 + 1 + 1 + 1 + 1, 0, none⟩) (by dsimp only; omega) (.int .u32 (hi a2 : Nat))).setNew (p := ⟨w.heap.size + 1 + 1 + 1 + 1 + 1 + 1, 1, none⟩) (by dsimp only; omega) (.int .u32 (lo a2 : Nat))).setNew (p := ⟨w.heap.size + 1 + 1 + 1 + 1 + 1 + 1 + 1, 0, none⟩) (by dsimp only; omega) (.int .u32 (hi b2 : Nat))).setNew (p := ⟨w.heap.size + 1 + 1 + 1 + 1 + 1 + 1 + 1, 1, none⟩) (by dsimp only; omega) (.int .u32 (lo b2 : Nat))).setNew (p := ⟨w.heap.size + 1 + 1 + 1 + 1 + 1 + 1 + 1 + 1, 0, none⟩) (by dsimp only; omega) (.int .u32 (hi c2 : Nat))).setNew (p := ⟨w.heap.size + 1 + 1 + 1 + 1 + 1 + 1 + 1 + 1, 1, none⟩) (by dsimp only; omega) (.int .u32 (lo c2 : Nat))).setNew (p := ⟨w.heap.size + 1 + 1 + 1 + 1 + 1 + 1 + 1 + 1 + 1, 0, none⟩) (by dsimp only; omega) (.int .u32 (hi d2 : Nat))).setNew (p := ⟨w.heap.size + 1 + 1 + 1 + 1 + 1 + 1 + 1 + 1 + 1, 1, none⟩) (by dsimp only; omega) (.int .u32 (lo d2 : Nat))).drew
  rw [← hwE]
  refine bodyPost_ret (v := .tuple #[wh a2, wh b2, wh c2, wh d2]) (by simp [results, Ybaf.results11, go_sem, m00, m01, m10, m11, m20, m21, m30, m31]) rfl ⟨rfl, v8, RE.cast ?_, FE⟩
  simp only [RSt.emit_emit, List.append_assoc, Nat.reduceAdd]

end Go.Proofs.YbulkchdaFmt
