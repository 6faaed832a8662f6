/- A REGION THAT DRAWS ITS ORDER, WITH ONE CALL (number c): before the call has come up the world meets 'S false', behind it 'S true'. After the kit's OrdersHeld.lean, whose small laws it uses: what the call itself waits for needs its value only in the worlds that meet 'S false'. -/
import Derived.OrdersHeld
import Derived.Deep.RegionHeld
namespace Go.Proofs.YbulkchdaFmt
open Go

section
variable {P : Program} {ops : Array Oper} {Q : Exit → Act → World → Prop} {md : Region.Mode} {S : Bool → World → Prop} {c : Nat}

/-- whatever order is picked from here on, and S holds behind every operation that is carried out -/
def wpAnyC (P : Program) (md : Region.Mode) (ops : Array Oper) (Q : Exit → Act → World → Prop) (S : Bool → World → Prop) (c : Nat) : Nat → Array Bool → Act → World → Prop
  | 0, listed, a, w => Region.ready md ops listed = [] ∧ Q .normal a w
  | fuel + 1, listed, a, w =>
    (Region.ready md ops listed = [] → Q .normal a w) ∧
    ∀ i ∈ Region.ready md ops listed, wpOp P ops Q i (fun a' w' => S ((listed.setIfInBounds i true).getD c true) w' ∧ wpAnyC P md ops Q S c fuel (listed.setIfInBounds i true) a' w') a w

theorem wpAny_of_C : ∀ (fuel : Nat) (listed : Array Bool) (a : Act) (w : World), wpAnyC P md ops Q S c fuel listed a w → wpAny P md ops Q fuel listed a w
  | 0, _, _, _, h => h
  | fuel + 1, _, _, _, h => ⟨h.1, fun i hi => wpOp_mono (fun a' w' h' => wpAny_of_C fuel _ a' w' h'.2) (h.2 i hi)⟩

/-- c waits for i: as long as i has not come up c cannot -/
def Waits (md : Region.Mode) (ops : Array Oper) (c i : Nat) : Prop := ∃ oc, ops[c]? = some oc ∧ ∃ e ∈ oc.after, Region.binds md e = true ∧ e.on = i

def waitsB (md : Region.Mode) (ops : Array Oper) (c i : Nat) : Bool := match ops[c]? with
  | some oc => oc.after.any fun e => Region.binds md e && e.on == i
  | none => false
theorem waits_of {i : Nat} (h : waitsB md ops c i = true) : Waits md ops c i := by
  unfold waitsB at h
  cases ho : ops[c]? with
  | none => rw [ho] at h; cases h
  | some oc =>
    rw [ho] at h
    simp only [Array.any_eq_true] at h
    obtain ⟨j, hj, h2⟩ := h
    simp only [Bool.and_eq_true, beq_iff_eq] at h2
    exact ⟨oc, ho, oc.after[j], Array.getElem_mem hj, h2.1, h2.2⟩

theorem Waits.ne {listed : Array Bool} {i j : Nat} (h : Waits md ops c i) (hi : listed.getD i true = false) (hj : j ∈ Region.ready md ops listed) : j ≠ c := by
  rintro rfl
  obtain ⟨oc, h1, e, h2, h3, h4⟩ := h
  obtain ⟨_, o, ho, hall⟩ := mem_ready.1 hj
  rw [h1] at ho
  cases ho
  have := hall e h2 h3
  rw [h4] at this
  rcases Nat.lt_or_ge i listed.size with h' | h'
  · simp [h'] at hi this; rw [hi] at this; cases this
  · simp [Array.getElem?_eq_none h'] at this

theorem wpAnyC_first {T : World → Prop} {i : Nat} {oi : Oper} {v : Value} (hi : ops[i]? = some oi) (hsel : ∀ (j : Nat) (o : Oper) cs b, ops[j]? = some o → o.op ≠ .select cs b)
    (hQ : ∀ c a w, Q (.panic c) (a.put oi.dst v) w → Q (.panic c) a w)
    (good : Array Bool → Prop) (hT : ∀ l w, good l → S (l.getD c true) w → T w)
    (hgood : ∀ l j, good l → i ∈ Region.ready md ops l → j ∈ Region.ready md ops l → j ≠ i → good (l.setIfInBounds j true)) (hic : i ≠ c) :
    ∀ (fuel : Nat) (listed : Array Bool) (a : Act) (w : World),
      (∀ j oj, ops[j]? = some oj → j ≠ i → listed.getD j true = false → (∀ e ∈ oj.after, Region.binds md e = true → e.on ≠ i) → oi.apart ops oj = true) →
      i ∈ Region.ready md ops listed → good listed → YieldsIf P ops T oi v a → S (listed.getD c true) w →
      wpAnyC P md ops Q S c fuel (listed.setIfInBounds i true) (a.put oi.dst v) w → wpAnyC P md ops Q S c (fuel + 1) listed a w := by
  intro fuel
  induction fuel with
  | zero =>
    intro listed a w _ hr hg hy hS H
    refine ⟨fun h => (by rw [h] at hr; cases hr), fun j hj => ?_⟩
    by_cases hji : j = i
    · subst hji; exact hy.wpOp hi (hT _ _ hg hS) ⟨by rw [getD_set_ne true hic]; exact hS, H⟩
    · have := ready_mono hj hji
      rw [H.1] at this
      cases this
  | succ fuel ih =>
    intro listed a w hfree hr hg hy hS H
    refine ⟨fun h => (by rw [h] at hr; cases hr), fun j hj => ?_⟩
    by_cases hji : j = i
    · subst hji; exact hy.wpOp hi (hT _ _ hg hS) ⟨by rw [getD_set_ne true hic]; exact hS, H⟩
    · have h1 := H.2 j (ready_mono hj hji)
      obtain ⟨hjun, oj, hoj, hall⟩ := mem_ready.1 hj
      have hnot : ∀ e ∈ oj.after, Region.binds md e = true → e.on ≠ i := fun e he hb heq => by
        have h1 := hall e he hb
        have h0 := (mem_ready.1 hr).1
        rw [heq] at h1
        rcases Nat.lt_or_ge i listed.size with h' | h'
        · simp [h'] at h0 h1; rw [h0] at h1; cases h1
        · simp [Array.getElem?_eq_none h'] at h1
      have h2 := wpOp_putIf hoj (hfree j oj hoj hji hjun hnot) (fun cs b => hsel i oi cs b hi) (fun cs b => hsel j oj cs b hoj) hQ hy h1
      have hfree' : ∀ k ok, ops[k]? = some ok → k ≠ i → (listed.setIfInBounds j true).getD k true = false →
          (∀ e ∈ ok.after, Region.binds md e = true → e.on ≠ i) → oi.apart ops ok = true := fun k ok hk hki hun hno => by
        refine hfree k ok hk hki ?_ hno
        by_cases hjk : j = k
        · subst hjk; exact hjun
        · rw [getD_set_ne true hjk] at hun; exact hun
      refine wpOp_mono (fun a' w' h3 => ?_) h2
      obtain ⟨h31, h32, h33⟩ := h3
      rw [Array.setIfInBounds_comm _ _ (Ne.symm hji), getD_set_ne true hic] at h32
      rw [Array.setIfInBounds_comm _ _ (Ne.symm hji)] at h33
      exact ⟨h32, ih (listed.setIfInBounds j true) a' w' hfree' (ready_mono hr (Ne.symm hji)) (hgood _ _ hg hr hj hji) h31 h32 h33⟩

/-- take number i first: it yields its value in every world that meets S, before the call and behind it -/
theorem wpAnyC_takeG {T : World → Prop} {i : Nat} {oi : Oper} {v : Value} {fuel : Nat} {listed : Array Bool} {a : Act} {w : World} (hT : ∀ b w, S b w → T w) (hi : ops[i]? = some oi)
    (hs : Region.noSelect ops = true) (hf : Region.free md ops listed i = true) (hr : (Region.ready md ops listed).contains i = true) (hic : (i == c) = false)
    (hQ : ∀ c a w, Q (.panic c) (a.put oi.dst v) w → Q (.panic c) a w) (hy : YieldsIf P ops T oi v a) (hS : S (listed.getD c true) w)
    (h : wpAnyC P md ops Q S c fuel (listed.setIfInBounds i true) (a.put oi.dst v) w) : wpAnyC P md ops Q S c (fuel + 1) listed a w :=
  wpAnyC_first (T := T) hi (Region.noSelect_spec hs) hQ (fun _ => True) (fun _ _ _ h => hT _ _ h) (fun _ _ _ _ _ _ => trivial) (by simpa using hic) fuel listed a w (Region.free_spec hi hf) (by simpa using hr) trivial hy hS h

/-- take number i first, for which the call waits: it yields its value in every world that meets S before the call -/
theorem wpAnyC_takeW {i : Nat} {oi : Oper} {v : Value} {fuel : Nat} {listed : Array Bool} {a : Act} {w : World} (hi : ops[i]? = some oi) (hw' : waitsB md ops c i = true)
    (hs : Region.noSelect ops = true) (hf : Region.free md ops listed i = true) (hr : (Region.ready md ops listed).contains i = true) (hic : (i == c) = false) (hc : listed.getD c true = false)
    (hQ : ∀ c a w, Q (.panic c) (a.put oi.dst v) w → Q (.panic c) a w) (hy : YieldsIf P ops (S false) oi v a) (hS : S false w)
    (h : wpAnyC P md ops Q S c fuel (listed.setIfInBounds i true) (a.put oi.dst v) w) : wpAnyC P md ops Q S c (fuel + 1) listed a w :=
  wpAnyC_first (T := S false) hi (Region.noSelect_spec hs) hQ (fun l => l.getD c true = false) (fun l w hl h => by rw [hl] at h; exact h)
    (fun l j hl hil hj _ => by rw [getD_set_ne true ((waits_of hw').ne (mem_ready.1 hil).1 hj)]; exact hl) (by simpa using hic) fuel listed a w (Region.free_spec hi hf) (by simpa using hr) hc hy (by rw [hc]; exact hS) h

/-- one alone may come up -/
theorem wpAnyC_one {i : Nat} {o : Oper} {fuel : Nat} {listed : Array Bool} {a : Act} {w : World} (hr : Region.ready md ops listed = [i]) (ho : ops[i]? = some o) (hwt : Region.wanted o (yielded ops a.tmps) = true)
    (h : ∀ K : Act → World → Prop, (∀ a' w', S ((listed.setIfInBounds i true).getD c true) w' → wpAnyC P md ops Q S c fuel (listed.setIfInBounds i true) a' w' → K a' w') → o.wp P a w K Q) : wpAnyC P md ops Q S c (fuel + 1) listed a w := by
  refine ⟨fun h0 => absurd (hr ▸ h0) (by simp), fun j hj => ?_⟩
  rw [hr] at hj
  obtain rfl : j = i := by simpa using hj
  unfold wpOp
  simp only [ho, hwt, if_true]
  exact .inl (h _ fun _ _ h1 h2 => ⟨h1, h2⟩)

theorem wpAnyC_done {listed : Array Bool} {a : Act} {w : World} (hr : Region.ready md ops listed = []) (h : Q .normal a w) :
    ∀ fuel, wpAnyC P md ops Q S c fuel listed a w
  | 0 => ⟨hr, h⟩
  | _ + 1 => ⟨fun _ => h, by rw [hr]; simp⟩

theorem wp_region_C {id : Nat} {a : Act} {w : World} (n : Nat) (hn : ops.size = n) (hm : P.follows .mixedOrders = true)
    (h : wpAnyC P .any ops Q S c n (Array.replicate n false) a w.drew) : (Code.region id ops true).wp P Q a w := by
  subst hn
  exact wp_region_any hm (wpAny_of_C _ _ _ _ h)
end
end Go.Proofs.YbulkchdaFmt
