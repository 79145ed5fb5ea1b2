/-
  Seat b6603051a: the plain model of Loads: places of ids, the election's order, the choice of a leader and of a target. No program.
-/
import Derived.Test.Qxb6603051aM1
namespace Go.Proofs.Qxb6603051a
open Go.RowKit

/-- The place of k in live. -/
def idx : List ByteArray → ByteArray → Option Nat
  | [], _ => none
  | x :: l, k => if k = x then some 0 else (idx l k).map (· + 1)

theorem idx_get : ∀ {l : List ByteArray} {k : ByteArray} {i : Nat}, idx l k = some i → l[i]? = some k
  | [], k, i, h => by simp [idx] at h
  | x :: l, k, i, h => by
    simp only [idx] at h
    split at h
    · rename_i e; cases h; simp [e]
    · obtain ⟨j, h1, h2⟩ := Option.map_eq_some_iff.1 h
      subst h2
      simpa using idx_get h1

theorem idx_lt {l : List ByteArray} {k : ByteArray} {i : Nat} (h : idx l k = some i) : i < l.length := (List.getElem?_eq_some_iff.1 (idx_get h)).1

theorem idx_none : ∀ {l : List ByteArray} {k : ByteArray}, idx l k = none ↔ k ∉ l
  | [], k => by simp [idx]
  | x :: l, k => by
    have := idx_none (l := l) (k := k)
    simp only [idx]
    split
    · rename_i e; simp [e]
    · rename_i e; simp [e, this]

theorem idx_nodup : ∀ {l : List ByteArray} {i : Nat} {k : ByteArray}, l.Nodup → l[i]? = some k → idx l k = some i
  | [], i, k, _, h => by simp at h
  | x :: l, 0, k, _, h => by simp at h; simp [idx, h]
  | x :: l, i + 1, k, hn, h => by
    simp only [List.getElem?_cons_succ] at h
    rw [List.nodup_cons] at hn
    have hne : k ≠ x := by
      rintro rfl
      exact hn.1 (List.mem_of_getElem? h)
    simp [idx, hne, idx_nodup hn.2 h]

/-- electedBefore. -/
def el (leads : List Int) (closed : List Bool) (a b : Nat) : Bool :=
  if closed.getD a false != closed.getD b false then !(closed.getD a false)
  else if leads.getD a 0 != leads.getD b 0 then decide (leads.getD a 0 < leads.getD b 0) else decide (a < b)

/-- One step of the choice over the replicas. -/
def pickStep (live : List ByteArray) (leads : List Int) (closed : List Bool) (ok : Nat → Bool) (best : Option Nat) (id : ByteArray) : Option Nat :=
  match idx live id with
  | none => best
  | some i => if ok i then (match best with | none => some i | some b => if el leads closed i b then some i else some b) else best

section
variable {live : List ByteArray} {leads : List Int} {closed : List Bool} {ok : Nat → Bool} {b : Option Nat} {id : ByteArray} {i : Nat}
theorem pickStep_none (hi : idx live id = none) : pickStep live leads closed ok b id = b := by unfold pickStep; rw [hi]
theorem pickStep_shut (hi : idx live id = some i) (h : ok i = false) : pickStep live leads closed ok b id = b := by unfold pickStep; rw [hi]; simp [h]
theorem pickStep_first (hi : idx live id = some i) (h : ok i = true) : pickStep live leads closed ok none id = some i := by unfold pickStep; rw [hi]; simp [h]
theorem pickStep_win {c : Nat} (hi : idx live id = some i) (h : ok i = true) (he : el leads closed i c = true) : pickStep live leads closed ok (some c) id = some i := by unfold pickStep; rw [hi]; simp [h, he]
theorem pickStep_lose {c : Nat} (hi : idx live id = some i) (h : ok i = true) (he : el leads closed i c = false) : pickStep live leads closed ok (some c) id = some c := by unfold pickStep; rw [hi]; simp [h, he]
end

def pick (live : List ByteArray) (leads : List Int) (closed : List Bool) (ok : Nat → Bool) (reps : List ByteArray) : Option Nat :=
  reps.foldl (pickStep live leads closed ok) none

def best (live : List ByteArray) (leads : List Int) (closed : List Bool) (reps : List ByteArray) : Option Nat := pick live leads closed (fun _ => true) reps
def top (live : List ByteArray) (leads : List Int) (closed : List Bool) (reps : List ByteArray) : Option Nat := pick live leads closed (fun i => !(closed.getD i false)) reps

/-- A choice as Go has it: -1 for none. -/
def oi : Option Nat → Int
  | none => -1
  | some i => (i : Int)

/-- Lead: the new counts and the new leader. -/
def leadF (live : List ByteArray) (closed : List Bool) (leads : List Int) (leader : ByteArray) (reps : List ByteArray) : List Int × ByteArray :=
  match idx live leader with
  | some _ => (leads, leader)
  | none => match best live leads closed reps with
    | none => (leads, ByteArray.empty)
    | some b => (leads.set b (leads.getD b 0 + 1), live.getD b ByteArray.empty)

/-- target: from where to where. -/
def targetF (live : List ByteArray) (closed : List Bool) (leads : List Int) (leader : ByteArray) (reps : List ByteArray) : Option (Nat × Nat) :=
  match idx live leader with
  | none => none
  | some f => match top live leads closed reps with
    | none => none
    | some t => if !(closed.getD f false) && decide (leads.getD f 0 - leads.getD t 0 < 2) then none else some (f, t)

/-- The counts behind a move. -/
def moveF (leads : List Int) (f t : Nat) : List Int := (leads.set f (leads.getD f 0 - 1)).set t ((leads.set f (leads.getD f 0 - 1)).getD t 0 + 1)

theorem pick_spec {live : List ByteArray} {leads : List Int} {closed : List Bool} {ok : Nat → Bool} : ∀ (reps : List ByteArray) (b0 : Option Nat) (b : Nat),
    reps.foldl (pickStep live leads closed ok) b0 = some b → b0 = some b ∨ ∃ id ∈ reps, idx live id = some b ∧ ok b = true
  | [], b0, b, h => .inl h
  | id :: reps, b0, b, h => by
    simp only [List.foldl_cons] at h
    rcases pick_spec reps _ b h with h1 | ⟨id', h1, h2⟩
    · unfold pickStep at h1
      split at h1
      · exact .inl h1
      · rename_i i hi
        split at h1
        · rename_i hok
          split at h1
          · cases h1; exact .inr ⟨id, .head _, hi, hok⟩
          · split at h1
            · cases h1; exact .inr ⟨id, .head _, hi, hok⟩
            · exact .inl h1
        · exact .inl h1
    · exact .inr ⟨id', .tail _ h1, h2⟩

theorem pick_some {live : List ByteArray} {leads : List Int} {closed : List Bool} {ok : Nat → Bool} {reps : List ByteArray} {b : Nat} (h : pick live leads closed ok reps = some b) : ∃ id ∈ reps, idx live id = some b ∧ ok b = true := by
  rcases pick_spec reps none b h with h1 | h1
  · cases h1
  · exact h1

theorem pick_keeps {live : List ByteArray} {leads : List Int} {closed : List Bool} {ok : Nat → Bool} : ∀ (reps : List ByteArray) (b0 : Option Nat), b0.isSome = true → (reps.foldl (pickStep live leads closed ok) b0).isSome = true
  | [], b0, h => h
  | id :: reps, b0, h => by
    simp only [List.foldl_cons]
    refine pick_keeps reps _ ?_
    unfold pickStep
    split
    · exact h
    · split
      · split
        · rfl
        · split <;> rfl
      · exact h

theorem pick_none {live : List ByteArray} {leads : List Int} {closed : List Bool} {ok : Nat → Bool} : ∀ (reps : List ByteArray) (b0 : Option Nat), reps.foldl (pickStep live leads closed ok) b0 = none → ∀ id ∈ reps, ∀ i, idx live id = some i → ok i = false
  | [], _, _, id, hid, _, _ => by cases hid
  | id0 :: reps, b0, h, id, hid, i, hi => by
    simp only [List.foldl_cons] at h
    cases hid with
    | tail _ hm => exact pick_none reps _ h id hm i hi
    | head =>
      cases hok : ok i with
      | false => rfl
      | true =>
        have : (pickStep live leads closed ok b0 id0).isSome = true := by
          unfold pickStep
          simp only [hi, hok, if_true]
          split
          · rfl
          · split <;> rfl
        have := pick_keeps (leads := leads) (closed := closed) (ok := ok) (live := live) reps _ this
        rw [h] at this
        cases this

theorem el_open {leads : List Int} {closed : List Bool} {a b : Nat} (ha : closed.getD a false = false) (hb : closed.getD b false = false) :
    (el leads closed a b = true → leads.getD a 0 ≤ leads.getD b 0) ∧ (el leads closed a b = false → leads.getD b 0 ≤ leads.getD a 0) := by
  unfold el
  rw [ha, hb]
  simp only [bne_self_eq_false, Bool.false_eq_true, if_false]
  generalize leads.getD a 0 = la
  generalize leads.getD b 0 = lb
  by_cases h : la = lb
  · subst h; exact ⟨fun _ => Int.le_refl _, fun _ => Int.le_refl _⟩
  · have hne : (la != lb) = true := by simpa using h
    simp only [hne, if_true]
    exact ⟨fun q => by have := of_decide_eq_true q; omega, fun q => by have := of_decide_eq_false q; omega⟩

theorem top_step {live : List ByteArray} {leads : List Int} {closed : List Bool} : ∀ (reps : List ByteArray) (b0 : Option Nat) (b : Nat), (∀ c, b0 = some c → closed.getD c false = false) →
    reps.foldl (pickStep live leads closed (fun i => !(closed.getD i false))) b0 = some b →
    closed.getD b false = false ∧ (∀ c, b0 = some c → leads.getD b 0 ≤ leads.getD c 0) ∧ ∀ id ∈ reps, ∀ i, idx live id = some i → closed.getD i false = false → leads.getD b 0 ≤ leads.getD i 0
  | [], b0, b, h0, h => by
    simp only [List.foldl_nil] at h
    subst h
    exact ⟨h0 b rfl, fun c hc => by cases hc; exact Int.le_refl _, fun id hid => by cases hid⟩
  | id0 :: reps, b0, b, h0, h => by
    simp only [List.foldl_cons] at h
    cases hi : idx live id0 with
    | none =>
      have e : pickStep live leads closed (fun i => !(closed.getD i false)) b0 id0 = b0 := by unfold pickStep; simp only [hi]
      rw [e] at h
      obtain ⟨r1, r2, r3⟩ := top_step reps b0 b h0 h
      refine ⟨r1, r2, fun id hid i hii hc => ?_⟩
      cases hid with
      | head => rw [hi] at hii; cases hii
      | tail _ hm => exact r3 id hm i hii hc
    | some j =>
      cases hc0 : closed.getD j false with
      | true =>
        have e : pickStep live leads closed (fun i => !(closed.getD i false)) b0 id0 = b0 := by unfold pickStep; simp only [hi, hc0]; rfl
        rw [e] at h
        obtain ⟨r1, r2, r3⟩ := top_step reps b0 b h0 h
        refine ⟨r1, r2, fun id hid i hii hc => ?_⟩
        cases hid with
        | head => rw [hi] at hii; cases hii; rw [hc0] at hc; cases hc
        | tail _ hm => exact r3 id hm i hii hc
      | false =>
        cases hb0 : b0 with
        | none =>
          have e : pickStep live leads closed (fun i => !(closed.getD i false)) b0 id0 = some j := by unfold pickStep; simp only [hi, hc0, hb0]; rfl
          rw [e] at h
          obtain ⟨r1, r2, r3⟩ := top_step reps (some j) b (fun c hc => by cases hc; exact hc0) h
          refine ⟨r1, (fun c hc => by cases hc), fun id hid i hii hc => ?_⟩
          cases hid with
          | head => rw [hi] at hii; cases hii; exact r2 _ rfl
          | tail _ hm => exact r3 id hm i hii hc
        | some c0 =>
          have hc0' := h0 c0 hb0
          have E := el_open (leads := leads) hc0 hc0'
          cases hel : el leads closed j c0 with
          | true =>
            have e : pickStep live leads closed (fun i => !(closed.getD i false)) b0 id0 = some j := by unfold pickStep; simp only [hi, hc0, hb0, hel]; rfl
            rw [e] at h
            obtain ⟨r1, r2, r3⟩ := top_step reps (some j) b (fun c hc => by cases hc; exact hc0) h
            have l1 := r2 _ rfl
            have l2 := E.1 hel
            refine ⟨r1, fun c hc => by cases hc; omega, fun id hid i hii hc => ?_⟩
            cases hid with
            | head => rw [hi] at hii; cases hii; exact l1
            | tail _ hm => exact r3 id hm i hii hc
          | false =>
            have e : pickStep live leads closed (fun i => !(closed.getD i false)) b0 id0 = some c0 := by unfold pickStep; simp only [hi, hc0, hb0, hel]; rfl
            rw [e] at h
            obtain ⟨r1, r2, r3⟩ := top_step reps (some c0) b (fun c hc => by cases hc; exact hc0') h
            have l1 := r2 _ rfl
            have l2 := E.2 hel
            refine ⟨r1, fun c hc => by cases hc; exact l1, fun id hid i hii hc => ?_⟩
            cases hid with
            | head => rw [hi] at hii; cases hii; omega
            | tail _ hm => exact r3 id hm i hii hc

theorem top_some {live : List ByteArray} {leads : List Int} {closed : List Bool} {reps : List ByteArray} {b : Nat} (h : top live leads closed reps = some b) :
    closed.getD b false = false ∧ ∀ id ∈ reps, ∀ i, idx live id = some i → closed.getD i false = false → leads.getD b 0 ≤ leads.getD i 0 := by
  obtain ⟨r1, _, r3⟩ := top_step reps none b (fun c hc => by cases hc) h
  exact ⟨r1, r3⟩

theorem top_none {live : List ByteArray} {leads : List Int} {closed : List Bool} {reps : List ByteArray} (h : top live leads closed reps = none) : ∀ id ∈ reps, ∀ i, idx live id = some i → closed.getD i false = true := by
  intro id hid i hi
  have := pick_none reps none h id hid i hi
  simpa using this

theorem best_none {live : List ByteArray} {leads : List Int} {closed : List Bool} {reps : List ByteArray} (h : best live leads closed reps = none) : ∀ id ∈ reps, idx live id = none := by
  intro id hid
  cases hi : idx live id with
  | none => rfl
  | some i => have := pick_none reps none h id hid i hi; cases this

theorem best_none_of {live : List ByteArray} {leads : List Int} {closed : List Bool} {reps : List ByteArray} (h : ∀ id ∈ reps, idx live id = none) : best live leads closed reps = none := by
  cases hb : best live leads closed reps with
  | none => rfl
  | some b =>
    obtain ⟨id, h1, h2, _⟩ := pick_some hb
    rw [h id h1] at h2; cases h2

end Go.Proofs.Qxb6603051a
