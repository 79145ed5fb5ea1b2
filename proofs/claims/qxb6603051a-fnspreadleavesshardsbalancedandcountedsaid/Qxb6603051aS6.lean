/-
  Seat b6603051a: (*Loads).Spread (25).
-/
import Derived.Test.Qxb6603051aS5
import Derived.Deep.LoopGhost
namespace Go.Proofs.Qxb6603051a
open Go.RowKit
set_option linter.unusedVariables false
set_option linter.unusedSimpArgs false

theorem grown_trans {w a b : World} {row : Option Nat} (h : w.grownBy a row) (k : a.grownBy b row) : w.grownBy b row :=
  ⟨k.os.trans h.os, k.tape.trans h.tape, k.output.trans h.output, Nat.le_trans h.size k.size, fun i hi hne => (k.block i (Nat.lt_of_lt_of_le hi h.size) hne).trans (h.block i hi hne)⟩

theorem grown_setNew {w a : World} {row : Option Nat} (h : w.grownBy a row) {p : Addr} (hp : w.heap.size ≤ p.block) (v : Value) : w.grownBy (a.setCell p v) row :=
  ⟨h.os, h.tape, h.output, by rw [size_setCell]; exact h.size, fun i hi hne => by rw [Below.heap_setCell _ _ _ _ (by omega)]; exact h.block i hi hne⟩

theorem grown_alloc {w a : World} {row : Option Nat} (h : w.grownBy a row) (o : Obj) : w.grownBy (a.alloc o) row := grown_trans h (World.grownBy_alloc a o row)

theorem grown_drewN {w a : World} {row : Option Nat} (h : w.grownBy a row) (n : Nat) : w.grownBy (a.drewN n) row := ⟨h.os, h.tape, h.output, h.size, h.block⟩

theorem toList_inj {a b : ByteArray} (h : a.toList = b.toList) : a = b := by
  rw [ByteArray.toList_eq, ByteArray.toList_eq] at h
  obtain ⟨x⟩ := a
  obtain ⟨y⟩ := b
  exact congrArg ByteArray.mk (Array.toList_inj.1 h)

theorem ne_isEmpty {x : ByteArray} (h : x ≠ ByteArray.empty) : x.toList.isEmpty = false := by
  cases hh : x.toList with
  | nil => exact absurd (toList_inj (b := ByteArray.empty) (by rw [hh, ByteArray.toList_eq]; rfl)) h
  | cons _ _ => rfl

/-- The replicas' slices: owned rows of strings. -/
def RR (w : World) (us : List Value) (RS : List (List ByteArray)) : Prop :=
  us.length = RS.length ∧ ∀ i : Nat, ∀ u, us[i]? = some u → ∃ rs, RS[i]? = some rs ∧ w.ownsRow 0 9 1 u rs.length (rs.map Value.string) ∧ rs.length ≤ 1048576

theorem RR.grown {w wr : World} {us : List Value} {RS : List (List ByteArray)} {row : Option Nat} (h : RR w us RS) (hg : w.grownBy wr row) (hrow : ∀ b, row = some b → ∃ cs f, w.heap[b]? = some (.cells cs 3 f)) : RR wr us RS := by
  refine ⟨h.1, fun i u hu => ?_⟩
  obtain ⟨rs, h1, h2, h3⟩ := h.2 i u hu
  refine ⟨rs, h1, h2.kept hg ?_, h3⟩
  cases hr : row with
  | none => cases hu : u.ownBlock <;> simp
  | some b =>
    obtain ⟨cs, f, hb⟩ := hrow b hr
    exact .inr (fun e => own_ne h2 hb (by decide) e.symm)

theorem RR.at {w : World} {us : List Value} {RS : List (List ByteArray)} (h : RR w us RS) {k : Nat} (hk : k < us.length) : ∃ a c, us[k] = .slice a (RS.getD k []).length c ∧ Strs w (.slice a (RS.getD k []).length c) (RS.getD k []) ∧ (RS.getD k []).length ≤ 1048576 := by
  obtain ⟨rs, h1, h2, h3⟩ := h.2 k us[k] (List.getElem?_eq_getElem hk)
  have e : RS.getD k [] = rs := by simp [List.getD_eq_getElem?_getD, h1]
  rw [e]
  obtain ⟨a, c, hv, _⟩ := own_shape h2
  rw [hv] at h2
  exact ⟨a, c, hv, own_slc9 h2, h3⟩

/-- The row of the leads in w: a block of integers. -/
theorem LI.row {w : World} {s : Ld} {live : List ByteArray} {leads : List Int} {closed : List Bool} (h : LI w s live leads closed) : ∀ b, (Value.slice s.aD s.n s.cD).ownBlock = some b → ∃ cs f, w.heap[b]? = some (.cells cs 3 f) := by
  intro b hb
  rcases h.2.1.2 with ⟨hv, _⟩ | ⟨g, cap, cur, hv, _, hg, _⟩
  · rw [hv] at hb; simp [Value.ownBlock] at hb
  · rw [hv] at hb
    simp [Value.ownBlock] at hb
    subst hb
    exact ⟨cur, _, hg⟩

theorem zip_get {Ls : List ByteArray} {us : List Value} {k : Nat} (h1 : k < Ls.length) (h2 : k < us.length) : (Ls.zip us)[k]? = some (Ls[k], us[k]) := by
  rw [List.getElem?_eq_getElem (by rw [List.length_zip]; omega)]; simp

/-- The cells of the k-th placement. -/
theorem place_cells {w : World} {g : Nat} {ps : List (ByteArray × Value)} {k : Nat} {l : ByteArray} {u : Value} (h : w.heap[g]? = some (.cells (flatP ps).toArray 35 (0, 0))) (hk : ps[k]? = some (l, u)) :
    w.cell? ⟨g, k * 2, none⟩ = some (.string l) ∧ w.cell? ⟨g, k * 2 + 1, none⟩ = some u := by
  rw [cell_of_block h, cell_of_block h, Nat.mul_comm, flatP_get0, flatP_get1, hk]
  exact ⟨rfl, rfl⟩

theorem place_set {w : World} {g : Nat} {ps : List (ByteArray × Value)} {k : Nat} {l : ByteArray} {u : Value} (h : w.heap[g]? = some (.cells (flatP ps).toArray 35 (0, 0))) :
    ((w.setCell ⟨g, k * 2, none⟩ (.string l)).setCell ⟨g, k * 2 + 1, none⟩ u).heap[g]? = some (.cells (flatP (ps.set k (l, u))).toArray 35 (0, 0)) := by
  have hs1 := block_setCell (k := k * 2 + 1) (block_setCell (k := k * 2) h (.string l)) u
  rw [Nat.mul_comm, flatP_set, Nat.mul_comm] at hs1
  exact hs1

theorem flatP_set0 (a b : ByteArray) (u : Value) : ∀ {ps : List (ByteArray × Value)} {k : Nat}, ps[k]? = some (b, u) → (flatP ps).set (2 * k) (.string a) = flatP (ps.set k (a, u))
  | [], k, h => by simp at h
  | p :: ps, 0, h => by simp at h; subst h; simp [flatP]
  | p :: ps, k + 1, h => by
    have := flatP_set0 a b u (ps := ps) (k := k) (by simpa using h)
    show (Value.string p.1 :: p.2 :: flatP ps).set (2 * (k + 1)) _ = Value.string p.1 :: p.2 :: flatP (ps.set k (a, u))
    rw [show 2 * (k + 1) = 2 * k + 1 + 1 by omega, ← this]
    simp

theorem zip_set {x : ByteArray} : ∀ {L : List ByteArray} {us : List Value} {j : Nat} {hu : j < us.length}, (L.zip us).set j (x, us[j]) = (L.set j x).zip us
  | [], us, j, _ => by simp
  | l :: L, [], j, h => by simp at h
  | l :: L, u :: us, 0, _ => by simp
  | l :: L, u :: us, j + 1, h => by
    have := zip_set (x := x) (L := L) (us := us) (j := j) (hu := by simpa using h)
    simpa using this

/-- One more cell pair filled in a row of placements. -/
theorem fill_pair {L : List ByteArray} {us : List Value} {n k : Nat} {Z : ByteArray × Value} {x : ByteArray} (hL : L.length = k) (hu : us.length = n) (hk : k < n) :
    (L.zip (us.take k) ++ List.replicate (n - k) Z).set k (x, us[k]) = (L ++ [x]).zip (us.take (k + 1)) ++ List.replicate (n - (k + 1)) Z := by
  have hz : (L.zip (us.take k)).length = k := by rw [List.length_zip, List.length_take]; omega
  rw [List.set_append_right _ _ (by omega), hz, Nat.sub_self, show n - k = (n - (k + 1)) + 1 by omega, List.replicate_succ, List.take_succ_eq_append_getElem (by omega : k < us.length), List.zip_append (by rw [List.length_take]; omega)]
  simp

set_option maxRecDepth 100000 in
set_option maxHeartbeats 2000000 in
theorem spread_any (w : World) (s : Ld) (live : List ByteArray) (D0 : List Int) (closed : List Bool) (gP N cP : Nat) (L0 : List ByteArray) (us : List Value) (RS : List (List ByteArray)) (lo hi : Int)
    (h : LI w s live D0 closed) (hP : w.heap[gP]? = some (.cells (flatP (L0.zip us)).toArray 35 (0, 0))) (hL : L0.length = N) (hu : us.length = N) (hRR : RR w us RS) (hN : N ≤ 4096)
    (hnd : live.Nodup) (hne : ByteArray.empty ∉ live) (hb : ∀ x ∈ D0, lo ≤ x ∧ x ≤ hi) (hlohi : -1073741824 ≤ lo ∧ hi + (N : Int) ≤ 1073758208) :
    Calls Try.prog 25 #[.pointer (some ⟨s.gl, 0, none⟩), .slice (some ⟨gP, 0, none⟩) N cP] w fun e w' => ∃ D L, e = .returned (.slice (some ⟨w.heap.size, 0, none⟩) N N) ∧ LI w' s live D closed ∧
      w'.heap[w.heap.size]? = some (.cells (flatP (L.zip us)).toArray 35 (0, 0)) ∧ w.grownBy w' (Value.slice s.aD s.n s.cD).ownBlock ∧ Inv2 live closed RS D0 L0 lo (hi + N) D L ∧
      ∀ k, k < L.length → targetF live closed D (L.getD k ByteArray.empty) (RS.getD k []) = none := by
  have hmk := fun w => make_places w N (by omega)
  obtain ⟨Z, hZ⟩ : ∃ Z : ByteArray × Value, Z = (ByteArray.empty, .slice none 0 0) := ⟨_, rfl⟩
  rw [← hZ] at hmk
  have HZ : Hid _ := hZ
  obtain ⟨row, hrow⟩ : ∃ row, row = (Value.slice s.aD s.n s.cD).ownBlock := ⟨_, rfl⟩
  have hr3 := h.row
  have hrlt := h.lt.2.2.2.2
  rw [← hrow] at hr3 hrlt
  have hPne : some gP ≠ row := by
    intro e
    obtain ⟨cs, f, hc⟩ := hr3 gP e.symm
    rw [hP] at hc
    simp at hc
  have hPlt := lt_of_block hP
  have hLI : Hid (LI w s live D0 closed ∧ w.heap[gP]? = some (.cells (flatP (L0.zip us)).toArray 35 (0, 0)) ∧ L0.length = N ∧ us.length = N ∧ RR w us RS ∧ row = (Value.slice s.aD s.n s.cD).ownBlock ∧ D0.length = live.length) :=
    ⟨h, hP, hL, hu, hRR, hrow, by rw [h.lenD, h.lenL]⟩
  have hCL : Hid (closed.length = live.length) := by show closed.length = live.length; rw [h.lenC, h.lenL]
  rw [← hrow]
  have HFIX : Hid (live.Nodup ∧ ByteArray.empty ∉ live ∧ (∀ x ∈ D0, lo ≤ x ∧ x ≤ hi) ∧ (∀ b, row = some b → ∃ cs f, w.heap[b]? = some (.cells cs 3 f)) ∧ (∀ b, row = some b → b < w.heap.size) ∧ some gP ≠ row) := ⟨hnd, hne, hb, hr3, hrlt, hPne⟩
  clear hZ h hP hL hu hRR hrow hnd hne hb hr3 hrlt hPne
  go_enter Try.func25, Try.ntmps25
  go_wp2_with fail
  go_loopw [17] (fun i wr => ∃ k : Nat, k ≤ N ∧ i = .int .i64 k ∧ ∃ D L, Inv1 live closed RS D0 L0 lo hi k D L ∧ LI wr s live D closed ∧ w.grownBy wr row ∧ w.heap.size + 1 ≤ wr.heap.size ∧
      wr.heap[w.heap.size]? = some (.cells (flatP (L.zip (us.take k) ++ List.replicate (N - k) Z)).toArray 35 (0,0)))  (fun i _ => N - (intOf i).toNat)
  case atStart =>
    obtain ⟨q1, q2, q3, q4, q5, q6, q7⟩ := hLI.out
    obtain ⟨r1, r2, r3, r4, r5, r6⟩ := HFIX.out
    exact ⟨0, Nat.zero_le _, rfl, D0, [], inv1_start q7 r3, q1.alloc _, World.grownBy_alloc _ _ _, by simp, by rw [heap_alloc_new]; simp⟩
  case round =>
    obtain ⟨k, hk, rfl, D, L, hinv, hli, hgr, hsz, hblk⟩ := hrel
    by_cases hlt : k < N
    · obtain ⟨q1, q2, q3, q4, q5, q6, q7⟩ := hLI.out
      obtain ⟨r1, r2, r3, r4, r5, r6⟩ := HFIX.out
      have hkL : k < L0.length := by omega
      have hku : k < us.length := by omega
      have hPr : wr.heap[gP]? = some (.cells (flatP (L0.zip us)).toArray 35 (0, 0)) := by rw [hgr.block gP hPlt r6]; exact q2
      obtain ⟨p0, p1⟩ := place_cells hPr (zip_get hkL hku)
      obtain ⟨aR, cR, hus, hStr, hsm⟩ := (RR.grown q5 hgr r4).at hku
      rw [hus] at p1
      have hbnd : ∀ x ∈ D, -2147483648 ≤ x ∧ x ≤ 2147483648 := by
        intro x hx
        have := hinv.2.2.2.2.1 x hx
        omega
      have HI : Hid (Inv1 live closed RS D0 L0 lo hi k D L ∧ LI wr s live D closed ∧ w.grownBy wr row ∧ _ ∧ _) := ⟨hinv, hli, hgr, hblk, And.intro hStr hbnd⟩
      clear hinv hli hgr hblk hStr hbnd q1 q2 q3 q4 q5 q6 q7 r1 r2 r3 r4 r5 r6 hPr
      have i1 : (k : Int) < (N : Int) := by omega
      have HU : Hid (us[k] = _) := hus
      clear hus
      go_wp2_with fail
      refine (lead_any _ s live D closed _ aR _ cR (RS.getD k []) (LI.alloc HI.out.2.1 _) (Strs.below HI.out.2.2.2.2.1 ((Below.refl _ _).alloc (Nat.le_refl _) _)) hsm HI.out.2.2.2.2.2).mono ?_
      rintro e w2 ⟨rfl, l2, g2⟩
      obtain ⟨hinv, hli, hgr, hblk, -⟩ := HI.out
      obtain ⟨q1, q2, q3, q4, q5, q6, q7⟩ := hLI.out
      obtain ⟨r1, r2, r3, r4, r5, r6⟩ := HFIX.out
      rw [← q6] at g2
      have hLkk : L0[k] = L0.getD k ByteArray.empty := by simp [hkL]
      have hsne : some w.heap.size ≠ row := fun e => by have := r5 _ e.symm; omega
      have hblk2 : w2.heap[w.heap.size]? = some (.cells (flatP (L.zip (us.take k) ++ List.replicate (N - k) Z)).toArray 35 (0,0)) := by
        rw [g2.block _ (by simp; omega) hsne, Below.heap_alloc _ _ _ (by omega)]; exact hblk
      have hg2 : w.grownBy w2 row := grown_trans (grown_alloc hgr _) g2
      have hsz2 : w.heap.size + 1 ≤ w2.heap.size := by have := g2.size; simp at this; omega
      have hinv2 := inv1_lead hinv r1 r2 hkL
      rw [hLkk] at l2 ⊢
      generalize leadF live closed D (L0.getD k ByteArray.empty) (RS.getD k []) = X at *
      obtain ⟨D2, x⟩ := X
      simp only at l2 hinv2 ⊢
      have hZk : (L.zip (us.take k) ++ List.replicate (N - k) Z)[k]? = some (ByteArray.empty, .slice none 0 0) := by
        have hz : (L.zip (us.take k)).length = k := by rw [List.length_zip, List.length_take, hinv.2.1]; omega
        rw [List.getElem?_append_right (by omega), hz, Nat.sub_self, show N - k = (N - (k + 1)) + 1 by omega, List.replicate_succ]
        exact congrArg some HZ.out
      obtain ⟨y0, y1⟩ := place_cells hblk2 hZk
      have fy0 : w2.frozen? ⟨w.heap.size, k * 2, none⟩ = false := free_of_block hblk2
      have fy1 : w2.frozen? ⟨w.heap.size, k * 2 + 1, none⟩ = false := free_of_block hblk2
      have hset := place_set (k := k) (l := x) (u := us[k]) hblk2
      rw [fill_pair hinv.2.1 q4 hlt, HU.out] at hset
      have hgf := grown_setNew (grown_setNew hg2 (p := ⟨w.heap.size, k * 2, none⟩) (Nat.le_refl _) (.string x)) (p := ⟨w.heap.size, k * 2 + 1, none⟩) (Nat.le_refl _) (.slice aR (RS.getD k []).length cR)
      have hlt2 := q1.lt
      have L2 : LI ((w2.setCell ⟨w.heap.size, k * 2, none⟩ (.string x)).setCell ⟨w.heap.size, k * 2 + 1, none⟩ (.slice aR (RS.getD k []).length cR)) s live D2 closed :=
        LI.blocks l2 hlt2 (fun k' hk' => by rw [Below.heap_setCell _ _ _ _ (by simp; omega), Below.heap_setCell _ _ _ _ (by simp; omega)])
      have HR : Hid (_ ∧ _ ∧ _ ∧ _) := ⟨hinv2, L2, hgf, hset⟩
      clear hinv hli hgr hblk q1 q2 q3 q4 q5 q6 q7 r1 r2 r3 r4 r5 r6 hinv2 L2 hgf hset hblk2 hg2 hsne l2 g2 hZk hlt2 HI hLkk p0 p1 HU
      go_wp2
      go_roundw
      case rel => exact ⟨k + 1, by omega, by go_num, D2, _, HR.out.1, HR.out.2.1, HR.out.2.2.1, by rw [size_setCell, size_setCell]; exact hsz2, HR.out.2.2.2⟩
      case measure => simp [intOf]; omega
    · obtain rfl : k = N := by omega
      obtain ⟨q1, q2, q3, q4, q5, q6, q7⟩ := hLI.out
      rw [← q3] at hinv
      have hinv2 := inv2_of_inv1 hinv
      rw [q3] at hinv2 hinv
      rw [List.take_of_length_le (by omega), Nat.sub_self, List.replicate_zero, List.append_nil] at hblk
      have HI : Hid (Inv2 live closed RS D0 L0 lo (hi + k) D L ∧ LI wr s live D closed ∧ w.grownBy wr row ∧ w.heap.size + 1 ≤ wr.heap.size ∧ wr.heap[w.heap.size]? = some (.cells (flatP (L.zip us)).toArray 35 (0, 0))) := ⟨hinv2, hli, hgr, hsz, hblk⟩
      clear hinv hinv2 hli hgr hblk q1 q2 q3 q4 q5 q6 q7 hk hlt
      go_wp2_with fail
      go_loopg [8] (Phi live closed D L + 1) (fun gk mv wx => ∃ D L, ∃ b : Bool, mv = .bool b ∧ Inv2 live closed RS D0 L0 lo (hi + k) D L ∧ LI wx s live D closed ∧ w.grownBy wx row ∧ w.heap.size + 1 ≤ wx.heap.size ∧ wx.heap[w.heap.size]? = some (.cells (flatP (L.zip us)).toArray 35 (0, 0)) ∧
        (b = false → ∀ j, j < L.length → targetF live closed D (L.getD j ByteArray.empty) (RS.getD j []) = none) ∧ gk = (if b then Phi live closed D L + 1 else 0))
      case atStart => exact ⟨D, L, true, rfl, HI.out.1, HI.out.2.1, HI.out.2.2.1, HI.out.2.2.2.1, HI.out.2.2.2.2, (fun h => by cases h), rfl⟩
      case round =>
        clear HI hsz
        obtain ⟨D, L, b, rfl, hinv, hli, hgr, hsz, hblk, hst, rfl⟩ := hrel
        cases b with
        | false =>
          have HI : Hid (_ ∧ _ ∧ _ ∧ _ ∧ _) := ⟨hli, hblk, hgr, hinv, hst rfl⟩
          clear hinv hli hgr hblk hst
          go_wp2
          go_ret
          exact ⟨D, L, rfl, HI.out.1, HI.out.2.1, HI.out.2.2.1, HI.out.2.2.2.1, HI.out.2.2.2.2⟩
        | true =>
          have HI : Hid (Inv2 live closed RS D0 L0 lo (hi + k) D L ∧ LI wr s live D closed ∧ w.grownBy wr row ∧ wr.heap[w.heap.size]? = some (.cells (flatP (L.zip us)).toArray 35 (0, 0))) := ⟨hinv, hli, hgr, hblk⟩
          clear hinv hli hgr hblk hst
          go_wp2_with fail
          go_loopw [8, 32] (fun mv i wx => ∃ j : Nat, j ≤ k ∧ i = .int .i64 j ∧ ∃ D' L', ∃ b' : Bool, mv = .bool b' ∧ Inv2 live closed RS D0 L0 lo (hi + k) D' L' ∧ LI wx s live D' closed ∧ w.grownBy wx row ∧ w.heap.size + 1 ≤ wx.heap.size ∧ wx.heap[w.heap.size]? = some (.cells (flatP (L'.zip us)).toArray 35 (0, 0)) ∧
            ((b' = false ∧ D' = D ∧ L' = L ∧ ∀ j', j' < j → targetF live closed D (L.getD j' ByteArray.empty) (RS.getD j' []) = none) ∨ (b' = true ∧ Phi live closed D' L' < Phi live closed D L))) (fun _ i _ => k - (intOf i).toNat)
          case atStart => exact ⟨0, Nat.zero_le _, rfl, D, L, false, rfl, HI.out.1, HI.out.2.1, HI.out.2.2.1, hsz, HI.out.2.2.2, .inl ⟨rfl, rfl, rfl, fun j' hj' => by omega⟩⟩
          case round =>
            have hLk : L.length = k := by rw [HI.out.1.2.1]; exact hLI.out.2.2.1
            have HLk : Hid _ := hLk
            clear HI hsz hLk
            obtain ⟨j, hj, rfl, D', L', b', rfl, hinv, hli, hgr, hsz, hblk, hor⟩ := hrel
            by_cases hlt : j < k
            · obtain ⟨q1, q2, q3, q4, q5, q6, q7⟩ := hLI.out
              obtain ⟨r1, r2, r3, r4, r5, r6⟩ := HFIX.out
              have hjL : j < L'.length := by rw [hinv.2.1, q3]; exact hlt
              have hju : j < us.length := by omega
              obtain ⟨p0, p1⟩ := place_cells hblk (zip_get hjL hju)
              obtain ⟨aR, cR, hus, hStr, hsm⟩ := (RR.grown q5 hgr r4).at hju
              rw [hus] at p1
              have hcle := cShut_le live closed L'
              have hL'k : L'.length = k := by rw [hinv.2.1, q3]
              have hbnd : ∀ x ∈ D', -2147483648 ≤ x ∧ x ≤ 2147483648 := by
                intro x hx
                have := hinv.2.2.2.2.1 x hx
                omega
              have hLjj : L'[j] = L'.getD j ByteArray.empty := by simp [hjL]
              rw [hLjj] at p0
              have i1 : (j : Int) < (k : Int) := by omega
              cases ht : targetF live closed D' (L'.getD j ByteArray.empty) (RS.getD j []) with
              | none =>
                have HC := fun o => hand_stay (wr.alloc o) s live D' closed (L'.getD j ByteArray.empty) aR _ cR (RS.getD j []) (hli.alloc _) (Strs.below hStr ((Below.refl _ _).alloc (Nat.le_refl _) _)) hsm hbnd ht
                have hor' : (b' = false ∧ D' = D ∧ L' = L ∧ ∀ j', j' < j + 1 → targetF live closed D (L.getD j' ByteArray.empty) (RS.getD j' []) = none) ∨ (b' = true ∧ Phi live closed D' L' < Phi live closed D L) := by
                  rcases hor with ⟨h1, h2, h3, h4⟩ | h1
                  · left
                    refine ⟨h1, h2, h3, fun j' hj' => ?_⟩
                    by_cases e : j' = j
                    · subst e; rw [← h2, ← h3]; exact ht
                    · exact h4 j' (by omega)
                  · exact .inr h1
                have HI : Hid (_ ∧ _ ∧ w.grownBy wr row ∧ _ ∧ _) := ⟨hinv, hli, hgr, hblk, hor'⟩
                clear hinv hli hgr hblk hor hor' q1 q2 q3 q4 q5 q6 q7 r1 r2 r3 r4 r5 r6 hus hStr hbnd hLjj ht hcle hL'k
                generalize L'.getD j ByteArray.empty = lj at *
                go_wp2_with fail
                refine (HC _).mono ?_
                rintro e w2 ⟨rfl, hbw⟩
                have B2 : Below wr.heap.size wr w2 := ((Below.refl _ _).alloc (Nat.le_refl _) _).trans (hbw.mono (by simp))
                have HB2 : Hid (Below wr.heap.size wr w2) := B2
                clear HC hbw B2
                go_wp2
                go_roundw
                case rel =>
                  obtain ⟨h1, h2, h3, h4, h5⟩ := HI.out
                  exact ⟨j + 1, by omega, by go_num, D', L', b', rfl, h1, LI.below h2 HB2.out, grown_trans h3 (grown_of_below HB2.out _), Nat.le_trans hsz HB2.out.size, by rw [HB2.out.block _ (by omega)]; exact h4, h5⟩
                case measure => simp [intOf]; omega
              | some ft =>
                obtain ⟨f, t⟩ := ft
                have HC := fun o => hand_move (wr.alloc o) s live D' closed (L'.getD j ByteArray.empty) aR _ cR (RS.getD j []) f t (hli.alloc _) (Strs.below hStr ((Below.refl _ _).alloc (Nat.le_refl _) _)) hsm hbnd ht
                have hmv := inv2_move hinv r1 hCL.out hjL hlohi (by omega) ht
                have hxne : live.getD t ByteArray.empty ≠ ByteArray.empty := by
                  obtain ⟨_, htop, _⟩ := targetF_some ht
                  obtain ⟨id, _, hid, _⟩ := pick_some htop
                  have := idx_get hid
                  intro e
                  rw [List.getD_eq_getElem?_getD, this] at e
                  simp only [Option.getD_some] at e
                  exact r2 (e ▸ List.mem_of_getElem? this)
                have hrow := q6
                rw [← hrow] at HC
                have hor' : Phi live closed (moveF D' f t) (L'.set j (live.getD t ByteArray.empty)) < Phi live closed D L := by
                  rcases hor with ⟨_, h2, h3, _⟩ | ⟨_, h1⟩
                  · rw [← h2, ← h3]; exact hmv.2
                  · exact Nat.lt_trans hmv.2 h1
                have HI : Hid (_ ∧ _ ∧ w.grownBy wr row ∧ wr.heap[w.heap.size]? = some (.cells (flatP (L'.zip us)).toArray 35 (0, 0)) ∧ s.lt w.heap.size) := ⟨hmv.1, hor', hgr, hblk, q1.lt⟩
                have hsne : some w.heap.size ≠ row := fun e => by have := r5 _ e.symm; omega
                have HU : Hid _ := hus
                clear hinv hli hgr hblk hor hor' q1 q2 q3 q4 q5 q6 q7 r1 r2 r3 r4 r5 r6 hus hStr hbnd hLjj ht hcle hL'k hmv hrow
                generalize L'.getD j ByteArray.empty = lj at *
                generalize live.getD t ByteArray.empty = x at *
                go_wp2_with fail
                refine (HC _).mono ?_
                rintro e w2 ⟨rfl, l2, g2⟩
                obtain ⟨h1, h2, h3, h4, h5⟩ := HI.out
                have hblk2 : w2.heap[w.heap.size]? = some (.cells (flatP (L'.zip us)).toArray 35 (0, 0)) := by
                  rw [g2.block _ (by simp; omega) hsne, Below.heap_alloc _ _ _ (by omega)]; exact h4
                obtain ⟨c2, -⟩ := place_cells hblk2 (zip_get hjL hju)
                have fy0 : w2.frozen? ⟨w.heap.size, j * 2, none⟩ = false := free_of_block hblk2
                have hg2 : w.grownBy w2 row := grown_trans (grown_alloc h3 _) g2
                have hgf := grown_setNew hg2 (p := ⟨w.heap.size, j * 2, none⟩) (Nat.le_refl _) (.string x)
                have L2 : LI (w2.setCell ⟨w.heap.size, j * 2, none⟩ (.string x)) s live (moveF D' f t) closed :=
                  LI.blocks l2 h5 (fun k' hk' => by rw [Below.heap_setCell _ _ _ _ (by simp; omega)])
                have hsz2 : w.heap.size + 1 ≤ w2.heap.size := by have := g2.size; simp at this; omega
                have hset : (w2.setCell ⟨w.heap.size, j * 2, none⟩ (.string x)).heap[w.heap.size]? = some (.cells (flatP ((L'.set j x).zip us)).toArray 35 (0, 0)) := by
                  rw [block_setCell hblk2, Nat.mul_comm, flatP_set0 _ _ _ (zip_get hjL hju), zip_set]
                have HG2 : Hid (_ ∧ _ ∧ _) := ⟨hgf, L2, hset⟩
                have hxe := ne_isEmpty hxne
                clear HC l2 g2 h1 h2 h3 h4 h5 hblk2 hg2 hgf L2 hset hxne
                go_wp2
                go_roundw
                case rel => exact ⟨j + 1, by omega, by go_num, moveF D' f t, L'.set j x, true, rfl, HI.out.1, HG2.out.2.1, HG2.out.1, by rw [size_setCell]; exact hsz2, HG2.out.2.2, .inr ⟨rfl, HI.out.2.1⟩⟩
                case measure => simp [intOf]; omega
            · obtain rfl : j = k := by omega
              have HI : Hid (_ ∧ _ ∧ w.grownBy wr row ∧ _ ∧ _) := ⟨hinv, hli, hgr, hblk, hor⟩
              clear hinv hli hgr hblk hor hlt hj
              go_wp2
              obtain ⟨h1, h2, h3, h4, h5⟩ := HI.out
              rcases h5 with ⟨rfl, rfl, rfl, h6⟩ | ⟨rfl, h6⟩
              · go_roundg 0
                case measure => simp
                case rel => exact ⟨D', L', false, rfl, h1, h2, h3, hsz, h4, (fun _ j' hj' => h6 j' (by rw [HLk.out] at hj'; exact hj')), rfl⟩
              · go_roundg (Phi live closed D' L' + 1)
                case measure => simp; omega
                case rel => exact ⟨D', L', true, rfl, h1, h2, h3, hsz, h4, (fun h => by cases h), rfl⟩

end Go.Proofs.Qxb6603051a
