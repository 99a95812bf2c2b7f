import Derived.Test.Qxb6604011aRev
import Derived.Test.Qxb6604011aSccAll
namespace Go.Proofs.Qxb6604011a.Scc
open Go.RowKit Go.Deep

section
variable {w w' : World} {v : Value} {n lo : Nat} {deg : Nat → Nat} {tg : Nat → Nat → Nat} {tz : Nat → Nat → Int} {grp : List (List Nat)} {av : Nat → Prop}
theorem RowsAt.graph (h : RowsAt w v n deg tz) (hr : ∀ i k, i < n → k < deg i → 0 ≤ tz i k ∧ tz i k < n) : GraphAt w v n deg (fun i k => (tz i k).toNat) := by
  obtain ⟨ao, cap, rfl, h1, h2⟩ := h
  refine ⟨ao, cap, rfl, h1, fun h0 => ?_⟩
  obtain ⟨b, off, e, h3⟩ := h2 h0
  refine ⟨b, off, e, fun i hi => ?_⟩
  obtain ⟨ro, rc, a1, a2, a3⟩ := h3 i hi
  refine ⟨ro, rc, a1, a2, fun hd => ?_⟩
  obtain ⟨rb, rf, e1, e2⟩ := a3 hd
  refine ⟨rb, rf, e1, fun k hk => ?_⟩
  rw [e2 k hk]
  have := (hr i k hi hk).1
  have e3 : (((tz i k).toNat : Nat) : Int) = tz i k := by omega
  rw [e3]
theorem GraphAt.below (h : GraphAt w v n deg tg) (hb : Below w.heap.size w w') : GraphAt w' v n deg tg := by
  obtain ⟨ao, cap, rfl, h1, h2⟩ := h
  refine ⟨ao, cap, rfl, h1, fun h0 => ?_⟩
  obtain ⟨b, off, e, h3⟩ := h2 h0
  refine ⟨b, off, e, fun i hi => ?_⟩
  obtain ⟨ro, rc, a1, a2, a3⟩ := h3 i hi
  refine ⟨ro, rc, by rw [hb.cell (World.block_lt_of_cell? w _ a1)]; exact a1, a2, fun hd => ?_⟩
  obtain ⟨rb, rf, e1, e2⟩ := a3 hd
  exact ⟨rb, rf, e1, fun k hk => by rw [hb.cell (World.block_lt_of_cell? w _ (e2 k hk))]; exact e2 k hk⟩
theorem Grps.below (h : Grps w lo v grp (fun _ => False)) (hb : Below w.heap.size w w') : Grps w' lo v grp (fun _ => False) :=
  h.block (fun k _ _ _ _ _ h2 _ _ _ => hb.block k h2) (fun _ _ _ _ h => h.elim) (fun _ h => h.elim)
theorem CompAt.below {w0 wr : World} {B m : Nat} {f : Nat → Int} (h : CompAt w0 B m f wr) (hb : Below wr.heap.size wr w') : Arr w' B 3 m m (fun i => .int .i64 (f i)) := h.2.of_block (hb.block B h.2.lt)

/-- What the call of stronglyConnected hands on, said shortly. -/
theorem SccOut.groups {B : Nat} (h : SccOut B n deg tg v w') : ∃ (c : Nat → Int) (grp : List (List Nat)), Grps w' (B + 8) v grp (fun _ => False) ∧ Groups n deg tg c grp := by
  obtain ⟨c, grp, h1, h2, h3, h4, h5, h6, h7, h8⟩ := h
  exact ⟨c, grp, h1, ⟨h2, h3, h5, h6⟩, h7, h8⟩
theorem Part.small {c : Nat → Int} (h : Part n c grp) : grp.length ≤ n ∧ ∀ j, j < grp.length → (grp.getD j []).length ≤ n := by
  refine ⟨?_, fun j hj => nodup_len n _ (h.nd j hj).1 (fun x hx => (h.lt x (by have := (h.mem j x hj).1 hx; omega)).1)⟩
  have := nodup_len n ((List.range grp.length).map (fun j => (grp.getD j []).getD 0 0)) (by
    unfold List.Nodup
    rw [List.pairwise_map]
    refine List.Pairwise.imp_of_mem (fun {a b} ha hb hab e => ?_) (List.pairwise_lt_range (n := grp.length))
    have h1 := (h.head (List.mem_range.1 ha)).1
    have h2 := (h.head (List.mem_range.1 hb)).1
    rw [e, h2] at h1
    omega) (fun x hx => by
    obtain ⟨j, hj, rfl⟩ := List.mem_map.1 hx
    exact (h.head (List.mem_range.1 hj)).2)
  simpa using this
/-- The last loop's reads: of node x. -/
theorem reads_of_group {c : Nat → Int} (hG : Grps w lo v grp (fun _ => False)) (hP : Part n c grp) {x : Nat} (hx : x < n) :
    ∃ (g cap j r L rc h : Nat), v = .slice (some ⟨g, 0, none⟩) grp.length cap ∧ c x = j ∧ j < grp.length ∧ w.cell? ⟨g, j, none⟩ = some (.slice (some ⟨r, 0, none⟩) L rc) ∧ 0 < L ∧ w.cell? ⟨r, 0, none⟩ = some (.int .i64 (h : Nat)) ∧ h < n ∧ c h = c x := by
  have h0 := hP.all x hx
  have h1 := (hP.lt x h0).2
  obtain ⟨j, hj⟩ : ∃ j : Nat, c x = j := ⟨(c x).toNat, by omega⟩
  have hjl : j < grp.length := by omega
  rcases hG with ⟨_, rfl⟩ | ⟨g, cap, r, rc, rfl, _, _, hA, hR⟩
  · simp at hjl
  · have hL : 0 < (grp.getD j []).length := List.length_pos_iff.2 (hP.nd j hjl).2
    obtain ⟨a1, a2⟩ := hP.head hjl
    exact ⟨g, cap, j, r j, _, rc j, _, rfl, hj, hjl, hA.cell hjl, hL, (hR j hjl).2.2.cell hL, a2, by rw [a1, hj]⟩
end

theorem ints_any {wr : World} {lo : Nat} {g1 : Value} {ys : List Nat} (h : Ints wr lo g1 ys) : (g1 = .slice none 0 0 ∧ ys.length = 0) ∨ ∃ g cap, g1 = .slice (some ⟨g, 0, none⟩) ys.length cap ∧ Arr wr g 3 (cap * 1) (ys.length * 1) (intf ys) ∧ cap ≤ maxLen := by
  rcases h with ⟨rfl, rfl⟩ | ⟨g, cap, rfl, hl, hc, hA⟩
  · exact Or.inl ⟨rfl, rfl⟩
  · exact Or.inr ⟨g, cap, rfl, by rw [Nat.mul_one, Nat.mul_one]; exact hA, hc⟩
theorem sm_mono (deg : Nat → Nat) (m : Nat) : ∀ d, sm deg m ≤ sm deg (m + d)
  | 0 => Nat.le_refl _
  | d + 1 => by
    have := sm_mono deg m d
    show _ ≤ sm deg (m + d) + deg (m + d)
    omega

theorem grps_len {wr : World} {lo : Nat} {v : Value} {grp : List (List Nat)} {av : Nat → Prop} (h : Grps wr lo v grp av) : ∃ ao cap, v = .slice ao grp.length cap := by
  rcases h with ⟨rfl, rfl⟩ | ⟨g, cap, r, rc, rfl, _⟩
  · exact ⟨none, 0, rfl⟩
  · exact ⟨_, _, rfl⟩
theorem below_up {a b c : World} (h : Below a.heap.size a b) (k : Below b.heap.size b c) : Below a.heap.size a c := h.trans (k.mono h.size)

def Holds (w : World) (e : Ending) (w' : World) : Prop := e = .returned (.bool true) ∧ Below w.heap.size w w'
end Go.Proofs.Qxb6604011a.Scc
