import Derived.Test.Qxb6604011aArr
namespace Go.Proofs.Qxb6604011a
open Go.RowKit Go.Deep

/-! append UPON A ROW OF THE CALL's OWN, ELEMENTS OF sz CELLS: there was room, or a new row was made; either way the cells are told. -/
/-- What append leaves: a row of n + m elements at g', the old row itself or a new one; nothing but row g has turned. -/
def Appended (w : World) (g : Option Nat) (e : TypeId) (sz n m : Nat) (f : Nat → Value) (news : List Value) (v' : Value) (w' : World) : Prop :=
  ∃ g' cap', v' = .slice (some ⟨g', 0, none⟩) (n + m) cap' ∧ Arr w' g' e (cap' * sz) ((n + m) * sz) (fun i => if i < n * sz then f i else news.getD (i - n * sz) undef) ∧
    n + m ≤ cap' ∧ cap' ≤ maxLen ∧ (some g' = g ∨ w.heap.size ≤ g') ∧ w.grownBy w' g

theorem arr_of_list {w : World} {b : Nat} {e : TypeId} {c : Array Value} {cap n : Nat} {f : Nat → Value} (hb : w.heap[b]? = some (.cells c e (0, 0))) (hs : c.size = cap) (hn : n ≤ cap) (xs : List Value) (hx : c.toList.take n = xs)
    (hf : ∀ i, i < n → xs[i]? = some (f i)) : Arr w b e cap n f := by
  refine ⟨c, hb, hs, hn, fun i hi => ?_⟩
  have h := hf i hi
  rw [← hx, List.getElem?_take, if_pos hi, Array.getElem?_toList] at h
  exact h

section
variable {P : Program} (w : World)
theorem run_append_arr (t ty e : TypeId) (i : TypeInfo) (z : Value) (sz bytes : Nat) (ht : P.underlying t = some (.slice e)) (hi : P.info? e = some i) (hz : i.zero = some z)
    (hsize : i.size = sz) (hby : i.bytes = bytes) (hzs : z.cells.size = sz)
    (g n cap : Nat) (f : Nat → Value) (hA : Arr w g e (cap * sz) (n * sz) f) (hcm : cap ≤ maxLen)
    (a : Addr) (m c : Nat) (news : List Value) (hl : news.length = m * sz) (hnews : ∀ j u, news[j]? = some u → w.cell? (a.add j) = some u) (h1 : ∀ u ∈ news, u.oneCell' = true)
    (h63 : n + m ≤ maxLen) (hbytes : (n + m) * bytes ≤ 140737488355328) :
    ∃ v' w', (Builtin.append_ #[t, t] ty #[.slice (some ⟨g, 0, none⟩) n cap, .slice (some a) m c]).run P w = .ok v' w' ∧ Appended w (some g) e sz n m f news v' w' := by
  subst hsize
  subst hby
  obtain ⟨cur, hg, hcs, hn, hc⟩ := hA
  have htake : cur.toList.take (n * i.size) = (List.range (n * i.size)).map f := by
    apply List.ext_getElem?
    intro j
    rw [List.getElem?_take]
    by_cases hj : j < n * i.size
    · rw [if_pos hj, Array.getElem?_toList, hc j hj]; simp [hj]
    · rw [if_neg hj]; simp [hj]
  have hfs : ∀ j, j < (n + m) * i.size → ((List.range (n * i.size)).map f ++ news)[j]? = some (if j < n * i.size then f j else news.getD (j - n * i.size) undef) := by
    intro j hj
    by_cases hlt : j < n * i.size
    · rw [if_pos hlt, List.getElem?_append_left (by simpa using hlt)]; simp [hlt]
    · rw [if_neg hlt, List.getElem?_append_right (by simpa using hlt)]
      have : j - n * i.size < news.length := by rw [hl]; rw [Nat.add_mul] at hj; omega
      simp [this]
  by_cases hroom : n + m ≤ cap
  · have hfit : n * i.size + news.length ≤ cur.size := by rw [hl, hcs, ← Nat.add_mul]; exact Nat.mul_le_mul_right _ hroom
    have hr := run_append_room (P := P) w t ty e i ht hi g n cap cur hg a m c news hl hnews h1 hroom hfit
    refine ⟨_, _, hr, g, cap, rfl, ?_, hroom, hcm, Or.inl rfl, ⟨rfl, rfl, rfl, by simp, fun k _ hk => setRow_other w g k _ (fun e => hk (by simp [e]))⟩⟩
    refine arr_of_list (setRow_heap w g cur _ e _ hg) ?_ (Nat.mul_le_mul_right _ hroom) _ ?_ hfs
    · simp only [List.size_toArray, List.length_append, List.length_take, List.length_drop, Array.length_toList]
      omega
    · rw [htake]
      have hlen : ((List.range (n * i.size)).map f ++ news).length = (n + m) * i.size := by simp [hl, Nat.add_mul]
      rw [← hlen]
      exact List.take_left
  · have hsmall : n + m ≤ 9223372036854775807 := by simp only [maxLen] at h63; omega
    have hr := run_append_grow (P := P) w t ty e i z ht hi hz ⟨g, 0, none⟩ n cap ((List.range (n * i.size)).map f) (by simp) (fun j u hu => by
        have hj : j < n * i.size := by
          have := (List.getElem?_eq_some_iff.1 hu).1
          simpa using this
        have hadd : (⟨g, 0, none⟩ : Addr).add j = ⟨g, j, none⟩ := by unfold Addr.add; split <;> simp_all
        rw [hadd]
        simp [hj] at hu
        subst hu
        simp [World.cell?, hg, hc j hj]) a m c news hl hnews (by omega) (by omega) (growslice_fits (by omega) hbytes)
    have hge := grownCap_ge w (n + m) cap e
    have hcm' : grownCap w (n + m) cap e ≤ maxLen := grownCap_le_maxLen w (n + m) cap e h63
    refine ⟨_, _, hr, w.heap.size, _, rfl, ?_, hge, hcm', Or.inr (Nat.le_refl _), ⟨rfl, rfl, rfl, by simp, fun k hk _ => blk_alloc_lt w.drew _ k hk⟩⟩
    refine arr_of_list (heap_alloc_new w.drew _) ?_ (Nat.mul_le_mul_right _ hge) _ ?_ hfs
    · simp only [Array.size_append, List.size_toArray, size_zeroCells, hzs, List.length_map, List.length_range, hl, ← Nat.add_mul]
      congr 1; omega
    · have hlen : ((List.range (n * i.size)).map f ++ news).length = (n + m) * i.size := by simp [hl, Nat.add_mul]
      simp only [Array.toList_append]
      rw [← hlen]
      exact List.take_left

theorem run_append_first (t ty e : TypeId) (i : TypeInfo) (z : Value) (sz bytes : Nat) (ht : P.underlying t = some (.slice e)) (hi : P.info? e = some i) (hz : i.zero = some z)
    (hsize : i.size = sz) (hby : i.bytes = bytes) (hzs : z.cells.size = sz) (f : Nat → Value)
    (a : Addr) (m c : Nat) (news : List Value) (hl : news.length = m * sz) (hnews : ∀ j u, news[j]? = some u → w.cell? (a.add j) = some u)
    (hm : 0 < m) (h63 : m ≤ maxLen) (hbytes : m * bytes ≤ 140737488355328) :
    ∃ v' w', (Builtin.append_ #[t, t] ty #[.slice none 0 0, .slice (some a) m c]).run P w = .ok v' w' ∧ Appended w none e sz 0 m f news v' w' := by
  subst hsize
  subst hby
  have hsmall : m ≤ 9223372036854775807 := by simp only [maxLen] at h63; omega
  have hr := run_append_nil (P := P) w t ty e i z ht hi hz a m c news hl hnews (by omega) (by omega) (by omega)
  have hge := grownCap_ge w m 0 e
  have hcm' : grownCap w m 0 e ≤ maxLen := grownCap_le_maxLen w m 0 e h63
  refine ⟨_, _, hr, w.heap.size, _, by rw [Nat.zero_add], ?_, by omega, hcm', Or.inr (Nat.le_refl _), ⟨rfl, rfl, rfl, by simp, fun k hk _ => blk_alloc_lt w.drew _ k hk⟩⟩
  rw [Nat.zero_add]
  refine arr_of_list (heap_alloc_new w.drew _) ?_ (Nat.mul_le_mul_right _ hge) news ?_ ?_
  · simp only [Array.size_append, List.size_toArray, size_zeroCells, hzs, hl, ← Nat.add_mul]
    congr 1; omega
  · simp only [Array.toList_append]
    rw [← hl]
    exact List.take_left
  · intro j hj
    have : j < news.length := by omega
    simp [this]

/-- 'v = append(v, x)' of one element, v's row the call's own: the law for the walk. -/
theorem wpList_append_arr {ops : Array Oper} {rest : List Oper} {o : Oper} {a : Act} {Q : Exit → Act → World → Prop} (hgd : o.guard = none) (s x : Operand) (t : TypeId)
    (ho : o.op = .call { callee := .builtin .append, args := #[s, x], argTypes := #[t, t] })
    (e : TypeId) (i : TypeInfo) (z : Value) (sz bytes : Nat) (ht : P.underlying t = some (.slice e)) (hi : P.info? e = some i) (hz : i.zero = some z)
    (hsize : i.size = sz) (hby : i.bytes = bytes) (hzs : z.cells.size = sz)
    (g n cap : Nat) (f : Nat → Value) (hs : a.eval s = .slice (some ⟨g, 0, none⟩) n cap) (hA : Arr w g e (cap * sz) (n * sz) f) (hcm : cap ≤ maxLen)
    (ad : Addr) (m c : Nat) (news : List Value) (hx : a.eval x = .slice (some ad) m c) (hl : news.length = m * sz) (hnews : ∀ j u, news[j]? = some u → w.cell? (ad.add j) = some u) (h1 : ∀ u ∈ news, u.oneCell' = true)
    (h63 : n + m ≤ maxLen) (hbytes : (n + m) * bytes ≤ 140737488355328)
    (h : ∀ v' w', Appended w (some g) e sz n m f news v' w' → wpList P ops Q rest (a.put o.dst v') w') : wpList P ops Q (o :: rest) a w :=
  wpList_plain hgd fun _ hK => by
    obtain ⟨v', w', hr, h2⟩ := run_append_arr (P := P) w t o.type e i z sz bytes ht hi hz hsize hby hzs g n cap f hA hcm ad m c news hl hnews h1 h63 hbytes
    unfold Oper.wp execOp
    simp only [ho, resolve, invoke, builtin, Sem.run_bind, Sem.run_pure, Result.andThen_ok, List.map_toArray, List.map_cons, List.map_nil, hs, hx, hr]
    exact hK _ _ (h v' w' h2)

/-- The same where v is nil. -/
theorem wpList_append_first {ops : Array Oper} {rest : List Oper} {o : Oper} {a : Act} {Q : Exit → Act → World → Prop} (hgd : o.guard = none) (s x : Operand) (t : TypeId)
    (ho : o.op = .call { callee := .builtin .append, args := #[s, x], argTypes := #[t, t] })
    (e : TypeId) (i : TypeInfo) (z : Value) (sz bytes : Nat) (ht : P.underlying t = some (.slice e)) (hi : P.info? e = some i) (hz : i.zero = some z)
    (hsize : i.size = sz) (hby : i.bytes = bytes) (hzs : z.cells.size = sz) (f : Nat → Value) (hs : a.eval s = .slice none 0 0)
    (ad : Addr) (m c : Nat) (news : List Value) (hx : a.eval x = .slice (some ad) m c) (hl : news.length = m * sz) (hnews : ∀ j u, news[j]? = some u → w.cell? (ad.add j) = some u)
    (hm : 0 < m) (h63 : m ≤ maxLen) (hbytes : m * bytes ≤ 140737488355328)
    (h : ∀ v' w', Appended w none e sz 0 m f news v' w' → wpList P ops Q rest (a.put o.dst v') w') : wpList P ops Q (o :: rest) a w :=
  wpList_plain hgd fun _ hK => by
    obtain ⟨v', w', hr, h2⟩ := run_append_first (P := P) w t o.type e i z sz bytes ht hi hz hsize hby hzs f ad m c news hl hnews hm h63 hbytes
    unfold Oper.wp execOp
    simp only [ho, resolve, invoke, builtin, Sem.run_bind, Sem.run_pure, Result.andThen_ok, List.map_toArray, List.map_cons, List.map_nil, hs, hx, hr]
    exact hK _ _ (h v' w' h2)
end
end Go.Proofs.Qxb6604011a
