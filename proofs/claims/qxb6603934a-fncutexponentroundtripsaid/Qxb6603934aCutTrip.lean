import Derived.Test.Qxb6603934aCutText
namespace Go.Proofs.Qxb6603934a.Cut
open Go.RowKit Go.PlainAid Go.Proofs.Qxb6603934a.Scan

theorem text_any (k : Int) (upper plus : Bool) (w : World) (h1 : -999 ≤ k) (h2 : k ≤ 999) : Calls Try.prog 12 #[.int .i32 k, .bool upper, .bool plus] w (Wrote k upper plus w) := by
  by_cases hk : k < 0
  · obtain ⟨m, rfl⟩ : ∃ m, k = -m := ⟨-k, by omega⟩
    cases upper
    · by_cases a : 100 ≤ m
      · exact text_l_neg_3 m plus w a (by omega)
      · by_cases b : 10 ≤ m
        · exact text_l_neg_2 m plus w b (by omega)
        · exact text_l_neg_1 m plus w (by omega) (by omega)
    · by_cases a : 100 ≤ m
      · exact text_u_neg_3 m plus w a (by omega)
      · by_cases b : 10 ≤ m
        · exact text_u_neg_2 m plus w b (by omega)
        · exact text_u_neg_1 m plus w (by omega) (by omega)
  · cases upper <;> cases plus
    · by_cases a : 100 ≤ k
      · exact text_l_bare_3 k w a (by omega)
      · by_cases b : 10 ≤ k
        · exact text_l_bare_2 k w b (by omega)
        · exact text_l_bare_1 k w (by omega) (by omega)
    · by_cases a : 100 ≤ k
      · exact text_l_plus_3 k w a (by omega)
      · by_cases b : 10 ≤ k
        · exact text_l_plus_2 k w b (by omega)
        · exact text_l_plus_1 k w (by omega) (by omega)
    · by_cases a : 100 ≤ k
      · exact text_u_bare_3 k w a (by omega)
      · by_cases b : 10 ≤ k
        · exact text_u_bare_2 k w b (by omega)
        · exact text_u_bare_1 k w (by omega) (by omega)
    · by_cases a : 100 ≤ k
      · exact text_u_plus_3 k w a (by omega)
      · by_cases b : 10 ≤ k
        · exact text_u_plus_2 k w b (by omega)
        · exact text_u_plus_1 k w (by omega) (by omega)

theorem bt_str (xs : List Int) (i : Nat) (hi : i < xs.length) (h0 : 0 ≤ xs[i]) (h1 : xs[i] ≤ 255) : bt (strOfNums xs) i = xs[i] := by
  unfold bt
  rw [dif_pos (by rw [strOfNums_size]; exact hi)]
  have e : ((strOfNums xs)[i]'(by rw [strOfNums_size]; exact hi)) = UInt8.ofNat (xs[i]).toNat := by
    unfold strOfNums
    show (xs.map fun n => UInt8.ofNat n.toNat).toArray[i]'_ = _
    simp
  rw [e, UInt8.toNat_ofNat_of_lt' (by simp [UInt8.size]; omega)]
  omega

theorem digsOf_len (m : Int) : 1 ≤ (digsOf m).length ∧ (digsOf m).length ≤ 3 := by
  unfold digsOf; split
  · simp
  · split <;> simp
theorem digsOf_dig (m : Int) (h0 : 0 ≤ m) (h1 : m ≤ 999) : ∀ i, (hi : i < (digsOf m).length) → dig ((digsOf m)[i]) := by
  unfold digsOf dig
  split
  · intro i hi
    match i, hi with
    | 0, _ => simp; omega
    | 1, _ => simp; omega
    | 2, _ => simp; omega
  · split
    · intro i hi
      match i, hi with
      | 0, _ => simp; omega
      | 1, _ => simp; omega
    · intro i hi
      match i, hi with
      | 0, _ => simp; omega
theorem digsOf_val (m : Int) (h0 : 0 ≤ m) (h1 : m ≤ 999) : val (fun i => (digsOf m).getD i 0) (digsOf m).length = m := by
  unfold digsOf
  split
  · simp [val]; omega
  · split
    · simp [val]; omega
    · simp [val]; omega

theorem trip_cut (p : ByteArray) (E : Int) (sl : List Int) (m : Int) (neg : Bool) (hE : E = 69 ∨ E = 101) (hm0 : 0 ≤ m) (hm1 : m ≤ 999)
    (hsl : (sl = [] ∧ neg = false) ∨ (sl = [43] ∧ neg = false) ∨ (sl = [45] ∧ neg = true)) :
    CutR (bt (p ++ strOfNums (E :: (sl ++ digsOf m)))) (p ++ strOfNums (E :: (sl ++ digsOf m))).size p.size (sgn neg m) := by
  have hl := digsOf_len m
  have hdd := digsOf_dig m hm0 hm1
  have hv := digsOf_val m hm0 hm1
  generalize digsOf m = ds at hl hdd hv ⊢
  have hx : ∀ i, (hi : i < (E :: (sl ++ ds)).length) → bt (p ++ strOfNums (E :: (sl ++ ds))) (p.size + i) = (E :: (sl ++ ds))[i] := by
    intro i hi
    rw [bt_append, if_neg (by omega), Nat.add_sub_cancel_left]
    have hb : 0 ≤ (E :: (sl ++ ds))[i] ∧ (E :: (sl ++ ds))[i] ≤ 255 := by
      have hall : ∀ x ∈ E :: (sl ++ ds), 0 ≤ x ∧ x ≤ 255 := by
        intro x hx
        rcases List.mem_cons.1 hx with rfl | hx
        · omega
        · rcases List.mem_append.1 hx with hx | hx
          · rcases hsl with ⟨rfl, _⟩ | ⟨rfl, _⟩ | ⟨rfl, _⟩ <;> simp at hx <;> omega
          · obtain ⟨j, hj, rfl⟩ := List.getElem_of_mem hx
            have := hdd j hj
            unfold dig at this; omega
      exact hall _ (List.getElem_mem hi)
    exact bt_str _ i hi hb.1 hb.2
  have hsz : (p ++ strOfNums (E :: (sl ++ ds))).size = p.size + (1 + sl.length + ds.length) := by
    rw [ByteArray.size_append, strOfNums_size]; simp; omega
  rw [hsz]
  generalize bt (p ++ strOfNums (E :: (sl ++ ds))) = f at hx ⊢
  have hE' : isE (f p.size) := by
    have := hx 0 (by simp)
    simp at this
    unfold isE; omega
  rcases hsl with ⟨rfl, rfl⟩ | ⟨rfl, rfl⟩ | ⟨rfl, rfl⟩
  · have hd : ∀ i, (hi : i < ds.length) → f (p.size + 1 + i) = ds[i] := fun i hi => by
      have := hx (i + 1) (by simp; omega)
      rw [show p.size + (i + 1) = p.size + 1 + i by omega] at this
      simpa using this
    have hn : p.size + (1 + 0 + ds.length) - (p.size + 1) = ds.length := by omega
    refine cutR_yes (o := p.size + 1) hE' (by simp; omega) (Or.inl ⟨rfl, rfl, ?_⟩) (by simp only [List.length_nil, hn]; omega) (by simp only [List.length_nil, hn]; omega) ?_ ?_
    · rintro ⟨_, h⟩
      have h2 := hd 0 (by omega)
      have h3 := hdd 0 (by omega)
      unfold dig at h3
      simp only [Nat.add_zero] at h2
      omega
    · simp only [List.length_nil, hn]
      intro i hi
      rw [hd i hi]; exact hdd i hi
    · simp only [List.length_nil, hn]
      rw [← hv]
      refine val_congr _ (fun i hi => ?_)
      simp only [hd i hi, List.getD_eq_getElem?_getD, List.getElem?_eq_getElem hi, Option.getD_some]
  all_goals
    have hd : ∀ i, (hi : i < ds.length) → f (p.size + 2 + i) = ds[i] := fun i hi => by
      have := hx (i + 2) (by simp; omega)
      rw [show p.size + (i + 2) = p.size + 2 + i by omega] at this
      simpa using this
    have hs := hx 1 (by simp)
    simp only [List.cons_append, List.nil_append, List.getElem_cons_succ, List.getElem_cons_zero] at hs
    have hn : p.size + (1 + (0 + 1) + ds.length) - (p.size + 2) = ds.length := by omega
    refine cutR_yes (o := p.size + 2) hE' (by simp; omega) (Or.inr ⟨rfl, by simp; omega, by simp [hs]⟩) (by simp only [List.length_cons, List.length_nil, hn]; omega) (by simp only [List.length_cons, List.length_nil, hn]; omega) ?_ ?_
    · simp only [List.length_cons, List.length_nil, hn]
      intro i hi
      rw [hd i hi]; exact hdd i hi
    · simp only [List.length_cons, List.length_nil, hn]
      rw [← hv]
      refine val_congr _ (fun i hi => ?_)
      simp only [hd i hi, List.getD_eq_getElem?_getD, List.getElem?_eq_getElem hi, Option.getD_some]

theorem trip (p : ByteArray) (k : Int) (upper plus : Bool) (h1 : -999 ≤ k) (h2 : k ≤ 999) :
    CutR (bt (p ++ strOfNums (expText k upper plus))) (p ++ strOfNums (expText k upper plus)).size p.size k := by
  unfold expText
  have hE : (if upper then (69 : Int) else 101) = 69 ∨ (if upper then (69 : Int) else 101) = 101 := by cases upper <;> simp
  by_cases hk : k < 0
  · simp only [hk, if_true]
    have := trip_cut p _ [45] (-k) true hE (by omega) (by omega) (Or.inr (Or.inr ⟨rfl, rfl⟩))
    simpa [sgn] using this
  · simp only [hk, if_false]
    cases plus
    · have := trip_cut p _ [] k false hE (by omega) (by omega) (Or.inl ⟨rfl, rfl⟩)
      simpa [sgn] using this
    · have := trip_cut p _ [43] k false hE (by omega) (by omega) (Or.inr (Or.inl ⟨rfl, rfl⟩))
      simpa [sgn] using this

theorem cut_back (p t : ByteArray) : (p ++ t).extract 0 p.size = p := by
  obtain ⟨⟨a⟩⟩ := p
  obtain ⟨⟨b⟩⟩ := t
  apply ByteArray.ext
  simp [ByteArray.data_extract, ByteArray.data_append, ← ByteArray.size_data]

theorem expText_len (k : Int) (upper plus : Bool) : (expText k upper plus).length ≤ 5 := by
  have h := digsOf_len (if k < 0 then -k else k)
  unfold expText
  generalize digsOf (if k < 0 then -k else k) = ds at h ⊢
  simp only [List.length_cons, List.length_append]
  split
  · simp; omega
  · split <;> simp <;> omega
end Go.Proofs.Qxb6603934a.Cut
