namespace Go.Proofs.Qxb6604011a.Scc

/-! Tarjan's algorithm, plainly: what its state holds at every turn of the walk. No Go text. -/
section
variable (n : Nat) (deg : Nat → Nat) (tgt : Nat → Nat → Nat)

def Edge (u w : Nat) : Prop := ∃ k, k < deg u ∧ tgt u k = w
def Steps : Nat → Nat → Nat → Prop
  | 0, u, v => u = v
  | k + 1, u, v => ∃ x, Edge deg tgt u x ∧ Steps k x v
def Reach (u v : Nat) : Prop := ∃ k, Steps deg tgt k u v
end

section
variable {n : Nat} {deg : Nat → Nat} {tgt : Nat → Nat → Nat}

theorem Reach.refl (u : Nat) : Reach deg tgt u u := ⟨0, rfl⟩
theorem Reach.head {u x v : Nat} (h : Edge deg tgt u x) (hr : Reach deg tgt x v) : Reach deg tgt u v := by
  obtain ⟨k, hk⟩ := hr
  exact ⟨k + 1, x, h, hk⟩
theorem steps_trans : ∀ (k l u x v : Nat), Steps deg tgt k u x → Steps deg tgt l x v → Steps deg tgt (k + l) u v
  | 0, l, u, x, v, h, h' => by
    have e : u = x := h
    subst e
    rwa [Nat.zero_add]
  | k + 1, l, u, x, v, ⟨y, he, h⟩, h' => by
    rw [show k + 1 + l = (k + l) + 1 by omega]
    exact ⟨y, he, steps_trans k l y x v h h'⟩
theorem Reach.trans {u x v : Nat} (h : Reach deg tgt u x) (h' : Reach deg tgt x v) : Reach deg tgt u v := by
  obtain ⟨k, hk⟩ := h
  obtain ⟨l, hl⟩ := h'
  exact ⟨k + l, steps_trans k l u x v hk hl⟩
theorem Reach.edge {u k : Nat} (h : k < deg u) : Reach deg tgt u (tgt u k) := Reach.head ⟨k, h, rfl⟩ (Reach.refl _)
end

/-- A function turned at one place. -/
def upd {α : Type} (f : Nat → α) (v : Nat) (x : α) : Nat → α := fun i => if i = v then x else f i
theorem upd_same {α : Type} (f : Nat → α) (v : Nat) (x : α) : upd f v x v = x := by unfold upd; rw [if_pos rfl]
theorem upd_other {α : Type} (f : Nat → α) {v i : Nat} (x : α) (h : i ≠ v) : upd f v x i = f i := by unfold upd; rw [if_neg h]

/-- 'wn': the nodes of the depth-first walk, the last one first; 'stk': the nodes not yet placed, likewise; 'pe v': how many of v's edges have been followed; 'c v': the group that v is in, or -1; 'ng': how many groups there are. -/
structure Inv (n : Nat) (deg : Nat → Nat) (tgt : Nat → Nat → Nat) (ord low : Nat → Int) (stk wn : List Nat) (nxt : Nat) (c : Nat → Int) (ng : Nat) (pe : Nat → Nat) : Prop where
  rng : ∀ v k, v < n → k < deg v → tgt v k < n
  stk_in : ∀ v, v ∈ stk → v < n ∧ 0 ≤ ord v ∧ ord v < nxt ∧ c v = -1
  plc : ∀ v, 0 ≤ c v → v < n ∧ 0 ≤ ord v ∧ c v < ng ∧ pe v = deg v
  cneg : ∀ v, c v < 0 → c v = -1
  vis : ∀ v, v < n → 0 ≤ ord v → v ∈ stk ∨ 0 ≤ c v
  unv : ∀ v, v < n → ord v < 0 → ord v = -1 ∧ pe v = 0
  sorted : stk.Pairwise (fun a b => ord b < ord a)
  wsub : ∀ p, p ∈ wn → p ∈ stk ∧ pe p ≤ deg p
  wsorted : wn.Pairwise (fun a b => ord b < ord a)
  fin : ∀ v, v ∈ stk → v ∉ wn → pe v = deg v ∧ low v < ord v
  edg : ∀ v k, v < n → k < pe v → 0 ≤ ord (tgt v k)
  cls : ∀ v, 0 ≤ c v → ∀ k, k < deg v → 0 ≤ c (tgt v k) ∧ c (tgt v k) ≤ c v
  lowe : ∀ v k, v ∈ stk → k < pe v → tgt v k ∈ stk → low v ≤ ord (tgt v k)
  lows : ∀ v, v ∈ stk → low v ≤ ord v ∧ ∃ y, y ∈ stk ∧ ord y = low v ∧ Reach deg tgt v y
  i7 : ∀ p v, p ∈ wn → v ∈ stk → ord p ≤ ord v → (∀ q, q ∈ wn → ord q ≤ ord p ∨ ord v < ord q) → low p ≤ low v
  i4 : ∀ p v, p ∈ wn → v ∈ stk → ord p ≤ ord v → Reach deg tgt p v
  i9 : ∀ v, v ∈ stk → ∃ p, p ∈ wn ∧ ord p ≤ ord v
  scc : ∀ u v, 0 ≤ c u → c u = c v → Reach deg tgt u v

section
variable {n : Nat} {deg : Nat → Nat} {tgt : Nat → Nat → Nat} {ord low : Nat → Int} {stk wn : List Nat} {nxt : Nat} {c : Nat → Int} {ng : Nat} {pe : Nat → Nat}

theorem sorted_inj {l : List Nat} (hs : l.Pairwise (fun a b => ord b < ord a)) : ∀ u v, u ∈ l → v ∈ l → ord u = ord v → u = v := by
  induction l with
  | nil => intro u v hu; exact absurd hu (by simp)
  | cons a l ih =>
    rw [List.pairwise_cons] at hs
    intro u v hu hv e
    rcases List.mem_cons.1 hu with e1 | hu' <;> rcases List.mem_cons.1 hv with e2 | hv'
    · rw [e1, e2]
    · have := hs.1 v hv'; rw [← e1] at this; omega
    · have := hs.1 u hu'; rw [← e2] at this; omega
    · exact ih hs.2 u v hu' hv' e
theorem Inv.inj (h : Inv n deg tgt ord low stk wn nxt c ng pe) : ∀ u v, u ∈ stk → v ∈ stk → ord u = ord v → u = v := sorted_inj h.sorted

theorem Inv.start (hr : ∀ v k, v < n → k < deg v → tgt v k < n) : Inv n deg tgt (fun _ => -1) low [] [] 0 (fun _ => -1) 0 (fun _ => 0) :=
  ⟨hr, fun v hv => absurd hv (by simp), fun v hv => absurd hv (by simp), fun v _ => rfl, fun v _ hv => absurd hv (by simp), fun v _ _ => ⟨rfl, rfl⟩, List.Pairwise.nil, fun p hp => absurd hp (by simp), List.Pairwise.nil,
    fun v hv => absurd hv (by simp), fun v k _ hk => absurd hk (by omega), fun v hv => absurd hv (by simp), fun v k hv => absurd hv (by simp), fun v hv => absurd hv (by simp), fun p v hp => absurd hp (by simp),
    fun p v hp => absurd hp (by simp), fun v hv => absurd hv (by simp), fun u v hu => absurd hu (by simp)⟩

/-- A node is met for the first time: it is laid upon stack and walk. -/
theorem Inv.visit (h : Inv n deg tgt ord low stk wn nxt c ng pe) (w : Nat) (hw : w < n) (hu : ord w < 0) (hr : ∀ p, p ∈ wn → Reach deg tgt p w) :
    Inv n deg tgt (upd ord w nxt) (upd low w nxt) (w :: stk) (w :: wn) (nxt + 1) c ng pe := by
  have hwc : c w = -1 := by
    apply h.cneg
    apply Classical.byContradiction
    intro hc
    have := (h.plc w (by omega)).2.1
    omega
  have hns : w ∉ stk := fun hm => by have := (h.stk_in w hm).2.1; omega
  have ho : ∀ v, v ∈ stk → upd ord w nxt v = ord v := fun v hv => upd_other _ _ (fun e => hns (e ▸ hv))
  have hl : ∀ v, v ∈ stk → upd low w nxt v = low v := fun v hv => upd_other _ _ (fun e => hns (e ▸ hv))
  have hwk : ∀ p, p ∈ wn → p ∈ stk := fun p hp => (h.wsub p hp).1
  have how : upd ord w nxt w = nxt := upd_same _ _ _
  have hlw : upd low w nxt w = nxt := upd_same _ _ _
  refine ⟨h.rng, ?_, ?_, h.cneg, ?_, ?_, ?_, ?_, ?_, ?_, ?_, h.cls, ?_, ?_, ?_, ?_, ?_, h.scc⟩
  · intro v hv
    rcases List.mem_cons.1 hv with e | hv
    · rw [e]; exact ⟨hw, by rw [how]; omega, by rw [how]; omega, hwc⟩
    · have := h.stk_in v hv
      rw [ho v hv]
      exact ⟨this.1, this.2.1, by omega, this.2.2.2⟩
  · intro v hv
    have := h.plc v hv
    have hne : v ≠ w := fun e => by rw [e, hwc] at hv; omega
    rw [upd_other _ _ hne]
    exact this
  · intro v hv ho'
    by_cases e : v = w
    · left; rw [e]; exact List.mem_cons_self
    · rw [upd_other _ _ e] at ho'
      rcases h.vis v hv ho' with hm | hm
      · exact Or.inl (List.mem_cons_of_mem _ hm)
      · exact Or.inr hm
  · intro v hv ho'
    have hne : v ≠ w := fun e => by rw [e, how] at ho'; omega
    rw [upd_other _ _ hne] at ho' ⊢
    exact h.unv v hv ho'
  · rw [List.pairwise_cons]
    refine ⟨fun b hb => ?_, ?_⟩
    · rw [ho b hb, how]; exact (h.stk_in b hb).2.2.1
    · exact List.Pairwise.imp_of_mem (fun ha hb hab => by rw [ho _ ha, ho _ hb]; exact hab) h.sorted
  · intro p hp
    rcases List.mem_cons.1 hp with e | hp
    · rw [e]; exact ⟨List.mem_cons_self, by rw [(h.unv w hw hu).2]; omega⟩
    · have := h.wsub p hp
      exact ⟨List.mem_cons_of_mem _ this.1, this.2⟩
  · rw [List.pairwise_cons]
    refine ⟨fun b hb => ?_, ?_⟩
    · rw [ho b (hwk b hb), how]; exact (h.stk_in b (hwk b hb)).2.2.1
    · exact List.Pairwise.imp_of_mem (fun ha hb hab => by rw [ho _ (hwk _ ha), ho _ (hwk _ hb)]; exact hab) h.wsorted
  · intro v hv hn
    rcases List.mem_cons.1 hv with e | hv
    · exact absurd (e ▸ List.mem_cons_self) hn
    · rw [hl v hv, ho v hv]
      exact h.fin v hv (fun he => hn (List.mem_cons_of_mem _ he))
  · intro v k hv hk
    have := h.edg v k hv hk
    by_cases e : tgt v k = w
    · rw [e, how]; omega
    · rw [upd_other _ _ e]; exact this
  · intro v k hv hk ht
    rcases List.mem_cons.1 hv with e | hv
    · rw [e, (h.unv w hw hu).2] at hk
      omega
    · rw [hl v hv]
      rcases List.mem_cons.1 ht with e | ht
      · rw [e, how]
        have a := (h.lows v hv).1
        have b := (h.stk_in v hv).2.2.1
        omega
      · rw [ho _ ht]; exact h.lowe v k hv hk ht
  · intro v hv
    rcases List.mem_cons.1 hv with e | hv
    · rw [e, how, hlw]
      exact ⟨by omega, w, List.mem_cons_self, how, Reach.refl _⟩
    · rw [hl v hv, ho v hv]
      obtain ⟨a, y, hy, e, r⟩ := h.lows v hv
      exact ⟨a, y, List.mem_cons_of_mem _ hy, by rw [ho y hy]; exact e, r⟩
  · intro p v hp hv hpv hq
    rcases List.mem_cons.1 hp with e | hp
    · rw [e] at hpv ⊢
      rcases List.mem_cons.1 hv with e2 | hv
      · rw [e2]; exact Int.le_refl _
      · rw [how, ho v hv] at hpv
        have := (h.stk_in v hv).2.2.1
        omega
    · have hps := hwk p hp
      rcases List.mem_cons.1 hv with e2 | hv
      · have := hq w List.mem_cons_self
        rw [e2, how, ho p hps] at this
        have b := (h.stk_in p hps).2.2.1
        omega
      · rw [hl p hps, hl v hv]
        rw [ho p hps, ho v hv] at hpv
        refine h.i7 p v hp hv hpv (fun q hqm => ?_)
        have := hq q (List.mem_cons_of_mem _ hqm)
        rwa [ho q (hwk q hqm), ho p hps, ho v hv] at this
  · intro p v hp hv hpv
    rcases List.mem_cons.1 hp with e | hp
    · rw [e] at hpv ⊢
      rcases List.mem_cons.1 hv with e2 | hv
      · rw [e2]; exact Reach.refl _
      · rw [how, ho v hv] at hpv
        have := (h.stk_in v hv).2.2.1
        omega
    · rcases List.mem_cons.1 hv with e2 | hv
      · rw [e2]; exact hr p hp
      · rw [ho p (hwk p hp), ho v hv] at hpv
        exact h.i4 p v hp hv hpv
  · intro v hv
    rcases List.mem_cons.1 hv with e2 | hv
    · exact ⟨w, List.mem_cons_self, by rw [e2]; exact Int.le_refl _⟩
    · obtain ⟨p, hp, hpv⟩ := h.i9 v hv
      exact ⟨p, List.mem_cons_of_mem _ hp, by rw [ho p (hwk p hp), ho v hv]; exact hpv⟩

/-- One more edge of v has been followed, to a node that has been met. -/
theorem Inv.advance (h : Inv n deg tgt ord low stk wn nxt c ng pe) (v : Nat) (hv : v ∈ wn) (hlt : pe v < deg v) (ht : 0 ≤ ord (tgt v (pe v))) (hlow : tgt v (pe v) ∈ stk → low v ≤ ord (tgt v (pe v))) :
    Inv n deg tgt ord low stk wn nxt c ng (upd pe v (pe v + 1)) := by
  have hvs := (h.wsub v hv).1
  have hvi := h.stk_in v hvs
  have hpe : ∀ x, x ≠ v → upd pe v (pe v + 1) x = pe x := fun x hx => upd_other _ _ hx
  have hpv : upd pe v (pe v + 1) v = pe v + 1 := upd_same _ _ _
  refine ⟨h.rng, h.stk_in, ?_, h.cneg, h.vis, ?_, h.sorted, ?_, h.wsorted, ?_, ?_, h.cls, ?_, h.lows, h.i7, h.i4, h.i9, h.scc⟩
  · intro x hx
    have hne : x ≠ v := fun e => by rw [e, hvi.2.2.2] at hx; omega
    rw [hpe x hne]; exact h.plc x hx
  · intro x hx hox
    have hne : x ≠ v := fun e => by rw [e] at hox; omega
    rw [hpe x hne]; exact h.unv x hx hox
  · intro p hp
    refine ⟨(h.wsub p hp).1, ?_⟩
    by_cases e : p = v
    · rw [e, hpv]; omega
    · rw [hpe p e]; exact (h.wsub p hp).2
  · intro x hx hxn
    have hne : x ≠ v := fun e => hxn (e ▸ hv)
    rw [hpe x hne]; exact h.fin x hx hxn
  · intro x k hx hk
    by_cases e : x = v
    · rw [e, hpv] at hk
      rw [e]
      by_cases e2 : k = pe v
      · rw [e2]; exact ht
      · exact h.edg v k hvi.1 (by omega)
    · rw [hpe x e] at hk; exact h.edg x k hx hk
  · intro x k hx hk hkt
    by_cases e : x = v
    · rw [e, hpv] at hk
      rw [e] at hkt ⊢
      by_cases e2 : k = pe v
      · rw [e2] at hkt ⊢; exact hlow hkt
      · exact h.lowe v k hvs (by omega) hkt
    · rw [hpe x e] at hk; exact h.lowe x k hx hk hkt

/-- A walk's node learns of a node on the stack that it reaches. -/
theorem Inv.lower (h : Inv n deg tgt ord low stk wn nxt c ng pe) (v y : Nat) (hv : v ∈ wn) (hy : y ∈ stk) (hr : Reach deg tgt v y) :
    Inv n deg tgt ord (upd low v (min (low v) (ord y))) stk wn nxt c ng pe := by
  have hvs := (h.wsub v hv).1
  have hl : ∀ x, x ≠ v → upd low v (min (low v) (ord y)) x = low x := fun x hx => upd_other _ _ hx
  have hlv : upd low v (min (low v) (ord y)) v = min (low v) (ord y) := upd_same _ _ _
  refine ⟨h.rng, h.stk_in, h.plc, h.cneg, h.vis, h.unv, h.sorted, h.wsub, h.wsorted, ?_, h.edg, h.cls, ?_, ?_, ?_, h.i4, h.i9, h.scc⟩
  · intro x hx hxn
    have hne : x ≠ v := fun e => hxn (e ▸ hv)
    rw [hl x hne]; exact h.fin x hx hxn
  · intro x k hx hk hkt
    have := h.lowe x k hx hk hkt
    by_cases e : x = v
    · rw [e] at this ⊢; rw [hlv]; omega
    · rw [hl x e]; exact this
  · intro x hx
    obtain ⟨a, z, hz, e1, r⟩ := h.lows x hx
    by_cases e : x = v
    · rw [e] at a e1 r ⊢
      rw [hlv]
      refine ⟨by omega, ?_⟩
      by_cases hc : low v ≤ ord y
      · exact ⟨z, hz, by omega, r⟩
      · exact ⟨y, hy, by omega, hr⟩
    · rw [hl x e]; exact ⟨a, z, hz, e1, r⟩
  · intro p x hp hx hpx hq
    have old := h.i7 p x hp hx hpx hq
    by_cases e : p = v
    · rw [e] at old ⊢
      by_cases e2 : x = v
      · rw [e2]; exact Int.le_refl _
      · rw [hl x e2, hlv]; omega
    · rw [hl p e]
      by_cases e2 : x = v
      · have := hq v hv
        rw [e2] at hpx this
        have e3 : ord p = ord v := by omega
        exact absurd (h.inj p v (h.wsub p hp).1 hvs e3) e
      · rw [hl x e2]; exact old

/-- The walk turns back from v, which stays upon the stack. -/
theorem Inv.back {v u : Nat} {rest : List Nat} (h : Inv n deg tgt ord low stk (v :: u :: rest) nxt c ng pe) (hpe : pe v = deg v) (hlt : low v < ord v) (hu : low u ≤ low v) :
    Inv n deg tgt ord low stk (u :: rest) nxt c ng pe := by
  have hs := h.wsorted
  rw [List.pairwise_cons] at hs
  have hs2 := hs.2
  rw [List.pairwise_cons] at hs2
  have huv : ord u < ord v := hs.1 u List.mem_cons_self
  refine ⟨h.rng, h.stk_in, h.plc, h.cneg, h.vis, h.unv, h.sorted, fun p hp => h.wsub p (List.mem_cons_of_mem _ hp), hs.2, ?_, h.edg, h.cls, h.lowe, h.lows, ?_, fun p x hp => h.i4 p x (List.mem_cons_of_mem _ hp), ?_, h.scc⟩
  · intro x hx hxn
    by_cases e : x = v
    · rw [e]; exact ⟨hpe, hlt⟩
    · exact h.fin x hx (fun hm => by rcases List.mem_cons.1 hm with e' | hm; exact e e'; exact hxn hm)
  · intro p x hp hx hpx hq
    by_cases hc : ord x < ord v
    · exact h.i7 p x (List.mem_cons_of_mem _ hp) hx hpx (fun q hqm => by
        rcases List.mem_cons.1 hqm with e | hqm
        · rw [e]; exact Or.inr hc
        · exact hq q hqm)
    · have h1 := hq u List.mem_cons_self
      have hpu : ord p ≤ ord u := by
        rcases List.mem_cons.1 hp with e | hp
        · rw [e]; exact Int.le_refl _
        · have := hs2.1 p hp; omega
      have e : p = u := h.inj p u (h.wsub p (List.mem_cons_of_mem _ hp)).1 (h.wsub u (List.mem_cons_of_mem _ List.mem_cons_self)).1 (by omega)
      have h2 := h.i7 v x List.mem_cons_self hx (by omega) (fun q hqm => by
        rcases List.mem_cons.1 hqm with e | hqm
        · rw [e]; exact Or.inl (Int.le_refl _)
        · have := hs.1 q hqm; left; omega)
      rw [e]; omega
  · intro x hx
    obtain ⟨p, hp, hpx⟩ := h.i9 x hx
    rcases List.mem_cons.1 hp with e | hp
    · exact ⟨u, List.mem_cons_self, by rw [e] at hpx; omega⟩
    · exact ⟨p, hp, hpx⟩

/-- The walk's first node never stays. -/
theorem Inv.root {v : Nat} (h : Inv n deg tgt ord low stk [v] nxt c ng pe) : low v = ord v := by
  obtain ⟨a, y, hy, e, _⟩ := h.lows v (h.wsub v List.mem_cons_self).1
  obtain ⟨p, hp, hpy⟩ := h.i9 y hy
  have : p = v := by simpa using hp
  rw [this] at hpy
  omega

/-- All that lies above v, v's edges being followed and its low its own, leads back to v. -/
theorem Inv.home {v : Nat} {rest : List Nat} (h : Inv n deg tgt ord low stk (v :: rest) nxt c ng pe) (hlow : low v = ord v) : ∀ (m x : Nat), (ord x).toNat = m → x ∈ stk → ord v ≤ ord x → Reach deg tgt x v := by
  have hs := h.wsorted
  rw [List.pairwise_cons] at hs
  have hvs := (h.wsub v List.mem_cons_self).1
  intro m
  induction m using Nat.strongRecOn with
  | _ m ih =>
    intro x hm hx hvx
    by_cases e : x = v
    · rw [e]; exact Reach.refl _
    · have hxn : x ∉ v :: rest := fun hmm => by
        rcases List.mem_cons.1 hmm with e' | hmm
        · exact e e'
        · have := hs.1 x hmm; omega
      have hfin := (h.fin x hx hxn).2
      have h7 := h.i7 v x List.mem_cons_self hx hvx (fun q hqm => by
        rcases List.mem_cons.1 hqm with e | hqm
        · rw [e]; exact Or.inl (Int.le_refl _)
        · have := hs.1 q hqm; left; omega)
      obtain ⟨_, y, hy, ey, r⟩ := h.lows x hx
      have hy0 := (h.stk_in y hy).2.1
      exact r.trans (ih (ord y).toNat (by omega) y rfl hy (by omega))

/-- v closes its group: all that lies above it, and itself. -/
theorem Inv.close {v : Nat} {rest seg bot : List Nat} (h : Inv n deg tgt ord low (seg ++ v :: bot) (v :: rest) nxt c ng pe) (hpe : pe v = deg v) (hlow : low v = ord v) (c' : Nat → Int)
    (hc1 : ∀ x, x ∈ seg ∨ x = v → c' x = ng) (hc2 : ∀ x, ¬ (x ∈ seg ∨ x = v) → c' x = c x) :
    Inv n deg tgt ord low bot rest nxt c' (ng + 1) pe := by
  have hs := h.wsorted
  rw [List.pairwise_cons] at hs
  have hvs := (h.wsub v List.mem_cons_self).1
  have hsort := h.sorted
  rw [List.pairwise_append] at hsort
  obtain ⟨_, hsort2, hsort3⟩ := hsort
  rw [List.pairwise_cons] at hsort2
  have hbot : ∀ x, x ∈ bot → x ∈ seg ++ v :: bot := fun x hx => List.mem_append_right _ (List.mem_cons_of_mem _ hx)
  have hbo : ∀ x, x ∈ bot → ord x < ord v := fun x hx => hsort2.1 x hx
  have hseg : ∀ x, x ∈ seg → ord v < ord x := fun x hx => hsort3 x hx v List.mem_cons_self
  have hS : ∀ x, x ∈ seg ∨ x = v → x ∈ seg ++ v :: bot ∧ ord v ≤ ord x := by
    intro x hx
    rcases hx with hx | hx
    · exact ⟨List.mem_append_left _ hx, by have := hseg x hx; omega⟩
    · rw [hx]; exact ⟨hvs, Int.le_refl _⟩
  have hS' : ∀ x, x ∈ seg ++ v :: bot → ord v ≤ ord x → x ∈ seg ∨ x = v := by
    intro x hx hvx
    rcases List.mem_append.1 hx with hx | hx
    · exact Or.inl hx
    · rcases List.mem_cons.1 hx with e | hx
      · exact Or.inr e
      · have := hbo x hx; omega
  have hnb : ∀ x, x ∈ bot → ¬ (x ∈ seg ∨ x = v) := fun x hx hc => by
    have := (hS x hc).2
    have := hbo x hx
    omega
  have hcb : ∀ x, x ∈ bot → c' x = c x := fun x hx => hc2 x (hnb x hx)
  have hnotS : ∀ x, 0 ≤ c x → ¬ (x ∈ seg ∨ x = v) := fun x hx hc => by
    have := (h.stk_in x (hS x hc).1).2.2.2
    omega
  have hpeS : ∀ x, x ∈ seg ∨ x = v → pe x = deg x := by
    intro x hx
    by_cases e : x = v
    · rw [e]; exact hpe
    · exact (h.fin x (hS x hx).1 (fun hm => by
        rcases List.mem_cons.1 hm with e' | hm
        · exact e e'
        · have := hs.1 x hm; have := (hS x hx).2; omega)).1
  have hrb : ∀ p, p ∈ rest → p ∈ bot := fun p hp => by
    have h1 := (h.wsub p (List.mem_cons_of_mem _ hp)).1
    have h2 := hs.1 p hp
    rcases List.mem_append.1 h1 with h1 | h1
    · have := hseg p h1; omega
    · rcases List.mem_cons.1 h1 with e | h1
      · rw [e] at h2; omega
      · exact h1
  refine ⟨h.rng, ?_, ?_, ?_, ?_, h.unv, hsort2.2, fun p hp => ⟨hrb p hp, (h.wsub p (List.mem_cons_of_mem _ hp)).2⟩, hs.2, ?_, h.edg, ?_, ?_, ?_, ?_, ?_, ?_, ?_⟩
  · intro x hx
    rw [hcb x hx]; exact h.stk_in x (hbot x hx)
  · intro x hx
    by_cases e : x ∈ seg ∨ x = v
    · have a := h.stk_in x (hS x e).1
      exact ⟨a.1, a.2.1, by rw [hc1 x e]; omega, hpeS x e⟩
    · rw [hc2 x e] at hx ⊢
      have := h.plc x hx
      exact ⟨this.1, this.2.1, by omega, this.2.2.2⟩
  · intro x hx
    by_cases e : x ∈ seg ∨ x = v
    · rw [hc1 x e] at hx; omega
    · rw [hc2 x e] at hx ⊢; exact h.cneg x hx
  · intro x hx hox
    rcases h.vis x hx hox with hm | hm
    · by_cases e : x ∈ seg ∨ x = v
      · right; rw [hc1 x e]; omega
      · left
        rcases List.mem_append.1 hm with hm | hm
        · exact absurd (Or.inl hm) e
        · rcases List.mem_cons.1 hm with e' | hm
          · exact absurd (Or.inr e') e
          · exact hm
    · right; rw [hc2 x (hnotS x hm)]; exact hm
  · intro x hx hxn
    exact h.fin x (hbot x hx) (fun hm => by
      rcases List.mem_cons.1 hm with e | hm
      · exact hnb x hx (Or.inr e)
      · exact hxn hm)
  · intro x hx k hk
    by_cases e : x ∈ seg ∨ x = v
    · have hxs := hS x e
      have hxi := h.stk_in x hxs.1
      have hvis := h.edg x k hxi.1 (by rw [hpeS x e]; exact hk)
      rw [hc1 x e]
      rcases h.vis (tgt x k) (h.rng x k hxi.1 hk) hvis with hm | hm
      · have h1 := h.lowe x k hxs.1 (by rw [hpeS x e]; exact hk) hm
        have h2 := h.i7 v x List.mem_cons_self hxs.1 hxs.2 (fun q hqm => by
          rcases List.mem_cons.1 hqm with e | hqm
          · rw [e]; exact Or.inl (Int.le_refl _)
          · have := hs.1 q hqm; left; omega)
        have := hc1 _ (hS' _ hm (by omega))
        rw [this]; omega
      · rw [hc2 _ (hnotS _ hm)]
        have := (h.plc _ hm).2.2.1
        omega
    · rw [hc2 x e] at hx ⊢
      have := h.cls x hx k hk
      rw [hc2 _ (hnotS _ this.1)]
      exact this
  · intro x k hx hk ht
    exact h.lowe x k (hbot x hx) hk (hbot _ ht)
  · intro x hx
    obtain ⟨a, y, hy, e, r⟩ := h.lows x (hbot x hx)
    refine ⟨a, y, ?_, e, r⟩
    have := hbo x hx
    rcases List.mem_append.1 hy with hy | hy
    · have := hseg y hy; omega
    · rcases List.mem_cons.1 hy with e' | hy
      · rw [e'] at e; omega
      · exact hy
  · intro p x hp hx hpx hq
    exact h.i7 p x (List.mem_cons_of_mem _ hp) (hbot x hx) hpx (fun q hqm => by
      rcases List.mem_cons.1 hqm with e | hqm
      · rw [e]; exact Or.inr (hbo x hx)
      · exact hq q hqm)
  · intro p x hp hx hpx
    exact h.i4 p x (List.mem_cons_of_mem _ hp) (hbot x hx) hpx
  · intro x hx
    obtain ⟨p, hp, hpx⟩ := h.i9 x (hbot x hx)
    have := hbo x hx
    rcases List.mem_cons.1 hp with e | hp
    · rw [e] at hpx; omega
    · exact ⟨p, hp, hpx⟩
  · intro x y hx hxy
    by_cases e1 : x ∈ seg ∨ x = v <;> by_cases e2 : y ∈ seg ∨ y = v
    · exact (h.home hlow _ x rfl (hS x e1).1 (hS x e1).2).trans (h.i4 v y List.mem_cons_self (hS y e2).1 (hS y e2).2)
    · rw [hc1 x e1, hc2 y e2] at hxy
      have := (h.plc y (by omega)).2.2.1
      omega
    · rw [hc2 x e1, hc1 y e2] at hxy
      rw [hc2 x e1] at hx
      have := (h.plc x hx).2.2.1
      omega
    · rw [hc2 x e1] at hx hxy
      rw [hc2 y e2] at hxy
      exact h.scc x y hx hxy
end
end Go.Proofs.Qxb6604011a.Scc
