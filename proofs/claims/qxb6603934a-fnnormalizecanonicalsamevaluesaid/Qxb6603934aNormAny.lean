import Derived.Test.Qxb6603934aNormRead
import Derived.Test.Qxb6603934aNormZz
import Derived.Test.Qxb6603934aNormIdem
namespace Go.Proofs.Qxb6603934a.Norm
open Go.RowKit Go.Deep

/-- Limbs of the call's own, from block B on; or none at all. -/
def Own (w : World) (B : Nat) (v : Value) (n : Nat) (f : Nat → Int) : Prop :=
  (v = .slice none 0 0 ∧ n = 0) ∨ (∃ g, v = .slice (some ⟨g, 0, none⟩) n n ∧ B ≤ g ∧ Arr w g 2 n n (fun i => .int .i64 (f i)))

theorem Own.reads {w : World} {B : Nat} {v : Value} {n : Nat} {f : Nat → Int} (h : Own w B v n f) : Reads .i64 w v n f := by
  rcases h with ⟨rfl, rfl⟩ | ⟨g, rfl, _, hA⟩
  · exact Reads_nil _ _ _
  · have := hA.reads 0 n n (by omega)
    simpa using this

/-- A slice that is nil, or not. -/
def nilB : Value → Bool
  | .slice ao _ _ => ao.isNone
  | _ => false

theorem clone_any (v : Value) (n : Nat) (f : Nat → Int) (w : World) (hr : Reads .i64 w v n f) (hl : n ≤ 1048576) :
    Calls Try.prog 18 #[v] w fun e w' => ∃ v', e = .returned v' ∧ Own w' w.heap.size v' n f ∧ nilB v' = nilB v ∧ Below w.heap.size w w' := by
  have hr' := hr
  obtain ⟨ao, cap, rfl, hnone, _⟩ := hr'
  cases ao with
  | none =>
    obtain ⟨rfl, rfl⟩ := hnone rfl
    refine (clone_nil w).mono ?_
    rintro e w' ⟨rfl, rfl⟩
    exact ⟨_, rfl, Or.inl ⟨rfl, rfl⟩, rfl, Below.refl _ _⟩
  | some a =>
    refine (clone_some w a n cap f hr hl).mono ?_
    rintro e w' ⟨rfl, hA, hB, _⟩
    exact ⟨_, rfl, Or.inr ⟨w.heap.size, rfl, Nat.le_refl _, hA⟩, rfl, hB⟩

/-- What comes out of ZZnormalize, something pending: n2 limbs f2 at outLow. -/
structure OutN (f : Nat → Int) (n : Nat) (low : Int) (B : Nat) (w' : World) (out : Value) (outLow : Int) (n2 : Nat) (f2 : Nat → Int) : Prop where
  reads : Reads .i64 w' out n2 f2
  nr : ∃ N F3 F L, NR f n N F3 F L ∧ n2 = L - F ∧ (f2 = fun i => F3 (F + i)) ∧
    ((F = L ∧ out = .slice none 0 0 ∧ outLow = 0) ∨ (F < L ∧ outLow = low + F ∧ ∃ g' c, out = .slice (some ⟨g', F, none⟩) (L - F) c ∧ B ≤ g'))

theorem zz_any (v : Value) (n : Nat) (f : Nat → Int) (low pend : Int) (w : World) (B : Nat) (hB : B ≤ w.heap.size) (ho : Own w B v n f) (hf : ∀ i, i < n → -4611686018427387904 ≤ f i ∧ f i ≤ 4611686018427387904)
    (hn : n ≤ 200000) (hlow : -2147483648 ≤ low ∧ low ≤ 2147483648) (hp : (pend == 0) = false) :
    Calls Try.prog 19 #[v, .int .i64 low, .int .i64 pend] w fun e w' => ∃ out outLow n2 f2, e = .returned (.tuple #[out, .int .i64 outLow, .int .i64 0]) ∧ OutN f n low B w' out outLow n2 f2 ∧ w.grownBy w' v.ownBlock := by
  rcases ho with ⟨rfl, rfl⟩ | ⟨g, rfl, hg, hA⟩
  · refine (zz_nil w w.heap.size f low pend hlow hp).mono ?_
    rintro e w' ⟨N, F3, F, L, hNR, hK, h⟩
    have hFL := hNR.zero rfl
    subst hFL
    rcases h with ⟨_, rfl⟩ | ⟨h, _⟩
    · exact ⟨_, _, 0, fun i => F3 (F + i), rfl, ⟨Reads_nil _ _ _, N, F3, F, F, hNR, by omega, rfl, Or.inl ⟨rfl, rfl, rfl⟩⟩, ⟨hK.os, hK.tape, hK.output, hK.size, fun k hk _ => hK.block k hk (by omega) (by omega)⟩⟩
    · omega
  · refine (zz_some w g n n f low pend hA (by unfold maxLen; omega) hf hn hlow hp).mono ?_
    rintro e w' ⟨N, F3, F, L, hNR, hK, h⟩
    have hG : w.grownBy w' (Value.ownBlock (.slice (some ⟨g, 0, none⟩) n n)) := ⟨hK.os, hK.tape, hK.output, hK.size, fun k hk hne => hK.block k hk (by omega) (fun e => hne (by rw [e]; rfl))⟩
    rcases h with ⟨hFL, rfl⟩ | ⟨hFL, g', cap', hg', hA', rfl⟩
    · exact ⟨_, _, 0, fun i => F3 (F + i), rfl, ⟨Reads_nil _ _ _, N, F3, F, L, hNR, by omega, rfl, Or.inl ⟨hFL, rfl, rfl⟩⟩, hG⟩
    · refine ⟨_, _, L - F, fun i => F3 (F + i), rfl, ⟨hA'.reads F (L - F) (cap' - F) (by have := hNR.ln; omega), N, F3, F, L, hNR, rfl, rfl, Or.inr ⟨hFL, rfl, g', _, rfl, ?_⟩⟩, hG⟩
      rcases hg' with rfl | h
      · exact hg
      · omega

theorem own_block {w : World} {B : Nat} {v : Value} {n : Nat} {f : Nat → Int} (h : Own w B v n f) : ∀ k, v.ownBlock = some k → B ≤ k := by
  rcases h with ⟨rfl, rfl⟩ | ⟨g, rfl, hg, _⟩
  · intro k hk; simp [Value.ownBlock] at hk
  · intro k hk; simp [Value.ownBlock] at hk; omega
theorem below_of_grown {w w' : World} {B : Nat} {v : Value} {n : Nat} {f : Nat → Int} (h : Own w B v n f) (hB : B ≤ w.heap.size) (hg : w.grownBy w' v.ownBlock) : Below B w w' :=
  (Below.refl _ _).grown hg hB (own_block h)
end Go.Proofs.Qxb6603934a.Norm
