import Derived.Test.Qxb6603934aRows
import Derived.WalkKit
import Derived.WalkSpells
import Derived.WalkLawsBesides
import Derived.PlainAid
import Derived.Handy
import Derived.Test.Qxb6603934aCutPlain
namespace Go.Proofs.Qxb6603934a.Cut
open Go.RowKit Go.PlainAid Go.Proofs.Qxb6603934a.Scan

/-- The digits that write m, from 0 to 999. -/
def digsOf (m : Int) : List Int := if 100 ≤ m then [48 + m / 100, 48 + m / 10 % 10, 48 + m % 10] else if 10 ≤ m then [48 + m / 10 % 10, 48 + m % 10] else [48 + m % 10]
/-- What zzExponentText writes. -/
def expText (k : Int) (upper plus : Bool) : List Int :=
  (if upper then 69 else 101) :: ((if k < 0 then [45] else if plus then [43] else []) ++ digsOf (if k < 0 then -k else k))

def Wrote (k : Int) (upper plus : Bool) (w : World) (e : Ending) (w' : World) : Prop :=
  e = .returned (.string (strOfNums (expText k upper plus))) ∧ Grown w w'

set_option maxRecDepth 100000 in
set_option maxHeartbeats 1000000 in
theorem text_u_neg_1 (m : Int) (plus : Bool) (w : World) (h1 : 0 < m) (h2 : m < 10) : Calls Try.prog 12 #[.int .i32 (-m), .bool true, .bool plus] w (Wrote (-m) true plus w) := by
  have hmk : ∀ w : World, (Instr.makeSlice 38 (.int .i64 0) (.int .i64 5)).run Try.prog w = .ok (.slice (some ⟨w.heap.size, 0, none⟩) 0 5) (w.alloc (.cells #[.int .u8 0, .int .u8 0, .int .u8 0, .int .u8 0, .int .u8 0] 5)) := fun _ => by kernel_rfl
  have hk : -m < 0 := by omega
  have hT : Hid (expText (-m) true plus = [69, 45, 48 + m % 10]) := by
    show expText (-m) true plus = [69, 45, 48 + m % 10]
    unfold expText digsOf
    simp only [hk, if_true, Int.neg_neg]
    rw [if_neg (by omega), if_neg (by omega)]
    rfl
  go_enter Try.func12, Try.ntmps12
  go_wp2
  rw [run_convert_bytes_arg _ 38 5 Try.underlying38 Try.underlying5 w.heap.size 0 3 5 [69, 45, 48 + m % 10] rfl ?hc 9 Try.underlying9]
  case hc =>
    intro i hi
    match i, hi with
    | 0, _ => go_simp
    | 1, _ => go_simp
    | 2, _ => go_simp
  go_wp2
  go_ret
  exact ⟨by rw [hT.out]; rfl, by repeat (first | exact Grown.refl _ | apply Grown.drew | apply Grown.alloc)⟩

set_option maxRecDepth 100000 in
set_option maxHeartbeats 1000000 in
theorem text_u_neg_2 (m : Int) (plus : Bool) (w : World) (h1 : 10 ≤ m) (h2 : m < 100) : Calls Try.prog 12 #[.int .i32 (-m), .bool true, .bool plus] w (Wrote (-m) true plus w) := by
  have hmk : ∀ w : World, (Instr.makeSlice 38 (.int .i64 0) (.int .i64 5)).run Try.prog w = .ok (.slice (some ⟨w.heap.size, 0, none⟩) 0 5) (w.alloc (.cells #[.int .u8 0, .int .u8 0, .int .u8 0, .int .u8 0, .int .u8 0] 5)) := fun _ => by kernel_rfl
  have hk : -m < 0 := by omega
  have hT : Hid (expText (-m) true plus = [69, 45, 48 + m / 10 % 10, 48 + m % 10]) := by
    show expText (-m) true plus = [69, 45, 48 + m / 10 % 10, 48 + m % 10]
    unfold expText digsOf
    simp only [hk, if_true, Int.neg_neg]
    rw [if_neg (by omega), if_pos (by omega)]
    rfl
  go_enter Try.func12, Try.ntmps12
  go_wp2
  rw [run_convert_bytes_arg _ 38 5 Try.underlying38 Try.underlying5 w.heap.size 0 4 5 [69, 45, 48 + m / 10 % 10, 48 + m % 10] rfl ?hc 9 Try.underlying9]
  case hc =>
    intro i hi
    match i, hi with
    | 0, _ => go_simp
    | 1, _ => go_simp
    | 2, _ => go_simp
    | 3, _ => go_simp
  go_wp2
  go_ret
  exact ⟨by rw [hT.out]; rfl, by repeat (first | exact Grown.refl _ | apply Grown.drew | apply Grown.alloc)⟩

set_option maxRecDepth 100000 in
set_option maxHeartbeats 1000000 in
theorem text_u_neg_3 (m : Int) (plus : Bool) (w : World) (h1 : 100 ≤ m) (h2 : m ≤ 999) : Calls Try.prog 12 #[.int .i32 (-m), .bool true, .bool plus] w (Wrote (-m) true plus w) := by
  have hmk : ∀ w : World, (Instr.makeSlice 38 (.int .i64 0) (.int .i64 5)).run Try.prog w = .ok (.slice (some ⟨w.heap.size, 0, none⟩) 0 5) (w.alloc (.cells #[.int .u8 0, .int .u8 0, .int .u8 0, .int .u8 0, .int .u8 0] 5)) := fun _ => by kernel_rfl
  have hk : -m < 0 := by omega
  have hT : Hid (expText (-m) true plus = [69, 45, 48 + m / 100, 48 + m / 10 % 10, 48 + m % 10]) := by
    show expText (-m) true plus = [69, 45, 48 + m / 100, 48 + m / 10 % 10, 48 + m % 10]
    unfold expText digsOf
    simp only [hk, if_true, Int.neg_neg]
    rw [if_pos (by omega)]
    rfl
  go_enter Try.func12, Try.ntmps12
  go_wp2
  rw [run_convert_bytes_arg _ 38 5 Try.underlying38 Try.underlying5 w.heap.size 0 5 5 [69, 45, 48 + m / 100, 48 + m / 10 % 10, 48 + m % 10] rfl ?hc 9 Try.underlying9]
  case hc =>
    intro i hi
    match i, hi with
    | 0, _ => go_simp
    | 1, _ => go_simp
    | 2, _ => go_simp
    | 3, _ => go_simp
    | 4, _ => go_simp
  go_wp2
  go_ret
  exact ⟨by rw [hT.out]; rfl, by repeat (first | exact Grown.refl _ | apply Grown.drew | apply Grown.alloc)⟩

set_option maxRecDepth 100000 in
set_option maxHeartbeats 1000000 in
theorem text_u_plus_1 (k : Int) (w : World) (h1 : 0 ≤ k) (h2 : k < 10) : Calls Try.prog 12 #[.int .i32 k, .bool true, .bool true] w (Wrote k true true w) := by
  have hmk : ∀ w : World, (Instr.makeSlice 38 (.int .i64 0) (.int .i64 5)).run Try.prog w = .ok (.slice (some ⟨w.heap.size, 0, none⟩) 0 5) (w.alloc (.cells #[.int .u8 0, .int .u8 0, .int .u8 0, .int .u8 0, .int .u8 0] 5)) := fun _ => by kernel_rfl
  have hk : ¬ k < 0 := by omega
  have hT : Hid (expText k true true = [69, 43, 48 + k % 10]) := by
    show expText k true true = [69, 43, 48 + k % 10]
    unfold expText digsOf
    simp only [hk, if_true, if_false]
    rw [if_neg (by omega), if_neg (by omega)]
    rfl
  go_enter Try.func12, Try.ntmps12
  go_wp2
  rw [run_convert_bytes_arg _ 38 5 Try.underlying38 Try.underlying5 w.heap.size 0 3 5 [69, 43, 48 + k % 10] rfl ?hc 9 Try.underlying9]
  case hc =>
    intro i hi
    match i, hi with
    | 0, _ => go_simp
    | 1, _ => go_simp
    | 2, _ => go_simp
  go_wp2
  go_ret
  exact ⟨by rw [hT.out]; rfl, by repeat (first | exact Grown.refl _ | apply Grown.drew | apply Grown.alloc)⟩

set_option maxRecDepth 100000 in
set_option maxHeartbeats 1000000 in
theorem text_u_plus_2 (k : Int) (w : World) (h1 : 10 ≤ k) (h2 : k < 100) : Calls Try.prog 12 #[.int .i32 k, .bool true, .bool true] w (Wrote k true true w) := by
  have hmk : ∀ w : World, (Instr.makeSlice 38 (.int .i64 0) (.int .i64 5)).run Try.prog w = .ok (.slice (some ⟨w.heap.size, 0, none⟩) 0 5) (w.alloc (.cells #[.int .u8 0, .int .u8 0, .int .u8 0, .int .u8 0, .int .u8 0] 5)) := fun _ => by kernel_rfl
  have hk : ¬ k < 0 := by omega
  have hT : Hid (expText k true true = [69, 43, 48 + k / 10 % 10, 48 + k % 10]) := by
    show expText k true true = [69, 43, 48 + k / 10 % 10, 48 + k % 10]
    unfold expText digsOf
    simp only [hk, if_true, if_false]
    rw [if_neg (by omega), if_pos (by omega)]
    rfl
  go_enter Try.func12, Try.ntmps12
  go_wp2
  rw [run_convert_bytes_arg _ 38 5 Try.underlying38 Try.underlying5 w.heap.size 0 4 5 [69, 43, 48 + k / 10 % 10, 48 + k % 10] rfl ?hc 9 Try.underlying9]
  case hc =>
    intro i hi
    match i, hi with
    | 0, _ => go_simp
    | 1, _ => go_simp
    | 2, _ => go_simp
    | 3, _ => go_simp
  go_wp2
  go_ret
  exact ⟨by rw [hT.out]; rfl, by repeat (first | exact Grown.refl _ | apply Grown.drew | apply Grown.alloc)⟩

set_option maxRecDepth 100000 in
set_option maxHeartbeats 1000000 in
theorem text_u_plus_3 (k : Int) (w : World) (h1 : 100 ≤ k) (h2 : k ≤ 999) : Calls Try.prog 12 #[.int .i32 k, .bool true, .bool true] w (Wrote k true true w) := by
  have hmk : ∀ w : World, (Instr.makeSlice 38 (.int .i64 0) (.int .i64 5)).run Try.prog w = .ok (.slice (some ⟨w.heap.size, 0, none⟩) 0 5) (w.alloc (.cells #[.int .u8 0, .int .u8 0, .int .u8 0, .int .u8 0, .int .u8 0] 5)) := fun _ => by kernel_rfl
  have hk : ¬ k < 0 := by omega
  have hT : Hid (expText k true true = [69, 43, 48 + k / 100, 48 + k / 10 % 10, 48 + k % 10]) := by
    show expText k true true = [69, 43, 48 + k / 100, 48 + k / 10 % 10, 48 + k % 10]
    unfold expText digsOf
    simp only [hk, if_true, if_false]
    rw [if_pos (by omega)]
    rfl
  go_enter Try.func12, Try.ntmps12
  go_wp2
  rw [run_convert_bytes_arg _ 38 5 Try.underlying38 Try.underlying5 w.heap.size 0 5 5 [69, 43, 48 + k / 100, 48 + k / 10 % 10, 48 + k % 10] rfl ?hc 9 Try.underlying9]
  case hc =>
    intro i hi
    match i, hi with
    | 0, _ => go_simp
    | 1, _ => go_simp
    | 2, _ => go_simp
    | 3, _ => go_simp
    | 4, _ => go_simp
  go_wp2
  go_ret
  exact ⟨by rw [hT.out]; rfl, by repeat (first | exact Grown.refl _ | apply Grown.drew | apply Grown.alloc)⟩

set_option maxRecDepth 100000 in
set_option maxHeartbeats 1000000 in
theorem text_u_bare_1 (k : Int) (w : World) (h1 : 0 ≤ k) (h2 : k < 10) : Calls Try.prog 12 #[.int .i32 k, .bool true, .bool false] w (Wrote k true false w) := by
  have hmk : ∀ w : World, (Instr.makeSlice 38 (.int .i64 0) (.int .i64 5)).run Try.prog w = .ok (.slice (some ⟨w.heap.size, 0, none⟩) 0 5) (w.alloc (.cells #[.int .u8 0, .int .u8 0, .int .u8 0, .int .u8 0, .int .u8 0] 5)) := fun _ => by kernel_rfl
  have hk : ¬ k < 0 := by omega
  have hT : Hid (expText k true false = [69, 48 + k % 10]) := by
    show expText k true false = [69, 48 + k % 10]
    unfold expText digsOf
    simp only [hk, if_true, if_false, Bool.false_eq_true]
    rw [if_neg (by omega), if_neg (by omega)]
    rfl
  go_enter Try.func12, Try.ntmps12
  go_wp2
  rw [run_convert_bytes_arg _ 38 5 Try.underlying38 Try.underlying5 w.heap.size 0 2 5 [69, 48 + k % 10] rfl ?hc 9 Try.underlying9]
  case hc =>
    intro i hi
    match i, hi with
    | 0, _ => go_simp
    | 1, _ => go_simp
  go_wp2
  go_ret
  exact ⟨by rw [hT.out]; rfl, by repeat (first | exact Grown.refl _ | apply Grown.drew | apply Grown.alloc)⟩

set_option maxRecDepth 100000 in
set_option maxHeartbeats 1000000 in
theorem text_u_bare_2 (k : Int) (w : World) (h1 : 10 ≤ k) (h2 : k < 100) : Calls Try.prog 12 #[.int .i32 k, .bool true, .bool false] w (Wrote k true false w) := by
  have hmk : ∀ w : World, (Instr.makeSlice 38 (.int .i64 0) (.int .i64 5)).run Try.prog w = .ok (.slice (some ⟨w.heap.size, 0, none⟩) 0 5) (w.alloc (.cells #[.int .u8 0, .int .u8 0, .int .u8 0, .int .u8 0, .int .u8 0] 5)) := fun _ => by kernel_rfl
  have hk : ¬ k < 0 := by omega
  have hT : Hid (expText k true false = [69, 48 + k / 10 % 10, 48 + k % 10]) := by
    show expText k true false = [69, 48 + k / 10 % 10, 48 + k % 10]
    unfold expText digsOf
    simp only [hk, if_true, if_false, Bool.false_eq_true]
    rw [if_neg (by omega), if_pos (by omega)]
    rfl
  go_enter Try.func12, Try.ntmps12
  go_wp2
  rw [run_convert_bytes_arg _ 38 5 Try.underlying38 Try.underlying5 w.heap.size 0 3 5 [69, 48 + k / 10 % 10, 48 + k % 10] rfl ?hc 9 Try.underlying9]
  case hc =>
    intro i hi
    match i, hi with
    | 0, _ => go_simp
    | 1, _ => go_simp
    | 2, _ => go_simp
  go_wp2
  go_ret
  exact ⟨by rw [hT.out]; rfl, by repeat (first | exact Grown.refl _ | apply Grown.drew | apply Grown.alloc)⟩

set_option maxRecDepth 100000 in
set_option maxHeartbeats 1000000 in
theorem text_u_bare_3 (k : Int) (w : World) (h1 : 100 ≤ k) (h2 : k ≤ 999) : Calls Try.prog 12 #[.int .i32 k, .bool true, .bool false] w (Wrote k true false w) := by
  have hmk : ∀ w : World, (Instr.makeSlice 38 (.int .i64 0) (.int .i64 5)).run Try.prog w = .ok (.slice (some ⟨w.heap.size, 0, none⟩) 0 5) (w.alloc (.cells #[.int .u8 0, .int .u8 0, .int .u8 0, .int .u8 0, .int .u8 0] 5)) := fun _ => by kernel_rfl
  have hk : ¬ k < 0 := by omega
  have hT : Hid (expText k true false = [69, 48 + k / 100, 48 + k / 10 % 10, 48 + k % 10]) := by
    show expText k true false = [69, 48 + k / 100, 48 + k / 10 % 10, 48 + k % 10]
    unfold expText digsOf
    simp only [hk, if_true, if_false, Bool.false_eq_true]
    rw [if_pos (by omega)]
    rfl
  go_enter Try.func12, Try.ntmps12
  go_wp2
  rw [run_convert_bytes_arg _ 38 5 Try.underlying38 Try.underlying5 w.heap.size 0 4 5 [69, 48 + k / 100, 48 + k / 10 % 10, 48 + k % 10] rfl ?hc 9 Try.underlying9]
  case hc =>
    intro i hi
    match i, hi with
    | 0, _ => go_simp
    | 1, _ => go_simp
    | 2, _ => go_simp
    | 3, _ => go_simp
  go_wp2
  go_ret
  exact ⟨by rw [hT.out]; rfl, by repeat (first | exact Grown.refl _ | apply Grown.drew | apply Grown.alloc)⟩

set_option maxRecDepth 100000 in
set_option maxHeartbeats 1000000 in
theorem text_l_neg_1 (m : Int) (plus : Bool) (w : World) (h1 : 0 < m) (h2 : m < 10) : Calls Try.prog 12 #[.int .i32 (-m), .bool false, .bool plus] w (Wrote (-m) false plus w) := by
  have hmk : ∀ w : World, (Instr.makeSlice 38 (.int .i64 0) (.int .i64 5)).run Try.prog w = .ok (.slice (some ⟨w.heap.size, 0, none⟩) 0 5) (w.alloc (.cells #[.int .u8 0, .int .u8 0, .int .u8 0, .int .u8 0, .int .u8 0] 5)) := fun _ => by kernel_rfl
  have hk : -m < 0 := by omega
  have hT : Hid (expText (-m) false plus = [101, 45, 48 + m % 10]) := by
    show expText (-m) false plus = [101, 45, 48 + m % 10]
    unfold expText digsOf
    simp only [hk, if_true, if_false, Int.neg_neg, Bool.false_eq_true]
    rw [if_neg (by omega), if_neg (by omega)]
    rfl
  go_enter Try.func12, Try.ntmps12
  go_wp2
  rw [run_convert_bytes_arg _ 38 5 Try.underlying38 Try.underlying5 w.heap.size 0 3 5 [101, 45, 48 + m % 10] rfl ?hc 9 Try.underlying9]
  case hc =>
    intro i hi
    match i, hi with
    | 0, _ => go_simp
    | 1, _ => go_simp
    | 2, _ => go_simp
  go_wp2
  go_ret
  exact ⟨by rw [hT.out]; rfl, by repeat (first | exact Grown.refl _ | apply Grown.drew | apply Grown.alloc)⟩

set_option maxRecDepth 100000 in
set_option maxHeartbeats 1000000 in
theorem text_l_neg_2 (m : Int) (plus : Bool) (w : World) (h1 : 10 ≤ m) (h2 : m < 100) : Calls Try.prog 12 #[.int .i32 (-m), .bool false, .bool plus] w (Wrote (-m) false plus w) := by
  have hmk : ∀ w : World, (Instr.makeSlice 38 (.int .i64 0) (.int .i64 5)).run Try.prog w = .ok (.slice (some ⟨w.heap.size, 0, none⟩) 0 5) (w.alloc (.cells #[.int .u8 0, .int .u8 0, .int .u8 0, .int .u8 0, .int .u8 0] 5)) := fun _ => by kernel_rfl
  have hk : -m < 0 := by omega
  have hT : Hid (expText (-m) false plus = [101, 45, 48 + m / 10 % 10, 48 + m % 10]) := by
    show expText (-m) false plus = [101, 45, 48 + m / 10 % 10, 48 + m % 10]
    unfold expText digsOf
    simp only [hk, if_true, if_false, Int.neg_neg, Bool.false_eq_true]
    rw [if_neg (by omega), if_pos (by omega)]
    rfl
  go_enter Try.func12, Try.ntmps12
  go_wp2
  rw [run_convert_bytes_arg _ 38 5 Try.underlying38 Try.underlying5 w.heap.size 0 4 5 [101, 45, 48 + m / 10 % 10, 48 + m % 10] rfl ?hc 9 Try.underlying9]
  case hc =>
    intro i hi
    match i, hi with
    | 0, _ => go_simp
    | 1, _ => go_simp
    | 2, _ => go_simp
    | 3, _ => go_simp
  go_wp2
  go_ret
  exact ⟨by rw [hT.out]; rfl, by repeat (first | exact Grown.refl _ | apply Grown.drew | apply Grown.alloc)⟩

set_option maxRecDepth 100000 in
set_option maxHeartbeats 1000000 in
theorem text_l_neg_3 (m : Int) (plus : Bool) (w : World) (h1 : 100 ≤ m) (h2 : m ≤ 999) : Calls Try.prog 12 #[.int .i32 (-m), .bool false, .bool plus] w (Wrote (-m) false plus w) := by
  have hmk : ∀ w : World, (Instr.makeSlice 38 (.int .i64 0) (.int .i64 5)).run Try.prog w = .ok (.slice (some ⟨w.heap.size, 0, none⟩) 0 5) (w.alloc (.cells #[.int .u8 0, .int .u8 0, .int .u8 0, .int .u8 0, .int .u8 0] 5)) := fun _ => by kernel_rfl
  have hk : -m < 0 := by omega
  have hT : Hid (expText (-m) false plus = [101, 45, 48 + m / 100, 48 + m / 10 % 10, 48 + m % 10]) := by
    show expText (-m) false plus = [101, 45, 48 + m / 100, 48 + m / 10 % 10, 48 + m % 10]
    unfold expText digsOf
    simp only [hk, if_true, if_false, Int.neg_neg, Bool.false_eq_true]
    rw [if_pos (by omega)]
    rfl
  go_enter Try.func12, Try.ntmps12
  go_wp2
  rw [run_convert_bytes_arg _ 38 5 Try.underlying38 Try.underlying5 w.heap.size 0 5 5 [101, 45, 48 + m / 100, 48 + m / 10 % 10, 48 + m % 10] rfl ?hc 9 Try.underlying9]
  case hc =>
    intro i hi
    match i, hi with
    | 0, _ => go_simp
    | 1, _ => go_simp
    | 2, _ => go_simp
    | 3, _ => go_simp
    | 4, _ => go_simp
  go_wp2
  go_ret
  exact ⟨by rw [hT.out]; rfl, by repeat (first | exact Grown.refl _ | apply Grown.drew | apply Grown.alloc)⟩

set_option maxRecDepth 100000 in
set_option maxHeartbeats 1000000 in
theorem text_l_plus_1 (k : Int) (w : World) (h1 : 0 ≤ k) (h2 : k < 10) : Calls Try.prog 12 #[.int .i32 k, .bool false, .bool true] w (Wrote k false true w) := by
  have hmk : ∀ w : World, (Instr.makeSlice 38 (.int .i64 0) (.int .i64 5)).run Try.prog w = .ok (.slice (some ⟨w.heap.size, 0, none⟩) 0 5) (w.alloc (.cells #[.int .u8 0, .int .u8 0, .int .u8 0, .int .u8 0, .int .u8 0] 5)) := fun _ => by kernel_rfl
  have hk : ¬ k < 0 := by omega
  have hT : Hid (expText k false true = [101, 43, 48 + k % 10]) := by
    show expText k false true = [101, 43, 48 + k % 10]
    unfold expText digsOf
    simp only [hk, if_true, if_false, Bool.false_eq_true]
    rw [if_neg (by omega), if_neg (by omega)]
    rfl
  go_enter Try.func12, Try.ntmps12
  go_wp2
  rw [run_convert_bytes_arg _ 38 5 Try.underlying38 Try.underlying5 w.heap.size 0 3 5 [101, 43, 48 + k % 10] rfl ?hc 9 Try.underlying9]
  case hc =>
    intro i hi
    match i, hi with
    | 0, _ => go_simp
    | 1, _ => go_simp
    | 2, _ => go_simp
  go_wp2
  go_ret
  exact ⟨by rw [hT.out]; rfl, by repeat (first | exact Grown.refl _ | apply Grown.drew | apply Grown.alloc)⟩

set_option maxRecDepth 100000 in
set_option maxHeartbeats 1000000 in
theorem text_l_plus_2 (k : Int) (w : World) (h1 : 10 ≤ k) (h2 : k < 100) : Calls Try.prog 12 #[.int .i32 k, .bool false, .bool true] w (Wrote k false true w) := by
  have hmk : ∀ w : World, (Instr.makeSlice 38 (.int .i64 0) (.int .i64 5)).run Try.prog w = .ok (.slice (some ⟨w.heap.size, 0, none⟩) 0 5) (w.alloc (.cells #[.int .u8 0, .int .u8 0, .int .u8 0, .int .u8 0, .int .u8 0] 5)) := fun _ => by kernel_rfl
  have hk : ¬ k < 0 := by omega
  have hT : Hid (expText k false true = [101, 43, 48 + k / 10 % 10, 48 + k % 10]) := by
    show expText k false true = [101, 43, 48 + k / 10 % 10, 48 + k % 10]
    unfold expText digsOf
    simp only [hk, if_true, if_false, Bool.false_eq_true]
    rw [if_neg (by omega), if_pos (by omega)]
    rfl
  go_enter Try.func12, Try.ntmps12
  go_wp2
  rw [run_convert_bytes_arg _ 38 5 Try.underlying38 Try.underlying5 w.heap.size 0 4 5 [101, 43, 48 + k / 10 % 10, 48 + k % 10] rfl ?hc 9 Try.underlying9]
  case hc =>
    intro i hi
    match i, hi with
    | 0, _ => go_simp
    | 1, _ => go_simp
    | 2, _ => go_simp
    | 3, _ => go_simp
  go_wp2
  go_ret
  exact ⟨by rw [hT.out]; rfl, by repeat (first | exact Grown.refl _ | apply Grown.drew | apply Grown.alloc)⟩

set_option maxRecDepth 100000 in
set_option maxHeartbeats 1000000 in
theorem text_l_plus_3 (k : Int) (w : World) (h1 : 100 ≤ k) (h2 : k ≤ 999) : Calls Try.prog 12 #[.int .i32 k, .bool false, .bool true] w (Wrote k false true w) := by
  have hmk : ∀ w : World, (Instr.makeSlice 38 (.int .i64 0) (.int .i64 5)).run Try.prog w = .ok (.slice (some ⟨w.heap.size, 0, none⟩) 0 5) (w.alloc (.cells #[.int .u8 0, .int .u8 0, .int .u8 0, .int .u8 0, .int .u8 0] 5)) := fun _ => by kernel_rfl
  have hk : ¬ k < 0 := by omega
  have hT : Hid (expText k false true = [101, 43, 48 + k / 100, 48 + k / 10 % 10, 48 + k % 10]) := by
    show expText k false true = [101, 43, 48 + k / 100, 48 + k / 10 % 10, 48 + k % 10]
    unfold expText digsOf
    simp only [hk, if_true, if_false, Bool.false_eq_true]
    rw [if_pos (by omega)]
    rfl
  go_enter Try.func12, Try.ntmps12
  go_wp2
  rw [run_convert_bytes_arg _ 38 5 Try.underlying38 Try.underlying5 w.heap.size 0 5 5 [101, 43, 48 + k / 100, 48 + k / 10 % 10, 48 + k % 10] rfl ?hc 9 Try.underlying9]
  case hc =>
    intro i hi
    match i, hi with
    | 0, _ => go_simp
    | 1, _ => go_simp
    | 2, _ => go_simp
    | 3, _ => go_simp
    | 4, _ => go_simp
  go_wp2
  go_ret
  exact ⟨by rw [hT.out]; rfl, by repeat (first | exact Grown.refl _ | apply Grown.drew | apply Grown.alloc)⟩

set_option maxRecDepth 100000 in
set_option maxHeartbeats 1000000 in
theorem text_l_bare_1 (k : Int) (w : World) (h1 : 0 ≤ k) (h2 : k < 10) : Calls Try.prog 12 #[.int .i32 k, .bool false, .bool false] w (Wrote k false false w) := by
  have hmk : ∀ w : World, (Instr.makeSlice 38 (.int .i64 0) (.int .i64 5)).run Try.prog w = .ok (.slice (some ⟨w.heap.size, 0, none⟩) 0 5) (w.alloc (.cells #[.int .u8 0, .int .u8 0, .int .u8 0, .int .u8 0, .int .u8 0] 5)) := fun _ => by kernel_rfl
  have hk : ¬ k < 0 := by omega
  have hT : Hid (expText k false false = [101, 48 + k % 10]) := by
    show expText k false false = [101, 48 + k % 10]
    unfold expText digsOf
    simp only [hk, if_false, Bool.false_eq_true]
    rw [if_neg (by omega), if_neg (by omega)]
    rfl
  go_enter Try.func12, Try.ntmps12
  go_wp2
  rw [run_convert_bytes_arg _ 38 5 Try.underlying38 Try.underlying5 w.heap.size 0 2 5 [101, 48 + k % 10] rfl ?hc 9 Try.underlying9]
  case hc =>
    intro i hi
    match i, hi with
    | 0, _ => go_simp
    | 1, _ => go_simp
  go_wp2
  go_ret
  exact ⟨by rw [hT.out]; rfl, by repeat (first | exact Grown.refl _ | apply Grown.drew | apply Grown.alloc)⟩

set_option maxRecDepth 100000 in
set_option maxHeartbeats 1000000 in
theorem text_l_bare_2 (k : Int) (w : World) (h1 : 10 ≤ k) (h2 : k < 100) : Calls Try.prog 12 #[.int .i32 k, .bool false, .bool false] w (Wrote k false false w) := by
  have hmk : ∀ w : World, (Instr.makeSlice 38 (.int .i64 0) (.int .i64 5)).run Try.prog w = .ok (.slice (some ⟨w.heap.size, 0, none⟩) 0 5) (w.alloc (.cells #[.int .u8 0, .int .u8 0, .int .u8 0, .int .u8 0, .int .u8 0] 5)) := fun _ => by kernel_rfl
  have hk : ¬ k < 0 := by omega
  have hT : Hid (expText k false false = [101, 48 + k / 10 % 10, 48 + k % 10]) := by
    show expText k false false = [101, 48 + k / 10 % 10, 48 + k % 10]
    unfold expText digsOf
    simp only [hk, if_false, Bool.false_eq_true]
    rw [if_neg (by omega), if_pos (by omega)]
    rfl
  go_enter Try.func12, Try.ntmps12
  go_wp2
  rw [run_convert_bytes_arg _ 38 5 Try.underlying38 Try.underlying5 w.heap.size 0 3 5 [101, 48 + k / 10 % 10, 48 + k % 10] rfl ?hc 9 Try.underlying9]
  case hc =>
    intro i hi
    match i, hi with
    | 0, _ => go_simp
    | 1, _ => go_simp
    | 2, _ => go_simp
  go_wp2
  go_ret
  exact ⟨by rw [hT.out]; rfl, by repeat (first | exact Grown.refl _ | apply Grown.drew | apply Grown.alloc)⟩

set_option maxRecDepth 100000 in
set_option maxHeartbeats 1000000 in
theorem text_l_bare_3 (k : Int) (w : World) (h1 : 100 ≤ k) (h2 : k ≤ 999) : Calls Try.prog 12 #[.int .i32 k, .bool false, .bool false] w (Wrote k false false w) := by
  have hmk : ∀ w : World, (Instr.makeSlice 38 (.int .i64 0) (.int .i64 5)).run Try.prog w = .ok (.slice (some ⟨w.heap.size, 0, none⟩) 0 5) (w.alloc (.cells #[.int .u8 0, .int .u8 0, .int .u8 0, .int .u8 0, .int .u8 0] 5)) := fun _ => by kernel_rfl
  have hk : ¬ k < 0 := by omega
  have hT : Hid (expText k false false = [101, 48 + k / 100, 48 + k / 10 % 10, 48 + k % 10]) := by
    show expText k false false = [101, 48 + k / 100, 48 + k / 10 % 10, 48 + k % 10]
    unfold expText digsOf
    simp only [hk, if_false, Bool.false_eq_true]
    rw [if_pos (by omega)]
    rfl
  go_enter Try.func12, Try.ntmps12
  go_wp2
  rw [run_convert_bytes_arg _ 38 5 Try.underlying38 Try.underlying5 w.heap.size 0 4 5 [101, 48 + k / 100, 48 + k / 10 % 10, 48 + k % 10] rfl ?hc 9 Try.underlying9]
  case hc =>
    intro i hi
    match i, hi with
    | 0, _ => go_simp
    | 1, _ => go_simp
    | 2, _ => go_simp
    | 3, _ => go_simp
  go_wp2
  go_ret
  exact ⟨by rw [hT.out]; rfl, by repeat (first | exact Grown.refl _ | apply Grown.drew | apply Grown.alloc)⟩

end Go.Proofs.Qxb6603934a.Cut
